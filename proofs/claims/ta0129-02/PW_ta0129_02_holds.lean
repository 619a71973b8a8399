import PyProof.Rows.All
import Wide.All
import OpenK.AllK
import Wide.FinOn
import PySem.Challenge.RW_ta0129_02
set_option Elab.async false
set_option autoImplicit true
set_option genInjectivity false
set_option genSizeOf false
set_option maxRecDepth 1000000
set_option maxHeartbeats 0
set_option linter.unusedVariables false
open PySem renaming Expr→ae,Shared→ah,wpAny_mono→ai,wpAny_bind→ao,Around→aC,wpAny_pure→aL,wpAny_execs_cons→aS,Program→bb,wpAny_holding→bR,DictEntry→c8,wpAny_execs_nil→dJ,wpAny_standAt→dM,Comprehension→d7,wpAny_truthy_bool→f7,OsState→gZ,NameKind→g6,wpAny_assign_Name→g7,wpAny_Return_some→g8,NoneBooked→i8,wpAny_Name→i9,FuncData→jM,wpAny_rule→jN,wpAny_loadName_local→jO,wpAny_list_append_plain→lL,wpAny_Call_method_lateS→lM,wpAny_storeName_local→m8,Arguments→nT,pushCells_keeps→pM,wpAny_loadName_cell→pW,Operator→q0,wpAny_Expr→ri,wpAny_Assign_Name→se,DefRec→tK,codeAny_compStart_list→xt,callWith_type→xu,wpAny_ite_split→xS,wpAny_allTrue_Or_cons→Ac,wpAny_BinOp→A7,wpAny_If→A8,wpAny_loadName_free→DB,Fin→DC,ExceptHandler→DX,call_meets→G4,IsPart→G5,Result→G6,wpAny_call→G8,IsRange→Jx,wpAny_Tuple→N3,wpAny_items_nil→Sp,Keyword→SY,Params→W5,sliceRange_one→W9,wpAny_bindName→Xd,wpAny_sharingNotTold_none→Za,wpAny_comprehension_free→aed,wpAny_ite→aeZ,wpAny_unpackItems_tuple→ae2,TriplesOk→ae4,Builtin→alB,wpAny_isTrue_Compare1→amS,getD_mem→ata,wpAny_storeName_cell→ate,wpAny_of_eq→atf,wpAny_allTrue_Or_nil→atg,wpAny_AugAssign_Name→ati,wordsOf→avJ,wpAny_isTrue_BoolOp→avK
open Option.some renaming inj→af
open Option renaming bind_some→ag,isSome_iff_exists→ay,isNone_iff_eq_none→c6,or→dG,none_or→n9,isSome→pU,map_eq_none_iff→rA,getD_none→Ca,getD_some→Cb,bind→DE,some_or→Hm,isSome_map→aeg,map_some→alD,map_none→alG,or_none→amR
open List renaming length_map→aj,all_eq_true→aw,mem_cons_self→aA,mem_cons_of_mem→aD,length_append→aG,mem_cons→aJ,range→aM,size_toArray→aX,mem_singleton→aY,replicate→bh,getD_eq_getElem?_getD→br,getElem?_eq_getElem→bC,length_cons→bE,map_cons→bJ,length_range→b8,cons_append→cE,contains_iff_mem→cL,mem_range→cQ,append_nil→c9,map_append→da,filter_cons→dq,not_mem_nil→du,range_succ→dR,mem_of_find?_eq_some→d8,length_reverse→d9,flatMap_cons→ec,filter_append→eD,lookup_cons→eF,append_assoc→eT,map_map→eU,getElem?_eq_some_iff→fj,getElem?_toArray→fq,foldl_append→fN,nodup_cons→fP,mem_append→fR,mem_map→fY,length_replicate→gq,drop_eq_getElem_cons→gA,mem_filter→gC,of_mem_zip→gD,mem_of_getElem?→gF,getElem?_map→gG,getElem_mem→ib,range'→iz,eq_nil_of_length_eq_zero→iC,filter_filter→iF,forIn_cons→iN,nil_append→iO,getElem?_eq_none→iV,reverse_cons→i5,length_drop→jm,foldl_cons→kn,getD→kK,filter_cons_of_neg→kL,filter_eq_nil_iff→lg,nodup_append→lh,filter_congr→ll,range'_succ→l7,length_take→l9,isEmpty_iff→me,forIn_nil→pv,zip_cons_cons→pA,exists_cons_of_ne_nil→pC,length→qv,all_cons→qO,sum_cons→qU,take_length→rz,mem_reverse→rB,getElem?_replicate→rC,take_of_length_le→rZ,filter_map→tO,length_filter_le→tU,length_singleton→tW,getElem?_modify→w9,drop_zero→xa,range_eq_range'→xd,map→xf,mem_map_of_mem→xR,filterMap_cons→xT,length_modify→Am,getElem_range→An,drop_length→DV,map_reverse→DW,take_append_of_le_length→G9,getLast?_eq_some_getLast→Hc,length_nil→Hi,find?_some→Hl,find?_cons→Hn,all_append→Hs,drop_drop→Lk,take_left→Lr,getLastD_eq_getLast?→NO,range_succ_eq_map→S2,drop_of_length_le→S7,take_append_drop→W6,sizeOf_lt_of_mem→Xb,mem_of_mem_take→Zb,reverse_reverse→Zc,filter→Zd,getElem?_range→ad5,replicate_succ→ad8,append_toArray→ad9,map_congr_left→aeb,getElem_of_mem→aee,map_eq_nil_iff→aef,take_succ_cons→aej,flatMap_append→aek,findIdx?_cons→ae0,ext_getElem?→alF,map_inj_left→alH,mem_toArray→amP,ext_getElem→amT,flatMap_map→amU,mem_flatMap→amW,map_flatMap→amX,getElem_map→am8,length_set→atj,nodup_nil→avG
open Nat renaming le_trans→aq,lt_of_le_of_lt→bk,eq_of_beq_eq_true→bF,beq→bM,pow_le_pow_right→bO,le_of_ble_eq_true→bQ,ble→bX,le_refl→cf,lt_of_lt_of_le→cw,le_of_lt→cA,mul_le_mul_left→c7,zero_le→dk,lt_trans→dF,mod_lt→dP,lt_irrefl→dS,le_add_right→dZ,lt_succ_self→d6,add→eg,ble_eq_true_of_le→el,ne_of_lt→eA,log2→eG,mul_comm→eW,pow_pos→fg,sub→fT,sub_zero→gM,add_le_add_left→hU,land→ig,pow_add→iD,mul→jc,add_le_add_right→ji,pow_lt_pow_right→jj,zero_add→jA,add_comm→jD,pow→jE,blt→lA,succ→lC,mul_succ→lF,mul_add→mY,div_lt_of_lt_mul→mZ,le_add_left→nW,min_eq_left→nY,testBit_two_pow_mul_add→o9,lt_or_eq_of_le→pL,not_lt→pN,mod_mul_right_div_self→pQ,lt_succ_of_lt→qP,mod→qV,mod_eq_of_lt→rY,mul_zero→tE,sub_le→tJ,le_mul_of_pos_left→tL,sub_add_sub_cancel→tM,beq_refl→tN,testBit_and→tV,sub_le_iff_le_add→uO,eq_of_testBit_eq→xw,mul_le_mul→xy,sub_lt_sub_left→Ab,add_sub_cancel'→Ad,add_assoc→Ak,le_of_succ_le→DD,lt_succ_of_le→DG,mul_one→Ho,add_mul→Hr,div_add_mod→JE,mul_add_mod→JF,div→Ls,blt_eq→NN,mod_two_eq_zero_or_one→NQ,mul_assoc→Sq,le_mul_of_pos_right→S5,add_sub_cancel_left→S6,add_zero→W4,le_of_eq→W7,le_of_succ_le_succ→Xc,pow_succ→Xe,succ_mul→Xh,log2_lt→ad7,le_sub_one_of_lt→aea,mul_le_mul_right→aei,one_mul→ael,div_pos→aem,add_lt_add_left→ae1,mod_mod_of_dvd→alJ,lt_of_le_pred→amQ,mul_left_comm→amZ,zero_lt_succ→as8,min_le_right→atc,succ_ne_zero→ath,succ_le_succ→atk,min_eq_right→atl,div_eq_of_lt→atp,lt_log2_self→atq,not_lt_zero→avH,log2_eq_iff→avN
open Bool renaming and_eq_true→av,false_ne_true→aF,and_eq_true_iff→bZ,not_eq_true'→cW,eq_iff_iff→fe,false_eq_true→kz,noConfusion→l8,or_eq_false_iff→mJ,xor→mK,or_eq_true→m9,not_true→qQ,and_true→N2,and_self→N5
open Int renaming toNat_natCast→aR,natCast_nonneg→bG,fdiv_eq_ediv_of_nonneg→bP,fmod_eq_emod_of_nonneg→cC,natCast_add→ff,ofNat→fQ,eq_ofNat_of_zero_le→fS,le_trans→gi,ofNat_le→gj,natCast_pow→gH,natAbs_natCast→iJ,ediv_emod_unique→jl,natCast_mul→nX,ofNat_lt→o8,toNat_of_nonneg→Aa,ofNat_sub→Al,le_of_lt→DA,mul_comm→DF,neg_fdiv_neg→Ha,neg_fmod_neg→Hb,le_refl→Ht,add_comm→W8,mul_add→aeh,mul_neg→aen,neg_neg→aeo,sub_le_sub_right→aep,natCast_zero→as7,min_le_right→atb,min_eq_right→atm,toNat→ato,min_eq_left→avM
open PySem.Heap renaming get?_push_of_some→aV,lt_size→cY,get?_push_size→g0,size_push→ia,SameBut→sd,get?_eq_some→alE
open PySem.NameKind renaming free→bN,cell→pz
open ForInStep renaming yield→cg
open PySem.Float64 renaming sgn→ck,cmp→cG,truncOf→cH,isFinite→cT,ofInt→eJ,shift→eL,ofFrac→fy,cmpInt→fz,isZero→gS,mul→hZ,add→i6,ofBin→jF,div→jW,zero→kM,isInf→lJ,sub→lY,fmod→rj,divmod→tG,abs→tI,isNaN→xe,pack→Ae,halfEven→A9,roundMag→Ba,decode→Hd,neg→Sr,lt→Xg,floorOf→ae5,infMag→alI,align→amY
open PySem.Builtin.Int renaming intBits→cq
open Array renaming length_toList→cu,getElem?_append_right→nU,getElem?_append_left→oN,empty_append→o7,getElem?_toList→tH,toList_push→A6,getD_eq_getD_getElem?→Hp,toList_setIfInBounds→JD,toList_eq_nil_iff→N4,isEmpty_iff→ae3
open PySem.Flt renaming toInt→cx
open PySem.Calls renaming docDef→cO,spliced_cons→dC,spliced_nil→gB,callWith_builtin→iA,callWith_function→kA
open PySem.Builtin renaming bitNot→cX,bitAnd→i7,bitXor→nV,bitOr→amV
open PySem.Challenge renaming rw_ta0129_02→dw
open PUnit renaming unit→dO
open List.cons renaming inj→eE
open PySem.Around renaming deeper_units→eR
open PySem.Expr renaming casesOn→eY
open PySem.Builtin.Range renaming rangeSize→ft,small→Hk
open PySem.W.WData renaming int→fw,bool→Af
open PySem.W renaming boot_heap→fZ,boot_drawn→lz,boot_o_10→lH,boot_o_0→oO,boot_o_1→oT,boot_o_2→oU,boot_o_4→oW,boot_o_5→oX,boot_o_6→oY,boot_o_7→oZ,boot_o_8→o3,boot_o_9→o5,CodeHd→Xf,boot_toks→aeX
open PySem.Value renaming ref→gh,none→jf,int→Dz,bool→ad6,builtin→avF,isStrOf→avL
open Ne renaming symm→gm
open Prod.mk renaming inj→gy,injEq→pP
open PySem.Env renaming kindOf→gT
open PySem.pyHashByItsType renaming reduced→jb
open PySem.Obj renaming mapSeq→jk,putName→ad0,mapDictKeys→avE
open PyProof.Rows renaming excClass_ZeroDivisionError→jP,eq_bool→Hj,eq_int→Jy,eq_str→Jz,IntsAre→JA,eq_fi→Ll,eq_if→Lm
open PySem.F renaming plainAttrs_list→jX,slot_list_iadd→rh,slot_dict_get→rX,slot_list_append→JB,type_list_append→JC,slot_list_index→Ln,slot_str_split→NK,entry_dict_get→NL
open PySem.Value.ref renaming inj→lj
open PySem.Heap.SameBut renaming update→lD
open PySem.Heap.UpToSlots renaming of_keeps→nh
open PySem.Value.int renaming inj→o6
open PySem.IsL renaming update→pO
open PySem.Stmt.FunctionDef renaming elim→rg
open PySem.Flow renaming next→ry
open PySem.Expr.Subscript renaming elim→tD
open PySem.Str renaming ofString→tF
open PySem.Stmt renaming casesOn→tT
open PySem.Expr.Constant renaming elim→uN
open Eq renaming trans→xU
open PySem.Data.fields renaming inj→z9
open PySem.CmpOp renaming Eq→A5
open PySem.Builtin.List renaming listTooLong→B9
open PySem.Expr.Name renaming elim→Dy
open PySem.W.WShape renaming hasItems→DY,hasAll→Lu
open PySem.BoolOp renaming And→Hq
open List.Pairwise renaming nil→Lo
open Nat.succ renaming inj→Lq
open PySem.AutoFloatOps renaming lt_0→NI
open PySem.Txt renaming find→NJ,words→S3,lower→atd
open PySem.Sem renaming wrap_wrap→So,update→alC
open PySem.World renaming withFollow_self→S0
open And renaming intro→S4,left→aec
open PySem.Value.bool renaming inj→Y9
open PySem.Value.str renaming inj→aeY
open PySem.isSame renaming created→amO
open PySem.ExcName renaming means→ana
open PySem.IsRange renaming new→avI
open UInt64 renaming ofNat→avO
open PySem.W.OpenLaw renaming pre→avP
namespace Mxx
@[elab_as_elim] theorem rwL{α:Sort _}{a b:α}{p:α→Prop}(h:a=b)(x:p b):p a:=h▸x
@[elab_as_elim] theorem rwR{α:Sort _}{a b:α}{p:α→Prop}(h:a=b)(x:p a):p b:=h▸x
theorem x02{A B:Prop}{G:Prop}(h:A∧B)(k:A→B→G):G:=k h.1 h.2
theorem x11{α:Sort _}{A:α→Prop}{G:Prop}(h:∃ a,A a)(k:∀ a,A a→G):G:=h.elim fun a h=>k a h
theorem x12{α:Sort _}{A B:α→Prop}{G:Prop}(h:∃ a,A a∧B a)(k:∀ a,A a→B a→G):G:=h.elim fun a h=>k a h.1 h.2
theorem x03{A B C:Prop}{G:Prop}(h:A∧B∧C)(k:A→B→C→G):G:=k h.1 h.2.1 h.2.2
theorem x22{α β:Sort _}{A B:α→β→Prop}{G:Prop}(h:∃ a b,A a b∧B a b)(k:∀ a b,A a b→B a b→G):G:=h.elim fun a h=>h.elim fun b h=>k a b h.1 h.2
theorem x23{α β:Sort _}{A B C:α→β→Prop}{G:Prop}(h:∃ a b,A a b∧B a b∧C a b)(k:∀ a b,A a b→B a b→C a b→G):G:=h.elim fun a h=>h.elim fun b h=>k a b h.1 h.2.1 h.2.2
theorem x04{A B C D:Prop}{G:Prop}(h:A∧B∧C∧D)(k:A→B→C→D→G):G:=k h.1 h.2.1 h.2.2.1 h.2.2.2
theorem x34{α β γ:Sort _}{A B C D:α→β→γ→Prop}{G:Prop}(h:∃ a b c,A a b c∧B a b c∧C a b c∧D a b c)(k:∀ a b c,A a b c→B a b c→C a b c→D a b c→G):G:=h.elim fun a h=>h.elim fun b h=>h.elim fun c h=>k a b c h.1 h.2.1 h.2.2.1 h.2.2.2
theorem x24{α β:Sort _}{A B C D:α→β→Prop}{G:Prop}(h:∃ a b,A a b∧B a b∧C a b∧D a b)(k:∀ a b,A a b→B a b→C a b→D a b→G):G:=h.elim fun a h=>h.elim fun b h=>k a b h.1 h.2.1 h.2.2.1 h.2.2.2
theorem x21{α β:Sort _}{A:α→β→Prop}{G:Prop}(h:∃ a b,A a b)(k:∀ a b,A a b→G):G:=h.elim fun a h=>h.elim fun b h=>k a b h
theorem x13{α:Sort _}{A B C:α→Prop}{G:Prop}(h:∃ a,A a∧B a∧C a)(k:∀ a,A a→B a→C a→G):G:=h.elim fun a h=>k a h.1 h.2.1 h.2.2
theorem x44{α β γ δ:Sort _}{A B C D:α→β→γ→δ→Prop}{G:Prop}(h:∃ a b c d,A a b c d∧B a b c d∧C a b c d∧D a b c d)(k:∀ a b c d,A a b c d→B a b c d→C a b c d→D a b c d→G):G:=h.elim fun a h=>h.elim fun b h=>h.elim fun c h=>h.elim fun d h=>k a b c d h.1 h.2.1 h.2.2.1 h.2.2.2
theorem x32{α β γ:Sort _}{A B:α→β→γ→Prop}{G:Prop}(h:∃ a b c,A a b c∧B a b c)(k:∀ a b c,A a b c→B a b c→G):G:=h.elim fun a h=>h.elim fun b h=>h.elim fun c h=>k a b c h.1 h.2
theorem x05{A B C D E:Prop}{G:Prop}(h:A∧B∧C∧D∧E)(k:A→B→C→D→E→G):G:=k h.1 h.2.1 h.2.2.1 h.2.2.2.1 h.2.2.2.2
theorem x14{α:Sort _}{A B C D:α→Prop}{G:Prop}(h:∃ a,A a∧B a∧C a∧D a)(k:∀ a,A a→B a→C a→D a→G):G:=h.elim fun a h=>k a h.1 h.2.1 h.2.2.1 h.2.2.2
theorem x33{α β γ:Sort _}{A B C:α→β→γ→Prop}{G:Prop}(h:∃ a b c,A a b c∧B a b c∧C a b c)(k:∀ a b c,A a b c→B a b c→C a b c→G):G:=h.elim fun a h=>h.elim fun b h=>h.elim fun c h=>k a b c h.1 h.2.1 h.2.2
theorem x26{α β:Sort _}{A B C D E F:α→β→Prop}{G:Prop}(h:∃ a b,A a b∧B a b∧C a b∧D a b∧E a b∧F a b)(k:∀ a b,A a b→B a b→C a b→D a b→E a b→F a b→G):G:=h.elim fun a h=>h.elim fun b h=>k a b h.1 h.2.1 h.2.2.1 h.2.2.2.1 h.2.2.2.2.1 h.2.2.2.2.2
theorem x15{α:Sort _}{A B C D E:α→Prop}{G:Prop}(h:∃ a,A a∧B a∧C a∧D a∧E a)(k:∀ a,A a→B a→C a→D a→E a→G):G:=h.elim fun a h=>k a h.1 h.2.1 h.2.2.1 h.2.2.2.1 h.2.2.2.2
theorem x54{α β γ δ ε:Sort _}{A B C D:α→β→γ→δ→ε→Prop}{G:Prop}(h:∃ a b c d e,A a b c d e∧B a b c d e∧C a b c d e∧D a b c d e)(k:∀ a b c d e,A a b c d e→B a b c d e→C a b c d e→D a b c d e→G):G:=h.elim fun a h=>h.elim fun b h=>h.elim fun c h=>h.elim fun d h=>h.elim fun e h=>k a b c d e h.1 h.2.1 h.2.2.1 h.2.2.2
theorem x25{α β:Sort _}{A B C D E:α→β→Prop}{G:Prop}(h:∃ a b,A a b∧B a b∧C a b∧D a b∧E a b)(k:∀ a b,A a b→B a b→C a b→D a b→E a b→G):G:=h.elim fun a h=>h.elim fun b h=>k a b h.1 h.2.1 h.2.2.1 h.2.2.2.1 h.2.2.2.2
theorem x41{α β γ δ:Sort _}{A:α→β→γ→δ→Prop}{G:Prop}(h:∃ a b c d,A a b c d)(k:∀ a b c d,A a b c d→G):G:=h.elim fun a h=>h.elim fun b h=>h.elim fun c h=>h.elim fun d h=>k a b c d h
theorem x43{α β γ δ:Sort _}{A B C:α→β→γ→δ→Prop}{G:Prop}(h:∃ a b c d,A a b c d∧B a b c d∧C a b c d)(k:∀ a b c d,A a b c d→B a b c d→C a b c d→G):G:=h.elim fun a h=>h.elim fun b h=>h.elim fun c h=>h.elim fun d h=>k a b c d h.1 h.2.1 h.2.2
theorem x35{α β γ:Sort _}{A B C D E:α→β→γ→Prop}{G:Prop}(h:∃ a b c,A a b c∧B a b c∧C a b c∧D a b c∧E a b c)(k:∀ a b c,A a b c→B a b c→C a b c→D a b c→E a b c→G):G:=h.elim fun a h=>h.elim fun b h=>h.elim fun c h=>k a b c h.1 h.2.1 h.2.2.1 h.2.2.2.1 h.2.2.2.2
theorem x45{α β γ δ:Sort _}{A B C D E:α→β→γ→δ→Prop}{G:Prop}(h:∃ a b c d,A a b c d∧B a b c d∧C a b c d∧D a b c d∧E a b c d)(k:∀ a b c d,A a b c d→B a b c d→C a b c d→D a b c d→E a b c d→G):G:=h.elim fun a h=>h.elim fun b h=>h.elim fun c h=>h.elim fun d h=>k a b c d h.1 h.2.1 h.2.2.1 h.2.2.2.1 h.2.2.2.2
theorem x42{α β γ δ:Sort _}{A B:α→β→γ→δ→Prop}{G:Prop}(h:∃ a b c d,A a b c d∧B a b c d)(k:∀ a b c d,A a b c d→B a b c d→G):G:=h.elim fun a h=>h.elim fun b h=>h.elim fun c h=>h.elim fun d h=>k a b c d h.1 h.2
theorem x31{α β γ:Sort _}{A:α→β→γ→Prop}{G:Prop}(h:∃ a b c,A a b c)(k:∀ a b c,A a b c→G):G:=h.elim fun a h=>h.elim fun b h=>h.elim fun c h=>k a b c h
def mp(f:Lean.Syntax→Lean.Syntax):List Lean.Syntax→List Lean.Syntax
 |[]=>[]
 |a::l=>f a::mp f l
def go(a:List Lean.Syntax):List String→List Lean.Syntax→List Lean.Syntax
 |[],s=>s
 |w::l,s=>
  let r:=(w.drop 1).toString;let d:=w.back.toNat-48;let k n:=.node .none n (s.take d).reverse.toArray::s.drop d;let q:=Lean.Name.mkSimple (r.dropEnd 1).toString;let c:=w.front
  go a l (if c=='H' then a[r.toNat!]!::s else if c=='I' then Lean.mkIdent r.toName::s else if c=='.' then Lean.mkAtom r::s else if c=='T' then k (`Lean.Parser.Tactic++q)else if c=='R' then k (`Lean.Parser.Term++q)else if c=='P' then k (`Lean.Parser.Command++q)else k q)
def bl(t:String)(a:List Lean.Syntax):Lean.Syntax:=(go a (t.splitOn " ") [])[0]!
def sp:List Lean.Syntax→List Lean.Syntax
 |a::b::l=>a::Lean.mkAtom ";"::sp (b::l)
 |l=>l
def nl(a:List Lean.Syntax):Lean.Syntax:=Lean.mkNullNode a.toArray
def sq(a:List Lean.Syntax):=bl ".( H0 TtacticSeq1Indented1 TtacticSeq1 .) Tparen3" [nl (sp a)]
def fs(a:List Lean.Syntax):=bl ".first H0 Tfirst2" [nl (mp (fun t=>bl ".| H0 Nnull1 TtacticSeq1Indented1 TtacticSeq1 Ngroup2" [t]) a)]
def iN(e:Lean.Syntax):=sq [bl ".refine .( I NhygieneInfo1 RhygienicLParen2 .? ._ RsyntheticHole2 .: ._ Rhole1 .→ ._ Rhole1 Rarrow3 Nnull1 .) RtypeAscription5 H0 Nnull1 Rapp2 Trefine2" [e],bl ".intro Iz0 Nnull1 Tintro2" []]
def rf:=bl ".refine H0 H1 .? ._ RsyntheticHole2 Nnull2 Rapp2 Trefine2"
def cl:=bl ".clear H0 Nnull1 Tclear2"
def z0:=Lean.mkIdent `z0
def rw(s:Lean.Syntax):Lean.MacroM Lean.Syntax:=if s[3].getNumArgs>0 then Lean.Macro.throwUnsupported else
 pure (sq (mp (fun r=>
  let w:=bl ".rewrite Nnull0 ToptConfig1 .[ H0 Nnull1 .] TrwRuleSeq3 Nnull0 TrewriteSeq4" [r];let c k:=(r.find? fun s=>s.isOfKind k).isSome
  if c `Lean.Parser.Term.syntheticHole then w else
  let l:=Lean.mkIdent (if r[0].getNumArgs=0 then `Mxx.rwL else `Mxx.rwR);let e:=r[1];let x:=rf [l,e]
  if c `Lean.Parser.Term.byTactic then fs [x,w]else
  let v s:=bl ".with_reducible_and_instances H0 Nnull1 TtacticSeq1Indented1 TtacticSeq1 TwithReducibleAndInstances2" [s]
  fs [sq [iN e,fs [rf [l,z0],rf [l,bl "Ipropext Iz0 Nnull1 Rapp2" []]],cl [z0]],v x,v (rf [l,bl "H0 ... Rellipsis1 Nnull1 Rapp2" [e]]),w]) s[2][1].getSepArgs.toList++[bl ".try .with_reducible .rfl TtacticRfl1 Nnull1 TtacticSeq1Indented1 TtacticSeq1 TwithReducible2 Nnull1 TtacticSeq1Indented1 TtacticSeq1 TtacticTry_2" []]))
def xs(n:Nat):Nat→List Lean.Syntax
 |0=>[]
 |i+1=>rf [Lean.mkIdent (.str `Mxx s!"x{i}{n-i}"),z0]::xs n i
def ob(s:Lean.Syntax):Lean.MacroM Lean.Syntax:=
 let m:=s[1][0];let p:=m[0][0]
 if s[1].getNumArgs=1&&m[0].getNumArgs=1&&p.isOfKind `Lean.Parser.Tactic.rcasesPat.tuple&&s[2].getNumArgs=0&&s[3][1].getNumArgs=1 then
  let e:=s[3][1][0];let P:=p[1].getSepArgs;let rc e m:=bl ".rcases Nnull0 H0 TelimTarget2 Nnull1 .with H1 Nnull2 Trcases3" [e,m];let f:=rc e (bl "H0 Nnull0 TrcasesPatLo2" [m])
  if P.size<2 then pure f else
  pure (fs [sq (iN e::fs (xs P.size (min P.size 6))::cl [z0]::(if e.isIdent then[bl ".try H0 Nnull1 TtacticSeq1Indented1 TtacticSeq1 TtacticTry_2" [cl [e]]]else[])++mp (fun q=>
   let y:=q[0][0][0];let n x:=bl ".intro H0 Nnull1 Tintro2" [x]
   if q[0][0].getNumArgs=1&&y.isOfKind `Lean.Parser.Tactic.rcasesPat.one&&y[0].getId != `rfl then n y[0]else
   sq [n z0,rc z0 q]) P.toList),f])
 else Lean.Macro.throwUnsupported
def cs(s:Lean.Syntax):Lean.MacroM Lean.Syntax:=
 let h:=s[1][0][1]
 if s[2].getNumArgs+s[3].getNumArgs+s[1][0][0].getNumArgs=0&&h.isIdent then
 let b a:=bl ".subst H0 Nnull1 Tsubst2" [a]
 pure (fs [sq [iN (bl "IEq.symm IOption.some.inj H0 Nnull1 Rapp2 Nnull1 Rapp2" [h]),cl [h],b z0],b h,bl ".cases Nnull0 .( I NhygieneInfo1 RhygienicLParen2 H0 .) Rparen3 TelimTarget2 Nnull1 Nnull0 Nnull0 Tcases4" [h]])
 else Lean.Macro.throwUnsupported
def nc(s:Lean.Syntax)(a:List Lean.Syntax):Lean.MacroM Lean.Syntax:=if s[1][0].getNumArgs>0 then Lean.Macro.throwUnsupported else pure (fs a)
def om(s:Lean.Syntax):=nc s [bl ".with_reducible H0 Nnull1 TtacticSeq1Indented1 TtacticSeq1 TwithReducible2" [fs (go [] (".exact IInt.natCast_nonneg ._ Rhole1 Nnull1 Rapp2 Texact2 .exact IInt.not_lt.mpr IInt.natCast_nonneg ._ Rhole1 Nnull1 Rapp2 Nnull1 Rapp2 Texact2 .exact IInt.ofNat_inj Texact2 .exact INat.lt_of_le_of_lt INat.sub_le ... Rellipsis1 Nnull1 Rapp2 .by .assumption Tassumption1 Nnull1 TtacticSeq1Indented1 TtacticSeq1 RbyTactic2 Nnull2 Rapp2 Texact2".splitOn " ") []++mp (fun n=>bl ".exact H0 .by .assumption Tassumption1 Nnull1 TtacticSeq1Indented1 TtacticSeq1 RbyTactic2 Nnull1 Rapp2 Texact2" [n]) (go [] ("INat.le_of_lt INat.lt_of_succ_lt INat.not_lt.mp INat.le_of_not_le INat.pos_of_ne_zero INat.lt_of_mul_lt_mul_left".splitOn " ") []))],bl ".lia .- IabstractProof TnegConfigItem2 TconfigItem1 Nnull1 ToptConfig1 Tlia2" [],bl ".omega .+ IsplitDisjunctions TposConfigItem2 TconfigItem1 Nnull1 ToptConfig1 Tomega2" []]
def ka:Lean.Syntax:=bl ".kernel_rfl NtacticKernel_rfl1 Nnull1 TtacticSeq1Indented1 TtacticSeq1" []
def kr:=bl ".kernel_rfl NtacticKernel_rfl1" []
def de(s:Lean.Syntax):=nc s [bl ".decide .+ Ikernel TposConfigItem2 TconfigItem1 Nnull1 ToptConfig1 Tdecide2" []]
def dl(s:Lean.Syntax):Lean.MacroM Lean.Syntax:=if s.getPos?.isNone then Lean.Macro.throwUnsupported else
 let k:=s[1].getKind
 pure ((if k==`Lean.Parser.Command.definition||k==`Lean.Parser.Command.abbrev then s.modifyArg 0 (·.setArg 4 (bl ".noncomputable Pnoncomputable1 Nnull1" []))else s).rewriteBottomUp (·.setInfo .none))
end Mxx
local macro_rules (kind:=Lean.Parser.Tactic.rwSeq)|s=>Mxx.rw s
local macro_rules (kind:=Lean.Parser.Tactic.obtain)|s=>Mxx.ob s
local macro_rules (kind:=Lean.Parser.Tactic.cases)|s=>Mxx.cs s
local macro_rules (kind:=Lean.Parser.Tactic.omega)|s=>Mxx.om s
local macro_rules (kind:=Lean.Parser.Tactic.decide)|s=>Mxx.de s
local macro_rules (kind:=Lean.Parser.Tactic.tacticRfl')|s=>pure Mxx.kr
local macro_rules (kind:=Lean.Parser.Command.declaration)|s=>Mxx.dl s
noncomputable section
section
open PySem PySem.W PyProof.Rows
namespace Internal.Q
theorem N6{a b:Bool}(h:a=true)(k:b=true):(a&&b)=true:=by rw[h,k];rfl
abbrev pR:bb:=dw.row.prog
theorem anb:(["vars","dir","locals"]:List Str).filter (readsOut pR pR.main.body)=[]:=by
 rw[PySem.W.Fast.te13343964577679436407];rfl'
theorem anc:(!(importedModules pR.main.body).all cThrough.contains)=false:=by rfl'
theorem ane:noRoadLSs {strict:=false,foot:=none,bare:=[]} pR.main.body=true:=by
 rw[PySem.W.Fast.te8326940854005059898];rfl'
theorem anf:namesResolve pR=true:=by
 rw[PySem.W.Fast.te8377067652309620493];rfl'
theorem ang:namesMeet pR pR.main.body (λ_ n=>attrL n)=true:=by
 rw[PySem.W.Fast.te17119622794617984870,PySem.W.Fast.te17868728402115742887];rfl'
theorem anh:pR.tablesWhole=true:=by
 unfold Program.tablesWhole TablesWhole.wProgram TablesWhole.holds;rw[PySem.W.Fast.te6116379765354995101,PySem.W.Fast.te15985051520779696433];rfl'
theorem rs:dw.row.wellSaid=true:=by
 unfold OpenRow.wellSaid OpenRow.partSaid looksOpen;rw[anb,anc];repeat' (with_reducible refine N6 ?_ ?_)
 all_goals first|with_reducible exact ane|with_reducible exact anf|with_reducible exact ang|decide
theorem rsT:PySem.W.Fast.tw17960256430627541270 (PySem.W.Fast.tw2368527892694137696 dw)=true:=by
 rw[<-PySem.W.Fast.te17960256430627541270,<-PySem.W.Fast.te2368527892694137696];exact rs
theorem ani:dw.wellSaid=true:=by
 rw[PySem.W.Fast.te9446332074065402090];unfold PySem.W.Fast.tw9446332074065402090;repeat' (with_reducible refine N6 ?_ ?_)
 all_goals first|(with_reducible exact rsT)|decide
end Internal.Q
end
section
open PySem
namespace Internal
theorem no{α:Type}{d:α}{P:Prop}(e:(none:Option α)=some d):P:=nomatch e
inductive anj{α β:Type}(x:Option α)(f:α->Option β)(b:β):Prop
 |mk (a:α) (h1:x=some a) (h2:f a=some b)
theorem aO{α β:Type}{x:Option α}{f:α->Option β}{b:β}(h:x.bind f=some b):anj x f b:=by
 cases x with
 |none=>exact no h
 |some a=>exact⟨a,rfl,h⟩
theorem jY{α:Type}{x y:Option α}{b:α}{P:Prop}(h:x.or y=some b)(k1:x=some b->P)(k2:y=some b->P):P:=by
 cases x with
 |none=>exact k2 h
 |some a=>exact k1 h
inductive ank{α β:Type}(x:Option α)(f:α->β)(b:β):Prop
 |mk (a:α) (h1:x=some a) (h2:f a=b)
theorem dH{α β:Type}{x:Option α}{f:α->β}{b:β}(h:x.map f=some b):ank x f b:=by
 cases x with
 |none=>exact no h
 |some a=>exact⟨a,rfl,af h⟩
inductive anl{α β:Type}(l:List α)(f:α->β)(b:β):Prop
 |mk (a:α) (h1:a∈l) (h2:f a=b)
theorem Lv{α β:Type}{l:List α}{f:α->β}{b:β}(h:b∈l.map f):anl l f b:=by
 obtain⟨a,h1,h2⟩:=fY.mp h;exact⟨a,h1,h2⟩
def sf(e:ae):Option {x:Str×Pos // e=.Name x.1 x.2}:=
 if h:e.ctorIdx=23 then Dy (motive_1:=λe=>Option {x:Str×Pos // e=.Name x.1 x.2}) e h λa b=>some ⟨(a,b),rfl⟩else none
def S8(e:ae):Option {x:List ae×Nat×Pos // e=.Tuple x.1 x.2.1 x.2.2}:=
 if h:e.ctorIdx=25 then PySem.Expr.Tuple.elim (motive_1:=λe=>Option {x:List ae×Nat×Pos // e=.Tuple x.1 x.2.1 x.2.2}) e h λa b c=>some ⟨(a,b,c),rfl⟩else none
def N7(e:ae):Option {x:(Option ae×Option ae×Option ae)×Pos // e=.Slice x.1.1 x.1.2.1 x.1.2.2 x.2}:=
 if h:e.ctorIdx=26 then PySem.Expr.Slice.elim (motive_1:=λe=>Option {x:(Option ae×Option ae×Option ae)×Pos // e=.Slice x.1.1 x.1.2.1 x.1.2.2 x.2}) e h λa b c d=>some ⟨((a,b,c),d),rfl⟩else none
def Xi(e:ae):Option {x:ae×List d7×Scope×Pos // e=.ListComp x.1 x.2.1 x.2.2.1 x.2.2.2}:=
 if h:e.ctorIdx=8 then PySem.Expr.ListComp.elim (motive_1:=λe=>Option {x:ae×List d7×Scope×Pos // e=.ListComp x.1 x.2.1 x.2.2.1 x.2.2.2}) e h λa b c d=>some ⟨(a,b,c,d),rfl⟩else none
def N8(e:ae):Option {x:ae×Str×Pos // e=.Attribute x.1 x.2.1 x.2.2}:=
 if h:e.ctorIdx=20 then PySem.Expr.Attribute.elim (motive_1:=λe=>Option {x:ae×Str×Pos // e=.Attribute x.1 x.2.1 x.2.2}) e h λa b c=>some ⟨(a,b,c),rfl⟩else none
def ae6(e:ae):Option {x:Const×Nat×Pos // e=.Constant x.1 x.2.1 x.2.2}:=
 if h:e.ctorIdx=19 then uN (motive_1:=λe=>Option {x:Const×Nat×Pos // e=.Constant x.1 x.2.1 x.2.2}) e h λa b c=>some ⟨(a,b,c),rfl⟩else none
def N9(e:ae):Option {x:ae×List ae×List SY×Pos // e=.Call x.1 x.2.1 x.2.2.1 x.2.2.2}:=
 if h:e.ctorIdx=16 then PySem.Expr.Call.elim (motive_1:=λe=>Option {x:ae×List ae×List SY×Pos // e=.Call x.1 x.2.1 x.2.2.1 x.2.2.2}) e h λa b c d=>some ⟨(a,b,c,d),rfl⟩else none
def ae7(e:ae):Option {x:ae×ae×Pos // e=.Subscript x.1 x.2.1 x.2.2}:=
 if h:e.ctorIdx=21 then tD (motive_1:=λe=>Option {x:ae×ae×Pos // e=.Subscript x.1 x.2.1 x.2.2}) e h λa b c=>some ⟨(a,b,c),rfl⟩else none
def ae8(e:ae):Option {x:List ae×Pos // e=.List x.1 x.2}:=
 if h:e.ctorIdx=24 then PySem.Expr.List.elim (motive_1:=λe=>Option {x:List ae×Pos // e=.List x.1 x.2}) e h λa b=>some ⟨(a,b),rfl⟩else none
def anm(e:ae):Option {x:ae×q0×ae×Pos // e=.BinOp x.1 x.2.1 x.2.2.1 x.2.2.2}:=
 if h:e.ctorIdx=2 then PySem.Expr.BinOp.elim (motive_1:=λe=>Option {x:ae×q0×ae×Pos // e=.BinOp x.1 x.2.1 x.2.2.1 x.2.2.2}) e h λa b c d=>some ⟨(a,b,c,d),rfl⟩else none
def exC{α:Type}(z:α)(bo bi un ie lc cm ca co su na li tu)(e:ae):=
 eY (motive_1:=λ_=>α) e bo (λ_ _ _=>z) bi un (λ_ _ _ _=>z) ie (λ_ _ _=>z) (λ_ _ _=>z) lc (λ_ _ _ _=>z) (λ_ _ _ _ _=>z) (λ_ _ _ _=>z) (λ_ _=>z) (λ_ _=>z) (λ_ _=>z) cm ca (λ_ _ _ _=>z) (λ_ _=>z) co (λ_ _ _=>z) su (λ_ _=>z) na li tu (λ_ _ _ _=>z)
theorem JG{α:Type}{d:α}{P:ae->Prop}{bo bi un ie lc cm ca co su na li tu}(e:ae)(kbo:∀a b c,bo a b c=some d->P (.BoolOp a b c))(kbi:∀a b c x,bi a b c x=some d->P (.BinOp a b c x))(kun:∀a b c,un a b c=some d->P (.UnaryOp a b c))(kie:∀a b c x,ie a b c x=some d->P (.IfExp a b c x))(klc:∀a b c x,lc a b c x=some d->P (.ListComp a b c x))(kcm:∀a b c x,cm a b c x=some d->P (.Compare a b c x))(kca:∀a b c x,ca a b c x=some d->P (.Call a b c x))(kco:∀a b c,co a b c=some d->P (.Constant a b c))(ksu:∀a b c,su a b c=some d->P (.Subscript a b c))(kna:∀a b,na a b=some d->P (.Name a b))(kli:∀a b,li a b=some d->P (.List a b))(ktu:∀a b c,tu a b c=some d->P (.Tuple a b c))
(h:exC none bo bi un ie lc cm ca co su na li tu e=some d):P e:=by
 have k:∀e,(none:Option α)=some d->P e:=λe h=>no h;revert h;exact eY (motive_1:=λe=>exC none bo bi un ie lc cm ca co su na li tu e=some d->P e) e kbo (λ_ _ _=>k _) kbi kun (λ_ _ _ _=>k _) kie (λ_ _ _=>k _) (λ_ _ _=>k _) klc (λ_ _ _ _=>k _) (λ_ _ _ _ _=>k _) (λ_ _ _ _=>k _) (λ_ _=>k _) (λ_ _=>k _) (λ_ _=>k _) kcm kca (λ_ _ _ _=>k _) (λ_ _=>k _) kco (λ_ _ _=>k _) ksu (λ_ _=>k _) kna kli ktu (λ_ _ _ _=>k _)
def stC{α:Type}(z:α)(fd:Str->nT->List Stmt->Scope->Pos->α)(re as au fo wh fi ex)(s:Stmt):=
 tT (motive_2:=λ_=>α) s (λn a b _ _ _ s _ _ p=>fd n a b s p) (λ_ _ _ _ _ _ _ _ _ _=>z) (λ_ _ _ _ _ _ _ _ _ _ _=>z) re (λ_ _=>z) as (λ_ _ _ _ _ _ _=>z) au (λ_ _ _ _ _=>z) fo (λ_ _ _ _ _=>z) wh fi (λ_ _ _=>z) (λ_ _ _=>z) (λ_ _ _=>z) (λ_ _ _=>z) (λ_ _ _ _ _=>z) (λ_ _ _ _ _=>z) (λ_ _ _=>z) (λ_ _=>z) (λ_ _ _ _=>z) (λ_ _=>z) (λ_ _=>z) ex (λ_=>z) (λ_=>z) (λ_=>z)
theorem S9{α:Type}{d:α}{P:Stmt->Prop}{re as au fo wh fi ex}(s:Stmt)(kre:∀a b,re a b=some d->P (.Return a b))(kas:∀a b c,as a b c=some d->P (.Assign a b c))(kau:∀a b c x,au a b c x=some d->P (.AugAssign a b c x))(kfo:∀a b c x y,fo a b c x y=some d->P (.For a b c x y))(kwh:∀a b c x,wh a b c x=some d->P (.While a b c x))(kfi:∀a b c x,fi a b c x=some d->P (.If a b c x))(kex:∀a b,ex a b=some d->P (.Expr a b))
(h:stC none (λ_ _ _ _ _=>none) re as au fo wh fi ex s=some d):P s:=by
 have k:∀s,(none:Option α)=some d->P s:=λs h=>no h;revert h;exact tT (motive_2:=λs=>stC none (λ_ _ _ _ _=>none) re as au fo wh fi ex s=some d->P s) s (λ_ _ _ _ _ _ _ _ _ _=>k _) (λ_ _ _ _ _ _ _ _ _ _=>k _) (λ_ _ _ _ _ _ _ _ _ _ _=>k _) kre (λ_ _=>k _) kas (λ_ _ _ _ _ _ _=>k _) kau (λ_ _ _ _ _=>k _) kfo (λ_ _ _ _ _=>k _) kwh kfi (λ_ _ _=>k _) (λ_ _ _=>k _) (λ_ _ _=>k _) (λ_ _ _=>k _) (λ_ _ _ _ _=>k _) (λ_ _ _ _ _=>k _) (λ_ _ _=>k _) (λ_ _=>k _) (λ_ _ _ _=>k _) (λ_ _=>k _) (λ_ _=>k _) kex (λ_=>k _) (λ_=>k _) (λ_=>k _)
end Internal
end
section
open PySem PySem.W PyProof.Rows
namespace Internal
section
section
variable(tb:String->Option alB)(p:bb)(w:World)(cz:Nat)(ann:Option Value)
theorem Bb:∀(n:Nat){m:Nat}{s aU:ah}{t DZ:Thread}{r:Option (ah×Thread)},segGo tb p w cz ann b n s t=some (aU,DZ)->
 segGo tb p w cz ann b m aU DZ=r->segGo tb p w cz ann b (n+m) s t=r:=λn=>by
 induction n with
 |zero=>
  intro m s aU t DZ r h k;obtain⟨rfl,rfl⟩:s=aU/\t=DZ:=by simpa [segGo]using h
  rw[jA];exact k
 |succ n ih=>
  intro m s aU t DZ r h k;rw[show n+1+m=n+m+1 by omega];unfold segGo at h⊢;cases he:endAt b t with
  |some f=>rw[he]at h;cases h
  |none=>
   rw[he]at h;cases hk:stepOk cz ann t with
   |false=>rw[hk]at h;cases h
   |true=>
    rw[hk]at h;cases hs:step (denote tb) p w s t with
    |halt o eZ=>rw[hs]at h;cases h
    |go eZ av9=>rw[hs]at h;exact ih h k
def Go(m:Sem α)(c:Code)(s:ah)(a:α)(s':ah)(k:Nat):Prop:=
 ∀(q:Pos)(K:α->Sem Fin)(H:Value->Sem Fin)(gd:Bool->Bool)(lv:List Value->List Value)(F:Frame)(B:List Frame),
  ∃n q',n<=k/\segGo tb p w cz ann 1 n s ⟨m.wrap K H gd lv,c,q,F::B⟩=some (s',⟨K a,c,q',F::B⟩)
variable{tb p w cz ann}{α β:Type}{c:Code}{s aU eZ:ah}
theorem ij(h:Go tb p w cz ann m c s a aU k)(hk:k<=k'):Go tb p w cz ann m c s a aU k':=
 λq K H gd lv F B=>by obtain⟨n,q',l,e⟩:=h q K H gd lv F B;exact⟨n,q',aq l hk,e⟩
theorem bT:Go tb p w cz ann (pure a:Sem α) c s a s 0:=λq _ _ _ _ _ _=>⟨0,q,cf _,rfl⟩
theorem bD{m:Sem α}{f:α->Sem β}{a:α}{b:β}{k₁ k₂:Nat}(h:Go tb p w cz ann m c s a aU k₁)(k:Go tb p w cz ann (f a) c aU b eZ k₂):Go tb p w cz ann (m >>= f) c s b eZ (k₁+k₂):=
 λq K H gd lv F B=>by
  rw[Sem.bind_eq_wrap',So];obtain⟨n,q',l,e⟩:=h q (λa=>(f a).wrap K H gd lv) (λe=>(Sem.raise e:Sem β).wrap K H gd lv) (λg=>gd (id g)) (λl=>lv (id l)) F B;obtain⟨n',q'',l',e'⟩:=k q' K H gd lv F B;exact⟨n+n',q'',Nat.add_le_add l l',Bb tb p w cz ann n e e'⟩
theorem Ta(h:Go tb p w cz ann m c s a aU k):Go tb p w cz ann (m.keep vs) c s a aU k:=
 λq K H gd lv F B=>by rw[Sem.keep_eq_wrap,So];exact h q _ _ _ _ F B
theorem Hu(h:Go tb p w cz ann m c s a aU j):Go tb p w cz ann (m.onRaise k) c s a aU j:=
 λq K H gd lv F B=>by rw[Sem.onRaise_eq_wrap,So];exact h q _ _ _ _ F B
theorem et(h:Go tb p w cz ann m c s a aU k):Go tb p w cz ann (holding vs m) c s a aU k:=by
 unfold holding;split
 ·exact h
 ·exact Ta h
theorem mh(st:∀(q:Pos)(K:α->Sem Fin)(H:Value->Sem Fin)(gd:Bool->Bool)(lv:List Value->List Value)(F:Frame)(B:List Frame),
 ∃q',segGo tb p w cz ann 1 1 s ⟨m.wrap K H gd lv,c,q,F::B⟩=some (aU,⟨m'.wrap K H gd lv,c,q',F::B⟩))(h:Go tb p w cz ann m' c aU a eZ j):Go tb p w cz ann m c s a eZ (1+j):=
 λq K H gd lv F B=>by
  obtain⟨q',e⟩:=st q K H gd lv F B;obtain⟨n,q'',l,e'⟩:=h q' K H gd lv F B;exact⟨1+n,q'',hU l 1,Bb tb p w cz ann 1 e e'⟩
theorem JH(h:Go tb p w cz ann (k ()) c s a aU j):Go tb p w cz ann (.rule tag k) c s a aU (1+j):=
 mh (λq K H gd lv F B=>⟨q,by cases B<;>rfl⟩) h
theorem JI(h:Go tb p w cz ann (k ()) c s a aU j):Go tb p w cz ann (.at anp k) c s a aU (1+j):=
 mh (λq K H gd lv F B=>⟨anp,by cases B<;>rfl⟩) h
theorem D6(h:Go tb p w cz ann (k ()) c s a aU j):Go tb p w cz ann (.point l k) c s a aU (1+j):=
 mh (λq K H gd lv F B=>⟨q,by cases B<;>rfl⟩) h
theorem Ze(h:Go tb p w cz ann (k ⟨p,w.params⟩) c s a aU j):Go tb p w cz ann (.ask k) c s a aU (1+j):=
 mh (λq K H gd lv F B=>⟨q,by cases B<;>rfl⟩) h
theorem xV(h:Go tb p w cz ann (k s.toks) c {s with toks:=s.toks+1} a aU j):Go tb p w cz ann (.fresh k) c s a aU (1+j):=
 mh (λq K H gd lv F B=>⟨q,by cases B<;>rfl⟩) h
theorem Oa(h:Go tb p w cz ann (k s.heap.objs.size) c {s with heap:=s.heap.push o} a aU j):Go tb p w cz ann (.alloc o k) c s a aU (1+j):=
 mh (λq K H gd lv F B=>⟨q,by cases B<;>rfl⟩) h
theorem qw(e:s.heap.get? x=some o)(h:Go tb p w cz ann (k o) c s a aU j):Go tb p w cz ann (.load x pt k) c s a aU (1+j):=
 mh (λq K H gd lv F B=>⟨q,by
  obtain⟨heap,gens,drawn,toks,os⟩:=s;have e:heap.get? x=some o:=e;have st:step (denote tb) p w ⟨heap,gens,drawn,toks,os⟩ ⟨(Sem.load x pt k).wrap K H gd lv,c,q,F::B⟩=.go ⟨heap,gens,drawn,toks,os⟩ ⟨(k o).wrap K H gd lv,c,q,F::B⟩:=by
   simp only[Sem.wrap,step,e]
  have ok:stepOk cz ann ⟨(Sem.load x pt k).wrap K H gd lv,c,q,F::B⟩=true:=rfl;have en:endAt 1 ⟨(Sem.load x pt k).wrap K H gd lv,c,q,F::B⟩=none:=by cases B<;>rfl
  simp only[segGo,en,ok,st]⟩) h
theorem Bc(e:(s.heap.get? x).isSome=true)(ha:cz<=x\/x=mainNs)
(h:Go tb p w cz ann (k ()) c {s with heap:=s.heap.update x f} a aU j):Go tb p w cz ann (.update x pt f k) c s a aU (1+j):=
 mh (λq K H gd lv F B=>⟨q,by
  obtain⟨heap,gens,drawn,toks,os⟩:=s;have e:(heap.get? x).isSome=true:=e;have st:step (denote tb) p w ⟨heap,gens,drawn,toks,os⟩ ⟨(alC x pt f k).wrap K H gd lv,c,q,F::B⟩=.go ⟨heap.update x f,gens,drawn,toks,os⟩ ⟨(k ()).wrap K H gd lv,c,q,F::B⟩:=by
   simp only[Sem.wrap,step,e,if_true]
  have ok:stepOk cz ann ⟨(alC x pt f k).wrap K H gd lv,c,q,F::B⟩=true:=by
   show(true&&(bX cz x||x==mainNs||x==cStatics||ann==some (.ref x)))=true;rcases ha with ha|rfl
   ·rw[el ha];rfl
   ·simp
  have en:endAt 1 ⟨(alC x pt f k).wrap K H gd lv,c,q,F::B⟩=none:=by cases B<;>rfl
  simp only[segGo,en,ok,st]⟩) h
end
end
section
section
variable{p:bb}{w:World}{cz:Nat}{ann:Option Value}{c:Code}{s:ah}
def JJ(k:Int)(t:Tok):Sem (Option Value):=callSpecialIfBoundUnlessNone? (.int k t) "__hash__" (do rule "hash.unhashable";raiseError "TypeError" s!"unhashable type: '{← typeNameOf (.int k t)}'")
theorem Lw(b)(heap)(gens:Array GenState)(drawn:Drawn)(toks)(os:gZ)(k)(t)(c:Code)(q)(K:Option Value->Sem Fin)(H:Value->Sem Fin)(gd:Bool->Bool)(lv:List Value->List Value)(F:Frame):
 segGo treeTable p (w.withFollow "special-get-raises" b) cz ann 1 5 ⟨heap,gens,drawn,toks,os⟩ ⟨(JJ k t).wrap K H gd lv,c,q,[F]⟩=some (⟨heap,gens,drawn,toks+1,os⟩,⟨K (some (.int (rawHash k) toks)),c,q,[F]⟩):=by
 cases b<;>rfl'
theorem Lx(b)(heap)(gens:Array GenState)(drawn:Drawn)(toks)(os:gZ)(k)(t)(c:Code)(q)(K:Option Value->Sem Fin)(H:Value->Sem Fin)(gd:Bool->Bool)(lv:List Value->List Value)(F G:Frame)(B:List Frame):
 segGo treeTable p (w.withFollow "special-get-raises" b) cz ann 1 5 ⟨heap,gens,drawn,toks,os⟩ ⟨(JJ k t).wrap K H gd lv,c,q,F::G::B⟩=some (⟨heap,gens,drawn,toks+1,os⟩,⟨K (some (.int (rawHash k) toks)),c,q,F::G::B⟩):=by
 cases b<;>rfl'
theorem Ob(k)(t):Go treeTable p w cz ann (JJ k t) c s (some (.int (rawHash k) s.toks)) {s with toks:=s.toks+1} 5:=by
 intro q K H gd lv F B;refine⟨5,q,cf _,?_⟩;rw[<-S0 w "special-get-raises"];cases B with
 |nil=>exact Lw _ _ _ _ _ _ _ _ _ _ _ _ _ _ _
 |cons G B=>exact Lx _ _ _ _ _ _ _ _ _ _ _ _ _ _ _ _ _
theorem xg(k)(t):pyHash (.int k t)=(do
 match<-JJ k t with
 |some (.int i _)=>jb i
 |some (.bool b)=>pure (if b then 1 else 0)
 |some (.ref a)=>
  match(<-load a).data with
  |.prim (.int i _)=>
   rule "hash.int-subclass"
   let h<-jb i
   point
   pure h
  |_=>raiseError "TypeError" "__hash__ method should return an integer"
 |some r=>do notAStandIn r;raiseError "TypeError" "__hash__ method should return an integer"
 |none=>raiseError "TypeError" s!"unhashable type: '{← typeNameOf (.int k t)}'"):=by
 rfl'
theorem Ly(k)(t):Go treeTable p w cz ann (pyHash (.int k t)) c s (hashInt k) {s with toks:=s.toks+1} 10:=by
 have hr:=rawHash_range k;apply ij
 ·skip
  rw[xg];apply bD (Ob k t) ?_;rotate_left;show Go _ _ _ _ _ (jb (rawHash k)) _ _ _ _ _;unfold jb;rw[if_pos (by rw[decide_eq_true hr.1,decide_eq_true hr.2];rfl)];exact bT
 ·omega
theorem D7{es:Array c8}{h:Int}(hn:∀e∈es.toList,e.hash≠h):placesWithHash es.size (λi=>es[i]?.map (·.hash)) h=[]:=by
 unfold placesWithHash;rw[lg];intro i hi;rw[cQ]at hi;show¬((es[i]?.map (·.hash))==some h)=true;rw[Array.getElem?_eq_getElem hi];simp only[alD,beq_iff_eq,Option.some.injEq];exact hn _ (by simp)
theorem jn(ho:s.heap.get? d=some o)(hd:o.data=.dict es ep):Go treeTable p w cz ann (dictEntries d pt) c s es s 10:=by
 apply ij
 ·skip
  unfold dictEntries;apply bD (qw ho bT) ?_;rotate_left;rw[hd];exact bT
 ·omega
theorem sj(ho:s.heap.get? d=some o)(hd:o.data=.dict es ep):Go treeTable p w cz ann (dictEpoch d pt) c s ep s 10:=by
 apply ij
 ·skip
  unfold dictEpoch;apply bD (qw ho bT) ?_;rotate_left;rw[hd];exact bT
 ·omega
theorem uP{d:Addr}{o:Obj}{es:Array c8}{ep:Nat}{k:Int}{t:Tok}{h:Int}(ho:s.heap.get? d=some o)(hd:o.data=.dict es ep)(hn:∀e∈es.toList,e.hash≠h):
 Go treeTable p w cz ann (dictFind d (.int k t) h) c s none s 20:=by
 apply ij
 ·skip
  unfold dictFind;apply et (bD (jn ho hd) ?_);rotate_left;dsimp only;rw[D7 hn];exact bT
 ·omega
def kq(e:c8):Obj->Obj:=avE (·.push e)
theorem mj{d:Addr}{o:Obj}{es:Array c8}{ep:Nat}{pt:Option Value}{e:c8}(ho:s.heap.get? d=some o)(hd:o.data=.dict es ep)(hs:es.size+1<=sizeLine+1)(hn:cz<=d):
 Go treeTable p w cz ann (updateDictKeys d (·.push e) pt) c s () {s with heap:=s.heap.update d (kq e)} 20:=by
 apply ij
 ·skip
  unfold updateDictKeys;apply bD (qw ho bT) ?_;rotate_left;rw[hd];have ho':(s.heap.update d (kq e)).get? d=some (kq e o):=by
   obtain⟨cls,dt,data,sl⟩:=o;simp only at hd;subst hd;exact Heap.get?_update_self _ ho rfl
  apply bD (Bc (by rw[ho];rfl) (.inl hn) bT) ?_;rotate_left;unfold lookBehind;apply bD (qw ho' bT) ?_;rotate_left;have:(kq e o).data.pastItsLine=none:=by
   obtain⟨cls,dt,data,sl⟩:=o;simp only at hd;subst hd;show(if(es.push e).size>sizeLine+1 then some "dict:memory" else none)=none;rw[if_neg (by rw[Array.size_push];omega)]
  rw[this];exact bT
 ·omega
theorem Hv(ho:s.heap.get? d=some o)(hd:o.data=.dict es ep)(hs:es.size+1<=sizeLine+1)(hn:cz<=d)
(hh:∀e∈es.toList,e.hash≠hashInt k):
 Go treeTable p w cz ann (dictSet d (.int k t) v) c s () {s with heap:=s.heap.update d (kq ⟨hashInt k,.int k t,v⟩),toks:=s.toks+1} 60:=by
 apply ij
 ·skip
  unfold dictSet;apply et (bD (Ly k t) ?_);rotate_left;unfold dictSetHashed;apply et (bD (uP (s:={s with toks:=s.toks+1}) ho hd hh) ?_);rotate_left;apply bD (JH bT) ?_;rotate_left;exact mj (s:={s with toks:=s.toks+1}) ho hd hs hn
 ·omega
theorem Hw(ho:s.heap.get? d=some o)(hd:o.data=.dict es ep)(hs:es.size+1<=sizeLine+1)(hn:cz<=d)
(hh:∀e∈es.toList,e.hash≠h):
 Go treeTable p w cz ann (dictPut d h (.int k t) v) c s () {s with heap:=s.heap.update d (kq ⟨h,.int k t,v⟩)} 50:=by
 apply ij
 ·skip
  unfold dictPut;apply bD (uP ho hd hh) ?_;rotate_left;exact mj ho hd hs hn
 ·omega
end
end
section
def jQ:Heap->List Obj->Heap
 |⟨objs,life⟩,os=>⟨objs++os.toArray,life⟩
def St(S:ah)(os:List Obj)(t:Nat):ah:={S with heap:=jQ S.heap os,toks:=t}
def dT(es:List c8):Obj:={cls:=.type "dict",data:=.dict es.toArray es.length}
theorem Hx(h)(os:List Obj):(jQ h os).objs.size=h.objs.size+os.length:=by
 obtain⟨objs,life⟩:=h;simp[jQ]
theorem Hy(h)(os:List Obj)(o):(jQ h os).push o=jQ h (os++[o]):=by
 obtain⟨objs,life⟩:=h;simp[jQ,Heap.push]
theorem nj{h:Heap}{os:List Obj}{i:Nat}{o:Obj}(e:os[i]? =some o)(ha:o.alive=true):(jQ h os).get? (h.objs.size+i)=some o:=by
 rw[alE];refine⟨?_,ha⟩;obtain⟨objs,life⟩:=h;show(objs++os.toArray)[objs.size+i]? =some o;rw[nU (by omega)];simp[e]
theorem sk(h:Heap)(os:List Obj)(i:Nat)(f:Obj->Obj):(jQ h os).update (h.objs.size+i) f=jQ h (os.modify i f):=by
 obtain⟨objs,life⟩:=h;show(⟨(objs++os.toArray).modify (objs.size+i) f,life⟩:Heap)=⟨objs++(os.modify i f).toArray,life⟩
 congr 1;apply Array.ext_getElem?;intro j;rw[Array.getElem?_modify];by_cases hj:j<objs.size
 ·rw[oN hj,oN hj,if_neg (by omega)]
 ·rw[nU (by omega),nU (by omega)]
  simp only[fq,w9];by_cases hi:objs.size+i=j
  ·subst hi;simp
  ·have:¬i=j - objs.size:=by omega
   simp[this,hi]
theorem so(es:List c8)(e:c8):kq e (dT es)=dT (es++[e]):=by
 simp[kq,dT,avE]
theorem xW(a:List α)(x:α)(b:List α)(f:α->α):(a++x::b).modify a.length f=a++f x::b:=by
 induction a with
 |nil=>rfl
 |cons y a ih=>simp[ih]
def uQ(q:Pos)(x:Int×Str):Sem Value×Sem Value:=(mkInt x.1,do let y<-mkText x.2;standAt q;pure y)
def uR(t:Nat):List (Int×Str)->List c8
 |[]=>[]
 |(k,v)::r=>⟨hashInt k,.int k t,.str v (t+1)⟩::uR (t+3) r
def uT(t:Nat):List (Int×Str)->List c8
 |[]=>[]
 |(k,v)::r=>⟨hashInt k,.int k t,.str v (t+1)⟩::uT (t+2) r
theorem Hz(t)(L:List (Int×Str)):(uR t L).map (·.hash)=L.map λx=>hashInt x.1:=by
 induction L generalizing t with
 |nil=>rfl
 |cons x r ih=>obtain⟨k,v⟩:=x;simp[uR,ih]
theorem HA(t)(L:List (Int×Str)):(uT t L).map (·.hash)=L.map λx=>hashInt x.1:=by
 induction L generalizing t with
 |nil=>rfl
 |cons x r ih=>obtain⟨k,v⟩:=x;simp[uT,ih]
section
variable{p:bb}{w:World}{cz:Nat}{ann:Option Value}{c:Code}{S:ah}
theorem D8(k):Go treeTable p w cz ann (mkInt k) c s (.int k s.toks) {s with toks:=s.toks+1} 1:=ij (xV bT) (cf _)
theorem JK(q)(x:Int×Str):Go treeTable p w cz ann (uQ q x).2 c s (.str x.2 s.toks) {s with toks:=s.toks+1} 2:=
 ij (bD (xV bT) (JI bT)) (cf _)
theorem Oc{os:List Obj}{es:List c8}{more:List Obj}{t:Nat}{k:Int}{tk:Tok}{v:Value}(hs:es.length<=sizeLine)(hn:cz<=S.heap.objs.size)
(hh:∀e∈es,e.hash≠hashInt k):
 Go treeTable p w cz ann (dictSet (S.heap.objs.size+os.length) (.int k tk) v) c (St S (os++dT es::more) t) () (St S (os++dT (es++[⟨hashInt k,.int k tk,v⟩])::more) (t+1)) 60:=by
 have ho:(St S (os++dT es::more) t).heap.get? (S.heap.objs.size+os.length)=some (dT es):=nj (by simp) rfl;have:=Hv (p:=p) (w:=w) (cz:=cz) (ann:=ann) (c:=c) (k:=k) (t:=tk) (v:=v) ho (es:=es.toArray) (ep:=es.length) rfl (by simpa using hs) (by omega) (by simpa using hh);have e:(St S (os++dT es::more) t).heap.update (S.heap.objs.size+os.length) (kq ⟨hashInt k,.int k tk,v⟩)=jQ S.heap (os++dT (es++[⟨hashInt k,.int k tk,v⟩])::more):=by
  show(jQ S.heap _).update _ _=_;rw[sk,xW,so]
 rw[e]at this;exact this
theorem Zf{os:List Obj}{es:List c8}{more:List Obj}{t:Nat}{k:Int}{tk:Tok}{h:Int}{v:Value}(hs:es.length<=sizeLine)(hn:cz<=S.heap.objs.size)
(hh:∀e∈es,e.hash≠h):
 Go treeTable p w cz ann (dictPut (S.heap.objs.size+os.length) h (.int k tk) v) c (St S (os++dT es::more) t) () (St S (os++dT (es++[⟨h,.int k tk,v⟩])::more) t) 50:=by
 have ho:(St S (os++dT es::more) t).heap.get? (S.heap.objs.size+os.length)=some (dT es):=nj (by simp) rfl;have:=Hw (p:=p) (w:=w) (cz:=cz) (ann:=ann) (c:=c) (k:=k) (t:=tk) (v:=v) (h:=h) ho (es:=es.toArray) (ep:=es.length) rfl (by simpa using hs) (by omega) (by simpa using hh);have e:(St S (os++dT es::more) t).heap.update (S.heap.objs.size+os.length) (kq ⟨h,.int k tk,v⟩)=jQ S.heap (os++dT (es++[⟨h,.int k tk,v⟩])::more):=by
  show(jQ S.heap _).update _ _=_;rw[sk,xW,so]
 rw[e]at this;exact this
theorem tX{α β:Type}{f:α->β}{g:α->β}{es:List α}{x:β}{L:List β}(h:(es.map f++x::L).Nodup):∀e∈es,f e≠x:=by
 intro e he;rw[lh]at h;exact h.2.2 _ (xR he) _ (aA ..)
theorem Od{os:List Obj}{q:Pos}(hn:cz<=S.heap.objs.size):∀(L:List (Int×Str))(es:List c8)(t:Nat),(es.map (·.hash)++L.map λx=>hashInt x.1).Nodup->es.length+L.length<=sizeLine->
 Go treeTable p w cz ann (forIn (L.map (uQ q)) dO λx __s=>
     match x with
     |(k,v)=>do
      let kv<-k;let vv<-holding [kv] v
      holding [kv,vv] (dictSet (S.heap.objs.size+os.length) kv vv)
      pure (cg dO)) c (St S (os++[dT es]) t) dO (St S (os++[dT (es++uR t L)]) (t+3*L.length)) (70*L.length):=λL=>by
 induction L with
 |nil=>
  intro es t _ _;rw[List.map_nil,pv];simp only[uR,c9,Hi,tE,W4];exact bT
 |cons x L ih=>
  obtain⟨k,v⟩:=x;intro es t hd hb;rw[bJ,iN];rw[bJ]at hd;rw[bE]at hb;have h1:Go treeTable p w cz ann (do
                                                let kv<-mkInt k;let vv<-holding [kv] (uQ q (k,v)).2
                                                holding [kv,vv] (dictSet (S.heap.objs.size+os.length) kv vv)
                                                pure (cg dO)) c (St S (os++[dT es]) t) (cg dO) (St S (os++[dT (es++[⟨hashInt k,.int k t,.str v (t+1)⟩])]) (t+3)) (1+(2+(60+0))):=by
   refine bD (D8 k) ?_;rw[show({St S (os++[dT es]) t with toks:=(St S (os++[dT es]) t).toks+1}:ah)=St S (os++[dT es]) (t+1)from rfl];refine bD (et (JK q (k,v))) ?_;rw[show({St S (os++[dT es]) (t+1)with toks:=(St S (os++[dT es]) (t+1)).toks+1}:ah)=St S (os++[dT es]) (t+2)from rfl];refine bD (et (Oc (more:=[]) (by omega) hn (tX (g:=(·.hash)) hd))) ?_;exact bT
  have h2:=ih (es++[⟨hashInt k,.int k t,.str v (t+1)⟩]) (t+3) (by simpa using hd) (by simp;omega);rw[eT,show t+3+3*L.length=t+3*(((k,v)::L).length)by rw[bE];omega]at h2;exact ij (bD h1 h2) (by rw[bE];omega)
theorem Oe{os:List Obj}{t:Nat}{β:Type}{f:Addr->Sem β}{b:β}{eZ:ah}{j:Nat}(h:Go treeTable p w cz ann (f (S.heap.objs.size+os.length)) c (St S (os++[dT []]) t) b eZ j):
 Go treeTable p w cz ann (alloc {cls:=.type "dict",data:=.dict #[]} >>= f) c (St S os t) b eZ (1+j):=by
 refine bD (Oa bT) ?_;have e:({St S os t with heap:=(St S os t).heap.push {cls:=.type "dict",data:=.dict #[]}}:ah)=St S (os++[dT []]) t:=by
  show({S with heap:=(jQ S.heap os).push _,toks:=t}:ah)=_;rw[Hy];rfl
 rw[e];have e2:(St S os t).heap.objs.size=S.heap.objs.size+os.length:=Hx ..;rw[e2];exact h
theorem HB{os:List Obj}{t:Nat}{q:Pos}(L:List (Int×Str))(hl:15<L.length)(hb:L.length<=sizeLine)(hn:cz<=S.heap.objs.size)(hd:(L.map λx=>hashInt x.1).Nodup):
 Go treeTable p w cz ann (subDict (L.map (uQ q))) c (St S os t) (S.heap.objs.size+os.length) (St S (os++[dT (uR t L)]) (t+3*L.length)) (1+((1+0+(70*L.length+0))+0)):=by
 unfold subDict;refine Oe ?_;refine bD (a:=()) (k₂:=0) (et ?_) bT;rw[if_neg (by rw[aj];omega)];refine bD (JH bT) ?_;refine bD (a:=dO) (k₂:=0) ?_ bT;have:=Od (p:=p) (w:=w) (ann:=ann) (c:=c) (os:=os) (q:=q) hn L [] t (by simpa using hd) (by simpa using hb);exact this
def Bd(t:Nat):List (Int×Str)->List (Value×Value)
 |[]=>[]
 |(k,v)::r=>(.int k t,.str v (t+1))::Bd (t+2) r
theorem Cc{os:List Obj}{q:Pos}:∀(L:List (Int×Str))(t:Nat),Go treeTable p w cz ann (evalPairs (L.map (uQ q))) c (St S os t) (Bd t L) (St S os (t+2*L.length)) (10*L.length):=by
 intro zx
 induction zx with
 |nil=>
  rintro t;exact ij bT (dk _)
 |cons zh L ih=>
  obtain⟨k,v⟩:=zh;rintro t;rw[bJ];have h1:Go treeTable p w cz ann (do let kv<-mkInt k;let vv<-holding [kv] (uQ q (k,v)).2;return (kv,vv)::(<-holding [kv,vv] (evalPairs (L.map (uQ q))))) c (St S os t) (Bd t ((k,v)::L)) (St S os (t+2*((k,v)::L).length)) (1+(2+(10*L.length+0))):=by
   refine bD (D8 k) ?_;refine bD (et (JK q (k,v))) ?_;refine bD (et (ih (t+2))) ?_;rw[show t+2+2*L.length=t+2*(((k,v)::L).length)by rw[bE];omega];exact bT
  exact ij h1 (by rw[bE];omega)
theorem Og{os:List Obj}(hn:cz<=S.heap.objs.size):∀(L:List (Int×Str))(es:List c8)(t u:Nat),(es.map (·.hash)++L.map λx=>hashInt x.1).Nodup->es.length+L.length<=sizeLine->
 Go treeTable p w cz ann (forIn (Bd t L) dO λx __s=>
     match x with
     |(k,v)=>do
      dictSet (S.heap.objs.size+os.length) k v
      pure (cg dO)) c (St S (os++[dT es]) u) dO (St S (os++[dT (es++uT t L)]) (u+L.length)) (70*L.length):=by
 intro zx
 induction zx with
 |nil=>
  rintro es t u _ _;rw[Bd,pv];simp only[uT,c9,Hi,W4,tE];exact bT
 |cons zh L ih=>
  obtain⟨k,v⟩:=zh;rintro es t u hd hb;rw[Bd,iN];rw[bJ]at hd;rw[bE]at hb;have h1:Go treeTable p w cz ann (do
                                                dictSet (S.heap.objs.size+os.length) (.int k t) (.str v (t+1))
                                                pure (cg dO)) c (St S (os++[dT es]) u) (cg dO) (St S (os++[dT (es++[⟨hashInt k,.int k t,.str v (t+1)⟩])]) (u+1)) (60+0):=by
   refine bD (Oc (more:=[]) (by omega) hn (tX (g:=(·.hash)) hd)) ?_;exact bT
  have h2:=ih (es++[⟨hashInt k,.int k t,.str v (t+1)⟩]) (t+2) (u+1) (by simpa using hd) (by simp;omega);rw[eT,show u+1+L.length=u+(((k,v)::L).length)by rw[bE];omega]at h2;exact ij (bD h1 h2) (by rw[bE];omega)
theorem D9{os:List Obj}{t:Nat}{q:Pos}(L:List (Int×Str))(hl:L.length<=15)(hb:L.length<=sizeLine)(hn:cz<=S.heap.objs.size)(hd:(L.map λx=>hashInt x.1).Nodup):
 Go treeTable p w cz ann (subDict (L.map (uQ q))) c (St S os t) (S.heap.objs.size+os.length) (St S (os++[dT (uT t L)]) (t+3*L.length)) (1+((10*L.length+(70*L.length+0))+0)):=by
 unfold subDict;refine Oe ?_;refine bD (a:=()) (k₂:=0) (et ?_) bT;rw[if_pos (by rw[aj];omega)];refine bD (Cc L t) ?_;refine et ?_;refine bD (a:=dO) (k₂:=0) ?_ bT;have:=Og (p:=p) (w:=w) (ann:=ann) (c:=c) (os:=os) hn L [] t (t+2*L.length) (by simpa using hd) (by simpa using hb);rw[show t+2*L.length+L.length=t+3*L.length by omega]at this;exact this
end
end
section
section
variable{p:bb}{w:World}{cz:Nat}{ann:Option Value}{c:Code}{S:ah}
def pX(es:List c8):Prop:=∀e∈es,∃k t,e.key=.int k t
theorem Ea(t)(L:List (Int×Str)):pX (uR t L):=by
 induction L generalizing t with
 |nil=>intro e he;cases he
 |cons x r ih=>
  obtain⟨k,v⟩:=x;intro e he;rcases aJ.mp he with rfl|he
  ·exact⟨_,_,rfl⟩
  ·exact ih _ e he
theorem Eb(t)(L:List (Int×Str)):pX (uT t L):=by
 induction L generalizing t with
 |nil=>intro e he;cases he
 |cons x r ih=>
  obtain⟨k,v⟩:=x;intro e he;rcases aJ.mp he with rfl|he
  ·exact⟨_,_,rfl⟩
  ·exact ih _ e he
theorem Be(ho:s.heap.get? a=some o):Go treeTable p w cz ann (typeOf (.ref a)) c s o.cls s 1:=ij (bD (qw ho bT) bT) (cf _)
theorem Ec:typeLookup (.type "dict") "__iter__"=pure (some (.builtin "dict.__iter__")):=by rfl'
theorem Oh:isSubtype (.type "dict") (.type "dict")=pure true:=by rfl'
theorem Ce{os:List Obj}{t:Nat}{sub:List c8}(hn:cz<=S.heap.objs.size)(hk:pX sub):∀(m i:Nat)(es:List c8),i+m=sub.length->
 (es.map (·.hash)++(sub.drop i).map (·.hash)).Nodup->es.length+m<=sizeLine->
 Go treeTable p w cz ann (forIn (iz i m) dO λi __s=>do
     let __do_lift<-dictEntries (S.heap.objs.size+(os.length+1))
     match __do_lift[i]? with
      |some e=>do
       holding [e.key,e.val]
        (have __do_jp:=λ__r=>dictPut S.heap.objs.size e.hash e.key e.val;
        if false=true then do
         let __do_lift<-dictFind S.heap.objs.size e.key e.hash
         if __do_lift.isSome=true then do
             rule "dict.merge.duplicate-key"
             let __do_lift<-newExc (Value.type "KeyError") [e.key];let __r<-raiseNew __do_lift
             __do_jp __r
          else __do_jp ()
        else __do_jp ())
       let __do_lift<-dictEpoch (S.heap.objs.size+(os.length+1))
       if(__do_lift != sub.length)=true then do
           unsupported "dict.changed-during-merge"
           pure (cg dO)
        else pure (cg dO)
      |x=>do
       unsupported "dict.changed-during-merge"
       pure (cg dO)) c (St S (dT es::os++[dT sub]) t) dO (St S (dT (es++sub.drop i)::os++[dT sub]) t) (100*m):=λm=>by
 induction m with
 |zero=>
  intro i es hi _ _;rw[List.range'_zero,pv,List.drop_eq_nil_of_le (by omega),c9];exact bT
 |succ m ih=>
  intro i es hi hd hb;have hS:∀JL,(St S (dT JL::os++[dT sub]) t).heap.get? (S.heap.objs.size+(os.length+1))=some (dT sub):=λJL=>nj (by simp) rfl;have mm:i<sub.length:=by omega
  obtain⟨e,he⟩:∃e,sub[i]? =some e:=⟨_,bC mm⟩;obtain⟨k,tk,ae9⟩:=hk e (gF he);have Xj:sub.drop i=e::sub.drop (i+1):=by
   rw[gA mm];rw[bC mm]at he;rw[af he]
  rw[l7,iN];rw[Xj,bJ]at hd;refine ij (bD (a:=cg dO) (aU:=St S (dT (es++[e])::os++[dT sub]) t) (k₁:=10+(50+(10+0))) (k₂:=100*m) ?_ ?_) (by omega)
  ·refine bD (jn (hS es) rfl) ?_
   have e1:sub.toArray[i]? =some e:=by simpa using he
   rw[e1];dsimp only;refine bD (a:=()) (aU:=St S (dT (es++[e])::os++[dT sub]) t) (et ?_) ?_
   ·rw[if_neg aF]
    obtain⟨h,key,v⟩:=e;dsimp only at ae9⊢;subst ae9;have:=Zf (p:=p) (w:=w) (cz:=cz) (ann:=ann) (c:=c) (S:=S) (os:=[]) (es:=es) (more:=os++[dT sub]) (t:=t) (k:=k) (tk:=tk) (h:=h) (v:=v) (by omega) hn (tX (g:=(·.hash)) hd);exact this
   ·refine bD (sj (hS _) rfl) ?_
    rw[if_neg (by simp)];exact bT
  ·have:=ih (i+1) (es++[e]) (by omega) (by simpa using hd) (by simp;omega)
   rw[eT]at this;rw[Xj];exact this
theorem Oi{os:List Obj}{es sub:List c8}{t:Nat}(hn:cz<=S.heap.objs.size)(hm:sysModules<S.heap.objs.size)(he:es≠[])(hk:pX sub)
(hd:(es.map (·.hash)++sub.map (·.hash)).Nodup)(hb:es.length+sub.length<=sizeLine):
 Go treeTable p w cz ann (mergeMapping S.heap.objs.size (.ref (S.heap.objs.size+(os.length+1))) false) c (St S (dT es::os++[dT sub]) t) () (St S (dT (es++sub)::os++[dT sub]) t) (1+0+(1+0+(0+(10+(10+(10+(100*sub.length+0))))))):=by
 have hD:∀JL,(St S (dT JL::os++[dT sub]) t).heap.get? S.heap.objs.size=some (dT JL):=λJL=>nj (i:=0) (by simp) rfl;have hS:∀JL,(St S (dT JL::os++[dT sub]) t).heap.get? (S.heap.objs.size+(os.length+1))=some (dT sub):=λJL=>nj (by simp) rfl;unfold mergeMapping;refine bD (a:=true) (aU:=St S (dT es::os++[dT sub]) t) (k₁:=1+0) ?_ ?_
 ·unfold isInstance
  refine bD (Be (hS es)) ?_;rw[show(dT sub).cls=.type "dict" from rfl,Oh];exact bT
 dsimp only;rw[if_pos rfl];refine bD (a:=some (.builtin "dict.__iter__")) (aU:=St S (dT es::os++[dT sub]) t) (k₁:=1+0) ?_ ?_
 ·unfold specialOf
  refine bD (Be (hS es)) ?_;rw[show(dT sub).cls=.type "dict" from rfl,Ec];exact bT
 rw[show(some (avF "dict.__iter__")==some (avF "dict.__iter__"))=true from by simp];refine bD bT ?_;dsimp only;rw[if_neg (by
  have:¬(S.heap.objs.size+(os.length+1)=sysModules):=by
   have h1: @LT.lt Nat _ sysModules S.heap.objs.size:=hm;intro h;have h2: @Eq Nat (S.heap.objs.size+(os.length+1)) sysModules:=h;omega
  simpa using this)]
 refine bD (jn (hD es) rfl) ?_;rw[if_neg (by
  cases es with
  |nil=>exact absurd rfl he
  |cons x r=>simp)]
 refine bD (jn (hS es) rfl) ?_;refine bD (sj (hS es) rfl) ?_;refine bD (a:=dO) (k₂:=0) ?_ bT;have:=Ce (p:=p) (w:=w) (ann:=ann) (c:=c) (os:=os) (t:=t) hn hk sub.length 0 es (by omega) (by simpa using hd) hb;rw[xa,<-xd]at this;rw[show sub.toArray.size=sub.length by simp];exact this
end
end
section
structure iL where
 has:Bool
 es:List c8
 subs:List Obj
 t:Nat
def kO(t:Nat)(C:List (Int×Str)):List c8:=if C.length<=15 then uT t C else uR t C
def iL.flush(C:List (Int×Str))(σ:iL):iL:=match C with
 |[]=>σ
 |_::_=>if σ.has then⟨true,σ.es++kO σ.t C,σ.subs++[dT (kO σ.t C)],σ.t+3*C.length⟩
   else⟨true,kO σ.t C,[],σ.t+3*C.length⟩
def iL.objs(σ:iL):List Obj:=if σ.has then dT σ.es::σ.subs else[]
def iL.main(S:ah)(σ:iL):Option Addr:=if σ.has then some S.heap.objs.size else none
def iL.run:List (Int×Str)->List (Int×Str)->iL->List (Int×Str)×iL
 |[],R,σ=>(R,σ)
 |x::rest,R,σ=>match(R++[x]).length==17 with
  |true=>iL.run rest [] (σ.flush (R++[x]))
  |false=>iL.run rest (R++[x]) σ
def Cf(run:List (Sem Value×Sem Value))(main:Option Addr):Sem (Option Addr):=
 if run.isEmpty=true then pure main
 else
  match main with
  |none=>do
   let __do_lift<-subDict run
   pure (some __do_lift)
  |some d=>do
   let sub<-holding [gh d] (subDict run)
   (holding [gh d,gh sub] (mergeMapping d (gh sub) false)).onRaise λx=>do
     let _<-holding [gh d,x] (runValue (Code.builtin "proto.let_go" {}))
     pure ()
   pure (some d)
def hs(L:List (Int×Str)):List Int:=L.map λx=>hashInt x.1
theorem mn(t)(C:List (Int×Str)):(kO t C).map (·.hash)=hs C:=by
 unfold kO;split
 ·exact HA t C
 ·exact Hz t C
theorem Cg(t)(C:List (Int×Str)):pX (kO t C):=by
 unfold kO;split
 ·exact Eb t C
 ·exact Ea t C
theorem rE(t)(C:List (Int×Str)):(kO t C).length=C.length:=by
 have:=congrArg qv (mn t C);simpa [hs]using this
def iL.good(σ:iL):Prop:=(σ.has=true->σ.es≠[])/\(σ.has=false->σ.es=[])
section
variable{p:bb}{w:World}{cz:Nat}{ann:Option Value}{c:Code}{S:ah}
theorem Oj{os:List Obj}{t:Nat}{q:Pos}(L:List (Int×Str))(hb:L.length<=sizeLine)(hn:cz<=S.heap.objs.size)(hd:(hs L).Nodup):
 Go treeTable p w cz ann (subDict (L.map (uQ q))) c (St S os t) (S.heap.objs.size+os.length) (St S (os++[dT (kO t L)]) (t+3*L.length)) (80*L.length+2):=by
 unfold kO;split
 ·rename_i h;exact ij (D9 L h hb hn hd) (by omega)
 ·rename_i h;exact ij (HB L (by omega) hb hn hd) (by omega)
theorem Ed{q:Pos}(C:List (Int×Str))(σ:iL)(hg:σ.good)(hn:cz<=S.heap.objs.size)(hm:sysModules<S.heap.objs.size)(hd:(σ.es.map (·.hash)++hs C).Nodup)(hb:σ.es.length+C.length<=sizeLine):
 Go treeTable p w cz ann (Cf (C.map (uQ q)) (σ.main S)) c (St S σ.objs σ.t) ((σ.flush C).main S) (St S (σ.flush C).objs (σ.flush C).t) (180*C.length+60):=by
 cases C with
 |nil=>exact ij bT (dk _)
 |cons x C=>
  obtain⟨has,es,subs,t⟩:=σ;have hC:(hs (x::C)).Nodup:=(lh.mp hd).2.1;have hl:(x::C).length<=sizeLine:=by omega
  cases has with
  |false=>
   have h:=Oj (p:=p) (w:=w) (ann:=ann) (c:=c) (S:=S) (os:=[]) (t:=t) (q:=q) (x::C) hl hn hC;exact ij (bD h bT) (by omega)
  |true=>
   have h:=Oj (p:=p) (w:=w) (ann:=ann) (c:=c) (S:=S) (os:=dT es::subs) (t:=t) (q:=q) (x::C) hl hn hC;have hm:=Oi (p:=p) (w:=w) (cz:=cz) (ann:=ann) (c:=c) (S:=S) (os:=subs) (es:=es) (sub:=kO t (x::C)) (t:=t+3*(x::C).length) hn hm (hg.1 rfl) (Cg _ _) (by rw[mn];exact hd) (by rw[rE];exact hb);rw[rE]at hm;exact ij (bD (et h) (bD (Hu (et hm)) bT)) (by omega)
theorem HC(C:List (Int×Str))(σ:iL)(hg:σ.good):(σ.flush C).good:=by
 cases C with
 |nil=>exact hg
 |cons x C=>
  have m7:kO σ.t (x::C)≠[]:=λh=>by have:=rE σ.t (x::C);rw[h]at this;simp at this
  unfold iL.flush;dsimp only;split
  ·exact⟨λ_ h=>m7 (List.append_eq_nil_iff.mp h).2,λh=>by cases h⟩
  ·exact⟨λ_=>m7,λh=>by cases h⟩
theorem Ee(C:List (Int×Str))(σ:iL)(hg:σ.good):(σ.flush C).es.map (·.hash)=σ.es.map (·.hash)++hs C:=by
 cases C with
 |nil=>simp[iL.flush,hs]
 |cons x C=>
  unfold iL.flush;dsimp only;split
  ·simp[mn]
  ·rename_i h
   rw[hg.2 (by simpa using h)];simp[mn]
theorem Ol(f:Option (Sem Value)×Sem Value->Option Addr×List (Sem Value×Sem Value)->Sem (ForInStep (Option Addr×List (Sem Value×Sem Value))))
(hf:∀k v main run,f (some k,v) (main,run)=(if((run++[(k,v)]).length==17)=true then do
    let main<-Cf (run++[(k,v)]) main
    pure (cg (main,[]))
   else pure (cg (main,run++[(k,v)]))))
(hn:cz<=S.heap.objs.size)(hm:sysModules<S.heap.objs.size):∀(rest R:List (Int×Str))(σ:iL),σ.good->(σ.es.map (·.hash)++hs (R++rest)).Nodup->σ.es.length+(R++rest).length<=sizeLine->
 Go treeTable p w cz ann (forIn (rest.map λx=>(some (uQ q x).1,(uQ q x).2)) (σ.main S,R.map (uQ q)) f) c (St S σ.objs σ.t)
  ((iL.run rest R σ).2.main S,(iL.run rest R σ).1.map (uQ q)) (St S (iL.run rest R σ).2.objs (iL.run rest R σ).2.t) (3200*rest.length)/\
  (iL.run rest R σ).2.good/\((iL.run rest R σ).2.es.map (·.hash)++hs (iL.run rest R σ).1).Nodup/\(iL.run rest R σ).2.es.length+(iL.run rest R σ).1.length<=sizeLine:=λrest=>by
 induction rest with
 |nil=>
  intro R σ hg hd hb;rw[c9]at hd hb;exact⟨by rw[List.map_nil,pv];exact bT,hg,hd,hb⟩
 |cons x rest ih=>
  intro R σ hg hd hb;rw[bJ,iN,hf];have hRx:R.map (uQ q)++[((uQ q x).1,(uQ q x).2)]=(R++[x]).map (uQ q):=by simp
  rw[hRx];have e1:R++x::rest=R++[x]++rest:=by simp
  rw[e1]at hd hb;cases h17:(R++[x]).length==17 with
  |true=>
   have er:iL.run (x::rest) R σ=iL.run rest [] (σ.flush (R++[x])):=by rw[iL.run,h17]
   rw[er,aj,h17,if_pos rfl];have hd':(σ.es.map (·.hash)++hs (R++[x])).Nodup:=by
    have e2:hs (R++[x]++rest)=hs (R++[x])++hs rest:=by simp[hs]
    rw[e2,<-eT]at hd;exact(lh.mp hd).1
   have Tc:σ.es.length+(R++[x]).length<=sizeLine:=by
    rw[aG (as:=R++[x])]at hb;omega
   obtain⟨a,b⟩:=ih [] (σ.flush (R++[x])) (HC _ _ hg) (by
    rw[Ee _ _ hg,eT,iO];have e2:hs (R++[x]++rest)=hs (R++[x])++hs rest:=by simp[hs]
    rw[e2]at hd;exact hd) (by
    have e3:=congrArg qv (Ee (R++[x]) σ hg);simp only[aj,aG,hs]at e3;rw[aG (as:=R++[x])]at hb;rw[iO];simp only[aG]at hb;omega)
   have hf:=Ed (p:=p) (w:=w) (cz:=cz) (ann:=ann) (c:=c) (S:=S) (q:=q) _ _ hg hn hm hd' Tc;rw[eq_of_beq h17]at hf;refine⟨ij (bD (a:=cg ((σ.flush (R++[x])).main S,[])) (aU:=St S (σ.flush (R++[x])).objs (σ.flush (R++[x])).t) (bD hf bT) a) (by rw[bE];omega),b⟩
  |false=>
   have er:iL.run (x::rest) R σ=iL.run rest (R++[x]) σ:=by rw[iL.run,h17]
   rw[er,aj,h17,if_neg aF];obtain⟨a,b⟩:=ih (R++[x]) σ hg hd hb;exact⟨ij (bD bT a) (by rw[bE];omega),b⟩
def iL.final(L:List (Int×Str))(t:Nat):iL:=(iL.run L [] ⟨false,[],[],t⟩).2.flush (iL.run L [] ⟨false,[],[],t⟩).1
theorem Td:∀(rest R:List (Int×Str))(σ:iL),(iL.run rest R σ).1.length<=R.length+rest.length:=by
 intro zx
 induction zx with
 |nil=>
  rintro R σ;simp[iL.run]
 |cons x rest ih=>
  rintro R σ;dsimp only[iL.run];split
  ·have:=ih [] (σ.flush (R++[x]));simp at this⊢;omega
  ·have:=ih (R++[x]) σ;simp at this⊢;omega
theorem HD(L:List (Int×Str))(t:Nat)(hn:cz<=S.heap.objs.size)(hm:sysModules<S.heap.objs.size)(hd:(hs L).Nodup)(hb:L.length<=sizeLine)(hh:(iL.final L t).has=true):
 Go treeTable p w cz ann (dictDisplay (L.map λx=>(some (uQ q x).1,(uQ q x).2))) c (St S [] t) (.ref S.heap.objs.size) (St S (iL.final L t).objs (iL.final L t).t) (3400*L.length+100):=by
 have key:=λf hf=>Ol (p:=p) (w:=w) (cz:=cz) (ann:=ann) (c:=c) (S:=S) (q:=q) f hf hn hm L [] ⟨false,[],[],t⟩ ⟨(by intro h;cases h),λ_=>rfl⟩ (by simpa using hd) (by simpa using hb);have aux:∀f,(∀k v main run,f (some k,v) (main,run)=(if((run++[(k,v)]).length==17)=true then do
       let main<-Cf (run++[(k,v)]) main
       pure (cg (main,[]))
  else pure (cg (main,run++[(k,v)]))))->
  Go treeTable p w cz ann (do
   let s<-forIn (L.map λx=>(some (uQ q x).1,(uQ q x).2)) ((none:Option Addr),([]:List (Sem Value×Sem Value))) f;let d<-Cf s.2 s.1
   match d with
    |some d=>pure (gh d)
    |none=>newDict) c (St S [] t) (.ref S.heap.objs.size) (St S (iL.final L t).objs (iL.final L t).t) (3400*L.length+100):=by
  intro f hf;obtain⟨k0,k1,k2,k3⟩:=key f hf;have hl:=Td L [] ⟨false,[],[],t⟩;rw[Hi,jA]at hl;refine ij (bD k0 (bD (k₂:=0) (Ed (q:=q) _ _ k1 hn hm k2 k3) ?_)) (by omega);show Go treeTable p w cz ann (match(iL.final L t).main S with|some d=>pure (gh d)|none=>newDict) c _ _ _ _;unfold iL.main;rw[hh,if_pos rfl];exact bT
 unfold dictDisplay;exact aux _ (λ_ _ _ _=>rfl)
end
end
section
def Lz(e:Expr):Option (Const×Nat×Pos):=(ae6 e).map (·.1)
theorem Bf(h:Lz e=some x):e=.Constant x.1 x.2.1 x.2.2:=by
 obtain⟨x,_,rfl⟩:=dH h;exact x.2
def Zg:Const->Option Int
 |.int k=>some k
 |_=>none
theorem LA(h:Zg c=some k):c=.int k:=by
 cases c<;>first|exact no h|exact af h▸rfl
def Zh:Const->Option Str
 |.str k=>some k
 |_=>none
theorem LB(h:Zh c=some k):c=.str k:=by
 cases c<;>first|exact no h|exact af h▸rfl
def Xk(k:Option Expr)(v:Expr):Option (Int×Str):=k.bind λk=>(Lz k).bind λx=>(Zg x.1).bind λi=>(Lz v).bind λy=>(Zh y.1).map λs=>(i,s)
def Bg:List (Option Expr)->List Expr->Option (List (Int×Str))
 |[],vs=>match vs with
  |[]=>some []
  |_::_=>none
 |k::ks,vs=>match vs with
  |[]=>none
  |v::vs=>(Xk k v).bind λx=>(Bg ks vs).map (x::·)
theorem Ef(env)(pos)(h:Xk k v=some x):(∃e,k=some e/\eval e env=(uQ pos x).1)/\(do let x<-eval v env;standAt pos;pure x)=(uQ pos x).2:=by
 cases k with
 |none=>exact no h
 |some k=>
  obtain⟨c,h1,h⟩:=aO (show((Lz k).bind _)=some x from h);obtain⟨i,h2,h⟩:=aO h;obtain⟨d,h3,h⟩:=aO h;obtain⟨s,h4,h⟩:=dH h;rw[Bf h1,LA h2,Bf h3,LB h4,<-h];exact⟨⟨_,rfl,rfl⟩,rfl⟩
theorem Eg(env)(pos)(ks:List (Option Expr)):∀(vs:List Expr)(L:List (Int×Str)),Bg ks vs=some L->
 (evalEachOpt ks env).zip ((evalEach vs env).map λv=>do let x<-v;standAt pos;pure x)=L.map λx=>(some (uQ pos x).1,(uQ pos x).2):=by
 induction ks with
 |nil=>
  intro vs L h;cases vs with
  |nil=>rw[<-af h];rfl
  |cons v vs=>exact no h
 |cons k ks ih=>
  intro vs L h;cases vs with
  |nil=>exact no h
  |cons v vs=>
   obtain⟨x,h1,h⟩:=aO h;obtain⟨L',h2,h3⟩:=dH h;obtain⟨⟨e,rfl,e1⟩,e2⟩:=Ef env pos h1;rw[<-h3,bJ,<-ih _ _ h2,<-e1,<-e2];rfl
section
variable{p:bb}{w:World}{cz:Nat}{ann:Option Value}{c:Code}{S:ah}
theorem Om(ho:s.heap.get? mainNs=some o)(hd:o.data=.dict es ep)(hr:aRefKeyMayBeTheName n es=false):
 Go treeTable p w cz ann (nsSet mainNs n v) c s () {s with heap:=s.heap.update mainNs (ad0 n (if n.cps.isEmpty then 0 else reduceHash (w.params.strHash n.cps)) (.str n s.toks) v),toks:=s.toks+1} 4:=by
 show Go _ _ _ _ _ _ _ _ _ _ (1+0+(1+0+(1+0+(1+0))));unfold nsSet;refine bD (Ze bT) ?_;refine bD (xV bT) ?_;refine bD (qw ho bT) ?_;rw[hd];dsimp only;rw[hr,if_neg aF];exact Bc (by rw[ho];rfl) (.inr rfl) bT
def afb(d:Data):Option {x:Array c8×Nat // d=.dict x.1 x.2}:=if h:d.ctorIdx=3 then PySem.Data.dict.elim (motive:=λd=>Option {x:Array c8×Nat // d=.dict x.1 x.2}) d h λa b=>some ⟨(a,b),rfl⟩else none
def afc(n:Str)(h:Heap):Option Bool:=(h.get? mainNs).bind λo=>(afb o.data).map λx=> !aRefKeyMayBeTheName n x.1.1
def xA(n:Str)(h:Heap):Bool:=(afc n h).getD false
theorem Ci(e:xA n h=true):∃o es ep,h.get? mainNs=some o/\o.data=.dict es ep/\aRefKeyMayBeTheName n es=false:=by
 unfold xA at e;cases hq:afc n h with
 |none=>rw[hq]at e;exact l8 e
 |some b=>
  rw[hq]at e;obtain⟨o,h1,h2⟩:=aO hq;obtain⟨x,_,h3⟩:=dH h2;exact⟨o,x.1.1,x.1.2,h1,x.2,(cW _).mp (h3.trans e)⟩
theorem LD{h:Heap}{os:List Obj}{a:Addr}{o:Obj}(e:h.get? a=some o):(jQ h os).get? a=some o:=by
 rw[alE]at e⊢;refine⟨?_,e.2⟩;obtain⟨objs,life⟩:=h;have e1:objs[a]? =some o:=e.1;show(objs++os.toArray)[a]? =some o;have: @LT.lt Nat _ a objs.size:=(Array.getElem?_eq_some_iff.mp e1).1;rw[oN this];exact e1
def Cj(w:World)(n:Str)(L:List (Int×Str))(S:ah):ah:=
 {S with heap:=(jQ S.heap (iL.final L S.toks).objs).update mainNs (ad0 n (if n.cps.isEmpty then 0 else reduceHash (w.params.strHash n.cps)) (.str n (iL.final L S.toks).t) (.ref S.heap.objs.size)),toks:=(iL.final L S.toks).t+1}
theorem Ao(hL:Bg ks vs=some L)(hst:storeName env n=nsSet mainNs n)
(hn:cz<=S.heap.objs.size)(hm:sysModules<S.heap.objs.size)(hd:(hs L).Nodup)(hb:L.length<=sizeLine)(hh:(iL.final L S.toks).has=true)(hr:xA n S.heap=true):
 Go treeTable p w cz ann (exec (.Assign [.Name n np] (.Dict ks vs dp) sp) env) c S .next (Cj w n L S) (1+0+(0+((1+0+(3400*L.length+100))+(0+((1+0+(1+0+(4+(1+0))))+0))))):=by
 have ex:exec (.Assign [.Name n np] (.Dict ks vs dp) sp) env=(do
  standAt sp
  if<-swapsWithSole [.Name n np] (.Dict ks vs dp) sp.line env then do
   evalThenUse (.Dict ks vs dp) env λv=>assignAll v ((assignEach [.Name n np] env).map (·.2))
   pure .next
  else do
   let v<-eval (.Dict ks vs dp) env
   assignStores env v (<-swappedStores [.Name n np] (.Dict ks vs dp) env) ((assignEach [.Name n np] env).map (·.2))):=by rfl'
 rw[ex];refine bD (JI bT) ?_;refine bD (a:=false) (k₁:=0) bT ?_;rw[if_neg aF];refine bD (a:=.ref S.heap.objs.size) (aU:=St S (iL.final L S.toks).objs (iL.final L S.toks).t) (k₁:=1+0+(3400*L.length+100)) ?_ ?_
 ·show Go _ _ _ _ _ (do
   standAt dp
   dictDisplay ((evalEachOpt ks env).zip ((evalEach vs env).map λv=>do let x<-v;standAt dp;pure x))) _ _ _ _ _
  refine bD (JI bT) ?_;rw[Eg env dp ks vs L hL];have e:St S [] S.toks=S:=by
   obtain⟨⟨objs,life⟩,g,d,t,o⟩:=S;simp[St,jQ]
  have:=HD (p:=p) (w:=w) (cz:=cz) (ann:=ann) (c:=c) (S:=S) (q:=dp) L S.toks hn hm hd hb hh;rw[e]at this;exact this
 refine bD (a:=none) (k₁:=0) bT ?_;show Go _ _ _ _ _ (do (do standAt np;bindName env n (.ref S.heap.objs.size));pure ry) _ _ _ _ _;refine bD (a:=()) (aU:=Cj w n L S) (k₁:=1+0+(1+0+(4+(1+0)))) (k₂:=0) (bD (k₂:=1+0+(4+(1+0))) (JI bT) ?_) bT;unfold bindName;rw[hst];obtain⟨o,es,ep,h1,h2,h3⟩:=Ci hr;show Go _ _ _ _ _ _ _ _ _ _ (1+0+(4+(1+0)));refine bD (et (D6 bT)) ?_;refine bD (Om (s:=St S (iL.final L S.toks).objs (iL.final L S.toks).t) (LD h1) h2 h3) ?_;exact D6 bT
theorem LF{st:Stmt}{env:Env}{s s':ah}{k:Nat}(h:Go treeTable p w cz ann (exec st env) c s .next s' k)(q:Pos)(F:Frame):
 ∃n q',n<=k+1/\segRun treeTable p w cz ann 1 n s (pieceOf st env c q [F])=some (.next,s',c,q'):=by
 obtain⟨n,q',l,e⟩:=h q doneF deadEnd id id F [];refine⟨n+1,q',ji l 1,seg_go e ?_⟩;rfl
end
end
def viQ(v:Value):Option {x:Int×Tok // v=.int x.1 x.2}:=if h:v.ctorIdx=4 then PySem.Value.int.elim (motive:=λv=>Option {x:Int×Tok // v=.int x.1 x.2}) v h λa b=>some ⟨(a,b),rfl⟩else none
def vfQ(v:Value):Option {x:UInt64×Tok // v=.float x.1 x.2}:=if h:v.ctorIdx=5 then PySem.Value.float.elim (motive:=λv=>Option {x:UInt64×Tok // v=.float x.1 x.2}) v h λa b=>some ⟨(a,b),rfl⟩else none
def vsQ(v:Value):Option {x:Str×Tok // v=.str x.1 x.2}:=if h:v.ctorIdx=6 then PySem.Value.str.elim (motive:=λv=>Option {x:Str×Tok // v=.str x.1 x.2}) v h λa b=>some ⟨(a,b),rfl⟩else none
def vrQ(v:Value):Option {x:Addr // v=.ref x}:=if h:v.ctorIdx=10 then PySem.Value.ref.elim (motive:=λv=>Option {x:Addr // v=.ref x}) v h λa=>some ⟨a,rfl⟩else none
def anq(d:Data):Option {x:Array (Int×Value)×Nat×SetTable // d=.set x.1 x.2.1 x.2.2}:=if h:d.ctorIdx=4 then PySem.Data.set.elim (motive:=λd=>Option {x:Array (Int×Value)×Nat×SetTable // d=.set x.1 x.2.1 x.2.2}) d h λa b c=>some ⟨(a,b,c),rfl⟩else none
def vInt(v:Value):Option Int:=(viQ v).map λx=>x.1.1
def vStr(v:Value):Option Str:=(vsQ v).map λx=>x.1.1
def afd(v:Value):Option UInt64:=(vfQ v).bind λx=>bif bM x.1.2 0 then none else some x.1.1
def Oo(h:Heap)(n:Str):Option Obj:=(h.nsMap mainGlobals n).bind λv=>(vrQ v).bind λa=>if a.1=sysModules then none else h.get? a.1
def Oq(h:Heap)(n:Str):Option (Bool×List (Int×Option Int)):=(Oo h n).bind λo=>(anq o.data).map λx=>((o.cls==.type "set"&&o.dict.isNone)&&(o.slots.isEmpty&&x.1.2.2.fits x.1.1.size),x.1.1.toList.map λe=>(e.1,vInt e.2))
def HE(f:c8->α)(h:Heap)(n:Str):Option (Bool×List α):=(Oo h n).bind λo=>(afb o.data).map λx=>((o.cls==.type "dict"&&o.dict.isNone)&&o.slots.isEmpty,x.1.1.toList.map f)
structure Look where
 fl:List (Option (Option UInt64))
 st:Option (Bool×List (Int×Option Int))
 d3:Option (Bool×List (Int×Option Int×Option Str))
 d4:Option (Bool×List (Int×Option Str×Option Int))
def Ot(fn:List Str)(sn n3 n4:Str)(h:Heap):Look:=
 ⟨fn.map λn=>(h.nsMap mainGlobals n).map afd,Oq h sn,HE (λe=>(e.hash,vInt e.key,vStr e.val)) h n3,HE (λe=>(e.hash,vStr e.key,vInt e.val)) h n4⟩
structure JM where
 p:bb
 q:bb
 loose:List Str
 pre:Nat
 i:Nat
 n:Str
 L:List (Int×Str)
 look:Heap->Look
def anr(e:ae):Option (List (Option ae)×List ae×Pos):=if h:e.ctorIdx=6 then PySem.Expr.Dict.elim (motive_1:=λ_=>Option (List (Option ae)×List ae×Pos)) e h λa b c=>some (a,b,c)else none
def Te(s:Stmt):Option (List ae×ae×Pos):=if h:s.ctorIdx=5 then PySem.Stmt.Assign.elim (motive_2:=λ_=>Option (List ae×ae×Pos)) s h λa b c=>some (a,b,c)else none
def fdS(s:Stmt):Option (Str×nT×List Stmt×Scope):=if h:s.ctorIdx=0 then rg (motive_2:=λ_=>Option (Str×nT×List Stmt×Scope)) s h λn a b _ _ _ c _ _ _=>some (n,a,b,c)else none
def Ou(s:Stmt):Option (Str×Pos):=(Te s).bind λx=>x.1.head?.bind λe=>(sf e).map λy=>y.1
def Zi(s:Stmt):List (Option ae)×List ae×Pos:=((Te s).bind λx=>anr x.2.1).getD default
def pY(s:Stmt):List (Option ae):=(Zi s).1
def pZ(s:Stmt):List ae:=(Zi s).2.1
def Ov(s:Stmt):Pos:=((Ou s).map (·.2)).getD default
def Ox(s:Stmt):Pos:=(Zi s).2.2
def Oy(s:Stmt):Pos:=((Te s).map (·.2.2)).getD default
abbrev TG:=(String->Option alB)->bb->World->Nat->Option Value->Nat->ah->Thread->Option (ah×Thread)
abbrev SR:=(String->Option alB)->bb->World->Nat->Option Value->Nat->Nat->ah->Thread->Option (Flow×ah×Code×Pos)
def Zj(p:bb)(c f:Addr):Env:={scope:=p.main.scope,locals:=mainNs,globals:=mainNs,cells:=[],code:=.ref c,frame:=some f}
def Tf(P:JM)(az s:ah):Bool:=staticsOk (importedModules P.p.main.body) az.heap s.heap&&namesBound P.p s.heap&&gensDone s&&laidKept az.heap s.heap
section
abbrev pw:bb:=PySem.Challenge.pw_ta0129_02
def iP:List Str:=["ONE_THIRD","ONE_SIXTH","TWO_THIRD","b1_set","b3_exceptions","EXACT_TOKEN_TYPES"].map tF
def Tg(s:Stmt):Bool:=((Ou s).map λx=>iP.contains x.1).getD false
def xX:Stmt:=(behindTheImports pw)[20]!
def L3:List (Int×Str):=(Bg (pY xX) (pZ xX)).getD []
def Zk(n:Str)(s:Stmt):Option Int:=(Ou s).bind λm=>if m.1=n then(Te s).bind λx=>(Lz x.2.1).bind λc=>Zg c.1 else none
def constOf(n:Str):List Stmt->Option Int
 |s::r=>(Zk n s).or (constOf n r)
 |[]=>none
def afe(b:List Stmt)(k:Option ae)(v:ae):Option (Str×Int):=k.bind λk=>(Lz k).bind λc=>(Zh c.1).bind λk=>(sf v).map λg=>(k,(constOf g.1.1 b).getD 0)
def aff(b:List Stmt)(ks:List (Option ae))(vs:List ae):List (Str×Int):=(ks.zip vs).filterMap λx=>afe b x.1 x.2
def Eh:Stmt:=(behindTheImports pw)[73]!
def L4:List (Str×Int):=aff pw.main.body (pY Eh) (pZ Eh)
def ik:bb:={pw with main:={pw.main with body:=pw.main.body.filter λs=> !Tg s}}
def HF:JM:=⟨pw,ik,iP,12,20,"b3_exceptions",L3,Ot ["ONE_THIRD","ONE_SIXTH","TWO_THIRD"] "b1_set" "b3_exceptions" "EXACT_TOKEN_TYPES"⟩
def mM:Env:=Zj pw 13 14
def mN:List Int:=[65024,65025,65026,65027,65028,65029,6150,65030,65031,65032,65033,6155,6156,6157,8203,8204,8205,65034,65035,65036,65037,65038,65039,173,847,8288,65279]
def Bh(w:World):Look:=⟨[some (some 4599676419421066581),some (some 4595172819793696085),some (some 4604180019048437077)],some (true,mN.map λi=>(i,some i)),
 some (true,L3.map λx=>(hashInt x.1,some x.1,some x.2)),some (true,L4.map λx=>(hashStr w x.1,some x.1,some x.2))⟩
abbrev JN:String->Option alB:=PySem.W.Fast.tw14364793385576792824
abbrev tgQ:TG:=PySem.W.Fast.tw15667345088766844465
abbrev Ss:SR:=PySem.W.Fast.tw14374325043358763698
abbrev dnQ:(String->Option alB)->Code->Sem Fin:=PySem.W.Fast.tw11892475500146522536
abbrev osX(s:ah):=openSeen ik iP (importedModules pw.main.body) (λ_=>true) true s
abbrev osQ(s:ah):=PySem.W.Fast.tw4187177175401517315 ik iP (importedModules pw.main.body) (λ_=>true) true s
abbrev ej:Code:=.body (behindTheImports pw) mM
def hS(P:W5)(s:Str):Int:=if s.cps.isEmpty then 0 else reduceHash (P.strHash s.cps)
def sAt(i:Nat):Stmt:=(behindTheImports pw)[i]!
def xY(s:Stmt):nT:=((fdS s).map (·.2.1)).getD default
def Ck(s:Stmt):List Stmt:=((fdS s).map (·.2.2.1)).getD []
def oe(s:Stmt):Scope:=((fdS s).map (·.2.2.2)).getD default
def oD(j:Nat):Obj:=(iL.final L3 423).objs.getD j default
section
variable(P:W5)
def kI(z:Int):Value:=.int z 0
def kR(a:Addr):Value:=.ref a
def kS(s:Str)(t:Tok):Value:=.str s t
def kE(s:Str)(t:Tok)(v:Value):c8:=⟨hS P s,.str s t,v⟩
def kF(c:Value)(n:Str)(i g:Nat)(m d:Value):Obj:={cls:=c,dict:=none,data:=.func {name:=n,qualname:=n,params:=xY (sAt i),body:=.stmts (Ck (sAt i)),scope:=oe (sAt i),globals:=g,closure:=[],defaults:=.none,kwdefaults:=.none,doc:=.none,pyModule:=m,annotations:=none,code:=d,closureTuple:=.none,builtins:=0},slots:= #[]}
def kT(x:Array Value):Obj:={cls:=.type "tuple",dict:=none,data:=.seq x 0,slots:= #[]}
def kC(x:Array Value):Obj:={cls:=.type "code",dict:=none,data:=.fields x,slots:= #[]}
def kN(x:Array Value):Obj:={cls:=.none,dict:=none,data:=.fields x,slots:= #[]}
def kD(x:Array c8)(n:Nat):Obj:={cls:=.type "dict",dict:=none,data:=.dict x n,slots:= #[]}
def kn0:Str:="<module>"
def jH:Str:="/claim/cut.py"
def kn2:Str:="__main__"
def kn3:Str:="__name__"
def kn4:Str:="cpy313.stringprep"
def kn5:Str:="__doc__"
def kn6:Str:="__package__"
def kn7:Str:="__loader__"
def kn8:Str:="__spec__"
def kn9:Str:="__annotations__"
def anz:Str:="__builtins__"
def anA:Str:="__file__"
def anB:Str:="__cached__"
def anC:Str:="ONE_THIRD"
def anD:Str:="ONE_SIXTH"
def anE:Str:="TWO_THIRD"
def Oz:Str:="rgb_to_hls"
def OA:Str:="hls_to_rgb"
def OB:Str:=⟨#[95,118]⟩
def OC:Str:="rgb_to_hsv"
def OD:Str:="hsv_to_rgb"
def anF:Str:="_DIV_LIMIT"
def OE:Str:="_div2n1n"
def OG:Str:="_div3n2n"
def OH:Str:="_int2digits"
def OI:Str:="_digits2int"
def OJ:Str:="_divmod_pos"
def OL:Str:="int_divmod"
def HG:Str:=⟨#[114]⟩
def afg:Str:=⟨#[103]⟩
def LG:Str:=⟨#[98]⟩
def afh:Str:="maxc"
def afi:Str:="minc"
def anG:Str:="sumc"
def afj:Str:="rangec"
def afk:Str:=⟨#[108]⟩
def Ti:Str:=⟨#[115]⟩
def afl:Str:=⟨#[114,99]⟩
def afm:Str:=⟨#[103,99]⟩
def afn:Str:=⟨#[98,99]⟩
def Tj:Str:=⟨#[104]⟩
def OM:Str:="cpy313.colorsys"
def afo:Str:=⟨#[109,50]⟩
def afp:Str:=⟨#[109,49]⟩
def Zl:Str:="hue"
def afq:Str:=⟨#[118]⟩
def anH:Str:=⟨#[105]⟩
def anI:Str:=⟨#[102]⟩
def anJ:Str:=⟨#[112]⟩
def To:Str:=⟨#[113]⟩
def anK:Str:=⟨#[116]⟩
def Tp:Str:=⟨#[97]⟩
def HH:Str:=⟨#[110]⟩
def anL:Str:="pad"
def anM:Str:="half_n"
def anN:Str:="mask"
def afr:Str:=⟨#[98,49]⟩
def afs:Str:=⟨#[98,50]⟩
def anO:Str:=⟨#[113,49]⟩
def anP:Str:=⟨#[113,50]⟩
def LH:Str:="cpy313._pylong"
def anQ:Str:="a12"
def anR:Str:=⟨#[97,51]⟩
def aft:Str:="a_digits"
def afu:Str:="inner"
def afv:Str:="digits"
def anS:Str:="q_digits"
def anT:Str:="a_digit"
def anU:Str:="q_digit"
def anV:Str:="b1_set"
def ON:Str:="in_table_b1"
def afw:Str:="code"
def anW:Str:="b3_exceptions"
def Tq:Str:="cpy313.token"
def OO:Str:="map_table_b3"
def anY:Str:="ENDMARKER"
def anZ:Str:="LPAR"
def an0:Str:="RPAR"
def an1:Str:="LSQB"
def an2:Str:="RSQB"
def an3:Str:="COLON"
def an4:Str:="COMMA"
def an5:Str:="SEMI"
def an6:Str:="PLUS"
def an7:Str:="MINUS"
def an8:Str:="STAR"
def an9:Str:="SLASH"
def aoa:Str:="VBAR"
def aob:Str:="AMPER"
def aoc:Str:="LESS"
def aod:Str:="GREATER"
def aoe:Str:="EQUAL"
def aof:Str:="DOT"
def aog:Str:="PERCENT"
def aoh:Str:="LBRACE"
def aoi:Str:="RBRACE"
def aoj:Str:="EQEQUAL"
def aok:Str:="NOTEQUAL"
def aol:Str:="LESSEQUAL"
def aom:Str:="GREATEREQUAL"
def afx:Str:="TILDE"
def afy:Str:="CIRCUMFLEX"
def afz:Str:="LEFTSHIFT"
def afA:Str:="RIGHTSHIFT"
def afB:Str:="DOUBLESTAR"
def afC:Str:="PLUSEQUAL"
def afD:Str:="MINEQUAL"
def afE:Str:="STAREQUAL"
def afF:Str:="SLASHEQUAL"
def afG:Str:="PERCENTEQUAL"
def afH:Str:="AMPEREQUAL"
def afI:Str:="VBAREQUAL"
def afJ:Str:="CIRCUMFLEXEQUAL"
def afK:Str:="LEFTSHIFTEQUAL"
def afL:Str:="RIGHTSHIFTEQUAL"
def afM:Str:="DOUBLESTAREQUAL"
def afN:Str:="DOUBLESLASH"
def afO:Str:="DOUBLESLASHEQUAL"
def afP:Str:=⟨#[65,84]⟩
def afQ:Str:="ATEQUAL"
def afR:Str:="RARROW"
def afS:Str:="ELLIPSIS"
def afT:Str:="COLONEQUAL"
def afU:Str:="EXCLAMATION"
def afV:Str:="NT_OFFSET"
def afW:Str:="EXACT_TOKEN_TYPES"
def afX:Str:=⟨#[33]⟩
def afY:Str:=⟨#[33,61]⟩
def afZ:Str:=⟨#[37]⟩
def af0:Str:=⟨#[37,61]⟩
def af1:Str:=⟨#[38]⟩
def af2:Str:=⟨#[38,61]⟩
def af3:Str:=⟨#[40]⟩
def af4:Str:=⟨#[41]⟩
def af5:Str:=⟨#[42]⟩
def af6:Str:=⟨#[42,42]⟩
def af7:Str:="**="
def af8:Str:=⟨#[42,61]⟩
def af9:Str:=⟨#[43]⟩
def aga:Str:=⟨#[43,61]⟩
def agb:Str:=⟨#[44]⟩
def agc:Str:=⟨#[45]⟩
def agd:Str:=⟨#[45,61]⟩
def age:Str:=⟨#[45,62]⟩
def agf:Str:=⟨#[46]⟩
def agg:Str:="..."
def agh:Str:=⟨#[47]⟩
def agi:Str:=⟨#[47,47]⟩
def agj:Str:="//="
def agk:Str:=⟨#[47,61]⟩
def agl:Str:=⟨#[58]⟩
def agm:Str:=⟨#[58,61]⟩
def agn:Str:=⟨#[59]⟩
def ago:Str:=⟨#[60]⟩
def agp:Str:=⟨#[60,60]⟩
def agq:Str:="<<="
def agr:Str:=⟨#[60,61]⟩
def ags:Str:=⟨#[61]⟩
def agt:Str:=⟨#[61,61]⟩
def agu:Str:=⟨#[62]⟩
def agv:Str:=⟨#[62,61]⟩
def agw:Str:=⟨#[62,62]⟩
def agx:Str:=">>="
def agy:Str:=⟨#[64]⟩
def agz:Str:=⟨#[64,61]⟩
def agA:Str:=⟨#[91]⟩
def agB:Str:=⟨#[93]⟩
def agC:Str:=⟨#[94]⟩
def agD:Str:=⟨#[94,61]⟩
def agE:Str:=⟨#[123]⟩
def agF:Str:=⟨#[124]⟩
def agG:Str:=⟨#[124,61]⟩
def agH:Str:=⟨#[125]⟩
def agI:Str:=⟨#[126]⟩
def pf:Str:="law_ta0129_02"
def Ei:Str:="ISTERMINAL"
def Ej:Str:="ISNONTERMINAL"
def Ek:Str:="ISEOF"
def El:Str:="_law_page"
def Em:Str:="_law_read"
def En:Str:="_law_upsets"
def Eo:Str:="_law_colours"
def Ep:Str:="_law_ahead"
def Er:Str:="_law_beaten"
def Es:Str:="_law_orders"
def Et:Str:="_law_refused"
def Eu:Str:="_law_plain"
def Ew:Str:="_law_fourfold"
def Ex:Str:="law"
def OP:Str:=⟨#[120]⟩
def agJ:Str:="symbols"
def agK:Str:="upsets"
def agL:Str:="before"
def agM:Str:="mark"
def agN:Str:="symbol"
def agO:Str:="heap"
def agP:Str:="count"
def agQ:Str:="told"
def agR:Str:="one"
def agS:Str:="tints"
def agT:Str:="share"
def agU:Str:="value"
def Xl:Str:="light"
def agV:Str:="grey"
def Xm:Str:="red"
def Xn:Str:="green"
def Xo:Str:="blue"
def Xp:Str:="first"
def agW:Str:="second"
def agX:Str:="depth"
def agY:Str:="step"
def Xq:Str:="number"
def agZ:Str:="divisor"
def ag0:Str:="quotient"
def ag1:Str:="rest"
def ag2:Str:="less"
def ag3:Str:="left"
def ke0:=kE P kn3 165 (kS kn4 354)
def Xr:=kE P kn5 166 .none
def Xs:=kE P kn6 167 .none
def Xu:=kE P kn7 168 (.builtin "__main__.__loader__#opaque")
def Xv:=kE P kn8 169 .none
def Xx:=kE P kn9 170 (kR 6)
def Xy:=kE P anz 171 (kR 4)
def Xz:=kE P anA 173 (kS jH 172)
def XA:=kE P anB 174 .none
def XB:=kE P anC 192 (.float 4599676419421066581 191)
def Ey:=kE P anD 196 (.float 4595172819793696085 195)
def Ez:=kE P anE 200 (.float 4604180019048437077 199)
def EA:=kE P Oz 219 (kR 21)
def EB:=kE P OA 230 (kR 28)
def EC:=kE P OB 239 (kR 35)
def ED:=kE P OC 257 (kR 42)
def EE:=kE P OD 271 (kR 49)
def EF:=kE P anF 275 (.int 4000 274)
def EG:=kE P OE 292 (kR 56)
def EH:=kE P OG 306 (kR 63)
def EI:=kE P OH 317 (kR 70)
def EJ:=kE P OI 328 (kR 77)
def EK:=kE P OJ 343 (kR 84)
def EL:=kE P OL 353 (kR 91)
def HI:=kE P anV 415 (kR 99)
def LI:=kE P ON 422 (kR 109)
def OQ:=kE P anW 2373 (kR 110)
def Zm:=kE P kn3 165 (kS Tq 2382)
def Tr:=kE P OO 2381 (kR 155)
def Ts:=kE P anY 2385 (.int 0 2384)
def Tt:=kE P anZ 2387 (.int 7 2386)
def Tv:=kE P an0 2389 (.int 8 2388)
def Tw:=kE P an1 2391 (.int 9 2390)
def Tx:=kE P an2 2393 (.int 10 2392)
def Tz:=kE P an3 2395 (.int 11 2394)
def TA:=kE P an4 2397 (.int 12 2396)
def TB:=kE P an5 2399 (.int 13 2398)
def TC:=kE P an6 2401 (.int 14 2400)
def TF:=kE P an7 2403 (.int 15 2402)
def TH:=kE P an8 2405 (.int 16 2404)
def TJ:=kE P an9 2407 (.int 17 2406)
def TK:=kE P aoa 2409 (.int 18 2408)
def TL:=kE P aob 2411 (.int 19 2410)
def TM:=kE P aoc 2413 (.int 20 2412)
def TN:=kE P aod 2415 (.int 21 2414)
def TP:=kE P aoe 2417 (.int 22 2416)
def TQ:=kE P aof 2419 (.int 23 2418)
def TR:=kE P aog 2421 (.int 24 2420)
def TU:=kE P aoh 2423 (.int 25 2422)
def TV:=kE P aoi 2425 (.int 26 2424)
def TX:=kE P aoj 2427 (.int 27 2426)
def TY:=kE P aok 2429 (.int 28 2428)
def T2:=kE P aol 2431 (.int 29 2430)
def T3:=kE P aom 2433 (.int 30 2432)
def T4:=kE P afx 2435 (.int 31 2434)
def T5:=kE P afy 2437 (.int 32 2436)
def Zn:=kE P afz 2439 (.int 33 2438)
def Zo:=kE P afA 2441 (.int 34 2440)
def Zp:=kE P afB 2443 (.int 35 2442)
def Zq:=kE P afC 2445 (.int 36 2444)
def Zr:=kE P afD 2447 (.int 37 2446)
def Zs:=kE P afE 2449 (.int 38 2448)
def Zt:=kE P afF 2451 (.int 39 2450)
def Zu:=kE P afG 2453 (.int 40 2452)
def Zv:=kE P afH 2455 (.int 41 2454)
def Zw:=kE P afI 2457 (.int 42 2456)
def Zx:=kE P afJ 2459 (.int 43 2458)
def Zy:=kE P afK 2461 (.int 44 2460)
def Zz:=kE P afL 2463 (.int 45 2462)
def ZA:=kE P afM 2465 (.int 46 2464)
def ZC:=kE P afN 2467 (.int 47 2466)
def ZD:=kE P afO 2469 (.int 48 2468)
def ZE:=kE P afP 2471 (.int 49 2470)
def ZF:=kE P afQ 2473 (.int 50 2472)
def ZG:=kE P afR 2475 (.int 51 2474)
def ZH:=kE P afS 2477 (.int 52 2476)
def ZI:=kE P afT 2479 (.int 53 2478)
def ZK:=kE P afU 2481 (.int 54 2480)
def ZL:=kE P afV 2483 (.int 256 2482)
def ag4:=kE P afW 2580 (kR 156)
def ag5:=kE P age 2518 (.int 51 2474)
def ag6:=kE P agf 2520 (.int 23 2418)
def ag7:=kE P agg 2522 (.int 52 2476)
def ag8:=kE P agh 2524 (.int 17 2406)
def ag9:=kE P agi 2526 (.int 47 2466)
def aha:=kE P agj 2528 (.int 48 2468)
def ahb:=kE P agk 2530 (.int 39 2450)
def ahc:=kE P agl 2532 (.int 11 2394)
def ahd:=kE P agm 2534 (.int 53 2478)
def ahe:=kE P agn 2536 (.int 13 2398)
def ahf:=kE P ago 2538 (.int 20 2412)
def ahg:=kE P agp 2540 (.int 33 2438)
def ahh:=kE P agq 2542 (.int 44 2460)
def ahi:=kE P agr 2544 (.int 29 2430)
def ahj:=kE P ags 2546 (.int 22 2416)
def ahk:=kE P agt 2548 (.int 27 2426)
def ahl:=kE P agu 2550 (.int 21 2414)
def ahm:=kE P agv 2552 (.int 30 2432)
def ahn:=kE P agw 2553 (.int 34 2440)
def aho:=kE P agx 2554 (.int 45 2462)
def XC:=kE P agy 2555 (.int 49 2470)
def XE:=kE P agz 2556 (.int 50 2472)
def XF:=kE P agA 2557 (.int 9 2390)
def XG:=kE P agB 2558 (.int 10 2392)
def XH:=kE P agC 2559 (.int 32 2436)
def XI:=kE P agD 2560 (.int 43 2458)
def XJ:=kE P agE 2561 (.int 25 2422)
def XK:=kE P agF 2562 (.int 18 2408)
def XM:=kE P agG 2563 (.int 42 2456)
def XN:=kE P agH 2564 (.int 26 2424)
def XQ:=kE P agI 2565 (.int 31 2434)
def cJ:=kT #[]
def eH:=kN #[]
def rm:=kC #[(kS kn0 182),(kS kn0 183),(kS jH 184),(kI 1),(kI 0),(kI 0),(kI 0),(kI 0),(kR 11),(.bool false),(kI 181),(kR 12),.none,.none,.none,.none,(kI 185),(kI 1),(kS jH 186)]
def rn:Obj:={cls:=(.type "frame"),dict:=none,data:=.plain,slots:= #[(some (kR 13)),(some (kR 3)),(some (kR 3)),none,(some (kS kn2 164)),none,(some (kR 0))]}
def OR:Heap:=⟨#[oO P,oT P,oU P,boot_o_3 P,oW P,oX P,oY P,oZ P,o3 P,o5 P,lH P,cJ,eH,rm,rn],(fZ P).life⟩
def OS:Nat:=187
def ZM:Pos:=⟨0,0,0,0⟩
def JO:Heap:=⟨#[oO P,oT P,oU P,boot_o_3 P,oW P,oX P,oY P,oZ P,o3 P,o5 P,lH P,cJ,eH,rm,rn],(fZ P).life⟩
def JP:Nat:=187
def T6:Pos:=⟨0,0,0,0⟩
def aon:=kD #[ke0 P,Xr P,Xs P,Xu P,Xv P,Xx P,Xy P,Xz P,XA P,XB P,Ey P,Ez P,EA P,EB P,EC P,ED P,EE P,EF P,EG P,EH P,EI P,EJ P,EK P,EL P] 24
def XR:=kN #[(kI 5),(kI 0),(kR 20),(kI 28),(kI 0),(kR 27),(kI 37),(kI 0),(kR 34),(kI 46),(kI 0),(kR 41),(kI 65),(kI 0),(kR 48),(kI 88),(kI 0),(kR 55),(kI 104),(kI 0),(kR 62),(kI 114),(kI 0),(kR 69),(kI 130),(kI 0),(kR 76),(kI 139),(kI 0),(kR 83),(kI 150),(kI 0),(kR 90)]
def uU:=kT #[(kS HG 204),(kS afg 205),(kS LG 206),(kS afh 207),(kS afi 208),(kS anG 209),(kS afj 210),(kS afk 211),(kS Ti 212),(kS afl 213),(kS afm 214),(kS afn 215),(kS Tj 216)]
def uV:=kF .none Oz 4 0 .none .none
def uW:=kC #[(kS Oz 201),(kS Oz 202),(kS jH 203),(kI 5),(kI 3),(kI 0),(kI 0),(kI 3),(kR 15),(.bool true),(kI 181),(kR 16),.none,(kR 17),(kR 18),(kR 19),(kI 217),(kI 5),(kS jH 218)]
def uX:=kF (.type "function") Oz 4 3 (kS OM 187) (kR 20)
def uY:=kT #[(kS Tj 223),(kS afk 224),(kS Ti 225),(kS afo 226),(kS afp 227)]
def uZ:=kF .none OA 5 0 .none .none
def vg:=kC #[(kS OA 220),(kS OA 221),(kS jH 222),(kI 28),(kI 3),(kI 0),(kI 0),(kI 3),(kR 22),(.bool true),(kI 181),(kR 23),.none,(kR 24),(kR 25),(kR 26),(kI 228),(kI 28),(kS jH 229)]
def vh:=kF (.type "function") OA 5 3 (kS OM 187) (kR 27)
def vk:=kT #[(kS afp 234),(kS afo 235),(kS Zl 236)]
def vm:=kF .none OB 6 0 .none .none
def vq:=kC #[(kS OB 231),(kS OB 232),(kS jH 233),(kI 37),(kI 3),(kI 0),(kI 0),(kI 3),(kR 29),(.bool true),(kI 181),(kR 30),.none,(kR 31),(kR 32),(kR 33),(kI 237),(kI 37),(kS jH 238)]
def vr:=kF (.type "function") OB 6 3 (kS OM 187) (kR 34)
def vt:=kT #[(kS HG 243),(kS afg 244),(kS LG 245),(kS afh 246),(kS afi 247),(kS afj 248),(kS afq 249),(kS Ti 250),(kS afl 251),(kS afm 252),(kS afn 253),(kS Tj 254)]
def vw:=kF .none OC 7 0 .none .none
def vx:=kC #[(kS OC 240),(kS OC 241),(kS jH 242),(kI 46),(kI 3),(kI 0),(kI 0),(kI 3),(kR 36),(.bool true),(kI 181),(kR 37),.none,(kR 38),(kR 39),(kR 40),(kI 255),(kI 46),(kS jH 256)]
def vy:=kF (.type "function") OC 7 3 (kS OM 187) (kR 41)
def vz:=kT #[(kS Tj 261),(kS Ti 262),(kS afq 263),(kS anH 264),(kS anI 265),(kS anJ 266),(kS To 267),(kS anK 268)]
def vA:=kF .none OD 8 0 .none .none
def vC:=kC #[(kS OD 258),(kS OD 259),(kS jH 260),(kI 65),(kI 3),(kI 0),(kI 0),(kI 3),(kR 43),(.bool true),(kI 181),(kR 44),.none,(kR 45),(kR 46),(kR 47),(kI 269),(kI 65),(kS jH 270)]
def vD:=kF (.type "function") OD 8 3 (kS OM 187) (kR 48)
def vE:=kT #[(kS Tp 279),(kS LG 280),(kS HH 281),(kS anL 282),(kS anM 283),(kS anN 284),(kS afr 285),(kS afs 286),(kS anO 287),(kS HG 288),(kS anP 289)]
def vG:=kF .none OE 11 0 .none .none
def vH:=kC #[(kS OE 276),(kS OE 277),(kS jH 278),(kI 88),(kI 3),(kI 0),(kI 0),(kI 3),(kR 50),(.bool true),(kI 181),(kR 51),.none,(kR 52),(kR 53),(kR 54),(kI 290),(kI 88),(kS jH 291)]
def vI:=kF (.type "function") OE 11 3 (kS LH 272) (kR 55)
def vJ:=kT #[(kS anQ 296),(kS anR 297),(kS LG 298),(kS afr 299),(kS afs 300),(kS HH 301),(kS To 302),(kS HG 303)]
def vM:=kF .none OG 12 0 .none .none
def vN:=kC #[(kS OG 293),(kS OG 294),(kS jH 295),(kI 104),(kI 6),(kI 0),(kI 0),(kI 3),(kR 57),(.bool true),(kI 181),(kR 58),.none,(kR 59),(kR 60),(kR 61),(kI 304),(kI 104),(kS jH 305)]
def vO:=kF (.type "function") OG 12 3 (kS LH 272) (kR 62)
def vP:=kT #[(kS Tp 310),(kS HH 311)]
def vQ:=kT #[(kS HH 312),(kS aft 313),(kS afu 314)]
def vR:=kF .none OH 13 0 .none .none
def vT:=kC #[(kS OH 307),(kS OH 308),(kS jH 309),(kI 114),(kI 2),(kI 0),(kI 0),(kI 3),(kR 64),(.bool true),(kI 181),(kR 65),.none,(kR 66),(kR 67),(kR 68),(kI 315),(kI 114),(kS jH 316)]
def vU:=kF (.type "function") OH 13 3 (kS LH 272) (kR 69)
def vV:=kT #[(kS afv 321),(kS HH 322)]
def vW:=kT #[(kS afv 323),(kS HH 324),(kS afu 325)]
def vX:=kF .none OI 14 0 .none .none
def vY:=kC #[(kS OI 318),(kS OI 319),(kS jH 320),(kI 130),(kI 2),(kI 0),(kI 0),(kI 3),(kR 71),(.bool true),(kI 181),(kR 72),.none,(kR 73),(kR 74),(kR 75),(kI 326),(kI 130),(kS jH 327)]
def vZ:=kF (.type "function") OI 14 3 (kS LH 272) (kR 76)
def v7:=kT #[(kS Tp 332),(kS LG 333),(kS HH 334),(kS aft 335),(kS HG 336),(kS anS 337),(kS anT 338),(kS anU 339),(kS To 340)]
def wb:=kF .none OJ 15 0 .none .none
def wc:=kC #[(kS OJ 329),(kS OJ 330),(kS jH 331),(kI 139),(kI 2),(kI 0),(kI 0),(kI 3),(kR 78),(.bool true),(kI 181),(kR 79),.none,(kR 80),(kR 81),(kR 82),(kI 341),(kI 139),(kS jH 342)]
def we:=kF (.type "function") OJ 15 3 (kS LH 272) (kR 83)
def wg:=kT #[(kS Tp 347),(kS LG 348),(kS To 349),(kS HG 350)]
def wi:=kF .none OL 16 0 .none .none
def wj:=kC #[(kS OL 344),(kS OL 345),(kS jH 346),(kI 150),(kI 2),(kI 0),(kI 0),(kI 3),(kR 85),(.bool true),(kI 181),(kR 86),.none,(kR 87),(kR 88),(kR 89),(kI 351),(kI 150),(kS jH 352)]
def wk:=kF (.type "function") OL 16 3 (kS LH 272) (kR 90)
def JQ:Heap:=⟨#[oO P,oT P,oU P,aon P,oW P,oX P,oY P,oZ P,o3 P,o5 P,lH P,cJ,XR,rm,rn,cJ,eH,uU,cJ,uV,uW,uX,cJ,eH,uY,cJ,uZ,vg,vh,cJ,eH,vk,cJ,vm,vq,vr,cJ,eH,vt,cJ,vw,vx,vy,cJ,eH,vz,cJ,vA,vC,vD,cJ,eH,vE,cJ,vG,vH,vI,cJ,eH,vJ,cJ,vM,vN,vO,cJ,eH,vP,vQ,vR,vT,vU,cJ,eH,vV,vW,vX,vY,vZ,cJ,eH,v7,cJ,wb,wc,we,cJ,eH,wg,cJ,wi,wj,wk],(fZ P).life⟩
def JR:Nat:=356
def T7:Pos:=⟨161,0,161,8⟩
def aoo:=kD #[ke0 P,Xr P,Xs P,Xu P,Xv P,Xx P,Xy P,Xz P,XA P,XB P,Ey P,Ez P,EA P,EB P,EC P,ED P,EE P,EF P,EG P,EH P,EI P,EJ P,EK P,EL P,HI P] 25
def xZ:Obj:={cls:=(.type "list"),dict:=none,data:=(.seq #[(.int 173 356),(.int 847 357),(.int 6150 358),(.int 6155 359),(.int 6156 360),(.int 6157 361),(.int 8203 362),(.int 8204 363),(.int 8205 364),(.int 8288 365),(.int 65279 366)] 0),slots:= #[]}
def ya:Obj:={cls:=(.type "range"),dict:=none,data:=(.fields #[(.int 65024 367),(.int 65040 368),(.int 1 369)]),slots:= #[]}
def yb:Obj:={cls:=(.type "list"),dict:=none,data:=(.seq #[(.int 65024 372),(.int 65025 373),(.int 65026 374),(.int 65027 375),(.int 65028 376),(.int 65029 377),(.int 65030 378),(.int 65031 379),(.int 65032 380),(.int 65033 381),(.int 65034 382),(.int 65035 383),(.int 65036 384),(.int 65037 385),(.int 65038 386),(.int 65039 387)] 18),slots:= #[]}
def yc:Obj:={cls:=(.type "range_iterator"),dict:=none,data:=(.fields #[(kI 65040),(kI 0),(kI 1)]),slots:= #[]}
def yd:Obj:={cls:=(.type "StopIteration"),dict:=none,data:=(.fields #[(kR 96),.none,.none,.none,(.bool false),.none]),slots:= #[]}
def ye:Obj:={cls:=(.type "list"),dict:=none,data:=(.seq #[(.int 173 356),(.int 847 357),(.int 6150 358),(.int 6155 359),(.int 6156 360),(.int 6157 361),(.int 8203 362),(.int 8204 363),(.int 8205 364),(.int 8288 365),(.int 65279 366),(.int 65024 372),(.int 65025 373),(.int 65026 374),(.int 65027 375),(.int 65028 376),(.int 65029 377),(.int 65030 378),(.int 65031 379),(.int 65032 380),(.int 65033 381),(.int 65034 382),(.int 65035 383),(.int 65036 384),(.int 65037 385),(.int 65038 386),(.int 65039 387)] 0),slots:= #[]}
def yf:Obj:={cls:=(.type "set"),dict:=none,data:=(.set #[(65024,(.int 65024 372)),(65025,(.int 65025 373)),(65026,(.int 65026 374)),(65027,(.int 65027 375)),(65028,(.int 65028 376)),(65029,(.int 65029 377)),(6150,(.int 6150 358)),(65030,(.int 65030 378)),(65031,(.int 65031 379)),(65032,(.int 65032 380)),(65033,(.int 65033 381)),(6155,(.int 6155 359)),(6156,(.int 6156 360)),(6157,(.int 6157 361)),(8203,(.int 8203 362)),(8204,(.int 8204 363)),(8205,(.int 8205 364)),(65034,(.int 65034 382)),(65035,(.int 65035 383)),(65036,(.int 65036 384)),(65037,(.int 65037 385)),(65038,(.int 65038 386)),(65039,(.int 65039 387)),(173,(.int 173 356)),(847,(.int 847 357)),(8288,(.int 8288 365)),(65279,(.int 65279 366))] 29 {mask:=127,place:= #[0,1,2,3,4,5,6,7,8,9,10,11,12,13,14,15,16,17,18,19,20,21,22,45,79,96,127],dummies:= #[],finger:=0,led:= !(P.followText "set-order"),moves:=2,plain:=true}),slots:= #[]}
def rF:Obj:={cls:=(.type "list_iterator"),dict:=none,data:=(.fields #[.none,(kI 27)]),slots:= #[]}
def rG:Obj:={cls:=(.type "StopIteration"),dict:=none,data:=(.fields #[(kR 101),.none,.none,.none,(.bool false),.none]),slots:= #[]}
def JS:Heap:=⟨#[oO P,oT P,oU P,aoo P,oW P,oX P,oY P,oZ P,o3 P,o5 P,lH P,cJ,XR,rm,rn,cJ,eH,uU,cJ,uV,uW,uX,cJ,eH,uY,cJ,uZ,vg,vh,cJ,eH,vk,cJ,vm,vq,vr,cJ,eH,vt,cJ,vw,vx,vy,cJ,eH,vz,cJ,vA,vC,vD,cJ,eH,vE,cJ,vG,vH,vI,cJ,eH,vJ,cJ,vM,vN,vO,cJ,eH,vP,vQ,vR,vT,vU,cJ,eH,vV,vW,vX,vY,vZ,cJ,eH,v7,cJ,wb,wc,we,cJ,eH,wg,cJ,wi,wj,wk,xZ,ya,yb,yc,cJ,yd,ye,yf P,rF,cJ,rG],(fZ P).life⟩
def JT:Nat:=416
def T8:Pos:=⟨162,0,162,6⟩
def aop:=kD #[ke0 P,Xr P,Xs P,Xu P,Xv P,Xx P,Xy P,Xz P,XA P,XB P,Ey P,Ez P,EA P,EB P,EC P,ED P,EE P,EF P,EG P,EH P,EI P,EJ P,EK P,EL P,HI P,LI P] 26
def XS:=kN #[(kI 5),(kI 0),(kR 20),(kI 28),(kI 0),(kR 27),(kI 37),(kI 0),(kR 34),(kI 46),(kI 0),(kR 41),(kI 65),(kI 0),(kR 48),(kI 88),(kI 0),(kR 55),(kI 104),(kI 0),(kR 62),(kI 114),(kI 0),(kR 69),(kI 130),(kI 0),(kR 76),(kI 139),(kI 0),(kR 83),(kI 150),(kI 0),(kR 90),(kI 163),(kI 0),(kR 108)]
def tY:=kT #[(kS afw 419)]
def tZ:=kF .none ON 19 0 .none .none
def ua:=kC #[(kS ON 416),(kS ON 417),(kS jH 418),(kI 163),(kI 1),(kI 0),(kI 0),(kI 3),(kR 103),(.bool true),(kI 181),(kR 104),.none,(kR 105),(kR 106),(kR 107),(kI 420),(kI 163),(kS jH 421)]
def ub:=kF (.type "function") ON 19 3 (kS kn4 354) (kR 108)
def lN:Heap:=⟨#[oO P,oT P,oU P,aop P,oW P,oX P,oY P,oZ P,o3 P,o5 P,lH P,cJ,XS,rm,rn,cJ,eH,uU,cJ,uV,uW,uX,cJ,eH,uY,cJ,uZ,vg,vh,cJ,eH,vk,cJ,vm,vq,vr,cJ,eH,vt,cJ,vw,vx,vy,cJ,eH,vz,cJ,vA,vC,vD,cJ,eH,vE,cJ,vG,vH,vI,cJ,eH,vJ,cJ,vM,vN,vO,cJ,eH,vP,vQ,vR,vT,vU,cJ,eH,vV,vW,vX,vY,vZ,cJ,eH,v7,cJ,wb,wc,we,cJ,eH,wg,cJ,wi,wj,wk,xZ,ya,yb,yc,cJ,yd,ye,yf P,rF,cJ,rG,cJ,eH,tY,cJ,tZ,ua,ub],(fZ P).life⟩
def jg:Nat:=423
def T9:Pos:=⟨163,0,164,30⟩
def aoq:=kD #[ke0 P,Xr P,Xs P,Xu P,Xv P,Xx P,Xy P,Xz P,XA P,XB P,Ey P,Ez P,EA P,EB P,EC P,ED P,EE P,EF P,EG P,EH P,EI P,EJ P,EK P,EL P,HI P,LI P,OQ P] 27
def Bj:Heap:=⟨#[oO P,oT P,oU P,aoq P,oW P,oX P,oY P,oZ P,o3 P,o5 P,lH P,cJ,XS,rm,rn,cJ,eH,uU,cJ,uV,uW,uX,cJ,eH,uY,cJ,uZ,vg,vh,cJ,eH,vk,cJ,vm,vq,vr,cJ,eH,vt,cJ,vw,vx,vy,cJ,eH,vz,cJ,vA,vC,vD,cJ,eH,vE,cJ,vG,vH,vI,cJ,eH,vJ,cJ,vM,vN,vO,cJ,eH,vP,vQ,vR,vT,vU,cJ,eH,vV,vW,vX,vY,vZ,cJ,eH,v7,cJ,wb,wc,we,cJ,eH,wg,cJ,wi,wj,wk,xZ,ya,yb,yc,cJ,yd,ye,yf P,rF,cJ,rG,cJ,eH,tY,cJ,tZ,ua,ub,oD 0,oD 1,oD 2,oD 3,oD 4,oD 5,oD 6,oD 7,oD 8,oD 9,oD 10,oD 11,oD 12,oD 13,oD 14,oD 15,oD 16,oD 17,oD 18,oD 19,oD 20,oD 21,oD 22,oD 23,oD 24,oD 25,oD 26,oD 27,oD 28,oD 29,oD 30,oD 31,oD 32,oD 33,oD 34,oD 35,oD 36,oD 37,oD 38],(fZ P).life⟩
def wq:Nat:=2374
def aor:=kD #[Zm P,Xr P,Xs P,Xu P,Xv P,Xx P,Xy P,Xz P,XA P,XB P,Ey P,Ez P,EA P,EB P,EC P,ED P,EE P,EF P,EG P,EH P,EI P,EJ P,EK P,EL P,HI P,LI P,OQ P,Tr P,Ts P,Tt P,Tv P,Tw P,Tx P,Tz P,TA P,TB P,TC P,TF P,TH P,TJ P,TK P,TL P,TM P,TN P,TP P,TQ P,TR P,TU P,TV P,TX P,TY P,T2 P,T3 P,T4 P,T5 P] 55
def OT:=kN #[(kI 5),(kI 0),(kR 20),(kI 28),(kI 0),(kR 27),(kI 37),(kI 0),(kR 34),(kI 46),(kI 0),(kR 41),(kI 65),(kI 0),(kR 48),(kI 88),(kI 0),(kR 55),(kI 104),(kI 0),(kR 62),(kI 114),(kI 0),(kR 69),(kI 130),(kI 0),(kR 76),(kI 139),(kI 0),(kR 83),(kI 150),(kI 0),(kR 90),(kI 163),(kI 0),(kR 108),(kI 166),(kI 0),(kR 154)]
def Cm:=kT #[(kS afw 2377),(kS HG 2378)]
def Cn:=kF .none OO 21 0 .none .none
def Co:=kC #[(kS OO 2374),(kS OO 2375),(kS jH 2376),(kI 166),(kI 1),(kI 0),(kI 0),(kI 3),(kR 149),(.bool true),(kI 181),(kR 150),.none,(kR 151),(kR 152),(kR 153),(kI 2379),(kI 166),(kS jH 2380)]
def Cp:=kF (.type "function") OO 21 3 (kS kn4 354) (kR 154)
def JU:Heap:=⟨#[oO P,oT P,oU P,aor P,oW P,oX P,oY P,oZ P,o3 P,o5 P,lH P,cJ,OT,rm,rn,cJ,eH,uU,cJ,uV,uW,uX,cJ,eH,uY,cJ,uZ,vg,vh,cJ,eH,vk,cJ,vm,vq,vr,cJ,eH,vt,cJ,vw,vx,vy,cJ,eH,vz,cJ,vA,vC,vD,cJ,eH,vE,cJ,vG,vH,vI,cJ,eH,vJ,cJ,vM,vN,vO,cJ,eH,vP,vQ,vR,vT,vU,cJ,eH,vV,vW,vX,vY,vZ,cJ,eH,v7,cJ,wb,wc,we,cJ,eH,wg,cJ,wi,wj,wk,xZ,ya,yb,yc,cJ,yd,ye,yf P,rF,cJ,rG,cJ,eH,tY,cJ,tZ,ua,ub,oD 0,oD 1,oD 2,oD 3,oD 4,oD 5,oD 6,oD 7,oD 8,oD 9,oD 10,oD 11,oD 12,oD 13,oD 14,oD 15,oD 16,oD 17,oD 18,oD 19,oD 20,oD 21,oD 22,oD 23,oD 24,oD 25,oD 26,oD 27,oD 28,oD 29,oD 30,oD 31,oD 32,oD 33,oD 34,oD 35,oD 36,oD 37,oD 38,cJ,eH,Cm,cJ,Cn,Co,Cp],(fZ P).life⟩
def JV:Nat:=2438
def Ua:Pos:=⟨198,0,198,10⟩
def aos:=kD #[Zm P,Xr P,Xs P,Xu P,Xv P,Xx P,Xy P,Xz P,XA P,XB P,Ey P,Ez P,EA P,EB P,EC P,ED P,EE P,EF P,EG P,EH P,EI P,EJ P,EK P,EL P,HI P,LI P,OQ P,Tr P,Ts P,Tt P,Tv P,Tw P,Tx P,Tz P,TA P,TB P,TC P,TF P,TH P,TJ P,TK P,TL P,TM P,TN P,TP P,TQ P,TR P,TU P,TV P,TX P,TY P,T2 P,T3 P,T4 P,T5 P,Zn P,Zo P,Zp P,Zq P,Zr P,Zs P,Zt P,Zu P,Zv P,Zw P,Zx P,Zy P,Zz P,ZA P,ZC P,ZD P,ZE P,ZF P,ZG P,ZH P,ZI P,ZK P,ZL P] 78
def JW:Heap:=⟨#[oO P,oT P,oU P,aos P,oW P,oX P,oY P,oZ P,o3 P,o5 P,lH P,cJ,OT,rm,rn,cJ,eH,uU,cJ,uV,uW,uX,cJ,eH,uY,cJ,uZ,vg,vh,cJ,eH,vk,cJ,vm,vq,vr,cJ,eH,vt,cJ,vw,vx,vy,cJ,eH,vz,cJ,vA,vC,vD,cJ,eH,vE,cJ,vG,vH,vI,cJ,eH,vJ,cJ,vM,vN,vO,cJ,eH,vP,vQ,vR,vT,vU,cJ,eH,vV,vW,vX,vY,vZ,cJ,eH,v7,cJ,wb,wc,we,cJ,eH,wg,cJ,wi,wj,wk,xZ,ya,yb,yc,cJ,yd,ye,yf P,rF,cJ,rG,cJ,eH,tY,cJ,tZ,ua,ub,oD 0,oD 1,oD 2,oD 3,oD 4,oD 5,oD 6,oD 7,oD 8,oD 9,oD 10,oD 11,oD 12,oD 13,oD 14,oD 15,oD 16,oD 17,oD 18,oD 19,oD 20,oD 21,oD 22,oD 23,oD 24,oD 25,oD 26,oD 27,oD 28,oD 29,oD 30,oD 31,oD 32,oD 33,oD 34,oD 35,oD 36,oD 37,oD 38,cJ,eH,Cm,cJ,Cn,Co,Cp],(fZ P).life⟩
def JX:Nat:=2484
def Ub:Pos:=⟨221,0,221,9⟩
def aot:=kD #[Zm P,Xr P,Xs P,Xu P,Xv P,Xx P,Xy P,Xz P,XA P,XB P,Ey P,Ez P,EA P,EB P,EC P,ED P,EE P,EF P,EG P,EH P,EI P,EJ P,EK P,EL P,HI P,LI P,OQ P,Tr P,Ts P,Tt P,Tv P,Tw P,Tx P,Tz P,TA P,TB P,TC P,TF P,TH P,TJ P,TK P,TL P,TM P,TN P,TP P,TQ P,TR P,TU P,TV P,TX P,TY P,T2 P,T3 P,T4 P,T5 P,Zn P,Zo P,Zp P,Zq P,Zr P,Zs P,Zt P,Zu P,Zv P,Zw P,Zx P,Zy P,Zz P,ZA P,ZC P,ZD P,ZE P,ZF P,ZG P,ZH P,ZI P,ZK P,ZL P,ag4 P] 79
def OU:=kD #[kE P afX 2484 (.int 54 2480),kE P afY 2486 (.int 28 2428),kE P afZ 2488 (.int 24 2420),kE P af0 2490 (.int 40 2452),kE P af1 2492 (.int 19 2410),kE P af2 2494 (.int 41 2454),kE P af3 2496 (.int 7 2386),kE P af4 2498 (.int 8 2388),kE P af5 2500 (.int 16 2404),kE P af6 2502 (.int 35 2442),kE P af7 2504 (.int 46 2464),kE P af8 2506 (.int 38 2448),kE P af9 2508 (.int 14 2400),kE P aga 2510 (.int 36 2444),kE P agb 2512 (.int 12 2396),kE P agc 2514 (.int 15 2402),kE P agd 2516 (.int 37 2446),ag5 P,ag6 P,ag7 P,ag8 P,ag9 P,aha P,ahb P,ahc P,ahd P,ahe P,ahf P,ahg P,ahh P,ahi P,ahj P,ahk P,ahl P,ahm P,ahn P,aho P,XC P,XE P,XF P,XG P,XH P,XI P,XJ P,XK P,XM P,XN P,XQ P] 48
def OV:=kD #[ag5 P,ag6 P,ag7 P,ag8 P,ag9 P,aha P,ahb P,ahc P,ahd P,ahe P,ahf P,ahg P,ahh P,ahi P,ahj P,ahk P,ahl P] 17
def OW:=kD #[ahm P,ahn P,aho P,XC P,XE P,XF P,XG P,XH P,XI P,XJ P,XK P,XM P,XN P,XQ P] 14
def JY:Heap:=⟨#[oO P,oT P,oU P,aot P,oW P,oX P,oY P,oZ P,o3 P,o5 P,lH P,cJ,OT,rm,rn,cJ,eH,uU,cJ,uV,uW,uX,cJ,eH,uY,cJ,uZ,vg,vh,cJ,eH,vk,cJ,vm,vq,vr,cJ,eH,vt,cJ,vw,vx,vy,cJ,eH,vz,cJ,vA,vC,vD,cJ,eH,vE,cJ,vG,vH,vI,cJ,eH,vJ,cJ,vM,vN,vO,cJ,eH,vP,vQ,vR,vT,vU,cJ,eH,vV,vW,vX,vY,vZ,cJ,eH,v7,cJ,wb,wc,we,cJ,eH,wg,cJ,wi,wj,wk,xZ,ya,yb,yc,cJ,yd,ye,yf P,rF,cJ,rG,cJ,eH,tY,cJ,tZ,ua,ub,oD 0,oD 1,oD 2,oD 3,oD 4,oD 5,oD 6,oD 7,oD 8,oD 9,oD 10,oD 11,oD 12,oD 13,oD 14,oD 15,oD 16,oD 17,oD 18,oD 19,oD 20,oD 21,oD 22,oD 23,oD 24,oD 25,oD 26,oD 27,oD 28,oD 29,oD 30,oD 31,oD 32,oD 33,oD 34,oD 35,oD 36,oD 37,oD 38,cJ,eH,Cm,cJ,Cn,Co,Cp,OU P,OV P,OW P],(fZ P).life⟩
def JZ:Nat:=2581
def Uc:Pos:=⟨222,0,222,17⟩
def aou:=kD #[kE P kn3 165 (kS pf 2602),Xr P,Xs P,Xu P,Xv P,Xx P,Xy P,Xz P,XA P,XB P,Ey P,Ez P,EA P,EB P,EC P,ED P,EE P,EF P,EG P,EH P,EI P,EJ P,EK P,EL P,HI P,LI P,OQ P,Tr P,Ts P,Tt P,Tv P,Tw P,Tx P,Tz P,TA P,TB P,TC P,TF P,TH P,TJ P,TK P,TL P,TM P,TN P,TP P,TQ P,TR P,TU P,TV P,TX P,TY P,T2 P,T3 P,T4 P,T5 P,Zn P,Zo P,Zp P,Zq P,Zr P,Zs P,Zt P,Zu P,Zv P,Zw P,Zx P,Zy P,Zz P,ZA P,ZC P,ZD P,ZE P,ZF P,ZG P,ZH P,ZI P,ZK P,ZL P,ag4 P,kE P Ei 2587 (kR 165),kE P Ej 2594 (kR 172),kE P Ek 2601 (kR 179),kE P El 2609 (kR 184),kE P Em 2615 (kR 189),kE P En 2626 (kR 196),kE P Eo 2645 (kR 203),kE P Ep 2660 (kR 210),kE P Er 2666 (kR 215),kE P Es 2672 (kR 220),kE P Et 2679 (kR 227),kE P Eu 2685 (kR 232),kE P Ew 2698 (kR 239),kE P Ex 2704 (kR 244)] 93
def ahp:=kN #[(kI 5),(kI 0),(kR 20),(kI 28),(kI 0),(kR 27),(kI 37),(kI 0),(kR 34),(kI 46),(kI 0),(kR 41),(kI 65),(kI 0),(kR 48),(kI 88),(kI 0),(kR 55),(kI 104),(kI 0),(kR 62),(kI 114),(kI 0),(kR 69),(kI 130),(kI 0),(kR 76),(kI 139),(kI 0),(kR 83),(kI 150),(kI 0),(kR 90),(kI 163),(kI 0),(kR 108),(kI 166),(kI 0),(kR 154),(kI 223),(kI 0),(kR 164),(kI 225),(kI 0),(kR 171),(kI 227),(kI 0),(kR 178),(kI 230),(kI 0),(kR 183),(kI 248),(kI 0),(kR 188),(kI 257),(kI 0),(kR 195),(kI 269),(kI 0),(kR 202),(kI 283),(kI 0),(kR 209),(kI 288),(kI 0),(kR 214),(kI 300),(kI 0),(kR 219),(kI 307),(kI 0),(kR 226),(kI 313),(kI 0),(kR 231),(kI 315),(kI 0),(kR 238),(kI 319),(kI 0),(kR 243)]
def ZN:=kT #[(kS OP 2584)]
def ZO:=kF .none Ei 74 0 .none .none
def ZP:=kC #[(kS Ei 2581),(kS Ei 2582),(kS jH 2583),(kI 223),(kI 1),(kI 0),(kI 0),(kI 3),(kR 159),(.bool true),(kI 181),(kR 160),.none,(kR 161),(kR 162),(kR 163),(kI 2585),(kI 223),(kS jH 2586)]
def ZQ:=kF (.type "function") Ei 74 3 (kS Tq 2382) (kR 164)
def ZS:=kT #[(kS OP 2591)]
def ZT:=kF .none Ej 75 0 .none .none
def ZU:=kC #[(kS Ej 2588),(kS Ej 2589),(kS jH 2590),(kI 225),(kI 1),(kI 0),(kI 0),(kI 3),(kR 166),(.bool true),(kI 181),(kR 167),.none,(kR 168),(kR 169),(kR 170),(kI 2592),(kI 225),(kS jH 2593)]
def ZV:=kF (.type "function") Ej 75 3 (kS Tq 2382) (kR 171)
def ZW:=kT #[(kS OP 2598)]
def ZY:=kF .none Ek 76 0 .none .none
def ZZ:=kC #[(kS Ek 2595),(kS Ek 2596),(kS jH 2597),(kI 227),(kI 1),(kI 0),(kI 0),(kI 3),(kR 173),(.bool true),(kI 181),(kR 174),.none,(kR 175),(kR 176),(kR 177),(kI 2599),(kI 227),(kS jH 2600)]
def Z0:=kF (.type "function") Ek 76 3 (kS Tq 2382) (kR 178)
def Z1:=kF .none El 78 0 .none .none
def Z2:=kC #[(kS El 2604),(kS El 2605),(kS jH 2606),(kI 230),(kI 3),(kI 0),(kI 0),(kI 3),(kR 180),(.bool true),(kI 181),(kR 181),.none,.none,.none,(kR 182),(kI 2607),(kI 230),(kS jH 2608)]
def Z3:=kF (.type "function") El 78 3 (kS pf 2602) (kR 183)
def Z4:=kF .none Em 79 0 .none .none
def Z5:=kC #[(kS Em 2610),(kS Em 2611),(kS jH 2612),(kI 248),(kI 1),(kI 0),(kI 0),(kI 3),(kR 185),(.bool true),(kI 181),(kR 186),.none,.none,.none,(kR 187),(kI 2613),(kI 248),(kS jH 2614)]
def Z6:=kF (.type "function") Em 79 3 (kS pf 2602) (kR 188)
def Z7:=kT #[(kS agJ 2619),(kS agK 2620),(kS agL 2621),(kS agM 2622),(kS agN 2623)]
def Z8:=kF .none En 80 0 .none .none
def Z9:=kC #[(kS En 2616),(kS En 2617),(kS jH 2618),(kI 257),(kI 1),(kI 0),(kI 0),(kI 3),(kR 190),(.bool true),(kI 181),(kR 191),.none,(kR 192),(kR 193),(kR 194),(kI 2624),(kI 257),(kS jH 2625)]
def aac:=kF (.type "function") En 80 3 (kS pf 2602) (kR 195)
def aad:=kT #[(kS agO 2630),(kS agP 2631),(kS agQ 2632),(kS agR 2633),(kS agS 2634),(kS Zl 2635),(kS agT 2636),(kS agU 2637),(kS Xl 2638),(kS agV 2639),(kS Xm 2640),(kS Xn 2641),(kS Xo 2642)]
def aae:=kF .none Eo 81 0 .none .none
def aaf:=kC #[(kS Eo 2627),(kS Eo 2628),(kS jH 2629),(kI 269),(kI 2),(kI 0),(kI 0),(kI 3),(kR 197),(.bool true),(kI 181),(kR 198),.none,(kR 199),(kR 200),(kR 201),(kI 2643),(kI 269),(kS jH 2644)]
def aag:=kF (.type "function") Eo 81 3 (kS pf 2602) (kR 202)
def aah:=kT #[(kS Xp 2649),(kS agW 2650),(kS Xm 2651),(kS Xn 2652),(kS Xo 2653),(kS Zl 2654),(kS Xl 2655),(kS agX 2656),(kS agY 2657)]
def aai:=kF .none Ep 82 0 .none .none
def aaj:=kC #[(kS Ep 2646),(kS Ep 2647),(kS jH 2648),(kI 283),(kI 2),(kI 0),(kI 0),(kI 3),(kR 204),(.bool true),(kI 181),(kR 205),.none,(kR 206),(kR 207),(kR 208),(kI 2658),(kI 283),(kS jH 2659)]
def aak:=kF (.type "function") Ep 82 3 (kS pf 2602) (kR 209)
def aal:=kF .none Er 83 0 .none .none
def aam:=kC #[(kS Er 2661),(kS Er 2662),(kS jH 2663),(kI 288),(kI 3),(kI 0),(kI 0),(kI 3),(kR 211),(.bool true),(kI 181),(kR 212),.none,.none,.none,(kR 213),(kI 2664),(kI 288),(kS jH 2665)]
def aan:=kF (.type "function") Er 83 3 (kS pf 2602) (kR 214)
def aao:=kF .none Es 84 0 .none .none
def aap:=kC #[(kS Es 2667),(kS Es 2668),(kS jH 2669),(kI 300),(kI 1),(kI 0),(kI 0),(kI 3),(kR 216),(.bool true),(kI 181),(kR 217),.none,.none,.none,(kR 218),(kI 2670),(kI 300),(kS jH 2671)]
def aaq:=kF (.type "function") Es 84 3 (kS pf 2602) (kR 219)
def aar:=kT #[(kS Xq 2676)]
def aas:=kF .none Et 85 0 .none .none
def aat:=kC #[(kS Et 2673),(kS Et 2674),(kS jH 2675),(kI 307),(kI 1),(kI 0),(kI 0),(kI 3),(kR 221),(.bool true),(kI 181),(kR 222),.none,(kR 223),(kR 224),(kR 225),(kI 2677),(kI 307),(kS jH 2678)]
def aau:=kF (.type "function") Et 85 3 (kS pf 2602) (kR 226)
def aav:=kF .none Eu 86 0 .none .none
def aaw:=kC #[(kS Eu 2680),(kS Eu 2681),(kS jH 2682),(kI 313),(kI 2),(kI 0),(kI 0),(kI 3),(kR 228),(.bool true),(kI 181),(kR 229),.none,.none,.none,(kR 230),(kI 2683),(kI 313),(kS jH 2684)]
def aax:=kF (.type "function") Eu 86 3 (kS pf 2602) (kR 231)
def aay:=kT #[(kS Xq 2689),(kS agZ 2690),(kS ag0 2691),(kS ag1 2692),(kS ag2 2693),(kS ag3 2694),(kS Xp 2695)]
def aaz:=kF .none Ew 87 0 .none .none
def aaA:=kC #[(kS Ew 2686),(kS Ew 2687),(kS jH 2688),(kI 315),(kI 4),(kI 0),(kI 0),(kI 3),(kR 233),(.bool true),(kI 181),(kR 234),.none,(kR 235),(kR 236),(kR 237),(kI 2696),(kI 315),(kS jH 2697)]
def aaB:=kF (.type "function") Ew 87 3 (kS pf 2602) (kR 238)
def aaC:=kF .none Ex 88 0 .none .none
def aaD:=kC #[(kS Ex 2699),(kS Ex 2700),(kS jH 2701),(kI 319),(kI 1),(kI 0),(kI 0),(kI 3),(kR 240),(.bool true),(kI 181),(kR 241),.none,.none,.none,(kR 242),(kI 2702),(kI 319),(kS jH 2703)]
def aaE:=kF (.type "function") Ex 88 3 (kS pf 2602) (kR 243)
def g9:Heap:=⟨#[oO P,oT P,oU P,aou P,oW P,oX P,oY P,oZ P,o3 P,o5 P,lH P,cJ,ahp,rm,rn,cJ,eH,uU,cJ,uV,uW,uX,cJ,eH,uY,cJ,uZ,vg,vh,cJ,eH,vk,cJ,vm,vq,vr,cJ,eH,vt,cJ,vw,vx,vy,cJ,eH,vz,cJ,vA,vC,vD,cJ,eH,vE,cJ,vG,vH,vI,cJ,eH,vJ,cJ,vM,vN,vO,cJ,eH,vP,vQ,vR,vT,vU,cJ,eH,vV,vW,vX,vY,vZ,cJ,eH,v7,cJ,wb,wc,we,cJ,eH,wg,cJ,wi,wj,wk,xZ,ya,yb,yc,cJ,yd,ye,yf P,rF,cJ,rG,cJ,eH,tY,cJ,tZ,ua,ub,oD 0,oD 1,oD 2,oD 3,oD 4,oD 5,oD 6,oD 7,oD 8,oD 9,oD 10,oD 11,oD 12,oD 13,oD 14,oD 15,oD 16,oD 17,oD 18,oD 19,oD 20,oD 21,oD 22,oD 23,oD 24,oD 25,oD 26,oD 27,oD 28,oD 29,oD 30,oD 31,oD 32,oD 33,oD 34,oD 35,oD 36,oD 37,oD 38,cJ,eH,Cm,cJ,Cn,Co,Cp,OU P,OV P,OW P,cJ,eH,ZN,cJ,ZO,ZP,ZQ,cJ,eH,ZS,cJ,ZT,ZU,ZV,cJ,eH,ZW,cJ,ZY,ZZ,Z0,cJ,eH,Z1,Z2,Z3,cJ,eH,Z4,Z5,Z6,cJ,eH,Z7,cJ,Z8,Z9,aac,cJ,eH,aad,cJ,aae,aaf,aag,cJ,eH,aah,cJ,aai,aaj,aak,cJ,eH,aal,aam,aan,cJ,eH,aao,aap,aaq,cJ,eH,aar,cJ,aas,aat,aau,cJ,eH,aav,aaw,aax,cJ,eH,aay,cJ,aaz,aaA,aaB,cJ,eH,aaC,aaD,aaE],(fZ P).life⟩
def lO:Nat:=2705
def aaF:Pos:=⟨319,0,340,196⟩
def Sx(H:W5->Heap)(t:Nat)(w:World)(os:gZ):ah:=⟨H w.params,#[],lz,t,os⟩
def EM(a b:Nat):List Stmt:=((behindTheImports pw).drop a).take (b - a)
theorem aov(w:World)(os:gZ):tgQ JN pw w 11 (some (.ref 6)) 12 (Sx fZ aeX w os) (topStub pw)=some (Sx OR OS w os,⟨dnQ JN ej,ej,ZM,[topFrame default]⟩):=by rfl'
theorem aaG(w:World)(os:gZ):Ss JN pw w 11 (some (.ref 6)) 1 1000 (Sx OR OS w os) (blockOf (behindTheImports pw) mM ej ZM [topFrame default])=some (.next,Sx JO JP w os,ej,T6):=by rfl'
theorem aow(w:World)(os:gZ):Ss JN pw w 11 (some (.ref 6)) 1 100000 (Sx JO JP w os) (piecesOf (EM 0 18) mM ej T6 [topFrame default])=some (.next,Sx JQ JR w os,ej,T7):=by rfl'
theorem aox(b:Bool)(w:World)(os:gZ):Ss JN pw (w.withFollow "special-get-raises" b) 11 (some (.ref 6)) 1 100000 (Sx JQ JR (w.withFollow "special-get-raises" b) os) (piecesOf (EM 18 19) mM ej T7 [topFrame default])=some (.next,Sx JS JT (w.withFollow "special-get-raises" b) os,ej,T8):=by
 cases b
 ·rfl'
 ·rfl'
theorem aoy(w:World)(os:gZ):Ss JN pw w 11 (some (.ref 6)) 1 100000 (Sx JS JT w os) (piecesOf (EM 19 20) mM ej T8 [topFrame default])=some (.next,Sx lN jg w os,ej,T9):=by rfl'
theorem aoz(w:World)(os:gZ)(q:Pos):Ss JN pw w 11 (some (.ref 6)) 1 100000 (Sx Bj wq w os) (piecesOf (EM 21 50) mM ej q [topFrame default])=some (.next,Sx JU JV w os,ej,Ua):=by rfl'
theorem aoA(w:World)(os:gZ):Ss JN pw w 11 (some (.ref 6)) 1 100000 (Sx JU JV w os) (piecesOf (EM 50 73) mM ej Ua [topFrame default])=some (.next,Sx JW JX w os,ej,Ub):=by rfl'
theorem aoB(b:Bool)(w:World)(os:gZ):Ss JN pw (w.withFollow "special-get-raises" b) 11 (some (.ref 6)) 1 100000 (Sx JW JX (w.withFollow "special-get-raises" b) os) (piecesOf (EM 73 74) mM ej Ub [topFrame default])=some (.next,Sx JY JZ (w.withFollow "special-get-raises" b) os,ej,Uc):=by
 cases b
 ·rfl'
 ·rfl'
theorem aoC(w:World)(os:gZ):Ss JN pw w 11 (some (.ref 6)) 1 100000 (Sx JY JZ w os) (piecesOf (EM 74 89) mM ej Uc [topFrame default])=some (.next,Sx g9 lO w os,ej,aaF):=by rfl'
end
end
theorem ahq(w:World)(os:gZ):Tf HF (Sx fZ aeX w os) (Sx g9 lO w os)=true:=by rfl'
theorem ahr(w:World)(os:gZ):HF.look (Sx g9 lO w os).heap=Bh w:=by rfl'
theorem ahs(w:World)(os:gZ):osQ (Sx g9 lO w os)=openGood ik iP:=by rfl'
theorem XT:JN=treeTable:=PySem.W.Fast.te14364793385576792824.symm
theorem aht:tgQ=topGo:=PySem.W.Fast.te15667345088766844465.symm
theorem ahu:Ss=segRun:=PySem.W.Fast.te14374325043358763698.symm
theorem ahv:dnQ=denote:=PySem.W.Fast.te11892475500146522536.symm
theorem ahw(s):osQ s=osX s:=by unfold osQ osX;rw[<-PySem.W.Fast.te4187177175401517315]
abbrev pE:Option Value:=some (.ref 6)
abbrev Ud:Str:="b3_exceptions"
def ahx:Stmt:=.Assign [.Name Ud (Ov xX)] (.Dict (pY xX) (pZ xX) (Ox xX)) (Oy xX)
theorem aaH:EM 20 21=[ahx]:=by rfl'
theorem ahy:Bg (pY xX) (pZ xX)=some L3:=by
 have:(Bg (pY xX) (pZ xX)).isSome=true:=by rfl'
 obtain⟨x,hx⟩:=ay.mp this;unfold L3;rw[hx];rfl
def asc:List Int->Bool
 |a::b::r=>decide (a<b)&&asc (b::r)
 |_=>true
theorem aaI:∀(l:List Int)(a:Int),asc (a::l)=true->∀x∈l,a<x:=by
 intro zx
 induction zx with
 |nil=>
  rintro _ _ x h;cases h
 |cons b r ih=>
  rintro a e x h;have e':(decide (a<b)&&asc (b::r))=true:=e;obtain⟨e1,e2⟩:=bZ.mp e';have Ue:a<b:=of_decide_eq_true e1;rcases aJ.mp h with rfl|h
  ·exact Ue
  ·exact Int.lt_trans Ue (ih b e2 x h)
theorem OX:∀(l:List Int)(a:Int),asc (a::l)=true->asc l=true
 |[],_,_=>rfl
 |_::_,_,e=>(bZ.mp e).2
theorem Bk:∀l:List Int,asc l=true->l.Nodup:=by
 intro zx
 induction zx with
 |nil=>
  rintro _;exact avG
 |cons a l ih=>
  rintro e;exact fP.mpr ⟨λh=>Int.lt_irrefl a (aaI l a e a h),ih (OX l a e)⟩
theorem OY:(hs L3).Nodup:=Bk _ (by rfl')
theorem OZ:L3.length=650:=by rfl'
theorem O0:storeName mM Ud=nsSet mainNs Ud:=by rfl'
theorem HJ:(iL.final L3 jg).objs.length=39:=by rfl'
theorem ahz:(iL.final L3 jg).t+1=wq:=by rfl'
theorem Ug:(iL.final L3 jg).objs=(aM 39).map oD:=by
 apply alF;intro i;rw[gG];by_cases h:i<39
 ·rw[ad5 h,bC (by rw[HJ];exact h)]
  show _=some (oD i);unfold oD;have h':i<(iL.final L3 jg).objs.length:=by rw[HJ];exact h
  have e:(iL.final L3 jg).objs.getD i default=(iL.final L3 jg).objs[i]:=by simp[kK,h']
  exact congrArg some e.symm
 ·rw[iV (by rw[HJ];omega),iV (by simpa using h)]
  rfl
theorem Uh(P:W5):(jQ (lN P) ((aM 39).map oD)).update mainNs (ad0 Ud (if Ud.cps.isEmpty then 0 else reduceHash (P.strHash Ud.cps)) (.str Ud (wq - 1)) (.ref (lN P).objs.size))=Bj P:=by rfl'
theorem O1(w)(os:gZ):Cj w Ud L3 (Sx lN jg w os)=Sx Bj wq w os:=by
 have ht:(iL.final L3 jg).t=wq - 1:=by rw[<-ahz];omega
 have h:=Uh w.params;rw[<-Ug,<-ht]at h;unfold Cj Sx;show(⟨_,_,_,_,_⟩:ah)=_;rw[show(⟨lN w.params,#[],lz,jg,os⟩:ah).heap=lN w.params from rfl,show(⟨lN w.params,#[],lz,jg,os⟩:ah).toks=jg from rfl,h,ahz]
theorem O2(w)(os:gZ):(bX 11 (Sx lN jg w os).heap.objs.size&&lA sysModules (Sx lN jg w os).heap.objs.size&&(iL.final L3 (Sx lN jg w os).toks).has&&xA Ud (Sx lN jg w os).heap)=true:=by rfl'
theorem aaJ(w)(os:gZ)(q):∃n q',n<=3400*650+200/\segRun treeTable pw w 11 pE 1 n (Sx lN jg w os) (pieceOf ahx mM ej q [topFrame default])=some (.next,Sx Bj wq w os,ej,q'):=by
 have r:=O2 w os;simp only[av]at r;obtain⟨⟨⟨r1,r2⟩,r3⟩,r4⟩:=r;have g:=Ao (p:=pw) (w:=w) (cz:=11) (ann:=pE) (c:=ej) (S:=Sx lN jg w os) (np:=Ov xX) (dp:=Ox xX) (sp:=Oy xX) ahy O0 (bQ r1) (bQ r2) OY (by rw[OZ];decide) r3 r4;rw[O1 w os,OZ]at g;obtain⟨n,q',l,e⟩:=LF g q (topFrame default);exact⟨n,q',by omega,e⟩
theorem EN(a b)(h:a<=b):(behindTheImports pw).drop a=EM a b++(behindTheImports pw).drop b:=by
 have:=(W6 (b - a) ((behindTheImports pw).drop a)).symm;rw[Lk,show a+(b - a)=b by omega]at this;exact this
theorem O3:(behindTheImports pw).drop 89=[]:=by rfl'
abbrev Rn(N:Nat)(w:World)(s:ah)(a:Nat)(q:Pos)(r:ah):Prop:=topRun treeTable pw w 11 pE N s (restOf ((behindTheImports pw).drop a) mM ej q [topFrame default])=some r
theorem next(h:a<=b)(e:segRun treeTable pw w 11 pE 1 M s (piecesOf (EM a b) mM ej q [topFrame default])=some (.next,s',ej,q'))(k:Rn N w s' b q' r):Rn (M+N) w s a q r:=by
 unfold Rn;rw[EN a b h];exact piece_app e k
theorem O4{P:World->Prop}(h:∀(b:Bool)(w:World),P (w.withFollow "special-get-raises" b))(w:World):P w:=by
 have:=h (w.params.followText "special-get-raises") w;rwa[S0]at this
theorem conv(h:Ss JN pw w 11 pE 1 n s t=some r):segRun treeTable pw w 11 pE 1 n s t=some r:=by
 rw[<-XT,<-ahu];exact h
theorem ahA(h:tgQ JN pw w 11 pE n s t=some (s',⟨dnQ JN c,c',p,B⟩)):topGo treeTable pw w 11 pE n s t=some (s',⟨denote treeTable c,c',p,B⟩):=by
 rw[<-XT,<-aht,<-ahv];exact h
abbrev ahB:Nat:=12+(1000+(100000+(100000+(100000+((3400*650+200)+(100000+(100000+(100000+(100000+3)))))))))
theorem Ui(w:World)(os:gZ):topRun treeTable pw w 11 pE ahB (Sx fZ aeX w os) (topStub pw)=some (Sx g9 lO w os):=by
 have e9:Rn 3 w (Sx g9 lO w os) 89 aaF (Sx g9 lO w os):=by
  unfold Rn;rw[O3];refine piece_nil ?_;rfl'
 have hp9:∀w,segRun treeTable pw w 11 pE 1 100000 (Sx JY JZ w os) (piecesOf (EM 74 89) mM ej Uc [topFrame default])=some (.next,Sx g9 lO w os,ej,aaF):=λw=>conv (aoC w os)
 have hp8:∀w,segRun treeTable pw w 11 pE 1 100000 (Sx JW JX w os) (piecesOf (EM 73 74) mM ej Ub [topFrame default])=some (.next,Sx JY JZ w os,ej,Uc):=O4 λb w=>conv (aoB b w os)
 have hp7:∀w,segRun treeTable pw w 11 pE 1 100000 (Sx JU JV w os) (piecesOf (EM 50 73) mM ej Ua [topFrame default])=some (.next,Sx JW JX w os,ej,Ub):=λw=>conv (aoA w os)
 have hp6:∀w q,segRun treeTable pw w 11 pE 1 100000 (Sx Bj wq w os) (piecesOf (EM 21 50) mM ej q [topFrame default])=some (.next,Sx JU JV w os,ej,Ua):=λw q=>conv (aoz w os q)
 have hp4:∀w,segRun treeTable pw w 11 pE 1 100000 (Sx JS JT w os) (piecesOf (EM 19 20) mM ej T8 [topFrame default])=some (.next,Sx lN jg w os,ej,T9):=λw=>conv (aoy w os)
 have hp3:∀w,segRun treeTable pw w 11 pE 1 100000 (Sx JQ JR w os) (piecesOf (EM 18 19) mM ej T7 [topFrame default])=some (.next,Sx JS JT w os,ej,T8):=O4 λb w=>conv (aox b w os)
 have hp2:∀w,segRun treeTable pw w 11 pE 1 100000 (Sx JO JP w os) (piecesOf (EM 0 18) mM ej T6 [topFrame default])=some (.next,Sx JQ JR w os,ej,T7):=λw=>conv (aow w os)
 obtain⟨n,q',ln,e5⟩:=aaJ w os T9;have k8:=next (by omega) (hp9 w) e9
 have k7:=next (by omega) (hp8 w) k8
 have k6:=next (by omega) (hp7 w) k7
 have k5:Rn _ w (Sx Bj wq w os) 21 q' (Sx g9 lO w os):=next (by omega) (hp6 w q') k6
 have k4:Rn ((3400*650+200)+(100000+(100000+(100000+(100000+3))))) w (Sx lN jg w os) 20 T9 (Sx g9 lO w os):=by
  have:=piece_cons e5 k5;have m:=topRun_mono (3400*650+200 - n) _ _ _ _ this;unfold Rn;rw[EN 20 21 (by omega),aaH];rw[show n+(100000+(100000+(100000+(100000+3))))+(3400*650+200 - n)=(3400*650+200)+(100000+(100000+(100000+(100000+3))))by omega]at m;exact m
 have k3:=next (by omega) (hp4 w) k4
 have k2:=next (by omega) (hp3 w) k3
 have k1:=next (by omega) (hp2 w) k2
 have hb:segRun treeTable pw w 11 pE 1 1000 (Sx OR OS w os) (blockOf (behindTheImports pw) mM ej ZM [topFrame default])=some (.next,Sx JO JP w os,ej,T6):=conv (aaG w os)
 exact go_top (ahA (aov w os)) (piece_block hb k1)
end Internal
namespace Internal.Q
def aaK:(v:Value)->Option {a:Addr // v=.ref a}
 |.ref a=>some ⟨a,rfl⟩
 |_=>none
def aoD:(v:Value)->Option {x:Str×Tok // v=.str x.1 x.2}
 |.str f t=>some ⟨(f,t),rfl⟩
 |_=>none
def ahC:(v:Value)->Option {x:Int×Tok // v=.int x.1 x.2}
 |.int f t=>some ⟨(f,t),rfl⟩
 |_=>none
def ahD:(v:Value)->Option {x:Bool // v=.bool x}
 |.bool b=>some ⟨b,rfl⟩
 |_=>none
def aoE:(v:Value)->Option {x:String // v=.type x}
 |.type n=>some ⟨n,rfl⟩
 |_=>none
def aoF:(v:Value)->Option {_x:Unit // v=.none}
 |.none=>some ⟨(),rfl⟩
 |_=>none
def aoG:(d:Data)->Option {x:jM // d=.func x}
 |.func f=>some ⟨f,rfl⟩
 |_=>none
def aaL:(d:Data)->Option {x:Array Value // d=.fields x}
 |.fields f=>some ⟨f,rfl⟩
 |_=>none
def codeOf(h:Heap)(n:Str):Option (Addr×Addr):=(h.nsMap mainGlobals n).bind λv=>(aaK v).bind λa=>(h.get? a.1).bind λo=>(aoG o.data).bind λfd=>(aaK fd.1.code).bind λc=>
 (h.get? c.1).bind λoc=>(aaL oc.data).bind λvs=>(aaK (kK vs.1.toList 11 jf)).map λP=>(c.1,P.1)
def hdB(h:Heap)(c:Addr):Bool:=((h.get? c).bind λoc=>(aaL oc.data).bind λvs=>(aoE oc.cls).map λn=>
 n.1==("code":String)&&((aoD (kK vs.1.toList 18 jf)).isSome&&((ahC (kK vs.1.toList 7 jf)).isSome&&((ahD (kK vs.1.toList 9 jf)).isSome&&(ahC (kK vs.1.toList 10 jf)).isSome)))).getD false
def HK(h:Heap)(P:Addr):Bool:=((h.get? P).bind λo=>(aaL o.data).bind λps=>(aoF o.cls).map λ_=>ps.1.toList.isEmpty&&(o.dict.isNone&&o.slots.toList.isEmpty)).getD false
def Uj(h:Heap)(n:Str):Bool:=((codeOf h n).map λx=> !(bM x.1 x.2)&&(hdB h x.1&&HK h x.2)).getD false
def EO(h:Heap):Bool:=Uj h "_int2digits"&&(Uj h "_digits2int"&&((codeOf h "_int2digits").bind λx=>(codeOf h "_digits2int").map λy=> !(bM x.2 y.2)).getD false)
theorem ahE(P:W5):EO (g9 P)=true:=by rfl'
end Internal.Q
namespace Internal
section
set_option genInjectivity true in
set_option genSizeOf true in
inductive D where
 |J0|none|bool (b:Bool)|int (i:Int)|aN (x:UInt64)|str (s:Str)
 |tup (l:List D)|lst (l:List D)|og (a b c:Int)
abbrev Kept(F:Addr->Prop)(h h':Heap):Prop:=∀b o,¬F b->h.get? b=some o->h'.get? b=some o
abbrev bV(h h':Heap):Prop:=∀b o,h.get? b=some o->h'.get? b=some o
section
variable{h h':Heap}{a:Addr}{F:Addr->Prop}
theorem nG{o:Obj}{P:Prop}(e:h.get? a=none)(q:h.get? a=some o):P:=nomatch e.symm.trans q
theorem nS{P:Prop}(e:h.get? a=none)(q:(h.get? a).isSome=true):P:=nomatch (congrArg pU e).symm.trans q
theorem sS(e:h.get? a=some o):(h.get? a).isSome=true:=congrArg pU e
theorem J1(k:bV h h')(e:h'.get? a=none):h.get? a=none:=by
 cases q:h.get? a with
 |none=>rfl
 |some o=>exact nG e (k a o q)
theorem kdS(k:Kept F h h')(n:¬F a)(e:(h.get? a).isSome=true):(h'.get? a).isSome=true:=
 by obtain⟨o,q⟩:=ay.mp e;exact sS (k a o n q)
theorem kpS(k:bV h h')(e:(h.get? a).isSome=true):(h'.get? a).isSome=true:=
 by obtain⟨o,q⟩:=ay.mp e;exact sS (k a o q)
end
mutual
def bW (h:Heap) (F:Addr->Prop):D->Value->Prop
 |.J0,_=>False
 |.none,v=>v=.none
 |.bool b,v=>v=.bool b
 |.int i,v=>∃t,v=.int i t
 |.aN x,v=>∃t,v=.float x t/\t≠0
 |.str s,v=>∃t,v=.str s t
 |.tup ds,v=>∃a vs n,v=.ref a/\¬F a/\IsT h a vs.toArray n/\aZ h F ds vs
 |.lst ds,v=>∃a vs n,v=.ref a/\¬F a/\IsL h a vs.toArray n/\aZ h F ds vs
 |.og a b c,v=>∃r t u w,v=.ref r/\¬F r/\Jx h r a b c t u w
def aZ (h:Heap) (F:Addr->Prop):List D->List Value->Prop
 |[],vs=>vs=[]
 |d::ds,vs=>∃v r,vs=v::r/\bW h F d v/\aZ h F ds r
end
section
variable{h:Heap}{F:Addr->Prop}
theorem bW.int(x:bW h F (.int i) v):∃t,v=.int i t:=x
theorem bW.aN(x:bW h F (.aN i) v):∃t,v=.float i t/\t≠0:=x
theorem bW.str(x:bW h F (.str i) v):∃t,v=.str i t:=x
theorem fA:bW h F (.int i) (.int i t):=(⟨t,rfl⟩:∃u,Dz i t=.int i u)
theorem xB:bW h F (.str i) (.str i t):=(⟨t,rfl⟩:∃u,Value.str i t=.str i u)
theorem Cq(ht:t≠0):bW h F (.aN i) (.float i t):=(⟨t,rfl,ht⟩:∃u,Value.float i t=.float i u/\u≠0)
theorem kB:bW h F (.bool i) (.bool i):=(rfl:ad6 i=.bool i)
theorem ER:bW h F .none .none:=(rfl:jf=.none)
inductive RL(h:Heap)(F:Addr->Prop)(ds:List D)(v:Value):Prop
 |mk (a:Addr) (vs:List Value) (n:Nat) (e:v=.ref a) (nf:¬F a) (l:IsL h a vs.toArray n) (r:aZ h F ds vs)
inductive RT(h:Heap)(F:Addr->Prop)(ds:List D)(v:Value):Prop
 |mk (a:Addr) (vs:List Value) (n:Nat) (e:v=.ref a) (nf:¬F a) (l:IsT h a vs.toArray n) (r:aZ h F ds vs)
inductive RR(h:Heap)(F:Addr->Prop)(a b c:Int)(v:Value):Prop
 |mk (r:Addr) (t u w:Tok) (e:v=.ref r) (nf:¬F r) (g:Jx h r a b c t u w)
theorem bW.lst(x:bW h F (.lst ds) v):RL h F ds v:=by obtain⟨a,b,c,d,e,f,g⟩:=(x:∃a vs n,v=.ref a/\¬F a/\IsL h a vs.toArray n/\aZ h F ds vs);exact⟨a,b,c,d,e,f,g⟩
theorem bW.tup(x:bW h F (.tup ds) v):RT h F ds v:=by obtain⟨a,b,c,d,e,f,g⟩:=(x:∃a vs n,v=.ref a/\¬F a/\IsT h a vs.toArray n/\aZ h F ds vs);exact⟨a,b,c,d,e,f,g⟩
theorem bW.og(x:bW h F (.og a b c) v):RR h F a b c v:=by obtain⟨a,b,c,d,e,f,g⟩:=(x:∃r t u w,v=.ref r/\¬F r/\Jx h r a b c t u w);exact⟨a,b,c,d,e,f,g⟩
theorem hO(nf:¬F a)(l:IsL h a vs.toArray n)(r:aZ h F ds vs):bW h F (.lst ds) (.ref a):=(⟨a,vs,n,rfl,nf,l,r⟩:∃b vs n,gh a=.ref b/\¬F b/\IsL h b vs.toArray n/\aZ h F ds vs)
theorem Cr(nf:¬F a)(l:IsT h a vs.toArray n)(r:aZ h F ds vs):bW h F (.tup ds) (.ref a):=(⟨a,vs,n,rfl,nf,l,r⟩:∃b vs n,gh a=.ref b/\¬F b/\IsT h b vs.toArray n/\aZ h F ds vs)
theorem xC(nf:¬F r)(g:Jx h r a b c t u w):bW h F (.og a b c) (.ref r):=(⟨r,t,u,w,rfl,nf,g⟩:∃q t u w,gh r=.ref q/\¬F q/\Jx h q a b c t u w)
theorem bW.bool(x:bW h F (.bool b) v):v=.bool b:=x
theorem bW.none(x:bW h F .none v):v=.none:=x
theorem aZ.nil:aZ h F [] []:=(rfl:([]:List Value)=[])
theorem aZ.nk(x:aZ h F [] vs):vs=[]:=x
theorem aZ.cons{d ds v vs}(a:bW h F d v)(b:aZ h F ds vs):aZ h F (d::ds) (v::vs):=(⟨v,vs,rfl,a,b⟩:∃w r,v::vs=w::r/\bW h F d w/\aZ h F ds r)
theorem aZ.eS(x:aZ h F (d::ds) vs):∃v r,vs=v::r/\bW h F d v/\aZ h F ds r:=x
theorem aZ.one{d v}(a:bW h F d v):aZ h F [d] [v]:=.cons a .nil
end
theorem nFk{h:Heap}{F F':Addr->Prop}{a:Addr}{o:Obj}(hF:∀b,F' b->F b\/h.get? b=none)(na:¬F a)(g:h.get? a=some o):¬F' a:=λq=>(hF a q).elim na λe=>nG e g
theorem bW.gen{F F':Addr->Prop}{P:D->Prop}(pt:∀l,P (.tup l)->∀d,d∈l->P d)(pl:∀l,P (.lst l)->∀d,d∈l->P d)(k:∀d b o,P d->bW h F d (.ref b)->¬F b->h.get? b=some o->¬F' b/\h'.get? b=some o)(d:D):∀(v:Value),P d->bW h F d v->bW h' F' d v:=by
 refine D.rec (motive_1:=λd=>∀v,P d->bW h F d v->bW h' F' d v) (motive_2:=λds=>∀vs,(∀d,d∈ds->P d)->aZ h F ds vs->aZ h' F' ds vs) (λ_ _ x=>x) (λ_ _ x=>x) (λ_ _ _ x=>x) (λ_ _ _ x=>x) (λ_ _ _ x=>x) (λ_ _ _ x=>x)
  (λl ih v p x=>?_) (λl ih v p x=>?_) (λa b c v p x=>?_) (λ_ _ x=>x) (λd ds i1 i2 vs p x=>?_) d
 ·obtain⟨a,vs,n,rfl,na,g,rs⟩:=x.tup
  have q:=k _ a _ p x na g;exact Cr q.1 q.2 (ih vs (pt l p) rs)
 ·obtain⟨a,vs,n,rfl,na,g,rs⟩:=x.lst
  have q:=k _ a _ p x na g;exact hO q.1 q.2 (ih vs (pl l p) rs)
 ·obtain⟨r,t,u,w,rfl,na,g⟩:=x.og
  have q:=k _ r _ p x na g;exact xC q.1 q.2
 ·obtain⟨v,r,rfl,a,b⟩:=x.eS
  exact .cons (i1 v (p d (aA ..)) a) (i2 r (λd q=>p d (aD _ q)) b)
theorem bW.kept(k:Kept F h h')(hF:∀b,F' b->F b\/h.get? b=Option.none)(d:D)(v:Value):bW h F d v->bW h' F' d v:=
 bW.gen (P:=λ_=>True) (λ_ _ _ _=>trivial) (λ_ _ _ _=>trivial) (λ_ b o _ _ nb g=>⟨nFk hF nb g,k b o nb g⟩) d v trivial
theorem aZ.kept(k:Kept F h h')(hF:∀b,F' b->F b\/h.get? b=none)(ds):∀(vs:List Value),aZ h F ds vs->aZ h' F' ds vs:=by
 induction ds with
 |nil=>exactλ_ x=>x
 |cons d ds ih=>
  intro vs x;obtain⟨v,r,rfl,a,b⟩:=x.eS;exact .cons (bW.kept k hF d v a) (ih r b)
section
theorem bW.keeps(k:bV h h')(x:bW h F d v):bW h' F d v:=
 bW.kept (F:=F) (λb o _ e=>k b o e) (λ_ q=>.inl q) d v x
theorem aZ.keeps(k:bV h h')(x:aZ h F d v):aZ h' F d v:=
 aZ.kept (F:=F) (λb o _ e=>k b o e) (λ_ q=>.inl q) d v x
theorem bW.less(hF:∀b,F' b->F b\/h.get? b=Option.none)(x:bW h F d v):bW h F' d v:=
 bW.kept (F:=F) (λ_ _ _ e=>e) hF d v x
theorem aZ.less(hF:∀b,F' b->F b\/h.get? b=none)(x:aZ h F d v):aZ h F' d v:=
 aZ.kept (F:=F) (λ_ _ _ e=>e) hF d v x
theorem aZ.length:∀{vs:List Value},aZ h F ds vs->vs.length=ds.length:=by
 induction ds with
 |nil=>exactλx=>congrArg qv x.nk
 |cons d ds ih=>
  intro vs x;obtain⟨v,r,rfl,a,b⟩:=x.eS;exact congrArg lC (ih b)
theorem aZ.append(x:aZ h F ds vs)(y:aZ h F es ws):aZ h F (ds++es) (vs++ws):=by
 induction ds generalizing vs with
 |nil=>obtain rfl:=x.nk;exact y
 |cons d ds ih=>
  obtain⟨v,r,rfl,a,b⟩:=x.eS;exact .cons a (ih b)
theorem aZ.get:∀{vs:List Value}{i:Nat},aZ h F ds vs->vs[i]? =some v->∃d,ds[i]? =some d/\bW h F d v:=by
 induction ds with
 |nil=>intro vs i x e;obtain rfl:=x.nk;exact nomatch e
 |cons d ds ih=>
  intro vs i x e;obtain⟨w,r,rfl,a,b⟩:=x.eS;cases i with
  |zero=>exact⟨d,rfl,af e▸a⟩
  |succ i=>exact ih b e
theorem aZ.get'{h:Heap}{F:Addr->Prop}{ds:List D}{vs:List Value}{i:Nat}{d:D}(x:aZ h F ds vs)(e:ds[i]? =some d):∃v,vs[i]? =some v/\bW h F d v:=by
 have hl:=x.length;have hi:i<vs.length:=by
  rw[hl];exact(fj.mp e).1
 obtain⟨d',h1,h2⟩:=x.get (bC hi);rw[e]at h1;cases h1;exact⟨_,bC hi,h2⟩
theorem aZ.take:∀{vs:List Value}(n:Nat),aZ h F ds vs->aZ h F (ds.take n) (vs.take n):=by
 induction ds with
 |nil=>intro vs n x;obtain rfl:=x.nk;cases n<;>exact .nil
 |cons d ds ih=>
  intro vs n x;obtain⟨w,r,rfl,a,b⟩:=x.eS;cases n with
  |zero=>exact .nil
  |succ n=>exact .cons a (ih n b)
theorem aZ.drop:∀{vs:List Value}(n:Nat),aZ h F ds vs->aZ h F (ds.drop n) (vs.drop n):=by
 induction ds with
 |nil=>intro vs n x;obtain rfl:=x.nk;cases n<;>exact .nil
 |cons d ds ih=>
  intro vs n x;obtain⟨w,r,rfl,a,b⟩:=x.eS;cases n with
  |zero=>exact .cons a b
  |succ n=>exact ih n b
theorem aZ.reverse:∀{vs:List Value},aZ h F ds vs->aZ h F ds.reverse vs.reverse:=by
 induction ds with
 |nil=>intro vs x;obtain rfl:=x.nk;exact .nil
 |cons d ds ih=>
  intro vs x;obtain⟨w,r,rfl,a,b⟩:=x.eS;rw[i5,i5];exact(ih b).append (.one a)
theorem aZ.set(n)(x:aZ h F ds vs)(y:bW h F d v):aZ h F (ds.set n d) (vs.set n v):=by
 induction ds generalizing vs n with
 |nil=>obtain rfl:=x.nk;exact .nil
 |cons e ds ih=>
  obtain⟨w,r,rfl,a,b⟩:=x.eS;cases n with
  |zero=>exact .cons y b
  |succ n=>exact .cons a (ih n b)
section
variable{h:Heap}{F:Addr->Prop}
def Uk:Option Obj->Nat
 |some o=>match o.cls with
  |.type n=>if n="tuple" then 6 else if n="list" then 7 else 8
  |_=>0
 |none=>0
def aoJ(h:Heap):Value->Nat
 |.none=>1|.bool _=>2|.int _ _=>3|.float _ _=>4|.str _ _=>5|.ref a=>Uk (h.get? a)|_=>0
theorem bW.tag(x:bW h F d v):aoJ h v=d.ctorIdx:=by
 cases d with
 |J0=>exact(x:False).elim
 |none=>exact x.none▸rfl
 |bool b=>exact x.bool▸rfl
 |int i=>obtain⟨_,e⟩:=x.int;exact e▸rfl
 |aN i=>obtain⟨_,e,_⟩:=x.aN;exact e▸rfl
 |str i=>obtain⟨_,e⟩:=x.str;exact e▸rfl
 |tup l=>obtain⟨a,_,_,e,_,g,_⟩:=x.tup;exact e▸(congrArg Uk (show h.get? a=_ from g)).trans rfl
 |lst l=>obtain⟨a,_,_,e,_,g,_⟩:=x.lst;exact e▸(congrArg Uk (show h.get? a=_ from g)).trans rfl
 |og _ _ _=>obtain⟨a,_,_,_,e,_,g⟩:=x.og;exact e▸(congrArg Uk (show h.get? a=_ from g)).trans rfl
end
theorem J2{h:Heap}{a b:Addr}{c c':Value}{vs jR:List Value}{n n':Nat}(e:gh a=.ref b)(g:h.get? a=some {cls:=c,dict:=none,data:=.seq vs.toArray n,slots:= #[]})(g':h.get? b=some {cls:=c',dict:=none,data:=.seq jR.toArray n',slots:= #[]}):vs=jR:=
 congrArg Array.toList (Data.seq.inj (congrArg Obj.data (af (g.symm.trans ((congrArg h.get? (lj e)).trans g'))))).1
section
variable{d:D}
theorem ahF(e:d.ctorIdx=1):d=.none:=D.none.elim (motive_1:=λd=>d=.none) d e rfl
theorem aoK(e:d.ctorIdx=2):∃b,d=.bool b:=D.bool.elim (motive_1:=λd=>∃b,d=.bool b) d e λb=>⟨b,rfl⟩
theorem aoL(e:d.ctorIdx=3):∃b,d=.int b:=D.int.elim (motive_1:=λd=>∃b,d=.int b) d e λb=>⟨b,rfl⟩
theorem aoM(e:d.ctorIdx=4):∃b,d=.aN b:=D.aN.elim (motive_1:=λd=>∃b,d=.aN b) d e λb=>⟨b,rfl⟩
theorem aoN(e:d.ctorIdx=5):∃b,d=.str b:=D.str.elim (motive_1:=λd=>∃b,d=.str b) d e λb=>⟨b,rfl⟩
theorem aoO(e:d.ctorIdx=6):∃b,d=.tup b:=D.tup.elim (motive_1:=λd=>∃b,d=.tup b) d e λb=>⟨b,rfl⟩
theorem ahG(e:d.ctorIdx=7):∃b,d=.lst b:=D.lst.elim (motive_1:=λd=>∃b,d=.lst b) d e λb=>⟨b,rfl⟩
theorem aoP(e:d.ctorIdx=8):∃a b c,d=.og a b c:=D.og.elim (motive_1:=λd=>∃a b c,d=.og a b c) d e λa b c=>⟨a,b,c,rfl⟩
end
def qB(d:D):Option {x:Bool // d=.bool x}:=if h:d.ctorIdx=2 then D.bool.elim (motive_1:=λd=>Option {x:Bool // d=.bool x}) d h λx=>some ⟨x,rfl⟩else none
def qI(d:D):Option {x:Int // d=.int x}:=if h:d.ctorIdx=3 then D.int.elim (motive_1:=λd=>Option {x:Int // d=.int x}) d h λx=>some ⟨x,rfl⟩else none
def qF(d:D):Option {x:UInt64 // d=.aN x}:=if h:d.ctorIdx=4 then D.aN.elim (motive_1:=λd=>Option {x:UInt64 // d=.aN x}) d h λx=>some ⟨x,rfl⟩else none
def qS(d:D):Option {x:Str // d=.str x}:=if h:d.ctorIdx=5 then D.str.elim (motive_1:=λd=>Option {x:Str // d=.str x}) d h λx=>some ⟨x,rfl⟩else none
def qT(d:D):Option {x:List D // d=.tup x}:=if h:d.ctorIdx=6 then D.tup.elim (motive_1:=λd=>Option {x:List D // d=.tup x}) d h λx=>some ⟨x,rfl⟩else none
def qR(d:D):Option {x:Int×Int×Int // d=.og x.1 x.2.1 x.2.2}:=if h:d.ctorIdx=8 then D.og.elim (motive_1:=λd=>Option {x:Int×Int×Int // d=.og x.1 x.2.1 x.2.2}) d h λa b c=>some ⟨(a,b,c),rfl⟩else none
def qL(d:D):Option {x:List D // d=.lst x}:=if h:d.ctorIdx=7 then D.lst.elim (motive_1:=λd=>Option {x:List D // d=.lst x}) d h λx=>some ⟨x,rfl⟩else none
section
variable{h:Heap}{F:Addr->Prop}{d:D}{v:Value}
theorem bW.b(r:bW h F d v)(x:{x:Bool // d=.bool x}):v=.bool x.1:=(x.2▸r:bW h F (.bool x.1) v)
theorem bW.i(r:bW h F d v)(x:{x:Int // d=.int x}):∃t,v=.int x.1 t:=(x.2▸r:bW h F (.int x.1) v)
theorem bW.f(r:bW h F d v)(x:{x:UInt64 // d=.aN x}):∃t,v=.float x.1 t/\t≠0:=(x.2▸r:bW h F (.aN x.1) v)
theorem bW.s(r:bW h F d v)(x:{x:Str // d=.str x}):∃t,v=.str x.1 t:=(x.2▸r:bW h F (.str x.1) v)
theorem bW.t(r:bW h F d v)(x:{x:List D // d=.tup x}):RT h F x.1 v:=(x.2▸r:bW h F (.tup x.1) v).tup
theorem bW.r(r:bW h F d v)(x:{x:Int×Int×Int // d=.og x.1 x.2.1 x.2.2}):RR h F x.1.1 x.1.2.1 x.1.2.2 v:=(x.2▸r:bW h F (.og x.1.1 x.1.2.1 x.1.2.2) v).og
theorem bW.l(r:bW h F d v)(x:{x:List D // d=.lst x}):RL h F x.1 v:=(x.2▸r:bW h F (.lst x.1) v).lst
end
theorem Ul{t u w t' u' w'}(e:gh a=.ref b)(g:Jx h a p q r t u w)(g':Jx h b p' q' r' t' u' w'):D.og p q r=.og p' q' r':=by
 have x:=congrArg Array.toList (z9 (congrArg Obj.data (af (g.symm.trans ((congrArg h.get? (lj e)).trans g')))));have y:=(eE x).2;rw[(o6 (eE x).1).1,(o6 (eE y).1).1,(o6 (eE (eE y).2).1).1]
theorem bW.inj{h:Heap}{F:Addr->Prop}{d d':D}{v:Value}(x:bW h F d v)(y:bW h F d' v):d=d':=by
 revert v d';refine D.rec (motive_1:=λd=>∀{d' v},bW h F d v->bW h F d' v->d=d') (motive_2:=λds=>∀{xh vs},aZ h F ds vs->aZ h F xh vs->ds=xh) (λ{d' v} x _=>(x:False).elim) (λ{d' v} x y=>(ahF (y.tag.symm.trans x.tag)).symm) (λb d' v x y=>?_) (λb d' v x y=>?_) (λb d' v x y=>?_) (λb d' v x y=>?_)
  (λl ih d' v x y=>?_) (λl ih d' v x y=>?_) (λa b c d' v x y=>?_) (λ{xh vs} x y=>?_) (λe es i1 i2 xh vs x y=>?_) d
 ·obtain⟨_,rfl⟩:=aoK (y.tag.symm.trans x.tag);exact congrArg D.bool (Y9 (x.bool.symm.trans y.bool))
 ·obtain⟨_,rfl⟩:=aoL (y.tag.symm.trans x.tag);obtain⟨_,e⟩:=x.int;obtain⟨_,e'⟩:=y.int;exact congrArg D.int (o6 (e.symm.trans e')).1
 ·obtain⟨_,rfl⟩:=aoM (y.tag.symm.trans x.tag);obtain⟨_,e,_⟩:=x.aN;obtain⟨_,e',_⟩:=y.aN;exact congrArg D.aN (Value.float.inj (e.symm.trans e')).1
 ·obtain⟨_,rfl⟩:=aoN (y.tag.symm.trans x.tag);obtain⟨_,e⟩:=x.str;obtain⟨_,e'⟩:=y.str;exact congrArg D.str (aeY (e.symm.trans e')).1
 ·obtain⟨_,rfl⟩:=aoO (y.tag.symm.trans x.tag)
  obtain⟨a,vs,n,e,_,i,r⟩:=x.tup;obtain⟨a',jR,n',e',_,i',r'⟩:=y.tup;exact congrArg D.tup (ih r (J2 (e.symm.trans e') i i'▸r'))
 ·obtain⟨_,rfl⟩:=ahG (y.tag.symm.trans x.tag)
  obtain⟨a,vs,n,e,_,i,r⟩:=x.lst;obtain⟨a',jR,n',e',_,i',r'⟩:=y.lst;exact congrArg D.lst (ih r (J2 (e.symm.trans e') i i'▸r'))
 ·obtain⟨_,_,_,rfl⟩:=aoP (y.tag.symm.trans x.tag)
  obtain⟨r,t,u,w,e,_,i⟩:=x.og;obtain⟨r',t',u',w',e',_,i'⟩:=y.og;exact Ul (e.symm.trans e') i i'
 ·cases xh with
  |nil=>rfl
  |cons d ds=>obtain⟨_,_,q,_⟩:=y.eS;exact nomatch x.nk.symm.trans q
 ·cases xh with
  |nil=>obtain⟨_,_,q,_⟩:=x.eS;exact nomatch y.nk.symm.trans q
  |cons d' xh=>
   obtain⟨v,r,e,a,b⟩:=x.eS;obtain⟨v',r',q,a',b'⟩:=y.eS;obtain⟨rfl,rfl⟩:=eE (e.symm.trans q);rw[i1 a a',i2 b b']
def gW(F:Addr->Prop)(s:ah)(d:D)(v:Value)(s':ah):Prop:=Keeps s s'/\bW s'.heap F d v
theorem gp(h:∀Q':α->ah->Prop,(∀a s',Q a s'->Q' a s')->wpAny M A t Q' E s):wpAny M A t Q E s:=h Q λ_ _ q=>q
theorem Keeps.rfl':Keeps s s:=⟨s.heap,s.toks,rfl,λ_ _ e=>e⟩
theorem Keeps.Um(n):Keeps s {s with toks:=n}:=⟨s.heap,n,rfl,λ_ _ e=>e⟩
theorem Keeps.trans'(k:Keeps s s')(k':Keeps s' LJ):Keeps s LJ:=
 by obtain⟨_,_,e,k⟩:=k;obtain⟨h',t',e',k'⟩:=k';exact⟨h',t',e'.trans (e▸rfl),λb o q=>k' b o (e▸k b o q)⟩
theorem Keeps.all(k:Keeps s s'):bV s.heap s'.heap:=by
 obtain⟨h,t,rfl,k⟩:=k;exact k
theorem Keeps.push(o):Keeps s {s with heap:=s.heap.push o}:=⟨_,s.toks,rfl,λ_ _ e=>aV _ e⟩
theorem Keeps.ES(o)(n):Keeps s {s with heap:=s.heap.push o,toks:=n}:=⟨_,n,rfl,λ_ _ e=>aV _ e⟩
abbrev iW(F:Addr->Prop)(h:Heap):Prop:=∀b,F b->(h.get? b).isSome=true
theorem mq(lo:iW F h):¬F h.objs.size:=λq=>by
 have e:=lo _ q;cases g:h.get? h.objs.size with
 |none=>rw[g]at e;cases e
 |some o=>exact dS _ (cY g)
theorem nq(lo:iW F h)(x:aZ h F ds vs):
 bW (h.push {cls:=.type "list",data:=.seq vs.toArray}) F (.lst ds) (.ref h.objs.size):=by
 exact hO (mq lo) (IsL.new h vs.toArray) (x.keeps λ_ _ e=>aV _ e)
theorem ET(lo:iW F h)(x:aZ h F ds vs):
 bW (h.push {cls:=.type "tuple",data:=.seq vs.toArray}) F (.tup ds) (.ref h.objs.size):=by
 exact Cr (mq lo) (IsT.new h vs.toArray) (x.keeps λ_ _ e=>aV _ e)
theorem iW.keeps(lo:iW F h)(k:bV h h'):iW F h':=λb q=>by
 obtain⟨o,e⟩:=ay.mp (lo b q);rw[k b o e];rfl
end
end
section
@[irreducible] def sm(i:Int):Bool:=decide (i.natAbs<2^1000)
theorem O5(h1: -(10^100)<=i)(h2:i<=10^100):sm i=true:=by
 have h:i.natAbs<=10^100:=by omega
 have h':(10:Nat)^100<2^1000:=by decide
 unfold sm;exact decide_eq_true (bk h h')
theorem EU(h:sm i=true):i.natAbs<2^1000:=by unfold sm at h;exact of_decide_eq_true h
theorem ahH:(2:Nat)^1000<2^1023:=jj (by decide) (by decide)
theorem Un(h:sm i=true):i.natAbs<2^1023:=cw (EU h) (cA ahH)
theorem xD(h:i.natAbs<2^n):cq i<=n:=by
 unfold cq;split
 ·exact dk _
 ·rename_i hz
  have hz:i≠0:=by simpa using hz
  have:=(ad7 (by omega:i.natAbs≠0)).mpr h;omega
theorem mulOk_of(ha:sm a=true)(hb:sm b=true):IntMulOk a b:=by
 have h1:=xD (EU ha);have h2:=xD (EU hb);unfold IntMulOk;have h3:¬((cq a:Int)+cq b>((2^27:Nat):Int)):=by omega
 have h4:Builtin.Int.intTooBig ((cq a:Int)+cq b)=false:=decide_eq_false h3;rw[h4,Bool.and_false];exact aF
theorem aaM(hb:sm b=true):Builtin.divisionGoesByPylong a b=false:=by
 refine PyProof.noPylong_of_log2 ?_;by_cases hz:b.natAbs=0
 ·rw[hz];decide
 ·have:=(ad7 hz).mpr (EU hb)
  omega
def eu:Nat:=1048576
theorem ip:eu<=sizeLine:=by decide
def rep(n:Nat)(xs:List α):List α:=match n with
 |0=>[]
 |n+1=>xs++rep n xs
def EV(a b:Int):UInt64:=fy (decide (a<0) != decide (b<0)) a.natAbs b.natAbs
def DH(f:Int->Int->Option α)(a b:D):Option α:=(qI a).bind λi=>(qI b).bind λj=>f i.1 j.1
def Sv(f:UInt64->UInt64->Option α)(a b:D):Option α:=(qF a).bind λi=>(qF b).bind λj=>f i.1 j.1
def O6(f:UInt64->Int->Option α)(a b:D):Option α:=(qF a).bind λi=>(qI b).bind λj=>f i.1 j.1
def aaN{α:Type}(f:Int->UInt64->Option α)(a b:D):Option α:=(qI a).bind λi=>(qF b).bind λj=>f i.1 j.1
def arB{α:Type}(f:Bool->Bool->Option α)(a b:D):Option α:=(qB a).bind λi=>(qB b).bind λj=>f i.1 j.1
def arS(f:Str->Str->Option α)(a b:D):Option α:=(qS a).bind λi=>(qS b).bind λj=>f i.1 j.1
def arL(f:List D->List D->Option α)(a b:D):Option α:=(qL a).bind λi=>(qL b).bind λj=>f i.1 j.1
def arT(f:List D->List D->Option α)(a b:D):Option α:=(qT a).bind λi=>(qT b).bind λj=>f i.1 j.1
def aoS(x y:Str):Option D:=if x.length+y.length<=eu then some (.str (x++y))else none
def XU(i:Int)(y:UInt64):Option D:=if sm i then some (.aN (i6 (eJ i) y))else none
def ahI(a b:D):Option D:=(DH (λi j=>some (.int (i+j))) a b).or ((Sv (λx y=>some (.aN (i6 x y))) a b).or ((aaN XU a b).or ((arS aoS a b).or
 ((arL (λx y=>if x.length+y.length<=eu then some (.lst (x++y))else none) a b).or (arT (λl k=>match l with
    |[]=>none
    |a::as=>match k with
     |[]=>none
     |b::bs=>if(a::as).length+(b::bs).length<=eu then some (.tup ((a::as)++(b::bs)))else none) a b)))))
def XW(a b:D):Option D:=(DH (λi j=>some (.int (i - j))) a b).or ((Sv (λx y=>some (.aN (lY x y))) a b).or (O6 (λx j=>if sm j then some (.aN (lY x (eJ j)))else none) a b))
def O7(l:List D)(n:Int):Option D:=match l with
 |[]=>none
 |a::as=>if 0<=n/\n<=65536/\(a::as).length*n.toNat<=eu then some (.lst (rep n.toNat (a::as)))else none
def ahJ(a b:D):Option D:=(DH (λi j=>if sm i&&sm j then some (.int (i*j))else none) a b).or (((qI a).bind λi=>(qF b).bind λy=>if sm i.1 then some (.aN (hZ (eJ i.1) y.1))else none).or ((Sv (λx y=>some (.aN (hZ x y))) a b).or
 ((O6 (λx j=>if sm j then some (.aN (hZ x (eJ j)))else none) a b).or ((qL a).bind λl=>(qI b).bind λn=>O7 l.1 n.1))))
def ahK(a b:D):Option D:=(DH (λa b=>if b≠0/\lJ (EV a b)=false then some (.aN (EV a b))else none) a b).or (Sv (λa b=>if gS b then none else some (.aN (jW a b))) a b)
def ahL(a b:D):Option D:=(DH (λa b=>if b≠0 then some (.int (a.fmod b))else none) a b).or (Sv (λa b=>if gS b then none else some (.aN (tG a b).snd)) a b)
def ahM(a b:Int):Option D:=if b≠0/\sm b=true then some (.int (a.fdiv b))else none
def ahN(a n:Int):Option D:=if a.natAbs<18446744073709551616/\0<=n/\n<=100000 then some (.int (a^n.toNat))else none
def ahO(a n:Int):Option D:=if sm a=true/\0<=n/\n<=100000 then some (.int (a*2^n.toNat))else none
def ahP(a n:Int):Option D:=if 0<=n then some (.int (a.fdiv (2^n.toNat)))else none
def ahQ(a b:Int):Option D:=some (.int (nV a b))
def N6(a b:Int):Option D:=some (.int (i7 a b))
def aE:q0->D->D->Option D
 |.Add,a,b=>ahI a b
 |.Sub,a,b=>XW a b
 |.Mult,a,b=>ahJ a b
 |.Div,a,b=>ahK a b
 |.FloorDiv,a,b=>DH ahM a b
 |.Mod,a,b=>ahL a b
 |.Pow,a,b=>DH ahN a b
 |.LShift,a,b=>DH ahO a b
 |.RShift,a,b=>DH ahP a b
 |.BitXor,a,b=>DH ahQ a b
 |.BitAnd,a,b=>DH N6 a b
 |_,_,_=>none
theorem DI{P:Prop}(e:false=true):P:=nomatch e
theorem Uo{α:Type}{c:Bool}{x d:α}(e:(bif c then some x else none)=some d):c=true/\x=d:=by
 cases c with
 |true=>exact⟨rfl,af e⟩
 |false=>exact no e
theorem bx{α:Type}{c:Prop}[i:Decidable c]{x d:α}(e:(if c then some x else none)=some d):c/\x=d:=by
 cases i with
 |isTrue h=>exact⟨h,af e⟩
 |isFalse h=>exact no e
theorem dD{α:Type}{c:Prop}[i:Decidable c]{x:Option α}{d:α}(e:(if c then x else none)=some d):c/\x=some d:=by
 cases i with
 |isTrue h=>exact⟨h,e⟩
 |isFalse h=>exact no e
theorem xE{α:Type}{c:Prop}[i:Decidable c]{x d:α}(e:(if c then none else some x)=some d):¬c/\x=d:=by
 cases i with
 |isTrue h=>exact no e
 |isFalse h=>exact⟨h,af e⟩
section
variable{prog:bb}{w:World}{A:aC}{E:Value->ah->Prop}{s:ah}{F:Addr->Prop}
theorem lq:gW F s (.int i) (.int i t) {s with toks:=n}:=⟨Keeps.Um _,fA⟩
theorem xi(ht:1<=t):gW F s (.aN i) (.float i t) {s with toks:=n}:=⟨Keeps.Um _,Cq (Nat.pos_iff_ne_zero.mp ht)⟩
theorem EW:gW F s (.str i) (.str i t) {s with toks:=n}:=⟨Keeps.Um _,xB⟩
theorem XX:gW F s (.bool i) (.bool i) {s with toks:=n}:=⟨Keeps.Um _,kB⟩
theorem aaO(lo:iW F s.heap)(x:aZ s.heap F ds vs):
 gW F s (.lst ds) (.ref s.heap.objs.size) {s with heap:=s.heap.push {cls:=.type "list",data:=.seq vs.toArray}}:=⟨Keeps.push _,nq lo x⟩
theorem aoT(lo:iW F s.heap)(x:aZ s.heap F ds vs):
 gW F s (.tup ds) (.ref s.heap.objs.size) {s with heap:=s.heap.push {cls:=.type "tuple",data:=.seq vs.toArray}}:=⟨Keeps.push _,ET lo x⟩
theorem aZ.rep(x:aZ h F ds vs)(n):aZ h F (Internal.rep n ds) (Internal.rep n vs):=by
 induction n with
 |zero=>exact .nil
 |succ n ih=>exact x.append ih
theorem foldl_rep(xs:Array α):∀(n:Nat)(acc:Array α),List.foldl (λx1 x2=>x1++x2) acc (bh n xs)=acc++(Internal.rep n xs.toList).toArray:=by
 intro zx
 induction zx with
 |zero=>
  rintro acc;simp[Internal.rep]
 |succ n ih=>
  rintro acc;rw[ad8,kn,ih];apply Array.ext';simp[Internal.rep]
theorem ahR
(hl:IsL s.heap l items k)(hlo: -(2^63:Int)<=x)(hhi:x<2^63)(hsz:items.size*x.toNat<=2^24)
(h:Q (.ref s.heap.objs.size) {s with heap:=s.heap.push {cls:=.type "list",data:=.seq (List.foldl (λx1 x2=>x1++x2) #[] (bh (if items.isEmpty=true then 0 else x.toNat) items))}}):
 wpAny (model prog w) A (binaryOp .Mult (.ref l) (.int x u)) Q E s:=
 wpAny_binaryOp_repeat_ref (T:="list") (U:="int") (by decide) ⟨_,hl,rfl⟩ (λs'=>typeIs_int s' x u) noFill_list_mul F.fills_int_mul F.slot_int_rmul repeat_list F.slot_int_index.lookup
  (G4 F.slot_int_rmul (typeIs_int s x u) F.entry_int_rmul (F.args_int_rmul_2 _ _) (int___rmul___int_list x u l items k)
    ⟨hl,rfl,⟨_,hl,rfl⟩,G4 F.slot_list_mul ⟨_,hl,rfl⟩ F.entry_list_mul (F.args_list_mul_2 _ _)
      (AutoListH.list___mul___list_int_3 l items k x u (by simp[Builtin.List.listFitsIndex];omega) (by omega) (by simp[B9,sizeLine];omega))
      ⟨hl,h⟩⟩)
theorem He{α:Type}{P:Value->Value->Prop}{f:Int->Int->Option α}{d:α}(k:∀i j t u,f i j=some d->P (.int i t) (.int j u))(ra:bW s.heap F a va)(rb:bW s.heap F b vb)(e:DH f a b=some d):P va vb:=by
 obtain⟨i,_,e⟩:=aO e;obtain⟨j,_,e⟩:=aO e;obtain⟨t,h1⟩:=ra.i i;obtain⟨u,h2⟩:=rb.i j;exact h1▸h2▸k _ _ _ _ e
theorem Sw{α:Type}{P:Value->Value->Prop}{f:UInt64->UInt64->Option α}{d:α}(k:∀i j t u,t≠0->u≠0->f i j=some d->P (.float i t) (.float j u))(ra:bW s.heap F a va)(rb:bW s.heap F b vb)(e:Sv f a b=some d):P va vb:=by
 obtain⟨i,_,e⟩:=aO e;obtain⟨j,_,e⟩:=aO e;obtain⟨t,h1,q⟩:=ra.f i;obtain⟨u,h2,q2⟩:=rb.f j;exact h1▸h2▸k _ _ _ _ q q2 e
theorem fiE{α:Type}{P:Value->Value->Prop}{f:UInt64->Int->Option α}{d:α}(k:∀i j t u,f i j=some d->P (.float i t) (.int j u))(ra:bW s.heap F a va)(rb:bW s.heap F b vb)(e:O6 f a b=some d):P va vb:=by
 obtain⟨i,_,e⟩:=aO e;obtain⟨j,_,e⟩:=aO e;obtain⟨t,h1,_⟩:=ra.f i;obtain⟨u,h2⟩:=rb.i j;exact h1▸h2▸k _ _ _ _ e
theorem ifE{α:Type}{P:Value->Value->Prop}{f:Int->UInt64->Option α}{d:α}(k:∀i j t u,f i j=some d->P (.int i t) (.float j u))(ra:bW s.heap F a va)(rb:bW s.heap F b vb)(e:aaN f a b=some d):P va vb:=by
 obtain⟨i,_,e⟩:=aO e;obtain⟨j,_,e⟩:=aO e;obtain⟨t,h1⟩:=ra.i i;obtain⟨u,h2,_⟩:=rb.f j;exact h1▸h2▸k _ _ _ _ e
theorem bbE{α:Type}{P:Value->Value->Prop}{f:Bool->Bool->Option α}{d:α}(k:∀i j,f i j=some d->P (.bool i) (.bool j))(ra:bW s.heap F a va)(rb:bW s.heap F b vb)(e:arB f a b=some d):P va vb:=by
 obtain⟨i,_,e⟩:=aO e;obtain⟨j,_,e⟩:=aO e;exact ra.b i▸rb.b j▸k _ _ e
theorem ssE{α:Type}{P:Value->Value->Prop}{f:Str->Str->Option α}{d:α}(k:∀i j t u,f i j=some d->P (.str i t) (.str j u))(ra:bW s.heap F a va)(rb:bW s.heap F b vb)(e:arS f a b=some d):P va vb:=by
 obtain⟨i,_,e⟩:=aO e;obtain⟨j,_,e⟩:=aO e;obtain⟨t,h1⟩:=ra.s i;obtain⟨u,h2⟩:=rb.s j;exact h1▸h2▸k _ _ _ _ e
theorem llE{α:Type}{P:Value->Value->Prop}{f:List D->List D->Option α}{d:α}(k:∀l l' a a' vs jR n n',IsL s.heap a vs.toArray n->IsL s.heap a' jR.toArray n'->aZ s.heap F l vs->aZ s.heap F l' jR->f l l'=some d->P (.ref a) (.ref a'))(ra:bW s.heap F a va)(rb:bW s.heap F b vb)(e:arL f a b=some d):P va vb:=by
 obtain⟨i,_,e⟩:=aO e;obtain⟨j,_,e⟩:=aO e;obtain⟨_,vs,n,h1,_,hl,hr⟩:=ra.l i;obtain⟨_,jR,n',h2,_,pS,qX⟩:=rb.l j;exact h1▸h2▸k _ _ _ _ _ _ _ _ hl pS hr qX e
theorem ttE{α:Type}{P:Value->Value->Prop}{f:List D->List D->Option α}{d:α}(k:∀l l' a a' vs jR n n',IsT s.heap a vs.toArray n->IsT s.heap a' jR.toArray n'->aZ s.heap F l vs->aZ s.heap F l' jR->f l l'=some d->P (.ref a) (.ref a'))(ra:bW s.heap F a va)(rb:bW s.heap F b vb)(e:arT f a b=some d):P va vb:=by
 obtain⟨i,_,e⟩:=aO e;obtain⟨j,_,e⟩:=aO e;obtain⟨_,vs,n,h1,_,hl,hr⟩:=ra.t i;obtain⟨_,jR,n',h2,_,pS,qX⟩:=rb.t j;exact h1▸h2▸k _ _ _ _ _ _ _ _ hl pS hr qX e
def mr(d:D):Bool:=bM d.ctorIdx 7
theorem uc(h:mr d=true):∃l,d=.lst l:=ahG (bF h)
def kG(s:ah)(v:Value):Prop:=∃a,v=.ref a/\s.heap.get? a=none
theorem kr(h:Heap):h.get? h.objs.size=none:=by
 cases e:h.get? h.objs.size with
 |none=>rfl
 |some o=>exact absurd (cY e) (dS _)
theorem Cs(r:aZ h F (a::as) vs):¬vs.toArray.isEmpty=true:=by
 obtain⟨v,r,rfl,_,_⟩:=r.eS;exact aF
theorem XY(hr:aZ h F l vs)(hq:aZ h F k ws)(e:l.length+k.length<=eu):vs.toArray.size+ws.toArray.size<=sizeLine:=by
 rw[aX,aX,hr.length,hq.length];exact aq e ip
abbrev BS(prog:bb)(w:World)(A:aC)(E:Value->ah->Prop)(s:ah)(F:Addr->Prop)(op:q0)(d:D)(va vb:Value):Prop:=wpAny (model prog w) A (binaryOp op va vb) (gW F s d) E s
abbrev BF(prog:bb)(w:World)(A:aC)(E:Value->ah->Prop)(s:ah)(F:Addr->Prop)(d:D)(va vb:Value):Prop:=wpAny (model prog w) A (binaryOp .Add va vb) (λv s'=>gW F s d v s'/\(mr d=true->kG s v)) E s
theorem HL(lo:iW F s.heap)(hl:IsT s.heap a vs.toArray n)(hk:IsT s.heap a' jR.toArray n')(hr:aZ s.heap F l vs)(hq:aZ s.heap F k jR)(e:(match l with
 |[]=>none
 |a::as=>match k with
  |[]=>none
  |b::bs=>if(a::as).length+(b::bs).length<=eu then some (D.tup ((a::as)++(b::bs)))else none)=some d):BF prog w A E s F d (.ref a) (.ref a'):=by
 cases l with
 |nil=>exact no e
 |cons x l=>
  cases k with
  |nil=>exact no e
  |cons y k=>
   obtain⟨h,rfl⟩:=bx e;refine PySem.P.add_tuple hl hk (Cs hr) (Cs hq) ?_ (XY hr hq h);rw[ad9];exact⟨aoT lo (hr.append hq),DI⟩
theorem HM(lo:iW F s.heap)(hl:IsL s.heap a vs.toArray n)(hk:IsL s.heap a' jR.toArray n')(hr:aZ s.heap F l vs)(hq:aZ s.heap F k jR)(h:l.length+k.length<=eu):BF prog w A E s F (.lst (l++k)) (.ref a) (.ref a'):=by
 refine PySem.P.add_list hl hk ?_ (XY hr hq h);rw[ad9];exact⟨aaO lo (hr.append hq),λ_=>⟨_,rfl,kr _⟩⟩
theorem Bl(ht:1<=s.toks)(lo:iW F s.heap)(ra:bW s.heap F a va)(rb:bW s.heap F b vb)(e:ahI a b=some d):BF prog w A E s F d va vb:=
 jY e (He (λ_ _ _ _ e=>af e▸PyProof.Rows.add_int ⟨lq,DI⟩) ra rb) λe=>jY e (Sw (λ_ _ _ _ _ _ e=>af e▸PyProof.Rows.add_float ⟨xi ht,DI⟩) ra rb)
  λe=>jY e (ifE (f:=XU) (P:=BF prog w A E s F d) (λ_ _ _ _ e=>by exact(bx e).2▸PyProof.Rows.add_if_fits (Un (bx e).1) ⟨xi ht,DI⟩) ra rb)
  λe=>jY e (ssE (λ_ _ _ _ e=>(bx e).2▸PyProof.Rows.add_str (λ_ _=>⟨EW,DI⟩) (aq (bx e).1 ip)) ra rb)
  λe=>jY e (llE (λ_ _ _ _ _ _ _ _ hl pS hr qX e=>(bx e).2▸HM lo hl pS hr qX (bx e).1) ra rb) (ttE (λ_ _ _ _ _ _ _ _ hl pS hr qX e=>HL lo hl pS hr qX e) ra rb)
theorem HN(ht:1<=s.toks)(ra:bW s.heap F a va)(rb:bW s.heap F b vb)(e:XW a b=some d):BS prog w A E s F .Sub d va vb:=
 jY e (He (λ_ _ _ _ e=>af e▸PyProof.Rows.sub_int lq) ra rb) λe=>jY e (Sw (λ_ _ _ _ _ _ e=>af e▸PyProof.Rows.sub_float (xi ht)) ra rb)
  (fiE (λ_ _ _ _ e=>(bx e).2▸PyProof.Rows.sub_fi_fits (Un (bx e).1) (xi ht)) ra rb)
theorem O8(lo:iW F s.heap)(hl:IsL s.heap a vs.toArray n)(hr:aZ s.heap F l vs)(e:O7 l i=some d):BS prog w A E s F .Mult d (.ref a) (.int i u):=by
 cases l with
 |nil=>exact no e
 |cons x l=>
  obtain⟨h,rfl⟩:=bx e;refine ahR hl (gi (by decide) h.1) (Int.lt_of_le_of_lt h.2.1 (by decide)) (by rw[aX,hr.length];exact aq h.2.2 (by decide)) ?_;rw[foldl_rep,if_neg (Cs hr),o7];exact aaO lo (hr.rep _)
theorem EX(ht:1<=s.toks)(ra:bW s.heap F a va)(rb:bW s.heap F b vb)(e:((qI a).bind λi=>(qF b).bind λy=>if sm i.1 then some (.aN (hZ (eJ i.1) y.1))else none)=some d):BS prog w A E s F .Mult d va vb:=by
 obtain⟨i,_,e⟩:=aO e;obtain⟨j,_,e⟩:=aO e;obtain⟨t,h1⟩:=ra.i i;obtain⟨u,h2,_⟩:=rb.f j;exact h1▸h2▸(bx e).2▸PyProof.Rows.mul_if_fits (Un (bx e).1) (xi ht)
theorem EY(lo:iW F s.heap)(ra:bW s.heap F a va)(rb:bW s.heap F b vb)(e:((qL a).bind λl=>(qI b).bind λn=>O7 l.1 n.1)=some d):BS prog w A E s F .Mult d va vb:=by
 obtain⟨i,_,e⟩:=aO e;obtain⟨j,_,e⟩:=aO e;obtain⟨_,vs,n,h1,_,hl,hr⟩:=ra.l i;obtain⟨u,h2⟩:=rb.i j;exact h1▸h2▸O8 lo hl hr e
theorem LK(ht:1<=s.toks)(lo:iW F s.heap)(ra:bW s.heap F a va)(rb:bW s.heap F b vb)(e:ahJ a b=some d):BS prog w A E s F .Mult d va vb:=
 jY e (He (λ_ _ _ _ e=>(bx e).2▸PyProof.Rows.mul_int lq (mulOk_of (bZ.mp (bx e).1).1 (bZ.mp (bx e).1).2)) ra rb) λe=>jY e (EX ht ra rb)
  λe=>jY e (Sw (λ_ _ _ _ _ _ e=>af e▸PyProof.Rows.mul_float (xi ht)) ra rb) λe=>jY e (fiE (λ_ _ _ _ e=>(bx e).2▸PyProof.Rows.mul_fi_fits (Un (bx e).1) (xi ht)) ra rb) (EY lo ra rb)
theorem LL(ht:1<=s.toks)(ra:bW s.heap F a va)(rb:bW s.heap F b vb)(e:ahK a b=some d):BS prog w A E s F .Div d va vb:=
 jY e (He (λ_ _ _ _ e=>by
  obtain⟨h,e⟩:=bx e;exact e▸AutoIntOps.truediv_2 (by simpa using h.1) (by have:=h.2;unfold EV at this;simp[this]) (xi ht)) ra rb) (Sw (λ_ _ _ _ _ _ e=>(xE e).2▸AutoFloatOps.truediv_1 (xE e).1 (xi ht)) ra rb)
theorem LM(ht:1<=s.toks)(ra:bW s.heap F a va)(rb:bW s.heap F b vb)(e:ahL a b=some d):BS prog w A E s F .Mod d va vb:=
 jY e (He (λ_ _ _ _ e=>(bx e).2▸PyProof.Rows.mod_int (bx e).1 lq) ra rb) (Sw (λ_ _ _ _ _ _ e=>(xE e).2▸AutoFloatOps.mod_1 (xE e).1 (xi ht)) ra rb)
theorem O9(h:a.natAbs<18446744073709551616/\0<=n/\n<=100000):(cq a:Int)*n<=64*100000:=
 Int.mul_le_mul (gj.mpr (xD (n:=64) h.1)) h.2.2 h.2.1 (by decide)
theorem p0(ht:1<=s.toks)(lo:iW F s.heap)(ra:bW s.heap F a va)(rb:bW s.heap F b vb)(e:aE op a b=some d):BS prog w A E s F op d va vb:=by
 cases op with
 |Add=>exact ai (Bl ht lo ra rb e) (λ_ _ q=>q.1) λ_ _ e=>e
 |Sub=>exact HN ht ra rb e
 |Mult=>exact LK ht lo ra rb e
 |Div=>exact LL ht ra rb e
 |Mod=>exact LM ht ra rb e
 |Pow=>
  refine He (f:=ahN) (λi j t u e=>?_) ra rb e;obtain⟨h,e⟩:=bx e;have hb:=O9 h;exact e▸PyProof.Rows.pow_int h.2.1 (by omega) lq
 |LShift=>
  refine He (f:=ahO) (λi j t u e=>?_) ra rb e;obtain⟨h,e⟩:=bx e;have hb:=xD (EU h.1);exact e▸PyProof.Rows.lshift_int h.2.1 (by omega) lq
 |RShift=>
  refine He (f:=ahP) (λi j t u e=>?_) ra rb e;obtain⟨h,e⟩:=bx e;exact e▸PyProof.Rows.rshift_int h lq
 |BitXor=>
  refine He (f:=ahQ) (λi j t u e=>?_) ra rb e;exact af e▸PyProof.Rows.xor_int lq
 |BitAnd=>
  refine He (f:=N6) (λi j t u e=>?_) ra rb e;exact af e▸PyProof.Rows.and_int lq
 |FloorDiv=>
  refine He (f:=ahM) (λi j t u e=>?_) ra rb e;obtain⟨h,e⟩:=bx e;exact e▸PyProof.Rows.floordiv_int h.1 lq (.inl (aaM h.2))
 |_=>exact no e
def nr(d:D):Option Bool:=((qB d).map λx=>x.1).or (((qI d).map λi=>i.1 != 0).or ((qL d).bind λl=>if l.1.length<=eu then some (!l.1.isEmpty)else none))
def ahU:UnaryOp->D->Option D
 |.USub,d=>(qI d).map λi=>.int (-i.1)
 |.Invert,d=>(qI d).map λi=>.int (cX i.1)
 |.Not,d=>(nr d).map λb=>.bool !b
 |.UAdd,_=>none
end
end
section
open PySem.SeqAt
def sq(f:D->D->Option Bool):List D->List D->Option Bool
 |[],ys=>match ys with
  |[]=>some true
  |_::_=>none
 |x::xs,ys=>match ys with
  |[]=>none
  |y::ys=>(f x y).bind λp=>(sq f xs ys).map λq=>p&&q
def xj(a b:UInt64):Bool:=cG a b==some .eq
def aaP(a b:UInt64):Option Bool:=if xj a b=true then some true else none
def LN(x:UInt64)(i:Int):Option Bool:=some (fz x i==some .eq)
def Pa(a b:D):Option Bool:=(DH (λi j=>some (i==j)) a b).or ((arS (λi j=>some (i==j)) a b).or ((Sv aaP a b).or ((O6 LN a b).or ((aaN (λi x=>LN x i) a b).or (arB (λp q=>some (p==q)) a b)))))
def aaQ(f:D->D->Option Bool)(a b:List D):Option Bool:=if a.length=b.length then sq f a b else some false
def aaR(f:D->D->Option Bool)(a b:List D):Option Bool:=if a.length=b.length then sq f a b else none
def aaS(f:D->D->Option Bool)(z:Bool)(a b:D):Option Bool:=if z=true then(Pa a b).or ((arL (aaQ f) a b).or (arT (aaR f) a b))else Pa a b
def rH:Nat->D->D->Option Bool
 |0=>aaS (λ_ _=>none) false
 |n+1=>aaS (rH n) true
section
variable{F:Addr->Prop}
theorem Bm(hf:∀d b,f d d=some b->b=true):∀(ds:List D)(b:Bool),sq f ds ds=some b->b=true:=by
 intro zx
 induction zx with
 |nil=>
  rintro b e;exact(af e).symm
 |cons d ds ih=>
  rintro b e;obtain⟨p,h1,h2⟩:=aO e;obtain⟨q,h3,rfl⟩:=dH h2;rw[hf d p h1,ih q h3];rfl
theorem Bn(e:Pa d d=some b):b=true:=by
 refine jY e (λe=>?_) λe=>jY e (λe=>?_) λe=>?_
 ·obtain⟨i,h1,e⟩:=aO e
  obtain⟨j,h2,e⟩:=aO e;obtain rfl:=af (h1.symm.trans h2);exact(af e).symm.trans (beq_self_eq_true _)
 ·obtain⟨i,h1,e⟩:=aO e
  obtain⟨j,h2,e⟩:=aO e;obtain rfl:=af (h1.symm.trans h2);exact(af e).symm.trans (beq_self_eq_true _)
 ·refine jY e (λe=>?_) λe=>jY e (λe=>?_) λe=>jY e (λe=>?_) λe=>?_
  ·obtain⟨i,h1,e⟩:=aO e
   obtain⟨j,h2,e⟩:=aO e;exact(bx e).2.symm
  ·obtain⟨i,h1,e⟩:=aO e
   obtain⟨j,h2,e⟩:=aO e;exact nomatch i.2.symm.trans j.2
  ·obtain⟨i,h1,e⟩:=aO e
   obtain⟨j,h2,e⟩:=aO e;exact nomatch i.2.symm.trans j.2
  ·obtain⟨i,h1,e⟩:=aO e
   obtain⟨j,h2,e⟩:=aO e;obtain rfl:=af (h1.symm.trans h2);exact(af e).symm.trans (beq_self_eq_true _)
theorem Bo(hf:∀d b,f d d=some b->b=true)(d)(b)(e:aaS f z d d=some b):b=true:=by
 cases z with
 |false=>exact Bn e
 |true=>
  refine jY e Bn λe=>jY e (λe=>?_) λe=>?_
  ·obtain⟨i,h1,e⟩:=aO e
   obtain⟨j,h2,e⟩:=aO e;obtain rfl:=af (h1.symm.trans h2);exact Bm hf i.1 b ((if_pos rfl).symm.trans e)
  ·obtain⟨i,h1,e⟩:=aO e
   obtain⟨j,h2,e⟩:=aO e;obtain rfl:=af (h1.symm.trans h2);exact Bm hf i.1 b ((if_pos rfl).symm.trans e)
theorem Pb:∀(n:Nat)(d:D)(b:Bool),rH n d d=some b->b=true:=by
 intro zx
 induction zx with
 |zero=>
  rintro d b e;exact Bo (f:=λ_ _=>none) (λ_ _ e=>no e) d b e
 |succ n ih=>
  rintro d b e;exact Bo (ih) d b e
theorem yg(e:Nat->Bool)(n):(aM (n+1)).all e=(e 0&&(aM n).all λi=>e (i+1)):=by
 rw[S2,qO,List.all_map];rfl
theorem xF(hf:∀d d' v v' b,bW s.heap F d v->bW s.heap F d' v'->f d d'=some b->EqAt A s v v' b):
 ∀(ds xh:List D)(vs jR:List Value)(b:Bool),aZ s.heap F ds vs->aZ s.heap F xh jR->sq f ds xh=some b->
  ∃e:Nat->Bool,(∀j v v',vs[j]? =some v->jR[j]? =some v'->EqAt A s v v' (e j))/\(aM vs.length).all e=b:=by
 intro zx
 induction zx with
 |nil=>
  rintro xh vs jR b x y e;cases xh with
  |cons _ _=>exact no e
  |nil=>
   obtain rfl:=x.nk;exact⟨λ_=>true,λj v v' h=>no h,af e⟩
 |cons d ds ih=>
  rintro xh vs jR b x y e;cases xh with
  |nil=>exact no e
  |cons d' xh=>
   obtain⟨p,h1,h2⟩:=aO e;obtain⟨q,h3,rfl⟩:=dH h2;obtain⟨v,r,rfl,a1,b1⟩:=x.eS;obtain⟨v',r',rfl,a2,b2⟩:=y.eS;obtain⟨e,he,hb⟩:=ih xh r r' q b1 b2 h3;refine⟨λj=>match j with|0=>p|j+1=>e j,λj u u' hu hu'=>?_,by rw[bE,yg,<-hb]⟩;cases j with
   |zero=>exact af hu▸af hu'▸hf _ _ _ _ _ a1 a2 h1
   |succ j=>exact he j u u' hu hu'
theorem HO(hb:i8 s.heap)(ht:t≠0)(hu:u≠0)(same:xj a b=true):EqAt A s (.float a t) (.float b u) true:=λprog w E Q h=>by
 unfold eqBool;refine bR ?_;refine xS (λUe=>ao (jN (aL h))) (λ_=>?_);dsimp only;have jp:wpAny (model prog w) A (do let r<-richCompare A5 (.float a t) (.float b u);truthOfDropped r) Q E s:=
  ao (show wpAny (model prog w) A (compareOp .Eq (.float a t) (.float b u)) _ E s from AutoFloatOps.eq_0 (by
   have:(cG a b==some Ordering.eq)=true:=same;rw[this];exact f7 h))
 have fin:∀c:Bool,wpAny (model prog w) A (if c=true then pure true else do let r<-richCompare A5 (.float a t) (.float b u);truthOfDropped r) Q E s:=λc=>by
  cases c
  ·exact jp
  ·exact aL h
 refine ao ?_;show wpAny (model prog w) A (amO (a==b&& !Float64.isNaN a) t u) _ E s;unfold amO;refine aeZ ?_;split
 ·rename_i h0
  simp[ht,hu]at h0
 refine aeZ ?_;split
 ·exact aL (fin true)
 refine aeZ ?_;split
 ·exact aL (fin false)
 refine ao (Za hb ?_);rw[if_neg aF];refine ao (Za hb ?_);rw[if_neg aF];exact ao (jN (ao (wpAny_askSetting (aL (fin _)))))
abbrev HP(s:ah)(A:aC)(o1 o2:CmpOp)(k:Bool)(va vb:Value):Prop:=∀(prog:bb)(w:World)(E:Value->ah->Prop)(Q:Value->ah->Prop),(Q (.bool k) s->wpAny (model prog w) A (compareOp o1 va vb) Q E s)/\(Q (.bool !k) s->wpAny (model prog w) A (compareOp o2 va vb) Q E s)
theorem Up(i j t u):HP s A .Eq .NotEq (i==j) (.int i t) (.int j u):=λ_ _ _ _=>⟨Jy,PyProof.Rows.ne_int⟩
theorem Uq(i j t u):HP s A .Eq .NotEq (i==j) (.str i t) (.str j u):=λ_ _ _ _=>⟨Jz,PyProof.Rows.ne_str⟩
theorem J3(i j t u):HP s A .Eq .NotEq (xj i j) (.float i t) (.float j u):=λ_ _ _ _=>⟨AutoFloatOps.eq_0,AutoFloatOps.ne_0⟩
theorem Ur(e:aaP x y=some b):xj x y=b:=(bx e).1.trans (bx e).2
theorem Pc(x:bW s.heap F d v)(y:bW s.heap F d' v')(e:Pa d d'=some b):HP s A .Eq .NotEq b v v':=
 jY e (He (λi j t u e=>af e▸Up i j t u) x y) λe=>jY e (ssE (λi j t u e=>af e▸Uq i j t u) x y) λe=>jY e (Sw (λi j t u _ _ e=>Ur e▸J3 i j t u) x y) λe=>jY e (fiE (f:=LN) (P:=HP s A .Eq .NotEq b) (λi j t u e=>by exact af e▸λ_ _ _ _=>⟨Ll,PyProof.Rows.ne_fi⟩) x y)
  λe=>jY e (ifE (f:=λi x=>LN x i) (P:=HP s A .Eq .NotEq b) (λi j t u e=>by exact af e▸λ_ _ _ _=>⟨Lm,PyProof.Rows.ne_if⟩) x y) (bbE (P:=HP s A .Eq .NotEq b) (λi j e=>af e▸λ_ _ _ _=>⟨Hj,PyProof.Rows.ne_bool⟩) x y)
theorem aaT(i j)(t u):EqAt A s (.int i t) (.int j u) (i==j):=λprog w E Q hq=>by
 unfold eqBool;refine bR (xS (λUe=>?_) λ_=>?_)
 ·rw[show(i==j)=true from beq_iff_eq.mpr (o6 (eq_of_beq Ue)).1]at hq
  exact ao (jN (aL hq))
 ·show wpAny (model prog w) A (do let r<-richCompare A5 (.int i t) (.int j u);truthOfDropped r) Q E s
  exact ao (show wpAny (model prog w) A (compareOp .Eq (.int i t) (.int j u)) _ E s from Jy (f7 hq))
theorem aaU(i j)(t u):EqAt A s (.str i t) (.str j u) (i==j):=λprog w E Q hq=>by
 unfold eqBool;refine bR (xS (λUe=>?_) λ_=>?_)
 ·rw[show(i==j)=true from beq_iff_eq.mpr (aeY (eq_of_beq Ue)).1]at hq
  exact ao (jN (aL hq))
 ·show wpAny (model prog w) A (do let r<-richCompare A5 (.str i t) (.str j u);truthOfDropped r) Q E s
  exact ao (show wpAny (model prog w) A (compareOp .Eq (.str i t) (.str j u)) _ E s from Jz (f7 hq))
theorem Us{A:aC}{s:ah}(i j:Bool):EqAt A s (.bool i) (.bool j) (i==j):=λprog w E Q hq=>by
 unfold eqBool;refine bR (xS (λUe=>?_) λ_=>?_)
 ·rw[show(i==j)=true from beq_iff_eq.mpr (Y9 (eq_of_beq Ue))]at hq
  exact ao (jN (aL hq))
 ·show wpAny (model prog w) A (do let r<-richCompare A5 (.bool i) (.bool j);truthOfDropped r) Q E s
  exact ao (show wpAny (model prog w) A (compareOp .Eq (.bool i) (.bool j)) _ E s from Hj (f7 hq))
theorem Pd{A:aC}{s:ah}{a b:Value}{k:Bool}(hn:(a==b)=false)(hm:eqBool a b=holding [a,b] (if(a==b)=true then(do rule "eq-bool.same-object";return true)else do let r<-richCompare A5 a b;truthOfDropped r))
(h:∀(prog:bb)(w:World)(E:Value->ah->Prop)(Q:Value->ah->Prop),Q (.bool k) s->wpAny (model prog w) A (compareOp .Eq a b) Q E s):EqAt A s a b k:=λprog w E Q hq=>by
 rw[hm,hn];exact bR (ao (show wpAny (model prog w) A (compareOp .Eq a b) _ E s from h prog w E _ (f7 hq)))
theorem aaV(hb:i8 s.heap)(ht:t≠0)(hu:u≠0)(e:aaP x y=some b):EqAt A s (.float x t) (.float y u) b:=(bx e).2▸HO hb ht hu (bx e).1
theorem J4(hb:i8 s.heap)(x:bW s.heap F d v)(y:bW s.heap F d' v')(e:Pa d d'=some b):EqAt A s v v' b:=
 jY e (He (P:=λv v'=>EqAt A s v v' b) (λi j t u e=>af e▸aaT i j t u) x y) λe=>jY e (ssE (P:=λv v'=>EqAt A s v v' b) (λi j t u e=>af e▸aaU i j t u) x y) λe=>jY e (Sw (P:=λv v'=>EqAt A s v v' b) (λi j t u ht hu e=>aaV hb ht hu e) x y) λe=>jY e (fiE (f:=LN) (P:=λv v'=>EqAt A s v v' b) (λi j t u e=>by exact af e▸Pd (by rfl) rfl λ_ _ _ _=>Ll) x y)
  λe=>jY e (ifE (f:=λi x=>LN x i) (P:=λv v'=>EqAt A s v v' b) (λi j t u e=>by exact af e▸Pd (by rfl) rfl λ_ _ _ _=>Lm) x y) (bbE (P:=λv v'=>EqAt A s v v' b) (λi j e=>af e▸Us i j) x y)
theorem nu(hr:aZ h F l vs)(qX:aZ h F l' jR):(l.length=l'.length)=(vs.toArray.size=jR.toArray.size):=by
 rw[aX,aX,hr.length,qX.length]
theorem Ct{A:aC}{s:ah}{f:Nat->Bool}{vs jR:List Value}(hf:∀j v v',vs[j]? =some v->jR[j]? =some v'->EqAt A s v v' (f j))(j:Nat)(h1:j<vs.toArray.size)(h2:j<jR.toArray.size):EqAt A s vs.toArray[j] jR.toArray[j] (f j):=
 hf j _ _ (by simp at h1⊢) (by simp at h2⊢)
theorem Pe{A:aC}{s:ah}{f:D->D->Option Bool}{a a':Addr}{l l':List D}{vs jR:List Value}{k k':Nat}{b:Bool}(hu:A.units<cLine)(hf:∀d d' v v' b,bW s.heap F d v->bW s.heap F d' v'->f d d'=some b->EqAt A.in1 s v v' b)
(hl:IsL s.heap a vs.toArray k)(pS:IsL s.heap a' jR.toArray k')(hr:aZ s.heap F l vs)(qX:aZ s.heap F l' jR)(e:aaQ f l l'=some b):RcAt A s (.ref a) (.ref a') b:=by
 by_cases hlen:l.length=l'.length
 ·obtain⟨g,hg,Tc⟩:=xF hf _ _ _ _ _ hr qX ((if_pos hlen).symm.trans e)
  rw[<-Tc,<-aX];exact RcAt.lists hl.isList pS.isList (nu hr qX▸hlen) hu (Ct hg)
 ·rw[<-af ((if_neg hlen).symm.trans e)]
  exact RcAt.lists_lengths hl.isList pS.isList (bne_iff_ne.mpr (mt (nu hr qX).mpr hlen)) hu
theorem Pf{A:aC}{s:ah}{f:D->D->Option Bool}{a a':Addr}{l l':List D}{vs jR:List Value}{k k':Nat}{b:Bool}(hu:A.units<cLine)(hf:∀d d' v v' b,bW s.heap F d v->bW s.heap F d' v'->f d d'=some b->EqAt A.in1 s v v' b)
(hl:IsT s.heap a vs.toArray k)(pS:IsT s.heap a' jR.toArray k')(hr:aZ s.heap F l vs)(qX:aZ s.heap F l' jR)(e:aaR f l l'=some b):RcAt A s (.ref a) (.ref a') b:=by
 obtain⟨hlen,e⟩:=dD e;obtain⟨g,hg,Tc⟩:=xF hf _ _ _ _ _ hr qX e;have q:=RcAt.tuples (A:=A) (e:=g) (⟨_,hl,rfl,_,rfl⟩:s.heap.IsTuple a vs.toArray) (⟨_,pS,rfl,_,rfl⟩:s.heap.IsTuple a' jR.toArray) hu (Ct hg);rw[<-(nu hr qX▸hlen:vs.toArray.size=jR.toArray.size),Nat.min_self,beq_self_eq_true,N2,aX,Tc]at q;exact q
theorem Ut(x:bW s.heap F d (.ref a))(y:bW s.heap F d' (.ref a'))(e:rH n d d'=some b)(h:RcAt A s (.ref a) (.ref a') b):EqAt A s (.ref a) (.ref a') b:=by
 by_cases m7:a=a'
 ·subst m7
  rw[Pb n d b ((bW.inj x y:d=d')▸e)];exact EqAt.same _
 ·exact EqAt.of_refs m7 h
theorem Pg(hb:i8 s.heap)(n):∀(A:aC)(d d':D)(v v':Value)(b:Bool),A.units+n<cLine->bW s.heap F d v->bW s.heap F d' v'->rH n d d'=some b->EqAt A s v v' b:=by
 induction n with
 |zero=>exactλA d d' v v' b _ x y e=>J4 hb x y e
 |succ n ih=>
  intro A d d' v v' b hu x y e;have hA:A.units<cLine:=bk (dZ ..) hu;have hf:∀d d' v v' b,bW s.heap F d v->bW s.heap F d' v'->rH n d d'=some b->EqAt A.in1 s v v' b:=λd d' v v' b=>ih A.in1 d d' v v' b (bk (W7 (Nat.succ_add_eq_add_succ A.units n)) hu);have fin:∀a a',v=.ref a->v'=.ref a'->RcAt A s (.ref a) (.ref a') b->EqAt A s v v' b:=λa a' h1 h2=>by subst h1 h2;exact Ut x y e
  have e0:=e;refine jY e0 (J4 hb x y) λe0=>jY e0 (λe0=>?_) λe0=>?_
  ·obtain⟨i,_,e0⟩:=aO e0
   obtain⟨j,_,e0⟩:=aO e0;obtain⟨a,vs,k,h1,_,hl,hr⟩:=x.l i;obtain⟨a',jR,k',h2,_,pS,qX⟩:=y.l j;exact fin a a' h1 h2 (Pe hA hf hl pS hr qX e0)
  ·obtain⟨i,_,e0⟩:=aO e0
   obtain⟨j,_,e0⟩:=aO e0;obtain⟨a,vs,k,h1,_,hl,hr⟩:=x.t i;obtain⟨a',jR,k',h2,_,pS,qX⟩:=y.t j;exact fin a a' h1 h2 (Pf hA hf hl pS hr qX e0)
end
end
end Internal
namespace Internal
section
open PySem.SeqAt
def Uu(d:D):Option (Option Bool):=if d.ctorIdx=1 then some none else(qB d).map λx=>some x.1
def ahV:Option Bool->Option Bool->Bool
 |none,q=>match q with
  |none=>true
  |some _=>false
 |some x,q=>match q with
  |none=>false
  |some y=>x==y
def same(a b:D):Option Bool:=(Uu b).bind λq=>((Uu a).map λp=>ahV p q).or ((qS a).map λ_=>false)
def yh(x:D):List D->Option Bool
 |[]=>some false
 |y::ys=>(rH 40 y x).bind λa=>(yh x ys).map λb=>a||b
def inS(x y:Str):Option Bool:=some (!(Builtin.Str.occurrences y x 0 y.length 1).isEmpty)
def yi(x y:D):Option Bool:=(arS inS x y).or ((qL y).bind λl=>yh x l.1)
def eqD(a b:D):Option Bool:=(Sv (λx y=>some (xj x y)) a b).or (rH 40 a b)
def XZ(f:Int->Int->Bool)(g:UInt64->UInt64->Option Bool)(k:UInt64->Int->Option Bool)(a b:D):Option Bool:=(DH (λi j=>some (f i j)) a b).or ((Sv g a b).or (O6 k a b))
def cmp:CmpOp->D->D->Option Bool
 |.Eq,a,b=>eqD a b
 |.NotEq,a,b=>(eqD a b).map λx=> !x
 |.Lt,a,b=>XZ (λa b=>decide (a<b)) (λa b=>some (cG a b==some .lt)) (λ_ _=>none) a b
 |.LtE,a,b=>XZ (λa b=>decide (a<=b)) (λa b=>some (cG a b==some .lt||cG a b==some .eq)) (λ_ _=>none) a b
 |.Gt,a,b=>XZ (λa b=>decide (b<a)) (λ_ _=>none) (λ_ _=>none) a b
 |.GtE,a,b=>XZ (λa b=>decide (b<=a)) (λ_ _=>none) (λa b=>some (fz a b==some .gt||fz a b==some .eq)) a b
 |.Is,a,b=>same a b
 |.IsNot,a,b=>(same a b).map λx=> !x
 |.In,a,b=>yi a b
 |.NotIn,a,b=>(yi a b).map λx=> !x
section
variable{F:Addr->Prop}
theorem Ph{A:aC}{s:ah}{x:D}{v:Value}(hb:i8 s.heap)(hu:A.units+41<cLine)(rx:bW s.heap F x v):
 ∀(ds:List D)(vs:List Value)(b:Bool),aZ s.heap F ds vs->yh x ds=some b->∃e:Value->Bool,(∀y∈vs,EqAt A.in1 s y v (e y))/\vs.any e=b:=by
 have pick:∀y:Value,∃k:Bool,∀d b,bW s.heap F d y->rH 40 d x=some b->k=b:=λy=>by
  by_cases h:∃d b,bW s.heap F d y/\rH 40 d x=some b
  ·obtain⟨d,b,h1,h2⟩:=h;exact⟨b,λd' b' h1' X0=>af ((bW.inj h1 h1'▸h2:rH 40 d' x=some b).symm.trans X0)⟩
  ·exact⟨true,λd b h1 h2=>absurd ⟨d,b,h1,h2⟩ h⟩
 obtain⟨f,sp⟩:=Classical.axiomOfChoice pick;intro ds vs b hr he;refine⟨f,?_⟩;induction ds generalizing vs b with
 |nil=>exact hr.nk▸⟨λy h=>(nomatch h),af he⟩
 |cons d ds ih=>
  obtain⟨p,h1,h2⟩:=aO he;obtain⟨q,h3,rfl⟩:=dH h2;obtain⟨u,r,rfl,a1,b1⟩:=hr.eS;have e1:=sp u d p a1 h1;refine⟨λy hy=>?_,by rw[List.any_cons,(ih r q b1 h3).2,e1]⟩;cases hy with
  |head=>exact e1.symm▸Pg hb 40 A.in1 d x _ v p (bk (W7 (Ak ..)) hu) a1 rx h1
  |tail _ hy=>exact(ih r q b1 h3).1 y hy
def HQ:Option Bool->Value
 |none=>.none
 |some b=>.bool b
theorem EZ(r:bW h F a v)(e:Uu a=some p):v=HQ p:=by
 unfold Uu at e;by_cases h:a.ctorIdx=1
 ·rw[if_pos h]at e
  rw[ahF h]at r;exact af e▸r.none
 ·rw[if_neg h]at e
  obtain⟨x,_,rfl⟩:=dH e;exact r.b x
theorem J5(p q:Option Bool):plainIs (HQ p) (HQ q)=true/\(HQ p==HQ q)=ahV p q:=by
 cases p<;>cases q<;>first|exact⟨rfl,rfl⟩|(rename_i x y;cases x<;>cases y<;>exact⟨rfl,rfl⟩)
theorem J6(x)(t)(q:Option Bool):plainIs (.str x t) (HQ q)=true/\(Value.str x t==HQ q)=false:=by cases q<;>exact⟨rfl,rfl⟩
theorem Pj{s:ah}{A:aC}{a b:Value}{k:Bool}(h:plainIs a b=true)(e:(a==b)=k):HP s A .Is .IsNot k a b:=λprog w E Q=>⟨λq=>wpAny_is_plain h (e.symm▸q),λq=>wpAny_isNot_plain h (e.symm▸q)⟩
theorem yj(ra:bW s.heap F a va)(rb:bW s.heap F b vb)(e:same a b=some k):HP s A .Is .IsNot k va vb:=by
 obtain⟨q,hb,e⟩:=aO e;obtain rfl:=EZ rb hb;refine jY e (λe=>?_) λe=>?_
 ·obtain⟨p,ha,rfl⟩:=dH e
  obtain rfl:=EZ ra ha;exact Pj (J5 p q).1 (J5 p q).2
 ·obtain⟨x,_,rfl⟩:=dH e
  obtain⟨t,rfl⟩:=ra.s x;exact Pj (J6 x.1 t q).1 (J6 x.1 t q).2
theorem E0(hb:i8 s.heap)(hu:A.units+41<cLine)(ra:bW s.heap F a va)(rb:bW s.heap F b vb)(e:yi a b=some k):HP s A .In .NotIn k va vb:=by
 refine jY e (λe=>ssE (f:=inS) (P:=HP s A .In .NotIn k) (λi j t u e=>by exact af e▸λ_ _ _ _=>⟨PySem.P.in_str,PySem.P.notIn_str⟩) ra rb e) λe=>?_;obtain⟨x,_,e⟩:=aO e;obtain⟨l,vs,n,h1,_,hl,hr⟩:=rb.l x;obtain⟨f,h2,h3⟩:=Ph hb hu ra _ _ _ hr e;exact h1▸(List.any_toArray.trans h3:vs.toArray.any f=k)▸λ_ _ _ _=>⟨in_listAt f hl.isList λy hy=>h2 y (amP.mp hy),notIn_listAt f hl.isList λy hy=>h2 y (amP.mp hy)⟩
theorem aaW(hu:A.units<cLine)(hf:∀d d' v v' b,bW s.heap F d v->bW s.heap F d' v'->f d d'=some b->EqAt A.in1 s v v' b)
(hl:IsL s.heap a vs.toArray k)(pS:IsL s.heap a' jR.toArray k')(hr:aZ s.heap F l vs)(qX:aZ s.heap F l' jR)(e:aaQ f l l'=some b):RcNeAt A s (.ref a) (.ref a') !b:=by
 by_cases hlen:l.length=l'.length
 ·obtain⟨g,hg,Tc⟩:=xF hf _ _ _ _ _ hr qX ((if_pos hlen).symm.trans e)
  rw[<-Tc,<-aX];exact RcNeAt.lists hl.isList pS.isList (nu hr qX▸hlen) hu (Ct hg)
 ·rw[<-af ((if_neg hlen).symm.trans e)]
  exact RcNeAt.lists_lengths hl.isList pS.isList (bne_iff_ne.mpr (mt (nu hr qX).mpr hlen)) hu
theorem aaX(hu:A.units<cLine)(hf:∀d d' v v' b,bW s.heap F d v->bW s.heap F d' v'->f d d'=some b->EqAt A.in1 s v v' b)
(hl:IsT s.heap a vs.toArray k)(pS:IsT s.heap a' jR.toArray k')(hr:aZ s.heap F l vs)(qX:aZ s.heap F l' jR)(e:aaR f l l'=some b):RcNeAt A s (.ref a) (.ref a') !b:=by
 obtain⟨hlen,e⟩:=dD e;obtain⟨g,hg,Tc⟩:=xF hf _ _ _ _ _ hr qX e;have q:=RcNeAt.tuples (A:=A) (e:=g) (⟨_,hl,rfl,_,rfl⟩:s.heap.IsTuple a vs.toArray) (⟨_,pS,rfl,_,rfl⟩:s.heap.IsTuple a' jR.toArray) hu (Ct hg);rw[<-(nu hr qX▸hlen:vs.toArray.size=jR.toArray.size),Nat.min_self,beq_self_eq_true,N2,aX,Tc]at q;exact q
theorem Bp(hb:i8 s.heap)(hu:A.units+41<cLine)(ra:bW s.heap F a va)(rb:bW s.heap F b vb)(e:eqD a b=some k):HP s A .Eq .NotEq k va vb:=by
 have hA:A.units<cLine:=bk (dZ ..) hu;have hq:∀d d' v v' b,bW s.heap F d v->bW s.heap F d' v'->rH 39 d d'=some b->EqAt A.in1 s v v' b:=λd d' v v' b=>Pg hb 39 A.in1 d d' v v' b (dF (by show A.units+1+39<A.units+41;omega) hu);exact jY e (Sw (λi j t u _ _ e=>af e▸J3 i j t u) ra rb) λe=>jY e (Pc ra rb) λe=>
  jY e (llE (P:=HP s A .Eq .NotEq k) (λ_ _ _ _ _ _ _ _ hl pS hr qX e prog w E Q=>⟨Pe hA hq hl pS hr qX e prog w E Q,aaW hA hq hl pS hr qX e prog w E Q⟩) ra rb)
   (ttE (P:=HP s A .Eq .NotEq k) (λ_ _ _ _ _ _ _ _ hl pS hr qX e prog w E Q=>⟨Pf hA hq hl pS hr qX e prog w E Q,aaX hA hq hl pS hr qX e prog w E Q⟩) ra rb)
abbrev CO(prog:bb)(w:World)(A:aC)(E:Value->ah->Prop)(s:ah)(Q:Value->ah->Prop)(op:CmpOp)(va vb:Value):Prop:=wpAny (model prog w) A (compareOp op va vb) Q E s
theorem sr
(k1:∀i j t u,Q (.bool (f i j)) s->CO prog w A E s Q op (.int i t) (.int j u))(k2:∀i j t u,g i j=some k->CO prog w A E s Q op (.float i t) (.float j u))
(k3:∀i j t u,z i j=some k->CO prog w A E s Q op (.float i t) (.int j u))
(ra:bW s.heap F a va)(rb:bW s.heap F b vb)(e:XZ f g z a b=some k)(h:Q (.bool k) s):CO prog w A E s Q op va vb:=
 jY e (He (λi j t u e=>k1 i j t u (af e▸h)) ra rb) λe=>jY e (Sw (λi j t u _ _ e=>k2 i j t u e) ra rb) (fiE k3 ra rb)
theorem Br
(hb:i8 s.heap)(hu:A.units+41<cLine)(ra:bW s.heap F a va)(rb:bW s.heap F b vb)(e:cmp op a b=some k)(h:Q (.bool k) s):CO prog w A E s Q op va vb:=by
 have neg:∀{o1 o2:CmpOp}{x:Option Bool},(∀j,x=some j->HP s A o1 o2 j va vb)->x.map (λx=> !x)=some k->CO prog w A E s Q o2 va vb:=λt e=>by
  obtain⟨j,e2,rfl⟩:=dH e;exact(t j e2 prog w E Q).2 h
 cases op with
 |Eq=>exact(Bp hb hu ra rb e prog w E Q).1 h
 |NotEq=>exact neg (λ_=>Bp hb hu ra rb) e
 |Lt=>exact sr (λ_ _ _ _=>PyProof.Rows.lt_int) (λ_ _ _ _ q=>by exact NI (af q▸h)) (λ_ _ _ _ q=>no q) ra rb e h
 |LtE=>exact sr (λ_ _ _ _=>PyProof.Rows.le_int) (λ_ _ _ _ q=>by exact AutoFloatOps.le_0 (af q▸h)) (λ_ _ _ _ q=>no q) ra rb e h
 |Gt=>exact sr (λ_ _ _ _=>PyProof.Rows.gt_int) (λ_ _ _ _ q=>no q) (λ_ _ _ _ q=>no q) ra rb e h
 |GtE=>exact sr (λ_ _ _ _=>PyProof.Rows.ge_int) (λ_ _ _ _ q=>no q) (λ_ _ _ _ q=>by exact PyProof.Rows.ge_fi (af q▸h)) ra rb e h
 |Is=>exact(yj ra rb e prog w E Q).1 h
 |IsNot=>exact neg (λ_=>yj ra rb) e
 |In=>exact(E0 hb hu ra rb e prog w E Q).1 h
 |NotIn=>exact neg (λ_=>E0 hb hu ra rb) e
end
end
end Internal
namespace Internal
section
def sv(x:Str):List D:=x.cps.toList.map λc=>.str ⟨#[c]⟩
def kY(a c:Int):Nat->List D
 |0=>[]
 |n+1=>.int a::kY (a+c) c n
def iQ(a b c:Int):Nat:=(ft a b c).toNat
def kx(a b c:Int):Bool:=decide (c≠0)&&Hk a b c&&decide (0<=ft a b c)
def aoX(x:Int×Int×Int):Option (List D):=if kx x.1 x.2.1 x.2.2=true then some (kY x.1 x.2.2 (iQ x.1 x.2.1 x.2.2))else none
def LO(d:D):Option (List D):=((qL d).map λx=>x.1).or ((qT d).map λx=>x.1)
def items(d:D):Option (List D):=(LO d).or (((qS d).map λx=>sv x.1).or ((qR d).bind λx=>aoX x.1))
theorem E1:items (.og a b c)=if kx a b c=true then some (kY a c (iQ a b c))else none:=rfl
theorem oh(c):∀(n:Nat)(a:Int),(kY a c n).length=n:=by
 intro zx
 induction zx with
 |zero=>
  rintro _;exact rfl
 |succ n ih=>
  rintro a;rw[kY,bE,ih]
theorem Bs(c)(n):∀(a:Int)(i:Nat),i<n->(kY a c n)[i]? =some (.int (a+i*c)):=by
 induction n with
 |zero=>exactλ_ _ h=>absurd h (avH _)
 |succ n ih=>
  intro a i h;cases i with
  |zero=>simp[kY]
  |succ i=>
   rw[kY,List.getElem?_cons_succ,ih _ i (Nat.lt_of_succ_lt_succ h)];congr 2;rw[ff,Int.add_mul,Int.natCast_one,Int.one_mul,Int.add_assoc,W8 c]
def yk(I:Addr)(P:Nat->Value->Prop)(St:Nat->Heap->Prop):Prop:=
 (∀i h,St i h->∃o T,h.get? I=some o/\o.cls=.type T/\["enumerate","zip","dict_itemiterator","dict_reverseitemiterator","odict_iterator","itertools.zip_longest","itertools.pairwise"].contains T=false)
   \/∀i v,P i v->∀a,v≠.ref a
inductive It(prog:bb)(w:World)(A:aC)(F:Addr->Prop)(ds:List D)(s s':ah)(it:Value):Prop
 |mk (I:Addr) (fp:List Addr) (P:Nat->Value->Prop) (St:Nat->Heap->Prop) (hx:it=.ref I) (no:yk I P St) (W:Walks prog w A I fp [I] ds.length P St) (st:St 0 s'.heap) (hI:s.heap.get? I=none) (yl:∀i h,St i h->(h.get? I).isSome=true)
  (Cu:∀b∈fp,b=I\/(¬F b/\(s.heap.get? b).isSome=true)) (hP:∀i v h (F':Addr->Prop),P i v->Kept F s.heap h->(∀b,F' b->F b\/s.heap.get? b=none)->∀d,ds[i]? =some d->bW h F' d v)
section
variable{prog:bb}{w:World}{A:aC}{E:Value->ah->Prop}{s:ah}{F:Addr->Prop}
theorem gN(h:Heap)(o:Obj)(ho:o.isFreed=false):(h.push o).get? h.objs.size=some o:=g0 _ ho
theorem E2
(hQ:∀(o:Obj)(St:Nat->Heap->Prop),(∀i h,St i h->(h.get? s.heap.objs.size).isSome=true)->(∀A':aC,A'.handled=none->Walks prog w A' s.heap.objs.size [s.heap.objs.size] [s.heap.objs.size] x.cps.size (SignAt x) St)->St 0 (s.heap.push o)->
   Q (.ref s.heap.objs.size) {s with heap:=s.heap.push o}):wpAny (model prog w) A (pyIter (.str x t)) Q E s:=by
 cases ha:x.cps.all (·<128)
 ·exact wpAny_pyIter_wide ha (hQ _ _ (λi h st=>by obtain⟨o,e,_⟩:=st;rw[e];rfl) (λA' hA=>Walks.strWide hA _ x t) ⟨_,g0 _ rfl,rfl,rfl⟩)
 ·exact wpAny_pyIter_ascii ha (hQ _ _ (λi h st=>by obtain⟨o,e,_⟩:=st;rw[e];rfl) (λA' hA=>Walks.strAscii hA _ x t) ⟨_,g0 _ rfl,rfl,rfl⟩)
theorem fp2{h:Heap}{I a:Addr}{o:Obj}(na:¬F a)(e:h.get? a=some o):∀b∈[I,a],b=I\/(¬F b/\(h.get? b).isSome=true):=λb hb=>by
 cases hb with
 |head=>exact .inl rfl
 |tail _ hb=>cases hb with
  |head=>exact .inr ⟨na,by rw[e];rfl⟩
  |tail _ hb=>exact nomatch hb
theorem aaY{h0:Heap}{ds:List D}{vs:List Value}(r:aZ h0 F ds vs){i:Nat}{v:Value}{h:Heap}{F':Addr->Prop}(hP:vs[i]? =some v)(k:Kept F h0 h)(hF':∀b,F' b->F b\/h0.get? b=none)(d:D)(hd:ds[i]? =some d):bW h F' d v:=
 let⟨_,e1,e2⟩:=r.get hP
 af (e1.symm.trans hd)▸bW.kept k hF' _ _ e2
theorem Pk{ds:List D}{v:Value}(hh:A.handled=none)(r:RL s.heap F ds v):wpAny (model prog w) A (pyIter v) (λit s'=>Keeps s s'/\It prog w A F ds s s' it) E s:=by
 obtain⟨a,vs,n,rfl,na,hl,hr⟩:=r;have W:=Walks.list (prog:=prog) (w:=w) (A:=A) hh s.heap.objs.size a (eA (cY hl)) vs.toArray;rw[show vs.toArray.size=ds.length from by rw[aX,hr.length]]at W;exact wpAny_pyIter_list hl.isList ⟨Keeps.push _,_,_,_,_,rfl,.inl λi h st=>by obtain⟨⟨o,e1,e2,_⟩,_⟩:=st;exact⟨o,_,e1,e2,by decide⟩,W,⟨⟨_,gN _ _ rfl,rfl,rfl⟩,⟨_,aV _ hl,rfl,_,rfl⟩⟩,kr _,λi h st=>by obtain⟨⟨o,e1,_⟩,_⟩:=st;exact e1▸rfl,fp2 na hl,
  λi u h F' hP k hF'=>aaY hr (fq.symm.trans hP) k hF'⟩
theorem Pl{ds:List D}{v:Value}(hh:A.handled=none)(r:RT s.heap F ds v):wpAny (model prog w) A (pyIter v) (λit s'=>Keeps s s'/\It prog w A F ds s s' it) E s:=by
 obtain⟨a,vs,n,rfl,na,hl,hr⟩:=r;have hT:s.heap.IsTuple a vs.toArray:=⟨_,hl,rfl,_,rfl⟩
 have W:=Walks.tuple (prog:=prog) (w:=w) (A:=A) hh s.heap.objs.size a (eA (cY hl)) vs.toArray;rw[show vs.toArray.size=ds.length from by rw[aX,hr.length]]at W;exact wpAny_pyIter_tuple hT ⟨Keeps.push _,_,_,_,_,rfl,.inl λi h st=>by obtain⟨⟨o,e1,e2,_⟩,_⟩:=st;exact⟨o,_,e1,e2,by decide⟩,W,⟨⟨_,gN _ _ rfl,rfl,rfl⟩,⟨_,aV _ hl,rfl,_,rfl⟩⟩,kr _,λi h st=>by obtain⟨⟨o,e1,_⟩,_⟩:=st;exact e1▸rfl,fp2 na hl,
  λi u h F' hP k hF'=>aaY hr (fq.symm.trans hP) k hF'⟩
theorem Pm(hh:A.handled=none)(r:∃t,v=.str x t):wpAny (model prog w) A (pyIter v) (λit s'=>Keeps s s'/\It prog w A F (sv x) s s' it) E s:=by
 obtain⟨t,rfl⟩:=r;refine E2 λo St ho W st=>⟨Keeps.push _,_,_,_,_,rfl,?_,by rw[show(sv x).length=x.cps.size from by rw[sv,aj,cu]];exact W A hh,st,kr _,ho,λb hb=>.inl (aY.mp hb),λi u h F' p _ _ d hd=>?_⟩
 ·exact .inr λi v p a q=>by obtain⟨_,_,_,e⟩:=p;exact nomatch e.symm.trans q
 ·obtain⟨c,t',hc,rfl⟩:=p
  unfold sv at hd;rw[gG,tH,hc]at hd;exact af hd▸xB
theorem Pn(hh:A.handled=none)(hr:kx a b c=true)(r:RR s.heap F a b c v):wpAny (model prog w) A (pyIter v) (λit s'=>Keeps s s'/\It prog w A F (kY a c (iQ a b c)) s s' it) E s:=by
 obtain⟨a',t,u,w',rfl,na,hl⟩:=r;unfold kx at hr;simp only[av,decide_eq_true_eq]at hr;have W:=Walks.range (prog:=prog) (w:=w) (A:=A) hh s.heap.objs.size a c (iQ a b c);refine wpAny_pyIter_range hl hr.1.2 ⟨Keeps.push _,_,_,_,_,rfl,?_,by rw[oh];exact W,?_,kr _,λi h st=>by rw[show h.get? s.heap.objs.size=some _ from st];rfl,λb hb=>.inl (aY.mp hb),λi v h F' p _ _ d hd=>?_⟩
 ·exact .inr λi v p a q=>by obtain⟨_,e⟩:=p;exact nomatch e.symm.trans q
 ·show(s.heap.push _).get? _=_
  rw[as7,Int.zero_mul,Int.add_zero,Int.sub_zero,show((iQ a b c:Nat):Int)=ft a b c from Aa hr.2];exact gN _ _ rfl
 ·obtain⟨t',rfl⟩:=p
  have hi:i<iQ a b c:=oh c (iQ a b c) a▸(fj.mp hd).1;exact af ((Bs _ _ _ i hi).symm.trans hd)▸fA
theorem jZ(hh:A.handled=none)(lo:iW F s.heap)(r:bW s.heap F d v)(e:items d=some ds):
 wpAny (model prog w) A (pyIter v) (λit s'=>Keeps s s'/\It prog w A F ds s s' it) E s:=by
 refine jY e (λe=>jY e (λe=>?_) λe=>?_) λe=>jY e (λe=>?_) λe=>?_
 ·obtain⟨x,_,rfl⟩:=dH e
  exact Pk hh (r.l x)
 ·obtain⟨x,_,rfl⟩:=dH e
  exact Pl hh (r.t x)
 ·obtain⟨x,_,rfl⟩:=dH e
  exact Pm hh (r.s x)
 ·obtain⟨x,_,e⟩:=aO e
  exact(bx e).2▸Pn hh (bx e).1 (r.r x)
end
end
section
structure Ok(A:aC)(F:Addr->Prop)(s:ah):Prop where
 hh:A.handled=none
 gl:∃mg,s.heap.Ns mainGlobals mg
 tk:1<=s.toks
 lo:iW F s.heap
theorem NoneBooked.keeps(x:i8 h)(k:bV h h'):i8 h':=by obtain⟨m,a,b⟩:=x;exact⟨m,a.keeps k,b⟩
theorem NoLimit.aa0(x:h.NoLimit)(k:bV h h'):h'.NoLimit:=by obtain⟨m,a,b⟩:=x;exact⟨m,a.keeps k,b⟩
def gO:List D->Option (List Int)
 |[]=>some []
 |x::r=>(qI x).bind λi=>(gO r).map (i.1::·)
theorem lG:∀{ns:List Int}{vs:List Value},gO ds=some ns->aZ h F ds vs->JA vs ns:=by
 induction ds with
 |nil=>intro ns vs e x;exact af e▸x.nk▸.nil
 |cons d ds ih=>
  intro ns vs e x;obtain⟨i,_,e⟩:=aO e;obtain⟨ms,e1,rfl⟩:=dH e;obtain⟨v,r,rfl,a,b⟩:=x.eS;obtain⟨t,rfl⟩:=a.i i;exact .cons _ _ (ih e1 b)
theorem Bt(x:JA vs ns):aZ h F (ns.map .int) vs:=by
 induction x with
 |nil=>exact .nil
 |cons n t r ih=>exact .cons fA ih
def fgt(a b:UInt64):Bool:=cG a b==some .gt
def Po(a b:UInt64):Bool:=cG a b==some .lt
def Ap(a b c:UInt64):UInt64:=bif fgt c (bif fgt b a then b else a)then c else(bif fgt b a then b else a)
def LP(a b c:UInt64):UInt64:=bif Po c (bif Po b a then b else a)then c else(bif Po b a then b else a)
def ahX:List Int->Option Int
 |[]=>none
 |n::ns=>some (ns.foldl max n)
def ahY:List Int->Option Int
 |[]=>none
 |n::ns=>some (ns.foldl min n)
inductive Bi where
 |len|range|max|min|abs|sum|chr|ord|list|sorted|divmod|int
def Bi.val:Bi->Value
 |.len=>.builtin "len"|.range=>.type "range"|.max=>.builtin "max"|.min=>.builtin "min"|.abs=>.builtin "abs"|.sum=>.builtin "sum"
 |.chr=>.builtin "chr"|.ord=>.builtin "ord"|.list=>.type "list"|.sorted=>.builtin "sorted"|.divmod=>.builtin "divmod"|.int=>.type "int"
def Bi.name:Bi->Str
 |.len=>"len"|.range=>"range"|.max=>"max"|.min=>"min"|.abs=>"abs"|.sum=>"sum"
 |.chr=>"chr"|.ord=>"ord"|.list=>"list"|.sorted=>"sorted"|.divmod=>"divmod"|.int=>"int"
def d1(f:D->Option D):List D->Option D
 |[]=>none
 |x::r=>match r with
  |[]=>f x
  |_::_=>none
def d2(f:D->D->Option D):List D->Option D
 |[]=>none
 |x::r=>d1 (f x) r
def ahZ(n:Nat):Option D:=if n<=eu then some (.int n)else none
def ah0(d:D):Option D:=((qL d).bind λx=>ahZ x.1.length).or ((qS d).bind λx=>ahZ x.1.length)
def Uv(f:UInt64->Option D)(d:D):Option D:=(qF d).bind λx=>f x.1
def E3(f:Int->Option D)(d:D):Option D:=(qI d).bind λx=>f x.1
def HR(f:List D->Option D)(d:D):Option D:=(qL d).bind λx=>f x.1
def ah1(x:Str):Option D:=match x.cps.toList with
    |[]=>none
    |c::r=>match r with
     |[]=>some (.int c)
     |_::_=>none
def ah2(d:D):Option D:=(qS d).bind λx=>ah1 x.1
def X2(d:D):Option D:=((qR d).bind λx=>if kx x.1.1 x.1.2.1 x.1.2.2=true/\iQ x.1.1 x.1.2.1 x.1.2.2<=eu then some (.lst (kY x.1.1 x.1.2.2 (iQ x.1.1 x.1.2.1 x.1.2.2)))else none).or ((qL d).bind λl=>if l.1.length<=eu then some (.lst l.1)else none)
def ah3:List Int->Option D
 |[]=>none
 |a::r=>match r with
  |[]=>some (.og 0 a 1)
  |b::q=>match q with
   |[]=>some (.og a b 1)
   |c::k=>match k with
    |[]=>if c≠0/\sm c=true then some (.og a b c)else none
    |_::_=>none
def E4(f:Int->Int->Option D):List Int->Option D
 |[]=>none
 |a::r=>match r with
  |[]=>none
  |b::q=>match q with
   |[]=>f a b
   |_::_=>none
def dmI(a b:Int):Option D:=if b≠0/\sm b=true then some (.tup [.int (a.fdiv b),.int (a.fmod b)])else none
def ah4(a b:Int):Option D:=some (.lst (if a<=b then[.int a,.int b]else[.int b,.int a]))
def aa1(k:UInt64->UInt64->UInt64->UInt64):List D->Option D
 |[]=>none
 |x::r=>(qF x).bind λa=>d2 (Sv λb c=>some (.aN (k a.1 b c))) r
def ah5(l:List D):Option D:=(gO l).bind λns=>(ahX ns).map .int
def Pp(l:List D):Option D:=(gO l).bind λns=>(ahY ns).map .int
def ah6(i j:Int):Option D:=some (.int (if j>i then j else i))
def ah7(i j:Int):Option D:=some (.int (if j<i then j else i))
def cM:Bi->List D->Option D
 |.len,ds=>d1 ah0 ds
 |.range,ds=>(gO ds).bind ah3
 |.max,ds=>(d1 (HR ah5) ds).or ((d2 (DH ah6) ds).or (aa1 Ap ds))
 |.min,ds=>(d2 (DH ah7) ds).or ((d1 (HR Pp) ds).or (aa1 LP ds))
 |.abs,ds=>d1 (Uv λa=>some (.aN (tI a))) ds
 |.sum,ds=>d1 (HR λl=>(gO l).map λns=>.int ns.sum) ds
 |.chr,ds=>d1 (E3 λi=>if 0<=i/\i<=0x10FFFF then some (.str ⟨#[i.toNat]⟩)else none) ds
 |.ord,ds=>d1 ah2 ds
 |.list,ds=>d1 X2 ds
 |.sorted,ds=>d1 (HR λl=>(gO l).bind (E4 ah4)) ds
 |.divmod,ds=>(gO ds).bind (E4 dmI)
 |.int,ds=>d1 (Uv λx=>if cT x then some (.int (cx cH x))else none) ds
section
variable{prog:bb}{w:World}{A:aC}{E:Value->ah->Prop}{s:ah}{F:Addr->Prop}
theorem ym:∀(ns:List Int)(n M:Int),M∈n::ns->(∀a∈n::ns,a<=M)->ns.foldl max n=M:=by
 intro zx
 induction zx with
 |nil=>
  rintro n M h1 _;simp at h1;simp[h1]
 |cons m ns ih=>
  rintro n M h1 h2;rw[kn];refine ih (max n m) M ?_ λa ha=>?_
  ·have a1:=h2 n (by simp)
   have a2:=h2 m (by simp);rcases aJ.mp h1 with rfl|h1
   ·rw[show max M m=M by omega];exact aA
   ·rcases aJ.mp h1 with rfl|h1
    ·rw[show max n M=M by omega];exact aA
    ·exact aD _ h1
  ·rcases aJ.mp ha with rfl|ha
   ·have a1:=h2 n (by simp)
    have a2:=h2 m (by simp);omega
   ·exact h2 a (by simp[ha])
theorem p5:∀(ns:List Int)(n M:Int),M∈n::ns->(∀a∈n::ns,M<=a)->ns.foldl min n=M:=by
 intro zx
 induction zx with
 |nil=>
  rintro n M h1 _;simp at h1;simp[h1]
 |cons m ns ih=>
  rintro n M h1 h2;rw[kn];refine ih (min n m) M ?_ λa ha=>?_
  ·have a1:=h2 n (by simp)
   have a2:=h2 m (by simp);rcases aJ.mp h1 with rfl|h1
   ·rw[show min M m=M by omega];exact aA
   ·rcases aJ.mp h1 with rfl|h1
    ·rw[show min n M=M by omega];exact aA
    ·exact aD _ h1
  ·rcases aJ.mp ha with rfl|ha
   ·have a1:=h2 n (by simp)
    have a2:=h2 m (by simp);omega
   ·exact h2 a (by simp[ha])
theorem Ok.fr(o:Ok A F s):∃mg,Fr {} mainGlobals s.heap mg:=by
 obtain⟨mg,x⟩:=o.gl;exact⟨mg,x,λb o e=>by simp[Heap.get?]at e,dk _⟩
theorem E5:News h L h' []:=λ_ hp=>nomatch hp
theorem ex7{α β γ δ ε ζ η:Type}{p:α->β->γ->δ->ε->ζ->η->Prop}(a:α)(b:β)(c:γ)(d:δ)(e:ε)(f:ζ)(g:η)(h:p a b c d e f g):∃a b c d e f g,p a b c d e f g:=⟨a,b,c,d,e,f,g,h⟩
def Uw(a b c:UInt64):Nat->UInt64
 |0=>a
 |n+1=>match n with
  |0=>b
  |_+1=>c
theorem Ux(ht:t≠0)(hu:u≠0)(hv:v≠0)(i:Nat)(y:Value)(e:(#[.float a t,.float b u,.float c v]:Array Value)[i]? =some y):∃k,y=.float (Uw a b c i) k/\k≠0:=by
 cases i with
 |zero=>exact⟨t,(af e).symm,ht⟩
 |succ i=>
  cases i with
  |zero=>exact⟨u,(af e).symm,hu⟩
  |succ i=>
   cases i with
   |zero=>exact⟨v,(af e).symm,hv⟩
   |succ i=>exact no ((Array.getElem?_eq_none (nW 3 i)).symm.trans e)
theorem ah8(a b c)(cm:UInt64->UInt64->Bool):Uw a b c (argBest (λi j=>cm (Uw a b c i) (Uw a b c j)) (3 - 1))=(bif cm c (bif cm b a then b else a)then c else(bif cm b a then b else a)):=by
 show Uw a b c (if cm c (Uw a b c (if cm b a=true then 1 else 0))=true then 2 else(if cm b a=true then 1 else 0))=_;cases cm b a with
 |true=>
  show Uw a b c (if cm c b=true then 2 else 1)=bif cm c b then c else b;cases cm c b<;>rfl
 |false=>
  show Uw a b c (if cm c a=true then 2 else 0)=bif cm c a then c else a;cases cm c a<;>rfl
theorem wt{op:CmpOp}{id:String}{a b c:UInt64}{t u v:Tok}(cm:UInt64->UInt64->Bool)(ok:Ok A F s)(ht:t≠0)(hu:u≠0)(hv:v≠0)
(rule:∀{Q:Value->ah->Prop},wpAny (model prog w) A.in1 (pyIter (.ref s.heap.objs.size)) (λit eZ=>∃I fp wr n P St bt,it=.ref I/\Walks prog w A.in1 I fp wr n P St/\St 0 eZ.heap/\(∀b∈fp,b<eZ.heap.objs.size)/\0<n/\CmpOf prog w A.in1 op P bt/\
   ∀v h' tk,P (argBest bt (n - 1)) v->(∀b o,b∉wr->eZ.heap.get? b=some o->h'.get? b=some o)->Q v {eZ with heap:=h',toks:=tk}) E
   {s with heap:=s.heap.push {cls:=.type "tuple",data:=.seq #[.float a t,.float b u,.float c v]}}->wpAny (model prog w) A (call (.builtin id) [.float a t,.float b u,.float c v]) Q E s)
(hc:∀(x y:UInt64)(t u:Tok)(s:ah)(Q:Value->ah->Prop)(E:Value->ah->Prop),Q (.bool (cm x y)) s->wpAny (model prog w) A.in1 (richCompare op (.float x t) (.float y u)) Q E s):
 wpAny (model prog w) A (call (.builtin id) [.float a t,.float b u,.float c v]) (gW F s (.aN (bif cm c (bif cm b a then b else a)then c else(bif cm b a then b else a)))) E s:=by
 refine rule ?_;generalize hH:s.heap.push {cls:=.type "tuple",data:=.seq #[.float a t,.float b u,.float c v]}=H;have hT:H.IsTuple s.heap.objs.size #[.float a t,.float b u,.float c v]:=by rw[<-hH];exact⟨_,gN _ _ rfl,rfl,_,rfl⟩
 have hsz:s.heap.objs.size<H.objs.size:=by rw[<-hH,ia];exact d6 _
 have W:=Walks.tuple (prog:=prog) (w:=w) (A:=A.in1) ok.hh H.objs.size s.heap.objs.size (eA hsz) #[.float a t,.float b u,.float c v];have X3:bV s.heap H:=λb o e=>by rw[<-hH];exact aV _ e
 refine wpAny_pyIter_tuple hT ?_;let xs:Nat->UInt64:=Uw a b c;have hP:=Ux (a:=a) (b:=b) (c:=c) ht hu hv;refine ex7 _ _ _ _ _ _ (λi j=>cm (xs i) (xs j)) ⟨rfl,W,⟨⟨_,gN _ _ rfl,rfl,rfl⟩,?_⟩,?_,(by show 0<3;decide),?_,?_⟩
 ·obtain⟨o,e,r⟩:=hT
  exact⟨o,aV _ e,r⟩
 ·intro q hq
  rw[ia];rcases aJ.mp hq with rfl|hq
  ·exact d6 _
  ·rw[aY.mp hq];exact qP hsz
 ·intro i j vi vj s' Q E' hi hj hQ
  obtain⟨k1,rfl,_⟩:=hP i vi hi;obtain⟨k2,rfl,_⟩:=hP j vj hj;exact hc _ _ _ _ _ _ _ hQ
 ·intro y h' tk hy hk
  obtain⟨k,rfl,hk0⟩:=hP _ y hy;have e:=ah8 a b c cm;refine⟨⟨h',tk,rfl,λq o e'=>hk q o ?_ (aV _ (X3 q o e'))⟩,?_⟩
  ·intro hm
   rw[aY.mp hm]at e';exact dS _ (dF hsz (cY e'))
  ·exact e▸Cq hk0
end
end
section
section
variable{prog:bb}{w:World}{A:aC}{E:Value->ah->Prop}{s:ah}{F:Addr->Prop}
theorem ud(c)(n)(a):kY a c n=(rangeInts a c n).map .int:=by
 apply alF;intro i;by_cases h:i<n
 ·rw[Bs c n a i h,gG,rangeInts_get h];rfl
 ·rw[iV (by rw[oh];omega),iV (by rw[aj,rangeInts_length];omega)]
theorem HS(c)(n)(a)(ys)(x:JA ys (rangeInts a c n)):aZ h F (kY a c n) ys:=by
 rw[ud];exact Bt x
theorem HT{a b:Int}{ns:List Int}(h1:ns.Perm [a,b])(h2:ns.Pairwise (·<=·)):ns=if a<=b then[a,b]else[b,a]:=by
 have key:∀{l:List Int},ns.Perm l->l.Pairwise (·<=·)->ns=l:=λp q=>p.eq_of_pairwise (λ_ _ _ _=>Int.le_antisymm) h2 q;by_cases h:a<=b
 ·rw[if_pos h];exact key h1 (by simpa using h)
 ·rw[if_neg h];exact key (h1.trans (List.Perm.swap b a [])) (by simpa using DA (Int.not_le.mp h))
theorem Pq(r:aZ h F [d] vs):∃v,vs=[v]/\bW h F d v:=by
 obtain⟨v,r',rfl,a,b⟩:=r.eS;exact⟨v,b.nk▸rfl,a⟩
theorem Uy(h:cT x=true)(q:xe x=true):False:=by
 unfold cT at h;unfold xe at q;split at q<;>simp_all
theorem Uz(h:cT x=true)(q:lJ x=true):False:=by
 unfold cT at h;unfold lJ at q;split at q<;>simp_all
theorem d1E{P:List Value->Prop}{f:D->Option D}{h:Heap}{ds:List D}{vs:List Value}{d:D}(r:aZ h F ds vs)(e:d1 f ds=some d)(k:∀x v,bW h F x v->f x=some d->P [v]):P vs:=by
 cases ds with
 |nil=>exact no e
 |cons x ds=>
  cases ds with
  |nil=>obtain⟨v,a,b⟩:=Pq r;exact a▸k x v b e
  |cons _ _=>exact no e
theorem d2E{P:List Value->Prop}{f:D->D->Option D}{h:Heap}{ds:List D}{vs:List Value}{d:D}(r:aZ h F ds vs)(e:d2 f ds=some d)(k:∀x y v v',bW h F x v->bW h F y v'->f x y=some d->P [v,v']):P vs:=by
 cases ds with
 |nil=>exact no e
 |cons x ds=>
  obtain⟨v,r',e1,a,b⟩:=r.eS;exact e1▸d1E (P:=λl=>P (v::l)) b e λy v' c e=>k x y v v' a c e
theorem ao0{P:Value->Prop}{f:UInt64->Option D}{h:Heap}{x:D}{v:Value}{d:D}(r:bW h F x v)(e:Uv f x=some d)(k:∀y t,t≠0->f y=some d->P (.float y t)):P v:=by
 obtain⟨y,_,e⟩:=aO e;obtain⟨t,a,b⟩:=r.f y;exact a▸k y.1 t b e
theorem ah9{P:Value->Prop}{f:Int->Option D}{h:Heap}{x:D}{v:Value}{d:D}(r:bW h F x v)(e:E3 f x=some d)(k:∀y t,f y=some d->P (.int y t)):P v:=by
 obtain⟨y,_,e⟩:=aO e;obtain⟨t,a⟩:=r.i y;exact a▸k y.1 t e
theorem aia{P:Value->Prop}{f:List D->Option D}{h:Heap}{x:D}{v:Value}{d:D}(r:bW h F x v)(e:HR f x=some d)(k:∀l a vs n,IsL h a vs.toArray n->aZ h F l vs->f l=some d->P (.ref a)):P v:=by
 obtain⟨y,_,e⟩:=aO e;obtain⟨a,vs,n,e1,_,e2,e3⟩:=r.l y;exact e1▸k y.1 a vs n e2 e3 e
abbrev BC(prog:bb)(w:World)(A:aC)(E:Value->ah->Prop)(F:Addr->Prop)(s:ah)(c:Value)(vs:List Value)(d:D):Prop:=wpAny (model prog w) A (call c vs) (gW F s d) E s
theorem Pr(h:n<=eu):(n:Int)<2^63:=o8.mpr (bk h (by decide))
theorem LQ(r:bW s.heap F x v)(e:ah0 x=some d):BC prog w A E F s (.builtin "len") [v] d:=by
 refine jY e (λe=>?_) λe=>?_
 ·obtain⟨y,_,e⟩:=aO e
  obtain⟨h,e⟩:=bx e;obtain⟨a,vs,n,rfl,na,hl,hr⟩:=r.l y;rw[<-hr.length]at h e;exact e▸PySem.Calls.call_len_list hl.isList (Pr h) lq
 ·obtain⟨y,_,e⟩:=aO e
  obtain⟨h,e⟩:=bx e;obtain⟨t,rfl⟩:=r.s y;exact e▸PyProof.Rows.len_str (Int.not_le.mpr (Pr h)) lq
theorem E6(ok:Ok A F s)(r:JA vs ns)(e:ah3 ns=some d):BC prog w A E F s (.type "range") vs d:=by
 cases r with
 |nil=>exact no e
 |cons a t r=>
  cases r with
  |nil=>
   exact af e▸call_range_1 ⟨Keeps.ES _ _,xC (mq ok.lo) (avI ..)⟩
  |cons b u r=>
   cases r with
   |nil=>
    exact af e▸call_range_2 ⟨Keeps.ES _ _,xC (mq ok.lo) (avI ..)⟩
   |cons c u' r=>
    cases r with
    |nil=>
     obtain⟨h,e⟩:=bx e;obtain⟨mg,fr⟩:=ok.fr;exact e▸range3_rows fr E5 h.1 (λh' tk t1 u1 v1 hr _ _ hk=>⟨⟨h',tk,rfl,hk⟩,xC (mq ok.lo) hr⟩) (.inl (aaM h.2))
    |cons _ _ _=>exact no e
theorem yn(e:gO l=some ns)(hl:IsL h a vs.toArray n)(r:aZ h F l vs):∃xs:Array (Int×Tok),h.IsList a (intItems xs)/\ns=xs.toList.map (·.1):=by
 have hI:=lG e r;obtain⟨xs,ex⟩:=hI.allInts.items;have pS:=hl.isList;rw[ex]at pS;exact⟨xs,pS,by rw[<-hI.numsOf,<-nums_intItems,<-ex]⟩
theorem UA(ok:Ok A F s)(hl:s.heap.IsList a (intItems xs))(Cv:ns=xs.toList.map (·.1))(e:ahX ns=some M):BC prog w A E F s (.builtin "max") [.ref a] (.int M):=by
 cases ns with
 |nil=>exact no e
 |cons m ns=>
  have hsz:0<xs.size:=by rw[<-cu,<-aj (f:=(·.1)),<-Cv];exact as8 _
  refine max_intList ok.hh hl hsz λv h' tk hv hk=>?_;obtain⟨t,rfl⟩:=intItems_at hv;obtain⟨h1,h2⟩:=argBest_gt (numAt xs) (xs.size - 1);have hM:ns.foldl max m=numAt xs (argBest (λi j=>decide (numAt xs i>numAt xs j)) (xs.size - 1)):=by
   refine ym ns m _ ?_ λa ha=>?_
   ·rw[Cv,numAt_eq];exact ata (by rw[aj,cu];exact amQ hsz h1)
   ·rw[Cv]at ha
    obtain⟨j,hj,rfl⟩:=mem_getD ha;rw[aj,cu]at hj;rw[<-numAt_eq];exact h2 j (aea hj)
  exact⟨⟨h',tk,rfl,hk⟩,af e▸hM▸fA⟩
theorem yo{c:Value}{k:UInt64->UInt64->UInt64->UInt64}{ds:List D}{vs:List Value}{d:D}(k3:∀i j l t u v,t≠0->u≠0->v≠0->BC prog w A E F s c [.float i t,.float j u,.float l v] (.aN (k i j l)))
(r:aZ s.heap F ds vs)(e:aa1 k ds=some d):BC prog w A E F s c vs d:=by
 cases ds with
 |nil=>exact no e
 |cons x ds=>
  obtain⟨a,_,e⟩:=aO e;obtain⟨v,r',e1,r0,r1⟩:=r.eS;obtain⟨t,e2,h1⟩:=r0.f a;rw[e1,e2];refine d2E (P:=λl=>BC prog w A E F s c (.float a.1 t::l) d) r1 e λy z v1 v2 r2 r3 e=>?_;exact Sw (P:=λv1 v2=>BC prog w A E F s c [.float a.1 t,v1,v2] d) (λi j u v q1 q2 e=>by exact af e▸k3 _ _ _ _ _ _ h1 q1 q2) r2 r3 e
theorem UB{ns:List Int}{M:Int}{a:Addr}{xs:Array (Int×Tok)}(ok:Ok A F s)(hl:s.heap.IsList a (intItems xs))(Cv:ns=xs.toList.map (·.1))(e:ahY ns=some M):BC prog w A E F s (.builtin "min") [.ref a] (.int M):=by
 cases ns with
 |nil=>exact no e
 |cons m ns=>
  have hsz:0<xs.size:=by rw[<-cu,<-aj (f:=(·.1)),<-Cv];exact as8 _
  refine min_intList ok.hh hl hsz λv h' tk hv hk=>?_;obtain⟨t,rfl⟩:=intItems_at hv;obtain⟨h1,h2⟩:=argBest_lt (numAt xs) (xs.size - 1);have hM:ns.foldl min m=numAt xs (argBest (λi j=>decide (numAt xs i<numAt xs j)) (xs.size - 1)):=by
   refine p5 ns m _ ?_ λa ha=>?_
   ·rw[Cv,numAt_eq];exact ata (by rw[aj,cu];exact amQ hsz h1)
   ·rw[Cv]at ha
    obtain⟨j,hj,rfl⟩:=mem_getD ha;rw[aj,cu]at hj;rw[<-numAt_eq];exact h2 j (aea hj)
  exact⟨⟨h',tk,rfl,hk⟩,af e▸hM▸fA⟩
theorem LR(ok:Ok A F s)(e:gO l=some ns)(hl:IsL s.heap a vs.toArray n)(r:aZ s.heap F l vs):BC prog w A E F s (.builtin "sum") [.ref a] (.int ns.sum):=by
 obtain⟨xs,h1,h2⟩:=yn e hl r;refine sum_intListG ok.hh h1 λh' tk t' hk=>⟨⟨h',tk,rfl,hk⟩,?_⟩
 rw[preSum_eq,h2,show xs.size=(xs.toList.map (·.1)).length by rw[aj,cu],rz];exact fA
theorem LU(e:(if 0<=i/\i<=0x10FFFF then some (D.str ⟨#[i.toNat]⟩)else none)=some d):BC prog w A E F s (.builtin "chr") [.int i t] d:=
 (bx e).2▸chr_of_range (bx e).1.1 (bx e).1.2 EW
theorem LV(e:ah1 x=some d):∃c,x=⟨#[c]⟩/\d=.int c:=by
 obtain⟨⟨l⟩⟩:=x;cases l with
 |nil=>exact no e
 |cons c l=>
  cases l with
  |nil=>exact⟨c,rfl,(af e).symm⟩
  |cons _ _=>exact no e
theorem LW(r:bW s.heap F x v)(e:ah2 x=some d):BC prog w A E F s (.builtin "ord") [v] d:=by
 obtain⟨y,_,e⟩:=aO e;obtain⟨t,rfl⟩:=r.s y;obtain⟨c,h,rfl⟩:=LV e;exact h▸PySem.P.ord_of_char lq
abbrev BL(prog:bb)(w:World)(A:aC)(E:Value->ah->Prop)(F:Addr->Prop)(s:ah)(v:Value)(d:D):Prop:=wpAny (model prog w) A (call (.type "list") [v]) (λv s'=>gW F s d v s'/\kG s v) E s
theorem Pt(ok:Ok A F s)(h:l.length<=eu)(r:RL s.heap F l v):BL prog w A E F s v (.lst l):=by
 obtain⟨a,vs,n,e,na,hl,hr⟩:=r;exact e▸call_list_seq a (.inl rfl) hl rfl rfl (λh' c' hk hD=>⟨⟨⟨h',s.toks,rfl,hk⟩,hO (mq ok.lo) hD (hr.keeps hk)⟩,_,rfl,kr _⟩) (by rw[aX,hr.length];exact aq h ip)
theorem Pu(ok:Ok A F s)(h:kx a b c=true)(f9:iQ a b c<=eu)(r:RR s.heap F a b c v):BL prog w A E F s v (.lst (kY a c (iQ a b c))):=by
 unfold kx at h;simp only[av,decide_eq_true_eq]at h;obtain⟨r,t,u,w',e,na,hl⟩:=r;obtain⟨mg,fr⟩:=ok.fr;refine e▸list_rangeD (n:=iQ a b c) ok.hh fr E5 hl h.1.2 (Aa h.2).symm (aq f9 (by decide)) λh' tk ys _ _ hk _ hL hP hC=>⟨⟨⟨h',tk,rfl,hk⟩,?_⟩,_,rfl,kr _⟩
 obtain⟨⟨c',hD⟩,_⟩:=hP;exact hO (mq ok.lo) hD (HS _ _ _ _ (IntsAre.ofCarried hC))
theorem yq(ok:Ok A F s)(r:bW s.heap F x v)(e:X2 x=some d):BL prog w A E F s v d:=by
 refine jY e (λe=>?_) λe=>?_
 ·obtain⟨y,_,e⟩:=aO e
  exact(bx e).2▸Pu ok (bx e).1.1 (bx e).1.2 (r.r y)
 ·obtain⟨y,_,e⟩:=aO e
  exact(bx e).2▸Pt ok (bx e).1 (r.l y)
inductive I2(f:Int->Int->Option D)(d:D):List Value->List Int->Prop
 |mk (a:Int) (t:Tok) (b:Int) (u:Tok) (e:f a b=some d):I2 f d [.int a t,.int b u] [a,b]
theorem Bw(r:JA vs ns)(e:E4 f ns=some d):I2 f d vs ns:=by
 cases r with
 |nil=>exact no e
 |cons a t r=>
  cases r with
  |nil=>exact no e
  |cons b u r=>
   cases r with
   |cons _ _ _=>exact no e
   |nil=>exact⟨a,t,b,u,e⟩
theorem Cw(ok:Ok A F s)(e:gO l=some ns)(hl:IsL s.heap a vs.toArray n)(hr:aZ s.heap F l vs)(e2:E4 ah4 ns=some d):BC prog w A E F s (.builtin "sorted") [.ref a] d:=by
 have hI:=lG e hr;cases Bw hI e2 with
 |mk i t j u e2=>
  refine sorted_ints hl.isList hI (by show 2<64;decide) λout ns' h1 h2 h3=>?_;obtain⟨e',he'⟩:=sortedAll_at s.heap [.int i t,.int j u] out;refine⟨⟨_,s.toks,rfl,λb o g=>sortedAll_old g⟩,?_⟩;rw[<-af e2];refine hO (λq=>?_) (vs:=out.toList) he' ?_
  ·obtain⟨o,g⟩:=ay.mp (ok.lo _ q)
   exact dS _ (dF (d6 _) (cY g))
  ·rw[HT h2 h3]at h1
   have:=Bt (F:=F) (h:=sortedAll s.heap [.int i t,.int j u] out) h1;by_cases q:i<=j
   ·rw[if_pos q]at this⊢;exact this
   ·rw[if_neg q]at this⊢;exact this
theorem Cx(ok:Ok A F s)(r:JA vs ns)(e:E4 dmI ns=some d):BC prog w A E F s (.builtin "divmod") vs d:=by
 cases Bw r e with
 |mk i t j u e=>
  obtain⟨h,e⟩:=bx e;exact e▸divmod_int h.1 ⟨Keeps.ES _ _,Cr (vs:=[_,_]) (mq ok.lo) (IsT.new ..) (.cons fA (.one fA))⟩ (.inl (aaM h.2))
theorem LX(ok:Ok A F s)(e:(if cT x=true then some (D.int (cx cH x))else none)=some d):BC prog w A E F s (.type "int") [.float x t] d:=by
 obtain⟨h,e⟩:=bx e;exact e▸PySem.Flt.call_int_float3 ok.hh (λq=>(Uy h q).elim) (λq=>(Uz h q).elim) λ_=>lq
theorem Sy{c:Value}{f:D->Option D}{d:D}(r:aZ s.heap F ds vs)(e:d1 f ds=some d)(k:∀x v,bW s.heap F x v->f x=some d->BC prog w A E F s c [v] d):BC prog w A E F s c vs d:=d1E (P:=λvs=>BC prog w A E F s c vs d) r e k
theorem bFE{c:Value}{f:UInt64->Option D}{d:D}(r:bW s.heap F x v)(e:Uv f x=some d)(k:∀y t,f y=some d->BC prog w A E F s c [.float y t] d):BC prog w A E F s c [v] d:=ao0 (P:=λv=>BC prog w A E F s c [v] d) r e λy t _=>k y t
theorem bLE{c:Value}{f:List D->Option D}{d:D}(r:bW s.heap F x v)(e:HR f x=some d)(k:∀l a vs n,IsL s.heap a vs.toArray n->aZ s.heap F l vs->f l=some d->BC prog w A E F s c [.ref a] d):BC prog w A E F s c [v] d:=aia (P:=λv=>BC prog w A E F s c [v] d) r e k
theorem HU(ok:Ok A F s)(hl:IsL s.heap a vs.toArray n)(hr:aZ s.heap F l vs)(e:ah5 l=some d):BC prog w A E F s (.builtin "max") [.ref a] d:=by
 obtain⟨ns,e1,e2⟩:=aO e;obtain⟨M,e3,rfl⟩:=dH e2;obtain⟨xs,h3,h4⟩:=yn e1 hl hr;exact UA ok h3 h4 e3
theorem HV(ok:Ok A F s)(hl:IsL s.heap a vs.toArray n)(hr:aZ s.heap F l vs)(e:Pp l=some d):BC prog w A E F s (.builtin "min") [.ref a] d:=by
 obtain⟨ns,e1,e2⟩:=aO e;obtain⟨M,e3,rfl⟩:=dH e2;obtain⟨xs,h3,h4⟩:=yn e1 hl hr;exact UB ok h3 h4 e3
theorem HW(ok:Ok A F s)(r1:bW s.heap F x v)(r2:bW s.heap F y v')(e:DH ah6 x y=some d):BC prog w A E F s (.builtin "max") [v,v'] d:=by
 refine He (P:=λv v'=>BC prog w A E F s (.builtin "max") [v,v'] d) (λi j t u e=>?_) r1 r2 e;exact af e▸max_two_ints ok.hh λh' tk hk=>⟨⟨h',tk,rfl,hk⟩,by split<;>exact fA⟩
theorem HX(ok:Ok A F s)(r1:bW s.heap F x v)(r2:bW s.heap F y v')(e:DH ah7 x y=some d):BC prog w A E F s (.builtin "min") [v,v'] d:=by
 refine He (P:=λv v'=>BC prog w A E F s (.builtin "min") [v,v'] d) (λi j t u e=>?_) r1 r2 e;exact af e▸min_two_ints ok.hh λh' tk hk=>⟨⟨h',tk,rfl,hk⟩,by split<;>exact fA⟩
theorem Pw(ok:Ok A F s)(r:aZ s.heap F ds vs)(e:cM b ds=some d):
 wpAny (model prog w) A (call b.val vs) (gW F s d) E s:=by
 cases b with
 |len=>exact Sy r e λx v r e=>LQ r e
 |range=>
  obtain⟨ns,e1,e2⟩:=aO e;exact E6 ok (lG e1 r) e2
 |max=>exact jY e (λe=>Sy r e λx v r e=>bLE r e λl a vs n h1 h2 e=>HU ok h1 h2 e) λe=>jY e (λe=>d2E (P:=λl=>BC prog w A E F s (.builtin "max") l d) r e λx y v v' r1 r2 e=>HW ok r1 r2 e) λe=>yo (k:=Ap) (λi j l t u v h0 h1 h2=>wt fgt ok h0 h1 h2 (λh=>call_max_three h) λx y t u s Q E h=>AutoFloatOps.gt_0 h) r e
 |min=>exact jY e (λe=>d2E (P:=λl=>BC prog w A E F s (.builtin "min") l d) r e λx y v v' r1 r2 e=>HX ok r1 r2 e) λe=>jY e (λe=>Sy r e λx v r e=>bLE r e λl a vs n h1 h2 e=>HV ok h1 h2 e) λe=>yo (k:=LP) (λi j l t u v h0 h1 h2=>wt Po ok h0 h1 h2 (λh=>call_min_three h) λx y t u s Q E h=>NI h) r e
 |abs=>
  refine Sy r e λx v r e=>bFE r e λy t e=>?_;exact af e▸PySem.Flt.call_abs_float (xi ok.tk)
 |sum=>
  refine Sy r e λx v r e=>bLE r e λl a vs n h1 h2 e=>?_;obtain⟨ns,e1,rfl⟩:=dH e;exact LR ok e1 h1 h2
 |chr=>exact Sy r e λx v r e=>ah9 (P:=λv=>BC prog w A E F s (.builtin "chr") [v] d) r e λy t e=>LU e
 |ord=>exact Sy r e λx v r e=>LW r e
 |list=>exact Sy r e λx v r e=>ai (yq ok r e) (λ_ _ q=>q.1) λ_ _ e=>e
 |sorted=>
  refine Sy r e λx v r e=>bLE r e λl a vs n h1 h2 e=>?_;obtain⟨ns,e1,e2⟩:=aO e;exact Cw ok e1 h1 h2 e2
 |divmod=>
  obtain⟨ns,e1,e2⟩:=aO e;exact Cx ok (lG e1 r) e2
 |int=>exact Sy r e λx v r e=>bFE r e λy t e=>LX ok e
end
end
section
open Builtin.Str
def jS(n:Nat)(d:Nat):Option Int->Nat
 |none=>d
 |some i=>(max 0 (min (if i<0 then i+n else i) n)).toNat
def sl(lo hi:Option Int)(l:List α):List α:=
 (l.drop (jS l.length 0 lo)).take (jS l.length l.length hi - jS l.length 0 lo)
theorem Px(h:d<=n)(i:Option Int):jS n d i<=n:=by
 unfold jS;cases i with
 |none=>exact h
 |some i=>exact Int.toNat_le.mpr (Int.max_le.mpr ⟨bG _,atb ..⟩)
theorem E7(lo hi:Option Int)(n):sliceBounds lo hi none n=(((jS n 0 lo:Nat):Int),((jS n n hi:Nat):Int),(1:Int)):=by
 unfold sliceBounds jS;cases lo<;>cases hi<;>simp only[Ca]<;>simp<;>lia
theorem UC(vs)(lo hi:Option Int):slicePick vs.toArray lo hi none=(sl lo hi vs).toArray:=by
 unfold slicePick;rw[E7];dsimp only;rw[aX,W9,pick_run];rfl
theorem wu(lo hi:Option Int)(n):strSliceIndices lo hi 1 n=sliceRange (jS n 0 lo:Nat) (jS n n hi:Nat) 1:=by
 unfold strSliceIndices jS;cases lo<;>cases hi<;>simp only[gt_iff_lt,Int.zero_lt_one,if_true]<;>first|rfl|(congr 1<;>simp<;>lia)|skip
theorem LY(x:Str)(lo hi:Option Int):((strSliceIndices lo hi 1 x.length).filterMap (x.cps[·]?)).toArray=(sl lo hi x.cps.toList).toArray:=by
 rw[wu,W9,pick_run];rfl
def Sz(i:Int)(ds:List D):Option D:=(seqIndex? i ds.length).bind λj=>ds[j]?
def itS(i:Int)(x:Str):Option D:=(seqIndex? i x.length).bind λj=>(x.cps.toList[j]?).bind λc=>some (.str ⟨#[c]⟩)
def fU(o:D)(i:Int):Option D:=
 if -(2^62)<=i/\i<2^62 then((qL o).bind λl=>Sz i l.1).or (((qT o).bind λl=>Sz i l.1).or ((qS o).bind λx=>itS i x.1))else none
def yr(o:D)(lo hi:Option Int):Option D:=((qL o).bind λds=>if ds.1.length<=eu then some (.lst (sl lo hi ds.1))else none).or ((qS o).bind λx=>if x.1.length<=eu then some (.str ⟨(sl lo hi x.1.cps.toList).toArray⟩)else none)
theorem UD{lo hi:Option Int}{ds:List D}:yr (.lst ds) lo hi=if ds.length<=eu then some (.lst (sl lo hi ds))else none:=(amR:(if ds.length<=eu then some (D.lst (sl lo hi ds))else none).or none=_)
theorem Cy(h: -(2^62)<=i/\i<2^62):fU (.lst ds) i=Sz i ds:=(if_pos h).trans (amR:(Sz i ds).or none=Sz i ds)
theorem UE(h: -(2^62)<=i/\i<2^62):fU (.str x) i=itS i x:=if_pos h
section
variable{prog:bb}{w:World}{A:aC}{E:Value->ah->Prop}{s:ah}{F:Addr->Prop}
def Bx(s:ah)(o:Value):Prop:=∃T id,s.TypeIs o T/\typeLookup (.type T) "__getitem__"=pure (some (.builtin id))
theorem By:Bx s (.str x t):=⟨"str",_,typeIs_str s _ t,PySem.F.slot_str_getitem.lookup⟩
theorem LZ(hl:IsT s.heap a vs n):Bx s (.ref a):=⟨"tuple",_,⟨_,hl,rfl⟩,PySem.F.slot_tuple_getitem.lookup⟩
theorem uf(hl:IsL s.heap a vs n):Bx s (.ref a):=⟨"list",_,hl.isList.typeIs,list_getitem_lookup⟩
theorem UG(slice)(o i):∃l,subscripted slice false o i=operate l (getItem o i):=by
 have k:∃l,operate [o,i] (getItem o i)=operate l (getItem o i):=⟨_,rfl⟩
 have k2:∀lo hi st p,∃l,subscripted (.Slice lo hi st p) false o i=operate l (getItem o i):=λlo hi st p=>by cases st<;>exact⟨_,rfl⟩
 exact eY (motive_1:=λslice=>∃l,subscripted slice false o i=operate l (getItem o i)) slice (λ_ _ _=>k) (λ_ _ _=>k) (λ_ _ _ _=>k) (λ_ _ _=>k) (λ_ _ _ _=>k) (λ_ _ _ _=>k) (λ_ _ _=>k) (λ_ _ _=>k) (λ_ _ _ _=>k) (λ_ _ _ _=>k) (λ_ _ _ _ _=>k) (λ_ _ _ _=>k) (λ_ _=>k) (λ_ _=>k) (λ_ _=>k) (λ_ _ _ _=>k) (λ_ _ _ _=>k) (λ_ _ _ _=>k) (λ_ _=>k) (λ_ _ _=>k) (λ_ _ _=>k) (λ_ _ _=>k) (λ_ _=>k) (λ_ _=>k) (λ_ _=>k) (λ_ _ _=>k) k2
theorem ug
(h:wpAny (model prog w) A (eval value env) (λo aU=>wpAny (model prog w) A (eval slice env) (λi eZ=>Bx eZ o/\wpAny (model prog w) A (getItem o i) Q E eZ) E aU) E s):
 wpAny (model prog w) A (eval (.Subscript value slice pos) env) Q E s:=by
 refine Subscript_ (ai h (λo aU ic=>ai ic (λi eZ yt=>?_) λ_ _ e=>e) λ_ _ e=>e);obtain⟨⟨T,id,hT,hl⟩,hg⟩:=yt;unfold subscriptTail;refine ao ?_;rw[getitemInPython_of_ne hT.not_modules];refine ao (wpAny_specialOf hT hl ?_);have fin:wpAny (model prog w) A (subscripted slice false o i) (λr fx=>wpAny (model prog w) A (letTemporaryGo value o r >>= λ_=>pure r) Q E fx) E eZ:=by
  have hh:∀l,wpAny (model prog w) A (operate l (getItem o i)) (λr fx=>wpAny (model prog w) A (letTemporaryGo value o r >>= λ_=>pure r) Q E fx) E eZ:=
   λl=>wpAny_operating (ai hg (λr fx ao1=>ao (wpAny_letTemporaryGo (aL ao1))) λ_ _ x=>x)
  obtain⟨l,e⟩:=UG slice o i;rw[e];exact hh l
 first
  |exact aL (ao fin)
  |exact ao (aL (ao fin))
  |exact ao fin
theorem UH(hi: -(2^62)<=i/\i<2^62)(hl:IsL s.heap a vs.toArray n)(hr:aZ s.heap F ds vs)(e:Sz i ds=some d):
 wpAny (model prog w) A (getItem (.ref a) (.int i t)) (gW F s d) E s:=by
 obtain⟨j,e1,e2⟩:=aO e;obtain⟨x,e3,e4⟩:=hr.get' e2;have fin:gW (F:=F) s d x s:=⟨Keeps.rfl',e4⟩
 have hlen:=hr.length;have e3':vs.toArray[j]? =some x:=fq.trans e3;unfold seqIndex? at e1;dsimp only at e1;by_cases h0:i<0
 ·rw[if_pos h0]at e1
  obtain⟨hc,rfl⟩:=bx e1;obtain⟨c1,c2⟩:=(av _ _).mp hc;have c1:=of_decide_eq_true c1;have c2:=of_decide_eq_true c2;refine wpAny_getItem_list_neg hl.isList h0 (by rw[aX,hlen];lia) (by lia) ?_ fin;rw[aX,hlen];exact e3'
 ·rw[if_neg h0]at e1
  obtain⟨hc,rfl⟩:=bx e1;exact wpAny_getItem_list hl.isList (by lia) (by lia) e3' fin
theorem UI(hi: -(2^62)<=i/\i<2^62)(e:itS i x=some d):wpAny (model prog w) A (getItem (.str x u) (.int i t)) (gW F s d) E s:=by
 obtain⟨j,e1,e2⟩:=aO e;obtain⟨c,e3,e4⟩:=aO e2;exact af e4▸PySem.P.getItem_str (c:=c) (by simp;lia) (e1▸by simpa using e3) EW
theorem UJ(hi: -(2^62)<=i/\i<2^62)(hl:IsT s.heap a vs.toArray n)(hr:aZ s.heap F ds vs)(e:Sz i ds=some d):wpAny (model prog w) A (getItem (.ref a) (.int i t)) (gW F s d) E s:=by
 obtain⟨j,e1,e2⟩:=aO e;obtain⟨x,e3,e4⟩:=hr.get' e2;exact PySem.P.getItem_tuple hl (by lia) (by lia) (by rw[aX,hr.length];exact e1) (fq.trans e3) ⟨Keeps.rfl',e4⟩
theorem HY(ra:bW s.heap F o v)(e:fU o i=some d):
 Bx s v/\wpAny (model prog w) A (getItem v (.int i t)) (gW F s d) E s:=by
 obtain⟨hi,e⟩:=dD e;refine jY e (λe=>?_) λe=>jY e (λe=>?_) λe=>?_
 ·obtain⟨l,_,e⟩:=aO e
  obtain⟨a,vs,n,h,na,hl,hr⟩:=ra.l l;exact h▸⟨uf hl,UH hi hl hr e⟩
 ·obtain⟨l,_,e⟩:=aO e
  obtain⟨a,vs,n,h,na,hl,hr⟩:=ra.t l;exact h▸⟨LZ hl,UJ hi hl hr e⟩
 ·obtain⟨x,_,e⟩:=aO e
  obtain⟨u,h⟩:=ra.s x;exact h▸⟨By,UI hi e⟩
theorem UK(lo hi:Option Int)(r:aZ h F ds vs):aZ h F (sl lo hi ds) (sl lo hi vs):=by
 unfold sl;rw[r.length];exact(r.drop _).take _
theorem aa2{x:Str}{lo hi:Option Int}(h:(jS x.length x.length hi - jS x.length 0 lo)=x.length):(⟨(sl lo hi x.cps.toList).toArray⟩:Str)=x:=by
 have b1:=Px (cf x.length) hi;have hx:x.cps.toList.length=x.length:=rfl;have e1:jS x.length 0 lo=0\/x.length=0:=by lia
 obtain⟨c⟩:=x;congr 1;unfold sl;rw[hx];rcases e1 with e1|e1
 ·rw[e1]at h⊢
  rw[xa,rZ (by rw[hx];lia)]
 ·have:c= #[]:=Array.eq_empty_of_size_eq_zero e1
  rw[this];simp
theorem part_of{lo hi:Option Int}{vl vu:Value}(pl:G5 vl lo)(pu:G5 vu hi):∃l u:Option (Int×Tok),vl=partValue l/\vu=partValue u/\l.map (·.1)=lo/\u.map (·.1)=hi:=by
 cases pl<;>cases pu<;>first
  |exact⟨none,none,rfl,rfl,rfl,rfl⟩
  |exact⟨none,some (_,_),rfl,rfl,rfl,rfl⟩
  |exact⟨some (_,_),none,rfl,rfl,rfl,rfl⟩
  |exact⟨some (_,_),some (_,_),rfl,rfl,rfl,rfl⟩
theorem aa3(x:Str)(lo hi:Option Int):(sl lo hi x.cps.toList).toArray.size<=x.length:=by
 rw[aX];unfold sl;have hx:x.cps.toList.length=x.length:=rfl;rw[l9];exact aq (atc ..) (by rw[jm];exact tJ ..)
theorem Py{x:Str}{u:Tok}{lo hi:Option Int}{vl vu:Value}{sa:Addr}(f9:x.length<=eu)(hs:s.heap.IsSliceOf sa vl vu .none)(pl:G5 vl lo)(pu:G5 vu hi):
 wpAny (model prog w) A (getItem (.str x u) (.ref sa)) (gW F s (.str ⟨(sl lo hi x.cps.toList).toArray⟩)) E s:=by
 obtain⟨l,u',rfl,rfl,rfl,rfl⟩:=part_of pl pu;refine wpAny_getItem_str_slice (l:=l) (u:=u') (st:=none) hs rfl ?_;unfold sliceMade slicePicked;have hp:=LY x (l.map (·.1)) (u'.map (·.1));split
 ·rename_i hc
  simp only[alG,Ca,av,beq_iff_eq]at hc;have hc2:=hc.2;rw[wu,W9,aj,b8]at hc2;rw[aa2 hc2];exact⟨Keeps.rfl',xB⟩
 ·simp only[alG,Ca]
  rw[hp];exact⟨aq (aa3 x _ _) (aq f9 ip),EW⟩
theorem Pz{lo hi:Option Int}{ds:List D}(lw:iW F s.heap)(f9:ds.length<=eu)(hl:IsL s.heap a vs.toArray n)(hr:aZ s.heap F ds vs)(hs:s.heap.IsSliceOf sa vl vu .none)(pl:G5 vl lo)(pu:G5 vu hi):wpAny (model prog w) A (getItem (.ref a) (.ref sa)) (gW F s (.lst (sl lo hi ds))) E s:=by
 refine wpAny_getItem_list_slice hl.isList hs pl pu .none (by simp) ⟨Keeps.push _,?_⟩ (by rw[aX,hr.length];exact aq f9 ip);rw[UC];exact nq lw (UK _ _ hr)
theorem HZ{o d:D}{lo hi:Option Int}{v vl vu:Value}{sa:Addr}(lw:iW F s.heap)(ra:bW s.heap F o v)(hs:s.heap.IsSliceOf sa vl vu .none)(pl:G5 vl lo)(pu:G5 vu hi)(e:yr o lo hi=some d):
 Bx s v/\wpAny (model prog w) A (getItem v (.ref sa)) (gW F s d) E s:=by
 refine jY e (λe=>?_) λe=>?_
 ·obtain⟨l,_,e⟩:=aO e
  obtain⟨a,vs,n,h,na,hl,hr⟩:=ra.l l;exact h▸(bx e).2▸⟨uf hl,Pz lw (bx e).1 hl hr hs pl pu⟩
 ·obtain⟨x,_,e⟩:=aO e
  obtain⟨u,h⟩:=ra.s x;exact h▸(bx e).2▸⟨By,Py (bx e).1 hs pl pu⟩
end
end
end Internal
namespace Internal
section
open Builtin.Str Builtin
def strs?:List D->Option (List Str)
 |[]=>some []
 |d::r=>(qS d).bind λx=>(strs? r).map (x.1::·)
theorem L0:∀{ys:List Str}{vs:List Value},strs? ds=some ys->aZ h F ds vs->StrsAre vs ys:=by
 induction ds with
 |nil=>intro ns vs e x;exact x.nk▸af e▸.nil
 |cons d ds ih=>
  intro ns vs e x;obtain⟨y,_,e⟩:=aO e;obtain⟨ms,e1,rfl⟩:=dH e;obtain⟨v,r,rfl,a,b⟩:=x.eS;obtain⟨t,q⟩:=a.s y;exact q▸.cons _ _ (ih e1 b)
theorem p6(l:List (Str×Tok)):aZ h F (l.map λp=>.str p.1) (strValues l):=by
 induction l with
 |nil=>exact .nil
 |cons x l ih=>exact .cons xB ih
inductive Me where
 |index|find|startswith|join|split|lower|count|j0
def d0(x:Option D):List D->Option D
 |[]=>x
 |_::_=>none
def UL(f:Str->Option D)(d:D):Option D:=(qS d).bind λx=>f x.1
def L5(f:Str->List D->Option D)(d:D)(ds:List D):Option D:=(qS d).bind λx=>f x.1 ds
def aa4(f:List D->List D->Option D)(d:D)(ds:List D):Option D:=(qL d).bind λx=>f x.1 ds
def ao2(f:Int->List D->Option D)(d:D)(ds:List D):Option D:=(qI d).bind λx=>f x.1 ds
def aa5:List Nat->Option D
 |i::_=>some (.int i)
 |[]=>none
def ixS(x:Str)(ds:List D):Option D:=d1 (UL λy=>aa5 (occurrences x y 0 x.length 1)) ds
def ixL(l:List D)(ds:List D):Option D:=d1 (E3 λk=>(gO l).bind λns=>if k∈ns/\ns.length<=eu then some (.int (ns.idxOf k:Nat))else none) ds
def X4(x y:Str):Option D:=some (.int (NJ x y))
def swS(x y:Str):Option D:=some (.bool (Txt.startswith x y))
def aa6(f:Str->Str->Option D):D->List D->Option D:=L5 λx=>d1 (UL (f x))
def aib(x:Str)(l:List D):Option D:=(strs? l).bind λys=>if(ys.map (·.length)).sum+ys.length*x.length<=16777216 then some (.str (Txt.join x ys))else none
def PA(x:Str):List D->Option D:=d1 (HR (aib x))
def X5(x:Str):List D->Option D:=d0 (if x.length<=eu/\(spaceWords x (x.length+1)).length<=eu then some (.lst ((S3 x).map .str))else none)
def aa7(x:Str):List D->Option D:=d0 (if x.length<=1000000 then some (.str (atd x))else none)
def ao3(l:List D)(k:Int):Option D:=(gO l).map λns=>.int (ns.count k:Nat)
def aa8(l:List D):List D->Option D:=d1 (E3 (ao3 l))
def pg:Me->D->List D->Option D
 |.index,o,ds=>(aa4 ixL o ds).or (L5 ixS o ds)
 |.find,o,ds=>aa6 X4 o ds
 |.startswith,o,ds=>aa6 swS o ds
 |.join,o,ds=>L5 PA o ds
 |.split,o,ds=>L5 X5 o ds
 |.lower,o,ds=>L5 aa7 o ds
 |.count,o,ds=>aa4 aa8 o ds
 |.j0,o,ds=>ao2 (λi=>d0 (some (.int (cq i)))) o ds
def Me.str:Me->Str
 |.index=>"index"|.find=>"find"|.startswith=>"startswith"|.join=>"join"|.split=>"split"|.lower=>"lower"|.count=>"count"|.j0=>"bit_length"
def Me.of(n:Str):Option Me:=[Me.index,.find,.startswith,.join,.split,.lower,.count,.j0].find? λm=>m.str==n
theorem Me.aa9(h:Me.of n=some m):n=m.str:=by
 unfold Me.of at h;have:=Hl h;exact(eq_of_beq this).symm
section
variable{prog:bb}{w:World}{A:aC}{E:Value->ah->Prop}{s:ah}{F:Addr->Prop}
abbrev MF(s:ah)(m:Me)(p:String×String)(v:Value):Prop:=PlainAttrs p.1/\Slot p.1 m.str p.2/\typeOf (.builtin p.2)=pure (.type "method_descriptor")/\s.TypeIs v p.1/\(∀a,v=.ref a->∃ob,s.heap.get? a=some ob/\ob.dict=none)
abbrev MI(s:ah)(m:Me)(v:Value)(id:String):Prop:=∃T,MF s m (T,id) v
theorem UM{m:Me}{id:String}{x:Str}{t:Tok}(a:Slot "str" m.str id)(b:typeOf (.builtin id)=pure (.type "method_descriptor")):MI s m (.str x t) id:=⟨"str",PySem.F.plainAttrs_str,a,b,typeIs_str _ _ _,λ_ e=>nomatch e⟩
theorem ao4{m:Me}{id:String}(hl:IsL s.heap a xs n)(u:Slot "list" m.str id)(b:typeOf (.builtin id)=pure (.type "method_descriptor")):MI s m (.ref a) id:=⟨"list",jX,u,b,hl.isList.typeIs,λb e=>lj e▸⟨_,hl,rfl⟩⟩
theorem ao5:MI s .j0 (.int i t) "int.bit_length":=⟨"int",PySem.F.plainAttrs_int,PySem.F.slot_int_bit_length,PySem.F.type_int_bit_length,typeIs_int _ _ _,λ_ e=>nomatch e⟩
theorem H0(hl:s.heap.IsList l vs.toArray)(hi:JA vs ns)
(hb:ns.length<=eu)(hk:k∈ns)(h:Q (.int (ns.idxOf k:Nat) s.toks) {s with toks:=s.toks+1}):
 wpAny (model prog w) A (call (.builtin "list.index") [.ref l,.int k t]) Q E s:=by
 obtain⟨⟨cls,dd,data,sl⟩,ho,hc,n,hd⟩:=id hl;simp only at hc hd;subst hc hd;have hlen:=hi.length;have hj:ns.idxOf k<ns.length:=List.idxOf_lt_length_iff.mpr hk;have f9:eu=1048576:=rfl;refine G4 Ln ⟨_,ho,rfl⟩ PySem.F.entry_list_index (PySem.F.args_list_index_2 _ _)
  (PySem.SeqAt.list_indexAt l vs.toArray n dd sl (.int k t) (isInt k) (ns.idxOf k) (by simpa [hlen]using hj) (by omega) ?_ ?_) ⟨ho,λy hy=>(eq_isInt k t hi y (by simpa using hy)).at _ _,h⟩
 ·show isInt k vs[ns.idxOf k]=true
  rw[isInt_at k hi _ (by omega) hj];simpa using List.getElem_idxOf hj
 ·intro j hjs mm
  show isInt k vs[j]=false;rw[isInt_at k hi j (by simpa using hjs) (by omega)];exact ne_of_lt_idxOf mm _
theorem yu(r:aZ h F ds vs)(e:d0 x ds=some d):vs=[]/\x=some d:=by
 cases ds with
 |nil=>exact⟨r.nk,e⟩
 |cons _ _=>exact no e
abbrev CB(prog:bb)(w:World)(A:aC)(E:Value->ah->Prop)(F:Addr->Prop)(s:ah)(id:String)(d:D)(vs:List Value):Prop:=wpAny (model prog w) A (call (.builtin id) vs) (gW F s d) E s
abbrev MS(prog:bb)(w:World)(A:aC)(E:Value->ah->Prop)(F:Addr->Prop)(s:ah)(m:Me)(d:D)(ds:List D)(v:Value):Prop:=∃id,MI s m v id/\∀s2 vs,Ok A F s2->bV s.heap s2.heap->aZ s2.heap F ds vs->CB prog w A E F s2 id d (v::vs)
theorem oj(r0:bW s.heap F o v)(e:L5 f o ds=some d)(k:∀x t,f x ds=some d->MS prog w A E F s m d ds (.str x t)):MS prog w A E F s m d ds v:=by
 obtain⟨x,_,e⟩:=aO e;obtain⟨t,q⟩:=r0.s x;exact q▸k _ t e
theorem yv{m:Me}{id:String}{f:List D->List D->Option D}{o d:D}(r0:bW s.heap F o v)(e:aa4 f o ds=some d)(u:Slot "list" m.str id)(b:typeOf (.builtin id)=pure (.type "method_descriptor"))(k:∀l a jR n s2 vs,IsL s2.heap a jR.toArray n->aZ s2.heap F l jR->aZ s2.heap F ds vs->f l ds=some d->CB prog w A E F s2 id d (.ref a::vs)):MS prog w A E F s m d ds v:=by
 obtain⟨x,_,e⟩:=aO e;obtain⟨a,jR,n,q,_,hl,hr⟩:=r0.l x;exact q▸⟨id,ao4 hl u b,λs2 vs _ k2 r=>k _ a jR n s2 vs (k2 a _ hl) (hr.keeps k2) r e⟩
theorem aic{P:List Value->Prop}{f:Int->Option D}{d:D}(r:aZ s.heap F ds vs)(e:d1 (E3 f) ds=some d)(k:∀x t,f x=some d->P [.int x t]):P vs:=d1E r e λx v r e=>ah9 (P:=λv=>P [v]) r e k
theorem ao6{P:List Value->Prop}{f:Str->Option D}{d:D}(r:aZ s.heap F ds vs)(e:d1 (UL f) ds=some d)(k:∀x t,f x=some d->P [.str x t]):P vs:=d1E r e λx v r e=>by
 obtain⟨x,_,e⟩:=aO e;obtain⟨t,q⟩:=r.s x;exact q▸k _ t e
theorem rI{m:Me}{id:String}{f:Str->Str->Option D}{o d:D}(r0:bW s.heap F o v)(e:aa6 f o ds=some d)(a:Slot "str" m.str id)(b:typeOf (.builtin id)=pure (.type "method_descriptor"))(k:∀x t y u s2,f x y=some d->CB prog w A E F s2 id d [.str x t,.str y u]):MS prog w A E F s m d ds v:=
 oj (f:=λx=>d1 (UL (f x))) r0 e λx t e=>⟨id,UM a b,λs2 vs _ _ r=>ao6 (P:=λvs=>CB prog w A E F s2 id d (.str x t::vs)) r e λy u e=>k x t y u s2 e⟩
theorem E8(ok:Ok A F s)(e:(if x.length<=eu/\(spaceWords x (x.length+1)).length<=eu then some (D.lst ((S3 x).map .str))else none)=some d):wpAny (model prog w) A (call (.builtin "str.split") [.str x t]) (gW F s d) E s:=by
 obtain⟨h,rfl⟩:=bx e;refine G4 NK (typeIs_str _ _ _) PySem.F.entry_str_split (PySem.F.args_str_split_1 _) (meets_str_split_space x t (aq h.1 ip) (aq h.2 ip)) ?_;cases hw:spaceWords x (x.length+1)==[(0,x.length)]
 ·simp only[kz,if_false]
  have hn:(numbered s.toks (avJ x)).map (·.1)=S3 x:=(numbered_texts _ _).trans (if_neg (ne_true_of_eq_false hw)).symm;rw[strsFrom_eq,<-hn,eU];exact⟨Keeps.ES _ _,nq ok.lo (p6 (numbered s.toks (avJ x)))⟩
 ·simp only[if_true]
  have hn:[x]=S3 x:=(if_pos hw).symm;rw[<-hn];exact⟨Keeps.ES _ _,nq ok.lo (p6 [(x,t)])⟩
theorem L6{d:D}(hl:IsL s.heap a jR.toArray n)(hr:aZ s.heap F l jR)(r:aZ s.heap F ds vs)(e:ixL l ds=some d):CB prog w A E F s "list.index" d (.ref a::vs):=by
 refine aic (P:=λvs=>CB prog w A E F s "list.index" d (.ref a::vs)) r e λk t e=>?_;obtain⟨ns,e1,e2⟩:=aO e;exact(bx e2).2▸H0 hl.isList (lG e1 hr) (bx e2).1.2 (bx e2).1.1 lq
theorem L8(e:aa5 (occurrences x y 0 x.length 1)=some d):wpAny (model prog w) A (call (.builtin "str.index") [.str x t,.str y u]) (gW F s d) E s:=by
 cases h:occurrences x y 0 x.length 1 with
 |nil=>rw[h]at e;exact no e
 |cons i r=>rw[h]at e;exact af e▸SC.index h lq
theorem H2(r:aZ s.heap F ds vs)(e:PA x ds=some d):CB prog w A E F s "str.join" d (.str x t::vs):=by
 refine d1E (P:=λvs=>CB prog w A E F s "str.join" d (.str x t::vs)) r e λy v r1 e=>aia (P:=λv=>CB prog w A E F s "str.join" d [.str x t,v]) r1 e λl a vs n hl hr e=>?_;obtain⟨ys,e1,e2⟩:=aO e;exact(bx e2).2▸join_list hl.isList (L0 e1 hr) (bx e2).1 λ_ _=>EW
theorem E9{d:D}(hl:IsL s.heap a jR.toArray n)(hr:aZ s.heap F l jR)(r:aZ s.heap F ds vs)(e:aa8 l ds=some d):CB prog w A E F s "list.count" d (.ref a::vs):=by
 refine aic (P:=λvs=>CB prog w A E F s "list.count" d (.ref a::vs)) r e λk t e=>?_;obtain⟨ns,e1,rfl⟩:=dH e;exact count_list_ints hl.isList (lG e1 hr) lq
theorem L9(r:aZ s.heap F ds vs)(e:aa7 x ds=some d):CB prog w A E F s "str.lower" d (.str x t::vs):=by
 obtain⟨h,e⟩:=yu r e;exact h▸(bx e).2▸SCL.lower (aq (bx e).1 (by decide)) λ_=>EW
theorem PB(r0:bW s.heap F o v)(e:pg m o ds=some d):MS prog w A E F s m d ds v:=by
 cases m with
 |index=>exact jY e (λe=>yv r0 e Ln PySem.F.type_list_index λl a jR n s2 vs hl hr r e=>L6 hl hr r e) λe=>rI (f:=λx y=>aa5 (occurrences x y 0 x.length 1)) r0 e PySem.F.slot_str_index PySem.F.type_str_index λx t y u s2 e=>L8 e
 |find=>exact rI (f:=X4) r0 e PySem.F.slot_str_find PySem.F.type_str_find λx t y u s2 e=>by exact af e▸SC.find lq
 |startswith=>exact rI (f:=swS) r0 e PySem.F.slot_str_startswith PySem.F.type_str_startswith λx t y u s2 e=>by exact af e▸SC.startswith XX
 |join=>exact oj (f:=PA) r0 e λx t e=>⟨_,UM PySem.F.slot_str_join PySem.F.type_str_join,λs2 vs _ _ r=>H2 r e⟩
 |split=>exact oj (f:=X5) r0 e λx t e=>⟨_,UM NK PySem.F.type_str_split,λs2 vs ok _ r=>(yu r e).1▸E8 ok (yu r e).2⟩
 |lower=>exact oj (f:=aa7) r0 e λx t e=>⟨_,UM PySem.F.slot_str_lower PySem.F.type_str_lower,λs2 vs _ _ r=>L9 r e⟩
 |count=>exact yv (f:=aa8) r0 e PySem.F.slot_list_count PySem.F.type_list_count λl a jR n s2 vs hl hr r e=>E9 hl hr r e
 |j0=>
  obtain⟨x,_,e⟩:=aO e;obtain⟨t,q⟩:=r0.i x;exact q▸⟨_,ao5,λs2 vs _ _ r=>(yu r e).1▸af (yu r e).2▸call_int_bit_length lq⟩
end
end
end Internal
namespace Internal
section
section
variable{prog:bb}{w:World}{A:aC}{E:Value->ah->Prop}{s:ah}{F:Addr->Prop}
abbrev TS(prog:bb)(w:World)(A:aC)(E:Value->ah->Prop)(s:ah)(b:Bool)(v:Value):Prop:=wpAny (model prog w) A (truthy v) (λc s'=>c=b/\Keeps s s') E s
theorem Ma(h:l.length<=eu)(r:RL s.heap F l v):TS prog w A E s (!l.isEmpty) v:=by
 obtain⟨a,vs,n,e,na,hl,hr⟩:=r;have q:vs.toArray.isEmpty=l.isEmpty:=by cases l with
  |nil=>obtain rfl:=hr.nk;rfl
  |cons x l=>obtain⟨v,r,rfl,_⟩:=hr.eS;rfl
 exact e▸wpAny_truthy_list hl.isList (by rw[aX,hr.length];exact Pr h) ⟨congrArg _ q,Keeps.Um _⟩
theorem mu(r:bW s.heap F d v)(e:nr d=some b):TS prog w A E s b v:=by
 refine jY e (λe=>?_) λe=>jY e (λe=>?_) λe=>?_
 ·obtain⟨x,_,e⟩:=dH e
  exact(r.b x)▸f7 ⟨e,Keeps.rfl'⟩
 ·obtain⟨x,_,e⟩:=dH e
  obtain⟨t,q⟩:=r.i x;exact q▸PyProof.Rows.truthy_int ⟨e,Keeps.rfl'⟩
 ·obtain⟨x,_,e⟩:=aO e
  exact(bx e).2▸Ma (bx e).1 (r.l x)
theorem H3(r:bW s.heap F a v)(e:ahU op a=some d):wpAny (model prog w) A (unaryOp op v) (gW F s d) E s:=by
 cases op with
 |Not=>
  obtain⟨b,e1,rfl⟩:=dH e;exact PyProof.Rows.not_of (ai (mu r e1) (λc s' h=>⟨h.2,h.1▸kB⟩) λ_ _ x=>x)
 |USub=>
  obtain⟨x,_,rfl⟩:=dH e;obtain⟨t,q⟩:=r.i x;exact q▸PyProof.Rows.neg_int lq
 |Invert=>
  obtain⟨x,_,rfl⟩:=dH e;obtain⟨t,q⟩:=r.i x;exact q▸PyProof.Rows.invert_int lq
 |UAdd=>exact no e
def SA(d:D)(n:Str):Option Bool:=(qI d).bind λ_=>if n="bool" then some false else if n="int" then some true else none
def Cz(n:Str):String:=if n="bool" then "bool" else "int"
theorem Mb(r:bW s.heap F d v)(e:SA d n=some b):
 wpAny (model prog w) A (call (.builtin "isinstance") [v,.type (Cz n)]) (gW F s (.bool b)) E s:=by
 obtain⟨x,_,e⟩:=aO e;obtain⟨t,q⟩:=r.i x;unfold Cz;by_cases hn:n="bool"
 ·rw[if_pos hn]at e⊢
  exact q▸PySem.IsiPair.int_bool (af e▸XX)
 ·rw[if_neg hn]at e⊢
  exact q▸PySem.IsiPair.int_int (s:=s) ((bx e).2▸⟨Keeps.rfl',kB⟩)
theorem PC{I:Addr}{P:Nat->Value->Prop}{St:Nat->Heap->Prop}{i j:Nat}{v:Value}{Q:Unit->ah->Prop}(no:yk I P St)(p:P i v)(st:St j s.heap)(h:Q () s):
 wpAny (model prog w) A (letOwnedTupleGo (.Tuple [] default default) (.ref I) v) Q E s:=by
 have k:wpAny (model prog w) A (pure ()) Q E s:=aL h;refine Value.casesOn (motive:=λv=>P i v->wpAny (model prog w) A (letOwnedTupleGo (.Tuple [] default default) (.ref I) v) Q E s) v (λ_=>k) (λ_=>k) (λ_=>k) (λ_ _=>k) (λ_ _ _=>k) (λ_ _ _=>k) (λ_ _ _=>k) (λ_ _ _=>k) (λ_ _=>k) (λ_ _=>k) (λa p=>?_) p;rcases no with no|no
 ·obtain⟨o,T,ho,hc,hT⟩:=no j _ st
  show wpAny _ A (load I >>= _) Q E s;refine ao (wpAny_load ho ?_);obtain⟨cls,dict,data,slots⟩:=o;have hc:cls=.type T:=hc;clear ho no p st h;subst hc;cases data with
  |fields vs=>
   show wpAny _ A (if(_&&_)=true then _ else _) Q E s;rw[hT,Bool.false_and];exact k
  |_=>exact k
 ·exact absurd rfl (no i _ p a)
theorem qx{I:Addr}{P:Nat->Value->Prop}{St:Nat->Heap->Prop}{i j:Nat}{v:Value}{target:ae}{Q:Unit->ah->Prop}(no:yk I P St)(p:P i v)(st:St j s.heap)(h:Q () s):
 wpAny (model prog w) A (letOwnedTupleGo target (.ref I) v) Q E s:=by
 have k:wpAny (model prog w) A (letOwnedTupleGo (.Tuple [] default default) (.ref I) v) Q E s:=PC no p st h;have k2:wpAny (model prog w) A (pure ()) Q E s:=aL h;exact eY (motive_1:=λtarget=>wpAny (model prog w) A (letOwnedTupleGo target (.ref I) v) Q E s) target (λ_ _ _=>k2) (λ_ _ _=>k2) (λ_ _ _ _=>k2) (λ_ _ _=>k2) (λ_ _ _ _=>k2) (λ_ _ _ _=>k2) (λ_ _ _=>k2) (λ_ _ _=>k2) (λ_ _ _ _=>k2) (λ_ _ _ _=>k2) (λ_ _ _ _ _=>k2) (λ_ _ _ _=>k2) (λ_ _=>k2) (λ_ _=>k2) (λ_ _=>k2) (λ_ _ _ _=>k2) (λ_ _ _ _=>k2) (λ_ _ _ _=>k2) (λ_ _=>k2) (λ_ _ _=>k2) (λ_ _ _=>k2) (λ_ _ _=>k2) (λ_ _=>k2) (λ_ _=>k2) (λ_ _=>k) (λ_ _ _=>k) (λ_ _ _ _=>k2)
theorem H4{ds:List D}{I:Addr}{fp:List Addr}{P:Nat->Value->Prop}{St:Nat->Heap->Prop}(W:Walks prog w A I fp [I] ds.length P St)(hI:s.heap.get? I=none)
(hP:∀i v h (F':Addr->Prop),P i v->Kept F s.heap h->(∀b,F' b->F b\/s.heap.get? b=none)->∀d,ds[i]? =some d->bW h F' d v):
 ∀(n i:Nat)(aU:ah)(Q:List Value->ah->Prop),i+n=ds.length->Keeps s aU->St i aU.heap->
  (∀vs eZ,Keeps s eZ->St ds.length eZ.heap->vs.length=n->(∀h,bV s.heap h->aZ h F (ds.drop i) vs)->Q vs eZ)->
  wpAny (model prog w) A (draw (.ref I) n) Q E aU:=λn=>by
 induction n with
 |zero=>
  intro i aU Q hi k st h;show wpAny _ _ (pure []) Q E aU;have hi':i=ds.length:=by omega
  refine aL (h [] aU k (hi'▸st) rfl λ_ _=>?_);rw[hi',DV];exact .nil
 |succ n ih=>
  intro i aU Q hi k st h;have mm:i<ds.length:=by omega
  show wpAny _ _ (pyNext (.ref I) >>= _) Q E aU;refine ao (W.item i _ _ _ mm st λv h' tk p Mc hk=>?_);obtain⟨ic,DZ,rfl,ka⟩:=k;have k2:Keeps s {s with heap:=h',toks:=tk}:=⟨h',tk,rfl,λb o e=>hk b o (λhm=>by rw[aY.mp hm,hI]at e;cases e) (ka b o e)⟩
  refine ao (bR (ih (i+1) _ _ (by omega) k2 Mc λvs eZ k3 xX hl hr=>aL ?_));refine h (v::vs) eZ k3 xX (by simp[hl]) λhh PE=>?_;rw[gA mm];exact .cons (hP i v hh F p (λb o _ e=>PE b o e) (λ_ q=>.inl q) _ (bC mm)) (hr hh PE)
theorem Md(e:LO d=some ds):items d=some ds:=by unfold items;rw[e];rfl
theorem PF(r:bW s.heap F d v)(e:LO d=some ds):∃T id,s.TypeIs v T/\Slot T "__iter__" id:=by
 refine jY e (λe=>?_) λe=>?_
 ·obtain⟨x,_,_⟩:=dH e
  obtain⟨a,vs,n,q,na,hl,hr⟩:=r.l x;exact⟨"list",_,q▸hl.isList.typeIs,slot_list_iter⟩
 ·obtain⟨x,_,_⟩:=dH e
  obtain⟨a,vs,n,q,na,hl,hr⟩:=r.t x;exact⟨"tuple",_,q▸⟨_,hl,rfl⟩,PySem.F.slot_tuple_iter⟩
theorem mv{d:D}{ds:List D}{v:Value}(hh:A.handled=none)(lo:iW F s.heap)(r:bW s.heap F d v)(e:LO d=some ds):
 wpAny (model prog w) A (unpackItems v ds.length none) (λvs s'=>Keeps s s'/\aZ s'.heap F ds vs) E s:=by
 have hi:=Md e;obtain⟨T,id,hT,slot⟩:=PF r e;refine gp λQ hQ=>?_;unfold unpackItems;refine ao ?_;unfold notIterableAtAll;refine ao (wpAny_specialOf hT slot.lookup (aL ?_));show wpAny _ A (holding [v] (pyIter v) >>= _) Q E s;refine ao (bR (ai (jZ hh lo r hi) (λit s' h=>?_) λ_ _ x=>x));cases h.2 with
 |mk I fp P St hx no W st hI hI2 fpF hP=>
 subst hx;refine ao (bR (H4 (F:=F) W hI hP ds.length 0 s' _ (jA _) h.1 st λvs eZ k2 NR hl hr=>?_));rw[if_neg (λz=>dS _ (hl▸z))];refine ao (bR (W.done _ _ _ NR λyt tk hk=>?_));obtain⟨ic,DZ,rfl,ka⟩:=k2;have kk:bV s.heap yt:=λb o e=>hk b o (λhm=>nG hI (aY.mp hm▸e)) (ka b o e);exact aL (hQ _ _ ⟨⟨yt,tk,rfl,kk⟩,hr yt kk⟩)
end
end
section
abbrev cy:=List (Str×D)
abbrev bY:=List (Str×g6)
def put(n:Str)(d:D):cy->cy
 |[]=>[(n,d)]
 |(x,e)::r=>if x=n then(x,d)::r else(x,e)::put n d r
def look:cy->Str->Option D
 |[],_=>none
 |(x,d)::r,n=>if x=n then(match d with|.J0=>none|d=>some d)else look r n
theorem iX:∀{σ:cy},look (put n d σ) n=some e->e=d:=by
 intro zx
 induction zx with
 |nil=>
  rintro h;unfold put look at h;rw[if_pos rfl]at h;split at h<;>cases h;rfl
 |cons zh r ih=>
  obtain⟨x,e'⟩:=zh;rintro h;unfold put at h;split at h
  ·rename_i hx
   unfold look at h;rw[if_pos hx]at h;split at h<;>cases h;rfl
  ·rename_i hx
   unfold look at h;rw[if_neg hx]at h;exact ih h
theorem cZ(hk:k≠n):∀{σ:cy},look (put n d σ) k=look σ k
 |[]=>by
  unfold put look;rw[if_neg (gm hk)];rfl
 |(x,e')::r=>by
  dsimp only[put];split
  ·rename_i hx
   subst hx;dsimp only[look];rw[if_neg (gm hk),if_neg (gm hk)]
  ·rename_i hx
   dsimp only[look];rw[cZ hk]
inductive Upd(X:Addr->Prop)(s s':ah):Prop
 |mk (h:Heap) (tk:Nat) (e:s'={s with heap:=h,toks:=tk}) (k:Kept X s.heap h)
theorem Upd.refl:Upd X s s:=⟨_,_,rfl,λ_ _ _ e=>e⟩
theorem Upd.of(k:Keeps s s'):Upd X s s':=by
 obtain⟨h,t,rfl,k⟩:=k;exact⟨h,t,rfl,λb o _ e=>k b o e⟩
theorem Upd.trans(k:Upd X s s')(k':Upd X s' LJ):Upd X s LJ:=by
 obtain⟨h,t,rfl,k⟩:=k;obtain⟨h',t',rfl,k'⟩:=k';exact⟨h',t',rfl,λb o n e=>k' b o n (k b o n e)⟩
theorem Upd.more(k:Upd X s s')(h:∀a,X a->Y a):Upd Y s s':=by
 obtain⟨h',t,rfl,k⟩:=k;exact⟨h',t,rfl,λb o n e=>k b o (λq=>n (h b q)) e⟩
theorem Upd.kept(k:Upd X s s')(h:∀a,X a->G a):Kept G s.heap s'.heap:=by
 obtain⟨h',t,rfl,k⟩:=k;exactλb o n e=>k b o (λq=>n (h b q)) e
theorem Upd.rep(k:Upd X s s')(h:∀a,X a->G a)(r:bW s.heap G d v):bW s'.heap G d v:=
 bW.kept (k.kept h) (λ_ q=>.inl q) d v r
theorem Upd.Fb(k:Upd X s s')(h:∀a,X a->G a)(r:aZ s.heap G d v):aZ s'.heap G d v:=
 aZ.kept (k.kept h) (λ_ q=>.inl q) d v r
theorem Upd.keeps(k:Upd X s s')(h:∀a,X a->az.heap.get? a=none)(k0:Keeps az s):Keeps az s':=by
 obtain⟨h',t,rfl,k⟩:=k;obtain⟨ic,DZ,rfl,k0⟩:=k0;exact⟨h',t,rfl,λb o e=>k b o (λq=>by rw[h b q]at e;cases e) (k0 b o e)⟩
def Cl(env:Env)(n:Str):Prop:=env.kindOf n=some .cell\/env.kindOf n=some .free
inductive ao7(h:Heap)(G:Addr->Prop)(m:Str->Option Value)(n:Str)(d:D):Prop
 |mk (v:Value) (e:m n=some v) (r:bW h G d v)
inductive ao8(env:Env)(h:Heap)(G:Addr->Prop)(n:Str)(d:D):Prop
 |mk (c:Addr) (v:Value) (e:env.cells.lookup n=some c) (i:h.IsCell c (some v)) (r:bW h G d v)
inductive abb(env:Env)(G:Addr->Prop)(σ:cy)(h:Heap):Prop
 |mk (m:Str->Option Value) (ns:h.Ns env.locals m) (f:∀n d,look σ n=some d->(env.kindOf n=some .local->ao7 h G m n d)/\(Cl env n->ao8 env h G n d))
structure In(env:Env)(G:Addr->Prop)(σ:cy)(h:Heap):Prop where
 fn:env.scope.kind=.function
 gl:env.globals=mainGlobals
 bi:env.builtins=builtinsNs
 lo:iW G h
 fl:G env.locals
 fc:∀n c,env.cells.lookup n=some c->G c/\c≠env.locals
 inj:∀n n' c,env.cells.lookup n=some c->env.cells.lookup n'=some c->n=n'
 ce:∀n,env.kindOf n=some .cell->∃c v,env.cells.lookup n=some c/\h.IsCell c v
 va:abb env G σ h
theorem In.keeps(x:In env G σ h)(k:bV h h'):In env G σ h':=by
 refine⟨x.fn,x.gl,x.bi,x.lo.keeps k,x.fl,x.fc,x.inj,λn hn=>?_,?_⟩
 ·obtain⟨c,v,h1,h2⟩:=x.ce n hn
  exact⟨c,v,h1,h2.keeps k⟩
 ·obtain⟨m,hm,hv⟩:=x.va
  refine⟨m,hm.keeps k,λn d e=>⟨λhk=>?_,λhk=>?_⟩⟩
  ·obtain⟨v,h1,h2⟩:=(hv n d e).1 hk
   exact⟨v,h1,h2.keeps k⟩
  ·obtain⟨c,v,h1,h2,h3⟩:=(hv n d e).2 hk
   exact⟨c,v,h1,h2.keeps k,h3.keeps k⟩
theorem In.sub(x:In env G σ h)(hs:∀n d,look σ' n=some d->look σ n=some d):In env G σ' h:=by
 refine⟨x.fn,x.gl,x.bi,x.lo,x.fl,x.fc,x.inj,x.ce,?_⟩;obtain⟨m,hm,hv⟩:=x.va;exact⟨m,hm,λn d e=>hv n d (hs n d e)⟩
theorem In.upd(x:In env G σ s.heap)(k:Upd X s s')(hX:∀a,X a->G a)(hlo:iW G s'.heap)(hl:¬X env.locals)(hc:∀n c,env.cells.lookup n=some c->¬X c):
 In env G σ s'.heap:=by
 have kp:Kept X s.heap s'.heap:=k.kept λ_ q=>q;refine⟨x.fn,x.gl,x.bi,hlo,x.fl,x.fc,x.inj,λn hn=>?_,?_⟩
 ·obtain⟨c,v,h1,o,h2,h3⟩:=x.ce n hn
  exact⟨c,v,h1,o,kp _ _ (hc n c h1) h2,h3⟩
 ·obtain⟨m,hm,hv⟩:=x.va
  refine⟨m,hm.at' λo e=>kp _ _ hl e,λn d e=>⟨λhk=>?_,λhk=>?_⟩⟩
  ·obtain⟨v,h1,h2⟩:=(hv n d e).1 hk
   exact⟨v,h1,k.rep hX h2⟩
  ·obtain⟨c,v,h1,⟨o,h2,X0⟩,h3⟩:=(hv n d e).2 hk
   exact⟨c,v,h1,⟨o,kp _ _ (hc n c h1) h2,X0⟩,k.rep hX h3⟩
section
variable{prog:bb}{w:World}{A:aC}{E:Value->ah->Prop}{s:ah}{env:Env}{G:Addr->Prop}{σ:cy}
theorem In.name(x:In env G σ s.heap)(hk:env.kindOf n=some .local\/Cl env n)(hl:look σ n=some d)(hd:(n==("__debug__":Str))=false)(Aq:env.kindOf n=some .free->(n==("__classdict__":Str))=false):
 wpAny (model prog w) A (eval (.Name n pos) env) (λv s'=>s'=s/\bW s.heap G d v) E s:=by
 obtain⟨m,hm,hv⟩:=x.va;rcases hk with hk|hk
 ·obtain⟨v,h1,h2⟩:=(hv n d hl).1 hk
  exact i9 (jO x.fn hk hm h1 ⟨rfl,h2⟩) hd
 ·obtain⟨c,v,h1,h2,h3⟩:=(hv n d hl).2 hk
  rcases hk with hk|hk
  ·exact i9 (pW x.fn hk h1 h2 ⟨rfl,h3⟩) hd
  ·exact i9 (DB x.fn hk h1 h2 ⟨rfl,h3⟩ (Aq hk)) hd
theorem In.load(x:In env G σ s.heap)(hk:env.kindOf n=some .local\/env.kindOf n=some .cell)(hl:look σ n=some d):
 wpAny (model prog w) A (loadName env n) (λv s'=>s'=s/\bW s.heap G d v) E s:=by
 obtain⟨m,hm,hv⟩:=x.va;rcases hk with hk|hk
 ·obtain⟨v,h1,h2⟩:=(hv n d hl).1 hk
  exact jO x.fn hk hm h1 ⟨rfl,h2⟩
 ·obtain⟨c,v,h1,h2,h3⟩:=(hv n d hl).2 (.inl hk)
  exact pW x.fn hk h1 h2 ⟨rfl,h3⟩
theorem iW.sameBut(lo:iW G h)(hs:sd a h h')(ha:(h'.get? a).isSome=true):iW G h':=λb q=>by
 by_cases hb:b=a
 ·subst hb;exact ha
 ·obtain⟨o,e⟩:=ay.mp (lo b q)
  rw[hs.extBut b o hb e];rfl
theorem In.store(x:In env G σ s.heap)(hk:env.kindOf n=some .local\/env.kindOf n=some .cell)(r:bW s.heap G d v):
 wpAny (model prog w) A (storeName env n v) (λ_ s'=>Upd (λa=>a=env.locals\/env.cells.lookup n=some a) s s'/\In env G (put n d σ) s'.heap) E s:=by
 obtain⟨m,hm,hv⟩:=x.va;rcases hk with hk|hk
 ·refine m8 hk hm (λh' PG om=>?_) (by rw[x.fn];rfl)
  have u:Upd (λa=>a=env.locals) s {s with heap:=h',toks:=s.toks+1}:=⟨h',_,rfl,λb o hb e=>om.extBut b o hb e⟩
  refine⟨u.more λa q=>.inl q,x.fn,x.gl,x.bi,?_,x.fl,x.fc,x.inj,λk mO=>?_,⟨_,PG,λk e he=>⟨λmO=>?_,λmO=>?_⟩⟩⟩
  ·obtain⟨o,_,_,ho,_⟩:=PG
   exact x.lo.sameBut om (by rw[ho];rfl)
  ·obtain⟨c,v',h1,h2⟩:=x.ce k mO
   exact⟨c,v',h1,h2.sameBut om (x.fc k c h1).2⟩
  ·by_cases j1:k=n
   ·subst j1
    have:=iX he;subst this;exact⟨v,by simp,u.rep (λa q=>q▸x.fl) r⟩
   ·rw[cZ j1]at he
    obtain⟨v',h1,h2⟩:=(hv k e he).1 mO;exact⟨v',by simpa [j1]using h1,u.rep (λa q=>q▸x.fl) h2⟩
  ·have j1:k≠n:=λq=>by subst q;rcases mO with mO|mO<;>(rw[hk]at mO;cases mO)
   rw[cZ j1]at he;obtain⟨c,v',h1,h2,h3⟩:=(hv k e he).2 mO;exact⟨c,v',h1,h2.sameBut om (x.fc k c h1).2,u.rep (λa q=>q▸x.fl) h3⟩
 ·obtain⟨c,ao9,hc,hc0⟩:=x.ce n hk
  refine ate x.fn hk hc hc0 λh' Mf om=>?_;have u:Upd (λa=>a=c) s {s with heap:=h'}:=⟨h',_,rfl,λb o hb e=>om.extBut b o hb e⟩
  have oo:=(x.fc n c hc).2;have hcG:=(x.fc n c hc).1;refine⟨u.more λa q=>.inr (q▸hc),x.fn,x.gl,x.bi,?_,x.fl,x.fc,x.inj,λk mO=>?_,⟨m,hm.sameBut om (gm oo),λk e he=>⟨λmO=>?_,λmO=>?_⟩⟩⟩
  ·obtain⟨o,ho,_⟩:=Mf
   exact x.lo.sameBut om (by rw[ho];rfl)
  ·by_cases j1:k=n
   ·subst j1;exact⟨c,_,hc,Mf⟩
   ·obtain⟨c',v',h1,h2⟩:=x.ce k mO
    exact⟨c',v',h1,h2.sameBut om λq=>j1 (x.inj k n c (q▸h1) hc)⟩
  ·have j1:k≠n:=λq=>by subst q;rw[hk]at mO;cases mO
   rw[cZ j1]at he;obtain⟨v',h1,h2⟩:=(hv k e he).1 mO;exact⟨v',h1,u.rep (λa q=>q▸hcG) h2⟩
  ·by_cases j1:k=n
   ·subst j1
    have:=iX he;subst this;exact⟨c,v,hc,Mf,u.rep (λa q=>q▸hcG) r⟩
   ·rw[cZ j1]at he
    obtain⟨c',v',h1,h2,h3⟩:=(hv k e he).2 mO;exact⟨c',v',h1,h2.sameBut om (λq=>j1 (x.inj k n c (q▸h1) hc)),u.rep (λa q=>q▸hcG) h3⟩
end
end
section
def yw(e:ae):Option Str:=(sf e).map λx=>x.1.1
theorem lQ(h:yw e=some n):∃p,e=.Name n p:=by
 obtain⟨x,_,rfl⟩:=dH h;exact⟨_,x.2⟩
def bindAll(ok:Str->Bool):List ae->List D->cy->Option cy
 |[],ds,σ=>match ds with
  |[]=>some σ
  |_::_=>none
 |e::es,ds,σ=>match ds with
  |[]=>none
  |d::ds=>(yw e).bind λn=>if ok n then bindAll ok es ds (put n d σ)else none
def aie(e:ae):Option (List ae):=(S8 e).map λx=>x.1.1
def Bz(ok:Str->Bool)(t:ae)(d:D)(σ:cy):Option cy:=
 match yw t with
 |some n=>if ok n then some (put n d σ)else none
 |none=>(aie t).bind λes=>(LO d).bind λds=>bindAll ok es ds σ
theorem Mg(h:aie e=some es):∃c p,e=.Tuple es c p:=by
 obtain⟨x,_,rfl⟩:=dH h;exact⟨_,_,x.2⟩
theorem CA(h:bindAll ok (e::es) ds σ=some σ'):∃n p d l,e=.Name n p/\ds=d::l/\ok n=true/\bindAll ok es l (put n d σ)=some σ':=by
 cases ds with
 |nil=>exact no h
 |cons d l=>
  obtain⟨n,h1,h2⟩:=aO h;exact⟨n,(lQ h1).choose,d,l,(lQ h1).choose_spec,rfl,dD h2⟩
theorem wx(h:bindAll ok [] ds σ=some σ'):ds=[]/\σ'=σ:=by
 cases ds with
 |nil=>exact⟨rfl,(af h).symm⟩
 |cons d l=>exact no h
theorem mw{ok:Str->Bool}{σ':cy}{P:List ae->List D->cy->Prop}(h0:P [] [] σ')(h1:∀n p d es ds σ,ok n=true->P es ds (put n d σ)->P (.Name n p::es) (d::ds) σ)(es:List ae):∀ds σ,bindAll ok es ds σ=some σ'->P es ds σ:=by
 induction es with
 |nil=>intro ds σ h;rw[(wx h).1,<-(wx h).2];exact h0
 |cons e es ih=>
  intro ds σ h;obtain⟨n,p,d,l,rfl,rfl,h3,h4⟩:=CA h;exact h1 n p d es l σ h3 (ih l _ h4)
theorem yx{ok:Str->Bool}{es:List ae}{ds:List D}{σ σ':cy}(h:bindAll ok es ds σ=some σ'):es.length=ds.length:=
 mw (P:=λes ds _=>es.length=ds.length) rfl (λ_ _ _ _ _ _ _ ih=>congrArg lC ih) es ds σ h
theorem yy{ok:Str->Bool}{env:Env}{es:List ae}{ds:List D}{σ σ':cy}(h:bindAll ok es ds σ=some σ'):(assignEach es env).findIdx? (·.1)=none/\(assignEach es env).length=es.length/\(assignEach es env).map (·.2)=es.map λe=>assign e env:=
 mw (P:=λes _ _=>(assignEach es env).findIdx? (·.1)=none/\(assignEach es env).length=es.length/\(assignEach es env).map (·.2)=es.map λe=>assign e env) ⟨rfl,rfl,rfl⟩
  (λn p _ es _ _ _ ih=>⟨by
    show List.findIdx? _ ((false,_)::assignEach es env)=none;rw[ae0,ih.1];rfl,congrArg lC ih.2.1,congrArg (assign (.Name n p) env::·) ih.2.2⟩) es ds σ h
section
variable{prog:bb}{w:World}{A:aC}{E:Value->ah->Prop}{env:Env}{G:Addr->Prop}
def WOk(env:Env)(ok:Str->Bool)(X:Addr->Prop):Prop:=
 X env.locals/\∀n,ok n=true->(env.kindOf n=some .local\/env.kindOf n=some .cell)/\∀c,env.cells.lookup n=some c->X c
theorem nv(wo:WOk env ok X)(x:In env G σ s.heap)(hn:ok n=true)(r:bW s.heap G d v):
 wpAny (model prog w) A (assign (.Name n pos) env v) (λ_ s'=>Upd X s s'/\In env G (put n d σ) s'.heap) E s:=
 g7 (ai (x.store (wo.2 n hn).1 r) (λ_ s' h=>⟨h.1.more λa q=>by
  rcases q with q|q
  ·exact q▸wo.1
  ·exact(wo.2 n hn).2 a q,h.2⟩) λ_ _ e=>e)
theorem Ar{X:Addr->Prop}{ok:Str->Bool}(wo:WOk env ok X)(hX:∀a,X a->G a)(es:List ae)(ds:List D)(vs:List Value)(σ σ':cy)(s:ah)(x:In env G σ s.heap)(r:aZ s.heap G ds vs)(h:bindAll ok es ds σ=some σ'):
 wpAny (model prog w) A (assignInOrder (es.map λe=>assign e env) vs) (λ_ s'=>Upd X s s'/\In env G σ' s'.heap) E s:=
 mw (P:=λes ds σ=>∀vs s,In env G σ s.heap->aZ s.heap G ds vs->wpAny (model prog w) A (assignInOrder (es.map λe=>assign e env) vs) (λ_ s'=>Upd X s s'/\In env G σ' s'.heap) E s)
  (λvs s x r=>by
    rw[r.nk];exact aL ⟨.refl,x⟩)
  (λn p d es ds σ hn ih vs s x r=>by
    obtain⟨v,vs,rfl,r1,r2⟩:=r.eS;exact ao (bR (ai (nv wo x hn r1) (λ_ aU ic=>
     ai (ih vs aU ic.2 (ic.1.Fb hX r2)) (λ_ eZ yt=>⟨ic.1.trans yt.1,yt.2⟩) λ_ _ e=>e) λ_ _ e=>e))) es ds σ h vs s x r
theorem Fc(hh:A.handled=none)(wo:WOk env ok X)(hX:∀a,X a->G a)(x:In env G σ s.heap)(r:bW s.heap G d v)(h:Bz ok t d σ=some σ'):
 wpAny (model prog w) A (assign t env v) (λ_ s'=>Upd X s s'/\In env G σ' s'.heap) E s:=by
 unfold Bz at h;cases e:yw t with
 |some n=>
  rw[e]at h;obtain⟨p,rfl⟩:=lQ e;obtain⟨hn,rfl⟩:=bx h;exact nv wo x hn r
 |none=>
  rw[e]at h;obtain⟨es,h0,q⟩:=aO h;obtain⟨c,p,rfl⟩:=Mg h0;obtain⟨ds,h1,h2⟩:=aO q;obtain⟨f1,f2,f3⟩:=yy (env:=env) h2;rw[arm_assign_Tuple];unfold unpack;rw[f1,f2,f3,yx h2];exact ao (dM (ao (bR (ai (mv hh x.lo r h1) (λvs aU ic=>
   ai (Ar wo hX es ds vs _ _ aU (x.keeps (Keeps.all ic.1)) ic.2 h2) (λ_ eZ yt=>⟨(Upd.of ic.1).trans yt.1,yt.2⟩) λ_ _ e=>e) λ_ _ e=>e))))
end
end
section
structure dz(A:aC)(La:Heap->Prop)(s:ah):Prop where
 hh:A.handled=none
 nb:i8 s.heap
 nl:s.heap.NoLimit
 gl:∃mg,s.heap.Ns mainGlobals mg
 tk:1<=s.toks
 un:A.units+200<cLine
 la:∀h,bV s.heap h->La h
theorem dz.keeps(o:dz A La s)(k:Keeps s s')(t:1<=s'.toks):dz A La s':=
 ⟨o.hh,NoneBooked.keeps o.nb (Keeps.all k),NoLimit.aa0 o.nl (Keeps.all k),by obtain⟨m,x⟩:=o.gl;exact⟨m,x.keeps (Keeps.all k)⟩,t,o.un,λh kh=>o.la h λb ob e=>kh b ob (Keeps.all k b ob e)⟩
theorem dz.ok(o:dz A La s)(lo:iW F s.heap):Ok A F s:=⟨o.hh,o.gl,o.tk,lo⟩
section
variable{prog:bb}{w:World}{A:aC}{E:Value->ah->Prop}
theorem bw(hn:1<=s.toks)(h:wpAny M A t Q E s):wpAny M A t (λa s'=>1<=s'.toks/\Q a s') E s:=
 ai (wpAny_toks_of hn h) (λ_ _ x=>x) λ_ _ x=>x.2
def UN(VB:cy->ae->Option Bool)(σ:cy):List ae->Option Bool
 |[]=>some true
 |c::cs=>(VB σ c).bind λb=>if b=true then UN VB σ cs else some false
theorem UO:∀(ifs:List ae)(s:ah)(Q:Bool->ah->Prop),Q false s->
 wpAny (model prog w) A (forIn ifs false λc r=>if r=true then do let ok<-isTrue c env (eval c env);pure (cg ok)else pure (cg r)) Q E s:=by
 intro zx
 induction zx with
 |nil=>
  rintro s Q h;exact aL h
 |cons c cs ih=>
  rintro s Q h;rw[iN];simp only[kz,if_false];exact ao (aL (ih s Q h))
theorem BA(hV:∀c b s,VB σ c=some b->Keeps az s->1<=s.toks->wpAny (model prog w) A (isTrue c env (eval c env)) (λb' s'=>b'=b/\Keeps s s') E s):
 ∀(ifs:List ae)(b:Bool)(s:ah),UN VB σ ifs=some b->Keeps az s->1<=s.toks->
 wpAny (model prog w) A (forIn ifs true λc r=>if r=true then do let ok<-isTrue c env (eval c env);pure (cg ok)else pure (cg r)) (λb' s'=>b'=b/\Keeps s s') E s:=λifs=>by
 induction ifs with
 |nil=>intro b s h _ _;cases h;exact aL ⟨rfl,Keeps.rfl'⟩
 |cons c cs ih=>
  intro b s h k t;unfold UN at h;obtain⟨b1,h1,h2⟩:=aO h;rw[iN];simp only[if_true];refine ao (ao (ai (bw t (hV c b1 s h1 k t)) (λb' s' h'=>aL ?_) λ_ _ e=>e));obtain⟨t',rfl,k'⟩:=h';cases b' with
  |true=>
   rw[if_pos rfl]at h2;exact ai (ih b s' h2 (Keeps.trans' k k') t') (λ_ _ q=>⟨q.1,Keeps.trans' k' q.2⟩) λ_ _ e=>e
  |false=>
   rw[if_neg (by decide)]at h2;cases h2;exact UO cs s' _ ⟨rfl,k'⟩
def gQ(f:D->Option (List D)):List D->Option (List D)
 |[]=>some []
 |d::ds=>(f d).bind λa=>(gQ f ds).bind λb=>some (a++b)
def lR(VB:cy->ae->Option Bool)(ok:Str->Bool)(target:ae)(ifs:List ae)(sx:cy->Option (List D))(σ:cy)(d:D):Option (List D):=
 (Bz ok target d σ).bind λxk=>(UN VB xk ifs).bind λb=>if b=true then sx xk else some []
theorem Fd(DJ:∀n,ok n=true->look J7 n=none)(h:bindAll ok es ds σ=some σ'):(∀m e,look J7 m=some e->look σ m=some e)->∀m e,look J7 m=some e->look σ' m=some e:=
 mw (P:=λ_ _ σ=>(∀m e,look J7 m=some e->look σ m=some e)->∀m e,look J7 m=some e->look σ' m=some e) id
  (λn _ _ _ _ _ hn ih k=>ih λm e he=>by
    rw[cZ λq=>no ((DJ _ hn).symm.trans (q▸he))];exact k m e he) es ds σ h
theorem Mh(DJ:∀n,ok n=true->look σ n=none)(h:Bz ok t d σ=some σ'):∀m e,look σ m=some e->look σ' m=some e:=by
 unfold Bz at h;cases e:yw t with
 |some n=>
  rw[e]at h;obtain⟨hn,rfl⟩:=bx h;intro m e he;rw[cZ λq=>no ((DJ _ hn).symm.trans (q▸he))];exact he
 |none=>
  rw[e]at h;obtain⟨es,h0,q⟩:=aO h;obtain⟨ds,h1,h2⟩:=aO q;exact Fd DJ h2 λ_ _ q=>q
inductive Acc(G:Addr->Prop)(h:Heap)(a:Addr)(ds:List D):Prop
 |mk (vs:Array Value) (n:Nat) (l:IsL h a vs n) (r:aZ h G ds vs.toList)
theorem Acc.cases(x:Acc G h a ds):∃vs n,IsL h a vs n/\aZ h G ds vs.toList:=by obtain⟨a,b,c,d⟩:=x;exact⟨a,b,c,d⟩
variable{G X:Addr->Prop}{cenv:Env}{La:Heap->Prop}{kZ:List D}
theorem BB(f:D->Option (List D))(d)(ds):gQ f (d::ds)=(f d).bind λa=>(gQ f ds).bind λb=>some (a++b):=rfl
theorem wy(f:D->Option (List D)):∀(a b:List D),gQ f (a++b)=(gQ f a).bind λx=>(gQ f b).bind λy=>some (x++y):=by
 intro zx
 induction zx with
 |nil=>
  rintro b;show gQ f b=(gQ f b).bind λy=>some ([]++y);cases gQ f b<;>rfl
 |cons d a ih=>
  rintro b;rw[cE,BB,BB,ih b];cases f d with
  |none=>rfl
  |some r=>
   cases gQ f a with
   |none=>rfl
   |some x=>
    cases gQ f b with
    |none=>rfl
    |some y=>simp
theorem H5(hi:i<ds.length)(h:gQ f ds=some out):
 ∃o1 r rest,gQ f (ds.take i)=some o1/\f ds[i]=some r/\out=o1++(r++rest)/\gQ f (ds.take (i+1))=some (o1++r):=by
 have e:ds=ds.take i++(ds[i]::ds.drop (i+1)):=by
  rw[<-gA hi,W6]
 rw[e,wy]at h;obtain⟨o1,h1,h2⟩:=aO h;obtain⟨y,h3,h4⟩:=aO h2;cases h4;unfold gQ at h3;obtain⟨r,h5,h6⟩:=aO h3;obtain⟨rest,h7,h8⟩:=aO h6;cases h8;refine⟨o1,r,rest,h1,h5,rfl,?_⟩;rw[List.take_add_one,bC hi,wy,h1];simp only[ag,Option.toList_some];dsimp only[gQ];rw[h5];simp[gQ]
theorem Acc.kept(x:Acc G h a ds)(k:Kept Y h h')(hY:∀b,Y b->G b)(ha:¬Y a):Acc G h' a ds:=by
 obtain⟨vs,n,h1,h2⟩:=x;exact⟨vs,n,k a _ ha h1,aZ.kept (λb o nb e=>k b o (λq=>nb (hY b q)) e) (λ_ q=>.inl q) _ _ h2⟩
theorem Acc.keeps(x:Acc G h a ds)(k:bV h h'):Acc G h' a ds:=by
 obtain⟨vs,n,h1,h2⟩:=x;exact⟨vs,n,k a _ h1,h2.keeps k⟩
theorem iW.upd(lo:iW G h)(k:Kept Y h h')(hY:∀b,Y b->(h'.get? b).isSome=true):iW G h':=λb q=>by
 by_cases hb:Y b
 ·exact hY b hb
 ·obtain⟨o,e⟩:=ay.mp (lo b q)
  rw[k b o hb e];rfl
theorem In.less(x:In env G σ h)(h1:∀a,G' a->G a)(h2:∀a,(G a/\(a=env.locals\/∃n,env.cells.lookup n=some a))->G' a):In env G' σ h:=by
 refine⟨x.fn,x.gl,x.bi,λb q=>x.lo b (h1 b q),h2 _ ⟨x.fl,.inl rfl⟩,λn c e=>⟨h2 _ ⟨(x.fc n c e).1,.inr ⟨n,e⟩⟩,(x.fc n c e).2⟩,x.inj,x.ce,?_⟩;obtain⟨m,hm,hv⟩:=x.va;refine⟨m,hm,λn d e=>⟨λhk=>?_,λhk=>?_⟩⟩
 ·obtain⟨v,q1,q2⟩:=(hv n d e).1 hk
  exact⟨v,q1,q2.less λb q=>.inl (h1 b q)⟩
 ·obtain⟨c,v,q1,q2,q3⟩:=(hv n d e).2 hk
  exact⟨c,v,q1,q2,q3.less λb q=>.inl (h1 b q)⟩
theorem qy{I:Addr}{fp:List Addr}{n i:Nat}{P:Nat->Value->Prop}{St:Nat->Heap->Prop}(W:Walks prog w A I fp [I] n P St)(hi:i<n){s:ah}(t:1<=s.toks)(st:St i s.heap){Q:Option Value->ah->Prop}
(h:∀v s',1<=s'.toks->Upd (λa=>a=I) s s'->P i v->St (i+1) s'.heap->Q (some v) s'):wpAny (model prog w) A (pyNext (.ref I)) Q E s:=
 ai (bw t (Q:=λr s'=>1<=s'.toks->Q r s') (W.item i s _ E hi st λv _ _ p Mc hk t=>h v _ t ⟨_,_,rfl,λb o nb e=>hk b o (λhm=>nb (aY.mp hm)) e⟩ p Mc)) (λ_ _ q=>q.2 q.1) λ_ _ e=>e
theorem qz{I:Addr}{fp:List Addr}{n:Nat}{P:Nat->Value->Prop}{St:Nat->Heap->Prop}(W:Walks prog w A I fp [I] n P St){s:ah}(t:1<=s.toks)(st:St n s.heap){Q:Option Value->ah->Prop}
(h:∀s',1<=s'.toks->Upd (λa=>a=I) s s'->Q none s'):wpAny (model prog w) A (pyNext (.ref I)) Q E s:=
 ai (bw t (Q:=λr s'=>1<=s'.toks->Q r s') (W.done s _ E st λ_ _ hk t=>h _ t ⟨_,_,rfl,λb o nb e=>hk b o (λhm=>nb (aY.mp hm)) e⟩)) (λ_ _ q=>q.2 q.1) λ_ _ e=>e
theorem Fe(J:Nat->ah->Prop)
(turn:∀n s,J n s->∀(Q:DC->ah->Prop)(E:Value->ah->Prop),(∀s',R (.ok .next) s'->Q (.done .next) s')->(∀m s',m<n->J m s'->Q (.again (.compLoop (.ListComp elt gens scope pos) k (.ref I) (.ref acc) cenv)) s')->
   wpAny (model prog w) A (compTurn (.ListComp elt gens scope pos) k (.ref I) (.ref acc) cenv) Q E s)
(n)(h:J n s):codeAny (model prog w) A (.compLoop (.ListComp elt gens scope pos) k (.ref I) (.ref acc) cenv) R s:=
 codeAny_loop rfl J (λn s hJ=>show wpAny _ A ((compTurn (.ListComp elt gens scope pos) k (.ref I) (.ref acc) cenv).onRaise (λx=>do noteFrame x cenv;theTreesLotGoes x)) _ _ s from
  wpAny_noted (turn n s hJ _ _ (λ_ q=>q) λm _ hm hJ=>⟨rfl,m,hm,hJ⟩)) n h
theorem In.shrink(x:In env G σ s.heap)(u:Upd (λa=>a=C) s s')(hC:G C)(hl:C≠env.locals)(hc:∀n,env.cells.lookup n≠some C):In env (λa=>G a/\a≠C) σ s'.heap:=by
 have kp:Kept (λa=>a=C) s.heap s'.heap:=u.kept λ_ q=>q;refine⟨x.fn,x.gl,x.bi,λb q=>kdS kp q.2 (x.lo b q.1),⟨x.fl,λz=>hl z.symm⟩,λn c e=>⟨⟨(x.fc n c e).1,λz=>hc n (z▸e)⟩,(x.fc n c e).2⟩,x.inj,λn hn=>?_,?_⟩
 ·obtain⟨c,v,q1,o,q2,q3⟩:=x.ce n hn
  exact⟨c,v,q1,o,kp c o (λz=>hc n (z▸q1)) q2,q3⟩
 ·obtain⟨m,hm,hv⟩:=x.va
  refine⟨m,hm.at' λo e=>kp _ o (λz=>hl z.symm) e,λn d e=>⟨λmO=>?_,λmO=>?_⟩⟩
  ·obtain⟨v,q1,q2⟩:=(hv n d e).1 mO
   exact⟨v,q1,(u.rep (G:=G) (λa q=>q▸hC) q2).less λb q=>.inl q.1⟩
  ·obtain⟨c,v,q1,⟨o,q2,q3⟩,q4⟩:=(hv n d e).2 mO
   exact⟨c,v,q1,⟨o,kp c o (λz=>hc n (z▸q1)) q2,q3⟩,(u.rep (G:=G) (λa q=>q▸hC) q4).less λb q=>.inl q.1⟩
theorem Acc.less(x:Acc G h a ds)(hG:∀b,G' b->G b):Acc G' h a ds:=
 by obtain⟨vs,n,h1,h2⟩:=x;exact⟨vs,n,h1,h2.less λb q=>.inl (hG b q)⟩
inductive CI(f:D->Option (List D))(ds:List D)(X:Addr->Prop)(I:Addr)(G:Addr->Prop)(cenv:Env)(σ:cy)(St:Nat->Heap->Prop)(acc:Addr)(kZ:List D)(s:ah)(n:Nat)(s':ah):Prop
 |mk (i:Nat) (o1:List D) (hi:i<=ds.length) (hn:n=ds.length+1 - i) (h1:gQ f (ds.take i)=some o1) (u:Upd (λa=>X a\/a=I) s s') (x:In cenv G σ s'.heap) (t:1<=s'.toks) (st:St i s'.heap) (ac:Acc G s'.heap acc (kZ++o1))
theorem CC{elt:ae}{gens:List d7}{scope:Scope}{pos:Pos}{k:Nat}{target:ae}{ifs:List ae}{abf:Pos}{acc:Addr}{I:Addr}{Ff:Sem DC}{VB:cy->ae->Option Bool}{ok:Str->Bool}{sx:cy->Option (List D)}{σ:cy}{az:ah}
{fp:List Addr}{P:Nat->Value->Prop}{St:Nat->Heap->Prop}{ds:List D}{R:G6->ah->Prop}{Xw:Addr->Prop}{s:ah}
(PH:compTurn (.ListComp elt gens scope pos) k (.ref I) (.ref acc) cenv=(do
   standAt abf
   match<-pyNext (.ref I)with
   |none=>pure (.done .next)
   |some v=>
    letOwnedTupleGo target (.ref I) v
    assign target cenv v
    let mut ok:=true
    for c in ifs do
     if ok then ok<-isTrue c cenv (eval c cenv)
    if ok then Ff else again (.compLoop (.ListComp elt gens scope pos) k (.ref I) (.ref acc) cenv)))
(am:dz A La az)(wo:WOk cenv ok Xw)(hwX:∀a,Xw a->X a)(hwa:¬Xw acc)(H6:∀a,X a->G a)(hIG:G I)(hIX:¬X I)(hX0:∀a,X a->az.heap.get? a=none)(SE:az.heap.get? I=none)(haX:X acc)
(hIl:I≠cenv.locals)(hIc:∀n,cenv.cells.lookup n≠some I)(DJ:∀n,ok n=true->look σ n=none)
(no:yk I P St)(W:Walks prog w A I fp [I] ds.length P St)(yl:∀i h,St i h->(h.get? I).isSome=true)(Cu:∀b∈fp,b=I\/¬X b)
(hP:∀i v h,P i v->Kept (λa=>X a\/a=I) s.heap h->∀d,ds[i]? =some d->bW h G d v)
(hVB:∀E xk c b s,In cenv G xk s.heap->Keeps az s->1<=s.toks->VB xk c=some b->wpAny (model prog w) A (isTrue c cenv (eval c cenv)) (λb' s'=>b'=b/\Keeps s s') E s)
(hem:∀E (Q:DC->ah->Prop) xk s xs ys,In cenv G xk s.heap->Keeps az s->1<=s.toks->Acc G s.heap acc xs->sx xk=some ys->xs.length+ys.length<=eu->(∀n d,look σ n=some d->look xk n=some d)->
   (∀s',1<=s'.toks->Upd X s s'->In cenv G xk s'.heap->Acc G s'.heap acc (xs++ys)->Q (.again (.compLoop (.ListComp elt gens scope pos) k (.ref I) (.ref acc) cenv)) s')->wpAny (model prog w) A Ff Q E s)
(hR:∀s' xs,Upd (λa=>X a\/a=I) s s'->1<=s'.toks->In cenv (λa=>G a/\a≠I) σ s'.heap->Acc (λa=>G a/\a≠I) s'.heap acc (kZ++xs)->gQ (lR VB ok target ifs sx σ) ds=some xs->R (.ok .next) s')
{out:List D}(yz:gQ (lR VB ok target ifs sx σ) ds=some out)(hlen:kZ.length+out.length<=eu)
(k0:Upd (λa=>X a\/a=I) az s)(x:In cenv G σ s.heap)(tk:1<=s.toks)(st:St 0 s.heap)(ac:Acc G s.heap acc kZ):
 codeAny (model prog w) A (.compLoop (.ListComp elt gens scope pos) k (.ref I) (.ref acc) cenv) R s:=by
 have apc:∀a,(X a\/a=I)->az.heap.get? a=none:=λa q=>q.elim (hX0 a) λz=>z▸SE;have hIa:acc≠I:=λq=>hIX (q▸haX);have hfX:∀(b:Addr),b∈fp->¬X b:=λb hb=>(Cu b hb).elim (λz=>z▸hIX) id;refine Fe (CI (lR VB ok target ifs sx σ) ds X I G cenv σ St acc kZ s) (λn s1 hI Q E' hN hJ=>?_) (ds.length+1) ⟨0,[],dk _,rfl,rfl,.refl,x,tk,st,(c9 kZ).symm▸ac⟩;cases hI with
 |mk i o1 hi hn ho1 k1 x1 t1 X6 ac1=>
 rw[PH];refine ao (dM (ao ?_));rcases pL hi with mm|PJ
 ·refine qy W mm t1 X6 λv s2 t2 u1 p Mc=>?_
  obtain⟨o1',r,rest,h1,h2,h3,h4⟩:=H5 mm yz;cases ho1.symm.trans h1;obtain⟨xk,h5,h6⟩:=aO h2;obtain⟨b,h7,h8⟩:=aO h6;have x2:In cenv G σ s2.heap:=x1.upd u1 (λa q=>q▸hIG) (iW.upd x1.lo (u1.kept λ_ q=>q) λb q=>q▸yl _ _ Mc) (λq=>hIl q.symm) (λn c e q=>hIc n (q▸e));have k2:=k1.trans (u1.more λa q=>Or.inr (a:=X a) q);have kk2:=(k0.trans k2).keeps apc Keeps.rfl';have rep:=hP i v s2.heap p (k2.kept λ_ q=>q) _ (bC mm);refine ao (qx no p Mc (ao (ai (bw t2 (Fc am.hh wo (λa q=>H6 a (hwX a q)) x2 rep h5)) (λ_ s3 SF=>?_) λ_ _ e=>e)));have kk3:=SF.2.1.keeps (λa q=>hX0 a (hwX a q)) kk2;have xX:St (i+1) s3.heap:=W.frame _ _ _ Mc λb hb o e=>SF.2.1.kept (G:=Xw) (λ_ q=>q) b o (λz=>hfX b hb (hwX _ z)) e;have ac3:=(ac1.kept (u1.kept λ_ q=>q) (λb q=>q▸hIG) hIa).kept (SF.2.1.kept λ_ q=>q) (λb q=>H6 b (hwX b q)) hwa;refine ao (ai (bw SF.1 (BA (az:=s3) (λc b s hv k t=>hVB _ xk c b s (SF.2.2.keeps (Keeps.all k)) (Keeps.trans' kk3 k) t hv) ifs b s3 h7 Keeps.rfl' SF.1)) (λok4 s4 X7=>?_) λ_ _ e=>e);have abg:=Mh DJ h5;have x4:=SF.2.2.keeps (Keeps.all X7.2.2);have Eh:St (i+1) s4.heap:=W.frame _ _ _ xX λb _ o e=>Keeps.all X7.2.2 b o e;have ac4:=ac3.keeps (Keeps.all X7.2.2);have u4:=(k2.trans (SF.2.1.more λa q=>Or.inl (b:=a=I) (hwX a q))).trans (Upd.of X7.2.2);have hmn:ds.length+1 - (i+1)<n:=hn▸Ab (qP mm) (d6 i);rw[<-X7.2.1]at h8;cases ok4 with
  |true=>
   have hl1:(kZ++o1).length+r.length<=eu:=by
    rw[h3]at hlen;simp only[aG]at hlen⊢;omega
   exact hem _ _ xk s4 _ r x4 (Keeps.trans' kk3 X7.2.2) X7.1 ac4 h8 hl1 abg λs5 t5 u5 x5 ac5=>hJ _ s5 hmn ⟨i+1,o1++r,mm,rfl,h4,u4.trans (u5.more λa q=>.inl q),x5.sub abg,t5,
    W.frame _ _ _ Eh λb hb o e=>u5.kept (G:=X) (λ_ q=>q) b o (hfX b hb) e,(eT kZ o1 r)▸ac5⟩
  |false=>
   rw[<-af h8]at h4;exact aL (hJ _ s4 hmn ⟨i+1,o1++[],mm,rfl,h4,u4,x4.sub abg,X7.1,Eh,(c9 o1).symm▸ac4⟩)
 ·refine qz W t1 (PJ▸X6) λs2 t2 u1=>aL (hN _ (hR _ o1 (k1.trans (u1.more λa q=>.inr q)) t2 (x1.shrink u1 hIG hIl hIc) ((ac1.kept (u1.kept λ_ q=>q) (λb q=>q▸hIG) hIa).less λ_ q=>q.1) ?_))
  rw[PJ,rz]at ho1;exact ho1
end
end
section
def gJ(env:Env):List (Str×g6)->List (Str×Addr)->List (Str×Addr)
 |[],acc=>acc
 |(n,k)::r,acc=>if k==.free then gJ env r ((n,(env.cells.lookup n).getD 0)::acc)else gJ env r acc
theorem J8:∀(names:List (Str×g6))(acc:List (Str×Addr)),(∀n,(n,bN)∈names->(env.cells.lookup n).isSome=true)->
 (forIn names acc (λ(x:Str×g6) cs=>if(x.2==bN)=true then do
   let c<-cellOf env x.1
   pure (cg ((x.1,c)::cs))else pure (cg cs)):Sem (List (Str×Addr)))=pure (gJ env names acc):=by
 intro zx
 induction zx with
 |nil=>
  rintro acc _;exact rfl
 |cons zh r ih=>
  obtain⟨n,k⟩:=zh;rintro acc h;rw[iN];dsimp only;dsimp only[gJ];have hr:∀n,(n,bN)∈r->(env.cells.lookup n).isSome=true:=λn hn=>h n (aD _ hn);split
  ·rename_i hk
   have jU:k=.free:=by simpa using hk
   obtain⟨c,hc⟩:=ay.mp (h n (by rw[jU];exact aA));unfold cellOf;rw[hc];exact ih _ hr
  ·exact ih _ hr
theorem PK:∀(names:List (Str×g6))(acc:List (Str×Addr))(n:Str)(c:Addr),(∀n,(n,bN)∈names->(env.cells.lookup n).isSome=true)->(n,c)∈gJ env names acc->(n,c)∈acc\/((n,bN)∈names/\env.cells.lookup n=some c):=by
 intro zx
 induction zx with
 |nil=>
  rintro acc n c _ h;exact .inl h
 |cons zh r ih=>
  obtain⟨x,k⟩:=zh;rintro acc n c hs h;unfold gJ at h;have hr:∀n,(n,bN)∈r->(env.cells.lookup n).isSome=true:=λn hn=>hs n (aD _ hn);split at h
  ·rename_i hk
   have jU:k=.free:=by simpa using hk
   rcases ih _ n c hr h with q|q
   ·rcases aJ.mp q with q|q
    ·obtain⟨c',hc⟩:=ay.mp (hs x (by rw[jU];exact aA))
     rw[hc]at q;cases q;exact .inr ⟨by rw[jU];exact aA,hc⟩
    ·exact .inl q
   ·exact .inr ⟨aD _ q.1,q.2⟩
  ·rcases ih _ n c hr h with q|q
   ·exact .inl q
   ·exact .inr ⟨aD _ q.1,q.2⟩
theorem PN:∀(names:List (Str×g6))(acc:List (Str×Addr))(n:Str),((n,bN)∈names\/∃c,(n,c)∈acc)->∃c,(n,c)∈gJ env names acc:=λnames=>by
 induction names with
 |nil=>exactλacc n h=>h.resolve_left λh=>nomatch h
 |cons zh r ih=>
  obtain⟨x,k⟩:=zh;intro acc n h;dsimp only[gJ];split
  ·rename_i hk
   have jU:k=.free:=by simpa using hk
   apply ih;rcases h with h|⟨c,h⟩
   ·rcases aJ.mp h with h|h
    ·cases h;exact .inr ⟨_,aA⟩
    ·exact .inl h
   ·exact .inr ⟨c,aD _ h⟩
  ·rename_i hk
   apply ih;rcases h with h|h
   ·rcases aJ.mp h with h|h
    ·cases h;exact absurd rfl hk
    ·exact .inl h
   ·exact .inr h
theorem mem_lookup:∀{l:List (Str×α)}{n:Str}{k:α},(l.map (·.1)).Nodup->(n,k)∈l->l.lookup n=some k:=λ{l}=>by
 induction l with
 |nil=>exactλ_ h=>nomatch h
 |cons zh r ih=>
  obtain⟨x,j⟩:=zh;intro n k hd h;rw[bJ,fP]at hd;rcases aJ.mp h with h'|h'
  ·cases h'
   rw[eF];simp
  ·have:n≠x:=λq=>hd.1 (fY.mpr ⟨_,h',q⟩)
   rw[eF,show(n==x)=false from by simpa using this];exact ih hd.2 h'
theorem oq:∀{l:List (Str×α)}{n:Str}{c:α},(n,c)∈l->∃c',l.lookup n=some c':=λ{l}=>by
 induction l with
 |nil=>exactλh=>nomatch h
 |cons zh r ih=>
  obtain⟨x,j⟩:=zh;intro n k h;rw[eF];cases hb:n==x with
  |true=>exact⟨_,rfl⟩
  |false=>
   rcases aJ.mp h with h|h
   ·cases h;simp at hb
   ·exact ih h
theorem Au:∀(names:List (Str×g6))(n:Nat)(a b:List (Str×Addr)),cellsFrom n names (a++b)=cellsFrom n names a++b:=by
 intro zx
 induction zx with
 |nil=>
  rintro _ _ _;exact rfl
 |cons zh r ih=>
  obtain⟨x,k⟩:=zh;rintro n a b;dsimp only[cellsFrom];split
  ·rw[<-cE,ih]
  ·exact ih n a b
theorem gU:∀(names:List (Str×g6))(n:Nat)(a:List (Str×Addr))(x:Str)(c:Addr),(x,c)∈cellsFrom n names a->(x,c)∈a\/(x,pz)∈names:=by
 intro zx
 induction zx with
 |nil=>
  rintro _ _ _ _ h;exact .inl h
 |cons zh r ih=>
  obtain⟨y,k⟩:=zh;rintro n a x c h;unfold cellsFrom at h;split at h
  ·rename_i hk
   have jU:k=.cell:=by simpa using hk
   rcases ih _ _ x c h with q|q
   ·rcases aJ.mp q with q|q
    ·cases q;exact .inr (by rw[jU];exact aA)
    ·exact .inl q
   ·exact .inr (aD _ q)
  ·rcases ih _ _ x c h with q|q
   ·exact .inl q
   ·exact .inr (aD _ q)
theorem mP:∀(names:List (Str×g6))(n:Nat)(a:List (Str×Addr))(x:Str),((x,pz)∈names\/∃c,(x,c)∈a)->∃c,(x,c)∈cellsFrom n names a:=λnames=>by
 induction names with
 |nil=>exactλ_ _ _ h=>h.resolve_left λh=>nomatch h
 |cons zh r ih=>
  obtain⟨y,k⟩:=zh;intro n a x h;dsimp only[cellsFrom];split
  ·rename_i hk
   apply ih;rcases h with h|⟨c,h⟩
   ·rcases aJ.mp h with h|h
    ·cases h;exact .inr ⟨_,aA⟩
    ·exact .inl h
   ·exact .inr ⟨c,aD _ h⟩
  ·rename_i hk
   apply ih;rcases h with h|h
   ·rcases aJ.mp h with h|h
    ·cases h;exact absurd rfl hk
    ·exact .inl h
   ·exact .inr h
def eh(scope:Scope):bY:=scope.names.map λp=>(p.1,if p.2==.free then .cell else p.2)
def lr(σ:cy):List (Str×g6)->cy
 |[]=>[]
 |(n,k)::r=>if k==.free then(n,(look σ n).getD .J0)::lr σ r else lr σ r
theorem Mi:∀{names:List (Str×g6)}{n:Str}{d:D},look (lr σ names) n=some d->(n,bN)∈names/\look σ n=some d:=λ{names}=>by
 induction names with
 |nil=>intro n d h;cases h
 |cons a r ih=>
  intro n d h;obtain⟨x,k⟩:=a;unfold lr at h;split at h
  ·rename_i hk
   have jU:k=.free:=by simpa using hk
   unfold look at h;split at h
   ·rename_i hx
    subst hx;refine⟨by rw[jU];exact aA,?_⟩;cases hl:look σ x with
    |none=>rw[hl]at h;cases h
    |some e=>
     rw[hl,Cb]at h;split at h<;>cases h;rfl
   ·exact⟨aD _ (ih h).1,(ih h).2⟩
  ·exact⟨aD _ (ih h).1,(ih h).2⟩
def mQ(ks:bY)(σ:cy):List (Str×g6)->Bool
 |[]=>true
 |(n,k)::r=>(if k==.free then(ks.lookup n==some .cell)&&(look σ n).isSome else true)&&mQ ks σ r
theorem H7:∀{names:List (Str×g6)},mQ ks σ names=true->∀n,(n,bN)∈names->ks.lookup n=some .cell/\∃d,look σ n=some d:=λ{names}=>by
 induction names with
 |nil=>exactλ_ _ h=>nomatch h
 |cons zh r ih=>
  obtain⟨x,k⟩:=zh;intro h n hm;unfold mQ at h;rw[av]at h;rcases aJ.mp hm with hm|hm
  ·cases hm
   have h1:=h.1;rw[if_pos (by rfl),av]at h1;exact⟨by simpa using h1.1,ay.mp h1.2⟩
  ·exact ih h.2 n hm
theorem Av(hf:env.scope.kind=.function)(h:∀n,(n,bN)∈scope.names->env.kindOf n=some .cell):(relabel scope env).names=eh scope:=by
 unfold relabel eh;dsimp only;apply aeb;rintro⟨n,k⟩ hm;dsimp only;by_cases hk:k=.free
 ·subst hk
  rw[h n hm,hf];rfl
 ·have:(k==bN)=false:=by simpa using hk
  rw[this];simp
theorem Aw(hd:(scope.names.map (·.1)).Nodup)(h:(eh scope).lookup n=some k):∃j,(n,j)∈scope.names/\k=if j==.free then .cell else j:=by
 have:=mem_of_lookup h;unfold eh at this;obtain⟨⟨x,j⟩,h1,h2⟩:=Lv this;cases h2;exact⟨j,h1,rfl⟩
theorem yA(hd:(scope.names.map (·.1)).Nodup)(h:(n,j)∈scope.names):(eh scope).lookup n=some (if j==.free then .cell else j):=by
 refine mem_lookup ?_ (fY.mpr ⟨_,h,rfl⟩);rw[eh,eU];exact hd
section
variable{prog:bb}{w:World}{A:aC}{E:Value->ah->Prop}{G:Addr->Prop}{env:Env}{La:Heap->Prop}
theorem wz
(h:Q {scope:=scope,locals:=s.heap.objs.size,globals:=env.globals,cells:=cellsFrom (s.heap.objs.size+1) scope.names cl,qual:=q,func:=none,code:=env.code,frame:=env.frame,builtins:=env.builtins}
   {s with heap:=pushCells (s.heap.push {cls:=.type "dict",data:=.dict #[]}) scope.names}):
 wpAny (model prog w) A (newFunctionEnv scope env.globals cl [] q none .none (some env)) Q E s:=by
 simp only[newFunctionEnv,Option.isSome_some,if_true];refine ao (wpAny_alloc ?_);refine ao (wpAny_layCells _ (λname kind cells=>by cases hkc:kind==pz<;>simp[hkc]) _ _ _ _ ?_);rw[show({s with heap:=s.heap.push {cls:=.type "dict",data:=.dict #[]}}:ah).heap.objs.size=s.heap.objs.size+1 from ia ..];rw[pv];exact ao (aL (aL h))
end
end
section
section
variable{prog:bb}{w:World}{A:aC}{E:Value->ah->Prop}{G:Addr->Prop}{env:Env}{La:Heap->Prop}
abbrev j2(scope:Scope)(env:Env)(C:Addr):List (Str×Addr):=cellsFrom (C+1) scope.names (gJ env scope.names [])
abbrev fH(scope:Scope)(h:Heap):Heap:=pushCells (h.push {cls:=.type "dict",data:=.dict #[]}) scope.names
abbrev ot(scope:Scope)(env:Env)(C:Addr):Env:=compEnvC scope (j2 scope env C) C env
theorem H8(hd:(scope.names.map (·.1)).Nodup)(hf:∀n,(n,bN)∈scope.names->(env.cells.lookup n).isSome=true)
(mm:∀n c,(n,bN)∈scope.names->env.cells.lookup n=some c->c<h.objs.size)(ape:∀n n' c,env.cells.lookup n=some c->env.cells.lookup n'=some c->n=n'):
 (∀n c,(j2 scope env h.objs.size).lookup n=some c->((n,pz)∈scope.names/\(fH scope h).IsCell c none/\h.objs.size+1<=c)\/((n,bN)∈scope.names/\env.cells.lookup n=some c))/\
 (∀n,(n,pz)∈scope.names->∃c,(j2 scope env h.objs.size).lookup n=some c)/\
 (∀n c,(n,bN)∈scope.names->env.cells.lookup n=some c->(j2 scope env h.objs.size).lookup n=some c)/\
 (∀n n' c,(j2 scope env h.objs.size).lookup n=some c->(j2 scope env h.objs.size).lookup n'=some c->n=n'):=by
 have ok0:=cellsFrom_ok scope.names (h.push {cls:=.type "dict",data:=.dict #[]}) (h.objs.size+1) [] ⟨λ_ _ hm=>(nomatch hm),Lo⟩ (by rw[ia];exact cf _);rw[ia]at ok0;have e1:∀n,(j2 scope env h.objs.size).lookup n=((cellsFrom (h.objs.size+1) scope.names []).lookup n).or ((gJ env scope.names []).lookup n):=λn=>by
  show(cellsFrom (h.objs.size+1) scope.names ([]++gJ env scope.names [])).lookup n=_;rw[Au,List.lookup_append]
 have e2:∀n,(n,bN)∈scope.names->(cellsFrom (h.objs.size+1) scope.names []).lookup n=none:=λn hn=>by
  cases hl:(cellsFrom (h.objs.size+1) scope.names []).lookup n with
  |none=>rfl
  |some c=>
   rcases gU _ _ _ _ _ (mem_of_lookup hl)with q|q
   ·cases q
   ·have a:=mem_lookup hd hn
    have b:=mem_lookup hd q;rw[a]at b;cases b
 have e3:∀n c,(gJ env scope.names []).lookup n=some c->(n,bN)∈scope.names/\env.cells.lookup n=some c:=λn c hl=>by
  rcases PK _ _ _ _ hf (mem_of_lookup hl)with q|q
  ·cases q
  ·exact q
 refine⟨λn c hl=>?_,λn hn=>?_,λn c hn hc=>?_,λn n' c hl pS=>?_⟩
 ·rw[e1]at hl
  cases ho:(cellsFrom (h.objs.size+1) scope.names []).lookup n with
  |some c'=>
   rw[ho,Hm]at hl;cases hl;refine .inl ⟨?_,ok0.empty n c (mem_of_lookup ho)⟩;rcases gU _ _ _ _ _ (mem_of_lookup ho)with q|q
   ·cases q
   ·exact q
  |none=>
   rw[ho,n9]at hl;exact .inr (e3 n c hl)
 ·obtain⟨c,hm⟩:=mP scope.names (h.objs.size+1) [] n (.inl hn)
  obtain⟨c',hl⟩:=oq hm;exact⟨c',by rw[e1,hl,Hm]⟩
 ·obtain⟨c',hm⟩:=PN (env:=env) scope.names [] n (.inl hn)
  obtain⟨c'',hl⟩:=oq hm;rw[e1,e2 n hn,n9,hl];have:=(e3 n c'' hl).2;rw[hc]at this;exact this.symm
 ·rw[e1]at hl pS
  have key:∀m,((cellsFrom (h.objs.size+1) scope.names []).lookup m).or ((gJ env scope.names []).lookup m)=some c->((m,c)∈cellsFrom (h.objs.size+1) scope.names []/\h.objs.size+1<=c)\/(env.cells.lookup m=some c/\c<h.objs.size):=λm q=>by
   cases ho:(cellsFrom (h.objs.size+1) scope.names []).lookup m with
   |some c'=>rw[ho,Hm]at q;cases q;exact .inl ⟨mem_of_lookup ho,(ok0.empty m c (mem_of_lookup ho)).2⟩
   |none=>
    rw[ho,n9]at q;exact .inr ⟨(e3 m c q).2,mm m c (e3 m c q).1 (e3 m c q).2⟩
  rcases key n hl with q|q<;>rcases key n' pS with q'|q'
  ·exact name_of_addr ok0.apart q.1 q'.1
  ·exact absurd (cw q'.2 (DD q.2)) (dS _)
  ·exact absurd (cw q.2 (DD q'.2)) (dS _)
  ·exact ape n n' c q.1 q'.1
def Mj(scope:Scope)(n:Str):Bool:=match scope.names.lookup n with|some .local=>true|some .cell=>true|_=>false
theorem sy(x:In env G σ aU.heap)(hk:scope.kind=.function)(hd:(scope.names.map (·.1)).Nodup)(hf:mQ env.scope.names σ scope.names=true)(k:Keeps aU fx):
 (relabel scope env).names=eh scope/\
 closureFor scope env=pure (gJ env scope.names [])/\
 In (ot scope env fx.heap.objs.size) (λa=>G a\/(aU.heap.get? a=none/\((fH scope fx.heap).get? a).isSome=true)) (lr σ scope.names) (fH scope fx.heap)/\
 WOk (ot scope env fx.heap.objs.size) (Mj scope) (λa=>fx.heap.objs.size<=a/\((fH scope fx.heap).get? a).isSome=true)/\
 (∀n c,(ot scope env fx.heap.objs.size).cells.lookup n=some c->fx.heap.objs.size+1<=c\/(aU.heap.get? c).isSome=true):=by
 have ph:=H7 hf;have p7:∀n,(n,bN)∈scope.names->∃c v d,env.cells.lookup n=some c/\aU.heap.IsCell c (some v)/\look σ n=some d/\bW aU.heap G d v:=λn hn=>by
  obtain⟨h1,d,h2⟩:=ph n hn;obtain⟨m,hm,hv⟩:=x.va;obtain⟨c,v,q1,q2,q3⟩:=(hv n d h2).2 (.inl h1);exact⟨c,v,d,q1,q2,h2,q3⟩
 have X8:∀n,(n,bN)∈scope.names->(env.cells.lookup n).isSome=true:=λn hn=>by
  obtain⟨c,v,d,q1,_⟩:=p7 n hn;rw[q1];rfl
 have X3:bV aU.heap fx.heap:=Keeps.all k;have mm:∀n c,(n,bN)∈scope.names->env.cells.lookup n=some c->c<fx.heap.objs.size:=λn c hn hc=>by
  obtain⟨c',v,d,q1,⟨o,q2,_⟩,_⟩:=p7 n hn;rw[hc]at q1;cases(q1);exact cY (X3 c o q2)
 obtain⟨c1,c2,c3,c4⟩:=H8 (env:=env) (scope:=scope) (h:=fx.heap) hd X8 mm x.inj;have Fg:=Av x.fn λn hn=>(ph n hn).1;have hold:∀b o,fx.heap.get? b=some o->(fH scope fx.heap).get? b=some o:=λb o e=>pM _ _ b o (aV _ e);have hC:(fH scope fx.heap).get? fx.heap.objs.size=some {cls:=.type "dict",data:=.dict #[]}:=pM _ _ _ _ (gN _ _ rfl);have aik:∀a,fx.heap.objs.size<=a->aU.heap.get? a=none:=λa ha=>by
  cases e:aU.heap.get? a with
  |none=>rfl
  |some o=>exact absurd (cY (X3 a o e)) (pN.mpr ha)
 have hG:∀b,(G b\/(aU.heap.get? b=none/\((fH scope fx.heap).get? b).isSome=true))->G b\/aU.heap.get? b=none:=λb q=>q.imp id aec;have mx:∀n j,(ot scope env fx.heap.objs.size).kindOf n=some j->∃i,(n,i)∈scope.names/\j=if i==.free then .cell else i:=λn j h=>by
  have h':(relabel scope env).names.lookup n=some j:=h;rw[Fg]at h';exact Aw hd h'
 have abj:closureFor scope env=pure (gJ env scope.names []):=by
  have:=J8 (env:=env) scope.names [] X8;simp only[closureFor];rw[this];rfl
 refine⟨Fg,abj,⟨hk,x.gl,x.bi,?_,.inr ⟨aik _ (cf _),congrArg pU hC⟩,λn c e=>?_,c4,λn hn=>?_,?_⟩,⟨⟨cf _,congrArg pU hC⟩,λn hn=>?_⟩,λn c e=>?_⟩
 ·rintro b (q|q)
  ·exact(x.lo.keeps X3).keeps hold b q
  ·exact q.2
 ·rcases c1 n c e with⟨_,⟨o,q1,_⟩,q2⟩|⟨q1,q2⟩
  ·exact⟨.inr ⟨aik _ (by omega),by rw[q1];rfl⟩,Nat.ne_of_gt q2⟩
  ·exact⟨.inl (x.fc n c q2).1,eA (mm n c q1 q2)⟩
 ·obtain⟨i,h1,h2⟩:=mx n _ hn
  by_cases hi:i=.free
  ·subst hi
   obtain⟨c,v,d,q1,q2,_⟩:=p7 n h1;exact⟨c,_,c3 n c h1 q1,(q2.keeps X3).keeps hold⟩
  ·have:(i==bN)=false:=by simpa using hi
   rw[this]at h2;simp only[kz,if_false]at h2;subst h2;obtain⟨c,hc⟩:=c2 n h1;rcases c1 n c hc with⟨_,q1,_⟩|⟨q1,_⟩
   ·exact⟨c,_,hc,q1⟩
   ·have a:=mem_lookup hd h1
    have b:=mem_lookup hd q1;rw[a]at b;cases b
 ·refine⟨_,(Heap.Ns.new fx.heap (.type "dict")).keeps (pM _ _),λn d e=>?_⟩
  obtain⟨h1,h2⟩:=Mi e;obtain⟨c,v,d',q1,q2,q3,q4⟩:=p7 n h1;rw[h2]at q3;cases q3;refine⟨λmO=>?_,λ_=>⟨c,v,c3 n c h1 q1,(q2.keeps X3).keeps hold,bW.kept (F:=G) (λb o _ e=>hold b o (X3 b o e)) hG _ _ q4⟩⟩;have h':(relabel scope env).names.lookup n=some .local:=mO;rw[Fg,yA hd h1]at h';cases h'
 ·unfold Mj at hn
  have key:∀j,scope.names.lookup n=some j->j≠.free->(ot scope env fx.heap.objs.size).kindOf n=some j:=λj h hj=>by
   show(relabel scope env).names.lookup n=some j;rw[Fg,yA hd (mem_of_lookup h)];have:(j==bN)=false:=by simpa using hj
   rw[this];rfl
  have fin:∀j,scope.names.lookup n=some j->j≠.free->∀c,(ot scope env fx.heap.objs.size).cells.lookup n=some c->fx.heap.objs.size<=c/\((fH scope fx.heap).get? c).isSome=true:=λj h hj c hc=>by
   rcases c1 n c hc with⟨_,⟨o,q1,_⟩,q2⟩|⟨q1,_⟩
   ·exact⟨by omega,by rw[q1];rfl⟩
   ·have a:=mem_lookup hd (mem_of_lookup h)
    have b:=mem_lookup hd q1;rw[a]at b;cases b;exact absurd rfl hj
  split at hn
  ·rename_i h
   exact⟨.inl (key _ h (by decide)),fin _ h (by decide)⟩
  ·rename_i h
   exact⟨.inr (key _ h (by decide)),fin _ h (by decide)⟩
  ·cases hn
 ·rcases c1 n c e with⟨_,_,q2⟩|⟨q1,q2⟩
  ·exact .inl q2
  ·obtain⟨c',v,d,r1,⟨o,r2,_⟩,_⟩:=p7 n q1
   rw[q2]at r1;cases r1;exact .inr (by rw[r2];rfl)
end
end
section
theorem Ax(elt t1 i1)(f1)(t2 i2)(f2)(scope)(pos)(it acc)(env):
 compTurn (.ListComp elt [⟨t1,i1,f1,0⟩,⟨t2,i2,f2,0⟩] scope pos) 0 it acc env=(do
  standAt i1.pos
  match<-pyNext it with
  |none=>pure (.done .next)
  |some v=>
   letOwnedTupleGo t1 it v
   assign t1 env v
   let mut ok:=true
   for c in f1 do
    if ok then ok<-isTrue c env (eval c env)
   if ok then
    (do
      let x<-eval i2 env
      standAt i2.pos
      let x<-foldedSetIterable i2 env x;let it'<-holding [x] (pyIter x);let _<-runOwn (.compStart (.ListComp elt [⟨t1,i1,f1,0⟩,⟨t2,i2,f2,0⟩] scope pos) 1 it' acc env) env
      again (.compLoop (.ListComp elt [⟨t1,i1,f1,0⟩,⟨t2,i2,f2,0⟩] scope pos) 0 it acc env))
   else again (.compLoop (.ListComp elt [⟨t1,i1,f1,0⟩,⟨t2,i2,f2,0⟩] scope pos) 0 it acc env)):=by rfl
theorem sz(elt t1 i1)(f1)(scope)(pos)(it acc)(env):
 compTurn (.ListComp elt [⟨t1,i1,f1,0⟩] scope pos) 0 it acc env=(do
  standAt i1.pos
  match<-pyNext it with
  |none=>pure (.done .next)
  |some v=>
   letOwnedTupleGo t1 it v
   assign t1 env v
   let mut ok:=true
   for c in f1 do
    if ok then ok<-isTrue c env (eval c env)
   if ok then(do
       let _<-(do let _<-call (.builtin "list.append") [acc,<-eval elt env])
       again (.compLoop (.ListComp elt [⟨t1,i1,f1,0⟩] scope pos) 0 it acc env))
   else again (.compLoop (.ListComp elt [⟨t1,i1,f1,0⟩] scope pos) 0 it acc env)):=by rfl
theorem Ay(elt t1 i1)(f1)(t2 i2)(f2)(scope)(pos)(it acc)(env):
 compTurn (.ListComp elt [⟨t1,i1,f1,0⟩,⟨t2,i2,f2,0⟩] scope pos) 1 it acc env=(do
  standAt i2.pos
  match<-pyNext it with
  |none=>pure (.done .next)
  |some v=>
   letOwnedTupleGo t2 it v
   assign t2 env v
   let mut ok:=true
   for c in f2 do
    if ok then ok<-isTrue c env (eval c env)
   if ok then(do
       let _<-(do let _<-call (.builtin "list.append") [acc,<-eval elt env])
       again (.compLoop (.ListComp elt [⟨t1,i1,f1,0⟩,⟨t2,i2,f2,0⟩] scope pos) 1 it acc env))
   else again (.compLoop (.ListComp elt [⟨t1,i1,f1,0⟩,⟨t2,i2,f2,0⟩] scope pos) 1 it acc env)):=by rfl
section
variable{prog:bb}{w:World}{A:aC}{E:Value->ah->Prop}{s:ah}{R:G6->ah->Prop}
theorem yB{scope pos it acc env}
(h0:codeAny (model prog w) A (.compLoop (.ListComp elt [⟨t1,i1,f1,0⟩,⟨t2,i2,f2,0⟩] scope pos) 1 it acc env) R s)
(h:wpAny (model prog w) A (pyIter it) (λit' s'=>codeAny (model prog w) A (.compLoop (.ListComp elt [⟨t1,i1,f1,0⟩,⟨t2,i2,f2,0⟩] scope pos) 1 it' acc env) R s')
   (notedBy (model prog w) A env λx s'=>R (.error x) s') s):
 codeAny (model prog w) A (.compStart (.ListComp elt [⟨t1,i1,f1,0⟩,⟨t2,i2,f2,0⟩] scope pos) 1 it acc env) R s:=by
 refine codeAny_of_tree ?_;show wpAny _ _ ((compStart (.ListComp elt [⟨t1,i1,f1,0⟩,⟨t2,i2,f2,0⟩] scope pos) 1 it acc env).onRaise (λx=>do noteFrame x env;standAt theWindowsPlace)) _ _ s;refine wpAny_notedAt ?_;unfold compStart;show wpAny _ _ (ask >>= _) _ _ s;refine ao (wpAny_askSetting (aeZ ?_));split
 ·first
   |exact ao (aL (aL (S4 rfl h0)))
   |exact aL (S4 rfl h0)
 ·first
   |exact ao (jN (ao (dM (ao (ai h (λit' s' h'=>aL (S4 rfl h')) λ_ _ x=>x)))))
   |(refine ao (jN ?_);show wpAny _ _ (standAt i2.pos >>= _) _ _ s;exact ao (dM (ao (ai h (λit' s' h'=>aL (S4 rfl h')) λ_ _ x=>x))))
variable{G X:Addr->Prop}{cenv:Env}{La:Heap->Prop}
theorem Fh(x:In cenv G xk s.heap)(haX:X acc)(haG:G acc)(hal:acc≠cenv.locals)(hac:∀n,cenv.cells.lookup n≠some acc)(ac:Acc G s.heap acc xs)
(hl:xs.length+1<=eu)(h:wpAny (model prog w) A (eval elt cenv) (gW G s d) E s):
 wpAny (model prog w) A (do let _<-call (.builtin "list.append") [.ref acc,<-eval elt cenv]) (λ_ s'=>Upd X s s'/\In cenv G xk s'.heap/\Acc G s'.heap acc (xs++[d])) E s:=by
 refine ao (ai h (λv s1 h1=>?_) λ_ _ e=>e);obtain⟨k,r⟩:=h1;obtain⟨vs,n,q1,q2⟩:=ac.keeps (Keeps.all k);have f9:eu=1048576:=rfl;have hsz:vs.size<=sizeLine:=by
  have h1:=q2.length;have h2:=ip;rw[cu]at h1;exact aq (by rw[h1];omega) h2
 refine ao (lL (hsz:=hsz) ⟨n,q1⟩ λh' hp hs=>aL ?_);have u:Upd (λa=>a=acc) s1 {s1 with heap:=h'}:=⟨h',_,rfl,λb o hb e=>hs.extBut b o hb e⟩
 obtain⟨n',hp⟩:=hp;refine⟨(Upd.of k).trans (u.more λa q=>q▸haX),?_,?_⟩
 ·refine(x.keeps (Keeps.all k)).upd u (λa q=>q▸haG) ?_ (λq=>hal q.symm) (λn c e q=>hac n (q▸e))
  exact iW.upd (x.lo.keeps (Keeps.all k)) (u.kept (G:=λa=>a=acc) λ_ q=>q) λb q=>by subst q;rw[hp];rfl
 ·refine⟨vs.push v,n',hp,?_⟩
  rw[A6];exact(u.Fb (λa q=>q▸haG) q2).append (.one (u.rep (λa q=>q▸haG) r))
end
end
section
structure Ev where
 d:bY->cy->ae->Option D
 b:bY->cy->ae->Option Bool
def jd(e:ae):Bool:= !(bM e.ctorIdx 7)
def qY(scope:Scope)(σ:cy)(n:Str):Bool:=Mj scope n&&(look σ n).isNone
def yC:List Str->Bool
 |[]=>true
 |x::xs=> !(xs.contains x)&&yC xs
theorem wA:∀{l:List Str},yC l=true->l.Nodup:=by
 intro zx
 induction zx with
 |nil=>
  rintro _;exact avG
 |cons x xs ih=>
  rintro h;unfold yC at h;simp only[av,cW]at h;refine fP.mpr ⟨?_,ih h.2⟩;simpa using h.1
def Fi(V:Ev)(scope:Scope)(elt:ae)(σ:cy):Option (List D):=(V.d (eh scope) σ elt).map λd=>[d]
def PO(V:Ev)(scope:Scope)(elt t2 i2:ae)(f2:List ae)(σ:cy):Option (List D):=
 (V.d (eh scope) σ i2).bind λd=>(items d).bind λds=>gQ (lR (V.b (eh scope)) (qY scope σ) t2 f2 (Fi V scope elt) σ) ds
def jo(V:Ev)(scope:Scope)(elt:ae):List d7->Option (ae×ae×List ae×(cy->Option (List D)))
 |[]=>none
 |g::r=>match r with
  |[]=>if g.is_async=0/\jd g.iter=true then some (g.target,g.iter,g.ifs,Fi V scope elt)else none
  |h::r=>match r with
   |[]=>if(g.is_async=0/\jd g.iter=true)/\h.is_async=0/\jd h.iter=true then some (g.target,g.iter,g.ifs,PO V scope elt h.target h.iter h.ifs)else none
   |_::_=>none
theorem lu(h:jo V scope elt gens=some c):
 ∃i gs,gens=⟨c.1,i,c.2.2.1,0⟩::gs/\c.2.1=i/\jd i=true/\((gs=[]/\c.2.2.2=Fi V scope elt)\/∃t2 i2 f2,gs=[⟨t2,i2,f2,0⟩]/\jd i2=true/\c.2.2.2=PO V scope elt t2 i2 f2):=by
 cases gens with
 |nil=>exact no h
 |cons g r=>
  obtain⟨t,i,f,a⟩:=g;cases r with
  |nil=>
   obtain⟨⟨rfl,q2⟩,rfl⟩:=bx h;exact⟨_,_,rfl,rfl,q2,.inl ⟨rfl,rfl⟩⟩
  |cons k r=>
   obtain⟨t2,i2,f2,a2⟩:=k;cases r with
   |cons _ _=>exact no h
   |nil=>
    obtain⟨⟨⟨rfl,q2⟩,rfl,q4⟩,rfl⟩:=bx h;exact⟨_,_,rfl,rfl,q2,.inr ⟨_,_,_,rfl,q4,rfl⟩⟩
def yD(V:Ev)(ks:bY)(σ:cy)(elt:ae)(gens:List d7)(scope:Scope):Option (List D):=
 if(scope.kind=.function/\yC (scope.names.map (·.1))=true)/\mQ ks σ scope.names=true then
  (jo V scope elt gens).bind λc=>(V.d ks σ c.2.1).bind λd=>(items d).bind λds=>
    (gQ (lR (V.b (eh scope)) (qY scope (lr σ scope.names)) c.1 c.2.2.1 c.2.2.2 (lr σ scope.names)) ds).bind λout=>if out.length<=eu then some out else none
 else none
section
variable{prog:bb}{w:World}{A:aC}{E:Value->ah->Prop}{G:Addr->Prop}{env:Env}{La:Heap->Prop}
structure de(prog:bb)(w:World)(La:Heap->Prop)(Bu:aC->Prop)(V:Ev):Prop where
 d:∀(A:aC)(E:Value->ah->Prop) env G σ s e d,Bu A->dz A La s->In env G σ s.heap->V.d env.scope.names σ e=some d->wpAny (model prog w) A (eval e env) (gW G s d) E s
 b:∀(A:aC)(E:Value->ah->Prop) env G σ s e b,Bu A->dz A La s->In env G σ s.heap->V.b env.scope.names σ e=some b->wpAny (model prog w) A (isTrue e env (eval e env)) (λb' s'=>b'=b/\Keeps s s') E s
theorem jq(h:jd e=true)(env)(x):foldedSetIterable e env x=pure x:=by
 have k:∀b:Bool,b=true->(pure x:Sem Value)=pure x:=λ_ _=>rfl;exact eY (motive_1:=λe=>jd e=true->foldedSetIterable e env x=pure x) e (λ_ _ _=>k _) (λ_ _ _=>k _) (λ_ _ _ _=>k _) (λ_ _ _=>k _) (λ_ _ _ _=>k _) (λ_ _ _ _=>k _) (λ_ _ _=>k _) (λ_ _ _ h=>l8 h) (λ_ _ _ _=>k _) (λ_ _ _ _=>k _) (λ_ _ _ _ _=>k _) (λ_ _ _ _=>k _) (λ_ _=>k _) (λ_ _=>k _) (λ_ _=>k _) (λ_ _ _ _=>k _) (λ_ _ _ _=>k _) (λ_ _ _ _=>k _) (λ_ _=>k _) (λ_ _ _=>k _) (λ_ _ _=>k _) (λ_ _ _=>k _) (λ_ _=>k _) (λ_ _=>k _) (λ_ _=>k _) (λ_ _ _=>k _) (λ_ _ _ _=>k _) h
theorem Mk:∀n,qY scope σ n=true->look σ n=none:=λn h=>by
 unfold qY at h;rw[av]at h;simpa using h.2
theorem In.Fj{σ:cy}{h h':Heap}{Y:Addr->Prop}(x:In env G σ h)(k:bV h h')(hI:∀a,Y a->h.get? a=none)(hI':∀a,Y a->(h'.get? a).isSome=true):In env (λa=>G a\/Y a) σ h':=by
 have hG:∀b,(G b\/Y b)->G b\/h.get? b=none:=λb q=>Or.imp id (hI b) q;refine⟨x.fn,x.gl,x.bi,λb q=>q.elim (λq=>x.lo.keeps k b q) (hI' b),.inl x.fl,λn c e=>⟨.inl (x.fc n c e).1,(x.fc n c e).2⟩,x.inj,λn hn=>?_,?_⟩
 ·obtain⟨c,v,h1,h2⟩:=x.ce n hn
  exact⟨c,v,h1,h2.keeps k⟩
 ·obtain⟨m,hm,hv⟩:=x.va
  refine⟨m,hm.keeps k,λn d e=>⟨λhk=>?_,λhk=>?_⟩⟩
  ·obtain⟨v,h1,h2⟩:=(hv n d e).1 hk
   exact⟨v,h1,bW.kept (F:=G) (λb o _ e=>k b o e) hG _ _ h2⟩
  ·obtain⟨c,v,h1,h2,h3⟩:=(hv n d e).2 hk
   exact⟨c,v,h1,h2.keeps k,bW.kept (F:=G) (λb o _ e=>k b o e) hG _ _ h3⟩
theorem Upd.abl(u:Upd (λa=>X a\/a=I) aU s')(k:Keeps s aU)(hI:s.heap.get? I=none):Upd X s s':=by
 obtain⟨h1,t1,rfl,ka⟩:=k;obtain⟨h2,t2,rfl,kb⟩:=u;exact⟨h2,t2,rfl,λb o nb e=>kb b o (λz=>z.elim nb λz=>nG hI (z▸e)) (ka b o e)⟩
theorem Acc.grow(x:Acc G h a ds)(k:bV h h')(hG:∀b,G' b->G b\/h.get? b=none):Acc G' h' a ds:=
 by obtain⟨vs,n,r1,r2⟩:=x;exact⟨vs,n,k _ _ r1,aZ.kept (F:=G) (λb o _ e=>k b o e) hG _ _ r2⟩
structure LC(A:aC)(La:Heap->Prop)(scope:Scope)(cenv:Env)(X Xw:Addr->Prop)(acc:Addr)(aU:ah):Prop where
 am:dz A La aU
 wo:WOk cenv (Mj scope) Xw
 hw:∀a,Xw a->X a
 wa:¬Xw acc
 h0:∀a,X a->aU.heap.get? a=none
 ha:X acc
 ac:∀n,cenv.cells.lookup n≠some acc
 nm:cenv.scope.names=eh scope
theorem PQ(h:qY scope σ n=true):Mj scope n=true:=((av _ _).mp h).1
section
variable{V:Ev}{Bu:aC->Prop}{scope:Scope}{cenv:Env}{X Xw:Addr->Prop}{acc:Addr}{aU s:ah}{elt:ae}{gens:List d7}{pos:Pos}{σ:cy}{ds out kZ:List D}
theorem CD(VO:de prog w La Bu V)(bu:Bu A)(c:LC A La scope cenv X Xw acc aU){k:Nat}{target:ae}{ifs:List ae}{abf:Pos}{Ff:Value->Sem DC}{sx:cy->Option (List D)}{Gn:Addr->Prop}{sa sb:ah}{it:Value}{R:G6->ah->Prop}
(PH:∀it,compTurn (.ListComp elt gens scope pos) k it (.ref acc) cenv=(do
   standAt abf
   match<-pyNext it with
   |none=>pure (.done .next)
   |some v=>
    letOwnedTupleGo target it v
    assign target cenv v
    let mut ok:=true
    for c in ifs do
     if ok then ok<-isTrue c cenv (eval c cenv)
    if ok then Ff it else again (.compLoop (.ListComp elt gens scope pos) k it (.ref acc) cenv)))
(hit:It prog w A G ds sa sb it)(k1:Keeps aU sa)(kab:Keeps sa sb)(kb:Keeps sb s)
(hX:∀b,X b->(G b\/sa.heap.get? b=none)/\Gn b/\(sa.heap.get? b=none->sb.heap.get? b=none))(hG:∀b,Gn b->G b\/sa.heap.get? b=none)(hI:∀b,sa.heap.get? b=none->(sb.heap.get? b).isSome=true->Gn b)(hc:∀n a,cenv.cells.lookup n=some a->X a\/(sa.heap.get? a).isSome=true)
(hem:∀it E (Q:DC->ah->Prop) xk s xs ys,In cenv Gn xk s.heap->Keeps aU s->1<=s.toks->Acc Gn s.heap acc xs->sx xk=some ys->xs.length+ys.length<=eu->(∀n d,look σ n=some d->look xk n=some d)->
   (∀s',1<=s'.toks->Upd X s s'->In cenv Gn xk s'.heap->Acc Gn s'.heap acc (xs++ys)->Q (.again (.compLoop (.ListComp elt gens scope pos) k it (.ref acc) cenv)) s')->wpAny (model prog w) A (Ff it) Q E s)
(hR:∀I s',sa.heap.get? I=none->Upd (λa=>X a\/a=I) s s'->1<=s'.toks->In cenv (λa=>Gn a/\a≠I) σ s'.heap->Acc (λa=>Gn a/\a≠I) s'.heap acc (kZ++out)->R (.ok .next) s')
(yz:gQ (lR (V.b (eh scope)) (qY scope σ) target ifs sx σ) ds=some out)(hlen:kZ.length+out.length<=eu)(x:In cenv Gn σ s.heap)(tk:1<=s.toks)(ac:Acc Gn s.heap acc kZ):
 codeAny (model prog w) A (.compLoop (.ListComp elt gens scope pos) k it (.ref acc) cenv) R s/\∀(Q:Value->ah->Prop)(E:Value->ah->Prop),Q it s->wpAny (model prog w) A (pyIter it) Q E s:=by
 cases hit with
 |mk I fp P St hx no W st SE yl Cu hP=>
 subst hx;have hIb:=yl _ _ st;have nXI:¬X I:=λz=>nS ((hX I z).2.2 SE) hIb;have Mc:St 0 s.heap:=W.frame _ _ _ st λb _ o e=>Keeps.all kb b o e;have kas:=Keeps.trans' kab kb;refine⟨CC (X:=X) (Xw:=Xw) (G:=Gn) (kZ:=kZ) (PH _) c.am ⟨c.wo.1,λn hn=>c.wo.2 n (PQ hn)⟩ c.hw c.wa (λa q=>(hX a q).2.1) (hI I SE hIb) nXI c.h0 (J1 (Keeps.all k1) SE) c.ha (λz=>nXI (z▸c.hw _ c.wo.1)) (λn e=>(hc n I e).elim nXI λq=>nS SE q) Mk
  no W yl (λb hb=>(Cu b hb).imp id λz q=>(hX b q).1.elim z.1 λq=>nS q z.2) (λi v h p kp d hd=>hP i v h Gn p (λb o nb e=>kp b o (λz=>z.elim (λz=>(hX b z).1.elim nb λq=>nG q e) λz=>nG SE (z▸e)) (Keeps.all kas b o e)) hG d hd)
  (λE xk t b s xx kk tt hv=>VO.b A E _ Gn xk s t b bu (c.am.keeps kk tt) xx (c.nm▸hv)) (hem _) (λs' xs u t x ac hx=>hR I s' SE u t x (af (yz.symm.trans hx)▸ac)) yz hlen (Upd.of (Keeps.trans' k1 kas)) x tk Mc ac,λQ E q=>W.self 0 s Q E Mc q⟩
theorem wB(VO:de prog w La Bu V)(bu:Bu A)(c:LC A La scope cenv X Xw acc aU)(hD:G acc)(x:In cenv G σ s.heap)(kk:Keeps aU s)(tt:1<=s.toks)(ac:Acc G s.heap acc xs)(he:Fi V scope elt σ=some ys)(hl:xs.length+ys.length<=eu)
(hQ:∀s',1<=s'.toks->Upd X s s'->In cenv G σ s'.heap->Acc G s'.heap acc (xs++ys)->Q (.again cc) s'):
 wpAny (model prog w) A (do
  let _<-(do let _<-call (.builtin "list.append") [.ref acc,<-eval elt cenv])
  again cc) Q E s:=by
 obtain⟨d,h1,rfl⟩:=dH he;exact ao (ai (bw tt (Fh x c.ha hD (λz=>c.wa (z▸c.wo.1)) c.ac ac hl (VO.d A _ _ G σ s elt d bu (c.am.keeps kk tt) x (c.nm▸h1)))) (λ_ s' q=>aL (hQ s' q.1 q.2.1 q.2.2.1 q.2.2.2)) λ_ _ e=>e)
theorem Fm(VO:de prog w La Bu V)(bu:Bu A)(c:LC A La scope cenv X Xw acc aU)(hn:jd i2=true)(H6:∀a,X a->G a)(x:In cenv G σ s.heap)(kk:Keeps aU s)(tt:1<=s.toks)(ac:Acc G s.heap acc xs)
(he:PO V scope elt t2 i2 f2 σ=some ys)(hl:xs.length+ys.length<=eu)(hQ:∀s',1<=s'.toks->Upd X s s'->In cenv G σ s'.heap->Acc G s'.heap acc (xs++ys)->Q (.again cc) s'):
 wpAny (model prog w) A (do
  let x<-eval i2 cenv
  standAt i2.pos
  let x<-foldedSetIterable i2 cenv x;let it'<-holding [x] (pyIter x);let _<-runOwn (.compStart (.ListComp elt [⟨t,i,f,0⟩,⟨t2,i2,f2,0⟩] scope pos) 1 it' (.ref acc) cenv) cenv
  again cc) Q E s:=by
 obtain⟨d,h1,h2⟩:=aO he;obtain⟨ds2,h3,h4⟩:=aO h2;refine ao (ai (bw tt (VO.d A _ _ G σ s i2 d bu (c.am.keeps kk tt) x (c.nm▸h1))) (λv s5 h5=>ao (dM (ao (atf (jq hn _ v) ?_)))) λ_ _ e=>e);have x5:=x.keeps (Keeps.all h5.2.1);refine ao (bR (ai (bw h5.1 (jZ c.am.hh x5.lo h5.2.2 h3)) (λit s6 h6=>ao ?_) λ_ _ e=>e));have k6:=Keeps.all h6.2.1;obtain⟨Gn,nZ,hn2,hn3⟩:∃Gn:Addr->Prop,(∀b,G b->Gn b)/\(∀b,Gn b->G b\/(s5.heap.get? b=none/\(s6.heap.get? b).isSome=true))/\(∀b,s5.heap.get? b=none->(s6.heap.get? b).isSome=true->Gn b)/\In cenv Gn σ s6.heap:=
  ⟨_,λ_=>.inl,λ_ q=>q,λ_ q r=>.inr ⟨q,r⟩,x5.Fj k6 (λ_ q=>q.1) λ_ q=>q.2⟩
 have hn4:∀b,Gn b->G b\/s5.heap.get? b=none:=λb q=>(hn2 b q).imp id aec;have lo5:∀b,G b->∀I,s5.heap.get? I=none->b≠I:=λb q I hI z=>nS hI (z▸x5.lo b q);have m2:=CD (R:=λr s'=>match r with
  |.ok _=>wpAny (model prog w) A (again cc) Q E s'
  |.error e=>cameBackBy (model prog w) A cenv E e s') (Gn:=Gn) (kZ:=xs) VO bu c (λ_=>Ay elt t i f t2 i2 f2 scope pos _ _ _) h6.2.2
  (Keeps.trans' kk h5.2.1) h6.2.1 Keeps.rfl' (λb q=>⟨.inl (H6 b q),nZ b (H6 b q),λe=>nS e (x5.lo b (H6 b q))⟩) hn4 hn3.1 (λn a e=>.inr (x5.lo a (x5.fc n a e).1)) (λ_ E Q σ2 s xs ys r1 r2 r3 r4 r5 r6 _=>wB VO bu c (nZ _ (H6 _ c.ha)) r1 r2 r3 r4 r5 r6)
  (λI s' hI u tt xx ac=>aL (hQ s' tt (u.abl (Keeps.trans' h5.2.1 h6.2.1) (J1 (Keeps.all h5.2.1) hI)) (xx.less (λa q=>⟨nZ a q,lo5 a q I hI⟩) λa q=>(hn2 a q.1.1).resolve_right λr=>nS r.1 (q.2.elim (λz=>z▸x5.lo _ x5.fl) λ⟨n,z⟩=>x5.lo a (x5.fc n a z).1)) (ac.less λa q=>⟨nZ a q,lo5 a q I hI⟩))) h4 hl hn3.2 h6.1
  ((ac.keeps (Keeps.all h5.2.1)).grow k6 hn4)
 exact wpAny_runOwn (h:=none) (yB m2.1 (m2.2 _ _ m2.1))
end
theorem UP{V:Ev}{Bu:aC->Prop}(VO:de prog w La Bu V)(bu:Bu A){scope:Scope}{σ:cy}{aU eZ Fn:ah}{elt:ae}{gens:List d7}{pos:Pos}{c:ae×ae×List ae×(cy->Option (List D))}{it:Value}{ds out:List D}{R:G6->ah->Prop}{cenv:Env}{D:Addr}{G' X Xw:Addr->Prop}
(lc:LC A La scope cenv X Xw D aU)(xc:In cenv G' σ Fn.heap)(hG:∀a,G' a->G a\/aU.heap.get? a=none)(hX:∀a,X a->G' a/\eZ.heap.get? a=none)(hI:∀b,aU.heap.get? b=none->(eZ.heap.get? b).isSome=true->G' b)(oo:∀n c,cenv.cells.lookup n=some c->X c\/(aU.heap.get? c).isSome=true)
(hc:jo V scope elt gens=some c)(J9:Keeps aU eZ)(Ka:Keeps eZ Fn)(tk4:1<=Fn.toks)(ac:Acc G' Fn.heap D [])(hit:It prog w A G ds aU eZ it)
(yz:gQ (lR (V.b (eh scope)) (qY scope σ) c.1 c.2.2.1 c.2.2.2 σ) ds=some out)(hlen:out.length<=eu)
(hR:∀I s',aU.heap.get? I=none->Upd (λa=>X a\/a=I) Fn s'->1<=s'.toks->In cenv (λa=>G' a/\a≠I) σ s'.heap->Acc (λa=>G' a/\a≠I) s'.heap D ([]++out)->R (.ok .next) s'):
 codeAny (model prog w) A (.compStart (.ListComp elt gens scope pos) 0 it (.ref D) cenv) R Fn:=by
 have hX':∀b,X b->(G b\/aU.heap.get? b=none)/\G' b/\(aU.heap.get? b=none->eZ.heap.get? b=none):=λb q=>⟨.inr (lc.h0 b q),(hX b q).1,λ_=>(hX b q).2⟩
 obtain⟨t,i,f,em⟩:=c;obtain⟨i',gs,rfl,rfl,Cv,hc⟩:=lu hc;rcases hc with⟨rfl,e⟩|⟨t2,i2,f2,rfl,api,e⟩
 ·have m:=CD VO bu lc (λ_=>sz elt t i f scope pos _ _ _) hit Keeps.rfl' J9 Ka hX' hG hI oo
   (λ_ E Q xk s xs ys q1 q2 q3 q4 q5 q6 _=>wB VO bu lc (hX _ lc.ha).1 q1 q2 q3 q4 q5 q6) hR (e▸yz) ((jA _).symm▸hlen) xc tk4 ac
  exact xt m.1 (m.2 _ _ m.1)
 ·have m:=CD VO bu lc (λ_=>Ax elt t i f t2 i2 f2 scope pos _ _ _) hit Keeps.rfl' J9 Ka hX' hG hI oo
   (λ_ E Q xk s xs ys q1 q2 q3 q4 q5 q6 _=>Fm VO bu lc api (λa q=>(hX a q).1) q1 q2 q3 q4 q5 q6) hR (e▸yz) ((jA _).symm▸hlen) xc tk4 ac
  exact xt m.1 (m.2 _ _ m.1)
theorem PR{V:Ev}{Bu:aC->Prop}(VO:de prog w La Bu V)(bu:Bu A){scope:Scope}{σ:cy}{aU eZ fx:ah}{elt:ae}{gens:List d7}{pos:Pos}{c:ae×ae×List ae×(cy->Option (List D))}{it:Value}{ds out:List D}{R:G6->ah->Prop}{D:Addr}
(am:dz A La aU)(x:In env G σ aU.heap)(hk:scope.kind=.function)(hd:(scope.names.map (·.1)).Nodup)(hf:mQ env.scope.names σ scope.names=true)(hc:jo V scope elt gens=some c)(J9:Keeps aU eZ)(k23:Keeps eZ fx)(tk3:1<=fx.toks)
(hDs:D=eZ.heap.objs.size)(SG: @LT.lt Nat _ D fx.heap.objs.size)(hD3:fx.heap.get? D=some {cls:=.type "list",data:=.seq #[]})(hit:It prog w A G ds aU eZ it)
(yz:gQ (lR (V.b (eh scope)) (qY scope (lr σ scope.names)) c.1 c.2.2.1 c.2.2.2 (lr σ scope.names)) ds=some out)(hlen:out.length<=eu)
(hR:∀s',Keeps aU s'->1<=s'.toks->aU.heap.get? D=none->aU.heap.get? fx.heap.objs.size=none->D≠fx.heap.objs.size->(∃m,s'.heap.Ns fx.heap.objs.size m)->Acc (λa=>G a\/a=fx.heap.objs.size) s'.heap D out->R (.ok .next) s'):
 codeAny (model prog w) A (.compStart (.ListComp elt gens scope pos) 0 it (.ref D) (ot scope env fx.heap.objs.size)) R {fx with heap:=fH scope fx.heap}:=by
 have nw2:∀a:Nat,D<=a->eZ.heap.get? a=none:=λa ha=>by
  cases e:eZ.heap.get? a with
  |none=>rfl
  |some o=>exact absurd (cY e) (pN.mpr (hDs▸ha))
 have nw:∀a:Nat,D<=a->aU.heap.get? a=none:=λa ha=>J1 (Keeps.all J9) (nw2 a ha);have ci:=sy x hk hd hf (Keeps.trans' J9 k23);have k34:bV fx.heap (fH scope fx.heap):=λb o e=>pM _ _ b o (aV _ e);generalize fH scope fx.heap=H9 at*;have xl:=x.lo;generalize hce:ot scope env fx.heap.objs.size=cenv at*;have oo:cenv.locals=fx.heap.objs.size:=hce▸rfl;have Fg:cenv.scope.names=eh scope:=hce▸ci.1;generalize fx.heap.objs.size=C at*;generalize lr σ scope.names=σ' at*;obtain⟨_,_,h3,h4,h5⟩:=ci;obtain⟨Xw,w1,w2,w3⟩:∃Xw:Addr->Prop,WOk cenv (Mj scope) Xw/\(∀a:Nat,Xw a->C<=a/\(H9.get? a).isSome=true)/\(∀a:Nat,C<=a->(H9.get? a).isSome=true->Xw a):=⟨_,h4,λ_ q=>q,λ_ q r=>⟨q,r⟩⟩
 obtain⟨G',g1,g2,g3,g4⟩:∃G':Addr->Prop,In cenv G' σ' H9/\(∀a,G' a->G a\/aU.heap.get? a=none)/\(∀a,aU.heap.get? a=none->(H9.get? a).isSome=true->G' a)/\(∀a,G a->G' a):=⟨_,h3,λ_ q=>q.imp id aec,λ_ q r=>.inr ⟨q,r⟩,λ_=>.inl⟩
 have hD4:=k34 _ _ hD3;have gX:∀a:Nat,(Xw a\/a=D)->D<=a/\(H9.get? a).isSome=true:=λa q=>q.elim (λz=>⟨aq (cA SG) (w2 a z).1,(w2 a z).2⟩) λz=>⟨W7 z.symm,z▸sS hD4⟩
 have lc:LC A La scope cenv (λa=>Xw a\/a=D) Xw D aU:=⟨am,w1,λ_=>.inl,λz=>dS _ (cw SG (w2 D z).1),λa q=>nw a (gX a q).1,.inr rfl,
  λn e=>(h5 n D e).elim (λz=>dS _ (dF SG z)) λz=>nS (nw D (cf _)) z,Fg⟩
 have Ka:Keeps eZ {fx with heap:=H9}:=Keeps.trans' k23 ⟨H9,fx.toks,rfl,k34⟩;exact UP (X:=λa=>Xw a\/a=D) (Xw:=Xw) (G':=G') VO bu lc g1 g2 (λa q=>⟨g3 a (lc.h0 a q) (gX a q).2,nw2 a (gX a q).1⟩) (λb q r=>g3 b q (kpS (Keeps.all Ka) r)) (λn c e=>(h5 n c e).imp (λz=>.inl (w3 c (DD z) (g1.lo c (g1.fc n c e).1))) id) hc J9 Ka tk3
  ⟨#[],0,hD4,.nil⟩ hit yz hlen λI s' hI u tt xx ac=>hR s' (u.keeps (λa q=>q.elim (lc.h0 a) λz=>z▸hI) (Keeps.trans' J9 Ka)) tt (nw D (cf _)) (nw C (cA SG)) (eA SG) (by obtain⟨m,hm,_⟩:=xx.va;exact⟨m,oo▸hm⟩)
    (ac.less λb q=>q.elim (λq=>⟨g4 b q,λz=>nS hI (z▸xl b q)⟩) λq=>q▸oo▸xx.fl)
theorem Ia{V:Ev}{Bu:aC->Prop}(VO:de prog w La Bu V)(bu:Bu A){scope:Scope}{σ:cy}{aU eZ:ah}{elt:ae}{gens:List d7}{pos:Pos}{c:ae×ae×List ae×(cy->Option (List D))}{it:Value}{ds out:List D}{RR:Value->Addr->G6->ah->Prop}
(am:dz A La aU)(x:In env G σ aU.heap)(hk:scope.kind=.function)(hd:(scope.names.map (·.1)).Nodup)(hf:mQ env.scope.names σ scope.names=true)
(hc:jo V scope elt gens=some c)(J9:Keeps aU eZ)(PT:1<=eZ.toks)(hit:It prog w A G ds aU eZ it)
(yz:gQ (lR (V.b (eh scope)) (qY scope (lr σ scope.names)) c.1 c.2.2.1 c.2.2.2 (lr σ scope.names)) ds=some out)(hlen:out.length<=eu)
(hRR:∀s' D C,Keeps aU s'->1<=s'.toks->aU.heap.get? D=none->aU.heap.get? C=none->D≠C->(∃m,s'.heap.Ns C m)->Acc (λa=>G a\/a=C) s'.heap D out->RR (.ref D) C (.ok .next) s'):
 closureFor scope env=pure (gJ env scope.names [])/\
 wpAny (model prog w) A (newList []) (λacc fx=>wpAny (model prog w) A (newFunctionEnv scope env.globals (gJ env scope.names []) [] env.qual none .none (some env)) (λcenv Fn=>
  codeAny (model prog w) A (.compStart (.ListComp elt gens scope pos) 0 it acc {cenv with scope:=relabel scope env}) (RR acc cenv.locals) Fn) E fx) E eZ:=by
 exact⟨(sy x hk hd hf (Keeps.rfl' (s:=aU))).2.1,wpAny_newObj_type (wz (PR VO bu am x hk hd hf hc J9 (Keeps.push _) PT rfl (by rw[ia];exact d6 _) (gN _ _ rfl) hit yz hlen λs'=>hRR s' _ _))⟩
end
end
section
structure ek where
 fn:Str->List D->Option D
 gl:Str->Option D
 get:Str->List D->Option D
 mem:Str->D->Option Bool
def Bi.of(n:Str):Option Bi:=[Bi.len,.range,.max,.min,.abs,.sum,.chr,.ord,.list,.sorted,.divmod,.int].find? λb=>b.name==n
theorem Bi.UQ(h:Bi.of n=some b):n=b.name:=by
 have:=Hl h;exact(beq_iff_eq.mp this).symm
inductive Gv(h:Heap)(n:Str)(v:Value):Prop
 |mk (mg:Str->Option Value) (a:h.Ns mainGlobals mg) (b:mg n=some v)
inductive Bv(h:Heap)(n:Str)(v:Value):Prop
 |mk (mg mb:Str->Option Value) (a:h.Ns mainGlobals mg) (b:mg n=none) (c:h.Ns builtinsNs mb) (d:mb n=some v)
structure dU(prog:bb)(w:World)(La:Heap->Prop)(Bu:aC->Prop)(T:ek):Prop where
 gl:∀h n d,La h->T.gl n=some d->∃v,Gv h n v/\∀F,bW h F d v
 bi:∀h (b:Bi),La h->Bv h b.name b.val
 SA:∀h,La h->Bv h "isinstance" (.builtin "isinstance")
 rev:∀h,La h->Bv h "reversed" (.type "reversed")
 ty:∀h (n:Str),La h->(n="bool"\/n="int")->Bv h n (.type (Cz n))
 fn:∀h f ds d,La h->T.fn f ds=some d->∃a o fd,Gv h f (.ref a)/\h.get? a=some o/\o.data=.func fd/\
  ∀(A:aC)(E:Value->ah->Prop) F s vs,Bu A->dz A La s->iW F s.heap->bV h s.heap->aZ s.heap F ds vs->wpAny (model prog w) A (call (.ref a) vs) (gW F s d) E s
 get:∀h g ds d,La h->T.get g ds=some d->∃a o,Gv h g (.ref a)/\h.get? a=some o/\o.cls=.type "dict"/\o.dict=none/\
  ∀(A:aC)(E:Value->ah->Prop) F s vs,Bu A->dz A La s->iW F s.heap->bV h s.heap->aZ s.heap F ds vs->wpAny (model prog w) A (call (.builtin "dict.get") (.ref a::vs)) (gW F s d) E s
 mem:∀h g x b,La h->T.mem g x=some b->∃a,Gv h g (.ref a)/\
  ∀(A:aC)(E:Value->ah->Prop) F s v,Bu A->dz A La s->bV h s.heap->bW s.heap F x v->wpAny (model prog w) A (compareOp .In v (.ref a)) (λr s'=>r=.bool b/\Keeps s s') E s
def gu(e:ae):Bool:= !(bM e.ctorIdx 22)
def tP(f:ae->Option D):List ae->Option (List D)
 |[]=>some []
 |e::es=>if gu e=true then(f e).bind λd=>(tP f es).bind λds=>some (d::ds)else none
def cst:Const->Option D
 |.none=>some .none|.bool b=>some (.bool b)|.int i=>some (.int i)|.float x=>some (.aN x)|.str s=>some (.str s)|_=>none
def intD:D->Option Int
 |.int i=>some i
 |_=>none
def part(f:ae->Option D):Option ae->Option (Option Int)
 |none=>some none
 |some e=>((f e).bind intD).map some
def nz(e:ae):Bool:=bM e.ctorIdx 23||bM e.ctorIdx 19||bM e.ctorIdx 21
def rJ(e:ae):Option Str:=yw e
theorem p8(h:rJ e=some g):∃p,e=.Name g p:=lQ h
def CF(e:ae):Option (Option ae×Option ae×Option ae):=(N7 e).map λx=>x.1.1
theorem CG(h:CF e=some g):∃p,e=.Slice g.1 g.2.1 g.2.2 p:=by
 obtain⟨x,_,rfl⟩:=dH h;exact⟨_,x.2⟩
def UR(ks:bY)(g:Str):Bool:=decide (ks.lookup g=some .globalImplicit/\(g==("__debug__":Str))=false)
def Kb(ks:bY)(op:CmpOp)(r:ae):Option Str:=match op with
 |.In=>match rJ r with
  |some g=>bif UR ks g then some g else none
  |none=>none
 |_=>none
theorem Ib(h:Kb ks op r=some g):op=.In/\(∃p,r=.Name g p)/\ks.lookup g=some .globalImplicit/\(g==("__debug__":Str))=false:=by
 cases op<;>first|exact no h|skip
 refine⟨rfl,?_⟩;unfold Kb at h;cases hn:rJ r with
 |none=>rw[hn]at h;exact no h
 |some g'=>
  rw[hn]at h;obtain⟨h1,h2⟩:=Uo h;exact h2▸⟨p8 hn,of_decide_eq_true h1⟩
def aip(V:Ev)(T:ek)(ks:bY)(σ:cy)(l:ae)(op:CmpOp)(r:ae):Option Bool:=
 if behindInMarks op r=false then
  match Kb ks op r with
  |some g=>(V.d ks σ l).bind (T.mem g)
  |none=>(V.d ks σ l).bind λa=>(V.d ks σ r).bind λb=>cmp op a b
 else none
def UT(V:Ev)(T:ek)(ks:bY)(σ:cy)(l:ae):List CmpOp->List ae->Option Bool
 |[],_=>none
 |op::ops,rs=>match ops with
  |_::_=>none
  |[]=>match rs with
   |[]=>none
   |r::rs=>match rs with
    |_::_=>none
    |[]=>aip V T ks σ l op r
def allB(V:Ev)(ks:bY)(σ:cy)(op:BoolOp):List ae->Option Bool
 |[]=>some (match op with|.And=>true|.Or=>false)
 |e::es=>(V.b ks σ e).bind λb=>match op,b with
  |.And,false=>some false
  |.Or,true=>some true
  |_,_=>allB V ks σ op es
def abm(V:Ev)(ks:bY)(σ:cy)(op:BoolOp):List ae->Option D
 |[]=>none
 |e::es=>match es with
  |[]=>V.d ks σ e
  |_::_=>(V.d ks σ e).bind λd=>(nr d).bind λb=>match op,b with
   |.And,false=>some d
   |.Or,true=>some d
   |_,_=>abm V ks σ op es
def abn(V:Ev)(ks:bY)(σ:cy):List ae->Option D
 |[]=>none
 |e::r=>match r with
  |[]=>none
  |y::z=>match z with
   |_::_=>none
   |[]=>match rJ y with
    |none=>none
    |some t=>if(ks.lookup t=some .globalImplicit/\gu e=true)/\(t==("__debug__":Str))=false then(V.d ks σ e).bind λd=>(SA d t).map .bool else none
def Kc(V:Ev)(T:ek)(ks:bY)(σ:cy)(f:Str)(args:List ae):Option D:=
 if ks.lookup f=some .globalImplicit/\(f==("__debug__":Str))=false then
  if f="isinstance" then abn V ks σ args
  else(tP (V.d ks σ) args).bind λds=>match Bi.of f with
   |some b=>cM b ds
   |none=>T.fn f ds
 else none
def meD(V:Ev)(ks:bY)(σ:cy)(o:ae)(m:Str)(args:List ae):Option D:=(V.d ks σ o).bind λd=>(tP (V.d ks σ) args).bind λds=>(Me.of m).bind λk=>pg k d ds
def PU(V:Ev)(T:ek)(ks:bY)(σ:cy)(o:ae)(m:Str)(args:List ae):Option D:=
 match rJ o with
 |some g=>if ks.lookup g=some .globalImplicit then(if m="get"/\(g==("__debug__":Str))=false then(tP (V.d ks σ) args).bind (T.get g)else none)else meD V ks σ o m args
 |none=>meD V ks σ o m args
def aiq(T:ek)(σ:cy)(id:Str):g6->Option D
 |.local=>look σ id
 |.cell=>look σ id
 |.free=>if(id==("__classdict__":Str))=false then look σ id else none
 |.globalImplicit=>T.gl id
 |_=>none
def X9(T:ek)(ks:bY)(σ:cy)(id:Str):Option D:=if(id==("__debug__":Str))=false then(match ks.lookup id with
    |some k=>aiq T σ id k
    |none=>none)else none
def Yb(V:Ev)(ks:bY)(σ:cy)(o:D)(p:Option ae×Option ae×Option ae):Option D:=match p.2.2 with
 |none=>(part (V.d ks σ) p.1).bind λa=>(part (V.d ks σ) p.2.1).bind λb=>yr o a b
 |some _=>none
def PV(V:Ev)(ks:bY)(σ:cy)(sl:ae)(o:D):Option D:=match CF sl with
 |some p=>Yb V ks σ o p
 |none=>((V.d ks σ sl).bind intD).bind λi=>fU o i
def PW(V:Ev)(T:ek)(ks:bY)(σ:cy)(pos:Pos)(args:List ae)(f:ae):Option D:=
 match N8 f with
 |some a=>if(nz a.1.1=true/\a.1.2.2.endLine=pos.line)/\args.length<20 then PU V T ks σ a.1.1 a.1.2.1 args else none
 |none=>(sf f).bind λn=>Kc V T ks σ n.1.1 args
def PX(V:Ev)(T:ek)(ks:bY)(σ:cy):ae->Option D:=
 exC none (λop es _=>abm V ks σ op es) (λl op r _=>(V.d ks σ l).bind λa=>(V.d ks σ r).bind λb=>aE op a b) (λop x _=>(V.d ks σ x).bind (ahU op))
  (λt a b _=>(V.b ks σ t).bind λc=>if c=true then V.d ks σ a else V.d ks σ b) (λelt gens scope _=>(yD V ks σ elt gens scope).map .lst) (λl ops rs _=>(UT V T ks σ l ops rs).map .bool)
  (λf args Ic pos=>match Ic with
    |[]=>PW V T ks σ pos args f
    |_::_=>none)
  (λc _ _=>cst c) (λv sl _=>(V.d ks σ v).bind λo=>PV V ks σ sl o) (λid _=>X9 T ks σ id)
  (λes _=>(tP (V.d ks σ) es).bind λds=>if ds.length<=eu then some (.lst ds)else none) (λes _ _=>(tP (V.d ks σ) es).bind λds=>if ds.length<=eu then some (.tup ds)else none)
def Yc(V:Ev)(T:ek)(ks:bY)(σ:cy):ae->Option Bool:=
 exC none (λop es _=>allB V ks σ op es) (λ_ _ _ _=>none)
  (λop x _=>match op with
    |.Not=>(V.b ks σ x).map not
    |_=>none)
  (λ_ _ _ _=>none) (λ_ _ _ _=>none) (λl ops rs _=>UT V T ks σ l ops rs) (λf args k p=>(V.d ks σ (.Call f args k p)).bind nr) (λ_ _ _=>none) (λ_ _ _=>none)
  (λid p=>(V.d ks σ (.Name id p)).bind nr) (λ_ _=>none) (λ_ _ _=>none)
def iY(T:ek)(V:Ev):Ev:=⟨PX V T,Yc V T⟩
def dX(T:ek):Nat->Ev
 |0=>⟨λ_ _ _=>none,λ_ _ _=>none⟩
 |n+1=>iY T (dX T n)
section
variable{prog:bb}{w:World}{A:aC}{E:Value->ah->Prop}{G:Addr->Prop}{env:Env}{La:Heap->Prop}{Bu:aC->Prop}{V:Ev}{T:ek}{σ:cy}{s:ah}
theorem fE(hn:gu e=true):starEach (e::es) env=(false,eval e env)::starEach es env:=by
 cases e<;>first|rfl|exact DI hn
theorem j3:∀{es:List ae}{ds:List D},tP f es=some ds->(backTo pos (starEach es env)).any (·.1)=false/\(backTo pos (starEach es env)).all (λx=> !x.1)=true/\(backTo pos (starEach es env)).length=es.length:=λ{es}=>by
 induction es with
 |nil=>exactλ_=>⟨rfl,rfl,rfl⟩
 |cons e es ih0=>
  intro ds h;obtain⟨hn,h⟩:=dD h;obtain⟨d,h1,h2⟩:=aO h;obtain⟨xh,h3,h4⟩:=aO h2;have ih:=ih0 h3;rw[fE hn];exact⟨ih.1,ih.2.1,congrArg lC ih.2.2⟩
theorem fO(VO:de prog w La Bu V)(bu:Bu A)(am:dz A La s)(x:In env G σ s.heap)(h:V.d env.scope.names σ e=some d)
(k:∀v s1,Keeps s s1->dz A La s1->In env G σ s1.heap->bW s1.heap G d v->Q v s1):wpAny (model prog w) A (eval e env) Q E s:=
 ai (bw am.tk (VO.d A E env G σ s e d bu am x h)) (λv s1 q=>k v s1 q.2.1 (am.keeps q.2.1 q.1) (x.keeps (Keeps.all q.2.1)) q.2.2) λ_ _ e=>e
theorem sA(VO:de prog w La Bu V)(bu:Bu A)(am:dz A La s)(x:In env G σ s.heap)(h:V.b env.scope.names σ e=some b)
(k:∀s1,Keeps s s1->dz A La s1->In env G σ s1.heap->Q b s1):wpAny (model prog w) A (isTrue e env (eval e env)) Q E s:=
 ai (bw am.tk (VO.b A E env G σ s e b bu am x h)) (λv s1 q=>q.2.1.symm▸k s1 q.2.2 (am.keeps q.2.2 q.1) (x.keeps (Keeps.all q.2.2))) λ_ _ e=>e
theorem fG(k:Keeps s s1)(h:wpAny (model prog w) A m (gW G s1 d) E s1):wpAny (model prog w) A m (gW G s d) E s1:=
 ai h (λ_ _ q=>⟨Keeps.trans' k q.1,q.2⟩) λ_ _ e=>e
theorem rK(k:Keeps s s1)(h:wpAny (model prog w) A m (λb' s'=>b'=b/\Keeps s1 s') E s1):wpAny (model prog w) A m (λb' s'=>b'=b/\Keeps s s') E s1:=
 ai h (λ_ _ q=>⟨q.1,Keeps.trans' k q.2⟩) λ_ _ e=>e
theorem nA(VO:de prog w La Bu V)(bu:Bu A):∀{es:List ae}{ds:List D}{s:ah},dz A La s->In env G σ s.heap->tP (V.d env.scope.names σ) es=some ds->
 wpAny (model prog w) A (spliced (backTo pos (starEach es env))) (λvs s'=>Keeps s s'/\aZ s'.heap G ds vs) E s:=λ{es}=>by
 induction es with
 |nil=>exactλam x h=>af h▸Sp ⟨Keeps.rfl',.nil⟩
 |cons e es ih=>
  intro ds s am x h;obtain⟨hn,h⟩:=dD h;obtain⟨d,h1,h2⟩:=aO h;obtain⟨xh,h3,h4⟩:=aO h2;refine af h4▸wpAny_items_cons (fO VO bu am x h1 λv s1 k1 iT x1 r1=>?_) (fE hn);exact ai (ih iT x1 h3) (λvs s2 q=>⟨Keeps.trans' k1 q.1,.cons (r1.keeps (Keeps.all q.1)) q.2⟩) λ_ _ e=>e
theorem nE(VO:de prog w La Bu V)(bu:Bu A)(am:dz A La s)(x:In env G σ s.heap)(h:tP (V.d env.scope.names σ) es=some ds)
(k:∀vs s1,Keeps s s1->dz A La s1->In env G σ s1.heap->aZ s1.heap G ds vs->Q vs s1):wpAny (model prog w) A (spliced (backTo pos (starEach es env))) Q E s:=
 ai (bw am.tk (nA VO bu am x h)) (λv s1 q=>k v s1 q.2.1 (am.keeps q.2.1 q.1) (x.keeps (Keeps.all q.2.1)) q.2.2) λ_ _ e=>e
theorem Ml(tk:1<=s.toks)(h:cst c=some d):wpAny (model prog w) A (eval (.Constant c k pos) env) (gW G s d) E s:=by
 cases c<;>first|exact no h|skip
 all_goals first
  |exact af h▸Constant_none ⟨Keeps.rfl',ER⟩
  |exact af h▸Constant_bool ⟨Keeps.rfl',kB⟩
  |exact af h▸wpAny_Constant_int lq
  |exact af h▸PySem.wpAny_Constant_float (xi tk)
  |exact af h▸wpAny_Constant_str EW
theorem nH(x:In env G σ s.heap)(hk:env.scope.names.lookup n=some .globalImplicit)(hd:(n==("__debug__":Str))=false)(g:Gv s.heap n v\/Bv s.heap n v)(h:Q v s):
 wpAny (model prog w) A (eval (.Name n pos) env) Q E s:=by
 refine Calls.Name_function_global x.fn hk ?_ hd;rcases g with⟨mg,h1,h2⟩|⟨mg,mb,h1,h2,h3,h4⟩
 ·exact Calls.loadGlobal_global (by rw[x.gl];exact h1) h2 h
 ·exact Calls.loadGlobal_builtin (by rw[x.gl];exact h1) h2 (by rw[x.bi];exact h3) h4 h
theorem qA(h:intD d=some i):d=.int i:=by
 cases d<;>first|exact no h|exact congrArg D.int (af h)
theorem yE(VO:de prog w La Bu V)(bu:Bu A)(am:dz A La s)(x:In env G σ s.heap)(h:part (V.d env.scope.names σ) e=some i):
 wpAny (model prog w) A (evalPart e env) (λv s'=>Keeps s s'/\G5 v i) E s:=by
 cases e with
 |none=>
  rw[evalPart_none];exact aL ⟨Keeps.rfl',af h▸.none⟩
 |some e=>
  obtain⟨j,h1,rfl⟩:=dH h;obtain⟨d,h2,h3⟩:=aO h1;obtain rfl:=qA h3;rw[evalPart_some];exact fO VO bu am x h2 λv s1 k1 _ _ r1=>⟨k1,by obtain⟨t,q⟩:=r1.int;exact q▸.int _ _⟩
end
end
section
section
variable{prog:bb}{w:World}{A:aC}{E:Value->ah->Prop}{G:Addr->Prop}{env:Env}{La:Heap->Prop}{Bu:aC->Prop}{V:Ev}{T:ek}{σ:cy}{s:ah}
theorem dY:∀{l:List (Bool×Sem Value)},l.any (·.1)=false->wpAny M A (spliced l) (λvs s'=>Q ⟨vs,[]⟩ s') E s->wpAny M A (evalArgs f true l []) Q E s:=by
 intro zx
 induction zx with
 |nil=>
  rintro _ h;unfold evalArgs;show wpAny M A (spliced [] >>= _) Q E s;refine ao (ai h (λvs s' h'=>?_) λ_ _ x=>x);refine ao (aL ?_);refine bR ?_;exact ao (aL (ao (aL (aL h'))))
 |cons zh rest ih=>
  obtain⟨b,x⟩:=zh;rintro hp h;have hb:b=false:=by
   rw[List.any_cons,mJ]at hp;exact hp.1
  subst hb;exact Calls.evalArgs_plain h
inductive Ie(V:Ev)(ks:bY)(σ:cy)(elt:ae)(gens:List d7)(scope:Scope)(out:List D):Prop
 |mk (c:ae×ae×List ae×(cy->Option (List D))) (d:D) (ds:List D) (hk:scope.kind=.function) (hd:(scope.names.map (·.1)).Nodup) (hf:mQ ks σ scope.names=true) (h1:jo V scope elt gens=some c) (h3:V.d ks σ c.2.1=some d) (h5:items d=some ds)
  (h7:gQ (lR (V.b (eh scope)) (qY scope (lr σ scope.names)) c.1 c.2.2.1 c.2.2.2 (lr σ scope.names)) ds=some out) (hl:out.length<=eu)
theorem Fo(h:yD V ks σ elt gens scope=some out):Ie V ks σ elt gens scope out:=by
 obtain⟨⟨⟨hk,hnd⟩,hf⟩,h⟩:=dD h;obtain⟨c,h1,h2⟩:=aO h;obtain⟨d,h3,h4⟩:=aO h2;obtain⟨ds,h5,h6⟩:=aO h4;obtain⟨o,h7,h8⟩:=aO h6;obtain⟨hl,rfl⟩:=bx h8;exact⟨c,d,ds,hk,wA hnd,hf,h1,h3,h5,h7,hl⟩
theorem BD(h:Ie V ks σ elt gens scope out):∃t i f gs,gens=⟨t,i,f,0⟩::gs:=by
 cases h with
 |mk c d ds hk hd hf h1 h3 h5 h7 hl=>
 obtain⟨i,gs,e,_⟩:=lu h1;exact⟨_,_,_,_,e⟩
theorem Kd(VO:de prog w La Bu V)(bu:Bu A)(am:dz A La s)(x:In env G σ s.heap)(h:Ie V env.scope.names σ elt (⟨t,i,f,0⟩::gs) scope out)
(hQ:∀s' D C,Keeps s s'->1<=s'.toks->s.heap.get? D=none->s.heap.get? C=none->D≠C->(∃m,s'.heap.Ns C m)->Acc (λa=>G a\/a=C) s'.heap D out->compPost (model prog w) A E use Q (.ref D) C (.ok .next) s'):
 wpAny (model prog w) A (comprehension (.ListComp elt (⟨t,i,f,0⟩::gs) scope pos) scope env cp (newList []) false (eval i env) use) Q E s:=by
 cases h with
 |mk c d ds hk hd hf h1 h3 h5 h7 hl=>
 obtain⟨i',gs',e0,e1,e3,_⟩:=lu h1;have e0:i=i':=congrArg Comprehension.iter (eE e0).1;rw[e1,<-e0]at h3;rw[<-e0]at e3;refine aed (g:=⟨t,i,f,0⟩) (gs:=gs) rfl (λy=>jq e3 env y) (sy x hk hd hf (Keeps.rfl' (s:=s))).2.1 hk (λy hy hl=>mem_lookup hd (by rw[<-hl];exact hy)) ?_;refine ai (bw am.tk (VO.d A _ env G σ s _ d bu am x h3)) (λv s1 q=>?_) λ_ _ e=>e;have k1:=Keeps.all q.2.1;have x1:=x.keeps k1;refine ai (bw q.1 (jZ am.hh x1.lo q.2.2 h5)) (λit s2 q2=>?_) λ_ _ e=>e;exact(Ia VO bu (am.keeps q.2.1 q.1) x1 hk hd hf h1 q2.2.1 q2.1 q2.2.2 h7 hl λs' D C k t hD hC=>hQ s' D C (Keeps.trans' q.2.1 k) t (J1 k1 hD) (J1 k1 hC)).2
theorem wC(VO:de prog w La Bu V)(bu:Bu A)(am:dz A La s)(x:In env G σ s.heap)(h:yD V env.scope.names σ elt gens scope=some out):
 wpAny (model prog w) A (eval (.ListComp elt gens scope pos) env) (λv s'=>gW G s (.lst out) v s'/\∃a,v=.ref a/\s.heap.get? a=none) E s:=by
 have h:=Fo h;obtain⟨t,i,f,gs,rfl⟩:=BD h;rw[eval_ListComp];refine Kd VO bu am x h λs' D C k t hD hC SG ⟨m,hm⟩ abo=>⟨m,hm,λh' om=>⟨⟨?_,?_⟩,D,rfl,hD⟩⟩
 ·obtain⟨ic,air,rfl,ka⟩:=k
  exact⟨h',air,rfl,λb o e=>om.extBut b o (λz=>nG hC (z▸e)) (ka b o e)⟩
 ·obtain⟨vs,n,q1,q2⟩:=abo
  exact hO (vs:=vs.toList) (λq=>nS hD (x.lo D q)) (om.extBut _ _ SG q1) (aZ.kept (F:=λa=>G a\/a=C) (λb o nb e=>om.extBut b o (λz=>nb (.inr z)) e) (λb q=>.inl (.inl q)) _ _ q2)
theorem yF(VO:de prog w La Bu V)(TO:dU prog w La Bu T)(bu:Bu A)(am:dz A La s)(x:In env G σ s.heap)(h:aip V T env.scope.names σ l op r=some b):
 behindInMarks op r=false/\wpAny (model prog w) A (eval l env) (λa aU=>wpAny (model prog w) A (eval r env) (λc eZ=>wpAny (model prog w) A (compareOp op a c) (λv s'=>v=.bool b/\Keeps s s') E eZ) E aU) E s:=by
 obtain⟨hb,h⟩:=dD h;refine⟨hb,?_⟩;cases hm:Kb env.scope.names op r with
 |some g=>
  rw[hm]at h;obtain⟨rfl,⟨p,rfl⟩,hg⟩:=Ib hm;obtain⟨a,h1,h2⟩:=aO h;refine fO VO bu am x h1 λva s1 k1 iT x1 r1=>?_;obtain⟨ad,hgv,hm⟩:=TO.mem s1.heap g a b (iT.la _ λ_ _ e=>e) h2;exact nH x1 hg.1 hg.2 (.inl hgv) (ai (hm A E G s1 va bu iT (λ_ _ e=>e) r1) (λv s3 q3=>⟨q3.1,Keeps.trans' k1 q3.2⟩) λ_ _ e=>e)
 |none=>
  rw[hm]at h;obtain⟨a,h1,h2⟩:=aO h;obtain⟨c,h3,h4⟩:=aO h2;exact fO VO bu am x h1 λva s1 k1 iT x1 r1=>fO VO bu iT x1 h3 λvc s2 k2 p9 x2 r2=>Br p9.nb (dF (ae1 (by decide) _) am.un) (r1.keeps (Keeps.all k2)) r2 h4 ⟨rfl,Keeps.trans' k1 k2⟩
theorem Ig(VO:de prog w La Bu V)(TO:dU prog w La Bu T)(bu:Bu A)(am:dz A La s)(x:In env G σ s.heap)(h:UT V T env.scope.names σ l ops rs=some b):
 ∃op r,ops=[op]/\rs=[r]/\behindInMarks op r=false/\wpAny (model prog w) A (eval l env) (λa aU=>wpAny (model prog w) A (eval r env) (λc eZ=>wpAny (model prog w) A (compareOp op a c) (λv s'=>v=.bool b/\Keeps s s') E eZ) E aU) E s:=by
 cases ops with
 |nil=>exact no h
 |cons op ops=>
  cases ops with
  |cons _ _=>exact no h
  |nil=>
   cases rs with
   |nil=>exact no h
   |cons r rs=>
    cases rs with
    |cons _ _=>exact no h
    |nil=>exact⟨op,r,rfl,rfl,yF VO TO bu am x h⟩
end
end
section
section
variable{prog:bb}{w:World}{A:aC}{E:Value->ah->Prop}{G:Addr->Prop}{env:Env}{La:Heap->Prop}{Bu:aC->Prop}{V:Ev}{T:ek}{σ:cy}{s:ah}
theorem Bi.kind(b:Bi):(∃id,b.val=.builtin id)\/∃id,b.val=.type id:=by cases b<;>first|exact .inl ⟨_,rfl⟩|exact .inr ⟨_,rfl⟩
theorem ais(h:SA d t=some b):t="bool"\/t="int":=by
 obtain⟨_,_,h⟩:=aO h;by_cases h1:t="bool"
 ·exact .inl h1
 ·rw[if_neg h1]at h
  exact .inr (bx h).1
theorem Ih(VO:de prog w La Bu V)(TO:dU prog w La Bu T)(bu:Bu A)(am:dz A La s)(x:In env G σ s.heap)(hf:env.scope.names.lookup ("isinstance":Str)=some .globalImplicit)(h:abn V env.scope.names σ args=some d):
 wpAny (model prog w) A (eval (.Call (.Name "isinstance" np) args [] pos) env) (gW G s d) E s:=by
 cases args with
 |nil=>exact no h
 |cons e args=>
  cases args with
  |nil=>exact no h
  |cons y args=>
   cases args with
   |cons _ _=>exact no h
   |nil=>
    unfold abn at h;dsimp only at h;cases hn:rJ y with
    |none=>rw[hn]at h;exact no h
    |some t=>
     rw[hn]at h;obtain⟨tp,rfl⟩:=p8 hn;obtain⟨⟨⟨ht1,hs⟩,htd⟩,h⟩:=dD h;obtain⟨v,h1,h2⟩:=aO h;obtain⟨b,h3,rfl⟩:=dH h2;show wpAny _ _ (do callWith pos (<-eval (.Name "isinstance" np) env) [] (backTo pos (starEach [e,.Name t tp] env)) []) _ _ _;refine ao (nH x hf (by decide) (.inr (TO.SA _ (am.la _ λ_ _ e=>e))) ?_);rw[show backTo pos (starEach [e,.Name t tp] env)=[(false,eval e env),(false,eval (.Name t tp) env)]from congrArg (backTo pos) ((fE hs).trans rfl)];exact iA rfl (dY rfl (dC (fO VO bu am x h1 λva s1 k1 iT x1 r1=>dC (nH x1 ht1 htd (.inr (TO.ty _ t (iT.la _ λ_ _ e=>e) (ais h3))) (gB (fG k1 (Mb r1 h3)))))))
theorem Fp(VO:de prog w La Bu V)(TO:dU prog w La Bu T)(bu:Bu A)(am:dz A La s)(x:In env G σ s.heap)(hf:env.scope.names.lookup b.name=some .globalImplicit/\(b.name==("__debug__":Str))=false)
(h1:tP (V.d env.scope.names σ) args=some ds)(h2:cM b ds=some d):wpAny (model prog w) A (eval (.Call (.Name b.name np) args [] pos) env) (gW G s d) E s:=by
 have hp:=(j3 (env:=env) (pos:=pos) h1).1;show wpAny _ _ (do callWith pos (<-eval (.Name b.name np) env) [] (backTo pos (starEach args env)) []) _ _ _;refine ao (nH x hf.1 hf.2 (.inr (TO.bi _ b (am.la _ λ_ _ e=>e))) ?_);have core:wpAny (model prog w) A (spliced (backTo pos (starEach args env))) (λvs s'=>wpAny (model prog w) A (call b.val vs) (gW G s d) E s') E s:=
  nE VO bu am x h1 λvs s1 k1 iT x1 r1=>fG k1 (Pw (iT.ok x1.lo) r1 h2)
 rcases b.kind with⟨id,e⟩|⟨id,e⟩
 ·rw[e]at core⊢
  exact iA hp (dY hp core)
 ·rw[e]at core⊢
  exact xu hp (dY hp core)
theorem Fq(VO:de prog w La Bu V)(TO:dU prog w La Bu T)(bu:Bu A)(am:dz A La s)(x:In env G σ s.heap)(hf:env.scope.names.lookup f=some .globalImplicit/\(f==("__debug__":Str))=false)
(h1:tP (V.d env.scope.names σ) args=some ds)(h2:T.fn f ds=some d):wpAny (model prog w) A (eval (.Call (.Name f np) args [] pos) env) (gW G s d) E s:=by
 obtain⟨a,o,fd,g1,g2,g3,g4⟩:=TO.fn s.heap f ds d (am.la _ λ_ _ e=>e) h2;show wpAny _ _ (do callWith pos (<-eval (.Name f np) env) [] (backTo pos (starEach args env)) []) _ _ _;exact ao (nH x hf.1 hf.2 (.inl g1) (kA (o:=o) (fd:=fd) (dY (j3 h1).1 (nE VO bu am x h1 λvs s1 k1 iT x1 r1=>⟨⟨Keeps.all k1 _ _ g2,g3⟩,fG k1 (g4 A E G s1 vs bu iT x1.lo (Keeps.all k1) r1)⟩))))
theorem Fs(VO:de prog w La Bu V)(TO:dU prog w La Bu T)(bu:Bu A)(am:dz A La s)(x:In env G σ s.heap)(h:Kc V T env.scope.names σ f args=some d):
 wpAny (model prog w) A (eval (.Call (.Name f np) args [] pos) env) (gW G s d) E s:=by
 obtain⟨hf,h0⟩:=dD h;by_cases hi:f="isinstance"
 ·rw[if_pos hi]at h0
  subst hi;exact Ih VO TO bu am x hf.1 h0
 ·rw[if_neg hi]at h0
  obtain⟨ds,h1,h2⟩:=aO h0;cases hb:Bi.of f with
  |some b=>
   rw[hb]at h2;obtain rfl:=Bi.UQ hb;exact Fp VO TO bu am x hf h1 h2
  |none=>
   rw[hb]at h2;exact Fq VO TO bu am x hf h1 h2
theorem CH(h:nz o=true)(m)(env)(t:Sem Value):attributeBase o m env t=t:=by
 rcases(m9 ..).mp h with h|h
 ·rcases(m9 ..).mp h with h|h
  ·exact Dy (motive_1:=λo=>attributeBase o m env t=t) o (bF h) λ_ _=>rfl
  ·exact uN (motive_1:=λo=>attributeBase o m env t=t) o (bF h) λ_ _ _=>rfl
 ·exact tD (motive_1:=λo=>attributeBase o m env t=t) o (bF h) λ_ _ _=>rfl
theorem Ke(hb:nz o=true)(hl:ap.endLine=pos.line)(hn:args.length<20)(h3:tP (V.d env.scope.names σ) args=some ds)
(k:wpAny (model prog w) A (eval o env) (λv s1=>∃T id,PlainAttrs T/\Slot T m id/\typeOf (.builtin id)=pure (.type "method_descriptor")/\s1.TypeIs v T/\(∀a,v=.ref a->∃ob,s1.heap.get? a=some ob/\ob.dict=none)/\
   wpAny (model prog w) A (spliced (backTo pos (starEach args env))) (λvs s2=>wpAny (model prog w) A (call (.builtin id) (v::vs)) Q E s2) E s1) E s):wpAny (model prog w) A (eval (.Call (.Attribute o m ap) args [] pos) env) Q E s:=by
 obtain⟨p1,p2,p3⟩:=j3 (env:=env) (pos:=pos) h3;refine lM (CH hb _ _ _) ?_ (by simpa using hl) (ai k (λv s1 q=>?_) λ_ _ e=>e)
 ·rw[p2,show decide (args.length+([]:List SY).length+(if([]:List SY).isEmpty then 0 else 1)<30)=true from decide_eq_true (dF hn (by decide))]
  rfl
 ·obtain⟨T,id,m1,m2,m3,m4,m5,m6⟩:=q;exact⟨T,id,m1,m2,m3,m4,m5,iA p1 (dY p1 m6)⟩
theorem BE(VO:de prog w La Bu V)(bu:Bu A)(am:dz A La s)(x:In env G σ s.heap)
(hb:nz o=true)(hl:ap.endLine=pos.line)(hn:args.length<20)(h:meD V env.scope.names σ o m args=some d):wpAny (model prog w) A (eval (.Call (.Attribute o m ap) args [] pos) env) (gW G s d) E s:=by
 obtain⟨od,h1,h2⟩:=aO h;obtain⟨ds,h3,h4⟩:=aO h2;obtain⟨k,h5,h6⟩:=aO h4;obtain rfl:=Me.aa9 h5;refine Ke hb hl hn h3 (fO VO bu am x h1 λvo s1 k1 iT x1 r1=>?_);obtain⟨id,⟨T,m1,m2,m3,m4,m5⟩,ms⟩:=PB (prog:=prog) (w:=w) (A:=A) (E:=E) r1 h6;exact⟨T,id,m1,m2,m3,m4,m5,nE VO bu iT x1 h3 λvs s2 k2 p9 x2 r2=>fG (Keeps.trans' k1 k2) (ms s2 vs (p9.ok x2.lo) (Keeps.all k2) r2)⟩
theorem Ii(VO:de prog w La Bu V)(TO:dU prog w La Bu T)(bu:Bu A){g:Str}{args:List ae}{gp ap pos:Pos}{ds:List D}{d:D}(am:dz A La s)(x:In env G σ s.heap)
(hl:ap.endLine=pos.line)(hn:args.length<20)(hg:env.scope.names.lookup g=some .globalImplicit)(hgd:(g==("__debug__":Str))=false)(h3:tP (V.d env.scope.names σ) args=some ds)(h4:T.get g ds=some d):
 wpAny (model prog w) A (eval (.Call (.Attribute (.Name g gp) "get" ap) args [] pos) env) (gW G s d) E s:=by
 obtain⟨a,ob,g1,g2,g3,g4,g5⟩:=TO.get s.heap g ds d (am.la _ λ_ _ e=>e) h4;refine Ke rfl hl hn h3 (nH x hg hgd (.inl g1) ⟨"dict","dict.get",PySem.F.plainAttrs_dict,rX,PySem.F.type_dict_get,⟨_,g2,g3⟩,λb e=>lj e▸⟨_,g2,g4⟩,?_⟩);exact nE VO bu am x h3 λvs s2 k2 p9 x2 r2=>fG k2 (g5 A E G s2 vs bu p9 x2.lo (Keeps.all k2) r2)
theorem Ft(VO:de prog w La Bu V)(TO:dU prog w La Bu T)(bu:Bu A)(am:dz A La s)(x:In env G σ s.heap)
(hb:nz o=true)(hl:ap.endLine=pos.line)(hn:args.length<20)(h:PU V T env.scope.names σ o m args=some d):
 wpAny (model prog w) A (eval (.Call (.Attribute o m ap) args [] pos) env) (gW G s d) E s:=by
 unfold PU at h;cases ho:rJ o with
 |none=>rw[ho]at h;exact BE VO bu am x hb hl hn h
 |some g=>
  rw[ho]at h;dsimp only at h;by_cases hg:env.scope.names.lookup g=some .globalImplicit
  ·rw[if_pos hg]at h
   obtain⟨⟨rfl,hgd⟩,h0⟩:=dD h;obtain⟨gp,rfl⟩:=p8 ho;obtain⟨ds,h3,h4⟩:=aO h0;exact Ii VO TO bu am x hl hn hg hgd h3 h4
  ·rw[if_neg hg]at h
   exact BE VO bu am x hb hl hn h
theorem Ij(VO:de prog w La Bu V)(bu:Bu A):∀{es:List ae}{b:Bool}{s:ah},dz A La s->In env G σ s.heap->allB V env.scope.names σ op es=some b->
 wpAny (model prog w) A (allTrue op es env) (λb' s'=>b'=b/\Keeps s s') E s:=λ{es}=>by
 induction es with
 |nil=>
  intro b s am x h;cases op
  ·exact wpAny_allTrue_And_nil ⟨af h,Keeps.rfl'⟩
  ·exact atg ⟨af h,Keeps.rfl'⟩
 |cons e es ih=>
  intro b s am x h;obtain⟨c,h1,h2⟩:=aO h;cases op
  ·refine wpAny_allTrue_And_cons (sA VO bu am x h1 λs1 k1 iT x1=>?_)
   cases c
   ·exact⟨af h2,k1⟩
   ·exact rK k1 (ih iT x1 h2)
  ·refine Ac (sA VO bu am x h1 λs1 k1 iT x1=>?_)
   cases c
   ·exact rK k1 (ih iT x1 h2)
   ·exact⟨af h2,k1⟩
theorem yG(am:dz A La s)(x:In env G σ s.heap)(r:bW s.heap G d v)(h:nr d=some b)(k:∀s1,Keeps s s1->dz A La s1->In env G σ s1.heap->bW s1.heap G d v->Q b s1):wpAny (model prog w) A (truthy v) Q E s:=
 ai (bw am.tk (mu r h)) (λc s1 q=>q.2.1.symm▸k s1 q.2.2 (am.keeps q.2.2 q.1) (x.keeps (Keeps.all q.2.2)) (r.keeps (Keeps.all q.2.2))) λ_ _ e=>e
theorem Ik(VO:de prog w La Bu V)(bu:Bu A):∀{es:List ae}{d:D}{s:ah},dz A La s->In env G σ s.heap->abm V env.scope.names σ op es=some d->
 wpAny (model prog w) A (eval (.BoolOp op es pos) env) (gW G s d) E s:=λ{es}=>by
 induction es with
 |nil=>intro d s am x h;exact no h
 |cons e es ih=>
  intro d s am x h;cases es with
  |nil=>exact BoolOp_one (VO.d A E env G σ s e d bu am x h)
  |cons e' es=>
   obtain⟨a,h1,h2⟩:=aO h;obtain⟨c,h3,h4⟩:=aO h2;cases op
   ·refine BoolOp_and (fO VO bu am x h1 λv s1 k1 iT x1 r1=>yG iT x1 r1 h3 λs2 k2 p9 x2 r2=>?_)
    cases c
    ·exact⟨Keeps.trans' k1 k2,af h4▸r2⟩
    ·exact fG (Keeps.trans' k1 k2) (ih p9 x2 h4)
   ·refine BoolOp_or (fO VO bu am x h1 λv s1 k1 iT x1 r1=>yG iT x1 r1 h3 λs2 k2 p9 x2 r2=>?_)
    cases c
    ·exact fG (Keeps.trans' k1 k2) (ih p9 x2 h4)
    ·exact⟨Keeps.trans' k1 k2,af h4▸r2⟩
end
end
section
section
variable{prog:bb}{w:World}{A:aC}{E:Value->ah->Prop}{G:Addr->Prop}{env:Env}{La:Heap->Prop}{Bu:aC->Prop}{V:Ev}{T:ek}{σ:cy}{s:ah}
theorem Fu(TO:dU prog w La Bu T)(am:dz A La s)(x:In env G σ s.heap)(h:X9 T env.scope.names σ n=some d):wpAny (model prog w) A (eval (.Name n pos) env) (gW G s d) E s:=by
 obtain⟨hd,h⟩:=dD h;have PY:(env.kindOf n=some .local\/Cl env n)->(env.kindOf n=some .free->(n==("__classdict__":Str))=false)->look σ n=some d->wpAny (model prog w) A (eval (.Name n pos) env) (gW G s d) E s:=
  λhk Aq hl=>ai (x.name hk hl hd Aq) (λv s' q=>q.1.symm▸⟨Keeps.rfl',q.2⟩) λ_ _ e=>e
 cases hk:env.scope.names.lookup n with
 |none=>rw[hk]at h;exact no h
 |some k=>
  have jU:env.kindOf n=some k:=hk;rw[hk]at h;cases k<;>first|exact no h|skip
  ·exact PY (.inl jU) (λq=>nomatch jU.symm.trans q) h
  ·exact PY (.inr (.inl jU)) (λq=>nomatch jU.symm.trans q) h
  ·obtain⟨hc,h⟩:=dD h
   exact PY (.inr (.inr jU)) (λ_=>hc) h
  ·obtain⟨v,g1,g2⟩:=TO.gl s.heap _ d (am.la _ λ_ _ e=>e) h
   exact nH x hk hd (.inl g1) ⟨Keeps.rfl',g2 G⟩
theorem Fv(VO:de prog w La Bu V)(bu:Bu A){v:ae}{lo hi:Option ae}{sp pos:Pos}{o d:D}(am:dz A La s)(x:In env G σ s.heap)(h1:V.d env.scope.names σ v=some o)
(h:Yb V env.scope.names σ o (lo,hi,none)=some d):wpAny (model prog w) A (eval (.Subscript v (.Slice lo hi none sp) pos) env) (gW G s d) E s:=by
 obtain⟨a,h3,h4⟩:=aO h;obtain⟨b,h5,h6⟩:=aO h4;refine ug (fO VO bu am x h1 λvo s1 k1 iT x1 r1=>wpAny_Slice (ai (bw iT.tk (yE VO bu iT x1 h3)) (λvl s2 q2=>?_) λ_ _ e=>e));have x2:=x1.keeps (Keeps.all q2.2.1);refine ai (yE VO bu (iT.keeps q2.2.1 q2.1) x2 h5) (λvu s3 q3=>?_) λ_ _ e=>e;rw[evalPart_none];have x3:=x2.keeps (Keeps.all q3.1);have k13:=Keeps.trans' q2.2.1 q3.1;refine aL ?_;have key:=HZ (prog:=prog) (w:=w) (A:=A) (E:=E) (s:={s3 with heap:=s3.heap.push {cls:=.type "slice",data:=.fields #[vl,vu,.none]}}) (F:=G) (x3.lo.keeps λ_ _ e=>aV _ e) ((r1.keeps (Keeps.all k13)).keeps λ_ _ e=>aV _ e) ⟨_,gN _ _ rfl,rfl,rfl⟩ q2.2.2 q3.2 h6;exact⟨key.1,fG (Keeps.trans' (Keeps.trans' k1 k13) (Keeps.push _)) key.2⟩
theorem Il(VO:de prog w La Bu V)(bu:Bu A){v sl:ae}{pos:Pos}{d:D}(am:dz A La s)(x:In env G σ s.heap)(h:((V.d env.scope.names σ v).bind λo=>PV V env.scope.names σ sl o)=some d):
 wpAny (model prog w) A (eval (.Subscript v sl pos) env) (gW G s d) E s:=by
 obtain⟨o,h1,h2⟩:=aO h;unfold PV at h2;cases hs:CF sl with
 |some p=>
  rw[hs]at h2;obtain⟨sp,rfl⟩:=CG hs;obtain⟨lo,hi,st⟩:=p;cases st with
  |some _=>exact no h2
  |none=>exact Fv VO bu am x h1 h2
 |none=>
  rw[hs]at h2;obtain⟨i,h3,h4⟩:=aO h2;obtain⟨di,h5,h6⟩:=aO h3;obtain rfl:=qA h6;refine ug (fO VO bu am x h1 λvo s1 k1 iT x1 r1=>fO VO bu iT x1 h5 λvi s2 k2 p9 x2 r2=>?_);obtain⟨t,rfl⟩:=r2.int;have key:=HY (prog:=prog) (w:=w) (A:=A) (E:=E) (t:=t) (r1.keeps (Keeps.all k2)) h4;exact⟨key.1,fG (Keeps.trans' k1 k2) key.2⟩
theorem Mm(VO:de prog w La Bu V)(bu:Bu A)(am:dz A La s)(x:In env G σ s.heap)(h:((V.b env.scope.names σ t).bind λc=>if c=true then V.d env.scope.names σ a else V.d env.scope.names σ b)=some d):
 wpAny (model prog w) A (eval (.IfExp t a b pos) env) (gW G s d) E s:=by
 obtain⟨c,h1,h2⟩:=aO h;refine IfExp_ (sA VO bu am x h1 λs1 k1 iT x1=>?_);cases c
 ·exact fG k1 (VO.d A E env G σ s1 b d bu iT x1 h2)
 ·exact fG k1 (VO.d A E env G σ s1 a d bu iT x1 h2)
theorem Im(VO:de prog w La Bu V)(bu:Bu A)(am:dz A La s)(x:In env G σ s.heap)(h:((V.d env.scope.names σ l).bind λa=>(V.d env.scope.names σ r).bind λb=>aE op a b)=some d):
 wpAny (model prog w) A (eval (.BinOp l op r pos) env) (gW G s d) E s:=by
 obtain⟨a,h1,h2⟩:=aO h;obtain⟨b,h3,h4⟩:=aO h2;exact A7 (fO VO bu am x h1 λva s1 k1 iT x1 r1=>fO VO bu iT x1 h3 λvc s2 k2 p9 x2 r2=>fG (Keeps.trans' k1 k2) (p0 p9.tk x2.lo (r1.keeps (Keeps.all k2)) r2 h4))
theorem yH(VO:de prog w La Bu V)(TO:dU prog w La Bu T)(bu:Bu A)(am:dz A La s)(x:In env G σ s.heap)(h:UT V T env.scope.names σ l ops rs=some b):
 wpAny (model prog w) A (eval (.Compare l ops rs pos) env) (gW G s (.bool b)) E s/\wpAny (model prog w) A (isTrue (.Compare l ops rs pos) env (eval (.Compare l ops rs pos) env)) (λb' s'=>b'=b/\Keeps s s') E s:=by
 obtain⟨op,r,rfl,rfl,hb,_⟩:=Ig (prog:=prog) (w:=w) (A:=A) (E:=E) VO TO bu am x h;have h2:=(yF (prog:=prog) (w:=w) (A:=A) (E:=E) VO TO bu am x h).2;exact⟨wpAny_Compare1 (ai h2 (λa s1 q1=>ai q1 (λc s2 q2=>ai q2 (λv s3 q3=>q3.1.symm▸⟨q3.2,kB⟩) λ_ _ e=>e) λ_ _ e=>e) λ_ _ e=>e) hb,
  amS (ai h2 (λa s1 q1=>ai q1 (λc s2 q2=>ai q2 (λv s3 q3=>q3.1.symm▸f7 ⟨rfl,q3.2⟩) λ_ _ e=>e) λ_ _ e=>e) λ_ _ e=>e) hb⟩
theorem Fw(VO:de prog w La Bu V)(bu:Bu A)(am:dz A La s)(x:In env G σ s.heap)(h:((tP (V.d env.scope.names σ) es).bind λds=>if ds.length<=eu then some (D.lst ds)else none)=some d):
 wpAny (model prog w) A (eval (.List es pos) env) (gW G s d) E s:=by
 obtain⟨ds,h1,h2⟩:=aO h;obtain⟨hl,rfl⟩:=bx h2;exact wpAny_List (nE VO bu am x h1 λvs s1 k1 _ x1 r1=>⟨by rw[r1.length];exact aq hl ip,Keeps.trans' k1 (Keeps.push _),nq x1.lo r1⟩)
theorem Fx(VO:de prog w La Bu V)(bu:Bu A)(am:dz A La s)(x:In env G σ s.heap)(h:((tP (V.d env.scope.names σ) es).bind λds=>if ds.length<=eu then some (D.tup ds)else none)=some d):
 wpAny (model prog w) A (eval (.Tuple es k pos) env) (gW G s d) E s:=by
 obtain⟨ds,h1,h2⟩:=aO h;obtain⟨hl,rfl⟩:=bx h2;exact N3 (nE VO bu am x h1 λvs s1 k1 _ x1 r1=>⟨by rw[r1.length];exact aq hl ip,Keeps.trans' k1 (Keeps.push _),ET x1.lo r1⟩)
theorem Fy(VO:de prog w La Bu V)(TO:dU prog w La Bu T)(bu:Bu A)(am:dz A La s)(x:In env G σ s.heap)(h:PW V T env.scope.names σ pos args f=some d):
 wpAny (model prog w) A (eval (.Call f args [] pos) env) (gW G s d) E s:=by
 unfold PW at h;cases ha:N8 f with
 |some a=>
  rw[ha]at h;obtain⟨hc,h⟩:=dD h;rw[a.2];exact Ft VO TO bu am x hc.1.1 hc.1.2 hc.2 h
 |none=>
  rw[ha]at h;obtain⟨n,_,h⟩:=aO h;rw[n.2];exact Fs VO TO bu am x h
theorem Fz(VO:de prog w La Bu V)(TO:dU prog w La Bu T)(bu:Bu A)(am:dz A La s)(x:In env G σ s.heap)(h:PX V T env.scope.names σ e=some d):
 wpAny (model prog w) A (eval e env) (gW G s d) E s:=by
 refine JG (P:=λe=>wpAny (model prog w) A (eval e env) (gW G s d) E s) e (λop es pos h=>Ik VO bu am x h) (λl op r pos h=>Im VO bu am x h) (λop y pos h=>?_) (λt a b pos h=>Mm VO bu am x h) (λelt gens scope pos h=>?_) (λl ops rs pos h=>?_) (λf args Ic pos h=>?_)
  (λc k pos h=>Ml am.tk h) (λv sl pos h=>Il VO bu am x h) (λn pos h=>Fu TO am x h) (λes pos h=>Fw VO bu am x h) (λes k pos h=>Fx VO bu am x h) h
 ·obtain⟨a,h1,h2⟩:=aO h
  exact UnaryOp_ (fO VO bu am x h1 λva s1 k1 _ _ r1=>fG k1 (H3 r1 h2))
 ·obtain⟨out,h1,rfl⟩:=dH h
  exact ai (wC VO bu am x h1) (λ_ _ q=>q.1) λ_ _ e=>e
 ·obtain⟨b,h1,rfl⟩:=dH h
  exact(yH VO TO bu am x h1).1
 ·cases Ic with
  |cons _ _=>exact no h
  |nil=>exact Fy VO TO bu am x h
theorem sE(VO:de prog w La Bu V)(bu:Bu A)(am:dz A La s)(x:In env G σ s.heap)(he:isTrue e env (eval e env)=(do let v<-eval e env;standAt e.pos;holding [v] (truthy v)))(h:(V.d env.scope.names σ e).bind nr=some b):
 wpAny (model prog w) A (isTrue e env (eval e env)) (λb' s'=>b'=b/\Keeps s s') E s:=by
 obtain⟨d,h1,h2⟩:=aO h;exact isTrue_plain (fO VO bu am x h1 λv s1 k1 _ _ r1=>rK k1 (mu r1 h2)) he
theorem FA(VO:de prog w La Bu V)(TO:dU prog w La Bu T)(bu:Bu A)(am:dz A La s)(x:In env G σ s.heap)(h:Yc V T env.scope.names σ e=some b):
 wpAny (model prog w) A (isTrue e env (eval e env)) (λb' s'=>b'=b/\Keeps s s') E s:=by
 refine JG (P:=λe=>wpAny (model prog w) A (isTrue e env (eval e env)) (λb' s'=>b'=b/\Keeps s s') E s) e (λop es pos h=>avK (Ij VO bu am x h)) (λ_ _ _ _ h=>no h) (λop y pos h=>?_) (λ_ _ _ _ h=>no h) (λ_ _ _ _ h=>no h) (λl ops rs pos h=>(yH VO TO bu am x h).2) (λf args k pos h=>sE VO bu am x rfl h)
  (λ_ _ _ h=>no h) (λ_ _ _ h=>no h) (λn pos h=>sE VO bu am x rfl h) (λ_ _ h=>no h) (λ_ _ _ h=>no h) h
 cases op<;>first|exact no h|skip
 obtain⟨c,h1,rfl⟩:=dH h;exact isTrue_not (sA VO bu am x h1 λs1 k1 _ _=>⟨rfl,k1⟩)
theorem lS(VO:de prog w La Bu V)(TO:dU prog w La Bu T):de prog w La Bu (iY T V):=
 ⟨λ_ _ _ _ _ _ _ _ bu am x h=>Fz VO TO bu am x h,λ_ _ _ _ _ _ _ _ bu am x h=>FA VO TO bu am x h⟩
theorem gw(TO:dU prog w La Bu T):∀n,de prog w La Bu (dX T n):=by
 intro zx
 induction zx with
 |zero=>
  exact⟨λ_ _ _ _ _ _ _ _ _ _ _ h=>(nomatch h),λ_ _ _ _ _ _ _ _ _ _ _ h=>(nomatch h)⟩
 |succ n ih=>
  exact lS (ih) TO
end
end
section
theorem Ns.uniq{h:Heap}{a:Addr}{m m':Str->Option Value}(x:h.Ns a m)(y:h.Ns a m')(n:Str):m n=m' n:=by
 obtain⟨o,es,ep,h1,h2,_,h3⟩:=x;obtain⟨o',JL,ep',h1',X0,_,SF⟩:=y;rw[h1]at h1';cases h1';rw[h2]at X0;cases X0;rw[<-h3,<-SF]
def Kf(env:Env)(h:Heap)(n:Str)(v:Value):Prop:=
 (env.kindOf n=some .local->∃m,h.Ns env.locals m/\m n=some v)/\(env.kindOf n=some .cell->∃c,env.cells.lookup n=some c/\h.IsCell c (some v))
theorem Kf.keeps(x:Kf env h n v)(k:bV h h'):Kf env h' n v:=
 ⟨λhk=>by obtain⟨m,a,b⟩:=x.1 hk;exact⟨m,a.keeps k,b⟩,λhk=>by obtain⟨c,a,b⟩:=x.2 hk;exact⟨c,a,b.keeps k⟩⟩
theorem Kf.kept(x:Kf env h n v)(k:Kept X h h')(hl:¬X env.locals)(hc:∀n c,env.cells.lookup n=some c->¬X c):Kf env h' n v:=
 ⟨λhk=>by obtain⟨m,a,b⟩:=x.1 hk;exact⟨m,a.at' λo e=>k _ o hl e,b⟩,λhk=>by obtain⟨c,a,o,b,b'⟩:=x.2 hk;exact⟨c,a,o,k _ _ (hc n c a) b,b'⟩⟩
theorem P0(r0:bW h G D0 (.ref a))(d)(v):sizeOf d<sizeOf D0->bW h G d v->bW h (λb=>G b\/b=a) d v:=
 bW.gen (P:=λd=>sizeOf d<sizeOf D0) (λl p d q=>dF (dF (Xb q) (by simp)) p) (λl p d q=>dF (dF (Xb q) (by simp)) p)
  (λd b o p r nb g=>⟨λq=>q.elim nb λz=>dS _ (bW.inj (z▸r) r0▸p:sizeOf D0<sizeOf D0),g⟩) d v
theorem BH(r0:bW h G D0 (.ref a)):∀(vs:List Value),sizeOf ds<sizeOf D0->aZ h G ds vs->aZ h (λb=>G b\/b=a) ds vs:=by
 induction ds with
 |nil=>exactλ_ _ x=>x
 |cons d ds ih=>
  intro vs hs x;obtain⟨v,r,rfl,a,b⟩:=x.eS;have h1:sizeOf d<sizeOf (d::ds):=by simp;omega
  have h2:sizeOf ds<sizeOf (d::ds):=by simp;omega
  exact .cons (P0 r0 d v (dF h1 hs) a) (ih r (dF h2 hs) b)
def nJ(d:D):Bool:=bX d.ctorIdx 5
theorem lT(hf:nJ d=true)(r:bW h G d v):bW h' G' d v:=by
 cases d with
 |tup l=>cases hf
 |lst l=>cases hf
 |og _ _ _=>cases hf
 |_=>exact r
theorem eO:∀{vs:List Value},ds.all nJ=true->aZ h G ds vs->aZ h' G' ds vs:=by
 induction ds with
 |nil=>exactλ_ r=>r
 |cons d ds ih=>
  intro vs hf r;obtain⟨v,q,rfl,a,b⟩:=r.eS;rw[qO,av]at hf;exact .cons (lT hf.1 a) (ih hf.2 b)
def dA(own:List Str)(σ:cy):cy:=σ.filter λp=> !own.contains p.1
theorem fJ:∀{σ:cy}{n:Str},look (dA own σ) n=if own.contains n=true then none else look σ n:=λ{σ}=>by
 induction σ with
 |nil=>
  intro n;show look [] n=_;dsimp only[look];split<;>rfl
 |cons a r ih=>
  intro n;obtain⟨x,d⟩:=a;unfold dA;rw[dq];dsimp only;by_cases hx:own.contains x=true
  ·rw[hx]
   simp only[qQ,kz,if_false];show look (dA own r) n=_;rw[ih];by_cases hn:x=n
   ·subst hn;rw[if_pos hx,if_pos hx]
   ·by_cases ho:own.contains n=true
    ·rw[if_pos ho,if_pos ho]
    ·rw[if_neg ho,if_neg ho];unfold look;rw[if_neg hn]
     cases r<;>rfl
  ·have Mn:own.contains x=false:=by simpa using hx
   rw[Mn];simp only[Bool.not_false,if_true];show look ((x,d)::dA own r) n=_;dsimp only[look];by_cases hn:x=n
   ·subst hn
    rw[if_pos rfl,if_pos rfl,if_neg hx]
   ·rw[if_neg hn,if_neg hn]
    exact ih
theorem Kg:∀{σ:cy}{n:Str}{d:D},look σ n=some d->d≠.J0:=by
 intro zx
 induction zx with
 |nil=>
  rintro _ _ h;cases h
 |cons zh r ih=>
  obtain⟨x,e⟩:=zh;rintro n d h;unfold look at h;split at h
  ·split at h
   ·cases h
   ·rename_i q
    cases h;exact q
  ·exact ih h
theorem gV:look (put n d σ) n=look (put n d σ') n:=by
 have key:∀σ:cy,look (put n d σ) n=(match d with|.J0=>none|d=>some d):=by
  intro σ
  induction σ with
  |nil=>dsimp only[put,look];rw[if_pos rfl];all_goals (cases d<;>rfl)
  |cons p r ih=>
   obtain⟨x,e⟩:=p;dsimp only[put];split
   ·rename_i hx
    dsimp only[look];rw[if_pos hx];all_goals (cases d<;>rfl)
   ·rename_i hx
    dsimp only[look];rw[if_neg hx];exact ih
 rw[key,key]
section
variable{prog:bb}{w:World}{A:aC}{E:Value->ah->Prop}{s:ah}{env:Env}{G:Addr->Prop}{σ:cy}
theorem In.abp{n:Str}{d:D}{v:Value}(x:In env G σ s.heap)(hk:env.kindOf n=some .local\/env.kindOf n=some .cell)(r:d≠.J0->bW s.heap G d v):
 wpAny (model prog w) A (storeName env n v) (λ_ s'=>Upd (λa=>a=env.locals\/env.cells.lookup n=some a) s s'/\In env G (put n d σ) s'.heap/\Kf env s'.heap n v/\∀k u,k≠n->Kf env s.heap k u->Kf env s'.heap k u) E s:=by
 obtain⟨m,hm,hv⟩:=x.va;rcases hk with hk|hk
 ·refine m8 hk hm (λh' PG om=>?_) (by rw[x.fn];rfl)
  have u:Upd (λa=>a=env.locals) s {s with heap:=h',toks:=s.toks+1}:=⟨h',_,rfl,λb o hb e=>om.extBut b o hb e⟩
  refine⟨u.more λa q=>.inl q,⟨x.fn,x.gl,x.bi,?_,x.fl,x.fc,x.inj,λk mO=>?_,⟨_,PG,λk e he=>⟨λmO=>?_,λmO=>?_⟩⟩⟩,⟨λ_=>⟨_,PG,by simp⟩,λq=>by rw[hk]at q;cases q⟩,λk u j1 P4=>⟨λq=>?_,λq=>?_⟩⟩
  ·obtain⟨o,_,_,ho,_⟩:=PG
   exact x.lo.sameBut om (by rw[ho];rfl)
  ·obtain⟨c,v',h1,h2⟩:=x.ce k mO
   exact⟨c,v',h1,h2.sameBut om (x.fc k c h1).2⟩
  ·by_cases j1:k=n
   ·subst j1
    have:=iX he;subst this;exact⟨v,by simp,u.rep (λa q=>q▸x.fl) (r (Kg he))⟩
   ·rw[cZ j1]at he
    obtain⟨v',h1,h2⟩:=(hv k e he).1 mO;exact⟨v',by simpa [j1]using h1,u.rep (λa q=>q▸x.fl) h2⟩
  ·have j1:k≠n:=λq=>by subst q;rcases mO with mO|mO<;>(rw[hk]at mO;cases mO)
   rw[cZ j1]at he;obtain⟨c,v',h1,h2,h3⟩:=(hv k e he).2 mO;exact⟨c,v',h1,h2.sameBut om (x.fc k c h1).2,u.rep (λa q=>q▸x.fl) h3⟩
  ·obtain⟨m',h1,h2⟩:=P4.1 q
   exact⟨_,PG,by rw[if_neg j1,Ns.uniq hm h1];exact h2⟩
  ·obtain⟨c,h1,h2⟩:=P4.2 q
   exact⟨c,h1,h2.sameBut om (x.fc k c h1).2⟩
 ·obtain⟨c,ao9,hc,hc0⟩:=x.ce n hk
  refine ate x.fn hk hc hc0 λh' Mf om=>?_;have u:Upd (λa=>a=c) s {s with heap:=h'}:=⟨h',_,rfl,λb o hb e=>om.extBut b o hb e⟩
  have oo:=(x.fc n c hc).2;have hcG:=(x.fc n c hc).1;refine⟨u.more λa q=>.inr (q▸hc),⟨x.fn,x.gl,x.bi,?_,x.fl,x.fc,x.inj,λk mO=>?_,⟨m,hm.sameBut om (gm oo),λk e he=>⟨λmO=>?_,λmO=>?_⟩⟩⟩,⟨(λq=>by rw[hk]at q;cases q),λ_=>⟨c,hc,Mf⟩⟩,λk u' j1 P4=>⟨λq=>?_,λq=>?_⟩⟩
  ·obtain⟨o,ho,_⟩:=Mf
   exact x.lo.sameBut om (by rw[ho];rfl)
  ·by_cases j1:k=n
   ·subst j1;exact⟨c,_,hc,Mf⟩
   ·obtain⟨c',v',h1,h2⟩:=x.ce k mO
    exact⟨c',v',h1,h2.sameBut om λq=>j1 (x.inj k n c (q▸h1) hc)⟩
  ·have j1:k≠n:=λq=>by subst q;rw[hk]at mO;cases mO
   rw[cZ j1]at he;obtain⟨v',h1,h2⟩:=(hv k e he).1 mO;exact⟨v',h1,u.rep (λa q=>q▸hcG) h2⟩
  ·by_cases j1:k=n
   ·subst j1
    have:=iX he;subst this;exact⟨c,v,hc,Mf,u.rep (λa q=>q▸hcG) (r (Kg he))⟩
   ·rw[cZ j1]at he
    obtain⟨c',v',h1,h2,h3⟩:=(hv k e he).2 mO;exact⟨c',v',h1,h2.sameBut om (λq=>j1 (x.inj k n c (q▸h1) hc)),u.rep (λa q=>q▸hcG) h3⟩
  ·obtain⟨m',h1,h2⟩:=P4.1 q
   exact⟨m',h1.sameBut om (gm oo),h2⟩
  ·obtain⟨c',h1,h2⟩:=P4.2 q
   exact⟨c',h1,h2.sameBut om λz=>j1 (x.inj k n c (z▸h1) hc)⟩
end
end
section
def Kh:q0->Bool
 |.Add=>true
 |_=>false
theorem P5(h:Kh op=true):op=.Add:=by cases op<;>first|rfl|exact l8 h
inductive FrI:ae->Prop
 |lst (es:List ae) (pos:Pos):FrI (.List es pos)
 |comp (elt:ae) (gens:List d7) (scope:Scope) (pos:Pos):FrI (.ListComp elt gens scope pos)
 |bin (l r:ae) (pos:Pos):FrI (.BinOp l .Add r pos)
 |call (args:List ae) (Ic:List SY) (fp pos:Pos):FrI (.Call (.Name "list" fp) args Ic pos)
def frQ(e):Option (PLift (FrI e)):=
 match ae8 e with
 |some x=>some ⟨x.2▸.lst _ _⟩
 |none=>match Xi e with
  |some x=>some ⟨x.2▸.comp _ _ _ _⟩
  |none=>match anm e with
   |some x=>if h:Kh x.1.2.1=true then some ⟨by rw[x.2,P5 h];exact .bin _ _ _⟩else none
   |none=>(N9 e).bind λx=>(sf x.1.1).bind λy=>if h:y.1.1=("list":Str)then some ⟨by rw[x.2,y.2,h];exact .call _ _ _ _⟩else none
def j4(e:ae):Bool:=(frQ e).isSome
theorem frI(h:j4 e=true):FrI e:=((frQ e).get h).down
section
variable{prog:bb}{w:World}{A:aC}{E:Value->ah->Prop}{G:Addr->Prop}{env:Env}{La:Heap->Prop}{Bu:aC->Prop}{V:Ev}{T:ek}{σ:cy}{s:ah}
theorem kG.before(k:Keeps s s')(f:kG s' v):kG s v:=by
 obtain⟨a,e,h⟩:=f;refine⟨a,e,?_⟩;cases g:s.heap.get? a with
 |none=>rfl
 |some o=>rw[Keeps.all k a o g]at h;cases h
theorem Io(ok:Ok A G s)(r:aZ s.heap G ds vs)(e:cM .list ds=some d):
 wpAny (model prog w) A (call (.type "list") vs) (λv s'=>gW G s d v s'/\kG s v) E s:=
 d1E (P:=λvs=>wpAny (model prog w) A (call (.type "list") vs) (λv s'=>gW G s d v s'/\kG s v) E s) r e λx v r e=>yq ok r e
theorem Ip(VO:de prog w La Bu V)(TO:dU prog w La Bu T)(bu:Bu A)(am:dz A La s)(x:In env G σ s.heap)(h:Kc V T env.scope.names σ "list" args=some (.lst ds)):
 wpAny (model prog w) A (eval (.Call (.Name "list" fp) args [] pos) env) (λv s'=>gW G s (.lst ds) v s'/\kG s v) E s:=by
 unfold Kc at h;obtain⟨hk,h⟩:=dD h;rw[if_neg (by decide)]at h;obtain⟨xh,h1,h2⟩:=aO h;rw[show Bi.of (tF "list")=some .list from by rfl']at h2;have hp:=(j3 (env:=env) (pos:=pos) h1).1;show wpAny _ _ (do callWith pos (<-eval (.Name "list" fp) env) [] (backTo pos (starEach args env)) []) _ _ _;refine ao (nH x hk.1 hk.2 (.inr (TO.bi _ .list (am.la _ λ_ _ e=>e))) ?_);refine xu hp (dY hp ?_);refine ai (bw am.tk (nA VO bu am x h1)) (λvs s1 q1=>?_) λ_ _ e=>e;exact ai (Io ((am.keeps q1.2.1 q1.1).ok (x.keeps (Keeps.all q1.2.1)).lo) q1.2.2 h2) (λv s3 q3=>⟨⟨Keeps.trans' q1.2.1 q3.1.1,q3.1.2⟩,kG.before q1.2.1 q3.2⟩) λ_ _ e=>e
theorem wF(VO:de prog w La Bu V)(TO:dU prog w La Bu T)(bu:Bu A)(am:dz A La s)(x:In env G σ s.heap)(hf:j4 e=true)(h:PX V T env.scope.names σ e=some (.lst ds)):
 wpAny (model prog w) A (eval e env) (λv s'=>gW G s (.lst ds) v s'/\kG s v) E s:=by
 cases frI hf with
 |lst es pos=>
  obtain⟨xh,h1,h2⟩:=aO h;obtain⟨hl,h2⟩:=bx h2;refine wpAny_List (ai (nA VO bu am x h1) (λvs s1 q1=>⟨?_,?_⟩) λ_ _ e=>e)
  ·rw[q1.2.length];exact aq hl ip
  ·exact D.lst.inj h2▸⟨⟨Keeps.trans' q1.1 (Keeps.push _),nq (x.keeps (Keeps.all q1.1)).lo q1.2⟩,kG.before q1.1 ⟨_,rfl,kr _⟩⟩
 |comp elt gens scope pos=>
  obtain⟨out,h1,h2⟩:=dH h;exact D.lst.inj h2▸wC VO bu am x h1
 |bin l r pos=>
  obtain⟨a,h1,h2⟩:=aO h;obtain⟨b,h3,h4⟩:=aO h2;refine A7 (ai (bw am.tk (VO.d A E env G σ s l a bu am x h1)) (λva s1 q1=>?_) λ_ _ e=>e);have x1:=x.keeps (Keeps.all q1.2.1);refine ai (bw q1.1 (VO.d A E env G σ s1 r b bu (am.keeps q1.2.1 q1.1) x1 h3)) (λvc s2 q2=>?_) λ_ _ e=>e;exact ai (Bl q2.1 (x1.keeps (Keeps.all q2.2.1)).lo (q1.2.2.keeps (Keeps.all q2.2.1)) q2.2.2 h4) (λv s3 q3=>⟨⟨Keeps.trans' (Keeps.trans' q1.2.1 q2.2.1) q3.1.1,q3.1.2⟩,kG.before (Keeps.trans' q1.2.1 q2.2.1) (q3.2 rfl)⟩) λ_ _ e=>e
 |call args Ic fp pos=>
  cases Ic with
  |cons _ _=>exact no h
  |nil=>exact Ip VO TO bu am x h
end
end
section
def Ow(env:Env)(n:Str):Prop:=env.kindOf n=some .local\/env.kindOf n=some .cell
structure n7(env:Env)(F:Addr->Prop)(az:ah):Prop where
 hl:az.heap.get? env.locals=none
 hc:∀n c,Ow env n->env.cells.lookup n=some c->az.heap.get? c=none
 lo:iW F az.heap
inductive ait(env:Env)(h₀:Heap)(σ:cy)(h:Heap)(G:Addr->Prop)(n:Str)(a:Addr):Prop
 |mk (hk:env.kindOf n=some .local\/env.kindOf n=some .cell) (hv:Kf env h n (.ref a)) (hg:G a) (hn:h₀.get? a=none) (ds:List D) (hl:look σ n=some (.lst ds)) (ac:Acc G h a ds)
structure SI(env:Env)(F:Addr->Prop)(az:ah)(σ:cy)(own:List Str)(s:ah)(G:Addr->Prop)(oa:Str->Addr):Prop where
 hF:∀a,F a->G a
 hN:∀a,G a->F a\/az.heap.get? a=none
 kp:Keeps az s
 tk:1<=s.toks
 ie:In env G (dA own σ) s.heap
 ow:∀n,n∈own->ait env az.heap σ s.heap G n (oa n)
 od:∀n,n∈own->oa n≠env.locals/\∀k,env.cells.lookup k≠some (oa n)
 oi:∀n n',n∈own->n'∈own->oa n=oa n'->n=n'
def rL(n:Str)(own:List Str):List Str:=own.filter λm=>m != n
theorem iq:m∈rL n own↔m∈own/\m≠n:=by
 unfold rL;rw[gC];simp
section
variable{prog:bb}{w:World}{A:aC}{E:Value->ah->Prop}{G F:Addr->Prop}{env:Env}{az s s':ah}{σ:cy}{own:List Str}{oa:Str->Addr}
theorem SI.owG(si:SI env F az σ own s G oa)(hn:n∈own):G (oa n):=by
 obtain⟨_,_,h⟩:=si.ow n hn;exact h
theorem SI.owN(si:SI env F az σ own s G oa)(hn:n∈own):az.heap.get? (oa n)=none:=by
 obtain⟨_,_,_,h⟩:=si.ow n hn;exact h
theorem SI.keeps(si:SI env F az σ own s G oa)(k:Keeps s s')(t:1<=s'.toks):SI env F az σ own s' G oa:=
 ⟨si.hF,si.hN,Keeps.trans' si.kp k,t,si.ie.keeps (Keeps.all k),λn hn=>by
   obtain⟨h1,h2,h3,h4,ds,h5,h6⟩:=si.ow n hn;exact⟨h1,h2.keeps (Keeps.all k),h3,h4,ds,h5,h6.keeps (Keeps.all k)⟩,si.od,si.oi⟩
theorem SI.weak(si:SI env F az σ own s G oa):In env (λa=>G a/\∀n,n∈own->a≠oa n) σ s.heap:=by
 have x:=si.ie;have hs:∀a,(G a/\∀n,n∈own->a≠oa n)->G a:=λa q=>q.1;refine⟨x.fn,x.gl,x.bi,λb q=>x.lo b q.1,⟨x.fl,λn hn q=>(si.od n hn).1 q.symm⟩,λn c e=>⟨⟨(x.fc n c e).1,λm hm q=>(si.od m hm).2 n (q▸e)⟩,(x.fc n c e).2⟩,x.inj,x.ce,?_⟩;obtain⟨m,hm,hv⟩:=x.va;refine⟨m,hm,λn d e=>?_⟩;by_cases hn:n∈own
 ·obtain⟨h1,h2,h3,h4,ds,h5,vs,k,h6,h7⟩:=si.ow n hn
  rw[e]at h5;cases h5;have rep:bW s.heap (λa=>G a/\∀n,n∈own->a≠oa n) (.lst ds) (.ref (oa n)):=by
   exact hO (vs:=vs.toList) (λq=>q.2 n hn rfl) h6 (h7.less λb q=>.inl q.1)
  refine⟨λhk=>?_,λhk=>?_⟩
  ·obtain⟨m',q1,q2⟩:=h2.1 hk
   exact⟨_,by rw[Ns.uniq hm q1];exact q2,rep⟩
  ·obtain⟨c,q1,q2⟩:=h2.2 (hk.resolve_right λq=>by rcases h1 with h1|h1<;>(rw[h1]at q;cases q))
   exact⟨c,_,q1,q2,rep⟩
 ·have e':look (dA own σ) n=some d:=by
   rw[fJ,if_neg (by simpa using hn)];exact e
  refine⟨λhk=>?_,λhk=>?_⟩
  ·obtain⟨v,q1,q2⟩:=(hv n d e').1 hk
   exact⟨v,q1,q2.less λb q=>.inl q.1⟩
  ·obtain⟨c,v,q1,q2,q3⟩:=(hv n d e').2 hk
   exact⟨c,v,q1,q2,q3.less λb q=>.inl q.1⟩
theorem SI.Fj{Y:Addr->Prop}(si:SI env F az σ own s G oa)(k:Keeps s s')(t:1<=s'.toks)(h0:∀a,Y a->s.heap.get? a=none)(h1:∀a,Y a->(s'.heap.get? a).isSome=true):SI env F az σ own s' (λb=>G b\/Y b) oa:=by
 have h00:∀a,Y a->az.heap.get? a=none:=λa q=>by
  cases e:az.heap.get? a with
  |none=>rfl
  |some o=>have:=Keeps.all si.kp a o e;rw[h0 a q]at this;cases this
 refine⟨λb q=>.inl (si.hF b q),λb q=>?_,Keeps.trans' si.kp k,t,si.ie.Fj (Keeps.all k) h0 h1,λn hn=>?_,si.od,si.oi⟩
 ·rcases q with q|q
  ·exact si.hN b q
  ·exact .inr (h00 b q)
 ·obtain⟨q1,q2,q3,q4,ds,q5,vs,m,q6,q7⟩:=si.ow n hn
  exact⟨q1,q2.keeps (Keeps.all k),.inl q3,q4,ds,q5,vs,m,Keeps.all k _ _ q6,aZ.kept (F:=G) (λb o _ e=>Keeps.all k b o e) (λb q=>Or.imp id (h0 b) q) _ _ q7⟩
theorem SI.grow(si:SI env F az σ own s G oa)(k:Keeps s s')(t:1<=s'.toks)(h0:s.heap.get? a=none)(h1:(s'.heap.get? a).isSome=true):SI env F az σ own s' (λb=>G b\/b=a) oa:=
 si.Fj k t (λ_ q=>q▸h0) (λ_ q=>q▸h1)
theorem SI.shrink(si:SI env F az σ own s G oa)(u:Upd (λa=>a=C) s s')(t:1<=s'.toks)(hC:G C)(hCF:¬F C)(h0:az.heap.get? C=none)(hl:C≠env.locals)(hc:∀n,env.cells.lookup n≠some C)(ho:∀n,n∈own->oa n≠C):
 SI env F az σ own s' (λa=>G a/\a≠C) oa:=by
 have kp:Kept (λa=>a=C) s.heap s'.heap:=u.kept λ_ q=>q;refine⟨λb q=>⟨si.hF b q,λz=>hCF (z▸q)⟩,λb q=>si.hN b q.1,u.keeps (λa q=>q▸h0) si.kp,t,si.ie.shrink u hC hl hc,λn hn=>?_,si.od,si.oi⟩;obtain⟨q1,q2,q3,q4,ds,q5,vs,m,q6,q7⟩:=si.ow n hn;exact⟨q1,q2.kept kp (λz=>hl z.symm) (λn c e z=>hc n (z▸e)),⟨q3,ho n hn⟩,q4,ds,q5,vs,m,kp _ _ (ho n hn) q6,(u.Fb (G:=G) (λa q=>q▸hC) q7).less λb q=>.inl q.1⟩
theorem n7.apq(fr:n7 env F az)(hk:Ow env n)(h:a=env.locals\/env.cells.lookup n=some a):az.heap.get? a=none:=by
 rcases h with h|h
 ·exact h▸fr.hl
 ·exact fr.hc n a hk h
theorem SI.bind(si:SI env F az σ own s G oa)(fr:n7 env F az)(hk:env.kindOf n=some .local\/env.kindOf n=some .cell)(r:d≠.J0->bW s.heap G d v):
 wpAny (model prog w) A (storeName env n v) (λ_ s'=>1<=s'.toks/\Upd (λa=>a=env.locals\/env.cells.lookup n=some a) s s'/\SI env F az (put n d σ) (rL n own) s' G oa/\Kf env s'.heap n v) E s:=by
 refine ai (bw si.tk (si.ie.abp hk r)) (λ_ s' q=>?_) λ_ _ e=>e;obtain⟨t,u,x,hv,hvs⟩:=q;have H6:∀a,(a=env.locals\/env.cells.lookup n=some a)->G a:=λa q=>by
  rcases q with q|q
  ·exact q▸si.ie.fl
  ·exact(si.ie.fc n a q).1
 refine⟨t,u,⟨si.hF,si.hN,u.keeps (λa q=>fr.apq hk q) si.kp,t,x.sub λk e he=>?_,λk jU=>?_,λk jU=>si.od k (iq.mp jU).1,λk k' h1 h2=>si.oi k k' (iq.mp h1).1 (iq.mp h2).1⟩,hv⟩
 ·rw[fJ]at he
  split at he
  ·cases he
  ·rename_i hc
   by_cases j1:k=n
   ·subst j1
    rw[gV (σ':=σ)];exact he
   ·rw[cZ j1]at he⊢
    rw[fJ,if_neg ?_]
    ·exact he
    ·intro q
     exact hc (by simpa using iq.mpr ⟨by simpa using q,j1⟩)
 ·obtain⟨hm,m7⟩:=iq.mp jU
  obtain⟨q1,q2,q3,q4,ds,q5,q6⟩:=si.ow k hm;refine⟨q1,hvs k _ m7 q2,q3,q4,ds,by rw[cZ m7];exact q5,q6.kept (u.kept λ_ q=>q) H6 λz=>?_⟩;rcases z with z|z
  ·exact(si.od k hm).1 z
  ·exact(si.od k hm).2 n z
def qZ(oa:Str->Addr)(n:Str)(a:Addr):Str->Addr:=λk=>if k=n then a else oa k
theorem SI.P6(si:SI env F az σ own s G oa)(fr:n7 env F az)(hk:env.kindOf n=some .local\/env.kindOf n=some .cell)(hG:G a)(h0:az.heap.get? a=none)(ac:Acc G s.heap a ds)
(hl:a≠env.locals)(hc:∀k,env.cells.lookup k≠some a)(hn:∀k,k∈own->k≠n->oa k≠a):
 wpAny (model prog w) A (storeName env n (.ref a)) (λ_ s'=>1<=s'.toks/\Upd (λa=>a=env.locals\/env.cells.lookup n=some a) s s'/\SI env F az (put n (.lst ds) σ) (n::rL n own) s' G (qZ oa n a)) E s:=by
 refine ai (SI.bind (d:=.J0) si fr hk (λq=>absurd rfl q)) (λ_ s' q=>?_) λ_ _ e=>e;obtain⟨t,u,Mp,hv⟩:=q;have H6:∀a,(a=env.locals\/env.cells.lookup n=some a)->G a:=λa q=>by
  rcases q with q|q
  ·exact q▸si.ie.fl
  ·exact(si.ie.fc n a q).1
 have m7:∀{k},k∈rL n own->k≠n:=λh=>(iq.mp h).2;refine⟨t,u,⟨Mp.hF,Mp.hN,Mp.kp,t,Mp.ie.sub λk e he=>?_,λk jU=>?_,λk jU=>?_,λk k' h1 h2 e=>?_⟩⟩
 ·rw[fJ]at he⊢
  split at he
  ·cases he
  ·rename_i hcn
   have j1:k≠n:=λz=>hcn (by subst z;simp);rw[cZ j1]at he;rw[if_neg (λz=>hcn (by simp at z⊢;exact .inr z)),cZ j1];exact he
 ·rcases aJ.mp jU with rfl|hm
  ·refine⟨hk,by unfold qZ;rw[if_pos rfl];exact hv,by unfold qZ;rw[if_pos rfl];exact hG,by unfold qZ;rw[if_pos rfl];exact h0,ds,?_,?_⟩
   ·have:∀σ:cy,look (put k (.lst ds) σ) k=some (.lst ds):=λσ=>by
     rw[gV (σ':=[])];dsimp only[put,look];rw[if_pos rfl]
    exact this σ
   ·unfold qZ;rw[if_pos rfl]
    refine ac.kept (u.kept λ_ q=>q) H6 λz=>?_;rcases z with z|z
    ·exact hl z
    ·exact hc _ z
  ·obtain⟨q1,q2,q3,q4,xh,q5,q6⟩:=Mp.ow k hm
   have j1:=m7 hm;have e:qZ oa n a k=oa k:=if_neg j1;rw[e];exact⟨q1,q2,q3,q4,xh,by rw[cZ j1]at q5⊢;exact q5,q6⟩
 ·rcases aJ.mp jU with rfl|hm
  ·unfold qZ;rw[if_pos rfl];exact⟨hl,hc⟩
  ·unfold qZ;rw[if_neg (m7 hm)];exact Mp.od k hm
 ·rcases aJ.mp h1 with rfl|hm<;>rcases aJ.mp h2 with rfl|hm'
  ·rfl
  ·exfalso
   have e1:qZ oa k a k=a:=if_pos rfl;have e2:qZ oa k a k'=oa k':=if_neg (m7 hm');rw[e1,e2]at e;exact hn k' (iq.mp hm').1 (m7 hm') e.symm
  ·exfalso
   have e1:qZ oa k' a k'=a:=if_pos rfl;have e2:qZ oa k' a k=oa k:=if_neg (m7 hm);rw[e1,e2]at e;exact hn k (iq.mp hm).1 (m7 hm) e
  ·have e1:qZ oa n a k=oa k:=if_neg (m7 hm)
   have e2:qZ oa n a k'=oa k':=if_neg (m7 hm');rw[e1,e2]at e;exact Mp.oi k k' hm hm' e
end
end
section
def fb(V:Ev)(ks:bY)(σ:cy)(own:List Str)(e:ae):Option (D×Bool):=
 match V.d ks (dA own σ) e with
 |some d=>some (d,j4 e&&mr d)
 |none=>match V.d ks σ e with
  |some (.lst ds)=>if j4 e=true/\ds.all nJ=true then some (.lst ds,true)else none
  |some d=>if nJ d=true then some (d,false)else none
  |none=>none
section
variable{prog:bb}{w:World}{A:aC}{E:Value->ah->Prop}{G F:Addr->Prop}{env:Env}{az s s':ah}{σ:cy}{own:List Str}{oa:Str->Addr}{La:Heap->Prop}{Bu:aC->Prop}{V0:Ev}{T:ek}
theorem BI(lo:iW G s.heap)(f:kG s v):∃a,v=.ref a/\s.heap.get? a=none/\¬G a:=by
 obtain⟨a,e,h⟩:=f;exact⟨a,e,h,λq=>by
  have:=lo a q;rw[h]at this;cases this⟩
inductive EFI(V:Ev)(ks:bY)(σ:cy)(own:List Str)(e:ae)(d:D)(fl:Bool):Prop
 |own (h1:V.d ks (dA own σ) e=some d) (h2:fl=(j4 e&&mr d))
 |lst (ds:List D) (h1:V.d ks σ e=some (.lst ds)) (h2:j4 e=true) (h3:ds.all nJ=true) (hd:d=.lst ds)
 |aN (h1:V.d ks σ e=some d) (h2:nJ d=true) (h3:fl=false)
theorem Mq(h:fb V ks σ own e=some (d,fl)):EFI V ks σ own e d fl:=by
 unfold fb at h;cases h1:V.d ks (dA own σ) e with
 |some d'=>rw[h1]at h;cases h;exact .own h1 rfl
 |none=>
  rw[h1]at h;cases h2:V.d ks σ e with
  |none=>rw[h2]at h;exact no h
  |some d'=>
   rw[h2]at h;clear h1;cases d' with
   |lst ds=>
    obtain⟨q,z⟩:=bx h;cases z;exact .lst ds h2 q.1 q.2 rfl
   |_=>
    obtain⟨q,z⟩:=bx h;cases z;exact .aN h2 q rfl
structure EvF(G:Addr->Prop)(s:ah)(d:D)(fl:Bool)(v:Value)(s':ah):Prop where
 t:1<=s'.toks
 k:Keeps s s'
 r:bW s'.heap G d v
 f:fl=true->kG s v/\mr d=true
theorem gE(VO:de prog w La Bu V0)(TO:dU prog w La Bu T)(bu:Bu A)(am:dz A La az)(si:SI env F az σ own s G oa)(h:fb (iY T V0) env.scope.names σ own e=some (d,fl)):
 wpAny (model prog w) A (eval e env) (EvF G s d fl) E s:=by
 have DK:=am.keeps si.kp si.tk;have VS:=lS VO TO;cases Mq h with
 |own hd hf=>
  subst hf;cases hb:j4 e&&mr d
  ·exact ai (bw si.tk (VS.d A E env G _ s e d bu DK si.ie hd)) (λv s1 q=>⟨q.1,q.2.1,q.2.2,DI⟩) λ_ _ e=>e
  ·obtain⟨h1,h2⟩:=bZ.mp hb
   cases d<;>first|exact DI h2|skip
   exact ai (bw si.tk (wF VO TO bu DK si.ie h1 hd)) (λv s1 q=>⟨q.1,q.2.1.1,q.2.1.2,λ_=>⟨q.2.2,rfl⟩⟩) λ_ _ e=>e
 |lst ds hd h1 h2 e0=>
  subst e0;refine ai (bw si.tk (wF VO TO bu DK si.weak h1 hd)) (λv s1 q=>?_) λ_ _ e=>e;obtain⟨t,⟨k,r⟩,fr⟩:=q;refine⟨t,k,?_,λ_=>⟨fr,rfl⟩⟩;obtain⟨a,rfl,h0,nG⟩:=BI si.ie.lo fr;obtain⟨b,vs,n,e1,_,g,rs⟩:=r.lst;cases e1;exact hO nG g (eO h2 rs)
 |aN hd hf e0=>
  subst e0;exact ai (bw si.tk (VS.d A E env _ σ s e d bu DK si.weak hd)) (λv s1 q=>⟨q.1,q.2.1,lT hf q.2.2,DI⟩) λ_ _ e=>e
end
end
section
inductive Fl where
 |nx (σ:cy) (own:List Str)
 |rt (d:D)
def FP(env:Env)(F:Addr->Prop)(az:ah):Fl->Flow->ah->Prop
 |.nx σ own,f,s'=>f=.next/\∃G oa,SI env F az σ own s' G oa
 |.rt d,f,s'=>∃v,f=.ret v/\Keeps az s'/\1<=s'.toks/\bW s'.heap F d v
def Az(ks:bY)(n:Str):Bool:=match ks.lookup n with|some .local=>true|some .cell=>true|_=>false
theorem qf{env:Env}{n:Str}(h:Az env.scope.names n=true):env.kindOf n=some .local\/env.kindOf n=some .cell:=by
 unfold Az at h;split at h
 ·rename_i q;exact .inl q
 ·rename_i q;exact .inr q
 ·cases h
def kQ(W:List Str)(n:Str)(c:D×Bool)(p:cy×List Str):cy×List Str:=
 (put n c.1 p.1,if(c.2&&W.contains n)=true then n::rL n p.2 else rL n p.2)
def Ki(ks:bY)(n:Str)(p:Pos)(s:Scope)(vp:Pos):Bool:=ks.lookup n==some .local&&p.line==vp.line&& !(s.names.any λx=>x.1==n&&(x.2==.local||x.2==.cell))
def my(ks:bY)(n:Str)(p:Pos)(e:ae):Bool:=
 eY (motive_1:=λ_=>Bool) e (λ_ _ _=>false) (λ_ _ _=>false) (λ_ _ _ _=>false) (λ_ _ _=>false) (λ_ _ _ _=>false) (λ_ _ _ _=>false) (λ_ _ _=>false) (λ_ _ _=>false) (λ_ _ s vp=>Ki ks n p s vp) (λ_ _ s vp=>Ki ks n p s vp) (λ_ _ _ s vp=>Ki ks n p s vp)
  (λ_ _ _ _=>false) (λ_ _=>false) (λ_ _=>false) (λ_ _=>false) (λ_ _ _ _=>false) (λ_ _ _ _=>false) (λ_ _ _ _=>false) (λ_ _=>false) (λ_ _ _=>false) (λ_ _ _=>false) (λ_ _ _=>false) (λ_ _=>false) (λ_ _=>false) (λ_ _=>false) (λ_ _ _=>false) (λ_ _ _ _=>false)
section
variable{prog:bb}{w:World}{A:aC}{E:Value->ah->Prop}{G F:Addr->Prop}{env:Env}{az s s':ah}{σ:cy}{own W:List Str}{oa:Str->Addr}{La:Heap->Prop}{Bu:aC->Prop}{V0:Ev}{T:ek}
theorem sF(h:env.scope.kind=.function):env.blockKind=.function:=by
 unfold Env.blockKind;rw[h];rfl
theorem nL(hf:env.scope.kind=.function)(n:Str)(p:Pos)(e:ae)(l:Nat):swapsWith e (some (.Name n p)) l env=pure (my env.scope.names n p e):=by
 have k:(pure false:Sem Bool)=pure false:=rfl;have c:∀(s:Scope)(vp:Pos),(pure (env.blockKind==.function&&env.kindOf n==some .local&&p.line==vp.line&& !(s.names.any λx=>x.1==n&&(x.2==.local||x.2==.cell))):Sem Bool)=pure (Ki env.scope.names n p s vp):=λs vp=>by rw[sF hf];rfl
 exact eY (motive_1:=λe=>swapsWith e (some (.Name n p)) l env=pure (my env.scope.names n p e)) e (λ_ _ _=>k) (λ_ _ _=>k) (λ_ _ _ _=>k) (λ_ _ _=>k) (λ_ _ _ _=>k) (λ_ _ _ _=>k) (λ_ _ _=>k) (λ_ _ _=>k) (λ_ _ s vp=>c s vp) (λ_ _ s vp=>c s vp) (λ_ _ _ s vp=>c s vp)
  (λ_ _ _ _=>k) (λ_ _=>k) (λ_ _=>k) (λ_ _=>k) (λ_ _ _ _=>k) (λ_ _ _ _=>k) (λ_ _ _ _=>k) (λ_ _=>k) (λ_ _ _=>k) (λ_ _ _=>k) (λ_ _ _=>k) (λ_ _=>k) (λ_ _=>k) (λ_ _=>k) (λ_ _ _=>k) (λ_ _ _ _=>k)
theorem SI.abq(h:∀a,G a↔G' a)(si:SI env F az σ own s G oa):SI env F az σ own s G' oa:=by
 have:G=G':=funext λa=>propext (h a);rwa[<-this]
theorem rM(fr:n7 env F az)(hk:env.kindOf n=some .local\/env.kindOf n=some .cell)(si:SI env F az σ own s G oa)(r:bW s.heap G d v)
(P7:fl=true->mr d=true/\∃a,v=.ref a/\SI env F az σ own s (λb=>G b\/b=a) oa/\az.heap.get? a=none/\a≠env.locals/\(∀k,env.cells.lookup k≠some a)/\∀k,k∈own->oa k≠a):
 wpAny (model prog w) A (storeName env n v) (λ_ s'=>1<=s'.toks/\Upd (λa=>a=env.locals\/env.cells.lookup n=some a) s s'/\∃G' FC,SI env F az (kQ W n (d,fl) (σ,own)).1 (kQ W n (d,fl) (σ,own)).2 s' G' FC/\(∀b,G b->G' b)/\
  (∀b,G' b->G b\/v=.ref b)/\∀C,(∀k,k∈own->oa k≠C)->v≠.ref C->∀k,k∈(kQ W n (d,fl) (σ,own)).2->FC k≠C) E s:=by
 unfold kQ;dsimp only;split
 ·rename_i hw
  rw[av]at hw;obtain⟨hl,a,rfl,Mp,h0,h1,h2,h3⟩:=P7 hw.1;obtain⟨ds,rfl⟩:=uc hl;have ac:Acc (λb=>G b\/b=a) s.heap a ds:=by
   have r':=r;obtain⟨b,vs,k,e,nb,g,rs⟩:=r.lst;cases e;exact⟨vs.toArray,k,g,BH r' vs (by simp) rs⟩
  refine ai (SI.P6 Mp fr hk (.inr rfl) h0 ac h1 h2 λk jU _=>h3 k jU) (λ_ s1 q=>?_) λ_ _ e=>e;refine⟨q.1,q.2.1,_,_,q.2.2,λb z=>.inl z,λb z=>Or.imp id (λ(z:b=a)=>z▸rfl) z,λC hC hv k jU=>?_⟩;unfold qZ;split
  ·intro z;exact hv (z▸rfl)
  ·rename_i j1
   rcases aJ.mp jU with z|z
   ·exact absurd z j1
   ·exact hC k (iq.mp z).1
 ·refine ai (SI.bind si fr hk (λ_=>r)) (λ_ s1 q=>?_) λ_ _ e=>e
  exact⟨q.1,q.2.1,_,_,q.2.2.1,λb z=>z,λb z=>.inl z,λC hC _ k jU=>hC k (iq.mp jU).1⟩
theorem SI.CJ(si:SI env F az σ own s G oa)(k:Keeps s s')(t:1<=s'.toks)(r:bW s'.heap gR d v)(hd:mr d=true)(f:kG s v):
 ∃a,v=.ref a/\s.heap.get? a=none/\(s'.heap.get? a).isSome=true/\SI env F az σ own s' (λb=>G b\/b=a) oa/\az.heap.get? a=none/\a≠env.locals/\(∀k,env.cells.lookup k≠some a)/\∀k,k∈own->oa k≠a:=by
 obtain⟨a,rfl,h0,nG⟩:=BI si.ie.lo f;have h1:(s'.heap.get? a).isSome=true:=by
  obtain⟨_,rfl⟩:=uc hd;obtain⟨b,vs,n,e,_,g,_⟩:=r.lst;cases e;rw[show s'.heap.get? a=some _ from g];rfl
 refine⟨a,rfl,h0,h1,si.grow k t h0 h1,?_,λz=>nG (z▸si.ie.fl),λk z=>nG (si.ie.fc k a z).1,λk hk z=>nG (z▸(si.owG hk))⟩;cases e:az.heap.get? a with
 |none=>rfl
 |some o=>rw[Keeps.all si.kp a o e]at h0;cases h0
theorem AA(VO:de prog w La Bu V0)(TO:dU prog w La Bu T)(bu:Bu A)(am:dz A La az)(fr:n7 env F az)(hk:env.kindOf n=some .local\/env.kindOf n=some .cell)
(si:SI env F az σ own s G oa)(FD:my env.scope.names n p e=false)(h:fb (iY T V0) env.scope.names σ own e=some c):
 wpAny (model prog w) A (exec (.Assign [.Name n p] e pos) env) (FP env F az (.nx (kQ W n c (σ,own)).1 (kQ W n c (σ,own)).2)) E s:=by
 obtain⟨d,fl⟩:=c;refine se (ai (gE VO TO bu am si h) (λv s1 q=>?_) λ_ _ e=>e) (by rw[nL si.ie.fn,FD]);obtain⟨t1,k1,r1,f1⟩:=q;refine ai (rM (W:=W) (fl:=fl) fr hk (si.keeps k1 t1) r1 λP7=>?_) (λ_ s2 q=>?_) λ_ _ e=>e
 ·obtain⟨a,q1,_,_,q2⟩:=si.CJ k1 t1 r1 (f1 P7).2 (f1 P7).1
  exact⟨(f1 P7).2,a,q1,q2⟩
 ·obtain⟨_,_,G',FC,q1,_⟩:=q
  exact⟨rfl,G',FC,q1⟩
end
end
section
section
variable{prog:bb}{w:World}{A:aC}{E:Value->ah->Prop}{G F:Addr->Prop}{env:Env}{az s s':ah}{σ:cy}{own W:List Str}{oa:Str->Addr}{La:Heap->Prop}{Bu:aC->Prop}{V0:Ev}{T:ek}
theorem AB(VO:de prog w La Bu V0)(bu:Bu A)(am:dz A La az)(fr:n7 env F az)
(hk:env.kindOf n=some .local\/env.kindOf n=some .cell)
(si:SI env F az σ own s G oa)(FD:my env.scope.names n p (.ListComp elt gens scope vp)=true)(h:yD V0 env.scope.names (dA own σ) elt gens scope=some out):
 wpAny (model prog w) A (exec (.Assign [.Name n p] (.ListComp elt gens scope vp) pos) env) (FP env F az (.nx (kQ W n (.lst out,true) (σ,own)).1 (kQ W n (.lst out,true) (σ,own)).2)) E s:=by
 refine gp λQ hP=>?_;rw[exec_Assign_Name_used _ _ _ _ (show swapsWith _ (some (.Name n p)) pos.line env=pure true by rw[nL si.ie.fn,FD])];refine ao (dM (ao ?_));have x:=si.ie;have h:=Fo h;obtain⟨t,i,f,gs,rfl⟩:=BD h;refine ao (ai (Kd (use:=some (assign (.Name n p) env)) (Q:=λ_ s'=>FP env F az (.nx (kQ W n (.lst out,true) (σ,own)).1 (kQ W n (.lst out,true) (σ,own)).2) .next s') VO bu (am.keeps si.kp si.tk) x h
  λs' D C k tk' hD hC SG Cv abo=>?_) (λ_ s' hq=>aL (aL (hP _ _ hq))) λ_ _ e=>e)
 clear hP Q;obtain⟨mC,hmC⟩:=Cv;have n0:∀a,s.heap.get? a=none->az.heap.get? a=none:=λa q=>J1 (Keeps.all si.kp) q;have nG:∀a,s.heap.get? a=none->¬G a:=λa q z=>nS q (x.lo a z);have hCs:(s'.heap.get? C).isSome=true:=by
  obtain⟨o,_,_,e,_⟩:=hmC;exact sS e
 obtain⟨vs,m,q1,q2⟩:=abo;have hDs:(s'.heap.get? D).isSome=true:=sS q1;have siC:SI env F az σ own s' (λb=>G b\/b=C) oa:=si.grow k tk' hC hCs;have aps:SI env F az σ own s' (λb=>(G b\/b=C)\/b=D) oa:=(si.Fj (Y:=λb=>b=C\/b=D) k tk' (λb q=>q.elim (λz=>z▸hC) λz=>z▸hD) (λb q=>q.elim (λz=>z▸hCs) λz=>z▸hDs)).abq λa=>or_assoc.symm;have lne:∀a,s.heap.get? a=none->a≠env.locals:=λa q z=>nG a q (z▸x.fl);have cne:∀a,s.heap.get? a=none->∀k,env.cells.lookup k≠some a:=λa q k z=>nG a q (x.fc k a z).1;have one:∀a,s.heap.get? a=none->∀k,k∈own->oa k≠a:=λa q k hk z=>nG a q (z▸(si.owG hk));have rD:bW s'.heap (λb=>G b\/b=C) (.lst out) (.ref D):=by
  exact hO (vs:=vs.toList) (λz=>z.elim (nG D hD) SG) q1 q2
 show wpAny _ _ (assign (.Name n p) env (.ref D)) _ _ _;refine g7 (ai (rM (W:=W) (fl:=true) fr hk siC rD λ_=>⟨rfl,D,rfl,aps,n0 D hD,lne D hD,cne D hD,one D hD⟩) (λ_ s3 q=>?_) λ_ _ e=>e);obtain⟨t3,u3,G',FC,tQ,g1,g2,g3⟩:=q;exact⟨mC,hmC.at' λo e=>u3.kept (G:=λa=>a=env.locals\/env.cells.lookup n=some a) (λ_ q=>q) C o (λz=>z.elim (lne C hC) (cne C hC n)) e,λh' om=>⟨rfl,λa=>G' a/\a≠C,FC,
  tQ.shrink ⟨h',s3.toks,rfl,λb o hb e=>om.extBut b o hb e⟩ t3 (g1 C (.inr rfl)) (λz=>nS (n0 C hC) (fr.lo C z)) (n0 C hC) (lne C hC) (cne C hC) (g3 C (one C hC) λz=>SG (lj z))⟩⟩
end
end
section
def kU(V:Ev)(ks:bY)(σ:cy)(own W:List Str):List Str->List ae->Option (List (D×Bool))
 |[],es=>match es with
  |[]=>some []
  |_::_=>none
 |n::ns,es=>match es with
  |[]=>none
  |e::es=>if gu e=true then(fb V ks σ own e).bind λc=>(kU V ks σ own W ns es).bind λcs=>some ((c.1,c.2&&W.contains n)::cs)else none
theorem yI(h:kU V ks σ own W [] es=some cs):es=[]/\cs=[]:=by
 cases es with
 |nil=>exact⟨rfl,(af h).symm⟩
 |cons _ _=>exact no h
theorem wG(h:kU V ks σ own W (n::ns) es=some cs):
 ∃e JL c cs',es=e::JL/\gu e=true/\fb V ks σ own e=some c/\kU V ks σ own W ns JL=some cs'/\cs=(c.1,c.2&&W.contains n)::cs':=by
 cases es with
 |nil=>exact no h
 |cons e es=>
  obtain⟨hn,h⟩:=dD h;obtain⟨c,h1,h2⟩:=aO h;obtain⟨cs',h3,h4⟩:=aO h2;exact⟨e,es,c,cs',rfl,hn,h1,h3,(af h4).symm⟩
def aiw(n:Str)(c:D×Bool)(p:cy×List Str):cy×List Str:=(put n c.1 p.1,if c.2=true then n::rL n p.2 else rL n p.2)
def qg:List Str->List (D×Bool)->cy×List Str->cy×List Str
 |n::ns,c::cs,p=>qg ns cs (aiw n c p)
 |_,_,p=>p
def iZ(cs:List (D×Bool)):Nat:=(cs.filter (·.2)).length
def CP(gR:Addr->Prop)(h:Heap)(a:Addr):List (D×Bool)->List Value->Prop
 |[],vs=>vs=[]
 |c::cs,vs=>∃v r,vs=v::r/\(if c.2=true then v=.ref a/\∃ds,c.1=.lst ds/\Acc gR h a ds else bW h gR c.1 v)/\CP gR h a cs r
theorem CP.kept(k:Kept X h h')(hX:∀b,X b->gR b)(ha:¬X a):∀{cs:List (D×Bool)}{vs:List Value},CP gR h a cs vs->CP gR h' a cs vs:=λ{cs}=>by
 induction cs with
 |nil=>exactλx=>x
 |cons c cs ih=>
  intro vs x;dsimp only[CP]at x⊢;obtain⟨v,r,e,h1,h2⟩:=x;refine⟨v,r,e,?_,ih h2⟩;split
  ·rename_i hc
   rw[if_pos hc]at h1;obtain⟨q1,ds,q2,q3⟩:=h1;exact⟨q1,ds,q2,q3.kept k hX ha⟩
  ·rename_i hc
   rw[if_neg hc]at h1;exact bW.kept (λb o nb e=>k b o (λq=>nb (hX b q)) e) (λ_ q=>.inl q) _ _ h1
theorem CP.length:∀{cs:List (D×Bool)}{vs:List Value},CP gR h a cs vs->vs.length=cs.length:=by
 intro zx
 induction zx with
 |nil=>
  rintro _ x;unfold CP at x;subst x;rfl
 |cons c cs ih=>
  rintro vs x;unfold CP at x;obtain⟨v,r,rfl,h1,h2⟩:=x;simp[ih h2]
theorem CP.plain(k:Kept gR h h')(hG:∀b,apv b->gR b\/h.get? b=none):∀{cs:List (D×Bool)}{vs:List Value},iZ cs=0->CP gR h a cs vs->CP apv h' b cs vs:=λ{cs}=>by
 induction cs with
 |nil=>exactλ_ x=>x
 |cons c cs ih=>
  intro vs hf x;dsimp only[CP]at x⊢;obtain⟨v,r,e,h1,h2⟩:=x;unfold iZ at hf;rw[dq]at hf;split at hf
  ·simp at hf
  ·rename_i hc
   rw[if_neg hc]at h1;exact⟨v,r,e,by rw[if_neg hc];exact bW.kept k hG _ _ h1,ih hf h2⟩
section
variable{prog:bb}{w:World}{A:aC}{E:Value->ah->Prop}{G F:Addr->Prop}{env:Env}{az s s':ah}{σ:cy}{own W:List Str}{oa:Str->Addr}{La:Heap->Prop}{Bu:aC->Prop}{V0:Ev}{T:ek}
def Sep(env:Env)(az:ah)(own:List Str)(oa:Str->Addr)(a:Addr):Prop:=
 az.heap.get? a=none/\a≠env.locals/\(∀k,env.cells.lookup k≠some a)/\∀k,k∈own->oa k≠a
inductive EP(env:Env)(F:Addr->Prop)(az:ah)(σ:cy)(own:List Str)(oa:Str->Addr)(G:Addr->Prop)(cs:List (D×Bool))(s:ah)(vs:List Value)(s':ah):Prop
 |mk (t:1<=s'.toks) (k:Keeps s s') (gR:Addr->Prop) (a:Addr) (si:SI env F az σ own s' gR oa) (cp:CP gR s'.heap a cs vs) (alt:(iZ cs=0/\gR=G)\/(iZ cs≠0/\gR=(λb=>G b\/b=a)/\s.heap.get? a=none/\Sep env az own oa a))
theorem EP.plain(k1:Keeps s aU)(r:bW aU.heap G d v)(x:EP env F az σ own oa G cs aU vs s'):EP env F az σ own oa G ((d,false)::cs) s (v::vs) s':=by
 cases x with
 |mk t k gR a si cp alt=>
 have r2:bW s'.heap gR d v:=by
  rcases alt with⟨_,e⟩|⟨_,e,h0,_⟩
  ·exact e▸r.keeps (Keeps.all k)
  ·exact e▸bW.kept (F:=G) (λb o _ e=>Keeps.all k b o e) (λb q=>Or.imp id (λ(z:b=a)=>z▸h0) q) _ _ r
 exact⟨t,Keeps.trans' k1 k,gR,a,si,⟨v,vs,rfl,r2,cp⟩,alt.imp id λz=>⟨z.1,z.2.1,J1 (Keeps.all k1) z.2.2.1,z.2.2.2⟩⟩
theorem EP.apw(k1:Keeps s aU)(hf:iZ cs=0)(ac:Acc (λb=>G b\/b=a) aU.heap a ds)(h0:s.heap.get? a=none)(sp:Sep env az own oa a)(x:EP env F az σ own oa (λb=>G b\/b=a) cs aU vs s'):
 EP env F az σ own oa G ((.lst ds,true)::cs) s (.ref a::vs) s':=by
 cases x with
 |mk t k gR a' si cp alt=>
 rcases alt with⟨_,rfl⟩|⟨hz,_⟩
 ·exact⟨t,Keeps.trans' k1 k,_,a,si,⟨.ref a,vs,rfl,⟨rfl,ds,rfl,ac.keeps (Keeps.all k)⟩,CP.plain (λb o _ e=>e) (λb q=>.inl q) hf cp⟩,.inr ⟨ath _,rfl,h0,sp⟩⟩
 ·exact absurd hf hz
theorem CK(VO:de prog w La Bu V0)(TO:dU prog w La Bu T)(bu:Bu A)(am:dz A La az):∀{es:List ae}{cs:List (D×Bool)}{s:ah}{G:Addr->Prop},SI env F az σ own s G oa->
 kU (iY T V0) env.scope.names σ own W ns es=some cs->iZ cs<=1->wpAny (model prog w) A (spliced (backTo pos (starEach es env))) (EP env F az σ own oa G cs s) E s:=by
 induction ns with
 |nil=>
  intro es cs s G si h _;obtain⟨rfl,rfl⟩:=yI h;exact Sp ⟨si.tk,Keeps.rfl',G,0,si,rfl,.inl ⟨rfl,rfl⟩⟩
 |cons n ns ih=>
  intro es cs s G si h hf;obtain⟨e,es,c,cs',rfl,hn,h1,h3,rfl⟩:=wG h;refine wpAny_items_cons (ai (gE VO TO bu am si h1) (λv s1 q=>?_) λ_ _ e=>e) (fE hn);obtain⟨t1,k1,r1,f1⟩:=q;cases hb:c.2&&W.contains n with
  |false=>
   rw[hb]at hf;exact ai (ih (si.keeps k1 t1) h3 hf) (λvs s2 q=>q.plain k1 r1) λ_ _ e=>e
  |true=>
   rw[hb]at hf;have hf':iZ cs'=0:=Nat.le_zero.mp (Xc hf);have f2:=f1 ((av _ _).mp hb).1;obtain⟨a,rfl,h0,_,tR,sp⟩:=si.CJ k1 t1 r1 f2.2 f2.1;obtain⟨ds,hd⟩:=uc f2.2;rw[hd]at r1⊢;obtain⟨b,us,k,e,nb,g,rs⟩:=r1.lst;cases e;exact ai (ih tR h3 (hf'.symm▸dk 1)) (λvs s2 q=>q.apw k1 hf' ⟨us.toArray,k,g,BH r1 us (by simp) rs⟩ h0 sp) λ_ _ e=>e
end
end
inductive Stores(env:Env):List Str->List (Value->Sem Unit)->Prop
 |nil:Stores env [] []
 |cons {n:Str} {ns:List Str} {f:Value->Sem Unit} {fs:List (Value->Sem Unit)} (h:∀(prog:bb)(w:World)(A:aC)(E:Value->ah->Prop)(Q:Unit->ah->Prop)(s:ah)(v:Value),wpAny (model prog w) A (storeName env n v) Q E s->wpAny (model prog w) A (f v) Q E s) (r:Stores env ns fs):Stores env (n::ns) (f::fs)
def P8:List ae->Option (List Str)
 |[]=>some []
 |e::es=>(yw e).bind λn=>(P8 es).map (n::·)
theorem yJ:∀{ns:List Str},P8 ts=some ns->(assignEach ts env).findIdx? (·.1)=none/\(assignEach ts env).length=ns.length/\ts.length=ns.length/\Stores env ns ((assignEach ts env).map (·.2)):=by
 induction ts with
 |nil=>intro ns h;rw[<-af h];exact⟨rfl,rfl,rfl,.nil⟩
 |cons t ts ih=>
  intro ns h;obtain⟨n,h1,h2⟩:=aO h;obtain⟨ns',h3,rfl⟩:=dH h2;obtain⟨p,rfl⟩:=lQ h1;have ih:=ih h3;refine⟨?_,congrArg lC ih.2.1,congrArg lC ih.2.2.1,.cons (λ_ _ _ _ _ _ _ h=>g7 h) ih.2.2.2⟩;show List.findIdx? _ ((false,_)::assignEach ts env)=none;rw[ae0,ih.1];rfl
theorem Iq:∀(ns:List Str),Stores env ns (ns.map λn=>bindName env n):=by
 intro zx
 induction zx with
 |nil=>
  exact .nil
 |cons _ ns ih=>
  exact .cons (λ_ _ _ _ _ _ _ h=>Xd h) (ih)
def yK(ks:bY)(ts vs:List ae):Option (Option (List Str)):=
 if(!(ts.length==2||ts.length==3)||vs.length != ts.length)=true then some none
 else if(vs.any fun|.Starred .. =>true|_=>false)=true then some none
 else
  let line:=(ts.head?.map (·.pos.line)).getD 0;let names:=ts.filterMap fun
   |.Name id pos=>if(ks.lookup id==some .local&&pos.line==line)=true then some id else none
   |_=>none
  if(names.length != ts.length||names.eraseDups.length != names.length)=true then some none
  else if vs.all (foldedForSure 8)=true then some none
  else if vs.all (constantsAlone 8)=true then none
  else some (some names)
theorem yL(hf:env.scope.kind=.function)(h:yK env.scope.names ts vs=some r):swappedStores [.Tuple ts k p] (.Tuple vs k' p') env=pure r:=by
 unfold yK at h;unfold swappedStores;dsimp only at h⊢;rw[sF hf];split at h
 ·rename_i h1
  cases h;rw[if_pos (by rw[h1];rfl)]
 ·rename_i h1
  rw[if_neg (by simpa using h1)];split at h
  ·rename_i h2
   cases h;exact if_pos h2
  ·rename_i h2
   refine(if_neg h2).trans ?_;split at h
   ·rename_i h3
    cases h;exact if_pos h3
   ·rename_i h3
    refine(if_neg h3).trans ?_;split at h
    ·rename_i h4
     cases h;exact if_pos h4
    ·rename_i h4
     refine(if_neg h4).trans ?_;split at h
     ·cases h
     ·rename_i h5
      cases h;exact if_neg h5
section
section
variable{prog:bb}{w:World}{A:aC}{E:Value->ah->Prop}{G F gR:Addr->Prop}{env:Env}{az s s':ah}{σ:cy}{own W:List Str}{oa:Str->Addr}{La:Heap->Prop}{Bu:aC->Prop}{V0:Ev}{T:ek}
theorem ou(fr:n7 env F az)(hs:Stores env ns fs)(hk:ns.all (Az env.scope.names)=true)(hl:ns.length=cs.length)(si:SI env F az σ own s gR oa)(cp:CP gR s.heap a cs vs)(hf:iZ cs<=1)
(yM:iZ cs≠0->gR a/\Sep env az own oa a):
 wpAny (model prog w) A (assignInOrder fs vs) (λ_ s'=>∃FC,SI env F az (qg ns cs (σ,own)).1 (qg ns cs (σ,own)).2 s' gR FC) E s:=by
 induction hs generalizing cs vs σ own oa s with
 |nil=>
  cases cs with
  |cons _ _=>cases hl
  |nil=>
   unfold CP at cp;rw[cp];exact aL ⟨oa,si⟩
 | @cons n ns f fs hst _ ih=>
   cases cs with
   |nil=>cases hl
   |cons c cs=>
   unfold CP at cp;obtain⟨v,r,rfl,h1,h2⟩:=cp;obtain⟨hk1,PE⟩:=(av _ _).mp hk;have j1:=qf hk1;have pS:ns.length=cs.length:=Lq hl;have H6:∀b,(b=env.locals\/env.cells.lookup n=some b)->gR b:=λb q=>q.elim (λq=>q▸si.ie.fl) λq=>(si.ie.fc n b q).1;obtain⟨d,fl⟩:=c;cases fl with
   |true=>
    obtain⟨rfl,ds,e,ac⟩:=(if_pos rfl).mp h1;have e:d=.lst ds:=e;have hf0:iZ cs=0:=Nat.le_zero.mp (Xc hf);obtain⟨ga,sp⟩:=yM (ath _);rw[e];exact ao (bR (hst _ _ _ _ _ _ _ (ai (SI.P6 si fr j1 ga sp.1 ac sp.2.1 sp.2.2.1 λk jU _=>sp.2.2.2 k jU) (λ_ s1 q=>
     ih PE pS q.2.2 (CP.plain (q.2.1.kept H6) (λb q=>.inl q) hf0 h2) (hf0▸dk 1) λz=>absurd hf0 z) λ_ _ e=>e)))
   |false=>
    refine ao (bR (hst _ _ _ _ _ _ _ (ai (SI.bind si fr j1 λ_=>(if_neg aF).mp h1) (λ_ s1 q=>?_) λ_ _ e=>e)));have cp1:CP gR s1.heap a cs r:=by
     by_cases hf0:iZ cs=0
     ·exact CP.plain (q.2.1.kept H6) (λb q=>.inl q) hf0 h2
     ·obtain⟨ga,sp⟩:=yM hf0
      exact CP.kept (q.2.1.kept λ_ q=>q) H6 (λz=>z.elim sp.2.1 (sp.2.2.1 n)) h2
    exact ih PE pS q.2.2.1 cp1 hf λz=>⟨(yM z).1,(yM z).2.1,(yM z).2.2.1,(yM z).2.2.2.1,λk jU=>(yM z).2.2.2.2 k (iq.mp jU).1⟩
theorem CP.reverse:∀{cs:List (D×Bool)}{vs:List Value},CP gR h a cs vs->CP gR h a cs.reverse vs.reverse:=by
 have app:∀{cs ds:List (D×Bool)}{vs ws:List Value},CP gR h a cs vs->CP gR h a ds ws->CP gR h a (cs++ds) (vs++ws):=by
  intro cs
  induction cs with
  |nil=>intro ds vs ws x y;unfold CP at x;subst x;exact y
  |cons c cs ih=>
   intro ds vs ws x y;unfold CP at x;obtain⟨v,r,rfl,h1,h2⟩:=x;exact⟨v,r++ws,rfl,h1,ih h2 y⟩
 intro cs
 induction cs with
 |nil=>intro vs x;unfold CP at x;subst x;rfl
 |cons c cs ih=>
  intro vs x;unfold CP at x;obtain⟨v,r,rfl,h1,h2⟩:=x;rw[i5,i5];exact app (ih h2) ⟨v,[],rfl,h1,rfl⟩
def UU(V:Ev)(ks:bY)(W:List Str)(ts es:List ae)(σ:cy)(own:List Str):Option (cy×List Str):=
 (P8 ts).bind λns=>if ns.all (Az ks)=true then
   (kU V ks σ own W ns es).bind λcs=>if iZ cs<=1/\es.length<=eu then
     (yK ks ts es).bind λr=>match r with
       |none=>some (qg ns cs (σ,own))
       |some ms=>if ms=ns then some (qg ns.reverse cs.reverse (σ,own))else none
     else none
   else none
theorem AE:∀{es:List ae}{cs:List (D×Bool)},kU V ks σ own W ns es=some cs->ns.length=es.length/\cs.length=es.length:=by
 induction ns with
 |nil=>intro es cs h;obtain⟨rfl,rfl⟩:=yI h;exact⟨rfl,rfl⟩
 |cons n ns ih=>
  intro es cs h;obtain⟨e,JL,c,cs',rfl,_,_,h3,rfl⟩:=wG h;exact⟨congrArg lC (ih h3).1,congrArg lC (ih h3).2⟩
theorem AF(VO:de prog w La Bu V0)(TO:dU prog w La Bu T)(bu:Bu A)(am:dz A La az)(fr:n7 env F az)
(si:SI env F az σ own s G oa)(h:UU (iY T V0) env.scope.names W ts es σ own=some r):
 wpAny (model prog w) A (exec (.Assign [.Tuple ts k p] (.Tuple es k' p') pos) env) (FP env F az (.nx r.1 r.2)) E s:=by
 obtain⟨ns,h1,h2⟩:=aO h;obtain⟨jr,h2⟩:=dD h2;obtain⟨cs,h3,h4⟩:=aO h2;obtain⟨P7,h4⟩:=dD h4;obtain⟨sw,h5,h6⟩:=aO h4;obtain⟨f1,f2,f3,f4⟩:=yJ (env:=env) h1;obtain⟨l1,l2⟩:=AE h3;refine gp λQ hQ=>?_;show wpAny _ _ (do
  standAt pos
  let v<-eval (.Tuple es k' p') env
  assignStores env v (<-swappedStores [.Tuple ts k p] (.Tuple es k' p') env) [assign (.Tuple ts k p) env]) _ _ _
 refine ao (dM (ao ?_));refine N3 (ai (CK VO TO bu am (pos:=p') si h3 P7.1) (λvs s1 q=>?_) λ_ _ e=>e);cases q with
 |mk t1 k1 gR a tR cp alt=>
 have lv:=cp.length;refine⟨by rw[lv,l2];exact aq P7.2 ip,?_⟩;rw[yL si.ie.fn h5];refine ao (aL ?_);have yM:iZ cs≠0->gR a/\Sep env az own oa a:=λz=>alt.elim (λq=>absurd q.1 z) λq=>⟨by rw[q.2.1];exact .inr rfl,q.2.2.2⟩
 have ht:({s1 with heap:=s1.heap.push {cls:=.type "tuple",data:=.seq vs.toArray}}:ah).heap.IsTuple s1.heap.objs.size vs.toArray:=⟨_,gN _ _ rfl,rfl,_,rfl⟩
 have go:∀h':Heap,Heap.ExtBut (s1.heap.push {cls:=.type "tuple",data:=.seq vs.toArray}).objs.size (s1.heap.push {cls:=.type "tuple",data:=.seq vs.toArray}) h'->SI env F az σ own {s1 with heap:=h'} gR oa/\CP gR h' a cs vs:=λh' hx=>by
  have k3:Keeps s1 {s1 with heap:=h'}:=⟨h',s1.toks,rfl,λb o e=>hx b o (eA (cY (aV _ e))) (aV _ e)⟩
  exact⟨tR.keeps k3 t1,CP.kept (X:=λ_=>False) (λb o _ e=>Keeps.all k3 b o e) (λ_ q=>q.elim) (λq=>q) cp⟩
 cases sw with
 |none=>
  rw[<-af h6]at hQ;show wpAny _ _ (do assignAll (.ref s1.heap.objs.size) [assign (.Tuple ts k p) env];pure ry) _ _ _;refine ao ?_;show wpAny _ _ (assign (.Tuple ts k p) env (.ref s1.heap.objs.size)) _ _ _;exact wpAny_assign_Tuple am.hh ht (by rw[f2,aX,lv,l2,l1]) f1 λh' hx=>
   ai (ou fr f4 jr (by rw[l1,l2]) (go h' hx).1 (go h' hx).2 P7.1 yM) (λ_ s3 q=>aL (hQ _ _ ⟨rfl,gR,q⟩)) λ_ _ e=>e
 |some ms=>
  obtain⟨rfl,h6⟩:=bx h6;rw[<-h6]at hQ;show wpAny _ _ (do
   rule "assign.swapped-stores"
   let items<-unpackItems (.ref s1.heap.objs.size) ms.length none
   assignInOrder (ms.reverse.map λn=>bindName env n) items.reverse
   pure ry) _ _ _
  refine ao (jN (ao ?_));rw[show ms.length=vs.toArray.size from by rw[aX,lv,l2,l1]];have Kj:iZ cs.reverse=iZ cs:=by unfold iZ;rw[List.filter_reverse,d9]
  rw[<-Kj]at yM;exact ae2 am.hh ht λh' hx=>ao (ai (ou fr (Iq ms.reverse) (by rw[List.all_reverse];exact jr) (by rw[d9,d9,l1,l2]) (go h' hx).1 (CP.reverse (go h' hx).2) (Kj▸P7.1) yM)
   (λ_ s3 q=>aL (hQ _ _ ⟨rfl,gR,q⟩)) λ_ _ e=>e)
end
end
section
theorem yO(h:Heap)(K:Addr->Prop):∃h':Heap,∀a o,h'.get? a=some o↔(K a/\h.get? a=some o):=by
 classical
 refine⟨{h with objs:=h.objs.mapIdx λi o=>if K i then o else{o with data:=.freed}},λa o=>?_⟩;unfold Heap.get?;dsimp only;rw[Array.getElem?_mapIdx];cases e:h.objs[a]? with
 |none=>simp
 |some x=>
  simp only[alD];by_cases hk:K a
  ·rw[if_pos hk]
   simp[hk]
  ·rw[if_neg hk]
   simp[hk]
section
variable{prog:bb}{w:World}{A:aC}{E:Value->ah->Prop}{G F:Addr->Prop}{env:Env}{az s s':ah}{σ:cy}{own W:List Str}{oa:Str->Addr}{La:Heap->Prop}{Bu:aC->Prop}{V0:Ev}{T:ek}
end
end
section
def fk(ks:bY)(t:ae)(d:D)(p:cy×List Str):Option (cy×List Str):=
 match sf t with
 |some x=>if Az ks x.1.1=true then some (aiw x.1.1 (d,false) p)else none
 |none=>(S8 t).bind λx=>(LO d).bind λds=>(P8 x.1.1).bind λns=>if ns.all (Az ks)=true/\ns.length=ds.length then some (qg ns (ds.map λd=>(d,false)) p)else none
abbrev XD:=List Stmt->cy->List Str->Option Fl
def sG(X:XD)(ks:bY)(t:ae)(body:List Stmt):List D->cy->List Str->Option Fl
 |[],σ,own=>some (.nx σ own)
 |d::ds,σ,own=>(fk ks t d (σ,own)).bind λp=>(X body p.1 p.2).bind λr=>match r with
  |.nx σ' own'=>sG X ks t body ds σ' own'
  |.rt d=>some (.rt d)
def ox(X:XD)(V:Ev)(ks:bY)(test:ae)(body:List Stmt):Nat->cy->List Str->Option Fl
 |0,_,_=>none
 |m+1,σ,own=>(V.b ks σ test).bind λc=>if c=true then(X body σ own).bind λr=>match r with
   |.nx σ' own'=>ox X V ks test body m σ' own'
   |.rt d=>some (.rt d)
  else some (.nx σ own)
section
variable{prog:bb}{w:World}{A:aC}{E:Value->ah->Prop}{G F:Addr->Prop}{env:Env}{az s s':ah}{σ:cy}{own W:List Str}{oa:Str->Addr}{La:Heap->Prop}{Bu:aC->Prop}{V0 V:Ev}{T:ek}{X:XD}
def SH(prog:bb)(w:World)(La:Heap->Prop)(Bu:aC->Prop)(ks:bY)(X:XD):Prop:=
 ∀(A:aC)(E:Value->ah->Prop) env F az σ own s G oa body r,Bu A->dz A La az->n7 env F az->SI env F az σ own s G oa->env.scope.names=ks->X body σ own=some r->
  wpAny (model prog w) A (execs body env) (FP env F az r) E s
theorem CP.abu:∀{ds:List D}{vs:List Value},aZ h G ds vs->CP G h a (ds.map λd=>(d,false)) vs:=by
 intro zx
 induction zx with
 |nil=>
  rintro vs x;exact x
 |cons d ds ih=>
  rintro vs x;obtain⟨v,r,rfl,h1,h2⟩:=x.eS;exact⟨v,r,rfl,by rw[if_neg (by simp)];exact h1,ih h2⟩
theorem wH:∀(ds:List D),iZ (ds.map λd=>(d,false))=0:=by
 intro zx
 induction zx with
 |nil=>
  exact rfl
 |cons d ds ih=>
  have:=ih;unfold iZ at this⊢;rw[bJ,kL (by simp)];exact this
theorem wJ(hh:A.handled=none)(fr:n7 env F az)(si:SI env F az σ own s G oa)(r:bW s.heap G d v)(h:fk env.scope.names t d (σ,own)=some p):
 wpAny (model prog w) A (assign t env v) (λ_ s'=>∃FC,SI env F az p.1 p.2 s' G FC) E s:=by
 unfold fk at h;cases hq:sf t with
 |some x=>
  rw[hq]at h;clear hq;obtain⟨⟨n,np⟩,rfl⟩:=x;obtain⟨hk,rfl⟩:=bx h;exact g7 (ai (SI.bind si fr (qf hk) λ_=>r) (λ_ s' q=>⟨oa,q.2.2.1⟩) λ_ _ e=>e)
 |none=>
  rw[hq]at h;clear hq;obtain⟨⟨⟨ts,c,p⟩,rfl⟩,_,h⟩:=aO h;obtain⟨ds,h1,h2⟩:=aO h;obtain⟨ns,h3,h4⟩:=aO h2;obtain⟨hk,rfl⟩:=bx h4;obtain⟨f1,f2,f3,f4⟩:=yJ (env:=env) h3;rw[arm_assign_Tuple];refine ao (dM ?_);unfold unpack;rw[f1,f2,hk.2];refine ao (bR (ai (bw si.tk (mv hh si.ie.lo r h1)) (λvs aU ic=>?_) λ_ _ e=>e));exact ou (a:=0) fr f4 hk.1 (by rw[aj];exact hk.2) (si.keeps ic.2.1 ic.1) (CP.abu ic.2.2) (by rw[wH];omega) λz=>absurd (wH ds) z
theorem SI.apx(si:SI env F az σ own s G oa)(u:Upd (λa=>a=I) s s')(t:1<=s'.toks)(hG:G I)(h0:az.heap.get? I=none)(hl:I≠env.locals)(hc:∀n,env.cells.lookup n≠some I)(ho:∀n,n∈own->oa n≠I)(hs:(s'.heap.get? I).isSome=true):
 SI env F az σ own s' G oa:=by
 have kp:Kept (λa=>a=I) s.heap s'.heap:=u.kept λ_ q=>q;refine⟨si.hF,si.hN,u.keeps (λa q=>q▸h0) si.kp,t,si.ie.upd u (λa q=>q▸hG) (iW.upd si.ie.lo kp λb q=>q▸hs) (λz=>hl z.symm) (λn c e z=>hc n (z▸e)),λn hn=>?_,si.od,si.oi⟩;obtain⟨q1,q2,q3,q4,ds,q5,q6⟩:=si.ow n hn;exact⟨q1,q2.kept kp (λz=>hl z.symm) (λn c e z=>hc n (z▸e)),q3,q4,ds,q5,q6.kept kp (λb q=>q▸hG) (ho n hn)⟩
theorem SI.UW(si:SI env F az σ own s G oa)(fr:n7 env F az)(hG:G I)(hI:(s.heap.get? I).isSome=true)(hl:I≠env.locals)(hc:∀n,env.cells.lookup n≠some I)(ho:∀n,n∈own->oa n≠I):
 ∃aU,Keeps az aU/\SI env (λa=>F a\/a=I) aU σ own s G oa/\n7 env (λa=>F a\/a=I) aU/\(∀a o,s.heap.get? a=some o->(¬G a\/a=I)->aU.heap.get? a=some o)/\1<=aU.toks:=by
 obtain⟨h',hh⟩:=yO s.heap (λa=>(¬G a\/F a)\/a=I);obtain⟨h,tk,rfl,kk⟩:=si.kp;have nF:∀a,az.heap.get? a=none->¬F a:=λa e q=>by
  have:=fr.lo a q;rw[e]at this;cases this
 have UX:∀a,G a->¬F a->a≠I->h'.get? a=none:=λa g nf ni=>by
  cases e:h'.get? a with
  |none=>rfl
  |some o=>rcases((hh a o).mp e).1 with(q|q)|q
           ·exact absurd g q
           ·exact absurd q nf
           ·exact absurd q ni
 have old:∀a o,az.heap.get? a=some o->h'.get? a=some o:=λa o e=>(hh a o).mpr ⟨.inl (by
  by_cases g:G a
  ·rcases si.hN a g with q|q
   ·exact .inr q
   ·rw[q]at e;cases e
  ·exact .inl g),kk a o e⟩
 have hI':(h'.get? I).isSome=true:=by
  obtain⟨o,e⟩:=ay.mp hI;rw[(hh I o).mpr ⟨.inr rfl,e⟩];rfl
 refine⟨{az with heap:=h',toks:=tk},⟨h',tk,rfl,old⟩,⟨λa q=>q.elim (si.hF a) λz=>z▸hG,λa g=>?_,⟨h,tk,rfl,λb o e=>((hh b o).mp e).2⟩,si.tk,si.ie,λn hn=>?_,si.od,si.oi⟩,⟨UX _ si.ie.fl (nF _ fr.hl) (gm hl),λn c how e=>UX _ (si.ie.fc n c e).1 (nF _ (fr.hc n c how e)) (λz=>hc n (z▸e)),λb q=>?_⟩,λa o e q=>(hh a o).mpr ⟨q.imp .inl id,e⟩,si.tk⟩
 ·by_cases q:F a
  ·exact .inl (.inl q)
  ·by_cases z:a=I
   ·exact .inl (.inr z)
   ·exact .inr (UX a g q z)
 ·obtain⟨q1,q2,q3,q4,q5,q6,q7⟩:=si.ow n hn
  exact⟨q1,q2,q3,UX _ q3 (nF _ q4) (ho n hn),q5,q6,q7⟩
 ·rcases q with q|q
  ·obtain⟨o,e⟩:=ay.mp (fr.lo b q)
   rw[old b o e];rfl
  ·exact q▸hI'
theorem SI.UY(si:SI env (λa=>F a\/a=I) aU σ own s G oa)(k:Keeps az aU)(h0:az.heap.get? I=none):SI env F az σ own s G oa:=by
 have n0:∀a,aU.heap.get? a=none->az.heap.get? a=none:=λa q=>by
  cases e:az.heap.get? a with
  |none=>rfl
  |some o=>rw[Keeps.all k a o e]at q;cases q
 refine⟨λa q=>si.hF a (.inl q),λa q=>?_,Keeps.trans' k si.kp,si.tk,si.ie,λn hn=>?_,si.od,si.oi⟩
 ·rcases si.hN a q with(z|z)|z
  ·exact .inl z
  ·exact .inr (z▸h0)
  ·exact .inr (n0 a z)
 ·obtain⟨q1,q2,q3,q4,q5,q6,q7⟩:=si.ow n hn
  exact⟨q1,q2,q3,n0 _ q4,q5,q6,q7⟩
inductive apy(env:Env)(F:Addr->Prop)(az:ah)(X:XD)(V:Ev)(test:ae)(body:List Stmt)(r:Fl)(n:Nat)(s:ah):Prop
 |mk (σ:cy) (own:List Str) (G:Addr->Prop) (oa:Str->Addr) (si:SI env F az σ own s G oa) (h:ox X V env.scope.names test body n σ own=some r)
theorem FE(XO:SH prog w La Bu env.scope.names X)(VO:de prog w La Bu V)(bu:Bu A)(am:dz A La az)(fr:n7 env F az)(si:SI env F az σ own s G oa)
(h:ox X V env.scope.names test body m σ own=some r):wpAny (model prog w) A (exec (.While test body [] pos) env) (FP env F az r) E s:=by
 refine wpAny_While (codeAny_whileLoop (apy env F az X V test body r) (λn s1 hI=>?_) m ⟨σ,own,G,oa,si,h⟩);obtain⟨σ',own',G',FC,tR,h1⟩:=hI;cases n with
 |zero=>cases h1
 |succ n=>
  unfold ox at h1;obtain⟨c,h2,h3⟩:=aO h1;refine ai (bw tR.tk (VO.b A _ env _ σ' s1 test c bu (am.keeps tR.kp tR.tk) tR.weak h2)) (λb s2 q=>?_) λ_ _ e=>e;obtain⟨t2,rfl,k2⟩:=q;have uh:=tR.keeps k2 t2;cases b with
  |false=>
   rw[if_neg (by decide)]at h3;cases h3;exact dJ ⟨rfl,G',FC,uh⟩
  |true=>
   rw[if_pos rfl]at h3;obtain⟨r',h4,h5⟩:=aO h3;refine ai (XO A _ env F az σ' own' s2 G' FC body r' bu am fr uh rfl h4) (λf s3 q=>?_) λ_ _ e=>e;cases r' with
   |nx σ2 apz=>
    obtain⟨rfl,G2,oa2,tQ⟩:=q;exact⟨n,d6 _,σ2,apz,G2,oa2,tQ,h5⟩
   |rt d=>
    cases h5;obtain⟨v,rfl,q⟩:=q;exact⟨v,rfl,q⟩
end
end
section
section
variable{prog:bb}{w:World}{A:aC}{E:Value->ah->Prop}{G F:Addr->Prop}{env:Env}{az s s':ah}{σ:cy}{own W:List Str}{oa:Str->Addr}{La:Heap->Prop}{Bu:aC->Prop}{V0 V:Ev}{T:ek}{X:XD}
theorem Kk(J:Value->Nat->ah->Prop)(hs:∀x,foldedSetIterable iter env x=pure x)
(hi:wpAny (model prog w) A (eval iter env) (λx s1=>wpAny (model prog w) A (pyIter x) (λi s2=>∃n,J i n s2) E s1) E s)
(turn:∀i n s,J i n s->∀(B:Flow->ah->Prop)(C:Option Value->ah->Prop)(E:Value->ah->Prop),(∀v s',wpAny (model prog w) A (letOwnedTupleGo t i v) (λ_ s1=>wpAny (model prog w) A (assign t env v) (λ_ s2=>wpAny (model prog w) A (execs body env) B E s2) E s1) E s'->C (some v) s')->(∀m s',m<n->J i m s'->B .next s')->(∀v s',Q (.ret v) s'->B (.ret v) s')->(∀s',Q .next s'->C none s')->
   wpAny (model prog w) A (pyNext i) C E s):
 wpAny (model prog w) A (exec (.For t iter body [] pos) env) Q E s:=
 wpAny_For (ai hi (λ_ _ q=>ai q (λi _ ⟨n,hJ⟩=>codeAny_forLoop_any (J i) (λn s hJ=>turn i n s hJ _ _ _ (λ_ _ q=>q) (λm _ hm hJ=>⟨m,hm,hJ⟩) (λ_ _ q=>q) λ_ q=>dJ q) n hJ) λ_ _ e=>e) λ_ _ e=>e) hs
inductive FI(prog:bb)(w:World)(A:aC)(X:XD)(env:Env)(t:ae)(body:List Stmt)(ds:List D)(r:Fl)(F:Addr->Prop)(az:ah)(G:Addr->Prop)(x:Value)(n:Nat)(s:ah):Prop
 |mk (I:Addr) (fp:List Addr) (P:Nat->Value->Prop) (St:Nat->Heap->Prop) (h₀:Heap) (hx:x=.ref I) (no:yk I P St) (Wk:Walks prog w A I fp [I] ds.length P St) (yl:∀i h,St i h->(h.get? I).isSome=true)
  (Yd:az.heap.get? I=none) (hl:I≠env.locals) (hc:∀n,env.cells.lookup n≠some I) (nFI:¬F I) (nI:h₀.get? I=none) (hP:∀i v h (F':Addr->Prop),P i v->Kept G h₀ h->(∀b,F' b->G b\/h₀.get? b=none)->∀d,ds[i]? =some d->bW h F' d v)
  (i:Nat) (σ:cy) (own:List Str) (G':Addr->Prop) (oa:Str->Addr) (hi:i<=ds.length) (hn:n=ds.length+1 - i) (hf:sG X env.scope.names t body (ds.drop i) σ own=some r) (si:SI env F az σ own s G' oa) (gI:G' I)
  (ho:∀n,n∈own->oa n≠I) (st:St i s.heap) (Cu:∀b,b∈fp->b=I\/((s.heap.get? b).isSome=true/\¬G' b)) (kg:Kept G h₀ s.heap) (ng:∀b,(h₀.get? b).isSome=true->¬G b->¬G' b)
theorem Mr(XO:SH prog w La Bu env.scope.names X)(bu:Bu A)(am:dz A La az)(fr:n7 env F az)(abv:jd iter=true)(si:SI env F az σ own s G oa)
(hit:wpAny (model prog w) A (eval iter env) (λx s1=>wpAny (model prog w) A (pyIter x) (λi s2=>1<=s2.toks/\∃sp,Keeps s sp/\Keeps sp s2/\It prog w A G ds sp s2 i) E s1) E s)
(h:sG X env.scope.names t body ds σ own=some r):wpAny (model prog w) A (exec (.For t iter body [] pos) env) (FP env F az r) E s:=by
 refine Kk (FI prog w A X env t body ds r F az G)
  (jq abv env) (ai hit (λx s1 q=>ai q (λi s2 q=>?_) λ_ _ e=>e) λ_ _ e=>e) λx n s3 q B C E' hS hB hR hN=>?_
 ·obtain⟨t2,sp,kp,k2,I,fp,P,St,rfl,no,Wk,st,hI,yl,Cu,hP⟩:=q
  have nI:=J1 (Keeps.all kp) hI;have gI:¬G I:=λz=>nS nI (si.ie.lo I z);have Yd:=J1 (Keeps.all si.kp) nI;exact⟨_,I,fp,P,St,sp.heap,rfl,no,Wk,yl,Yd,λz=>gI (z▸si.ie.fl),λn z=>gI (si.ie.fc n I z).1,λz=>nS Yd (fr.lo I z),hI,hP,0,σ,own,_,oa,dk _,rfl,h,si.grow (Keeps.trans' kp k2) t2 nI (yl _ _ st),.inr rfl,λn hn z=>gI (z▸(si.owG hn)),st,
   λb hb=>(Cu b hb).imp id λz=>⟨kpS (Keeps.all k2) z.2,λq=>q.elim z.1 λq=>nS hI (q▸z.2)⟩,λb o _ e=>Keeps.all k2 b o e,λb hb nb z=>z.elim nb λq=>nS hI (q▸hb)⟩
 ·cases q with
  |mk I fp P St h₀ hx no Wk yl Yd hl hc nFI nI hP i σi awV Gi oai hi hn hfd tQ gI hoI xX fp3 kg3 ng3=>
  subst hx;rcases pL hi with mm|PJ
  ·refine qy Wk mm tQ.tk xX λv s4 t4 u4 p Eh=>hS v s4 (qx no p Eh ?_)
   have Ye:=tQ.apx u4 t4 gI Yd hl hc hoI (yl _ _ Eh);have k4:Kept (λa=>a=I) s3.heap s4.heap:=u4.kept λ_ q=>q;have kg4:Kept G h₀ s4.heap:=λb o nb e=>k4 b o (λz=>nG nI (z▸e)) (kg3 b o nb e);have rep:=hP i v s4.heap Gi p kg4 (λb gb=>by
    by_cases gg:G b
    ·exact .inl gg
    ·cases e:h₀.get? b with
     |none=>exact .inr rfl
     |some o=>exact absurd gb (ng3 b (sS e) gg)) _ (bC mm)
   rw[gA mm]at hfd;obtain⟨pr,h1,h2⟩:=aO hfd;obtain⟨r',h3,h4⟩:=aO h2;obtain⟨aU,kb,xm,fr5,hold,tkb⟩:=Ye.UW fr gI (yl _ _ Eh) hl hc hoI;refine ai (wJ am.hh fr5 xm rep h1) (λ_ s6 ⟨oa6,Kl⟩=>?_) λ_ _ e=>e;refine ai (XO A _ env _ aU pr.1 pr.2 s6 Gi oa6 body r' bu (am.keeps kb tkb) fr5 Kl rfl h3) (λf s7 q=>?_) λ_ _ e=>e;cases r' with
   |rt d=>
    obtain⟨v',rfl,q1,q2,q3⟩:=q;exact hR v' s7 (af h4▸⟨v',rfl,Keeps.trans' kb q1,q2,q3.less λb z=>.inl (.inl z)⟩)
   |nx σ7 apE=>
    obtain⟨rfl,G7,oa7,CL⟩:=q;have old:∀b o,s4.heap.get? b=some o->(¬Gi b\/b=I)->s7.heap.get? b=some o:=λb o e z=>Keeps.all CL.kp b o (hold b o e z);have nG7:∀b,(s4.heap.get? b).isSome=true->¬Gi b->¬G7 b:=λb hb nb z=>by
     obtain⟨o,e⟩:=ay.mp hb;exact(CL.hN b z).elim (λz=>z.elim (λz=>nb (Ye.hF b z)) λz=>nb (z▸gI)) λz=>nG z (hold b o e (.inl nb))
    obtain⟨oI,eI⟩:=ay.mp (yl _ _ Eh);refine hB (ds.length+1 - (i+1)) s7 (by subst hn;exact Ab (qP mm) (d6 i)) ⟨I,fp,P,St,h₀,rfl,no,Wk,yl,Yd,hl,hc,nFI,nI,hP,i+1,σ7,apE,G7,oa7,mm,rfl,h4,CL.UY kb Yd,CL.hF I (.inr rfl),λk hk z=>?_,?_,λb hb=>?_,λb o nb e=>?_,λb hb nb=>?_⟩
    ·exact nG (z▸(CL.owN hk)) (hold I oI eI (.inr rfl))
    ·exact Wk.frame _ _ _ Eh λb hb o e=>old b o e ((fp3 b hb).elim .inr λz=>.inl z.2)
    ·refine(fp3 b hb).imp id λz=>?_
     have hb4:=kdS k4 (λq:b=I=>z.2 (q▸gI)) z.1;obtain⟨o,e⟩:=ay.mp hb4;exact⟨sS (old b o e (.inl z.2)),nG7 b hb4 z.2⟩
    ·exact old b o (kg4 b o nb e) (.inl (ng3 b (sS e) nb))
    ·exact nG7 b (kdS kg4 nb hb) (ng3 b hb nb)
  ·rw[PJ,DV]at hfd
   exact qz Wk tQ.tk (PJ▸xX) λs' t u=>hN s' (af hfd▸⟨rfl,_,oai,tQ.shrink u t gI nFI Yd hl hc hoI⟩)
end
end
section
section
variable{prog:bb}{w:World}{A:aC}{E:Value->ah->Prop}{G F:Addr->Prop}{env:Env}{az s s':ah}{σ:cy}{own W:List Str}{oa:Str->Addr}{La:Heap->Prop}{Bu:aC->Prop}{V0 V:Ev}{T:ek}{X:XD}
theorem yP:fillsInplaceSlot (.type "list") "add" (Operator.Add==.Add)=pure false:=by
 unfold fillsInplaceSlot;show(typeLookup (.type "list") (dunderI "add") >>= λfi=>pure (fi.isSome&& !isSeqSlot fi))=pure false;rw[rh.lookup];rfl'
theorem AG:seqSlot? (.type "list") (dunderI "add")=pure (some (.builtin "list.__iadd__")):=by
 unfold seqSlot?;rw[rh.lookup];rfl'
theorem Ms{l b:Addr}{items CM:Array Value}{n n2:Nat}{Q:Value->ah->Prop}(hl:IsL s.heap l items n)(hb:IsL s.heap b CM n2)(hs:items.size+CM.size<=eu)
(h:Q (.ref l) {s with heap:=s.heap.update l (jk λx=>x++CM)}):wpAny (model prog w) A (inplaceOp .Add (.ref l) (.ref b)) Q E s:=by
 have f9:eu=1048576:=rfl;have h1:=ip;unfold inplaceOp;refine bR ?_;refine ao (wpAny_typeOf hl.isList.typeIs (ao (atf yP ?_)));show wpAny _ A (if false=true then _ else _) Q E s;rw[if_neg aF];refine ao (wpAny_binaryOp1_none (nm:="add") hl.isList.typeIs hb.isList.typeIs noFill_list_add ?_);refine ao (atf AG ?_);refine ao (jN ?_);exact G4 rh ⟨_,hl,rfl⟩ PySem.F.entry_list_iadd (PySem.F.args_list_iadd_2 _ _) (AutoSeq1.list___iadd___list_list_0 l items n b CM n2 (by simp[B9,sizeLine];omega) (by omega) (by omega)) ⟨hl,hb,h⟩
theorem SI.write(si:SI env F az σ own s G oa)(hn:n∈own)(u:Upd (λa=>a=oa n) s s')(t:1<=s'.toks)(ac:Acc G s'.heap (oa n) ds):SI env F az (put n (.lst ds) σ) own s' G oa:=by
 have kp:Kept (λa=>a=oa n) s.heap s'.heap:=u.kept λ_ q=>q;obtain⟨w1,w2,w3,w4,ds0,w5,w6⟩:=si.ow n hn;have hs:(s'.heap.get? (oa n)).isSome=true:=by
  obtain⟨vs,m,q1,_⟩:=ac;rw[show s'.heap.get? (oa n)=some _ from q1];rfl
 have hl:=(si.od n hn).1;have hc:=(si.od n hn).2;have apF:∀σ:cy,look (put n (.lst ds) σ) n=some (.lst ds):=λσ=>by
  rw[gV (σ':=[])];dsimp only[put,look];rw[if_pos rfl]
 refine⟨si.hF,si.hN,u.keeps (λa q=>q▸w4) si.kp,t,?_,λk hk=>?_,si.od,si.oi⟩
 ·refine(si.ie.upd u (λa q=>q▸w3) (iW.upd si.ie.lo kp λb q=>q▸hs) (λz=>hl z.symm) (λn c e z=>hc n (z▸e))).sub λk e he=>?_
  rw[fJ]at he⊢;split at he
  ·cases he
  ·rename_i hcn
   have j1:k≠n:=λz=>hcn (by subst z;simpa using hn);rw[if_neg hcn];rwa[cZ j1]at he
 ·by_cases j1:k=n
  ·subst j1
   exact⟨w1,w2.kept kp (λz=>hl z.symm) (λn c e z=>hc n (z▸e)),w3,w4,ds,apF _,ac⟩
  ·obtain⟨q1,q2,q3,q4,xh,q5,q6⟩:=si.ow k hk
   exact⟨q1,q2.kept kp (λz=>hl z.symm) (λn c e z=>hc n (z▸e)),q3,q4,xh,by rw[cZ j1];exact q5,q6.kept kp (λb q=>q▸w3) λz=>j1 (si.oi k n hk hn z)⟩
theorem SI.xG(si:SI env F az σ own s G oa)(hn:n∈own)(h:Q (.ref (oa n)) s):wpAny (model prog w) A (loadName env n) Q E s:=by
 obtain⟨hk,hv,_⟩:=si.ow n hn;rcases hk with hk|hk
 ·obtain⟨m,h1,h2⟩:=hv.1 hk
  exact jO si.ie.fn hk h1 h2 h
 ·obtain⟨c,h1,h2⟩:=hv.2 hk
  exact pW si.ie.fn hk h1 h2 h
theorem gx(h:env.scope.kind=.function):interactive env=false:=by unfold interactive;rw[h];rfl
theorem P9(h:gu e=true)(env):starEach [e] env=[(false,eval e env)]:=fE h
theorem CN(VO:de prog w La Bu V0)(TO:dU prog w La Bu T)(bu:Bu A)(am:dz A La az)(si:SI env F az σ own s G oa)(hn:n∈own)(hd:(n==("__debug__":Str))=false)(hl:ap.endLine=cp.line)(hst:gu e=true)
(AH:look σ n=some (.lst ds))(hlen:ds.length+1<=eu)(h:fb (iY T V0) env.scope.names σ own e=some c):
 wpAny (model prog w) A (exec (.Expr (.Call (.Attribute (.Name n np) "append" ap) [e] [] cp) pos) env) (FP env F az (.nx (put n (.lst (ds++[c.1])) σ) own)) E s:=by
 obtain⟨d,fl⟩:=c;have he:starEach [e] env=[(false,eval e env)]:=P9 hst env;have hb:backTo cp (starEach [e] env)=[(false,eval e env)]:=by rw[he];rfl
 refine ri ?_ (gx si.ie.fn) rfl;refine lM rfl (by rw[hb];rfl) (by simpa using hl) ?_;refine i9 (si.xG hn ?_) hd;obtain⟨w1,w2,w3,w4,ds0,w5,vs,m,q1,q2⟩:=si.ow n hn;rw[AH]at w5;cases w5;refine⟨"list","list.append",jX,JB,JC,⟨_,q1,rfl⟩,λb e=>by cases e;exact⟨_,q1,rfl⟩,?_⟩;rw[hb];refine iA rfl (dY rfl (dC (ai (gE VO TO bu am si h) (λv s1 q=>gB ?_) λ_ _ e=>e)));obtain⟨t1,k1,r1,_⟩:=q;have tR:=si.keeps k1 t1;have f9:eu=1048576:=rfl;have hsz:vs.size<=sizeLine:=by
  have h1:=q2.length;rw[cu]at h1;exact aq (by rw[h1];omega) ip
 refine lL (hsz:=hsz) ⟨m,Keeps.all k1 _ _ q1⟩ λh' hp hs=>?_;obtain⟨n',hp⟩:=hp;have u:Upd (λa=>a=oa n) s1 {s1 with heap:=h'}:=⟨h',_,rfl,λb o hb e=>hs.extBut b o hb e⟩
 refine⟨rfl,G,oa,tR.write hn u t1 ⟨_,n',hp,?_⟩⟩;rw[A6];exact(u.Fb (G:=G) (λa q=>q▸w3) (q2.keeps (Keeps.all k1))).append (.one (u.rep (G:=G) (λa q=>q▸w3) r1))
end
end
section
def apG:D->D->Option D
 |.int a,y=>match y with
  |.int b=>some (.int (a+b))
  |_=>none
 |.str a,y=>match y with
  |.str b=>if a.length+b.length<=eu then some (.str (a++b))else none
  |_=>none
 |_,_=>none
def apH:D->D->Option D
 |.int a,y=>match y with
  |.int b=>some (.int (a - b))
  |_=>none
 |_,_=>none
def Ir:q0->D->D->Option D
 |.Add,a,b=>apG a b
 |.Sub,a,b=>apH a b
 |_,_,_=>none
theorem Km:∀{σ:cy},put n d (put n d' σ)=put n d σ:=by
 intro zx
 induction zx with
 |nil=>
  show put n d [(n,d')]=[(n,d)];rw[put,if_pos rfl]
 |cons zh r ih=>
  obtain⟨x,y⟩:=zh;by_cases hx:x=n
  ·have e1:put n d' ((x,y)::r)=(x,d')::r:=by dsimp only[put];rw[if_pos hx]
   have e2:put n d ((x,y)::r)=(x,d)::r:=by dsimp only[put];rw[if_pos hx]
   rw[e1,e2];dsimp only[put];rw[if_pos hx]
  ·have e1:put n d' ((x,y)::r)=(x,y)::put n d' r:=by rw[put,if_neg hx]
   have e2:put n d ((x,y)::r)=(x,y)::put n d r:=by rw[put,if_neg hx]
   rw[e1,e2,put,if_neg hx,ih]
def yQ(e:ae):Bool:=(S8 e).isNone
section
variable{prog:bb}{w:World}{A:aC}{E:Value->ah->Prop}{G F:Addr->Prop}{env:Env}{az s s':ah}{σ:cy}{own W:List Str}{oa:Str->Addr}{La:Heap->Prop}{Bu:aC->Prop}{V0 V:Ev}{T:ek}{X:XD}
theorem Iu(ra:bW s.heap G a va)(rb:bW s.heap G b vb)(e:Ir op a b=some d):wpAny (model prog w) A (inplaceOp op va vb) (gW G s d) E s:=by
 cases op<;>first|exact no e|skip
 ·cases a<;>first|exact no e|skip
  ·cases b<;>first|exact no e|skip
   obtain⟨t,rfl⟩:=ra.int;obtain⟨u,rfl⟩:=rb.int;exact PySem.P.iadd_int (af e▸lq)
  ·cases b<;>first|exact no e|skip
   obtain⟨h,e⟩:=bx e;obtain⟨t,rfl⟩:=ra.str;obtain⟨u,rfl⟩:=rb.str;exact PyProof.Rows.iadd_str (λ_ _=>e▸EW) (aq h ip)
 ·cases a<;>first|exact no e|skip
  cases b<;>first|exact no e|skip
  obtain⟨t,rfl⟩:=ra.int;obtain⟨u,rfl⟩:=rb.int;exact PySem.P.isub_int (af e▸lq)
theorem AI(am:dz A La az)(si:SI env F az σ own s G oa)(hn:n∈own)(hd:(n==("__debug__":Str))=false)(hl:ap.endLine=cp.line)
(AH:look σ n=some (.lst ds))(hlen:ds.length<=eu):
 wpAny (model prog w) A (exec (.Expr (.Call (.Attribute (.Name n np) "reverse" ap) [] [] cp) pos) env) (FP env F az (.nx (put n (.lst ds.reverse) σ) own)) E s:=by
 refine ri ?_ (gx si.ie.fn) rfl;refine lM rfl rfl (by simpa using hl) ?_;refine i9 (si.xG hn ?_) hd;obtain⟨w1,w2,w3,w4,ds0,w5,vs,m,q1,q2⟩:=si.ow n hn;rw[AH]at w5;cases w5;refine⟨"list","list.reverse",jX,PySem.F.slot_list_reverse,PySem.F.type_list_reverse,⟨_,q1,rfl⟩,λb e=>by cases e;exact⟨_,q1,rfl⟩,?_⟩;have hsz:vs.size<=sizeLine:=by
  have h1:=q2.length;rw[cu]at h1;exact aq (by rw[h1];omega) ip
 refine PySem.P.reverse_list q1 ?_ hsz;have hs:sd (oa n) s.heap (s.heap.update (oa n) (jk λx=>x.reverse)):=lD ..;have u:Upd (λa=>a=oa n) s {s with heap:=s.heap.update (oa n) (jk λx=>x.reverse)}:=⟨_,_,rfl,λb o hb e=>hs.extBut b o hb e⟩
 refine⟨rfl,G,oa,si.write hn u si.tk ⟨_,_,pO q1 _,?_⟩⟩;rw[Array.toList_reverse];exact(u.Fb (G:=G) (λa q=>q▸w3) q2).reverse
theorem Iv(VO:de prog w La Bu V0)(TO:dU prog w La Bu T)(bu:Bu A)(am:dz A La az)(fr:n7 env F az)(si:SI env F az σ own s G oa)(hn:n∈own)
(AH:look σ n=some (.lst ds))(hlen:ds.length+es.length<=eu)(h:fb (iY T V0) env.scope.names σ own e=some (.lst es,fl)):
 wpAny (model prog w) A (exec (.AugAssign (.Name n np) .Add e pos) env) (FP env F az (.nx (put n (.lst (ds++es)) σ) (n::rL n own))) E s:=by
 refine ati (si.xG hn ?_);refine ai (gE VO TO bu am si h) (λv s1 q=>?_) λ_ _ e=>e;obtain⟨t1,k1,r1,_⟩:=q;have tR:=si.keeps k1 t1;obtain⟨w1,w2,w3,w4,ds0,w5,vs,m,q1,q2⟩:=tR.ow n hn;rw[AH]at w5;cases w5;obtain⟨b,us,k,rfl,nb,g,rs⟩:=r1.lst;refine Ms q1 g (by
  have e1:vs.size=ds.length:=by have h0:=q2.length;rwa[cu]at h0
  have e2:us.toArray.size=es.length:=by rw[aX,rs.length]
  rw[e1,e2];exact hlen) ?_
 have hs:sd (oa n) s1.heap (s1.heap.update (oa n) (jk λx=>x++us.toArray)):=lD ..;have u:Upd (λa=>a=oa n) s1 {s1 with heap:=s1.heap.update (oa n) (jk λx=>x++us.toArray)}:=⟨_,_,rfl,λb o hb e=>hs.extBut b o hb e⟩
 have ac:Acc G (s1.heap.update (oa n) (jk λx=>x++us.toArray)) (oa n) (ds++es):=by
  refine⟨_,_,pO q1 _,?_⟩;rw[Array.toList_append];exact(u.Fb (G:=G) (λa q=>q▸w3) q2).append (u.Fb (G:=G) (λa q=>q▸w3) rs)
 have uh:=tR.write hn u t1 ac;obtain⟨hk,_⟩:=uh.ow n hn;refine ai (SI.P6 uh fr hk w3 w4 ac (tR.od n hn).1 (tR.od n hn).2 λk jU m7 z=>m7 (tR.oi k n jU hn z)) (λ_ s3 q=>?_) λ_ _ e=>e;obtain⟨t3,u3,tQ⟩:=q;rw[Km]at tQ;exact⟨rfl,G,qZ oa n (oa n),tQ⟩
theorem Iw(VO:de prog w La Bu V0)(TO:dU prog w La Bu T)(bu:Bu A)(am:dz A La az)(fr:n7 env F az)(si:SI env F az σ own s G oa)(hk:env.kindOf n=some .local\/env.kindOf n=some .cell)
(AH:look (dA own σ) n=some a)(h:fb (iY T V0) env.scope.names σ own e=some c)(UZ:Ir op a c.1=some d):
 wpAny (model prog w) A (exec (.AugAssign (.Name n np) op e pos) env) (FP env F az (.nx (put n d σ) (rL n own))) E s:=by
 obtain⟨c,fl⟩:=c;refine ati (ai (si.ie.load hk AH) (λva s1 q=>?_) λ_ _ e=>e);obtain⟨rfl,ra⟩:=q;refine ai (gE VO TO bu am si h) (λv s1 q=>?_) λ_ _ e=>e;obtain⟨t1,k1,r1,_⟩:=q;refine ai (bw t1 (Iu (ra.keeps (Keeps.all k1)) r1 UZ)) (λv2 s2 q=>?_) λ_ _ e=>e;obtain⟨t2,k2,r2⟩:=q;refine ai (SI.bind (si.keeps (Keeps.trans' k1 k2) t2) fr hk λ_=>r2) (λ_ s3 q=>?_) λ_ _ e=>e;exact⟨rfl,G,oa,q.2.2.1⟩
theorem CQ(VO:de prog w La Bu V)(bu:Bu A)(am:dz A La az)(fr:n7 env F az)(si:SI env F az σ own s G oa)(h:V.d env.scope.names σ e=some d):
 wpAny (model prog w) A (exec (.Return (some e) pos) env) (FP env F az (.rt d)) E s:=by
 refine g8 (ai (bw si.tk (VO.d A E env _ σ s e d bu (am.keeps si.kp si.tk) si.weak h)) (λv s1 q=>?_) λ_ _ e=>e);refine⟨v,rfl,Keeps.trans' si.kp q.2.1,q.1,q.2.2.less λb hb=>.inl ⟨si.hF b hb,λn hn z=>?_⟩⟩;have h0:=(si.owN hn)
 have:=fr.lo b hb;rw[z,h0]at this;cases this
theorem Qa(XO:SH prog w La Bu env.scope.names X)(VO:de prog w La Bu V)(bu:Bu A)(am:dz A La az)(fr:n7 env F az)(si:SI env F az σ own s G oa)
(h:V.b env.scope.names σ t=some c)(h2:(if c=true then X a σ own else X b σ own)=some r):wpAny (model prog w) A (exec (.If t a b pos) env) (FP env F az r) E s:=by
 refine A8 (ai (bw si.tk (VO.b A _ env _ σ s t c bu (am.keeps si.kp si.tk) si.weak h)) (λc' s2 q=>?_) λ_ _ e=>e);obtain⟨t2,rfl,k2⟩:=q;have uh:=si.keeps k2 t2;cases c'
 ·exact XO A E env F az σ own s2 G oa b r bu am fr uh rfl h2
 ·exact XO A E env F az σ own s2 G oa a r bu am fr uh rfl h2
theorem Mt(e)(ts)(k)(p)(l)(env):swapsWith e (some (.Tuple ts k p)) l env=pure false:=by cases e<;>exact Eq.refl (pure false)
theorem Iy(hnt:yQ e=true)(ts)(k')(p)(env):swappedStores [.Tuple ts k' p] e env=pure none:=by
 have k:∀b:Bool,b=true->(pure none:Sem (Option (List Str)))=pure none:=λ_ _=>rfl;exact eY (motive_1:=λe=>yQ e=true->swappedStores [.Tuple ts k' p] e env=pure none) e (λ_ _ _=>k _) (λ_ _ _=>k _) (λ_ _ _ _=>k _) (λ_ _ _=>k _) (λ_ _ _ _=>k _) (λ_ _ _ _=>k _) (λ_ _ _=>k _) (λ_ _ _=>k _) (λ_ _ _ _=>k _) (λ_ _ _ _=>k _) (λ_ _ _ _ _=>k _) (λ_ _ _ _=>k _) (λ_ _=>k _) (λ_ _=>k _) (λ_ _=>k _) (λ_ _ _ _=>k _) (λ_ _ _ _=>k _) (λ_ _ _ _=>k _) (λ_ _=>k _) (λ_ _ _=>k _) (λ_ _ _=>k _) (λ_ _ _=>k _) (λ_ _=>k _) (λ_ _=>k _) (λ_ _=>k _) (λ_ _ _ h=>DI h) (λ_ _ _ _=>k _) hnt
theorem AJ(VO:de prog w La Bu V0)(TO:dU prog w La Bu T)(bu:Bu A)(am:dz A La az)(fr:n7 env F az)(hnt:yQ e=true)(si:SI env F az σ own s G oa)
(h:fb (iY T V0) env.scope.names σ own e=some c)(h2:fk env.scope.names (.Tuple ts k p) c.1 (σ,own)=some r):wpAny (model prog w) A (exec (.Assign [.Tuple ts k p] e pos) env) (FP env F az (.nx r.1 r.2)) E s:=by
 obtain⟨d,fl⟩:=c;have h1:swapsWith e (some (.Tuple ts k p)) pos.line env=pure false:=Mt ..;have h3:swappedStores [.Tuple ts k p] e env=pure none:=Iy hnt ..;have hx:exec (.Assign [.Tuple ts k p] e pos) env=(do
  standAt pos
  if<-swapsWith e (some (.Tuple ts k p)) pos.line env then do
   evalThenUse e env λv=>assignAll v [assign (.Tuple ts k p) env]
   pure .next
  else do
   let v<-eval e env
   assignStores env v (<-swappedStores [.Tuple ts k p] e env) [assign (.Tuple ts k p) env]):=rfl
 rw[hx,h1,h3];refine ao (dM (ao (aL ?_)));simp only[kz,if_false];refine ao (ai (gE VO TO bu am si h) (λv s1 q=>?_) λ_ _ e=>e);obtain⟨t1,k1,r1,_⟩:=q;refine ao (aL ?_);show wpAny _ _ (do assignAll v [assign (.Tuple ts k p) env];pure ry) _ _ _;refine ao ?_;show wpAny _ _ (assign (.Tuple ts k p) env v) _ _ _;exact ai (wJ am.hh fr (si.keeps k1 t1) r1 h2) (λ_ s2 q=>aL ⟨rfl,G,q⟩) λ_ _ e=>e
end
end
section
def Kn:List ae->List SY->Option ae
 |[],_=>none
 |e::r,Ic=>match r with
  |[]=>match Ic with
   |[]=>some e
   |_::_=>none
  |_::_=>none
def Qb(e:ae):Option ae:=(N9 e).bind λx=>(sf x.1.1).bind λy=>bif y.1.1==("reversed":Str)then Kn x.1.2.1 x.1.2.2.1 else none
theorem CR(h:Kn args Ic=some e):args=[e]/\Ic=[]:=by
 cases args with
 |nil=>exact no h
 |cons x r=>
  cases r with
  |cons _ _=>exact no h
  |nil=>cases Ic with
   |cons _ _=>exact no h
   |nil=>exact⟨af h▸rfl,rfl⟩
theorem Iz(h:Qb it=some e):∃fp pos,it=.Call (.Name "reversed" fp) [e] [] pos:=by
 obtain⟨⟨⟨f,args,Ic,pos⟩,rfl⟩,_,h⟩:=aO h;obtain⟨⟨⟨g,fp⟩,hy⟩,_,h⟩:=aO h;have hy:f=.Name g fp:=hy;subst hy;cases hf:g==("reversed":Str)with
 |false=>rw[hf]at h;exact no h
 |true=>
  rw[hf]at h;obtain⟨rfl,rfl⟩:=CR h;exact⟨fp,pos,eq_of_beq hf▸rfl⟩
def apK:D->Option (List D)
 |.lst l=>some l.reverse
 |_=>none
def yR(V:Ev)(ks:bY)(σ:cy)(own:List Str)(it:ae):Option (List D):=
 match Qb it with
 |some e=>if ks.lookup ("reversed":Str)=some .globalImplicit/\gu e=true then(V.d ks (dA own σ) e).bind apK else none
 |none=>if jd it=true then(V.d ks (dA own σ) it).bind items else none
section
variable{prog:bb}{w:World}{A:aC}{E:Value->ah->Prop}{G F:Addr->Prop}{env:Env}{az s s':ah}{σ:cy}{own W:List Str}{oa:Str->Addr}{La:Heap->Prop}{Bu:aC->Prop}{V0 V:Ev}{T:ek}{X:XD}
theorem abw(hh:A.handled=none)(t1:1<=s1.toks)(na:¬G a)(hl:IsL s1.heap a vs.toArray n)(hr:aZ s1.heap G l vs)
(k:∀i s2,1<=s2.toks->Keeps s1 s2->It prog w A G l.reverse s1 s2 i->Q i s2):wpAny (model prog w) A (call (.type "reversed") [.ref a]) (λx s'=>wpAny (model prog w) A (pyIter x) Q E s') E s1:=by
 refine PySem.call_reversed_list hl.isList ?_;have Wk:=Walks.listRev (prog:=prog) (w:=w) (A:=A) hh s1.heap.objs.size a (eA (cY hl)) vs.toArray;have hsz:vs.toArray.size=l.reverse.length:=by rw[aX,hr.length,d9]
 have hz:(vs.toArray.size:Int) - 1=((l.reverse.length:Nat):Int) - 1 - ((0:Nat):Int):=by rw[hsz,as7,Int.sub_zero]
 rw[hsz]at Wk;have hrv:(s1.heap.push (revObj a ((vs.toArray.size:Int) - 1))).IsRevIter s1.heap.objs.size a ((vs.toArray.size:Int) - 1):=⟨_,g0 _ rfl,rfl,rfl⟩
 refine wpAny_pyIter_revIter hrv (k _ _ t1 (Keeps.push _) ⟨s1.heap.objs.size,_,_,_,rfl,.inl λi h st=>by obtain⟨_,⟨o,e1,e2,_⟩,_⟩:=st;exact⟨o,_,e1,e2,by decide⟩,Wk,⟨dk _,hz▸hrv,hl.isList.push _⟩,kr _,λi h st=>by obtain⟨_,⟨o,e1,_⟩,_⟩:=st;exact e1▸rfl,fp2 na hl,λi u h F' hP k hF' d hd=>?_⟩);have hi:i<l.length:=d9 (as:=l)▸(fj.mp hd).1;rw[List.getElem?_reverse hi]at hd;rw[fq,d9]at hP;exact aaY hr hP k hF' d hd
theorem CT(VO:de prog w La Bu V)(TO:dU prog w La Bu T)(bu:Bu A)(am:dz A La az)(si:SI env F az σ own s G oa)(h:yR V env.scope.names σ own it=some ds):
 jd it=true/\wpAny (model prog w) A (eval it env) (λx s1=>wpAny (model prog w) A (pyIter x) (λi s2=>1<=s2.toks/\∃sp,Keeps s sp/\Keeps sp s2/\It prog w A G ds sp s2 i) E s1) E s:=by
 have DK:=am.keeps si.kp si.tk;unfold yR at h;cases hr:Qb it with
 |none=>
  rw[hr]at h;obtain⟨hn,h⟩:=dD h;obtain⟨d,h1,h2⟩:=aO h;exact⟨hn,fO VO bu DK si.ie h1 λv s1 k1 iT x1 r1=>ai (bw iT.tk (jZ am.hh x1.lo r1 h2)) (λi s2 q=>⟨q.1,s1,k1,q.2.1,q.2.2⟩) λ_ _ e=>e⟩
 |some e=>
  rw[hr]at h;obtain⟨fp,pos,rfl⟩:=Iz hr;obtain⟨hc,h0⟩:=dD h;obtain⟨d,h1,h2⟩:=aO h0;cases d<;>first|exact no h2|skip
  obtain rfl:=af h2;refine⟨rfl,?_⟩;show wpAny _ _ (do callWith pos (<-eval (.Name "reversed" fp) env) [] (backTo pos (starEach [e] env)) []) _ _ _;refine ao (nH si.ie hc.1 (by decide) (.inr (TO.rev _ (DK.la _ λ_ _ e=>e))) ?_);rw[show backTo pos (starEach [e] env)=[(false,eval e env)]from congrArg (backTo pos) (fE hc.2)];refine xu rfl (dY rfl (dC (fO VO bu DK si.ie h1 λv s1 k1 iT x1 r1=>gB ?_)));obtain⟨a,vs,n,rfl,na,hl,hr⟩:=r1.lst;exact abw am.hh iT.tk na hl hr λi s2 t2 k2 it=>⟨t2,s1,k1,k2,it⟩
end
end
section
def yS:D->Option (List D)
 |.lst l=>some l
 |_=>none
theorem lU(h:yS d=some l):d=.lst l:=by
 cases d<;>first|exact no h|exact congrArg D.lst (af h)
def aix(n:Str)(c d:D×Bool)(σ:cy)(o:Option D)(i j:D):Option cy:=(o.bind yS).bind λds=>(intD i).bind λi=>(intD j).bind λj=>
 if(nJ c.1=true/\nJ d.1=true/\c.2=false/\d.2=false)/\0<=i/\i<ds.length/\0<=j/\j<ds.length/\ds.length<=eu then some (put n (.lst ((ds.set i.toNat c.1).set j.toNat d.1)) σ)else none
theorem Mu(h:aix n c d σ o i j=some σ'):∃ds k1 k2,o=some (.lst ds)/\i=.int k1/\j=.int k2/\
 ((nJ c.1=true/\nJ d.1=true/\c.2=false/\d.2=false)/\0<=k1/\k1<ds.length/\0<=k2/\k2<ds.length/\ds.length<=eu)/\put n (.lst ((ds.set k1.toNat c.1).set k2.toNat d.1)) σ=σ':=by
 obtain⟨ds,h1,h2⟩:=aO h;obtain⟨k1,h3,h4⟩:=aO h2;obtain⟨k2,h5,h6⟩:=aO h4;obtain⟨x,h7,h8⟩:=aO h1;exact⟨ds,k1,k2,lU h8▸h7,qA h3,qA h5,bx h6⟩
def aiy(V:Ev)(ks:bY)(n:Str)(i j a b:ae)(σ:cy)(own:List Str):Option cy:=
 if own.contains n=true/\(n==("__debug__":Str))=false/\gu a=true/\gu b=true then
  (fb V ks σ own a).bind λc=>(fb V ks σ own b).bind λd=>(V.d ks (dA own σ) i).bind λi=>(V.d ks (dA own σ) j).bind λj=>
    aix n c d σ (look σ n) i j
 else none
section
variable{prog:bb}{w:World}{A:aC}{E:Value->ah->Prop}{G F:Addr->Prop}{env:Env}{az s s':ah}{σ:cy}{own W:List Str}{oa:Str->Addr}{La:Heap->Prop}{Bu:aC->Prop}{V0 V:Ev}{T:ek}{X:XD}
theorem wK(h:Q () s):wpAny M A (release vs keep) Q E s:=λΓ p hΓ=>by rw[Sem.wp_release];exact h
theorem ui(hn:n∈own)(d):∀σ:cy,dA own (put n d σ)=dA own σ:=by
 intro zx
 induction zx with
 |nil=>
  show dA own [(n,d)]=[]
  unfold dA;rw[kL (by simpa using hn)];rfl
 |cons zh r ih=>
  obtain⟨x,e⟩:=zh;by_cases hx:x=n
  ·rw[put,if_pos hx]
   unfold dA;rw[kL (by subst hx;simpa using hn),kL (by subst hx;simpa using hn)]
  ·rw[put,if_neg hx]
   have ih:=ih;unfold dA at ih⊢;rw[dq,dq,ih]
theorem yT(o i)(p)(env)(v):assign (.Subscript o i p) env v=(do
 let ov<-holding [v] (eval o env);let iv<-holding [v,ov] (eval i env)
 standAt p
 holding [v,ov,iv] (setItem ov iv v)
 release (match i with|.Slice _ _ none _=>[iv,v,ov]|_=>[v,ov,iv]) []):=rfl
theorem wL(VO:de prog w La Bu V)(bu:Bu A)(am:dz A La az)(si:SI env F az σ own s G oa)(hn:n∈own)(hd:(n==("__debug__":Str))=false)
(AH:look σ n=some (.lst ds))(hi:V.d env.scope.names (dA own σ) i=some (.int k))(h0:0<=k)(h1:k<ds.length)(f9:ds.length<=eu)(r:∀h,bW h G d v)(hsl:∀l u q,i≠.Slice l u none q):
 wpAny (model prog w) A (assign (.Subscript (.Name n np) i p) env v) (λ_ s'=>SI env F az (put n (.lst (ds.set k.toNat d)) σ) own s' G oa) E s:=by
 rw[yT];refine ao (bR (i9 (si.xG hn ?_) hd));refine ao (bR (ai (bw si.tk (VO.d A E env G _ s i _ bu (am.keeps si.kp si.tk) si.ie hi)) (λiv s1 q=>?_) λ_ _ e=>e));obtain⟨t1,k1,r1⟩:=q;obtain⟨t,rfl⟩:=r1.int;have tR:=si.keeps k1 t1;obtain⟨w1,w2,w3,w4,ds0,w5,vs,m,q1,q2⟩:=tR.ow n hn;rw[AH]at w5;cases w5;have hsz:vs.size=ds.length:=by have h0:=q2.length;rwa[cu]at h0
 have hl:eu=1048576:=rfl;refine ao (dM (ao (bR (ki_setAt (n:=m) q1 h0 (by omega) (by rw[hsz];exact h1) (wK ?_)))));have hs:sd (oa n) s1.heap (s1.heap.update (oa n) (jk (·.setIfInBounds k.toNat v))):=lD ..;have u:Upd (λa=>a=oa n) s1 {s1 with heap:=s1.heap.update (oa n) (jk (·.setIfInBounds k.toNat v))}:=⟨_,_,rfl,λb o hb e=>hs.extBut b o hb e⟩
 refine tR.write hn u t1 ⟨_,_,pO q1 _,?_⟩;rw[JD];exact(u.Fb (G:=G) (λa q=>q▸w3) q2).set _ (r _)
theorem Mv:yK ks [.Subscript o1 i p1,.Subscript o2 j p2] vs=some none:=by
 unfold yK;refine ite_eq_left_iff.mpr λ_=>ite_eq_left_iff.mpr λ_=>?_;exact if_pos rfl
theorem IA(VS:de prog w La Bu V)(bu:Bu A)(am:dz A La az){n:Str}{np Mw p p' q:Pos}{kk:Nat}{i j:ae}{k1 k2:Int}{ds:List D}{d1 d2:D}{v1 v2:Value}(si:SI env F az σ own s G oa)(hn:n∈own)(hd:(n==("__debug__":Str))=false)
(hsl:∀l u q,i≠.Slice l u none q)(abx:∀l u q,j≠.Slice l u none q)(AH:look σ n=some (.lst ds))(h5:V.d env.scope.names (dA own σ) i=some (.int k1))(h7:V.d env.scope.names (dA own σ) j=some (.int k2))
(b5:0<=k1/\k1<ds.length)(b7:0<=k2/\k2<ds.length)(b9:ds.length<=eu)(r1:∀h,bW h G d1 v1)(r2:∀h,bW h G d2 v2){s1:ah}(k:Keeps s s1)(t1:1<=s1.toks){a:Addr}(ht:s1.heap.IsTuple a [v1,v2].toArray):
 wpAny (model prog w) A (assign (.Tuple [.Subscript (.Name n np) i p,.Subscript (.Name n Mw) j p'] kk q) env (.ref a)) (λ_ s'=>SI env F az (put n (.lst ((ds.set k1.toNat d1).set k2.toNat d2)) σ) own s' G oa) E s1:=by
 refine wpAny_assign_Tuple am.hh ht rfl rfl λh' hx=>?_;have kp:Keeps s {s1 with heap:=h'}:=by
  obtain⟨h1,t',rfl,ka⟩:=k;exact⟨h',t',rfl,λb o e=>hx b o (eA (cY (ka b o e))) (ka b o e)⟩
 show wpAny _ _ (do holding [v2] (assign (.Subscript (.Name n np) i p) env v1);assignInOrder [assign (.Subscript (.Name n Mw) j p') env] [v2]) _ _ _;refine ao (bR (ai (wL VS bu am (si.keeps kp t1) hn hd AH h5 b5.1 b5.2 b9 r1 hsl) (λ_ s5 xm=>?_) λ_ _ e=>e));show wpAny _ _ (do holding [] (assign (.Subscript (.Name n Mw) j p') env v2);assignInOrder [] []) _ _ _;have apL:look (put n (.lst (ds.set k1.toNat d1)) σ) n=some (.lst (ds.set k1.toNat d1)):=by
  rw[gV (σ':=[])];dsimp only[put,look];rw[if_pos rfl]
 refine ao (bR (ai (wL VS bu am xm hn hd apL (by rw[ui hn];exact h7) b7.1 (by rw[atj];exact b7.2) (by rw[atj];exact b9) r2 abx) (λ_ s6 Kl=>?_) λ_ _ e=>e));rw[Km]at Kl;exact aL Kl
theorem Mx(VO:de prog w La Bu V0)(TO:dU prog w La Bu T)(bu:Bu A)(am:dz A La az)(hnn:n'=n)(si:SI env F az σ own s G oa)(hsl:∀l u q,i≠.Slice l u none q)(abx:∀l u q,j≠.Slice l u none q)
(h:aiy (iY T V0) env.scope.names n i j a b σ own=some σ'):
 wpAny (model prog w) A (exec (.Assign [.Tuple [.Subscript (.Name n np) i p,.Subscript (.Name n' Mw) j p'] kk q] (.Tuple [a,b] kk' q') pos) env) (FP env F az (.nx σ' own)) E s:=by
 subst hnn;obtain⟨⟨hc1,hd,sa,sb⟩,h⟩:=dD h;obtain⟨c1,h1,h2⟩:=aO h;obtain⟨c2,h3,h4⟩:=aO h2;obtain⟨di,h5,h6⟩:=aO h4;obtain⟨dj,h7,h8⟩:=aO h6;obtain⟨ds,k1,k2,AH,rfl,rfl,hb,rfl⟩:=Mu h8;have hn:n'∈own:=cL.mp hc1;have FD:swappedStores [.Tuple [.Subscript (.Name n' np) i p,.Subscript (.Name n' Mw) j p'] kk q] (.Tuple [a,b] kk' q') env=pure none:=yL si.ie.fn Mv;have hbt:backTo q' (starEach [a,b] env)=[(false,eval a env),(false,eval b env)]:=congrArg (backTo q') ((fE sa).trans (congrArg _ (fE sb)));show wpAny _ _ (do
  standAt pos
  let v<-eval (.Tuple [a,b] kk' q') env
  assignStores env v (<-swappedStores [.Tuple [.Subscript (.Name n' np) i p,.Subscript (.Name n' Mw) j p'] kk q] (.Tuple [a,b] kk' q') env) [assign (.Tuple [.Subscript (.Name n' np) i p,.Subscript (.Name n' Mw) j p'] kk q) env]) _ _ _
 rw[FD];refine ao (dM (ao (N3 ?_)));rw[hbt];refine dC (ai (gE VO TO bu am si h1) (λv1 s1 z1=>dC (ai (gE VO TO bu am (si.keeps z1.k z1.t) h3) (λv2 s2 z2=>gB ⟨by show(2:Nat)<=sizeLine;exact aq (by decide) ip,?_⟩) λ_ _ e=>e)) λ_ _ e=>e);refine ao (aL (ao (?_:wpAny _ _ (assign (.Tuple [.Subscript (.Name n' np) i p,.Subscript (.Name n' Mw) j p'] kk q) env (.ref s2.heap.objs.size)) _ _ _)));exact ai (IA (lS VO TO) bu am si hn hd hsl abx AH h5 h7 ⟨hb.2.1,hb.2.2.1⟩ ⟨hb.2.2.2.1,hb.2.2.2.2.1⟩ hb.2.2.2.2.2 (λh=>lT hb.1.1 z1.r) (λh=>lT hb.1.2.1 z2.r) (Keeps.trans' (Keeps.trans' z1.k z2.k) (Keeps.push _)) z2.t ⟨_,gN _ _ rfl,rfl,_,rfl⟩)
  (λ_ s6 Kl=>aL ⟨rfl,G,oa,Kl⟩) λ_ _ e=>e
end
end
section
def qh(e:ae):Bool:=(N7 e).isNone
def wM(e:ae):Option (Str×Pos):=(sf e).map (·.1)
theorem oy(h:wM e=some x):e=.Name x.1 x.2:=by
 obtain⟨x,_,rfl⟩:=dH h;exact x.2
def CU(e:ae):Option (List ae×Nat×Pos):=(S8 e).map (·.1)
theorem BJ(h:CU e=some x):e=.Tuple x.1 x.2.1 x.2.2:=by
 obtain⟨x,_,rfl⟩:=dH h;exact x.2
theorem My(h:CU e=none):yQ e=true:=by
 unfold yQ;rw[rA.mp h];rfl
def qi(e:ae):Option (ae×List d7×Scope×Pos):=(Xi e).map (·.1)
theorem qj(h:qi e=some x):e=.ListComp x.1 x.2.1 x.2.2.1 x.2.2.2:=by
 obtain⟨x,_,rfl⟩:=dH h;exact x.2
def IB(e:ae):Option (ae×Str×Pos):=(N8 e).map (·.1)
theorem FG(h:IB e=some x):e=.Attribute x.1 x.2.1 x.2.2:=by
 obtain⟨x,_,rfl⟩:=dH h;exact x.2
def Qc:List α->Option α
 |[]=>none
 |x::r=>match r with
  |[]=>some x
  |_::_=>none
theorem BK{α:Type}{l:List α}{x:α}(h:Qc l=some x):l=[x]:=by
 cases l with
 |nil=>exact no h
 |cons y r=>cases r with
  |nil=>exact af h▸rfl
  |cons _ _=>exact no h
def Qd:List α->Option (α×α)
 |[]=>none
 |x::r=>(Qc r).map λy=>(x,y)
theorem yU{α:Type}{l:List α}{x:α×α}(h:Qd l=some x):l=[x.1,x.2]:=by
 cases l with
 |nil=>exact no h
 |cons y r=>
  obtain⟨z,h1,rfl⟩:=dH h;exact BK h1▸rfl
def AK(V:Ev)(ks:bY)(W:List Str)(n:Str)(p:Pos)(e:ae)(σ:cy)(own:List Str):Option Fl:=
 if Az ks n=true then
  if my ks n p e=true then
   match qi e with
   |some _=>((V.d ks (dA own σ) e).bind yS).map λout=>.nx (kQ W n (.lst out,true) (σ,own)).1 (kQ W n (.lst out,true) (σ,own)).2
   |none=>none
  else(fb V ks σ own e).map λc=>.nx (kQ W n c (σ,own)).1 (kQ W n c (σ,own)).2
 else none
def Qe(e:ae):Option (Str×ae):=(ae7 e).bind λs=>(wM s.1.1).map λx=>(x.1,s.1.2.1)
theorem yV(h:Qe e=some x):∃np p,e=.Subscript (.Name x.1 np) x.2 p:=by
 obtain⟨s,_,h⟩:=aO h;obtain⟨z,h1,rfl⟩:=dH h;exact⟨z.2,s.1.2.2,by rw[<-oy h1];exact s.2⟩
def U0(ts es:List ae):Option (Str×ae×ae×ae×ae):=
 (Qd ts).bind λt=>(Qe t.1).bind λx=>(Qe t.2).bind λy=>(Qd es).bind λz=>
   if y.1=x.1/\qh x.2=true/\qh y.2=true then some (x.1,x.2,y.2,z.1,z.2)else none
theorem Mz(h:U0 ts es=some r):
 ∃m np p Mw p',m=r.1/\ts=[.Subscript (.Name r.1 np) r.2.1 p,.Subscript (.Name m Mw) r.2.2.1 p']/\es=[r.2.2.2.1,r.2.2.2.2]/\qh r.2.1=true/\qh r.2.2.1=true:=by
 obtain⟨t,h1,h⟩:=aO h;obtain⟨x,h2,h⟩:=aO h;obtain⟨y,h3,h⟩:=aO h;obtain⟨z,h4,h⟩:=aO h;obtain⟨⟨q1,q2,q3⟩,rfl⟩:=bx h;obtain⟨np,p,e1⟩:=yV h2;obtain⟨Mw,p',e2⟩:=yV h3;exact⟨y.1,np,p,Mw,p',q1,(yU h1).trans (by rw[e1,e2]),yU h4,q2,q3⟩
def MA(V:Ev)(ks:bY)(W:List Str)(ts es:List ae)(σ:cy)(own:List Str):Option Fl:=
 match U0 ts es with
 |some r=>(aiy V ks r.1 r.2.1 r.2.2.1 r.2.2.2.1 r.2.2.2.2 σ own).map λσ'=>.nx σ' own
 |none=>(UU V ks W ts es σ own).map λr=>.nx r.1 r.2
def abz(V:Ev)(ks:bY)(W:List Str)(t e:ae)(σ:cy)(own:List Str):Option Fl:=
 match wM t with
 |some x=>AK V ks W x.1 x.2 e σ own
 |none=>match CU t with
  |some ts=>match CU e with
   |some es=>MA V ks W ts.1 es.1 σ own
   |none=>(fb V ks σ own e).bind λc=>(fk ks t c.1 (σ,own)).map λr=>.nx r.1 r.2
  |none=>none
def IC(V:Ev)(ks:bY)(n:Str)(op:q0)(e:ae)(σ:cy)(own:List Str):Option Fl:=
 if own.contains n=true then
  if Kh op=true then((look σ n).bind yS).bind λds=>(fb V ks σ own e).bind λc=>(yS c.1).bind λes=>
   if ds.length+es.length<=eu then some (.nx (put n (.lst (ds++es)) σ) (n::rL n own))else none
  else none
 else if Az ks n=true then(look (dA own σ) n).bind λa=>(fb V ks σ own e).bind λc=>(Ir op a c.1).map λd=>.nx (put n d σ) (rL n own)
 else none
def meS(V:Ev)(ks:bY)(n m:Str)(ds:List D)(σ:cy)(own:List Str):List ae->Option Fl
 |[]=>if m="reverse"/\ds.length<=eu then some (.nx (put n (.lst ds.reverse) σ) own)else none
 |e::r=>match r with
  |[]=>if(m="append"/\gu e=true)/\ds.length+1<=eu then(fb V ks σ own e).map λc=>.nx (put n (.lst (ds++[c.1])) σ) own else none
  |_::_=>none
def Ko(V:Ev)(ks:bY)(n m:Str)(args:List ae)(σ:cy)(own:List Str):Option Fl:=
 if own.contains n=true/\(n==("__debug__":Str))=false then((look σ n).bind yS).bind λds=>meS V ks n m ds σ own args
 else none
def Qf(f:ae)(args:List ae)(cp:Pos):Option (Str×Str×List ae):=(IB f).bind λa=>(wM a.1).bind λx=>if a.2.2.endLine=cp.line then some (x.1,a.2.1,args)else none
def rN(e:ae):Option (Str×Str×List ae):=(N9 e).bind λx=>match x.1.2.2.1 with
 |[]=>Qf x.1.1 x.1.2.1 x.1.2.2.2
 |_::_=>none
theorem FH(h:Qf f args cp=some x):∃np ap,f=.Attribute (.Name x.1 np) x.2.1 ap/\args=x.2.2/\ap.endLine=cp.line:=by
 obtain⟨a,h1,h⟩:=aO h;obtain⟨n,h2,h⟩:=aO h;obtain⟨h3,rfl⟩:=bx h;exact⟨n.2,a.2.2,by rw[FG h1,oy h2],rfl,h3⟩
theorem FK(h:rN e=some x):∃np ap cp,e=.Call (.Attribute (.Name x.1 np) x.2.1 ap) x.2.2 [] cp/\ap.endLine=cp.line:=by
 obtain⟨⟨⟨f,args,Ic,cp⟩,rfl⟩,_,h⟩:=aO h;cases Ic with
 |cons _ _=>exact no h
 |nil=>
  obtain⟨np,ap,rfl,rfl,hl⟩:=FH h;exact⟨np,ap,cp,rfl,hl⟩
def df(V:Ev)(ks:bY)(W:List Str)(wf:Nat)(X:XD)(st:Stmt)(σ:cy)(own:List Str):Option Fl:=
 stC none (λ_ _ _ _ _=>none) (λe _=>e.bind λe=>(V.d ks σ e).map .rt) (λts e _=>(Qc ts).bind λt=>abz V ks W t e σ own) (λt op e _=>(wM t).bind λx=>IC V ks x.1 op e σ own)
  (λt it body orelse _=>match orelse with
    |[]=>(yR V ks σ own it).bind λds=>sG X ks t body ds σ own
    |_::_=>none)
  (λt body orelse _=>match orelse with
    |[]=>ox X V ks t body wf σ own
    |_::_=>none)
  (λt a b _=>(V.b ks σ t).bind λc=>if c=true then X a σ own else X b σ own) (λe _=>(rN e).bind λx=>Ko V ks x.1 x.2.1 x.2.2 σ own) st
def cU(S:Stmt->cy->List Str->Option Fl):XD
 |[],σ,own=>some (.nx σ own)
 |st::rest,σ,own=>(S st σ own).bind λr=>match r with
  |.nx σ' own'=>cU S rest σ' own'
  |.rt d=>some (.rt d)
def AL(V:Ev)(ks:bY)(W:List Str)(wf:Nat):Nat->XD
 |0=>λ_ _ _=>none
 |n+1=>cU (df V ks W wf (AL V ks W wf n))
section
variable{prog:bb}{w:World}{A:aC}{E:Value->ah->Prop}{G F:Addr->Prop}{env:Env}{az s s':ah}{σ:cy}{own W:List Str}{oa:Str->Addr}{La:Heap->Prop}{Bu:aC->Prop}{V0 V:Ev}{T:ek}{X:XD}
theorem wN(h:qh i=true):∀l u q,i≠.Slice l u none q:=λl u q z=>by subst z;exact DI h
theorem CV(h:own.contains n=true):n∈own:=cL.mp h
theorem ID(VO:de prog w La Bu V0)(TO:dU prog w La Bu T)(bu:Bu A)(am:dz A La az)(fr:n7 env F az)(si:SI env F az σ own s G oa)
(h:AK (iY T V0) env.scope.names W n p e σ own=some r):wpAny (model prog w) A (exec (.Assign [.Name n p] e pos) env) (FP env F az r) E s:=by
 obtain⟨hk,h⟩:=dD h;cases FD:my env.scope.names n p e with
 |false=>
  rw[FD]at h;obtain⟨c,h1,rfl⟩:=dH h;exact AA VO TO bu am fr (qf hk) si FD h1
 |true=>
  rw[FD,if_pos rfl]at h;cases hc:qi e with
  |none=>rw[hc]at h;exact no h
  |some x=>
   rw[hc]at h;obtain rfl:=qj hc;obtain⟨out,h1,rfl⟩:=dH h;obtain⟨d,h2,h3⟩:=aO h1;obtain rfl:=lU h3;obtain⟨o,h4,h5⟩:=dH (show(yD V0 env.scope.names (dA own σ) x.1 x.2.1 x.2.2.1).map D.lst=some (.lst out)from h2);exact AB VO bu am fr (qf hk) si FD (D.lst.inj h5▸h4)
theorem IE(VO:de prog w La Bu V0)(TO:dU prog w La Bu T)(bu:Bu A)(am:dz A La az)(fr:n7 env F az)(si:SI env F az σ own s G oa)
(h:abz (iY T V0) env.scope.names W t e σ own=some r):wpAny (model prog w) A (exec (.Assign [t] e pos) env) (FP env F az r) E s:=by
 unfold abz at h;cases hn:wM t with
 |some x=>
  rw[hn]at h;obtain rfl:=oy hn;exact ID VO TO bu am fr si h
 |none=>
  rw[hn]at h;cases ht:CU t with
  |none=>rw[ht]at h;exact no h
  |some ts=>
   rw[ht]at h;obtain rfl:=BJ ht;cases he:CU e with
   |none=>
    rw[he]at h;obtain⟨c,h1,h2⟩:=aO h;obtain⟨r',h3,rfl⟩:=dH h2;exact AJ VO TO bu am fr (My he) si h1 h3
   |some es=>
    rw[he]at h;obtain rfl:=BJ he;have h:MA (iY T V0) env.scope.names W ts.1 es.1 σ own=some r:=h;unfold MA at h;cases hs:U0 ts.1 es.1 with
    |none=>
     rw[hs]at h;obtain⟨r',h1,rfl⟩:=dH h;exact AF VO TO bu am fr si h1
    |some q=>
     rw[hs]at h;obtain⟨σ',h1,rfl⟩:=dH h;obtain⟨m,np,p,Mw,p',q1,q2,q3,q4,q5⟩:=Mz hs;rw[q2,q3];exact Mx VO TO bu am q1 si (wN q4) (wN q5) h1
theorem IF(VO:de prog w La Bu V0)(TO:dU prog w La Bu T)(bu:Bu A)(am:dz A La az)(fr:n7 env F az)(si:SI env F az σ own s G oa)
(h:IC (iY T V0) env.scope.names n op e σ own=some r):wpAny (model prog w) A (exec (.AugAssign (.Name n np) op e pos) env) (FP env F az r) E s:=by
 unfold IC at h;cases hn:own.contains n with
 |true=>
  rw[hn,if_pos rfl]at h;obtain⟨ho,h⟩:=dD h;cases op<;>first|exact DI ho|skip
  obtain⟨ds,h1,h⟩:=aO h;obtain⟨c,h2,h⟩:=aO h;obtain⟨es,h3,h⟩:=aO h;obtain⟨hl,rfl⟩:=bx h;obtain⟨d,h4,h5⟩:=aO h1;obtain⟨d',fl⟩:=c;obtain rfl:=lU h5;obtain rfl:=lU h3;exact Iv VO TO bu am fr si (CV hn) h4 hl h2
 |false=>
  rw[hn,if_neg aF]at h;obtain⟨hk,h⟩:=dD h;obtain⟨a,h1,h2⟩:=aO h;obtain⟨c,h3,h4⟩:=aO h2;obtain⟨d,h5,rfl⟩:=dH h4;exact Iw VO TO bu am fr si (qf hk) h1 h3 h5
theorem FL(VO:de prog w La Bu V0)(TO:dU prog w La Bu T)(bu:Bu A)(am:dz A La az)(hl:ap.endLine=cp.line)(si:SI env F az σ own s G oa)
(h:Ko (iY T V0) env.scope.names n m args σ own=some r):wpAny (model prog w) A (exec (.Expr (.Call (.Attribute (.Name n np) m ap) args [] cp) pos) env) (FP env F az r) E s:=by
 obtain⟨hn,h⟩:=dD h;obtain⟨ds,h1,h2⟩:=aO h;obtain⟨d,h4,h5⟩:=aO h1;obtain rfl:=lU h5;cases args with
 |nil=>
  obtain⟨⟨rfl,hlen⟩,rfl⟩:=bx h2;exact AI am si (CV hn.1) hn.2 hl h4 hlen
 |cons e args=>
  cases args with
  |cons _ _=>exact no h2
  |nil=>
   obtain⟨⟨⟨rfl,hs⟩,hlen⟩,h6⟩:=dD h2;obtain⟨c,h7,rfl⟩:=dH h6;exact CN VO TO bu am si (CV hn.1) hn.2 hl hs h4 hlen h7
theorem FQ(XO:SH prog w La Bu env.scope.names X)(VO:de prog w La Bu V0)(TO:dU prog w La Bu T)(bu:Bu A)(am:dz A La az)(fr:n7 env F az){wf:Nat}{st:Stmt}{r:Fl}(si:SI env F az σ own s G oa)
(h:df (iY T V0) env.scope.names W wf X st σ own=some r):wpAny (model prog w) A (exec st env) (FP env F az r) E s:=by
 refine S9 (P:=λst=>wpAny (model prog w) A (exec st env) (FP env F az r) E s) st (λe pos h=>?_) (λts e pos h=>?_) (λt op e pos h=>?_) (λt it body orelse pos h=>?_) (λt body orelse pos h=>?_) (λt a b pos h=>?_) (λe pos h=>?_) h
 ·obtain⟨e,rfl,h2⟩:=aO h
  obtain⟨d,h1,rfl⟩:=dH h2;exact CQ (lS VO TO) bu am fr si h1
 ·obtain⟨t,h1,h2⟩:=aO h
  obtain rfl:=BK h1;exact IE VO TO bu am fr si h2
 ·obtain⟨x,h1,h2⟩:=aO h
  obtain rfl:=oy h1;exact IF VO TO bu am fr si h2
 ·cases orelse with
  |nil=>
   obtain⟨ds,h1,h2⟩:=aO h;obtain⟨q1,q2⟩:=CT (prog:=prog) (w:=w) (A:=A) (E:=E) (lS VO TO) TO bu am si h1;exact Mr XO bu am fr q1 si q2 h2
  |cons _ _=>exact no h
 ·cases orelse with
  |nil=>exact FE XO (lS VO TO) bu am fr si h
  |cons _ _=>exact no h
 ·obtain⟨c,h1,h2⟩:=aO h
  exact Qa XO (lS VO TO) bu am fr si h1 h2
 ·obtain⟨x,h1,h2⟩:=aO h
  obtain⟨np,ap,cp,rfl,hl⟩:=FK h1;exact FL VO TO bu am hl si h2
theorem CW(bu:Bu A)(am:dz A La az)(fr:n7 env F az)
(hS:∀(E:Value->ah->Prop) σ own s G oa st r,SI env F az σ own s G oa->S st σ own=some r->wpAny (model prog w) A (exec st env) (FP env F az r) E s):
 ∀(body:List Stmt)(σ:cy)(own:List Str)(s:ah)(G:Addr->Prop)(oa:Str->Addr)(r:Fl),SI env F az σ own s G oa->cU S body σ own=some r->wpAny (model prog w) A (execs body env) (FP env F az r) E s:=λbody=>by
 induction body with
 |nil=>intro σ own s G oa r si h;cases h;exact dJ ⟨rfl,G,oa,si⟩
 |cons st rest ih=>
  intro σ own s G oa r si h;unfold cU at h;obtain⟨r',h1,h2⟩:=aO h;refine aS (ai (hS E σ own s G oa st r' si h1) (λf s1 q=>?_) λ_ _ e=>e);cases r' with
  |nx σ' own'=>
   obtain⟨rfl,G',FC,Mp⟩:=q;exact ih σ' own' s1 G' FC r Mp h2
  |rt d=>
   cases h2;obtain⟨v,rfl,q⟩:=q;exact⟨v,rfl,q⟩
theorem uj(VO:de prog w La Bu V0)(TO:dU prog w La Bu T)(ks)(wf):∀n,SH prog w La Bu ks (AL (iY T V0) ks W wf n)
 |0=>λ_ _ _ _ _ _ _ _ _ _ _ _ _ _ _ _ _ h=>by cases h
 |n+1=>λA E env F az σ own s G oa body r bu am fr si hk h=>by
  subst hk;exact CW bu am fr (λE σ own s G oa st r si h=>FQ (uj VO TO _ wf n) VO TO bu am fr si h) body σ own s G oa r si h
end
end
section
theorem yW{kindOf:Str->Option g6}{n:Str}(hk:kindOf n=some .local):∀(fu:List Str)(vs:List Value)(m:Str->Option Value),fu.length=vs.length->fu.Nodup->bindL kindOf (fu.zip vs) m n=((fu.zip vs).lookup n).or (m n)
 |[],_,m,_,_=>by unfold bindL;rfl
 |p::ps,[],_,h,_=>by simp at h
 |p::ps,v::vs,m,h,hd=>by
  rw[pA];dsimp only[bindL];rw[yW hk ps vs _ (by simpa using h) (fP.mp hd).2,eF];cases hb:n==p with
  |true=>
   have:n=p:=by simpa using hb
   subst this;have hn:(ps.zip vs).lookup n=none:=by
    cases e:(ps.zip vs).lookup n with
    |none=>rfl
    |some u=>exact absurd (gD (mem_of_lookup e)).1 (fP.mp hd).1
   rw[hn,if_pos hk];simp
  |false=>
   have m7:n≠p:=by simpa using hb
   cases(ps.zip vs).lookup n with
   |some u=>rfl
   |none=>
    simp only[n9];split
    ·exact if_neg m7
    ·rfl
theorem yX{kindOf:Str->Option g6}{n:Str}(hk:kindOf n=some .cell):∀(fu:List Str)(vs:List Value)(m:Str->Option Value),fu.length=vs.length->fu.Nodup->bindC kindOf (fu.zip vs) m n=((fu.zip vs).lookup n).or (m n)
 |[],_,m,_,_=>by unfold bindC;rfl
 |p::ps,[],_,h,_=>by simp at h
 |p::ps,v::vs,m,h,hd=>by
  rw[pA];dsimp only[bindC];rw[yX hk ps vs _ (by simpa using h) (fP.mp hd).2,eF];cases hb:n==p with
  |true=>
   have:n=p:=by simpa using hb
   subst this;have hn:(ps.zip vs).lookup n=none:=by
    cases e:(ps.zip vs).lookup n with
    |none=>rfl
    |some u=>exact absurd (gD (mem_of_lookup e)).1 (fP.mp hd).1
   rw[hn,if_neg (by rw[hk];decide)];simp
  |false=>
   have m7:n≠p:=by simpa using hb
   cases(ps.zip vs).lookup n with
   |some u=>rfl
   |none=>
    simp only[n9];split
    ·rfl
    ·exact if_neg m7
theorem U1(h:look [("",d)] ""=some e):d=e:=by
 have h:(if("":Str)="" then _ else none)=some e:=h;rw[if_pos rfl]at h;cases d<;>first|exact no h|exact af h
theorem sH{fu:List Str}:∀{ds:List D}{vs:List Value},aZ h F ds vs->look (fu.zip ds) n=some d->∃v,(fu.zip vs).lookup n=some v/\bW h F d v:=by
 induction fu with
 |nil=>exactλ_ e=>no e
 |cons p ps ih=>
  intro ds vs r e;cases ds with
  |nil=>exact no e
  |cons d' ds=>
   obtain⟨v,r',rfl,h1,h2⟩:=r.eS;rw[pA,eF];have e:(if p=n then _ else look (ps.zip ds) n)=some d:=e;by_cases hp:p=n
   ·rw[if_pos hp]at e
    rw[hp,beq_self_eq_true];exact⟨v,rfl,U1 ((if_pos rfl).trans e)▸h1⟩
   ·rw[if_neg hp]at e
    rw[beq_eq_false_iff_ne.mpr λz:n=p=>hp z.symm];exact ih h2 e
section
variable{prog:bb}{w:World}{A:aC}{E:Value->ah->Prop}{F:Addr->Prop}{s:ah}{La:Heap->Prop}{Bu:aC->Prop}{V0 V:Ev}{T:ek}
structure Qg(fd:jM)(fu:List Str)(body:List Stmt)(ks:bY):Prop where
 bdy:fd.body=.stmts body
 FR:fd.scope.names=ks
 kind:fd.scope.kind=.function
 gen:fd.scope.isGenerator=false
 co:fd.scope.isCoroutine=false
 clo:fd.closure=[]
 gl:fd.globals=mainGlobals
 bi:fd.builtins=builtinsNs
 bind:∀vs:List Value,vs.length=fu.length->bindArgs fd ⟨vs,[]⟩=pure (fu.zip vs)
 nd:fu.Nodup
 ok:fu.all (Az ks)=true
 kd:(ks.map (·.1)).Nodup
theorem FT
(sI:A.depth<recursionLimit)(ho:s.heap.get? a=some o)(yY:o.data=.func fd)(f9:s.heap.NoLimit)(Aq:s.heap.CodeRec fd.code fd.qualname)(tk:1<=s.toks)
(aiA:fd.body=.stmts body)(yZ:bindArgs fd ⟨vals,[]⟩=pure binds)(abj:fd.closure=[])
(mx:∀x∈binds,fd.scope.names.lookup x.1=some .local\/(fd.scope.names.lookup x.1=some .cell/\((cellsFrom (s.heap.objs.size+1) fd.scope.names []).lookup x.1).isSome=true))
(h:∀aU,1<=aU.toks->InCallC s (callEnvC fd s.heap.objs.size a).locals (bindL (callEnvC fd s.heap.objs.size a).kindOf binds λ_=>none) (callEnvC fd s.heap.objs.size a).cells
    (bindC (callEnvC fd s.heap.objs.size a).kindOf binds λ_=>none) aU->
   wpAny (model prog w) (A.deeper (callEnvC fd s.heap.objs.size a)) (execs body (callEnvC fd s.heap.objs.size a)) (λf s'=>R (.ok (.ret (match f with|.ret v=>v|_=>.none))) s')
    (λe s'=>wpAny (model prog w) (A.deeper (callEnvC fd s.heap.objs.size a)) (leaving (callEnvC fd s.heap.objs.size a) e) (λ_ LJ=>R (.error e) LJ) (λe' LJ=>R (.error e') LJ) s') aU)
(hco:fd.scope.isCoroutine=false)(apP:fd.scope.isGenerator=false)(hk:fd.scope.kind=.function):
 codeAny (model prog w) A (.call (.ref a) ⟨vals,[]⟩) R s:=by
 refine codeAny_call_function sI ho yY hco apP aiA Aq ?_;rw[yZ,abj];refine aL (ai (wpAny_toks_of (n:=1) tk (wpAny_newFunctionEnv_cells (Q:=λenv s'=>env=newEnv fd.scope s.heap.objs.size fd.globals (cellsFrom (s.heap.objs.size+1) fd.scope.names []) (fd.qualname++".<locals>.") (some a) fd.code none fd.builtins/\InCallC s env.locals (bindL env.kindOf binds λ_=>none) env.cells (bindC env.kindOf binds λ_=>none) s') hk mx λenv he s' x=>⟨he,x⟩)) (λenv s' q=>?_) λ_ _ e=>e.2);obtain⟨t,he,x⟩:=q;subst he;exact⟨f9.keeps x.toInCall.keep,codeAny_func (h s' t x)⟩
theorem sJ{Q:Value->ah->Prop}{ks:bY}{a:Addr}{o:Obj}{fd:jM}{fu:List Str}{body:List Stmt}{ds:List D}{vs:List Value}(fi:Qg fd fu body ks)
(sI:A.depth<recursionLimit)(ho:s.heap.get? a=some o)(yY:o.data=.func fd)(Aq:s.heap.CodeRec fd.code fd.qualname)(hl:ds.length=fu.length)
(am:dz A La s)(un:A.units+203<cLine)(lo:iW F s.heap)(r:aZ s.heap F ds vs)
(h:∀env aU G oa,env.scope.names=ks->env=callEnvC fd s.heap.objs.size a->dz (A.deeper env) La s->n7 env F s->SI env F s (fu.zip ds) [] aU G oa->∀E':Value->ah->Prop,wpAny (model prog w) (A.deeper env) (execs body env) (λf s'=>Q (match f with|.ret v=>v|_=>.none) s') E' aU):
 wpAny (model prog w) A (call (.ref a) vs) Q E s:=by
 have hvl:=r.length;refine G8 ?_;have ok0:=cellsFrom_ok fd.scope.names (s.heap.push {cls:=.type "frame",data:=.dict #[]}) (s.heap.objs.size+1) [] ⟨λ_ _ hm=>(nomatch hm),Lo⟩ (by rw[ia];exact cf _);refine FT sI ho yY am.nl Aq am.tk fi.bdy (fi.bind vs (by rw[hvl,hl])) fi.clo (λx hx=>?_) (λaU t1 X1=>?_) fi.co fi.gen fi.kind
 ·obtain⟨xn,xv⟩:=x
  have hm:=(gD hx).1;have:=aw.mp fi.ok xn hm;unfold Az at this;rw[fi.FR];split at this
  ·rename_i q;exact .inl q
  ·rename_i q
   refine .inr ⟨q,?_⟩;obtain⟨c,hc⟩:=mP fd.scope.names (s.heap.objs.size+1) [] xn (.inl (by rw[fi.FR];exact mem_of_lookup q));obtain⟨c',Mf⟩:=oq hc;rw[fi.FR]at Mf;rw[Mf];rfl
  ·cases this
 ·generalize iu:callEnvC fd s.heap.objs.size a=env at X1⊢
  have AO:env.locals=s.heap.objs.size:=by rw[<-iu];rfl
  have rO:env.scope=fd.scope:=by rw[<-iu];rfl
  have rQ:env.cells=cellsFrom (s.heap.objs.size+1) fd.scope.names []:=by rw[<-iu];rfl
  have mx:∀n,env.kindOf n=ks.lookup n:=λn=>by unfold gT;rw[rO,fi.FR]
  have nw:∀b,s.heap.objs.size<=b->s.heap.get? b=none:=λb hb=>by
   cases e:s.heap.get? b with
   |none=>rfl
   |some o=>exact absurd (cY e) (pN.mpr hb)
  have oo:∀n c,env.cells.lookup n=some c->s.heap.objs.size<c:=λn c e=>by
   have:=X1.above n c (mem_of_lookup e);rwa[AO]at this
  let G:Addr->Prop:=λb=>F b\/b=env.locals\/∃n,env.cells.lookup n=some b;have kk:bV s.heap aU.heap:=X1.toInCall.keep;obtain⟨h1,tk1,e1⟩:=X1.toInCall.same;have hGn:∀b,G b->F b\/s.heap.get? b=none:=λb q=>by
   rcases q with q|q|⟨n,q⟩
   ·exact .inl q
   ·exact .inr (nw b (by rw[q,AO];exact cf _))
   ·exact .inr (nw b (cA (oo n b q)))
  have bl:∀n c,env.cells.lookup n=some c->G c:=λn c e=>.inr (.inr ⟨n,e⟩);have hcs:∀n,env.kindOf n=some .cell->∃c,env.cells.lookup n=some c:=λn hk=>by
   rw[mx]at hk;obtain⟨c,hc⟩:=mP fd.scope.names (s.heap.objs.size+1) [] n (.inl (by rw[fi.FR];exact mem_of_lookup hk));obtain⟨c',Mf⟩:=oq hc;exact⟨c',by rw[rQ];exact Mf⟩
  have hGr:∀{d':D}{v:Value},bW s.heap F d' v->bW aU.heap G d' v:=λr=>bW.kept (F:=F) (λb o _ e=>kk b o e) hGn _ _ r;have fr:n7 env F s:=⟨nw _ (by rw[AO];exact cf _),λn c _ e=>nw _ (cA (oo n c e)),lo⟩
  have x1:In env G (fu.zip ds) aU.heap:=by
   refine⟨by rw[rO];exact fi.kind,by rw[<-iu];exact fi.gl,by rw[<-iu];exact fi.bi,λb q=>?_,.inr (.inl rfl),λn c e=>⟨bl n c e,λz=>?_⟩,λn n' c e e'=>name_of_addr X1.apart (mem_of_lookup e) (mem_of_lookup e'),λn hk=>?_,⟨_,X1.toInCall.ns,λn d' e=>⟨λhk=>?_,λhk=>?_⟩⟩⟩
   ·rcases q with q|q|⟨n,q⟩
    ·exact(lo.keeps kk) b q
    ·obtain⟨o',_,_,e,_⟩:=X1.toInCall.ns
     rw[q,e];rfl
    ·obtain⟨o',e,_⟩:=X1.cell n b q
     rw[e];rfl
   ·have:=oo n c e
    rw[z,AO]at this;exact dS _ this
   ·obtain⟨c,hc⟩:=hcs n hk
    exact⟨c,_,hc,X1.cell n c hc⟩
   ·obtain⟨v,e1,e2⟩:=sH r e
    refine⟨v,?_,hGr e2⟩;rw[yW hk fu vs _ (by rw[hvl,hl]) fi.nd,e1];rfl
   ·obtain⟨v,e1,e2⟩:=sH r e
    have hk:env.kindOf n=some .cell:=hk.resolve_right λq=>by
     have hm:=(gD (mem_of_lookup e1)).1;have:=aw.mp fi.ok n hm;unfold Az at this;rw[<-mx,q]at this;cases this
    obtain⟨c,hc⟩:=hcs n hk;refine⟨c,v,hc,?_,hGr e2⟩;have:=X1.cell n c hc;rw[yX hk fu vs _ (by rw[hvl,hl]) fi.nd,e1]at this;exact this
  have si:SI env F s (fu.zip ds) [] aU G (λ_=>0):=
   ⟨λb q=>.inl q,hGn,⟨h1,tk1,e1,by rw[e1]at kk;exact kk⟩,t1,x1.sub λn d' e=>by rw[fJ]at e;simpa using e,λn hn=>(nomatch hn),λn hn=>(nomatch hn),λn n' hn=>(nomatch hn)⟩
  have am':dz (A.deeper env) La s:=⟨am.hh,am.nb,am.nl,am.gl,am.tk,by rw[eR];omega,am.la⟩
  exact ai (h env aU G _ (by rw[rO];exact fi.FR) iu.symm am' fr si _) (λf s' q=>q) λ_ _ e=>e
theorem Qh(XO:SH prog w La Bu ks X)(fi:Qg fd fu body ks)
(sI:A.depth<recursionLimit)(ho:s.heap.get? a=some o)(yY:o.data=.func fd)(Aq:s.heap.CodeRec fd.code fd.qualname)(hl:ds.length=fu.length)
(bu:∀env,Bu (A.deeper env))(am:dz A La s)(un:A.units+203<cLine)(lo:iW F s.heap)(r:aZ s.heap F ds vs)(h:X body (fu.zip ds) []=some (.rt d)):
 wpAny (model prog w) A (call (.ref a) vs) (gW F s d) E s:=by
 refine sJ fi sI ho yY Aq hl am un lo r (λenv aU G oa jr _ iT fr si E'=>?_);refine ai (XO (A.deeper env) E' env F s (fu.zip ds) [] aU G oa body (.rt d) (bu env) iT fr si jr h) (λf s' q=>?_) λ_ _ e=>e;obtain⟨v,rfl,q1,q2,q3⟩:=q;exact⟨q1,q3⟩
end
end
def Bu(k:Nat)(A:aC):Prop:=A.depth+k<=900/\A.units+3*k+203<cLine
theorem Bu.less(h:Bu k A)(hj:j<=k):Bu j A:=⟨by have:=h.1;omega,by have:=h.2;omega⟩
theorem Bu.deeper(h:Bu (k+1) A)(env:Env):Bu k (A.deeper env):=⟨by
 have:=h.1;show A.depth+1+k<=900;omega,by
 have:=h.2;rw[eR];omega⟩
structure y0 where
 fns:Str->Option (List Str×List Stmt×Scope)
 W:Str->List Str
 prim:Str->Option (List D->Option D)
 gl:Str->Option D
 get:Str->List D->Option D
 mem:Str->D->Option Bool
def abB:Option Fl->Option D
 |none=>none
 |some x=>match x with
  |.rt d=>some d
  |_=>none
theorem MB(h:abB o=some d):o=some (.rt d):=by
 cases o with
 |none=>exact no h
 |some x=>cases x<;>first|exact no h|exact af h▸rfl
def y0.run(P:y0)(m wf n:Nat)(T:ek)(f:Str)(ds:List D):Option D:=
 (P.fns f).bind λx=>if ds.length=x.1.length then abB (AL (dX T (m+1)) x.2.2.names (P.W f) wf n x.2.1 (x.1.zip ds) [])else none
def y0.fn(P:y0)(m wf n:Nat)(T:ek)(f:Str)(ds:List D):Option D:=match P.prim f with
 |some p=>p ds
 |none=>P.run m wf n T f ds
def y0.tab(P:y0)(m wf n:Nat):Nat->ek
 |0=>⟨λ_ _=>none,P.gl,P.get,P.mem⟩
 |r+1=>⟨P.fn m wf n (P.tab m wf n r),P.gl,P.get,P.mem⟩
structure FV(prog:bb)(w:World)(La:Heap->Prop)(P:y0)(k:Nat):Prop where
 gl:∀h n d,La h->P.gl n=some d->∃v,Gv h n v/\∀F,bW h F d v
 bi:∀h (b:Bi),La h->Bv h b.name b.val
 SA:∀h,La h->Bv h "isinstance" (.builtin "isinstance")
 rev:∀h,La h->Bv h "reversed" (.type "reversed")
 ty:∀h (n:Str),La h->(n="bool"\/n="int")->Bv h n (.type (Cz n))
 fn:∀h f ps body sc,La h->P.prim f=none->P.fns f=some (ps,body,sc)->∃a o fd,Gv h f (.ref a)/\h.get? a=some o/\o.data=.func fd/\h.CodeRec fd.code fd.qualname/\Qg fd ps body sc.names
 prim:∀h f p ds d,La h->P.prim f=some p->p ds=some d->∃a o fd,Gv h f (.ref a)/\h.get? a=some o/\o.data=.func fd/\
  ∀(A:aC)(E:Value->ah->Prop) F s vs,Bu k A->dz A La s->iW F s.heap->bV h s.heap->aZ s.heap F ds vs->wpAny (model prog w) A (call (.ref a) vs) (gW F s d) E s
 get:∀h g ds d,La h->P.get g ds=some d->∃a o,Gv h g (.ref a)/\h.get? a=some o/\o.cls=.type "dict"/\o.dict=none/\
  ∀(A:aC)(E:Value->ah->Prop) F s vs,dz A La s->iW F s.heap->bV h s.heap->aZ s.heap F ds vs->wpAny (model prog w) A (call (.builtin "dict.get") (.ref a::vs)) (gW F s d) E s
 mem:∀h g x b,La h->P.mem g x=some b->∃a,Gv h g (.ref a)/\
  ∀(A:aC)(E:Value->ah->Prop) F s v,dz A La s->bV h s.heap->bW s.heap F x v->wpAny (model prog w) A (compareOp .In v (.ref a)) (λr s'=>r=.bool b/\Keeps s s') E s
theorem FW{prog:bb}{w:World}{La:Heap->Prop}{Bu:aC->Prop}{P:y0}(L:FV prog w La P k)(h:Heap)(g:Str)(ds:List D)(d:D)(la:La h)(e:P.get g ds=some d):∃a o,Gv h g (.ref a)/\h.get? a=some o/\o.cls=.type "dict"/\o.dict=none/\
 ∀(A:aC)(E:Value->ah->Prop) F s vs,Bu A->dz A La s->iW F s.heap->bV h s.heap->aZ s.heap F ds vs->wpAny (model prog w) A (call (.builtin "dict.get") (.ref a::vs)) (gW F s d) E s:=by
 obtain⟨a,o,q1,q2,q3,q4,q5⟩:=L.get h g ds d la e;exact⟨a,o,q1,q2,q3,q4,λA E F s vs _=>q5 A E F s vs⟩
theorem FX{prog:bb}{w:World}{La:Heap->Prop}{Bu:aC->Prop}{P:y0}(L:FV prog w La P k)(h:Heap)(g:Str)(x:D)(b:Bool)(la:La h)(e:P.mem g x=some b):∃a,Gv h g (.ref a)/\
 ∀(A:aC)(E:Value->ah->Prop) F s v,Bu A->dz A La s->bV h s.heap->bW s.heap F x v->wpAny (model prog w) A (compareOp .In v (.ref a)) (λr s'=>r=.bool b/\Keeps s s') E s:=by
 obtain⟨a,q1,q2⟩:=L.mem h g x b la e;exact⟨a,q1,λA E F s v _=>q2 A E F s v⟩
theorem aiF(L:FV prog w La P k)(m wf n:Nat)(TO:dU prog w La (Bu (r+k)) T)(h:Heap)(f:Str)(ds:List D)(d:D)(la:La h)(e:P.fn m wf n T f ds=some d):∃a o fd,Gv h f (.ref a)/\h.get? a=some o/\o.data=.func fd/\
 ∀(A:aC)(E:Value->ah->Prop) F s vs,Bu (r+1+k) A->dz A La s->iW F s.heap->bV h s.heap->aZ s.heap F ds vs->wpAny (model prog w) A (call (.ref a) vs) (gW F s d) E s:=by
 unfold y0.fn at e;cases hp:P.prim f with
 |some p=>
  rw[hp]at e;obtain⟨a,o,fd,q1,q2,q3,q4⟩:=L.prim h f p ds d la hp e;exact⟨a,o,fd,q1,q2,q3,λA E F s vs bu=>q4 A E F s vs (bu.less (by omega))⟩
 |none=>
  rw[hp]at e;obtain⟨x,hf,e⟩:=aO (show(P.fns f).bind _=some d from e);obtain⟨hl,e⟩:=dD e;obtain⟨a,o,fd,q1,q2,q3,q4,q5⟩:=L.fn h f x.1 x.2.1 x.2.2 la hp hf;refine⟨a,o,fd,q1,q2,q3,λA E F s vs bu am lo kk rs=>?_⟩;have bu':Bu (r+k+1) A:=by rw[Nat.add_right_comm];exact bu
  exact Qh (uj (W:=P.W f) (gw TO m) TO x.2.2.names wf n) q5 (bk (aq (dZ _ _) bu.1) (by decide)) (kk _ _ q2) q3 (q4.keeps kk) hl (λenv=>bu'.deeper env) am (by have:=bu.2;omega) lo rs (MB e)
theorem IG(L:FV prog w La P k)(m wf n:Nat)(r:Nat):dU prog w La (Bu (r+k)) (P.tab m wf n r):=by
 induction r with
 |zero=>exact⟨L.gl,L.bi,L.SA,L.rev,L.ty,λ_ _ _ _ _ h=>no h,FW L,FX L⟩
 |succ r ih=>exact⟨L.gl,L.bi,L.SA,L.rev,L.ty,aiF L m wf n ih,FW L,FX L⟩
section
section
variable{G F:Addr->Prop}{env:Env}{az s s':ah}{σ:cy}{own:List Str}{oa:Str->Addr}
inductive aiH(env:Env)(F:Addr->Prop)(az:ah)(σ:cy)(own:List Str)(s':ah)(G:Addr->Prop)(oa:Str->Addr)(P:Addr):Prop
 |mk (aU:ah) (si:SI env F aU σ own s' G oa) (fr:n7 env F aU) (kb:∀a o,az.heap.get? a=some o->a≠P->aU.heap.get? a=some o) (kP:∀o,s'.heap.get? P=some o->aU.heap.get? P=some o) (tk:1<=aU.toks) (fm:∃h tk,aU={az with heap:=h,toks:=tk})
theorem SI.sM(si:SI env F az σ own s G oa)(fr:n7 env F az)(hF:F P)(hc:∀n,env.cells.lookup n≠some P)(u:Upd (λa=>a=P) s s')(t:1<=s'.toks)(hs:(s'.heap.get? P).isSome=true):
 aiH env F az σ own s' G oa P:=by
 obtain⟨h',hh⟩:=yO s'.heap (λa=>¬G a\/F a);have hG:G P:=si.hF P hF;have kp:Kept (λa=>a=P) s.heap s'.heap:=u.kept λ_ q=>q;obtain⟨h,tk,rfl,kk⟩:=si.kp;obtain⟨h2,PT,rfl,ku⟩:=u;have nF:∀a,az.heap.get? a=none->¬F a:=λa e q=>by
  have:=fr.lo a q;rw[e]at this;cases this
 have hl:P≠env.locals:=λz=>nF _ fr.hl (z▸hF);have ho:∀n,n∈own->oa n≠P:=λn hn z=>nF _ (si.owN hn) (z▸hF);have UX:∀a,G a->¬F a->h'.get? a=none:=λa g nf=>by
  cases e:h'.get? a with
  |none=>rfl
  |some o=>rcases((hh a o).mp e).1 with q|q
           ·exact absurd g q
           ·exact absurd q nf
 have u':Upd (λa=>a=P) {az with heap:=h,toks:=tk} {az with heap:=h2,toks:=PT}:=⟨h2,PT,rfl,ku⟩
 have old:∀a o,az.heap.get? a=some o->a≠P->h'.get? a=some o:=λa o e ne=>(hh a o).mpr ⟨by
  by_cases g:G a
  ·rcases si.hN a g with q|q
   ·exact .inr q
   ·rw[q]at e;cases e
  ·exact .inl g,ku a o ne (kk a o e)⟩
 refine⟨{az with heap:=h',toks:=PT},⟨si.hF,λa g=>?_,⟨h2,PT,rfl,λb o e=>((hh b o).mp e).2⟩,t,si.ie.upd u' (λa q=>q▸hG) (iW.upd si.ie.lo kp λb q=>q▸hs) (λz=>hl z.symm) (λn c e z=>hc n (z▸e)),λn hn=>?_,si.od,si.oi⟩,
  ⟨UX _ si.ie.fl (nF _ fr.hl),λn c ho e=>UX _ (si.ie.fc n c e).1 (nF _ (fr.hc n c ho e)),λb q=>?_⟩,old,λo e=>(hh P o).mpr ⟨.inr hF,e⟩,t,⟨h',PT,rfl⟩⟩
 ·by_cases q:F a
  ·exact .inl q
  ·exact .inr (UX a g q)
 ·obtain⟨q1,q2,q3,q4,ds,q5,q6⟩:=si.ow n hn
  exact⟨q1,q2.kept kp (λz=>hl z.symm) (λn c e z=>hc n (z▸e)),q3,UX _ q3 (nF _ q4),ds,q5,q6.kept kp (λb q=>q▸hG) (ho n hn)⟩
 ·by_cases hb:b=P
  ·obtain⟨o,e⟩:=ay.mp hs
   rw[hb,(hh P o).mpr ⟨.inr hF,e⟩];rfl
  ·obtain⟨o,e⟩:=ay.mp (fr.lo b q)
   rw[old b o e hb];rfl
end
end
theorem FY{vs:List Value}:∀(ns:List Str),ns.length=vs.length->(ns.filter λn=>((ns.zip vs).lookup n).isNone)=[]:=by
 intro ns hl;rw[lg];intro n hn;obtain⟨i,hi,rfl⟩:=aee hn;have hm:(ns[i],vs[i]'(by lia))∈ns.zip vs:=by
  have:(ns.zip vs)[i]'(by simp;lia)=(ns[i],vs[i]'(by lia)):=by simp
  rw[<-this];exact ib _
 have:∀(l:List (Str×Value))(n:Str)(v:Value),(n,v)∈l->(l.lookup n).isSome=true:=by
  intro l
  induction l with
  |nil=>intro n v h;cases h
  |cons x l ih=>
   obtain⟨a,b⟩:=x;intro n v h;rw[eF];cases hb:n==a with
   |true=>rfl
   |false=>
    rcases aJ.mp h with h|h
    ·injection h with h1 h2
     subst h1;simp at hb
    ·exact ih n v h
 have h2:=this _ _ _ hm;cases e:(ns.zip vs).lookup ns[i]with
 |none=>rw[e]at h2;cases h2
 |some v=>simp
theorem MC(n:Str)(v:Value)(z:List (Str×Value))(l:List Str)(h:∀m,m∈l->m≠n):l.filterMap (λm=>(((n,v)::z).lookup m).map (m,·))=l.filterMap (λm=>(z.lookup m).map (m,·)):=
 by
 induction l with
 |nil=>rfl
 |cons m l ih=>rw[xT,xT,eF,beq_eq_false_iff_ne.mpr (h m (aA ..)),ih λx hx=>h x (aD _ hx)]
theorem AP(ns:List Str):∀(vs:List Value),ns.Nodup->ns.length=vs.length->(ns.filterMap λn=>((ns.zip vs).lookup n).map (n,·))=ns.zip vs:=by
 induction ns with
 |nil=>exactλ_ _ _=>rfl
 |cons n ns ih=>
  intro vs hd hl;cases vs with
  |nil=>cases hl
  |cons v vs=>
   have hd:=fP.mp hd;rw[pA,xT,eF,beq_self_eq_true];show(n,v)::_=_;rw[MC n v (ns.zip vs) ns λm hm e=>hd.1 (e▸hm),ih vs hd.2 (Lq hl)]
theorem j7(h1:fd.params.posonlyargs=[])(h2:fd.params.kwonlyargs=[])(h3:fd.params.vararg=none)(h4:fd.params.kwarg=none)(h5:fd.defaults=.none)
(hd:(fd.params.args.map (·.arg)).Nodup)(hl:vs.length=(fd.params.args.map (·.arg)).length):bindArgs fd ⟨vs,[]⟩=pure ((fd.params.args.map (·.arg)).zip vs):=by
 have f1:=FY (vs:=vs) (fd.params.args.map (·.arg)) hl.symm;have f2:=AP (fd.params.args.map (·.arg)) vs hd hl.symm;have g1:¬(decide (vs.length>(fd.params.args.map (·.arg)).length)&&true)=true:=by rw[hl];simp
 obtain⟨a1,a2,⟨po,ar,va,ko,kd,kw⟩,a4,a5,a6,a7,a8,a9,a10,a11,a12⟩:=fd;dsimp only at*;subst h1 h2 h3 h4 h5;refine(if_neg g1).trans ?_;generalize hz:List.drop _ _=dd;have hz':dd=[]:=hz.symm.trans List.drop_nil;clear hz;subst hz';refine(if_neg ?_).trans ?_
 ·show¬(!((List.take (ar.map (·.arg)).length (ar.map (·.arg))).filter λn=>(((ar.map (·.arg)).zip vs).lookup n).isNone).isEmpty)=true
  rw[rz,f1];exact aF
 ·generalize (ar.map (·.arg))=ns at*
  generalize hz:List.drop _ _=dd;have hz':dd=[]:=hz.symm.trans (DV (l:=ns));clear hz;subst hz';show(pure ((ns++[]).filterMap λn=>((ns.zip vs).lookup n).map (n,·)):Sem (List (Str×Value)))=_;rw[c9,f2]
section
theorem uk(h:vInt v=some i):∃t,v=.int i t:=by
 obtain⟨x,_,rfl⟩:=dH h;exact⟨x.1.2,x.2⟩
theorem BM(h:vStr v=some i):∃t,v=.str i t:=by
 obtain⟨x,_,rfl⟩:=dH h;exact⟨x.1.2,x.2⟩
theorem isInt_self(i)(t):Value.isInt i (.int i t)=true:=by simp[Value.isInt]
theorem rR(i)(t):avL i (.str i t)=true:=by simp[avL]
theorem CX(w)(h:vInt v=some i):(intKind pw w).is i v=true:=by obtain⟨t,e⟩:=uk h;exact e▸isInt_self i t
theorem abC(w)(h:vStr v=some i):(strKind pw w).is i v=true:=by obtain⟨t,e⟩:=BM h;exact e▸rR i t
section
variable{w:World}{K V:Type}[DecidableEq K](knd:KeyKind pw w K)(kf:Value->Option K)(vf:Value->Option V)
theorem abD(his:∀v k,kf v=some k->knd.is k v=true)(L:List (K×V)):∀(es:List c8),es.map (λe=>(e.hash,kf e.key,vf e.val))=L.map (λx=>(knd.hash x.1,some x.1,some x.2))->
 ∃jG,Pairs knd es jG/\(∀e∈es,∃k,knd.is k e.key=true/\e.hash=knd.hash k)/\jG.map (λkv=>(kv.1,vf kv.2))=L.map (λx=>(x.1,some x.2)):=by
 induction L with
 |nil=>
  intro es h;rw[aef.mp h];exact⟨[],.nil,λe he=>(nomatch he),rfl⟩
 |cons x L ih=>
  intro es h;cases es with
  |nil=>cases h
  |cons e es=>
   obtain⟨h1,h2⟩:=eE h;obtain⟨jG,p,q,r⟩:=ih es h2;rcases gy h1 with⟨a,h1⟩
   rcases gy h1 with⟨b,c⟩
   refine⟨(x.1,e.val)::jG,.cons (his _ _ b) rfl p,λy hy=>?_,by rw[bJ,r,c];rfl⟩;rcases aJ.mp hy with rfl|hy
   ·exact⟨x.1,his _ _ b,a⟩
   ·exact q y hy
theorem FZ(L:List (K×V)):∀(jG:List (K×Value)),jG.map (λkv=>(kv.1,vf kv.2))=L.map (λx=>(x.1,some x.2))->∀k,(valueAt jG k).map vf=(L.find? λx=>decide (x.1=k)).map λx=>some x.2:=by
 induction L with
 |nil=>intro jG h k;rw[aef.mp h];rfl
 |cons x L ih=>
  intro jG h k;cases jG with
  |nil=>cases h
  |cons y jG=>
   obtain⟨h1,h2⟩:=eE h;obtain⟨h0,h1⟩:=gy h1;have ih:=ih jG h2 k;have h0:y.1=x.1:=h0;unfold valueAt at ih⊢;rw[Hn,Hn,h0];cases decide (x.1=k)with
   |true=>exact congrArg some h1
   |false=>exact ih
end
def floats:List (Str×UInt64):=[("ONE_THIRD",4599676419421066581),("ONE_SIXTH",4595172819793696085),("TWO_THIRD",4604180019048437077)]
def abE(w:World)(h:Heap)(a:Addr):Prop:=∃jG,h.DictOf (intKind pw w) a jG/\jG.map (λkv=>(kv.1,vStr kv.2))=L3.map (λx=>(x.1,some x.2))
def abF(w:World)(h:Heap)(a:Addr):Prop:=∃jG,h.DictOf (strKind pw w) a jG/\jG.map (λkv=>(kv.1,vInt kv.2))=L4.map (λx=>(x.1,some x.2))
inductive YP(w:World)(h:Heap):Prop
 |mk (mg:Str->Option Value) (g:h.Ns mainGlobals mg) (fl:∀x∈floats,∃t,mg x.1=some (.float x.2 t)/\t≠0) (s:∃a,mg "b1_set"=some (.ref a)/\h.SetOf (intKind pw w) a (λk=>mN.contains k) 27)
  (d3:∃a,mg "b3_exceptions"=some (.ref a)/\a≠sysModules/\abE w h a) (d4:∃a,mg "EXACT_TOKEN_TYPES"=some (.ref a)/\a≠sysModules/\abF w h a)
theorem y6(e:Oo h n=some o):∃a,h.nsMap mainGlobals n=some (.ref a)/\a≠sysModules/\h.get? a=some o:=by
 obtain⟨v,h1,e⟩:=aO e;obtain⟨a,_,e⟩:=aO e;by_cases q:a.1=sysModules
 ·rw[if_pos q]at e;exact no e
 ·rw[if_neg q]at e;exact⟨a.1,h1.trans (congrArg some a.2),q,e⟩
theorem U2:(L3.map (·.1)).Nodup:=Bk _ (by rfl')
theorem U3:(L4.map (·.1)).Nodup:=by decide
theorem IH{m:Str->Option Value}{n:Str}{b:UInt64}(h:(m n).map afd=some (some b)):∃t,m n=some (.float b t)/\t≠0:=by
 obtain⟨v,h1,h2⟩:=dH h;rw[h1];obtain⟨⟨⟨y,t⟩,rfl⟩,_,h2⟩:=aO h2;have h2:(bif bM t 0 then none else some y)=some b:=h2;cases ht:bM t 0 with
 |true=>rw[ht]at h2;exact no h2
 |false=>
  rw[ht]at h2;exact⟨t,congrArg (λy=>some (Value.float y t)) (af h2),Nat.ne_of_beq_eq_false ht⟩
theorem Qi{w:World}{h:Heap}{n:Str}{K V:Type}[DecidableEq K](knd:KeyKind pw w K)(kf:Value->Option K)(vf:Value->Option V)(his:∀v k,kf v=some k->knd.is k v=true){L:List (K×V)}(hL:(L.map (·.1)).Nodup)
(e:HE (λe=>(e.hash,kf e.key,vf e.val)) h n=some (true,L.map λx=>(knd.hash x.1,some x.1,some x.2))):∃a,h.nsMap mainGlobals n=some (.ref a)/\a≠sysModules/\∃jG,h.DictOf knd a jG/\jG.map (λkv=>(kv.1,vf kv.2))=L.map (λx=>(x.1,some x.2)):=by
 obtain⟨o,h1,h2⟩:=aO e;obtain⟨a,ha,hs,ho⟩:=y6 h1;obtain⟨cls,dict,data,slots⟩:=o;obtain⟨⟨⟨xs,ep⟩,hx⟩,_,h2⟩:=dH h2;have hx:data=.dict xs ep:=hx;subst hx;obtain⟨c,c5⟩:=gy h2;obtain⟨c,c3⟩:=(av _ _).mp c;obtain⟨c1,c2⟩:=(av _ _).mp c;obtain⟨jG,p,q,r⟩:=abD knd kf vf his L _ c5;refine⟨a,ha,hs,jG,⟨_,xs,ep,ho,⟨eq_of_beq c1,c6.mp c2,ae3.mp c3⟩,rfl,λe he=>q e (Array.mem_toList_iff.mpr he),p,?_⟩,r⟩;have:=congrArg (xf Prod.fst) r;rw[eU,eU]at this;exact(show jG.map (·.1)=L.map (·.1)from this)▸hL
theorem U4:∀k∈mN,hashInt k=k:=by decide
theorem abG(e:Oq h "b1_set"=some (true,mN.map λi=>(i,some i))):∃a,h.nsMap mainGlobals "b1_set"=some (.ref a)/\h.SetOf (intKind pw w) a (λk=>mN.contains k) 27:=by
 obtain⟨o,h1,h2⟩:=aO e;obtain⟨a,ha,hs,ho⟩:=y6 h1;obtain⟨cls,dict,data,slots⟩:=o;obtain⟨⟨⟨xs,ep,t⟩,hx⟩,_,h2⟩:=dH h2;have hx:data=.set xs ep t:=hx;subst hx;obtain⟨c,c5⟩:=gy h2;obtain⟨c,c3⟩:=(av _ _).mp c;obtain⟨c1,c2⟩:=(av _ _).mp c;obtain⟨c3,c4⟩:=(av _ _).mp c3;have hl:xs.size=27:=by
  have:=congrArg qv c5;rw[aj,aj,cu]at this;exact this
 have mem:∀e∈xs.toList,∃k∈mN,e.1=k/\vInt e.2=some k:=λe he=>by
  obtain⟨k,hk,hke⟩:=Lv (c5▸xR (f:=λe:Int×Value=>(e.1,vInt e.2)) he);obtain⟨q1,q2⟩:=gy hke;exact⟨k,hk,q1.symm,q2.symm⟩
 refine⟨a,ha,⟨⟨cls,dict,.set xs ep t,slots⟩,xs,ep,t,ho,⟨eq_of_beq c1,c6.mp c2,ae3.mp c3⟩,rfl,λe he=>?_,λk=>⟨λhk=>?_,λ⟨e,he,hke⟩=>?_⟩,hl▸(by decide),c4,hl⟩⟩
 ·obtain⟨k,hk,h1,h2⟩:=mem e he
  obtain⟨t,h3⟩:=uk h2;exact⟨⟨k,CX w h2,h1.trans (U4 k hk).symm⟩,h3▸rfl⟩
 ·obtain⟨e,he,hke⟩:=Lv (c5.symm▸xR (f:=λi=>(i,some i)) (cL.mp hk))
  exact⟨e,he,CX w (gy hke).2⟩
 ·obtain⟨k',jU,_,h2⟩:=mem e he
  exact cL.mpr ((intKind pw w).inj _ _ _ hke (CX w h2)▸jU)
theorem aiJ(w:World)(s:ah)(e:(s.heap.isNs mainGlobals,HF.look s.heap)=(true,Bh w)):YP w s.heap:=by
 obtain⟨e1,e2⟩:=gy e;have e2:Ot ["ONE_THIRD","ONE_SIXTH","TWO_THIRD"] "b1_set" "b3_exceptions" "EXACT_TOKEN_TYPES" s.heap=Bh w:=e2;have f:=congrArg Look.fl e2;obtain⟨f1,f⟩:=eE f;obtain⟨f2,f⟩:=eE f;refine⟨s.heap.nsMap mainGlobals,.of_isNs e1,λx hx=>?_,abG (congrArg Look.st e2),Qi (intKind pw w) vInt vStr (λ_ _=>CX w) U2 (congrArg Look.d3 e2),Qi (strKind pw w) vStr vInt (λ_ _=>abC w) U3 (congrArg Look.d4 e2)⟩;rcases aJ.mp hx with rfl|hx
 ·exact IH f1
 ·rcases aJ.mp hx with rfl|hx
  ·exact IH f2
  ·rw[aY.mp hx];exact IH (eE f).1
theorem dict_keeps{w:World}{h h':Heap}{a:Addr}{K:Type}[DecidableEq K]{knd:KeyKind pw w K}{jG:List (K×Value)}(k:bV h h')(x:h.DictOf knd a jG):h'.DictOf knd a jG:=by
 obtain⟨o,es,ep,ho,r⟩:=x;exact⟨o,es,ep,k _ _ ho,r⟩
theorem F0(w:World)(h h':Heap)(y:YP w h)(k:∀b o,h.get? b=some o->h'.get? b=some o):YP w h':=by
 cases y with
 |mk mg g fl s d3 d4=>
 refine⟨mg,g.keeps k,fl,?_,?_,?_⟩
 ·obtain⟨a,a1,o,es,ep,t,a2,a3⟩:=s
  exact⟨a,a1,o,es,ep,t,k _ _ a2,a3⟩
 ·obtain⟨b,b1,b2,jG,b3,b4⟩:=d3
  exact⟨b,b1,b2,jG,dict_keeps k b3,b4⟩
 ·obtain⟨b,b1,b2,jG,b3,b4⟩:=d4
  exact⟨b,b1,b2,jG,dict_keeps k b3,b4⟩
end
section
def fdR(s:Stmt):Option tK:=if h:s.ctorIdx=0 then rg (motive_2:=λ_=>Option tK) s h λn a b _ _ _ c _ _ p=>some ⟨n,a,b,c,p⟩else none
def iG:List tK:=pw.main.body.filterMap fdR
theorem Kp:recsOf ik=iG:=by rfl'
structure pG(mg mb:Str->Option Value)(w:World)(h:Heap):Prop where
 g:h.Ns mainGlobals mg
 b:h.Ns builtinsNs mb
 fn:∀d∈iG,∃a o pm code doc,mg d.name=some (.ref a)/\h.get? a=some o/\o.data=.func (cO d.name d.params d.body d.scope pm code doc)/\h.CodeRec code d.name
 const:∀x d,valOf ik x=some d->∃v,mg x=some v/\∀h':Heap,Reads h' v d []
 free:∀x,x∉startupNames->x∉looseW ik iP->x∉iG.map (·.name)->x∉(litsOf ik).map (·.1)->x∉(clssOf ik (looseW ik iP)).map (·.name)->mg x=none
 builtins:∀x:Str,x≠"__name__"->mb x=bootBuiltins x
 bmain:∃bm ob,mg "__builtins__"=some (.ref bm)/\bm≠builtinsNs/\h.get? bm=some ob/\ob.cls=.type "module"/\ob.dict=some builtinsNs/\ob.data=.plain
 yp:YP w h
def js(w:World)(h:Heap):Prop:=∃mg mb,pG mg mb w h
theorem pG.keeps(x:pG mg mb w h)(k:∀b o,h.get? b=some o->h'.get? b=some o):pG mg mb w h':=by
 refine⟨x.g.keeps k,x.b.keeps k,λd hd=>?_,x.const,x.free,x.builtins,?_,F0 w h h' x.yp k⟩
 ·obtain⟨a,o,pm,code,doc,h1,h2,h3,h4⟩:=x.fn d hd
  exact⟨a,o,pm,code,doc,h1,k _ _ h2,h3,h4.keeps k⟩
 ·obtain⟨bm,ob,h1,h2,h3,r⟩:=x.bmain
  exact⟨bm,ob,h1,h2,k _ _ h3,r⟩
def BN(x:Str):Bool:= !startupNames.contains x&&(!(looseW ik iP).contains x&&(!(iG.map (·.name)).contains x&&(!((litsOf ik).map (·.1)).contains x&& !((clssOf ik (looseW ik iP)).map (·.name)).contains x)))
theorem pG.bv(x:pG mg mb w h)(f:BN n=true)(hn:n≠"__name__")(hv:bootBuiltins n=some v):Bv h n v:=by
 unfold BN at f;simp only[av,cW,List.contains_eq_mem,decide_eq_false_iff_not]at f;obtain⟨f1,f2,f3,f4,f5⟩:=f;exact⟨mg,mb,x.g,x.free n f1 f2 f3 f4 f5,x.b,(x.builtins n hn).trans hv⟩
def Qj:List Str:=["len","range","max","min","abs","sum","chr","ord","list","sorted","divmod","int","isinstance","reversed","bool","ZeroDivisionError"]
theorem nM(h:Qj.contains n=true):BN n=true:=aw.mp (show Qj.all BN=true by unfold BN;rw[PySem.W.Fast.sDec_eq,PySem.W.Fast.te821141287760084731,PySem.W.Fast.te7409074990110511671,PySem.W.Fast.te13664370479719496447,PySem.W.Fast.te12749700546528644094];rfl') n (cL.mp h)
def glL:List (Str×Int):=([("_DIV_LIMIT",4000),("ENDMARKER",0),("LPAR",7),("RPAR",8),("LSQB",9),("RSQB",10),("COLON",11),("COMMA",12),("SEMI",13),("PLUS",14),("MINUS",15),("STAR",16),("SLASH",17),("VBAR",18),("AMPER",19),("LESS",20),("GREATER",21),("EQUAL",22),("DOT",23),("PERCENT",24),("LBRACE",25),("RBRACE",26),("EQEQUAL",27),("NOTEQUAL",28),("LESSEQUAL",29),("GREATEREQUAL",30),("TILDE",31),("CIRCUMFLEX",32),("LEFTSHIFT",33),("RIGHTSHIFT",34),("DOUBLESTAR",35),("PLUSEQUAL",36),("MINEQUAL",37),("STAREQUAL",38),("SLASHEQUAL",39),("PERCENTEQUAL",40),("AMPEREQUAL",41),("VBAREQUAL",42),("CIRCUMFLEXEQUAL",43),("LEFTSHIFTEQUAL",44),("RIGHTSHIFTEQUAL",45),("DOUBLESTAREQUAL",46),("DOUBLESLASH",47),("DOUBLESLASHEQUAL",48),("AT",49),("ATEQUAL",50),("RARROW",51),("ELLIPSIS",52),("COLONEQUAL",53),("EXCLAMATION",54),("NT_OFFSET",256)]:List (String×Int)).map λx=>(tF x.1,x.2)
theorem abH:glL.map (λx=>valOf ik x.1)=glL.map (λx=>some (.int x.2)):=by rfl'
structure aiK(p:nT)(s:Scope):Prop where
 k1:p.posonlyargs=[]
 k2:p.kwonlyargs=[]
 k3:p.vararg=none
 k4:p.kwarg=none
 k5:(p.args.map (·.arg)).Nodup
 k6:s.kind=.function
 k7:s.isGenerator=false
 k8:s.isCoroutine=false
 k9:(p.args.map (·.arg)).all (Az s.names)=true
 U5:(s.names.map (·.1)).Nodup
def II(p:nT)(s:Scope):Bool:=p.posonlyargs.isEmpty&&(p.kwonlyargs.isEmpty&&(p.vararg.isNone&&(p.kwarg.isNone&&(decide ((p.args.map (·.arg)).Nodup)&&(s.kind==.function&&(!s.isGenerator&&(!s.isCoroutine&&((p.args.map (·.arg)).all (Az s.names)&&decide ((s.names.map (·.1)).Nodup)))))))))
theorem rS(h:II p s=true):aiK p s:=by
 obtain⟨k1,h⟩:=(av _ _).mp h;obtain⟨k2,h⟩:=(av _ _).mp h;obtain⟨k3,h⟩:=(av _ _).mp h;obtain⟨k4,h⟩:=(av _ _).mp h;obtain⟨k5,h⟩:=(av _ _).mp h;obtain⟨k6,h⟩:=(av _ _).mp h;obtain⟨k7,h⟩:=(av _ _).mp h;obtain⟨k8,h⟩:=(av _ _).mp h;obtain⟨k9,U5⟩:=(av _ _).mp h;exact⟨me.mp k1,me.mp k2,c6.mp k3,c6.mp k4,of_decide_eq_true k5,eq_of_beq k6,cW _▸k7,cW _▸k8,k9,of_decide_eq_true U5⟩
theorem xH:(iG.all λd=>II d.params d.scope)=true:=by rfl'
def Wof(f:Str):List Str:=
 if f="_divmod_pos" then["q_digits"]else if f="_law_page" then["row"]else if f="_law_read" then["row"]else if f="_law_upsets" then["upsets"]else if f="_law_colours" then["told"]
 else if f="_law_orders" then["rings"]else[]
def Kq:D->Option Int
 |.int k=>some k
 |_=>none
def Qk:D->Option Str
 |.str k=>some k
 |_=>none
def abI:List D->Option D
 |d::r=>if r.isEmpty then some d else none
 |[]=>none
def aiL:List D->Option (D×D)
 |d::r=>(abI r).map λe=>(d,e)
 |[]=>none
def IJ(g:Str)(ds:List D):Option D:=
 if g="b3_exceptions" then((abI ds).bind Kq).map λk=>match L3.lookup k with|some x=>.str x|none=>.none
 else if g="EXACT_TOKEN_TYPES" then(aiL ds).bind λp=>(Qk p.1).bind λk=>(Kq p.2).map λd=>.int ((L4.lookup k).getD d)
 else none
def IK(g:Str)(x:D):Option Bool:=
 if g="b1_set" then(Kq x).map λi=>mN.contains i
 else if g="EXACT_TOKEN_TYPES" then(Qk x).map λk=>(L4.lookup k).isSome
 else none
def U6(n:Str):Option D:=match floats.lookup n with
 |some x=>some (.aN x)
 |none=>(glL.lookup n).map .int
def NS(prim:Str->Option (List D->Option D)):y0 where
 fns f:=(iG.find? (λd=>d.name==f)).map λd=>(d.params.args.map (·.arg),d.body,d.scope)
 W:=Wof
 prim:=prim
 gl:=U6
 get:=IJ
 mem:=IK
theorem rT(h:Kq d=some i):d=.int i:=by
 cases d<;>first|exact no h|exact congrArg D.int (af h)
theorem y8(h:Qk d=some i):d=.str i:=by
 cases d<;>first|exact no h|exact congrArg D.str (af h)
theorem BO(h:abI ds=some d):ds=[d]:=by
 cases ds with
 |nil=>exact no h
 |cons e r=>
  obtain⟨h1,h2⟩:=bx h;rw[me.mp h1,h2]
theorem MD(h:aiL ds=some p):ds=[p.1,p.2]:=by
 cases ds with
 |nil=>exact no h
 |cons e r=>
  obtain⟨d,h1,rfl⟩:=dH h;rw[BO h1]
theorem wO{K V:Type}[BEq K][LawfulBEq K][DecidableEq K](k:K)(L:List (K×V)):((L.find? λx=>decide (x.1=k)).map λx=>some x.2)=(L.lookup k).map some:=by
 induction L with
 |nil=>rfl
 |cons x L ih=>
  rw[Hn,eF];by_cases h:x.1=k
  ·rw[decide_eq_true h,h,beq_self_eq_true];rfl
  ·rw[decide_eq_false h,beq_eq_false_iff_ne.mpr (gm h)];exact ih
theorem Ql(jG:List (Int×Value))(h:jG.map (λkv=>(kv.1,vStr kv.2))=L3.map (λx=>(x.1,some x.2)))(k:Int):(valueAt jG k).map vStr=(L3.lookup k).map some:=(FZ vStr L3 jG h k).trans (wO k L3)
theorem F1(jG:List (Str×Value))(h:jG.map (λkv=>(kv.1,vInt kv.2))=L4.map (λx=>(x.1,some x.2)))(k:Str):(valueAt jG k).map vInt=(L4.lookup k).map some:=(FZ vInt L4 jG h k).trans (wO k L4)
theorem aiM(x:pG mg mb w h)(e:((iG.find? (λd=>d.name==f)).map λd=>(d.params.args.map (·.arg),d.body,d.scope))=some (ps,body,sc)):
 ∃a o fd,Gv h f (.ref a)/\h.get? a=some o/\o.data=.func fd/\h.CodeRec fd.code fd.qualname/\Qg fd ps body sc.names:=by
 obtain⟨d,hd,e⟩:=dH e;simp only[pP]at e;obtain⟨rfl,rfl,rfl⟩:=e;have hm:=d8 hd;have hn:d.name=f:=by simpa using Hl hd
 obtain⟨a,o,pm,code,doc,h1,h2,h3,h4⟩:=x.fn d hm;have k:=rS (aw.mp xH d hm);exact⟨a,o,_,⟨mg,x.g,hn▸h1⟩,h2,h3,h4,⟨rfl,rfl,k.k6,k.k7,k.k8,rfl,rfl,rfl,λvs hl=>j7 (fd:=cO d.name d.params d.body d.scope pm code doc) k.k1 k.k2 k.k3 k.k4 rfl k.k5 hl,k.k5,k.k9,k.U5⟩⟩
section
variable{w:World}{h:Heap}{mg mb:Str->Option Value}{La:Heap->Prop}
theorem aiN(x:pG mg mb w h)(e:U6 n=some d):∃v,Gv h n v/\∀F:Addr->Prop,bW h F d v:=by
 unfold U6 at e;cases hf:floats.lookup n with
 |some b=>
  rw[hf]at e;cases x.yp with
  |mk SJ g' fl _ _ _=>
  obtain⟨t,ht,ht0⟩:=fl (n,b) (mem_of_lookup hf);rw[<-af e];exact⟨_,⟨SJ,g',ht⟩,λF=>Cq ht0⟩
 |none=>
  rw[hf]at e;obtain⟨i,hi,rfl⟩:=dH e;obtain⟨v,hv,hr⟩:=x.const n _ (alH.mp abH (n,i) (mem_of_lookup hi));cases hr h;exact⟨_,⟨mg,x.g,hv⟩,λF=>fA⟩
theorem F2{K:Type}[DecidableEq K]{knd:KeyKind pw w K}{a:Addr}{jG:List (K×Value)}(t:h.DictOf knd a jG):∃o,h.get? a=some o/\o.cls=.type "dict"/\o.dict=none:=by
 obtain⟨o,es,ep,ho,hx,r⟩:=t;exact⟨o,ho,hx.1,hx.2.1⟩
theorem Qm(t3:s.heap.DictOf (intKind pw w) a jG)(s3:a≠sysModules)(l3:jG.map (λkv=>(kv.1,vStr kv.2))=L3.map (λx=>(x.1,some x.2)))(rs:aZ s.heap F [.int k] vs):
 wpAny (model pw w) A (call (.builtin "dict.get") (.ref a::vs)) (gW F s (match L3.lookup k with|some x=>.str x|none=>.none)) E s:=by
 obtain⟨v,rfl,r1⟩:=Pq rs;obtain⟨t,rfl⟩:=r1.int;refine call_meetsIn rX t3.typeIs NL (PySem.F.args_dict_get_2 _ _) (meets_dict_get (intKind pw w) (k:=k) a (isInt_self k t) (beq_eq_false_iff_ne.mpr s3)) ⟨_,t3.mapOf,Keeps.Um _,?_⟩;have hv:=Ql jG l3 k;cases hl:L3.lookup k with
 |none=>
  rw[hl]at hv;rw[rA.mp hv];exact ER
 |some y=>
  rw[hl]at hv;obtain⟨u,hu,hy⟩:=dH hv;rw[hu];exact BM hy
theorem Qn(t4:s.heap.DictOf (strKind pw w) a jG)(s4:a≠sysModules)(l4:jG.map (λkv=>(kv.1,vInt kv.2))=L4.map (λx=>(x.1,some x.2)))(rs:aZ s.heap F [.str k,.int i] vs):
 wpAny (model pw w) A (call (.builtin "dict.get") (.ref a::vs)) (gW F s (.int ((L4.lookup k).getD i))) E s:=by
 obtain⟨v,_,rfl,r1,r⟩:=rs.eS;obtain⟨u,rfl,r2⟩:=Pq r;obtain⟨t,rfl⟩:=r1.str;obtain⟨t2,rfl⟩:=r2.int;refine call_meetsIn rX t4.typeIs NL (PySem.F.args_dict_get_3 _ _ _) (meets_dict_get_default (strKind pw w) (k:=k) a (show(strKind pw w).is k (.str k t)=true from rR k t) (beq_eq_false_iff_ne.mpr s4) _) ⟨_,t4.mapOf,Keeps.Um _,?_⟩;have hv:=F1 jG l4 k;cases hl:L4.lookup k with
 |none=>
  rw[hl]at hv;rw[rA.mp hv];exact fA
 |some y=>
  rw[hl]at hv;obtain⟨u,hu,hy⟩:=dH hv;rw[hu];exact uk hy
def aiO(w:World)(La:Heap->Prop)(h:Heap)(g:Str)(ds:List D)(d:D):Prop:=∃a o,Gv h g (.ref a)/\h.get? a=some o/\o.cls=.type "dict"/\o.dict=none/\
    ∀(A:aC)(E:Value->ah->Prop) F s vs,dz A La s->iW F s.heap->bV h s.heap->aZ s.heap F ds vs->wpAny (model pw w) A (call (.builtin "dict.get") (.ref a::vs)) (gW F s d) E s
theorem abJ(x:pG mg mb w h){g:Str}{ds:List D}{d:D}(e:IJ g ds=some d):aiO w La h g ds d:=by
 unfold IJ at e;cases x.yp with
 |mk SJ g' _ _ d3 d4=>
 by_cases hg:g="b3_exceptions"
 ·rw[if_pos hg]at e
  obtain⟨k,hk,rfl⟩:=dH e;obtain⟨y,h1,h2⟩:=aO hk;obtain⟨a,m,s3,jG,t,l⟩:=d3;obtain⟨o,ho,hc,hd⟩:=F2 t;rw[BO h1,rT h2];exact⟨a,o,⟨SJ,g',hg▸m⟩,ho,hc,hd,λA E F s vs _ _ kk rs=>Qm (dict_keeps kk t) s3 l rs⟩
 ·rw[if_neg hg]at e
  obtain⟨hg,e⟩:=dD e;obtain⟨p,h1,e⟩:=aO e;obtain⟨k,h2,e⟩:=aO e;obtain⟨i,h3,rfl⟩:=dH e;obtain⟨a,m,s4,jG,t,l⟩:=d4;obtain⟨o,ho,hc,hd⟩:=F2 t;rw[MD h1,y8 h2,rT h3];exact⟨a,o,⟨SJ,g',hg▸m⟩,ho,hc,hd,λA E F s vs _ _ kk rs=>Qn (dict_keeps kk t) s4 l rs⟩
def aiP(w:World)(La:Heap->Prop)(h:Heap)(g:Str)(y:D)(b:Bool):Prop:=∃a,Gv h g (.ref a)/\
    ∀(A:aC)(E:Value->ah->Prop) F s v,dz A La s->bV h s.heap->bW s.heap F y v->wpAny (model pw w) A (compareOp .In v (.ref a)) (λr s'=>r=.bool b/\Keeps s s') E s
theorem abK(x:pG mg mb w h)(e:IK g y=some b):aiP w La h g y b:=by
 unfold IK at e;cases x.yp with
 |mk SJ g' _ st _ d4=>
 by_cases hg:g="b1_set"
 ·rw[if_pos hg]at e
  obtain⟨i,hk,rfl⟩:=dH e;obtain⟨a,m,o,es,ep,t,ho,r⟩:=st;rw[rT hk];refine⟨a,⟨SJ,g',hg▸m⟩,λA E F s v am kk r0=>?_⟩;obtain⟨t',rfl⟩:=r0.int;exact wpAny_inSet_of (knd:=intKind pw w) (k:=i) (isInt_self i t') rfl ⟨o,es,ep,t,kk _ _ ho,r⟩ ⟨rfl,Keeps.Um _⟩
 ·rw[if_neg hg]at e
  obtain⟨hg,e⟩:=dD e;obtain⟨k,hk,rfl⟩:=dH e;obtain⟨a,m,s4,jG,t4,l4⟩:=d4;rw[y8 hk];refine⟨a,⟨SJ,g',hg▸m⟩,λA E F s v am kk r0=>?_⟩;obtain⟨t',rfl⟩:=r0.str;have hb:=congrArg pU (F1 jG l4 k);rw[aeg,aeg]at hb;exact wpAny_in_of (knd:=strKind pw w) (k:=k) (rR k t') (beq_eq_false_iff_ne.mpr s4) (dict_keeps kk t4).mapOf ⟨hb▸rfl,Keeps.Um _⟩
end
theorem U7(w:World)(La:Heap->Prop)(prim:Str->Option (List D->Option D))(NT:∀h,La h->∃mg mb,pG mg mb w h)
(aiQ:∀h f p ds d,La h->prim f=some p->p ds=some d->∃a o fd,Gv h f (.ref a)/\h.get? a=some o/\o.data=.func fd/\
 ∀(A:aC)(E:Value->ah->Prop) F s vs,Bu k A->dz A La s->iW F s.heap->bV h s.heap->aZ s.heap F ds vs->wpAny (model pw w) A (call (.ref a) vs) (gW F s d) E s):FV pw w La (NS prim) k where
 gl:=λh n d la e=>by
  obtain⟨mg,mb,x⟩:=NT h la;exact aiN x e
 bi:=λh b la=>by
  obtain⟨mg,mb,x⟩:=NT h la;cases b<;>exact x.bv (nM (by rfl')) (by decide) (by rfl')
 SA:=λh la=>by
  obtain⟨mg,mb,x⟩:=NT h la;exact x.bv (nM (by rfl')) (by decide) (by rfl')
 rev:=λh la=>by
  obtain⟨mg,mb,x⟩:=NT h la;exact x.bv (nM (by rfl')) (by decide) (by rfl')
 ty:=λh n la hn=>by
  obtain⟨mg,mb,x⟩:=NT h la;rcases hn with rfl|rfl
  ·exact x.bv (nM (by rfl')) (by decide) (by rfl')
  ·exact x.bv (nM (by rfl')) (by decide) (by rfl')
 fn:=λh f ps body sc la _ e=>by
  obtain⟨mg,mb,x⟩:=NT h la;exact aiM x e
 prim:=λh f p ds d la=>aiQ h f p ds d la
 get:=λh g ds d la e=>by
  obtain⟨mg,mb,x⟩:=NT h la;exact abJ x e
 mem:=λh g y b la e=>by
  obtain⟨mg,mb,x⟩:=NT h la;exact abK x e
end
section
section
variable{prog:bb}{w:World}{A:aC}{E:Value->ah->Prop}{F:Addr->Prop}{s:ah}{La:Heap->Prop}
structure Qo(fd:jM)(fu:List Str)(body:List Stmt)(ks:bY)(cl:List (Str×Addr)):Prop where
 bdy:fd.body=.stmts body
 FR:fd.scope.names=ks
 kind:fd.scope.kind=.function
 gen:fd.scope.isGenerator=false
 co:fd.scope.isCoroutine=false
 clo:fd.closure=cl
 gl:fd.globals=mainGlobals
 bi:fd.builtins=builtinsNs
 bind:∀vs:List Value,vs.length=fu.length->bindArgs fd ⟨vs,[]⟩=pure (fu.zip vs)
 nd:fu.Nodup
 loc:∀p∈fu,ks.lookup p=some .local
 CY:∀x∈ks,x.2≠.cell
 fre:∀n c,cl.lookup n=some c->ks.lookup n=some .free
 inj:∀n n' c,cl.lookup n=some c->cl.lookup n'=some c->n=n'
theorem mz:∀(a b:cy),look (a++b) n=some d->look a n=some d\/look b n=some d:=by
 intro zx
 induction zx with
 |nil=>
  rintro b h;exact .inr h
 |cons zh a ih=>
  obtain⟨m,e⟩:=zh;rintro b h;rw[cE]at h;unfold look at h;by_cases hm:m=n
  ·rw[if_pos hm]at h
   left;dsimp only[look];rw[if_pos hm];exact h
  ·rw[if_neg hm]at h
   rcases ih b h with q|q
   ·left;dsimp only[look];rw[if_neg hm];exact q
   ·exact .inr q
theorem BP(fi:Qo fd fu body ks cl)
(sI:A.depth<recursionLimit)(ho:s.heap.get? a=some o)(yY:o.data=.func fd)(Aq:s.heap.CodeRec fd.code fd.qualname)(hl:ds.length=fu.length)
(am:dz A La s)(un:A.units+203<cLine)(lo:iW F s.heap)(r:aZ s.heap F ds vs)
(hF:∀n c,cl.lookup n=some c->F c)
(hc:∀n d,look σc n=some d->ks.lookup n=some .free/\∃c v,cl.lookup n=some c/\s.heap.IsCell c (some v)/\bW s.heap F d v)
(h:∀env aU G oa,env.scope.names=ks->env.cells=cl->dz (A.deeper env) La aU->n7 env F s->SI env F s (fu.zip ds++σc) [] aU G oa->(∀E':Value->ah->Prop,wpAny (model prog w) (A.deeper env) (execs body env) (λf s'=>Q (match f with|.ret v=>v|_=>.none) s') E' aU)):
 wpAny (model prog w) A (call (.ref a) vs) Q E s:=by
 have hvl:=r.length;refine G8 ?_;have j1:∀n,(callEnv fd s.heap.objs.size a).kindOf n=ks.lookup n:=λn=>by
  show fd.scope.names.lookup n=_;rw[fi.FR]
 have hzl:(fu.zip vs).map (·.1)=fu:=List.map_fst_zip (by omega);refine codeAny_call_def (binds:=fu.zip vs) sI ho yY am.nl Aq fi.bdy (λM A' Q' E' hq=>by rw[fi.bind vs (by omega)];exact aL hq) (by rw[fi.FR];exact fi.CY) (λx hx=>by
  rw[fi.FR];exact fi.loc _ (gD hx).1) (λh₀ Cv hk=>?_) fi.co fi.gen fi.kind
 generalize iu:callEnv fd s.heap.objs.size a=env;have AO:env.locals=s.heap.objs.size:=by rw[<-iu];rfl
 have rO:env.scope=fd.scope:=by rw[<-iu];rfl
 have rQ:env.cells=cl:=by rw[<-iu,<-fi.clo];rfl
 have mx:∀n,env.kindOf n=ks.lookup n:=λn=>by unfold gT;rw[rO,fi.FR]
 have nw:∀b,s.heap.objs.size<=b->s.heap.get? b=none:=λb hb=>by
  cases e:s.heap.get? b with
  |none=>rfl
  |some o=>exact absurd (cY e) (pN.mpr hb)
 have old:∀b,F b->b≠env.locals:=λb q z=>by
  have:=lo b q;rw[z,AO,nw _ (cf _)]at this;cases this
 let G:Addr->Prop:=λb=>F b\/b=env.locals;have hGn:∀b,G b->F b\/s.heap.get? b=none:=λb q=>q.imp id λz=>by rw[z,AO];exact nw _ (cf _)
 have hGr:∀{d':D}{v:Value},bW s.heap F d' v->bW h₀ G d' v:=λr=>bW.kept (F:=F) (λb o _ e=>hk b o e) hGn _ _ r;have fr:n7 env F s:=⟨nw _ (by rw[AO];exact cf _),λn c how e=>by
  rw[rQ]at e;have q:=fi.fre n c e;rcases how with how|how<;>(rw[mx,q]at how;cases how),lo⟩
 have hnd:((fu.zip vs).reverse.map (·.1)).Nodup:=by
  rw[DW,hzl];unfold List.Nodup;rw[List.pairwise_reverse];exact List.Pairwise.imp gm fi.nd
 have x1:In env G (fu.zip ds++σc) h₀:=by
  refine⟨by rw[rO];exact fi.kind,by rw[<-iu];exact fi.gl,by rw[<-iu];exact fi.bi,λb q=>?_,.inr rfl,λn c e=>?_,λn n' c e e'=>?_,λn jU=>?_,⟨_,by rw[AO];exact Cv,λn d' e=>⟨λjU=>?_,λjU=>?_⟩⟩⟩
  ·rcases q with q|q
   ·obtain⟨o',e⟩:=ay.mp (lo b q)
    rw[hk _ _ e];rfl
   ·obtain⟨o',_,_,e,_⟩:=Cv
    rw[q,AO,e];rfl
  ·rw[rQ]at e
   exact⟨.inl (hF n c e),old c (hF n c e)⟩
  ·rw[rQ]at e e'
   exact fi.inj n n' c e e'
  ·rw[mx]at jU
   exact absurd rfl (fi.CY _ (mem_of_lookup jU))
  ·rcases mz _ _ e with q|q
   ·obtain⟨v,e1,e2⟩:=sH r q
    refine⟨v,?_,hGr e2⟩;exact mem_lookup hnd (rB.mpr (mem_of_lookup e1))
   ·have:=(hc n d' q).1
    rw[mx,this]at jU;cases jU
  ·rcases mz _ _ e with q|q
   ·obtain⟨v,e1,_⟩:=sH r q
    have hm:=fi.loc _ (gD (mem_of_lookup e1)).1;rcases jU with jU|jU<;>(rw[mx,hm]at jU;cases jU)
   ·obtain⟨_,c,v,e1,e2,e3⟩:=hc n d' q
    exact⟨c,v,by rw[rQ];exact e1,e2.keeps hk,hGr e3⟩
 have kp:Keeps s {s with heap:=h₀,toks:=s.toks+(fu.zip vs).length}:=⟨h₀,_,rfl,hk⟩
 have tk1:1<=s.toks+(fu.zip vs).length:=by have:=am.tk;omega
 have si:SI env F s (fu.zip ds++σc) [] {s with heap:=h₀,toks:=s.toks+(fu.zip vs).length} G (λ_=>0):=
  ⟨λb q=>.inl q,hGn,kp,tk1,x1.sub λn d' e=>by rw[fJ]at e;simpa using e,λn hn=>(nomatch hn),λn hn=>(nomatch hn),λn n' hn=>(nomatch hn)⟩
 have AQ:=am.keeps kp tk1;have am':dz (A.deeper env) La {s with heap:=h₀,toks:=s.toks+(fu.zip vs).length}:=⟨AQ.hh,AQ.nb,AQ.nl,AQ.gl,tk1,by rw[eR];omega,AQ.la⟩
 exact ai (h env _ G _ (by rw[rO];exact fi.FR) rQ am' fr si _) (λf s' q=>q) λ_ _ e=>e
end
end
section
def stK:Stmt->List ae×List Stmt×List Stmt×q0×Pos:=stC ([],[],[],.Add,default) (λ_ _ _ _ p=>([],[],[],.Add,p)) (λe p=>([e.getD default],[],[],.Add,p)) (λts e p=>(e::ts,[],[],.Add,p)) (λt o e p=>([e,t],[],[],o,p)) (λx e a b p=>([e,x],a,b,.Add,p)) (λt a b p=>([t],a,b,.Add,p)) (λt a b p=>([t],a,b,.Add,p)) (λe p=>([e],[],[],.Add,p))
def bj(st:Stmt):ae:=(stK st).1.headD default
def dx(st:Stmt):ae:=bj st
def bp(st:Stmt):List Stmt:=(stK st).2.1
def dN(st:Stmt):List Stmt:=(stK st).2.2.1
def bU(st:Stmt):Pos:=(stK st).2.2.2.2
def qk(st:Stmt):ae:=(Qc (stK st).1.tail).getD default
def jI(st:Stmt):Pos:=((wM (qk st)).getD ("",default)).2
def ak(i:Nat)(b:List Stmt):Stmt:=b.getD i default
section
variable{V:Ev}{ks:bY}{W:List Str}{wf:Nat}{X:XD}{σ:cy}{own:List Str}{rest:List Stmt}
theorem qD(h:V.d ks (dA own σ) e=some d)(hk:Az ks n=true)(hs:my ks n p e=false):
 cU (df V ks W wf X) (.Assign [.Name n p] e q::rest) σ own=cU (df V ks W wf X) rest (kQ W n (d,j4 e&&mr d) (σ,own)).1 (kQ W n (d,j4 e&&mr d) (σ,own)).2:=by
 show(DE (AK V ks W n p e σ own) _)=_;unfold AK;rw[if_pos hk,hs,if_neg aF];unfold fb;rw[h];rfl
theorem Qp(h:V.b ks σ t=some c):
 cU (df V ks W wf X) (.If t a b q::rest) σ own=(if c=true then X a σ own else X b σ own).bind λr=>match r with
  |.nx σ' own'=>cU (df V ks W wf X) rest σ' own'
  |.rt d=>some (.rt d):=by
 show(DE (DE (V.b ks σ t) _) _)=_;rw[h];rfl
theorem U8(h:V.d ks σ e=some d):cU (df V ks W wf X) (.Return (some e) q::rest) σ own=some (.rt d):=by
 show(DE (Option.map _ (V.d ks σ e)) _)=_;rw[h];rfl
theorem xI:AL V ks W wf (n+1) b σ own=cU (df V ks W wf (AL V ks W wf n)) b σ own:=rfl
end
end
section
section
variable{prog:bb}{w:World}{A:aC}{E:Value->ah->Prop}{G F:Addr->Prop}{env:Env}{La:Heap->Prop}{Qq:aC->Prop}{V:Ev}{T:ek}{σ:cy}{s:ah}
theorem CZ(b):∀(a:List Stmt),execs (a++b) env=(execs a env >>= λf=>match f with
 |.next=>execs b env
 |f=>pure f):=by
 intro zx
 induction zx with
 |nil=>
  exact rfl
 |cons st a ih=>
  rw[cE,execs_cons,execs_cons,bind_assoc];congr 1;funext f;cases f with
  |next=>exact ih
  |brk=>rfl
  |cont=>rfl
  |ret v=>rfl
theorem um(h:wpAny (model prog w) A (execs a env) (λf s'=>match f with
 |.next=>wpAny (model prog w) A (execs b env) Q E s'
 |f=>Q f s') E s):wpAny (model prog w) A (execs (a++b) env) Q E s:=by
 rw[CZ];exact ao (ai h (λf s' q=>by cases f<;>first|exact q|exact aL q) λ_ _ e=>e)
theorem BQ(VO:de prog w La Qq V)(bu:Qq A)(am:dz A La s)(x:In env G σ s.heap)(hk:Cl env f)(hd1:(f==("__debug__":Str))=false)
(hd2:(f==("__classdict__":Str))=false)(hc:env.cells.lookup f=some c)(hv:s.heap.IsCell c (some (.ref fa)))(ho:s.heap.get? fa=some o)(abL:o.data=.func fd)(h1:tP (V.d env.scope.names σ) args=some ds)
(k:∀s1 vs,Keeps s s1->1<=s1.toks->aZ s1.heap G ds vs->wpAny (model prog w) A (call (.ref fa) vs) Q E s1):wpAny (model prog w) A (eval (.Call (.Name f np) args [] pos) env) Q E s:=by
 have hp:=(j3 (env:=env) (pos:=pos) h1).1;show wpAny _ _ (do callWith pos (<-eval (.Name f np) env) [] (backTo pos (starEach args env)) []) _ _ _;refine ao ?_;have core:wpAny (model prog w) A (callWith pos (.ref fa) [] (backTo pos (starEach args env)) []) Q E s:=by
  refine kA (o:=o) (fd:=fd) (dY hp ?_);refine ai (bw am.tk (nA VO bu am x h1)) (λvs s1 q1=>?_) λ_ _ e=>e;obtain⟨t1,k1,r1⟩:=q1;exact⟨⟨Keeps.all k1 _ _ ho,abL⟩,k s1 vs k1 t1 r1⟩
 rcases hk with hk|hk
 ·exact i9 (pW x.fn hk hc hv core) hd1
 ·exact i9 (DB x.fn hk hc hv core hd2) hd1
end
def za(n:Str):List Stmt->List Stmt
 |s::r=>match fdS s with
  |some x=>if x.1=n then x.2.2.1 else za n r
  |none=>za n r
 |[]=>[]
def dB:List Stmt:=za "_digits2int" pw.main.body
def dI:Stmt:=ak 0 dB
def iB:List Stmt:=Ck dI
def iK:bY:=(oe dI).names
def exK:ae->List ae:=exC [] (λ_ es _=>es) (λl _ r _=>[l,r]) (λ_ x _=>[x]) (λt b e _=>[b,e,t]) (λ_ _ _ _=>[]) (λl _ _ _=>[l]) (λf args _ _=>f::args) (λ_ _ _=>[]) (λv i _=>[v,i]) (λ_ _=>[]) (λ_ _=>[]) (λ_ _ _=>[])
def ME(i:Nat)(e:ae):ae:=(exK e).getD i default
def pH(e:ae):ae:=ME 0 e
def IL(e:ae):ae:=ME 1 e
def pj(i:Nat)(e:ae):ae:=ME (i+1) e
def exT(e:ae):ae:=ME 2 e
def iE:ae:=bj (ak 3 iB)
theorem Qr:iB=[.If (dx (ak 0 iB)) (bp (ak 0 iB)) [] (bU (ak 0 iB)),.Assign [.Name "mid" (jI (ak 1 iB))] (bj (ak 1 iB)) (bU (ak 1 iB)),.Assign [.Name "shift" (jI (ak 2 iB))] (bj (ak 2 iB)) (bU (ak 2 iB))]++[.Return (some iE) (bU (ak 3 iB))]:=by rfl'
theorem aiS:iE=.BinOp (.BinOp (.Call (.Name "inner" (pH (pH (pH iE))).pos) [.Name "mid" (pj 0 (pH (pH iE))).pos,.Name "R" (pj 1 (pH (pH iE))).pos] [] (pH (pH iE)).pos) .LShift (.Name "shift" (IL (pH iE)).pos) (pH iE).pos) .Add
 (.Call (.Name "inner" (pH (IL iE)).pos) [.Name "L" (pj 0 (IL iE)).pos,.Name "mid" (pj 1 (IL iE)).pos] [] (IL iE).pos) iE.pos:=by rfl'
def IM(L R n:Int)(xs:List D):cy:=[("L",.int L),("R",.int R),("digits",.lst xs),("n",.int n)]
section
variable{T:ek}
abbrev V6(T:ek):Ev:=iY T (dX T 6)
theorem C0(L R n)(xs):(V6 T).b iK (IM L R n xs) (dx (ak 0 iB))=some (L+1==R):=by rfl'
theorem MG:bp (ak 0 iB)=[.Return (some (bj (ak 0 (bp (ak 0 iB))))) (bU (ak 0 (bp (ak 0 iB))))]:=by rfl'
theorem aiT(L R n)(xs):(V6 T).d iK (IM L R n xs) (bj (ak 0 (bp (ak 0 iB))))=fU (.lst xs) L:=by rfl'
theorem aiU(L R n)(xs):(V6 T).d iK (IM L R n xs) (bj (ak 1 iB))=some (.int ((L+R).fdiv (2^(1:Int).toNat))):=by rfl'
def aiV(L R n m:Int)(xs:List D):cy:=[("L",.int L),("R",.int R),("digits",.lst xs),("n",.int n),("mid",.int m)]
theorem U9(L R n m)(xs):(V6 T).d iK (aiV L R n m xs) (bj (ak 2 iB))=aE .Mult (.int (m - L)) (.int n):=by rfl'
def j8(n:Nat):List Int->Int
 |[]=>0
 |x::r=>x+2^n*j8 n r
theorem Qs(n):∀(a b:List Int),j8 n (a++b)=j8 n a+2^(n*a.length)*j8 n b:=by
 intro zx
 induction zx with
 |nil=>
  rintro b;simp[j8]
 |cons x a ih=>
  rintro b;rw[cE];show x+2^n*j8 n (a++b)=(x+2^n*j8 n a)+2^(n*(x::a).length)*j8 n b;rw[ih b,bE,mY,Ho,Int.pow_add];rw[aeh,<-Int.mul_assoc,Int.add_assoc,DF (2^(n*a.length)) (2^n)]
theorem IP(n):∀(a:List Int),(∀x∈a,0<=x/\x<2^n)->0<=j8 n a/\j8 n a<2^(n*a.length):=by
 intro zx
 induction zx with
 |nil=>
  rintro _;simp[j8]
 |cons x a ih=>
  rintro h;have ih:=ih λy hy=>h y (aD _ hy);have hx:=h x (aA ..);have hp:(0:Int)<2^n:=Int.pow_pos (by decide);dsimp only[j8];refine⟨Int.add_nonneg hx.1 (Int.mul_nonneg (DA hp) ih.1),?_⟩;rw[bE,mY,Ho,Int.pow_add];have h1:j8 n a+1<=2^(n*a.length):=ih.2;have h2:2^n*(j8 n a+1)<=2^n*2^(n*a.length):=Int.mul_le_mul_of_nonneg_left h1 (DA hp);rw[DF (2^(n*a.length))];rw[aeh,Int.mul_one]at h2;omega
theorem Qt(h0:0<=x)(h:x<2^m)(hm:m<=990):sm x=true:=by
 unfold sm;have h1:x<2^1000:=Int.lt_of_lt_of_le h (by
  have:(2:Nat)^m<=2^1000:=bO (by decide) (by omega)
  exact_mod_cast this)
 have:(x.natAbs:Int)<2^1000:=by rw[Int.natAbs_of_nonneg h0];exact h1
 exact decide_eq_true (by exact_mod_cast this)
def Bq(k:Nat)(A:aC):Prop:=A.depth+k<=990/\A.units+3*k+203<cLine
theorem Bq.deeper(h:Bq (k+1) A)(env:Env):Bq k (A.deeper env):=⟨by
 have:=h.1;show A.depth+1+k<=990;omega,by
 have:=h.2;rw[eR];omega⟩
theorem Bq.dep(h:Bq k A):A.depth<recursionLimit:=bk (aq (dZ _ k) h.1) (by decide)
theorem Bq.un(h:Bq k A):A.units+203<cLine:=bk (ji (dZ _ (3*k)) 203) h.2
theorem Bq.un2(h:Bq k A):A.units+200<cLine:=bk (hU (by decide) _) h.un
theorem Bq.le(h:Bq k A)(hj:j<=k):Bq j A:=⟨aq (hU hj _) h.1,bk (ji (hU (c7 3 hj) _) 203) h.2⟩
theorem abM(hn:n*c<=b)(h:1<=n):c<=b:=aq (tL c h) hn
theorem aiW(hn:n*c<=b)(h:1<=c):n<=b:=aq (S5 n h) hn
theorem Kr(hm:m=(L+R)/2)(h1:L<R)(h:¬L+1=R):L<m/\m<R:=by subst hm;omega
theorem aiX(hm:m=a/2):m+m<=a/\a<m+m+2:=by subst hm;omega
theorem F3(hm:m=(L+R)/2)(hk:R - L<=2^(j+1)):m - L<=2^j/\R - m<=2^j:=by
 rw[Xe,Nat.mul_two]at hk;obtain⟨h1,h2⟩:=aiX hm;generalize 2^j=p at*;have h3:=uO.mp hk;clear hm hk;exact⟨uO.mpr (by omega),uO.mpr (by omega)⟩
theorem aiY{L R:Nat}(h:L+1=R):((L:Int)+1==(R:Int))=true:=by rw[beq_iff_eq,<-h];rfl
theorem aiZ{L R:Nat}(h:¬L+1=R):((L:Int)+1==(R:Int))=false:=by
 rw[beq_eq_false_iff_ne];exactλq=>h (Int.ofNat_inj.mp (show((L+1:Nat):Int)=(R:Int)from q))
theorem smI{x:Nat}(h:x<=100000):sm (x:Int)=true:=O5 (gi (by decide) (bG x)) (gi (gj.mpr h) (by decide))
structure ky(h:Heap)(F:Addr->Prop)(f:Addr)(xs:List Int)(n:Nat)(o:Obj)(fd:jM)(cl:List (Str×Addr))(cd ci cn:Addr):Prop where
 ho:h.get? f=some o
 hd:o.data=.func fd
 fi:Qo fd ["L","R"] iB iK cl
 rc:h.CodeRec fd.code fd.qualname
 ld:cl.lookup ("digits":Str)=some cd
 li:cl.lookup ("inner":Str)=some ci
 ln:cl.lookup ("n":Str)=some cn
 hF:∀m c,cl.lookup m=some c->F c
 vd:∃v,h.IsCell cd (some v)/\bW h F (.lst (xs.map .int)) v
 vi:h.IsCell ci (some (.ref f))
 vn:∃v,h.IsCell cn (some v)/\bW h F (.int n) v
theorem ky.keeps(I:ky h F f xs n o fd cl cd ci cn)(k:bV h h'):ky h' F f xs n o fd cl cd ci cn:=
 ⟨k _ _ I.ho,I.hd,I.fi,I.rc.keeps k,I.ld,I.li,I.ln,I.hF,by obtain⟨v,a,b⟩:=I.vd;exact⟨v,a.keeps k,b.keeps k⟩,I.vi.keeps k,by obtain⟨v,a,b⟩:=I.vn;exact⟨v,a.keeps k,b.keeps k⟩⟩
theorem ky.into(I:ky h F f xs n o fd cl cd ci cn)(hF:∀a,F a->G a)(x:In env G σ h)
(jr:env.scope.names=iK)(oo:env.cells=cl)(l1:look σ "digits"=some (.lst (xs.map .int)))(l2:look σ "n"=some (.int n)):ky h G f xs n o fd cl cd ci cn:=by
 obtain⟨m,hm,hv⟩:=x.va;have fr:∀(nm:Str),iK.lookup nm=some .free->Cl env nm:=λnm e=>.inr (by unfold gT;rw[jr];exact e);refine⟨I.ho,I.hd,I.fi,I.rc,I.ld,I.li,I.ln,λm c e=>hF c (I.hF m c e),?_,I.vi,?_⟩
 ·obtain⟨c,v,e1,e2,e3⟩:=(hv _ _ l1).2 (fr _ (by decide))
  rw[oo,I.ld]at e1;cases e1;exact⟨v,e2,e3⟩
 ·obtain⟨c,v,e1,e2,e3⟩:=(hv _ _ l2).2 (fr _ (by decide))
  rw[oo,I.ln]at e1;cases e1;exact⟨v,e2,e3⟩
theorem Qu{xs:List Int}{L:Nat}(h:L<xs.length)(hb:xs.length<2^60):fU (.lst (xs.map .int)) (L:Int)=some (.int (xs[L]'h)):=by
 rw[Cy (by omega)];unfold Sz seqIndex?;rw[aj];have e1:¬((L:Int)<0):=by omega
 simp only[e1,if_false];rw[if_pos (by simp;omega)];simp[h]
def F4(w:World)(La:Heap->Prop)(f:Addr)(xs:List Int)(n:Nat)(o:Obj)(fd:jM)(cl:List (Str×Addr))(cd ci cn:Addr)(k:Nat):Prop:=
 ∀(L R:Nat),L<R->R<=xs.length->R - L<=2^k->∀(A:aC)(E:Value->ah->Prop)(s:ah)(F:Addr->Prop)(vs:List Value),Bq (k+1) A->dz A La s->iW F s.heap->
    ky s.heap F f xs n o fd cl cd ci cn->aZ s.heap F [.int L,.int R] vs->wpAny (model pw w) A (call (.ref f) vs) (gW F s (.int (j8 n ((xs.drop L).take (R - L))))) E s
theorem Qv(L R:Nat):((L:Int)+R).fdiv (2^(1:Int).toNat)=(((L+R)/2:Nat):Int):=by
 rw[bP _ (by decide)];have:(2:Int)^(1:Int).toNat=2:=by decide
 rw[this];omega
def Qw(L R n m t:Int)(xs:List D):cy:=[("L",.int L),("R",.int R),("digits",.lst xs),("n",.int n),("mid",.int m),("shift",.int t)]
def Vb:List Stmt:=iB.take 3
theorem Vc:Vb=[.If (dx (ak 0 iB)) (bp (ak 0 iB)) [] (bU (ak 0 iB)),.Assign [.Name "mid" (jI (ak 1 iB))] (bj (ak 1 iB)) (bU (ak 1 iB)),.Assign [.Name "shift" (jI (ak 2 iB))] (bj (ak 2 iB)) (bU (ak 2 iB))]:=by rfl'
theorem abN:iB=Vb++[.Return (some iE) (bU (ak 3 iB))]:=by rfl'
theorem C1(ha:sm a=true)(hb:sm b=true):aE .Mult (.int a) (.int b)=some (.int (a*b)):=by
 show dG (if(sm a&&sm b)=true then some (D.int (a*b))else none) _=_;rw[ha,hb];rfl
theorem IQ(ha:sm a=true)(h0:0<=n)(h1:n<=100000):aE .LShift (.int a) (.int n)=some (.int (a*2^n.toNat)):=by
 show(if sm a=true/\0<=n/\n<=100000 then some (D.int (a*2^n.toNat))else none)=_;rw[if_pos ⟨ha,h0,h1⟩]
section
variable{T:ek}
theorem Vd(L R n m t)(xs)(p q):tP ((V6 T).d iK (Qw L R n m t xs)) [.Name "mid" p,.Name "R" q]=some [.int m,.int R]:=by rfl'
theorem Ve(L R n m t)(xs)(p q):tP ((V6 T).d iK (Qw L R n m t xs)) [.Name "L" p,.Name "mid" q]=some [.int L,.int m]:=by rfl'
theorem apW(L R n m t)(xs)(p):(V6 T).d iK (Qw L R n m t xs) (.Name "shift" p)=some (.int t):=by rfl'
end
theorem F5(xs:List α)(L m R)(h1:L<=m)(h2:m<=R):(xs.drop L).take (R - L)=(xs.drop L).take (m - L)++(xs.drop m).take (R - m):=by
 rw[<-tM h2 h1,jD,List.take_add,Lk,Ad h1]
theorem abO{m L n t:Nat}(h:L<=m)(hm:m<=100000)(hn:n<=100000)(ht:t=(m - L)*n):aE .Mult (.int ((m:Int) - L)) (.int n)=some (.int t):=by
 rw[<-Al h,C1 (smI (aq (tJ ..) hm)) (smI hn),ht,nX]
theorem MH{xs:List Int}{L R:Nat}(h:L+1=R)(hL:L<xs.length):(xs.drop L).take (R - L)=[xs[L]'hL]:=by
 subst h;rw[S6,gA hL];rfl
theorem MJ{α:Type}{xs:List α}{L m:Nat}(h:m<=xs.length):((xs.drop L).take (m - L)).length=m - L:=by
 rw[l9,jm];exact nY (Nat.sub_le_sub_right h L)
theorem zb{w:World}{La:Heap->Prop}{T:ek}(TO:dU pw w La (λ_=>True) T){f:Addr}{xs:List Int}{n:Nat}{o:Obj}{fd:jM}{cl:List (Str×Addr)}{cd ci cn:Addr}
(hn:n*xs.length<=900)(nZ:1<=n)(hx:∀x∈xs,0<=x/\x<2^n)(L R:Nat)(h1:L<R)(h2:R<=xs.length)(A:aC)(E:Value->ah->Prop)(s:ah)(F:Addr->Prop)(vs:List Value)(k:Nat)(bq:Bq (k+1) A)(am:dz A La s)(lo:iW F s.heap)
(I:ky s.heap F f xs n o fd cl cd ci cn)(rs:aZ s.heap F [.int L,.int R] vs)(ih:L+1=R\/∃j,k=j+1/\R - L<=2^k/\F4 w La f xs n o fd cl cd ci cn j):
 wpAny (model pw w) A (call (.ref f) vs) (gW F s (.int (j8 n ((xs.drop L).take (R - L))))) E s:=by
 have hlen:=abM hn nZ;have hn9:=aiW hn (aq (aq (atk (dk L)) h1) h2);have VO:de pw w La (λ_=>True) (V6 T):=gw TO 7;have XO:SH pw w La (λ_=>True) iK (AL (V6 T) iK [] 10 3):=uj (W:=[]) (gw TO 6) TO iK 10 3;refine BP (σc:=[("digits",.lst (xs.map .int)),("n",.int n)]) I.fi bq.dep I.ho I.hd I.rc rfl am bq.un lo rs I.hF (λm d e=>?_) (λenv aU G oa jr oo iT fr si E'=>?_)
 ·unfold look at e
  split at e
  ·rename_i hm
   subst hm;cases e;obtain⟨v,a,b⟩:=I.vd;exact⟨by decide,cd,v,I.ld,a,b⟩
  ·unfold look at e
   split at e
   ·rename_i hm
    subst hm;cases e;obtain⟨v,a,b⟩:=I.vn;exact⟨by decide,cn,v,I.ln,a,b⟩
   ·unfold look at e;cases e
 have si:SI env F s (IM L R n (xs.map .int)) [] aU G oa:=si;have DK:dz (A.deeper env) La s:=⟨am.hh,am.nb,am.nl,am.gl,am.tk,(bq.deeper env).un2,am.la⟩
 refine gp λQ hQ=>?_;by_cases NU:L+1=R
 ·have hL:L<xs.length:=cw h1 h2
  have hX:AL (V6 T) iK [] 10 3 iB (IM L R n (xs.map .int)) []=some (.rt (.int (xs[L]'hL))):=by
   rw[Qr,xI];rw[cE,Qp (C0 _ _ _ _),MG,xI,U8 ((aiT _ _ _ _).trans (Qu hL (bk hlen (by decide))))];rw[aiY NU];rfl
  refine ai (XO (A.deeper env) E' env F s _ [] aU G oa iB _ trivial DK fr si jr hX) (λg s' q=>?_) λ_ _ e=>e;obtain⟨v,rfl,q1,q2,q3⟩:=q;refine hQ _ _ ⟨q1,?_⟩;rw[MH NU hL];show bW s'.heap F (.int (xs[L]+2^n*0)) v;rw[Int.mul_zero,Int.add_zero];exact q3
 ·obtain⟨j,rfl,hk,ct⟩:=ih.resolve_left NU
  obtain⟨m,hm⟩:∃m,m=(L+R)/2:=⟨_,rfl⟩;obtain⟨Ks,AR⟩:=Kr hm h1 NU;obtain⟨hk1,PE⟩:=F3 hm hk;have Vf:m<=xs.length:=aq (cA AR) h2;obtain⟨t,ht⟩:∃t:Nat,t=(m - L)*n:=⟨_,rfl⟩;have ht9:t<=900:=by
   rw[ht,eW];exact aq (c7 _ (aq (tJ ..) Vf)) hn
  have hX:AL (V6 T) iK [] 10 3 Vb (IM L R n (xs.map .int)) []=some (.nx (Qw L R n m t (xs.map .int)) []):=by
   rw[Vc,xI,Qp (C0 _ _ _ _)];rw[aiZ NU];show cU (df (V6 T) iK [] 10 (AL (V6 T) iK [] 10 2)) _ (IM L R n (xs.map .int)) []=_;rw[qD (d:=.int m) ((aiU _ _ _ _).trans (by rw[Qv,<-hm])) (by rfl') (by rfl')];show cU (df (V6 T) iK [] 10 (AL (V6 T) iK [] 10 2)) _ (aiV L R n m (xs.map .int)) []=_;rw[qD (d:=.int t) ((U9 _ _ _ _ _).trans (abO (cA Ks) (aq Vf (aq hlen (by decide))) (aq hn9 (by decide)) ht)) (by rfl') (by rfl')];rfl
  rw[abN];refine um (ai (XO (A.deeper env) E' env F s _ [] aU G oa Vb _ trivial DK fr si jr hX) (λg s2 q=>?_) λ_ _ e=>e);obtain⟨rfl,G2,oa2,uh⟩:=q;have x2:In env G2 (Qw L R n m t (xs.map .int)) s2.heap:=uh.ie;have I2:ky s2.heap G2 f xs n o fd cl cd ci cn:=(I.keeps (Keeps.all uh.kp)).into uh.hF x2 jr oo (by rfl') (by rfl');have p9:dz (A.deeper env) La s2:=DK.keeps uh.kp uh.tk;have ph:Cl env "inner":=.inr (by unfold gT;rw[jr];decide);have Qx:env.cells.lookup ("inner":Str)=some ci:=by rw[oo];exact I.li
  have hhi:=IP n ((xs.drop m).take (R - m)) λx h=>hx x (List.mem_of_mem_drop (Zb h));have hhl:n*((xs.drop m).take (R - m)).length<=900:=by
   have:((xs.drop m).take (R - m)).length<=xs.length:=by rw[l9,jm];exact aq (atc ..) (tJ ..)
   exact aq (c7 _ this) hn
  refine aS (g8 ?_);rw[aiS];refine A7 (A7 (BQ VO trivial p9 x2 ph (by decide) (by decide) Qx I2.vi I2.ho I2.hd (by rw[jr];exact Vd _ _ _ _ _ _ _ _) (λs3 vs3 k3 t3 r3=>?_)));refine ai (bw t3 (ct m R AR h2 PE (A.deeper env) E' s3 G2 vs3 (bq.deeper env) (p9.keeps k3 t3) (x2.keeps (Keeps.all k3)).lo (I2.keeps (Keeps.all k3)) r3)) (λv1 s4 q4=>?_) λ_ _ e=>e;obtain⟨t4,k4,r4⟩:=q4;have Ka:=Keeps.trans' k3 k4;have Ku:=p9.keeps Ka t4;have x4:=x2.keeps (Keeps.all Ka);refine ai (bw t4 (VO.d (A.deeper env) E' env G2 _ s4 _ _ trivial Ku x4 (by rw[jr];exact apW _ _ _ _ _ _ _))) (λv5 s5 q5=>?_) λ_ _ e=>e;obtain⟨t5,k5,r5⟩:=q5;refine ai (bw t5 (p0 t5 (x4.keeps (Keeps.all k5)).lo (r4.keeps (Keeps.all k5)) r5 (IQ (Qt hhi.1 hhi.2 (aq hhl (by decide))) (bG t) (gj.mpr (aq ht9 (by decide)))))) (λv6 s6 q6=>?_) λ_ _ e=>e;obtain⟨t6,k6,r6⟩:=q6;have k26:=Keeps.trans' Ka (Keeps.trans' k5 k6);have am6:=p9.keeps k26 t6;have x6:=x2.keeps (Keeps.all k26);have I6:=I2.keeps (Keeps.all k26);refine BQ VO trivial am6 x6 ph (by decide) (by decide) Qx I6.vi I6.ho I6.hd (by rw[jr];exact Ve _ _ _ _ _ _ _ _) (λs7 vs7 k7 t7 r7=>?_);refine ai (bw t7 (ct L m Ks Vf hk1 (A.deeper env) E' s7 G2 vs7 (bq.deeper env) (am6.keeps k7 t7) (x6.keeps (Keeps.all k7)).lo (I6.keeps (Keeps.all k7)) r7)) (λv8 s8 q8=>?_) λ_ _ e=>e;obtain⟨t8,k8,r8⟩:=q8;have k68:=Keeps.trans' k7 k8;refine ai (p0 (op:=.Add) (d:=.int (j8 n ((xs.drop m).take (R - m))*2^(t:Int).toNat+j8 n ((xs.drop L).take (m - L)))) t8 (x6.keeps (Keeps.all k68)).lo (r6.keeps (Keeps.all k68)) r8 rfl) (λv9 s9 q9=>?_) λ_ _ e=>e;refine hQ _ _ ⟨Keeps.trans' (Keeps.trans' uh.kp k26) (Keeps.trans' k68 q9.1),?_⟩;have e1:j8 n ((xs.drop L).take (R - L))=j8 n ((xs.drop m).take (R - m))*2^(t:Int).toNat+j8 n ((xs.drop L).take (m - L)):=by
   rw[F5 xs L m R (cA Ks) (cA AR),Qs,MJ Vf,show(t:Int).toNat=n*(m - L)by rw[aR,ht,eW],DF,W8]
  rw[e1];exact q9.2
theorem zc(TO:dU pw w La (λ_=>True) T)
(hn:n*xs.length<=900)(nZ:1<=n)(hx:∀x∈xs,0<=x/\x<2^n):∀k,F4 w La f xs n o fd cl cd ci cn k:=by
 intro zx
 induction zx with
 |zero=>
  exactλL R h1 h2 h3 A E s F vs bq am lo I rs=>zb TO hn nZ hx L R h1 h2 A E s F vs 0 bq am lo I rs (.inl (by simp at h3;omega))
 |succ k ih=>
  exactλL R h1 h2 h3 A E s F vs bq am lo I rs=>zb TO hn nZ hx L R h1 h2 A E s F vs (k+1) bq am lo I rs (.inr ⟨k,rfl,h3,ih⟩)
end
end
section
def bH(P:Addr)(h h':Heap):Prop:=∀b o,h.get? b=some o->b≠P->h'.get? b=some o
inductive TabAt(h:Heap)(P:Addr):Prop
 |mk (ps:Array Value) (h1:h.get? P=some (tabObj ps)) (h2:ae4 ps.toList)
theorem TabAt.Yg(t:TabAt h P)(x:h.Ns a m):a≠P:=λe=>by
 obtain⟨ps,h1,_⟩:=t;obtain⟨o,es,ep,h2,h3,_⟩:=x;rw[e,h1]at h2;cases h2;cases h3
theorem Ns.but(t:TabAt h P)(k:bH P h h')(x:h.Ns a m):h'.Ns a m:=
 x.at' λo e=>k a o e (t.Yg x)
theorem F6(h:ae4 l)(e:l[1]? =some (.str q tk)):False:=by
 cases l with
 |nil=>cases e
 |cons x l=>
  cases l with
  |nil=>cases e
  |cons y l=>
   have e:y=.str q tk:=af e;rw[e]at h;cases x<;>exact h
theorem rU(t:TabAt h P)(x:h.CodeRec (.ref c) q):c≠P:=λz=>by
 obtain⟨c0,o,vs,tk,e,g,d,v⟩:=x;obtain⟨ps,h1,h2⟩:=t;rw[<-lj e,z,h1]at g;rw[<-af g]at d;rw[<-z9 d]at v;exact F6 h2 ((tH ..).trans v)
theorem CodeRec.but(t:TabAt h P)(k:bH P h h')(x:h.CodeRec cd q):h'.CodeRec cd q:=by
 obtain⟨c,o,vs,tk,rfl,g,d,v⟩:=x;exact⟨c,o,vs,tk,rfl,k c o g (rU t ⟨c,o,vs,tk,rfl,g,d,v⟩),d,v⟩
theorem dz.but(t:TabAt s.heap P)(k:bH P s.heap s'.heap)(am:dz A La s)(tk:1<=s'.toks)(NT:∀h h',La h->TabAt h P->bH P h h'->La h'):dz A La s':=by
 obtain⟨mc,n1,n2⟩:=am.nb;obtain⟨mc',l1,l2⟩:=am.nl;obtain⟨mg,g1⟩:=am.gl;exact⟨am.hh,⟨mc,Ns.but t k n1,n2⟩,⟨mc',Ns.but t k l1,l2⟩,⟨mg,Ns.but t k g1⟩,tk,am.un,λh kh=>NT s.heap h (am.la _ λ_ _ e=>e) t λb o e ne=>kh b o (k b o e ne)⟩
theorem TabAt.ne(t:TabAt h P)(k:bH P h h')(e:h.get? b=some o)(hd:∀vs,o.data≠.fields vs):h'.get? b=some o:=k b o e λz=>by
 obtain⟨ps,hP,_⟩:=t;rw[z,hP]at e;exact hd ps (af e▸rfl)
theorem F7{w:World}{h h':Heap}{P a:Addr}{K:Type}[DecidableEq K]{knd:KeyKind pw w K}{jG:List (K×Value)}(t:TabAt h P)(k:bH P h h')(x:h.DictOf knd a jG):h'.DictOf knd a jG:=by
 obtain⟨o,es,ep,ho,hx,hd,r⟩:=x;exact⟨o,es,ep,t.ne k ho (λvs e=>nomatch hd.symm.trans e),hx,hd,r⟩
theorem YP.but(t:TabAt h P)(k:bH P h h')(x:YP w h):YP w h':=by
 cases x with
 |mk mg g fl s d3 d4=>
 refine⟨mg,Ns.but t k g,fl,?_,?_,?_⟩
 ·obtain⟨a,a1,o,es,ep,tt,a2,a3,a4,a5⟩:=s
  exact⟨a,a1,o,es,ep,tt,t.ne k a2 (λvs e=>nomatch a4.symm.trans e),a3,a4,a5⟩
 ·obtain⟨b,b1,b2,jG,b3,b4⟩:=d3
  exact⟨b,b1,b2,jG,F7 t k b3,b4⟩
 ·obtain⟨b,b1,b2,jG,b3,b4⟩:=d4
  exact⟨b,b1,b2,jG,F7 t k b3,b4⟩
theorem pG.but(x:pG mg mb w h)(t:TabAt h P)(k:bH P h h'):pG mg mb w h':=by
 refine⟨Ns.but t k x.g,Ns.but t k x.b,λd hd=>?_,x.const,x.free,x.builtins,?_,x.yp.but t k⟩
 ·obtain⟨a,o,pm,code,doc,h1,h2,h3,h4⟩:=x.fn d hd
  exact⟨a,o,pm,code,doc,h1,t.ne k h2 (λvs e=>nomatch h3.symm.trans e),h3,CodeRec.but t k h4⟩
 ·obtain⟨bm,ob,h1,h2,h3,h4,h5,h6⟩:=x.bmain
  exact⟨bm,ob,h1,h2,t.ne k h3 (λvs e=>nomatch h6.symm.trans e),h4,h5,h6⟩
theorem pG.bat(x:pG mg mb w h)(t:TabAt h P):h.BuiltinsAt mg P:=by
 obtain⟨bm,ob,h1,h2,h3,h4,h5,h6⟩:=x.bmain;obtain⟨ps,hP,_⟩:=t;refine⟨bm,ob,h1,h2,λz=>?_,λz=>?_,h3,h4,h5,h6⟩
 ·obtain⟨o,es,ep,e,d,_⟩:=x.g
  rw[z,e]at h3;cases h3;rw[d]at h6;cases h6
 ·rw[z,hP]at h3
  cases h3;cases h6
theorem js.but:∀h h',js w h->TabAt h P->bH P h h'->js w h':=λh h' ⟨mg,mb,x⟩ t k=>⟨mg,mb,x.but t k⟩
section
variable{prog:bb}{w:World}{A:aC}{E:Value->ah->Prop}{G F:Addr->Prop}{env:Env}{La:Heap->Prop}{az s:ah}{σ:cy}{own:List Str}{oa:Str->Addr}
theorem rq(h:∀n,(n,bN)∈scope.names->(env.cells.lookup n).isSome=true):closureFor scope env=pure (gJ env scope.names []):=by
 have:=J8 (env:=env) scope.names [] h;show(forIn scope.names [] _ >>= pure)=_;rw[bind_pure];exact this
inductive PlT(h:Heap)(P:Addr)(pos:Pos)(qual:Str):Prop
 |mk (ps:Array Value) (h1:h.get? P=some (tabObj ps)) (h2:ae4 ps.toList) (h3:codeAmong pos ps.toList=none\/∃c',codeAmong pos ps.toList=some (.ref c')/\h.CodeRec (.ref c') qual)
inductive WmT(h:Heap)(P:Addr)(pos:Pos)(qual:Str):Prop
 |mk (ps:Array Value) (c':Addr) (h1:h.get? P=some (tabObj ps)) (h2:ae4 ps.toList) (h3:codeAmong pos ps.toList=some (.ref c')) (h4:h.CodeRec (.ref c') qual)
structure Place(h:Heap)(c P:Addr)(pos:Pos)(qual:Str):Prop where
 hd:Xf h c P
 tab:PlT h P pos qual
theorem Place.tabAt(x:Place h c P pos qual):TabAt h P:=by obtain⟨ps,a,b,_⟩:=x.tab;exact⟨ps,a,b⟩
structure jJ(h:Heap)(c P:Addr)(pos:Pos)(qual:Str):Prop where
 hd:Xf h c P
 tab:WmT h P pos qual
inductive NM(s:ah)(c P:Addr)(pos:Pos)(name qual:Str)(params:nT)(body:List Stmt)(scope:Scope)(cl:List (Str×Addr))(pm:Value)(v:Value)(s':ah):Prop
 |mk (fa c':Addr) (xJ doc:Value) (hv:v=.ref fa) (hn:s.heap.get? fa=none) (kb:bH P s.heap s'.heap) (fm:∃h tk,s'={s with heap:=h,toks:=tk}) (wm:jJ s'.heap c P pos qual) (rc:s'.heap.CodeRec (.ref c') qual)
  (fo:s'.heap.get? fa=some (fnMade name qual params body scope cl doc pm c' xJ)) (ka:(∃ps c',s.heap.get? P=some (tabObj ps)/\codeAmong pos ps.toList=some (.ref c'))->bV s.heap s'.heap)
theorem ai0(x:Xf h c P):c≠P:=by
 obtain⟨_,_,_,_,_,_,_,_,_,_,r⟩:=x;obtain⟨_,_,_,_,_,_,_,_,r⟩:=r;exact r
theorem qE(x:Xf h c P)(k:∀o vs,h.get? c=some o->o.data=.fields vs->h'.get? c=some o):Xf h' c P:=by
 obtain⟨o,vs,file,tf,iZ,tg,inF,text,tt,e,e2,d,r⟩:=x;exact⟨o,vs,file,tf,iZ,tg,inF,text,tt,k o vs e d,e2,d,r⟩
theorem MK(pl:Place s.heap c P pos qual)(hge:env.globals=mainGlobals)(hg:s.heap.Ns mainGlobals mg)(Kv:env.code=.ref c)(hb:s.heap.BuiltinsAt mg P)
(oo:∀n,(n,bN)∈scope.names->(env.cells.lookup n).isSome=true):
 wpAny (model prog w) A (makeFunction name qual params (.stmts body) scope env [] [] [] pos ln) (NM s c P pos name qual params body scope (gJ env scope.names []) ((mg "__name__").getD .none)) E s:=by
 obtain⟨ps,hP,ht,hh⟩:=pl.tab;have nw:∀b:Nat,s.heap.objs.size<=b->s.heap.get? b=none:=λb hb=>by
  cases e:s.heap.get? b with
  |none=>rfl
  |some o=>exact absurd (cY e) (pN.mpr hb)
 rcases hh with hnf|⟨c',hf,hrc⟩
 ·refine makeFunction_K (rq oo) hge hg Kv pl.hd hP ht hnf (pl.tabAt.Yg hg) hb (λc' xJ doc h' tk hx hsz mm ai1 ap2=>?_)
  have hk:bH P s.heap (h'.push (fnMade name qual params body scope (gJ env scope.names []) doc ((mg "__name__").getD .none) c' xJ)):=λb o e ne=>aV _ (hx b o ne e);refine⟨_,c',xJ,doc,rfl,nw _ (cA (bk hsz mm)),hk,⟨_,_,rfl⟩,⟨qE pl.hd λo _ e _=>hk c o e (ai0 pl.hd),_,c',aV _ ap2,?_,?_,ai1.push _⟩,ai1.push _,g0 _ rfl,λ⟨ps',c2,e1,e2⟩=>?_⟩
  ·have:=TriplesOk_snoc pos.line pos.col (.ref c') ps.toList ht
   simpa using this
  ·have:=codeAmong_snoc (pos:=pos) (c:=.ref c') ps.toList ht hnf
   simpa using this
  ·rw[hP]at e1
   cases e1;exact no (hnf.symm.trans e2)
 ·refine makeFunction_hit (rq oo) hge hg Kv pl.hd hP ht hf hb (λxJ doc h' tk hk hsz=>?_)
  have jU:bV s.heap (h'.push {cls:=.type "function",data:=.func (fnX name qual params body scope (gJ env scope.names []) .none .none doc ((mg "__name__").getD .none) none (.ref c') xJ)}):=λb o e=>aV _ (hk b o e);exact⟨_,c',xJ,doc,rfl,nw _ hsz,λb o e _=>jU b o e,⟨_,_,rfl⟩,⟨pl.hd.keeps jU,ps,c',jU _ _ hP,ht,hf,hrc.keeps jU⟩,hrc.keeps jU,g0 _ rfl,λ_=>jU⟩
end
end
section
section
variable{w:World}{A:aC}{E:Value->ah->Prop}{G F:Addr->Prop}{env:Env}{az s:ah}{σ:cy}{oa:Str->Addr}
theorem F8(am:dz A (js w) az)(fr:n7 env F az)(si:SI env F az σ [] s G oa)(hF:F P)(pl:Place az.heap c P pos qual)
(Kv:env.code=.ref c)(hq:qualnameIn env nm nm=qual)(hd0:params.defaults=[])(hk0:params.kw_defaults=[])(ha:annTrees params none env=[])(Fg:env.kindOf nm=some .cell)
(oo:∀n,(n,bN)∈scope.names->(env.cells.lookup n).isSome=true)(Yh:∀n,env.cells.lookup n≠some P)
(k:∀(sb s3:ah)(ci fa c':Addr)(xJ doc pm:Value),SI env F sb (put nm .J0 σ) [] s3 G oa->n7 env F sb->dz A (js w) sb->bH P az.heap sb.heap->((∃ps c',az.heap.get? P=some (tabObj ps)/\codeAmong pos ps.toList=some (.ref c'))->bV az.heap sb.heap)->
   (∃h tk,sb={az with heap:=h,toks:=tk})->jJ s3.heap c P pos qual->env.cells.lookup nm=some ci->s3.heap.IsCell ci (some (.ref fa))->s3.heap.get? fa=some (fnMade nm qual params body scope (gJ env scope.names []) doc pm c' xJ)->s3.heap.CodeRec (.ref c') qual->
   (∀b o,s.heap.get? b=some o->b≠P->b≠env.locals->env.cells.lookup nm≠some b->s3.heap.get? b=some o)->wpAny (model pw w) A (execs rest env) Q E s3):
 wpAny (model pw w) A (execs (.FunctionDef nm params body [] none [] scope none nm pos::rest) env) Q E s:=by
 have kk:=Keeps.all si.kp;have pl1:Place s.heap c P pos qual:=⟨pl.hd.keeps kk,by obtain⟨ps,a,b,d⟩:=pl.tab;exact⟨ps,kk _ _ a,b,d.imp id λ⟨c',e,r⟩=>⟨c',e,r.keeps kk⟩⟩⟩
 obtain⟨mg,mb,la⟩:=am.la s.heap kk;have t1:=pl1.tabAt;refine aS (nestDef_K hd0 hk0 ha ?_);rw[hq];refine ai (bw si.tk (MK pl1 si.ie.gl la.g Kv (la.bat t1) oo)) (λv s2 q=>?_) λ_ _ e=>e;obtain⟨PT,fa,c',xJ,doc,rfl,hn,kb,fm,wm,rc,hfo,ka⟩:=q;obtain⟨h2,ai2,rfl⟩:=fm;have u:Upd (λa=>a=P) s {s with heap:=h2,toks:=ai2}:=⟨h2,ai2,rfl,λb o ne e=>kb b o e ne⟩
 obtain⟨ps2,c2,hP2,hT2,hA2,hR2⟩:=wm.tab;obtain⟨sb,sib,IS,kbb,kPb,tkb,fmb⟩:=si.sM fr hF Yh u PT (by rw[hP2];rfl);refine ai (SI.bind (d:=.J0) sib IS (.inr Fg) (λq=>absurd rfl q)) (λ_ s3 q=>?_) λ_ _ e=>e;obtain⟨tk3,u3,tQ,hv⟩:=q;obtain⟨ci,hlc,hvc⟩:=hv.2 Fg;have kp3:∀b o,h2.get? b=some o->b≠env.locals->(env.cells.lookup nm≠some b)->s3.heap.get? b=some o:=λb o e n1 n2=>(u3.kept (G:=λa=>a=env.locals\/env.cells.lookup nm=some a) λ_ q=>q) b o (λq=>q.elim n1 n2) e;have xb:=sib.ie;obtain⟨ml,Vg,_⟩:=xb.va;have ai3:∀{b:Addr}{o:Obj},h2.get? b=some o->(∀es ep,o.data≠.dict es ep)->b≠env.locals:=λ{b o} e hd z=>by
  obtain⟨o',es,ep,e',d',_⟩:=Vg;rw[<-z]at e';have:some o=some o':=e.symm.trans e';cases this;exact hd es ep d'
 have ai4:∀{b:Addr}{o:Obj},h2.get? b=some o->(∀v,o.data≠.cell v)->env.cells.lookup nm≠some b:=λ{b o} e hd z=>by
  obtain⟨c0,v0,l0,o',e',d'⟩:=xb.ce nm Fg;rw[z]at l0;cases l0;have:some o=some o':=e.symm.trans e';cases this;exact hd v0 d'
 have zd:∀{b:Addr}{o:Obj}{vs:Array Value},h2.get? b=some o->o.data=.fields vs->s3.heap.get? b=some o:=λ{b o vs} e d=>kp3 b o e (ai3 e λes ep q=>by rw[d]at q;cases q) (ai4 e λv q=>by rw[d]at q;cases q);have rcK:∀{cd:Value}{q:Str},h2.CodeRec cd q->s3.heap.CodeRec cd q:=λ{cd q} x=>by obtain⟨c0,o,vs,t,e,g,d,r⟩:=x;exact⟨c0,o,vs,t,e,zd g d,d,r⟩
 have tb:TabAt az.heap P:=pl.tabAt;have ML:bH P az.heap sb.heap:=λb o e ne=>kbb b o e ne;refine k sb s3 ci fa c' xJ doc _ tQ IS (dz.but tb ML am tkb js.but) ML (λhw b o e=>?_) fmb ?_ hlc hvc (kp3 fa _ hfo (ai3 hfo λes ep q=>by cases q) (ai4 hfo λv q=>by cases q)) (rcK rc) λb o e ne n1 n2=>kp3 b o (kb b o e ne) n1 n2
 ·obtain⟨ps,c3,e1,e2⟩:=hw
  by_cases hb:b=P
  ·subst hb
   exact kPb o (ka ⟨ps,c3,kk _ _ e1,e2⟩ b o (kk _ _ e))
  ·exact ML b o e hb
 ·exact⟨qE wm.hd λ_ _ e d=>zd e d,ps2,c2,zd hP2 rfl,hT2,hA2,rcK hR2⟩
end
end
section
theorem ze{d:tK}{pm code doc:Value}(hm:d∈iG):Qg (cO d.name d.params d.body d.scope pm code doc) (d.params.args.map (·.arg)) d.body d.scope.names:=by
 have ok:=aw.mp xH d hm;unfold II at ok;simp only[av,me,c6,decide_eq_true_eq,beq_iff_eq,cW]at ok;obtain⟨k1,k2,k3,k4,k5,k6,k7,k8,k9,U5⟩:=ok;exact⟨rfl,rfl,k6,k7,k8,rfl,rfl,rfl,λvs hl=>j7 (fd:=cO d.name d.params d.body d.scope pm code doc) k1 k2 k3 k4 rfl k5 hl,k5,k9,U5⟩
def NV:ek:=⟨λ_ _=>none,U6,IJ,IK⟩
theorem oz(w):dU pw w (js w) (λ_=>True) NV:=by
 have L:=U7 (k:=50) w (js w) (λ_=>none) (λ_ x=>x) (λh f p ds d _ e=>by cases e);exact⟨L.gl,L.bi,L.SA,L.rev,L.ty,λ_ _ _ _ _ h=>(nomatch h),λh g ds d la e=>by
  obtain⟨a,o,q1,q2,q3,q4,q5⟩:=L.get h g ds d la e;exact⟨a,o,q1,q2,q3,q4,λA E F s vs _=>q5 A E F s vs⟩,λh g x b la e=>by
  obtain⟨a,q1,q2⟩:=L.mem h g x b la e;exact⟨a,q1,λA E F s v _=>q2 A E F s v⟩⟩
def jL:tK:=(iG.find? (λd=>d.name==("_digits2int":Str))).getD ⟨("":Str),default,[],default,default⟩
theorem F9:jL∈iG:=by
 have:(iG.find? (λd=>d.name==("_digits2int":Str))).isSome=true:=by rfl'
 obtain⟨d,hd⟩:=ay.mp this;have e:jL=d:=by unfold jL;rw[hd];rfl
 rw[e];exact d8 hd
theorem MM:jL.params.args.map (·.arg)=(["digits","n"]:List Str):=by rfl'
theorem uo:jL.name=("_digits2int":Str):=by rfl'
def dK:bY:=jL.scope.names
def DL:nT:=xY dI
def Ag:Scope:=oe dI
def dE:ae:=bj (ak 1 dB)
theorem Qy:jL.body=[.FunctionDef "inner" DL iB [] none [] Ag none "inner" (bU dI),.Return (some dE) (bU (ak 1 dB))]:=by rfl'
theorem ai5:dE=.IfExp (exT dE) (.Call (.Name "inner" (pH (pH dE)).pos) [pj 0 (pH dE),pj 1 (pH dE)] [] (pH dE).pos) (IL dE) dE.pos:=by rfl'
def dQ:Str:=(("_digits2int":Str)++(".<locals>.":Str))++("inner":Str)
theorem Qz:(Ag.names.all λx=>x.2 != .free||dK.lookup x.1==some .cell)=true:=by rfl'
def QA(xs:List D)(n:Int):cy:=[("digits",.lst xs),("n",.int n),("inner",.J0)]
section
variable{T:ek}
theorem QB(xs)(n):(V6 T).b dK (QA xs n) (exT dE)=nr (.lst xs):=by rfl'
theorem abP(xs)(n):(V6 T).d dK (QA xs n) (IL dE)=some (.int 0):=by rfl'
theorem ap7(xs)(n):(V6 T).d dK (QA xs n) (pj 0 (pH dE))=some (.int 0):=by rfl'
theorem ap8(xs)(n):(V6 T).d dK (QA xs n) (pj 1 (pH dE))=cM .len [.lst xs]:=by rfl'
theorem ap9(ha:f a=some x)(hb:f b=some y)(na:gu a=true)(nb:gu b=true):tP f [a,b]=some [x,y]:=by
 unfold tP;rw[if_pos na,ha];unfold tP;rw[if_pos nb,hb];rfl
end
theorem oA:Ag.names=iK/\Ag.kind=.function/\Ag.isGenerator=false/\Ag.isCoroutine=false:=⟨rfl,by rfl',by rfl',by rfl'⟩
theorem iH:DL.posonlyargs=[]/\DL.kwonlyargs=[]/\DL.vararg=none/\DL.kwarg=none/\DL.args.map (·.arg)=(["L","R"]:List Str)/\DL.defaults=[]/\DL.kw_defaults=[]:=⟨by rfl',by rfl',by rfl',by rfl',by rfl',by rfl',by rfl'⟩
theorem ai6(env):annTrees DL none env=[]:=by rfl'
theorem abQ:∀x∈iK,x.2≠.cell:=by
 have h:(iK.all λx=>x.2 != .cell)=true:=by rfl'
 intro x hx;have:=aw.mp h x hx;simpa using this
theorem Vh(env):gJ env iK []=([("n",(env.cells.lookup ("n":Str)).getD 0),("inner",(env.cells.lookup ("inner":Str)).getD 0),("digits",(env.cells.lookup ("digits":Str)).getD 0)]:List (Str×Addr)):=by rfl'
theorem abR(e:([("n",l1),("inner",l2),("digits",l3)]:List (Str×Addr)).lookup n=some c):(n=("n":Str)/\c=l1)\/(n=("inner":Str)/\c=l2)\/(n=("digits":Str)/\c=l3):=by
 have:=mem_of_lookup e;simp only[aJ,du,or_false,pP]at this;exact this
structure DP(P c:Addr)(pos:Pos)(q:Str)(F:Addr->Prop)(s:ah)(d:D)(v:Value)(s':ah):Prop where
 fm:∃h tk,s'={s with heap:=h,toks:=tk}
 kb:bH P s.heap s'.heap
 ka:(∃ps c',s.heap.get? P=some (tabObj ps)/\codeAmong pos ps.toList=some (.ref c'))->bV s.heap s'.heap
 wm:jJ s'.heap c P pos q
 r:bW s'.heap F d v
theorem Ga{w:World}{A:aC}{E:Value->ah->Prop}{F:Addr->Prop}{s:ah}{a c P:Addr}{o:Obj}{pm doc:Value}{xs:List Int}{n:Nat}{vs:List Value}(ho:s.heap.get? a=some o)(hd:o.data=.func (cO jL.name jL.params jL.body jL.scope pm (.ref c) doc))
(rc:s.heap.CodeRec (.ref c) jL.name)(pl:Place s.heap c P (bU dI) dQ)(hF:F P)(bq:Bq 45 A)(am:dz A (js w) s)(lo:iW F s.heap)(rs:aZ s.heap F [.lst (xs.map .int),.int n] vs)
(hn:n*xs.length<=900)(nZ:1<=n)(hx:∀x∈xs,0<=x/\x<2^n):
 wpAny (model pw w) A (call (.ref a) vs) (DP P c (bU dI) dQ F s (.int (j8 n xs))) E s:=by
 have fi:=ze (d:=jL) (pm:=pm) (code:=.ref c) (doc:=doc) F9;rw[MM,Qy]at fi;have hlen:xs.length<=900:=by
  have:1*xs.length<=n*xs.length:=aei _ nZ;omega
 refine sJ (fu:=(["digits","n"]:List Str)) fi (by have:=bq.1;show A.depth<1000;omega) ho hd rc rfl am (by have:=bq.2;omega) lo rs (λenv aU G oa jr iu iT fr si E'=>?_);have si:SI env F s [("digits",.lst (xs.map .int)),("n",.int n)] [] aU G oa:=si;have hk:∀m,env.kindOf m=dK.lookup m:=λm=>by unfold gT;rw[jr];rfl
 have QC:env.code=.ref c:=by rw[iu];rfl
 have p7:∀m,dK.lookup m=some .cell->∃c v,env.cells.lookup m=some c/\aU.heap.IsCell c v:=λm e=>si.ie.ce m (by rw[hk];exact e);have Yh:∀m,env.cells.lookup m≠some P:=λm e=>by
  have hm:(m,P)∈cellsFrom (s.heap.objs.size+1) jL.scope.names []:=by
   have:=mem_of_lookup e;rw[iu]at this;exact this
  have AR:=gU _ _ _ _ _ hm;simp only[du,false_or]at AR;have:=fr.hc m P (.inr (by rw[hk];exact mem_lookup fi.kd AR)) e;obtain⟨ps,h1,_⟩:=pl.tab;rw[h1]at this;cases this
 have ph:∀m,(m,bN)∈Ag.names->dK.lookup m=some .cell:=λm hm=>by
  have:=aw.mp Qz _ hm;simpa using this
 refine F8 (qual:=dQ) iT fr si hF pl QC (by rw[iu];rfl') iH.2.2.2.2.2.1 iH.2.2.2.2.2.2 (ai6 env) (by rw[hk];decide) (λm hm=>?_) Yh (λsb s3 ci fa c' xJ xo NW NX Mfr Mam Mkb Mka Mfm Mwm Mlc Mvc Mfo Mrc Mkq=>?_)
 ·obtain⟨c0,_,e,_⟩:=p7 m (ph m hm)
  rw[e];rfl
 have VO:de pw w (js w) (λ_=>True) (V6 NV):=gw (oz w) 7;have x3:In env G (QA (xs.map .int) n) s3.heap:=NX.ie;have tk3:=NX.tk;have Kw:dz (A.deeper env) (js w) s3:=Mam.keeps NX.kp NX.tk;have fin:∀v s',Keeps s3 s'->bW s'.heap F (.int (j8 n xs)) v->DP P c (bU dI) dQ F s (.int (j8 n xs)) v s':=λv s' k r=>by
  have kk:=Keeps.trans' NX.kp k;obtain⟨h1,t1,e1⟩:=Mfm;obtain⟨h2,t2,e2,k2⟩:=kk;have k3:=Keeps.all k;refine⟨⟨h2,t2,by rw[e2,e1]⟩,λb o e ne=>?_,λhw b o e=>?_,?_,r⟩
  ·rw[e2];exact k2 _ _ (Mkb b o e ne)
  ·rw[e2];exact k2 _ _ (Mka hw b o e)
  ·obtain⟨ps,c2,h1,h2,h3,h4⟩:=Mwm.tab
   exact⟨Mwm.hd.keeps k3,ps,c2,k3 _ _ h1,h2,h3,h4.keeps k3⟩
 refine gp λQ hQ=>?_;refine aS (g8 ?_);rw[ai5];cases hxs:xs with
 |nil=>
  subst hxs;refine IfExp_ (ai (bw tk3 (VO.b (A.deeper env) E' env G _ s3 _ false trivial Kw x3 (by rw[jr];exact QB _ _))) (λb s4 q=>?_) λ_ _ e=>e);obtain⟨t4,rfl,k4⟩:=q;refine ai (VO.d (A.deeper env) E' env G _ s4 _ _ trivial (Kw.keeps k4 t4) (x3.keeps (Keeps.all k4)) (by rw[jr];exact abP _ _)) (λv s5 q=>?_) λ_ _ e=>e;refine hQ _ _ (fin v s5 (Keeps.trans' k4 q.1) ?_);exact q.2
 |cons y ys=>
  have htr:nr (.lst (xs.map .int))=some true:=by
   show(if(xs.map D.int).length<=eu then some (!(xs.map D.int).isEmpty)else none)=_;rw[if_pos (by rw[aj];have:eu=1048576:=rfl;omega),hxs];rfl
  refine IfExp_ (ai (bw tk3 (VO.b (A.deeper env) E' env G _ s3 _ true trivial Kw x3 (by rw[jr];exact(QB _ _).trans htr))) (λb s4 q=>?_) λ_ _ e=>e);obtain⟨t4,rfl,k4⟩:=q;have Ku:=Kw.keeps k4 t4;have x4:=x3.keeps (Keeps.all k4);have abS:Cl env "inner":=.inl (by rw[hk];decide);have hl:cM .len [.lst (xs.map .int)]=some (.int xs.length):=by
   show dG (if(xs.map D.int).length<=eu then some (D.int (xs.map D.int).length)else none) _=_;rw[aj,if_pos (by have:eu=1048576:=rfl;omega)];rfl
  refine BQ VO trivial Ku x4 abS (by decide) (by decide) Mlc (Mvc.keeps (Keeps.all k4)) (Keeps.all k4 _ _ Mfo) rfl (by rw[jr];exact ap9 (ap7 _ _) ((ap8 _ _).trans hl) (by rfl') (by rfl')) (λs5 vs5 k5 t5 r5=>?_);have am5:=Ku.keeps k5 t5;have x5:=x4.keeps (Keeps.all k5);have k35:=Keeps.trans' k4 k5;have QD:=Keeps.all k35;have AH:∀m:Str,dK.lookup m=some .cell->env.cells.lookup m=some ((env.cells.lookup m).getD 0):=λm e=>by
   obtain⟨c0,_,e0,_⟩:=p7 m e;rw[e0];rfl
  have hl1:=AH "n" (by decide);have hl2:=AH "inner" (by decide);have Yi:=AH "digits" (by decide);have Qx:(env.cells.lookup ("inner":Str)).getD 0=ci:=by rw[Mlc];rfl
  have C2:gJ env Ag.names []=([("n",(env.cells.lookup ("n":Str)).getD 0),("inner",(env.cells.lookup ("inner":Str)).getD 0),("digits",(env.cells.lookup ("digits":Str)).getD 0)]:List (Str×Addr)):=Vh env;have rr:∀m c0,(gJ env Ag.names []).lookup m=some c0->env.cells.lookup m=some c0/\iK.lookup m=some .free:=λm c0 e=>by
   rw[C2]at e;rcases abR e with⟨rfl,rfl⟩|⟨rfl,rfl⟩|⟨rfl,rfl⟩
   ·exact⟨hl1,by decide⟩
   ·exact⟨hl2,by decide⟩
   ·exact⟨Yi,by decide⟩
  obtain⟨ml,Vg,hva⟩:=x5.va;have I:ky s5.heap G fa xs n (fnMade "inner" dQ DL iB Ag (gJ env Ag.names []) xo NW c' xJ) (fnX "inner" dQ DL iB Ag (gJ env Ag.names []) .none .none xo NW none (.ref c') xJ) (gJ env Ag.names [])
   ((env.cells.lookup ("digits":Str)).getD 0) ci ((env.cells.lookup ("n":Str)).getD 0):=by
   refine⟨QD _ _ Mfo,rfl,⟨rfl,rfl,oA.2.1,oA.2.2.1,oA.2.2.2,rfl,rfl,rfl,λvs hl=>?_,by decide,λp hp=>?_,abQ,λm c0 e=>(rr m c0 e).2,λm m' c0 e e'=>x5.inj m m' c0 (rr m c0 e).1 (rr m' c0 e').1⟩,Mrc.keeps QD,by rw[C2];rfl,by rw[C2,Qx];rfl,by rw[C2];rfl,λm c0 e=>(x5.fc m c0 (rr m c0 e).1).1,?_,Mvc.keeps QD,?_⟩
   ·have:=j7 (fd:=fnX "inner" dQ DL iB Ag (gJ env Ag.names []) .none .none xo NW none (.ref c') xJ) (vs:=vs) iH.1 iH.2.1 iH.2.2.1 iH.2.2.2.1 rfl (by rw[show(fnX "inner" dQ DL iB Ag (gJ env Ag.names []) .none .none xo NW none (.ref c') xJ).params=DL from rfl,iH.2.2.2.2.1];decide) (by rw[show(fnX "inner" dQ DL iB Ag (gJ env Ag.names []) .none .none xo NW none (.ref c') xJ).params=DL from rfl,iH.2.2.2.2.1];exact hl)
    rw[show(fnX "inner" dQ DL iB Ag (gJ env Ag.names []) .none .none xo NW none (.ref c') xJ).params=DL from rfl,iH.2.2.2.2.1]at this;exact this
   ·simp only[aJ,du,or_false]at hp
    rcases hp with rfl|rfl<;>decide
   ·obtain⟨c0,v0,e1,e2,e3⟩:=(hva "digits" (.lst (xs.map .int)) (by rfl')).2 (.inl (by rw[hk];decide))
    rw[Yi]at e1;cases e1;exact⟨v0,e2,e3⟩
   ·obtain⟨c0,v0,e1,e2,e3⟩:=(hva "n" (.int n) (by rfl')).2 (.inl (by rw[hk];decide))
    rw[hl1]at e1;cases e1;exact⟨v0,e2,e3⟩
  have abT:0<xs.length:=by rw[hxs];simp
  have h10:xs.length<=2^10:=aq hlen (by decide);refine ai (zc (oz w) hn nZ hx 10 0 xs.length abT (cf _) (by rw[gM];exact h10) (A.deeper env) E' s5 G vs5 ⟨by have:=bq.1;show A.depth+1+11<=990;omega,by have:=bq.2;rw[eR];omega⟩ am5 x5.lo I r5) (λv s6 q=>?_) λ_ _ e=>e;refine hQ _ _ (fin v s6 (Keeps.trans' k35 q.1) ?_);have:=q.2;rw[gM,xa,rz]at this;exact this
end
end Internal
namespace Internal.Q
inductive IT(mg:Str->Option Value)(h:Heap)(n:Str)(c P:Addr):Prop
 |mk (a:Addr) (o:Obj) (fd:jM) (h1:mg n=some (.ref a)) (h2:h.get? a=some o) (h3:o.data=.func fd) (h4:fd.code=.ref c) (h5:Xf h c P) (h6:h.get? P=some (tabObj #[]))
inductive abU(h:Heap)(n:Str)(c P:Addr):Prop
 |mk (a:Addr) (o:Obj) (fd:jM) (oc:Obj) (vs:Array Value) (h1:h.nsMap mainGlobals n=some (.ref a)) (h2:h.get? a=some o) (h3:o.data=.func fd) (h4:fd.code=.ref c) (h5:h.get? c=some oc) (h6:oc.data=.fields vs) (h7:kK vs.toList 11 jf=.ref P)
theorem Gb(e:codeOf h n=some (c,P)):abU h n c P:=by
 obtain⟨v,h1,e⟩:=aO e;obtain⟨a,_,e⟩:=aO e;obtain⟨o,h2,e⟩:=aO e;obtain⟨fd,_,e⟩:=aO e;obtain⟨c',_,e⟩:=aO e;obtain⟨oc,h3,e⟩:=aO e;obtain⟨vs,_,e⟩:=aO e;obtain⟨P',_,e⟩:=dH e;obtain⟨rfl,rfl⟩:=gy e;exact⟨_,_,_,_,_,a.2▸h1,h2,fd.2,c'.2,h3,vs.2,P'.2⟩
theorem uq(h:(o.map f).getD false=true):∃x,o=some x/\f x=true:=by
 cases o with
 |none=>exact DI h
 |some x=>exact⟨x,rfl,h⟩
theorem nN{α β:Type}{o:Option α}{f:α->Option β}{g:Option β->Bool}(h:g (o.bind f)=true)(hn:g none=false):∃x,o=some x/\g (f x)=true:=by
 cases o with
 |none=>exact DI (hn.symm.trans h)
 |some x=>exact⟨x,rfl,h⟩
theorem sN{α:Type}{p:α->Prop}{o:Option {x:α // p x}}(h:o.isSome=true):∃x,p x:=by
 cases o with
 |none=>exact DI h
 |some x=>exact⟨x.1,x.2⟩
theorem ajc{h:Heap}{c P:Addr}{oc:Obj}{vs:Array Value}(h5:h.get? c=some oc)(h6:oc.data=.fields vs)(h7:kK vs.toList 11 jf=.ref P)(b:hdB h c=true)(m7:c≠P):Xf h c P:=by
 obtain⟨o',e1,b⟩:=nN (g:=λo=>o.getD false) b rfl;cases h5.symm.trans e1;obtain⟨v',_,b⟩:=nN (g:=λo=>o.getD false) b rfl;cases z9 (h6.symm.trans v'.2);obtain⟨n,_,b⟩:=uq b;simp only[av]at b;obtain⟨c1,c2,c3,c4,c5⟩:=b;have gd:∀i,v'.1.getD i jf=kK v'.1.toList i jf:=λi=>by
  rw[Hp,br,tH]
 rw[<-gd]at h7 c2 c3 c4 c5;obtain⟨_,q1⟩:=sN c2;obtain⟨_,q2⟩:=sN c3;obtain⟨_,q3⟩:=sN c4;obtain⟨_,q4⟩:=sN c5;refine⟨oc,_,_,_,_,_,_,_,_,h5,by rw[n.2,eq_of_beq c1],h6,?_,h7,q1,q2,q3,q4,m7⟩;rw[Hp]at h7;cases hv:v'.1[11]? with
 |none=>rw[hv]at h7;cases h7
 |some v=>rw[hv]at h7;exact congrArg some h7
theorem QE{h:Heap}{P:Addr}(b:HK h P=true):h.get? P=some (tabObj #[]):=by
 obtain⟨o,e1,b⟩:=nN (g:=λo=>o.getD false) b rfl;obtain⟨ps,_,b⟩:=nN (g:=λo=>o.getD false) b rfl;obtain⟨n,_,b⟩:=uq b;simp only[av,me,c6]at b;obtain⟨c2,c3,c4⟩:=b;have h1:=ps.2;have h2:=n.2;rw[N4.mp c2]at h1;rw[e1];obtain⟨cls,dict,data,slots⟩:=o;dsimp only at*;rw[h1,h2,c3,N4.mp c4]
theorem Kx(e:codeOf h n=some (c,P))(b:Uj h n=true):IT (h.nsMap mainGlobals) h n c P:=by
 obtain⟨a,o,fd,oc,vs,h1,h2,h3,h4,h5,h6,h7⟩:=Gb e;unfold Uj at b;rw[e]at b;have b:(!(bM c P)&&(hdB h c&&HK h P))=true:=b;simp only[av,cW]at b;obtain⟨b1,b2,b3⟩:=b;exact⟨a,o,fd,h1,h2,h3,h4,ajc h5 h6 h7 b2 (λz=>by rw[z,tN]at b1;cases b1),QE b3⟩
end Internal.Q
namespace Internal
section
theorem oB(h:x=some a)(k:f a=r):x.bind f=r:=by rw[h];exact k
theorem sO:∀{xs:List α},(∀x∈xs,f (φ x)=some (g x))->gQ f (xs.map φ)=some (xs.flatMap g)
 |[],_=>rfl
 |d::ds,h=>by
  rw[bJ];dsimp only[gQ];rw[h d (aA ..)];show(gQ f (ds.map φ)).bind _=_;rw[sO (xs:=ds) λx hx=>h x (aD _ hx)];rfl
def nO(e:ae):ae×List d7×Scope×Pos:=(qi e).getD (default,[],default,default)
abbrev kW(e:ae):Scope:=(nO e).2.2.1
def IU:List d7->ae
 |g::_=>g.iter
 |[]=>default
def ql(e:ae):ae:=IU (nO e).2.1
def cOk(ks:bY)(σ:cy)(e:ae):Bool:=match qi e with
 |some x=>(decide (x.2.2.1.kind=.function/\yC (x.2.2.1.names.map (·.1))=true)&&mQ ks σ x.2.2.1.names)&&(jo (dX ⟨λ_ _=>none,λ_=>none,λ_ _=>none,λ_ _=>none⟩ 0) x.2.2.1 x.1 x.2.1).isSome
 |none=>false
def iM(V:Ev)(σ:cy)(e:ae)(d:D):Option (List D):=(jo V (kW e) (nO e).1 (nO e).2.1).bind λc=>lR (V.b (eh (kW e))) (qY (kW e) (lr σ (kW e).names)) c.1 c.2.2.1 c.2.2.2 (lr σ (kW e).names) d
def ur(V:Ev)(σ:cy)(e:ae):D->Option (List D):=match(nO e).2.1 with
 |[_,g]=>lR (V.b (eh (kW e))) (qY (kW e) σ) g.target g.ifs (Fi V (kW e) (nO e).1) σ
 |_=>λ_=>none
def oE(σ:cy)(d:D)(e:ae):cy:=match(nO e).2.1 with
 |g::_=>(Bz (qY (kW e) (lr σ (kW e).names)) g.target d (lr σ (kW e).names)).getD []
 |_=>[]
theorem Gd(h:(jo V' scope elt gens).isSome=true):∃c,jo V scope elt gens=some c/\c.2.1=IU gens:=by
 obtain⟨c,hc⟩:=ay.mp h;obtain⟨i,gs,rfl,-,h2,h3⟩:=lu hc;rcases h3 with⟨rfl,-⟩|⟨t2,i2,f2,rfl,h4,-⟩
 ·exact⟨_,if_pos ⟨rfl,h2⟩,rfl⟩
 ·exact⟨_,if_pos ⟨⟨rfl,h2⟩,rfl,h4⟩,rfl⟩
theorem zf(DJ:cOk ks σ e=true)(hi:V.d ks σ (ql e)=some d)(hit:items d=some ds)
(hF:gQ (iM V σ e) ds=some out)(hl:out.length<=eu):(iY T V).d ks σ e=some (.lst out):=by
 unfold cOk at DJ;cases hx:qi e with
 |none=>rw[hx]at DJ;exact DI DJ
 |some x=>
  rw[hx]at DJ;obtain⟨h1,h2⟩:=bZ.mp DJ;obtain⟨h3,h4⟩:=bZ.mp h1;obtain⟨c,hc,Qx⟩:=Gd (V:=V) h2;obtain rfl:=qj hx;have hF:gQ (λd=>(jo V x.2.2.1 x.1 x.2.1).bind λc=>lR (V.b (eh x.2.2.1)) (qY x.2.2.1 (lr σ x.2.2.1.names)) c.1 c.2.2.1 c.2.2.2 (lr σ x.2.2.1.names) d) ds=some out:=hF;rw[hc]at hF;show(yD V ks σ x.1 x.2.1 x.2.2.1).map _=_;unfold yD;rw[if_pos ⟨of_decide_eq_true h3,h4⟩,hc];show((V.d ks σ c.2.1).bind _).map _=_;rw[Qx,show V.d ks σ (IU x.2.1)=some d from hi];show((items d).bind _).map _=_;rw[hit];show((gQ (lR (V.b (eh x.2.2.1)) (qY x.2.2.1 (lr σ x.2.2.1.names)) c.1 c.2.2.1 c.2.2.2 (lr σ x.2.2.1.names)) ds).bind _).map _=_;rw[show gQ (lR (V.b (eh x.2.2.1)) (qY x.2.2.1 (lr σ x.2.2.1.names)) c.1 c.2.2.1 c.2.2.2 (lr σ x.2.2.1.names)) ds=some out from hF,ag,if_pos hl];rfl
theorem iw{α:Type}{T:ek}{V:Ev}{ks:bY}{σ:cy}{e:ae}{d:D}{φ:α->D}{xs:List α}{g:α->List D}(DJ:cOk ks σ e=true)(hi:V.d ks σ (ql e)=some d)(hit:items d=some (xs.map φ))
(hF:∀x∈xs,iM V σ e (φ x)=some (g x))(hl:(xs.flatMap g).length<=eu):(iY T V).d ks σ e=some (.lst (xs.flatMap g)):=
 zf DJ hi hit (sO hF) hl
theorem tr(h2:b=c)(h1:autoParam (a=b) Mxx.ka):a=c:=h1.trans h2
def uu(st:Stmt):ae:=bj st
def mf(e:ae):List ae×Nat×Pos:=(CU e).getD ([],0,default)
def sP(st:Stmt):List ae:=(mf (qk st)).1
def Ge(st:Stmt):List ae:=(mf (uu st)).1
def iU(st:Stmt):ae:=qk st
def Ky(ks:bY)(ts es:List ae)(ns:List Str)(cs:List (D×Bool))(σ:cy)(own:List Str):Option (cy×List Str):=
 if iZ cs<=1/\es.length<=eu then
     (yK ks ts es).bind λr=>match r with
       |none=>some (qg ns cs (σ,own))
       |some ms=>if ms=ns then some (qg ns.reverse cs.reverse (σ,own))else none
     else none
def abW(st:Stmt):q0:=(stK st).2.2.2.1
def Yj(st:Stmt):ae:=bj st
def MN(st:Stmt):Str×Str×List ae:=(rN (Yj st)).getD ("","",[])
def j9(st:Stmt):Str:=(MN st).1
def Kz(st:Stmt):ae:=(Qc (MN st).2.2).getD default
def eM(st:Stmt):Str:=((wM (qk st)).getD ("",default)).1
abbrev g1(o:Option (cy×List Str)):cy:=(o.getD ([],[])).1
abbrev g2(o:Option (cy×List Str)):List Str:=(o.getD ([],[])).2
section
variable{V:Ev}{ks:bY}{W:List Str}{wf:Nat}{X:XD}{σ σ':cy}{own own':List Str}{rest:List Stmt}{st:Stmt}{r:Option Fl}
theorem fh(h:df V ks W wf X st σ own=some (.nx σ' own'))(k:cU (df V ks W wf X) rest σ' own'=r):cU (df V ks W wf X) (st::rest) σ own=r:=by
 dsimp only[cU];rw[h];exact k
theorem dm(h:df V ks W wf X st σ own=some (.rt d)):cU (df V ks W wf X) (st::rest) σ own=some (.rt d):=by
 dsimp only[cU];rw[h];rfl
theorem cb(d)(h:V.d ks (dA own σ) (bj st)=some d)(hs:autoParam (st=.Assign [.Name (eM st) (jI st)] (bj st) (bU st)) Mxx.ka)(hk:autoParam ((Az ks (eM st)&& !my ks (eM st) (jI st) (bj st))=true) Mxx.ka):
 df V ks W wf X st σ own=some (.nx (kQ W (eM st) (d,j4 (bj st)&&mr d) (σ,own)).1 (kQ W (eM st) (d,j4 (bj st)&&mr d) (σ,own)).2):=by
 rw[av,cW]at hk;generalize eM st=n at*;rw[hs];show AK V ks W n (jI st) (bj st) σ own=_;unfold AK;rw[if_pos hk.1,hk.2,if_neg aF];unfold fb;rw[h];rfl
theorem Vi(c:D×Bool)(h:fb V ks σ own (bj st)=some c)(hs:autoParam (st=.Assign [.Name (eM st) (jI st)] (bj st) (bU st)) Mxx.ka)(hk:autoParam ((Az ks (eM st)&& !my ks (eM st) (jI st) (bj st))=true) Mxx.ka):
 df V ks W wf X st σ own=some (.nx (kQ W (eM st) c (σ,own)).1 (kQ W (eM st) c (σ,own)).2):=by
 rw[av,cW]at hk;generalize eM st=n at*;rw[hs];show AK V ks W n (jI st) (bj st) σ own=_;unfold AK;rw[if_pos hk.1,hk.2,if_neg aF,h];rfl
theorem Vj(out)(h:V.d ks (dA own σ) (bj st)=some (.lst out))(hs:autoParam (st=.Assign [.Name (eM st) (jI st)] (bj st) (bU st)) Mxx.ka)(hk:autoParam ((Az ks (eM st)&&my ks (eM st) (jI st) (bj st)&&(qi (bj st)).isSome)=true) Mxx.ka):
 df V ks W wf X st σ own=some (.nx (kQ W (eM st) (.lst out,true) (σ,own)).1 (kQ W (eM st) (.lst out,true) (σ,own)).2):=by
 obtain⟨hk1,PE⟩:=bZ.mp hk;obtain⟨hk3,hk4⟩:=bZ.mp hk1;obtain⟨x,hx⟩:=ay.mp PE;generalize eM st=n at*;rw[hs];show AK V ks W n (jI st) (bj st) σ own=_;unfold AK;rw[if_pos hk3,if_pos hk4,hx];show((V.d ks (dA own σ) (bj st)).bind yS).map _=_;rw[h];rfl
theorem n8(h:V.d ks (dA own σ) e=some d):fb V ks σ own e=some (d,j4 e&&mr d):=by
 unfold fb;rw[h]
theorem aqh(h:V.d ks σ e=some d)(hf:autoParam (nJ d=true) Mxx.ka)(h0:autoParam (V.d ks (dA own σ) e=none) Mxx.ka):fb V ks σ own e=some (d,false):=by
 unfold fb;rw[h0,h];cases d<;>first|(cases hf;done)|rfl
theorem mR:kU V ks σ own W [] []=some []:=rfl
theorem ey(h:fb V ks σ own e=some c)(hr:kU V ks σ own W ns es=some cs)(hn:autoParam (gu e=true) Mxx.ka):
 kU V ks σ own W (n::ns) (e::es)=some ((c.1,c.2&&W.contains n)::cs):=by
 show(if gu e=true then(fb V ks σ own e).bind _ else none)=_;rw[if_pos hn,h];show(kU V ks σ own W ns es).bind _=_;rw[hr];rfl
theorem mT(ns)(es)(h:kU V ks σ own W ns es=some cs)(he:autoParam (Ge st=es) Mxx.ka)
(hs:autoParam (st=.Assign [.Tuple (sP st) (mf (qk st)).2.1 (mf (qk st)).2.2] (.Tuple (Ge st) (mf (uu st)).2.1 (mf (uu st)).2.2) (bU st)) Mxx.ka)(hn:autoParam ((U0 (sP st) (Ge st)).isNone=true) Mxx.ka)(h1:autoParam (P8 (sP st)=some ns) Mxx.ka)(h2:autoParam (ns.all (Az ks)=true) Mxx.ka)
(hσ:autoParam ((Ky ks (sP st) (Ge st) ns cs σ own).isSome=true) Mxx.ka):df V ks W wf X st σ own=some (.nx (g1 (Ky ks (sP st) (Ge st) ns cs σ own)) (g2 (Ky ks (sP st) (Ge st) ns cs σ own))):=by
 subst he;obtain⟨r,hr⟩:=ay.mp hσ;rw[hr];generalize sP st=ts at*;generalize Ge st=es at*;rw[hs];show MA V ks W ts es σ own=_;unfold MA;rw[c6.mp hn];show(UU V ks W ts es σ own).map _=_;unfold UU;rw[h1];show(if ns.all (Az ks)=true then _ else none).map _=_;rw[if_pos h2,h];show(Ky ks ts es ns cs σ own).map _=_;rw[hr];rfl
theorem ajd(h:(!b)=true):b=false:=by cases b<;>first|rfl|exact DI h
theorem mU(c:D×Bool)(h:fb V ks σ own (uu st)=some c)(h1:autoParam ((fk ks (iU st) c.1 (σ,own)).isSome=true) Mxx.ka)
(hs:autoParam (st=.Assign [.Tuple (sP st) (mf (qk st)).2.1 (mf (qk st)).2.2] (uu st) (bU st)) Mxx.ka)(ht:autoParam (iU st=.Tuple (sP st) (mf (qk st)).2.1 (mf (qk st)).2.2) Mxx.ka)(hn:autoParam ((CU (uu st)).isNone=true) Mxx.ka):
 df V ks W wf X st σ own=some (.nx (g1 (fk ks (iU st) c.1 (σ,own))) (g2 (fk ks (iU st) c.1 (σ,own)))):=by
 obtain⟨r,hr⟩:=ay.mp h1;rw[hr];rw[ht]at hr;generalize sP st=ts at*;generalize uu st=e at*;rw[hs];show(match CU e with
                                                                                                  |some es=>MA V ks W ts es.1 σ own
                                                                                                  |none=>(fb V ks σ own e).bind λc=>(fk ks (.Tuple ts _ _) c.1 (σ,own)).map λ(r:cy×List Str)=>Fl.nx r.1 r.2)=_
 rw[c6.mp hn];show(fb V ks σ own e).bind _=_;rw[h,ag,hr];rfl
theorem abX(d)(h:fb V ks σ own (bj st)=some c)(hd:autoParam (Ir (abW st) a c.1=some d) Mxx.ka)(ha:autoParam (look (dA own σ) (eM st)=some a) Mxx.ka)
(hs:autoParam (st=.AugAssign (.Name (eM st) (jI st)) (abW st) (bj st) (bU st)) Mxx.ka)(ho:autoParam ((!own.contains (eM st)&&Az ks (eM st))=true) Mxx.ka):
 df V ks W wf X st σ own=some (.nx (put (eM st) d σ) (rL (eM st) own)):=by
 rw[av,cW]at ho;generalize eM st=n at*;rw[hs];show IC V ks n (abW st) (bj st) σ own=_;unfold IC;rw[ho.1,if_neg aF,if_pos ho.2,ha];show(fb V ks σ own (bj st)).bind _=_;rw[h];show(Ir _ _ _).map _=_;rw[hd];rfl
theorem KA(h:fb V ks σ own (bj st)=some (.lst es,fl))(hl:ds.length+es.length<=eu)(ha:autoParam (look σ (eM st)=some (.lst ds)) Mxx.ka)
(hs:autoParam (st=.AugAssign (.Name (eM st) (jI st)) .Add (bj st) (bU st)) Mxx.ka)(ho:autoParam (own.contains (eM st)=true) Mxx.ka):
 df V ks W wf X st σ own=some (.nx (put (eM st) (.lst (ds++es)) σ) (eM st::rL (eM st) own)):=by
 generalize eM st=n at*;rw[hs];show IC V ks n .Add (bj st) σ own=_;unfold IC;rw[if_pos ho,if_pos (show Kh .Add=true from rfl),ha];show(fb V ks σ own (bj st)).bind _=_;rw[h];show(if ds.length+es.length<=eu then _ else none)=_;rw[if_pos hl]
theorem sQ(c)(h:V.b ks σ (dx st)=some c)(hs:autoParam (st=.If (dx st) (bp st) (dN st) (bU st)) Mxx.ka):df V ks W wf X st σ own=if c=true then X (bp st) σ own else X (dN st) σ own:=by
 rw[hs];show(V.b ks σ (dx st)).bind _=_;rw[h];rfl
theorem lV(h:V.b ks σ (dx st)=some true)(hx:X b σ own=some (.nx σ' own'))(k:cU (df V ks W wf X) rest σ' own'=r)(hb:autoParam (bp st=b) Mxx.ka)(hs:autoParam (st=.If (dx st) (bp st) (dN st) (bU st)) Mxx.ka):
 cU (df V ks W wf X) (st::rest) σ own=r:=
 fh (by rw[sQ true h hs,if_pos rfl,hb];exact hx) k
theorem fX(h:V.b ks σ (dx st)=some true)(hx:X b σ own=some (.rt d))(hb:autoParam (bp st=b) Mxx.ka)(hs:autoParam (st=.If (dx st) (bp st) (dN st) (bU st)) Mxx.ka):
 cU (df V ks W wf X) (st::rest) σ own=some (.rt d):=
 dm (by rw[sQ true h hs,if_pos rfl,hb];exact hx)
theorem cR(h:V.b ks σ (dx st)=some false)(hx:X b σ own=some (.nx σ' own'))(k:cU (df V ks W wf X) rest σ' own'=r)(hb:autoParam (dN st=b) Mxx.ka)(hs:autoParam (st=.If (dx st) (bp st) (dN st) (bU st)) Mxx.ka):
 cU (df V ks W wf X) (st::rest) σ own=r:=
 fh (by rw[sQ false h hs,if_neg aF,hb];exact hx) k
theorem zg{ds:List D}{r:Fl}(h:yR V ks σ own (bj st)=some ds)(hf:sG X ks (iU st) (bp st) ds σ own=some r)(hs:autoParam (st=.For (iU st) (bj st) (bp st) [] (bU st)) Mxx.ka):df V ks W wf X st σ own=some r:=by
 rw[hs];show(yR V ks σ own (bj st)).bind _=_;rw[h];exact hf
theorem QF{r:Fl}(hf:ox X V ks (dx st) (bp st) wf σ own=some r)(hs:autoParam (st=.While (dx st) (bp st) [] (bU st)) Mxx.ka):df V ks W wf X st σ own=some r:=by
 rw[hs];exact hf
theorem dW(d)(h:V.d ks σ (bj st)=some d)(hs:autoParam (st=.Return (some (bj st)) (bU st)) Mxx.ka):df V ks W wf X st σ own=some (.rt d):=by
 rw[hs];show(V.d ks σ (bj st)).map _=_;rw[h];rfl
theorem KC(hs:autoParam (rN (Yj st)=some (MN st)) Mxx.ka)(hx:autoParam (st=.Expr (Yj st) (bU st)) Mxx.ka)(ho:autoParam ((own.contains (j9 st)&& !(j9 st==("__debug__":Str)))=true) Mxx.ka)(ha:autoParam (look σ (j9 st)=some (.lst ds)) Mxx.ka)
(h:meS V ks (j9 st) (MN st).2.1 ds σ own (MN st).2.2=r):df V ks W wf X st σ own=r:=by
 obtain⟨h1,h2⟩:=bZ.mp ho;rw[hx];show(rN (Yj st)).bind _=_;rw[hs];show Ko V ks (j9 st) (MN st).2.1 (MN st).2.2 σ own=_;unfold Ko;rw[if_pos ⟨h1,ajd h2⟩,ha];exact h
theorem C3(h:fb V ks σ own (Kz st)=some c)(hl:ds.length+1<=eu)(ha:autoParam (look σ (j9 st)=some (.lst ds)) Mxx.ka)(hs:autoParam (rN (Yj st)=some (MN st)) Mxx.ka)(hx:autoParam (st=.Expr (Yj st) (bU st)) Mxx.ka)
(hm:autoParam ((MN st).2.1="append") Mxx.ka)(hg:autoParam ((MN st).2.2=[Kz st]) Mxx.ka)(hn:autoParam (gu (Kz st)=true) Mxx.ka)(ho:autoParam ((own.contains (j9 st)&& !(j9 st==("__debug__":Str)))=true) Mxx.ka):
 df V ks W wf X st σ own=some (.nx (put (j9 st) (.lst (ds++[c.1])) σ) own):=by
 refine KC hs hx ho ha ?_;rw[hg,hm];show(if _ then(fb V ks σ own (Kz st)).map _ else none)=_;rw[if_pos ⟨⟨rfl,hn⟩,hl⟩,h];rfl
theorem fV(h:cU (df V ks W wf (AL V ks W wf n)) bs σ own=r)(hb:autoParam (b=bs) Mxx.ka):AL V ks W wf (n+1) b σ own=r:=by
 subst hb;exact h
theorem sR(h:X body (g1 (fk ks t d (σ,own))) (g2 (fk ks t d (σ,own)))=some (.nx σ' own'))(k:sG X ks t body ds σ' own'=r)(hb:autoParam ((fk ks t d (σ,own)).isSome=true) Mxx.ka):
 sG X ks t body (d::ds) σ own=r:=by
 dsimp only[sG];obtain⟨p,hp⟩:=ay.mp hb;rw[hp]at h⊢;show(X body p.1 p.2).bind _=_;rw[show X body p.1 p.2=_ from h];exact k
end
end
section
def QG(n:Str):List Stmt->Stmt
 |[]=>default
 |st::r=>match st with
  |.FunctionDef name .. =>if name=n then st else QG n r
  |_=>QG n r
def bo(n:Str):List Stmt:=Ck (QG n pw.main.body)
def uv(n:Str):bY:=(oe (QG n pw.main.body)).names
abbrev Va(T:ek):Ev:=dX T 31
abbrev Xa(T:ek)(ks:bY)(W:List Str)(n:Nat):XD:=AL (dX T 31) ks W 60 n
def Ah(i:Nat)(st:Stmt):ae:=(Ge st).getD i default
def di(n:Nat):D:=.int n
theorem oG{α:Type}{l:List α}{i:Nat}{d:α}(h:i<l.length):l.getD i d=l[i]:=by simp[kK,h]
theorem zi{l:List D}{a:Nat}(h:a<l.length)(hb:l.length<2^60):fU (.lst l) a=some (l[a]'h):=by
 rw[Cy (by omega)];unfold Sz seqIndex?;have e1:¬((a:Int)<0):=by omega
 simp only[e1,if_false];rw[if_pos (by simp;omega)];simp[h]
theorem Gf{l:List Nat}{a:Nat}(h:a<l.length)(hb:l.length<2^60):fU (.lst (l.map di)) a=some (di (l[a]'h)):=by
 rw[zi (by simpa using h) (by simpa using hb)];simp
section
variable{T:ek}
end
end
section
theorem ei:eu=1048576:=rfl
theorem QH:∀(n a:Nat),kY a 1 n=(iz a n).map di:=by
 intro zx
 induction zx with
 |zero=>
  rintro _;exact rfl
 |succ n ih=>
  rintro a;rw[l7,bJ,<-ih (a+1)];rfl
theorem IV(a b):ft a b 1=if a<b then b - a else 0:=by
 unfold ft;rw[if_pos (by decide)];split
 ·rw[Int.ediv_one];omega
 ·rfl
theorem BR(a b)(h:a<=b)(hb:b<=eu):items (.og a b 1)=some ((iz a (b - a)).map di):=by
 have hl:=ei;have hs:ft a b 1=((b - a:Nat):Int):=by
  rw[IV];split<;>omega
 have DJ:kx a b 1=true:=by
  unfold kx Hk Builtin.Range.rangeFitsLong;rw[hs];simp;omega
 rw[E1,if_pos DJ];unfold iQ;rw[hs,aR,QH]
theorem kc(b)(hb:b<=eu):items (.og 0 b 1)=some ((aM b).map di):=by
 have:=BR 0 b (dk _) hb;rw[gM,<-xd]at this;exact this
theorem mA(h:l.length<=eu):cM .len [.lst l]=some (.int l.length):=by
 show dG (if l.length<=eu then some (D.int l.length)else none) _=_;rw[if_pos h];rfl
theorem mD:∀(xs:List α),(xs.flatMap λx=>if p x=true then[f x]else[])=(xs.filter p).map f:=by
 intro zx
 induction zx with
 |nil=>
  exact rfl
 |cons x xs ih=>
  rw[ec,dq,ih];cases p x<;>simp
theorem eV:∀(xs:List α),(xs.flatMap λx=>[f x])=xs.map f:=by
 intro zx
 induction zx with
 |nil=>
  exact rfl
 |cons x xs ih=>
  rw[ec,ih];rfl
theorem turn_if:(((some b).bind λb=>if b=true then some true else some false).bind λb=>if b=true then e else some [])=if b=true then e else some []:=by cases b<;>rfl
theorem kH(h1: -1048576<=x)(h2:x<=1048576):sm x=true:=O5 (gi (by decide) h1) (gi h2 (by decide))
section
variable{T:ek}
end
end
end Internal
namespace Internal.Z
section
def aje(f:Str):Scope:=oe (QG f pw.main.body)
abbrev Tn(prim:Str->Option (List D->Option D))(r:Nat):ek:=(NS prim).tab 30 60 20 r
def Vk:List (Str×List Str):=[("rgb_to_hls",["r","g","b"]),("hls_to_rgb",["h","l","s"]),("_v",["m1","m2","hue"]),("rgb_to_hsv",["r","g","b"]),("hsv_to_rgb",["h","s","v"]),("_div2n1n",["a","b","n"]),("_divmod_pos",["a","b"]),("int_divmod",["a","b"]),("in_table_b1",["code"]),("map_table_b3",["code"]),("ISTERMINAL",["x"]),("ISNONTERMINAL",["x"]),("ISEOF",["x"]),("_law_page",["count","typing","marks"]),("_law_read",["text"]),("_law_upsets",["symbols"]),("_law_colours",["heap","count"]),("_law_ahead",["first","second"]),("_law_orders",["beaten"]),("_law_plain",["told","due"]),("_law_fourfold",["number","divisor","quotient","rest"])]
theorem Vl:(Vk.map λx=>(iG.find? (λd=>d.name==x.1)).map λd=>(d.params.args.map (·.arg),d.body,d.scope))=Vk.map λx=>some (x.2,bo x.1,aje x.1):=by rfl'
theorem Vm(h:Vk.lookup f=some ps):((iG.find? (λd=>d.name==f)).map λd=>(d.params.args.map (·.arg),d.body,d.scope))=some (ps,bo f,aje f):=alH.mp Vl (f,ps) (mem_of_lookup h)
theorem fv(ps)(hp:prim f=none)(h:Xa (Tn prim r) (uv f) (Wof f) 20 (bo f) (ps.zip ds) []=some (.rt d))(hl:(ds.length==ps.length)=true:=by rfl)
(hf:autoParam (Vk.lookup f=some ps) Mxx.ka):
 (Tn prim (r+1)).fn f ds=some d:=by
 show(match(NS prim).prim f with
  |some p=>p ds
  |none=>(NS prim).run 30 60 20 (Tn prim r) f ds)=_
 rw[show(NS prim).prim f=none from hp];refine oB (show(NS prim).fns f=_ from Vm hf) ?_;show(if ds.length=ps.length then abB (Xa (Tn prim r) (uv f) (Wof f) 20 (bo f) (ps.zip ds) [])else none)=some d;rw[if_pos (by simpa using hl),h];rfl
section
variable{T:ek}
end
end
section
structure mE(T:ek):Prop where
 mem:T.mem=IK
 get:T.get=IJ
 gl:T.gl=U6
theorem sT(prim:Str->Option (List D->Option D))(r):mE (Tn prim r):=by
 cases r<;>exact⟨rfl,rfl,rfl⟩
def ch(c:Nat):Str:=⟨#[c]⟩
def mV(c:Nat):Str:=match L3.lookup (c:Int)with
 |some x=>x
 |none=>atd (ch c)
section
variable{T:ek}
theorem ajf(h:mE T)(c):Xa T (uv "in_table_b1") [] 20 (bo "in_table_b1") [("code",.str (ch c))] []=some (.rt (.bool (mN.contains (c:Int)))):=by
 refine fV (bs:=[ak 0 (bo "in_table_b1")]) (dm (dW _ (tr (b:=(T.mem "b1_set" (.int c)).map .bool) ?_)));rw[h.mem];rfl
theorem abY(h:mE T)(c:Nat):Xa T (uv "map_table_b3") [] 20 (bo "map_table_b3") [("code",.str (ch c))] []=some (.rt (.str (mV c))):=by
 obtain⟨B,hB⟩:∃B,B=bo "map_table_b3":=⟨_,rfl⟩;refine fV (bs:=[ak 0 (bo "map_table_b3"),ak 1 (bo "map_table_b3"),ak 2 (bo "map_table_b3")]) ?_;unfold mV;cases hl:L3.lookup (c:Int)with
 |some x=>
  refine fh (cb (.str x) (tr (b:=T.get "b3_exceptions" [.int c]) (by rw[h.get];show some (match L3.lookup (c:Int)with|some x=>D.str x|none=>.none)=_;rw[hl]))) ?_;exact fX (b:=[ak 0 (bp (ak 1 (bo "map_table_b3")))]) (by rfl') (fV (bs:=[ak 0 (bp (ak 1 (bo "map_table_b3")))]) (dm (dW _ (by rfl'))))
 |none=>
  refine fh (cb .none (tr (b:=T.get "b3_exceptions" [.int c]) (by rw[h.get];show some (match L3.lookup (c:Int)with|some x=>D.str x|none=>.none)=_;rw[hl]))) ?_;refine cR (b:=[]) (by rfl') (fV (bs:=[]) rfl) ?_;refine dm (dW _ (tr (b:=pg .lower (.str (ch c)) []) ?_));show(if(ch c).length<=1000000 then some (D.str (atd (ch c)))else none)=_;rw[if_pos (by show(1:Nat)<=1000000;decide)]
theorem aqi(h:mE T)(x):Xa T (uv "ISTERMINAL") [] 20 (bo "ISTERMINAL") [("x",.int x)] []=some (.rt (.bool (decide (x<256)))):=by
 refine fV (bs:=[ak 0 (bo "ISTERMINAL")]) (dm (dW _ (tr (b:=((T.gl "NT_OFFSET").bind λd=>cmp .Lt (.int x) d).map .bool) ?_)));rw[h.gl];rfl'
theorem ajg(h:mE T)(x):Xa T (uv "ISNONTERMINAL") [] 20 (bo "ISNONTERMINAL") [("x",.int x)] []=some (.rt (.bool (decide (256<=x)))):=by
 refine fV (bs:=[ak 0 (bo "ISNONTERMINAL")]) (dm (dW _ (tr (b:=((T.gl "NT_OFFSET").bind λd=>cmp .GtE (.int x) d).map .bool) ?_)));rw[h.gl];rfl'
theorem aqj(h:mE T)(x):Xa T (uv "ISEOF") [] 20 (bo "ISEOF") [("x",.int x)] []=some (.rt (.bool (x==0))):=by
 refine fV (bs:=[ak 0 (bo "ISEOF")]) (dm (dW _ (tr (b:=((T.gl "ENDMARKER").bind λd=>cmp .Eq (.int x) d).map .bool) ?_)));rw[h.gl];rfl'
end
structure S1(T:ek):Prop where
 b1:∀c:Nat,T.fn "in_table_b1" [.str (ch c)]=some (.bool (mN.contains (c:Int)))
 b3:∀c:Nat,T.fn "map_table_b3" [.str (ch c)]=some (.str (mV c))
 tm:∀x:Int,T.fn "ISTERMINAL" [.int x]=some (.bool (decide (x<256)))
 nt:∀x:Int,T.fn "ISNONTERMINAL" [.int x]=some (.bool (decide (256<=x)))
 eo:∀x:Int,T.fn "ISEOF" [.int x]=some (.bool (x==0))
theorem Yk(hp:∀f,(f==("_int2digits":Str))=false->(f==("_digits2int":Str))=false->(f==("_law_refused":Str))=false->(f==("_law_beaten":Str))=false->prim f=none)(r):S1 (Tn prim (r+1)):=
 ⟨λc=>fv (["code"]:List Str) (hp _ (by decide) (by decide) (by decide) (by decide)) (ajf (sT prim r) c),λc=>fv (["code"]:List Str) (hp _ (by decide) (by decide) (by decide) (by decide)) (abY (sT prim r) c),
  λx=>fv (["x"]:List Str) (hp _ (by decide) (by decide) (by decide) (by decide)) (aqi (sT prim r) x),λx=>fv (["x"]:List Str) (hp _ (by decide) (by decide) (by decide) (by decide)) (ajg (sT prim r) x),λx=>fv (["x"]:List Str) (hp _ (by decide) (by decide) (by decide) (by decide)) (aqj (sT prim r) x)⟩
end
section
def ajh(e:ae):ae:=(nO e).1
def QI(e:ae):bY:=eh (kW e)
def dl(l:List Nat):D:=.lst (l.map di)
section
variable{T:ek}
end
end
section
theorem abZ(f:α->β)(lo hi:Option Int)(l:List α):sl lo hi (l.map f)=(sl lo hi l).map f:=by
 unfold sl;rw[aj,List.map_take,List.map_drop]
theorem zj(n d i:Nat):jS n d (some (i:Int))=min i n:=by
 show(max 0 (min (if(i:Int)<0 then(i:Int)+n else i) n)).toNat=_;rw[if_neg (Int.not_lt.mpr (bG _)),show min (i:Int) n=((min i n:Nat):Int)from(Nat.le_total i n).elim (λh=>by rw[nY h,avM (gj.mpr h)]) λh=>by rw[atl h,atm (gj.mpr h)],Int.max_eq_right (bG _)];rfl
theorem MO(h:i<=n):jS n d (some (i:Int))=i:=by
 rw[zj,nY h]
theorem sU(a b:Nat):cmp .Eq (di a) (.int b)=some (a==b):=by
 show some ((a:Int)==(b:Int))=_;congr 1;rw[fe,beq_iff_eq,beq_iff_eq];omega
theorem ints_map:∀(l:List Nat),gO (l.map di)=some (l.map fQ):=by
 intro zx
 induction zx with
 |nil=>
  exact rfl
 |cons a l ih=>
  show(gO (l.map di)).map (λr=>(a:Int)::r)=_;rw[ih];rfl
theorem qG(h:a.length+b.length<=eu):aE .Add (.lst a) (.lst b)=some (.lst (a++b)):=by
 show dG (if a.length+b.length<=eu then some (D.lst (a++b))else none) _=_;rw[if_pos h];rfl
theorem BU(x:Nat):∀(l:List Nat),yh (di x) (l.map di)=some (decide (x∈l)):=by
 intro zx
 induction zx with
 |nil=>
  exact rfl
 |cons a l ih=>
  have h1:rH 40 (di a) (di x)=some (a==x):=sU a x;show((rH 40 (di a) (di x)).bind λa=>(yh (di x) (l.map di)).map λb=>a||b)=_;rw[h1,ih];refine congrArg some ?_;rw[fe,m9,beq_iff_eq,decide_eq_true_eq,decide_eq_true_eq,aJ];exact or_congr ⟨Eq.symm,Eq.symm⟩ Iff.rfl
theorem C4(a):cmp .Eq (.lst a) (.lst [])=some a.isEmpty:=by
 show dG (if a.length=([]:List D).length then sq (rH 39) a []else some false) _=_;cases a with
 |nil=>rfl
 |cons x a=>rw[if_neg (by simp)];rfl
theorem Gg:(((some b).bind λb=>if b=true then some true else some false).bind λb=>if b=true then some [x]else some [])=some (if b=true then[x]else[]):=by cases b<;>rfl
theorem Vn(h:l.length<=eu):(((cM .len [.lst l]).bind λd=>some [d]).bind λds=>cM .range ds)=some (.og 0 l.length 1):=by
 rw[mA h];rfl
theorem oH(p:α->Bool)(n)(l:List α)(h:l.length<=n):(l.filter p).length<=n:=aq (tU ..) h
section
variable{T:ek}
end
end
section
section
variable{T:ek}
end
end
section
def Yl(a:Option Bool)(k:Option Bool):Option Bool:=a.bind λb=>match BoolOp.Or,b with|.And,false=>some false|.Or,true=>some true|_,_=>k
def Vo(a:Option Bool)(k:Option Bool):Option Bool:=a.bind λb=>match Hq,b with|.And,false=>some false|.Or,true=>some true|_,_=>k
section
variable{T:ek}
theorem MP(x):∀(l:List Int),yh (.int x) (l.map .int)=some (decide (x∈l)):=by
 intro zx
 induction zx with
 |nil=>
  exact rfl
 |cons a l ih=>
  have h1:rH 40 (.int a) (.int x)=some (a==x):=rfl;show((rH 40 (.int a) (.int x)).bind λa=>(yh (.int x) (l.map .int)).map λb=>a||b)=_;rw[h1,ih];refine congrArg some ?_;rw[fe,m9,beq_iff_eq,decide_eq_true_eq,decide_eq_true_eq,aJ];exact or_congr ⟨Eq.symm,Eq.symm⟩ Iff.rfl
theorem zk:∀(l:List Int),gO (l.map .int)=some l:=by
 intro zx
 induction zx with
 |nil=>
  exact rfl
 |cons a l ih=>
  show(gO (l.map .int)).map (λr=>a::r)=_;rw[ih];rfl
end
end
section
def mk(l:List Nat):Str:=⟨l.toArray⟩
theorem qm(l:List Nat):(mk l).length=l.length:=by show l.toArray.size=_;simp
theorem qH(l:List Nat):(mk l).cps.toList=l:=by simp[mk]
theorem Ym(x:Str):mk x.cps.toList=x:=by simp[mk]
theorem IW(a b:List Nat):mk a++mk b=mk (a++b):=by
 show(⟨a.toArray++b.toArray⟩:Str)=⟨(a++b).toArray⟩
 simp
theorem zl:∀ys:List Str,Str.join (mk []) ys=mk (ys.flatMap λy=>y.cps.toList)
 |[]=>rfl
 |[x]=>by
  show x=_;rw[ec,List.flatMap_nil,c9,Ym]
 |x::y::r=>by
  show x++mk []++Str.join (mk []) (y::r)=_;have h:x++mk []=x:=by
   show(⟨x.cps++ #[]⟩:Str)=x;simp
  rw[zl (y::r),h];show _=mk (x.cps.toList++(y::r).flatMap λy=>y.cps.toList);rw[<-IW,Ym]
theorem QJ(ys:List Str):Txt.join (mk []) ys=mk (ys.flatMap λy=>y.cps.toList):=by
 rw[<-zl];exact StrLaws.glued_eq_join _ _
theorem strs_map:∀ys:List Str,strs? (ys.map .str)=some ys:=by
 intro zx
 induction zx with
 |nil=>
  exact rfl
 |cons y ys ih=>
  show(strs? (ys.map .str)).map (λr=>y::r)=_;rw[ih];rfl
theorem QK{ys:List Str}(h:(ys.map (·.length)).sum<=16777216):pg .join (.str (mk [])) [.lst (ys.map .str)]=some (.str (mk (ys.flatMap λy=>y.cps.toList))):=by
 show(strs? (ys.map .str)).bind (λys=>if(ys.map (·.length)).sum+ys.length*(mk []).length<=16777216 then some (D.str (Txt.join (mk []) ys))else none)=_;rw[strs_map,ag,show(mk []).length=0 from rfl,tE,W4,if_pos h,QJ]
def Hf(p:List Nat)(m:Nat):Bool:=(L4.lookup (mk (p.take m))).isSome
def kJ(p:List Nat):Nat:=if Hf p 3=true then 3 else if Hf p 2=true then 2 else 1
def ru:Str:="filstk"
def IX(p:List Nat):Int:=(L4.lookup (mk (p.take (kJ p)))).getD (256+NJ ru (mk (p.take (kJ p))))
section
variable{T:ek}
def qK:bY:=uv "_law_read"
def qB:List Stmt:=bo "_law_read"
def qW:Stmt:=ak 3 qB
def Yn:List Stmt:=bp qW
def qS(o:Option D)(text told plain row:D):cy:=([("text",text),("told",told),("plain",plain),("row",row)]:cy)++(match o with|none=>[]|some a=>[("size",a)])
def qC:ae:=IL (pj 0 (bj (ak 0 Yn)))
def eX:Str:="EXACT_TOKEN_TYPES"
theorem q_c(o:Option D)(text told row)(p)(m):iM (dX T 28) (dA ["row"] (qS o text told (.str p) row)) qC (.int m)=
 ((((yr (.str p) none (some m)).bind λd=>T.mem eX d).bind λb=>if b=true then some true else some false).bind λb=>if b=true then some [.int m]else some []):=by
 rcases o with _|o<;>rfl'
theorem aqk(o:Option D)(text told row)(p):cOk qK (dA ["row"] (qS o text told (.str p) row)) qC=true:=by
 rcases o with _|o<;>rfl'
theorem aql(o:Option D)(text told row)(p):(dX T 28).d qK (dA ["row"] (qS o text told (.str p) row)) (ql qC)=some (.tup [.int 2,.int 3]):=by
 rcases o with _|o<;>rfl'
theorem Vp(o:Option D)(text told)(row)(p p2)(z)(k)(more)(n)(h1:(dX T 29).d qK (dA ["row"] (qS o text told (.str p) (.lst row))) qC=some (.lst more))
(h2:(((aE .Add (.lst [.int 1]) (.lst more)).bind λd=>some [d]).bind λds=>cM .max ds)=some (.int z))
(h3:(((yr (.str p) none (some z)).bind λd=>(((((yr (.str p) none (some z)).bind λd=>some [d]).bind λds=>pg .find (.str ru) ds).bind λb=>aE .Add (.int 256) b).bind λd2=>some [d2]).bind λds=>some (d::ds)).bind λds=>T.get eX ds)=some k)
(h4:yr (.str p) (some z) none=some (.str p2))(hl:row.length+1<=eu):
 Xa T qK ["row"] (n+1) Yn (qS o text told (.str p) (.lst row)) ["row"]=some (.nx (qS (some (.int z)) text told (.str p2) (.lst (row++[k]))) ["row"]):=by
 rcases o with _|o
 all_goals
  refine fV (bs:=[ak 0 Yn,ak 1 Yn,ak 2 Yn]) ?_;refine fh (cb (.int z) (tr (b:=((((dX T 29).d qK (dA ["row"] (qS _ text told (.str p) (.lst row))) qC).bind λd=>aE .Add (.lst [.int 1]) d).bind λd=>some [d]).bind λds=>cM .max ds) (by rw[h1];exact h2))) ?_;refine fh (C3 (ds:=row) (n8 (d:=k) (tr h3)) hl) ?_;exact fh (cb (.str p2) (tr h4)) (by rfl')
end
end
section
def lx(c:Nat):Bool:=mN.contains (c:Int)
def gK(cs:List Nat):List Nat:=(cs.filter λc=> !lx c).flatMap λc=>(mV c).cps.toList
inductive IY:List Nat->List Int->Prop
 |nil:IY [] []
 |cons {p:List Nat} {v:Int} {vs:List Int}:p≠[]->IX p=v->IY (p.drop (kJ p)) vs->IY p (v::vs)
theorem aji(s):IK eX (.str s)=some (L4.lookup s).isSome:=by
 unfold IK;rw[if_neg (by decide),if_pos (show eX=tF "EXACT_TOKEN_TYPES" from rfl)];rfl
theorem ajj(s)(d):IJ eX [.str s,.int d]=some (.int ((L4.lookup s).getD d)):=by
 unfold IJ;rw[if_neg (by decide),if_pos (show eX=tF "EXACT_TOKEN_TYPES" from rfl)];rfl
theorem BV(p:List Nat)(m:Nat)(h:p.length<=eu):yr (.str (mk p)) none (some (m:Int))=some (.str (mk (p.take m))):=by
 show(if(mk p).length<=eu then some (D.str ⟨(sl none (some (m:Int)) (mk p).cps.toList).toArray⟩)else none)=_;rw[qm,if_pos h,qH];unfold sl;congr 2;show mk _=mk _;congr 1;rw[show jS p.length 0 none=0 from rfl,xa,gM];rw[zj];exact List.take_eq_take_min.symm
theorem MQ(p:List Nat)(m:Nat)(h:p.length<=eu):yr (.str (mk p)) (some (m:Int)) none=some (.str (mk (p.drop m))):=by
 show(if(mk p).length<=eu then some (D.str ⟨(sl (some (m:Int)) none (mk p).cps.toList).toArray⟩)else none)=_;rw[qm,if_pos h,qH];unfold sl;congr 2;show mk _=mk _;congr 1;rw[show jS p.length p.length none=p.length from rfl];rw[zj,<-List.drop_eq_drop_min,rZ (by rw[jm];exact Nat.sub_le_sub_left (Nat.min_le_left ..) _)]
theorem BW(l:List α)(d:α)(F:α->List β):(aM l.length).flatMap (λi=>F (l.getD i d))=l.flatMap F:=by
 have:(aM l.length).map (λi=>l.getD i d)=l:=by
  apply amT
  ·simp
  ·intro i h1 h2
   simp at h1;simp[h1]
 conv=>rhs;rw[<-this]
 rw[amU]
section
variable{T:ek}
theorem ab0(hT:mE T)(o:Option D)(text told row)(p)(hp:p.length<=eu):(dX T 29).d qK (dA ["row"] (qS o text told (.str (mk p)) row)) qC=some (.lst ((if Hf p 2=true then[.int 2]else[])++(if Hf p 3=true then[.int 3]else[]))):=by
 have h:∀m:Nat,iM (dX T 28) (dA ["row"] (qS o text told (.str (mk p)) row)) qC (.int m)=some (if Hf p m=true then[.int m]else[]):=λm=>by
  rw[q_c,BV p m hp,ag,hT.mem,aji,show(L4.lookup (mk (p.take m))).isSome=Hf p m from rfl,Gg]
 have h2:=h 2;have h3:=h 3;rw[show((2:Nat):Int)=2 from rfl]at h2;rw[show((3:Nat):Int)=3 from rfl]at h3;refine zf (aqk ..) (aql ..) rfl ?_ ?_
 ·show((iM _ _ qC (.int 2)).bind λa=>((iM _ _ qC (.int 3)).bind λb=>(some []).bind λc=>some (b++c)).bind λb=>some (a++b))=_
  rw[h2,h3];simp
 ·rw[ei]
  cases Hf p 2<;>cases Hf p 3<;>decide
theorem ab1(hT:mE T)(o:Option D)(text told)(row)(p)(n)(hp:p.length<=eu)(hl:row.length+1<=eu):
 Xa T qK ["row"] (n+1) Yn (qS o text told (.str (mk p)) (.lst (row.map .int))) ["row"]=some (.nx (qS (some (.int (kJ p))) text told (.str (mk (p.drop (kJ p)))) (.lst ((row++[IX p]).map .int))) ["row"]):=by
 have h:=Vp (T:=T) o text told (row.map .int) (mk p) (mk (p.drop (kJ p))) (kJ p) (.int (IX p)) _ n (ab0 hT o text told (.lst (row.map .int)) p hp) ?_ ?_ (MQ p _ hp) (by rw[aj];exact hl)
 ·rw[da];exact h
 ·unfold kJ
  cases Hf p 2<;>cases Hf p 3<;>rfl
 ·rw[BV p _ hp]
  show T.get eX [.str (mk (p.take (kJ p))),.int (256+NJ ru (mk (p.take (kJ p))))]=_;rw[hT.get,ajj];rfl
theorem ab2(o:Option D)(text told row)(p):(dX T 31).b qK (qS o text told (.str p) row) (dx qW)=(some (p==mk [])).map λx=> !x:=by
 rcases o with _|o<;>rfl'
theorem KD(o:Option D)(text told row)(p):(dX T 31).b qK (qS o text told (.str (mk p)) row) (dx qW)=some (!p.isEmpty):=by
 rw[ab2];show some (!(mk p==mk []))=_;cases p with
 |nil=>rfl
 |cons a p=>
  have:(mk (a::p)==mk [])=false:=by
   rw[beq_eq_false_iff_ne];intro h;have:=congrArg (λx=>x.cps.toList) h;simp[mk]at this
  rw[this];rfl
theorem ab3(hT:mE T)(text told)(n):∀(m:Nat)(vs:List Int)(o:Option D)(p:List Nat)(row:List Int),IY p vs->vs.length<m->p.length<=eu->row.length+vs.length<=1000->
 ∃o',ox (Xa T qK ["row"] (n+1)) (dX T 31) qK (dx qW) Yn m (qS o text told (.str (mk p)) (.lst (row.map .int))) ["row"]=some (.nx (qS o' text told (.str (mk [])) (.lst ((row++vs).map .int))) ["row"]):=λm=>by
 induction m with
 |zero=>intro vs o p row _ h _ _;exact absurd h (avH _)
 |succ m ih=>
  intro vs o p row t h hp hr;cases t with
  |nil=>
   refine⟨o,?_⟩;dsimp only[ox];rw[KD,c9];rfl
  |cons h1 h2 h3=>
   rename_i v vs;rw[bE]at h hr;have f9:=ei;obtain⟨o',ho⟩:=ih vs (some (.int (kJ p))) (p.drop (kJ p)) (row++[v]) h3 (by omega) (by rw[jm];omega) (by rw[aG];simp;omega);refine⟨o',?_⟩;dsimp only[ox];rw[KD,show p.isEmpty=false from by cases p<;>simp_all];show(Xa T qK ["row"] (n+1) Yn _ _).bind _=_;rw[ab1 hT o text told row p n hp (by omega),h2];rw[eT]at ho;exact ho
end
end
end Internal.Z
namespace Internal
section
section
variable{V:Ev}{ks:bY}{W:List Str}{wf:Nat}{X:XD}{σ:cy}{own:List Str}{st:Stmt}
theorem zm(out)(h:V.d ks (dA own σ) (bj st)=some (.lst out))(hs:autoParam (st=.Assign [.Name (eM st) (jI st)] (bj st) (bU st)) Mxx.ka)(hk:autoParam ((Az ks (eM st)&&(qi (bj st)).isSome)=true) Mxx.ka):
 df V ks W wf X st σ own=some (.nx (kQ W (eM st) (.lst out,true) (σ,own)).1 (kQ W (eM st) (.lst out,true) (σ,own)).2):=by
 obtain⟨h1,h2⟩:=bZ.mp hk;cases FD:my ks (eM st) (jI st) (bj st)with
 |true=>exact Vj out h hs (by rw[h1,h2,FD];rfl)
 |false=>
  have:=cb (W:=W) (wf:=wf) (X:=X) (.lst out) h hs (by rw[h1,FD];rfl);obtain⟨x,hx⟩:=ay.mp h2;rw[show(j4 (bj st)&&mr (.lst out))=true from qj hx▸rfl]at this;exact this
end
end
end Internal
namespace Internal.Z
section
def dch(c:Nat):D:=.str (ch c)
def pk(c:Nat):D:=.bool (lx c)
theorem sV:∀l:List α,(l.flatMap λ_=>([]:List β))=[]:=by
 intro zx
 induction zx with
 |nil=>
  exact rfl
 |cons a l ih=>
  rw[ec,ih];rfl
def b3D(c:Nat):List D:=if(!lx c)=true then[.str (mV c)]else[]
theorem QL(cs:List Nat):cs.flatMap b3D=((cs.filter λc=> !lx c).map mV).map .str:=by
 rw[eU];exact mD (p:=λc=> !lx c) (f:=λc=>D.str (mV c)) cs
section
variable{T:ek}
def qC0:ae:=bj (ak 0 qB)
def qC1:ae:=pj 0 (bj (ak 1 qB))
def qC2:ae:=bj (ak 2 qB)
abbrev qS0(text:D):cy:=[("text",text)]
abbrev qS1(text told:D):cy:=[("text",text),("told",told)]
abbrev qS2(text told plain:D):cy:=[("text",text),("told",told),("plain",plain)]
theorem aqp(text)(s):iM (dX T 30) (qS0 text) qC0 (.str s)=(T.fn "in_table_b1" [.str s]).map λd=>[d]:=by rfl'
theorem aqq(text)(told)(i):iM (dX T 29) (qS1 (.str text) (.lst told)) qC1 (.int i)=
 ((((fU (.lst told) i).bind λd=>cmp .Is d (.bool false)).bind λb=>if b=true then some true else some false).bind λb=>if b=true then(((fU (.str text) i).bind λd=>some [d]).bind λds=>T.fn "map_table_b3" ds).map λd=>[d]else some []):=by rfl'
theorem ajn(text)(told):(dX T 29).d qK (qS1 (.str text) told) (ql qC1)=((cM .len [.str text]).bind λd=>some [d]).bind λds=>cM .range ds:=by rfl'
theorem aqr(text told plain)(b):iM (dX T 30) (qS2 text told plain) qC2 (.bool b)=some []:=by cases b<;>rfl'
theorem getI_str{l:List Nat}{i:Nat}(h:i<l.length)(hb:l.length<2^60):fU (.str (mk l)) i=some (dch l[i]):=by
 rw[UE (by omega)];unfold itS seqIndex?;rw[qm];have e1:¬((i:Int)<0):=by omega
 simp only[e1,if_false];rw[if_pos (by simp;omega),qH];simp[h,dch,ch]
theorem jt{α:Type}{l:List α}{f:α->D}{i:Nat}(h:i<l.length)(hb:l.length<2^60):fU (.lst (l.map f)) i=some (f l[i]):=by
 rw[zi (by simpa using h) (by simpa using hb)];simp
theorem ab5(hT:S1 T)(cs)(h:cs.length<=eu):(dX T 31).d qK (qS0 (.str (mk cs))) qC0=some (.lst (cs.map pk)):=by
 have e:=iw (T:=T) (V:=dX T 30) (ks:=qK) (σ:=qS0 (.str (mk cs))) (e:=qC0) (d:=.str (mk cs)) (φ:=dch) (xs:=cs) (g:=λc=>[pk c])
  (by rfl') (by rfl') (by show some (sv (mk cs))=_;unfold sv;rw[qH];rfl) (λc hc=>by rw[show dch c=.str (ch c)from rfl,aqp,hT.b1];rfl) (by rw[eV,aj];exact h)
 rw[eV]at e;exact e
theorem Vq(hT:S1 T)(cs:List Nat)(h:cs.length<=1000):(dX T 30).d qK (qS1 (.str (mk cs)) (.lst (cs.map pk))) qC1=some (.lst (((cs.filter λc=> !lx c).map mV).map .str)):=by
 have f9:=ei;have e:=iw (T:=T) (V:=dX T 29) (ks:=qK) (σ:=qS1 (.str (mk cs)) (.lst (cs.map pk))) (e:=qC1) (d:=.og 0 cs.length 1) (φ:=di) (xs:=aM cs.length) (g:=λi=>b3D (cs.getD i 0))
  (by rfl') ((ajn ..).trans (by
    rw[show cM .len [.str (mk cs)]=some (.int cs.length)from by show(if(mk cs).length<=eu then some (D.int (mk cs).length)else none)=_;rw[qm,if_pos (by omega)]];rfl)) (kc _ (by omega)) (λi hi=>?_) ?_
 ·rw[BW cs 0 b3D,QL]at e
  exact e
 ·rw[cQ]at hi
  rw[show di i=.int i from rfl,aqq];rewrite[jt hi (by omega),getI_str hi (by omega)];rw[oG hi];have h1:cmp .Is (pk cs[i]) (.bool false)=some (!lx cs[i]):=by
   show some (lx cs[i]==false)=_;cases lx cs[i]<;>rfl
  rw[ag,h1,turn_if,ag,ag,show dch cs[i]=.str (ch cs[i])from rfl,hT.b3];unfold b3D;cases lx cs[i]<;>rfl
 ·rw[BW cs 0 b3D,QL,aj,aj]
  exact oH _ _ _ (by omega)
theorem ajo(text plain:D)(cs:List Nat):(dX T 31).d qK (qS2 text (.lst (cs.map pk)) plain) qC2=some (.lst []):=by
 have e:=iw (T:=T) (V:=dX T 30) (ks:=qK) (σ:=qS2 text (.lst (cs.map pk)) plain) (e:=qC2) (d:=.lst (cs.map pk)) (φ:=pk) (xs:=cs) (g:=λ_=>[])
  (by rfl') (by rfl') rfl (λc hc=>aqr ..) (by rw[sV];exact dk _)
 rw[sV]at e;exact e
theorem ajp(hT:S1 T)(hI:mE T)(cs:List Nat)(vs:List Int)(h:cs.length<=1000)(hb:∀c∈cs,lx c=false->(mV c).length<=100)(t:IY (gK cs) vs)(hv:vs.length<60):
 Xa T qK ["row"] 20 qB (qS0 (.str (mk cs))) []=some (.rt (.lst ((vs++[0]).map .int))):=by
 have f9:=ei;have ab6:∀l:List Nat,(∀c∈l,(mV c).length<=100)->((l.map mV).map (·.length)).sum<=100*l.length:=λl=>by
  induction l with
  |nil=>intro _;simp
  |cons a l ih=>
   intro hh;have:=ih λc hc=>hh c (aD _ hc);have h1:=hh a (aA ..);rw[bJ,bJ,qU,bE];omega
 have hf:∀c∈cs.filter (λc=> !lx c),(mV c).length<=100:=λc hc=>hb c (gC.mp hc).1 (by simpa using(gC.mp hc).2);have hs:=ab6 _ hf;have P7:=oH (λc=> !lx c) 1000 cs h;have hpl:(gK cs).length<=eu:=by
  unfold gK;have:∀l:List Nat,(l.flatMap λc=>(mV c).cps.toList).length=((l.map mV).map (·.length)).sum:=λl=>by
   induction l with
   |nil=>rfl
   |cons a l ih=>rw[ec,aG,ih,bJ,bJ,qU];congr 1
  rw[this];omega
 obtain⟨o',ho⟩:=ab3 (T:=T) hI (.str (mk cs)) (.lst (cs.map pk)) 18 60 vs none (gK cs) [] t hv hpl (by simp;omega);refine fV (bs:=[ak 0 qB,ak 1 qB,ak 2 qB,ak 3 qB,ak 4 qB]) ?_;refine fh (zm (cs.map pk) (tr (ab5 hT cs (by omega)))) ?_;refine fh (cb (.str (mk (gK cs))) (tr (b:=(((dX T 30).d qK (qS1 (.str (mk cs)) (.lst (cs.map pk))) qC1).bind λd=>some [d]).bind λds=>pg .join (.str (mk [])) ds) ?_)) ?_
 ·rw[Vq hT cs h,ag,ag,QK (by omega)]
  unfold gK;rw[amU]
 refine fh (zm [] (tr (ajo (T:=T) (.str (mk cs)) (.str (mk (gK cs))) cs))) ?_;refine fh (QF (tr ho)) ?_;refine dm (dW _ (tr (b:=aE .Add (.lst (vs.map .int)) (.lst [.int 0])) ?_ ?_))
 ·rw[qG (by rw[aj];simp;omega),da];rfl
 ·rcases o' with _|o'<;>rfl'
end
end
section
theorem xK:∀{a b:List Stmt},cU S a σ own=some (.nx σ' own')->cU S b σ' own'=r->cU S (a++b) σ own=r:=by
 intro a b h k
 induction a generalizing σ own with
 |nil=>cases h;exact k
 |cons st a ih=>
  rw[cE];dsimp only[cU]at h⊢;obtain⟨r',h1,h2⟩:=aO h;rw[h1];cases r' with
  |nx xk axo=>exact ih h2
  |rt d=>cases h2
def ajq:D->List Str
 |.lst l=>(strs? l).getD []
 |_=>[]
def KG:D->List Int
 |.lst l=>(gO l).getD []
 |_=>[]
def pK:bY:=uv "_law_page"
def pB:List Stmt:=bo "_law_page"
def pV(i:Nat):D:=((dX NV 31).d pK [] (bj (ak i pB))).getD .none
def rV:D:=pV 0
def MR:D:=pV 1
def uw:D:=pV 2
def IZ:D:=pV 3
section
variable{T:ek}
end
end
def QM:D:=.lst [.int 8497,.int 8464,.int 8466,.int 383,.int 120139,.int 120130]
def dn:List Nat:=ru.cps.toList
def Gh(l:Nat):Nat:=dn.idxOf l
def ux:List (List Nat):=(ajq rV).map λx=>x.cps.toList
def I0:List (Nat×List Nat):=match MR with
 |.lst l=>l.filterMap λd=>match d with
  |.tup [.int c,.str w]=>some (c.toNat,w.cps.toList)
  |_=>none
 |_=>[]
def Gj:List Nat:=(KG uw).map ato
def MT:List Nat:=(KG IZ).map ato
def MU:List Nat:=(KG QM).map ato
def φV(x:Nat×List Nat):D:=.tup [di x.1,.str (mk x.2)]
theorem QN:rV=.lst (ux.map λx=>.str (mk x)):=by rfl'
theorem ab7:MR=.lst (I0.map φV):=by rfl'
theorem ab8:uw=.lst (Gj.map di):=by rfl'
theorem ab9:IZ=.lst (MT.map di):=by rfl'
theorem aca:QM=.lst (MU.map di):=by rfl'
theorem KH:ux.length=48:=by rfl'
theorem KJ:Gj.length=12:=by rfl'
theorem KL:MT.length=27:=by rfl'
def KN(c:Nat)(w:List Nat):Bool:= !lx c&&((mV c).cps.toList==w&&bX c 1114111)
theorem acb:(I0.all λx=>KN x.1 x.2&&(!x.2.isEmpty&&(x.2.all dn.contains&&bX x.2.length 3)))=true:=by rfl'
theorem acd:(Gj.all λg=>dn.all λl=>KN (g+l - 97) [l]&&bX 97 (g+l))=true:=by rfl'
theorem ace:(MT.all λc=>lx c&&bX c 1114111)=true:=by rfl'
def opC:List Nat:=[40,41,91,93,58,44,59,43,45,42,47,124,38,60,62,61,46,37,123,125,33,126,94,64]
theorem acf:(opC.all λc=>KN c [c]&& !dn.contains c)=true:=by rfl'
theorem Vr:(ux.all λo=>o.all (λc=>opC.contains c)&&(!o.isEmpty&&bX o.length 3))=true:=by rfl'
theorem acg:(ux.all λo=>o.all (λc=>KN c [c]&& !dn.contains c)&&(!o.isEmpty&&bX o.length 3))=true:=by
 refine aw.mpr λo ho=>?_;have h:=aw.mp Vr o ho;rw[av]at h⊢;exact⟨aw.mpr λc hc=>aw.mp acf c (cL.mp (aw.mp h.1 c hc)),h.2⟩
theorem Vs:((aM 48).all λi=>L4.lookup (mk (ux.getD i []))==some ((7+i:Nat):Int))=true:=by rfl'
theorem ajr:(L4.all λx=>x.1.cps.toList.all λc=> !dn.contains c)=true:=by rfl'
theorem C5:(dn.all λl=>NJ ru (mk [l])==(Gh l:Int))=true:=by rfl'
theorem uy(hl:l∈dn)(hm:l∈s):L4.lookup (mk s)=none:=by
 cases h:L4.lookup (mk s)with
 |none=>rfl
 |some v=>
  have:=aw.mp ajr _ (mem_of_lookup h);dsimp only at this;rw[qH]at this;have:=aw.mp this l hm;simp[hl]at this
theorem zo(hl:l∈dn)(m)(h:0<m):Hf (l::p) m=false:=by
 unfold Hf;obtain⟨m,rfl⟩:∃k,m=k+1:=⟨m - 1,by omega⟩
 rw[aej,uy hl (aA ..)];rfl
theorem wQ(hl:l∈dn):kJ (l::p)=1:=by
 unfold kJ;rw[zo hl 3 (by omega),zo hl 2 (by omega)];rfl
theorem I1(hl:l∈dn):IX (l::p)=256+(Gh l:Int):=by
 unfold IX;rw[wQ hl];show(L4.lookup (mk [l])).getD (256+NJ ru (mk [l]))=_;rw[uy hl (aA ..)];have:=aw.mp C5 l hl;rw[eq_of_beq this];rfl
theorem uz(h:i<48):∃o,ux[i]? =some o/\L4.lookup (mk o)=some ((7+i:Nat):Int)/\o≠[]/\o.length<=3/\∀c∈o,KN c [c]=true/\c∉dn:=by
 have hi:i<ux.length:=by rw[KH];exact h
 refine⟨ux[i],by simp[hi],?_,?_⟩
 ·have:=aw.mp Vs i (cQ.mpr h)
  rw[oG hi]at this;exact eq_of_beq this
 ·have:=aw.mp acg _ (ib hi)
  simp only[av,cW,aw]at this;obtain⟨h1,h2,h3⟩:=this;refine⟨λe=>by rw[e]at h2;simp at h2,bQ h3,λc hc=>?_⟩;have:=h1 c hc;exact⟨this.1,by simpa using this.2⟩
theorem I7(hl:l∈dn)(h:o.length<m):Hf (o++l::p) m=false:=by
 unfold Hf;rw[List.take_append,uy hl]
 ·rfl
 ·rw[fR]
  right;obtain⟨k,hk⟩:∃k,m - o.length=k+1:=⟨m - o.length - 1,by omega⟩
  rw[hk,aej];exact aA ..
theorem Vt(hi:i<48)(ho:ux[i]? =some o)(hl:l∈dn):kJ (o++l::p)=o.length/\IX (o++l::p)=((7+i:Nat):Int):=by
 obtain⟨o',h1,h2,h3,h4,h5⟩:=uz hi;rw[ho]at h1;cases(h1);have ht:Hf (o++l::p) o.length=true:=by
  unfold Hf;rw[Lr,h2];rfl
 have h0:o.length≠0:=λe=>h3 (iC e);have hs:kJ (o++l::p)=o.length:=by
  unfold kJ;match hn:o.length,h0,h4 with
  |1,_,_=>rw[I7 hl (by omega),I7 hl (by omega)];rfl
  |2,_,_=>rw[hn]at ht;rw[I7 hl (by omega),ht];rfl
  |3,_,_=>rw[hn]at ht;rw[ht];rfl
 refine⟨hs,?_⟩;unfold IX;rw[hs,Lr,h2];rfl
inductive Seg:List Nat->List Int->Prop
 |nil:Seg [] []
 |let{l:Nat} {p:List Nat} {vs:List Int}:l∈dn->Seg p vs->Seg (l::p) ((256+(Gh l:Int))::vs)
 |op {i:Nat} {o:List Nat} {l:Nat} {p:List Nat} {vs:List Int}:i<48->ux[i]? =some o->l∈dn->Seg (l::p) vs->Seg (o++l::p) (((7+i:Nat):Int)::vs)
theorem Seg.app(h:Seg p vs)(k:Seg q ws):Seg (p++q) (vs++ws):=by
 induction h with
 |nil=>exact k
 |«let» hl _ ih=>exact .let hl ih
 |op hi ho hl _ ih=>
  rw[eT,cE,cE];exact .op hi ho hl ih
theorem Seg.toks(h:Seg p vs):IY p vs:=by
 induction h with
 |nil=>exact .nil
 | @«let» l p vs hl _ ih=>
   refine .cons (by simp) (I1 hl) ?_;rw[wQ hl];exact ih
 | @op i o l p vs hi ho hl _ ih=>
   obtain⟨h1,h2⟩:=Vt (p:=p) hi ho hl;refine .cons (by simp) h2 ?_;rw[h1,List.drop_left];exact ih
theorem Seg.lets:∀{w:List Nat},(∀l∈w,l∈dn)->Seg w (w.map λl=>256+(Gh l:Int)):=by
 intro zx
 induction zx with
 |nil=>
  rintro _
  exact .nil
 |cons l w ih=>
  rintro h
  exact .let (h l (aA ..)) (ih λx hx=>h x (aD _ hx))
section
section
variable{T:ek}
theorem QO(w):items (.str (mk w))=some (w.map dch):=by
 show some (sv (mk w))=_;unfold sv;rw[qH];rfl
end
end
section
theorem sW{a n:Nat}(ha:a<1000000)(hn:n<=100000):aE .Pow (.int a) (.int n)=some (.int (a^n:Nat)):=by
 show(if(a:Int).natAbs<18446744073709551616/\(0:Int)<=n/\(n:Int)<=100000 then some (D.int ((a:Int)^(n:Int).toNat))else none)=_;rw[if_pos (by omega),aR,gH]
theorem nP{a b:Nat}(hb:0<b)(hs:sm b=true):aE .FloorDiv (.int a) (.int b)=some (.int (a/b:Nat)):=by
 show(if(b:Int)≠0/\sm b=true then some (D.int ((a:Int).fdiv b))else none)=_;rw[if_pos ⟨by omega,hs⟩,bP _ (by omega)];rfl
theorem ja{a b:Nat}(hb:0<b):aE .Mod (.int a) (.int b)=some (.int (a%b:Nat)):=by
 show dG (if(b:Int)≠0 then some (D.int ((a:Int).fmod b))else none) _=_;rw[if_pos (by omega),cC _ (by omega)];rfl
theorem zp{x n:Nat}(h:x<=2^n)(hn:n<1000):sm x=true:=by
 unfold sm;refine decide_eq_true ?_;rw[iJ];exact bk h (jj (by decide) hn)
theorem C6{b k n:Nat}(hb:b<=2^n)(h:n*k<1000):sm ((b^k:Nat):Int)=true:=
 zp (n:=n*k) (by rw[Nat.pow_mul];exact Nat.pow_le_pow_left hb k) h
theorem ach:(dn.all λl=>match pg .index (.str ru) [.str (ch l)]with|some (.int i)=>i==(Gh l:Int)|_=>false)=true:=by rfl'
theorem Vu(h:l∈dn):pg .index (.str ru) [.str (ch l)]=some (di (Gh l)):=by
 have:=aw.mp ach l h;split at this
 ·rename_i i he
  rw[he,eq_of_beq this];rfl
 ·cases this
theorem nQ(i):intD (.int i)=some i:=rfl
theorem ajs(c):ch c=mk [c]:=rfl
theorem KO{α:Type}{l:List α}{f:α->D}{i:Nat}{x:α}(h:l[i]? =some x)(hb:l.length<2^60):fU (.lst (l.map f)) i=some (f x):=by
 obtain⟨h1,h2⟩:=fj.mp h;rw[jt h1 hb,h2]
theorem KP{c:Nat}(h:c<=1114111):cM .chr [.int c]=some (.str (ch c)):=by
 show(if(0:Int)<=c/\(c:Int)<=0x10FFFF then some (D.str ⟨#[(c:Int).toNat]⟩)else none)=_;rw[if_pos (by omega),aR];rfl
theorem add_str(h:a.length+b.length<=eu):aE .Add (.str (mk a)) (.str (mk b))=some (.str (mk (a++b))):=by
 show dG (if(mk a).length+(mk b).length<=eu then some (D.str (mk a++mk b))else none) _=_;rw[qm,qm,if_pos h,IW];rfl
theorem Vv(h:a.length+b.length<=eu):Ir .Add (.str (mk a)) (.str (mk b))=some (.str (mk (a++b))):=by
 show(if(mk a).length+(mk b).length<=eu then some (D.str (mk a++mk b))else none)=_;rw[qm,qm,if_pos h,IW]
theorem zq(h:KN c w=true):lx c=false/\(mV c).cps.toList=w/\c<=1114111:=by
 unfold KN at h;simp only[av,cW]at h;exact⟨h.1,eq_of_beq h.2.1,bQ h.2.2⟩
theorem KQ(h:KN c w=true)(hw:w.length<=3):(mV c).length<=100:=by
 have:=congrArg qv (zq h).2.1;have e:(mV c).cps.toList.length=(mV c).length:=by simp[Str.length]
 omega
theorem Gk(h:KN c w=true):gK [c]=w:=by
 obtain⟨h1,h2,_⟩:=zq h;unfold gK;rw[dq,h1];simpa using h2
theorem qJ(a b):gK (a++b)=gK a++gK b:=by
 unfold gK;rw[eD,aek]
theorem MV(h:lx c=true):gK [c]=[]:=by
 unfold gK;rw[dq,h];rfl
section
variable{T:ek}
end
end
section
def vL(l:Nat):Int:=256+(Gh l:Int)
theorem QP(h:∀c∈o,KN c [c]=true):gK o=o:=by
 induction o with
 |nil=>rfl
 |cons c o ih=>
  rw[show c::o=[c]++o from rfl,qJ,Gk (h c (aA ..)),ih λx hx=>h x (aD _ hx)]
section
variable{T:ek}
theorem MW(h:j<27):∃c,MT[j]? =some c/\lx c=true/\c<=1114111:=by
 have hj:j<MT.length:=by rw[KL];exact h
 have:=aw.mp ace _ (ib hj);rw[av]at this;exact⟨MT[j],by simp[hj],this.1,bQ this.2⟩
end
end
section
section
variable{T:ek}
end
end
section
theorem aci{V:Ev}{ks:bY}{W:List Str}{wf:Nat}{X:XD}{σ:cy}{own:List Str}{st:Stmt}{ds:List D}(hl:ds.length<=eu)(ha:autoParam (look σ (j9 st)=some (.lst ds)) Mxx.ka)(hs:autoParam (rN (Yj st)=some (MN st)) Mxx.ka)(hx:autoParam (st=.Expr (Yj st) (bU st)) Mxx.ka)
(hm:autoParam ((MN st).2.1="reverse") Mxx.ka)(hg:autoParam ((MN st).2.2=[]) Mxx.ka)(ho:autoParam ((own.contains (j9 st)&& !(j9 st==("__debug__":Str)))=true) Mxx.ka):df V ks W wf X st σ own=some (.nx (put (j9 st) (.lst ds.reverse) σ) own):=by
 refine KC hs hx ho ha ?_;rw[hg,hm];exact if_pos ⟨rfl,hl⟩
section
variable{T:ek}
def nK:bY:=uv "_div2n1n"
def nB:List Stmt:=bo "_div2n1n"
theorem ajt(hI:mE T)(a b n:Int)(h1:cq a - n<=4000)(hb:b≠0)(hs:sm b=true):Xa T nK [] 20 nB [("a",.int a),("b",.int b),("n",.int n)] []=some (.rt (.tup [.int (a.fdiv b),.int (a.fmod b)])):=by
 obtain⟨rest,hr⟩:∃rest,rest=nB.drop 1:=⟨_,rfl⟩;refine fV (b:=nB) (bs:=ak 0 nB::rest) ?_ (by rw[hr];rfl');refine fX (b:=[ak 0 (bp (ak 0 nB))]) (tr (b:=(T.gl "_DIV_LIMIT").bind λd=>cmp .LtE (.int (cq a - n)) d) ?_) (fV (bs:=[ak 0 (bp (ak 0 nB))]) (dm (dW _ (tr (b:=cM .divmod [.int a,.int b]) ?_))))
 ·rw[hI.gl]
  have:U6 "_DIV_LIMIT"=some (.int 4000):=by rfl'
  rw[this];show some (decide (cq a - n<=4000))=_;rw[decide_eq_true h1]
 ·show(if b≠0/\sm b=true then some (D.tup [.int (a.fdiv b),.int (a.fmod b)])else none)=_
  rw[if_pos ⟨hb,hs⟩]
def vK:bY:=uv "_divmod_pos"
def vB:List Stmt:=bo "_divmod_pos"
def vF:Stmt:=ak 4 vB
def vFB:List Stmt:=bp vF
def vS(o:Option (D×D))(a b n ad r:D)(qs:List D):cy:=([("a",a),("b",b),("n",n),("a_digits",ad),("r",r),("q_digits",.lst qs)]:cy)++(match o with|none=>[]|some (x,y)=>[("a_digit",x),("q_digit",y)])
theorem Vw(o:Option (D×D))(a ad)(b n r d q r2)(qs)(m)(h1:((((aE .LShift (.int r) (.int n)).bind λx=>aE .Add x (.int d)).bind λx=>some [x,.int b,.int n]).bind λds=>T.fn "_div2n1n" ds)=some (.tup [.int q,.int r2]))(hl:qs.length+1<=eu):
 Xa T vK ["q_digits"] (m+1) vFB (g1 (fk vK (iU vF) (.int d) (vS o a (.int b) (.int n) ad (.int r) qs,["q_digits"]))) (g2 (fk vK (iU vF) (.int d) (vS o a (.int b) (.int n) ad (.int r) qs,["q_digits"])))=
  some (.nx (vS (some (.int d,.int q)) a (.int b) (.int n) ad (.int r2) (qs++[.int q])) ["q_digits"]):=by
 rcases o with _|⟨x,y⟩
 all_goals
  refine fV (bs:=[ak 0 vFB,ak 1 vFB]) ?_;refine fh (mU (.tup [.int q,.int r2],false) (n8 (d:=.tup [.int q,.int r2]) (tr h1))) ?_;exact fh (C3 (ds:=qs) (n8 (d:=.int q) (by rfl')) hl) (by rfl')
theorem acj(o:Option (D×D))(a ad b n r d)(qs):fk vK (iU vF) d (vS o a b n ad r qs,["q_digits"])=some (g1 (fk vK (iU vF) d (vS o a b n ad r qs,["q_digits"])),g2 (fk vK (iU vF) d (vS o a b n ad r qs,["q_digits"]))):=by
 rcases o with _|⟨x,y⟩<;>rfl'
end
end
def dh(n:Nat):Nat->Nat->List Nat
 |0,_=>[]
 |c+1,x=>x%2^n::dh n c (x/2^n)
def pn(n:Nat):List Nat->Nat
 |[]=>0
 |x::r=>x+2^n*pn n r
theorem fF(n):∀c x,(dh n c x).length=c:=by
 intro zx
 induction zx with
 |zero=>
  rintro _;exact rfl
 |succ c ih=>
  rintro x;rw[dh,bE,ih]
theorem rW(n):∀c x,∀d∈dh n c x,d<2^n:=by
 intro zx
 induction zx with
 |zero=>
  rintro _ d h;cases h
 |succ c ih=>
  rintro x d h;rw[dh]at h;rcases aJ.mp h with rfl|h
  ·exact dP _ (fg (by decide))
  ·exact ih _ d h
theorem wR(n):∀c x,x<2^(n*c)->pn n (dh n c x)=x:=by
 intro zx
 induction zx with
 |zero=>
  rintro x h;rw[tE,Nat.pow_zero]at h;have:x=0:=by omega
  subst this;rfl
 |succ c ih=>
  rintro x h;rw[dh,pn,ih]
  ·exact Nat.mod_add_div x (2^n)
  ·rw[lF,iD]at h
   exact mZ (by rw[eW];exact h)
theorem ju(n):∀l:List Nat,j8 n (l.map fQ)=(pn n l:Int):=by
 intro zx
 induction zx with
 |nil=>
  exact rfl
 |cons x l ih=>
  rw[bJ,pn];show(x:Int)+2^n*j8 n (l.map fQ)=_;rw[ih];push_cast;rfl
theorem I8(n):∀(l:List Nat),(∀d∈l,d<2^n)->dh n l.length (pn n l)=l:=by
 intro zx
 induction zx with
 |nil=>
  rintro _;exact rfl
 |cons x l ih=>
  rintro h;have hx:=h x (aA ..);have hp:0<2^n:=fg (by decide);rw[bE,dh,pn,Nat.add_mul_mod_self_left,rY hx,Nat.add_mul_div_left _ _ hp,atp hx,jA,ih λd hd=>h d (aD _ hd)]
theorem QQ(n):∀(l:List Nat),(∀d∈l,d<2^n)->pn n l<2^(n*l.length):=by
 intro zx
 induction zx with
 |nil=>
  rintro _;simp[pn]
 |cons x l ih=>
  rintro h;have hx:=h x (aA ..);have ih:=ih λd hd=>h d (aD _ hd);rw[bE,lF,jD,iD,pn];have:2^n*(pn n l+1)<=2^n*2^(n*l.length):=c7 _ ih;rw[mY,Ho]at this;omega
def sX(n b:Nat)(s:Nat×List Nat)(d:Nat):Nat×List Nat:=((s.1*2^n+d)%b,s.2++[(s.1*2^n+d)/b])
def uA(n:Nat)(l:List Nat):Nat:=l.foldl (λv d=>v*2^n+d) 0
theorem uC(n:Nat)(l:List Nat)(d:Nat):uA n (l++[d])=uA n l*2^n+d:=by unfold uA;rw[fN];rfl
theorem Gl(n:Nat):∀l:List Nat,uA n l.reverse=pn n l:=by
 intro zx
 induction zx with
 |nil=>
  exact rfl
 |cons x l ih=>
  rw[i5,uC,ih,pn,eW,jD]
theorem zt{α:Type}{P:List α->Prop}(h0:P [])(h1:∀l a,P l->P (l++[a]))(l:List α):P l:=by
 have:∀l:List α,P l.reverse:=λl=>by
  induction l with
  |nil=>exact h0
  |cons a l ih=>rw[i5];exact h1 _ _ ih
 have:=this l.reverse;rwa[Zc]at this
theorem QR(n b:Nat)(hb:0<b)(l:List Nat)(hl:∀d∈l,d<2^n):(l.foldl (sX n b) (0,[])).1=uA n l%b/\uA n (l.foldl (sX n b) (0,[])).2=uA n l/b/\(∀q∈(l.foldl (sX n b) (0,[])).2,q<2^n)/\(l.foldl (sX n b) (0,[])).2.length=l.length:=by
 induction l using zt with
 |h0=>exact⟨by simp[uA],by simp[uA],by simp,rfl⟩
 |h1 l a ih=>
  obtain⟨i1,i2,i3,i4⟩:=ih λd hd=>hl d (List.mem_append_left _ hd);have ha:a<2^n:=hl a (by simp);rw[fN];generalize l.foldl (sX n b) (0,[])=s at i1 i2 i3 i4;show(s.1*2^n+a)%b=_/\uA n (s.2++[(s.1*2^n+a)/b])=_/\(∀q∈s.2++[(s.1*2^n+a)/b],q<2^n)/\(s.2++[(s.1*2^n+a)/b]).length=_;have hr:s.1<b:=by rw[i1];exact dP _ hb
  have key:uA n (l++[a])=b*(uA n l/b*2^n)+(s.1*2^n+a):=by
   rw[uC,i1];have:=JE (uA n l) b
   conv=>lhs;rw[<-this]
   rw[Hr,Sq,Ak]
  refine⟨?_,?_,λq hq=>?_,?_⟩
  ·rw[key,JF]
  ·rw[uC,i2,key,Nat.mul_add_div hb]
  ·rcases fR.mp hq with h|h
   ·exact i3 q h
   ·rw[aY.mp h]
    refine mZ ?_;have:(s.1+1)*2^n<=b*2^n:=aei _ hr;rw[Hr,ael]at this;omega
  ·rw[aG,aG,i4];rfl
def jh(x:Nat):Nat:=if x=0 then 0 else x.log2+1
theorem xM(x:Nat):cq (x:Int)=jh x:=by
 unfold cq jh;by_cases h:x=0
 ·subst h;rfl
 ·rw[if_neg h]
  have:((x:Int)==0)=false:=by rw[beq_eq_false_iff_ne];omega
  simp[this,h]
theorem C7(x):x<2^jh x:=by
 unfold jh;split
 ·subst_vars;decide
 ·exact atq
theorem ki(h:x<2^k):jh x<=k:=by
 unfold jh;split
 ·exact dk _
 ·rename_i h0
  exact(ad7 h0).mpr h
def pJ(n x:Nat):Nat:=(jh x+n - 1)/n
def fL(n x:Nat):List Nat:=dh n (pJ n x) x
theorem zu(hn:0<n):jh x<=n*pJ n x/\n*pJ n x<=jh x+n - 1:=by
 unfold pJ;have h1:=JE (jh x+n - 1) n;have h2:=dP (jh x+n - 1) hn;exact⟨by omega,Nat.mul_div_le ..⟩
theorem MX(hn:0<n):pn n (fL n x)=x:=by
 refine wR n _ x (cw (C7 x) (bO (by decide) (zu hn).1))
end Internal.Z
namespace Internal
open Internal.Z (dh fF rW wR)
theorem uD(a):cX (cX (a:Int))=a:=by unfold cX;omega
theorem I9(a b:Nat):nV (a:Int) (b:Int)=((a ||| b:Nat):Int) - ((a &&& b:Nat):Int):=by
 have h1:i7 (a:Int) (b:Int)=((a &&& b:Nat):Int):=by
  unfold i7;rw[decide_eq_true (by omega),decide_eq_true (by omega)];rfl
 have h2:amV (a:Int) (b:Int)=((a ||| b:Nat):Int):=by
  unfold amV;have n1:¬(0<=cX (a:Int)):=by unfold cX;omega
  have n2:¬(0<=cX (b:Int)):=by unfold cX;omega
  have h3:i7 (cX (a:Int)) (cX (b:Int))=cX (((a ||| b:Nat)):Int):=by
   unfold i7;rw[decide_eq_false n1,decide_eq_false n2];dsimp only;rw[uD,uD,aR,aR]
  rw[h3,uD]
 unfold nV;rw[h1,h2]
theorem Vx(x s:Nat):nV (x:Int) ((x/2^s*2^s:Nat):Int)=((x%2^s:Nat):Int):=by
 have hb:∀i,(x/2^s*2^s).testBit i=(decide (s<=i)&&x.testBit i):=λi=>by
  rw[eW,Nat.testBit_two_pow_mul];by_cases h:s<=i
  ·rw[Nat.testBit_div_two_pow];simp[h]
  ·simp[h]
 have h1:x ||| (x/2^s*2^s)=x:=by
  apply xw;intro i;rw[Nat.testBit_or,hb];cases x.testBit i<;>simp
 have h2:x &&& (x/2^s*2^s)=x/2^s*2^s:=by
  apply xw;intro i;rw[tV,hb];cases x.testBit i<;>simp
 rw[I9,h1,h2];have:=JE x (2^s);rw[eW]at this;omega
theorem Gm(n):∀(a b x:Nat),dh n (a+b) x=dh n a (x%2^(n*a))++dh n b (x/2^(n*a)):=by
 intro zx
 induction zx with
 |zero=>
  rintro b x;simp[dh]
 |succ a ih=>
  rintro b x;rw[show a+1+b=(a+b)+1 by omega,dh,dh,ih b,cE];have e:2^(n*(a+1))=2^n*2^(n*a):=by rw[lF,jD,iD]
  rw[e];congr 1
  ·rw[Nat.mod_mul_right_mod]
  ·rw[pQ,Nat.div_div_eq_div_mul]
theorem Gp(n x)(h:x<2^n):dh n 1 x=[x]:=by
 show[x%2^n]=_;rw[rY h]
theorem bH.trans(a:bH P h1 h2)(b:bH P h2 h3):bH P h1 h3:=λx o e ne=>b x o (a x o e ne) ne
theorem bH.of(a:bV h1 h2):bH P h1 h2:=λx o e _=>a x o e
theorem MY(t:IsL h P it k)(x:h.Ns a m):a≠P:=λe=>by
 obtain⟨o,es,ep,h2,h3,_⟩:=x;have h1:h.get? P=some _:=t;rw[e,h1]at h2;cases h2;cases h3
theorem Ja(t:IsL h P it j)(k:bH P h h')(x:h.Ns a m):h'.Ns a m:=x.at' λo e=>k a o e (MY t x)
theorem dz.ack(t:IsL s.heap P it j)(k:bH P s.heap s'.heap)(am:dz A La s)(tk:1<=s'.toks)(NT:∀h',bH P s.heap h'->La h'):dz A La s':=by
 obtain⟨mc,n1,n2⟩:=am.nb;obtain⟨mc',l1,l2⟩:=am.nl;obtain⟨mg,g1⟩:=am.gl;exact⟨am.hh,⟨mc,Ja t k n1,n2⟩,⟨mc',Ja t k l1,l2⟩,⟨mg,Ja t k g1⟩,tk,am.un,λh kh=>NT h (bH.trans k (bH.of kh))⟩
end Internal
namespace Internal.I
section
def eB:List Stmt:=za "_int2digits" pw.main.body
def eI:Stmt:=ak 1 eB
def jB:List Stmt:=Ck eI
def jK:bY:=(oe eI).names
def jC(i:Nat):ae:=bj (ak i jB)
def asT(st:Stmt):ae:=qk st
def aqt(e:ae):ae:=IL e
def aqu(e:ae):ae:=pH e
def jT:List Stmt:=bp (ak 0 jB)
def Vy:List Stmt:=[.Assign [.Name "mid" (jI (ak 1 jB))] (bj (ak 1 jB)) (bU (ak 1 jB)),.Assign [.Name "shift" (jI (ak 2 jB))] (bj (ak 2 jB)) (bU (ak 2 jB)),.Assign [.Name "upper" (jI (ak 3 jB))] (bj (ak 3 jB)) (bU (ak 3 jB)),.Assign [.Name "lower" (jI (ak 4 jB))] (bj (ak 4 jB)) (bU (ak 4 jB))]
theorem jC5:jC 5=.Call (.Name "inner" (pH (jC 5)).pos) [.Name "lower" (pj 0 (jC 5)).pos,.Name "L" (pj 1 (jC 5)).pos,.Name "mid" (pj 2 (jC 5)).pos] [] (jC 5).pos:=by rfl'
theorem jC6:jC 6=.Call (.Name "inner" (pH (jC 6)).pos) [.Name "upper" (pj 0 (jC 6)).pos,.Name "mid" (pj 1 (jC 6)).pos,.Name "R" (pj 2 (jC 6)).pos] [] (jC 6).pos:=by rfl'
theorem aju:jB=.If (dx (ak 0 jB)) jT [] (bU (ak 0 jB))::(Vy++[.Expr (jC 5) (bU (ak 5 jB)),.Expr (jC 6) (bU (ak 6 jB))]):=by rfl'
theorem ajv:jT=[.Assign [.Subscript (.Name "a_digits" (aqu (asT (ak 0 jT))).pos) (.Name "L" (aqt (asT (ak 0 jT))).pos) (asT (ak 0 jT)).pos] (.Name "x" (bj (ak 0 jT)).pos) (bU (ak 0 jT)),.Return none (bU (ak 1 jT))]:=by rfl'
abbrev Jb(x L R n:Int):cy:=[("x",.int x),("L",.int L),("R",.int R),("n",.int n)]
abbrev jS1(x L R n m t u l:Int):cy:=Jb x L R n++([("mid",.int m),("shift",.int t),("upper",.int u),("lower",.int l)]:cy)
section
variable{T:ek}
theorem acm(x L R n):(V6 T).b jK (Jb x L R n) (dx (ak 0 jB))=some (L+1==R):=by rfl'
theorem j_x(x L R n)(p):(V6 T).d jK (Jb x L R n) (.Name "x" p)=some (.int x):=by rfl'
theorem j_L(x L R n)(p):(V6 T).d jK (Jb x L R n) (.Name "L" p)=some (.int L):=by rfl'
theorem ajx(x L R n):(V6 T).d jK (Jb x L R n) (bj (ak 1 jB))=some (.int ((L+R).fdiv (2^(1:Int).toNat))):=by rfl'
theorem aqv(x L R n m):(V6 T).d jK (Jb x L R n++([("mid",.int m)]:cy)) (bj (ak 2 jB))=aE .Mult (.int (m - L)) (.int n):=by rfl'
theorem aqw(x L R n m t):(V6 T).d jK (Jb x L R n++([("mid",.int m),("shift",.int t)]:cy)) (bj (ak 3 jB))=aE .RShift (.int x) (.int t):=by rfl'
theorem aqx(x L R n m t u):(V6 T).d jK (Jb x L R n++([("mid",.int m),("shift",.int t),("upper",.int u)]:cy)) (bj (ak 4 jB))=(aE .LShift (.int u) (.int t)).bind λd=>aE .BitXor (.int x) d:=by rfl'
theorem aqy(x L R n m t u l)(p q r):tP ((V6 T).d jK (jS1 x L R n m t u l)) [.Name "lower" p,.Name "L" q,.Name "mid" r]=some [.int l,.int L,.int m]:=by rfl'
theorem aqz(x L R n m t u l)(p q r):tP ((V6 T).d jK (jS1 x L R n m t u l)) [.Name "upper" p,.Name "mid" q,.Name "R" r]=some [.int u,.int m,.int R]:=by rfl'
end
structure jv(h:Heap)(F:Addr->Prop)(f:Addr)(n:Nat)(o:Obj)(fd:jM)(cl:List (Str×Addr))(cd ci cn al:Addr):Prop where
 ho:h.get? f=some o
 hd:o.data=.func fd
 fi:Qo fd ["x","L","R"] jB jK cl
 rc:h.CodeRec fd.code fd.qualname
 ld:cl.lookup ("a_digits":Str)=some cd
 li:cl.lookup ("inner":Str)=some ci
 ln:cl.lookup ("n":Str)=some cn
 hF:∀m c,cl.lookup m=some c->F c
 fa:F al
 na:∀m c,cl.lookup m=some c->c≠al
 vd:h.IsCell cd (some (.ref al))
 vi:h.IsCell ci (some (.ref f))
 vn:∃v,h.IsCell cn (some v)/\bW h F (.int n) v
end
end Internal.I
namespace Internal.I
section
open Internal.Z (dh fF)
section
variable{prog:bb}{w:World}{A:aC}{E:Value->ah->Prop}{G F:Addr->Prop}{env:Env}{La:Heap->Prop}{T:ek}
theorem jv.but(I:jv h F f n o fd cl cd ci cn al)(t:IsL h al it j)(k:bH al h h'):jv h' F f n o fd cl cd ci cn al:=by
 have t:h.get? al=some _:=t;have ne:∀{b:Addr}{o:Obj},h.get? b=some o->(∀x y,o.data≠.seq x y)->h'.get? b=some o:=λ{b o} e hd=>k b o e λz=>by
  rw[z,t]at e;cases e;exact hd _ _ rfl
 have cell:∀{c:Addr}{v:Option Value},h.IsCell c v->h'.IsCell c v:=λ{c v} ⟨o,e,d⟩=>⟨o,ne e (λx y q=>by rw[d]at q;cases q),d⟩
 have rc:h'.CodeRec fd.code fd.qualname:=by
  obtain⟨c,o,vs,tk,e,g,d,v⟩:=I.rc;exact⟨c,o,vs,tk,e,ne g (λx y q=>by rw[d]at q;cases q),d,v⟩
 obtain⟨v,a,b⟩:=I.vn;refine⟨ne I.ho (λx y q=>by rw[I.hd]at q;cases q),I.hd,I.fi,rc,I.ld,I.li,I.ln,I.hF,I.fa,I.na,cell I.vd,cell I.vi,v,cell a,?_⟩;exact lT (d:=.int n) rfl b
theorem jv.mono(I:jv h F f n o fd cl cd ci cn al)(hF:∀a,F a->G a):jv h G f n o fd cl cd ci cn al:=by
 obtain⟨v,a,b⟩:=I.vn;exact⟨I.ho,I.hd,I.fi,I.rc,I.ld,I.li,I.ln,λm c e=>hF c (I.hF m c e),hF _ I.fa,I.na,I.vd,I.vi,v,a,lT (d:=.int n) rfl b⟩
theorem allFlat(ds:List Nat):(ds.map di).all nJ=true:=by
 induction ds with
 |nil=>rfl
 |cons d ds ih=>rw[bJ,qO,ih];rfl
theorem Acc.any{h h':Heap}{F G:Addr->Prop}{al:Addr}{ds:List Nat}(a:Acc F h al (ds.map di))(k:h.get? al=h'.get? al\/bV h h'):Acc G h' al (ds.map di):=by
 obtain⟨vs,n,q1,q2⟩:=a;have q1:h.get? al=some _:=q1;refine⟨vs,n,?_,eO (allFlat ds) q2⟩;rcases k with k|k
 ·show h'.get? al=_
  rw[<-k];exact q1
 ·exact k _ _ q1
def wU(s:ah)(F:Addr->Prop)(al:Addr)(ds:List Nat)(v:Value)(s':ah):Prop:=v=.none/\1<=s'.toks/\(∃h tk,s'={s with heap:=h,toks:=tk})/\bH al s.heap s'.heap/\Acc F s'.heap al (ds.map di)
def BX(w:World)(La:Heap->Prop)(f:Addr)(n:Nat)(o:Obj)(fd:jM)(cl:List (Str×Addr))(cd ci cn al:Addr)(cnt:Nat)(k:Nat):Prop:=
 ∀(x L R:Nat),L<R->R<=cnt->R - L<=2^k->x<2^(n*(R - L))->∀(A:aC)(E:Value->ah->Prop)(s:ah)(F:Addr->Prop)(vs:List Value)(ds:List Nat),Bq (k+1) A->dz A La s->iW F s.heap->
  jv s.heap F f n o fd cl cd ci cn al->Acc F s.heap al (ds.map di)->ds.length=cnt->(∀h',bH al s.heap h'->La h')->aZ s.heap F [.int x,.int L,.int R] vs->
   wpAny (model pw w) A (call (.ref f) vs) (wU s F al (ds.take L++dh n (R - L) x++ds.drop R)) E s
theorem MZ(ds:List Nat)(L x:Nat)(h:L<ds.length):ds.set L x=ds.take L++[x]++ds.drop (L+1):=by
 rw[List.set_eq_take_append_cons_drop,if_pos h];simp
theorem QS{s:ah}{σ:cy}{L x:Int}{ds:List Nat}{al cd:Addr}{V:Ev}{Qq:aC->Prop}{np lp p xp pos:Pos}{Q:Flow->ah->Prop}(VO:de prog w La Qq V)(bu:Qq A)(am:dz A La s)(y:In env G σ s.heap)(hk:env.kindOf "a_digits"=some .free)(hc:env.cells.lookup ("a_digits":Str)=some cd)(hv:s.heap.IsCell cd (some (.ref al)))
(ac:Acc G s.heap al (ds.map di))(hx:V.d env.scope.names σ (.Name "x" xp)=some (.int x))(hL:V.d env.scope.names σ (.Name "L" lp)=some (.int L))(h0:0<=L)(h1:L<ds.length)(f9:ds.length<=eu)(hx0:0<=x)
(k:∀h tk,1<=tk->bH al s.heap h->Acc G h al ((ds.set L.toNat x.toNat).map di)->Q .next {s with heap:=h,toks:=tk}):
 wpAny (model prog w) A (exec (.Assign [.Subscript (.Name "a_digits" np) (.Name "L" lp) p] (.Name "x" xp) pos) env) Q E s:=by
 have Mn:exec (.Assign [.Subscript (.Name "a_digits" np) (.Name "L" lp) p] (.Name "x" xp) pos) env=(do
  standAt pos
  let v<-eval (.Name "x" xp) env
  assignStores env v none [assign (.Subscript (.Name "a_digits" np) (.Name "L" lp) p) env]):=rfl
 rw[Mn];refine ao (dM (ao (ai (bw am.tk (VO.d A E env G σ s _ _ bu am y hx)) (λv s1 q=>?_) λ_ _ e=>e)));obtain⟨t1,k1,r1⟩:=q;show wpAny _ _ (do assignAll v [assign (.Subscript (.Name "a_digits" np) (.Name "L" lp) p) env];pure ry) _ _ _;refine ao ?_;show wpAny _ _ (assign (.Subscript (.Name "a_digits" np) (.Name "L" lp) p) env v) _ _ _;rw[yT];have y1:=y.keeps (Keeps.all k1);have iT:=am.keeps k1 t1;refine ao (bR (i9 (DB y.fn hk hc (hv.keeps (Keeps.all k1)) ?_ (by decide)) (by decide)));refine ao (bR (ai (bw t1 (VO.d A E env G σ s1 _ _ bu iT y1 hL)) (λiv s2 q=>?_) λ_ _ e=>e));obtain⟨t2,k2,r2⟩:=q;obtain⟨t,rfl⟩:=r2.int;have J9:=Keeps.trans' k1 k2;obtain⟨vs,m,q1,q2⟩:=ac;have q1':IsL s2.heap al vs m:=Keeps.all J9 _ _ q1;have hsz:vs.size=ds.length:=by have h0:=q2.length;rw[cu,aj]at h0;exact h0
 have hl:eu=1048576:=rfl;refine ao (dM (ao (bR (ki_setAt (n:=m) q1' h0 (by omega) (by rw[hsz];exact h1) (wK ?_)))));have hs:sd al s2.heap (s2.heap.update al (jk (·.setIfInBounds L.toNat v))):=lD ..;obtain⟨hh,tt,rfl,kk⟩:=J9;refine aL (k _ _ t2 (λb o e ne=>hs.extBut b o ne (kk b o e)) ⟨_,_,pO q1' _,?_⟩);rw[JD];have e1:(ds.set L.toNat x.toNat).map di=(ds.map di).set L.toNat (.int x):=by
  rw[List.map_set];congr 1;show D.int _=_;congr 1;omega
 rw[e1];exact(eO (h':=(hh.update al (jk (·.setIfInBounds L.toNat v)))) (G':=G) (allFlat ds) q2).set _ (lT (d:=.int x) rfl r1)
end
end
end Internal.I
end
section
open PySem PySem.W PyProof.Rows
set_option exponentiation.threshold 2000
namespace Internal.I
open Internal.Z (dh fF)
theorem aqA:∃a b c d e,jC 5=.Call (.Name "inner" a) [.Name "lower" b,.Name "L" c,.Name "mid" d] [] e:=⟨_,_,_,_,_,jC5⟩
theorem aqB:∃a b c d e,jC 6=.Call (.Name "inner" a) [.Name "upper" b,.Name "mid" c,.Name "R" d] [] e:=⟨_,_,_,_,_,jC6⟩
theorem Jc(ds A1 A2:List Nat)(L m R:Nat)(h1:L<=m)(h2:m<=R)(h3:R<=ds.length)(hA:A1.length=m - L)(hB:A2.length=R - m):
 ((ds.take L++A1++ds.drop m).take m++A2++(ds.take L++A1++ds.drop m).drop R)=ds.take L++(A1++A2)++ds.drop R:=by
 have hl:(ds.take L++A1).length=m:=by rw[aG,l9,hA];omega
 have e1:(ds.take L++A1++ds.drop m).take m=ds.take L++A1:=by rw[G9 (by omega),rZ (by omega)]
 have e2:(ds.take L++A1++ds.drop m).drop R=ds.drop R:=by
  rw[List.drop_append,S7 (by omega),iO,hl,Lk];congr 1;omega
 rw[e1,e2];simp
theorem QT(x L R n m t u l:Nat)(hm:m=(L+R)/2)(ht:((m:Int) - L)*n=(t:Int))(Vg:m<=100000)(hLm:L<=m)(hn:n<=100000)(ht9:t<=900)(hu:u=x/2^t)(hl:l=x%2^t)(hx:x<2^990):
 AL (V6 T) jK [] 10 3 Vy (Jb x L R n) []=some (.nx (jS1 x L R n m t u l) []):=by
 have acn:(100000:Int)<=10^100:=by decide
 have hsm:∀x:Int,0<=x->x<=100000->sm x=true:=λx h0 h1=>O5 (gi (by decide) h0) (gi h1 acn);have aus:u<2^990:=by rw[hu];exact bk (Nat.div_le_self ..) hx
 have h2t:(2:Int)^(t:Int).toNat=((2^t:Nat):Int):=by rw[aR,gH];rfl
 show AL (V6 T) jK [] 10 3 [_,_,_,_] _ _=_;rw[xI,qD (d:=.int m) ((ajx _ _ _ _).trans (by rw[Qv,<-hm])) (by rfl') (by rfl')];show cU (df (V6 T) jK [] 10 (AL (V6 T) jK [] 10 2)) _ (Jb x L R n++([("mid",.int m)]:cy)) []=_;rw[qD (d:=.int t) ((aqv _ _ _ _ _).trans (by rw[C1 (hsm _ (by omega) (by omega)) (hsm _ (by omega) (by omega)),ht])) (by rfl') (by rfl')];show cU (df (V6 T) jK [] 10 (AL (V6 T) jK [] 10 2)) _ (Jb x L R n++([("mid",.int m),("shift",.int t)]:cy)) []=_;rw[qD (d:=.int u) ((aqw _ _ _ _ _ _).trans (by
  show(if(0:Int)<=(t:Int)then some (D.int ((x:Int).fdiv (2^(t:Int).toNat)))else none)=_;rw[if_pos (by omega),h2t,bP _ (by omega),hu];rfl)) (by rfl') (by rfl')]
 show cU (df (V6 T) jK [] 10 (AL (V6 T) jK [] 10 2)) _ (Jb x L R n++([("mid",.int m),("shift",.int t),("upper",.int u)]:cy)) []=_;rw[qD (d:=.int l) ((aqx _ _ _ _ _ _ _).trans (by
  rw[IQ (Qt (m:=990) (by omega) (by
   have h3:((2^990:Nat):Int)=2^990:=gH 2 990;omega) (by omega)) (by omega) (by omega),ag,h2t]
  show some (D.int (nV (x:Int) ((u:Int)*((2^t:Nat):Int))))=_;rw[<-nX,hu,Vx,<-hl])) (by rfl') (by rfl')]
 rfl
end Internal.I
namespace Internal.I
open Internal.Z (dh fF)
theorem wU.start(k:Keeps s s')(p:wU s' G al ds v LJ):wU s F al ds v LJ:=by
 obtain⟨h1,h2,⟨h,tk,h3⟩,h4,h5⟩:=p;obtain⟨h0,t0,rfl,kk⟩:=k;exact⟨h1,h2,⟨h,tk,h3⟩,bH.trans (bH.of kk) h4,Acc.any h5 (.inl rfl)⟩
theorem jv.QU(I:jv h F f n o fd cl cd ci cn al)(k:bV h h'):jv h' F f n o fd cl cd ci cn al:=by
 obtain⟨v,a,b⟩:=I.vn;exact⟨k _ _ I.ho,I.hd,I.fi,I.rc.keeps k,I.ld,I.li,I.ln,I.hF,I.fa,I.na,I.vd.keeps k,I.vi.keeps k,v,a.keeps k,b.keeps k⟩
theorem Jd(h:L+1=R)(hx:x<2^(n*(R - L))):dh n (R - L) x=[x]:=by
 subst h;rw[S6]at hx⊢;rw[Ho]at hx;exact Internal.Gp n x hx
theorem Vz{ds A:List Nat}{L m c:Nat}(h:m<=ds.length)(h1:L<=m)(hA:A.length=m - L)(hl:ds.length=c):(ds.take L++A++ds.drop m).length=c:=by
 rw[aG,aG,l9,jm,hA,nY (aq h1 h),Ad h1,Ad h,hl]
theorem wV{w:World}{La:Heap->Prop}{T:ek}(TO:dU pw w La (λ_=>True) T){f:Addr}{n:Nat}{o:Obj}{fd:jM}{cl:List (Str×Addr)}{cd ci cn al:Addr}{cnt:Nat}
(hn:n*cnt<=900)(nZ:1<=n)(x L R:Nat)(h1:L<R)(h2:R<=cnt)(hx:x<2^(n*(R - L)))(A:aC)(E:Value->ah->Prop)(s:ah)(F:Addr->Prop)(vs:List Value)(ds:List Nat)(k:Nat)(bq:Bq (k+1) A)(am:dz A La s)(lo:iW F s.heap)
(I:jv s.heap F f n o fd cl cd ci cn al)(ac:Acc F s.heap al (ds.map di))(hl:ds.length=cnt)(hla:∀h',bH al s.heap h'->La h')(rs:aZ s.heap F [.int x,.int L,.int R] vs)(ih:L+1=R\/∃j,k=j+1/\R - L<=2^k/\BX w La f n o fd cl cd ci cn al cnt j):
 wpAny (model pw w) A (call (.ref f) vs) (wU s F al (ds.take L++dh n (R - L) x++ds.drop R)) E s:=by
 have hlen:=abM hn nZ;have hn9:=aiW hn (aq (aq (atk (dk L)) h1) h2);have aqC:n*(R - L)<=900:=aq (c7 _ (aq (tJ ..) h2)) hn;have ajz:x<2^990:=cw hx (bO (by decide) (aq aqC (by decide)));have VO:de pw w La (λ_=>True) (V6 T):=gw TO 7;have XO:SH pw w La (λ_=>True) jK (AL (V6 T) jK [] 10 3):=uj (W:=[]) (gw TO 6) TO jK 10 3;refine BP (σc:=[("n",.int n)]) I.fi bq.dep I.ho I.hd I.rc rfl am bq.un lo rs I.hF (λm d e=>?_) (λenv aU G oa jr oo iT fr si E'=>?_)
 ·unfold look at e
  split at e
  ·rename_i hm
   subst hm;cases e;obtain⟨v,a,b⟩:=I.vn;exact⟨by decide,cn,v,I.ln,a,b⟩
  ·unfold look at e;cases e
 have si:SI env F s (Jb x L R n) [] aU G oa:=si;have DK:dz (A.deeper env) La s:=⟨am.hh,am.nb,am.nl,am.gl,am.tk,(bq.deeper env).un2,am.la⟩
 have hkd:env.kindOf "a_digits"=some .free:=by unfold gT;rw[jr];decide
 have ph:Cl env "inner":=.inr (by unfold gT;rw[jr];decide);have Qx:env.cells.lookup ("inner":Str)=some ci:=by rw[oo];exact I.li
 have Aq:env.cells.lookup ("a_digits":Str)=some cd:=by rw[oo];exact I.ld
 have Yh:∀m,env.cells.lookup m≠some al:=λm e=>I.na m al (by rw[<-oo];exact e) rfl;rw[aju];have y1:In env G (Jb x L R n) aU.heap:=si.ie;refine aS (A8 (ai (bw si.tk (VO.b (A.deeper env) E' env G _ aU _ _ trivial iT y1 (by rw[jr];exact acm _ _ _ _))) (λb s2 q=>?_) λ_ _ e=>e));obtain⟨t2,rfl,k2⟩:=q;have uh:=si.keeps k2 t2;have y2:In env G (Jb x L R n) s2.heap:=uh.ie;have p9:=iT.keeps k2 t2;have k02:=uh.kp;by_cases NU:L+1=R
 ·have hL:L<ds.length:=hl▸cw h1 h2
  rw[if_pos (aiY NU),ajv];refine aS (QS (al:=al) (cd:=cd) (ds:=ds) VO trivial p9 y2 hkd Aq (I.vd.keeps (Keeps.all k02)) (Acc.any ac (.inr (Keeps.all k02))) (by rw[jr];exact j_x _ _ _ _ _) (by rw[jr];exact j_L _ _ _ _ _) (bG L) (o8.mpr hL) (aq (hl▸hlen) (by decide)) (bG x) (λh tk htk kb acc=>?_));refine aS (wpAny_Return_none ?_);show wU s F al _ .none _;rw[aR,aR,MZ ds L x hL]at acc;rw[Jd NU hx,<-NU];exact wU.start (G:=G) k02 ⟨rfl,htk,⟨h,tk,rfl⟩,kb,acc⟩
 ·obtain⟨j,rfl,hk,ct⟩:=ih.resolve_left NU
  rw[if_neg (by rw[aiZ NU];exact aF)];obtain⟨m,hm⟩:∃m,m=(L+R)/2:=⟨_,rfl⟩;obtain⟨Ks,AR⟩:=Kr hm h1 NU;obtain⟨hk1,PE⟩:=F3 hm hk;have Vf:m<=cnt:=aq (cA AR) h2;obtain⟨t,ht⟩:∃t:Nat,t=n*(m - L):=⟨_,rfl⟩;have htI:((m:Int) - L)*n=(t:Int):=by
   rw[ht,nX,Al (cA Ks),DF]
  have ht9:t<=900:=by
   rw[ht];exact aq (c7 _ (aq (tJ ..) Vf)) hn
  have hX:=QT (T:=T) x L R n m t (x/2^t) (x%2^t) hm htI (aq Vf (aq hlen (by decide))) (cA Ks) (aq hn9 (by decide)) ht9 rfl rfl ajz;have aco:n*(R - L)=t+n*(R - m):=by rw[ht,<-mY,jD,tM (cA AR) (cA Ks)]
  have hxl:x%2^t<2^(n*(m - L)):=by rw[<-ht];exact dP _ (fg (by decide))
  have hxu:x/2^t<2^(n*(R - m)):=by
   rw[aco,iD]at hx;exact mZ hx
  refine dJ ?_;show wpAny (model pw w) (A.deeper env) (execs (Vy++[.Expr (jC 5) (bU (ak 5 jB)),.Expr (jC 6) (bU (ak 6 jB))]) env) _ _ _;refine um (ai (XO (A.deeper env) E' env F s _ [] s2 G oa Vy _ trivial DK fr uh jr hX) (λg s3 q=>?_) λ_ _ e=>e);obtain⟨rfl,G2,oa2,tQ⟩:=q;generalize hu:x/2^t=u at*;generalize hlo:x%2^t=l at*;have y3:In env G2 (jS1 x L R n m t u l) s3.heap:=tQ.ie;have I3:jv s3.heap G2 f n o fd cl cd ci cn al:=(I.but ac.cases.choose_spec.choose_spec.1 (bH.of (Keeps.all tQ.kp))).mono tQ.hF;have Kw:dz (A.deeper env) La s3:=DK.keeps tQ.kp tQ.tk;have fn3:=gx y3.fn;obtain⟨pa,pb,pc,pd,pe,j5⟩:=aqA;obtain⟨qa,qb,qc,qd,qe,j6⟩:=aqB;rw[j5,j6];refine aS (ri ?_ fn3 rfl);refine BQ VO trivial Kw y3 ph (by decide) (by decide) Qx I3.vi I3.ho I3.hd (by rw[jr];exact aqy _ _ _ _ _ _ _ _ _ _ _) (λs4 vs4 k4 t4 r4=>?_);have k04:=Keeps.trans' tQ.kp k4;have ac4:Acc G2 s4.heap al (ds.map di):=Acc.any ac (.inr (Keeps.all k04));obtain⟨it4,n4,il4,_⟩:=id ac4;have I4:jv s4.heap G2 f n o fd cl cd ci cn al:=I3.QU (Keeps.all k4);have acp:∀h',bH al s4.heap h'->La h':=λh' q=>hla h' (bH.trans (bH.of (Keeps.all k04)) q);have Ku:=Kw.keeps k4 t4;have y4:=y3.keeps (Keeps.all k4);refine ai (ct l L m Ks Vf hk1 hxl (A.deeper env) _ s4 G2 vs4 ds (bq.deeper env) Ku y4.lo I4 ac4 hl acp r4) (λv s5 q=>?_) λ_ _ e=>e;obtain⟨rfl,t5,⟨h5,tk5,hs5⟩,kb5,ac5⟩:=q;have Ye:=tQ.keeps k4 t4;have u5:Upd (λa=>a=al) s4 s5:=⟨h5,tk5,hs5,by rw[hs5]at kb5;exactλb o ne e=>kb5 b o e ne⟩
  obtain⟨it5,n5,il5,_⟩:=id ac5;obtain⟨sb,xm,fr5,kbb,kPb,tkb,⟨hb,tb,hsb⟩⟩:=Ye.sM fr I.fa Yh u5 t5 (by rw[show s5.heap.get? al=some _ from il5];rfl);have am5:dz (A.deeper env) La s5:=dz.ack il4 kb5 Ku t5 acp;have y5:In env G2 (jS1 x L R n m t u l) s5.heap:=xm.ie;have I5:=I4.but il4 kb5;refine aS (ri ?_ fn3 rfl);refine BQ VO trivial am5 y5 ph (by decide) (by decide) Qx I5.vi I5.ho I5.hd (by rw[jr];exact aqz _ _ _ _ _ _ _ _ _ _ _) (λs6 vs6 k6 t6 r6=>?_);have ac6:=Acc.any (G:=G2) ac5 (.inr (Keeps.all k6));have aqE:∀h',bH al s6.heap h'->La h':=λh' q=>acp h' (bH.trans kb5 (bH.trans (bH.of (Keeps.all k6)) q));have hlA:(dh n (m - L) l).length=m - L:=fF ..;refine ai (ct u m R AR h2 PE hxu (A.deeper env) _ s6 G2 vs6 _ (bq.deeper env) (am5.keeps k6 t6) (y5.keeps (Keeps.all k6)).lo (I5.QU (Keeps.all k6)) ac6 (Vz (by rw[hl];exact Vf) (cA Ks) hlA hl) aqE r6) (λv s7 q=>?_) λ_ _ e=>e;obtain⟨rfl,t7,⟨h7,tk7,hs7⟩,kb7,ac7⟩:=q;refine dJ ?_;show wU s F al _ .none s7;rw[Jc ds _ _ L m R (cA Ks) (cA AR) (hl▸h2) hlA (fF ..)]at ac7;have e1:dh n (R - L) x=dh n (m - L) l++dh n (R - m) u:=by
   rw[<-tM (cA AR) (cA Ks),jD (R - m),Internal.Gm,<-ht,hu,hlo]
  rw[e1];refine⟨rfl,t7,?_,bH.trans (bH.of (Keeps.all k04)) (bH.trans kb5 (bH.trans (bH.of (Keeps.all k6)) kb7)),Acc.any ac7 (.inl rfl)⟩;obtain⟨ha,ta,rfl,_⟩:=k04;obtain⟨hc6,tc6,h6e,_⟩:=k6;exact⟨h7,tk7,by rw[hs7,h6e,hs5]⟩
theorem M0{w:World}{La:Heap->Prop}{T:ek}(TO:dU pw w La (λ_=>True) T){f:Addr}{n:Nat}{o:Obj}{fd:jM}{cl:List (Str×Addr)}{cd ci cn al:Addr}{cnt:Nat}
(hn:n*cnt<=900)(nZ:1<=n):∀k,BX w La f n o fd cl cd ci cn al cnt k:=by
 intro zx
 induction zx with
 |zero=>
  exactλx L R h1 h2 h3 hx A E s F vs ds bq am lo I ac hl hla rs=>wV TO hn nZ x L R h1 h2 hx A E s F vs ds 0 bq am lo I ac hl hla rs (.inl (by simp at h3;omega))
 |succ k ih=>
  exactλx L R h1 h2 h3 hx A E s F vs ds bq am lo I ac hl hla rs=>wV TO hn nZ x L R h1 h2 hx A E s F vs ds (k+1) bq am lo I ac hl hla rs (.inr ⟨k,rfl,h3,ih⟩)
end Internal.I
namespace Internal.I
section
open Internal.Z (dh fF)
def ly:tK:=(iG.find? (λd=>d.name==("_int2digits":Str))).getD ⟨("":Str),default,[],default,default⟩
theorem qn:ly∈iG:=by
 have:(iG.find? (λd=>d.name==("_int2digits":Str))).isSome=true:=by rfl'
 obtain⟨d,hd⟩:=ay.mp this;have e:ly=d:=by unfold ly;rw[hd];rfl
 rw[e];exact d8 hd
theorem M1:ly.params.args.map (·.arg)=(["a","n"]:List Str):=by rfl'
theorem kj:ly.name=("_int2digits":Str):=by rfl'
def eK:bY:=ly.scope.names
def Hg:nT:=xY eI
def DM:Scope:=oe eI
def eC:ae:=bj (ak 0 (bp (ak 2 eB)))
theorem QV:ly.body=[ak 0 eB]++[.FunctionDef "inner" Hg jB [] none [] DM none "inner" (bU eI),.If (dx (ak 2 eB)) [.Expr eC (bU (ak 0 (bp (ak 2 eB))))] [] (bU (ak 2 eB)),ak 3 eB]:=by rfl'
theorem ajA:eC=.Call (.Name "inner" (pH eC).pos) [pj 0 eC,pj 1 eC,pj 2 eC] [] eC.pos:=by rfl'
def eQ:Str:=(("_int2digits":Str)++(".<locals>.":Str))++("inner":Str)
theorem QW:(DM.names.all λx=>x.2 != .free||eK.lookup x.1==some .cell)=true:=by rfl'
abbrev sB(a n:Int):cy:=[("a",.int a),("n",.int n),("inner",.J0)]
abbrev sC(a n:Int)(zs:List D):cy:=[("a",.int a),("n",.int n),("inner",.J0),("a_digits",.lst zs)]
section
variable{T:ek}
theorem e_l(a n):(V6 T).d eK [("a",.int a),("n",.int n)] (pH (bj (ak 0 eB)))=some (.lst [.int 0]):=by rfl'
theorem e_r(a n):(V6 T).d eK [("a",.int a),("n",.int n)] (IL (bj (ak 0 eB)))=aE .FloorDiv (.int (cq a+n - 1)) (.int n):=by rfl'
theorem ajB:ak 0 eB=.Assign [.Name "a_digits" (jI (ak 0 eB))] (.BinOp (pH (bj (ak 0 eB))) .Mult (IL (bj (ak 0 eB))) (bj (ak 0 eB)).pos) (bU (ak 0 eB)):=by rfl'
theorem acr(a n):(V6 T).b eK (sB a n) (dx (ak 2 eB))=nr (.int a):=by rfl'
theorem acs(a n)(zs):tP ((V6 T).d eK (sC a n zs)) [pj 0 eC,pj 1 eC,pj 2 eC]=(((cM .len [.lst zs]).bind λd=>some [d]).bind λds=>some (.int 0::ds)).bind λds=>some (.int a::ds):=by rfl'
end
theorem oJ:DM.names=jK/\DM.kind=.function/\DM.isGenerator=false/\DM.isCoroutine=false:=⟨rfl,by rfl',by rfl',by rfl'⟩
theorem kl:Hg.posonlyargs=[]/\Hg.kwonlyargs=[]/\Hg.vararg=none/\Hg.kwarg=none/\Hg.args.map (·.arg)=(["x","L","R"]:List Str)/\Hg.defaults=[]/\Hg.kw_defaults=[]:=⟨by rfl',by rfl',by rfl',by rfl',by rfl',by rfl',by rfl'⟩
theorem ajC(env):annTrees Hg none env=[]:=by rfl'
theorem acu:∀x∈jK,x.2≠.cell:=by
 have h:(jK.all λx=>x.2 != .cell)=true:=by rfl'
 intro x hx;have:=aw.mp h x hx;simpa using this
theorem VA(env):gJ env jK []=([("n",(env.cells.lookup ("n":Str)).getD 0),("inner",(env.cells.lookup ("inner":Str)).getD 0),("a_digits",(env.cells.lookup ("a_digits":Str)).getD 0)]:List (Str×Addr)):=by rfl'
theorem abR(e:([("n",l1),("inner",l2),("a_digits",l3)]:List (Str×Addr)).lookup n=some c):(n=("n":Str)/\c=l1)\/(n=("inner":Str)/\c=l2)\/(n=("a_digits":Str)/\c=l3):=by
 have:=mem_of_lookup e;simp only[aJ,du,or_false,pP]at this;exact this
end
end Internal.I
namespace Internal.I
section
section
variable{prog:bb}{w:World}{A:aC}{E:Value->ah->Prop}{G F:Addr->Prop}{env:Env}{az s s':ah}{σ:cy}{own:List Str}{oa:Str->Addr}{La:Heap->Prop}{Bu:aC->Prop}{V:Ev}
theorem M3(lo:iW G s.heap)(ra:bW s.heap G (.lst (a::as)) va)(rb:bW s.heap G (.int n) vb)(e:aE .Mult (.lst (a::as)) (.int n)=some (.lst ds)):
 wpAny (model prog w) A (binaryOp .Mult va vb) (λv s'=>gW G s (.lst ds) v s'/\kG s v) E s:=by
 have e:(if 0<=n/\n<=65536/\(a::as).length*n.toNat<=eu then some (D.lst (rep n.toNat (a::as)))else none)=some (.lst ds):=e;split at e<;>cases e;rename_i h;obtain⟨l,vs,n,rfl,hn,hl,hr⟩:=ra.lst;obtain⟨u,rfl⟩:=rb.int;have e1:=hr.length;refine ahR hl (by omega) (by omega) (by rw[aX,e1];exact aq h.2.2 (by decide)) ?_;rw[foldl_rep,if_neg (by cases vs<;>simp at e1⊢)];simp only[o7,List.toList_toArray];exact⟨aaO lo (hr.rep _),_,rfl,kr _⟩
theorem VC(VO:de prog w La Bu V)(bu:Bu A)(am:dz A La az)(fr:n7 env F az)(hk:env.kindOf n=some .local\/env.kindOf n=some .cell)
(si:SI env F az σ [] s G oa)(h1:V.d env.scope.names σ l=some (.lst (a::as)))(h2:V.d env.scope.names σ r=some (.int i))(h3:aE .Mult (.lst (a::as)) (.int i)=some (.lst ds)):
 wpAny (model prog w) A (exec (.Assign [.Name n p] (.BinOp l .Mult r q) pos) env) (FP env F az (.nx (put n (.lst ds) σ) [n])) E s:=by
 have DK:=am.keeps si.kp si.tk;have x:In env G σ s.heap:=si.ie.sub λm d e=>by rw[fJ];simpa using e
 refine se (A7 (ai (bw si.tk (VO.d A _ env G σ s l _ bu DK x h1)) (λva s1 q1=>?_) λ_ _ e=>e)) (by rw[nL si.ie.fn];rfl);obtain⟨t1,k1,r1⟩:=q1;refine ai (bw t1 (VO.d A _ env G σ s1 r _ bu (DK.keeps k1 t1) (x.keeps (Keeps.all k1)) h2)) (λvb s2 q2=>?_) λ_ _ e=>e;obtain⟨t2,k2,r2⟩:=q2;refine ai (bw t2 (M3 ((x.keeps (Keeps.all k1)).keeps (Keeps.all k2)).lo (r1.keeps (Keeps.all k2)) r2 h3)) (λv s3 q3=>?_) λ_ _ e=>e;obtain⟨t3,⟨k3,r3⟩,f3⟩:=q3;have kk:=Keeps.trans' (Keeps.trans' k1 k2) k3;have f:=kG.before (Keeps.trans' k1 k2) f3;refine ai (rM (W:=[n]) (fl:=true) fr hk (si.keeps kk t3) r3 λ_=>?_) (λ_ s4 q4=>?_) λ_ _ e=>e
 ·obtain⟨a,q1,_,_,q2⟩:=si.CJ kk t3 r3 rfl f
  exact⟨rfl,a,q1,q2⟩
 ·obtain⟨_,_,G',FC,q1,_⟩:=q4
  refine⟨rfl,G',FC,?_⟩;unfold kQ at q1;rw[if_pos (by simp)]at q1;exact q1
theorem SI.ajD(si:SI env F az (put n (.lst ds) σ) [n] s G oa):SI env F az (dA [n] σ) [] s G oa/\Kf env s.heap n (.ref (oa n))/\G (oa n)/\az.heap.get? (oa n)=none/\Acc G s.heap (oa n) ds/\oa n≠env.locals/\∀k,env.cells.lookup k≠some (oa n):=by
 obtain⟨h1,h2,h3,h4,xh,h5,h6⟩:=si.ow n (aY.mpr rfl);have hd:=si.od n (aY.mpr rfl);have e:look (put n (.lst ds) σ) n=some (.lst ds):=by
  rw[gV (σ':=[])];dsimp only[put,look];rw[if_pos rfl]
 rw[e]at h5;cases h5;refine⟨⟨si.hF,si.hN,si.kp,si.tk,?_,λm hm=>(nomatch hm),λm hm=>(nomatch hm),λm m' hm=>(nomatch hm)⟩,h2,h3,h4,h6,hd.1,hd.2⟩;have:=si.ie;rw[ui (aY.mpr rfl)]at this;exact this.sub λm d e=>by
  rw[fJ]at e;simpa using e
theorem SI.again(si:SI env F az σ [] s G oa)(hk:env.kindOf n=some .local\/env.kindOf n=some .cell)(hv:Kf env s.heap n (.ref al))(hG:G al)(h0:az.heap.get? al=none)(ac:Acc G s.heap al ds)(hl:al≠env.locals)(hc:∀k,env.cells.lookup k≠some al):
 SI env F az (put n (.lst ds) σ) [n] s G (λ_=>al):=by
 have hs:∀{m:Str},m∈[n]->m=n:=λh=>aY.mp h;refine⟨si.hF,si.hN,si.kp,si.tk,?_,λm hm=>?_,λm hm=>⟨hl,hc⟩,λm m' h1 h2 _=>(hs h1).trans (hs h2).symm⟩
 ·rw[ui (aY.mpr rfl)]
  exact si.ie.sub λm d e=>by
   rw[fJ]at e⊢;split at e
   ·cases e
   ·simpa using e
 ·cases hs hm
  refine⟨hk,hv,hG,h0,ds,?_,ac⟩;rw[gV (σ':=[])];dsimp only[put,look];rw[if_pos rfl]
end
end
end Internal.I
namespace Internal.I
open Internal.Z (dh fF fL pJ jh xM ki C7 zu)
theorem jJ.ack(x:jJ h c P pos q)(t:IsL h al it j)(k:bH al h h'):jJ h' c P pos q:=by
 have t:h.get? al=some _:=t;have zd:∀{b:Addr}{o:Obj}{vs:Array Value},h.get? b=some o->o.data=.fields vs->h'.get? b=some o:=λ{b o vs} e d=>k b o e λz=>by
  rw[z,t]at e;cases e;cases d
 obtain⟨ps,c',h1,h2,h3,h4⟩:=x.tab;refine⟨qE x.hd λ_ _ e d=>zd e d,ps,c',zd h1 rfl,h2,h3,?_⟩;obtain⟨c0,o,vs,t,e,g,d,r⟩:=h4;exact⟨c0,o,vs,t,e,zd g d,d,r⟩
theorem _root_.Internal.jJ.zv(x:jJ h c P pos q)(k:bV h h'):jJ h' c P pos q:=by
 obtain⟨ps,c2,h1,h2,h3,h4⟩:=x.tab;exact⟨x.hd.keeps k,ps,c2,k _ _ h1,h2,h3,h4.keeps k⟩
theorem ajE:ak 3 eB=.Return (some (bj (ak 3 eB))) (bU (ak 3 eB)):=by rfl'
theorem ajF(a n)(zs):(V6 T).d eK (sC a n zs) (bj (ak 3 eB))=some (.lst zs):=by rfl'
theorem QX(cnt):(bh cnt 0).map di=bh cnt (.int 0):=by rw[List.map_replicate];rfl
theorem QY(m):rep m [D.int 0]=bh m (D.int 0):=by
 induction m with
 |zero=>rfl
 |succ m ih=>rw[rep,ih,ad8];rfl
theorem zw(hx:x<2^600)(nZ:1<=n)(hn:n<=300):n*pJ n x<=900:=by
 have hb:=ki hx;obtain⟨_,h2⟩:=zu (n:=n) (x:=x) nZ;omega
theorem VD{x n:Nat}(hx:x<2^600)(nZ:1<=n)(hn:n<=300):aE .FloorDiv (.int (cq (x:Int)+n - 1)) (.int n)=some (.int (pJ n x:Nat)):=by
 rw[xM];show(if(n:Int)≠0/\sm n=true then some (D.int (((jh x:Int)+n - 1).fdiv n))else none)=_;rw[if_pos ⟨(λz=>by rw[Int.ofNat_inj.mp z]at nZ;cases nZ),smI (aq hn (by decide))⟩,bP _ (bG n)];unfold pJ;congr 2;rw[Int.natCast_ediv];congr 1;omega
theorem VE{cnt:Nat}(h:cnt<=900):aE .Mult (.lst [.int 0]) (.int (cnt:Int))=some (.lst ((bh cnt 0).map di)):=by
 show(if 0<=(cnt:Int)/\(cnt:Int)<=65536/\[D.int 0].length*(cnt:Int).toNat<=eu then some (D.lst (rep (cnt:Int).toNat [.int 0]))else none)=_;rw[aR,if_pos ⟨bG _,gj.mpr (aq h (by decide)),aq (c7 1 h) (by decide)⟩,QY,QX]
theorem QZ(nZ:1<=n):pJ n 0=0:=atp (show 0+n - 1<n by omega)
theorem VF(nZ:1<=n)(h0:x≠0):0<pJ n x:=by
 unfold pJ jh;rw[if_neg h0];exact aem (by omega) nZ
theorem acv(hl:vs.length=(["x","L","R"]:List Str).length):
 bindArgs (fnX "inner" eQ Hg jB DM cl .none .none xo NW none (.ref c') xJ) ⟨vs,[]⟩=pure ((["x","L","R"]:List Str).zip vs):=by
 have h:=j7 (fd:=fnX "inner" eQ Hg jB DM cl .none .none xo NW none (.ref c') xJ) (vs:=vs) kl.1 kl.2.1 kl.2.2.1 kl.2.2.2.1 rfl;rw[show(fnX "inner" eQ Hg jB DM cl .none .none xo NW none (.ref c') xJ).params=Hg from rfl,kl.2.2.2.2.1]at h;exact h (by decide) hl
theorem Gq{w:World}{A:aC}{E:Value->ah->Prop}{F:Addr->Prop}{s:ah}{a c P:Addr}{o:Obj}{pm doc:Value}{x n:Nat}{vs:List Value}(ho:s.heap.get? a=some o)(hd:o.data=.func (cO ly.name ly.params ly.body ly.scope pm (.ref c) doc))
(rc:s.heap.CodeRec (.ref c) ly.name)(pl:Place s.heap c P (bU eI) eQ)(hF:F P)(bq:Bq 45 A)(am:dz A (js w) s)(lo:iW F s.heap)(rs:aZ s.heap F [.int x,.int n] vs)
(hx:x<2^600)(nZ:1<=n)(hn:n<=300):
 wpAny (model pw w) A (call (.ref a) vs) (DP P c (bU eI) eQ F s (.lst ((fL n x).map di))) E s:=by
 have fi:=ze (d:=ly) (pm:=pm) (code:=.ref c) (doc:=doc) qn;rw[M1,QV]at fi;obtain⟨cnt,Q0⟩:∃cnt,cnt=pJ n x:=⟨_,rfl⟩;have Q5:=zw hx nZ hn;have hdiv:=VD hx nZ hn;obtain⟨hc1,_⟩:=zu (n:=n) (x:=x) nZ;rw[<-Q0]at Q5 hdiv hc1;have Q6:=abM Q5 nZ;refine sJ (fu:=(["a","n"]:List Str)) fi bq.dep ho hd rc rfl am bq.un lo rs (λenv aU G oa jr iu iT fr si E'=>?_);refine gp λQ hQ=>?_;have si:SI env F s [("a",.int x),("n",.int n)] [] aU G oa:=si;have hk:∀m,env.kindOf m=eK.lookup m:=λm=>by unfold gT;rw[jr];rfl
 have AU:env.scope.names=eK:=jr;have QC:env.code=.ref c:=by rw[iu];rfl
 have p7:∀m,eK.lookup m=some .cell->∃c v,env.cells.lookup m=some c/\aU.heap.IsCell c v:=λm e=>si.ie.ce m (by rw[hk];exact e);have Yh:∀m,env.cells.lookup m≠some P:=λm e=>by
  have hm:(m,P)∈cellsFrom (s.heap.objs.size+1) ly.scope.names []:=by
   have:=mem_of_lookup e;rw[iu]at this;exact this
  have AR:=gU _ _ _ _ _ hm;simp only[du,false_or]at AR;have:=fr.hc m P (.inr (by rw[hk];exact mem_lookup fi.kd AR)) e;obtain⟨ps,h1,_⟩:=pl.tab;rw[h1]at this;cases this
 have ph:∀m,(m,bN)∈DM.names->eK.lookup m=some .cell:=λm hm=>by
  have:=aw.mp QW _ hm;simpa using this
 have VO:de pw w (js w) (λ_=>True) (V6 NV):=gw (oz w) 7;have XO:SH pw w (js w) (λ_=>True) eK (AL (V6 NV) eK ["a_digits"] 10 3):=uj (W:=["a_digits"]) (gw (oz w) 6) (oz w) eK 10 3;have hkA:env.kindOf "a_digits"=some .cell:=by rw[hk];decide
 show wpAny (model pw w) (A.deeper env) (execs (ak 0 eB::[.FunctionDef "inner" Hg jB [] none [] DM none "inner" (bU eI),.If (dx (ak 2 eB)) [.Expr eC (bU (ak 0 (bp (ak 2 eB))))] [] (bU (ak 2 eB)),ak 3 eB]) env) _ _ _;rw[ajB];refine aS (ai (VC VO trivial iT fr (.inr hkA) si (by rw[jr];exact e_l _ _) (by rw[jr];exact(e_r _ _).trans hdiv) (VE Q6)) (λg s2 q=>?_) λ_ _ e=>e);obtain⟨rfl,G2,oa2,uh⟩:=q;obtain⟨tQ,hv,VG,VH,ajH,hnl,hnc⟩:=SI.ajD uh;generalize oa2 "a_digits"=al at hv VG VH ajH hnl hnc;have tQ:SI env F s [("a",.int x),("n",.int n)] [] s2 G2 oa2:=by
  have e:dA ["a_digits"] [("a",.int x),("n",.int n)]=([("a",.int x),("n",.int n)]:cy):=by rfl'
  rw[e]at tQ;exact tQ
 have haP:al≠P:=λz=>by
  obtain⟨ps,h1,_⟩:=pl.tab;rw[z,h1]at VH;cases VH
 show wpAny (model pw w) (A.deeper env) (execs _ env) _ _ _;refine F8 (qual:=eQ) iT fr tQ hF pl QC (by rw[iu];rfl') kl.2.2.2.2.2.1 kl.2.2.2.2.2.2 (ajC env) (by rw[hk];decide) (λm hm=>?_) Yh (λsb s3 ci fa c' xJ xo NW NX Mfr Mam Mkb Mka Mfm Mwm Mlc Mvc Mfo Mrc Mkq=>?_)
 ·obtain⟨c0,_,e,_⟩:=p7 m (ph m hm)
  rw[e];rfl
 have x3:In env G2 (sB x n) s3.heap:=NX.ie;have ajI:sb.heap.get? al=none:=by
  rcases NX.hN al VG with q|q
  ·have:=lo al q
   rw[VH]at this;cases this
  ·exact q
 have ac3:Acc G2 s3.heap al ((bh cnt 0).map di):=by
  obtain⟨it,j,q1,q2⟩:=ajH;exact⟨it,j,Mkq al _ q1 haP hnl (hnc _),eO (allFlat _) q2⟩
 have hv3:Kf env s3.heap "a_digits" (.ref al):=by
  refine⟨λq=>(by rw[hkA]at q;cases q),λ_=>?_⟩;obtain⟨cc,e1,ob,e2,e3⟩:=hv.2 hkA;refine⟨cc,e1,ob,Mkq cc _ e2 (λz=>Yh _ (z▸e1)) (tQ.ie.fc _ _ e1).2 (λz=>?_),e3⟩;have:=tQ.ie.inj _ _ _ e1 z;exact absurd this (by decide)
 have Ye:SI env F sb (sC x n ((bh cnt 0).map di)) ["a_digits"] s3 G2 (λ_=>al):=SI.again NX (.inr hkA) hv3 VG ajI ac3 hnl hnc;have Kw:dz (A.deeper env) (js w) s3:=Mam.keeps NX.kp NX.tk;have fin:∀(zs:List D)(s4:ah)(oa4:Str->Addr),SI env F sb (sC x n zs) ["a_digits"] s4 G2 oa4->bH al s3.heap s4.heap->zs=(fL n x).map di->wpAny (model pw w) (A.deeper env) (execs [ak 3 eB] env)
  Q E' s4:=λzs s4 oa4 xm kb hz=>by
  subst hz;obtain⟨it,j,il,_⟩:=ac3;have wm4:jJ s4.heap c P (bU eI) eQ:=jJ.ack Mwm il kb;have Ku:dz (A.deeper env) (js w) s4:=Mam.keeps xm.kp xm.tk;rw[ajE];refine aS (g8 (ai (bw xm.tk (VO.d (A.deeper env) E' env _ _ s4 _ _ trivial Ku xm.weak (by rw[jr];exact ajF _ _ _))) (λv s5 q=>?_) λ_ _ e=>e));obtain⟨t5,k5,r5⟩:=q;obtain⟨h0,t0,eb⟩:=Mfm;obtain⟨h1,t1,e1,kk1⟩:=Keeps.trans' xm.kp k5;refine hQ _ _ ⟨⟨h1,t1,by rw[e1,eb]⟩,λb o e ne=>?_,λhw b o e=>?_,wm4.zv (Keeps.all k5),r5.less λb q=>.inl ⟨xm.hF b q,λm hm z=>?_⟩⟩
  ·rw[e1];exact kk1 _ _ (Mkb b o e ne)
  ·rw[e1];exact kk1 _ _ (Mka hw b o e)
  ·have h9:=Mfr.lo b q
   rw[z,(xm.owN hm)]at h9;cases h9
 have hT:(V6 NV).b eK (sB x n) (dx (ak 2 eB))=some (decide (x≠0)):=(acr _ _).trans (by
  show some ((x:Int) != 0)=some (decide (x≠0));congr 1;by_cases h:x=0<;>simp[h])
 refine aS (A8 (ai (bw NX.tk (VO.b (A.deeper env) E' env G2 _ s3 _ (decide (x≠0)) trivial Kw x3 (by rw[jr];exact hT))) (λb s4 q=>?_) λ_ _ e=>e));obtain⟨t4,rfl,k4⟩:=q;have xm:=Ye.keeps k4 t4;by_cases h0:x=0
 ·rw[if_neg (by simpa using h0)]
  refine dJ ?_;refine fin _ s4 _ xm (bH.of (Keeps.all k4)) ?_;have hz:cnt=0:=by rw[Q0,h0];exact QZ nZ
  have hz2:fL n x=[]:=by unfold fL;rw[<-Q0,hz];rfl
  rw[hz,hz2];rfl
 ·rw[if_pos (by simpa using h0),ajA]
  have abT:0<cnt:=Q0▸VF nZ h0;have abS:Cl env "inner":=.inl (by rw[hk];decide);have hl:cM .len [.lst ((bh cnt 0).map di)]=some (.int cnt):=by
   show dG (if((bh cnt 0).map di).length<=eu then some (D.int ((bh cnt 0).map di).length)else none) none=_;rw[aj,gq,if_pos (aq Q6 (by decide))];rfl
  have Ku:=Kw.keeps k4 t4;refine aS (ri ?_ (gx x3.fn) rfl);refine BQ VO trivial Ku xm.weak abS (by decide) (by decide) Mlc (Mvc.keeps (Keeps.all k4)) (Keeps.all k4 _ _ Mfo) rfl (by rw[jr];exact(acs _ _ _).trans (by rw[hl];rfl)) (λs5 vs5 k5 t5 r5=>?_);have k35:=Keeps.trans' k4 k5;have QD:=Keeps.all k35;have am5:=Ku.keeps k5 t5;have Kl:=xm.keeps k5 t5;have x5:=x3.keeps QD;have ac5:Acc G2 s5.heap al ((bh cnt 0).map di):=Acc.any ac3 (.inr QD);have AH:∀m:Str,eK.lookup m=some .cell->env.cells.lookup m=some ((env.cells.lookup m).getD 0):=λm e=>by
   obtain⟨c0,_,e0,_⟩:=p7 m e;rw[e0];rfl
  have hl1:=AH "n" (by decide);have hl2:=AH "inner" (by decide);have Yi:=AH "a_digits" (by decide);have Qx:(env.cells.lookup ("inner":Str)).getD 0=ci:=by rw[Mlc];rfl
  have C2:gJ env DM.names []=([("n",(env.cells.lookup ("n":Str)).getD 0),("inner",(env.cells.lookup ("inner":Str)).getD 0),("a_digits",(env.cells.lookup ("a_digits":Str)).getD 0)]:List (Str×Addr)):=VA env;have rr:∀m c0,(gJ env DM.names []).lookup m=some c0->env.cells.lookup m=some c0/\jK.lookup m=some .free:=λm c0 e=>by
   rw[C2]at e;rcases abR e with⟨rfl,rfl⟩|⟨rfl,rfl⟩|⟨rfl,rfl⟩
   ·exact⟨hl1,by decide⟩
   ·exact⟨hl2,by decide⟩
   ·exact⟨Yi,by decide⟩
  obtain⟨ml,Vg,hva⟩:=x5.va;have I:jv s5.heap G2 fa n (fnMade "inner" eQ Hg jB DM (gJ env DM.names []) xo NW c' xJ) (fnX "inner" eQ Hg jB DM (gJ env DM.names []) .none .none xo NW none (.ref c') xJ) (gJ env DM.names [])
   ((env.cells.lookup ("a_digits":Str)).getD 0) ci ((env.cells.lookup ("n":Str)).getD 0) al:=by
   refine⟨QD _ _ Mfo,rfl,⟨rfl,rfl,oJ.2.1,oJ.2.2.1,oJ.2.2.2,rfl,rfl,rfl,λvs hl=>acv hl,by decide,λp hp=>?_,acu,λm c0 e=>(rr m c0 e).2,λm m' c0 e e'=>x5.inj m m' c0 (rr m c0 e).1 (rr m' c0 e').1⟩,Mrc.keeps QD,by rw[C2];rfl,by rw[C2,Qx];rfl,by rw[C2];rfl,λm c0 e=>(x5.fc m c0 (rr m c0 e).1).1,VG,λm c0 e z=>hnc m (z▸(rr m c0 e).1),?_,Mvc.keeps QD,?_⟩
   ·simp only[aJ,du,or_false]at hp
    rcases hp with rfl|rfl|rfl<;>decide
   ·obtain⟨cc,e1,e2⟩:=hv3.2 hkA
    rw[Yi]at e1;cases e1;exact e2.keeps QD
   ·obtain⟨c0,v0,e1,e2,e3⟩:=(hva "n" (.int n) (by rfl')).2 (.inl (by rw[hk];decide))
    rw[hl1]at e1;cases e1;exact⟨v0,e2,e3⟩
  have aqG:∀h',bH al s5.heap h'->js w h':=λh' q=>Mam.la h' λb o e=>q b o (Keeps.all Kl.kp b o e) λz=>by rw[z,ajI]at e;cases e
  have h10:cnt<=2^10:=aq Q6 (by decide);obtain⟨it5,j5,il5,_⟩:=id ac5;refine ai (M0 (oz w) Q5 nZ 10 x 0 cnt abT (cf _) (by rw[gM];exact h10) (by rw[gM];exact cw (C7 x) (bO (by decide) hc1)) (A.deeper env) _ s5 G2 vs5 (bh cnt 0) ((bq.deeper env).le (by decide)) am5 x5.lo I ac5 gq aqG (eO (by rfl) r5)) (λv s6 q=>?_) λ_ _ e=>e;obtain⟨rfl,t6,⟨h6,tk6,hs6⟩,kb6,ac6⟩:=q;have e6:(bh cnt 0).take 0++dh n (cnt - 0) x++(bh cnt 0).drop cnt=fL n x:=by
   unfold fL;rw[<-Q0,List.take_zero,iO,gM,S7 (by rw[gq];exact cf _),c9]
  rw[e6]at ac6;have u6:Upd (λa=>a=al) s5 s6:=⟨h6,tk6,hs6,by rw[hs6]at kb6;exactλb o ne e=>kb6 b o e ne⟩
  have CL:=Kl.write (aY.mpr rfl) u6 t6 ac6;refine dJ ?_;exact fin _ s6 _ (by
   have e:put "a_digits" (.lst ((fL n x).map di)) (sC x n ((bh cnt 0).map di))=sC x n ((fL n x).map di):=by rfl'
   rw[e]at CL;exact CL) (bH.trans (bH.of QD) kb6) rfl
end Internal.I
namespace Internal.Z
section
structure PS(T:ek):Prop where
 i2d:∀a n:Nat,1<=n->n<=300->a<2^600->T.fn "_int2digits" [di a,di n]=some (dl (fL n a))
 d2i:∀(l:List Nat)(n:Nat),1<=n->n*l.length<=900->(∀d∈l,d<2^n)->T.fn "_digits2int" [dl l,di n]=some (di (pn n l))
def D1(T:ek):Prop:=∀x b n:Nat,x<2^2000->0<b->b<2^900->T.fn "_div2n1n" [di x,di b,di n]=some (.tup [di (x/b),di (x%b)])
def D2(T:ek):Prop:=∀a b:Nat,a<2^550->0<b->b<2^100->T.fn "_divmod_pos" [di a,di b]=some (.tup [di (a/b),di (a%b)])
theorem smN{x:Nat}(h:x<2^990):sm (x:Int)=true:=zp (cA h) (by decide)
theorem Yo{prim:Str->Option (List D->Option D)}(hp:prim "_div2n1n"=none)(r:Nat):D1 (Tn prim (r+1)):=λx b n hx hb DN=>by
 have h:=ajt (T:=Tn prim r) (sT prim r) x b n (by
  rw[xM];have:=ki hx;omega) (by omega) (smN (cw DN (bO (by decide) (by decide))))
 rw[bP _ (by omega),cC _ (by omega)]at h;exact fv (["a","b","n"]:List Str) hp h
section
variable{T:ek}
theorem VI{a n:Nat}(ha:a<2^990)(hn:n<=100000):aE .LShift (.int a) (.int n)=some (di (a*2^n)):=by
 rw[IQ (smN ha) (by omega) (by omega),aR];show some (D.int _)=some (D.int _);congr 2
theorem acw(h1:D1 T)(a ad:D)(b n:Nat)(m:Nat)(hb:0<b)(DN:b<2^100)(hn:n<=100):∀(ds:List Nat)(o:Option (D×D))(s:Nat×List Nat),(∀d∈ds,d<2^n)->s.1<b->s.2.length+ds.length<=1000->
 ∃o',sG (Xa T vK ["q_digits"] (m+1)) vK (iU vF) vFB (ds.map di) (vS o a (di b) (di n) ad (di s.1) (s.2.map di)) ["q_digits"]=some (.nx (vS o' a (di b) (di n) ad (di (ds.foldl (sX n b) s).1) ((ds.foldl (sX n b) s).2.map di)) ["q_digits"]):=λds=>by
 induction ds with
 |nil=>intro o s _ _ _;exact⟨o,rfl⟩
 |cons d ds ih=>
  intro o s hd hs hl;have f9:=ei;rw[bE]at hl;have hdn:=hd d (aA ..);have acn:(2:Nat)^n<=2^100:=bO (by decide) hn;have hx:s.1*2^n+d<2^2000:=by
   have e1:(s.1+1)*2^n<=2^100*2^100:=xy (by omega) acn;rw[Hr,ael]at e1;have e2:(2:Nat)^100*2^100<=2^2000:=by rw[<-iD];exact bO (by decide) (by decide)
   omega
  obtain⟨o',ho⟩:=ih (some (di d,di ((s.1*2^n+d)/b))) (sX n b s d) (λx hx=>hd x (aD _ hx)) (dP _ hb) (by
   show(s.2++[_]).length+_<=_;rw[aG];simp;omega)
  refine⟨o',?_⟩;rw[bJ];refine sR ?_ ho (by rw[show di d=.int d from rfl];exact ay.mpr ⟨_,acj o a ad (di b) (di n) (di s.1) (.int d) (s.2.map di)⟩);have h2:=h1 (s.1*2^n+d) b n hx hb (cw DN (bO (by decide) (by decide)));have h3:=Vw (T:=T) o a ad b n s.1 d ((s.1*2^n+d)/b:Nat) ((s.1*2^n+d)%b:Nat) (s.2.map di) m (by
   rw[VI (dF hs (dF DN (jj (by decide) (by decide)))) (by omega),ag];have:aE .Add (di (s.1*2^n)) (.int d)=some (di (s.1*2^n+d)):=by
    show some (D.int _)=some (D.int _);rw[ff]
   rw[this,ag,ag];exact h2) (by rw[aj];omega)
  refine h3.trans ?_;show some (Fl.nx (vS _ a _ _ ad _ (s.2.map di++[di ((s.1*2^n+d)/b)])) _)=some (Fl.nx (vS _ a _ _ ad _ ((s.2++[(s.1*2^n+d)/b]).map di)) _);rw[da];rfl
theorem v_all(hP:PS T)(h1:D1 T)(a b:Nat)(ha:a<2^550)(hb:0<b)(DN:b<2^100):Xa T vK ["q_digits"] 20 vB [("a",di a),("b",di b)] []=some (.rt (.tup [di (a/b),di (a%b)])):=by
 have f9:=ei;obtain⟨n,hn⟩:∃n,n=jh b:=⟨_,rfl⟩;have nZ:1<=n:=by rw[hn];unfold jh;rw[if_neg (by omega)];omega
 have hn2:n<=100:=by rw[hn];exact ki DN
 have hc:=zu (n:=n) (x:=a) nZ;have hba:=ki ha;have hdl:(fL n a).length=pJ n a:=fF _ _ _;have oo:pJ n a<=n*pJ n a:=tL _ nZ;obtain⟨s,hs⟩:∃s,s=(fL n a).reverse.foldl (sX n b) (0,[]):=⟨_,rfl⟩;obtain⟨k1,k2,k3,k4⟩:=QR n b hb (fL n a).reverse (λd hd=>rW n _ _ d (rB.mp hd));rw[<-hs,Gl,MX nZ]at k1 k2;rw[<-hs]at k3 k4;rw[d9]at k4;obtain⟨o',ho⟩:=acw (T:=T) h1 (di a) (dl (fL n a)) b n 18 hb DN hn2 (fL n a).reverse none (0,[]) (λd hd=>rW n _ _ d (rB.mp hd)) hb (by rw[d9];simp;omega);rw[<-hs]at ho;refine fV (bs:=[ak 0 vB,ak 1 vB,ak 2 vB,ak 3 vB,ak 4 vB,ak 5 vB,ak 6 vB,ak 7 vB]) ?_;refine fh (cb (di n) (tr (b:=pg .j0 (di b) []) (by show some (D.int (cq (b:Int)))=_;rw[xM,<-hn];rfl))) ?_;refine fh (cb (dl (fL n a)) (tr (b:=T.fn "_int2digits" [di a,di n]) (hP.i2d a n nZ (by omega) (cw ha (bO (by decide) (by decide)))))) ?_;refine fh (cb (.int 0) (by rfl')) ?_;refine fh (cb (.lst []) (by rfl')) ?_;refine fh (zg (ds:=(fL n a).reverse.map di) (tr (b:=some ((fL n a).map di).reverse) (by rw[DW])) (tr ho)) ?_;refine fh (aci (ds:=s.2.map di) (by rw[aj];omega) (by rcases o' with _|⟨x,y⟩<;>rfl') (by rfl') (by rfl')) ?_;have hq:T.fn "_digits2int" [.lst (s.2.map di).reverse,di n]=some (di (a/b)):=by
  rw[<-DW];have:=hP.d2i s.2.reverse n nZ (by rw[d9,k4,hdl];omega) (λd hd=>k3 d (rB.mp hd));rw[<-Gl,Zc,k2]at this;exact this
 refine fh (Vi (di (a/b),false) (aqh (tr hq (by rcases o' with _|⟨x,y⟩<;>rfl')) rfl (by rcases o' with _|⟨x,y⟩<;>rfl'))) ?_;rw[<-k1];exact dm (dW _ (by rcases o' with _|⟨x,y⟩<;>rfl'))
end
end
section
theorem ajJ(hp:prim "_divmod_pos"=none)(r)(hP:PS (Tn prim r))(h1:D1 (Tn prim r)):D2 (Tn prim (r+1)):=λa b ha hb DN=>
 fv (["a","b"]:List Str) hp (v_all hP h1 a b ha hb DN)
def Yp(a b:Int):D:=.tup [.int (a.fdiv b),.int (a.fmod b)]
def D3(T:ek):Prop:=∀a b:Int,0<=a->a<2^550->0<b->b<2^100->T.fn "int_divmod" [.int a,.int b]=some (Yp a b)
def D4(T:ek):Prop:=∀a b:Int,-(2^540)<a->a<2^540->0<b->b<2^100->T.fn "int_divmod" [.int a,.int b]=some (Yp a b)
def D5(T:ek):Prop:=∀a b:Int,-(2^530)<a->a<2^530->b≠0->-(2^100)<b->b<2^100->T.fn "int_divmod" [.int a,.int b]=some (Yp a b)
section
variable{T:ek}
def iK2:bY:=uv "int_divmod"
def iB2:List Stmt:=bo "int_divmod"
abbrev iI1:Stmt:=ak 0 iB2
abbrev Yq:Stmt:=ak 0 (dN iI1)
abbrev iI3:Stmt:=ak 0 (dN Yq)
abbrev iS(a b:Int):cy:=[("a",.int a),("b",.int b)]
theorem C8(a):cX a= -a - 1:=by
 unfold cX;lia
theorem acy(a b)(q)(e1:(b==0)=false)(e2:decide (b<0)=false)(e3:decide (a<0)=false)(h:T.fn "_divmod_pos" [.int a,.int b]=some q):Xa T iK2 [] 20 iB2 (iS a b) []=some (.rt q):=by
 have e1:(some (b==0):Option Bool)=some false:=by rw[e1]
 have e2:(some (decide (b<0)):Option Bool)=some false:=by rw[e2]
 have e3:(some (decide (a<0)):Option Bool)=some false:=by rw[e3]
 refine fV (bs:=[iI1]) (dm ?_);rw[sQ false (tr e1),if_neg aF];refine fV (bs:=[Yq]) (dm ?_);rw[sQ false (tr e2),if_neg aF];refine fV (bs:=[iI3]) (dm ?_);rw[sQ false (tr e3),if_neg aF];exact fV (bs:=[ak 0 (dN iI3)]) (dm (dW _ (tr h)))
theorem VJ(a b q r)(e1:(b==0)=false)(e2:decide (b<0)=false)(e3:decide (a<0)=true)(h:T.fn "int_divmod" [.int (cX a),.int b]=some (.tup [.int q,.int r])):Xa T iK2 [] 20 iB2 (iS a b) []=some (.rt (.tup [.int (cX q),.int (b+cX r)])):=by
 have e1:(some (b==0):Option Bool)=some false:=by rw[e1]
 have e2:(some (decide (b<0)):Option Bool)=some false:=by rw[e2]
 have e3:(some (decide (a<0)):Option Bool)=some true:=by rw[e3]
 refine fV (bs:=[iI1]) (dm ?_);rw[sQ false (tr e1),if_neg aF];refine fV (bs:=[Yq]) (dm ?_);rw[sQ false (tr e2),if_neg aF];refine fV (bs:=[iI3]) ?_;refine fX (b:=[ak 0 (bp iI3),ak 1 (bp iI3)]) (tr e3) ?_;refine fV (bs:=[ak 0 (bp iI3),ak 1 (bp iI3)]) ?_;refine fh (mU (.tup [.int q,.int r],false) (n8 (d:=.tup [.int q,.int r]) (tr h))) ?_;exact dm (dW _ (by rfl'))
theorem VK(a b q r)(e1:(b==0)=false)(e2:decide (b<0)=true)(h:T.fn "int_divmod" [.int (-a),.int (-b)]=some (.tup [.int q,.int r])):Xa T iK2 [] 20 iB2 (iS a b) []=some (.rt (.tup [.int q,.int (-r)])):=by
 have e1:(some (b==0):Option Bool)=some false:=by rw[e1]
 have e2:(some (decide (b<0)):Option Bool)=some true:=by rw[e2]
 refine fV (bs:=[iI1]) (dm ?_);rw[sQ false (tr e1),if_neg aF];refine fV (bs:=[Yq]) ?_;refine fX (b:=[ak 0 (bp Yq),ak 1 (bp Yq)]) (tr e2) ?_;refine fV (bs:=[ak 0 (bp Yq),ak 1 (bp Yq)]) ?_;refine fh (mU (.tup [.int q,.int r],false) (n8 (d:=.tup [.int q,.int r]) (tr h))) ?_;exact dm (dW _ (by rfl'))
end
theorem ajK(hp:prim "int_divmod"=none)(r:Nat)(h:D2 (Tn prim r)):D3 (Tn prim (r+1)):=λa b ha ha2 hb DN=>by
 obtain⟨x,rfl⟩:=fS ha;obtain⟨y,rfl⟩:=fS (DA hb);have hq:=h x y (by exact_mod_cast ha2) (by lia) (by exact_mod_cast DN);have hr:Yp (x:Int) (y:Int)=.tup [di (x/y),di (x%y)]:=by
  unfold Yp;rw[bP _ (by lia),cC _ (by lia)];rfl
 rw[hr];exact fv (["a","b"]:List Str) hp (acy x y _ (beq_eq_false_iff_ne.mpr (by lia)) (decide_eq_false (by lia)) (decide_eq_false (by lia)) hq)
theorem ajL(hp:prim "int_divmod"=none)(r:Nat)(h2:D3 (Tn prim (r+1)))(h:D3 (Tn prim r)):D4 (Tn prim (r+1)):=λa b ha ha2 hb DN=>by
 have aqK:(2:Int)^540<2^550:=by decide
 by_cases h0:0<=a
 ·exact h2 a b h0 (by lia) hb DN
 ·have hn:cX a= -a - 1:=C8 a
  have hq:=h (-a - 1) b (by lia) (by lia) hb DN;rw[<-hn]at hq;have:=fv (prim:=prim) (r:=r) (ds:=[.int a,.int b]) (["a","b"]:List Str) hp (VJ a b _ _ (beq_eq_false_iff_ne.mpr (by lia)) (decide_eq_false (by lia)) (decide_eq_true (by lia)) hq);refine this.trans ?_;unfold Yp;rw[hn,C8,C8,bP _ (by lia),cC _ (by lia),bP _ (by lia),cC _ (by lia)];have e1:=Int.mul_ediv_add_emod (-a - 1) b;have e2:=Int.emod_nonneg (-a - 1) (Int.ne_of_gt hb);have e3:=Int.emod_lt_of_pos (-a - 1) hb;have e4:a=b*(-((-a - 1)/b) - 1)+(b+(-((-a - 1)%b) - 1)):=by
   rw[Int.mul_sub,aen];lia
  have e5:a/b= -((-a - 1)/b) - 1:=by
   have:=jl hb (a:=a) (r:=b+(-((-a - 1)%b) - 1)) (q:= -((-a - 1)/b) - 1);exact(this.mpr ⟨by lia,by lia,by lia⟩).1
  have e6:a%b=b+(-((-a - 1)%b) - 1):=by
   have:=jl hb (a:=a) (r:=b+(-((-a - 1)%b) - 1)) (q:= -((-a - 1)/b) - 1);exact(this.mpr ⟨by lia,by lia,by lia⟩).2
  rw[e5,e6]
theorem ajM(hp:prim "int_divmod"=none)(r:Nat)(h2:D4 (Tn prim (r+1)))(h:D4 (Tn prim r)):D5 (Tn prim (r+1)):=λa b ha ha2 hb hb1 DN=>by
 have aqK:(2:Int)^530<2^540:=by decide
 by_cases h0:0<b
 ·exact h2 a b (by lia) (by lia) h0 DN
 ·have hq:=h (-a) (-b) (by lia) (by lia) (by lia) (by lia)
  have:=fv (prim:=prim) (r:=r) (ds:=[.int a,.int b]) (["a","b"]:List Str) hp (VK a b _ _ (beq_eq_false_iff_ne.mpr (by lia)) (decide_eq_true (by lia)) hq);refine this.trans ?_;unfold Yp;rw[Ha,Hb,aeo]
end
section
structure PL(T:ek):Prop where
 tup:∀l:List Int,l.length<=1000->T.fn "_law_plain" [.tup (l.map .int),.tup (l.map .int)]=some (.bool true)
 lst:∀l:List Int,l.length<=1000->T.fn "_law_plain" [.lst (l.map .int),.lst (l.map .int)]=some (.bool true)
def fK:bY:=uv "_law_plain"
def fB:List Stmt:=bo "_law_plain"
def fC:ae:=pH (IL (bj (ak 0 fB)))
section
variable{T:ek}
theorem zy(n):∀l:List Int,sq (rH n) (l.map .int) (l.map .int)=some true:=by
 intro zx
 induction zx with
 |nil=>
  exact rfl
 |cons x l ih=>
  rw[bJ];have h1:rH n (.int x) (.int x)=some true:=by
   cases n<;>(show some (x==x)=some true;rw[beq_self_eq_true])
  show((rH n (.int x) (.int x)).bind λx=>(sq (rH n) (l.map .int) (l.map .int)).map λy=>x&&y)=_;rw[h1,ih];rfl
theorem f_c(told due)(x):iM (dX T 28) [("told",told),("due",due)] fC (.int x)=some []:=by rfl'
theorem Q7(told due:D)(l:List Int)(hi:(dX T 28).d fK [("told",told),("due",due)] (ql fC)=some told)(ht:items told=some (l.map .int)):(dX T 29).d fK [("told",told),("due",due)] fC=some (.lst []):=by
 have e:=iw (T:=T) (V:=dX T 28) (ks:=fK) (σ:=[("told",told),("due",due)]) (e:=fC) (d:=told) (φ:=D.int) (xs:=l) (g:=λ_=>[]) (by rfl') hi ht (λx hx=>f_c ..) (by rw[sV];exact dk _);rw[sV]at e;exact e
theorem f_tup(l l2):(dX T 31).d fK [("told",.tup l),("due",.tup l2)] (bj (ak 0 fB))=((cmp .Eq (.tup l) (.tup l2)).map D.bool).bind λd=>(nr d).bind λb=>match Hq,b with|.And,false=>some d|.Or,true=>some d|_,_=>(((dX T 29).d fK [("told",.tup l),("due",.tup l2)] fC).bind λd=>cmp .Eq d (.lst [])).map D.bool:=by rfl'
theorem ajO(l l2):(dX T 31).d fK [("told",.lst l),("due",.lst l2)] (bj (ak 0 fB))=((cmp .Eq (.lst l) (.lst l2)).map D.bool).bind λd=>(nr d).bind λb=>match Hq,b with|.And,false=>some d|.Or,true=>some d|_,_=>(((dX T 29).d fK [("told",.lst l),("due",.lst l2)] fC).bind λd=>cmp .Eq d (.lst [])).map D.bool:=by rfl'
theorem acA(l:List Int):Xa T fK [] 20 fB [("told",.tup (l.map .int)),("due",.tup (l.map .int))] []=some (.rt (.bool true)):=by
 refine fV (bs:=[ak 0 fB]) (dm (dW _ ((f_tup _ _).trans ?_)));have h1:cmp .Eq (.tup (l.map .int)) (.tup (l.map .int))=some true:=by
  show(if(l.map D.int).length=(l.map D.int).length then sq (rH 39) (l.map .int) (l.map .int)else none)=_;rw[if_pos rfl,zy]
 rw[h1,Q7 _ _ l (by rfl') rfl,ag,C4];rfl
theorem acB(l:List Int):Xa T fK [] 20 fB [("told",.lst (l.map .int)),("due",.lst (l.map .int))] []=some (.rt (.bool true)):=by
 refine fV (bs:=[ak 0 fB]) (dm (dW _ ((ajO _ _).trans ?_)));have h1:cmp .Eq (.lst (l.map .int)) (.lst (l.map .int))=some true:=by
  show dG (if(l.map D.int).length=(l.map D.int).length then sq (rH 39) (l.map .int) (l.map .int)else some false) _=_;rw[if_pos rfl,zy];rfl
 rw[h1,Q7 _ _ l (by rfl') rfl,ag,C4];rfl
end
theorem Yr(hp:prim "_law_plain"=none)(r:Nat):PL (Tn prim (r+1)):=
 ⟨λl _=>fv (["told","due"]:List Str) hp (acA l),λl _=>fv (["told","due"]:List Str) hp (acB l)⟩
def FF(T:ek):Prop:=∀number sY Gr rest:Int,-(2^520)<number->number<2^520->0<sY->sY<2^100->number=sY*Gr+rest->0<=rest->rest<sY->T.fn "_law_fourfold" [.int number,.int sY,.int Gr,.int rest]=some (.bool true)
section
variable{T:ek}
def uK:bY:=uv "_law_fourfold"
def uB:List Stmt:=bo "_law_fourfold"
abbrev uS(n d q r:Int):cy:=[("number",.int n),("divisor",.int d),("quotient",.int q),("rest",.int r)]
theorem acC(n d q r less left)(t1 t2)(h0:(if decide (0<r)=true then some (D.tup [.int (-q - 1),.int (d - r)])else some (.tup [.int (-q),.int 0]))=some (.tup [.int less,.int left]))
(h1:((T.fn "int_divmod" [.int n,.int d]).bind λa=>(T.fn "int_divmod" [.int (-n),.int (-d)]).bind λb=>aE .Add a b)=some t1)(h2:T.fn "_law_plain" [t1,.tup [.int q,.int r,.int q,.int (-r)]]=some (.bool true))
(h3:((T.fn "int_divmod" [.int (-n),.int d]).bind λa=>(T.fn "int_divmod" [.int n,.int (-d)]).bind λb=>aE .Add a b)=some t2)(h4:T.fn "_law_plain" [t2,.tup [.int less,.int left,.int less,.int (-left)]]=some (.bool true)):
 Xa T uK [] 20 uB (uS n d q r) []=some (.rt (.bool true)):=by
 refine fV (bs:=[ak 0 uB,ak 1 uB,ak 2 uB]) ?_;refine fh (mU (.tup [.int less,.int left],false) (n8 (d:=.tup [.int less,.int left]) (tr h0))) ?_;refine fh (cb (.bool true) (tr (b:=(((T.fn "int_divmod" [.int n,.int d]).bind λa=>(T.fn "int_divmod" [.int (-n),.int (-d)]).bind λb=>aE .Add a b).bind λt=>some [t,.tup [.int q,.int r,.int q,.int (-r)]]).bind λds=>T.fn "_law_plain" ds) (by rw[h1];exact h2))) ?_;exact dm (dW _ (tr (b:=(((T.fn "int_divmod" [.int (-n),.int d]).bind λa=>(T.fn "int_divmod" [.int n,.int (-d)]).bind λb=>aE .Add a b).bind λt=>some [t,.tup [.int less,.int left,.int less,.int (-left)]]).bind λds=>T.fn "_law_plain" ds) (by rw[h3];exact h4)))
end
theorem ajP(hp:prim "_law_fourfold"=none)(r:Nat)(hP:PL (Tn prim r))(hD:D5 (Tn prim r)):FF (Tn prim (r+1)):=λn d q s nZ hn2 hd hd2 e hr1 hr2=>by
 have axN:(2:Int)^520<2^530:=by decide
 have q1:n.fdiv d=q/\n.fmod d=s:=by
  rw[bP _ (by lia),cC _ (by lia)];exact(jl hd).mpr ⟨by lia,hr1,hr2⟩
 obtain⟨less,left,h0,q2⟩:∃less left:Int,(if decide (0<s)=true then some (D.tup [.int (-q - 1),.int (d - s)])else some (.tup [.int (-q),.int 0]))=some (.tup [.int less,.int left])/\(-n).fdiv d=less/\(-n).fmod d=left:=by
  by_cases h:0<s
  ·refine⟨-q - 1,d - s,by rw[if_pos (decide_eq_true h)],?_⟩
   rw[bP _ (by lia),cC _ (by lia)];exact(jl hd).mpr ⟨by rw[e,Int.mul_sub,aen];lia,by lia,by lia⟩
  ·refine⟨-q,0,by rw[if_neg (by simpa using h)],?_⟩
   rw[bP _ (by lia),cC _ (by lia)];exact(jl hd).mpr ⟨by rw[e,aen];lia,by lia,by lia⟩
 have a1:=hD n d (by lia) (by lia) (by lia) (by lia) hd2;have a2:=hD (-n) (-d) (by lia) (by lia) (by lia) (by lia) (by lia);have a3:=hD (-n) d (by lia) (by lia) (by lia) (by lia) hd2;have a4:=hD n (-d) (by lia) (by lia) (by lia) (by lia) (by lia);have f2:n.fdiv (-d)=(-n).fdiv d/\n.fmod (-d)= -((-n).fmod d):=by
  have e1:=Ha (a:= -n) (b:=d);have e2:=Hb (a:= -n) (b:=d);rw[aeo]at e1 e2;exact⟨e1,e2⟩
 unfold Yp at a1 a2 a3 a4;rw[Ha,Hb,q1.1,q1.2]at a2;rw[q1.1,q1.2]at a1;rw[q2.1,q2.2]at a3;rw[f2.1,f2.2,q2.1,q2.2]at a4;refine fv (ds:=[.int n,.int d,.int q,.int s]) (["number","divisor","quotient","rest"]:List Str) hp (acC n d q s less left _ _ h0 (by rw[a1,a2];rfl) (hP.tup [q,s,q,-s] (by simp)) (by rw[a3,a4];rfl) (hP.tup [less,left,less,-left] (by simp)))
end
end Internal.Z
namespace Internal.I
open Internal.Z (dh fF fL pJ jh pn ju)
def Q8:List D->Option (D×D)
 |[]=>none
 |a::l=>match l with
  |[]=>none
  |b::l=>match l with
   |[]=>some (a,b)
   |_::_=>none
theorem uE(h:Q8 ds=some x):ds=[x.1,x.2]:=by
 cases ds with
 |nil=>exact no h
 |cons a l=>cases l with
  |nil=>exact no h
  |cons b l=>cases l with
   |nil=>exact af h▸rfl
   |cons=>exact no h
def BY:D->Option Int
 |.int a=>some a
 |_=>none
theorem lW(h:BY d=some a):d=.int a:=by
 cases d<;>first|exact no h|exact af h▸rfl
def Gs:D->Option (List D)
 |.lst a=>some a
 |_=>none
theorem oL(h:Gs d=some a):d=.lst a:=by
 cases d<;>first|exact no h|exact af h▸rfl
def pI(ds:List D):Option D:=(Q8 ds).bind λx=>(BY x.1).bind λa=>(BY x.2).bind λn=>if 0<=a/\a<2^600/\1<=n/\n<=300 then some (.lst ((fL n.toNat a.toNat).map di))else none
def pD(ds:List D):Option D:=(Q8 ds).bind λx=>(Gs x.1).bind λxs=>(gO xs).bind λns=>(BY x.2).bind λn=>if 1<=n/\n.toNat*ns.length<=900/\(∀x∈ns,0<=x/\x<2^n.toNat)then some (.int (j8 n.toNat ns))else none
def jw(f:Str):Option (List D->Option D):=if f=("_int2digits":Str)then some pI else if f=("_digits2int":Str)then some pD else none
theorem zz:∀f,(f==("_int2digits":Str))=false->(f==("_digits2int":Str))=false->jw f=none:=λf h1 h2=>by
 unfold jw;rw[if_neg (by simpa using h1),if_neg (by simpa using h2)]
inductive Wm(h:Heap)(d:tK)(pos:Pos)(qual:Str)(P:Addr):Prop
 |mk (a:Addr) (o:Obj) (pm:Value) (c:Addr) (doc:Value) (g:Gv h d.name (.ref a)) (ho:h.get? a=some o) (hd:o.data=.func (cO d.name d.params d.body d.scope pm (.ref c) doc)) (rc:h.CodeRec (.ref c) d.name) (wm:jJ h c P pos qual)
def SK(w:World)(h:Heap):Prop:=js w h/\(∃P,Wm h ly (bU eI) eQ P)/\∃P,Wm h jL (bU dI) dQ P
theorem fnI(r)(ds):(Internal.Z.Tn jw (r+1)).fn "_int2digits" ds=pI ds:=by rfl'
theorem fnD(r)(ds):(Internal.Z.Tn jw (r+1)).fn "_digits2int" ds=pD ds:=by rfl'
theorem ajQ(a n:Nat)(h1:1<=n)(h2:n<=300)(h3:a<2^600):pI [.int a,.int n]=some (.lst ((fL n a).map di)):=by
 have h4:(a:Int)<2^600:=by
  have e:((2^600:Nat):Int)=2^600:=gH 2 600;rw[<-e];exact o8.mpr h3
 refine oB (a:=(.int a,.int n)) rfl (oB (a:=(a:Int)) rfl (oB (a:=(n:Int)) rfl ?_));rw[if_pos ⟨bG _,h4,by omega,by omega⟩,aR,aR]
theorem acD(r:Nat):Internal.Z.PS (Internal.Z.Tn jw (r+1)) where
 i2d a n h1 h2 h3:=by
  rw[fnI];exact ajQ a n h1 h2 h3
 d2i l n h1 h2 h3:=by
  rw[fnD];refine oB (a:=(.lst (l.map di),.int n)) rfl (oB (a:=l.map di) rfl (oB (Internal.Z.ints_map l) (oB (a:=(n:Int)) rfl ?_)));have hb:∀x∈l.map fQ,0<=x/\x<2^(n:Int).toNat:=λx hx=>by
   obtain⟨y,hy,rfl⟩:=Lv hx;have:=h3 y hy;rw[aR];refine⟨bG _,?_⟩;have e:((2^n:Nat):Int)=2^n:=gH 2 n;rw[<-e];exact o8.mpr this
  rw[if_pos ⟨by omega,by rw[aR,aj];exact h2,hb⟩,aR,ju];rfl
theorem dz.Q9(am:dz A La s)(h:∀h,La h->La' h):dz A La' s:=⟨am.hh,am.nb,am.nl,am.gl,am.tk,am.un,λx k=>h x (am.la x k)⟩
theorem jJ.place(x:jJ h c P pos q):Place h c P pos q/\∃ps c',h.get? P=some (tabObj ps)/\codeAmong pos ps.toList=some (.ref c'):=by
 obtain⟨ps,c',h1,h2,h3,h4⟩:=x.tab;exact⟨⟨x.hd,ps,h1,h2,.inr ⟨c',h3,h4⟩⟩,ps,c',h1,h3⟩
theorem iW.orP(lo:iW F h)(e:h.get? P=some o):iW (λa=>F a\/a=P) h:=λa q=>by
 rcases q with q|q
 ·exact lo a q
 ·rw[q,e];rfl
theorem ajR(h)(ds)(d)(la:SK w h)(e:pI ds=some d):∃a o fd,Gv h "_int2digits" (.ref a)/\h.get? a=some o/\o.data=.func fd/\
 ∀(A:aC)(E:Value->ah->Prop) F s vs,Bu 50 A->dz A (SK w) s->iW F s.heap->bV h s.heap->aZ s.heap F ds vs->wpAny (model pw w) A (call (.ref a) vs) (gW F s d) E s:=by
 obtain⟨_,⟨P,a,o,pm,c,doc,g1,g2,g3,g4,g5⟩,_⟩:=la;rw[kj]at g1;refine⟨a,o,_,g1,g2,g3,λA E F s vs bu am lo kh rs=>?_⟩;obtain⟨z,e1,e⟩:=aO e;obtain⟨x,e2,e⟩:=aO e;obtain⟨n,e3,e⟩:=aO e;obtain⟨hc,e⟩:=bx e;rw[uE e1,lW e2,lW e3]at rs;subst e;obtain⟨x,rfl⟩:=fS hc.1;obtain⟨n,rfl⟩:=fS (show 0<=n by omega);have w5:=g5.zv kh;obtain⟨pl,ps,c',p1,p2⟩:=jJ.place w5;have hx:x<2^600:=by
  have e:((2^600:Nat):Int)=2^600:=gH 2 600;have:=hc.2.1;rw[<-e]at this;exact o8.mp this
 refine ai (bw am.tk (Gq (F:=λa=>F a\/a=P) (kh _ _ g2) g3 (g4.keeps kh) pl (.inr rfl) ⟨by have:=bu.1;omega,by have:=bu.2;omega⟩ (dz.Q9 am λ_ q=>q.1) (iW.orP lo p1) (eO (ds:=[.int x,.int n]) rfl rs) hx (by omega) (by omega))) (λv s' q=>?_) λ_ _ e=>e;obtain⟨t,⟨h2,tk,rfl⟩,_,ka,_,r⟩:=q;rw[aR,aR];exact⟨⟨h2,tk,rfl,ka ⟨ps,c',p1,p2⟩⟩,r.less λb q=>.inl (.inl q)⟩
end Internal.I
namespace Internal.I
theorem zA:∀{ds:List D}{ns:List Int},gO ds=some ns->ds=ns.map .int:=by
 intro zx
 induction zx with
 |nil=>
  rintro ns h;cases h;rfl
 |cons d ds ih=>
  rintro ns h;cases d<;>first|(cases h;done)|skip
  rename_i i;have h:(gO ds).map (i::·)=some ns:=h;obtain⟨ms,h1,rfl⟩:=dH h;rw[ih h1];rfl
theorem Ra(ns:List Int):(ns.map D.int).all nJ=true:=by
 induction ns with
 |nil=>rfl
 |cons d ds ih=>rw[bJ,qO,ih];rfl
theorem ajS(h:Heap)(ds:List D)(d:D)(la:SK w h)(e:pD ds=some d):∃a o fd,Gv h "_digits2int" (.ref a)/\h.get? a=some o/\o.data=.func fd/\
 ∀(A:aC)(E:Value->ah->Prop) F s vs,Bu 50 A->dz A (SK w) s->iW F s.heap->bV h s.heap->aZ s.heap F ds vs->wpAny (model pw w) A (call (.ref a) vs) (gW F s d) E s:=by
 obtain⟨_,_,P,a,o,pm,c,doc,g1,g2,g3,g4,g5⟩:=la;rw[uo]at g1;refine⟨a,o,_,g1,g2,g3,λA E F s vs bu am lo kh rs=>?_⟩;obtain⟨z,e1,e⟩:=aO e;obtain⟨xs,e2,e⟩:=aO e;obtain⟨ns,Cv,e⟩:=aO e;obtain⟨n,e3,e⟩:=aO e;obtain⟨hc,e⟩:=bx e;rw[uE e1,oL e2,lW e3]at rs;subst e;cases zA Cv;obtain⟨n,rfl⟩:=fS (show 0<=n by lia);rw[aR]at hc⊢;have w5:=g5.zv kh;obtain⟨pl,ps,c',p1,p2⟩:=jJ.place w5;have rs':aZ s.heap (λa=>F a\/a=P) [.lst (ns.map .int),.int n] vs:=by
  obtain⟨v,r,rfl,r1,r2⟩:=rs.eS;refine .cons ?_ (eO (ds:=[.int n]) rfl r2);obtain⟨b,vs,m,e,nb,g,q⟩:=r1.lst;refine e▸hO (λz=>?_) g (eO (Ra ns) q);rcases z with z|z
  ·exact nb z
  ·rw[z]at g
   have g:s.heap.get? P=some _:=g;rw[p1]at g;cases g
 refine ai (bw am.tk (Ga (F:=λa=>F a\/a=P) (kh _ _ g2) g3 (g4.keeps kh) pl (.inr rfl) ⟨by have:=bu.1;lia,by have:=bu.2;lia⟩ (dz.Q9 am λ_ q=>q.1) (iW.orP lo p1) rs' hc.2.1 (by lia) hc.2.2)) (λv s' q=>?_) λ_ _ e=>e;obtain⟨t,⟨h2,tk,rfl⟩,_,ka,_,r⟩:=q;exact⟨⟨h2,tk,rfl,ka ⟨ps,c',p1,p2⟩⟩,r.less λb q=>.inl (.inl q)⟩
theorem acE(w):FV pw w (SK w) (NS jw) 50:=U7 w (SK w) jw (λh q=>q.1) (λh f p ds d la hp e=>by
 unfold jw at hp;split at hp
 ·rename_i hf
  cases hp;subst hf;exact ajR h ds d la e
 ·split at hp
  ·rename_i hf
   cases hp;subst hf;exact ajS h ds d la e
  ·cases hp)
theorem Rb(w)(r):dU pw w (SK w) (Bu (r+50)) (Internal.Z.Tn jw r):=IG (acE w) 30 60 20 r
end Internal.I
end
section
open PySem PySem.W PyProof.Rows
namespace Internal.I
section
section
variable{prog:bb}{w:World}{A:aC}{E:Value->ah->Prop}{G F:Addr->Prop}{env:Env}{La:Heap->Prop}{Qq:aC->Prop}{V:Ev}{T:ek}{σ:cy}{s:ah}
theorem zD(VO:de prog w La Qq V)(bu:Qq A)(am:dz A La s)(x:In env G σ s.heap)(hk:env.scope.names.lookup f=some .globalImplicit)(hd1:(f==("__debug__":Str))=false)
(hg:Gv s.heap f (.ref fa))(ho:s.heap.get? fa=some o)(abL:o.data=.func fd)(h1:tP (V.d env.scope.names σ) args=some ds)
(k:∀s1 vs,Keeps s s1->1<=s1.toks->aZ s1.heap G ds vs->wpAny (model prog w) A (call (.ref fa) vs) Q E s1):wpAny (model prog w) A (eval (.Call (.Name f np) args [] pos) env) Q E s:=by
 have hp:=(j3 (env:=env) (pos:=pos) h1).1;show wpAny _ _ (do callWith pos (<-eval (.Name f np) env) [] (backTo pos (starEach args env)) []) _ _ _;refine ao (nH x hk hd1 (.inl hg) ?_);refine kA (o:=o) (fd:=fd) (dY hp ?_);refine ai (bw am.tk (nA VO bu am x h1)) (λvs s1 q1=>?_) λ_ _ e=>e;obtain⟨t1,k1,r1⟩:=q1;exact⟨⟨Keeps.all k1 _ _ ho,abL⟩,k s1 vs k1 t1 r1⟩
end
end
end Internal.I
namespace Internal.Z
section
structure US where
 ups:List Int
 before:Int
 mark:Int
def VL(s:US)(x:Int):Int:=8*min s.before (x - 256)+max s.before (x - 256)
def jV(s:US)(x:Int):US:=
 if x<256 then⟨s.ups,s.before,x⟩
 else if s.mark.fmod 2=1/\x - 256≠s.before then⟨s.ups++[VL s x],x - 256,0⟩else⟨s.ups,x - 256,0⟩
section
variable{T:ek}
def Hh:bY:=uv "_law_upsets"
def Ys:List Stmt:=bo "_law_upsets"
def SM:Stmt:=ak 1 Ys
def uF:List Stmt:=bp SM
def Rc:Stmt:=ak 1 uF
def upJ:Stmt:=ak 0 (dN Rc)
def Je(o:Option D)(S ups before mark:D):cy:=([("symbols",S),("mark",mark),("before",before),("upsets",ups)]:cy)++(match o with|none=>[]|some a=>[("symbol",a)])
theorem Jf(hT:S1 T)(o:Option D)(S ups before mark)(x):(dX T 31).b Hh (put "symbol" (.int x) (Je o S ups before mark)) (dx (ak 0 uF))=some false:=by
 have h1:cmp .IsNot (.bool (decide (x<256))) (.bool (decide (x<256)))=some false:=by
  show(some (_==_)).map (λx=> !x)=_;simp
 have h2:cmp .IsNot (.bool (decide (256<=x))) (.bool (decide (255<x)))=some false:=by
  show(some (_==_)).map (λx=> !x)=_;have:decide (256<=x)=decide (255<x):=by
   rw[fe,decide_eq_true_eq,decide_eq_true_eq];omega
  rw[this];simp
 have h3:cmp .IsNot (.bool (x==0)) (.bool (x==0))=some false:=by
  show(some (_==_)).map (λx=> !x)=_;simp
 refine tr (b:=Yl ((T.fn "ISTERMINAL" [.int x]).bind λa=>cmp .IsNot a (.bool (decide (x<256)))) (Yl ((T.fn "ISNONTERMINAL" [.int x]).bind λa=>cmp .IsNot a (.bool (decide (255<x)))) (Yl ((T.fn "ISEOF" [.int x]).bind λa=>cmp .IsNot a (.bool (x==0))) (some false)))) ?_ ?_
 ·rw[hT.tm,hT.nt,hT.eo,ag,ag,ag,h1,h2,h3];rfl
 ·rcases o with _|o<;>rfl'
theorem Rd(hT:S1 T)(o:Option D)(S)(ups before mark)(x)(n)(hx:x<256):
 Xa T Hh ["upsets"] (n+2) uF (g1 (fk Hh (iU SM) (.int x) (Je o S (.lst ups) before mark,["upsets"]))) (g2 (fk Hh (iU SM) (.int x) (Je o S (.lst ups) before mark,["upsets"])))=
  some (.nx (Je (some (.int x)) S (.lst ups) before (.int x)) ["upsets"]):=by
 have Mn:(some (decide (x<256)):Option Bool)=some true:=by rw[decide_eq_true hx]
 have hw:=Jf hT o S (.lst ups) before mark x;rcases o with _|o
 all_goals
  refine fV (bs:=[ak 0 uF,ak 1 uF]) ?_;refine cR (b:=[]) (tr hw) (fV (bs:=[]) rfl) ?_;refine lV (b:=[ak 0 (bp Rc)]) (tr Mn) (fV (bs:=[ak 0 (bp Rc)]) (fh (cb (.int x) (by rfl')) rfl)) ?_;rfl'
def upV(before x:Int):Option D:=(((((aE .Sub (.int x) (.int 256)).bind λd=>some [d]).bind λds=>some (.int before::ds)).bind λds=>cM .min ds).bind λm=>aE .Mult (.int 8) m).bind λa=>((((aE .Sub (.int x) (.int 256)).bind λd=>some [d]).bind λds=>some (.int before::ds)).bind λds=>cM .max ds).bind λb=>aE .Add a b
def upT(before mark x:Int):Option Bool:=Vo ((aE .Mod (.int mark) (.int 2)).bind λd=>cmp .Eq d (.int 1)) (Vo ((aE .Sub (.int x) (.int 256)).bind λd=>cmp .NotEq d (.int before)) (some true))
theorem Rf(hT:S1 T)(o:Option D)(S)(ups)(before mark:Int)(x)(n)(hx:¬x<256)(h1:upT before mark x=some true)(h2:upV before x=some v)(h3:aE .Sub (.int x) (.int 256)=some (.int y))(hl:ups.length+1<=eu):
 Xa T Hh ["upsets"] (n+3) uF (g1 (fk Hh (iU SM) (.int x) (Je o S (.lst ups) (.int before) (.int mark),["upsets"]))) (g2 (fk Hh (iU SM) (.int x) (Je o S (.lst ups) (.int before) (.int mark),["upsets"])))=
  some (.nx (Je (some (.int x)) S (.lst (ups++[v])) (.int y) (.int 0)) ["upsets"]):=by
 have Mn:(some (decide (x<256)):Option Bool)=some false:=by rw[decide_eq_false hx]
 have hw:=Jf hT o S (.lst ups) (.int before) (.int mark) x;rcases o with _|o
 all_goals
  refine fV (bs:=[ak 0 uF,ak 1 uF]) ?_;refine cR (b:=[]) (tr hw) (fV (bs:=[]) rfl) ?_;refine cR (b:=[upJ,ak 1 (dN Rc)]) (σ':=(Je (some (.int x)) S (.lst (ups++[v])) (.int y) (.int 0))) (own':=["upsets"]) (tr Mn) (fV (bs:=[upJ,ak 1 (dN Rc)]) ?_) rfl;refine lV (b:=[ak 0 (bp upJ)]) (σ':=(Je (some (.int x)) S (.lst (ups++[v])) (.int before) (.int mark))) (own':=["upsets"]) (tr h1) (fV (bs:=[ak 0 (bp upJ)]) (fh (C3 (ds:=ups) (n8 (tr h2)) hl) rfl)) ?_;exact fh (mT ["before","mark"] [Ah 0 (ak 1 (dN Rc)),Ah 1 (ak 1 (dN Rc))] (ey (n8 (tr h3)) (ey (n8 (d:=.int 0) (by rfl')) mR))) rfl
theorem Rg(hT:S1 T)(o:Option D)(S)(ups)(before mark:Int)(x)(n)(hx:¬x<256)(h1:upT before mark x=some false)(h3:aE .Sub (.int x) (.int 256)=some (.int y)):
 Xa T Hh ["upsets"] (n+3) uF (g1 (fk Hh (iU SM) (.int x) (Je o S (.lst ups) (.int before) (.int mark),["upsets"]))) (g2 (fk Hh (iU SM) (.int x) (Je o S (.lst ups) (.int before) (.int mark),["upsets"])))=
  some (.nx (Je (some (.int x)) S (.lst ups) (.int y) (.int 0)) ["upsets"]):=by
 have Mn:(some (decide (x<256)):Option Bool)=some false:=by rw[decide_eq_false hx]
 have hw:=Jf hT o S (.lst ups) (.int before) (.int mark) x;rcases o with _|o
 all_goals
  refine fV (bs:=[ak 0 uF,ak 1 uF]) ?_;refine cR (b:=[]) (tr hw) (fV (bs:=[]) rfl) ?_;refine cR (b:=[upJ,ak 1 (dN Rc)]) (σ':=(Je (some (.int x)) S (.lst ups) (.int y) (.int 0))) (own':=["upsets"]) (tr Mn) (fV (bs:=[upJ,ak 1 (dN Rc)]) ?_) rfl;refine cR (b:=[]) (σ':=(Je (some (.int x)) S (.lst ups) (.int before) (.int mark))) (own':=["upsets"]) (tr h1) (fV (bs:=[]) rfl) ?_;exact fh (mT ["before","mark"] [Ah 0 (ak 1 (dN Rc)),Ah 1 (ak 1 (dN Rc))] (ey (n8 (tr h3)) (ey (n8 (d:=.int 0) (by rfl')) mR))) rfl
end
end
section
theorem sub_int(a b:Int):aE .Sub (.int a) (.int b)=some (.int (a - b)):=by rfl'
theorem add_int(a b:Int):aE .Add (.int a) (.int b)=some (.int (a+b)):=by rfl'
theorem Rh(a:Int):aE .Mod (.int a) (.int 2)=some (.int (a.fmod 2)):=by rfl'
theorem VM(a b:Int):cM .min [.int a,.int b]=some (.int (if b<a then b else a)):=by rfl'
theorem VN(a b:Int):cM .max [.int a,.int b]=some (.int (if b>a then b else a)):=by rfl'
theorem acF(s:US)(x:Int)(h1:sm (min s.before (x - 256))=true):upV s.before x=some (.int (VL s x)):=by
 have e1:(if x - 256<s.before then x - 256 else s.before)=min s.before (x - 256):=by split<;>omega
 have e2:(if x - 256>s.before then x - 256 else s.before)=max s.before (x - 256):=by split<;>omega
 unfold upV VL;rw[sub_int,ag,ag,ag,VM,e1,ag,C1 (kH (by decide) (by decide)) h1,ag,ag,VN,e2,ag,add_int]
theorem acG(s:US)(x:Int):upT s.before s.mark x=some (decide (s.mark.fmod 2=1/\x - 256≠s.before)):=by
 have e1:cmp .Eq (.int (s.mark.fmod 2)) (.int 1)=some (s.mark.fmod 2==1):=rfl;have e2:cmp .NotEq (.int (x - 256)) (.int s.before)=some (!(x - 256==s.before)):=rfl;unfold upT;rw[Rh,sub_int,ag,ag,e1,e2];have f1:(s.mark.fmod 2==1)=decide (s.mark.fmod 2=1):=rfl;have f2:(x - 256==s.before)=decide (x - 256=s.before):=rfl;rw[f1,f2];by_cases h:s.mark.fmod 2=1
 ·by_cases g:x - 256=s.before
  ·have k:¬(s.mark.fmod 2=1/\x - 256≠s.before):=λq=>q.2 g
   rw[decide_eq_false k,decide_eq_true h,decide_eq_true g];rfl
  ·have k:s.mark.fmod 2=1/\x - 256≠s.before:=⟨h,g⟩
   rw[decide_eq_true k,decide_eq_true h,decide_eq_false g];rfl
 ·have k:¬(s.mark.fmod 2=1/\x - 256≠s.before):=λq=>h q.1
  rw[decide_eq_false k,decide_eq_false h];rfl
section
variable{T:ek}
def upD(o:Option D)(S:D)(s:US):cy:=Je o S (.lst (s.ups.map .int)) (.int s.before) (.int s.mark)
theorem VP(hT:S1 T)(o:Option D)(S:D)(s:US)(x:Int)(n:Nat)(h1:s.ups.length<=1000)(h2:sm (min s.before (x - 256))=true):
 Xa T Hh ["upsets"] (n+3) uF (g1 (fk Hh (iU SM) (.int x) (upD o S s,["upsets"]))) (g2 (fk Hh (iU SM) (.int x) (upD o S s,["upsets"])))=some (.nx (upD (some (.int x)) S (jV s x)) ["upsets"]):=by
 have f9:=ei;have ht:=acG s x;unfold jV;by_cases hx:x<256
 ·rw[if_pos hx]
  exact Rd hT o S (s.ups.map .int) (.int s.before) (.int s.mark) x (n+1) hx
 ·rw[if_neg hx]
  by_cases h:s.mark.fmod 2=1/\x - 256≠s.before
  ·rw[if_pos h]
   rw[decide_eq_true h]at ht;have:=Rf hT o S (s.ups.map .int) s.before s.mark x n hx ht (acF s x h2) (sub_int x 256) (by rw[aj];omega);refine xU this ?_;unfold upD;dsimp only;rw[da];rfl
  ·rw[if_neg h]
   rw[decide_eq_false h]at ht;exact Rg hT o S (s.ups.map .int) s.before s.mark x n hx ht (sub_int x 256)
end
end
section
section
variable{T:ek}
theorem M4(s:US)(x)(N)(h1:s.ups.length<=N)(h2:s.before.natAbs<=3000)(hx:x.natAbs<=2000):(jV s x).ups.length<=N+1/\(jV s x).before.natAbs<=3000:=by
 unfold jV;split
 ·exact⟨Nat.le_succ_of_le h1,h2⟩
 ·split
  ·dsimp only;rw[aG];simp;omega
  ·dsimp only;omega
theorem VQ(hT:S1 T)(S)(n):∀(xs:List Int)(o:Option D)(s:US)(N:Nat),s.ups.length<=N->s.before.natAbs<=3000->(∀x∈xs,x.natAbs<=2000)->N+xs.length<=1000->
 ∃o',sG (Xa T Hh ["upsets"] (n+3)) Hh (iU SM) uF (xs.map .int) (upD o S s) ["upsets"]=some (.nx (upD o' S (xs.foldl jV s)) ["upsets"]):=by
 intro xs
 induction xs with
 |nil=>
  rintro o s N _ _ _ _;exact⟨o,rfl⟩
 |cons x xs ih=>
  rintro o s N h1 h2 h3 h4;rw[bE]at h4;have hx:=h3 x (aA ..);obtain⟨q1,q2⟩:=M4 s x N h1 h2 hx;obtain⟨o',ho⟩:=ih (some (.int x)) (jV s x) (N+1) q1 q2 (λy hy=>h3 y (aD _ hy)) (by omega);exact⟨o',sR (VP hT o S s x n (by omega) (kH (by omega) (by omega))) ho (by rcases o with _|o<;>rfl')⟩
theorem acH(hT:S1 T)(xs:List Int)(h:xs.length<=1000)(h3:∀x∈xs,x.natAbs<=2000):Xa T Hh ["upsets"] 20 Ys [("symbols",.lst (xs.map .int))] []=some (.rt (.lst ((xs.foldl jV ⟨[],-1,0⟩).ups.map .int))):=by
 obtain⟨o',ho⟩:=VQ hT (.lst (xs.map .int)) 16 xs none ⟨[],-1,0⟩ 0 (by simp) (by decide) h3 (by omega);refine fV (bs:=[ak 0 Ys,ak 1 Ys,ak 2 Ys]) ?_;refine fh (mT ["upsets","before","mark"] [Ah 0 (ak 0 Ys),Ah 1 (ak 0 Ys),Ah 2 (ak 0 Ys)] (ey (n8 (d:=.lst []) (by rfl')) (ey (n8 (d:=.int (-1)) (by rfl')) (ey (n8 (d:=.int 0) (by rfl')) mR)))) ?_;refine fh (zg (ds:=xs.map .int) (by rfl') (tr ho)) ?_;generalize xs.foldl jV ⟨[],-1,0⟩=s;refine dm (dW _ ?_);rcases o' with _|o'<;>rfl'
end
end
section
section
variable{T:ek}
def pF:Stmt:=ak 5 pB
def xN:List Stmt:=bp pF
def pS1(ct ty ma place:Int)(text:Str)(row:List D):cy:=[("count",.int ct),("typing",.int ty),("marks",.int ma),("signs",rV),("several",MR),("great",uw),("hidden",IZ),("row",.lst row),("text",.str text),("place",.int place)]
def Ai(ct ty ma place:Int)(text:Str)(row:List D)(m dr ve wh ds wd co:D):cy:=pS1 ct ty ma place text row++([("mark",m),("draw",dr),("veil",ve),("which",wh),("dress",ds),("word",wd),("code",co)]:cy)
def pS2(o:Option (D×D×D×D×D×D×D))(ct ty ma place:Int)(text:Str)(row:List D):cy:=match o with
 |none=>pS1 ct ty ma place text row
 |some (m,dr,ve,wh,ds,wd,co)=>Ai ct ty ma place text row m dr ve wh ds wd co
theorem acI:xN=[ak 0 xN,ak 1 xN,ak 2 xN,ak 3 xN]++([ak 4 xN]++[ak 5 xN,ak 6 xN]):=by rfl'
theorem p_1(o:Option (D×D×D×D×D×D×D))(ct ty ma place)(text)(row)(dr mk_ ds wh ve c0)(wd)(n)
(h1:((aE .Pow (.int 13440) (.int place)).bind λd=>aE .FloorDiv (.int ty) d).bind (λd=>aE .Mod d (.int 13440))=some (.int dr))
(h2:((aE .Pow (.int 48) (.int place)).bind λd=>aE .FloorDiv (.int ma) d).bind (λd=>aE .Mod d (.int 48))=some (.int mk_))
(h3:aE .Mod (.int dr) (.int 16)=some (.int ds))(h4:(aE .FloorDiv (.int dr) (.int 16)).bind (λd=>aE .Mod d (.int 30))=some (.int wh))(h5:aE .FloorDiv (.int dr) (.int 480)=some (.int ve))
(h6:((aE .Mod (.int wh) (.int ct)).bind intD).bind (λi=>fU (.str ru) i)=some (.str wd))(h7:((aE .Mod (.int wh) (.int ct)).bind intD).bind (λi=>fU QM i)=some (.int c0)):
 cU (df (Va T) pK ["row"] 60 (Xa T pK ["row"] n)) [ak 0 xN,ak 1 xN,ak 2 xN,ak 3 xN] (pS2 o ct ty ma place text row) ["row"]=some (.nx (Ai ct ty ma place text row (.int mk_) (.int dr) (.int ve) (.int wh) (.int ds) (.str wd) (.int c0)) ["row"]):=by
 rcases o with _|⟨x1,x2,x3,x4,x5,x6,x7⟩
 all_goals
  refine fh (mT ["draw","mark"] [Ah 0 (ak 0 xN),Ah 1 (ak 0 xN)] (ey (n8 (tr h1)) (ey (n8 (tr h2)) mR))) ?_;refine fh (mT ["dress","which","veil"] [Ah 0 (ak 1 xN),Ah 1 (ak 1 xN),Ah 2 (ak 1 xN)] (ey (n8 (tr h3)) (ey (n8 (tr h4)) (ey (n8 (tr h5)) mR)))) ?_;refine fh (cb (.str wd) (tr h6)) ?_;exact fh (cb (.int c0) (tr h7)) (by rfl')
abbrev pIf:Stmt:=ak 4 xN
abbrev M5:Stmt:=ak 0 (dN pIf)
def Yt:D:=.tup [.int 6,.int 8,.int 9]
theorem aqM(ct ty ma place)(text)(row)(m dr ve)(wh ds c0 cd)(wd wd2)(n)(h1:cmp .Lt (.int ds) (.int 3)=some true)
(h2:(((((aE .Sub (.int ct) (.int 4)).bind intD).bind λi=>fU Yt i).bind λb=>aE .Mod (.int wh) b).bind intD).bind (λi=>fU MR i)=some (.tup [.int cd,.str wd2])):
 cU (df (Va T) pK ["row"] 60 (Xa T pK ["row"] (n+2))) [pIf] (Ai ct ty ma place text row m dr ve (.int wh) (.int ds) (.str wd) (.int c0)) ["row"]=some (.nx (Ai ct ty ma place text row m dr ve (.int wh) (.int ds) (.str wd2) (.int cd)) ["row"]):=by
 refine lV (b:=[ak 0 (bp pIf)]) (σ':=Ai ct ty ma place text row m dr ve (.int wh) (.int ds) (.str wd2) (.int cd)) (own':=["row"]) (tr h1) ?_ rfl;refine fV (bs:=[ak 0 (bp pIf)]) ?_;exact fh (mU (.tup [.int cd,.str wd2],false) (n8 (d:=.tup [.int cd,.str wd2]) (tr h2))) (by rfl')
theorem aqN(ct ty ma place)(text)(row)(m dr ve wh)(ds c0 cd)(wd)(n)(h1:cmp .Lt (.int ds) (.int 3)=some false)(h2:cmp .Lt (.int ds) (.int 15)=some true)
(h3:((((aE .Sub (.int ds) (.int 3)).bind intD).bind λi=>fU uw i).bind λa=>((cM .ord [.str wd]).bind λb=>aE .Add a b)).bind (λa=>aE .Sub a (.int 97))=some (.int cd)):
 cU (df (Va T) pK ["row"] 60 (Xa T pK ["row"] (n+2))) [pIf] (Ai ct ty ma place text row m dr ve wh (.int ds) (.str wd) (.int c0)) ["row"]=some (.nx (Ai ct ty ma place text row m dr ve wh (.int ds) (.str wd) (.int cd)) ["row"]):=by
 refine cR (b:=[M5]) (σ':=Ai ct ty ma place text row m dr ve wh (.int ds) (.str wd) (.int cd)) (own':=["row"]) (tr h1) ?_ rfl;refine fV (bs:=[M5]) ?_;refine lV (b:=[ak 0 (bp M5)]) (σ':=Ai ct ty ma place text row m dr ve wh (.int ds) (.str wd) (.int cd)) (own':=["row"]) (tr h2) ?_ rfl;refine fV (bs:=[ak 0 (bp M5)]) ?_;exact fh (cb (.int cd) (tr h3)) (by rfl')
theorem aqO(ct ty ma place)(text)(row)(m dr ve wh)(ds c0)(wd)(n)(h1:cmp .Lt (.int ds) (.int 3)=some false)(h2:cmp .Lt (.int ds) (.int 15)=some false):
 cU (df (Va T) pK ["row"] 60 (Xa T pK ["row"] (n+2))) [pIf] (Ai ct ty ma place text row m dr ve wh (.int ds) (.str wd) (.int c0)) ["row"]=some (.nx (Ai ct ty ma place text row m dr ve wh (.int ds) (.str wd) (.int c0)) ["row"]):=by
 refine cR (b:=[M5]) (σ':=Ai ct ty ma place text row m dr ve wh (.int ds) (.str wd) (.int c0)) (own':=["row"]) (tr h1) ?_ rfl;refine fV (bs:=[M5]) ?_;refine cR (b:=[]) (σ':=Ai ct ty ma place text row m dr ve wh (.int ds) (.str wd) (.int c0)) (own':=["row"]) (tr h2) ?_ rfl;exact fV (bs:=[]) rfl
def acK(place m ve cd:Int):Option D:=(((cmp .Gt (.int place) (.int 0)).bind λc=>if c=true then fU rV m else some (.str (mk []))).bind λa=>
    ((cmp .Eq (.int ve) (.int 0)).bind λc=>if c=true then some (.str (mk []))else((((aE .Sub (.int ve) (.int 1)).bind intD).bind λi=>fU IZ i).bind λd=>some [d]).bind λds=>cM .chr ds).bind λb=>aE .Add a b).bind λa=>(cM .chr [.int cd]).bind λb=>aE .Add a b
def pC2:ae:=IL (bj (ak 6 xN))
def acL(place m:Int)(more:D):Option D:=((cmp .Gt (.int place) (.int 0)).bind λc=>if c=true then(aE .Add (.int 7) (.int m)).bind λd=>some (.lst [d])else some (.lst [])).bind λa=>aE .Add a more
theorem p_3(ct ty ma place)(text text2 add wd)(row)(m ve cd)(dr wh ds)(more es)(n)(h1:acK place m ve cd=some (.str add))(h2:Ir .Add (.str text) (.str add)=some (.str text2))
(h3:(dX T 30).d pK (dA ["row"] (Ai ct ty ma place text2 row (.int m) dr (.int ve) wh ds (.str wd) (.int cd))) pC2=some more)(h4:acL place m more=some (.lst es))(hl:row.length+es.length<=eu):
 cU (df (Va T) pK ["row"] 60 (Xa T pK ["row"] n)) [ak 5 xN,ak 6 xN] (Ai ct ty ma place text row (.int m) dr (.int ve) wh ds (.str wd) (.int cd)) ["row"]=some (.nx (Ai ct ty ma place text2 (row++es) (.int m) dr (.int ve) wh ds (.str wd) (.int cd)) ["row"]):=by
 refine fh (abX (a:=.str text) (.str text2) (n8 (d:=.str add) (tr h1)) h2) ?_;refine fh (KA (ds:=row) (n8 (d:=.lst es) (tr (b:=((cmp .Gt (.int place) (.int 0)).bind λc=>if c=true then(aE .Add (.int 7) (.int m)).bind λd=>some (.lst [d])else some (.lst [])).bind λa=>((dX T 30).d pK (dA ["row"] (Ai ct ty ma place text2 row (.int m) dr (.int ve) wh ds (.str wd) (.int cd))) pC2).bind λb=>aE .Add a b) (by rw[h3];exact h4))) hl) ?_;rfl'
end
end
section
theorem Gu:I0.length=9:=by rfl'
theorem Gw:MU.length=6:=by rfl'
theorem VR:((aM 6).all λi=>KN (MU.getD i 0) [dn.getD i 0]&&dn.contains (dn.getD i 0))=true:=by rfl'
theorem VT:((aM 3).all λi=>match fU Yt (i:Nat)with|some (.int k)=>decide (0<k)&&decide (k<=9)|_=>false)=true:=by rfl'
structure acM(cd:Nat)(w:List Nat):Prop where
 ne:w≠[]
 le:∀l∈w,l∈dn
 ln:w.length<=3
 ok:KN cd w=true
theorem Ri(h:x∈I0):acM x.1 x.2:=by
 have:=aw.mp acb x h;simp only[av,cW,aw]at this;obtain⟨h1,h2,h3,h4⟩:=this;exact⟨λe=>(by rw[e]at h2;exact DI h2.symm),λl hl=>cL.mp (h3 l hl),bQ h4,h1⟩
structure PI(p:Nat)(t:List Nat)(r:List Int):Prop where
 sg:Seg (gK t) r
 tl:t.length<=5*p
 b3:∀c∈t,lx c=false->(mV c).length<=100
 rl:r.length<=4*p
 hd:0<p->∃x xs,r=x::xs/\256<=x
theorem PI.next(I:PI p t r)(S:acM cd w)(AV:pre=[]\/∃c,lx c=true/\pre=[c])(hm:m<48)(op:List Nat)(ro:List Int)(UZ:(p=0/\op=[]/\ro=[])\/(0<p/\ux[m]? =some op/\ro=[((7+m:Nat):Int)])):
 PI (p+1) (t++(op++pre++[cd])) (r++(ro++w.map vL)):=by
 have ajW:op.length<=3/\(∀c∈op,KN c [c]=true)/\ro.length<=1:=by
  rcases UZ with⟨_,rfl,rfl⟩|⟨_,h2,rfl⟩
  ·exact⟨by simp,by simp,by simp⟩
  ·obtain⟨o',e1,_,_,e2,e3⟩:=uz hm
   rw[h2]at e1;cases e1;exact⟨e2,λc hc=>(e3 c hc).1,by simp⟩
 have Yu:pre.length<=1/\gK pre=[]/\∀c∈pre,lx c=true:=by
  rcases AV with rfl|⟨c,h1,rfl⟩
  ·exact⟨by simp,rfl,by simp⟩
  ·exact⟨by simp,MV h1,by simpa using h1⟩
 have hw:=S.ln;obtain⟨l,w',rfl⟩:=pC S.ne;refine⟨?_,?_,?_,?_,λ_=>?_⟩
 ·rw[qJ]
  refine I.sg.app ?_;rw[qJ,qJ,QP ajW.2.1,Yu.2.1,c9,Gk S.ok];have Yv:=Seg.lets S.le;rcases UZ with⟨_,rfl,rfl⟩|⟨_,h2,rfl⟩
  ·exact Yv
  ·exact .op hm h2 (S.le _ (aA ..)) Yv
 ·have:=I.tl
  rw[aG,aG,aG,tW];omega
 ·intro c hc hb
  rw[fR,fR,fR]at hc;rcases hc with hc|(hc|hc)|hc
  ·exact I.b3 c hc hb
  ·exact KQ (ajW.2.1 c hc) (by simp)
  ·rw[Yu.2.2 c hc]at hb;cases hb
  ·rw[aY.mp hc];exact KQ S.ok S.ln
 ·have:=I.rl
  rw[aG,aG,aj];omega
 ·rcases UZ with⟨rfl,rfl,rfl⟩|⟨h1,_⟩
  ·have:r=[]:=iC (by have:=I.rl;omega)
   exact⟨vL l,w'.map vL,by rw[this];rfl,by unfold vL;omega⟩
  ·obtain⟨x,xs,rfl,h⟩:=I.hd h1
   exact⟨x,_,rfl,h⟩
section
variable{T:ek}
theorem aqP(ct ty ma place)(text)(row)(m dr ve wh ds co)(wd l):iM (dX T 29) (dA ["row"] (Ai ct ty ma place text row m dr ve wh ds (.str wd) co)) pC2 (.str l)=((pg .index (.str ru) [.str l]).bind λb=>aE .Add (.int 256) b).map λd=>[d]:=by rfl'
theorem acN(ct ty ma place)(text)(row)(m dr ve wh ds co)(w)(hw:∀l∈w,l∈dn)(hl:w.length<=eu):
 (dX T 30).d pK (dA ["row"] (Ai ct ty ma place text row m dr ve wh ds (.str (mk w)) co)) pC2=some (.lst ((w.map vL).map .int)):=by
 have e:=iw (T:=T) (V:=dX T 29) (ks:=pK) (σ:=dA ["row"] (Ai ct ty ma place text row m dr ve wh ds (.str (mk w)) co)) (e:=pC2) (d:=.str (mk w)) (φ:=dch) (xs:=w) (g:=λl=>[.int (vL l)])
  (by rfl') (by rfl') (QO w) (λl hl=>?_) (by rw[eV,aj];exact hl)
 ·rw[eV]at e
  rw[eU];exact e
 ·refine(aqP ct ty ma place text row m dr ve wh ds co (mk w) (ch l)).trans ?_
  rw[Vu (hw l hl)];rfl
theorem Rj(a b:Nat):cmp .Lt (.int a) (.int b)=some (decide (a<b)):=by
 show some (decide ((a:Int)<b))=_;congr 1;rw[fe,decide_eq_true_eq,decide_eq_true_eq];omega
theorem aqQ(ct ty ma place:Int)(c:Nat)(hct:ct=(c:Nat))(h4:4<=c)(h6:c<=6)(text:Str)(row:List D)(m dr ve:D)(wh ds:Nat)(hds:ds<16)(l c0:Nat)(hl:l∈dn)(hc0:KN c0 [l]=true)(n:Nat):
 ∃cd w,acM cd w/\cU (df (Va T) pK ["row"] 60 (Xa T pK ["row"] (n+2))) [pIf] (Ai ct ty ma place text row m dr ve (.int wh) (.int ds) (.str (mk [l])) (.int c0)) ["row"]=
  some (.nx (Ai ct ty ma place text row m dr ve (.int wh) (.int ds) (.str (mk w)) (.int (cd:Nat))) ["row"]):=by
 have t1:=Rj ds 3;have t2:=Rj ds 15;by_cases h1:ds<3
 ·rw[decide_eq_true h1]at t1
  obtain⟨i,rfl⟩:∃i,c=i+4:=⟨c - 4,by omega⟩
  have hi:i<3:=by omega
  have h:=aw.mp VT i (cQ.mpr hi);split at h
  ·rename_i k hk
   obtain⟨g1,g2⟩:=bZ.mp h;have hk0:0<k:=of_decide_eq_true g1;have hk9:k<=9:=of_decide_eq_true g2;obtain⟨k,rfl⟩:∃j:Nat,k=j:=⟨k.toNat,by omega⟩
   have hm:wh%k<I0.length:=by rw[Gu];have:=dP wh (show k>0 by omega);omega
   refine⟨I0[wh%k].1,I0[wh%k].2,Ri (ib hm),aqM ct ty ma place text row m dr ve wh ds c0 _ (mk [l]) _ n t1 ?_⟩;have e1:aE .Sub (.int ct) (.int 4)=some (.int (i:Nat)):=by
    show some (D.int (ct - 4))=_;exact congrArg (λx=>some (D.int x)) (by omega)
   refine oB (oB (oB (oB (oB e1 (nQ _)) hk) (ja (by omega))) (nQ _)) ?_;have e3:=jt (f:=φV) hm (by rw[Gu];decide);rw[ab7];exact e3
  ·cases h
 ·rw[decide_eq_false h1]at t1
  by_cases h2:ds<15
  ·rw[decide_eq_true h2]at t2
   have hg:ds - 3<Gj.length:=by rw[KJ];omega
   have h:=aw.mp (aw.mp acd _ (ib hg)) l hl;rw[av]at h;have h97:=bQ h.2;refine⟨Gj[ds - 3]+l - 97,[l],⟨by simp,by simpa using hl,by simp,h.1⟩,aqN ct ty ma place text row m dr ve (.int wh) ds c0 _ (mk [l]) n t1 t2 ?_⟩;have e1:aE .Sub (.int ds) (.int 3)=some (.int ((ds - 3:Nat):Nat)):=by
    exact congrArg (λx=>some (D.int x)) (show(ds:Int) - 3=((ds - 3:Nat):Int)by omega)
   have e2:cM .ord [.str (mk [l])]=some (.int l):=rfl;rw[e1,ag,nQ,ag,ab8,jt hg (by rw[KJ];decide),ag,e2,ag];show(some (D.int ((Gj[ds - 3]:Int)+l))).bind (λa=>aE .Sub a (.int 97))=_;exact congrArg (λx=>some (D.int x)) (show(Gj[ds - 3]:Int)+l - 97=((Gj[ds - 3]+l - 97:Nat):Int)by omega)
  ·rw[decide_eq_false h2]at t2
   exact⟨c0,[l],⟨by simp,by simpa using hl,by simp,hc0⟩,aqO ct ty ma place text row m dr ve (.int wh) ds c0 (mk [l]) n t1 t2⟩
end
end
section
theorem KR(p:Nat):cmp .Gt (.int p) (.int 0)=some (decide (0<p)):=by
 show some (decide ((p:Int)>((0:Nat):Int)))=_;refine congrArg some (decide_eq_decide.mpr ?_);omega
theorem VU{j:Nat}(h:j≠0):aE .Sub (.int j) (.int 1)=some (.int ((j - 1:Nat):Int)):=
 congrArg (λx=>some (D.int x)) (show(j:Int) - 1=((j - 1:Nat):Int)by omega)
theorem ajX(p m ve cd:Nat)(hm:m<48)(hve:ve<28)(Aq:cd<=1114111):∃op pre,(pre=[]\/∃c,lx c=true/\pre=[c])/\((p=0/\op=[])\/(0<p/\ux[m]? =some op))/\op.length<=3/\acK p m ve cd=some (.str (mk (op++pre++[cd]))):=by
 have f9:=ei;obtain⟨o,e1,_,_,e2,_⟩:=uz hm;obtain⟨op,UZ,hol,hA⟩:∃op:List Nat,((p=0/\op=[])\/(0<p/\ux[m]? =some op))/\op.length<=3/\((cmp .Gt (.int p) (.int 0)).bind λc=>if c=true then fU rV m else some (.str (mk [])))=some (.str (mk op)):=by
  rw[KR,ag];by_cases hp:0<p
  ·exact⟨o,.inr ⟨hp,e1⟩,e2,by rw[decide_eq_true hp,if_pos rfl,QN,KO e1 (by rw[KH];decide)]⟩
  ·exact⟨[],.inl ⟨by omega,rfl⟩,by simp,by rw[decide_eq_false hp,if_neg aF]⟩
 obtain⟨pre,AV,hpl,hB⟩:∃pre:List Nat,(pre=[]\/∃c,lx c=true/\pre=[c])/\pre.length<=1/\((cmp .Eq (.int ve) (.int 0)).bind λc=>if c=true then some (.str (mk []))else((((aE .Sub (.int ve) (.int 1)).bind intD).bind λi=>fU IZ i).bind λd=>some [d]).bind λds=>cM .chr ds)=some (.str (mk pre)):=by
  have h2:cmp .Eq (.int ((ve:Nat):Int)) (.int 0)=some (ve==0):=sU ve 0;rw[h2,ag];by_cases h0:ve=0
  ·exact⟨[],.inl rfl,by simp,if_pos (by rw[h0];rfl)⟩
  ·obtain⟨c,hc1,hc2,hc3⟩:=MW (j:=ve - 1) (by omega)
   refine⟨[c],.inr ⟨c,hc2,rfl⟩,by simp,?_⟩;rw[if_neg (by rw[beq_iff_eq];exact h0)];refine oB (oB (oB (oB (VU h0) (nQ _)) (by rw[ab9];exact KO hc1 (by rw[KL];decide))) rfl) ?_;exact KP hc3
 refine⟨op,pre,AV,UZ,hol,?_⟩;unfold acK;rw[hA,ag,hB,ag,add_str (by omega),ag,KP Aq,ag,ajs,add_str (by rw[aG];simp;omega)]
theorem ajZ(p m:Nat)(vs:List Int)(hl:vs.length<=100):acL p m (.lst (vs.map .int))=some (.lst (((if 0<p then[((7+m:Nat):Int)]else[])++vs).map .int)):=by
 have f9:=ei;unfold acL;rw[KR,ag];by_cases hp:0<p
 ·rw[decide_eq_true hp,if_pos rfl,if_pos hp]
  show(some (D.lst [D.int (7+(m:Int))])).bind _=_;rw[ag,qG (by rw[aj];simp;omega),da,ff];rfl
 ·rw[decide_eq_false hp,if_neg aF,if_neg hp,ag,qG (by rw[aj];simp;omega)];rfl
theorem Rk{b k ty p:Nat}(hb:b<1000000)(hb0:0<b)(hbk:b<=2^k)(hk:k<=20)(hp:p<=10):((aE .Pow (.int b) (.int (p:Int))).bind λd=>aE .FloorDiv (.int (ty:Int)) d).bind (λd=>aE .Mod d (.int b))=some (.int ((ty/b^p%b:Nat):Int)):=
 oB (oB (sW hb (aq hp (by decide))) (nP (fg hb0) (C6 hbk (bk (xy hk hp) (by decide))))) (ja hb0)
section
variable{T:ek}
def pS0(o:Option (Int×D×D×D×D×D×D×D))(ct ty ma:Int)(text:Str)(row:List D):cy:=match o with
 |none=>[("count",.int ct),("typing",.int ty),("marks",.int ma),("signs",rV),("several",MR),("great",uw),("hidden",IZ),("row",.lst row),("text",.str text)]
 |some (pl,x)=>pS2 (some x) ct ty ma pl text row
theorem acO(o:Option (Int×D×D×D×D×D×D×D))(ct ty ma p:Int)(text:Str)(row:List D):fk pK (iU pF) (.int p) (pS0 o ct ty ma text row,["row"])=some (pS2 (o.map (·.2)) ct ty ma p text row,(["row"]:List Str)):=by
 rcases o with _|⟨x0,x1,x2,x3,x4,x5,x6,x7⟩<;>rfl'
inductive aj0(ct ty ma p:Nat)(x:Option Fl):Prop
 |mk (o':D×D×D×D×D×D×D) (t':List Nat) (r':List Int) (I:PI (p+1) t' r') (h:x=some (.nx (pS2 (some o') ct ty ma p (mk t') (r'.map .int)) ["row"]))
theorem acP(o:Option (D×D×D×D×D×D×D))(ct ty ma p:Nat)(h4:4<=ct)(h6:ct<=6)(hp:p<8)(t:List Nat)(r:List Int)(n:Nat)(I:PI p t r):
 aj0 ct ty ma p (Xa T pK ["row"] (n+3) xN (pS2 o ct ty ma p (mk t) (r.map .int)) ["row"]):=by
 have f9:=ei;obtain⟨dr,hdr⟩:∃dr,dr=ty/13440^p%13440:=⟨_,rfl⟩;obtain⟨m,hm⟩:∃m,m=ma/48^p%48:=⟨_,rfl⟩;have axV:dr<13440:=hdr▸dP _ (by decide);have Vg:m<48:=hm▸dP _ (by decide);obtain⟨i,hi⟩:∃i,i=dr/16%30%ct:=⟨_,rfl⟩;have hi6:i<6:=cw (hi▸dP _ (cw (by decide) h4)) h6;have hc:=aw.mp VR i (cQ.mpr hi6);rw[av]at hc;have hll:i<dn.length:=hi6;have oo:i<MU.length:=by rw[Gw];exact hi6
 rw[oG hll,oG oo]at hc;have hl:dn[i]∈dn:=ib hll;obtain⟨cd,w,S,hif⟩:=aqQ (T:=T) ct ty ma p ct rfl h4 h6 (mk t) (r.map .int) (.int m) (.int dr) (.int ((dr/480:Nat):Int)) (dr/16%30) (dr%16) (dP _ (by decide)) dn[i] MU[i] hl hc.1 n;obtain⟨_,_,Aq⟩:=zq S.ok;obtain⟨op,pre,AV,UZ,hol,aqT⟩:=ajX p m (dr/480) cd Vg (by omega) Aq;have htl:=I.tl;have hrl:=I.rl;have hwl:=S.ln;have hpl:pre.length<=1:=by rcases AV with rfl|⟨c,_,rfl⟩<;>simp
 have Rl:=ajZ p m (w.map vL) (by rw[aj];omega);refine⟨(.int m,.int dr,.int ((dr/480:Nat):Int),.int ((dr/16%30:Nat):Int),.int ((dr%16:Nat):Int),.str (mk w),.int cd),_,_,I.next S AV Vg op (if 0<p then[((7+m:Nat):Int)]else[]) ?_,fV (xK (p_1 o ct ty ma p (mk t) (r.map .int) dr m ((dr%16:Nat):Int) ((dr/16%30:Nat):Int) ((dr/480:Nat):Int) MU[i] (mk [dn[i]]) (n+2) ?_ ?_ ?_ ?_ ?_ ?_ ?_) (xK hif
  (p_3 ct ty ma p (mk t) (mk (t++(op++pre++[cd]))) (mk (op++pre++[cd])) (mk w) (r.map .int) m ((dr/480:Nat):Int) cd (.int dr) (.int ((dr/16%30:Nat):Int)) (.int ((dr%16:Nat):Int)) (.lst ((w.map vL).map .int)) _ (n+2) aqT (Vv ?_) (acN _ _ _ _ _ _ _ _ _ _ _ _ w S.le ?_) Rl ?_))) acI |>.trans ?_⟩
 ·rcases UZ with⟨rfl,rfl⟩|⟨h1,h2⟩
  ·exact .inl ⟨rfl,rfl,if_neg (by decide)⟩
  ·exact .inr ⟨h1,h2,if_pos h1⟩
 ·exact hdr▸Rk (k:=14) (by decide) (by decide) (by decide) (by decide) (by omega)
 ·exact hm▸Rk (k:=6) (by decide) (by decide) (by decide) (by decide) (by omega)
 ·exact ja (b:=16) (by decide)
 ·exact oB (nP (b:=16) (by decide) (zp (n:=4) (by decide) (by decide))) (ja (b:=30) (by decide))
 ·exact nP (b:=480) (by decide) (zp (n:=9) (by decide) (by decide))
 ·refine oB (oB (ja (by omega)) (nQ _)) ?_
  rw[<-hi];exact getI_str hll (by decide)
 ·refine oB (oB (ja (by omega)) (nQ _)) ?_
  rw[<-hi,aca];exact jt oo (by rw[Gw];decide)
 ·simp only[aG,tW];omega
 ·omega
 ·simp only[aj,aG];split<;>simp<;>omega
 ·rw[<-da];rfl
theorem acQ(ct ty ma:Nat)(h4:4<=ct)(h6:ct<=6)(n:Nat):∀(j k:Nat)(o:Option (Int×D×D×D×D×D×D×D))(t:List Nat)(r:List Int),k+j=8->PI k t r->
 ∃o' t' r',PI 8 t' r'/\sG (Xa T pK ["row"] (n+3)) pK (iU pF) xN ((iz k j).map di) (pS0 o ct ty ma (mk t) (r.map .int)) ["row"]=some (.nx (pS0 o' ct ty ma (mk t') (r'.map .int)) ["row"]):=by
 intro j
 induction j with
 |zero=>
  intro k o t r h I;obtain rfl:k=8:=h;exact⟨o,t,r,I,rfl⟩
 |succ j ih=>
  intro k o t r h I;obtain⟨o',t',r',I',e⟩:=acP (T:=T) (o.map (·.2)) ct ty ma k h4 h6 (by omega) t r n I;obtain⟨o2,t2,r2,I2,e2⟩:=ih (k+1) (some ((k:Int),o')) t' r' (by omega) I';refine⟨o2,t2,r2,I2,?_⟩;rw[l7,bJ];dsimp only[sG];rw[show di k=.int k from rfl,acO];show(Xa T pK ["row"] (n+3) xN _ _).bind _=_;rw[e];exact e2
theorem aqV(o:Option (Int×D×D×D×D×D×D×D))(ct ty ma)(text)(row):(dX T 31).d pK (pS0 o ct ty ma text row) (bj (ak 6 pB))=(((aE .Add (.lst row) (.lst [.int 0])).bind λd=>some [d]).bind λds=>some (.str text::ds)).bind λds=>if ds.length<=eu then some (.tup ds)else none:=by
 rcases o with _|⟨x0,x1,x2,x3,x4,x5,x6,x7⟩<;>rfl'
theorem aj1(ct ty ma:Nat)(h4:4<=ct)(h6:ct<=6):∃t r,PI 8 t r/\Xa T pK ["row"] 20 pB [("count",.int ct),("typing",.int ty),("marks",.int ma)] []=some (.rt (.tup [.str (mk t),.lst ((r++[0]).map .int)])):=by
 have f9:=ei;obtain⟨o',t,r,I,hw⟩:=acQ (T:=T) ct ty ma h4 h6 16 8 0 none [] [] rfl ⟨.nil,by simp,by simp,by simp,by simp⟩;refine⟨t,r,I,?_⟩;refine fV (bs:=[ak 0 pB,ak 1 pB,ak 2 pB,ak 3 pB,ak 4 pB,ak 5 pB,ak 6 pB]) ?_;refine fh (cb rV (by rfl')) ?_;refine fh (cb MR (by rfl')) ?_;refine fh (cb uw (by rfl')) ?_;refine fh (cb IZ (by rfl')) ?_;refine fh (mT ["text","row"] [Ah 0 (ak 4 pB),Ah 1 (ak 4 pB)] (ey (n8 (d:=.str (mk [])) (by rfl')) (ey (n8 (d:=.lst []) (by rfl')) mR))) ?_;refine fh (zg (ds:=(iz 0 8).map di) (by rfl') (tr hw)) ?_;have hrl:=I.rl;refine dm (dW _ ((aqV o' _ _ _ _ _).trans ?_));rw[qG (by rw[aj];simp;omega),ag,ag,ag,if_pos (by simp;omega),da];rfl
end
end
end Internal.Z
end
section
namespace Internal.V
abbrev As:=Nat->Bool
def upd(a:As)(k:Nat)(b:Bool):As:=λi=>if i=k then b else a i
def SN(k:Nat)(a:As):As:=λi=>decide (i<k)&&a i
def wd(k:Nat):Nat:=16*2^k
def pq:Nat->(As->Nat)->Nat
 |0,f=>f λ_=>false
 |k+1,f=>2^wd k*pq k (λa=>f (upd a k true))+pq k (λa=>f (upd a k false))
theorem VV(k):wd (k+1)=wd k+wd k:=by unfold wd;rw[Xe];omega
theorem uG:∀(k)(f:As->Nat),(∀a,f a<2^16)->pq k f<2^wd k:=by
 intro k
 induction k with
 |zero=>intro f h;exact h _
 |succ k ih=>
  intro f h;have h1:=ih _ (λa=>h (upd a k true));have h2:=ih _ (λa=>h (upd a k false));rw[pq,VV,iD];have:2^wd k*pq k (λa=>f (upd a k true))+2^wd k<=2^wd k*2^wd k:=by
   rw[<-lF];exact c7 _ h1
  omega
theorem VW(a:As)(k):upd (SN k a) k (a k)=SN (k+1) a:=by
 funext i;unfold upd SN;by_cases h:i=k
 ·subst h;simp
 ·have:decide (i<k)=decide (i<k+1):=by simp;omega
  simp[h,this]
theorem Rm{m x y x' y':Nat}(hx:x<m)(Mn:x'<m)(h:m*y+x=m*y'+x'):y=y'/\x=x':=by
 have e1:(m*y+x)%m=x:=by rw[JF];exact rY hx
 have e2:(m*y'+x')%m=x':=by rw[JF];exact rY Mn
 have e:x=x':=by rw[<-e1,h,e2]
 subst e;have:=Nat.add_right_cancel h;exact⟨Nat.eq_of_mul_eq_mul_left (by omega) this,rfl⟩
theorem KU:∀(k)(f g:As->Nat),(∀a,f a<2^16)->(∀a,g a<2^16)->pq k f=pq k g->∀a,f (SN k a)=g (SN k a):=by
 intro k
 induction k with
 |zero=>
  intro f g _ _ h a;have:SN 0 a=λ_=>false:=by funext i;unfold SN;simp
  rw[this];exact h
 |succ k ih=>
  intro f g hf hg h a;rw[pq,pq]at h;have:=Rm (uG _ _ λa=>hf _) (uG _ _ λa=>hg _) h;rw[<-VW];cases a k with
  |false=>exact ih _ _ (λa=>hf _) (λa=>hg _) this.2 a
  |true=>exact ih _ _ (λa=>hf _) (λa=>hg _) this.1 a
theorem KV:∀(k)(f g:As->Nat),pq k (λa=>f a+g a)=pq k f+pq k g:=by
 intro k
 induction k with
 |zero=>intro f g;rfl
 |succ k ih=>intro f g;rw[pq,pq,pq,ih,ih,mY];omega
theorem zE{m x y x' y':Nat}(hx:x<2^m)(Mn:x'<2^m):
 (2^m*y+x) &&& (2^m*y'+x')=2^m*(y &&& y')+(x &&& x'):=by
 apply xw;intro i;rw[tV,o9 _ hx,o9 _ Mn,o9 _ (bk Nat.and_le_left hx)];split<;>rw[tV]
theorem Gx(b:Bool):b.toNat<2^16:=by cases b<;>decide
theorem VX:∀(k)(p q:As->Bool),pq k (λa=>(p a&&q a).toNat)=pq k (λa=>(p a).toNat) &&& pq k (λa=>(q a).toNat):=by
 intro k
 induction k with
 |zero=>intro p q;show(p _&&q _).toNat=_ &&& _;rw[pq,pq];cases p (λ_=>false)<;>cases q (λ_=>false)<;>rfl
 |succ k ih=>
  intro p q;rw[pq,pq,pq,ih (λa=>p (upd a k true)) (λa=>q (upd a k true)),ih (λa=>p (upd a k false)) (λa=>q (upd a k false)),
   zE (uG _ _ λa=>Gx _) (uG _ _ λa=>Gx _)]
def cV(c:Nat):Nat->Nat
 |0=>c
 |k+1=>2^wd k*cV c k+cV c k
theorem zF(c):∀k,pq k (λ_=>c)=cV c k:=by
 intro k
 induction k with
 |zero=>rfl
 |succ k ih=>rw[pq,cV,ih]
abbrev DO:=Nat×Bool
def lit(a:As)(l:DO):Bool:=a l.1==l.2
def Ro(l:DO):Nat->Nat
 |0=>(false==l.2).toNat
 |k+1=>if l.1=k then 2^wd k*cV (true==l.2).toNat k+cV (false==l.2).toNat k else 2^wd k*Ro l k+Ro l k
theorem VY(l):∀k,pq k (λa=>(lit a l).toNat)=Ro l k:=by
 intro k
 induction k with
 |zero=>rfl
 |succ k ih=>
  rw[pq,Ro];by_cases h:l.1=k
  ·rw[if_pos h]
   have e:∀b,(λa=>(lit (upd a k b) l).toNat)=λ_=>(b==l.2).toNat:=by
    intro b;funext a;unfold lit upd;rw[if_pos h]
   rw[e,e,zF,zF]
  ·rw[if_neg h]
   have e:∀b,(λa=>(lit (upd a k b) l).toNat)=λa=>(lit a l).toNat:=by
    intro b;funext a;unfold lit upd;rw[if_neg h]
   rw[e,e,ih]
def KW(k:Nat):List DO->Nat
 |[]=>cV 1 k
 |l::t=>ig (Ro l k) (KW k t)
theorem Rp(k):∀c:List DO,pq k (λa=>(c.all (lit a)).toNat)=KW k c:=by
 intro c
 induction c with
 |nil=>exact zF 1 k
 |cons l t ih=>
  have:=VX k (λa=>lit a l) (λa=>t.all (lit a));rw[KW,<-ih,<-VY];exact this
def cnt(a:As):List (List DO)->Nat
 |[]=>0
 |c::t=>(c.all (lit a)).toNat+cnt a t
def Dc(k:Nat):List (List DO)->Nat
 |[]=>0
 |c::t=>eg (KW k c) (Dc k t)
theorem Dd(k):∀L:List (List DO),pq k (λa=>cnt a L)=Dc k L:=by
 intro L
 induction L with
 |nil=>show pq k (λ_=>0)=_;rw[zF];show cV 0 k=0;induction k with
  |zero=>rfl
  |succ k ih=>rw[cV,ih];rfl
 |cons c t ih=>
  rw[Dc,<-ih,<-Rp];exact KV k _ _
theorem zw(a:As):∀L,cnt a L<=L.length:=by
 intro L
 induction L with
 |nil=>exact cf _
 |cons c t ih=>rw[cnt,bE];cases c.all (lit a)<;>simp<;>omega
theorem KX(h:l.1<k):lit (SN k a) l=lit a l:=by unfold lit SN;simp[h]
theorem De(a:As)(k):∀L:List (List DO),(L.all λc=>c.all λl=>lA l.1 k)=true->cnt (SN k a) L=cnt a L:=by
 intro L
 induction L with
 |nil=>intro _;rfl
 |cons c t ih=>
  intro h;rw[qO,av]at h;rw[cnt,cnt,ih h.2];congr 2;have h1:=aw.mp h.1;rw[fe,aw,aw];exact⟨λg x hx=>by rw[<-KX (k:=k) (by have:=h1 x hx;simpa [NN]using this)];exact g x hx,
   λg x hx=>by rw[KX (k:=k) (by have:=h1 x hx;simpa [NN]using this)];exact g x hx⟩
theorem same(k)(L M:List (List DO))(hl:(lA L.length 65536&&lA M.length 65536)=true)
(h1:(L.all λc=>c.all λl=>lA l.1 k)=true)(h2:(M.all λc=>c.all λl=>lA l.1 k)=true)
(h:bM (Dc k L) (Dc k M)=true)(a:As):cnt a L=cnt a M:=by
 rw[av,NN,NN]at hl;have e:=bF h;rw[<-Dd,<-Dd]at e;have:=KU k _ _ (λa=>bk (zw a L) hl.1) (λa=>bk (zw a M) hl.2) e a;rw[De a k L h1,De a k M h2]at this;exact this
def NY(i j:Nat):DO:=if i<j then(j*(j - 1)/2+i,true)else(i*(i - 1)/2+j,false)
def words(n:Nat):Nat->List (List Nat)
 |0=>[]
 |1=>(aM n).map λi=>[i]
 |m+2=>(words n (m+1)).flatMap λrow=>((aM n).filter λj=> !row.contains j).map λj=>row++[j]
def Gy:List Nat->List DO
 |i::j::t=>NY i j::Gy (j::t)
 |_=>[]
def rv(row:List Nat):Bool:=row.all λx=>bX (row.headD 0) x
def Gz(row:List Nat):List DO:=Gy row++[NY (row.getLastD 0) (row.headD 0)]
def KY(n m:Nat):List (List Nat):=(words n m).filter rv
def Df(n:Nat):List (List Nat):=KY n 3++(if 5<=n then KY n 5 else[])
def zG(row:List Nat):Nat:=(row.map λi=>2^i).sum
def gY{α:Type}(f:α->α->Bool):List α->List (α×α)
 |[]=>[]
 |x::t=>(t.filter λy=>f x y).map (λy=>(x,y))++gY f t
def Rq(n:Nat):List (List Nat×List Nat):=gY (λx y=>ig (zG x) (zG y)==0) (Df n)
def km(n:Nat):List (List DO):=(words n n).map Gy
def Dg(n:Nat):List (List DO):=(Df n).map Gz
def uH(n:Nat):List (List DO):=(Rq n).map λp=>Gz p.1++Gz p.2
def rhs(n:Nat):List (List DO):=[]::(Dg n++Dg n++(uH n++uH n++(uH n++uH n)))
theorem aqW(a:As):cnt a (km 4)=cnt a (rhs 4):=same 6 _ _ (by decide) (by decide) (by decide) (by decide) a
theorem aqX(a:As):cnt a (km 5)=cnt a (rhs 5):=same 10 _ _ (by decide) (by decide) (by decide) (by decide) a
theorem six:((lA (km 6).length 65536&&lA (rhs 6).length 65536)=true/\((km 6).all λc=>c.all λl=>lA l.1 15)=true/\((rhs 6).all λc=>c.all λl=>lA l.1 15)=true/\
 bM (Dc 15 (km 6)) (Dc 15 (rhs 6))=true)/\bX ((km 6).length+(32768 - 254)) 65535=true/\
 bM (ig (eg (Dc 15 (km 6)) (cV (32768 - 254) 15)) (cV 32768 15)) 0=true:=⟨⟨by rfl',by rfl',by rfl',by rfl'⟩,by rfl',by rfl'⟩
theorem aqY(a:As):cnt a (km 6)=cnt a (rhs 6):=same 15 _ _ six.1.1 six.1.2.1 six.1.2.2.1 six.1.2.2.2 a
theorem Rr:∀(k)(f g:As->Nat),(∀a,f a<2^16)->(∀a,g a<2^16)->pq k (λa=>f a &&& g a)=pq k f &&& pq k g:=by
 intro k
 induction k with
 |zero=>intro f g _ _;rfl
 |succ k ih=>
  intro f g hf hg;rw[pq,pq,pq,ih _ _ (λa=>hf _) (λa=>hg _),ih _ _ (λa=>hf _) (λa=>hg _),
   zE (uG _ _ λa=>hf _) (uG _ _ λa=>hg _)]
theorem aj2{x:Nat}(h:x<2^16)(e:x &&& 2^15=0):x<2^15:=by
 have t:(x &&& 2^15).testBit 15=false:=by rw[e,Nat.zero_testBit]
 rw[tV,Nat.testBit_two_pow_self,N2,Nat.testBit_eq_decide_div_mod_eq]at t;have:=of_decide_eq_false t;omega
theorem lid(k)(L:List (List DO))(c:Nat)(hl:bX (L.length+(32768 - c)) 65535=true)(hc:bX c 32768=true)
(h1:(L.all λc=>c.all λl=>lA l.1 k)=true)
(h:bM (ig (eg (Dc k L) (cV (32768 - c) k)) (cV 32768 k)) 0=true)(a:As):cnt a L<c:=by
 have hl:=bQ hl;have hc:=bQ hc;have e:=bF h;have b:∀a,cnt a L+(32768 - c)<2^16:=λa=>by have:=zw a L;omega
 have e2:pq k (λa=>(cnt a L+(32768 - c)) &&& 2^15)=pq k (λ_=>0):=by
  rw[Rr k _ _ b (λ_=>by decide),KV,Dd,zF,zF,zF];refine e.trans ?_;clear e h h1;induction k with
  |zero=>rfl
  |succ k ih=>rw[cV,<-ih];rfl
 have:=KU k _ _ (λa=>bk Nat.and_le_right (by decide)) (λ_=>by decide) e2 a;rw[De a k L h1]at this;have:=aj2 (b a) this;omega
theorem aq0(a:As):cnt a (km 4)<254:=lid 6 _ 254 (by decide) (by decide) (by decide) (by decide) a
theorem aq1(a:As):cnt a (km 5)<254:=lid 10 _ 254 (by decide) (by decide) (by decide) (by decide) a
theorem aq2(a:As):cnt a (km 6)<254:=lid 15 _ 254 six.2.1 (by decide) six.1.2.1 six.2.2 a
theorem Dh(a:As)(g:α->List DO):∀L:List α,cnt a (L.map g)=(L.filter λx=>(g x).all (lit a)).length:=by
 intro L
 induction L with
 |nil=>rfl
 |cons x t ih=>
  rw[bJ,cnt,ih,dq];cases(g x).all (lit a)<;>simp<;>omega
theorem xO(a:As):∀L M,cnt a (L++M)=cnt a L+cnt a M:=by
 intro L M
 induction L with
 |nil=>simp[cnt]
 |cons c t ih=>rw[cE,cnt,cnt,ih];omega
theorem AW(f:α->α->Bool)(q:α->Bool):∀L:List α,gY f (L.filter q)=(gY f L).filter λp=>q p.1&&q p.2:=by
 intro L
 induction L with
 |nil=>rfl
 |cons x t ih=>
  rw[gY,eD,<-ih,dq];cases h:q x
  ·have:Zd (λp=>q p.1&&q p.2) (xf (λy=>(x,y)) (Zd (λy=>f x y) t))=[]:=by
    rw[lg];intro p hp;obtain⟨y,_,rfl⟩:=fY.mp hp;simp[h]
   rw[this];rfl
  ·rw[if_pos rfl,gY,iF,tO,iF]
   congr 3;funext y;simp[h,Bool.and_comm]
theorem Jg(f:β->β->Bool)(g:α->β):∀L:List α,(gY f (L.map g)).length=(gY (λx y=>f (g x) (g y)) L).length:=by
 intro L
 induction L with
 |nil=>rfl
 |cons x t ih=>rw[bJ,gY,gY,aG,aG,ih,aj,aj,tO,aj];rfl
def good(a:As)(row:List Nat):Bool:=(Gy row).all (lit a)
def Di(a:As)(row:List Nat):Bool:=(Gz row).all (lit a)
def kX(a:As)(n:Nat):List Nat:=((Df n).filter (Di a)).map zG
def apart(x y:Nat):Bool:=ig x y==0
theorem M6(a n):(kX a n).length=cnt a (Dg n):=by
 unfold kX Dg;rw[aj,Dh];rfl
theorem M7(a n):(gY apart (kX a n)).length=cnt a (uH n):=by
 unfold kX uH Rq;rw[Jg,AW,Dh];congr 2;funext p;rw[Hs];rfl
theorem VZ(a n):cnt a (rhs n)=1+2*(kX a n).length+4*(gY apart (kX a n)).length:=by
 unfold rhs;rw[cnt,xO,xO,xO,xO,M6,M7];show 1+_=_;omega
def eN(b:List (List Nat)):Nat->List (List Nat)
 |0=>[]
 |1=>(aM b.length).map λi=>[i]
 |m+2=>(eN b (m+1)).flatMap λrow=>((b.getD (row.getLastD 0) []).filter λj=> !row.contains j).map λj=>row++[j]
theorem qo:∀(m n)(row:List Nat),row∈words n m->row≠[]/\∀x∈row,x<n:=by
 intro m n
 induction m with
 |zero=>intro row h;exact absurd h (du)
 |succ m ih=>
  cases m with
  |zero=>
   intro row h;obtain⟨i,hi,rfl⟩:=fY.mp h;refine⟨by simp,λx hx=>?_⟩;rw[aY.mp hx];exact cQ.mp hi
  |succ m=>
   intro row h;obtain⟨r,hr,h⟩:=amW.mp h;obtain⟨j,hj,rfl⟩:=fY.mp h;refine⟨by simp,λx hx=>?_⟩;rcases fR.mp hx with hx|hx
   ·exact(ih r hr).2 x hx
   ·rw[aY.mp hx];exact cQ.mp (gC.mp hj).1
theorem M8(j):∀(row:List Nat),row≠[]->Gy (row++[j])=Gy row++[NY (row.getLastD 0) j]:=by
 intro row
 induction row with
 |nil=>intro h;exact absurd rfl h
 |cons x t ih=>
  intro _;cases t with
  |nil=>rfl
  |cons y t=>
   have:=ih (by simp);rw[cE,cE,Gy,<-cE,this,Gy,cE];congr 3
theorem qp:∀(row:List Nat),row≠[]->row.getLastD 0∈row:=by
 intro row h;rw[NO,Hc h];exact List.getLast_mem h
def fM(a:As)(n:Nat):List (List Nat):=(aM n).map λi=>(aM n).filter λj=>(j != i)&&lit a (NY i j)
theorem qM(a n)(h:i<n):(fM a n).getD i []=(aM n).filter λj=>(j != i)&&lit a (NY i j):=by
 unfold fM;rw[br,gG,ad5 h];rfl
theorem zI(f g:α->List β):∀L:List α,(∀x∈L,f x=g x)->L.flatMap f=L.flatMap g:=by
 intro L
 induction L with
 |nil=>intro _;rfl
 |cons x t ih=>intro h;rw[ec,ec,h x (aA ..),ih λy hy=>h y (aD _ hy)]
theorem zJ(p:α->Bool)(f:α->List β)(q:β->Bool):∀L:List α,(∀x∈L,p x=false->(f x).filter q=[])->(L.flatMap f).filter q=(L.filter p).flatMap λx=>(f x).filter q:=by
 intro L
 induction L with
 |nil=>intro _;rfl
 |cons x t ih=>
  intro h;rw[ec,eD,ih λy hy=>h y (aD _ hy),dq];cases hp:p x
  ·rw[h x (aA ..) hp];rfl
  ·rw[if_pos rfl,ec]
theorem zL(a n):∀m,eN (fM a n) m=(words n m).filter (good a):=by
 intro m
 induction m with
 |zero=>rfl
 |succ m ih=>
  cases m with
  |zero=>
   have:(fM a n).length=n:=by unfold fM;rw[aj,b8]
   rw[eN,words,this,tO,List.filter_eq_self.mpr];intro x _;rfl
  |succ m=>
   have gs:∀(row:List Nat) j,row≠[]->good a (row++[j])=(good a row&&lit a (NY (row.getLastD 0) j)):=by
    intro row j h;unfold good;rw[M8 j row h,Hs];simp
   rw[eN,ih,words,zJ (good a)]
   ·apply zI
    intro row hr;have hr:=gC.mp hr;have hw:=qo _ _ _ hr.1;rw[qM a n (hw.2 _ (qp _ hw.1)),iF,tO,iF];congr 1;apply ll;intro j hj;have hl:=qp _ hw.1;show _=(good a (row++[j])&&_)
    rw[gs row j hw.1,hr.2];cases hc:row.contains j
    ·have:(j != row.getLastD 0)=true:=by
      rw[bne_iff_ne];rintro rfl;have:=cL.mpr hl;rw[hc]at this;cases this
     rw[this];simp
    ·simp
   ·intro row hr hg
    have hw:=qo _ _ _ hr;rw[lg];intro r h;obtain⟨j,_,rfl⟩:=fY.mp h;rw[gs row j hw.1,hg];simp
theorem Rt(a n):(eN (fM a n) n).length=cnt a (km n):=by
 rw[zL];unfold km;rw[Dh];rfl
theorem ocf(a:As)(n)(h:n=4\/n=5\/n=6):
 (eN (fM a n) n).length=1+2*(kX a n).length+4*(gY apart (kX a n)).length/\(eN (fM a n) n).length<254:=by
 rw[Rt,<-VZ];rcases h with rfl|rfl|rfl
 ·exact⟨aqW a,aq0 a⟩
 ·exact⟨aqX a,aq1 a⟩
 ·exact⟨aqY a,aq2 a⟩
theorem wW:∀(m n)(row:List Nat),row∈words n m->row.Nodup/\row.length=m:=by
 intro m n
 induction m with
 |zero=>intro row h;exact absurd h (du)
 |succ m ih=>
  cases m with
  |zero=>
   intro row h;obtain⟨i,hi,rfl⟩:=fY.mp h;exact⟨by simp,rfl⟩
  |succ m=>
   intro row h;obtain⟨r,hr,h⟩:=amW.mp h;obtain⟨j,hj,rfl⟩:=fY.mp h;have hn:=(gC.mp hj).2;have⟨i1,i2⟩:=ih r hr;refine⟨?_,by simp[i2]⟩;rw[lh];refine⟨i1,by simp,?_⟩;intro x hx y hy;rw[aY.mp hy];rintro rfl;simp[hx]at hn
theorem M9:∀(row:List Nat),row.Nodup->2<=row.length->row.headD 0≠row.getLastD 0:=by
 intro row;cases row with
 |nil=>intro _ h;simp at h
 |cons x t=>
  cases t with
  |nil=>intro _ h;simp at h
  |cons y t=>
   intro hn _ e;have hx:=(fP.mp hn).1;have:(x::y::t).getLastD 0=(y::t).getLastD 0:=rfl;rw[this]at e;have e2:x=(y::t).getLastD 0:=e;rw[e2]at hx;exact hx (qp (y::t) (by simp))
def oM(b:List (List Nat))(row:List Nat):Bool:=(b.getD (row.getLastD 0) []).contains (row.headD 0)
theorem GA(a n m)(hm:2<=m):(eN (fM a n) m).filter (λrow=>rv row&&oM (fM a n) row)=(KY n m).filter (Di a):=by
 rw[zL];unfold KY;rw[iF,iF];apply ll;intro row hr;have hw:=qo _ _ _ hr;have⟨h1,h2⟩:=wW _ _ _ hr;have m7:=M9 row h1 (by omega);have hh:row.headD 0<n:=by
  cases row with
  |nil=>exact absurd rfl hw.1
  |cons x t=>exact hw.2 x (aA ..)
 have hc:oM (fM a n) row=lit a (NY (row.getLastD 0) (row.headD 0)):=by
  unfold oM;rw[qM a n (hw.2 _ (qp _ hw.1)),fe,cL,gC,cQ,av,bne_iff_ne];exact⟨λh=>h.2.2,λh=>⟨hh,m7,h⟩⟩
 have hg:Di a row=(good a row&&lit a (NY (row.getLastD 0) (row.headD 0))):=by
  unfold Di Gz good;rw[Hs];simp
 rw[hc,hg];cases rv row<;>cases good a row<;>cases lit a (NY (row.getLastD 0) (row.headD 0))<;>rfl
def ix(b:List (List Nat))(m:Nat):List Nat:=((eN b m).filter λrow=>rv row&&oM b row).map zG
theorem Na(a n):kX a n=ix (fM a n) 3++(if 5<=n then ix (fM a n) 5 else[]):=by
 unfold kX Df ix;rw[GA a n 3 (by decide),GA a n 5 (by decide),eD,da];congr 1;split<;>rfl
end Internal.V
end
section
open PySem PySem.W PyProof.Rows
namespace Internal.Z
section
open Internal.V
section
variable{T:ek}
def oK:bY:=uv "_law_orders"
def SO:List Stmt:=bo "_law_orders"
def oF:Stmt:=ak 1 SO
def Yw:List Stmt:=bp oF
def oC:ae:=bj (ak 0 Yw)
def oR:ae:=bj (ak 0 (bp (ak 1 Yw)))
def oI:ae:=pj 0 (ajh oR)
def oS(o:Option D)(b rows rings:List D):cy:=([("beaten",.lst b),("rings",.lst rings),("rows",.lst rows)]:cy)++(match o with|none=>[]|some a=>[("size",a)])
abbrev oQ(z:Int)(b rows rings:List D):cy:=dA ["rings"] (oS (some (.int z)) b rows rings)
theorem aq3(z)(b rows rings row):iM (dX T 30) (oQ z b rows rings) oC (.lst row)=(((fU (.lst row) (-1)).bind intD).bind λi=>fU (.lst b) i).bind λd=>(items d).bind λds=>gQ (ur (dX T 30) (oE (oQ z b rows rings) (.lst row) oC) oC) ds:=by rfl'
theorem aq4(z)(b rows rings row)(j):ur (dX T 30) (oE (oQ z b rows rings) (.lst row) oC) oC (.int j)=
 (((cmp .NotIn (.int j) (.lst row))).bind λc=>if c=true then some true else some false).bind λc=>if c=true then(aE .Add (.lst row) (.lst [.int j])).map λd=>[d]else some []:=by rfl'
theorem aq5(z)(b rows rings row):iM (dX T 30) (oQ z b rows rings) oR (.lst row)=
 ((Vo ((fU (.lst row) 0).bind λx=>(cM .min [.lst row]).bind λy=>cmp .Eq x y) (Vo ((fU (.lst row) 0).bind λx=>(((fU (.lst row) (-1)).bind intD).bind λi=>fU (.lst b) i).bind λy=>cmp .In x y) (some true))).bind λc=>if c=true then some true else some false).bind λc=>
   if c=true then((((dX T 29).d (QI oR) (oE (oQ z b rows rings) (.lst row) oR) oI).bind λd=>some [d]).bind λds=>cM .sum ds).map λd=>[d]else some []:=by rfl'
theorem aq6(z)(b rows rings row)(j):iM (dX T 28) (oE (oQ z b rows rings) (.lst row) oR) oI (.int j)=(aE .Pow (.int 2) (.int j)).map λd=>[d]:=by rfl'
theorem aq7(z)(b rows rings row):cOk (QI oR) (oE (oQ z b rows rings) (.lst row) oR) oI=true:=by rfl'
theorem aq8(z)(b rows rings row):(dX T 28).d (QI oR) (oE (oQ z b rows rings) (.lst row) oR) (ql oI)=some (.lst row):=by rfl'
theorem V1(o:Option D)(b rows rings BZ more)(z)(n)(h1:(dX T 31).d oK (oQ z b rows rings) oC=some (.lst BZ))(c:Bool)(h2:(aE .Mod (.int z) (.int 2)).bind (λd=>cmp .Eq d (.int 1))=some c)
(h3:c=true->(dX T 31).d oK (oQ z b BZ rings) oR=some (.lst more)/\rings.length+more.length<=eu):
 Xa T oK ["rings"] (n+2) Yw (g1 (fk oK (iU oF) (.int z) (oS o b rows rings,["rings"]))) (g2 (fk oK (iU oF) (.int z) (oS o b rows rings,["rings"])))=some (.nx (oS (some (.int z)) b BZ (if c=true then rings++more else rings)) ["rings"]):=by
 rcases o with _|o
 all_goals
  refine fV (bs:=[ak 0 Yw,ak 1 Yw]) ?_;refine fh (zm BZ (tr h1)) ?_;cases c with
  |true=>
   refine lV (b:=[ak 0 (bp (ak 1 Yw))]) (σ':=oS (some (.int z)) b BZ (rings++more)) (own':=["rings"]) (tr h2) (fV (bs:=[ak 0 (bp (ak 1 Yw))]) ?_) rfl;exact fh (KA (ds:=rings) (n8 (d:=.lst more) (tr (h3 rfl).1)) (h3 rfl).2) rfl
  |false=>exact cR (b:=[]) (σ':=oS (some (.int z)) b BZ rings) (own':=["rings"]) (tr h2) (fV (bs:=[]) rfl) rfl
theorem acR(o:Option D)(b rows rings)(z):(fk oK (iU oF) (.int z) (oS o b rows rings,["rings"])).isSome=true:=by
 rcases o with _|o<;>rfl'
theorem aq9(o:Option D)(b rows rings):(dX T 31).d oK (oS o b rows rings) (bj (ak 2 SO))=((((cM .len [.lst rows])).bind λd=>some [d,.lst rings]).bind λds=>if ds.length<=eu then some (.tup ds)else none):=by
 rcases o with _|o<;>rfl'
end
end
end Internal.Z
namespace Internal.Z
section
open Internal.V
theorem Nb{row:List Nat}(h:row≠[])(hb:row.length<2^60):fU (.lst (row.map di)) (-1)=some (di (row.getLastD 0)):=by
 have hl:=List.length_pos_iff.mpr h;rw[Cy (by omega)];unfold Sz seqIndex?;have e1:(if(-1:Int)<0 then -1+((row.map di).length:Int)else -1)=(row.length:Int) - 1:=by rw[if_pos (by decide),aj];omega
 simp only[e1];rw[if_pos (by simp;omega),ag,gG,show((row.length:Int) - 1).toNat=row.length - 1 by omega,<-List.getLast?_eq_getElem?,NO,Hc h];rfl
theorem Nc{row:List Nat}(h:row≠[])(hb:row.length<2^60):fU (.lst (row.map di)) 0=some (di (row.headD 0)):=by
 obtain⟨x,t,rfl⟩:=pC h;exact Gf (l:=x::t) (a:=0) (by simp) hb
theorem Nd(j:Nat)(row:List Nat):cmp .NotIn (di j) (dl row)=some (!row.contains j):=by
 show(yi (di j) (dl row)).map (λx=> !x)=_;have:yi (di j) (dl row)=some (decide (j∈row)):=BU j row;rw[this];refine congrArg (λx=>some (!x)) ?_;rw[fe,decide_eq_true_eq,cL]
theorem acS(j:Nat)(row:List Nat):cmp .In (di j) (dl row)=some (row.contains j):=by
 have:cmp .In (di j) (dl row)=some (decide (j∈row)):=BU j row;rw[this];refine congrArg some ?_;rw[fe,decide_eq_true_eq,cL]
theorem Dj:∀(ns:List Int)(n a:Int),a∈n::ns->ns.foldl min n<=a:=by
 intro ns
 induction ns with
 |nil=>intro n a h;rw[aY.mp h];exact Ht _
 |cons m ns ih=>
  intro n a h;rw[kn];rcases aJ.mp h with rfl|h
  ·exact gi (ih _ _ (aA ..)) (Int.min_le_left ..)
  ·rcases aJ.mp h with rfl|h
   ·exact gi (ih _ _ (aA ..)) (atb ..)
   ·exact ih _ _ (aD _ h)
theorem Ru{row:List Nat}(h:row≠[]):(cM .min [.lst (row.map di)]).bind (λy=>cmp .Eq (di (row.headD 0)) y)=some (rv row):=by
 obtain⟨x,t,rfl⟩:=pC h;have e1:cM .min [.lst ((x::t).map di)]=some (.int ((t.map fQ).foldl min (x:Int))):=by
  have e0:Pp ((x::t).map di)=some (.int ((t.map fQ).foldl min (x:Int))):=by
   unfold Pp;rw[ints_map];rfl
  show dG none (dG (Pp ((x::t).map di)) _)=_;rw[e0];rfl
 rw[e1,ag];show some ((x:Int)==(t.map fQ).foldl min (x:Int))=_;refine congrArg some ?_;unfold rv;rw[fe,beq_iff_eq,aw];have key:=Dj (t.map fQ) x;constructor
 ·intro e y hy
  have:=key y (by
   rcases aJ.mp hy with rfl|hy
   ·exact aA ..
   ·exact aD _ (fY.mpr ⟨y,hy,rfl⟩))
  rw[<-e]at this;exact el (gj.mp this)
 ·intro h
  refine(p5 (t.map fQ) x x (aA ..) λa ha=>?_).symm;rcases aJ.mp ha with rfl|ha
  ·exact Ht _
  ·obtain⟨y,hy,rfl⟩:=fY.mp ha
   exact gj.mpr (bQ (h y (aD _ hy)))
theorem V2(l:List Nat):cM .sum [.lst (l.map di)]=some (di l.sum):=by
 show(gO (l.map di)).map (λns=>D.int ns.sum)=_;rw[ints_map];refine congrArg (λx=>some (D.int x)) ?_
 induction l with
 |nil=>rfl
 |cons a l ih=>rw[bJ,qU,qU,ih,ff];rfl
def RU(b:List (List Nat)):Nat->List Nat
 |0=>[]
 |1=>[]
 |m+2=>if(m+2)%2==1 then RU b (m+1)++ix b (m+2)else RU b (m+1)
structure Tb(b:List (List Nat))(n:Nat):Prop where
 ln:b.length=n
 n6:n<=6
 SP:∀i,(b.getD i []).length<=6
 rows:∀m,1<=m->∀row∈eN b m,row≠[]/\row.length=m/\∀x∈row,x<n
theorem Rv(f:α->List β)(k):∀L:List α,(∀x∈L,(f x).length<=k)->(L.flatMap f).length<=k*L.length:=by
 intro L
 induction L with
 |nil=>intro _;simp
 |cons x t ih=>
  intro h;have h1:=h x (aA ..);have h2:=ih λy hy=>h y (aD _ hy);rw[ec,aG,bE,lF];omega
theorem Rw{b:List (List Nat)}{n:Nat}(t:Tb b n):∀m,(eN b (m+1)).length<=6^(m+1):=by
 intro m
 induction m with
 |zero=>rw[eN,aj,b8,t.ln];exact t.n6
 |succ m ih=>
  rw[eN,Xe,eW];refine aq (Rv _ 6 _ λrow _=>?_) (c7 _ ih);rw[aj];exact aq (tU ..) (t.SP _)
theorem sZ{b:List (List Nat)}{n m:Nat}(t:Tb b n)(h0:1<=m)(h:m<=6):(eN b m).length<=46656:=by
 obtain⟨m,rfl⟩:∃k,m=k+1:=⟨m - 1,by omega⟩
 exact aq (Rw t m) (bO (n:=6) (by decide) h)
theorem KZ{b:List (List Nat)}{n:Nat}(t:Tb b n){row:List Nat}(h:row≠[])(hl:row.length<=6)(hr:∀x∈row,x<n):(((fU (.lst (row.map di)) (-1)).bind intD).bind λi=>fU (.lst (b.map dl)) i)=some (dl (b.getD (row.getLastD 0) [])):=by
 have hx:=hr _ (qp row h);have hb:row.getLastD 0<b.length:=by rw[t.ln];exact hx
 rw[Nb h (by omega),ag,show intD (di (row.getLastD 0))=some ((row.getLastD 0:Nat):Int)from rfl,ag,jt hb (by rw[t.ln];have:=t.n6;omega),oG hb]
section
variable{T:ek}
theorem acT{b:List (List Nat)}{n:Nat}(t:Tb b n)(z)(rings)(m:Nat)(h1:1<=m)(h6:m+1<=6):(dX T 31).d oK (oQ z (b.map dl) ((eN b m).map dl) rings) oC=some (.lst ((eN b (m+1)).map dl)):=by
 have f9:=ei;obtain⟨m,rfl⟩:∃k,m=k+1:=⟨m - 1,by omega⟩
 have key:((eN b (m+1)).flatMap λrow=>((b.getD (row.getLastD 0) []).filter λj=> !row.contains j).map λj=>dl (row++[j]))=(eN b (m+2)).map dl:=by
  rw[eN,amX];simp only[eU,Function.comp_def]
 have e:=iw (T:=T) (V:=dX T 30) (ks:=oK) (σ:=oQ z (b.map dl) ((eN b (m+1)).map dl) rings) (e:=oC) (d:=.lst ((eN b (m+1)).map dl)) (φ:=dl) (xs:=eN b (m+1)) (g:=λrow=>((b.getD (row.getLastD 0) []).filter λj=> !row.contains j).map λj=>dl (row++[j]))
  (by rfl') (by rfl') rfl (λrow Rl=>?_) ?_
 ·rw[key]at e;exact e
 ·obtain⟨r1,r2,r3⟩:=t.rows (m+1) h1 row Rl
  refine(aq3 ..).trans ?_;rw[KZ t r1 (by omega) r3,ag];show gQ _ ((b.getD (row.getLastD 0) []).map di)=_;have:=sO (φ:=di) (xs:=b.getD (row.getLastD 0) []) (g:=λj=>if(!row.contains j)=true then[dl (row++[j])]else[]) (f:=ur (dX T 30) (oE (oQ z (b.map dl) ((eN b (m+1)).map dl) rings) (.lst (row.map di)) oC) oC) (λj hj=>?_)
  ·refine this.trans (congrArg some ?_)
   exact mD (p:=λj=> !row.contains j) (f:=λj=>dl (row++[j])) (b.getD (row.getLastD 0) [])
  ·refine(aq4 z _ _ _ _ _).trans ?_
   rw[show cmp .NotIn (D.int ((j:Nat):Int)) (.lst (row.map di))=some (!row.contains j)from Nd j row,turn_if,qG (by rw[aj];simp;omega)];unfold dl;rw[da];cases row.contains j<;>rfl
 ·rw[key,aj]
  exact aq (sZ t (by omega) h6) (by omega)
theorem acU(z)(b rows rings)(row:List Nat)(hl:row.length<=6)(hr:∀x∈row,x<6):(dX T 29).d (QI oR) (oE (oQ z b rows rings) (.lst (row.map di)) oR) oI=some (.lst ((row.map λj=>2^j).map di)):=by
 have f9:=ei;have e:=iw (T:=T) (V:=dX T 28) (ks:=QI oR) (σ:=oE (oQ z b rows rings) (.lst (row.map di)) oR) (e:=oI) (d:=.lst (row.map di)) (φ:=di) (xs:=row) (g:=λj=>[di (2^j)])
  (aq7 ..) (aq8 ..) rfl (λj hj=>?_) ?_
 ·rw[eV]at e
  rw[eU];exact e
 ·refine(aq6 z b rows rings (row.map di) j).trans ?_
  have:=sW (a:=2) (n:=j) (by decide) (by have:=hr j hj;omega);rw[show aE .Pow (.int 2) (.int (j:Int))=some (.int ((2^j:Nat):Int))from this];rfl
 ·rw[eV,aj];omega
theorem V3{b:List (List Nat)}{n:Nat}(t:Tb b n)(z)(rings)(m:Nat)(h1:1<=m)(h6:m<=6):(dX T 31).d oK (oQ z (b.map dl) ((eN b m).map dl) rings) oR=some (.lst ((ix b m).map di)):=by
 have f9:=ei;have hn:=t.n6;have key:((eN b m).flatMap λrow=>if(rv row&&oM b row)=true then[di (zG row)]else[])=(ix b m).map di:=by
  rw[mD (p:=λrow=>rv row&&oM b row) (f:=λrow=>di (zG row))];unfold ix;rw[eU];rfl
 have e:=iw (T:=T) (V:=dX T 30) (ks:=oK) (σ:=oQ z (b.map dl) ((eN b m).map dl) rings) (e:=oR) (d:=.lst ((eN b m).map dl)) (φ:=dl) (xs:=eN b m) (g:=λrow=>if(rv row&&oM b row)=true then[di (zG row)]else[])
  (by rfl') (by rfl') rfl (λrow Rl=>?_) ?_
 ·rw[key]at e;exact e
 ·obtain⟨r1,r2,r3⟩:=t.rows m h1 row Rl
  refine(aq5 ..).trans ?_;have q1:(fU (.lst (row.map di)) 0)=some (di (row.headD 0)):=Nc r1 (by omega);have q2:cmp .In (di (row.headD 0)) (dl (b.getD (row.getLastD 0) []))=some (oM b row):=acS ..;rw[q1,ag,Ru r1,ag,KZ t r1 (by omega) r3,ag,q2,acU _ _ _ _ _ (by omega) (λx hx=>cw (r3 x hx) hn),ag,ag,V2];cases rv row<;>cases oM b row<;>rfl
 ·rw[key,aj]
  unfold ix;rw[aj];exact aq (oH _ _ _ (sZ t h1 h6)) (by omega)
theorem acV{b:List (List Nat)}{n:Nat}(t:Tb b n)(k:Nat):∀(j m:Nat)(o:Option D),1<=m->m+j=n->(RU b m).length<=100000*m->
 ∃o',sG (Xa T oK ["rings"] (k+2)) oK (iU oF) Yw ((iz (m+1) j).map di) (oS o (b.map dl) ((eN b m).map dl) ((RU b m).map di)) ["rings"]=some (.nx (oS o' (b.map dl) ((eN b n).map dl) ((RU b n).map di)) ["rings"]):=by
 have f9:=ei;have hn:=t.n6;intro j
 induction j with
 |zero=>
  intro m o h1 h2 _;obtain rfl:m=n:=h2;exact⟨o,rfl⟩
 |succ j ih=>
  intro m o h1 h2 h3;obtain⟨m,rfl⟩:∃k,m=k+1:=⟨m - 1,by omega⟩
  have hq:(ix b (m+2)).length<=46656:=by
   unfold ix;rw[aj];exact oH _ _ _ (sZ t (by omega) (by omega))
  obtain⟨o',ho⟩:=ih (m+2) (some (.int ((m+2:Nat):Int))) (by omega) (by omega) (by
   rw[RU];split
   ·rw[aG];omega
   ·omega)
  refine⟨o',?_⟩;rw[l7,bJ];have hc:(aE .Mod (.int ((m+2:Nat):Int)) (.int 2)).bind (λd=>cmp .Eq d (.int 1))=some ((m+2)%2==1):=by
   have:=ja (a:=m+2) (b:=2) (by decide);rw[show((2:Nat):Int)=2 from rfl]at this;rw[this,ag];exact sU ((m+2)%2) 1
  have hs:=V1 (T:=T) o (b.map dl) ((eN b (m+1)).map dl) ((RU b (m+1)).map di) ((eN b (m+2)).map dl) ((ix b (m+2)).map di) ((m+2:Nat):Int) k (acT t _ _ (m+1) h1 (by omega)) _ hc (λ_=>⟨V3 t _ _ (m+2) (by omega) (by omega),by rw[aj,aj];omega⟩);refine sR hs ?_ (acR ..);have e:(if((m+2)%2==1)=true then(RU b (m+1)).map di++(ix b (m+2)).map di else(RU b (m+1)).map di)=(RU b (m+2)).map di:=by
   rw[RU,<-da];split<;>rfl
  rw[e];exact ho
theorem aj3{b:List (List Nat)}{n:Nat}(t:Tb b n)(h1:1<=n):Xa T oK ["rings"] 20 SO [("beaten",.lst (b.map dl))] []=some (.rt (.tup [di (eN b n).length,.lst ((RU b n).map di)])):=by
 have f9:=ei;have hn:=t.n6;have hln:=t.ln;obtain⟨o',ho⟩:=acV (T:=T) t 17 (n - 1) 1 none (cf _) (by omega) (by simp[RU]);refine fV (bs:=[ak 0 SO,ak 1 SO,ak 2 SO]) ?_;have e1:(dX T 31).d oK [("beaten",.lst (b.map dl))] (Ah 0 (ak 0 SO))=some (.lst ((eN b 1).map dl)):=by
  have e:=iw (T:=T) (V:=dX T 30) (ks:=oK) (σ:=[("beaten",.lst (b.map dl))]) (e:=Ah 0 (ak 0 SO)) (d:=.og 0 b.length 1) (φ:=di) (xs:=aM b.length) (g:=λi=>[dl [i]])
   (by rfl') (tr (b:=((cM .len [.lst (b.map dl)]).bind λd=>some [d]).bind λds=>cM .range ds) (by rw[mA (by rw[aj];omega),aj];rfl)) (kc _ (by omega)) (λi _=>by rfl') (by rw[eV,aj,b8];omega)
  rw[eV]at e;rw[eN,eU];exact e
 refine fh (mT ["rows","rings"] [Ah 0 (ak 0 SO),Ah 1 (ak 0 SO)] (ey (n8 (tr e1)) (ey (n8 (d:=.lst []) (by rfl')) mR))) ?_;refine fh (zg (ds:=(iz 2 (n - 1)).map di) ?_ (tr ho)) ?_
 ·refine tr (b:=(((((cM .len [.lst (b.map dl)]).bind λd=>aE .Add d (.int 1)).bind λd=>some [d]).bind λds=>some (.int 2::ds)).bind λds=>cM .range ds).bind items) ?_
  rw[mA (by rw[aj];omega),aj,hln];have:=BR 2 (n+1) (by omega) (by omega);rw[show n+1 - 2=n - 1 by omega]at this;rw[ff,show((2:Nat):Int)=2 from rfl,show((1:Nat):Int)=1 from rfl]at this;exact oB (oB (oB (oB (oB rfl (add_int _ _)) rfl) rfl) rfl) this
 refine dm (dW _ ((aq9 o' _ _ _).trans ?_));have hr:=sZ t h1 hn;rw[mA (by rw[aj];omega),aj];rfl
end
end
end Internal.Z
end
section
open PySem PySem.W PyProof.Rows
set_option exponentiation.threshold 3000
namespace Internal.Z
section
def cd{α:Type}(c:Bool)(x y:α):α:= @Bool.rec (λ_=>α) y x c
theorem cj{α:Type}(x y:α):cd true x y=x:=rfl
theorem bz{α:Type}(x y:α):cd false x y=y:=rfl
theorem Yx{α:Type}(c:Bool)(x y:α):cond c x y=cd c x y:=by cases c<;>rfl
def mF(k:Nat->Nat)(n:Nat):Nat:=Nat.rec (k 0) (λm _=>k (lC m)) n
theorem gn(k:Nat->Nat)(n:Nat):mF k n=k n:=by cases n<;>rfl
def NZ(s:Nat)(c:Nat)(k:Nat->Nat)(n:Nat):Nat:=cd (bX c n) (eg s (mF k (Ls n c))) (k n)
def lg0(n:Nat):Nat:=cd (bX 2 n) 1 0
def lg1:Nat->Nat:=NZ 2 4 lg0
def lg2:Nat->Nat:=NZ 4 16 lg1
def lg3:Nat->Nat:=NZ 8 256 lg2
def lg4:Nat->Nat:=NZ 16 65536 lg3
def lg5:Nat->Nat:=NZ 32 4294967296 lg4
def lg6:Nat->Nat:=NZ 64 18446744073709551616 lg5
def V4:Nat->Nat:=NZ 128 340282366920938463463374607431768211456 lg6
theorem GB(h:2^s<=n):eG n=s+eG (n/2^s):=by
 have hn:n≠0:=by have:=fg (a:=2) (n:=s) (by decide);omega
 have hq:n/2^s≠0:=by
  have:=aem h (fg (by decide));omega
 rw[avN hn];have h1:=Nat.log2_self_le hq;have h2:n/2^s<2^(eG (n/2^s)+1):=atq;have hp:0<2^s:=fg (by decide);constructor
 ·rw[iD]
  have:=c7 (2^s) h1;exact aq this (Nat.mul_div_le _ _)
 ·rw[Ak,iD,eW]
  exact(Nat.div_lt_iff_lt_mul hp).mp h2
theorem mW(h:∀n,0<n->n<2^s->k n=eG n):∀n,0<n->n<2^(2*s)->NZ s (2^s) k n=eG n:=λn h0 hn=>by
 unfold NZ;rw[gn];by_cases hb:2^s<=n
 ·rw[el hb]
  show s+k (n/2^s)=_;rw[h _ (aem hb (fg (by decide))),<-GB hb];rw[Nat.two_mul,iD]at hn;exact mZ hn
 ·have:bX (2^s) n=false:=by
   cases e:bX (2^s) n with
   |false=>rfl
   |true=>exact absurd (bQ e) hb
  rw[this];exact h n h0 (by omega)
theorem acW:∀n,0<n->n<2^2->lg0 n=eG n:=λn h0 hn=>
 (by decide:∀n,n<4->0<n->lg0 n=eG n) n hn h0
theorem uI:∀n,0<n->n<2^256->V4 n=eG n:=
 mW (s:=128) (mW (s:=64) (mW (s:=32) (mW (s:=16) (mW (s:=8) (mW (s:=4) (mW (s:=2) acW))))))
theorem xq(h:a≠b):bM a b=false:=by
 cases e:bM a b with
 |false=>rfl
 |true=>exact absurd (bF e) h
theorem acX(h:¬a<=b):bX a b=false:=by
 cases e:bX a b with
 |false=>rfl
 |true=>exact absurd (bQ e) h
theorem ez(a b):bX a b=decide (a<=b):=by
 by_cases h:a<=b
 ·rw[el h,decide_eq_true h]
 ·rw[acX h,decide_eq_false h]
def he2(d q r2:Nat):Nat:=cd (bX r2 d) (cd (bM r2 d) (eg q (qV q 2)) q) (lC q)
def he1(n d q:Nat):Nat:=mF (he2 d q) (jc 2 (qV n d))
def heN(d n:Nat):Nat:=mF (he1 n d) (Ls n d)
def heM(n d:Nat):Nat:=mF (he1 n d) (Ls n d)
def rm4(n d E:Nat):Nat:=cd (bX E 1074) (mF (heN d) (jc n (jE 2 (fT 1074 E)))) (mF (heM n) (jc d (jE 2 (fT E 1074))))
def rmM(r:Nat):Nat:=cd (bX r 9218868437227405312) r 9218868437227405312
def rm3(n d E:Nat):Nat:=mF rmM (eg (jc E 4503599627370496) (rm4 n d E))
def rmB(n d L K:Nat):Bool:=cd (bX K L) (bX (jc d (jE 2 (fT L K))) n) (bX d (jc n (jE 2 (fT K L))))
def rm2(n d L K:Nat):Nat:=mF (rm3 n d) (fT (eg L (cd (rmB n d L K) 1022 1021)) K)
theorem Yy(n d:Nat):he1 n d (n/d)=A9 n d:=by
 unfold he1;rw[gn];unfold he2 A9;show cd (bX (2*(n%d)) d) (cd (bM (2*(n%d)) d) (n/d+(n/d)%2) (n/d)) (n/d+1)=if(decide (2*(n%d)>d)||(2*(n%d)==d&&n/d%2==1))=true then n/d+1 else n/d;rcases Nat.lt_trichotomy (2*(n%d)) d with h|h|h
 ·rw[el (cA h)]
  have h2:bM (2*(n%d)) d=false:=xq (eA h);have h3:(2*(n%d)==d)=false:=beq_eq_false_iff_ne.mpr (eA h);rw[h2,h3];simp[cj,bz];omega
 ·rw[h,el (cf _)]
  simp[cj,bz];have:=NQ (n/d);rcases this with h0|h0<;>simp[h0,cj,bz]
 ·have h1:bX (2*(n%d)) d=false:=by
   cases e:bX (2*(n%d)) d with
   |false=>rfl
   |true=>have:=bQ e;omega
  rw[h1];simp[h,cj,bz]
theorem zM{n d:Nat}{k:Int}{j:Nat}(h:k=j):eL n d k=(n*2^j,d):=by
 unfold eL;rw[if_pos (by omega),h,aR]
theorem tc{n d:Nat}{k:Int}{j:Nat}(h:k= -(j:Int)):eL n d k=(n,d*2^j):=by
 unfold eL;by_cases hj:j=0
 ·subst hj
  rw[if_pos (by omega),h];simp
 ·rw[if_neg (by omega),h,aeo,aR]
theorem Yz(n d:Nat)(hn:0<n)(h1:eG d<=eG n+1021):Ba n d=rm2 n d (eG n) (eG d):=by
 generalize hL:eG n=L at h1;generalize hK:eG d=K at h1;unfold Ba;rw[if_neg (by simpa using(by omega:n≠0)),hL,hK];obtain⟨E,hE⟩:∃E,E=L+(cd (rmB n d L K) 1022 1021) - K:=⟨_,rfl⟩;have hB:(if(eL n d (-((L:Int) - (K:Int)))).1>=(eL n d (-((L:Int) - (K:Int)))).2 then((L:Int) - K) - 52 else((L:Int) - K) - 53)=((E:Nat):Int) - 1074:=by
  rw[hE];unfold rmB;by_cases hk:K<=L
  ·rw[el hk,tc (j:=L - K) (by omega)]
   show(if n>=d*2^(L - K)then _ else _)=((L+(cd (bX (d*2^(L - K)) n) 1022 1021) - K:Nat):Int) - 1074;rw[ez];by_cases hb:d*2^(L - K)<=n
   ·rw[if_pos hb,decide_eq_true hb,cj];omega
   ·rw[if_neg hb,decide_eq_false hb,bz];omega
  ·rw[acX hk,zM (j:=K - L) (by omega)]
   show(if n*2^(K - L)>=d then _ else _)=((L+(cd (bX d (n*2^(K - L))) 1022 1021) - K:Nat):Int) - 1074;rw[ez];by_cases hb:d<=n*2^(K - L)
   ·rw[if_pos hb,decide_eq_true hb,cj];omega
   ·rw[if_neg hb,decide_eq_false hb,bz];omega
 have hm:max (((E:Nat):Int) - 1074) (-1074)=((E:Nat):Int) - 1074:=Int.max_eq_left (by omega);have hr:rm2 n d L K=rm3 n d E:=by
  unfold rm2;rw[gn,hE];rfl
 have hmm:∀r,rmM r=min alI r:=λr=>by
  unfold rmM;rw[ez,show alI=9218868437227405312 from by decide];by_cases h:r<=9218868437227405312
  ·rw[decide_eq_true h,cj];exact(atl h).symm
  ·rw[decide_eq_false h,bz];exact(nY (cA (Nat.lt_of_not_le h))).symm
 have h4:rm4 n d E=A9 (eL n d (-(((E:Nat):Int) - 1074))).1 (eL n d (-(((E:Nat):Int) - 1074))).2:=by
  unfold rm4 heN heM;simp only[gn];rw[ez];by_cases h:E<=1074
  ·rw[decide_eq_true h,cj,zM (j:=1074 - E) (by omega)]
   exact Yy _ _
  ·rw[decide_eq_false h,bz,tc (j:=E - 1074) (by omega)]
   exact Yy _ _
 rw[hr];unfold rm3;rw[gn,hmm,h4];dsimp only;rw[hB,hm];rw[Int.sub_add_cancel,aR];rfl
def lg8:Nat->Nat:=NZ 256 (2^256) V4
def lg9:Nat->Nat:=NZ 512 (2^512) lg8
def lgA:Nat->Nat:=NZ 1024 (2^1024) lg9
theorem acY:∀n,0<n->n<2^2048->lgA n=eG n:=
 mW (s:=1024) (mW (s:=512) (mW (s:=256) uI))
end
section
open Float64 in
def aQ (n:Nat):UInt64:=n.toUInt64
theorem i0(x:UInt64):aQ x.toNat=x:=by
 show avO x.toNat=x;exact UInt64.ofNat_toNat
theorem qN(n:Nat):(aQ n).toNat=n%2^64:=by
 show(avO n).toNat=_;exact UInt64.toNat_ofNat'
def SQ(neg:Bool)(m:Nat):Nat:=cd neg (eg 9223372036854775808 m) m
theorem td(neg:Bool)(m:Nat):Ae neg m=aQ (SQ neg m):=by
 unfold Ae SQ aQ;cases neg
 ·show(0+m).toUInt64=_;rw[jA];rfl
 ·rfl
def Rx(x:Nat):Nat:=qV (Ls x 4503599627370496) 2048
def frB(x:Nat):Nat:=qV x 4503599627370496
def B0(x:Nat):Bool:=bM (qV (Ls x 9223372036854775808) 2) 1
def gk(x:Nat):Nat:=cd (bM (Rx x) 0) 1 (Rx x)
def mB(x:Nat):Nat:=cd (bM (Rx x) 0) (frB x) (eg 4503599627370496 (frB x))
def gf(x:Nat):Bool:=not (bM (Rx x) 2047)
theorem YA(x):x%2^64/2^52%2048=Rx x:=by
 show x%2^64/2^52%2048=x/4503599627370496%2048;exact(congrArg (·%2048) (pQ x (2^52) 4096)).trans (alJ _ ⟨2,rfl⟩)
theorem YB(x):x%2^64%2^52=frB x:=by
 show x%2^64%2^52=x%4503599627370496;exact alJ _ ⟨4096,rfl⟩
theorem YC(x):(x%2^64/2^63==1)=B0 x:=by
 have h64:(2:Nat)^64=18446744073709551616:=rfl;have h63:(2:Nat)^63=9223372036854775808:=rfl;rw[h64,h63];show(x%18446744073709551616/9223372036854775808==1)=bM (x/9223372036854775808%2) 1;rw[show x%18446744073709551616/9223372036854775808=x/9223372036854775808%2 from pQ x 9223372036854775808 2];rcases NQ (x/9223372036854775808)with h|h<;>rw[h]<;>rfl
theorem gv(h:gf x=true):Hd (aQ x)=.fin (B0 x) (mB x) ((gk x:Int) - 1075):=by
 unfold Hd;rw[qN,YA,YB,YC];unfold gf at h;have h1:(Rx x==2047)=false:=by
  cases e:(Rx x==2047)with
  |false=>rfl
  |true=>
   rw[eq_of_beq e]at h;cases h
 dsimp only;rw[h1,if_neg aF];unfold mB gk;by_cases h0:Rx x=0
 ·rw[h0];rfl
 ·rw[if_neg (by simpa using h0),xq h0];rfl
theorem YD(x):mB x<2^53:=by
 have hf:frB x<4503599627370496:=dP _ (by decide);have h53:(2:Nat)^53=9007199254740992:=rfl;rw[h53];unfold mB;cases bM (Rx x) 0
 ·show 4503599627370496+frB x<_;lia
 ·show frB x<_;lia
theorem GC(j):eG (2^j)=j:=by
 rw[avN (by have:=fg (a:=2) (n:=j) (by decide);lia)];exact⟨cf _,jj (by decide) (by lia)⟩
theorem GD(j)(h:0<m):eG (m*2^j)=eG m+j:=by
 have hp:0<2^j:=fg (by decide);have:=GB (n:=m*2^j) (s:=j) (tL _ h);rw[this,Nat.mul_div_cancel _ hp,jD]
def ob2(neg:Bool)(m j L:Nat):Nat:=cd (bX j (eg L 1021)) (SQ neg (mF (λd=>rm2 m d L j) (jE 2 j))) (jF neg m (-(j:Int))).toNat
def ob1(neg:Bool)(m j:Nat):Nat:=cd (bX m 115792089237316195423570985008687907853269984665640564039457584007913129639935) (mF (ob2 neg m j) (V4 m)) (cd (lA m (2^2048)) (mF (ob2 neg m j) (lgA m)) (jF neg m (-(j:Int))).toNat)
def V5(neg:Bool)(j m:Nat):Nat:=cd (bM m 0) (SQ neg 0) (ob1 neg m j)
theorem GF(neg:Bool)(m j:Nat):jF neg m (-(j:Int))=Ae neg (Ba m (2^j)):=by
 unfold jF;rw[tc (j:=j) rfl,ael];show fy neg m (2^j)=_;unfold fy;rfl
theorem Ry(neg:Bool)(j m:Nat)(h0:m≠0):jF neg m (-(j:Int))=aQ (ob2 neg m j (eG m)):=by
 unfold ob2;rw[ez];by_cases h2:j<=eg (eG m) 1021
 ·rw[decide_eq_true h2,cj,gn,GF,Yz m (2^j) (by lia) (by rw[GC];exact h2),GC,td]
  rfl
 ·rw[decide_eq_false h2,bz,i0]
theorem wX(neg:Bool)(j m:Nat):jF neg m (-(j:Int))=aQ (V5 neg j m):=by
 unfold V5;by_cases h0:m=0
 ·subst h0
  rw[GF];show Ae neg 0=_;exact td neg 0
 ·rw[xq h0,bz]
  unfold ob1;rw[ez];by_cases h1:m<=115792089237316195423570985008687907853269984665640564039457584007913129639935
  ·rw[decide_eq_true h1,cj,gn]
   have hm:m<2^256:=by
    have:(2:Nat)^256=115792089237316195423570985008687907853269984665640564039457584007913129639936:=by decide
    lia
   rw[uI m (by lia) hm];exact Ry neg j m h0
  ·rw[decide_eq_false h1,bz]
   cases hb:lA m (2^2048)with
   |true=>
    have hm:m<2^2048:=bQ hb;rw[cj,gn,acY m (by lia) hm];exact Ry neg j m h0
   |false=>rw[bz,i0]
def GG(x y:Nat):Nat:=(i6 (aQ x) (aQ y)).toNat
def ad4(a b:Bool)(j p q:Nat):Nat:=cd (mK a b) (cd (bX q p) (cd (bM p q) 0 (mF (V5 a j) (fT p q))) (mF (V5 b j) (fT q p))) (mF (V5 a j) (eg p q))
def ad3(a b:Bool)(k f g p:Nat):Nat:=mF (λq=>mF (λj=>ad4 a b j p q) (fT 1075 g)) (jc k (jE 2 (fT f g)))
def ad2(a b:Bool)(m e k f g:Nat):Nat:=mF (ad3 a b k f g) (jc m (jE 2 (fT e g)))
def ad1(x y:Nat)(a b:Bool)(m e k f:Nat):Nat:=cd (bX e f) (cd (bX e 1075) (ad2 a b m e k f e) (GG x y)) (cd (bX f 1075) (ad2 a b m e k f f) (GG x y))
def dc2(k:Bool->Bool->Nat->Nat->Nat->Nat->Nat)(x y:Nat):Nat:=
 mF (λm=>mF (λe=>mF (λn=>mF (λf=>k (B0 x) (B0 y) m e n f) (gk y)) (mB y)) (gk x)) (mB x)
theorem zN(k:Bool->Bool->Nat->Nat->Nat->Nat->Nat)(x y):dc2 k x y=k (B0 x) (B0 y) (mB x) (gk x) (mB y) (gk y):=by
 unfold dc2;simp only[gn]
def Jh(x y:Nat):Nat:=cd (gf x) (cd (gf y) (dc2 (ad1 x y) x y) (GG x y)) (GG x y)
theorem Rz(a b:Bool)(j p q:Nat):(if(ck a p+ck b q==0)=true then kM (a&&b)else jF (decide (ck a p+ck b q<0)) (ck a p+ck b q).natAbs (-(j:Int)))=aQ (ad4 a b j p q):=by
 unfold ad4;simp only[gn];have hz:∀c:Bool,kM c=aQ (V5 c j 0):=λc=>(td c 0).trans (congrArg aQ (show SQ c 0=V5 c j 0 from rfl));have h00:kM false=aQ 0:=(td false 0).trans (congrArg aQ (show SQ false 0=0 from rfl));cases a<;>cases b
 ·have e:ck false p+ck false q=((p+q:Nat):Int):=by show(p:Int)+q=_;lia
  rw[e,show mK false false=false from rfl,bz,show eg p q=p+q from rfl];by_cases h:p+q=0
  ·rw[if_pos (by rw[h];rfl),h];exact hz false
  ·rw[if_neg (by rw[beq_iff_eq];lia),decide_eq_false (by lia),iJ,wX]
 ·have e:ck false p+ck true q=(p:Int) - q:=by show(p:Int)+ -(q:Int)=_;lia
  rw[e,show mK false true=true from rfl,cj,ez];by_cases h:q<=p
  ·rw[decide_eq_true h,cj]
   by_cases h2:p=q
   ·subst h2
    rw[if_pos (by rw[beq_iff_eq];lia)];have:bM p p=true:=tN p;rw[this,cj];exact h00
   ·rw[xq h2,bz,if_neg (by rw[beq_iff_eq];lia),decide_eq_false (by lia),<-wX]
    congr 1;show _=p - q;lia
  ·rw[decide_eq_false h,bz,if_neg (by rw[beq_iff_eq];lia),decide_eq_true (by lia),<-wX]
   congr 1;show _=q - p;lia
 ·have e:ck true p+ck false q=(q:Int) - p:=by show -(p:Int)+(q:Int)=_;lia
  rw[e,show mK true false=true from rfl,cj,ez];by_cases h:q<=p
  ·rw[decide_eq_true h,cj]
   by_cases h2:p=q
   ·subst h2
    rw[if_pos (by rw[beq_iff_eq];lia)];have:bM p p=true:=tN p;rw[this,cj];exact h00
   ·rw[xq h2,bz,if_neg (by rw[beq_iff_eq];lia),decide_eq_true (by lia),<-wX]
    congr 1;show _=p - q;lia
  ·rw[decide_eq_false h,bz,if_neg (by rw[beq_iff_eq];lia),decide_eq_false (by lia),<-wX]
   congr 1;show _=q - p;lia
 ·have e:ck true p+ck true q= -((p+q:Nat):Int):=by show -(p:Int)+ -(q:Int)=_;lia
  rw[e,show mK true true=false from rfl,bz,show eg p q=p+q from rfl];by_cases h:p+q=0
  ·rw[if_pos (by rw[h];rfl),h];exact hz true
  ·rw[if_neg (by rw[beq_iff_eq];lia),decide_eq_true (by lia),Int.natAbs_neg,iJ,wX]
theorem zO(a:Bool)(m:Nat)(b:Bool)(k e f g:Nat)(h:(g=e/\e<=f)\/(g=f/\f<=e)):
 amY a m ((e:Int) - 1075) b k ((f:Int) - 1075)=(ck a (m*2^(e - g)),ck b (k*2^(f - g)),(g:Int) - 1075):=by
 unfold amY;have hg:min ((e:Int) - 1075) ((f:Int) - 1075)=(g:Int) - 1075:=by
  rcases h with⟨rfl,h⟩|⟨rfl,h⟩
  ·exact avM (aep (gj.mpr h) _)
  ·exact atm (aep (gj.mpr h) _)
 rw[hg];have hc (e:Nat):((e:Int) - 1075 - ((g:Int) - 1075)).toNat=e - g:=by rw[show(e:Int) - 1075 - ((g:Int) - 1075)=e - g by lia];exact Int.toNat_sub ..
 have h1:=hc e;have h2:=hc f;dsimp only;rw[h1,h2]
theorem Dk(x y:Nat):i6 (aQ x) (aQ y)=aQ (Jh x y):=by
 unfold Jh;have hs:i6 (aQ x) (aQ y)=aQ (GG x y):=(i0 _).symm;cases hx:gf x
 ·exact hs
 ·cases hy:gf y
  ·exact hs
  ·rw[cj,cj,zN]
   have key:∀g,(g=gk x/\gk x<=gk y)\/(g=gk y/\gk y<=gk x)->g<=1075->i6 (aQ x) (aQ y)=aQ (ad2 (B0 x) (B0 y) (mB x) (gk x) (mB y) (gk y) g):=λg hg h75=>by
    unfold i6;rw[gv hx,gv hy];dsimp only;rw[zO _ _ _ _ _ _ g hg];unfold ad2 ad3;simp only[gn];have:=Rz (B0 x) (B0 y) (1075 - g) (mB x*2^(gk x - g)) (mB y*2^(gk y - g));rw[show -((1075 - g:Nat):Int)=(g:Int) - 1075 by lia]at this;exact this
   unfold ad1;rw[ez,ez,ez];by_cases h:gk x<=gk y
   ·rw[decide_eq_true h,cj]
    by_cases h2:gk x<=1075
    ·rw[decide_eq_true h2,cj];exact key _ (.inl ⟨rfl,h⟩) h2
    ·rw[decide_eq_false h2,bz];exact hs
   ·rw[decide_eq_false h,bz]
    by_cases h2:gk y<=1075
    ·rw[decide_eq_true h2,cj];exact key _ (.inr ⟨rfl,by lia⟩) h2
    ·rw[decide_eq_false h2,bz];exact hs
end
end Internal.Z
namespace Internal.Z
section
theorem RA(a b):(a != b)=mK a b:=by cases a<;>cases b<;>rfl
def K1(x y:Nat):Nat:=(hZ (aQ x) (aQ y)).toNat
def mu1(x y:Nat)(a b:Bool)(m e k f:Nat):Nat:=cd (bX (eg e f) 2150) (mF (λj=>mF (V5 (mK a b) j) (jc m k)) (fT 2150 (eg e f))) (K1 x y)
def V7(x y:Nat):Nat:=cd (gf x) (cd (gf y) (dc2 (mu1 x y) x y) (K1 x y)) (K1 x y)
theorem V8(x y):hZ (aQ x) (aQ y)=aQ (V7 x y):=by
 unfold V7;have hs:hZ (aQ x) (aQ y)=aQ (K1 x y):=(i0 _).symm;cases hx:gf x
 ·exact hs
 ·cases hy:gf y
  ·exact hs
  ·rw[cj,cj,zN]
   unfold mu1;simp only[gn];rw[ez];by_cases h:eg (gk x) (gk y)<=2150
   ·rw[decide_eq_true h,cj,<-wX]
    unfold hZ;rw[gv hx,gv hy];dsimp only;have h':gk x+gk y<=2150:=h;rw[RA,show((gk x:Int) - 1075)+((gk y:Int) - 1075)= -((fT 2150 (eg (gk x) (gk y)):Nat):Int)by
     show _= -((2150 - (gk x+gk y):Nat):Int);omega]
    rfl
   ·rw[decide_eq_false h,bz];exact hs
def YE(neg:Bool)(n d:Nat):Nat:=(fy neg n d).toNat
def fr2(neg:Bool)(n d K L:Nat):Nat:=cd (bX K (eg L 1021)) (SQ neg (rm2 n d L K)) (YE neg n d)
theorem Ji(neg:Bool){n d K L:Nat}(hn:0<n)(hL:L=eG n)(hK:K=eG d):fy neg n d=aQ (fr2 neg n d K L):=by
 unfold fr2;rw[ez];by_cases h:K<=eg L 1021
 ·rw[decide_eq_true h,cj,<-td]
  unfold fy;rw[Yz n d hn (by rw[<-hK,<-hL];exact h),<-hL,<-hK]
 ·rw[decide_eq_false h,bz]
  exact(i0 _).symm
theorem K4(neg)(d):fy neg 0 d=aQ (SQ neg 0):=by
 rw[<-td];unfold fy;rfl
def K5(x y:Nat):Nat:=(jW (aQ x) (aQ y)).toNat
def dv2(neg:Bool)(m e k f:Nat):Nat:=cd (bX f e)
 (mF (λj=>mF (λn=>mF (λK=>mF (fr2 neg n k K) (eg (V4 m) j)) (V4 k)) (jc m (jE 2 j))) (fT e f))
 (mF (λj=>mF (λd=>mF (λK=>mF (fr2 neg m d K) (V4 m)) (eg (V4 k) j)) (jc k (jE 2 j))) (fT f e))
def dv1(x y:Nat)(a b:Bool)(m e k f:Nat):Nat:=cd (bM k 0) (K5 x y) (cd (bM m 0) (SQ (mK a b) 0) (dv2 (mK a b) m e k f))
def V9(x y:Nat):Nat:=cd (gf x) (cd (gf y) (dc2 (dv1 x y) x y) (K5 x y)) (K5 x y)
theorem th(h:m<2^53):m<2^256:=cw h (bO (by decide) (by decide))
theorem Wa(x y:Nat):jW (aQ x) (aQ y)=aQ (V9 x y):=by
 unfold V9;have hs:jW (aQ x) (aQ y)=aQ (K5 x y):=(i0 _).symm;cases hx:gf x
 ·exact hs
 ·cases hy:gf y
  ·exact hs
  ·rw[cj,cj,zN]
   unfold dv1;by_cases hk:mB y=0
   ·rw[hk];exact hs
   ·rw[xq hk,bz]
    have hd:jW (aQ x) (aQ y)=fy (mK (B0 x) (B0 y)) (eL (mB x) (mB y) (((gk x:Int) - 1075) - ((gk y:Int) - 1075))).1 (eL (mB x) (mB y) (((gk x:Int) - 1075) - ((gk y:Int) - 1075))).2:=by
     unfold jW;rw[gv hx,gv hy];dsimp only;rw[if_neg (by simpa using hk),RA]
    by_cases hm:mB x=0
    ·rw[hm]at hd⊢
     rw[hd];have:(eL 0 (mB y) (((gk x:Int) - 1075) - ((gk y:Int) - 1075))).1=0:=by
      unfold eL;split<;>simp
     rw[this,K4];rfl
    ·rw[xq hm,bz]
     unfold dv2;simp only[gn];have hx2:=th (YD x);have hy2:=th (YD y);rw[uI _ (by omega) hx2,uI _ (by omega) hy2,ez];by_cases h:gk y<=gk x
     ·rw[decide_eq_true h,cj,hd,zM (j:=gk x - gk y) (by omega)]
      exact Ji _ (Nat.mul_pos (by omega) (fg (by decide))) (GD _ (by omega)).symm rfl
     ·rw[decide_eq_false h,bz,hd,tc (j:=gk y - gk x) (by omega)]
      exact Ji _ (by omega) rfl (GD _ (by omega)).symm
def mG(n d:Nat):Nat:=cd (bM n 0) 0 (cd (and (bX n 9007199254740991) (and (bX d 9007199254740991) (bX 1 d))) (mF (λK=>mF (fr2 false n d K) (V4 n)) (V4 d)) (YE false n d))
theorem YF(n d:Nat):fy false n d=aQ (mG n d):=by
 unfold mG;by_cases h0:n=0
 ·subst h0
  exact K4 false d
 ·rw[xq h0,bz,ez,ez,ez]
  by_cases h:n<=9007199254740991/\d<=9007199254740991/\1<=d
  ·rw[decide_eq_true h.1,decide_eq_true h.2.1,decide_eq_true h.2.2,N5,N5,cj]
   simp only[gn];have h53:(2:Nat)^53=9007199254740992:=rfl;rw[uI n (by omega) (th (by omega)),uI d (by omega) (th (by omega))];exact Ji _ (by omega) rfl rfl
  ·have:(and (decide (n<=9007199254740991)) (and (decide (d<=9007199254740991)) (decide (1<=d))))=false:=by
    rw[Bool.eq_false_iff];intro hh;simp only[av,decide_eq_true_eq]at hh;exact h hh
   rw[this,bz];exact(i0 _).symm
theorem GH(n:Nat):eJ (n:Int)=aQ (mG n 1):=by
 rw[<-YF];unfold eJ;rw[decide_eq_false (by omega),iJ]
theorem K6(n d:Nat):EV (n:Int) (d:Int)=aQ (mG n d):=by
 rw[<-YF];unfold EV;rw[decide_eq_false (by omega),decide_eq_false (by omega),iJ,iJ];rfl
theorem K7(h:gf x=true):xe (aQ x)=false:=by
 unfold xe;rw[gv h]
def RB(x:Nat):Nat:=cd (gf x) (Nat.xor x 9223372036854775808) (Sr (aQ x)).toNat
theorem Wb(x):Sr (aQ x)=aQ (RB x):=by
 unfold RB;cases h:gf x
 ·exact(i0 _).symm
 ·rw[cj]
  unfold Sr;rw[K7 h,if_neg aF,td];apply UInt64.toNat.inj;rw[UInt64.toNat_xor,qN,qN,qN];show _=(x ^^^ 9223372036854775808)%2^64;rw[Nat.xor_mod_two_pow];rfl
def Nf(x y:Nat):Nat:=mF (Jh x) (RB y)
theorem K8(x y):lY (aQ x) (aQ y)=aQ (Nf x y):=by
 unfold lY Nf;rw[Wb,Dk,gn]
def Wc(x:Nat):Nat:=cd (gf x) (qV x 9223372036854775808) (tI (aQ x)).toNat
theorem Wd(x):tI (aQ x)=aQ (Wc x):=by
 unfold Wc;cases h:gf x
 ·exact(i0 _).symm
 ·rw[cj]
  unfold tI;rw[K7 h,if_neg aF,td,qN];refine congrArg aQ ?_;show x%2^64%2^63=x%9223372036854775808;have h64:(2:Nat)^64=18446744073709551616:=rfl;have h63:(2:Nat)^63=9223372036854775808:=rfl;rw[h64,h63];omega
end
section
def mH:Option Ordering->Nat
 |some .lt=>0|some .eq=>1|some .gt=>2|none=>3
theorem Dl(o:Option Ordering):(o==some .lt)=bM (mH o) 0:=by
 match o with
 |some .lt=>rfl|some .eq=>rfl|some .gt=>rfl|none=>rfl
theorem Dm(o:Option Ordering):(o==some .eq)=bM (mH o) 1:=by
 match o with
 |some .lt=>rfl|some .eq=>rfl|some .gt=>rfl|none=>rfl
theorem K9(o:Option Ordering):(o==some .gt)=bM (mH o) 2:=by
 match o with
 |some .lt=>rfl|some .eq=>rfl|some .gt=>rfl|none=>rfl
def Wf(p q:Nat):Nat:=cd (bX p q) (cd (bM p q) 1 0) 2
def c4(a b:Bool)(p q:Nat):Nat:=cd a (cd b (Wf q p) (cd (bM (eg p q) 0) 1 0)) (cd b (cd (bM (eg p q) 0) 1 2) (Wf p q))
theorem Wg(P Q:Int):mH (some (compare P Q))=if P<Q then 0 else if P=Q then 1 else 2:=by
 show mH (some (compareOfLessAndEq P Q))=_;unfold compareOfLessAndEq;split
 ·rfl
 ·split<;>rfl
theorem Lb(p q):Wf p q=if p<q then 0 else if p=q then 1 else 2:=by
 unfold Wf;rw[ez];by_cases h:p<=q
 ·rw[decide_eq_true h,cj]
  by_cases h2:p=q
  ·subst h2;rw[tN,cj,if_neg (by lia),if_pos rfl]
  ·rw[xq h2,bz,if_pos (by lia)]
 ·rw[decide_eq_false h,bz,if_neg (by lia),if_neg (by lia)]
theorem YG(a b:Bool)(p q:Nat):mH (some (compare (ck a p) (ck b q)))=c4 a b p q:=by
 rw[Wg];unfold c4;cases a<;>cases b
 ·rw[show ck false p=(p:Int)from rfl,show ck false q=(q:Int)from rfl,bz,bz,Lb]
  by_cases h:p<q
  ·rw[if_pos (by lia),if_pos h]
  ·rw[if_neg (by lia),if_neg h]
   by_cases h2:p=q
   ·rw[if_pos (by lia),if_pos h2]
   ·rw[if_neg (by lia),if_neg h2]
 ·rw[show ck false p=(p:Int)from rfl,show ck true q= -(q:Int)from rfl,bz,cj,if_neg (by lia)]
  by_cases h:p+q=0
  ·rw[if_pos (by lia),show eg p q=0 from h];rfl
  ·rw[if_neg (by lia),xq (show eg p q≠0 from h),bz]
 ·rw[show ck true p= -(p:Int)from rfl,show ck false q=(q:Int)from rfl,cj,bz]
  by_cases h:p+q=0
  ·rw[if_neg (by lia),if_pos (by lia),show eg p q=0 from h];rfl
  ·rw[if_pos (by lia),xq (show eg p q≠0 from h),bz]
 ·rw[show ck true p= -(p:Int)from rfl,show ck true q= -(q:Int)from rfl,cj,cj,Lb]
  by_cases h:q<p
  ·rw[if_pos (by lia),if_pos h]
  ·rw[if_neg (by lia),if_neg h]
   by_cases h2:q=p
   ·rw[if_pos (by lia),if_pos h2]
   ·rw[if_neg (by lia),if_neg h2]
def YH(x y:Nat):Nat:=mH (cG (aQ x) (aQ y))
def c2(a b:Bool)(m e k f g:Nat):Nat:=mF (λp=>mF (c4 a b p) (jc k (jE 2 (fT f g)))) (jc m (jE 2 (fT e g)))
def c1(a b:Bool)(m e k f:Nat):Nat:=cd (bX e f) (c2 a b m e k f e) (c2 a b m e k f f)
def cmN(x y:Nat):Nat:=cd (gf x) (cd (gf y) (dc2 c1 x y) (YH x y)) (YH x y)
theorem YI(x y):mH (cG (aQ x) (aQ y))=cmN x y:=by
 unfold cmN;cases hx:gf x
 ·rfl
 ·cases hy:gf y
  ·rfl
  ·rw[cj,cj,zN]
   have key:∀g,(g=gk x/\gk x<=gk y)\/(g=gk y/\gk y<=gk x)->mH (cG (aQ x) (aQ y))=c2 (B0 x) (B0 y) (mB x) (gk x) (mB y) (gk y) g:=λg hg=>by
    unfold cG;rw[gv hx,gv hy];dsimp only;rw[zO _ _ _ _ _ _ g hg];unfold c2;simp only[gn];exact YG _ _ _ _
   unfold c1;rw[ez];by_cases h:gk x<=gk y
   ·rw[decide_eq_true h,cj];exact key _ (.inl ⟨rfl,h⟩)
   ·rw[decide_eq_false h,bz];exact key _ (.inr ⟨rfl,by lia⟩)
def Ng(x:Nat):Bool:=and (gf x) (bM (mB x) 0)
theorem RC(x):gS (aQ x)=Ng x:=by
 unfold Ng;cases hx:gf x
 ·unfold gS Hd
  rw[qN,YA,YB,YC];unfold gf at hx;have h1:Rx x=2047:=by
   have:bM (Rx x) 2047=true:=by simpa using hx
   exact bF this
  dsimp only;rw[h1,if_pos (show((2047:Nat)==2047)=true from rfl)];split
  ·rename_i hq;split at hq<;>cases hq
  ·rfl
 ·unfold gS
  rw[gv hx];cases h:mB x with
  |zero=>rfl
  |succ n=>rfl
def uJ(x y:Nat):Nat:=(rj (aQ x) (aQ y)).toNat
def fm2(a:Bool)(m e k f g:Nat):Nat:=mF (λq=>mF (λj=>mF (V5 a j) (qV (jc m (jE 2 (fT e g))) q)) (fT 1075 g)) (jc k (jE 2 (fT f g)))
def fm1(x y:Nat)(a _b:Bool)(m e k f:Nat):Nat:=cd (bM k 0) (uJ x y) (cd (bX e f) (cd (bX e 1075) (fm2 a m e k f e) (uJ x y)) (cd (bX f 1075) (fm2 a m e k f f) (uJ x y)))
def fmN(x y:Nat):Nat:=cd (gf x) (cd (gf y) (dc2 (fm1 x y) x y) (uJ x y)) (uJ x y)
theorem aj7(x y:Nat):rj (aQ x) (aQ y)=aQ (fmN x y):=by
 unfold fmN;have hs:rj (aQ x) (aQ y)=aQ (uJ x y):=(i0 _).symm;cases hx:gf x
 ·exact hs
 ·cases hy:gf y
  ·exact hs
  ·rw[cj,cj,zN]
   unfold fm1;by_cases hk:mB y=0
   ·rw[hk];exact hs
   ·rw[xq hk,bz]
    have key:∀g,(g=gk x/\gk x<=gk y)\/(g=gk y/\gk y<=gk x)->g<=1075->rj (aQ x) (aQ y)=aQ (fm2 (B0 x) (mB x) (gk x) (mB y) (gk y) g):=λg hg h75=>by
     unfold rj;rw[gv hx,gv hy];dsimp only;rw[if_neg (by simpa using hk),zO _ _ _ _ _ _ g hg];unfold fm2;simp only[gn];rw[<-wX,show ck false (mB x*2^(gk x - g))=((mB x*2^(gk x - g):Nat):Int)from rfl,show ck false (mB y*2^(gk y - g))=((mB y*2^(gk y - g):Nat):Int)from rfl];rw[aR,aR,show -((fT 1075 g:Nat):Int)=(g:Int) - 1075 by show -((1075 - g:Nat):Int)=_;lia];rfl
    rw[ez,ez,ez];by_cases h:gk x<=gk y
    ·rw[decide_eq_true h,cj]
     by_cases h2:gk x<=1075
     ·rw[decide_eq_true h2,cj];exact key _ (.inl ⟨rfl,h⟩) h2
     ·rw[decide_eq_false h2,bz];exact hs
    ·rw[decide_eq_false h,bz]
     by_cases h2:gk y<=1075
     ·rw[decide_eq_true h2,cj];exact key _ (.inr ⟨rfl,by lia⟩) h2
     ·rw[decide_eq_false h2,bz];exact hs
def md2(m:Nat):Nat:=cd (Ng m) 0 (cd (bM (cmN m 0) 0) (Jh m 4607182418800017408) m)
def mdN(x:Nat):Nat:=mF md2 (fmN x 4607182418800017408)
theorem ac2:(4607182418800017408:UInt64)=aQ 4607182418800017408:=rfl
theorem aj8(x):(tG (aQ x) 4607182418800017408).2=aQ (mdN x):=by
 rw[ac2];unfold mdN;rw[gn];unfold tG md2;dsimp only;rw[aj7];generalize fmN x 4607182418800017408=m;rw[RC];have h0:kM false=aQ 0:=(td false 0).trans (congrArg aQ (show SQ false 0=0 from rfl));have h1:Xg (aQ 4607182418800017408) (kM false)=false:=by decide
 have h2:Float64.copysign (kM false) (aQ 4607182418800017408)=aQ 0:=by decide
 have h3:Xg (aQ m) (kM false)=bM (cmN m 0) 0:=by
  unfold Xg;rw[h0,Dl,YI]
 rw[h1,h2,h3];cases Ng m
 ·cases bM (cmN m 0) 0
  ·rfl
  ·exact Dk m 4607182418800017408
 ·rfl
def trN(x:Nat):Nat:=Ls (mB x) (jE 2 (fT 1075 (gk x)))
theorem aj9(x)(h:gf x=true)(hs:B0 x=false)(he:bX (gk x) 1075=true):cx cH (aQ x)=(trN x:Int):=by
 have he:=bQ he;unfold cx;rw[gv h,hs];show ae5 false (mB x) ((gk x:Int) - 1075)=_;unfold ae5 trN;by_cases h0:gk x=1075
 ·rw[if_pos (by lia),h0]
  show((mB x:Nat):Int)*2^((1075:Nat) - 1075:Int).toNat=((mB x/2^(1075 - 1075):Nat):Int)
  simp
 ·rw[if_neg (by lia)]
  have e:(-((gk x:Int) - 1075)).toNat=1075 - gk x:=by lia
  rw[e,show ck false (mB x)=((mB x:Nat):Int)from rfl,bP _ (by exact_mod_cast dk _)];show((mB x:Nat):Int)/2^(1075 - gk x)=((mB x/2^(1075 - gk x):Nat):Int)
  push_cast;rfl
def ciN(x i:Nat):Nat:=cd (and (gf x) (bX (gk x) 1074)) (c4 (B0 x) false (mB x) (jc i (jE 2 (fT 1075 (gk x))))) (mH (fz (aQ x) (i:Int)))
theorem aka(x i:Nat):mH (fz (aQ x) (i:Int))=ciN x i:=by
 unfold ciN;cases hx:gf x
 ·rfl
 ·rw[ez]
  by_cases h:gk x<=1074
  ·rw[decide_eq_true h,N5,cj]
   unfold fz;rw[gv hx];dsimp only;rw[if_neg (by lia)];have e:(-((gk x:Int) - 1075)).toNat=1075 - gk x:=by lia
   rw[e];have:=YG (B0 x) false (mB x) (i*2^(1075 - gk x));rw[show ck false (i*2^(1075 - gk x))=((i*2^(1075 - gk x):Nat):Int)from rfl]at this;rw[show((i*2^(1075 - gk x):Nat):Int)=(i:Int)*2^(1075 - gk x)by push_cast;rfl]at this;exact this
  ·rw[decide_eq_false h];rfl
theorem ac8(h:gf x=true):cT (aQ x)=true:=by
 unfold cT;rw[gv h]
end
end Internal.Z
end
section
open PySem PySem.W PyProof.Rows
namespace Internal.Z
section
section
structure FO(α:Type) where
 add:α->α->α
 sub:α->α->α
 mul:α->α->α
 dv:α->α->α
 md:α->α
 cm:α->α->Nat
 ci:α->Nat->Nat
 B4:α->Bool
 fin:α->Bool
 ab:α->α
 k:Nat->α
 i:Nat->α
 q:Nat->Nat->α
 tr:α->Nat
 AX:α->Bool
 fc:{β:Type}->α->(α->β)->β
def zP(n:Nat)(k:Nat->β):β:=Nat.rec (k 0) (λm _=>k (lC m)) n
theorem jx(n)(k:Nat->β):zP n k=k n:=by cases n<;>rfl
def FU:FO UInt64 where
 add:=i6
 sub:=lY
 mul:=hZ
 dv:=jW
 md x:=(tG x 4607182418800017408).2
 cm x y:=mH (cG x y)
 ci x n:=mH (fz x n)
 B4:=gS
 fin x:=cT x
 ab:=tI
 k:=aQ
 i n:=eJ n
 q n d:=EV n d
 tr x:=(cx cH x).toNat
 AX x:=cT x&&(decide (0<=cx cH x)&&decide (cx cH x<=1000000))
 fc x k:=k x
def X6(f:Nat->Nat)(x:Nat):Nat:=mF f x
def NR(f:Nat->Nat->Nat)(x y:Nat):Nat:=mF (λx=>mF (f x) y) x
def stB(f:Nat->Bool)(x:Nat):Bool:=zP x f
theorem Jj(f)(x):X6 f x=f x:=gn f x
theorem qq(f:Nat->Nat->Nat)(x y):NR f x y=f x y:=by unfold NR;rw[gn,gn]
theorem RD(f:Nat->Bool)(x):stB f x=f x:=jx x f
def YJ(x:Nat):Bool:=and (gf x) (and (not (B0 x)) (and (bX (gk x) 1075) (bX (trN x) 1000000)))
def FN:FO Nat where
 add:=NR Jh
 sub:=NR Nf
 mul:=NR V7
 dv:=NR V9
 md:=X6 mdN
 cm:=NR cmN
 ci:=NR ciN
 B4:=stB Ng
 fin:=stB gf
 ab:=X6 Wc
 k x:=x
 i n:=NR mG n 1
 q:=NR mG
 tr:=X6 trN
 AX:=stB YJ
 fc:=zP
section
variable{α:Type}(o:FO α)
def oGt(a b:α):Bool:=bM (o.cm a b) 2
def Jk(a b:α):Bool:=bM (o.cm a b) 0
def pT(a b:α):Bool:=bM (o.cm a b) 1
def xr(a b c:α):α:=o.fc (cd (oGt o b a) b a) λm=>cd (oGt o c m) c m
def AY(a b c:α):α:=o.fc (cd (Jk o b a) b a) λm=>cd (Jk o c m) c m
abbrev Aj:Nat:=4602678819172646912
abbrev Dn:Nat:=4607182418800017408
abbrev xP:Nat:=4611686018427387904
abbrev c40:Nat:=4616189618054758400
abbrev DQ:Nat:=4618441417868443648
abbrev Wh:Nat:=4599676419421066581
abbrev c16:Nat:=4595172819793696085
abbrev YK:Nat:=4604180019048437077
def GI(M R r g b:α):α:=
 o.fc (o.dv (o.sub M r) R) λrc=>o.fc (o.dv (o.sub M g) R) λgc=>o.fc (o.dv (o.sub M b) R) λbc=>
 o.fc (cd (pT o r M) (o.sub bc gc) (cd (pT o g M) (o.sub (o.add (o.k xP) rc) bc) (o.sub (o.add (o.k c40) gc) rc))) λh=>o.md (o.dv h (o.k DQ))
def Dp(r g b:α):Option (α×α×α):=
 o.fc (xr o r g b) λM=>o.fc (AY o r g b) λm=>cd (pT o m M) (some (o.k 0,o.k 0,M))<|
 o.fc (o.sub M m) λR=>cd (or (o.B4 M) (o.B4 R)) none<|o.fc (GI o M R r g b) λh=>o.fc (o.dv R M) λs=>some (h,s,M)
def YL(a b:α):Bool:=or (Jk o a b) (pT o a b)
def AZ(r g b:α):Option (α×α×α):=
 o.fc (xr o r g b) λM=>o.fc (AY o r g b) λm=>o.fc (o.add M m) λS=>o.fc (o.dv S (o.k xP)) λl=>cd (pT o m M) (some (o.k 0,l,o.k 0))<|
 o.fc (o.sub M m) λR=>o.fc (cd (YL o l (o.k Aj)) S (o.sub (o.sub (o.k xP) M) m)) λd=>cd (or (o.B4 d) (o.B4 R)) none<|o.fc (GI o M R r g b) λh=>o.fc (o.dv R d) λs=>some (h,l,s)
def B5(v p q t:α):Nat->α×α×α
 |0=>(v,t,p)|1=>(q,v,p)|2=>(p,v,t)|3=>(p,q,v)|4=>(t,p,v)|_=>(v,p,q)
def Jl(h s v:α):Option (α×α×α):=
 cd (pT o s (o.k 0)) (some (v,v,v))<|
 o.fc (o.mul h (o.k DQ)) λx=>cd (not (o.AX x)) none<|
 o.fc (o.sub x (o.i (o.tr x))) λf=>o.fc (o.mul v (o.sub (o.k Dn) s)) λp=>o.fc (o.mul v (o.sub (o.k Dn) (o.mul s f))) λq=>o.fc (o.mul v (o.sub (o.k Dn) (o.mul s (o.sub (o.k Dn) f)))) λt=>
 some (B5 v p q t (o.tr x%6))
def oV(m1 m2 hue:α):α:=
 o.fc (o.md hue) λu=>cd (Jk o u (o.k c16)) (o.add m1 (o.mul (o.mul (o.sub m2 m1) u) (o.k DQ)))<|
 cd (Jk o u (o.k Aj)) m2<|cd (Jk o u (o.k YK)) (o.add m1 (o.mul (o.mul (o.sub m2 m1) (o.sub (o.k YK) u)) (o.k DQ))) m1
def Dq(h l s:α):α×α×α:=
 cd (pT o s (o.k 0)) (l,l,l)<|
 o.fc (cd (YL o l (o.k Aj)) (o.mul l (o.add (o.k Dn) s)) (o.sub (o.add l s) (o.mul l s))) λm2=>o.fc (o.sub (o.mul (o.k xP) l) m2) λm1=>
 o.fc (oV o m1 m2 (o.add h (o.k Wh))) λa=>o.fc (oV o m1 m2 h) λb=>o.fc (oV o m1 m2 (o.sub h (o.k Wh))) λc=>(a,b,c)
end
def up3(x:Nat×Nat×Nat):UInt64×UInt64×UInt64:=(aQ x.1,aQ x.2.1,aQ x.2.2)
theorem GJ(x y):FU.add (aQ x) (aQ y)=aQ (FN.add x y):=(Dk x y).trans (congrArg aQ (qq Jh x y).symm)
theorem wY(x y):FU.sub (aQ x) (aQ y)=aQ (FN.sub x y):=(K8 x y).trans (congrArg aQ (qq Nf x y).symm)
theorem B6(x y):FU.mul (aQ x) (aQ y)=aQ (FN.mul x y):=(V8 x y).trans (congrArg aQ (qq V7 x y).symm)
theorem adb(x y):FU.dv (aQ x) (aQ y)=aQ (FN.dv x y):=(Wa x y).trans (congrArg aQ (qq V9 x y).symm)
theorem akd(x):FU.md (aQ x)=aQ (FN.md x):=(aj8 x).trans (congrArg aQ (Jj mdN x).symm)
theorem ade(x y):FU.cm (aQ x) (aQ y)=FN.cm x y:=(YI x y).trans (qq cmN x y).symm
theorem arl(x n):FU.ci (aQ x) n=FN.ci x n:=(aka x n).trans (qq ciN x n).symm
theorem YM(x):FU.B4 (aQ x)=FN.B4 x:=(RC x).trans (RD Ng x).symm
theorem arn(x):FU.ab (aQ x)=aQ (FN.ab x):=(Wd x).trans (congrArg aQ (Jj Wc x).symm)
theorem h_k(x):FU.k x=aQ (FN.k x):=rfl
theorem h_i(x):FU.i x=aQ (FN.i x):=(GH x).trans (congrArg aQ (qq mG x 1).symm)
theorem h_q(x y):FU.q x y=aQ (FN.q x y):=(K6 x y).trans (congrArg aQ (qq mG x y).symm)
theorem jy(x)(k:UInt64->β):FU.fc x k=k x:=rfl
theorem tn(x)(k:Nat->β):FN.fc x k=k x:=jx x k
theorem uL(b)(x y):cd b (aQ x) (aQ y)=aQ (cd b x y):=by cases b<;>rfl
theorem aro(x y):oGt FU (aQ x) (aQ y)=oGt FN x y:=by unfold oGt;rw[ade]
theorem adf(x y):Jk FU (aQ x) (aQ y)=Jk FN x y:=by unfold Jk;rw[ade]
theorem Jm(x y):pT FU (aQ x) (aQ y)=pT FN x y:=by unfold pT;rw[ade]
theorem ake(x y):YL FU (aQ x) (aQ y)=YL FN x y:=by unfold YL;rw[adf,Jm]
theorem RE(x y z):xr FU (aQ x) (aQ y) (aQ z)=aQ (xr FN x y z):=by
 unfold xr;simp only[jy,tn,aro,uL]
theorem YN(x y z):AY FU (aQ x) (aQ y) (aQ z)=aQ (AY FN x y z):=by
 unfold AY;simp only[jy,tn,adf,uL]
theorem YO(M R r g b):GI FU (aQ M) (aQ R) (aQ r) (aQ g) (aQ b)=aQ (GI FN M R r g b):=by
 unfold GI;simp only[jy,tn,wY,adb,Jm,h_k,GJ,uL,akd]
theorem akf(r g b):Dp FU (aQ r) (aQ g) (aQ b)=(Dp FN r g b).map up3:=by
 unfold Dp;simp only[jy,tn,RE,YN,Jm,wY,YM,YO,adb,h_k];cases pT FN (AY FN r g b) (xr FN r g b)
 ·cases(FN.B4 (xr FN r g b)||FN.B4 (FN.sub (xr FN r g b) (AY FN r g b)))<;>rfl
 ·rfl
theorem akg(r g b):AZ FU (aQ r) (aQ g) (aQ b)=(AZ FN r g b).map up3:=by
 unfold AZ;simp only[jy,tn,RE,YN,Jm,wY,YM,YO,adb,h_k,GJ,ake,uL];cases pT FN (AY FN r g b) (xr FN r g b)
 ·simp only[bz]
  generalize (FN.B4 _||FN.B4 _)=z;cases z<;>rfl
 ·rfl
theorem akh(h:FN.AX x=true):FU.AX (aQ x)=true/\FU.tr (aQ x)=FN.tr x:=by
 have h:(gf x&&(!(B0 x)&&(bX (gk x) 1075&&bX (trN x) 1000000)))=true:=(RD YJ x).symm.trans h;simp only[av,cW]at h;have e:=aj9 x h.1 h.2.1 h.2.2.1;have hb:=bQ h.2.2.2;constructor
 ·show(cT (aQ x)&&(decide (0<=cx cH (aQ x))&&decide (cx cH (aQ x)<=1000000)))=true
  rw[ac8 h.1,e,decide_eq_true (by omega),decide_eq_true (by omega)];rfl
 ·show(cx cH (aQ x)).toNat=X6 trN x
  rw[e,aR,Jj]
theorem adg(v p q t):∀k,B5 (aQ v) (aQ p) (aQ q) (aQ t) k=up3 (B5 v p q t k)
 |0=>rfl|1=>rfl|2=>rfl|3=>rfl|4=>rfl|_+5=>rfl
theorem aki(e:Jl FN h s v=some r):Jl FU (aQ h) (aQ s) (aQ v)=some (up3 r):=by
 unfold Jl at e⊢;simp only[jy,tn,Jm,h_k,B6,wY]at e⊢;cases h0:pT FN s (FN.k 0)with
 |true=>rw[h0]at e;cases e;rfl
 |false=>
  rw[h0]at e;simp only[bz]at e⊢;cases h1:FN.AX (FN.mul h (FN.k DQ))with
  |false=>rw[h1]at e;cases e
  |true=>
   obtain⟨t1,t2⟩:=akh h1;rw[h1]at e;rw[t1,t2];simp only[qQ,bz,h_i,wY,B6]at e⊢;rw[adg,<-af e]
theorem h_v(a b c):oV FU (aQ a) (aQ b) (aQ c)=aQ (oV FN a b c):=by
 unfold oV;simp only[jy,tn,akd,adf,h_k,GJ,B6,wY,uL]
theorem akj(h l s):Dq FU (aQ h) (aQ l) (aQ s)=up3 (Dq FN h l s):=by
 unfold Dq;simp only[jy,tn,Jm,ake,h_k,GJ,B6,wY,uL,h_v];cases pT FN s (FN.k 0)<;>rfl
end
end
section
section
theorem gL(a b):xj a b=pT FU a b:=Dm _
theorem GK(a b):(cG a b==some .lt)=Jk FU a b:=Dl _
theorem Lc(a b):(cG a b==some .lt||cG a b==some .eq)=YL FU a b:=by
 rw[GK,Dm];rfl
theorem Dr(a b c):Ap a b c=xr FU a b c:=by
 unfold Ap fgt xr;simp only[jy,K9,Yx];rfl
theorem Ld(a b c):LP a b c=AY FU a b c:=by
 unfold LP Po AY;simp only[jy,Dl,Yx];rfl
theorem tq(h:FU.B4 b=false):aE .Div (.aN a) (.aN b)=some (.aN (FU.dv a b)):=by
 show(if gS b=true then none else some (D.aN (jW a b)))=_;rw[show gS b=false from h];rfl
section
variable{T:ek}
def aK:bY:=uv "rgb_to_hsv"
def aB:List Stmt:=bo "rgb_to_hsv"
abbrev aI:Stmt:=ak 9 aB
abbrev YQ:Stmt:=ak 0 (dN aI)
abbrev aSh(r g b M m R v s rc gc bc h:UInt64):cy:=[("r",.aN r),("g",.aN g),("b",.aN b),("maxc",.aN M),("minc",.aN m),("rangec",.aN R),("v",.aN v),("s",.aN s),("rc",.aN rc),("gc",.aN gc),("bc",.aN bc),("h",.aN h)]
theorem Jn(r g b M m R v s rc gc bc h)(n):cU (df (Va T) aK [] 60 (Xa T aK [] n)) [ak 10 aB,ak 11 aB] (aSh r g b M m R v s rc gc bc h) []=some (.rt (.tup [.aN (FU.md (FU.dv h (aQ DQ))),.aN s,.aN v])):=by
 refine fh (cb (.aN (FU.md (FU.dv h (aQ DQ)))) (by rfl')) ?_;exact dm (dW _ (by rfl'))
theorem akk(r g b)(x:UInt64×UInt64×UInt64)(e:Dp FU r g b=some x):Xa T aK [] 20 aB [("r",.aN r),("g",.aN g),("b",.aN b)] []=some (.rt (.tup [.aN x.1,.aN x.2.1,.aN x.2.2])):=by
 unfold Dp at e;simp only[jy]at e;rw[<-Dr,<-Ld]at e;obtain⟨M,hM⟩:∃M,M=Ap r g b:=⟨_,rfl⟩;obtain⟨m,hm⟩:∃m,m=LP r g b:=⟨_,rfl⟩;rw[<-hM,<-hm]at e;refine fV (bs:=[ak 0 aB,ak 1 aB,ak 2 aB,ak 3 aB,ak 4 aB,ak 5 aB,ak 6 aB,ak 7 aB,ak 8 aB,ak 9 aB,ak 10 aB,ak 11 aB]) ?_;refine fh (cb (.aN M) (tr (b:=cM .max [.aN r,.aN g,.aN b]) (by rw[hM];rfl))) ?_;refine fh (cb (.aN m) (tr (b:=cM .min [.aN r,.aN g,.aN b]) (by rw[hm];rfl))) ?_;clear hM hm;refine fh (cb (.aN (FU.sub M m)) (by rfl')) ?_;refine fh (cb (.aN M) (by rfl')) ?_;generalize hR:FU.sub M m=R at e⊢;cases h0:pT FU m M with
 |true=>
  rw[h0]at e;cases e;refine fX (b:=[ak 0 (bp (ak 4 aB))]) (tr (b:=some (xj m M)) (by rw[gL,h0])) (fV (bs:=[ak 0 (bp (ak 4 aB))]) (dm (dW _ (by rfl'))))
 |false=>
  rw[h0,bz]at e;cases hz:(FU.B4 M||FU.B4 R)with
  |true=>rw[hz]at e;cases e
  |false=>
   rw[hz,bz]at e;cases e;rw[mJ]at hz;refine cR (b:=[]) (tr (b:=some (xj m M)) (by rw[gL,h0])) (fV (bs:=[]) rfl) ?_;refine fh (cb (.aN (FU.dv R M)) (tr (tq hz.1))) ?_;refine fh (cb (.aN (FU.dv (FU.sub M r) R)) (tr (tq (a:=FU.sub M r) hz.2))) ?_;refine fh (cb (.aN (FU.dv (FU.sub M g) R)) (tr (tq (a:=FU.sub M g) hz.2))) ?_;refine fh (cb (.aN (FU.dv (FU.sub M b) R)) (tr (tq (a:=FU.sub M b) hz.2))) ?_;unfold GI;simp only[jy];generalize FU.dv R M=s;generalize FU.dv (FU.sub M r) R=rc;generalize FU.dv (FU.sub M g) R=gc;generalize FU.dv (FU.sub M b) R=bc;cases h1:pT FU r M with
   |true=>
    refine lV (b:=[ak 0 (bp aI)]) (σ':=aSh r g b M m R M s rc gc bc (FU.sub bc gc)) (own':=[]) (tr (b:=some (xj r M)) (by rw[gL,h1])) ?_ (Jn ..);exact fV (bs:=[ak 0 (bp aI)]) (fh (cb (.aN (FU.sub bc gc)) (by rfl')) (by rfl'))
   |false=>
    cases h2:pT FU g M with
    |true=>
     refine cR (b:=[YQ]) (σ':=aSh r g b M m R M s rc gc bc (FU.sub (FU.add (aQ xP) rc) bc)) (own':=[]) (tr (b:=some (xj r M)) (by rw[gL,h1])) ?_ (Jn ..);refine fV (bs:=[YQ]) (lV (b:=[ak 0 (bp YQ)]) (σ':=aSh r g b M m R M s rc gc bc (FU.sub (FU.add (aQ xP) rc) bc)) (own':=[]) (tr (b:=some (xj g M)) (by rw[gL,h2])) ?_ rfl);exact fV (bs:=[ak 0 (bp YQ)]) (fh (cb (.aN (FU.sub (FU.add (aQ xP) rc) bc)) (by rfl')) (by rfl'))
    |false=>
     refine cR (b:=[YQ]) (σ':=aSh r g b M m R M s rc gc bc (FU.sub (FU.add (aQ c40) gc) rc)) (own':=[]) (tr (b:=some (xj r M)) (by rw[gL,h1])) ?_ (Jn ..);refine fV (bs:=[YQ]) (cR (b:=[ak 0 (dN YQ)]) (σ':=aSh r g b M m R M s rc gc bc (FU.sub (FU.add (aQ c40) gc) rc)) (own':=[]) (tr (b:=some (xj g M)) (by rw[gL,h2])) ?_ rfl);exact fV (bs:=[ak 0 (dN YQ)]) (fh (cb (.aN (FU.sub (FU.add (aQ c40) gc) rc)) (by rfl')) (by rfl'))
end
end
end
section
section
section
variable{T:ek}
def bK:bY:=uv "rgb_to_hls"
def bB:List Stmt:=bo "rgb_to_hls"
abbrev bI:Stmt:=ak 10 bB
abbrev YR:Stmt:=ak 0 (dN bI)
abbrev bL:Stmt:=ak 6 bB
abbrev bS(r g b M m S R l s:UInt64):cy:=[("r",.aN r),("g",.aN g),("b",.aN b),("maxc",.aN M),("minc",.aN m),("sumc",.aN S),("rangec",.aN R),("l",.aN l),("s",.aN s)]
abbrev bSh(r g b M m S R l s rc gc bc h:UInt64):cy:=[("r",.aN r),("g",.aN g),("b",.aN b),("maxc",.aN M),("minc",.aN m),("sumc",.aN S),("rangec",.aN R),("l",.aN l),("s",.aN s),("rc",.aN rc),("gc",.aN gc),("bc",.aN bc),("h",.aN h)]
theorem Jo(r g b M m S R l s rc gc bc h)(n):cU (df (Va T) bK [] 60 (Xa T bK [] n)) [ak 11 bB,ak 12 bB] (bSh r g b M m S R l s rc gc bc h) []=some (.rt (.tup [.aN (FU.md (FU.dv h (aQ DQ))),.aN l,.aN s])):=by
 refine fh (cb (.aN (FU.md (FU.dv h (aQ DQ)))) (by rfl')) ?_;exact dm (dW _ (by rfl'))
theorem YS(r g b M m S R l s)(n)(hz:FU.B4 R=false):cU (df (Va T) bK [] 60 (Xa T bK [] (n+2))) [ak 7 bB,ak 8 bB,ak 9 bB,ak 10 bB,ak 11 bB,ak 12 bB] (bS r g b M m S R l s) []=some (.rt (.tup [.aN (GI FU M R r g b),.aN l,.aN s])):=by
 refine fh (cb (.aN (FU.dv (FU.sub M r) R)) (tr (tq (a:=FU.sub M r) hz))) ?_;refine fh (cb (.aN (FU.dv (FU.sub M g) R)) (tr (tq (a:=FU.sub M g) hz))) ?_;refine fh (cb (.aN (FU.dv (FU.sub M b) R)) (tr (tq (a:=FU.sub M b) hz))) ?_;unfold GI;simp only[jy];generalize FU.dv (FU.sub M r) R=rc;generalize FU.dv (FU.sub M g) R=gc;generalize FU.dv (FU.sub M b) R=bc;cases h1:pT FU r M with
 |true=>
  refine lV (b:=[ak 0 (bp bI)]) (σ':=bSh r g b M m S R l s rc gc bc (FU.sub bc gc)) (own':=[]) (tr (b:=some (xj r M)) (by rw[gL,h1])) ?_ (Jo ..);exact fV (bs:=[ak 0 (bp bI)]) (fh (cb (.aN (FU.sub bc gc)) (by rfl')) (by rfl'))
 |false=>
  cases h2:pT FU g M with
  |true=>
   refine cR (b:=[YR]) (σ':=bSh r g b M m S R l s rc gc bc (FU.sub (FU.add (aQ xP) rc) bc)) (own':=[]) (tr (b:=some (xj r M)) (by rw[gL,h1])) ?_ (Jo ..);refine fV (bs:=[YR]) (lV (b:=[ak 0 (bp YR)]) (σ':=bSh r g b M m S R l s rc gc bc (FU.sub (FU.add (aQ xP) rc) bc)) (own':=[]) (tr (b:=some (xj g M)) (by rw[gL,h2])) ?_ rfl);exact fV (bs:=[ak 0 (bp YR)]) (fh (cb (.aN (FU.sub (FU.add (aQ xP) rc) bc)) (by rfl')) (by rfl'))
  |false=>
   refine cR (b:=[YR]) (σ':=bSh r g b M m S R l s rc gc bc (FU.sub (FU.add (aQ c40) gc) rc)) (own':=[]) (tr (b:=some (xj r M)) (by rw[gL,h1])) ?_ (Jo ..);refine fV (bs:=[YR]) (cR (b:=[ak 0 (dN YR)]) (σ':=bSh r g b M m S R l s rc gc bc (FU.sub (FU.add (aQ c40) gc) rc)) (own':=[]) (tr (b:=some (xj g M)) (by rw[gL,h2])) ?_ rfl);exact fV (bs:=[ak 0 (dN YR)]) (fh (cb (.aN (FU.sub (FU.add (aQ c40) gc) rc)) (by rfl')) (by rfl'))
theorem akl(r g b)(x:UInt64×UInt64×UInt64)(e:AZ FU r g b=some x):Xa T bK [] 20 bB [("r",.aN r),("g",.aN g),("b",.aN b)] []=some (.rt (.tup [.aN x.1,.aN x.2.1,.aN x.2.2])):=by
 unfold AZ at e;simp only[jy]at e;rw[<-Dr,<-Ld]at e;obtain⟨M,hM⟩:∃M,M=Ap r g b:=⟨_,rfl⟩;obtain⟨m,hm⟩:∃m,m=LP r g b:=⟨_,rfl⟩;rw[<-hM,<-hm]at e;refine fV (bs:=[ak 0 bB,ak 1 bB,ak 2 bB,ak 3 bB,ak 4 bB,ak 5 bB,ak 6 bB,ak 7 bB,ak 8 bB,ak 9 bB,ak 10 bB,ak 11 bB,ak 12 bB]) ?_;refine fh (cb (.aN M) (tr (b:=cM .max [.aN r,.aN g,.aN b]) (by rw[hM];rfl))) ?_;refine fh (cb (.aN m) (tr (b:=cM .min [.aN r,.aN g,.aN b]) (by rw[hm];rfl))) ?_;clear hM hm;refine fh (cb (.aN (FU.add M m)) (by rfl')) ?_;refine fh (cb (.aN (FU.sub M m)) (by rfl')) ?_;refine fh (cb (.aN (FU.dv (FU.add M m) (aQ xP))) (by rfl')) ?_;generalize hR:FU.sub M m=R at e⊢;generalize hS:FU.add M m=S at e⊢;rw[show FU.k xP=aQ xP from rfl]at e;generalize hl:FU.dv S (aQ xP)=l at e⊢;cases h0:pT FU m M with
 |true=>
  rw[h0]at e;cases e;refine fX (b:=[ak 0 (bp (ak 5 bB))]) (tr (b:=some (xj m M)) (by rw[gL,h0])) (fV (bs:=[ak 0 (bp (ak 5 bB))]) (dm (dW _ (by rfl'))))
 |false=>
  rw[h0,bz]at e;refine cR (b:=[]) (tr (b:=some (xj m M)) (by rw[gL,h0])) (fV (bs:=[]) rfl) ?_;rw[show FU.k Aj=aQ Aj from rfl]at e;cases h1:YL FU l (aQ Aj)with
  |true=>
   rw[h1,cj]at e;cases hz:(FU.B4 S||FU.B4 R)with
   |true=>rw[hz]at e;cases e
   |false=>
    rw[hz,bz]at e;cases e;rw[mJ]at hz;refine lV (b:=[ak 0 (bp bL)]) (σ':=bS r g b M m S R l (FU.dv R S)) (own':=[]) (tr (b:=some (cG l (aQ Aj)==some .lt||cG l (aQ Aj)==some .eq)) (by rw[Lc,h1])) ?_ (YS _ _ _ _ _ _ _ _ _ 17 hz.2);exact fV (bs:=[ak 0 (bp bL)]) (fh (cb (.aN (FU.dv R S)) (tr (tq hz.1))) (by rfl'))
  |false=>
   rw[h1,bz]at e;cases hz:(FU.B4 (FU.sub (FU.sub (aQ xP) M) m)||FU.B4 R)with
   |true=>rw[hz]at e;cases e
   |false=>
    rw[hz,bz]at e;cases e;rw[mJ]at hz;refine cR (b:=[ak 0 (dN bL)]) (σ':=bS r g b M m S R l (FU.dv R (FU.sub (FU.sub (aQ xP) M) m))) (own':=[]) (tr (b:=some (cG l (aQ Aj)==some .lt||cG l (aQ Aj)==some .eq)) (by rw[Lc,h1])) ?_ (YS _ _ _ _ _ _ _ _ _ 17 hz.2);exact fV (bs:=[ak 0 (dN bL)]) (fh (cb (.aN (FU.dv R (FU.sub (FU.sub (aQ xP) M) m))) (tr (tq hz.1))) (by rfl'))
end
end
end
section
section
theorem GL{a b:Nat}(hb:0<b):aE .Mod (.int a) (.int b)=some (.int (a%b:Nat)):=by
 show dG (if(b:Int)≠0 then some (D.int ((a:Int).fmod b))else none) _=_;rw[if_pos (by omega),cC _ (by omega)];rfl
section
variable{T:ek}
def hK:bY:=uv "hsv_to_rgb"
def hB:List Stmt:=bo "hsv_to_rgb"
abbrev hS(h s v:UInt64)(i:Int)(f p q t:UInt64):cy:=[("h",.aN h),("s",.aN s),("v",.aN v),("i",.int i),("f",.aN f),("p",.aN p),("q",.aN q),("t",.aN t)]
theorem six{P:Nat->Prop}(h0:P 0)(h1:P 1)(h2:P 2)(h3:P 3)(h4:P 4)(h5:P 5):∀k,k<6->P k
 |0,_=>h0|1,_=>h1|2,_=>h2|3,_=>h3|4,_=>h4|5,_=>h5
theorem adh(h s v:UInt64)(f p q t:UInt64)(n:Nat):∀(k:Nat),k<6->cU (df (Va T) hK [] 60 (Xa T hK [] (n+1))) [ak 7 hB,ak 8 hB,ak 9 hB,ak 10 hB,ak 11 hB,ak 12 hB] (hS h s v k f p q t) []=some (.rt (.tup [.aN (B5 v p q t k).1,.aN (B5 v p q t k).2.1,.aN (B5 v p q t k).2.2])):=
 six (by rfl') (by rfl') (by rfl') (by rfl') (by rfl') (by rfl')
theorem akm(h s v)(r:UInt64×UInt64×UInt64)(e:Jl FU h s v=some r):Xa T hK [] 20 hB [("h",.aN h),("s",.aN s),("v",.aN v)] []=some (.rt (.tup [.aN r.1,.aN r.2.1,.aN r.2.2])):=by
 unfold Jl at e;simp only[jy]at e;refine fV (bs:=[ak 0 hB,ak 1 hB,ak 2 hB,ak 3 hB,ak 4 hB,ak 5 hB,ak 6 hB,ak 7 hB,ak 8 hB,ak 9 hB,ak 10 hB,ak 11 hB,ak 12 hB]) ?_;rw[show FU.k 0=aQ 0 from rfl,show FU.k DQ=aQ DQ from rfl,show FU.k Dn=aQ Dn from rfl]at e;cases h0:pT FU s (aQ 0)with
 |true=>
  rw[h0]at e;cases e;exact fX (b:=[ak 0 (bp (ak 0 hB))]) (tr (b:=some (xj s (aQ 0))) (by rw[gL,h0])) (fV (bs:=[ak 0 (bp (ak 0 hB))]) (dm (dW _ (by rfl'))))
 |false=>
  rw[h0,bz]at e;refine cR (b:=[]) (tr (b:=some (xj s (aQ 0))) (by rw[gL,h0])) (fV (bs:=[]) rfl) ?_;generalize hx:FU.mul h (aQ DQ)=x at e;cases h1:FU.AX x with
  |false=>rw[h1]at e;cases e
  |true=>
   rw[h1,qQ,bz]at e;have h1:(cT x&&(decide (0<=cx cH x)&&decide (cx cH x<=1000000)))=true:=h1;simp only[av,decide_eq_true_eq]at h1;have hi:cx cH x=((FU.tr x:Nat):Int):=by
    show _=(((cx cH x).toNat:Nat):Int)
    omega
   generalize hm:FU.tr x=i at e hi;have hil:i<=1000000:=by omega
   have hx2:cM .int [.aN x]=some (.int (i:Int)):=by
    show(if cT x=true then some (D.int (cx cH x))else none)=_;rw[if_pos h1.1,hi]
   refine fh (cb (.int (i:Int)) (tr (b:=cM .int [.aN (FU.mul h (aQ DQ))]) (by rw[hx];exact hx2))) ?_;have hs:aE .Sub (.aN (FU.mul h (aQ DQ))) (.int (i:Int))=some (.aN (FU.sub x (FU.i i))):=by
    show(if sm (i:Int)=true then some (D.aN (lY (FU.mul h (aQ DQ)) (eJ (i:Int))))else none)=_;rw[if_pos (kH (by omega) (by omega)),hx];rfl
   refine fh (cb (.aN (FU.sub x (FU.i i))) (tr hs)) ?_;generalize FU.sub x (FU.i i)=f at e⊢;refine fh (cb (.aN (FU.mul v (FU.sub (aQ Dn) s))) (by rfl')) ?_;refine fh (cb (.aN (FU.mul v (FU.sub (aQ Dn) (FU.mul s f)))) (by rfl')) ?_;refine fh (cb (.aN (FU.mul v (FU.sub (aQ Dn) (FU.mul s (FU.sub (aQ Dn) f))))) (by rfl')) ?_;generalize FU.mul v (FU.sub (aQ Dn) s)=p at e⊢;generalize FU.mul v (FU.sub (aQ Dn) (FU.mul s f))=q at e⊢;generalize FU.mul v (FU.sub (aQ Dn) (FU.mul s (FU.sub (aQ Dn) f)))=t at e⊢;have h6:aE .Mod (.int (i:Int)) (.int 6)=some (.int ((i%6:Nat):Int)):=by
    have:=GL (a:=i) (b:=6) (by omega);exact this
   have hk:i%6<6:=dP _ (by decide);generalize i%6=k at e h6 hk;refine fh (cb (.int (k:Int)) (tr h6)) ?_;have:=adh (T:=T) h s v f p q t 18 k hk;refine xU (b:=cU (df (Va T) hK [] 60 (Xa T hK [] 19)) [ak 7 hB,ak 8 hB,ak 9 hB,ak 10 hB,ak 11 hB,ak 12 hB] (hS h s v k f p q t) []) (by rfl') (this.trans ?_);rw[af e]
end
end
end
section
section
theorem arq:U6 "ONE_THIRD"=some (.aN (aQ Wh)):=by rfl'
theorem ars:U6 "ONE_SIXTH"=some (.aN (aQ c16)):=by rfl'
theorem akn:U6 "TWO_THIRD"=some (.aN (aQ YK)):=by rfl'
section
variable{T:ek}
def cK:bY:=uv "_v"
def cB:List Stmt:=bo "_v"
theorem ako(hI:mE T)(m1 m2 u0):Xa T cK [] 20 cB [("m1",.aN m1),("m2",.aN m2),("hue",.aN u0)] []=some (.rt (.aN (oV FU m1 m2 u0))):=by
 unfold oV;rw[jy];refine fV (bs:=[ak 0 cB,ak 1 cB,ak 2 cB,ak 3 cB,ak 4 cB]) ?_;refine fh (cb (.aN (FU.md u0)) (by rfl')) ?_;generalize FU.md u0=u;rw[show FU.k DQ=aQ DQ from rfl,show FU.k c16=aQ c16 from rfl,show FU.k Aj=aQ Aj from rfl,show FU.k YK=aQ YK from rfl];have t1:(T.gl "ONE_SIXTH").bind (λd=>cmp .Lt (.aN u) d)=some (Jk FU u (aQ c16)):=by
  rw[hI.gl,ars];show some (cG u (aQ c16)==some .lt)=_;rw[GK]
 have t3:(T.gl "TWO_THIRD").bind (λd=>cmp .Lt (.aN u) d)=some (Jk FU u (aQ YK)):=by
  rw[hI.gl,akn];show some (cG u (aQ YK)==some .lt)=_;rw[GK]
 cases h1:Jk FU u (aQ c16)with
 |true=>
  rw[h1]at t1;exact fX (b:=[ak 0 (bp (ak 1 cB))]) (tr t1) (fV (bs:=[ak 0 (bp (ak 1 cB))]) (dm (dW _ (by rfl'))))
 |false=>
  rw[h1]at t1;refine cR (b:=[]) (tr t1) (fV (bs:=[]) rfl) ?_;cases h2:Jk FU u (aQ Aj)with
  |true=>exact fX (b:=[ak 0 (bp (ak 2 cB))]) (tr (b:=some (cG u (aQ Aj)==some .lt)) (by rw[GK,h2])) (fV (bs:=[ak 0 (bp (ak 2 cB))]) (dm (dW _ (by rfl'))))
  |false=>
   refine cR (b:=[]) (tr (b:=some (cG u (aQ Aj)==some .lt)) (by rw[GK,h2])) (fV (bs:=[]) rfl) ?_;cases h3:Jk FU u (aQ YK)with
   |true=>
    rw[h3]at t3;refine fX (b:=[ak 0 (bp (ak 3 cB))]) (tr t3) (fV (bs:=[ak 0 (bp (ak 3 cB))]) (dm (dW _ (tr (b:=(((T.gl "TWO_THIRD").bind λd=>aE .Sub d (.aN u)).bind λd=>aE .Mult (.aN (FU.sub m2 m1)) d).bind (λd=>aE .Mult d (.aN (aQ DQ))) |>.bind λd=>aE .Add (.aN m1) d) ?_))));rw[hI.gl,akn];rfl
   |false=>
    rw[h3]at t3;refine cR (b:=[]) (tr t3) (fV (bs:=[]) rfl) ?_;exact dm (dW _ (by rfl'))
def dK2:bY:=uv "hls_to_rgb"
def GN:List Stmt:=bo "hls_to_rgb"
abbrev dI3:Stmt:=ak 1 GN
def VS(T:ek):Prop:=∀a b c:UInt64,T.fn "_v" [.aN a,.aN b,.aN c]=some (.aN (oV FU a b c))
theorem RH(hI:mE T)(hV:VS T)(h l s m2:UInt64)(n:Nat):cU (df (Va T) dK2 [] 60 (Xa T dK2 [] n)) [ak 2 GN,ak 3 GN] [("h",.aN h),("l",.aN l),("s",.aN s),("m2",.aN m2)] []=
 some (.rt (.tup [.aN (oV FU (FU.sub (FU.mul (aQ xP) l) m2) m2 (FU.add h (aQ Wh))),.aN (oV FU (FU.sub (FU.mul (aQ xP) l) m2) m2 h),.aN (oV FU (FU.sub (FU.mul (aQ xP) l) m2) m2 (FU.sub h (aQ Wh)))])):=by
 refine fh (cb (.aN (FU.sub (FU.mul (aQ xP) l) m2)) (by rfl')) ?_;generalize FU.sub (FU.mul (aQ xP) l) m2=m1;refine dm (dW _ (tr (b:=((((((((T.gl "ONE_THIRD").bind λd=>aE .Add (.aN h) d).bind λd=>some [d]).bind λds=>some (.aN m2::ds)).bind λds=>some (.aN m1::ds)).bind λds=>T.fn "_v" ds).bind λa=>((T.fn "_v" [.aN m1,.aN m2,.aN h]).bind λb=>(((((((T.gl "ONE_THIRD").bind λd=>aE .Sub (.aN h) d).bind λd=>some [d]).bind λds=>some (.aN m2::ds)).bind λds=>some (.aN m1::ds)).bind λds=>T.fn "_v" ds).bind λc=>some [c]).bind λds=>some (b::ds)).bind λds=>some (a::ds)).bind λds=>if ds.length<=eu then some (.tup ds)else none)) ?_));rw[hI.gl,arq];show(((T.fn "_v" [.aN m1,.aN m2,.aN (FU.add h (aQ Wh))]).bind λa=>((T.fn "_v" [.aN m1,.aN m2,.aN h]).bind λb=>((T.fn "_v" [.aN m1,.aN m2,.aN (FU.sub h (aQ Wh))]).bind λc=>some [c]).bind λds=>some (b::ds)).bind λds=>some (a::ds)).bind λds=>if ds.length<=eu then some (D.tup ds)else none)=_;rw[hV,hV,hV,ag,ag,ag,ag,ag,ag,if_pos (by rw[ei];show(3:Nat)<=1048576;decide)]
theorem akp(hI:mE T)(hV:VS T)(h l s:UInt64):Xa T dK2 [] 20 GN [("h",.aN h),("l",.aN l),("s",.aN s)] []=some (.rt (.tup [.aN (Dq FU h l s).1,.aN (Dq FU h l s).2.1,.aN (Dq FU h l s).2.2])):=by
 unfold Dq;simp only[jy];rw[show FU.k 0=aQ 0 from rfl,show FU.k xP=aQ xP from rfl,show FU.k Aj=aQ Aj from rfl,show FU.k Dn=aQ Dn from rfl,show FU.k Wh=aQ Wh from rfl];refine fV (bs:=[ak 0 GN,ak 1 GN,ak 2 GN,ak 3 GN]) ?_;cases h0:pT FU s (aQ 0)with
 |true=>exact fX (b:=[ak 0 (bp (ak 0 GN))]) (tr (b:=some (xj s (aQ 0))) (by rw[gL,h0])) (fV (bs:=[ak 0 (bp (ak 0 GN))]) (dm (dW _ (by rfl'))))
 |false=>
  refine cR (b:=[]) (tr (b:=some (xj s (aQ 0))) (by rw[gL,h0])) (fV (bs:=[]) rfl) ?_;cases h1:YL FU l (aQ Aj)with
  |true=>
   refine lV (b:=[ak 0 (bp dI3)]) (σ':=[("h",.aN h),("l",.aN l),("s",.aN s),("m2",.aN (FU.mul l (FU.add (aQ Dn) s)))]) (own':=[]) (tr (b:=some (cG l (aQ Aj)==some .lt||cG l (aQ Aj)==some .eq)) (by rw[Lc,h1])) ?_ (RH hI hV _ _ _ _ _);exact fV (bs:=[ak 0 (bp dI3)]) (fh (cb (.aN (FU.mul l (FU.add (aQ Dn) s))) (by rfl')) (by rfl'))
  |false=>
   refine cR (b:=[ak 0 (dN dI3)]) (σ':=[("h",.aN h),("l",.aN l),("s",.aN s),("m2",.aN (FU.sub (FU.add l s) (FU.mul l s)))]) (own':=[]) (tr (b:=some (cG l (aQ Aj)==some .lt||cG l (aQ Aj)==some .eq)) (by rw[Lc,h1])) ?_ (RH hI hV _ _ _ _ _);exact fV (bs:=[ak 0 (dN dI3)]) (fh (cb (.aN (FU.sub (FU.add l s) (FU.mul l s))) (by rfl')) (by rfl'))
end
def t3(x:UInt64×UInt64×UInt64):D:=.tup [.aN x.1,.aN x.2.1,.aN x.2.2]
structure CS(T:ek):Prop where
 hsv:∀r g b x,Dp FU r g b=some x->T.fn "rgb_to_hsv" [.aN r,.aN g,.aN b]=some (t3 x)
 hls:∀r g b x,AZ FU r g b=some x->T.fn "rgb_to_hls" [.aN r,.aN g,.aN b]=some (t3 x)
 rgb:∀h s v x,Jl FU h s v=some x->T.fn "hsv_to_rgb" [.aN h,.aN s,.aN v]=some (t3 x)
 rgl:∀h l s,T.fn "hls_to_rgb" [.aN h,.aN l,.aN s]=some (t3 (Dq FU h l s))
theorem YT(hp:∀f,(f==("_int2digits":Str))=false->(f==("_digits2int":Str))=false->(f==("_law_refused":Str))=false->(f==("_law_beaten":Str))=false->prim f=none)(r:Nat):CS (Tn prim (r+2)):=
 ⟨λr g b x e=>fv (["r","g","b"]:List Str) (hp _ (by decide) (by decide) (by decide) (by decide)) (akk r g b x e),λr g b x e=>fv (["r","g","b"]:List Str) (hp _ (by decide) (by decide) (by decide) (by decide)) (akl r g b x e),
  λh s v x e=>fv (["h","s","v"]:List Str) (hp _ (by decide) (by decide) (by decide) (by decide)) (akm h s v x e),
  λh l s=>fv (["h","l","s"]:List Str) (hp _ (by decide) (by decide) (by decide) (by decide)) (akp (sT prim _) (λa b c=>fv (["m1","m2","hue"]:List Str) (hp _ (by decide) (by decide) (by decide) (by decide)) (ako (sT prim r) a b c)) h l s)⟩
end
end
section
section
def fc3(x:Nat×Nat×Nat)(k:Nat->Nat->Nat->β):β:=zP x.1 λa=>zP x.2.1 λb=>zP x.2.2 λc=>k a b c
def YU(x:Option (Nat×Nat×Nat))(k:Nat->Nat->Nat->Bool):Bool:=match x with
 |some y=>fc3 y k
 |none=>false
def onN(x:Option Nat)(n:Nat):Bool:=match x with
 |some y=>bM y n
 |none=>false
section
variable{α:Type}(o:FO α)
def B7(c:α×α×α)(d:α×α):Option Nat:=
 o.fc (o.mul (o.i 64) c.1) λx=>o.fc (o.add x (o.q 1 2)) λy=>cd (not (o.AX y)) none<|
 o.fc (o.ab (o.sub x (o.i (o.tr y)))) λe1=>o.fc (o.ab (o.sub c.2.1 d.1)) λe2=>o.fc (o.ab (o.sub c.2.2 d.2)) λe3=>
 o.fc (o.mul (xr o e1 e2 e3) (o.i 1048576)) λz=>cd (bM (o.ci z 1) 0) (some (o.tr y%64)) none
end
def ckA(m h0 s1 v1 l1 t1:Nat):Bool:=zP (Jh (mG m 1) h0) λhh=>YU (Jl FN hh s1 v1) λr g b=>
 and (YU (Dp FN r g b) λx y z=>and (pT FN x h0) (and (pT FN y s1) (pT FN z v1))) (YU (AZ FN r g b) λx y z=>and (and (bM x h0) (and (bM y l1) (bM z t1))) (and (pT FN x h0) (and (pT FN y l1) (pT FN z t1))))
def ck1(h0 s1 v1 l1 t1:Nat):Bool:=and (and (gf h0) (and (and (gf s1) (gf v1)) (and (gf l1) (gf t1)))) (and (ckA 0 h0 s1 v1 l1 t1) (and (ckA 1 h0 s1 v1 l1 t1) (ckA 2 h0 s1 v1 l1 t1)))
def ck0(st sh va:Nat):Bool:=zP (va*(8 - sh)) λli=>zP (mG st 64) λh0=>zP (mG sh 4) λs1=>zP (mG va 4) λv1=>zP (mG li 32) λl1=>zP (mG (sh*va) (min li (32 - li))) λt1=>ck1 h0 s1 v1 l1 t1
def ckS(st:Nat):Bool:=[1,2,3,4].all λsh=>[1,2,3,4].all λva=>ck0 st sh va
def ckR(lo:Nat):Bool:=(aM 16).all λa=>zP (lo+a) ckS
def SS(a b:Nat):Nat:=cd (bX a b) (mG (b - a) 64) (RB (mG (a - b) 64))
def ckD:Bool:=(aM 64).all λa=>zP a λa=>zP (mG a 64) λx=>(aM 64).all λb=>zP b λb=>bM (Nf (mG b 64) x) (SS a b)
def uM:List Nat:=[4,5,6,7,8,10,12,14,15,16,18,20,21,24,28].map λn=>mG n 32
def zQ:List Nat:=[(1,7),(1,3),(3,5),(1,1),(3,11),(3,7)].map λx=>mG x.1 x.2
def ckH(h l t n:Nat):Bool:=fc3 (Dq FN h l t) λr g b=>YU (AZ FN r g b) λx y z=>onN (B7 FN (x,y,z) (l,t)) n
def YV(a b:Nat):Bool:=zP (SS a b) λh=>zP (qV (64+b - a) 64) λn=>uM.all λl=>zP l λl=>zQ.all λt=>zP t λt=>ckH h l t n
def ckM:Bool:=[1,2,3,4].all λsh=>[1,2,3,4].all λva=>and (uM.contains (mG (va*(8 - sh)) 32)) (zQ.contains (mG (sh*va) (min (va*(8 - sh)) (32 - va*(8 - sh)))))
end
end
section
section
def evO:List (Option D)->Option (List D)
 |[]=>some []
 |x::xs=>x.bind λd=>(evO xs).bind λds=>some (d::ds)
def Nh(xs:List (Option D)):Option D:=(evO xs).bind λds=>if ds.length<=eu then some (.tup ds)else none
def YW(T:ek)(f:Str)(xs:List (Option D)):Option D:=(evO xs).bind λds=>T.fn f ds
theorem adi(h:B7 FN (a,b,c) (d,e)=some n):B7 FU (aQ a,aQ b,aQ c) (aQ d,aQ e)=some n:=by
 unfold B7 at h⊢;simp only[jy,tn,h_i,B6,h_q,GJ]at h⊢;cases h1:FN.AX (FN.add (FN.mul (FN.i 64) a) (FN.q 1 2))with
 |false=>rw[h1]at h;cases h
 |true=>
  obtain⟨t1,t2⟩:=akh h1;rw[h1]at h;rw[t1,t2];simp only[qQ,bz,wY,arn,RE,B6,arl]at h⊢;exact h
section
variable{T:ek}
theorem adj(h l:UInt64):Xa T dK2 [] 20 GN [("h",.aN h),("l",.aN l),("s",.int 0)] []=some (.rt (t3 (l,l,l))):=by
 refine fV (bs:=[ak 0 GN,ak 1 GN,ak 2 GN,ak 3 GN]) ?_;exact fX (b:=[ak 0 (bp (ak 0 GN))]) (by rfl') (fV (bs:=[ak 0 (bp (ak 0 GN))]) (dm (dW _ (by rfl'))))
def SU:bY:=uv "_law_colours"
def cB4:List Stmt:=bo "_law_colours"
def cF:Stmt:=ak 1 cB4
def Le:List Stmt:=bp cF
abbrev C9:=D×D×D×D×D×D×D×D×D×D
def cS0(heap count:Int)(told:List D):cy:=[("heap",.int heap),("count",.int count),("told",.lst told)]
def cS(o:Option C9)(heap count:Int)(told:List D):cy:=match o with
 |none=>cS0 heap count told
 |some (one,ti,va,sh,hu,li,gr,r,g,b)=>cS0 heap count told++([("one",one),("tints",ti),("value",va),("share",sh),("hue",hu),("light",li),("grey",gr),("red",r),("green",g),("blue",b)]:cy)
theorem adk(o:Option C9)(heap count told)(one):(fk SU (iU cF) (.int one) (cS o heap count told,["told"])).isSome=true:=by
 rcases o with _|⟨x1,x2,x3,x4,x5,x6,x7,x8,x9,x0⟩<;>rfl'
theorem Wi(o:Option C9)(heap count one ti sh va li:Int)(h0 s1 v1 gr t1 r g b:UInt64)(told:List D)(x:D)(n)
(e0:(aE .Pow (.int 1024) (.int one)).bind (λd=>aE .FloorDiv (.int heap) d)=some (.int ti))(e1:(aE .Mod (.int ti) (.int 64)).bind (λd=>aE .Div d (.int 64))=some (.aN h0))
(e2:1+(ti.fdiv 64).fmod 4=sh)(e3:1+(ti.fdiv 256).fmod 4=va)(e4:aE .Mult (.int va) (.int (8 - sh))=some (.int li))(e5:aE .Div (.int li) (.int 32)=some (.aN gr))
(e6:aE .Div (.int sh) (.int 4)=some (.aN s1))(e7:aE .Div (.int va) (.int 4)=some (.aN v1))(e8:(aE .Mult (.int sh) (.int va)).bind (λa=>(cM .min [.int li,.int (32 - li)]).bind λb=>aE .Div a b)=some (.aN t1))
(f1:YW T "hsv_to_rgb" [(aE .Mod (.int one) (.int 3)).bind λd=>aE .Add d (.aN h0),some (.aN s1),some (.aN v1)]=some (t3 (r,g,b)))
(f2:T.fn "rgb_to_hls" [.aN r,.aN g,.aN b]=some x)(f3:∃y,T.fn "rgb_to_hsv" [.aN r,.aN g,.aN b]=some y/\cmp .NotEq y (t3 (h0,s1,v1))=some false)
(f4:(fU (.lst (told++[x])) one).bind (λa=>cmp .NotEq a (t3 (h0,gr,t1)))=some false)
(f5:(((T.fn "hls_to_rgb" [.aN h0,.aN gr,.int 0]).bind λa=>(T.fn "rgb_to_hls" [.aN gr,.aN gr,.aN gr]).bind λb=>aE .Add a b).bind λa=>(T.fn "rgb_to_hsv" [.aN gr,.aN gr,.aN gr]).bind λb=>aE .Add a b).bind (λa=>cmp .NotEq a (.tup [.aN gr,.aN gr,.aN gr,.int 0,.aN gr,.int 0,.int 0,.int 0,.aN gr]))=some false)
(hl:told.length+1<=eu):
 Xa T SU ["told"] (n+2) Le (g1 (fk SU (iU cF) (.int one) (cS o heap count told,["told"]))) (g2 (fk SU (iU cF) (.int one) (cS o heap count told,["told"])))=
  some (.nx (cS (some (.int one,.int ti,.int va,.int sh,.aN h0,.int li,.aN gr,.aN r,.aN g,.aN b)) heap count (told++[x])) ["told"]):=by
 have f9:=ei;have l3:∀a b c:D,(if[a,b,c].length<=eu then some (D.tup [a,b,c])else none)=some (.tup [a,b,c]):=λa b c=>if_pos (by rw[f9];show(3:Nat)<=1048576;decide);have DN:cS (some (.int one,.int ti,.int va,.int sh,.aN h0,.int li,.aN gr,.aN r,.aN g,.aN b)) heap count (told++[x])=cS0 heap count (told++[x])++([("one",.int one),("tints",.int ti),("value",.int va),("share",.int sh),("hue",.aN h0),("light",.int li),("grey",.aN gr),("red",.aN r),("green",.aN g),("blue",.aN b)]:cy):=rfl;rw[DN];rcases o with _|⟨x1,x2,x3,x4,x5,x6,x7,x8,x9,x0⟩
 all_goals
  refine fV (bs:=[ak 0 Le,ak 1 Le,ak 2 Le,ak 3 Le,ak 4 Le,ak 5 Le,ak 6 Le,ak 7 Le]) ?_;refine fh (cb (.int ti) (tr e0)) ?_;refine fh (mT ["hue","share","value"] [Ah 0 (ak 1 Le),Ah 1 (ak 1 Le),Ah 2 (ak 1 Le)] (ey (n8 (d:=.aN h0) (tr e1)) (ey (n8 (d:=.int sh) (tr (b:=some (.int (1+(ti.fdiv 64).fmod 4))) (by rw[e2]))) (ey (n8 (d:=.int va) (tr (b:=some (.int (1+(ti.fdiv 256).fmod 4))) (by rw[e3]))) mR)))) ?_;refine fh (cb (.int li) (tr e4)) ?_;refine fh (cb (.aN gr) (tr e5)) ?_;refine fh (mU (t3 (r,g,b),false) (n8 (d:=t3 (r,g,b)) (tr (b:=YW T "hsv_to_rgb" [(aE .Mod (.int one) (.int 3)).bind λd=>aE .Add d (.aN h0),aE .Div (.int sh) (.int 4),aE .Div (.int va) (.int 4)]) (by rw[e6,e7];exact f1)))) ?_;refine fh (C3 (ds:=told) (n8 (d:=x) (tr f2)) hl) ?_;refine cR (b:=[]) (tr (b:=Yl ((T.fn "rgb_to_hsv" [.aN r,.aN g,.aN b]).bind λa=>(Nh [some (.aN h0),aE .Div (.int sh) (.int 4),aE .Div (.int va) (.int 4)]).bind λy=>cmp .NotEq a y)
   (Yl ((fU (.lst (told++[x])) one).bind λa=>(Nh [some (.aN h0),some (.aN gr),(aE .Mult (.int sh) (.int va)).bind λa=>(cM .min [.int li,.int (32 - li)]).bind λb=>aE .Div a b]).bind λy=>cmp .NotEq a y) (some false))) ?_) (fV (bs:=[]) rfl) ?_
  ·obtain⟨y,y1,y2⟩:=f3
   have u1:Nh [some (.aN h0),aE .Div (.int sh) (.int 4),aE .Div (.int va) (.int 4)]=some (t3 (h0,s1,v1)):=by rw[e6,e7];exact l3 _ _ _
   have u2:Nh [some (.aN h0),some (.aN gr),(aE .Mult (.int sh) (.int va)).bind λa=>(cM .min [.int li,.int (32 - li)]).bind λb=>aE .Div a b]=some (t3 (h0,gr,t1)):=by rw[e8];exact l3 _ _ _
   rw[y1,ag,u1,u2,ag,y2];refine xU (b:=Yl ((fU (.lst (told++[x])) one).bind λa=>cmp .NotEq a (t3 (h0,gr,t1))) (some false)) rfl ?_;rw[f4];rfl
  refine cR (b:=[]) (tr (b:=((((T.fn "hls_to_rgb" [.aN h0,.aN gr,.int 0]).bind λa=>(T.fn "rgb_to_hls" [.aN gr,.aN gr,.aN gr]).bind λb=>aE .Add a b).bind λa=>(T.fn "rgb_to_hsv" [.aN gr,.aN gr,.aN gr]).bind λb=>aE .Add a b)).bind λa=>(Nh [some (.aN gr),some (.aN gr),some (.aN gr),some (.int 0),some (.aN gr),some (.int 0),some (.int 0),some (.int 0),some (.aN gr)]).bind λy=>cmp .NotEq a y) ?_) (fV (bs:=[]) rfl) (by rfl');have u3:Nh [some (.aN gr),some (.aN gr),some (.aN gr),some (.int 0),some (.aN gr),some (.int 0),some (.int 0),some (.int 0),some (.aN gr)]=some (.tup [.aN gr,.aN gr,.aN gr,.int 0,.aN gr,.int 0,.int 0,.int 0,.aN gr]):=by
   refine xU (b:=if 9<=eu then some (D.tup [.aN gr,.aN gr,.aN gr,.int 0,.aN gr,.int 0,.int 0,.int 0,.aN gr])else none) rfl (if_pos (by rw[f9];decide))
  rw[u3];exact f5
def aK4:bY:=uv "_law_ahead"
def aB4:List Stmt:=bo "_law_ahead"
theorem adl(f0 f1 f2 s0 s1 s2 r g b a b' c:UInt64)(n:Nat)(q1:T.fn "hls_to_rgb" [.aN (FU.sub s0 f0),.aN f1,.aN s2]=some (t3 (r,g,b)))(q2:T.fn "rgb_to_hls" [.aN r,.aN g,.aN b]=some (t3 (a,b',c)))(h:B7 FU (a,b',c) (f1,s2)=some n):
 Xa T aK4 [] 20 aB4 [("first",t3 (f0,f1,f2)),("second",t3 (s0,s1,s2))] []=some (.rt (.int n)):=by
 unfold B7 at h;simp only[jy]at h;generalize hx:FU.mul (FU.i 64) a=x at h;generalize hy:FU.add x (FU.q 1 2)=y at h;cases h1:FU.AX y with
 |false=>rw[h1]at h;cases h
 |true=>
  rw[h1,qQ,bz]at h;have h1:(cT y&&(decide (0<=cx cH y)&&decide (cx cH y<=1000000)))=true:=h1;simp only[av,decide_eq_true_eq]at h1;have hi:cx cH y=((FU.tr y:Nat):Int):=by
   show _=(((cx cH y).toNat:Nat):Int)
   omega
  generalize FU.tr y=i at h hi;have hil:i<=1000000:=by omega
  have hx2:cM .int [.aN y]=some (.int (i:Int)):=by
   show(if cT y=true then some (D.int (cx cH y))else none)=_;rw[if_pos h1.1,hi]
  have hs:aE .Sub (.aN x) (.int (i:Int))=some (.aN (FU.sub x (FU.i i))):=by
   show(if sm (i:Int)=true then some (D.aN (lY x (eJ (i:Int))))else none)=_;rw[if_pos (kH (by omega) (by omega))];rfl
  rw[<-Dr]at h;generalize FU.sub x (FU.i i)=w at h hs;cases hz:bM (FU.ci (FU.mul (Ap (FU.ab w) (FU.ab (FU.sub b' f1)) (FU.ab (FU.sub c s2))) (FU.i 1048576)) 1) 0 with
  |false=>rw[hz]at h;cases h
  |true=>
   rw[hz,cj]at h;cases h;have hge:cmp .GtE (.aN (FU.mul (Ap (FU.ab w) (FU.ab (FU.sub b' f1)) (FU.ab (FU.sub c s2))) (FU.i 1048576))) (.int 1)=some false:=by
    show some (fz _ 1==some .gt||fz _ 1==some .eq)=_;have hq:mH (fz (FU.mul (Ap (FU.ab w) (FU.ab (FU.sub b' f1)) (FU.ab (FU.sub c s2))) (FU.i 1048576)) 1)=0:=bF hz;rw[K9,Dm,hq];rfl
   have hm:aE .Mod (.int (i:Int)) (.int 64)=some (.int ((i%64:Nat):Int)):=by
    have:=GL (a:=i) (b:=64) (by omega);exact this
   refine fV (bs:=[ak 0 aB4,ak 1 aB4,ak 2 aB4,ak 3 aB4]) ?_;refine fh (mU (t3 (r,g,b),false) (n8 (d:=t3 (r,g,b)) (tr q1))) ?_;refine fh (mU (t3 (a,b',c),false) (n8 (d:=t3 (a,b',c)) (tr q2))) ?_;refine fh (cb (.int (i:Int)) (tr (b:=cM .int [.aN (FU.add (FU.mul (FU.i 64) a) (FU.q 1 2))]) (by rw[hx,hy];exact hx2))) ?_;refine dm (dW _ (tr (b:=((((((aE .Sub (.aN (FU.mul (FU.i 64) a)) (.int (i:Int))).bind λd=>some [d]).bind λds=>cM .abs ds).bind λd1=>some [d1,.aN (FU.ab (FU.sub b' f1)),.aN (FU.ab (FU.sub c s2))]).bind λds=>cM .max ds).bind λm=>aE .Mult m (.int 1048576)).bind (λz=>cmp .GtE z (.int 1)) |>.bind λc=>if c=true then some (.int (-1))else aE .Mod (.int (i:Int)) (.int 64)) ?_));have hmul:∀m:UInt64,aE .Mult (.aN m) (.int 1048576)=some (.aN (FU.mul m (FU.i 1048576))):=λm=>by
    show dG (if sm 1048576=true then some (D.aN (hZ m (eJ 1048576)))else none) _=_;rw[if_pos (kH (by decide) (by decide))];rfl
   rw[hx,hs,hm,ag,ag,show cM .abs [.aN w]=some (.aN (FU.ab w))from rfl,ag,ag,
    show cM .max [.aN (FU.ab w),.aN (FU.ab (FU.sub b' f1)),.aN (FU.ab (FU.sub c s2))]=some (.aN (Ap (FU.ab w) (FU.ab (FU.sub b' f1)) (FU.ab (FU.sub c s2))))from rfl,ag,hmul,ag,hge]
   rfl
end
end
end
section
section
theorem nR(h:YU x k=true):∃a b c,x=some (a,b,c)/\k a b c=true:=by
 unfold YU at h;split at h
 ·rename_i y
  obtain⟨a,b,c⟩:=y;unfold fc3 at h;simp only[jx]at h;exact⟨a,b,c,rfl,h⟩
 ·cases h
theorem RI(h:onN x n=true):x=some n:=by
 unfold onN at h;split at h
 ·rw[bF h]
 ·cases h
theorem akr(h:gf n=true):lJ (aQ n)=false:=by
 unfold lJ;rw[gv h]
theorem RJ(hb:0<b)(h:gf (mG a b)=true):aE .Div (.int (a:Int)) (.int (b:Int))=some (.aN (aQ (mG a b))):=by
 show dG (if(b:Int)≠0/\lJ (EV (a:Int) (b:Int))=false then some (D.aN (EV (a:Int) (b:Int)))else none) _=_;rw[K6,if_pos ⟨by omega,akr h⟩];rfl
section
variable{T:ek}
end
end
end
section
theorem ary:ckR 0=true:=by rfl'
theorem arz:ckR 16=true:=by rfl'
theorem arA:ckR 32=true:=by rfl'
theorem arC:ckR 48=true:=by rfl'
theorem arD:ckM=true:=by rfl'
theorem arE:ckD=true:=by rfl'
def ckG(g:Nat):Bool:=and (pT FN g g) (and (YU (AZ FN g g g) λx y z=>and (bM x 0) (and (pT FN y g) (bM z 0))) (YU (Dp FN g g g) λx y z=>and (bM x 0) (and (bM y 0) (pT FN z g))))
theorem arH:uM.all ckG=true:=by rfl'
theorem wZ(h:pT FN x a=true):rH 39 (.aN (aQ x)) (.aN (aQ a))=some true:=by
 show dG (dG none (dG none (dG (if xj (aQ x) (aQ a)=true then some true else none) _))) _=_;rw[gL,Jm,h];rfl
theorem Lf:rH 39 (.aN (aQ 0)) (.int 0)=some true:=by rfl'
theorem Ni:∀l:List (D×D),(∀p∈l,rH 39 p.1 p.2=some true)->sq (rH 39) (l.map (·.1)) (l.map (·.2))=some true:=by
 intro l
 induction l with
 |nil=>intro _;rfl
 |cons p l ih=>
  intro h;show(rH 39 p.1 p.2).bind (λx=>(sq (rH 39) (l.map (·.1)) (l.map (·.2))).map λq=>x&&q)=_;rw[h p (aA ..),ih λq hq=>h q (aD _ hq)];rfl
theorem RK(l:List (D×D))(h:∀p∈l,rH 39 p.1 p.2=some true):cmp .NotEq (.tup (l.map (·.1))) (.tup (l.map (·.2)))=some false:=by
 show(if(l.map (·.1)).length=(l.map (·.2)).length then sq (rH 39) (l.map (·.1)) (l.map (·.2))else none).map (λx=> !x)=_;rw[if_pos (by rw[aj,aj]),Ni l h];rfl
theorem YX(h1:pT FN x a=true)(h2:pT FN y b=true)(h3:pT FN z c=true):cmp .NotEq (t3 (aQ x,aQ y,aQ z)) (t3 (aQ a,aQ b,aQ c))=some false:=
 RK [(.aN (aQ x),.aN (aQ a)),(.aN (aQ y),.aN (aQ b)),(.aN (aQ z),.aN (aQ c))] (by
  intro p hp;simp only[aJ,du,or_false]at hp;rcases hp with rfl|rfl|rfl
  ·exact wZ h1
  ·exact wZ h2
  ·exact wZ h3)
def Nj(x:Nat):Nat:=1+x/64%4
def RM(x:Nat):Nat:=1+x/256%4
def SV(x:Nat):Nat:=RM x*(8 - Nj x)
def RN(x:Nat):Nat:=mG (x%64) 64
def YZ(x:Nat):Nat:=mG (SV x) 32
def Y0(x:Nat):Nat:=mG (Nj x*RM x) (min (SV x) (32 - SV x))
def lX(x:Nat):D:=t3 (aQ (RN x),aQ (YZ x),aQ (Y0 x))
theorem in4:∀n,n<5->1<=n->n∈[1,2,3,4]:=by decide
theorem m4(x):1<=1+x%4/\1+x%4<5:=by omega
theorem tv{lo a:Nat}(h:ckR lo=true)(ha:a<16):ckS (lo+a)=true:=by
 unfold ckR at h;have:=aw.mp h a (cQ.mpr ha);rwa[jx]at this
theorem Wj(st)(h:st<64):ckS st=true:=by
 have e:st=16*(st/16)+st%16:=by omega
 have h4:st/16<4:=by omega
 have hm:st%16<16:=by omega
 generalize st/16=q at e h4;generalize st%16=a at e hm;subst e;match q,h4 with
 |0,_=>rw[tE];exact tv ary hm
 |1,_=>exact tv arz hm
 |2,_=>exact tv arA hm
 |3,_=>exact tv arC hm
theorem Wl(x:Nat):ck0 (x%64) (Nj x) (RM x)=true:=by
 have h:=Wj (x%64) (by omega);obtain⟨a1,a2⟩:=m4 (x/64);obtain⟨b1,b2⟩:=m4 (x/256);exact aw.mp (aw.mp h _ (in4 _ a2 a1)) _ (in4 _ b2 b1)
theorem Ds(x:Nat):YZ x∈uM/\Y0 x∈zQ:=by
 obtain⟨a1,a2⟩:=m4 (x/64);obtain⟨b1,b2⟩:=m4 (x/256);have:=aw.mp (aw.mp arD _ (in4 _ a2 a1)) _ (in4 _ b2 b1);obtain⟨h1,h2⟩:=bZ.mp this;exact⟨cL.mp h1,cL.mp h2⟩
theorem aks:∀sh,sh<5->∀va,va<5->1<=sh->1<=va->va*(8 - sh)<=32/\1<=min (va*(8 - sh)) (32 - va*(8 - sh)):=by decide
theorem RO(x:Nat):SV x<=32/\1<=min (SV x) (32 - SV x):=by
 obtain⟨a1,a2⟩:=m4 (x/64);obtain⟨b1,b2⟩:=m4 (x/256);exact aks _ a2 _ b2 a1 b1
theorem RP{T:ek}(hC:CS T)(h:Dp FN r g b=some (x,y,z)):T.fn "rgb_to_hsv" [.aN (aQ r),.aN (aQ g),.aN (aQ b)]=some (t3 (aQ x,aQ y,aQ z)):=hC.hsv _ _ _ _ ((akf r g b).trans (by rw[h];rfl))
theorem Jp{T:ek}(hC:CS T)(h:AZ FN r g b=some (x,y,z)):T.fn "rgb_to_hls" [.aN (aQ r),.aN (aQ g),.aN (aQ b)]=some (t3 (aQ x,aQ y,aQ z)):=hC.hls _ _ _ _ ((akg r g b).trans (by rw[h];rfl))
def RG(T:ek):Prop:=∀h l:UInt64,T.fn "hls_to_rgb" [.aN h,.aN l,.int 0]=some (t3 (l,l,l))
theorem Wn{T:ek}(hC:CS T)(hR:RG T)(h0:UInt64)(g:Nat)(hg:ckG g=true):
 (((T.fn "hls_to_rgb" [.aN h0,.aN (aQ g),.int 0]).bind λa=>(T.fn "rgb_to_hls" [.aN (aQ g),.aN (aQ g),.aN (aQ g)]).bind λb=>aE .Add a b).bind λa=>(T.fn "rgb_to_hsv" [.aN (aQ g),.aN (aQ g),.aN (aQ g)]).bind λb=>aE .Add a b).bind
   (λa=>cmp .NotEq a (.tup [.aN (aQ g),.aN (aQ g),.aN (aQ g),.int 0,.aN (aQ g),.int 0,.int 0,.int 0,.aN (aQ g)]))=some false:=by
 have f9:=ei;unfold ckG at hg;obtain⟨g1,hg⟩:=bZ.mp hg;obtain⟨g2,g3⟩:=bZ.mp hg;obtain⟨x,y,z,a5,a6⟩:=nR g2;obtain⟨x',y',z',b5,b6⟩:=nR g3;simp only[av]at a6 b6;obtain rfl:=bF a6.1;obtain rfl:=bF a6.2.2;obtain rfl:=bF b6.1;obtain rfl:=bF b6.2.1;rw[hR,ag,Jp hC a5,ag,RP hC b5];have s1:aE .Add (t3 (aQ g,aQ g,aQ g)) (t3 (aQ 0,aQ y,aQ 0))=some (.tup [.aN (aQ g),.aN (aQ g),.aN (aQ g),.aN (aQ 0),.aN (aQ y),.aN (aQ 0)]):=xU (b:=if 6<=eu then some (D.tup [.aN (aQ g),.aN (aQ g),.aN (aQ g),.aN (aQ 0),.aN (aQ y),.aN (aQ 0)])else none) rfl (if_pos (by rw[f9];decide));have s2:aE .Add (.tup [.aN (aQ g),.aN (aQ g),.aN (aQ g),.aN (aQ 0),.aN (aQ y),.aN (aQ 0)]) (t3 (aQ 0,aQ 0,aQ z'))=some (.tup [.aN (aQ g),.aN (aQ g),.aN (aQ g),.aN (aQ 0),.aN (aQ y),.aN (aQ 0),.aN (aQ 0),.aN (aQ 0),.aN (aQ z')]):=xU (b:=if 9<=eu then some (D.tup [.aN (aQ g),.aN (aQ g),.aN (aQ g),.aN (aQ 0),.aN (aQ y),.aN (aQ 0),.aN (aQ 0),.aN (aQ 0),.aN (aQ z')])else none) rfl (if_pos (by rw[f9];decide));rw[s1,ag,ag,s2,ag];exact RK [(.aN (aQ g),.aN (aQ g)),(.aN (aQ g),.aN (aQ g)),(.aN (aQ g),.aN (aQ g)),(.aN (aQ 0),.int 0),(.aN (aQ y),.aN (aQ g)),(.aN (aQ 0),.int 0),(.aN (aQ 0),.int 0),(.aN (aQ 0),.int 0),(.aN (aQ z'),.aN (aQ g))] (by
  intro p hp;simp only[aJ,du,or_false]at hp;rcases hp with rfl|rfl|rfl|rfl|rfl|rfl|rfl|rfl|rfl
  ·exact wZ g1
  ·exact wZ g1
  ·exact wZ g1
  ·exact Lf
  ·exact wZ a6.2.1
  ·exact Lf
  ·exact Lf
  ·exact Lf
  ·exact wZ b6.2.2)
end
section
section
theorem smS{n:Nat}(h:n<=1000):sm (n:Int)=true:=kH (gi (by decide) (bG n)) (gi (gj.mpr h) (by decide))
theorem RQ{a b:Nat}(ha:a<=1000)(hb:b<=1000):aE .Mult (.int a) (.int b)=some (.int (a*b:Nat)):=by rw[C1 (smS ha) (smS hb),nX]
theorem fd1(x n:Nat):(x:Int).fdiv n=((x/n:Nat):Int):=bP _ (bG n)
theorem fm0(x n:Nat):(x:Int).fmod n=((x%n:Nat):Int):=cC _ (bG n)
theorem Y1(x n:Nat):1+((x:Int).fdiv n).fmod 4=((1+x/n%4:Nat):Int):=by
 rw[fd1,show((x/n:Nat):Int).fmod 4=_ from fm0 (x/n) 4,ff];rfl
theorem adn:∀li,li<33->(if(32:Int) - (li:Nat)<(li:Nat)then(32:Int) - (li:Nat)else(li:Nat))=((min li (32 - li):Nat):Int):=by decide
theorem akt{li:Nat}(h:li<=32):cM .min [.int (li:Int),.int (32 - (li:Int))]=some (.int (min li (32 - li):Nat)):=congrArg (λz=>some (D.int z)) (adn li (DG h))
theorem RS{told:List D}{x:D}{n:Nat}(h:told.length=n)(hn:n<=1000):fU (.lst (told++[x])) (n:Int)=some x:=by
 subst h;rw[zi (by simp) (by simp;omega)];simp
structure aku(T:ek)(m x:Nat):Prop where
 d1:aE .Div (.int ((x%64:Nat):Int)) (.int 64)=some (.aN (aQ (RN x)))
 d2:aE .Div (.int (Nj x:Nat)) (.int 4)=some (.aN (aQ (mG (Nj x) 4)))
 d3:aE .Div (.int (RM x:Nat)) (.int 4)=some (.aN (aQ (mG (RM x) 4)))
 d4:aE .Div (.int (SV x:Nat)) (.int 32)=some (.aN (aQ (YZ x)))
 d5:aE .Div (.int (Nj x*RM x:Nat)) (.int (min (SV x) (32 - SV x):Nat))=some (.aN (aQ (Y0 x)))
 fs:∃r g b,T.fn "hsv_to_rgb" [.aN (FU.add (aQ (mG m 1)) (aQ (RN x))),.aN (aQ (mG (Nj x) 4)),.aN (aQ (mG (RM x) 4))]=some (t3 (r,g,b))/\T.fn "rgb_to_hls" [.aN r,.aN g,.aN b]=some (lX x)/\(∃y,T.fn "rgb_to_hsv" [.aN r,.aN g,.aN b]=some y/\cmp .NotEq y (t3 (aQ (RN x),aQ (mG (Nj x) 4),aQ (mG (RM x) 4)))=some false)/\cmp .NotEq (lX x) (lX x)=some false
theorem Nk{T:ek}(hC:CS T){m h0 s1 v1 l1 t1:Nat}(h:ckA m h0 s1 v1 l1 t1=true):∃r g b,T.fn "hsv_to_rgb" [.aN (FU.add (aQ (mG m 1)) (aQ h0)),.aN (aQ s1),.aN (aQ v1)]=some (t3 (r,g,b))/\T.fn "rgb_to_hls" [.aN r,.aN g,.aN b]=some (t3 (aQ h0,aQ l1,aQ t1))/\
 (∃y,T.fn "rgb_to_hsv" [.aN r,.aN g,.aN b]=some y/\cmp .NotEq y (t3 (aQ h0,aQ s1,aQ v1))=some false)/\cmp .NotEq (t3 (aQ h0,aQ l1,aQ t1)) (t3 (aQ h0,aQ l1,aQ t1))=some false:=by
 unfold ckA at h;rw[jx]at h;obtain⟨r,g,b,a1,a2⟩:=nR h;obtain⟨a3,a4⟩:=bZ.mp a2;obtain⟨x,y,z,a5,a6⟩:=nR a3;obtain⟨x',y',z',a7,a8⟩:=nR a4;simp only[av]at a6 a8;obtain⟨⟨b1,b2,b3⟩,c1,c2,c3⟩:=a8;obtain rfl:=bF b1;obtain rfl:=bF b2;obtain rfl:=bF b3;have f1:=hC.rgb _ _ _ _ (aki a1);rw[<-Dk]at f1;exact⟨_,_,_,f1,Jp hC a7,⟨_,RP hC a5,YX a6.1 a6.2.1 a6.2.2⟩,YX c1 c2 c3⟩
theorem facts{T:ek}(hC:CS T)(m x:Nat)(hm:m<3):aku T m x:=by
 have h:=Wl x;unfold ck0 at h;simp only[jx]at h;unfold ck1 at h;simp only[av]at h;obtain⟨⟨n1,⟨n2,n3⟩,n4,n5⟩,k0,k1,k2⟩:=h;have hk:ckA m (RN x) (mG (Nj x) 4) (mG (RM x) 4) (YZ x) (Y0 x)=true:=match m,hm with
  |0,_=>k0
  |1,_=>k1
  |2,_=>k2
 exact⟨RJ (b:=64) (by decide) n1,RJ (b:=4) (by decide) n2,RJ (b:=4) (by decide) n3,RJ (b:=32) (by decide) n4,RJ (RO x).2 n5,Nk hC hk⟩
section
variable{T:ek}
theorem ado(hC:CS T)(hR:RG T)(o:Option C9)(heap count i:Nat)(hi:i<6)(told:List D)(hl:told.length=i)(n:Nat):∃o',
 Xa T SU ["told"] (n+2) Le (g1 (fk SU (iU cF) (.int i) (cS o heap count told,["told"]))) (g2 (fk SU (iU cF) (.int i) (cS o heap count told,["told"])))=
  some (.nx (cS (some o') heap count (told++[lX (heap/1024^i)])) ["told"]):=by
 have f9:=ei;generalize hx:heap/1024^i=x;have F:=facts hC (i%3) x (dP _ (by decide));obtain⟨r,g,b,f1,f2,f3,f4⟩:=F.fs;obtain⟨a1,a2⟩:=m4 (x/64);obtain⟨b1,b2⟩:=m4 (x/256);have hlg:=aw.mp arH _ (Ds x).1;refine⟨_,Wi (T:=T) o heap count i x (Nj x:Nat) (RM x:Nat) (SV x:Nat) (aQ (RN x)) (aQ (mG (Nj x) 4)) (aQ (mG (RM x) 4)) (aQ (YZ x)) (aQ (Y0 x)) r g b told (lX x) n ?_ ?_ (Y1 x 64) (Y1 x 256) ?_ F.d4 F.d2 F.d3 ?_ ?_ f2 f3 ?_ (Wn hC hR _ _ hlg) (by omega)⟩
 ·rw[<-hx]
  exact oB (sW (a:=1024) (by decide) (by omega)) (nP (fg (by decide)) (C6 (n:=10) (by decide) (by omega)))
 ·exact oB (ja (b:=64) (by decide)) F.d1
 ·rw[show(8 - ((Nj x:Nat):Int))=((8 - Nj x:Nat):Int)from(Al (by show 1+x/64%4<=8;omega)).symm]
  exact RQ (by show 1+x/256%4<=1000;omega) (by omega)
 ·exact oB (RQ (by show 1+x/64%4<=1000;omega) (by show 1+x/256%4<=1000;omega)) (oB (akt (RO x).1) F.d5)
 ·have e1:(aE .Mod (.int (i:Int)) (.int 3)).bind (λd=>aE .Add d (.aN (aQ (RN x))))=some (.aN (FU.add (aQ (mG (i%3) 1)) (aQ (RN x)))):=by
   refine oB (ja (b:=3) (by decide)) ?_;refine xU (b:=dG none (dG none (dG (if sm ((i%3:Nat):Int)=true then some (D.aN (i6 (eJ ((i%3:Nat):Int)) (aQ (RN x))))else none) none))) rfl ?_;rw[if_pos (smS (by omega)),GH];rfl
  exact oB (oB e1 rfl) f1
 ·rw[RS hl (by omega)];exact f4
theorem adp(hC:CS T)(hR:RG T)(heap count:Nat)(n:Nat):∀(j k:Nat)(o:Option C9)(told:List D),k+j<=6->told=(aM k).map (λi=>lX (heap/1024^i))->
 ∃o',sG (Xa T SU ["told"] (n+2)) SU (iU cF) Le ((iz k j).map di) (cS o heap count told) ["told"]=some (.nx (cS o' heap count ((aM (k+j)).map λi=>lX (heap/1024^i))) ["told"]):=by
 intro j
 induction j with
 |zero=>intro k o told _ h;exact⟨o,by rw[h];rfl⟩
 |succ j ih=>
  intro k o told hk h;obtain⟨o',e⟩:=ado (T:=T) hC hR o heap count k (by omega) told (by rw[h,aj,b8]) n;obtain⟨o2,e2⟩:=ih (k+1) (some o') (told++[lX (heap/1024^k)]) (by omega) (by rw[dR,da,h];rfl);refine⟨o2,?_⟩;rw[l7,bJ];refine sR e ?_ (adk o heap count told k);rw[show k+(j+1)=k+1+j by omega];exact e2
theorem akv(hC:CS T)(hR:RG T)(heap count:Nat)(hc:count<=6):Xa T SU ["told"] 20 cB4 [("heap",.int heap),("count",.int count)] []=some (.rt (.lst ((aM count).map λi=>lX (heap/1024^i)))):=by
 have f9:=ei;obtain⟨o',ho⟩:=adp (T:=T) hC hR heap count 17 count 0 none [] (by omega) rfl;rw[jA]at ho;refine fV (bs:=[ak 0 cB4,ak 1 cB4,ak 2 cB4]) ?_;refine fh (cb (.lst []) (by rfl')) ?_;refine fh (zg (ds:=(iz 0 count).map di) (tr (b:=(cM .range [.int count]).bind items) ?_) (tr ho)) ?_
 ·have:=kc count (by omega)
  rw[xd]at this;refine oB (a:=.og 0 count 1) (r:=some ((iz 0 count).map di)) ?_ ?_
  ·rfl
  ·exact this
 generalize ((aM count).map λi=>lX (heap/1024^i))=L;refine dm (dW _ ?_);rcases o' with _|⟨x1,x2,x3,x4,x5,x6,x7,x8,x9,x0⟩<;>rfl'
end
end
end
section
def Wo(lo:Nat):Bool:=(aM 8).all λb=>zP (lo+b) λb=>YV 0 b
def Wq(lo:Nat):Bool:=(aM 8).all λb=>zP (lo+b) λb=>YV b 0
theorem arK:Wo 0=true:=by rfl'
theorem arM:Wo 8=true:=by rfl'
theorem arN:Wo 16=true:=by rfl'
theorem arO:Wo 24=true:=by rfl'
theorem arP:Wo 32=true:=by rfl'
theorem arQ:Wo 40=true:=by rfl'
theorem arR:Wo 48=true:=by rfl'
theorem arU:Wo 56=true:=by rfl'
theorem arV:Wq 0=true:=by rfl'
theorem arW:Wq 8=true:=by rfl'
theorem arX:Wq 16=true:=by rfl'
theorem arY:Wq 24=true:=by rfl'
theorem arZ:Wq 32=true:=by rfl'
theorem ar0:Wq 40=true:=by rfl'
theorem ar1:Wq 48=true:=by rfl'
theorem ar2:Wq 56=true:=by rfl'
theorem Wr(b)(h:b<64):YV 0 b=true:=by
 have e:b=8*(b/8)+b%8:=by omega
 have h8:b/8<8:=by omega
 have hm:b%8<8:=by omega
 generalize b/8=q at e h8;generalize b%8=a at e hm;subst e;have key:∀lo,Wo lo=true->YV 0 (lo+a)=true:=λlo h=>by
  have:=aw.mp h a (cQ.mpr hm);rwa[jx]at this
 match q,h8 with
 |0,_=>exact key _ arK
 |1,_=>exact key _ arM
 |2,_=>exact key _ arN
 |3,_=>exact key _ arO
 |4,_=>exact key _ arP
 |5,_=>exact key _ arQ
 |6,_=>exact key _ arR
 |7,_=>exact key _ arU
theorem Ws(b)(h:b<64):YV b 0=true:=by
 have e:b=8*(b/8)+b%8:=by omega
 have h8:b/8<8:=by omega
 have hm:b%8<8:=by omega
 generalize b/8=q at e h8;generalize b%8=a at e hm;subst e;have key:∀lo,Wq lo=true->YV (lo+a) 0=true:=λlo h=>by
  have:=aw.mp h a (cQ.mpr hm);rwa[jx]at this
 match q,h8 with
 |0,_=>exact key _ arV
 |1,_=>exact key _ arW
 |2,_=>exact key _ arX
 |3,_=>exact key _ arY
 |4,_=>exact key _ arZ
 |5,_=>exact key _ ar0
 |6,_=>exact key _ ar1
 |7,_=>exact key _ ar2
end
section
theorem GO{a b l t:Nat}(hl:l∈uM)(ht:t∈zQ)(h:YV a b=true):ckH (SS a b) l t (qV (64+b - a) 64)=true:=by
 unfold YV at h;rw[jx,jx]at h;have:=aw.mp h l hl;rw[jx]at this;have:=aw.mp this t ht;rw[jx]at this;exact this
theorem RV{a b:Nat}(h:a<=b):SS a b=mG (b - a) 64:=by unfold SS;rw[el h,cj]
theorem RW{a b:Nat}(h:¬a<=b):SS a b=RB (mG (a - b) 64):=by unfold SS;rw[acX h,bz]
theorem Wt{a b l t:Nat}(ha:a<64)(hb:b<64)(hl:l∈uM)(ht:t∈zQ):ckH (SS a b) l t (qV (64+b - a) 64)=true:=by
 by_cases h:a<=b
 ·have:=GO hl ht (Wr (b - a) (by omega))
  rw[RV (dk _),gM,gM,<-Nat.add_sub_assoc h]at this;rw[RV h];exact this
 ·have:=GO hl ht (Ws (a - b) (by omega))
  rw[RW (by omega),gM,show 64+0 - (a - b)=64+b - a by omega]at this;rw[RW h];exact this
theorem RX{a b:Nat}(ha:a<64)(hb:b<64):Nf (mG b 64) (mG a 64)=SS a b:=by
 have h:=arE;unfold ckD at h;simp only[jx]at h;exact bF (aw.mp (aw.mp h a (cQ.mpr ha)) b (cQ.mpr hb))
def AS(T:ek):Prop:=∀x y:Nat,T.fn "_law_ahead" [lX x,lX y]=some (di ((64+y%64 - x%64)%64))
def KS(T:ek):Prop:=∀heap count:Nat,count<=6->T.fn "_law_colours" [di heap,di count]=some (.lst ((aM count).map λi=>lX (heap/1024^i)))
abbrev NP(prim:Str->Option (List D->Option D)):Prop:=∀f,(f==("_int2digits":Str))=false->(f==("_digits2int":Str))=false->(f==("_law_refused":Str))=false->(f==("_law_beaten":Str))=false->prim f=none
theorem adq{T:ek}(hC:CS T)(x y:Nat):Xa T aK4 [] 20 aB4 [("first",lX x),("second",lX y)] []=some (.rt (di ((64+y%64 - x%64)%64))):=by
 have h:=Wt (dP x (show 64>0 by decide)) (dP y (show 64>0 by decide)) (Ds x).1 (Ds y).2;unfold ckH fc3 at h;simp only[jx]at h;obtain⟨a,b,c,q1,q2⟩:=nR h;have q3:=adi (RI q2);have f6:=hC.rgl (aQ (SS (x%64) (y%64))) (aQ (YZ x)) (aQ (Y0 y));rw[akj,<-RX (dP x (by decide)) (dP y (by decide)),<-K8]at f6;exact adl (aQ (RN x)) (aQ (YZ x)) (aQ (Y0 x)) (aQ (RN y)) (aQ (YZ y)) (aQ (Y0 y)) _ _ _ _ _ _ _ f6 (Jp hC (by rw[RX (dP x (by decide)) (dP y (by decide))];exact q1)) q3
theorem akw{prim:Str->Option (List D->Option D)}(hp:NP prim)(r:Nat):RG (Tn prim (r+1)):=λh l=>
 fv (["h","l","s"]:List Str) (hp _ (by decide) (by decide) (by decide) (by decide)) (adj h l)
theorem akx{prim:Str->Option (List D->Option D)}(hp:NP prim)(r:Nat):AS (Tn prim (r+3)):=λx y=>
 fv (["first","second"]:List Str) (hp _ (by decide) (by decide) (by decide) (by decide)) (adq (YT hp r) x y)
theorem aky{prim:Str->Option (List D->Option D)}(hp:NP prim)(r:Nat):KS (Tn prim (r+3)):=λheap count hc=>
 fv (["heap","count"]:List Str) (hp _ (by decide) (by decide) (by decide) (by decide)) (akv (YT hp r) (akw hp (r+1)) heap count hc)
end
end Internal.Z
namespace Internal.B
section
open PyProof.Rows.LCg
def bB:List Stmt:=za "_law_beaten" pw.main.body
def bA:ae:=bj (ak 0 bB)
def RY(e:ae):ae:=match(nO e).2.1 with|g::_=>g.target|[]=>default
def bSc:Scope:=(nO bA).2.2.1
def bK:bY:=uv "_law_beaten"
theorem akz:∃py po px pi pe sp,ak 0 bB=.Assign [.Name "beaten" py] (.ListComp (.List [] pe) [⟨.Name "one" px,.Name "told" pi,[],0⟩] bSc po) sp/\my bK "beaten" py (.ListComp (.List [] pe) [⟨.Name "one" px,.Name "told" pi,[],0⟩] bSc po)=true:=by
 refine⟨jI (ak 0 bB),bA.pos,(RY bA).pos,(ql bA).pos,(nO bA).1.pos,bU (ak 0 bB),?_,?_⟩<;>rfl'
theorem Nl:bSc.kind=.function/\(bSc.names.all λy=>y.2 != .cell&&(y.2 != .free&&(y.2 != .local||bSc.names.lookup y.1==some .local)))=true/\bSc.names.lookup ("one":Str)=some NameKind.local:=⟨by rfl',by rfl',by rfl'⟩
section
variable{w:World}{A:aC}{E:Value->ah->Prop}{s:ah}{h₀:Heap}{L:Addr}{m:Str->Option Value}{env:Env}
theorem Wu{x:Str}{scope:Scope}{pe:Pos}{ax:Addr}{its:Array Value}{Fin:List Value->List (Addr×Obj)->Prop}{n:Nat}
(ar3:∀(bs:List Addr)(news:List (Addr×Obj)),bs.length=n->bs.Nodup->(∀b∈bs,(b,lst [])∈news)->Fin (bs.map .ref) news)(hS:h₀.IsList ax its):∀(k i:Nat)(bs:List Addr)(news:List (Addr×Obj)),k+bs.length=n->bs.Nodup->(∀b∈bs,(b,lst [])∈news)->
 CompRest pw w A h₀ L m env (.List [] pe) x scope [] s (SrcAt h₀ ax its) (λi v=>its[i]? =some v) Fin k i (bs.map .ref) news:=by
 intro k
 induction k with
 |zero=>intro i bs news h1 h2 h3;exact ar3 bs news (by omega) h2 h3
 |succ k ih=>
  intro i bs news h1 h2 h3;refine CompRest.succ λv I oI C oC D m₂ h tk E' _ _ _ F N off ne=>?_;refine List_ (Sp (newList_N F N (λh' F' N'=>?_) (by decide)));have nw:∀p∈(I,oI)::(C,oC)::(D,lst (bs.map .ref))::news,p.1≠h.objs.size:=λp hp=>eA (cY (N p hp).1);refine CompEnd.intro F' N' ((h.objs.size,lst [])::news) ?_ ⟨⟨(nw (I,oI) (by simp)).symm,(nw (C,oC) (by simp)).symm,(nw (D,lst (bs.map .ref)) (by simp)).symm⟩,off⟩ (.inl hS) ?_
  ·intro p hp
   simp only[aJ]at hp⊢;rcases hp with rfl|rfl|rfl|rfl|hp
   ·exact .inr (.inl rfl)
   ·exact .inr (.inr (.inl rfl))
   ·exact .inr (.inr (.inr (.inl rfl)))
   ·exact .inl rfl
   ·exact .inr (.inr (.inr (.inr hp)))
  ·have e:bs.map gh++[.ref h.objs.size]=(bs++[h.objs.size]).map .ref:=by rw[da];rfl
   rw[e];refine ih (i+1) (bs++[h.objs.size]) _ (by rw[aG];simp;omega) ?_ ?_
   ·rw[lh]
    refine⟨h2,by simp,λa ha b hb=>?_⟩;rw[aY.mp hb];exact nw (a,lst []) (by simp only[aJ];exact .inr (.inr (.inr (h3 a ha))))
   ·intro b hb
    rcases fR.mp hb with hb|hb
    ·exact aD _ (h3 b hb)
    ·rw[aY.mp hb];exact aA ..
theorem RZ{Q:Flow->ah->Prop}{ax:Addr}{its:Array Value}(hh:A.handled=none)(jr:env.scope.names=bK)(SW:env.scope.kind=.function)(hL:env.locals=L)(F:Fr h₀ L s.heap m)(hm:m "told"=some (.ref ax))(hl:h₀.IsList ax its)(hsz:its.size<=1000)
(hQ:∀(al:Addr)(bs:List Addr)(h:Heap)(tk:Nat),bs.length=its.size->bs.Nodup->Fr h₀ L h (λz=>if z="beaten" then some (.ref al)else m z)->(∀b∈bs,h.get? b=some (lst [])/\b≠L/\h₀.get? b=none/\b≠al)->(h.get? al=some (lst (bs.map .ref))/\al≠L/\h₀.get? al=none)->Q .next {s with heap:=h,toks:=tk}):
 wpAny (model pw w) A (exec (ak 0 bB) env) Q E s:=by
 obtain⟨py,po,px,pi,pe,sp,e,FD⟩:=akz;obtain⟨k1,k2,k3⟩:=Nl;have k2:=aw.mp k2;simp only[av,m9,bne_iff_ne,beq_iff_eq]at k2;rw[e];have mx:∀n,env.kindOf n=bK.lookup n:=λn=>by unfold gT;rw[jr]
 refine Assign_ListComp_U (cl:=[]) F hL (by rw[nL SW,jr,FD]) ?_ (λz hz=>(k2 z hz).1) k1 (λz hz hzl=>(k2 z hz).2.2.resolve_left (λq=>q hzl)) k3 (by rw[mx];decide) (by rw[SW];rfl) ?_
 ·rfl'
 ·refine i9 (jO SW (by rw[mx];decide) (by rw[hL];exact F.ns) hm ?_) (by decide)
  refine CompSrc.base hh F News.nil hl (aq hsz (by decide)) λg=>?_;refine Wu (n:=its.size) (λbs news q1 q2 q3=>?_) hl its.size 0 [] [] (by simp) (by simp) (by simp);intro D h tk F' N' o1;have o2:∀p∈news,p.1≠D:=by
   clear N' q3;induction news with
   |nil=>intro p hp;cases hp
   |cons x t ih=>
    intro p hp;rcases aJ.mp hp with rfl|hp
    ·exact o1.1
    ·exact ih o1.2 p hp
  have nd:=N' _ (aA ..);exact hQ D bs h tk q1 q2 F' (λb hb=>by
   have:=N' _ (aD _ (q3 b hb));exact⟨this.1,this.2.1,this.2.2,o2 _ (q3 b hb)⟩) ⟨nd.1,nd.2.1,nd.2.2⟩
end
end
end Internal.B
namespace Internal.B
section
section
variable{prog:bb}{w:World}{A:aC}{E:Value->ah->Prop}{G:Addr->Prop}{env:Env}{s:ah}{σ:cy}{La:Heap->Prop}{Bu:aC->Prop}{V:Ev}{ds:List D}
inductive FJ(prog:bb)(w:World)(A:aC)(G:Addr->Prop)(ds:List D)(sa:ah)(K:Nat->ah->Prop)(x:Value)(n:Nat)(s:ah):Prop
 |mk (I:Addr) (fp:List Addr) (P:Nat->Value->Prop) (St:Nat->Heap->Prop) (hx:x=.ref I) (no:yk I P St) (Wk:Walks prog w A I fp [I] ds.length P St) (hI:sa.heap.get? I=none) (yl:∀i h,St i h->(h.get? I).isSome=true) (Cu:∀b∈fp,b=I\/(¬G b/\(sa.heap.get? b).isSome=true))
  (hP:∀i v h (F':Addr->Prop),P i v->Kept G sa.heap h->(∀b,F' b->G b\/sa.heap.get? b=none)->∀d,ds[i]? =some d->bW h F' d v) (i:Nat) (hi:i<=ds.length) (hn:n=ds.length+1 - i) (st:St i s.heap) (kg:Kept G sa.heap s.heap) (k:K i s)
theorem R0{K:Nat->ah->Prop}{Q:Flow->ah->Prop}{t iter:ae}{body:List Stmt}{pos:Pos}{d:D}(VO:de prog w La Bu V)(bu:Bu A)(am:dz A La s)(x:In env G σ s.heap)(abv:jd iter=true)(h1:V.d env.scope.names σ iter=some d)(h2:items d=some ds)
(Kt:∀i s,K i s->1<=s.toks)(K0:∀s',Keeps s s'->1<=s'.toks->K 0 s')(KI:∀i I s1 s2,s.heap.get? I=none->(s1.heap.get? I).isSome=true->Upd (λa=>a=I) s1 s2->1<=s2.toks->K i s1->K i s2)
(turn:∀i (hi:i<ds.length) s1 v (E':Value->ah->Prop),K i s1->bW s1.heap G ds[i] v->wpAny (model prog w) A (assign t env v) (λ_ s2=>wpAny (model prog w) A (execs body env) (λf s3=>f=.next/\K (i+1) s3/\Upd G s1 s3) E' s2) E' s1)
(fin:∀s',K ds.length s'->Q .next s'):wpAny (model prog w) A (exec (.For t iter body [] pos) env) Q E s:=by
 refine Kk (λx n s2=>∃sa,Keeps s sa/\FJ prog w A G ds sa K x n s2) (jq abv env) (ai (bw am.tk (VO.d A _ env G σ s iter d bu am x h1)) (λv s1 q=>?_) λ_ _ e=>e) λx n s3 q B C E' hS hB hR hN=>?_
 ·obtain⟨t1,k1,r1⟩:=q
  have x1:=x.keeps (Keeps.all k1);refine ai (bw t1 (jZ am.hh x1.lo r1 h2)) (λit s2 q2=>?_) λ_ _ e=>e;obtain⟨t2,k2,ti⟩:=q2;cases ti with
  |mk I fp P St hx no Wk st hI yl Cu hP=>
  exact⟨_,s1,k1,I,fp,P,St,hx,no,Wk,hI,yl,Cu,hP,0,dk _,rfl,st,λb o _ e=>Keeps.all k2 b o e,K0 _ (Keeps.trans' k1 k2) t2⟩
 ·obtain⟨sa,ka,q⟩:=q
  cases q with
  |mk I fp P St hx no Wk hI yl Cu hP i hi hn st kg k=>
  subst hx;have nI:=J1 (Keeps.all ka) hI;have gI:¬G I:=λz=>nS nI (x.lo I z);rcases pL hi with mm|PJ
  ·refine qy Wk mm (Kt _ _ k) st λv s4 t4 u4 p Eh=>hS v s4 (qx no p Eh ?_)
   have k4:=KI i I s3 s4 nI (yl _ _ st) u4 t4 k;have kg4:Kept G sa.heap s4.heap:=λb o nb e=>u4.kept (G:=λa=>a=I) (λ_ q=>q) b o (λz=>nG hI (z▸e)) (kg b o nb e);refine ai (turn i mm s4 v _ k4 (hP i v s4.heap G p kg4 (λb q=>.inl q) _ (bC mm))) (λ_ s5 q=>ai q (λf s6 q=>?_) λ_ _ e=>e) λ_ _ e=>e;obtain⟨rfl,k6,u6⟩:=q;exact hB (ds.length+1 - (i+1)) s6 (hn▸Ab (qP mm) (d6 i)) ⟨sa,ka,I,fp,P,St,rfl,no,Wk,hI,yl,Cu,hP,i+1,mm,rfl,
    Wk.frame _ _ _ Eh (λb hb o e=>u6.kept (G:=G) (λ_ q=>q) b o ((Cu b hb).elim (λz=>z▸gI) aec) e),λb o nb e=>u6.kept (G:=G) (λ_ q=>q) b o nb (kg4 b o nb e),k6⟩
  ·refine qz Wk (Kt _ _ k) (PJ▸st) λs4 t4 u4=>hN s4 (fin s4 ?_)
   exact PJ▸KI i I s3 s4 nI (yl _ _ st) u4 t4 k
end
def BG(h₀ h:Heap)(a:Addr):Prop:=h₀.get? a=none/\(h.get? a).isSome=true
structure BF(env:Env)(h₀:Heap)(L al:Addr)(bs:List Addr):Prop where
 fn:env.scope.kind=.function
 FR:env.scope.names=bK
 gl:env.globals=mainGlobals
 bi:env.builtins=builtinsNs
 ce:env.cells=[]
 loc:env.locals=L
 nd:bs.Nodup
 nb:∀b∈bs,b≠L/\h₀.get? b=none/\b≠al
 na:al≠L/\h₀.get? al=none
def MS(h₀:Heap)(m:Str->Option Value)(σ:cy):Prop:=∀n d,look σ n=some d->∃v,m n=some v/\bW h₀ (λ_=>False) d v
theorem zS:(bK.all λy=>y.2 != .cell&&y.2 != .free)=true:=by rfl'
theorem BF.kind{env:Env}(f:BF env h₀ L al bs)(n:Str):env.kindOf n=bK.lookup n:=by unfold gT;rw[f.FR]
theorem BF.CY{env:Env}(f:BF env h₀ L al bs)(n:Str):env.kindOf n≠some .cell/\env.kindOf n≠some .free:=by
 rw[f.kind];constructor<;>intro h
 ·have:=aw.mp zS _ (mem_of_lookup h)
  simp at this
 ·have:=aw.mp zS _ (mem_of_lookup h)
  simp at this
theorem zT{m:Str->Option Value}(F:Fr h₀ L h m):h₀.get? L=none/\(h.get? L).isSome=true:=by
 constructor
 ·cases e:h₀.get? L with
  |none=>rfl
  |some o=>exact absurd (cY e) (pN.mpr F.above)
 ·obtain⟨o,_,_,e,_⟩:=F.ns
  rw[e];rfl
theorem GP{env:Env}{m:Str->Option Value}{σ:cy}(f:BF env h₀ L al bs)(F:Fr h₀ L h m)(ms:MS h₀ m σ):In env (BG h₀ h) σ h:=by
 refine⟨f.fn,f.gl,f.bi,λb q=>q.2,f.loc▸zT F,λn c e=>(by rw[f.ce]at e;cases e),λn n' c e=>(by rw[f.ce]at e;cases e),λn hn=>absurd hn (f.CY n).1,m,f.loc▸F.ns,λn d e=>⟨λ_=>?_,λhc=>hc.elim (λq=>absurd q (f.CY n).1) λq=>absurd q (f.CY n).2⟩⟩;obtain⟨v,h1,h2⟩:=ms n d e;exact⟨v,h1,bW.kept (F:=λ_=>False) (λb o _ e=>F.keep b o e) (λb q=>.inr q.1) _ _ h2⟩
structure BS(az:ah)(L al:Addr)(bs:List Addr)(m:Str->Option Value)(rows:List (List Nat))(s:ah):Prop where
 tk:1<=s.toks
 kp:Keeps az s
 F:Fr az.heap L s.heap m
 bt:m "beaten"=some (.ref al)
 ol:s.heap.get? al=some (LCg.lst (bs.map .ref))
 ln:rows.length=bs.length
 SP:∀i b,bs[i]? =some b->Acc (λ_=>False) s.heap b ((rows.getD i []).map di)
section
variable{env:Env}{az s s':ah}{L al:Addr}{bs:List Addr}{m:Str->Option Value}{rows:List (List Nat)}
theorem BS.keeps(x:BS az L al bs m rows s)(k:Keeps s s')(t:1<=s'.toks):BS az L al bs m rows s':=
 ⟨t,Keeps.trans' x.kp k,x.F.keeps (Keeps.all k),x.bt,Keeps.all k _ _ x.ol,x.ln,λi b e=>(x.SP i b e).keeps (Keeps.all k)⟩
theorem BS.iter(f:BF env az.heap L al bs)(x:BS az L al bs m rows s)(u:Upd (λa=>a=I) s s')(t:1<=s'.toks)(h0:az.heap.get? I=none)(hl:L≠I)(ha:al≠I)(hb:∀b∈bs,b≠I):BS az L al bs m rows s':=by
 have kp:Kept (λa=>a=I) s.heap s'.heap:=u.kept λ_ q=>q;refine⟨t,u.keeps (λa q=>q▸h0) x.kp,LCg.fr_but x.F (λb o hb e=>kp b o (λz=>hb (aY.mpr z)) e) hl h0,x.bt,kp _ _ ha x.ol,x.ln,λi b e=>?_⟩;obtain⟨vs,n,h1,h2⟩:=x.SP i b e;exact⟨vs,n,kp _ _ (hb b (gF e)) h1,eO (Internal.I.allFlat _) h2⟩
theorem BS.store{prog:bb}{w:World}{A:aC}{E:Value->ah->Prop}{n:Str}{v:Value}{Q:Unit->ah->Prop}(f:BF env az.heap L al bs)(x:BS az L al bs m rows s)(hk:bK.lookup n=some .local)(hn:n≠"beaten")
(h:∀s',BS az L al bs (λz=>if z=n then some v else m z) rows s'->Upd (λa=>a=L) s s'->Q () s'):wpAny (model prog w) A (storeName env n v) Q E s:=by
 refine m8 (m:=m) (by rw[f.kind];exact hk) (by rw[f.loc];exact x.F.ns) (λh' PG om=>?_) (by rw[f.fn];rfl);rw[f.loc]at PG om;have u:Upd (λa=>a=L) s {s with heap:=h',toks:=s.toks+1}:=⟨h',_,rfl,λb o hb e=>om.extBut b o hb e⟩
 refine h _ ⟨nW 1 _,u.keeps (λa q=>q▸(zT x.F).1) x.kp,x.F.set PG om,?_,om.extBut _ _ f.na.1 x.ol,x.ln,λi b e=>?_⟩ u
 ·show(if("beaten":Str)=n then _ else _)=_
  rw[if_neg (gm hn)];exact x.bt
 ·obtain⟨vs,k,h1,h2⟩:=x.SP i b e
  exact⟨vs,k,om.extBut _ _ (f.nb b (gF e)).1 h1,eO (Internal.I.allFlat _) h2⟩
theorem MS.put{h₀:Heap}{σ:cy}{n:Str}{d:D}{v:Value}(ms:MS h₀ m σ)(r:bW h₀ (λ_=>False) d v):MS h₀ (λz=>if z=n then some v else m z) (put n d σ):=λk e he=>by
 by_cases hk:k=n
 ·subst hk
  obtain rfl:=iX he;exact⟨v,if_pos rfl,r⟩
 ·rw[cZ hk]at he
  obtain⟨u,h1,h2⟩:=ms k e he;exact⟨u,(if_neg hk).trans h1,h2⟩
end
end
section
section
variable{env:Env}{az s s':ah}{L al:Addr}{bs:List Addr}{m:Str->Option Value}{rows:List (List Nat)}{w:World}{A:aC}{E:Value->ah->Prop}
theorem BF.load{h₀:Heap}{x:Str}{v:Value}{Q:Value->ah->Prop}{p:Pos}(f:BF env h₀ L al bs)(F:Fr h₀ L s.heap m)(hk:bK.lookup x=some .local)(hd:(x==("__debug__":Str))=false)(hm:m x=some v)(h:Q v s):
 wpAny (model pw w) A (eval (.Name x p) env) Q E s:=
 i9 (jO f.fn (by rw[f.kind];exact hk) (by rw[f.loc];exact F.ns) hm h) hd
theorem zU(rows:List (List Nat))(i j k:Nat)(hi:i<rows.length):(rows.modify i (·++[j])).getD k []=if k=i then rows.getD i []++[j]else rows.getD k []:=by
 rw[br,w9];by_cases h:k=i
 ·subst h
  rw[if_pos rfl,br,bC hi];simp
 ·rw[if_neg h,br]
  simp only[if_neg (gm h)];cases rows[k]? <;>rfl
theorem R1{nx ny:Str}{i j:Nat}{t u:Tok}{p1 p2 p3 p4 ap cp pos:Pos}{Q:Flow->ah->Prop}(f:BF env az.heap L al bs)(x:BS az L al bs m rows s)(hx:bK.lookup nx=some .local/\(nx==("__debug__":Str))=false)(hy:bK.lookup ny=some .local/\(ny==("__debug__":Str))=false)
(h1:m nx=some (.int i t))(h2:m ny=some (.int j u))(hi:i<bs.length)(hb:bs.length<=1000)(hr:(rows.getD i []).length<=1000)(hl:ap.endLine=cp.line)
(h:∀s',BS az L al bs m (rows.modify i (·++[j])) s'->Upd (λa=>a∈bs) s s'->Q .next s'):
 wpAny (model pw w) A (exec (.Expr (.Call (.Attribute (.Subscript (.Name "beaten" p1) (.Name nx p2) p3) "append" ap) [.Name ny p4] [] cp) pos) env) Q E s:=by
 have hbk:backTo cp (starEach [.Name ny p4] env)=[(false,eval (.Name ny p4) env)]:=rfl;refine ri ?_ (gx f.fn) rfl;refine lM rfl (by rw[hbk];rfl) (by simpa using hl) ?_;have hol:IsL s.heap al (bs.map .ref).toArray (bs.map gh).length:=x.ol;refine ug (f.load x.F (by decide) (by decide) x.bt (f.load x.F hx.1 hx.2 h1 ⟨uf hol,?_⟩));obtain⟨b,hb1⟩:∃b,bs[i]? =some b:=⟨bs[i],bC hi⟩;refine wpAny_getItem_list (x:=.ref b) hol.isList (by omega) (by omega) ?_ ?_
 ·rw[aR,fq,gG,hb1];rfl
 obtain⟨vs,n,q1,q2⟩:=x.SP i b hb1;refine⟨"list","list.append",jX,JB,JC,⟨_,q1,rfl⟩,λb e=>by cases e;exact⟨_,q1,rfl⟩,?_⟩;rw[hbk];refine iA rfl (dY rfl (dC (f.load x.F hy.1 hy.2 h2 (gB ?_))));have hsz:vs.size<=sizeLine:=by
  have h1:=q2.length;rw[cu,aj]at h1;exact aq (by rw[h1];exact hr) (by decide)
 refine lL (hsz:=hsz) ⟨n,q1⟩ λh' hp hs=>?_;obtain⟨n',hp⟩:=hp;have hbm:b∈bs:=gF hb1;have hbb:=f.nb b hbm;have u4:Upd (λa=>a=b) s {s with heap:=h'}:=⟨h',_,rfl,λc o hb e=>hs.extBut c o hb e⟩
 refine h _ ⟨x.tk,u4.keeps (λa q=>q▸hbb.2.1) x.kp,⟨x.F.ns.at' λo e=>hs.extBut _ _ (gm hbb.1) e,λc o e=>hs.extBut c o (λz=>by rw[z,hbb.2.1]at e;cases e) (x.F.keep c o e),x.F.above⟩,x.bt,hs.extBut _ _ (gm hbb.2.2) x.ol,by rw[Am];exact x.ln,λk c e=>?_⟩ (u4.more λa q=>q▸hbm);rw[zU rows i j k (by rw[x.ln];exact hi)];by_cases hk:k=i
 ·subst hk
  rw[hb1]at e;cases e;rw[if_pos rfl,da];refine⟨vs.push (.int j u),n',hp,?_⟩;rw[A6];exact(eO (h':=h') (G':=λ_=>False) (Internal.I.allFlat _) q2).append (.one fA)
 ·rw[if_neg hk]
  obtain⟨jR,n2,g1,g2⟩:=x.SP k c e;have m7:c≠b:=λz=>hk (by
   subst z;have e1:=(fj.mp e)
   have e2:=(fj.mp hb1)
   exact(List.getElem_inj f.nd).mp (e1.2.trans e2.2.symm))
  exact⟨jR,n2,hs.extBut _ _ m7 g1,eO (Internal.I.allFlat _) g2⟩
end
end
end Internal.B
namespace Internal.B
section
open Internal.Z (lX AS Tn)
def bF2:Stmt:=ak 1 bB
def bI:Stmt:=ak 0 (bp bF2)
def DR:List Stmt:=bp bI
def b3:Stmt:=ak 2 DR
def apS(st:Stmt):ae×Str×Pos:=(IB (pH (bj st))).getD (default,"",default)
def apI(st:Stmt)(nx ny:Str):Stmt:=.Expr (.Call (.Attribute (.Subscript (.Name "beaten" (pH (apS st).1).pos) (.Name nx (IL (apS st).1).pos) (apS st).1.pos) "append" (apS st).2.2) [.Name ny (pj 0 (bj st)).pos] [] (bj st).pos) (bU st)
theorem akA:bB=[ak 0 bB,.For (.Name "second" (jI bF2)) (bj bF2) [.For (.Name "first" (jI bI)) (bj bI) DR [] (bU bI)] [] (bU bF2),.Return (some (.Name "beaten" (bj (ak 2 bB)).pos)) (bU (ak 2 bB))]:=by rfl'
theorem adt:DR=[.Assign [.Name "ahead" (jI (ak 0 DR))] (bj (ak 0 DR)) (bU (ak 0 DR)),.If (dx (ak 1 DR)) (bp (ak 1 DR)) [] (bU (ak 1 DR)),.If (dx b3) [apI (ak 0 (bp b3)) "first" "second"] [apI (ak 0 (dN b3)) "second" "first"] (bU b3)]:=by rfl'
theorem Lg:(apS (ak 0 (bp b3))).2.2.endLine=(bj (ak 0 (bp b3))).pos.line/\(apS (ak 0 (dN b3))).2.2.endLine=(bj (ak 0 (dN b3))).pos.line:=by constructor<;>rfl'
theorem Jq:my bK "ahead" (jI (ak 0 DR)) (bj (ak 0 DR))=false/\jd (bj bF2)=true/\jd (bj bI)=true:=⟨by rfl',by rfl',by rfl'⟩
def A0(told:List D)(H:Int)(ups:List D):cy:=[("told",.lst told),("heap",.int H),("upsets",.lst ups)]
section
variable{T:ek}
theorem akB(told H ups):(dX T 31).d bK (A0 told H ups) (bj bF2)=((cM .len [.lst told]).bind λd=>some [d]).bind λds=>cM .range ds:=by rfl'
theorem akC(told H ups)(j):(dX T 31).d bK (A0 told H ups++([("second",.int j)]:cy)) (bj bI)=cM .range [.int j]:=by rfl'
theorem ar4(told H ups)(i j):(dX T 31).d bK (A0 told H ups++([("second",.int j),("first",.int i)]:cy)) (bj (ak 0 DR))=
 ((fU (.lst told) i).bind λa=>((fU (.lst told) j).bind λb=>some [b]).bind λds=>some (a::ds)).bind λds=>T.fn "_law_ahead" ds:=by rfl'
theorem ar5(told H ups)(i j k):(dX T 31).b bK (A0 told H ups++([("second",.int j),("first",.int i),("ahead",.int k)]:cy)) (dx (ak 1 DR))=
 ((((aE .Pow (.int 1024) (.int j)).bind λd=>aE .FloorDiv (.int H) d).bind λa=>((aE .Pow (.int 1024) (.int i)).bind λd=>aE .FloorDiv (.int H) d).bind λb=>aE .Sub a b).bind λd=>aE .Mod d (.int 64)).bind λd=>cmp .NotEq (.int k) d:=by rfl'
theorem ar6(told H ups)(i j k):(dX T 31).b bK (A0 told H ups++([("second",.int j),("first",.int i),("ahead",.int k)]:cy)) (dx b3)=
 (((((((aE .Mult (.int 8) (.int i)).bind λd=>aE .Add d (.int j)).bind λd=>some [d]).bind λds=>pg .count (.lst ups) ds).bind λd=>aE .Mod d (.int 2)).bind λd=>cmp .Eq d (.int 0)).map D.bool).bind λb=>cmp .Eq (.bool (decide (k<32))) b:=by rfl'
end
def Jr(H:Nat)(ups:List Int)(i j:Nat):Bool:=decide ((64+H/1024^j%64 - H/1024^i%64)%64<32)==(ups.count ((8*i+j:Nat):Int)%2==0)
def je(H n:Nat):List D:=(aM n).map λi=>lX (H/1024^i)
theorem GQ{H n i:Nat}(h:i<n)(hn:n<=6):fU (.lst (je H n)) (i:Int)=some (lX (H/1024^i)):=by
 have:=Internal.Z.jt (l:=aM n) (f:=λi=>lX (H/1024^i)) (i:=i) (by rw[b8];exact h) (by rw[b8];omega);rw[An]at this;exact this
section
variable{T:ek}
theorem akD(hA:AS T){H n i j:Nat}(ups)(hi:i<n)(hj:j<n)(hn:n<=6):(dX T 31).d bK (A0 (je H n) H ups++([("second",.int j),("first",.int i)]:cy)) (bj (ak 0 DR))=some (.int ((64+H/1024^j%64 - H/1024^i%64)%64:Nat)):=by
 rw[ar4,GQ hi hn,ag,GQ hj hn,ag,ag,ag];exact hA _ _
theorem Y2{H i:Nat}(hi:i<6):((aE .Pow (.int 1024) (.int i)).bind λd=>aE .FloorDiv (.int H) d)=some (.int (H/1024^i:Nat)):=
 oB (Internal.Z.sW (a:=1024) (by decide) (by omega)) (Internal.Z.nP (fg (by decide)) (Internal.Z.C6 (n:=10) (by decide) (by omega)))
theorem Rb{H i j:Nat}(told ups)(hi:i<6)(hj:j<6):(dX T 31).b bK (A0 told H ups++([("second",.int j),("first",.int i),("ahead",.int ((64+H/1024^j%64 - H/1024^i%64)%64:Nat))]:cy)) (dx (ak 1 DR))=some false:=by
 rw[ar5,Y2 hi,Y2 hj,ag,ag];generalize H/1024^j=y;generalize H/1024^i=x;have e:((y:Int) - (x:Int)).fmod 64=(((64+y%64 - x%64)%64:Nat):Int):=by
  rw[cC _ (by decide)];omega
 have h:aE .Mod (.int ((y:Int) - (x:Int))) (.int 64)=some (.int (((64+y%64 - x%64)%64:Nat):Int)):=by rw[<-e];rfl
 rw[Internal.Z.sub_int,ag,h,ag];show(some (((64+y%64 - x%64)%64:Nat)==(((64+y%64 - x%64)%64:Nat):Int))).map (λx=> !x)=_;rw[beq_self_eq_true];rfl
theorem akE{H i j:Nat}(told)(ups:List Int)(hi:i<6)(hj:j<6):(dX T 31).b bK (A0 told H (ups.map .int)++([("second",.int j),("first",.int i),("ahead",.int ((64+H/1024^j%64 - H/1024^i%64)%64:Nat))]:cy)) (dx b3)=some (Jr H ups i j):=by
 rw[ar6];have e1:aE .Mult (.int 8) (.int (i:Int))=some (.int ((8*i:Nat):Int)):=Internal.Z.RQ (a:=8) (by decide) (by omega);have e2:pg .count (.lst (ups.map .int)) [.int ((8*i+j:Nat):Int)]=some (.int (ups.count ((8*i+j:Nat):Int):Nat)):=by
  show(gO (ups.map .int)).map (λns=>D.int (ns.count ((8*i+j:Nat):Int):Nat))=_;rw[Internal.Z.zk];rfl
 have e3:=Internal.Z.ja (a:=ups.count ((8*i+j:Nat):Int)) (b:=2) (by decide);have e4:cmp .Eq (.int ((ups.count ((8*i+j:Nat):Int)%2:Nat):Int)) (.int 0)=some (ups.count ((8*i+j:Nat):Int)%2==0):=Internal.Z.sU _ 0;rw[e1,ag,Internal.Z.add_int,ag,ag,<-ff,e2,ag,show((2:Int))=((2:Nat):Int)from rfl,e3,ag,e4];show some (decide ((((64+H/1024^j%64 - H/1024^i%64)%64:Nat):Int)<32)==(ups.count ((8*i+j:Nat):Int)%2==0))=_;unfold Jr;have:decide ((((64+H/1024^j%64 - H/1024^i%64)%64:Nat):Int)<32)=decide ((64+H/1024^j%64 - H/1024^i%64)%64<32):=decide_eq_decide.mpr (by omega);rw[this]
end
end
end Internal.B
namespace Internal.B
section
open Internal.Z (lX AS Tn)
theorem adu(w):FV pw w (js w) (NS λ_=>none) 50:=U7 w (js w) (λ_=>none) (λ_ x=>x) (λh f p ds d _ e=>by cases e)
theorem R2(w)(r):dU pw w (js w) (Bu (r+50)) (Tn (λ_=>none) r):=IG (adu w) 30 60 20 r
def lb(wn:Nat->Nat->Bool)(j:Nat)(rows:List (List Nat))(i:Nat):List (List Nat):=if wn i j=true then rows.modify i (·++[j])else rows.modify j (·++[i])
def bIn(wn:Nat->Nat->Bool)(rows:List (List Nat))(j:Nat):List (List Nat):=(aM j).foldl (lb wn j) rows
def DS(wn:Nat->Nat->Bool)(n j:Nat):List (List Nat):=(aM j).foldl (bIn wn) (bh n [])
theorem Lh(rows:List (List Nat))(i j k c:Nat)(h:(rows.getD k []).length<=c):((rows.modify i (·++[j])).getD k []).length<=c+1:=by
 rw[br,w9];rw[br]at h;cases e:rows[k]? with
 |none=>simp
 |some r=>
  rw[e]at h;by_cases hk:i=k
  ·simp only[hk,if_pos];simp at h⊢;omega
  ·simp only[if_neg hk];simp at h⊢;omega
theorem R3(wn j)(rows:List (List Nat))(k c:Nat)(h:(rows.getD k []).length<=c):∀i,(((aM i).foldl (lb wn j) rows).getD k []).length<=c+i:=by
 intro i
 induction i with
 |zero=>exact h
 |succ i ih=>
  rw[dR,fN];show((lb wn j ((aM i).foldl (lb wn j) rows) i).getD k []).length<=_;unfold lb;split
  ·exact Lh _ _ _ _ _ ih
  ·exact Lh _ _ _ _ _ ih
theorem adv(wn n k):∀j,j<=6->((DS wn n j).getD k []).length<=6*j:=by
 intro j
 induction j with
 |zero=>
  intro _;show((bh n []).getD k []).length<=_;rw[br,rC];split<;>simp
 |succ j ih=>
  intro h;unfold DS;rw[dR,fN];have:=R3 wn j (DS wn n j) k _ (ih (by omega)) j;exact aq this (by omega)
section
variable{env:Env}{az s s':ah}{L al:Addr}{bs:List Addr}{m:Str->Option Value}{rows:List (List Nat)}{w:World}{A:aC}{E:Value->ah->Prop}
theorem MS.skip{h₀:Heap}{σ:cy}{n:Str}{v:Value}(ms:MS h₀ m σ)(h:look σ n=none):MS h₀ (λz=>if z=n then some v else m z) σ:=λk e he=>by
 obtain⟨u,h1,h2⟩:=ms k e he;exact⟨u,(if_neg (λz=>by rw[z,h]at he;cases he)).trans h1,h2⟩
theorem Wv{H n i j:Nat}{ups:List Int}{tj ti:Tok}{Q:Flow->ah->Prop}(f:BF env az.heap L al bs)(bu:Bu 54 A)(am:dz A (js w) az)(hn:n<=6)(hb:bs.length=n)(hi:i<n)(hj:j<n)(hr:∀k,(rows.getD k []).length<=1000)
(x:BS az L al bs m rows s)(ms:MS az.heap m (A0 (je H n) H (ups.map .int)))(h1:m "second"=some (.int j tj))(h2:m "first"=some (.int i ti))
(h:∀s' m',BS az L al bs m' (lb (Jr H ups) j rows i) s'->MS az.heap m' (A0 (je H n) H (ups.map .int))->m' "second"=some (.int j tj)->Upd (λa=>a=L\/a∈bs) s s'->Q .next s'):
 wpAny (model pw w) A (execs DR env) Q E s:=by
 have VO:de pw w (js w) (Bu 54) (dX (Tn (λ_=>none) 4) 31):=gw (R2 w 4) 31;have hA:AS (Tn (λ_=>none) 4):=Z.akx (prim:=λ_=>none) (λ_ _ _ _ _=>rfl) 1;have m2:MS az.heap m (A0 (je H n) H (ups.map .int)++([("second",.int j),("first",.int i)]:cy)):=λk e he=>by
  rcases mz _ _ he with q|q
  ·exact ms k e q
  ·unfold look at q
   split at q
   ·rename_i hk
    subst hk;cases q;exact⟨_,h1,fA⟩
   ·unfold look at q
    split at q
    ·rename_i hk
     subst hk;cases q;exact⟨_,h2,fA⟩
    ·cases q
 have y:=GP f x.F m2;have jr:=f.FR;rw[adt];refine aS (se (ai (bw x.tk (VO.d A _ env _ _ s _ _ bu (am.keeps x.kp x.tk) y (by rw[jr];exact akD hA (ups.map .int) hi hj hn))) (λv s1 q=>?_) λ_ _ e=>e) (by rw[nL y.fn,jr,Jq.1]));obtain⟨t1,k1,r1⟩:=q;obtain⟨ta,rfl⟩:=r1.int;refine(x.keeps k1 t1).store f (by decide) (by decide) λs2 x2 u2=>?_;obtain⟨ahead,hah⟩:∃a,a=(64+H/1024^j%64 - H/1024^i%64)%64:=⟨_,rfl⟩;rw[<-hah]at x2;have m3:MS az.heap (λz=>if z="ahead" then some (.int (ahead:Nat) ta)else m z) (A0 (je H n) H (ups.map .int)++([("second",.int j),("first",.int i),("ahead",.int (ahead:Nat))]:cy)):=by
  have:=m2.put (n:="ahead") (d:=.int (ahead:Nat)) (v:=.int (ahead:Nat) ta) fA;exact this
 have mS:MS az.heap (λz=>if z="ahead" then some (.int (ahead:Nat) ta)else m z) (A0 (je H n) H (ups.map .int)):=ms.skip rfl;have g1:(λz=>if z=("ahead":Str)then some (Dz (ahead:Nat) ta)else m z) "second"=some (.int j tj):=h1;have g2:(λz=>if z=("ahead":Str)then some (Dz (ahead:Nat) ta)else m z) "first"=some (.int i ti):=h2;generalize (λz=>if z=("ahead":Str)then some (Dz (ahead:Nat) ta)else m z)=m' at x2 m3 mS g1 g2;have y2:=GP f x2.F m3;refine aS (A8 (ai (bw x2.tk (VO.b A E env _ _ s2 _ _ bu (am.keeps x2.kp x2.tk) y2 (by rw[jr,hah];exact Rb (je H n) (ups.map .int) (by omega) (by omega)))) (λb s3 q=>?_) λ_ _ e=>e));obtain⟨t3,rfl,k3⟩:=q;rw[if_neg aF];refine dJ ?_;have x3:=x2.keeps k3 t3;have y3:=GP f x3.F m3;refine aS (A8 (ai (bw x3.tk (VO.b A E env _ _ s3 _ _ bu (am.keeps x3.kp x3.tk) y3 (by rw[jr,hah];exact akE (je H n) ups (by omega) (by omega)))) (λb s4 q=>?_) λ_ _ e=>e));obtain⟨t4,rfl,k4⟩:=q;have x4:=x3.keeps k4 t4;have u4:Upd (λa=>a=L\/a∈bs) s s4:=((Upd.of k1).trans (u2.more λa q=>.inl q)).trans ((Upd.of k3).trans (Upd.of k4));have fin:∀s5,BS az L al bs m' (lb (Jr H ups) j rows i) s5->Upd (λa=>a∈bs) s4 s5->wpAny (model pw w) A (execs [] env) Q E s5:=λs5 x5 u5=>
  dJ (h s5 m' x5 mS g1 (u4.trans (u5.more λa q=>.inr q)))
 unfold lb at fin;cases hw:Jr H ups i j with
 |true=>
  rw[hw,if_pos rfl]at fin;rw[if_pos rfl];exact aS (R1 f x4 (by decide) (by decide) g2 g1 (by omega) (by omega) (hr i) Lg.1 λs5 x5 u5=>dJ (fin s5 x5 u5))
 |false=>
  rw[hw,if_neg aF]at fin;rw[if_neg aF];exact aS (R1 f x4 (by decide) (by decide) g1 g2 (by omega) (by omega) (hr j) Lg.2 λs5 x5 u5=>dJ (fin s5 x5 u5))
end
end
end Internal.B
end
section
namespace Internal.B
open Internal.V (As lit NY fM)
def Dt(wn:Nat->Nat->Bool)(k x:Nat):Bool:=(x != k)&&(if k<x then wn k x else !wn x k)
def R4(wn:Nat->Nat->Bool)(j i k:Nat):List Nat:=
 if k<j then(aM j).filter (Dt wn k)++(if k<i/\wn k j=true then[j]else[])else if k=j then(aM i).filter (λx=> !wn x j)else[]
theorem adw(wn j)(rows:List (List Nat))(h0:∀k,k<rows.length->rows.getD k []=if k<j then(aM j).filter (Dt wn k)else[])(hj:j<rows.length):∀i,i<=j->
 ((aM i).foldl (lb wn j) rows).length=rows.length/\∀k,k<rows.length->((aM i).foldl (lb wn j) rows).getD k []=R4 wn j i k:=by
 intro i
 induction i with
 |zero=>
  intro _;refine⟨rfl,λk hk=>?_⟩;show rows.getD k []=_;rw[h0 k hk];unfold R4;by_cases h:k<j
  ·rw[if_pos h,if_pos h,if_neg (by omega),c9]
  ·rw[if_neg h,if_neg h]
   split<;>simp
 |succ i ih=>
  intro hi;obtain⟨i1,i2⟩:=ih (by omega);rw[dR,fN];generalize (aM i).foldl (lb wn j) rows=R at i1 i2;show(lb wn j R i).length=_/\∀k,_->(lb wn j R i).getD k []=_;unfold lb;cases hw:wn i j with
  |true=>
   rw[if_pos rfl];refine⟨by rw[Am];exact i1,λk hk=>?_⟩;rw[zU R i j k (by omega),i2 i (by omega),i2 k hk];unfold R4;by_cases e:k=i
   ·subst e
    have hkj:k<j:=by omega
    rw[if_pos rfl,if_pos hkj,if_pos hkj,if_neg (show¬(k<k/\wn k j=true) fromλq=>dS _ q.1),if_pos ⟨d6 k,hw⟩,c9]
   ·rw[if_neg e]
    by_cases h:k<j
    ·rw[if_pos h,if_pos h]
     congr 1;by_cases h2:k<i/\wn k j=true
     ·rw[if_pos h2,if_pos ⟨by omega,h2.2⟩]
     ·rw[if_neg h2,if_neg (λq=>h2 ⟨by omega,q.2⟩)]
    ·rw[if_neg h,if_neg h]
     by_cases h2:k=j
     ·rw[if_pos h2,if_pos h2,dR,eD]
      simp[hw]
     ·rw[if_neg h2,if_neg h2]
  |false=>
   rw[if_neg aF];refine⟨by rw[Am];exact i1,λk hk=>?_⟩;rw[zU R j i k (by omega),i2 j hj,i2 k hk];unfold R4;by_cases e:k=j
   ·subst e
    rw[if_pos rfl,if_neg (dS _),if_pos rfl,if_neg (dS _),if_pos rfl,dR,eD];simp[hw]
   ·rw[if_neg e]
    by_cases h:k<j
    ·rw[if_pos h,if_pos h]
     congr 1;by_cases h2:k<i/\wn k j=true
     ·rw[if_pos h2,if_pos ⟨by omega,h2.2⟩]
     ·rw[if_neg h2,if_neg]
      intro q;by_cases h3:k=i
      ·rw[h3,hw]at q;exact absurd q.2 aF
      ·exact h2 ⟨by omega,q.2⟩
    ·rw[if_neg h,if_neg h,if_neg e,if_neg e]
theorem Ww(wn n):∀j,j<=n->(DS wn n j).length=n/\∀k,k<n->(DS wn n j).getD k []=if k<j then(aM j).filter (Dt wn k)else[]:=by
 intro j
 induction j with
 |zero=>
  intro _;refine⟨gq,λk hk=>?_⟩;show(bh n []).getD k []=_;rw[br,rC,if_pos hk];rfl
 |succ j ih=>
  intro hj;obtain⟨i1,i2⟩:=ih (by omega);have e:DS wn n (j+1)=(aM j).foldl (lb wn j) (DS wn n j):=by
   unfold DS;rw[dR,fN];rfl
  obtain⟨q1,q2⟩:=adw wn j (DS wn n j) (λk hk=>i2 k (by rw[i1]at hk;exact hk)) (by rw[i1];omega) j (cf _);rw[e];refine⟨q1.trans i1,λk hk=>?_⟩;rw[q2 k (by rw[i1];exact hk)];unfold R4;by_cases h:k<j
  ·rw[if_pos h,if_pos (show k<j+1 by omega),dR,eD]
   congr 1;have:Dt wn k j=wn k j:=by unfold Dt;rw[if_pos h,(bne_iff_ne (a:=j) (b:=k)).mpr (by omega)];rfl
   rw[dq,List.filter_nil,this];by_cases h2:wn k j=true
   ·rw[if_pos ⟨h,h2⟩,if_pos h2]
   ·rw[if_neg (λq=>h2 q.2),if_neg h2]
  ·rw[if_neg h]
   by_cases h2:k=j
   ·subst h2
    rw[if_pos rfl,if_pos (d6 k),dR,eD];have:Zd (Dt wn k) [k]=[]:=by simp[Dt]
    rw[this,c9];apply ll;intro x hx;have hx:=cQ.mp hx;unfold Dt;rw[if_neg (by omega),(bne_iff_ne (a:=x) (b:=k)).mpr (by omega)];rfl
   ·rw[if_neg h2,if_neg (show¬k<j+1 by omega)]
def aWp(k:Nat):Option (Nat×Nat):=((aM 6).flatMap λj=>(aM j).map λi=>(i,j)).find? λp=>p.2*(p.2 - 1)/2+p.1==k
def aW(wn:Nat->Nat->Bool)(k:Nat):Bool:=((aWp k).map λp=>wn p.1 p.2).getD false
theorem adx:∀j,j<6->∀i,i<j->aWp (j*(j - 1)/2+i)=some (i,j):=by decide
theorem Y3(wn):∀j,j<6->∀i,i<j->aW wn (j*(j - 1)/2+i)=wn i j:=λj hj i hi=>by
 unfold aW;rw[adx j hj i hi];rfl
theorem akF(wn:Nat->Nat->Bool)(n)(hn:n<=6):DS wn n n=fM (aW wn) n:=by
 obtain⟨q1,q2⟩:=Ww wn n n (cf _);apply amT
 ·rw[q1];unfold fM;rw[aj,b8]
 ·intro k h1 h2
  have hk:k<n:=by omega
  have:=q2 k hk;rw[br,bC h1,Cb,if_pos hk]at this;rw[this];have e3:(fM (aW wn) n)[k]=(aM n).filter λj=>(j != k)&&lit (aW wn) (NY k j):=by
   have:=Internal.V.qM (aW wn) n hk;rw[br,bC h2,Cb]at this;exact this
  rw[e3];apply ll;intro x hx;have hx:=cQ.mp hx;unfold Dt;by_cases e:x=k
  ·subst e;simp
  ·rw[(bne_iff_ne (a:=x) (b:=k)).mpr e,Bool.true_and,Bool.true_and]
   unfold lit NY;by_cases h:k<x
   ·rw[if_pos h,if_pos h]
    dsimp only;have h6:x<6:=by omega
    rw[Y3 wn x h6 k h];cases wn k x<;>rfl
   ·rw[if_neg h,if_neg h]
    dsimp only;have h6:k<6:=by omega
    have h7:x<k:=by omega
    rw[Y3 wn k h6 x h7];cases wn x k<;>rfl
end Internal.B
namespace Internal.V
open Internal.Z (pn)
def dy(r p:Nat):List Nat:=[1,r,p].take (if p≠0 then 3 else if r≠0 then 2 else 1)
theorem GR(w r p)(h:r=0->p=0):pn w (dy r p)=1+r*2^w+p*(2^w*2^w):=by
 unfold dy;by_cases hp:p=0
 ·subst hp
  by_cases hr:r=0
  ·subst hr;simp[pn]
  ·simp[hr,pn,eW]
 ·simp[hp,pn,mY,eW,Sq,Ak,amZ]
theorem Js(w r p)(hw:8<=w)(hr:r<254)(hp:p<254):∀d∈dy r p,d<2^w:=by
 intro d hd;have h8:2^8<=2^w:=bO (by decide) hw;have:=Zb hd;simp at this;rcases this with h|h|h<;>omega
theorem Du(r p):(dy r p).getLastD 1≠0:=by
 unfold dy;by_cases hp:p=0
 ·subst hp
  by_cases hr:r=0
  ·subst hr;simp
  ·simp[hr]
 ·simp[hp]
theorem R5(b r p:Nat)(hb:2<=b):1+r*b+p*(b*b)=(1+2*r+4*p)+(b - 2)*(r+p*(b+2)):=by
 obtain⟨c,rfl⟩:∃c,b=c+2:=⟨b - 2,by omega⟩
 rw[Nat.add_sub_cancel];simp only[mY,Hr,eW,amZ];omega
end Internal.V
end
section
open PySem PySem.W PyProof.Rows
namespace Internal.Z
section
def lK:bY:=uv "law"
def lB:List Stmt:=bo "law"
section
variable{T:ek}
def tw:D:=((dX NV 31).d lK [] (bj (ak 0 lB))).getD .none
def mI:List Int:=KG tw
theorem Wx:tw=.lst (mI.map .int):=by rfl'
theorem GS:mI.length=4:=by rfl'
theorem Wy:mI.all (λx=>decide (0<=x))=true:=by rfl'
abbrev kS(cN:List D)(zV:D):cy:=[("script",.lst cN),("owns",zV)]
def zW:ae:=bj (ak 1 lB)
def Jt:ae:=pj 0 (IL (ajh zW))
abbrev zX:Int:=1000000000000000000000000000000000
theorem k_in(cN zV)(p t):iM (dX T 27) (oE (kS cN (.lst zV)) (.int p) zW) Jt (.int t)=((fU (.lst cN) t).bind λd=>aE .Mod d (.int zX)).map λd=>[d]:=by rfl'
theorem akG(cN zV)(p):cOk (QI zW) (oE (kS cN (.lst zV)) (.int p) zW) Jt=true:=by rfl'
theorem akH(cN zV)(p):(dX T 27).d (QI zW) (oE (kS cN (.lst zV)) (.int p) zW) (ql Jt)=
 ((((((cM .len [.lst cN]).bind λd=>some [d]).bind λds=>some (.int 60::ds)).bind λds=>cM .min ds).bind λm=>some [m,.int 4]).bind λds=>some (.int p::ds)).bind λds=>cM .range ds:=by rfl'
theorem akI(cN zV)(p):iM (dX T 30) (kS cN (.lst zV)) zW (.int p)=
 ((fU (.lst zV) p).bind λa=>((((dX T 28).d (QI zW) (oE (kS cN (.lst zV)) (.int p) zW) Jt).bind λd=>some [d]).bind λds=>cM .sum ds).bind λb=>aE .Add a b).map λd=>[d]:=by rfl'
theorem ud(c):∀(n:Nat)(a:Int),kY a c n=(aM n).map λi=>D.int (a+c*(i:Nat)):=by
 intro zx
 induction zx with
 |zero=>
  rintro _;exact rfl
 |succ n ih=>
  rintro a;rw[kY,ih,S2,bJ,eU];congr 1
  ·simp
  ·apply aeb
   intro i _;show D.int (a+c+c*(i:Int))=D.int (a+c*((i+1:Nat):Int));congr 1;push_cast;rw[aeh];omega
theorem Wz(p m:Nat)(hp:p<=3)(hm:m<=60):∃N,items (.og p m 4)=some ((aM N).map λi=>D.int ((p:Int)+4*(i:Nat)))/\N<=60/\∀i,i<N->p+4*i<m:=by
 have all:∀p:Nat,p<4->∀m:Nat,m<61->kx p m 4=true/\iQ p m 4<=60/\∀i:Nat,i<iQ p m 4->p+4*i<m:=by decide
 obtain⟨DJ,h1,h2⟩:=all p (DG hp) m (DG hm);refine⟨iQ p m 4,?_,h1,h2⟩;rw[E1,if_pos DJ,ud]
theorem ady(a b):cM .range [.int a,.int b,.int 4]=some (.og a b 4):=by
 show(if(4:Int)≠0/\sm 4=true then some (D.og a b 4)else none)=_;rw[if_pos ⟨by decide,kH (by decide) (by decide)⟩]
theorem ar8(a b):cM .min [.int a,.int b]=some (.int (if b<a then b else a)):=rfl
theorem WA{l:List Int}:cM .sum [.lst (l.map .int)]=some (.int l.sum):=by
 show(gO (l.map .int)).map (λns=>D.int ns.sum)=_;rw[zk];rfl
theorem k_one(cN:List Int)(hl:cN.length<=63)(p:Nat)(hp:p<=3):∃h:Nat,iM (dX T 30) (kS (cN.map .int) (.lst (mI.map .int))) zW (.int p)=some [di h]:=by
 have f9:=ei;have hpl:p<mI.length:=by rw[GS];omega
 obtain⟨m,hm⟩:∃m,m=min 60 cN.length:=⟨_,rfl⟩;obtain⟨N,hN,aym,hNi⟩:=Wz p m hp (by omega);have akJ:(dX T 27).d (QI zW) (oE (kS (cN.map .int) (.lst (mI.map .int))) (.int p) zW) (ql Jt)=some (.og p m 4):=by
  have l1:cM .len [.lst (cN.map D.int)]=some (.int (cN.map D.int).length):=mA (by rw[aj];omega);rw[akH,l1,ag,ag,ag,aj];have:cM .min [.int 60,.int (cN.length:Int)]=some (.int (m:Int)):=by
   have h2:(if(cN.length:Int)<60 then(cN.length:Int)else 60)=(m:Int):=by split<;>omega
   rw[ar8,h2]
  rw[this,ag,ag,ag,ady]
 have e:=iw (T:=T) (V:=dX T 27) (ks:=QI zW) (σ:=oE (kS (cN.map .int) (.lst (mI.map .int))) (.int p) zW) (e:=Jt) (d:=.og p m 4) (φ:=λi:Nat=>D.int ((p:Int)+4*(i:Nat))) (xs:=aM N) (g:=λi=>[D.int ((cN.getD (p+4*i) 0).fmod zX)])
  (akG ..) akJ hN (λi hi=>?_) (by rw[eV,aj,b8];omega)
 ·rw[eV]at e
  obtain⟨ns,Cv⟩:∃ns,ns=(aM N).map λi=>(cN.getD (p+4*i) 0).fmod zX:=⟨_,rfl⟩
  have e2:((aM N).map λi=>D.int ((cN.getD (p+4*i) 0).fmod zX))=ns.map .int:=by rw[Cv,eU];rfl
  rw[e2]at e;have hnn:0<=ns.sum:=by
   have:∀x∈ns,0<=x:=λx hx=>by
    rw[Cv]at hx;obtain⟨i,_,rfl⟩:=Lv hx;exact Int.fmod_nonneg_of_pos _ (by decide)
   clear e2 e Cv;induction ns with
   |nil=>simp
   |cons a l ih=>
    rw[qU];have h1:=this a (aA ..);have h2:=ih λx hx=>this x (aD _ hx);omega
  have ho:0<=mI[p]:=by
   have:=aw.mp Wy _ (ib hpl);simpa using this
  refine⟨(mI[p]+ns.sum).toNat,?_⟩;have g1:fU (.lst (mI.map D.int)) (p:Int)=some (.int mI[p]):=jt hpl (by rw[GS];decide);rw[akI,g1,ag];rw[show(dX T 28).d (QI zW) (oE (kS (cN.map .int) (.lst (mI.map .int))) (.int p) zW) Jt=some (.lst (ns.map .int))from e,ag,ag,WA,ag];show some [D.int (mI[p]+ns.sum)]=some [D.int (((mI[p]+ns.sum).toNat:Nat):Int)];rw[Aa (by omega)]
 ·have hi:=hNi i (cQ.mp hi)
  have h4:p+4*i<cN.length:=by omega
  have e4:(p:Int)+4*(i:Int)=((p+4*i:Nat):Int):=by push_cast;rfl
  have g2:fU (.lst (cN.map D.int)) ((p+4*i:Nat):Int)=some (.int cN[p+4*i]):=jt h4 (by omega);rw[k_in,e4,g2,ag];show(dG (if zX≠0 then some (D.int (cN[p+4*i].fmod zX))else none) none).map _=_;have d4:cN.getD (p+4*i) 0=cN[p+4*i]:=oG h4;have b0:zX≠0:=by decide
  rw[if_pos b0,d4];rfl
theorem akK{a b c d:Option (List D)}{x y z w:D}(ha:a=some [x])(hb:b=some [y])(hc:c=some [z])(hd:d=some [w]):
 (a.bind λa=>(b.bind λb=>(c.bind λc=>(d.bind λd=>(some []).bind λe=>some (d++e)).bind λx=>some (c++x)).bind λx=>some (b++x)).bind λx=>some (a++x))=some [x,y,z,w]:=by
 subst ha hb hc hd;rfl
theorem WB(cN:List Int)(hl:cN.length<=63):∃h0 h1 h2 h3:Nat,(dX T 31).d lK (kS (cN.map .int) tw) zW=some (dl [h0,h1,h2,h3]):=by
 have f9:=ei;obtain⟨h0,e0⟩:=k_one (T:=T) cN hl 0 (by decide);obtain⟨h1,e1⟩:=k_one (T:=T) cN hl 1 (by decide);obtain⟨h2,e2⟩:=k_one (T:=T) cN hl 2 (by decide);obtain⟨h3,e3⟩:=k_one (T:=T) cN hl 3 (by decide);refine⟨h0,h1,h2,h3,?_⟩;rw[Wx];refine zf (d:=.og 0 4 1) (ds:=[.int 0,.int 1,.int 2,.int 3]) (by rfl') (by rfl') (by rfl') ?_ (by rw[f9];show(4:Nat)<=1048576;decide);show((iM _ _ zW (.int ((0:Nat):Int))).bind λa=>((iM _ _ zW (.int ((1:Nat):Int))).bind λb=>((iM _ _ zW (.int ((2:Nat):Int))).bind λc=>((iM _ _ zW (.int ((3:Nat):Int))).bind λd=>(some []).bind λe=>some (d++e)).bind λx=>some (c++x)).bind λx=>some (b++x)).bind λx=>some (a++x))=_;exact akK e0 e1 e2 e3
end
end
section
section
variable{T:ek}
theorem WC(n:Nat)(l:List Int):cmp .NotEq (.lst (l.map .int)) (.lst (l.map .int))=some false:=by
 show(dG (if(l.map D.int).length=(l.map D.int).length then sq (rH 39) (l.map .int) (l.map .int)else some false) _).map (λx=> !x)=_;rw[if_pos rfl,zy];rfl
theorem WD{n:Nat}(h:n<=30):aE .Pow (.int 2) (.int n)=some (.int (2^n:Nat)):=sW (a:=2) (by decide) (aq h (by decide))
end
end
end Internal.Z
end
section
set_option exponentiation.threshold 2000
namespace Internal.Z
theorem adz(n)(x):∀l:List Nat,2^(n*l.length)*x<=pn n (l++[x]):=by
 intro zx
 induction zx with
 |nil=>
  simp[pn]
 |cons y l ih=>
  have ih:=ih;rw[cE,pn,bE,lF,jD (n*l.length) n,iD,Sq];have:=c7 (2^n) ih;omega
theorem WE(h:2^k<=x):k+1<=jh x:=by
 unfold jh;have:x≠0:=by have:=fg (a:=2) (n:=k) (by decide);omega
 rw[if_neg this];have:=(Nat.le_log2 this).mpr h;omega
theorem WG(hn:0<n)(l)(x)(hx:0<x)(h:∀d∈l++[x],d<2^n):fL n (pn n (l++[x]))=l++[x]:=by
 have h1:=QQ n (l++[x]) h;have h2:2^(n*l.length)<=pn n (l++[x]):=aq (S5 _ hx) (adz n x l);have b1:=ki h1;have b2:=WE h2;have hl:(l++[x]).length=l.length+1:=by simp
 have hc:pJ n (pn n (l++[x]))=(l++[x]).length:=by
  unfold pJ;rw[hl]at b1⊢;rw[lF]at b1;generalize jh (pn n (l++[x]))=b at b1 b2;exact Nat.div_eq_of_lt_le (by rw[Xh,eW];omega) (by rw[Xh,Xh,eW];omega)
 unfold fL;rw[hc];exact I8 n _ h
end Internal.Z
end
section
open PySem PySem.W PyProof.Rows
namespace Internal.Z
open Internal.V
theorem adA:∀(xs:List Int)(s:US),0<=s.before->(∀x∈s.ups,0<=x)->∀x∈(xs.foldl jV s).ups,0<=x:=by
 intro xs
 induction xs with
 |nil=>intro s _ h;exact h
 |cons y ys ih=>
  intro s h1 h2;rw[kn];refine ih (jV s y) ?_ ?_
  ·unfold jV
   split
   ·exact h1
   ·split
    ·dsimp only;omega
    ·dsimp only;omega
  ·unfold jV
   split
   ·exact h2
   ·split
    ·intro z hz
     dsimp only at hz;rcases fR.mp hz with hz|hz
     ·exact h2 z hz
     ·rw[aY.mp hz];unfold VL;omega
    ·exact h2
theorem WH{x:Int}{xs:List Int}(h:256<=x):∀z∈((x::xs).foldl jV ⟨[],-1,0⟩).ups,0<=z:=by
 rw[kn];have e:jV ⟨[],-1,0⟩ x=⟨[],x - 256,0⟩:=by
  unfold jV;rw[if_neg (by omega),if_neg (λq=>absurd q.1 (by decide))]
 rw[e];exact adA xs _ (by dsimp only;omega) (λz hz=>nomatch hz)
theorem adB(y:Int)(l:List Int)(h:∀z∈l,z≠y):cmp .In (.int y) (.lst (l.map .int))=some false:=by
 have:cmp .In (.int y) (.lst (l.map .int))=some (decide (y∈l)):=MP y l;rw[this,decide_eq_false λq=>h y q rfl]
def N0(L:List Nat):List Nat:=(aM L.length).flatMap λj=>(L.take j).filter λx=>ig (L.getD j 0) x==0
theorem pairs_len:∀L:List Nat,(N0 L).length=(gY apart L).length:=by
 have step:∀(L:List Nat)(y:Nat),(gY apart (L++[y])).length=(gY apart L).length+(L.filter λx=>apart x y).length:=by
  intro L y
  induction L with
  |nil=>rfl
  |cons x t ih=>
   rw[cE,gY,gY,aG,aG,ih,aj,aj,eD,aG,dq,dq];cases apart x y<;>simp<;>omega
 intro L
 induction L using zt with
 |h0=>rfl
 |h1 L y ih=>
  rw[step,<-ih];unfold N0;rw[aG,tW,dR,aek,aG];have e1:((aM L.length).flatMap λj=>((L++[y]).take j).filter λx=>ig ((L++[y]).getD j 0) x==0)=(aM L.length).flatMap λj=>(L.take j).filter λx=>ig (L.getD j 0) x==0:=by
   refine zI _ _ _ λj hj=>?_;have hj:=cQ.mp hj;rw[G9 (cA hj),br,List.getElem?_append_left hj,<-br]
  rw[e1];refine congrArg (_+·) ?_;rw[List.flatMap_singleton,Lr,br,List.getElem?_append_right (cf _),Nat.sub_self];refine congrArg qv (ll λx _=>?_);show(y &&& x==0)=(x &&& y==0)
  rw[Nat.and_comm]
theorem R6(a:As){n:Nat}(h:n<=6):Tb (fM a n) n where
 ln:=by unfold fM;rw[aj,b8]
 n6:=h
 SP i:=by
  by_cases hi:i<n
  ·rw[qM a n hi]
   exact aq (tU ..) (by rw[b8];exact h)
  ·unfold fM
   rw[br,iV (by rw[aj,b8];omega)];exact dk _
 rows m h1 row hr:=by
  rw[zL]at hr;have hr:=(gC.mp hr).1;exact⟨(qo m n row hr).1,(wW m n row hr).2,(qo m n row hr).2⟩
theorem akL(a:As){n:Nat}(h:n=4\/n=5\/n=6):RU (fM a n) n=kX a n:=by
 rw[Na];rcases h with rfl|rfl|rfl
 ·show[]++ix (fM a 4) 3=_
  rw[if_neg (by decide),iO,c9]
 ·show([]++ix (fM a 5) 3)++ix (fM a 5) 5=_
  rw[if_pos (by decide),iO]
 ·show([]++ix (fM a 6) 3)++ix (fM a 6) 5=_
  rw[if_pos (by decide),iO]
end Internal.Z
namespace Internal.B
section
open Internal.Z (lX AS Tn)
theorem Upd.Nn(u:Upd (λa=>G a\/s.heap.get? a=none) s s'):Upd G s s':=by
 obtain⟨h,tk,e,k⟩:=u;exact⟨h,tk,e,λb o nb e=>k b o (λq=>q.elim nb λz=>by rw[z]at e;cases e) e⟩
section
variable{env:Env}{az s s':ah}{L al:Addr}{bs:List Addr}{m:Str->Option Value}{rows:List (List Nat)}{w:World}{A:aC}{E:Value->ah->Prop}
theorem BS.low(x:BS az L al bs m rows s):(s.heap.get? L).isSome=true/\(s.heap.get? al).isSome=true/\∀b∈bs,(s.heap.get? b).isSome=true:=by
 refine⟨(zT x.F).2,by rw[x.ol];rfl,λb hb=>?_⟩;obtain⟨i,hi,e⟩:=aee hb;obtain⟨vs,n,h1,_⟩:=x.SP i b (by rw[bC hi,e]);rw[show s.heap.get? b=some _ from h1];rfl
theorem BS.Y4{I:Addr}(f:BF env az.heap L al bs)(x:BS az L al bs m rows s)(y:BS az L al bs m' ava s1)(hI:s1.heap.get? I=none)(u:Upd (λa=>a=I) s s')(t:1<=s'.toks):BS az L al bs m rows s':=by
 obtain⟨h1,h2,h3⟩:=y.low;exact x.iter f u t (J1 (Keeps.all y.kp) hI) (λz=>nS hI (z▸h1)) (λz=>nS hI (z▸h2)) (λb hb z=>nS hI (z▸h3 b hb))
theorem BS.bg(f:BF env az.heap L al bs)(x:BS az L al bs m rows s){a:Addr}(h:a=L\/a∈bs):BG az.heap s.heap a:=by
 obtain⟨h1,h2,h3⟩:=x.low;rcases h with rfl|h
 ·exact⟨(zT x.F).1,h1⟩
 ·exact⟨(f.nb a h).2.1,h3 a h⟩
theorem zc{H n j:Nat}{ups:List Int}{tj:Tok}{it:ae}{p1 p2:Pos}{Q:Flow->ah->Prop}(hit:it=bj bI)(f:BF env az.heap L al bs)(bu:Bu 54 A)(am:dz A (js w) az)(hn:n<=6)(hb:bs.length=n)(hj:j<n)(hr:∀k,(rows.getD k []).length<=100)
(x:BS az L al bs m rows s)(ms:MS az.heap m (A0 (je H n) H (ups.map .int)))(h1:m "second"=some (.int j tj))
(h:∀s' m',BS az L al bs m' (bIn (Jr H ups) rows j) s'->MS az.heap m' (A0 (je H n) H (ups.map .int))->Upd (λa=>a=L\/a∈bs) s s'->Q .next s'):
 wpAny (model pw w) A (exec (.For (.Name "first" p1) it DR [] p2) env) Q E s:=by
 subst hit;have VO:de pw w (js w) (Bu 54) (dX (Tn (λ_=>none) 4) 31):=gw (R2 w 4) 31;have m2:MS az.heap m (A0 (je H n) H (ups.map .int)++([("second",.int j)]:cy)):=λk e he=>by
  rcases mz _ _ he with q|q
  ·exact ms k e q
  ·unfold look at q
   split at q
   ·rename_i hk
    subst hk;cases q;exact⟨_,h1,fA⟩
   ·cases q
 have adC:=kc j (by rw[ei];omega);have hlen:((aM j).map di).length=j:=by rw[aj,b8]
 refine R0 (K:=λi s1=>∃m',BS az L al bs m' ((aM i).foldl (lb (Jr H ups) j) rows) s1/\MS az.heap m' (A0 (je H n) H (ups.map .int))/\m' "second"=some (.int j tj)/\Upd (λa=>(a=L\/a∈bs)\/s.heap.get? a=none) s s1)
  VO bu (am.keeps x.kp x.tk) (GP f x.F m2) Jq.2.2 (by rw[f.FR,akC];rfl) adC (λi s1 q=>?_) (λs1 k1 t1=>⟨m,x.keeps k1 t1,ms,h1,Upd.of k1⟩) (λi I s1 s2 hI _ u t q=>?_) (λi hi s1 v E' q r=>?_) (λs1 q=>?_)
 ·obtain⟨_,q,_⟩:=q;exact q.tk
 ·obtain⟨m',q1,q2,q3,q4⟩:=q
  exact⟨m',q1.Y4 f x hI u t,q2,q3,q4.trans (u.more λa z=>.inr (z▸hI))⟩
 ·obtain⟨m',q1,q2,q3,q4⟩:=q
  rw[hlen]at hi;rw[am8,An]at r;obtain⟨ti,rfl⟩:=r.int;refine g7 (q1.store f (by decide) (by decide) λs2 x2 u2=>?_);refine Wv (i:=i) (j:=j) (tj:=tj) (ti:=ti) f bu am hn hb (by omega) hj (λk=>aq (R3 _ _ _ _ _ (hr k) i) (by omega)) x2 (q2.skip rfl) ?_ ?_ λs3 m3 x3 ms3 g1 u3=>⟨rfl,⟨m3,?_,ms3,g1,?_⟩,?_⟩
  ·exact q3
  ·rfl
  ·rw[dR,fN];exact x3
  ·exact q4.trans ((u2.more λa z=>.inl (.inl z)).trans (u3.more λa z=>.inl z))
  ·exact(u2.more λa z=>x.bg f (.inl z)).trans (u3.more λa z=>x.bg f z)
 ·obtain⟨m',q1,q2,q3,q4⟩:=q
  rw[hlen]at q1;exact h s1 m' q1 q2 (Upd.Nn q4)
theorem R7{H n:Nat}{ups:List Int}{it it2:ae}{p1 p2 p3 p4:Pos}{Q:Flow->ah->Prop}(hit:it=bj bF2)(adC:it2=bj bI)(f:BF env az.heap L al bs)(bu:Bu 54 A)(am:dz A (js w) az)(hn:n<=6)(hb:bs.length=n)
(x:BS az L al bs m (bh n []) s)(ms:MS az.heap m (A0 (je H n) H (ups.map .int)))
(h:∀s' m',BS az L al bs m' (DS (Jr H ups) n n) s'->Q .next s'):
 wpAny (model pw w) A (exec (.For (.Name "second" p1) it [.For (.Name "first" p3) it2 DR [] p4] [] p2) env) Q E s:=by
 subst hit;have VO:de pw w (js w) (Bu 54) (dX (Tn (λ_=>none) 4) 31):=gw (R2 w 4) 31;have asa:=kc n (by rw[ei];omega);have hlen:((aM n).map di).length=n:=by rw[aj,b8]
 refine R0 (K:=λj s1=>∃m',BS az L al bs m' (DS (Jr H ups) n j) s1/\MS az.heap m' (A0 (je H n) H (ups.map .int)))
  VO bu (am.keeps x.kp x.tk) (GP f x.F ms) Jq.2.1 (d:=.og 0 n 1) ?_ asa (λi s1 q=>?_) (λs1 k1 t1=>⟨m,x.keeps k1 t1,ms⟩) (λi I s1 s2 hI _ u t q=>?_) (λj hj s1 v E' q r=>?_) (λs1 q=>?_)
 ·rw[f.FR,akB,mA (by unfold je;rw[aj,b8,ei];omega)]
  unfold je;rw[aj,b8];rfl
 ·obtain⟨_,q,_⟩:=q;exact q.tk
 ·obtain⟨m',q1,q2⟩:=q
  exact⟨m',q1.Y4 f x hI u t,q2⟩
 ·obtain⟨m',q1,q2⟩:=q
  rw[hlen]at hj;rw[am8,An]at r;obtain⟨tj,rfl⟩:=r.int;refine g7 (q1.store f (by decide) (by decide) λs2 x2 u2=>?_);refine aS (zc (j:=j) (tj:=tj) adC f bu am hn hb hj (λk=>aq (adv _ _ k j (by omega)) (by omega)) x2 (q2.skip rfl) rfl λs3 m3 x3 ms3 u3=>?_);refine dJ ⟨rfl,⟨m3,?_,ms3⟩,?_⟩
  ·unfold DS at x3⊢
   rw[dR,fN];exact x3
  ·exact(u2.more λa z=>x.bg f (.inl z)).trans (u3.more λa z=>x.bg f z)
 ·obtain⟨m',q1,_⟩:=q
  rw[hlen]at q1;exact h s1 m' q1
end
end
end Internal.B
namespace Internal.B
open Internal.Z (lX AS Tn)
def iI:tK:=(iG.find? (λd=>d.name==("_law_beaten":Str))).getD ⟨("":Str),default,[],default,default⟩
theorem GU:(iG.find? (λd=>d.name==("_law_beaten":Str))).isSome=true/\iI.params.args.map (·.arg)=(["told","heap","upsets"]:List Str)/\iI.name=("_law_beaten":Str)/\iI.body=bB/\iI.scope.names=bK:=⟨by rfl',by rfl',by rfl',by rfl',by rfl'⟩
theorem GV:iI∈iG:=by
 obtain⟨d,hd⟩:=ay.mp GU.1;have e:iI=d:=by unfold iI;rw[hd];rfl
 rw[e];exact d8 hd
theorem zY:iI.params.args.map (·.arg)=(["told","heap","upsets"]:List Str)/\iI.name=("_law_beaten":Str)/\iI.body=bB/\iI.scope.names=bK:=GU.2
theorem WI{h:Heap}{F:Addr->Prop}:∀(rows:List (List Nat))(bs:List Addr),rows.length=bs.length->(∀i b,bs[i]? =some b->Acc (λ_=>False) h b ((rows.getD i []).map di)/\¬F b)->aZ h F (rows.map Z.dl) (bs.map .ref):=by
 intro rows
 induction rows with
 |nil=>intro bs e _;rw[iC e.symm];exact .nil
 |cons r rows ih=>
  intro bs e h;cases bs with
  |nil=>cases e
  |cons b bs=>
   obtain⟨⟨vs,n,h1,h2⟩,h3⟩:=h 0 b rfl;exact .cons (hO (vs:=vs.toList) h3 h1 (eO (Internal.I.allFlat _) h2)) (ih bs (Lq e) λi b e=>h (i+1) b e)
theorem GW{w:World}{A:aC}{E:Value->ah->Prop}{F:Addr->Prop}{s:ah}{a:Addr}{o:Obj}{pm cv doc:Value}{H n:Nat}{ups:List Int}{vs:List Value}(ho:s.heap.get? a=some o)(hd:o.data=.func (cO iI.name iI.params iI.body iI.scope pm cv doc))
(rc:s.heap.CodeRec cv iI.name)(bu:Bu 60 A)(am:dz A (js w) s)(lo:iW F s.heap)(rs:aZ s.heap F [.lst (je H n),.int H,.lst (ups.map .int)] vs)(hn:n<=6):
 wpAny (model pw w) A (call (.ref a) vs) (gW F s (.lst ((DS (Jr H ups) n n).map Z.dl))) E s:=by
 have rk:=rS (aw.mp xH _ GV);obtain⟨f1,f2,f3,f4⟩:=zY;have hvl:=rs.length;obtain⟨v1,r1,rfl,q1,rs⟩:=rs.eS;obtain⟨v2,r2,rfl,q2,rs⟩:=rs.eS;obtain⟨v3,r3,rfl,q3,rs⟩:=rs.eS;obtain rfl:=rs.nk;have yZ:=j7 (fd:=cO iI.name iI.params iI.body iI.scope pm cv doc) (vs:=[v1,v2,v3]) rk.k1 rk.k2 rk.k3 rk.k4 rfl rk.k5 (by rw[show(cO iI.name iI.params iI.body iI.scope pm cv doc).params=iI.params from rfl,f1];rfl);rw[show(cO iI.name iI.params iI.body iI.scope pm cv doc).params=iI.params from rfl,f1]at yZ;have adD:∀x∈iI.scope.names,x.2≠.cell:=λx hx=>by
  rw[f4]at hx;have:=aw.mp zS x hx;simp at this;exact this.1
 refine G8 (call_plain (bk (aq (dZ _ 60) bu.1) (by decide)) ho hd am.nl rc yZ (λx hx=>?_) (λic akM=>?_) rk.k8 rk.k7 rk.k6 adD)
 ·have hm:=(gD hx).1
  rw[f4];simp only[aJ,du,or_false]at hm;rcases hm with e|e|e<;>rw[e]<;>decide
 rw[f3];generalize iu:envOf iI.name iI.scope s.heap.objs.size a cv=env at*;have e1:env.scope.names=bK:=by rw[<-iu];exact f4
 have e2:env.scope.kind=.function:=by rw[<-iu];exact rk.k6
 have e3:env.locals=s.heap.objs.size:=by rw[<-iu];rfl
 have e4:env.cells=[]/\env.globals=mainGlobals/\env.builtins=builtinsNs:=by rw[<-iu];exact⟨rfl,rfl,rfl⟩
 have bu':Bu 54 (A.deeper env):=(bu.less (by decide:55<=60)).deeper env;have am':dz (A.deeper env) (js w) s:=⟨am.hh,am.nb,am.nl,am.gl,am.tk,by have:=bu.2;rw[eR];omega,am.la⟩
 obtain⟨ax,vl,k,rfl,nax,hil,hrl⟩:=q1.lst;have hlen:=hrl.length;have hlen:vl.length=n:=by rw[hlen];unfold je;rw[aj,b8]
 rw[akA];refine aS (ai (bw (aq am.tk (dZ _ _)) (RZ (Q:=λf s'=>f=.next/\∃al bs m,bs.length=n/\BF env s.heap s.heap.objs.size al bs/\MS s.heap m (A0 (je H n) H (ups.map .int))/\(1<=s'.toks->BS s s.heap.objs.size al bs m (bh n []) s')) am.hh e1 e2 e3 akM rfl hil.isList (by rw[aX,hlen];omega) λal bs h tk g1 g2 g3 g4 g5=>?_)) (λf s2 q=>?_) λ_ _ e=>e)
 ·have hbl:bs.length=n:=by rw[g1,aX,hlen]
  refine⟨rfl,al,bs,_,hbl,⟨e2,e1,e4.2.1,e4.2.2,e4.1,e3,g2,λb hb=>⟨(g4 b hb).2.1,(g4 b hb).2.2.1,(g4 b hb).2.2.2⟩,g5.2⟩,?_,λt=>⟨t,⟨h,tk,rfl,g3.keep⟩,g3,rfl,g5.1,by rw[gq,hbl],λi b e=>⟨#[],0,(g4 b (gF e)).1,?_⟩⟩⟩
  ·refine MS.skip (n:="beaten") ?_ rfl
   intro k d e;unfold A0 at e;unfold look at e;split at e
   ·rename_i hk;subst hk;cases e
    exact⟨_,rfl,q1.less λb q=>q.elim⟩
   ·unfold look at e
    split at e
    ·rename_i hk;subst hk;cases e
     exact⟨_,rfl,q2.less λb q=>q.elim⟩
    ·unfold look at e
     split at e
     ·rename_i hk;subst hk;cases e
      exact⟨_,rfl,q3.less λb q=>q.elim⟩
     ·cases e
  ·have:(bh n ([]:List Nat)).getD i []=[]:=by
    rw[br,rC];split<;>rfl
   rw[this];exact .nil
 obtain⟨t2,rfl,al,bs,m,hbl,bf,ms,x⟩:=q;have x:=x t2;refine aS (R7 rfl rfl bf bu' am' hn hbl x ms λs3 m3 x3=>?_);refine aS (g8 (bf.load x3.F (by decide) (by decide) x3.bt ?_));have nF:∀b,s.heap.get? b=none->¬F b:=λb e q=>nS e (lo b q);exact⟨x3.kp,hO (vs:=bs.map .ref) (nF al bf.na.2) x3.ol (WI _ bs x3.ln λi b e=>⟨x3.SP i b e,nF b (bf.nb b (gF e)).2.1⟩)⟩
end Internal.B
namespace Internal.B
open Internal.Z (lX AS Tn NP)
open Internal.I (BY lW Gs oL Q8 zA)
def akN:List D->Option (D×D×D)
 |[]=>none
 |a::l=>(Q8 l).map λx=>(a,x)
theorem Nq{ds:List D}{x:D×D×D}(h:akN ds=some x):ds=[x.1,x.2.1,x.2.2]:=by
 cases ds with
 |nil=>exact no h
 |cons a l=>
  obtain⟨y,h1,rfl⟩:=dH h;rw[Internal.I.uE h1]
open Classical in
def pB (ds:List D):Option D:=(akN ds).bind λx=>(Gs x.1).bind λl=>(BY x.2.1).bind λh=>(Gs x.2.2).bind λu=>(gO u).bind λups=>
 if l.length<=6/\0<=h/\l=je h.toNat l.length then some (.lst ((DS (Jr h.toNat ups) l.length l.length).map Z.dl))else none
def fW(f:Str):Option (List D->Option D):=if f=("_law_beaten":Str)then some pB else none
theorem iy:NP fW:=λf _ _ _ h=>by
 unfold fW;rw[if_neg (by simpa using h)]
theorem tA(H n):(je H n).length=n:=by unfold je;rw[aj,b8]
theorem akO(H n:Nat)(ups:List Int)(hn:n<=6):pB [.lst (je H n),.int H,.lst (ups.map .int)]=some (.lst ((DS (Jr H ups) n n).map Z.dl)):=by
 refine oB (a:=(.lst (je H n),.int H,.lst (ups.map .int))) rfl (oB (a:=je H n) rfl (oB (a:=(H:Int)) rfl (oB (a:=ups.map .int) rfl (oB (a:=ups) (Z.zk ups) ?_))));rw[if_pos ⟨by rw[tA];exact hn,bG _,by rw[tA,aR]⟩,tA,aR]
def BT(T:ek):Prop:=∀(H n:Nat)(ups:List Int),n<=6->T.fn "_law_beaten" [.lst (je H n),.int H,.lst (ups.map .int)]=some (.lst ((DS (Jr H ups) n n).map Z.dl))
theorem Y5(r:Nat):BT (Tn fW (r+1)):=λH n ups hn=>by
 have e:∀ds,(Tn fW (r+1)).fn "_law_beaten" ds=pB ds:=λds=>by
  show(match(NS fW).prim "_law_beaten" with
   |some p=>p ds
   |none=>(NS fW).run 30 60 20 (Tn fW r) "_law_beaten" ds)=_
  rw[show(NS fW).prim "_law_beaten"=some pB from(if_pos rfl:fW "_law_beaten"=some pB)]
 rw[e];exact akO H n ups hn
theorem akP(w:World)(h:Heap)(ds:List D)(d:D)(la:js w h)(e:pB ds=some d):∃a o fd,Gv h "_law_beaten" (.ref a)/\h.get? a=some o/\o.data=.func fd/\
 ∀(A:aC)(E:Value->ah->Prop) F s vs,Bu 60 A->dz A (js w) s->iW F s.heap->bV h s.heap->aZ s.heap F ds vs->wpAny (model pw w) A (call (.ref a) vs) (gW F s d) E s:=by
 obtain⟨mg,mb,L⟩:=la;obtain⟨a,o,pm,code,doc,g1,g2,g3,g4⟩:=L.fn iI GV;rw[zY.2.1]at g1;refine⟨a,o,_,⟨mg,L.g,g1⟩,g2,g3,λA E F s vs bu am lo kh rs=>?_⟩;obtain⟨x,e1,e⟩:=aO e;obtain⟨l,e2,e⟩:=aO e;obtain⟨i,e3,e⟩:=aO e;obtain⟨u,e4,e⟩:=aO e;obtain⟨ups,e5,e⟩:=aO e;split at e
 case isFalse=>cases e
 rename_i c;cases e;obtain⟨c1,c2,c3⟩:=c;rw[Nq e1,oL e2,lW e3,oL e4,zA e5]at rs;obtain⟨H,rfl⟩:=fS c2;rw[aR]at c3⊢;rw[c3]at rs;exact GW (kh _ _ g2) g3 (g4.keeps kh) bu am lo rs c1
theorem adE(w):FV pw w (js w) (NS fW) 60:=U7 w (js w) fW (λh q=>q) (λh f p ds d la hp e=>by
 unfold fW at hp;obtain⟨rfl,rfl⟩:=bx hp;exact akP w h ds d la e)
theorem w0(w)(r):dU pw w (js w) (Bu (r+60)) (Tn fW r):=IG (adE w) 30 60 20 r
end Internal.B
namespace Internal.Z
section
set_option genSizeOfSpec false in
set_option genInjectivity false in
structure Lp where
 (sc rd ups told qr rings pairs digits:List D) (a b c e count width orders:Int) (tx:Str)
section
variable{T:ek}(p:Lp)
abbrev hpD(a b c e:Int):D:=.lst [.int a,.int b,.int c,.int e]
abbrev l2S:cy:=[("script",.lst p.sc),("owns",tw),("heaps",hpD p.a p.b p.c p.e),("width",.int p.width),("count",.int p.count)]
abbrev l4S:cy:=l2S p++([("text",.str p.tx),("meant",.lst p.rd),("read",.lst p.rd)]:cy)
abbrev l6S:cy:=l4S p++([("told",.lst p.told),("upsets",.lst p.ups)]:cy)
abbrev l8S:cy:=l6S p++([("beaten",.lst p.qr)]:cy)
abbrev SX:cy:=l8S p++([("orders",.int p.orders),("rings",.lst p.rings)]:cy)
abbrev WJ:cy:=SX p++([("pairs",.lst p.pairs)]:cy)
abbrev DT:cy:=WJ p++([("digits",.lst p.digits)]:cy)
def lE(i j:Nat):ae:=Ah j (ak i lB)
theorem akT(sc a b c e):(dX T 31).d lK (kS sc tw++([("heaps",hpD a b c e)]:cy)) (lE 2 0)=(aE .Mod (.int e) (.int 3)).bind λd=>aE .Add (.int 4) d:=by rfl'
theorem akU(sc a b c e):(dX T 31).d lK (kS sc tw++([("heaps",hpD a b c e)]:cy)) (lE 2 1)=((aE .FloorDiv (.int e) (.int 3)).bind λd=>aE .Mod d (.int 23)).bind λd=>aE .Add (.int 8) d:=by rfl'
theorem adF:(dX T 31).d lK (l2S p) (bj (ak 3 lB))=T.fn "_law_page" [.int p.count,.int p.a,.int p.b]:=by rfl'
theorem akV:(dX T 31).d lK (l4S p) (lE 6 0)=((aE .Add (.lst p.rd) (.lst [.int 255,.int (-1)])).bind λd=>some [d]).bind λds=>T.fn "_law_upsets" ds:=by rfl'
theorem akW:(dX T 31).d lK (l4S p) (lE 6 1)=T.fn "_law_colours" [.int p.c,.int p.count]:=by rfl'
theorem asd:(dX T 31).b lK (l6S p) (dx (ak 7 lB))=Yl (cmp .In (.int (-1)) (.lst p.ups)) (Yl (cmp .Eq (.lst p.told) (.lst [])) (some false)):=by rfl'
theorem akX:(dX T 31).d lK (l6S p) (bj (ak 8 lB))=T.fn "_law_beaten" [.lst p.told,.int p.c,.lst p.ups]:=by rfl'
theorem ase:(dX T 31).b lK (l8S p) (dx (ak 9 lB))=cmp .Eq (.lst p.qr) (.lst []):=by rfl'
theorem akY:(dX T 31).d lK (l8S p) (bj (ak 10 lB))=T.fn "_law_orders" [.lst p.qr]:=by rfl'
def N1:ae:=bj (ak 11 lB)
theorem akZ(j):iM (dX T 30) (SX p) N1 (.int j)=(yr (.lst p.rings) none (some j)).bind λd=>(items d).bind λds=>gQ (ur (dX T 30) (oE (SX p) (.int j) N1) N1) ds:=by rfl'
theorem ak0(j)(x):ur (dX T 30) (oE (SX p) (.int j) N1) N1 (.int x)=((((fU (.lst p.rings) j).bind λd=>aE .BitAnd d (.int x)).bind λd=>cmp .Eq d (.int 0)).bind λc=>if c=true then some true else some false).bind λc=>if c=true then some [.int x]else some []:=by rfl'
theorem ak1:(dX T 30).d lK (SX p) (ql N1)=((cM .len [.lst p.rings]).bind λd=>some [d]).bind λds=>cM .range ds:=by rfl'
theorem ak2:cOk lK (SX p) N1=true:=by rfl'
theorem ak3:(dX T 31).d lK (WJ p) (bj (ak 12 lB))=
 (((((cM .len [.lst p.rings]).bind λa=>((cM .len [.lst p.pairs]).bind λb=>some [b]).bind λds=>some (a::ds)).bind λds=>some (D.int 1::ds)).bind λds=>if ds.length<=eu then some (D.lst ds)else none).bind λo=>
   ((((cmp .NotEq (.lst p.pairs) (.lst [])).bind λb=>if b=true then some (D.int 3)else(cmp .NotEq (.lst p.rings) (.lst [])).bind λb=>if b=true then some (D.int 2)else some (D.int 1)).bind intD).map some).bind λb=>yr o none b):=by rfl'
end
end
section
section
variable{T:ek}(p:Lp)
theorem asf(n)(h1:(dX T 31).d lK (kS p.sc tw) zW=some (hpD p.a p.b p.c p.e))(hc:(aE .Mod (.int p.e) (.int 3)).bind (λd=>aE .Add (.int 4) d)=some (.int p.count))
(hw:((aE .FloorDiv (.int p.e) (.int 3)).bind λd=>aE .Mod d (.int 23)).bind (λd=>aE .Add (.int 8) d)=some (.int p.width))(h3:T.fn "_law_page" [.int p.count,.int p.a,.int p.b]=some (.tup [.str p.tx,.lst p.rd]))(h4:T.fn "_law_read" [.str p.tx]=some (.lst p.rd))(h5:cmp .NotEq (.lst p.rd) (.lst p.rd)=some false):
 cU (df (Va T) lK [] 60 (Xa T lK [] (n+1))) [ak 0 lB,ak 1 lB,ak 2 lB,ak 3 lB,ak 4 lB,ak 5 lB] [("script",.lst p.sc)] []=some (.nx (l4S p) []):=by
 refine fh (cb tw (by rfl')) ?_;refine fh (zm [.int p.a,.int p.b,.int p.c,.int p.e] (tr h1)) ?_;refine fh (mT ["count","width"] [lE 2 0,lE 2 1] (ey (n8 ((akT p.sc p.a p.b p.c p.e).trans hc)) (ey (n8 ((akU p.sc p.a p.b p.c p.e).trans hw)) mR))) ?_;refine fh (mU (.tup [.str p.tx,.lst p.rd],false) (n8 ((adF p).trans h3))) ?_;refine fh (cb (.lst p.rd) (tr h4)) ?_;exact cR (b:=[]) (tr h5) (fV (bs:=[]) rfl) rfl
theorem ash(n)(h6:aE .Add (.lst p.rd) (.lst [.int 255,.int (-1)])=some (.lst rd2))(h7:T.fn "_law_upsets" [.lst rd2]=some (.lst p.ups))(h8:T.fn "_law_colours" [.int p.c,.int p.count]=some (.lst p.told))
(g1:cmp .In (.int (-1)) (.lst p.ups)=some false)(g2:cmp .Eq (.lst p.told) (.lst [])=some false)(g3:T.fn "_law_beaten" [.lst p.told,.int p.c,.lst p.ups]=some (.lst p.qr))(g4:cmp .Eq (.lst p.qr) (.lst [])=some false):
 cU (df (Va T) lK [] 60 (Xa T lK [] (n+1))) [ak 6 lB,ak 7 lB,ak 8 lB,ak 9 lB] (l4S p) []=some (.nx (l8S p) []):=by
 refine fh (mT ["upsets","told"] [lE 6 0,lE 6 1] (ey (n8 ((akV p).trans (oB (oB h6 rfl) h7))) (ey (n8 ((akW p).trans h8)) mR))) ?_;refine cR (b:=[]) ((asd p).trans (by rw[g1,g2];rfl)) (fV (bs:=[]) rfl) ?_;refine fh (cb (.lst p.qr) ((akX p).trans g3)) ?_;exact cR (b:=[]) ((ase p).trans g4) (fV (bs:=[]) rfl) rfl
theorem asi(n)(k1:T.fn "_law_orders" [.lst p.qr]=some (.tup [.int p.orders,.lst p.rings]))(k2:(dX T 31).d lK (SX p) N1=some (.lst p.pairs))(k3:(dX T 31).d lK (WJ p) (bj (ak 12 lB))=some (.lst p.digits)):
 cU (df (Va T) lK [] 60 (Xa T lK [] (n+1))) [ak 10 lB,ak 11 lB,ak 12 lB] (l8S p) []=some (.nx (DT p) []):=by
 refine fh (mU (.tup [.int p.orders,.lst p.rings],false) (n8 ((akY p).trans k1))) ?_;refine fh (zm p.pairs k2) ?_;exact fh (cb (.lst p.digits) k3) rfl
end
end
section
open Internal.V
theorem WK(a b:Nat):aE .BitAnd (.int a) (.int b)=some (.int (ig a b:Nat)):=by
 show some (D.int (i7 a b))=_;unfold i7;rw[decide_eq_true (bG a),decide_eq_true (bG b)];rfl
section
variable{T:ek}(p:Lp)
theorem WL{rs:List Nat}(hp:p.rings=rs.map di)(hl:rs.length<=300)(hl2:(N0 rs).length<=300):(dX T 31).d lK (SX p) N1=some (.lst ((N0 rs).map di)):=by
 have f9:=ei;have key:((aM rs.length).flatMap λj=>((rs.take j).filter λx=>ig (rs.getD j 0) x==0).map di)=(N0 rs).map di:=by
  unfold N0;rw[amX]
 have e:=iw (T:=T) (V:=dX T 30) (ks:=lK) (σ:=SX p) (e:=N1) (d:=.og 0 rs.length 1) (φ:=di) (xs:=aM rs.length) (g:=λj=>((rs.take j).filter λx=>ig (rs.getD j 0) x==0).map di)
  (ak2 p) ((ak1 p).trans (by rw[hp,Vn (by rw[aj];omega),aj])) (kc _ (by omega)) (λj hj=>?_) (by rw[key,aj];omega)
 ·rw[key]at e;exact e
 ·have hj:=cQ.mp hj
  refine(akZ p j).trans ?_;rw[hp,UD,if_pos (by rw[aj];omega),ag,abZ];have es:sl none (some (j:Int)) rs=rs.take j:=by
   unfold sl;rw[MO (cA hj)];rfl
  rw[es];show gQ _ ((rs.take j).map di)=_;have:=sO (φ:=di) (xs:=rs.take j) (g:=λx=>if(ig (rs.getD j 0) x==0)=true then[di x]else[]) (f:=ur (dX T 30) (oE (SX p) (.int j) N1) N1) (λx hx=>?_)
  ·refine this.trans (congrArg some ?_)
   exact mD (p:=λx=>ig (rs.getD j 0) x==0) (f:=di) (rs.take j)
  ·refine(ak0 p j x).trans ?_
   rw[hp,Gf hj (by omega),ag,show aE .BitAnd (di rs[j]) (D.int (x:Int))=_ from WK rs[j] x,ag,show cmp .Eq (.int (ig rs[j] x:Nat)) (.int 0)=some (ig rs[j] x==0)from sU _ 0,Gg,oG hj];rfl
theorem R8{rs ps:List Nat}(hp:p.rings=rs.map di)(hq:p.pairs=ps.map di)(hl:rs.length<=300)(hl2:ps.length<=300):(dX T 31).d lK (WJ p) (bj (ak 12 lB))=some (.lst ((dy rs.length ps.length).map di)):=by
 have f9:=ei;have ne:∀l:List Nat,cmp .NotEq (.lst (l.map di)) (.lst [])=some (!l.isEmpty):=λl=>by
  show(cmp .Eq (.lst (l.map di)) (.lst [])).map (λx=> !x)=_;rw[C4,List.isEmpty_map];rfl
 refine(ak3 p).trans ?_;rw[hp,hq,mA (by rw[aj];omega),mA (by rw[aj];omega),ne,ne,aj,aj];cases ps with
 |cons y ps=>rfl
 |nil=>
  cases rs with
  |nil=>rfl
  |cons x rs=>rfl
end
end
end Internal.Z
namespace Internal.Z
open Internal.V
open Internal.B (BT Y5 fW iy je Jr DS)
structure LS(T:ek):Prop where
 ak4:∀ct ty ma:Nat,4<=ct->ct<=6->∃t r,PI 8 t r/\T.fn "_law_page" [di ct,di ty,di ma]=some (.tup [.str (mk t),.lst ((r++[0]).map .int)])
 read:∀(cs:List Nat)(vs:List Int),cs.length<=1000->(∀c∈cs,lx c=false->(mV c).length<=100)->IY (gK cs) vs->vs.length<60->T.fn "_law_read" [.str (mk cs)]=some (.lst ((vs++[0]).map .int))
 ups:∀xs:List Int,xs.length<=1000->(∀x∈xs,x.natAbs<=2000)->T.fn "_law_upsets" [.lst (xs.map .int)]=some (.lst ((xs.foldl jV ⟨[],-1,0⟩).ups.map .int))
 ks:KS T
 bt:BT T
 ord:∀(b:List (List Nat))(n:Nat),Tb b n->1<=n->T.fn "_law_orders" [.lst (b.map dl)]=some (.tup [di (eN b n).length,.lst ((RU b n).map di)])
theorem ak5(r:Nat):LS (Tn fW (r+3)) where
 ak4 ct ty ma h1 h2:=by
  obtain⟨t,r',I,h⟩:=aj1 (T:=Tn fW (r+2)) ct ty ma h1 h2;exact⟨t,r',I,fv (["count","typing","marks"]:List Str) (iy _ (by decide) (by decide) (by decide) (by decide)) h⟩
 read cs vs h1 h2 h3 h4:=fv (["text"]:List Str) (iy _ (by decide) (by decide) (by decide) (by decide)) (ajp (Yk iy (r+1)) (sT fW _) cs vs h1 h2 h3 h4)
 ups xs h1 h2:=fv (["symbols"]:List Str) (iy _ (by decide) (by decide) (by decide) (by decide)) (acH (Yk iy (r+1)) xs h1 h2)
 ks:=aky iy r
 bt:=Y5 (r+2)
 ord b n t h:=fv (["beaten"]:List Str) (iy _ (by decide) (by decide) (by decide) (by decide)) (aj3 t h)
theorem adG(h:Seg p vs):∀x∈vs,x.natAbs<=2000:=by
 induction h with
 |nil=>intro x hx;cases hx
 |«let» hl _ ih=>
  intro x hx;rcases aJ.mp hx with rfl|hx
  ·have:=List.idxOf_lt_length_of_mem hl
   have h6:dn.length=6:=rfl;unfold Gh;omega
  ·exact ih x hx
 |op hi _ _ _ ih=>
  intro x hx;rcases aJ.mp hx with rfl|hx
  ·omega
  ·exact ih x hx
structure qt(p:Lp)(width O R P:Nat):Prop where
 wd:8<=width/\width<=30
 ew:p.width=width
 eo:p.orders=O
 ed:p.digits=(dy R P).map di
 oc:O=1+2*R+4*P
 o4:O<254
 rp:R=0->P=0
set_option maxHeartbeats 0 in
theorem Nr {T:ek} (hT:LS T) (cN:List Int) (hl:cN.length<=63) (n0:Nat):∃p width O R P,qt p width O R P/\
 cU (df (Va T) lK [] 60 (Xa T lK [] (n0+1))) ([ak 0 lB,ak 1 lB,ak 2 lB,ak 3 lB,ak 4 lB,ak 5 lB]++([ak 6 lB,ak 7 lB,ak 8 lB,ak 9 lB]++[ak 10 lB,ak 11 lB,ak 12 lB])) [("script",.lst (cN.map .int))] []=some (.nx (DT p) []):=by
 have f9:=ei;obtain⟨a,b,c,e,hh⟩:=WB (T:=T) cN hl;obtain⟨ct,hct⟩:∃k,k=4+e%3:=⟨_,rfl⟩;obtain⟨wd,hwd⟩:∃k,k=8+e/3%23:=⟨_,rfl⟩;have hc6:4<=ct/\ct<=6:=by omega
 have asj:8<=wd/\wd<=30:=by omega
 obtain⟨t,r,I,ak6⟩:=hT.ak4 ct a b hc6.1 hc6.2;have htl:=I.tl;have hrr:=I.rl;have ak7:=hT.read t r (by omega) I.b3 I.sg.toks (by omega);have hbd:∀x∈r++[0,255,-1],x.natAbs<=2000:=λx hx=>by
  rcases fR.mp hx with hx|hx
  ·exact adG I.sg x hx
  ·simp at hx
   rcases hx with rfl|rfl|rfl<;>decide
 have ak8:=hT.ups (r++[0,255,-1]) (by rw[aG];simp;omega) hbd;obtain⟨x0,xs0,rfl,hx0⟩:=I.hd (by decide);have adI:=WH (x:=x0) (xs:=xs0++[0,255,-1]) hx0;rw[<-cE]at adI;generalize ((x0::xs0++[0,255,-1]).foldl jV ⟨[],-1,0⟩).ups=ups at ak8 adI;have asl:=hT.ks c ct hc6.2;have hbt:=hT.bt c ct ups hc6.2;rw[Internal.B.akF _ _ hc6.2]at hbt;generalize Internal.B.aW (Jr c ups)=A at hbt;have WM:=hT.ord (fM A ct) ct (R6 A hc6.2) (by omega);have ak9:ct=4\/ct=5\/ct=6:=by omega
 rw[akL A ak9]at WM;obtain⟨o1,o2⟩:=ocf A ct ak9;obtain⟨rs,hrs⟩:∃rs,rs=kX A ct:=⟨_,rfl⟩;rw[<-hrs]at WM o1;rw[<-pairs_len rs]at o1;generalize (eN (fM A ct) ct).length=O at*;have hbl:0<(fM A ct).length:=by unfold fM;rw[aj,b8];omega
 generalize fM A ct=bt at*;have oo:0<(je c ct).length:=by rw[Internal.B.tA];omega
 have h6:aE .Add (.lst ((x0::xs0++[0]).map .int)) (.lst [.int 255,.int (-1)])=some (.lst ((x0::xs0++[0,255,-1]).map .int)):=by
  rw[qG (by rw[aj,aG];exact aq (ji (show(x0::xs0).length+1<=900 by omega) 2) (by decide)),da,da,eT];rfl
 have hC:(aE .Mod (.int e) (.int 3)).bind (λd=>aE .Add (.int 4) d)=some (.int ct):=oB (ja (a:=e) (b:=3) (by decide)) (by rw[hct,ff];rfl);have hW:((aE .FloorDiv (.int e) (.int 3)).bind λd=>aE .Mod d (.int 23)).bind (λd=>aE .Add (.int 8) d)=some (.int wd):=
  oB (oB (nP (a:=e) (b:=3) (by decide) (kH (by decide) (by decide))) (ja (b:=23) (by decide))) (by rw[hwd,ff];rfl)
 have ne:∀l:List D,0<l.length->cmp .Eq (.lst l) (.lst [])=some false:=λl h=>by
  rw[C4];cases l with
  |nil=>cases h
  |cons x xs=>rfl
 have hdl:(N0 rs).length<=300/\rs.length<=300:=by omega
 obtain⟨p,hp⟩:∃p:Lp,p=⟨xf D.int cN,xf D.int (x0::xs0++[0]),xf D.int ups,je c ct,bt.map dl,rs.map di,(N0 rs).map di,(dy rs.length (N0 rs).length).map di,a,b,c,e,ct,wd,O,mk t⟩:=⟨_,rfl⟩;have q1:p.rings=rs.map di:=by rw[hp]
 have q2:p.pairs=(N0 rs).map di:=by rw[hp]
 have k2:=WL (T:=T) p q1 hdl.2 hdl.1;have k3:=R8 (T:=T) p q1 q2 hdl.2 hdl.1;have ed:p.digits=(dy rs.length (N0 rs).length).map di:=by rw[hp]
 rw[<-q2]at k2;rw[<-ed]at k3;have e1:p.count=ct:=by rw[hp]
 have e2:p.rd=xf D.int (x0::xs0++[0]):=by rw[hp]
 have e3:p.tx=mk t:=by rw[hp]
 have e4:p.a=a:=by rw[hp]
 have e5:p.b=b:=by rw[hp]
 have e6:p.c=c:=by rw[hp]
 have e7:p.e=e:=by rw[hp]
 have e8:p.width=wd:=by rw[hp]
 have e9:p.orders=O:=by rw[hp]
 have f1:p.ups=xf D.int ups:=by rw[hp]
 have f2:p.told=je c ct:=by rw[hp]
 have f3:p.qr=bt.map dl:=by rw[hp]
 have f4:p.sc=cN.map D.int:=by rw[hp]
 clear hp;have t0:(dX T 31).d lK (kS p.sc tw) zW=some (hpD p.a p.b p.c p.e):=by rw[f4,e4,e5,e6,e7];exact hh
 have t1:T.fn "_law_page" [.int p.count,.int p.a,.int p.b]=some (.tup [.str p.tx,.lst p.rd]):=by rw[e1,e4,e5,e3,e2];exact ak6
 have t2:T.fn "_law_read" [.str p.tx]=some (.lst p.rd):=by rw[e3,e2];exact ak7
 have t3:cmp .NotEq (.lst p.rd) (.lst p.rd)=some false:=by rw[e2];exact WC 0 _
 have B1:=asf p n0 t0 (by rw[e7,e1];exact hC) (by rw[e7,e8];exact hW) t1 t2 t3;have B2:=ash (T:=T) p n0 (by rw[e2];exact h6) (by rw[f1];exact ak8) (by rw[e6,e1,f2];exact asl) (by rw[f1];exact adB _ _ λz hz q=>by have:=adI z hz;omega) (by rw[f2];exact ne _ oo) (by rw[f2,e6,f1,f3];exact hbt) (by rw[f3];exact ne _ (by rw[aj];exact hbl));have B3:=asi p n0 (by rw[f3,e9,q1];exact WM) k2 k3;rw[f4]at B1;exact⟨p,wd,O,rs.length,(N0 rs).length,⟨asj,e8,e9,ed,o1,o2,λh=>by rw[iC h];rfl⟩,xK B1 (xK B2 B3)⟩
end Internal.Z
namespace Internal.B
section
open Internal.I (zD)
def w7:List Stmt×List DX×ae×Pos:=([],[],default,default)
def trQ(s:Stmt):List Stmt×List DX×ae×Pos:=
 tT (motive_2:=λ_=>List Stmt×List DX×ae×Pos) s (λ_ _ _ _ _ _ _ _ _ _=>w7) (λ_ _ _ _ _ _ _ _ _ _=>w7) (λ_ _ _ _ _ _ _ _ _ _ _=>w7) (λ_ _=>w7) (λ_ _=>w7) (λ_ _ _=>w7) (λ_ _ _ _ _ _ _=>w7) (λ_ _ _ _=>w7) (λ_ _ _ _ _=>w7) (λ_ _ _ _ _=>w7) (λ_ _ _ _ _=>w7) (λ_ _ _ _=>w7) (λ_ _ _ _=>w7) (λ_ _ _=>w7) (λ_ _ _=>w7) (λ_ _ _=>w7) (λe _ p=>([],[],e.getD default,p)) (λa b _ _ p=>(a,b,default,p)) (λ_ _ _ _ _=>w7) (λ_ _ _=>w7) (λ_ _=>w7) (λ_ _ _ _=>w7) (λ_ _=>w7) (λ_ _=>w7) (λ_ _=>w7) (λ_=>w7) (λ_=>w7) (λ_=>w7)
def hdQ:List DX->Option ae×List Stmt×Pos
 |.ExceptHandler t _ b p::_=>(t,b,p)
 |[]=>(none,[],default)
def cK(e:ae):=((ae6 e).map λx=>x.1.2.1).getD default
def zB:List Stmt:=bo "_law_refused"
def zK:bY:=uv "_law_refused"
def zC:ae:=bj (ak 0 (trQ (ak 0 zB)).1)
def zH:Option ae×List Stmt×Pos:=hdQ (trQ (ak 0 zB)).2.1
def zR:Stmt:=ak 0 zH.2.1
theorem ala:zB=.Try [.Expr (.Call (.Name "int_divmod" (pH zC).pos) [.Name "number" (pj 0 zC).pos,pj 1 zC] [] zC.pos) (bU (ak 0 (trQ (ak 0 zB)).1))] [.ExceptHandler (some (.Name "ZeroDivisionError" (zH.1.getD default).pos)) none [.Return (some (.Constant (.bool true) (cK (bj zR)) (bj zR).pos)) (bU zR)] zH.2.2] [] [] (trQ (ak 0 zB)).2.2.2::zB.tail:=by rfl'
def iB:List Stmt:=bo "int_divmod"
def iK:bY:=uv "int_divmod"
def iR:Stmt:=ak 0 (bp (ak 0 iB))
theorem Qr:iB=.If (dx (ak 0 iB)) [.Raise (some (.Name "ZeroDivisionError" (trQ iR).2.2.1.pos)) none (trQ iR).2.2.2] (dN (ak 0 iB)) (bU (ak 0 iB))::iB.tail:=by rfl'
theorem adJ(x):tP ((dX NV 7).d zK [("number",.int x)]) [.Name "number" (pj 0 zC).pos,pj 1 zC]=some [.int x,.int 0]:=by rfl'
theorem C0(x):(dX NV 7).b iK [("a",.int x),("b",.int 0)] (dx (ak 0 iB))=some true:=by rfl'
def ea(n:Str):tK:=(iG.find? (λd=>d.name==n)).getD ⟨("":Str),default,[],default,default⟩
theorem GX{n:Str}(this:(iG.find? (λd=>d.name==n)).isSome=true):ea n∈iG:=by
 obtain⟨d,hd⟩:=ay.mp this;have e:ea n=d:=by unfold ea;rw[hd];rfl
 rw[e];exact d8 hd
structure RF(f:Str)(ps:List Str)(body:List Stmt)(ks:bY):Prop where
 p:(ea f).params.args.map (·.arg)=ps
 n:(ea f).name=f
 b:(ea f).body=body
 k:(ea f).scope.names=ks
 CY:(ks.all λy=>y.2 != .cell&&y.2 != .free)=true
 loc:(ps.all λx=>decide (ks.lookup x=some .local))=true
theorem Dv:((iG.find? (λd=>d.name==("_law_refused":Str))).isSome=true/\RF "_law_refused" ["number"] zB zK)/\((iG.find? (λd=>d.name==("int_divmod":Str))).isSome=true/\RF "int_divmod" ["a","b"] iB iK):=
 ⟨⟨by rfl',by rfl',by rfl',by rfl',by rfl',by rfl',by rfl'⟩,by rfl',by rfl',by rfl',by rfl',by rfl',by rfl',by rfl'⟩
theorem GY:ea "_law_refused"∈iG:=GX Dv.1.1
theorem GZ:ea "int_divmod"∈iG:=GX Dv.2.1
theorem zZ:RF "_law_refused" ["number"] zB zK:=Dv.1.2
theorem z6:RF "int_divmod" ["a","b"] iB iK:=Dv.2.2
section
variable{w:World}{A:aC}{s:ah}
theorem Li{R:G6->ah->Prop}{n:Str}{ps:List Str}{body:List Stmt}{ks:bY}{a:Addr}{o:Obj}{pm cd doc:Value}{vs:List Value}(hm:ea n∈iG)(f:RF n ps body ks)(sI:A.depth<recursionLimit)(ho:s.heap.get? a=some o)
(hd:o.data=.func (cO (ea n).name (ea n).params (ea n).body (ea n).scope pm cd doc))(f9:s.heap.NoLimit)(rc:s.heap.CodeRec cd (ea n).name)(hl:vs.length=ps.length)
(h:∀ic,Fr s.heap s.heap.objs.size ic (λx=>(ps.zip vs).reverse.lookup x)->(ea n).scope.kind=.function->
   wpAny (model pw w) (A.deeper (envOf (ea n).name (ea n).scope s.heap.objs.size a cd)) (execs body (envOf (ea n).name (ea n).scope s.heap.objs.size a cd))
    (λf s'=>R (.ok (.ret (match f with|.ret v=>v|_=>.none))) s')
    (λe s'=>wpAny (model pw w) (A.deeper (envOf (ea n).name (ea n).scope s.heap.objs.size a cd)) (leaving (envOf (ea n).name (ea n).scope s.heap.objs.size a cd) e)
      (λ_ LJ=>R (.error e) LJ) (λe' LJ=>R (.error e') LJ) s')
    {s with heap:=ic,toks:=s.toks+(ps.zip vs).length}):codeAny (model pw w) A (.call (.ref a) ⟨vs,[]⟩) R s:=by
 have rk:=rS (aw.mp xH _ hm);have yZ:=j7 (fd:=cO (ea n).name (ea n).params (ea n).body (ea n).scope pm cd doc) (vs:=vs) rk.k1 rk.k2 rk.k3 rk.k4 rfl rk.k5 (by rw[show(cO (ea n).name (ea n).params (ea n).body (ea n).scope pm cd doc).params=(ea n).params from rfl,f.p];exact hl);rw[show(cO (ea n).name (ea n).params (ea n).body (ea n).scope pm cd doc).params=(ea n).params from rfl,f.p]at yZ;refine call_plain sI ho hd f9 rc yZ (λx hx=>?_) (λic F=>f.b▸h ic F rk.k6) rk.k8 rk.k7 rk.k6 (λx hx=>?_)
 ·rw[f.k]
  exact of_decide_eq_true (aw.mp f.loc _ (gD hx).1)
 ·rw[f.k]at hx
  have:=aw.mp f.CY x hx;simp at this;exact this.1
end
theorem Y6{name:Str}{scope:Scope}{L a:Addr}{cd:Value}{h₀ h:Heap}{m:Str->Option Value}{σ:cy}{ks:bY}(hk:scope.kind=.function)(hn:scope.names=ks)(CY:(ks.all λy=>y.2 != .cell&&y.2 != .free)=true)(F:Fr h₀ L h m)(ms:MS h₀ m σ):In (envOf name scope L a cd) (BG h₀ h) σ h:=by
 have nc:∀n,(envOf name scope L a cd).kindOf n≠some .cell/\(envOf name scope L a cd).kindOf n≠some .free:=λn=>by
  show scope.names.lookup n≠_/\scope.names.lookup n≠_;rw[hn];constructor<;>intro h
  ·have:=aw.mp CY _ (mem_of_lookup h)
   simp at this
  ·have:=aw.mp CY _ (mem_of_lookup h)
   simp at this
 refine⟨hk,rfl,rfl,λb q=>q.2,zT F,λn c e=>(by cases e),λn n' c e=>(by cases e),λn hn=>absurd hn (nc n).1,m,F.ns,λn d e=>⟨λ_=>?_,λhc=>hc.elim (λq=>absurd q (nc n).1) λq=>absurd q (nc n).2⟩⟩;obtain⟨v,h1,h2⟩:=ms n d e;exact⟨v,h1,bW.kept (F:=λ_=>False) (λb o _ e=>F.keep b o e) (λb q=>.inr q.1) _ _ h2⟩
theorem alb{name:Str}{scope:Scope}{L a:Addr}{cd:Value}{h:Heap}{m:Str->Option Value}{ks:bY}(hk:scope.kind=.function)(hn:scope.names=ks)(CY:(ks.all λy=>y.2 != .cell&&y.2 != .free)=true)(ns:h.Ns L m):In (envOf name scope L a cd) (λb=>b=L) [] h:=by
 refine⟨hk,rfl,rfl,λb q=>?_,rfl,λn c e=>(by cases e),λn n' c e=>(by cases e),λn h=>?_,m,ns,λn d e=>(by cases e)⟩
 ·obtain⟨o,_,_,e,_⟩:=ns
  rw[q,e];rfl
 ·have h:scope.names.lookup n=some .cell:=h
  rw[hn]at h;have:=aw.mp CY _ (mem_of_lookup h);simp at this
theorem Bv.slots{h h':Heap}{n:Str}{v:Value}(x:Bv h n v)(u:h.UpToSlots h'):Bv h' n v:=by
 obtain⟨mg,mb,a,b,c,d⟩:=x;exact⟨mg,mb,u.ns a,b,u.ns c,d⟩
theorem Below.adK{A:aC}{base h h':Heap}{outer:List Env}(K:Below A base outer h)(k:bV h h'):Below A base outer h':=
 ⟨K.stack,λb o e=>k b o (K.stays b o e),K.frames.of_keeps λb o e _=>⟨o,k b o e,rfl⟩⟩
end
end Internal.B
namespace Internal.B
section
open Internal.I (zD)
abbrev ZX:String:="ZeroDivisionError"
theorem Dw:isSubtype (.type ZX) (.type ZX)=pure true/\isSubtype (.type ((Manifest.find? ZX).elim "type" λx=>x.metatype)) (.type "tuple")=pure false:=⟨by rw[isSubtype_type];rfl',by rw[isSubtype_type];rfl'⟩
theorem Lj:BN ZX=true:=nM (by rfl')
def PZ(base:Heap)(s:ah)(v:Value)(s':ah):Prop:=v=.bool true/\∃h tk,s'={s with heap:=h,toks:=tk}/\base.StaysIn h/\s.heap.UpToSlots h
section
variable{w:World}{A:aC}{E:Value->ah->Prop}{s:ah}{base:Heap}{outer:List Env}
theorem Nt{R:G6->ah->Prop}{alc:Env}{fa:Addr}{o:Obj}{pm cd doc:Value}{x:Int}{vs:List Value}(K:Below A base (alc::outer) s.heap)(ho:s.heap.get? fa=some o)(hd:o.data=.func (cO (ea "int_divmod").name (ea "int_divmod").params (ea "int_divmod").body (ea "int_divmod").scope pm cd doc))
(rc:s.heap.CodeRec cd (ea "int_divmod").name)(bu:Bu 40 A)(am:dz A (js w) s)(rs:aZ s.heap (λ_=>False) [.int x,.int 0] vs)
(h:∀e a0 h' tk,Heap.FlyingW base (alc::outer) e (.type ZX) a0 h'->s.heap.UpToSlots h'->R (.error (.ref e)) {s with heap:=h',toks:=tk}):codeAny (model pw w) A (.call (.ref fa) ⟨vs,[]⟩) R s:=by
 have rf:=z6;refine Li GZ rf (bk (aq (dZ _ 40) bu.1) (by decide)) ho hd am.nl rc (by rw[rs.length];rfl) λic F SW=>?_;have K3:=K.push (name:=(ea "int_divmod").name) (a:=fa) (cd:=cd) F SW;have ms:MS s.heap (λx=>((["a","b"]:List Str).zip vs).reverse.lookup x) [("a",.int x),("b",.int 0)]:=by
  obtain⟨v1,r1,rfl,q1,rs⟩:=rs.eS;obtain⟨v2,r2,rfl,q2,rs⟩:=rs.eS;obtain rfl:=rs.nk;intro k d e;unfold look at e;split at e
  ·rename_i hk;subst hk;cases e;exact⟨_,rfl,q1⟩
  ·unfold look at e
   split at e
   ·rename_i hk;subst hk;cases e;exact⟨_,rfl,q2⟩
   ·cases e
 have y:=Y6 (name:=(ea "int_divmod").name) (a:=fa) (cd:=cd) SW rf.k rf.CY F ms;have k1:Keeps s {s with heap:=ic,toks:=s.toks+((["a","b"]:List Str).zip vs).length}:=⟨ic,_,rfl,F.keep⟩
 have t1:1<=s.toks+((["a","b"]:List Str).zip vs).length:=aq am.tk (dZ _ _);have AQ:=am.keeps k1 t1;have iT:dz (A.deeper (envOf (ea "int_divmod").name (ea "int_divmod").scope s.heap.objs.size fa cd)) (js w) {s with heap:=ic,toks:=s.toks+((["a","b"]:List Str).zip vs).length}:=⟨AQ.hh,AQ.nb,AQ.nl,AQ.gl,AQ.tk,by have:=bu.2;rw[eR];omega,AQ.la⟩
 have VO:de pw w (js w) (λ_=>True) (dX NV 7):=gw (oz w) 7;rw[Qr];generalize iu:envOf (ea "int_divmod").name (ea "int_divmod").scope s.heap.objs.size fa cd=env at*;have Kj:env.frame=some s.heap.objs.size:=by rw[<-iu];rfl
 have Fg:env.scope.names=iK:=by rw[<-iu];exact rf.k
 refine aS (A8 (ai (bw t1 (VO.b (A.deeper env) _ env _ _ _ _ _ trivial iT y (by rw[Fg];exact C0 x))) (λb s2 q=>?_) λ_ _ e=>e));obtain⟨t2,rfl,k2⟩:=q;rw[if_pos rfl];have y2:=y.keeps (Keeps.all k2);have p9:=iT.keeps k2 t2;obtain⟨mg,mb,L2⟩:=p9.la s2.heap λ_ _ e=>e;have bv:Bv s2.heap ZX (.type ZX):=L2.bv Lj (by decide) jP.boot;refine aS (Raise_classB p9.hh jP Dw.1 (nH y2 (by rw[Fg];decide) (by decide) (.inr bv) ⟨rfl,rfl⟩) λh3 e hn=>?_);obtain⟨ob,t,he,asm,hdt⟩:=hn.there;have k02:=Keeps.all (Keeps.trans' k1 k2);have kb:∀b o,s.heap.get? b=some o->h3.get? b=some o:=λb o e=>hn.keeps b o (k02 b o e);have h1b:∀b o,ic.get? b=some o->h3.get? b=some o:=λb o e=>hn.keeps b o (Keeps.all k2 b o e);have hen:base.get? e=none:=by
  cases hq:base.get? e with
  |none=>rfl
  |some o'=>
   have:=k02 _ _ (K.stays e o' hq);rw[hn.new]at this;cases this
 refine wpAny_leaving_firstW (a0:=t) K3.stack (K3.frames.of_keeps λb o e _=>⟨o,h1b b o e,rfl⟩) Kj he (λb o e=>kb b o (K.stays b o e)) hen hdt rfl rfl λh4 hL=>?_;obtain⟨q1,⟨_,_,q2⟩,q3,q4⟩:=hL;rw[asm]at q3;obtain⟨h2,PT,rfl,_⟩:=k2;exact h e t h4 PT ⟨q1,hen,q2,q3⟩ ((nh kb).trans q4)
theorem Dx{a:Addr}{o:Obj}{pm cv doc:Value}{x:Int}{vs:List Value}(K:Below A base outer s.heap)(ho:s.heap.get? a=some o)(hd:o.data=.func (cO (ea "_law_refused").name (ea "_law_refused").params (ea "_law_refused").body (ea "_law_refused").scope pm cv doc))
(rc:s.heap.CodeRec cv (ea "_law_refused").name)(bu:Bu 50 A)(am:dz A (js w) s)(rs:aZ s.heap (λ_=>False) [.int x] vs):wpAny (model pw w) A (call (.ref a) vs) (PZ base s) E s:=by
 have rf:=zZ;have hvl:=rs.length;refine G8 (Li GY rf (bk (aq (dZ _ 50) bu.1) (by decide)) ho hd am.nl rc (by rw[hvl];rfl) λic F SW=>?_);have K2:=K.push (name:=(ea "_law_refused").name) (a:=a) (cd:=cv) F SW;have ms:MS s.heap (λx=>((["number"]:List Str).zip vs).reverse.lookup x) [("number",.int x)]:=by
  obtain⟨v1,r1,rfl,q1,rs⟩:=rs.eS;obtain rfl:=rs.nk;intro k d e;unfold look at e;split at e
  ·rename_i hk;subst hk;cases e;exact⟨_,rfl,q1⟩
  ·cases e
 have y:=Y6 (name:=(ea "_law_refused").name) (a:=a) (cd:=cv) SW rf.k rf.CY F ms;have yN:∀{h:Heap},h.Ns s.heap.objs.size (λx=>((["number"]:List Str).zip vs).reverse.lookup x)->In (envOf (ea "_law_refused").name (ea "_law_refused").scope s.heap.objs.size a cv) (λb=>b=s.heap.objs.size) [] h:=λns=>alb SW rf.k rf.CY ns;have k1:Keeps s {s with heap:=ic,toks:=s.toks+((["number"]:List Str).zip vs).length}:=⟨ic,_,rfl,F.keep⟩
 have t1:1<=s.toks+((["number"]:List Str).zip vs).length:=aq am.tk (dZ _ _);have AQ:=am.keeps k1 t1;have iT:dz (A.deeper (envOf (ea "_law_refused").name (ea "_law_refused").scope s.heap.objs.size a cv)) (js w) {s with heap:=ic,toks:=s.toks+((["number"]:List Str).zip vs).length}:=⟨AQ.hh,AQ.nb,AQ.nl,AQ.gl,AQ.tk,by have:=bu.2;rw[eR];omega,AQ.la⟩
 have VO:de pw w (js w) (λ_=>True) (dX NV 7):=gw (oz w) 7;rw[ala];generalize iu:envOf (ea "_law_refused").name (ea "_law_refused").scope s.heap.objs.size a cv=env at*;have Kj:env.frame=some s.heap.objs.size:=by rw[<-iu];rfl
 have Fg:env.scope.names=zK:=by rw[<-iu];exact rf.k
 have bu2:Bu 40 (A.deeper env):=(bu.less (by decide:41<=50)).deeper env;obtain⟨mg,mb,L1⟩:=iT.la ic λ_ _ e=>e;obtain⟨fa,fo,fpm,fcd,asn,g1,g2,g3,g4⟩:=L1.fn _ GZ;rw[z6.n]at g1;have bv:Bv ic ZX (.type ZX):=L1.bv Lj (by decide) jP.boot;refine aS (wpAny_Try_except (aS (ri ?_ (gx y.fn) rfl)));refine zD VO trivial iT y (by rw[Fg];decide) (by decide) ⟨mg,L1.g,g1⟩ g2 g3 (by rw[Fg];exact adJ x) λs3 vs3 k3 t3 r3=>?_;have WN:=Keeps.all k3;refine G8 (Nt (x:=x) (Below.adK K2 WN) (WN _ _ g2) g3 (g4.keeps WN) bu2 (iT.keeps k3 t3) (eO (ds:=[.int x,.int 0]) rfl r3) λe a0 h4 tk4 hf u4=>?_);have u04:ic.UpToSlots h4:=(nh WN).trans u4;obtain⟨h3,tk3,rfl,_⟩:=k3;refine wpAny_looks_onW K2.stack Kj hf λh5 hH u5=>wpAny_landsW hH λh6 hF u6=>?_;have u06:ic.UpToSlots h6:=(u04.trans u5).trans u6;obtain⟨ob,he,hc⟩:=hF.there;refine wpAny_handleBy_builtin (X:=ZX) (T:=ZX) (b:=true) jP.base Dw.2 Dw.1 (nH (yN (u06.ns F.ns)) (by rw[Fg];decide) (by decide) (.inr (Bv.slots bv u06)) ⟨rfl,⟨ob,he,hc⟩,?_⟩);rw[if_pos rfl];refine lands_againW hF λh7 hF7 u7=>aS (g8 (Constant_bool ?_));exact⟨rfl,h7,_,rfl,hF7.1,((nh F.keep).trans u06).trans u7⟩
end
end
end Internal.B
namespace Internal.B
section
open Internal.I (zD)
def lB:List Stmt:=bo "law"
def lZ:ae:=pH (ME 1 (dx (ak 15 lB)))
def tS:Scope:=(nO lZ).2.2.1
def R9:ae:=ql lZ
def WO:ae:=(nO lZ).1
theorem ald:lZ=.ListComp (.Call (.Name "_law_refused" (pH WO).pos) [.Name "number" (pj 0 WO).pos] [] WO.pos) [⟨.Name "number" (RY lZ).pos,R9,[],0⟩] tS lZ.pos:=by rfl'
theorem z7:jd R9=true/\tS.kind=.function/\(tS.names.all λy=>y.2 != .cell&&(y.2 != .free&&(y.2 != .local||tS.names.lookup y.1==some .local)))=true/\(eh tS).lookup ("number":Str)=some .local/\(eh tS).lookup ("_law_refused":Str)=some .globalImplicit/\((eh tS).all λy=>y.2 != .cell&&y.2 != .free)=true:=⟨by rfl',by rfl',by rfl',by rfl',by rfl',by rfl'⟩
theorem adL{env:Env}{L:Addr}{h:Heap}{m:Str->Option Value}{ks:bY}{n:Str}{i:Int}{t:Tok}(fn:env.scope.kind=.function)(hn:env.scope.names=ks)(gl:env.globals=mainGlobals)(bi:env.builtins=builtinsNs)(ce:env.cells=[])(loc:env.locals=L)(CY:(ks.all λy=>y.2 != .cell&&y.2 != .free)=true)(ns:h.Ns L m)(hm:m n=some (.int i t)):In env (λb=>b=L) [(n,.int i)] h:=by
 have nc:∀n,env.kindOf n≠some .cell/\env.kindOf n≠some .free:=λn=>by
  show env.scope.names.lookup n≠_/\env.scope.names.lookup n≠_;rw[hn];constructor<;>intro h
  ·have:=aw.mp CY _ (mem_of_lookup h)
   simp at this
  ·have:=aw.mp CY _ (mem_of_lookup h)
   simp at this
 refine⟨fn,gl,bi,λb q=>?_,loc,λn c e=>(by rw[ce]at e;cases e),λn n' c e=>(by rw[ce]at e;cases e),λn hn=>absurd hn (nc n).1,m,loc▸ns,λk d e=>⟨λ_=>?_,λhc=>hc.elim (λq=>absurd q (nc k).1) λq=>absurd q (nc k).2⟩⟩
 ·obtain⟨o,_,_,e,_⟩:=ns
  rw[q,e];rfl
 ·unfold look at e
  split at e
  ·rename_i hk;subst hk;cases e;exact⟨_,hm,fA⟩
  ·cases e
section
variable{w:World}{A:aC}{E:Value->ah->Prop}{s sb:ah}{env:Env}{L:Addr}
structure ZR(L:Addr)(s s1:ah):Prop where
 tk:1<=s1.toks
 u:Upd (λa=>a=L\/s.heap.get? a=none) s s1
 ns:∀m,s.heap.Ns L m->s1.heap.Ns L m
theorem ZR.keeps(x:ZR L s s1)(k:Keeps s1 s2)(t:1<=s2.toks):ZR L s s2:=⟨t,x.u.trans (Upd.of k),λm q=>(x.ns m q).keeps (Keeps.all k)⟩
theorem ZR.upd(x:ZR L s s1)(u:Upd (λa=>a=I) s1 s2)(t:1<=s2.toks)(hI:s.heap.get? I=none)(hL:L≠I):ZR L s s2:=
 ⟨t,x.u.trans (u.more λa q=>.inr (q▸hI)),λm q=>(x.ns m q).at' λo e=>u.kept (G:=λa=>a=I) (λ_ q=>q) L o hL e⟩
theorem ZR.base(x:ZR L s s1)(k:Keeps sb s)(hL:sb.heap.get? L=none):Keeps sb s1:=by
 have u:=Upd.Nn (G:=λa=>a=L) x.u;exact u.keeps (λa q=>q▸hL) k
theorem adM{cenv:Env}{C:Addr}{x:Int}{t:Tok}{mC mL:Str->Option Value}{Q:Value->ah->Prop}(am:dz A (js w) s)(bu:Bu 50 A)(Kj:A.frames=some [env])(hsk:env.scope.kind≠.module)(hfm:env.frame=some L)(nsL:s.heap.Ns L mL)
(fn:cenv.scope.kind=.function)(hn:cenv.scope.names=eh tS)(gl:cenv.globals=mainGlobals)(bi:cenv.builtins=builtinsNs)(ce:cenv.cells=[])(loc:cenv.locals=C)(nsC:s.heap.Ns C mC)(hm:mC "number"=some (.int x t))
(hQ:∀s',1<=s'.toks->Upd (λa=>a=L) s s'->(∀m,s.heap.Ns L m->s'.heap.Ns L m)->Q (.bool true) s'){p1 p2 p3:Pos}:wpAny (model pw w) A (eval (.Call (.Name "_law_refused" p1) [.Name "number" p2] [] p3) cenv) Q E s:=by
 obtain⟨_,_,_,l4,l5,l6⟩:=z7;have y:=adL fn hn gl bi ce loc l6 nsC hm;obtain⟨mg,mb,L1⟩:=am.la s.heap λ_ _ e=>e;obtain⟨fa,fo,fpm,fcd,asn,g1,g2,g3,g4⟩:=L1.fn _ GY;rw[zZ.n]at g1;have VO:de pw w (js w) (λ_=>True) (dX NV 7):=gw (oz w) 7;refine zD VO trivial am y (by rw[hn];exact l5) (by decide) ⟨mg,L1.g,g1⟩ g2 g3 (ds:=[.int x]) (by rw[hn];rfl') λs5 vs5 k5 t5 r5=>?_;have kd:=Keeps.all k5;obtain⟨hb,hh⟩:=yO s5.heap (λa=>a≠L);have hLn:hb.get? L=none:=by
  cases e:hb.get? L with
  |none=>rfl
  |some o=>exact absurd rfl ((hh L o).mp e).1
 have asp:=nsL.keeps kd;have K:Below A hb [env] s5.heap:=⟨Kj,λb o e=>((hh b o).mp e).2,hsk,by
  obtain⟨o,es,ep,e1,e2,_⟩:=asp;exact⟨L,o,hfm,hLn,e1,λvs q=>by rw[e2]at q;cases q⟩,trivial⟩
 refine ai (bw t5 (Dx (x:=x) K (kd _ _ g2) g3 (g4.keeps kd) bu (am.keeps k5 t5) (eO (ds:=[.int x]) rfl r5))) (λv s6 q=>?_) λ_ _ e=>e;obtain⟨t6,rfl,h6,tk6,rfl,q1,q2⟩:=q;have u:Upd (λa=>a=L) s5 {s5 with heap:=h6,toks:=tk6}:=⟨h6,tk6,rfl,λb o nb e=>q1 b o ((hh b o).mpr ⟨nb,e⟩)⟩
 exact hQ _ t6 ((Upd.of k5).trans u) λm q=>q2.ns (q.keeps kd)
end
end
end Internal.B
namespace Internal.B
section
open LCg (lst)
section
variable{w:World}{A:aC}{E:Value->ah->Prop}{s sb:ah}{env:Env}{L:Addr}
inductive ZJ(L:Addr)(s:ah)(C D:Addr)(St:Nat->Heap->Prop)(l:Nat)(n:Nat)(s1:ah):Prop
 |mk (i:Nat) (hi:i<=l) (hn:n=l+1 - i) (st:St i s1.heap) (z:ZR L s s1) (mC:Str->Option Value) (nsC:s1.heap.Ns C mC) (hD:s1.heap.PlainList D (bh i (.bool true)).toArray)
theorem alf{cenv:Env}{C D I:Addr}{fp:List Addr}{P:Nat->Value->Prop}{St:Nat->Heap->Prop}{xs:List Int}{R:G6->ah->Prop}{t:ae}{p1 p2 p3 px pos:Pos}(am:dz A (js w) sb)(kb:Keeps sb s)(hLb:sb.heap.get? L=none)(bu:Bu 50 A)(Kj:A.frames=some [env])(hsk:env.scope.kind≠.module)(hfm:env.frame=some L)(nsL:s.heap.Ns L mL)
(fn:cenv.scope.kind=.function)(hn:cenv.scope.names=eh tS)(gl:cenv.globals=mainGlobals)(bi:cenv.builtins=builtinsNs)(ce:cenv.cells=[])(loc:cenv.locals=C)
(no:yk I P St)(W:Walks pw w A I fp [I] xs.length P St)(Cu:∀b∈fp,b=I\/((s.heap.get? b).isSome=true/\b≠L))(hP:∀i v,P i v->∀x,xs[i]? =some x->∃t,v=.int x t)
(hI:s.heap.get? I=none)(hC:s.heap.get? C=none)(hD:s.heap.get? D=none)(hIC:I≠C)(hID:I≠D)(hCD:C≠D)(hl:xs.length<=1000)
(hR:∀s',ZR L s s'->(∃m,s'.heap.Ns C m)->s'.heap.PlainList D (bh xs.length (.bool true)).toArray->R (.ok .next) s')(s0:ah)(z:ZR L s s0)(st:St 0 s0.heap)(nsC:s0.heap.Ns C mC)(hD0:s0.heap.PlainList D #[]):
 codeAny (model pw w) A (.compLoop (.ListComp (.Call (.Name "_law_refused" p1) [.Name "number" p2] [] p3) [⟨.Name "number" px,t,[],0⟩] tS pos) 0 (.ref I) (.ref D) cenv) R s0:=by
 have sL:(s.heap.get? L).isSome=true:=by obtain ⟨o,_,_,e,_⟩:=nsL;rw [e];rfl
 have ne:∀{a},s.heap.get? a=none->L≠a:=λh z=>nS h (z▸sL)
 obtain ⟨_,_,_,l4,_,_⟩:=z7;refine Fe (ZJ L s C D St xs.length) (λn s1 hJ Q E' hN hA=>?_) (xs.length+1) ⟨0,dk _,rfl,st,z,_,nsC,hD0⟩
 cases hJ with
 |mk i hi PG st z mC nsC hDl=>
 rw [sz];refine ao (dM (ao ?_));rcases pL hi with mm|PJ
 ·refine qy W mm z.tk st λv s2 t2 u1 p Mc=>?_
  obtain ⟨tx,rfl⟩:=hP i v p _ (bC mm);have z2:=z.upd u1 t2 hI (ne hI)
  have k1:Kept (λa=>a=I) s1.heap s2.heap:=u1.kept λ_ q=>q
  have asu:=nsC.at' λo e=>k1 C o (gm hIC) e
  have hD2:=hDl.at λo e=>k1 D o (gm hID) e
  refine ao (qx no p Mc (ao (g7 (m8 (m:=mC) (by unfold gT;rw [hn];exact l4) (by rw [loc];exact asu) (λh3 hn3 hs3=>?_) (by rw [fn];rfl)))))
  rw [loc] at hn3 hs3;have u3:Upd (λa=>a=C) s2 {s2 with heap:=h3,toks:=s2.toks+1}:=⟨h3,_,rfl,λb o hb e=>hs3.extBut b o hb e⟩
  have z3:=z2.upd u3 (nW 1 _) hC (ne hC)
  have xX:St (i+1) h3:=W.frame _ _ _ Mc λb hb o e=>hs3.extBut b o (λz=>by
   rcases Cu b hb with q|q
   ·exact hIC (q▸z)
   ·exact nS hC (z▸q.1)) e
  have hD3:h3.PlainList D (bh i (.bool true)).toArray:=hD2.at λo e=>hs3.extBut _ o (gm hCD) e
  refine ao (ai (bw (nW 1 _) (BA (VB:=λ_ _=>none) (σ:=[]) (az:={s2 with heap:=h3,toks:=s2.toks+1}) (λc b s hv=>by cases hv) [] true _ rfl Keeps.rfl' (nW 1 _))) (λok s4 q4=>?_) λ_ _ e=>e)
  obtain ⟨t4,rfl,k4⟩:=q4;rw [if_pos rfl];have z4:=z3.keeps k4 t4
  have Ku:=am.keeps (z4.base kb hLb) t4
  refine ao (ao (adM Ku bu Kj hsk hfm (z4.ns _ nsL) fn hn gl bi ce loc (hn3.keeps (Keeps.all k4)) (if_pos rfl) λs5 t5 u5 n5=>?_))
  have k5:Kept (λa=>a=L) s4.heap s5.heap:=u5.kept λ_ q=>q
  have z5:ZR L s s5:=⟨t5,z4.u.trans (u5.more λa q=>.inl q),λm q=>n5 _ (z4.ns m q)⟩
  have asv:=(hn3.keeps (Keeps.all k4)).at' λo e=>k5 C o (gm (ne hC)) e
  have hD5:=hD3.at λo e=>k5 D o (gm (ne hD)) (Keeps.all k4 _ _ e)
  have st5:St (i+1) s5.heap:=W.frame _ _ _ xX λb hb o e=>k5 b o (λz=>by
   rcases Cu b hb with q|q
   ·exact ne hI (q▸z).symm
   ·exact q.2 z) (Keeps.all k4 b o e)
  refine ao (lL (items:=(bh i (.bool true)).toArray) (hsz:=by rw [aX,gq];exact aq (by omega:i<=1000) (by decide)) hD5 λh6 hp hs=>aL (aL ?_))
  rw [show (bh i (ad6 true)).toArray.push (.bool true)=(bh (i+1) (ad6 true)).toArray from by rw [List.push_toArray,List.replicate_succ']] at hp
  have u6:Upd (λa=>a=D) s5 {s5 with heap:=h6}:=⟨h6,_,rfl,λb o hb e=>hs.extBut b o hb e⟩
  have st6:St (i+1) h6:=W.frame _ _ _ st5 λb hb o e=>hs.extBut b o (λz=>by
   rcases Cu b hb with q|q
   ·exact hID (q▸z)
   ·exact nS hD (z▸q.1)) e
  have k6:Kept (λa=>a=D) s5.heap h6:=λb o hb e=>hs.extBut b o hb e
  exact hA (xs.length+1 - (i+1)) _ (by omega) ⟨i+1,mm,rfl,st6,z5.upd u6 t5 hD (ne hD),_,asv.at' λo e=>k6 C o hCD e,hp⟩
 ·refine qz W z.tk (PJ▸st) λs2 t2 u1=>aL (hN _ (hR _ (z.upd u1 t2 hI (ne hI)) ⟨mC,nsC.at' λo e=>u1.kept (G:=λa=>a=I) (λ_ q=>q) C o (gm hIC) e⟩ ?_))
  rw [<-PJ];exact hDl.at λo e=>u1.kept (G:=λa=>a=I) (λ_ q=>q) D o (gm hID) e
end
end
end Internal.B
namespace Internal.B
section
theorem WQ:(tS.names.map (·.1)).Nodup/\(∀ks σ,mQ ks σ tS.names=true)/\(∀env,gJ env tS.names []=[])/\(∀n,cellsFrom n tS.names []=[]):=⟨wA (by rfl'),λ_ _=>by rfl',λ_=>by rfl',λ_=>by rfl'⟩
theorem In.zr{env:Env}{G:Addr->Prop}{σ:cy}{s s1:ah}(x:In env G σ s.heap)(z:ZR env.locals s s1):In env G σ s1.heap:=by
 have u:=Upd.Nn (G:=λa=>a=env.locals) z.u;have k:Kept (λa=>a=env.locals) s.heap s1.heap:=u.kept λ_ q=>q;have hX:∀a,a=env.locals->G a:=λa q=>q▸x.fl;obtain⟨m,hm,hv⟩:=x.va;have Ks:=z.ns m hm;refine⟨x.fn,x.gl,x.bi,λb q=>?_,x.fl,x.fc,x.inj,λn hn=>?_,m,Ks,λn d e=>⟨λhk=>?_,λhk=>?_⟩⟩
 ·by_cases hb:b=env.locals
  ·obtain⟨o,_,_,e,_⟩:=Ks
   rw[hb,e];rfl
  ·obtain⟨o,e⟩:=ay.mp (x.lo b q)
   rw[k b o hb e];rfl
 ·obtain⟨c,v,h1,o,h2,h3⟩:=x.ce n hn
  exact⟨c,v,h1,o,k _ _ (x.fc n c h1).2 h2,h3⟩
 ·obtain⟨v,h1,h2⟩:=(hv n d e).1 hk
  exact⟨v,h1,u.rep hX h2⟩
 ·obtain⟨c,v,h1,⟨o,h2,X0⟩,h3⟩:=(hv n d e).2 hk
  exact⟨c,v,h1,⟨o,k _ _ (x.fc n c h1).2 h2,X0⟩,u.rep hX h3⟩
section
variable{w:World}{A:aC}{E:Value->ah->Prop}{G:Addr->Prop}{s sb:ah}{env:Env}{σ:cy}{V:Ev}{Bu':aC->Prop}
theorem Sb{xs:List Int}(VO:de pw w (js w) Bu' V)(bu':Bu' A)(bu:Bu 50 A)(am:dz A (js w) sb)(kb:Keeps sb s)(tk:1<=s.toks)(hLb:sb.heap.get? env.locals=none)(x:In env G σ s.heap)(Kj:A.frames=some [env])(hfm:env.frame=some env.locals)
(hd:V.d env.scope.names σ R9=some (.tup (xs.map .int)))(hl:xs.length<=1000):
 wpAny (model pw w) A (eval lZ env) (λv s'=>ZR env.locals s s'/\∃D,v=.ref D/\s.heap.get? D=none/\s'.heap.PlainList D (bh xs.length (.bool true)).toArray) E s:=by
 obtain ⟨l1,l2,l3,l4,l5,l6⟩:=z7;obtain ⟨m1,m2,m3,m4⟩:=WQ;have hsk:env.scope.kind≠.module:=by rw [x.fn];decide
 rw [ald,eval_ListComp];have ci0:=sy x l2 m1 (m2 _ _) (Keeps.rfl' (s:=s))
 refine aed (g:=⟨.Name "number" (RY lZ).pos,R9,[],0⟩) (gs:=[]) rfl (λy=>jq l1 env y) ci0.2.1 l2 (λy hy hl=>mem_lookup m1 (by rw [<-hl];exact hy)) ?_
 have AQ:=am.keeps kb tk
 refine ai (bw tk (VO.d A _ env G σ s _ _ bu' AQ x hd)) (λv s1 q=>?_) λ_ _ e=>e
 obtain ⟨t1,k1,r1⟩:=q;have kd1:=Keeps.all k1
 have x1:=x.keeps kd1
 refine ai (bw t1 (jZ am.hh x1.lo r1 (ds:=xs.map .int) rfl)) (λit s2 q2=>?_) λ_ _ e=>e
 obtain ⟨t2,k2,hit⟩:=q2;rw [m3];refine wpAny_newObj_type (wz ?_);refine (?_:codeAny (model pw w) A (.compStart (.ListComp (.Call (.Name "_law_refused" (pH WO).pos) [.Name "number" (pj 0 WO).pos] [] WO.pos) [⟨.Name "number" (RY lZ).pos,R9,[],0⟩] tS lZ.pos) 0 it (.ref s2.heap.objs.size) {scope:=relabel tS env,locals:=(s2.heap.push {cls:=.type "list",data:=.seq ([]:List Value).toArray}).objs.size,globals:=env.globals,cells:=cellsFrom ((s2.heap.push {cls:=.type "list",data:=.seq ([]:List Value).toArray}).objs.size+1) tS.names [],qual:=env.qual,func:=none,code:=env.code,frame:=env.frame,builtins:=env.builtins}) (compPost (model pw w) A E none (λv s'=>ZR env.locals s s'/\∃D,v=.ref D/\s.heap.get? D=none/\s'.heap.PlainList D (bh xs.length (.bool true)).toArray) (.ref s2.heap.objs.size) (s2.heap.push {cls:=.type "list",data:=.seq ([]:List Value).toArray}).objs.size) {s2 with heap:=fH tS (s2.heap.push {cls:=.type "list",data:=.seq ([]:List Value).toArray})})
 have k23:Keeps s2 {s2 with heap:=s2.heap.push {cls:=.type "list",data:=.seq ([]:List Value).toArray}}:=Keeps.push _
 have ci:=sy x1 l2 m1 (m2 _ _) (Keeps.trans' k2 k23)
 have ci:In (ot tS env (s2.heap.push {cls:=.type "list",data:=.seq ([]:List Value).toArray}).objs.size) _ _ (fH tS (s2.heap.push {cls:=.type "list",data:=.seq ([]:List Value).toArray})):=ci.2.2.1
 have k34:bV (s2.heap.push {cls:=.type "list",data:=.seq ([]:List Value).toArray}) (fH tS (s2.heap.push {cls:=.type "list",data:=.seq ([]:List Value).toArray})):=λb o e=>pM _ _ b o (aV _ e)
 have hD0:(s2.heap.push {cls:=.type "list",data:=.seq ([]:List Value).toArray}).get? s2.heap.objs.size=some {cls:=.type "list",data:=.seq ([]:List Value).toArray}:=gN _ _ rfl
 have hsz:(s2.heap.push {cls:=.type "list",data:=.seq ([]:List Value).toArray}).objs.size=s2.heap.objs.size+1:=ia ..
 generalize s2.heap.push {cls:=.type "list",data:=.seq ([]:List Value).toArray}=h3 at*;generalize fH tS h3=h4 at*;have nw2:∀a:Nat,s2.heap.objs.size<=a->s2.heap.get? a=none:=λa ha=>by
  cases e:s2.heap.get? a with
  |none=>rfl
  |some o=>exact absurd (cY e) (pN.mpr ha)
 have Y7:=Keeps.all k2
 have nw1:∀a:Nat,s2.heap.objs.size<=a->s1.heap.get? a=none:=λa ha=>J1 Y7 (nw2 a ha)
 have nD:=nw1 _ (cf _)
 have nC:=nw1 h3.objs.size (hsz▸Nat.le_succ _)
 have hCD:h3.objs.size≠s2.heap.objs.size:=by rw [hsz];exact Nat.succ_ne_self _
 generalize hDd:s2.heap.objs.size=D at*;generalize hCd:h3.objs.size=C at*;have nm:(relabel tS env).names=eh tS:=ci0.1
 obtain ⟨mC,hmC,_⟩:=ci.va;have hmC:h4.Ns C mC:=hmC
 have sD:=hDd
 cases hit with
 |mk I fp P St hx no W st SE yl Cu hP=>
 subst hx;have hI2:=yl _ _ st
 have XZ:I<D:=by
  obtain ⟨o,e⟩:=ay.mp hI2;exact hDd▸cY e
 have hIC:I≠C:=eA (dF XZ (by rw [hsz];exact d6 _))
 have Ka:Keeps s2 {s2 with heap:=h4}:=Keeps.trans' k23 ⟨h4,s2.toks,rfl,k34⟩
 have Eh:St 0 h4:=W.frame _ _ _ st λb _ o e=>Keeps.all Ka b o e
 rw [aj] at W;obtain ⟨mL,hmL,_⟩:=x1.va;have hD4:h4.PlainList D #[]:=⟨_,k34 _ _ hD0⟩
 have fin:∀s',ZR env.locals s1 s'->(∃m,s'.heap.Ns C m)->s'.heap.PlainList D (bh xs.length (.bool true)).toArray->compPost (model pw w) A E none (λv s'=>ZR env.locals s s'/\∃D,v=.ref D/\s.heap.get? D=none/\s'.heap.PlainList D (bh xs.length (.bool true)).toArray) (.ref D) C (.ok .next) s':=λs' z ⟨m,hm⟩ hp=>⟨m,hm,λh' om=>by
  have z1:ZR env.locals s s':=⟨z.tk,((Upd.of k1).trans (Upd.Nn (G:=λa=>a=env.locals) z.u)).more λ_ q=>.inl q,λm q=>z.ns m (q.keeps kd1)⟩
  have nC0:=J1 kd1 nC
  have sL:(s.heap.get? env.locals).isSome=true:=x.lo _ x.fl
  exact ⟨z1.upd ⟨h',s'.toks,rfl,λb o hb e=>om.extBut b o hb e⟩ z.tk nC0 (λq=>nS nC0 (q▸sL)),D,rfl,J1 kd1 nD,hp.at λo e=>om.extBut D o (gm hCD) e⟩⟩
 have lp:codeAny (model pw w) A (.compLoop (.ListComp (.Call (.Name "_law_refused" (pH WO).pos) [.Name "number" (pj 0 WO).pos] [] WO.pos) [⟨.Name "number" (RY lZ).pos,R9,[],0⟩] tS lZ.pos) 0 (.ref I) (.ref D) _) _ {s2 with heap:=h4}:=
  alf (s:=s1) (xs:=xs) am (Keeps.trans' kb k1) hLb bu Kj hsk hfm hmL (cenv:={scope:=relabel tS env,locals:=C,globals:=env.globals,cells:=cellsFrom (C+1) tS.names [],qual:=env.qual,func:=none,code:=env.code,frame:=env.frame,builtins:=env.builtins}) (show (relabel tS env).kind=_ from l2) nm x.gl x.bi (m4 (C+1)) rfl no W
   (λb hb=>(Cu b hb).imp id λq=>⟨q.2,λz=>q.1 (z▸x1.fl)⟩) (λi v p y hy=>by
     have:=hP i v s1.heap G p (λb o _ e=>e) (λb q=>.inl q) (.int y) (by rw [gG,hy];rfl)
     exact this.int) SE nC nD hIC (eA XZ) hCD hl fin _ ⟨t2,Upd.of (Keeps.trans' k2 Ka),λm q=>q.keeps (Keeps.all (Keeps.trans' k2 Ka))⟩ Eh hmC hD4
 exact xt lp (W.self 0 _ _ _ Eh lp)
end
end
end Internal.B
end
section
open PySem PySem.W PyProof.Rows
set_option exponentiation.threshold 2000
namespace Internal.Z
section
open Internal.V
def WR(X:Option D)(k:Option D):Option D:=X.bind λd=>(nr d).bind λb=>match Hq,b with
 |.And,false=>some d
 |.Or,true=>some d
 |_,_=>k
theorem aT(h:X=some (.bool true))(hk:k=r):WR X k=r:=by rw[h];exact hk
section
variable{T:ek}(p:Lp)(whole dv q:Int)
abbrev Nu:cy:=DT p++([("whole",.int whole),("divisor",.int dv)]:cy)
abbrev DU:cy:=DT p++([("whole",.int whole),("divisor",.int dv),("quotient",.int q)]:cy)
theorem ali:(dX T 31).d lK (DT p) (lE 13 0)=(aE .Pow (.int 2) (.int p.width)).bind λd=>aE .Sub d (.int 2):=by rfl'
theorem alj:(dX T 31).d lK (Nu p whole dv) (bj (ak 14 lB))=aE .FloorDiv (.int (whole - p.orders)) (.int dv):=by rfl'
theorem l_z:(dX T 31).d lK (DU p whole dv q) Internal.B.R9=some (.tup [.int whole,.int (-whole),.int 0]):=by rfl'
theorem asw:(dX T 31).d lK (DU p whole dv q) (bj (ak 16 lB))=
 WR (T.fn "_law_fourfold" [.int whole,.int dv,.int q,.int p.orders]) (WR (T.fn "_law_fourfold" [.int (whole - p.orders),.int dv,.int q,.int 0]) (WR (T.fn "_law_fourfold" [.int p.orders,.int dv,.int 0,.int p.orders]) (T.fn "_law_fourfold" [.int 0,.int dv,.int 0,.int 0]))):=by rfl'
end
structure A3(p:Lp)(width O R P:Nat)(whole:Nat)(dv q:Int):Prop where
 dlt:∀d∈dy R P,d<2^width
 wle:whole<2^330
 wh:whole=pn width (dy R P)
 dg:fL width whole=dy R P
 d3:(dy R P).length<=3
 dvi:dv=((2^width - 2:Nat):Int)
 eqn:(whole:Int)=dv*q+O
 lt:(O:Int)<dv
 dv0:0<dv
 dv4:dv<2^40
theorem WS(F:qt p width O R P):∃dv q,A3 p width O R P (pn width (dy R P)) dv q:=by
 obtain⟨⟨w8,w30⟩,_,_,_,oc,o4,rp⟩:=F;have h8:2^8<=2^width:=bO (by decide) w8;have h30:2^width<=2^30:=bO (by decide) w30;have mm:=Js width R P w8 (by omega) (by omega);have Yi:(dy R P).length<=3:=List.length_take_le' ..;have ab6:=GR width R P rp;have hwh:=R5 (2^width) R P (by omega);rw[<-oc]at hwh;have hwl:pn width (dy R P)<2^330:=cw (QQ width _ mm) (bO (by decide) (aq (xy w30 Yi) (by decide)));refine⟨((2^width - 2:Nat):Int),((R+P*(2^width+2):Nat):Int),mm,hwl,rfl,?_,Yi,rfl,?_,by omega,by omega,by omega⟩
 ·have m7:dy R P≠[]:=by
   unfold dy;rw[Ne,List.take_eq_nil_iff];rintro(h|h)
   ·split at h<;>first|(cases h;done)|(split at h<;>cases h)
   ·cases h
  obtain⟨l,x,e⟩:∃l x,dy R P=l++[x]:=⟨(dy R P).dropLast,(dy R P).getLast m7,(List.dropLast_concat_getLast m7).symm⟩;have hx:=Du R P;rw[e,List.getLastD_concat]at hx;rw[e]at mm⊢;exact WG (by omega) l x (by omega) mm
 ·rw[ab6,hwh]
  rw[ff,nX,W8]
end
end Internal.Z
namespace Internal.Z
open Internal.V
theorem Sd{T T1:ek}(hF:FF T){p:Lp}{whole:Nat}{dv q:Int}(F:qt p width O R P)(N:A3 p width O R P whole dv q):
 (dX T1 31).d lK (DT p) (lE 13 0)=some (.int dv)/\(dX T1 31).d lK (Nu p whole dv) (bj (ak 14 lB))=some (.int q)/\(dX T 31).d lK (DU p whole dv q) (bj (ak 16 lB))=some (.bool true):=by
 obtain⟨⟨w8,w30⟩,ew,eo,_,_,o4,_⟩:=F;obtain⟨_,wle,_,_,_,dvi,eqn,lt,dv0,dv4⟩:=N;have h8:2^8<=2^width:=bO (by decide) w8;rw[ali,alj,asw,ew,eo];refine⟨oB (WD w30) ?_,?_,?_⟩
 ·show some (D.int (((2^width:Nat):Int) - 2))=_
  rw[dvi,Al (by omega)];rfl
 ·show(if dv≠0/\sm dv=true then some (D.int ((whole - (O:Int)).fdiv dv))else none)=_
  have hs:sm dv=true:=by
   rw[dvi];exact zp (x:=2^width - 2) (n:=30) (by have:2^width<=2^30:=bO (by decide) w30;omega) (by decide)
  rw[if_pos ⟨by omega,hs⟩,show(whole:Int) - O=dv*q by omega,Int.mul_fdiv_cancel_left _ (by omega)]
 ·have h5:(2:Nat)^330<2^500:=by decide
  have h6:((2^500:Nat):Int)=2^500:=gH 2 500;have h7:(2:Int)^500+100<2^520:=by decide
  have h8:(2:Int)^40<2^100:=by decide
  have h9:(254:Int)<2^500:=by decide
  have s1: -(2^520)<(whole:Int)/\(whole:Int)<2^520:=by omega
  have s2: -(2^520)<(whole:Int) - O/\(whole:Int) - O<2^520:=by omega
  have z0: -(2^520)<(O:Int)/\(O:Int)<2^520:=by omega
  have b1:dv<2^100:=by omega
  exact aT (hF whole dv q O s1.1 s1.2 dv0 b1 eqn (bG _) lt)
   (aT (hF (whole - O) dv q 0 s2.1 s2.2 dv0 b1 (by omega) (Ht _) dv0)
   (aT (hF O dv 0 O z0.1 z0.2 dv0 b1 (by omega) (bG _) lt) (hF 0 dv 0 0 (by decide) (by decide) dv0 b1 (by omega) (Ht _) dv0)))
end Internal.Z
namespace Internal.I
section
open Internal.Z (lB lK lE DT Nu DU pn fL ju Lp qt A3)
inductive Cd(h:Heap)(d:tK)(pos:Pos)(qual:Str)(P:Addr):Prop
 |mk (a:Addr) (o:Obj) (pm:Value) (c:Addr) (doc:Value) (g:Gv h d.name (.ref a)) (ho:h.get? a=some o) (hd:o.data=.func (cO d.name d.params d.body d.scope pm (.ref c) doc)) (rc:h.CodeRec (.ref c) d.name) (pl:Place h c P pos qual)
theorem Gv.keeps(g:Gv h n v)(k:bV h h'):Gv h' n v:=by obtain⟨mg,a,b⟩:=g;exact⟨mg,a.keeps k,b⟩
theorem Place.keepsP(x:Place h c P pos q)(k:bV h h'):Place h' c P pos q:=
 ⟨x.hd.keeps k,by obtain⟨ps,a,b,d⟩:=x.tab;exact⟨ps,k _ _ a,b,d.imp id λ⟨c',e,r⟩=>⟨c',e,r.keeps k⟩⟩⟩
theorem Cd.keeps(x:Cd h d pos qual P)(k:bV h h'):Cd h' d pos qual P:=
 by obtain⟨a,o,pm,c,doc,h1,h2,h3,h4,h5⟩:=x;exact⟨a,o,pm,c,doc,Gv.keeps h1 k,k _ _ h2,h3,h4.keeps k,Place.keepsP h5 k⟩
theorem Wm.keeps(x:Wm h d pos qual P)(k:bV h h'):Wm h' d pos qual P:=
 by obtain⟨a,o,pm,c,doc,h1,h2,h3,h4,h5⟩:=x;exact⟨a,o,pm,c,doc,Gv.keeps h1 k,k _ _ h2,h3,h4.keeps k,h5.zv k⟩
theorem Se(l:List Nat):l.map di=(l.map fQ).map D.int:=by rw[eU];rfl
def mX(h h':Heap):Prop:=∀b o,h.get? b=some o->(∀es ep,o.data≠.dict es ep)->(∀v,o.data≠.cell v)->h'.get? b=some o
section
variable{prog:bb}{w:World}{A:aC}{E:Value->ah->Prop}{G F:Addr->Prop}{env:Env}{az s s':ah}{σ:cy}{oa:Str->Addr}{La:Heap->Prop}{Qq:aC->Prop}{V:Ev}
theorem Sf(si:SI env F az σ [] s G oa)(fr:n7 env F az)(hk:env.kindOf n=some .local)(oo:∀a,env.cells.lookup n≠some a)(r:bW s.heap G d v):
 wpAny (model prog w) A (storeName env n v) (λ_ s'=>SI env F az (put n d σ) [] s' G oa/\mX s.heap s'.heap) E s:=by
 obtain⟨ml,Vg,_⟩:=si.ie.va;refine ai (SI.bind (d:=d) si fr (.inl hk) (λ_=>r)) (λ_ s' q=>?_) λ_ _ e=>e;obtain⟨_,u,Mp,_⟩:=q;refine⟨Mp,λb o e n1 n2=>u.kept (G:=λa=>a=env.locals\/env.cells.lookup n=some a) (λ_ q=>q) b o (λq=>?_) e⟩;rcases q with q|q
 ·obtain⟨o',es,ep,e',d',_⟩:=Vg
  rw[<-q,e]at e';cases e';exact n1 es ep d'
 ·exact oo b q
theorem asy(VO:de prog w La Qq V)(bu:Qq A)(am:dz A La s)(fr:n7 env F az)(hk:env.kindOf n=some .local)(oo:∀a,env.cells.lookup n≠some a)(si:SI env F az σ [] s G oa)(h:V.d env.scope.names σ e=some d)(FD:my env.scope.names n p e=false):
 wpAny (model prog w) A (exec (.Assign [.Name n p] e pos) env) (λf s'=>f=.next/\SI env F az (put n d σ) [] s' G oa/\mX s.heap s'.heap) E s:=by
 have x:In env G σ s.heap:=si.ie.sub λm d e=>by rw[fJ];simpa using e
 refine se (ai (bw am.tk (VO.d A _ env G σ s e _ bu am x h)) (λv s1 q=>?_) λ_ _ e=>e) (by rw[nL si.ie.fn,FD]);obtain⟨t1,k1,r1⟩:=q;refine ai (Sf (si.keeps k1 t1) fr hk oo r1) (λ_ s2 q=>?_) λ_ _ e=>e;exact⟨rfl,q.1,λb o e n1 n2=>q.2 b o (Keeps.all k1 b o e) n1 n2⟩
end
theorem mX.trans(a:mX h1 h2)(b:mX h2 h3):mX h1 h3:=λx o e n1 n2=>b x o (a x o e n1 n2) n1 n2
theorem CodeRec.dc(x:h.CodeRec cd q)(k:mX h h'):h'.CodeRec cd q:=by
 obtain⟨c0,o,vs,t,e,g,d,r⟩:=x;exact⟨c0,o,vs,t,e,k _ _ g (λ_ _ q=>by rw[d]at q;cases q) (λ_ q=>by rw[d]at q;cases q),d,r⟩
theorem jJ.dc(x:jJ h c P pos q)(k:mX h h'):jJ h' c P pos q:=by
 obtain⟨ps,c',h1,h2,h3,h4⟩:=x.tab;exact⟨qE x.hd λ_ _ e d=>k _ _ e (λ_ _ q=>nomatch d.symm.trans q) (λ_ q=>nomatch d.symm.trans q),ps,c',k _ _ h1 (λ_ _ q=>nomatch q) (λ_ q=>nomatch q),h2,h3,CodeRec.dc h4 k⟩
theorem jJ.but(x:jJ h c P pos q)(t:TabAt h P2)(k:bH P2 h h')(m7:P≠P2)(hc:h.CodeRec (.ref c) nm):jJ h' c P pos q:=by
 obtain⟨ps,c',h1,h2,h3,h4⟩:=x.tab;exact⟨qE x.hd λ_ _ e _=>k _ _ e (rU t hc),ps,c',k _ _ h1 m7,h2,h3,CodeRec.but t k h4⟩
end
end Internal.I
namespace Internal.I
section
open Internal.Z (lB lK lE DT Nu DU pn fL ju Lp qt A3)
theorem Gv.but(t:TabAt h P)(k:bH P h h')(g:Gv h n v):Gv h' n v:=by obtain⟨mg,a,b⟩:=g;exact⟨mg,Ns.but t k a,b⟩
theorem Gv.uniq(g:Gv h n v)(g':Gv h n v'):v=v':=by
 obtain⟨m,a,b⟩:=g;obtain⟨m',a',b'⟩:=g';have:=Ns.uniq a a' n;rw[b,b']at this;exact af this
theorem z8(t:TabAt h P)(e:h.get? a=some o)(d:o.data=.func fd):a≠P:=λz=>by
 obtain⟨ps,h1,_⟩:=t;rw[z,h1]at e;cases e;cases d
theorem Cd.but(x:Cd h d pos qual P)(t:TabAt h P2)(k:bH P2 h h')(m7:P≠P2):Cd h' d pos qual P:=by
 obtain⟨a,o,pm,c,doc,h1,h2,h3,h4,h5⟩:=x;refine⟨a,o,pm,c,doc,Gv.but t k h1,k _ _ h2 (z8 t h2 h3),h3,CodeRec.but t k h4,?_,?_⟩
 ·exact qE h5.hd λ_ _ e _=>k _ _ e (rU t h4)
 ·obtain⟨ps,e1,e2,e3⟩:=h5.tab
  exact⟨ps,k _ _ e1 m7,e2,e3.imp id λ⟨c',e,r⟩=>⟨c',e,CodeRec.but t k r⟩⟩
theorem Cd.at(x:Cd h d pos qual P):TabAt h P:=by
 obtain⟨_,_,_,_,_,_,_,_,_,p⟩:=x;exact p.tabAt
def tB:tK:=(iG.find? (λd=>d.name==("_law_plain":Str))).getD ⟨("":Str),default,[],default,default⟩
theorem Nv:tB∈iG:=by
 have:(iG.find? (λd=>d.name==("_law_plain":Str))).isSome=true:=by rfl'
 obtain⟨d,hd⟩:=ay.mp this;have e:tB=d:=by unfold tB;rw[hd];rfl
 rw[e];exact d8 hd
theorem Ju:tB.name=("_law_plain":Str):=by rfl'
theorem asz:Internal.Z.FF (Internal.Z.Tn jw 12):=by
 have nn:∀f:Str,(f==("_int2digits":Str))=false->(f==("_digits2int":Str))=false->jw f=none:=zz;have h1:Internal.Z.D1 (Internal.Z.Tn jw 1):=Internal.Z.Yo (nn _ (by decide) (by decide)) 0;have h2:∀r,Internal.Z.D2 (Internal.Z.Tn jw (r+1+1)):=λr=>Internal.Z.ajJ (nn _ (by decide) (by decide)) (r+1) (acD r) (Internal.Z.Yo (nn _ (by decide) (by decide)) r);have h3:∀r,Internal.Z.D3 (Internal.Z.Tn jw (r+1+1+1)):=λr=>Internal.Z.ajK (nn _ (by decide) (by decide)) (r+1+1) (h2 r);have h4:∀r,Internal.Z.D4 (Internal.Z.Tn jw (r+1+1+1+1)):=λr=>Internal.Z.ajL (nn _ (by decide) (by decide)) (r+1+1+1) (h3 (r+1)) (h3 r);have h5:∀r,Internal.Z.D5 (Internal.Z.Tn jw (r+1+1+1+1+1)):=λr=>Internal.Z.ajM (nn _ (by decide) (by decide)) (r+1+1+1+1) (h4 (r+1)) (h4 r);exact Internal.Z.ajP (nn _ (by decide) (by decide)) 11 (Internal.Z.Yr (nn _ (by decide) (by decide)) 10) (h5 6)
theorem WT(h:Bu k A)(hj:j<=k):Bq j A:=⟨aq (hU hj _) (aq h.1 (by decide)),bk (ji (hU (c7 3 hj) _) 203) h.2⟩
section
variable{w:World}{A:aC}{E:Value->ah->Prop}{F G:Addr->Prop}{env:Env}{s sb s':ah}{oa:Str->Addr}{p:Lp}{m:Np}{whole:Nat}{side A4:Int}{PD:Addr}{Q:Flow->ah->Prop}{rest:List Stmt}
end
end
end Internal.I
end
section
open PySem PySem.W PyProof.Rows
namespace Internal.Q
open Internal.I (Cd ly eI eQ kj qn)
inductive YP2(w:World)(h:Heap):Prop
 |mk (y:YP w h) (mg:Str->Option Value) (g:h.Ns mainGlobals mg) (c1 P1 c2 P2:Addr) (t1:IT mg h "_int2digits" c1 P1) (t2:IT mg h "_digits2int" c2 P2) (ne:P1≠P2)
theorem IT.keeps(x:IT mg h n c P)(k:∀b o,h.get? b=some o->h'.get? b=some o):IT mg h' n c P:=
 by obtain⟨a,o,fd,h1,h2,h3,h4,h5,h6⟩:=x;exact⟨a,o,fd,h1,k _ _ h2,h3,h4,h5.keeps k,k _ _ h6⟩
theorem Nw(w)(h h')(x:YP2 w h)(k:∀b o,h.get? b=some o->h'.get? b=some o):YP2 w h':=
 by obtain⟨y,mg,g,c1,P1,c2,P2,t1,t2,ne⟩:=x;exact⟨F0 w h h' y k,mg,g.keeps k,c1,P1,c2,P2,t1.keeps k,t2.keeps k,ne⟩
theorem adQ(w:World)(s:ah)(e:(s.heap.isNs mainGlobals,HF.look s.heap,EO s.heap)=(true,Bh w,true)):YP2 w s.heap:=by
 obtain⟨e1,e2⟩:=gy e;obtain⟨e2,e3⟩:=gy e2;unfold EO at e3;simp only[av]at e3;obtain⟨b1,b2,b3⟩:=e3;obtain⟨x,h1,b3⟩:=nN (g:=λo=>o.getD false) b3 rfl;obtain⟨y,h2,b3⟩:=uq b3;exact⟨aiJ w s (by rw[e1,e2]),s.heap.nsMap mainGlobals,.of_isNs e1,x.1,x.2,y.1,y.2,Kx h1 b1,Kx h2 b2,λz=>by rw[z,tN]at b3;cases b3⟩
theorem Y8(L:pG mg mb w h)(hd:d∈iG)(g':h.Ns mainGlobals SJ)(t:IT SJ h d.name c P):Cd h d pos qual P:=by
 obtain⟨a,o,pm,code,doc,h1,h2,h3,h4⟩:=L.fn d hd;obtain⟨a',o',fd,t1,t2,t3,t4,t5,t6⟩:=t;have e:=Ns.uniq L.g g' d.name;rw[h1,t1]at e;cases(e);rw[h2]at t2;cases(t2);rw[h3]at t3;cases(t3);cases t4;exact⟨a,o,pm,c,doc,⟨mg,L.g,h1⟩,h2,h3,h4,t5,#[],t6,trivial,.inl rfl⟩
end Internal.Q
namespace Internal.J
theorem Jv:∀{xs:List WData},DY R xs .int=true->∃l:List Int,xs=l.map fw:=by
 intro zx
 induction zx with
 |nil=>
  rintro _;exact⟨[],rfl⟩
 |cons x xs ih=>
  rintro h;unfold DY at h;rw[av]at h;obtain⟨l,rfl⟩:=ih h.2;cases x<;>first|exact⟨_::l,rfl⟩|exact l8 (show false=true from h.1)
theorem Sg:∀{x:WData},WShape.has R x (.list .int)=true->∃l:List Int,x=.list (l.map fw):=λ{x} h=>by
 cases x<;>first|exact l8 (show false=true from h)|skip
 rename_i xs;have h:(DY R xs .int||false)=true:=h;rw[Bool.or_false]at h;obtain⟨l,rfl⟩:=Jv h;exact⟨l,rfl⟩
theorem Nx(h:Lu R args [.list .int]=true):∃l:List Int,args=[.list (l.map fw)]:=by
 cases args with
 |nil=>cases h
 |cons x r=>
  unfold Lu at h;rw[av]at h;obtain⟨l,rfl⟩:=Sg h.1;cases r with
  |nil=>exact⟨l,rfl⟩
  |cons _ _=>have:=h.2;unfold Lu at this;cases this
theorem less_int(a b):less? (.int a) (.int b)=some (decide (a<b)):=by rfl
theorem WU(l:List Int):(WTm.not (.lt (.lit (.int 63)) (.len (.arg 0)))).value [] {args:=[.list (l.map fw)]}=some (.bool !decide ((63:Int)<(l.length:Nat))):=by
 have e:(WTm.lt (.lit (.int 63)) (.len (.arg 0))).value [] {args:=[.list (l.map fw)]}=some (.bool (decide ((63:Int)<((l.map fw).length:Nat)))):=by
  show(less? (.int 63) (.int ((l.map fw).length:Nat))).map Af=_;rw[less_int];rfl
 show(match(WTm.lt (.lit (.int 63)) (.len (.arg 0))).value [] {args:=[.list (l.map fw)]}with|some (.bool b)=>some (Af (!b))|_=>none)=_;rw[e,aj]
theorem Ny{r:OpenLaw}{args:List WData}(hb:r.bound=none)(hm:r.most=some 63)(h:r.row.toRowW.claim.pre args=true):∃l:List Int,args=[.list (l.map fw)]/\l.length<=63:=by
 obtain⟨h1,h2⟩:=pre_splitW h;obtain⟨l,rfl⟩:=Nx (R:=[]) h1;refine⟨l,rfl,?_⟩;have h2:(avP r).holds [] {args:=[.list (l.map fw)]}=true:=h2;unfold avP at h2;rw[hb,hm]at h2;have h2:(match(match(WTm.not (.lt (.lit (.int 63)) (.len (.arg 0)))).value [] {args:=[.list (l.map fw)]}with
                      |some (.bool false)=>some (Af false)
                      |some (.bool true)=>(some (Af true))
                      |_=>none)with|some (.bool true)=>true|_=>false)=true:=h2
 rw[WU]at h2;by_cases q:(63:Int)<(l.length:Nat)
 ·rw[decide_eq_true q]at h2
  cases h2
 ·omega
end Internal.J
namespace Internal.Q
open Internal.I (Cd ly eI eQ kj qn)
def G0(s:ah):Bool:=bX 1 s.toks&&(s.heap.isNs cStatics&&(s.heap.nsMap cStatics sharingNotToldKey).isNone)
abbrev Yfs(s:ah):=(s.heap.isNs mainGlobals,HF.look s.heap,EO s.heap,G0 s)
abbrev Yas(w):=(true,Bh w,true,true)
theorem alm:LeftO pw ik iP (λ_=>true) Yfs Yas 4000000:=by
 refine LeftO.of_pieces (H₀:=fZ) (H₁:=g9) (gs₀:= #[]) (gs₁:= #[]) (d₀:=lz) (d₁:=lz) (k₀:=aeX) (k₁:=lO) (m₀:=11) (ann:=pE) (M:=ahB) ?_ ?_ (λw os=>Ui w os) (by rfl') ?_
 ·exact boot_open (by rfl') (by rfl') (λs=>rfl)
 ·intro w;rfl'
 ·intro w
  funext os;have h1:(staticsOk (importedModules pw.main.body) (fZ w.params) (g9 w.params)&&namesBound pw (g9 w.params)&&gensDone ⟨g9 w.params,#[],lz,lO,os⟩&&laidKept (fZ w.params) (g9 w.params))=true:=ahq w os;have h2:openSeen ik iP (importedModules pw.main.body) (λ_=>true) true ⟨g9 w.params,#[],lz,lO,os⟩=openGood ik iP:=by
   have:=ahs w os;rw[ahw]at this;exact this
  have h3:HF.look (g9 w.params)=Bh w:=ahr w os;rw[h1,h2];have h4:(g9 w.params).isNs mainGlobals=true:=by rfl'
  have h5:G0 ⟨g9 w.params,#[],lz,lO,os⟩=true:=by rfl'
  show(true,openGood ik iP,(g9 w.params).isNs mainGlobals,HF.look (g9 w.params),EO (g9 w.params),G0 ⟨g9 w.params,#[],lz,lO,os⟩)=_;rw[h3,h4,ahE,h5]
theorem Sh:∀{l:List Int}{s:ah}{r:List Value×ah},layAllW R cl P ord (l.map fw) s=some r->s.toks<=r.2.toks:=by
 intro zx
 induction zx with
 |nil=>
  rintro s r h;have h:some ([],s)=some r:=h;cases h;exact cf _
 |cons x l ih=>
  rintro s r h;have h:(match layAllW R cl P ord (l.map fw) {s with toks:=s.toks+1}with|some q=>some (Dz x s.toks::q.1,q.2)|none=>none)=some r:=h;split at h
  ·rename_i q hq
   cases h;have:=ih hq;exact aq (Nat.le_succ _) this
  ·cases h
theorem Nz{R:WRecords}{cl:Str->Option Addr}{P:W5}{ord:List c8->List c8}{l:List Int}{s:ah}{r:List Value×ah}(h:layAllW R cl P ord [.list (l.map fw)] s=some r):s.toks<=r.2.toks:=by
 have h:(match(match layAllW R cl P ord (l.map fw) s with
  |some q=>some (gh q.2.heap.objs.size,{q.2 with heap:=q.2.heap.push {cls:=.type "list",data:=.seq q.1.toArray}})
  |none=>none)with|some a=>some ([a.1],a.2)|none=>none)=some r:=h
 cases hq:layAllW R cl P ord (l.map fw) s with
 |none=>rw[hq]at h;cases h
 |some q=>
  rw[hq]at h;cases h;have:=Sh hq;exact this
theorem NA{P:W5}{h:Heap}{F:Addr->Prop}{l:List Int}{vals:List Value}(x:WellAll P h vals [.list (l.map fw)])(nF:∀a o,h.get? a=some o->o.cls=.type "list"->¬F a):aZ h F [.lst (l.map D.int)] vals:=by
 obtain⟨v,vs,rfl,x1,x2⟩:=wellAll_cons_inv x;cases x2;cases x1 with
 |list e r=>
  rename_i a vs;refine .one ?_;refine hO (nF _ _ e rfl) e ?_;clear e nF x;induction l generalizing vs with
  |nil=>cases r;exact .nil
  |cons i l ih=>
   cases r with
   |cons r1 r2=>
    refine .cons ?_ (ih r2);cases r1;exact fA
end Internal.Q
end
section
open PySem PySem.W PyProof.Rows
set_option exponentiation.threshold 2000
namespace Internal.I
open Internal.Z (lB lK lE DT Nu DU pn fL ju Lp qt A3)
open Internal.B (fW w0 lZ R9)
open Internal.V (dy)
def jz:tK:=(iG.find? (λd=>d.name==("law":Str))).getD ⟨("":Str),default,[],default,default⟩
def lOp(i:Nat):ae:=ME i (dx (ak 15 lB))
def Si:ae:=lE 13 1
def lP:ae:=pH (lOp 0)
def lI:ae:=pj 0 lP
def aln:ae->List ae:=exC [] (λ_ _ _=>[]) (λ_ _ _ _=>[]) (λ_ _ _=>[]) (λ_ _ _ _=>[]) (λ_ _ _ _=>[]) (λ_ _ rs _=>rs) (λ_ _ _ _=>[]) (λ_ _ _=>[]) (λ_ _ _=>[]) (λ_ _=>[]) (λ_ _=>[]) (λ_ _ _=>[])
def lZd:ae:=(aln (lOp 1)).getD 0 default
theorem adR:ak 13 lB=.Assign [.Tuple (sP (ak 13 lB)) (mf (qk (ak 13 lB))).2.1 (mf (qk (ak 13 lB))).2.2] (.Tuple [lE 13 0,Si] (mf (uu (ak 13 lB))).2.1 (mf (uu (ak 13 lB))).2.2) (bU (ak 13 lB)):=by rfl'
theorem adS:yK lK (sP (ak 13 lB)) [lE 13 0,Si]=some (some (["divisor","whole"]:List Str)):=by rfl'
theorem adT(env p):backTo p (starEach [lE 13 0,Si] env)=[(false,eval (lE 13 0) env),(false,eval Si env)]:=by rfl'
theorem adU:∃a b c d,Si=.Call (.Name "_digits2int" a) [.Name "digits" b,.Name "width" c] [] d:=by
 refine⟨(pH Si).pos,(pj 0 Si).pos,(pj 1 Si).pos,Si.pos,?_⟩;rfl'
theorem alp:∃a b c,lP=.Call (.Name "_law_plain" a) [lI,.Name "digits" b] [] c:=by
 refine⟨(pH lP).pos,(pj 1 lP).pos,lP.pos,?_⟩;rfl'
theorem alq:∃a b c d,lI=.Call (.Name "_int2digits" a) [.Name "whole" b,.Name "width" c] [] d:=by
 refine⟨(pH lI).pos,(pj 0 lI).pos,(pj 1 lI).pos,lI.pos,?_⟩;rfl'
theorem adV:ak 14 lB=.Assign [.Name "quotient" (jI (ak 14 lB))] (bj (ak 14 lB)) (bU (ak 14 lB)):=by rfl'
theorem qu:(iG.find? (λd=>d.name==("law":Str))).isSome=true/\jz.params.args.map (·.arg)=(["script"]:List Str)/\jz.name=("law":Str)/\jz.scope.names=lK/\jz.body=([ak 0 lB,ak 1 lB,ak 2 lB,ak 3 lB,ak 4 lB,ak 5 lB]++([ak 6 lB,ak 7 lB,ak 8 lB,ak 9 lB]++[ak 10 lB,ak 11 lB,ak 12 lB]))++(ak 13 lB::ak 14 lB::
 [.If (.BoolOp .Or [.UnaryOp .Not lP (lOp 0).pos,.Compare lZ [.NotEq] [lZd] (lOp 1).pos] (dx (ak 15 lB)).pos) (bp (ak 15 lB)) [] (bU (ak 15 lB)),.Return (some (bj (ak 16 lB))) (bU (ak 16 lB))]):=⟨by rfl',by rfl',by rfl',by rfl',by rfl'⟩
theorem G3:jz∈iG:=by
 obtain⟨d,hd⟩:=ay.mp qu.1;have e:jz=d:=by unfold jz;rw[hd];rfl
 rw[e];exact d8 hd
theorem NB:jz.params.args.map (·.arg)=(["script"]:List Str):=qu.2.1
theorem NC:jz.name=("law":Str):=qu.2.2.1
theorem xQ:jz.scope.names=lK:=qu.2.2.2.1
theorem Sj:jz.body=([ak 0 lB,ak 1 lB,ak 2 lB,ak 3 lB,ak 4 lB,ak 5 lB]++([ak 6 lB,ak 7 lB,ak 8 lB,ak 9 lB]++[ak 10 lB,ak 11 lB,ak 12 lB]))++(ak 13 lB::ak 14 lB::
 [.If (.BoolOp .Or [.UnaryOp .Not lP (lOp 0).pos,.Compare lZ [.NotEq] [lZd] (lOp 1).pos] (dx (ak 15 lB)).pos) (bp (ak 15 lB)) [] (bU (ak 15 lB)),.Return (some (bj (ak 16 lB))) (bU (ak 16 lB))]):=qu.2.2.2.2
theorem Sk(x)(p q):tP ((dX T 31).d lK (DT x)) [.Name "digits" p,.Name "width" q]=some [.lst x.digits,.int x.width]:=by rfl'
theorem WV(x)(whole dv A4)(p q):tP ((dX T 31).d lK (DU x whole dv A4)) [.Name "whole" p,.Name "width" q]=some [.int whole,.int x.width]:=by rfl'
theorem adW(x)(whole dv A4)(p):(dX T 31).d lK (DU x whole dv A4) (.Name "digits" p)=some (.lst x.digits):=by rfl'
theorem alr(x)(whole dv A4):(dX T 31).d lK (DU x whole dv A4) lZd=some (.lst [.bool true,.bool true,.bool true]):=by rfl'
end Internal.I
namespace Internal.I
section
open Internal.Z (lB lK lE DT Nu DU pn fL ju Lp qt A3)
open Internal.B (fW w0 lZ R9)
open Internal.V (dy)
theorem B8(Fr:qt p width O R P)(N:A3 p width O R P whole dv q):width*((dy R P).map fQ).length<=900/\((dy R P).map fQ).length<=1000/\∀x∈(dy R P).map fQ,0<=x/\x<2^width:=by
 rw[aj];refine⟨aq (xy Fr.wd.2 N.d3) (by decide),aq N.d3 (by decide),λx hx=>?_⟩;obtain⟨y,hy,rfl⟩:=Lv hx;refine⟨bG _,?_⟩;have e:((2^width:Nat):Int)=2^width:=gH 2 width;rw[<-e];exact o8.mpr (N.dlt y hy)
inductive SD(w:World)(env:Env)(F:Addr->Prop)(A:aC)(s sb s':ah)(G:Addr->Prop)(oa:Str->Addr)(p:Lp)(whole:Nat)(dv:Int)(P:Addr):Prop
 |mk (si:SI env F sb (Nu p whole dv) [] s' G oa) (fr:n7 env F sb) (kb:bH P s.heap sb.heap) (am:dz A (js w) sb) (fm:∃h tk,sb={s with heap:=h,toks:=tk}) (a:Addr) (o:Obj) (pm:Value) (c:Addr) (doc:Value)
  (g:Gv sb.heap jL.name (.ref a)) (ho:sb.heap.get? a=some o) (hd:o.data=.func (cO jL.name jL.params jL.body jL.scope pm (.ref c) doc)) (rc:sb.heap.CodeRec (.ref c) jL.name) (wm:jJ s'.heap c P (bU dI) dQ)
theorem als(p:Lp)(whole dv:Int):put "divisor" (.int dv) (put "whole" (.int whole) (DT p))=Nu p whole dv:=by rfl'
theorem alu(p:Lp)(whole dv A4:Int):put "quotient" (.int A4) (Nu p whole dv)=DU p whole dv A4:=by rfl'
section
variable{w:World}{A:aC}{E:Value->ah->Prop}{F G:Addr->Prop}{env:Env}{s sb s':ah}{oa:Str->Addr}{p:Lp}{whole:Nat}{dv A4:Int}{PD:Addr}{Q:Flow->ah->Prop}{rest:List Stmt}
theorem whole_run(jr:env.scope.names=lK)(hcD:∀m,env.cells.lookup m≠some PD)(lw1:env.kindOf "whole"=some .local)(lw2:∀b,env.cells.lookup ("whole":Str)≠some b)(lv1:env.kindOf "divisor"=some .local)(lv2:∀b,env.cells.lookup ("divisor":Str)≠some b)
(bu:Bu 79 A)(iT:dz A (js w) s)(fr:n7 env F s)(cD:Cd s.heap jL (bU dI) dQ PD)(hFD:F PD)(Fr:qt p width O R P)(N:A3 p width O R P whole dv A4)(hdv:(dX (Internal.Z.Tn fW 3) 31).d lK (DT p) (lE 13 0)=some (.int dv))
(tR:SI env F s (DT p) [] s' G oa)(k:∀sb s5,SD w env F A s sb s5 G oa p whole dv PD->wpAny (model pw w) A (execs rest env) Q E s5):
 wpAny (model pw w) A (execs (ak 13 lB::rest) env) Q E s':=by
 obtain⟨d1l,d2l,d3l⟩:=B8 Fr N;obtain⟨p1,p2,p3,p4,e13⟩:=adU;have Jw:TabAt s.heap PD:=cD.at;have WW:de pw w (js w) (Bu 63) (dX (Internal.Z.Tn fW 3) 31):=gw (w0 w 3) 31;obtain⟨fD,oD,pmD,cD',adX,D1,D2,D3,D4,D5⟩:=cD;have y1:In env G (DT p) s'.heap:=tR.ie;have p9:=iT.keeps tR.kp tR.tk;rw[adR];refine aS ?_;show wpAny _ _ (do
  standAt (bU (ak 13 lB))
  let v<-eval (.Tuple [lE 13 0,Si] (mf (uu (ak 13 lB))).2.1 (mf (uu (ak 13 lB))).2.2) env
  assignStores env v (<-swappedStores [.Tuple (sP (ak 13 lB)) (mf (qk (ak 13 lB))).2.1 (mf (qk (ak 13 lB))).2.2] (.Tuple [lE 13 0,Si] (mf (uu (ak 13 lB))).2.1 (mf (uu (ak 13 lB))).2.2) env) [assign (.Tuple (sP (ak 13 lB)) (mf (qk (ak 13 lB))).2.1 (mf (qk (ak 13 lB))).2.2) env]) _ _ _
 refine ao (dM (ao (N3 ?_)));rw[adT];refine dC (ai (bw p9.tk (WW.d A _ env G _ s' _ _ (bu.less (by decide)) p9 y1 (by rw[jr];exact hdv))) (λv0 s2 q=>?_) λ_ _ e=>e);obtain⟨t2,k2,r2⟩:=q;have uh:=tR.keeps k2 t2;have y2:In env G (DT p) s2.heap:=uh.ie;have Kw:=iT.keeps uh.kp uh.tk;have kdD:=Keeps.all uh.kp;have d1:=Gv.keeps D1 kdD;have d2:=kdD _ _ D2;rw[uo]at d1;rw[e13];refine dC (zD WW (bu.less (by decide)) Kw y2 (by rw[jr];decide) (by decide) d1 d2 D3 (by rw[jr];exact Sk _ _ _) (λs3 vs3 k3 t3 r3=>?_));have WN:=Keeps.all k3;rw[Fr.ed,Fr.ew,Se]at r3;refine ai (bw t3 (Ga (F:=G) (WN _ _ d2) D3 ((D4.keeps kdD).keeps WN) (Place.keepsP (Place.keepsP D5 kdD) WN) (tR.hF _ hFD) (WT bu (by decide)) (Kw.keeps k3 t3) (y2.keeps WN).lo r3 d1l (aq (by decide) Fr.wd.1) d3l)) (λv s4 q=>gB ?_) λ_ _ e=>e;obtain⟨t4,⟨h4,tk4,hs4⟩,kb4,_,wm4,r4⟩:=q;rw[ju,<-N.wh]at r4;have u4:Upd (λa=>a=PD) s3 s4:=⟨h4,tk4,hs4,by rw[hs4]at kb4;exactλb o ne e=>kb4 b o e ne⟩
 have asI:(s4.heap.get? PD).isSome=true:=by
  obtain⟨ps,c',h1,_⟩:=wm4.tab;rw[h1];rfl
 obtain⟨sb,Ye,IS,kbb,kPb,tkb,fm⟩:=(uh.keeps k3 t3).sM fr hFD hcD u4 t4 asI;have ML:bH PD s.heap sb.heap:=λb o e ne=>kbb b o e ne;refine⟨show 2<=sizeLine by decide,?_⟩;rw[yL (env:=env) y1.fn (by rw[jr];exact adS)];refine ao (aL ?_);show wpAny _ _ (do
  rule "assign.swapped-stores"
  let items<-unpackItems (.ref s4.heap.objs.size) [v0,v].toArray.size none
  assignInOrder ((["whole","divisor"]:List Str).map λn=>bindName env n) items.reverse
  pure ry) _ _ _
 refine ao (jN (ao ?_));have ht:({s4 with heap:=s4.heap.push {cls:=.type "tuple",data:=.seq [v0,v].toArray}}:ah).heap.IsTuple s4.heap.objs.size [v0,v].toArray:=⟨_,gN _ _ rfl,rfl,_,rfl⟩
 refine ae2 (items:=[v0,v].toArray) Kw.hh ht λh' hx=>?_;have hx:Heap.ExtBut (s4.heap.push {cls:=.type "tuple",data:=.seq [v0,v].toArray}).objs.size (s4.heap.push {cls:=.type "tuple",data:=.seq [v0,v].toArray}) h':=hx;have k5:Keeps s4 {s4 with heap:=h'}:=⟨h',s4.toks,rfl,λb o e=>hx b o (eA (cY (aV _ e))) (aV _ e)⟩
 have xm:=Ye.keeps k5 t4;have wm5:=wm4.zv (Keeps.all k5);show wpAny _ _ (do (do holding [v0] (bindName env "whole" v);(do holding [] (bindName env "divisor" v0);pure ()));pure ry) _ _ _;refine ao (ao (bR (Xd (ai (Sf (d:=.int whole) xm IS lw1 lw2 (r4.keeps (Keeps.all k5))) (λ_ s6 q=>?_) λ_ _ e=>e))));obtain⟨Kl,kd6⟩:=q;have r0:bW s6.heap G (.int dv) v0:=r2;refine ao (bR (Xd (ai (Sf (d:=.int dv) Kl IS lv1 lv2 r0) (λ_ s7 q=>aL (aL ?_)) λ_ _ e=>e)));obtain⟨CL,kd7⟩:=q;rw[als]at CL;exact k sb s7 ⟨CL,IS,ML,dz.but Jw ML iT tkb js.but,fm,fD,oD,pmD,cD',adX,Gv.but Jw ML D1,ML _ _ D2 (z8 Jw D2 D3),D3,CodeRec.but Jw ML D4,jJ.dc wm5 (kd6.trans kd7)⟩
theorem WX(jr:env.scope.names=lK)(lq1:env.kindOf "quotient"=some .local)(lq2:∀b,env.cells.lookup ("quotient":Str)≠some b)(bu:Bu 79 A)(amb:dz A (js w) sb)(IS:n7 env F sb)
(m2:(dX (Internal.Z.Tn fW 3) 31).d lK (Nu p whole dv) (bj (ak 14 lB))=some (.int A4))(xm:SI env F sb (Nu p whole dv) [] s' G oa)
(k:∀s7,SI env F sb (DU p whole dv A4) [] s7 G oa->mX s'.heap s7.heap->wpAny (model pw w) A (execs rest env) Q E s7):wpAny (model pw w) A (execs (ak 14 lB::rest) env) Q E s':=by
 have WW:de pw w (js w) (Bu 63) (dX (Internal.Z.Tn fW 3) 31):=gw (w0 w 3) 31;rw[adV];refine aS (ai (asy WW (bu.less (by decide)) (amb.keeps xm.kp xm.tk) IS lq1 lq2 xm (by rw[jr];exact m2) (by rw[jr];rfl')) (λg s6 q=>?_) λ_ _ e=>e);obtain⟨rfl,Kl,kd6⟩:=q;rw[alu]at Kl;exact k s6 Kl kd6
end
end
end Internal.I
namespace Internal.I
section
open Internal.B (ZR)
open Internal.Z (lB lK lE DT Nu DU pn fL ju Lp qt A3)
open Internal.B (fW w0 lZ R9 Sb)
theorem ZR.dc{L:Addr}{s s1:ah}{m:Str->Option Value}(z:ZR L s s1)(ns:s.heap.Ns L m):mX s.heap s1.heap:=by
 have u:=Internal.B.Upd.Nn (G:=λa=>a=L) z.u;intro b o e n1 _;refine u.kept (G:=λa=>a=L) (λ_ q=>q) b o (λq=>?_) e;obtain⟨o',es,ep,e',d',_⟩:=ns;rw[<-q,e]at e';cases e';exact n1 es ep d'
theorem Wm.zr{L:Addr}{s s1:ah}{m:Str->Option Value}(x:Wm s.heap d pos qual P)(z:ZR L s s1)(ns:s.heap.Ns L m)(hL:mainGlobals≠L):Wm s1.heap d pos qual P:=by
 have k:=ZR.dc z ns;have u:=Internal.B.Upd.Nn (G:=λa=>a=L) z.u;obtain⟨a,o,pm,c,doc,⟨mg,g1,g2⟩,h2,h3,h4,h5⟩:=x;exact⟨a,o,pm,c,doc,⟨mg,g1.at' λo e=>u.kept (G:=λa=>a=L) (λ_ q=>q) _ o hL e,g2⟩,k _ _ h2 (λ_ _ q=>nomatch h3.symm.trans q) (λ_ q=>nomatch h3.symm.trans q),h3,CodeRec.dc h4 k,jJ.dc h5 k⟩
section
variable{w:World}{A:aC}{E:Value->ah->Prop}{F G:Addr->Prop}{env:Env}{s sb s':ah}{oa:Str->Addr}{p:Lp}{whole:Nat}{dv A4:Int}{PI PD:Addr}{Q:Bool->ah->Prop}{pos:Pos}
theorem asN(jr:env.scope.names=lK)(bu:Bu 79 A)(am:dz A (js w) sb)(IS:n7 env F sb)(kb:Keeps sb s)(tk:1<=s.toks)(x:In env G (DU p whole dv A4) s.heap)(Kj:A.frames=some [env])(hfm:env.frame=some env.locals)
(wI:Wm s.heap ly (bU eI) eQ PI)(wD:Wm s.heap jL (bU dI) dQ PD)
(hQ:∀s',Keeps sb s'->dz A (SK w) s'->In env G (DU p whole dv A4) s'.heap->Wm s'.heap ly (bU eI) eQ PI->Wm s'.heap jL (bU dI) dQ PD->Q false s'):
 wpAny (model pw w) A (isTrue (.Compare lZ [.NotEq] [lZd] pos) env (eval (.Compare lZ [.NotEq] [lZd] pos) env)) Q E s:=by
 have WW:de pw w (js w) (Bu 63) (dX (Internal.Z.Tn fW 3) 31):=gw (w0 w 3) 31
 refine amS (ai (Sb (xs:=[(whole:Int),-(whole:Int),0]) WW (bu.less (by decide)) (bu.less (by decide)) am kb tk IS.hl x Kj hfm (by rw [jr];exact Internal.Z.l_z p whole dv A4) (show 3<=1000 by decide)) (λv s1 q=>?_) λ_ _ e=>e) rfl
 obtain ⟨z,D,rfl,hD,hp⟩:=q;obtain ⟨mL,hmL,_⟩:=x.va;have kb1:=z.base kb IS.hl
 have iT:=am.keeps kb1 z.tk
 have hgl:mainGlobals≠env.locals:=λq=>by
  obtain ⟨mg,mb,L7⟩:=am.la sb.heap λ_ _ e=>e
  obtain ⟨o,_,_,e,_⟩:=L7.g;rw [q,IS.hl] at e;cases e
 have wI1:=Wm.zr wI z hmL hgl
 have wD1:=Wm.zr wD z hmL hgl
 have x1:=Internal.B.In.zr x z
 refine ai (bw z.tk (WW.d A _ env G _ s1 _ _ (bu.less (by decide)) iT x1 (by rw [jr];exact alr p whole dv A4))) (λv2 s2 q=>?_) λ_ _ e=>e
 obtain ⟨t2,k2,r2⟩:=q;have Y7:=Keeps.all k2
 have p9:=iT.keeps k2 t2
 have x2:=x1.keeps Y7
 obtain ⟨n,hp⟩:=hp.at λo e=>Y7 D o e
 have rD:bW s2.heap G (.lst [.bool true,.bool true,.bool true]) (.ref D):=hO (vs:=[.bool true,.bool true,.bool true]) (λq=>nS hD (x.lo D q)) hp (.cons kB (.cons kB (.cons kB .nil)))
 refine Br (k:=false) p9.nb (dF (ae1 (by decide) _) p9.un) rD r2 rfl ?_
 refine f7 (hQ s2 (Keeps.trans' kb1 k2) ⟨p9.hh,p9.nb,p9.nl,p9.gl,p9.tk,p9.un,λh k=>⟨p9.la h k,⟨PI,Wm.keeps (Wm.keeps wI1 Y7) k⟩,PD,Wm.keeps (Wm.keeps wD1 Y7) k⟩⟩ x2 (Wm.keeps wI1 Y7) (Wm.keeps wD1 Y7))
end
end
end Internal.I
namespace Internal.I
open Internal.Z (lB lK lE DT Nu DU pn fL ju Lp qt A3)
open Internal.B (fW w0 lZ R9)
theorem Sl{w:World}{A:aC}{E:Value->ah->Prop}{F:Addr->Prop}{s:ah}{a:Addr}{o:Obj}{pm cv doc:Value}{cN:List Int}{vs:List Value}{PI PD:Addr}(ho:s.heap.get? a=some o)(hd:o.data=.func (cO jz.name jz.params jz.body jz.scope pm cv doc))
(rc:s.heap.CodeRec cv jz.name)(cI:Cd s.heap ly (bU eI) eQ PI)(cD:Cd s.heap jL (bU dI) dQ PD)(m7:PI≠PD)(hFI:F PI)(hFD:F PD)(bu:Bu 80 A)(asO:A.frames=some [])(am:dz A (js w) s)(lo:iW F s.heap)(rs:aZ s.heap F [.lst (cN.map .int)] vs)(hl:cN.length<=63):
 wpAny (model pw w) A (call (.ref a) vs) (λv s'=>v=.bool true/\(∃h tk,s'={s with heap:=h,toks:=tk})/\(∀b o,s.heap.get? b=some o->b≠PI->b≠PD->s'.heap.get? b=some o)/\(∃ps,s'.heap.get? PI=some (tabObj ps))/\∃ps,s'.heap.get? PD=some (tabObj ps)) E s:=by
 have fi:=ze (d:=jz) (pm:=pm) (code:=cv) (doc:=doc) G3;rw[NB,Sj]at fi;refine sJ (fu:=(["script"]:List Str)) fi (WT bu (cf _)).dep ho hd rc rfl am (WT bu (cf _)).un lo rs (λenv aU G oa jr iu iT fr si E'=>?_);refine gp λQ hQ=>?_;have si:SI env F s [("script",.lst (cN.map .int))] [] aU G oa:=si;have hk:∀m,env.kindOf m=lK.lookup m:=λm=>by unfold gT;rw[jr,xQ]
 have AU:env.scope.names=lK:=by rw[jr,xQ]
 have WY:Bu 79 (A.deeper env):=bu.deeper env;have hcT:∀{P:Addr},(∃ps,s.heap.get? P=some (tabObj ps))->∀m,env.cells.lookup m≠some P:=λ{P} ht m e=>by
  have hm:(m,P)∈cellsFrom (s.heap.objs.size+1) jz.scope.names []:=by
   have:=mem_of_lookup e;rw[iu]at this;exact this
  have AR:=gU _ _ _ _ _ hm;simp only[du,false_or]at AR;have:=fr.hc m P (.inr (by rw[hk,<-xQ];exact mem_lookup fi.kd AR)) e;obtain⟨ps,h1⟩:=ht;rw[h1]at this;cases this
 have hcD:∀m,env.cells.lookup m≠some PD:=hcT (by obtain⟨ps,e,_⟩:=cD.at;exact⟨ps,e⟩);have hcI:∀m,env.cells.lookup m≠some PI:=hcT (by obtain⟨ps,e,_⟩:=cI.at;exact⟨ps,e⟩);have TO1:=w0 w 3;have WW:de pw w (js w) (Bu 63) (dX (Internal.Z.Tn fW 3) 31):=gw TO1 31;have XO1:SH pw w (js w) (Bu 63) lK (AL (dX (Internal.Z.Tn fW 3) 31) lK [] 60 2):=uj (W:=[]) (gw TO1 30) TO1 lK 60 2;obtain⟨p,width,O,R,P,Fr,hB⟩:=Internal.Z.Nr (T:=Internal.Z.Tn fW 3) (Internal.Z.ak5 0) cN hl 0;obtain⟨dv,A4,Nm⟩:=Internal.Z.WS Fr;obtain⟨whole,hw⟩:∃whole,whole=pn width (Internal.V.dy R P):=⟨_,rfl⟩;rw[<-hw]at Nm;refine um (ai (XO1 (A.deeper env) E' env F s _ [] aU G oa _ _ (WY.less (by decide)) iT fr si AU hB) (λg s2 q=>?_) λ_ _ e=>e);obtain⟨rfl,G1,oa1,tR⟩:=q;have loc:∀m,lK.lookup m=some .local->env.kindOf m=some .local/\∀b,env.cells.lookup m≠some b:=λm e=>by
  refine⟨by rw[hk];exact e,λb e2=>?_⟩;have hm:(m,b)∈cellsFrom (s.heap.objs.size+1) jz.scope.names []:=by
   have:=mem_of_lookup e2;rw[iu]at this;exact this
  have AR:=gU _ _ _ _ _ hm;simp only[du,false_or]at AR;have:=mem_lookup fi.kd AR;rw[xQ,e]at this;cases this
 obtain⟨lw1,lw2⟩:=loc "whole" (by decide);obtain⟨lv1,lv2⟩:=loc "divisor" (by decide);have Jw:TabAt s.heap PD:=cD.at;have PLs:Internal.Z.PL (Internal.Z.Tn jw 12):=Internal.Z.Yr (zz _ (by decide) (by decide)) 11;obtain⟨m1,m2,tr⟩:=Internal.Z.Sd (T1:=Internal.Z.Tn fW 3) (T:=Internal.Z.Tn jw 12) asz Fr Nm;refine whole_run AU hcD lw1 lw2 lv1 lv2 WY iT fr cD hFD Fr Nm m1 tR λsb s5 q=>?_;obtain⟨xm,IS,ML,amb,⟨hb1,tb1,hsb⟩,fD,oD,pmD,cD',adX,D1,D2,D3,D4,wm5⟩:=q;obtain⟨lq1,lq2⟩:=loc "quotient" (by decide);refine WX AU lq1 lq2 WY amb IS m2 xm λs7 CL kdc=>?_;have y7:In env G1 (DU p whole dv A4) s7.heap:=CL.ie;have am7:=amb.keeps CL.kp CL.tk;have wm7:jJ s7.heap cD' PD (bU dI) dQ:=jJ.dc wm5 kdc;obtain⟨q1,q2,q3,eP⟩:=alp;obtain⟨i1,i2,i3,i4,eI'⟩:=alq;obtain⟨mg,mb,L7⟩:=am7.la s7.heap λ_ _ e=>e;refine aS (A8 (avK (Ac (isTrue_not ?_))));rw[eP];refine isTrue_plain ?_ rfl;obtain⟨aP,oP,pmP,cP,asS,g1,g2,g3,g4⟩:=L7.fn tB Nv;rw[Ju]at g1;have gP:Gv s7.heap "_law_plain" (.ref aP):=⟨mg,L7.g,g1⟩
 have adY:=(j3 (env:=env) (pos:=q3) (f:=λ_=>some D.none) (es:=[lI,.Name "digits" q2]) (ds:=[.none,.none]) (by rw[eI'];rfl)).1;show wpAny _ _ (do callWith q3 (<-eval (.Name "_law_plain" q1) env) [] (backTo q3 (starEach [lI,.Name "digits" q2] env)) []) _ _ _;refine ao (nH y7 (by rw[AU];decide) (by decide) (.inl gP) ?_);refine kA (o:=oP) (fd:=cO tB.name tB.params tB.body tB.scope pmP cP asS) (dY adY ?_);rw[show backTo q3 (starEach [lI,.Name "digits" q2] env)=[(false,eval lI env),(false,eval (.Name "digits" q2) env)]from by rw[eI'];rfl];refine dC ?_;rw[eI'];have cI7:Cd s7.heap ly (bU eI) eQ PI:=(Cd.but cI Jw ML m7).keeps (Keeps.all CL.kp);obtain⟨fI,oI,pmI,cI',asU,f1,f2,f3,f4,f5⟩:=id cI7;rw[kj]at f1;refine zD WW (WY.less (by decide)) am7 y7 (by rw[AU];decide) (by decide) f1 f2 f3 (by rw[AU];exact WV _ _ _ _ _ _) (λs8 vs8 k8 t8 r8=>?_);rw[Fr.ew]at r8;have ND:=Keeps.all k8;refine ai (bw t8 (Gq (F:=G1) (ND _ _ f2) f3 (f4.keeps ND) (Place.keepsP f5 ND) (CL.hF _ hFI) (WT WY (by decide)) (am7.keeps k8 t8) (y7.keeps ND).lo r8 (dF Nm.wle (jj (by decide) (by decide))) (aq (by decide) Fr.wd.1) (aq Fr.wd.2 (by decide)))) (λv s9 q=>?_) λ_ _ e=>e;obtain⟨t9,⟨h9,tk9,hs9⟩,Sm,_,wm9,r9⟩:=q;rw[Nm.dg]at r9;have tC:TabAt s8.heap PI:=(Place.keepsP f5 ND).tabAt;have alw:TabAt sb.heap PI:=(Cd.but cI Jw ML m7).at;have si8:=CL.keeps k8 t8;have u9:Upd (λa=>a=PI) s8 s9:=⟨h9,tk9,hs9,by rw[hs9]at Sm;exactλb o ne e=>Sm b o e ne⟩
 have asV:(s9.heap.get? PI).isSome=true:=by
  obtain⟨ps,c',h1,_⟩:=wm9.tab;rw[h1];rfl
 obtain⟨sc,si9,frc,kbc,kPc,tkc,⟨hc1,tc1,hsc⟩⟩:=si8.sM IS hFI hcI u9 t9 asV;have alx:bH PI sb.heap sc.heap:=λb o e ne=>kbc b o e ne;have aly:dz (A.deeper env) (js w) sc:=dz.but alw alx amb tkc js.but;have am9:=aly.keeps si9.kp si9.tk;have wI9:Wm s9.heap ly (bU eI) eQ PI:=⟨fI,oI,pmI,cI',asU,by rw[kj];exact Gv.but tC Sm (Gv.keeps f1 ND),Sm _ _ (ND _ _ f2) (z8 tC (ND _ _ f2) f3),f3,CodeRec.but tC Sm (f4.keeps ND),wm9⟩
 have ks7:=Keeps.all CL.kp;have wD7:Wm s7.heap jL (bU dI) dQ PD:=⟨fD,oD,pmD,cD',adX,Gv.keeps D1 ks7,ks7 _ _ D2,D3,D4.keeps ks7,wm7⟩
 have wD9:Wm s9.heap jL (bU dI) dQ PD:=by
  obtain⟨a1,o1,pm1,c1,asX,w1,w2,w3,w4,w5⟩:=Wm.keeps wD7 ND;exact⟨a1,o1,pm1,c1,asX,Gv.but tC Sm w1,Sm _ _ w2 (z8 tC w2 w3),w3,CodeRec.but tC Sm w4,jJ.but w5 tC Sm (λz=>m7 z.symm) w4⟩
 have WZ:dz (A.deeper env) (SK w) s9:=⟨am9.hh,am9.nb,am9.nl,am9.gl,am9.tk,am9.un,λh k=>⟨am9.la h k,⟨PI,Wm.keeps wI9 k⟩,PD,Wm.keeps wD9 k⟩⟩
 have y9:In env G1 (DU p whole dv A4) s9.heap:=si9.ie;have TO2:=Rb w 12;have VO2:de pw w (SK w) (Bu 62) (dX (Internal.Z.Tn jw 12) 31):=gw TO2 31;have gP9:Gv s9.heap "_law_plain" (.ref aP):=Gv.but tC Sm (Gv.keeps gP ND);have oP9:s9.heap.get? aP=some oP:=Sm _ _ (ND _ _ g2) (z8 tC (ND _ _ g2) g3);refine dC (ai (bw t9 (VO2.d (A.deeper env) E' env G1 _ s9 _ _ (WY.less (by decide)) WZ y9 (by rw[AU];exact adW _ _ _ _ _))) (λv2 s10 q=>gB ?_) λ_ _ e=>e);obtain⟨t10,U5,r10⟩:=q;rw[Fr.ed]at r10;have Sn:=Keeps.all U5;refine⟨⟨Sn _ _ oP9,g3⟩,?_⟩;obtain⟨aP',oP',ay6,u1,u2,u3,u4⟩:=TO2.fn s10.heap "_law_plain" _ _ ((WZ.la _ Sn)) (PLs.lst ((Internal.V.dy R P).map fQ) (B8 Fr Nm).2.1);have eaP:=Gv.uniq (Gv.keeps gP9 Sn) u1;cases eaP;have rP:aZ s10.heap G1 [.lst (((Internal.V.dy R P).map fQ).map .int),.lst (((Internal.V.dy R P).map fQ).map .int)] [v,v2]:=by
  rw[<-Se];exact .cons (r9.keeps Sn) (.one r10)
 refine ai (bw t10 (u4 (A.deeper env) _ G1 s10 [v,v2] (WY.less (by decide)) (WZ.keeps U5 t10) (y9.keeps Sn).lo (λ_ _ e=>e) rP)) (λv3 s11 q=>?_) λ_ _ e=>e;obtain⟨t11,k11,r11⟩:=q;refine ai (bw t11 (mu (b:=true) r11 rfl)) (λcc s12 q=>?_) λ_ _ e=>e;obtain⟨t12,rfl,J9⟩:=q;rw[if_neg (by decide)];have k9:=Keeps.trans' (Keeps.trans' U5 k11) J9;have azb:=WZ.keeps k9 t12;have y12:=y9.keeps (Keeps.all k9);have asZ:=Keeps.trans' si9.kp k9;have as0:=Wm.keeps wI9 (Keeps.all k9);have as1:=Wm.keeps wD9 (Keeps.all k9);refine Ac (asN (PI:=PI) (PD:=PD) AU WY aly frc asZ t12 y12 (by show A.frames.map _=_;rw[asO];rfl) (by rw[iu];rfl) as0 as1 λs13 as2 as3 y13 as4 as5=>?_);rw[if_neg (by decide)];refine atg ?_;rw[if_neg (by decide)];refine dJ ?_;refine aS (g8 (ai (VO2.d (A.deeper env) E' env G1 _ s13 _ _ (WY.less (by decide)) as3 y13 (by rw[AU];exact tr)) (λv4 s14 q=>?_) λ_ _ e=>e));have kf:=Keeps.trans' as2 q.1;have r14:=q.2;have r14:=r14.bool;obtain⟨hf,tf,ef,kkf⟩:=kf;have ke:=Keeps.all q.1;refine hQ _ _ ⟨r14,⟨hf,tf,by rw[ef,hsc,hsb]⟩,λb o e n1 n2=>?_,?_,?_⟩
 ·rw[ef]
  exact kkf _ _ (alx _ _ (ML _ _ e n2) n1)
 ·obtain⟨_,_,_,_,_,_,_,_,_,w5⟩:=Wm.keeps as4 ke
  obtain⟨ps,_,h1,_⟩:=w5.tab;exact⟨ps,h1⟩
 ·obtain⟨_,_,_,_,_,_,_,_,_,w5⟩:=Wm.keeps as5 ke
  obtain⟨ps,_,h1,_⟩:=w5.tab;exact⟨ps,h1⟩
end Internal.I
end
section
open PySem PySem.W PyProof.Rows
namespace Internal.Q
open Internal.I (Cd ly eI eQ kj qn jz G3 NC)
abbrev W0:RowW:=dw.row.toRowW
theorem W2(G:Ground ik iP [] (λ_ _=>True) w az mg mb h)(y:YP w h):pG mg mb w h:=
 ⟨G.T.g,G.T.b,λd hd=>G.T.fn d (by rw[Kp];exact hd),G.T.const,λx a b c=>G.T.free x a b (by rw[Kp];exact c),G.T.builtins,G.T.bmain,y⟩
theorem NF:Bu 80 callerA:=by
 refine⟨?_,?_⟩<;>decide
theorem W3:defOf ik "law"=some (jz,[]):=by rfl'
theorem NG:jz.params.defaults=[]:=by rfl'
theorem has_bool:WShape.has [] (.bool true) .bool=true:=rfl
theorem NH:W0.claim.post args (.bool true) args=true:=by
 refine postC_of (X:=true) has_bool ?_ rfl;show some (Af (PySem.W.same (.bool true) (.bool true)))=_;rw[same_self]
theorem walk(G:Ground ik iP [] (λ_ _=>True) w az mg mb aU.heap)(Y:Yfs az=Yas w)(ho:aU.heap.get? a=some o)
(hd:o.data=.func {cO jz.name jz.params jz.body jz.scope pm cd doc with defaults:=dV,kwdefaults:=kV})(Aq:aU.heap.CodeRec cd jz.name)(hD:Dflts mg aU.heap jz.params [] dV kV)(alz:aU.gens= #[])(L:Laid [] w az aU args vals as)(AV:W0.claim.pre args=true)(hwl:WellAll w.params aU.heap vals args):
 wpAny (model pw w) callerA (call (.ref a) vals) (λv s'=>GoodWG W0.claim (classAt az.heap) (ana az.heap) args aU (.ok (.ret v)) s')
  (λe s'=>GoodWG W0.claim (classAt az.heap) (ana az.heap) args aU (.error e) s') aU:=by
 have hdV:dV=.none:=by
  rcases hD.pos with⟨_,q⟩|⟨q,_⟩
  ·exact q
  ·exact absurd NG q
 have hkV:kV=.none:=by
  rcases hD.kw with⟨_,q⟩|⟨q,_⟩
  ·exact q
  ·exact absurd rfl q
 subst hdV hkV;obtain⟨l,rfl,hl⟩:=Internal.J.Ny (r:=dw) rfl rfl AV;have YY:YP2 w az.heap:=adQ w az (by
  have:=Y;simp only[pP]at this⊢;exact⟨this.1,this.2.1,this.2.2.1⟩)
 have hm:G0 az=true:=by
  have:=Y;simp only[pP]at this;exact this.2.2.2
 obtain⟨y,SJ,g',c1,P1,c2,P2,t1,t2,m7⟩:=Nw w _ _ YY L.keeps;have la:=W2 G y;unfold G0 at hm;simp only[av,Nat.ble_eq,c6]at hm;obtain⟨m1,m2,m3⟩:=hm;obtain⟨ord,WM,alA⟩:=L.laid;have tk:1<=aU.toks:=aq m1 (Nz alA);have cI:Cd aU.heap ly (bU eI) eQ P1:=Y8 la qn g' (by rw[kj];exact t1);have cD:Cd aU.heap jL (bU dI) dQ P2:=Y8 la F9 g' (by rw[uo];exact t2);have e1:aU.heap.get? P1=some (tabObj #[]):=by obtain⟨_,_,_,_,_,_,_,_,h⟩:=t1;exact h
 have e2:aU.heap.get? P2=some (tabObj #[]):=by obtain⟨_,_,_,_,_,_,_,_,h⟩:=t2;exact h
 have am:dz callerA (js w) aU:=⟨rfl,⟨_,(Heap.Ns.of_isNs m2).keeps L.keeps,m3⟩,G.T.nolimit,⟨mg,G.T.g⟩,tk,by decide,λh k=>⟨mg,mb,la.keeps k⟩⟩
 have lo:iW (λb=>b=P1\/b=P2) aU.heap:=λb q=>by
  rcases q with rfl|rfl
  ·rw[e1];rfl
  ·rw[e2];rfl
 have rs:aZ aU.heap (λb=>b=P1\/b=P2) [.lst (l.map D.int)] vals:=NA hwl (λb o e c q=>by
  rcases q with rfl|rfl
  ·rw[e1]at e;cases e;cases c
  ·rw[e2]at e;cases e;cases c)
 refine ai (Internal.I.Sl ho hd Aq cI cD m7 (.inl rfl) (.inr rfl) NF rfl am lo rs hl) (λv s' q=>?_) λ_ _ e=>e;obtain⟨rfl,⟨h',tk',rfl⟩,kept,⟨ps1,f1⟩,ps2,f2⟩:=q;have tb1:isCodeTable aU.heap P1:=by
  obtain⟨_,_,_,_,_,_,_,⟨o,vs,_,_,_,_,_,_,_,b1,b2,b3,b4,_⟩,_⟩:=t1;exact⟨c1,o,vs,b1,b2,b3,b4⟩
 have tb2:isCodeTable aU.heap P2:=by
  obtain⟨_,_,_,_,_,_,_,⟨o,vs,_,_,_,_,_,_,_,b1,b2,b3,b4,_⟩,_⟩:=t2;exact⟨c2,o,vs,b1,b2,b3,b4⟩
 refine⟨.inl ⟨.bool true,.bool true,[],rfl,λ_=>rfl,.bool true,NH,λ_=>⟨.nil,λ_ h=>nomatch h⟩⟩,⟨λb o e=>?_,λb o e=>?_⟩,rfl,AllBare.of_eq alz⟩
 ·by_cases h1:b=P1
  ·subst h1
   rw[e1]at e;cases e;exact .inr (.inl ⟨tb1,rfl,#[],ps1,rfl,by rw[o7];exact f1⟩)
  ·by_cases h2:b=P2
   ·subst h2
    rw[e2]at e;cases e;exact .inr (.inl ⟨tb2,rfl,#[],ps2,rfl,by rw[o7];exact f2⟩)
   ·exact .inl (kept b o e h1 h2)
 ·by_cases h1:b=P1
  ·subst h1;exact⟨_,f1⟩
  ·by_cases h2:b=P2
   ·subst h2;exact⟨_,f2⟩
   ·exact⟨o,kept b o e h1 h2⟩
end Internal.Q
end
open PySem PySem.W PyProof.Rows
namespace Internal.Q
theorem whole:dw.Holds:=by
 w_on
 refine holds_law ani λ_=>?_;refine holds_openX (q:=ik) (loose:=iP) (Xt:=λ_=>true) (XP:=λ_ _=>True) (Yf:=Yfs) (Ya:=Yas) (N:=4000000) (d:=Internal.I.jz) (kwd:=[]) alm (λ_ _=>trivial) (λ_ _ _ _ _=>trivial) W3 (by rfl') (by rfl') (λs _=>recFacts_nil (by rfl)) (by rfl) (by first|assumption|decide) (by decide) ⟨rfl,rfl,rfl,rfl,rfl,anh⟩ ?hw ?hc
 case hw=>w_witness2
 intro w az aU mg mb G Y a o pm cd doc dV kV ho hd Aq hD hmg hg args vals as L AV azk hrd hwl hlo;exact walk G Y ho hd Aq hD hg L AV hwl
end Internal.Q
theorem PySem.Challenge.cw_ta0129_02_holds : PySem.Challenge.rw_ta0129_02.Holds := by
 exact Internal.Q.whole
