import PyProof.Rows.All
import Wide.All
import OpenK.AllK
import Wide.FinOn
import PySem.Challenge.RW_ta0129_02
set_option Elab.async false
set_option autoImplicit true
set_option genInjectivity false
set_option genSizeOf false
set_option maxRecDepth 1000000
set_option maxHeartbeats 0
set_option linter.unusedVariables false
open PySem renaming Expr→ae,Shared→ah,wpAny_mono→ai,wpAny_bind→ao,Around→aC,wpAny_pure→aL,wpAny_execs_cons→aS,Program→bb,wpAny_holding→bQ,DictEntry→cZ,wpAny_execs_nil→dD,wpAny_standAt→dF,Comprehension→dX,wpAny_truthy_bool→fW,OsState→gW,NameKind→gZ,wpAny_assign_Name→g0,wpAny_Return_some→g6,NoneBooked→i0,wpAny_Name→i5,FuncData→jI,wpAny_rule→jJ,wpAny_loadName_local→jL,wpAny_list_append_plain→lF,wpAny_Call_method_lateS→lG,wpAny_storeName_local→mW,Arguments→nN,pushCells_keeps→pG,wpAny_loadName_cell→pQ,Operator→qU,wpAny_Expr→qX,wpAny_Assign_Name→rV,codeAny_compStart_list→xi,callWith_type→xj,wpAny_ite_split→xK,wpAny_allTrue_Or_cons→zZ,wpAny_BinOp→AY,wpAny_If→AZ,DefRec→A0,wpAny_loadName_free→Dt,Fin→Du,ExceptHandler→DO,call_meets→GS,IsPart→GU,Result→GV,wpAny_call→GW,IsRange→Jo,wpAny_Tuple→NT,wpAny_items_nil→Sg,Keyword→SN,Params→WS,sliceRange_one→WW,wpAny_bindName→WZ,wpAny_sharingNotTold_none→YV,wpAny_comprehension_free→adV,wpAny_ite→aeK,wpAny_unpackItems_tuple→aeN,TriplesOk→aeP,Builtin→ali,wpAny_isTrue_Compare1→amC,getD_mem→asO,wpAny_storeName_cell→asS,wpAny_of_eq→asU,wpAny_allTrue_Or_nil→asV,wpAny_AugAssign_Name→asX,wordsOf→avo,wpAny_isTrue_BoolOp→avp
open Option.some renaming inj→af
open Option renaming bind_some→ag,isSome_iff_exists→ay,isNone_iff_eq_none→cX,or→dA,none_or→nX,isSome→pP,map_eq_none_iff→rq,getD_none→B4,getD_some→B5,bind→Dw,some_or→Hd,isSome_map→adY,map_some→alk,map_none→alo,or_none→amB
open List renaming length_map→aj,all_eq_true→aw,mem_cons_self→aA,mem_cons_of_mem→aD,length_append→aG,mem_cons→aJ,range→aM,size_toArray→aX,mem_singleton→aY,replicate→bh,getD_eq_getElem?_getD→bp,getElem?_eq_getElem→bz,length_cons→bD,map_cons→bH,length_range→bY,cons_append→cz,contains_iff_mem→cG,mem_range→cL,append_nil→c6,map_append→c7,filter_cons→dk,not_mem_nil→dm,range_succ→dM,mem_of_find?_eq_some→dY,length_reverse→dZ,flatMap_cons→d7,filter_append→eu,lookup_cons→ez,append_assoc→eN,map_map→eO,getElem?_eq_some_iff→ff,getElem?_toArray→fh,foldl_append→fJ,nodup_cons→fM,mem_append→fO,mem_map→fU,length_replicate→gk,drop_eq_getElem_cons→gw,mem_filter→gy,of_mem_zip→gA,mem_of_getElem?→gC,getElem?_map→gD,getElem_mem→hZ,range'→iu,eq_nil_of_length_eq_zero→ix,filter_filter→iz,forIn_cons→iG,nil_append→iH,getElem?_eq_none→iP,reverse_cons→iX,length_drop→jj,foldl_cons→ki,getD→kB,filter_cons_of_neg→kG,filter_eq_nil_iff→kY,nodup_append→kZ,filter_congr→lg,range'_succ→lV,length_take→lX,isEmpty_iff→lY,forIn_nil→pj,zip_cons_cons→pn,exists_cons_of_ne_nil→pq,length→qp,all_cons→qG,sum_cons→qM,take_length→rn,mem_reverse→rr,getElem?_replicate→ru,take_of_length_le→rT,filter_map→tI,length_filter_le→tO,length_singleton→tQ,getElem?_modify→wV,drop_zero→wW,range_eq_range'→wX,map→wZ,mem_map_of_mem→xJ,filterMap_cons→xM,length_modify→Af,getElem_range→Ag,drop_length→DM,map_reverse→DN,take_append_of_le_length→GX,getLast?_eq_some_getLast→G0,length_nil→G9,find?_some→Hc,find?_cons→He,all_append→Hj,drop_drop→K8,take_left→Lf,getLastD_eq_getLast?→NC,range_succ_eq_map→SP,drop_of_length_le→SW,take_append_drop→WT,sizeOf_lt_of_mem→WX,mem_of_mem_take→YW,reverse_reverse→YX,filter→YZ,getElem?_range→adN,replicate_succ→adQ,append_toArray→adR,map_congr_left→adT,getElem_of_mem→adW,map_eq_nil_iff→adX,take_succ_cons→ad5,flatMap_append→ad6,findIdx?_cons→aeL,ext_getElem?→aln,mem_toArray→amz,ext_getElem→amD,flatMap_map→amE,mem_flatMap→amG,map_flatMap→amH,getElem_map→amK,length_set→asY,nodup_nil→avl
open Nat renaming le_trans→aq,lt_of_le_of_lt→bj,eq_of_beq_eq_true→bE,pow_le_pow_right→bM,beq→bO,le_of_ble_eq_true→bP,le_refl→b0,ble→b8,lt_of_lt_of_le→ck,le_of_lt→cx,mul_le_mul_left→cY,zero_le→de,lt_trans→dz,mod_lt→dJ,lt_irrefl→dN,le_add_right→dU,lt_succ_self→dW,ble_eq_true_of_le→eg,ne_of_lt→el,add→et,log2→eA,mul_comm→eS,pow_pos→eZ,sub→fQ,sub_zero→gJ,add_le_add_left→g9,pow_add→iy,land→iN,mul→i8,add_le_add_right→jf,pow_lt_pow_right→jg,zero_add→jw,add_comm→jx,pow→jy,succ→lx,mul_succ→lz,mul_add→mT,div_lt_of_lt_mul→mU,le_add_left→nQ,min_eq_left→nT,testBit_two_pow_mul_add→o3,lt_or_eq_of_le→pE,not_lt→pH,mod_mul_right_div_self→pM,lt_succ_of_lt→qH,mod→qN,mod_eq_of_lt→rS,mul_zero→tv,blt→tA,sub_le→tE,le_mul_of_pos_left→tF,sub_add_sub_cancel→tG,beq_refl→tH,testBit_and→tP,sub_le_iff_le_add→uG,eq_of_testBit_eq→xk,mul_le_mul→xm,sub_lt_sub_left→zY,add_sub_cancel'→z6,add_assoc→Ad,le_of_succ_le→Dv,lt_succ_of_le→Dy,mul_one→Hf,add_mul→Hi,div_add_mod→Jv,mul_add_mod→Jw,div→Lg,blt_eq→NB,mod_two_eq_zero_or_one→ND,mul_assoc→Sh,le_mul_of_pos_right→SU,add_sub_cancel_left→SV,add_zero→WR,le_of_eq→WU,le_of_succ_le_succ→WY,pow_succ→W0,succ_mul→W4,log2_lt→adP,le_sub_one_of_lt→adS,mul_le_mul_right→ad0,one_mul→ad7,div_pos→ad8,add_lt_add_left→aeM,mod_mod_of_dvd→alq,lt_of_le_pred→amA,mul_left_comm→amJ,zero_lt_succ→asM,min_le_right→asQ,succ_ne_zero→asW,succ_le_succ→asZ,min_eq_right→as0,div_eq_of_lt→as4,lt_log2_self→as5,not_lt_zero→avm,log2_eq_iff→avs
open Bool renaming and_eq_true→av,false_ne_true→aF,and_eq_true_iff→bX,not_eq_true'→cQ,eq_iff_iff→eW,and_self→iO,false_eq_true→kq,noConfusion→lW,or_eq_false_iff→mE,xor→mF,or_eq_true→mX,not_true→qJ,and_true→NS
open Int renaming toNat_natCast→aR,natCast_nonneg→bF,fdiv_eq_ediv_of_nonneg→bN,fmod_eq_emod_of_nonneg→cy,natCast_add→eY,ofNat→fN,eq_ofNat_of_zero_le→fP,le_trans→f9,ofNat_le→gf,natCast_pow→gE,natAbs_natCast→iC,ediv_emod_unique→ji,natCast_mul→nR,ofNat_lt→oZ,toNat_of_nonneg→zX,ofNat_sub→Ae,le_of_lt→Ds,mul_comm→Dx,neg_fdiv_neg→GY,neg_fmod_neg→GZ,le_refl→Hk,add_comm→WV,mul_add→adZ,mul_neg→ad9,neg_neg→aea,sub_le_sub_right→aeb,natCast_zero→asL,min_le_right→asP,min_eq_right→as1,toNat→as3,min_eq_left→avr
open PySem.Heap renaming get?_push_of_some→aV,lt_size→cT,get?_push_size→gY,size_push→hU,SameBut→rU,get?_eq_some→alm
open PySem.NameKind renaming free→bJ,cell→pk
open ForInStep renaming yield→cb
open PySem.Float64 renaming sgn→cf,cmp→cA,truncOf→cC,isFinite→cN,ofInt→eE,shift→eF,ofFrac→fv,cmpInt→fw,isZero→gQ,mul→hO,add→iY,ofBin→jz,div→jS,zero→kH,isInf→lD,sub→lU,fmod→qY,divmod→tB,abs→tD,isNaN→wY,pack→z7,halfEven→A3,roundMag→A4,decode→G3,neg→Si,lt→W3,floorOf→aeQ,infMag→alp,align→amI
open PySem.Builtin.Int renaming intBits→cg
open Array renaming length_toList→cj,getElem?_append_right→nO,getElem?_append_left→oG,empty_append→oY,getElem?_toList→tC,toList_push→AX,getD_eq_getD_getElem?→Hg,toList_setIfInBounds→Ju,toList_eq_nil_iff→NU,isEmpty_iff→aeO
open PySem.Flt renaming toInt→cq
open PySem.Calls renaming docDef→cJ,spliced_cons→dx,spliced_nil→gx,callWith_builtin→iw,callWith_function→kr
open PySem.Builtin renaming bitNot→cR,bitAnd→iZ,bitXor→nP,bitOr→amF
open PUnit renaming unit→dH
open List.cons renaming inj→ey
open PySem.Around renaming deeper_units→eL
open PySem.Expr renaming casesOn→eT
open PySem.Challenge renaming rw_ta0129_02→fe
open PySem.Builtin.Range renaming rangeSize→fj,small→Hb
open PySem.W.WData renaming int→ft,bool→z8
open PySem.W renaming boot_heap→fV,boot_drawn→lu,boot_o_10→lC,boot_o_0→oH,boot_o_1→oJ,boot_o_2→oL,boot_o_4→oM,boot_o_5→oN,boot_o_6→oO,boot_o_7→oT,boot_o_8→oU,boot_o_9→oW,CodeHd→W2,boot_toks→aeI
open PySem.Value renaming ref→f7,none→jb,int→Dr,bool→adO,builtin→avk,isStrOf→avq
open Ne renaming symm→gi
open Prod.mk renaming inj→gv,injEq→pL
open PySem.Env renaming kindOf→gR
open PySem.pyHashByItsType renaming reduced→i7
open PySem.Obj renaming mapSeq→jh,putName→adM,mapDictKeys→avj
open PyProof.Rows renaming excClass_ZeroDivisionError→jM,eq_bool→Ha,eq_int→Jp,eq_str→Jq,IntsAre→Jr,eq_fi→K9,eq_if→Lb
open PySem.F renaming plainAttrs_list→jU,slot_list_iadd→qV,slot_dict_get→rR,slot_list_append→Js,type_list_append→Jt,slot_list_index→Lc,slot_str_split→Nz,entry_dict_get→NA
open PySem.Value.ref renaming inj→lb
open PySem.Heap.SameBut renaming update→ly
open PySem.Heap.UpToSlots renaming of_keeps→mY
open PySem.Value.int renaming inj→oX
open PySem.IsL renaming update→pJ
open PySem.Flow renaming next→rm
open PySem.Expr.Subscript renaming elim→tq
open PySem.Str renaming ofString→tw
open PySem.Stmt renaming casesOn→tN
open PySem.Expr.Constant renaming elim→uF
open Eq renaming trans→xN
open PySem.Data.fields renaming inj→zW
open PySem.CmpOp renaming Eq→AW
open PySem.Builtin.List renaming listTooLong→B0
open PySem.Expr.Name renaming elim→Dq
open PySem.W.WShape renaming hasItems→DQ,hasAll→Lh
open PySem.BoolOp renaming And→Hh
open List.Pairwise renaming nil→Ld
open Nat.succ renaming inj→Le
open PySem.AutoFloatOps renaming lt_0→Nx
open PySem.Txt renaming find→Ny,words→SQ,lower→asR
open PySem.Sem renaming wrap_wrap→Sf,update→alj
open PySem.World renaming withFollow_self→SO
open And renaming intro→SS,left→adU
open PySem.Value.bool renaming inj→YU
open PySem.Value.str renaming inj→aeJ
open PySem.isSame renaming created→amy
open PySem.ExcName renaming means→amL
open PySem.IsRange renaming new→avn
open UInt64 renaming ofNat→avt
open PySem.W.OpenLaw renaming pre→avu
namespace Mxx
@[elab_as_elim] theorem rwL{α:Sort _}{a b:α}{p:α→Prop}(h:a=b)(x:p b):p a:=h▸x
@[elab_as_elim] theorem rwR{α:Sort _}{a b:α}{p:α→Prop}(h:a=b)(x:p a):p b:=h▸x
theorem x02{A B:Prop}{G:Prop}(h:A∧B)(k:A→B→G):G:=k h.1 h.2
theorem x11{α:Sort _}{A:α→Prop}{G:Prop}(h:∃ a,A a)(k:∀ a,A a→G):G:=h.elim fun a h=>k a h
theorem x12{α:Sort _}{A B:α→Prop}{G:Prop}(h:∃ a,A a∧B a)(k:∀ a,A a→B a→G):G:=h.elim fun a h=>k a h.1 h.2
theorem x03{A B C:Prop}{G:Prop}(h:A∧B∧C)(k:A→B→C→G):G:=k h.1 h.2.1 h.2.2
theorem x22{α β:Sort _}{A B:α→β→Prop}{G:Prop}(h:∃ a b,A a b∧B a b)(k:∀ a b,A a b→B a b→G):G:=h.elim fun a h=>h.elim fun b h=>k a b h.1 h.2
theorem x23{α β:Sort _}{A B C:α→β→Prop}{G:Prop}(h:∃ a b,A a b∧B a b∧C a b)(k:∀ a b,A a b→B a b→C a b→G):G:=h.elim fun a h=>h.elim fun b h=>k a b h.1 h.2.1 h.2.2
theorem x04{A B C D:Prop}{G:Prop}(h:A∧B∧C∧D)(k:A→B→C→D→G):G:=k h.1 h.2.1 h.2.2.1 h.2.2.2
theorem x34{α β γ:Sort _}{A B C D:α→β→γ→Prop}{G:Prop}(h:∃ a b c,A a b c∧B a b c∧C a b c∧D a b c)(k:∀ a b c,A a b c→B a b c→C a b c→D a b c→G):G:=h.elim fun a h=>h.elim fun b h=>h.elim fun c h=>k a b c h.1 h.2.1 h.2.2.1 h.2.2.2
theorem x24{α β:Sort _}{A B C D:α→β→Prop}{G:Prop}(h:∃ a b,A a b∧B a b∧C a b∧D a b)(k:∀ a b,A a b→B a b→C a b→D a b→G):G:=h.elim fun a h=>h.elim fun b h=>k a b h.1 h.2.1 h.2.2.1 h.2.2.2
theorem x21{α β:Sort _}{A:α→β→Prop}{G:Prop}(h:∃ a b,A a b)(k:∀ a b,A a b→G):G:=h.elim fun a h=>h.elim fun b h=>k a b h
theorem x13{α:Sort _}{A B C:α→Prop}{G:Prop}(h:∃ a,A a∧B a∧C a)(k:∀ a,A a→B a→C a→G):G:=h.elim fun a h=>k a h.1 h.2.1 h.2.2
theorem x44{α β γ δ:Sort _}{A B C D:α→β→γ→δ→Prop}{G:Prop}(h:∃ a b c d,A a b c d∧B a b c d∧C a b c d∧D a b c d)(k:∀ a b c d,A a b c d→B a b c d→C a b c d→D a b c d→G):G:=h.elim fun a h=>h.elim fun b h=>h.elim fun c h=>h.elim fun d h=>k a b c d h.1 h.2.1 h.2.2.1 h.2.2.2
theorem x32{α β γ:Sort _}{A B:α→β→γ→Prop}{G:Prop}(h:∃ a b c,A a b c∧B a b c)(k:∀ a b c,A a b c→B a b c→G):G:=h.elim fun a h=>h.elim fun b h=>h.elim fun c h=>k a b c h.1 h.2
theorem x05{A B C D E:Prop}{G:Prop}(h:A∧B∧C∧D∧E)(k:A→B→C→D→E→G):G:=k h.1 h.2.1 h.2.2.1 h.2.2.2.1 h.2.2.2.2
theorem x14{α:Sort _}{A B C D:α→Prop}{G:Prop}(h:∃ a,A a∧B a∧C a∧D a)(k:∀ a,A a→B a→C a→D a→G):G:=h.elim fun a h=>k a h.1 h.2.1 h.2.2.1 h.2.2.2
theorem x33{α β γ:Sort _}{A B C:α→β→γ→Prop}{G:Prop}(h:∃ a b c,A a b c∧B a b c∧C a b c)(k:∀ a b c,A a b c→B a b c→C a b c→G):G:=h.elim fun a h=>h.elim fun b h=>h.elim fun c h=>k a b c h.1 h.2.1 h.2.2
theorem x26{α β:Sort _}{A B C D E F:α→β→Prop}{G:Prop}(h:∃ a b,A a b∧B a b∧C a b∧D a b∧E a b∧F a b)(k:∀ a b,A a b→B a b→C a b→D a b→E a b→F a b→G):G:=h.elim fun a h=>h.elim fun b h=>k a b h.1 h.2.1 h.2.2.1 h.2.2.2.1 h.2.2.2.2.1 h.2.2.2.2.2
theorem x15{α:Sort _}{A B C D E:α→Prop}{G:Prop}(h:∃ a,A a∧B a∧C a∧D a∧E a)(k:∀ a,A a→B a→C a→D a→E a→G):G:=h.elim fun a h=>k a h.1 h.2.1 h.2.2.1 h.2.2.2.1 h.2.2.2.2
theorem x54{α β γ δ ε:Sort _}{A B C D:α→β→γ→δ→ε→Prop}{G:Prop}(h:∃ a b c d e,A a b c d e∧B a b c d e∧C a b c d e∧D a b c d e)(k:∀ a b c d e,A a b c d e→B a b c d e→C a b c d e→D a b c d e→G):G:=h.elim fun a h=>h.elim fun b h=>h.elim fun c h=>h.elim fun d h=>h.elim fun e h=>k a b c d e h.1 h.2.1 h.2.2.1 h.2.2.2
theorem x25{α β:Sort _}{A B C D E:α→β→Prop}{G:Prop}(h:∃ a b,A a b∧B a b∧C a b∧D a b∧E a b)(k:∀ a b,A a b→B a b→C a b→D a b→E a b→G):G:=h.elim fun a h=>h.elim fun b h=>k a b h.1 h.2.1 h.2.2.1 h.2.2.2.1 h.2.2.2.2
theorem x41{α β γ δ:Sort _}{A:α→β→γ→δ→Prop}{G:Prop}(h:∃ a b c d,A a b c d)(k:∀ a b c d,A a b c d→G):G:=h.elim fun a h=>h.elim fun b h=>h.elim fun c h=>h.elim fun d h=>k a b c d h
theorem x43{α β γ δ:Sort _}{A B C:α→β→γ→δ→Prop}{G:Prop}(h:∃ a b c d,A a b c d∧B a b c d∧C a b c d)(k:∀ a b c d,A a b c d→B a b c d→C a b c d→G):G:=h.elim fun a h=>h.elim fun b h=>h.elim fun c h=>h.elim fun d h=>k a b c d h.1 h.2.1 h.2.2
theorem x35{α β γ:Sort _}{A B C D E:α→β→γ→Prop}{G:Prop}(h:∃ a b c,A a b c∧B a b c∧C a b c∧D a b c∧E a b c)(k:∀ a b c,A a b c→B a b c→C a b c→D a b c→E a b c→G):G:=h.elim fun a h=>h.elim fun b h=>h.elim fun c h=>k a b c h.1 h.2.1 h.2.2.1 h.2.2.2.1 h.2.2.2.2
theorem x45{α β γ δ:Sort _}{A B C D E:α→β→γ→δ→Prop}{G:Prop}(h:∃ a b c d,A a b c d∧B a b c d∧C a b c d∧D a b c d∧E a b c d)(k:∀ a b c d,A a b c d→B a b c d→C a b c d→D a b c d→E a b c d→G):G:=h.elim fun a h=>h.elim fun b h=>h.elim fun c h=>h.elim fun d h=>k a b c d h.1 h.2.1 h.2.2.1 h.2.2.2.1 h.2.2.2.2
theorem x42{α β γ δ:Sort _}{A B:α→β→γ→δ→Prop}{G:Prop}(h:∃ a b c d,A a b c d∧B a b c d)(k:∀ a b c d,A a b c d→B a b c d→G):G:=h.elim fun a h=>h.elim fun b h=>h.elim fun c h=>h.elim fun d h=>k a b c d h.1 h.2
theorem x31{α β γ:Sort _}{A:α→β→γ→Prop}{G:Prop}(h:∃ a b c,A a b c)(k:∀ a b c,A a b c→G):G:=h.elim fun a h=>h.elim fun b h=>h.elim fun c h=>k a b c h
def mp(f:Lean.Syntax→Lean.Syntax):List Lean.Syntax→List Lean.Syntax
 |[]=>[]
 |a::l=>f a::mp f l
def go(a:List Lean.Syntax):List String→List Lean.Syntax→List Lean.Syntax
 |[],s=>s
 |w::l,s=>
  let r:=(w.drop 1).toString;let d:=w.back.toNat-48;let k n:=.node .none n (s.take d).reverse.toArray::s.drop d;let q:=Lean.Name.mkSimple (r.dropEnd 1).toString;let c:=w.front
  go a l (if c=='H' then a[r.toNat!]!::s else if c=='I' then Lean.mkIdent r.toName::s else if c=='.' then Lean.mkAtom r::s else if c=='T' then k (`Lean.Parser.Tactic++q)else if c=='R' then k (`Lean.Parser.Term++q)else if c=='P' then k (`Lean.Parser.Command++q)else k q)
def bl(t:String)(a:List Lean.Syntax):Lean.Syntax:=(go a (t.splitOn " ") [])[0]!
def sp:List Lean.Syntax→List Lean.Syntax
 |a::b::l=>a::Lean.mkAtom ";"::sp (b::l)
 |l=>l
def nl(a:List Lean.Syntax):Lean.Syntax:=Lean.mkNullNode a.toArray
def sq(a:List Lean.Syntax):=bl ".( H0 TtacticSeq1Indented1 TtacticSeq1 .) Tparen3" [nl (sp a)]
def fs(a:List Lean.Syntax):=bl ".first H0 Tfirst2" [nl (mp (fun t=>bl ".| H0 Nnull1 TtacticSeq1Indented1 TtacticSeq1 Ngroup2" [t]) a)]
def iN(e:Lean.Syntax):=sq [bl ".refine .( I NhygieneInfo1 RhygienicLParen2 .? ._ RsyntheticHole2 .: ._ Rhole1 .→ ._ Rhole1 Rarrow3 Nnull1 .) RtypeAscription5 H0 Nnull1 Rapp2 Trefine2" [e],bl ".intro Iz0 Nnull1 Tintro2" []]
def rf:=bl ".refine H0 H1 .? ._ RsyntheticHole2 Nnull2 Rapp2 Trefine2"
def cl:=bl ".clear H0 Nnull1 Tclear2"
def z0:=Lean.mkIdent `z0
def rw(s:Lean.Syntax):Lean.MacroM Lean.Syntax:=if s[3].getNumArgs>0 then Lean.Macro.throwUnsupported else
 pure (sq (mp (fun r=>
  let w:=bl ".rewrite Nnull0 ToptConfig1 .[ H0 Nnull1 .] TrwRuleSeq3 Nnull0 TrewriteSeq4" [r];let c k:=(r.find? fun s=>s.isOfKind k).isSome
  if c `Lean.Parser.Term.syntheticHole then w else
  let l:=Lean.mkIdent (if r[0].getNumArgs=0 then `Mxx.rwL else `Mxx.rwR);let e:=r[1];let x:=rf [l,e]
  if c `Lean.Parser.Term.byTactic then fs [x,w]else
  let v s:=bl ".with_reducible_and_instances H0 Nnull1 TtacticSeq1Indented1 TtacticSeq1 TwithReducibleAndInstances2" [s]
  fs [sq [iN e,fs [rf [l,z0],rf [l,bl "Ipropext Iz0 Nnull1 Rapp2" []]],cl [z0]],v x,v (rf [l,bl "H0 ... Rellipsis1 Nnull1 Rapp2" [e]]),w]) s[2][1].getSepArgs.toList++[bl ".try .with_reducible .rfl TtacticRfl1 Nnull1 TtacticSeq1Indented1 TtacticSeq1 TwithReducible2 Nnull1 TtacticSeq1Indented1 TtacticSeq1 TtacticTry_2" []]))
def xs(n:Nat):Nat→List Lean.Syntax
 |0=>[]
 |i+1=>rf [Lean.mkIdent (.str `Mxx s!"x{i}{n-i}"),z0]::xs n i
def ob(s:Lean.Syntax):Lean.MacroM Lean.Syntax:=
 let m:=s[1][0];let p:=m[0][0]
 if s[1].getNumArgs=1&&m[0].getNumArgs=1&&p.isOfKind `Lean.Parser.Tactic.rcasesPat.tuple&&s[2].getNumArgs=0&&s[3][1].getNumArgs=1 then
  let e:=s[3][1][0];let P:=p[1].getSepArgs;let rc e m:=bl ".rcases Nnull0 H0 TelimTarget2 Nnull1 .with H1 Nnull2 Trcases3" [e,m];let f:=rc e (bl "H0 Nnull0 TrcasesPatLo2" [m])
  if P.size<2 then pure f else
  pure (fs [sq (iN e::fs (xs P.size (min P.size 6))::cl [z0]::(if e.isIdent then[bl ".try H0 Nnull1 TtacticSeq1Indented1 TtacticSeq1 TtacticTry_2" [cl [e]]]else[])++mp (fun q=>
   let y:=q[0][0][0];let n x:=bl ".intro H0 Nnull1 Tintro2" [x]
   if q[0][0].getNumArgs=1&&y.isOfKind `Lean.Parser.Tactic.rcasesPat.one&&y[0].getId != `rfl then n y[0]else
   sq [n z0,rc z0 q]) P.toList),f])
 else Lean.Macro.throwUnsupported
def cs(s:Lean.Syntax):Lean.MacroM Lean.Syntax:=
 let h:=s[1][0][1]
 if s[2].getNumArgs+s[3].getNumArgs+s[1][0][0].getNumArgs=0&&h.isIdent then
 let b a:=bl ".subst H0 Nnull1 Tsubst2" [a]
 pure (fs [sq [iN (bl "IEq.symm IOption.some.inj H0 Nnull1 Rapp2 Nnull1 Rapp2" [h]),cl [h],b z0],b h,bl ".cases Nnull0 .( I NhygieneInfo1 RhygienicLParen2 H0 .) Rparen3 TelimTarget2 Nnull1 Nnull0 Nnull0 Tcases4" [h]])
 else Lean.Macro.throwUnsupported
def nc(s:Lean.Syntax)(a:List Lean.Syntax):Lean.MacroM Lean.Syntax:=if s[1][0].getNumArgs>0 then Lean.Macro.throwUnsupported else pure (fs a)
def om(s:Lean.Syntax):=nc s [bl ".with_reducible H0 Nnull1 TtacticSeq1Indented1 TtacticSeq1 TwithReducible2" [fs (go [] (".exact IInt.natCast_nonneg ._ Rhole1 Nnull1 Rapp2 Texact2 .exact IInt.not_lt.mpr IInt.natCast_nonneg ._ Rhole1 Nnull1 Rapp2 Nnull1 Rapp2 Texact2 .exact IInt.ofNat_inj Texact2 .exact INat.lt_of_le_of_lt INat.sub_le ... Rellipsis1 Nnull1 Rapp2 .by .assumption Tassumption1 Nnull1 TtacticSeq1Indented1 TtacticSeq1 RbyTactic2 Nnull2 Rapp2 Texact2".splitOn " ") []++mp (fun n=>bl ".exact H0 .by .assumption Tassumption1 Nnull1 TtacticSeq1Indented1 TtacticSeq1 RbyTactic2 Nnull1 Rapp2 Texact2" [n]) (go [] ("INat.le_of_lt INat.lt_of_succ_lt INat.not_lt.mp INat.le_of_not_le INat.pos_of_ne_zero INat.lt_of_mul_lt_mul_left".splitOn " ") []))],bl ".lia .- IabstractProof TnegConfigItem2 TconfigItem1 Nnull1 ToptConfig1 Tlia2" [],bl ".omega .+ IsplitDisjunctions TposConfigItem2 TconfigItem1 Nnull1 ToptConfig1 Tomega2" []]
def ka:Lean.Syntax:=bl ".kernel_rfl NtacticKernel_rfl1 Nnull1 TtacticSeq1Indented1 TtacticSeq1" []
def kr:=bl ".kernel_rfl NtacticKernel_rfl1" []
def de(s:Lean.Syntax):=nc s [bl ".decide .+ Ikernel TposConfigItem2 TconfigItem1 Nnull1 ToptConfig1 Tdecide2" []]
def dl(s:Lean.Syntax):Lean.MacroM Lean.Syntax:=if s.getPos?.isNone then Lean.Macro.throwUnsupported else
 let k:=s[1].getKind
 pure ((if k==`Lean.Parser.Command.definition||k==`Lean.Parser.Command.abbrev then s.modifyArg 0 (·.setArg 4 (bl ".noncomputable Pnoncomputable1 Nnull1" []))else s).rewriteBottomUp (·.setInfo .none))
end Mxx
local macro_rules (kind:=Lean.Parser.Tactic.rwSeq)|s=>Mxx.rw s
local macro_rules (kind:=Lean.Parser.Tactic.obtain)|s=>Mxx.ob s
local macro_rules (kind:=Lean.Parser.Tactic.cases)|s=>Mxx.cs s
local macro_rules (kind:=Lean.Parser.Tactic.omega)|s=>Mxx.om s
local macro_rules (kind:=Lean.Parser.Tactic.decide)|s=>Mxx.de s
local macro_rules (kind:=Lean.Parser.Tactic.tacticRfl')|s=>pure Mxx.kr
local macro_rules (kind:=Lean.Parser.Command.declaration)|s=>Mxx.dl s
noncomputable section
section
open PySem PySem.W PyProof.Rows
namespace Internal.Q
theorem NV{a b:Bool}(h:a=true)(k:b=true):(a&&b)=true:=by rw[h,k];rfl
theorem rs:fe.row.wellSaid=true:=by
 unfold OpenRow.wellSaid OpenRow.partSaid looksOpen;repeat' (with_reducible refine NV ?_ ?_)
 all_goals decide
theorem amM:fe.wellSaid=true:=by
 unfold OpenLaw.wellSaid;repeat' (with_reducible refine NV ?_ ?_)
 all_goals first|(with_reducible exact rs)|decide
end Internal.Q
end
section
open PySem
namespace Internal
theorem no{α:Type}{d:α}{P:Prop}(e:(none:Option α)=some d):P:=nomatch e
inductive amN{α β:Type}(x:Option α)(f:α->Option β)(b:β):Prop
 |mk (a:α) (h1:x=some a) (h2:f a=some b)
theorem aO{α β:Type}{x:Option α}{f:α->Option β}{b:β}(h:x.bind f=some b):amN x f b:=by
 cases x with
 |none=>exact no h
 |some a=>exact⟨a,rfl,h⟩
theorem jV{α:Type}{x y:Option α}{b:α}{P:Prop}(h:x.or y=some b)(k1:x=some b->P)(k2:y=some b->P):P:=by
 cases x with
 |none=>exact k2 h
 |some a=>exact k1 h
inductive amO{α β:Type}(x:Option α)(f:α->β)(b:β):Prop
 |mk (a:α) (h1:x=some a) (h2:f a=b)
theorem dC{α β:Type}{x:Option α}{f:α->β}{b:β}(h:x.map f=some b):amO x f b:=by
 cases x with
 |none=>exact no h
 |some a=>exact⟨a,rfl,af h⟩
inductive amP{α β:Type}(l:List α)(f:α->β)(b:β):Prop
 |mk (a:α) (h1:a∈l) (h2:f a=b)
theorem Li{α β:Type}{l:List α}{f:α->β}{b:β}(h:b∈l.map f):amP l f b:=by
 obtain⟨a,h1,h2⟩:=fU.mp h;exact⟨a,h1,h2⟩
def rW(e:ae):Option {x:Str×Pos // e=.Name x.1 x.2}:=
 if h:e.ctorIdx=23 then Dq (motive_1:=λe=>Option {x:Str×Pos // e=.Name x.1 x.2}) e h λa b=>some ⟨(a,b),rfl⟩else none
def SX(e:ae):Option {x:List ae×Nat×Pos // e=.Tuple x.1 x.2.1 x.2.2}:=
 if h:e.ctorIdx=25 then PySem.Expr.Tuple.elim (motive_1:=λe=>Option {x:List ae×Nat×Pos // e=.Tuple x.1 x.2.1 x.2.2}) e h λa b c=>some ⟨(a,b,c),rfl⟩else none
def NW(e:ae):Option {x:(Option ae×Option ae×Option ae)×Pos // e=.Slice x.1.1 x.1.2.1 x.1.2.2 x.2}:=
 if h:e.ctorIdx=26 then PySem.Expr.Slice.elim (motive_1:=λe=>Option {x:(Option ae×Option ae×Option ae)×Pos // e=.Slice x.1.1 x.1.2.1 x.1.2.2 x.2}) e h λa b c d=>some ⟨((a,b,c),d),rfl⟩else none
def W5(e:ae):Option {x:ae×List dX×Scope×Pos // e=.ListComp x.1 x.2.1 x.2.2.1 x.2.2.2}:=
 if h:e.ctorIdx=8 then PySem.Expr.ListComp.elim (motive_1:=λe=>Option {x:ae×List dX×Scope×Pos // e=.ListComp x.1 x.2.1 x.2.2.1 x.2.2.2}) e h λa b c d=>some ⟨(a,b,c,d),rfl⟩else none
def NX(e:ae):Option {x:ae×Str×Pos // e=.Attribute x.1 x.2.1 x.2.2}:=
 if h:e.ctorIdx=20 then PySem.Expr.Attribute.elim (motive_1:=λe=>Option {x:ae×Str×Pos // e=.Attribute x.1 x.2.1 x.2.2}) e h λa b c=>some ⟨(a,b,c),rfl⟩else none
def aeR(e:ae):Option {x:Const×Nat×Pos // e=.Constant x.1 x.2.1 x.2.2}:=
 if h:e.ctorIdx=19 then uF (motive_1:=λe=>Option {x:Const×Nat×Pos // e=.Constant x.1 x.2.1 x.2.2}) e h λa b c=>some ⟨(a,b,c),rfl⟩else none
def NY(e:ae):Option {x:ae×List ae×List SN×Pos // e=.Call x.1 x.2.1 x.2.2.1 x.2.2.2}:=
 if h:e.ctorIdx=16 then PySem.Expr.Call.elim (motive_1:=λe=>Option {x:ae×List ae×List SN×Pos // e=.Call x.1 x.2.1 x.2.2.1 x.2.2.2}) e h λa b c d=>some ⟨(a,b,c,d),rfl⟩else none
def aeS(e:ae):Option {x:ae×ae×Pos // e=.Subscript x.1 x.2.1 x.2.2}:=
 if h:e.ctorIdx=21 then tq (motive_1:=λe=>Option {x:ae×ae×Pos // e=.Subscript x.1 x.2.1 x.2.2}) e h λa b c=>some ⟨(a,b,c),rfl⟩else none
def aeT(e:ae):Option {x:List ae×Pos // e=.List x.1 x.2}:=
 if h:e.ctorIdx=24 then PySem.Expr.List.elim (motive_1:=λe=>Option {x:List ae×Pos // e=.List x.1 x.2}) e h λa b=>some ⟨(a,b),rfl⟩else none
def amQ(e:ae):Option {x:ae×qU×ae×Pos // e=.BinOp x.1 x.2.1 x.2.2.1 x.2.2.2}:=
 if h:e.ctorIdx=2 then PySem.Expr.BinOp.elim (motive_1:=λe=>Option {x:ae×qU×ae×Pos // e=.BinOp x.1 x.2.1 x.2.2.1 x.2.2.2}) e h λa b c d=>some ⟨(a,b,c,d),rfl⟩else none
def exC{α:Type}(z:α)(bo bi un ie lc cm ca co su na li tu)(e:ae):=
 eT (motive_1:=λ_=>α) e bo (λ_ _ _=>z) bi un (λ_ _ _ _=>z) ie (λ_ _ _=>z) (λ_ _ _=>z) lc (λ_ _ _ _=>z) (λ_ _ _ _ _=>z) (λ_ _ _ _=>z) (λ_ _=>z) (λ_ _=>z) (λ_ _=>z) cm ca (λ_ _ _ _=>z) (λ_ _=>z) co (λ_ _ _=>z) su (λ_ _=>z) na li tu (λ_ _ _ _=>z)
theorem Jx{α:Type}{d:α}{P:ae->Prop}{bo bi un ie lc cm ca co su na li tu}(e:ae)(kbo:∀a b c,bo a b c=some d->P (.BoolOp a b c))(kbi:∀a b c x,bi a b c x=some d->P (.BinOp a b c x))(kun:∀a b c,un a b c=some d->P (.UnaryOp a b c))(kie:∀a b c x,ie a b c x=some d->P (.IfExp a b c x))(klc:∀a b c x,lc a b c x=some d->P (.ListComp a b c x))(kcm:∀a b c x,cm a b c x=some d->P (.Compare a b c x))(kca:∀a b c x,ca a b c x=some d->P (.Call a b c x))(kco:∀a b c,co a b c=some d->P (.Constant a b c))(ksu:∀a b c,su a b c=some d->P (.Subscript a b c))(kna:∀a b,na a b=some d->P (.Name a b))(kli:∀a b,li a b=some d->P (.List a b))(ktu:∀a b c,tu a b c=some d->P (.Tuple a b c))
(h:exC none bo bi un ie lc cm ca co su na li tu e=some d):P e:=by
 have k:∀e,(none:Option α)=some d->P e:=λe h=>no h;revert h;exact eT (motive_1:=λe=>exC none bo bi un ie lc cm ca co su na li tu e=some d->P e) e kbo (λ_ _ _=>k _) kbi kun (λ_ _ _ _=>k _) kie (λ_ _ _=>k _) (λ_ _ _=>k _) klc (λ_ _ _ _=>k _) (λ_ _ _ _ _=>k _) (λ_ _ _ _=>k _) (λ_ _=>k _) (λ_ _=>k _) (λ_ _=>k _) kcm kca (λ_ _ _ _=>k _) (λ_ _=>k _) kco (λ_ _ _=>k _) ksu (λ_ _=>k _) kna kli ktu (λ_ _ _ _=>k _)
def stC{α:Type}(z:α)(fd:Str->nN->List Stmt->Scope->Pos->α)(re as au fo wh fi ex)(s:Stmt):=
 tN (motive_2:=λ_=>α) s (λn a b _ _ _ s _ _ p=>fd n a b s p) (λ_ _ _ _ _ _ _ _ _ _=>z) (λ_ _ _ _ _ _ _ _ _ _ _=>z) re (λ_ _=>z) as (λ_ _ _ _ _ _ _=>z) au (λ_ _ _ _ _=>z) fo (λ_ _ _ _ _=>z) wh fi (λ_ _ _=>z) (λ_ _ _=>z) (λ_ _ _=>z) (λ_ _ _=>z) (λ_ _ _ _ _=>z) (λ_ _ _ _ _=>z) (λ_ _ _=>z) (λ_ _=>z) (λ_ _ _ _=>z) (λ_ _=>z) (λ_ _=>z) ex (λ_=>z) (λ_=>z) (λ_=>z)
theorem SY{α:Type}{d:α}{P:Stmt->Prop}{re as au fo wh fi ex}(s:Stmt)(kre:∀a b,re a b=some d->P (.Return a b))(kas:∀a b c,as a b c=some d->P (.Assign a b c))(kau:∀a b c x,au a b c x=some d->P (.AugAssign a b c x))(kfo:∀a b c x y,fo a b c x y=some d->P (.For a b c x y))(kwh:∀a b c x,wh a b c x=some d->P (.While a b c x))(kfi:∀a b c x,fi a b c x=some d->P (.If a b c x))(kex:∀a b,ex a b=some d->P (.Expr a b))
(h:stC none (λ_ _ _ _ _=>none) re as au fo wh fi ex s=some d):P s:=by
 have k:∀s,(none:Option α)=some d->P s:=λs h=>no h;revert h;exact tN (motive_2:=λs=>stC none (λ_ _ _ _ _=>none) re as au fo wh fi ex s=some d->P s) s (λ_ _ _ _ _ _ _ _ _ _=>k _) (λ_ _ _ _ _ _ _ _ _ _=>k _) (λ_ _ _ _ _ _ _ _ _ _ _=>k _) kre (λ_ _=>k _) kas (λ_ _ _ _ _ _ _=>k _) kau (λ_ _ _ _ _=>k _) kfo (λ_ _ _ _ _=>k _) kwh kfi (λ_ _ _=>k _) (λ_ _ _=>k _) (λ_ _ _=>k _) (λ_ _ _=>k _) (λ_ _ _ _ _=>k _) (λ_ _ _ _ _=>k _) (λ_ _ _=>k _) (λ_ _=>k _) (λ_ _ _ _=>k _) (λ_ _=>k _) (λ_ _=>k _) kex (λ_=>k _) (λ_=>k _) (λ_=>k _)
end Internal
end
section
open PySem PySem.W PyProof.Rows
namespace Internal
section
section
variable(tb:String->Option ali)(p:bb)(w:World)(cw:Nat)(ann:Option Value)
theorem A5:∀(n:Nat){m:Nat}{s aU:ah}{t DR:Thread}{r:Option (ah×Thread)},segGo tb p w cw ann b n s t=some (aU,DR)->
 segGo tb p w cw ann b m aU DR=r->segGo tb p w cw ann b (n+m) s t=r:=λn=>by
 induction n with
 |zero=>
  intro m s aU t DR r h k;obtain⟨rfl,rfl⟩:s=aU/\t=DR:=by simpa [segGo]using h
  rw[jw];exact k
 |succ n ih=>
  intro m s aU t DR r h k;rw[show n+1+m=n+m+1 by omega];unfold segGo at h⊢;cases he:endAt b t with
  |some f=>rw[he]at h;cases h
  |none=>
   rw[he]at h;cases hk:stepOk cw ann t with
   |false=>rw[hk]at h;cases h
   |true=>
    rw[hk]at h;cases hs:step (denote tb) p w s t with
    |halt o eU=>rw[hs]at h;cases h
    |go eU avN=>rw[hs]at h;exact ih h k
def Go(m:Sem α)(c:Code)(s:ah)(a:α)(s':ah)(k:Nat):Prop:=
 ∀(q:Pos)(K:α->Sem Fin)(H:Value->Sem Fin)(gd:Bool->Bool)(lv:List Value->List Value)(F:Frame)(B:List Frame),
  ∃n q',n<=k/\segGo tb p w cw ann 1 n s ⟨m.wrap K H gd lv,c,q,F::B⟩=some (s',⟨K a,c,q',F::B⟩)
variable{tb p w cw ann}{α β:Type}{c:Code}{s aU eU:ah}
theorem ib(h:Go tb p w cw ann m c s a aU k)(hk:k<=k'):Go tb p w cw ann m c s a aU k':=
 λq K H gd lv F B=>by obtain⟨n,q',l,e⟩:=h q K H gd lv F B;exact⟨n,q',aq l hk,e⟩
theorem bR:Go tb p w cw ann (pure a:Sem α) c s a s 0:=λq _ _ _ _ _ _=>⟨0,q,b0 _,rfl⟩
theorem bC{m:Sem α}{f:α->Sem β}{a:α}{b:β}{k₁ k₂:Nat}(h:Go tb p w cw ann m c s a aU k₁)(k:Go tb p w cw ann (f a) c aU b eU k₂):Go tb p w cw ann (m >>= f) c s b eU (k₁+k₂):=
 λq K H gd lv F B=>by
  rw[Sem.bind_eq_wrap',Sf];obtain⟨n,q',l,e⟩:=h q (λa=>(f a).wrap K H gd lv) (λe=>(Sem.raise e:Sem β).wrap K H gd lv) (λg=>gd (id g)) (λl=>lv (id l)) F B;obtain⟨n',q'',l',e'⟩:=k q' K H gd lv F B;exact⟨n+n',q'',Nat.add_le_add l l',A5 tb p w cw ann n e e'⟩
theorem S0(h:Go tb p w cw ann m c s a aU k):Go tb p w cw ann (m.keep vs) c s a aU k:=
 λq K H gd lv F B=>by rw[Sem.keep_eq_wrap,Sf];exact h q _ _ _ _ F B
theorem Hl(h:Go tb p w cw ann m c s a aU j):Go tb p w cw ann (m.onRaise k) c s a aU j:=
 λq K H gd lv F B=>by rw[Sem.onRaise_eq_wrap,Sf];exact h q _ _ _ _ F B
theorem eh(h:Go tb p w cw ann m c s a aU k):Go tb p w cw ann (holding vs m) c s a aU k:=by
 unfold holding;split
 ·exact h
 ·exact S0 h
theorem l8(st:∀(q:Pos)(K:α->Sem Fin)(H:Value->Sem Fin)(gd:Bool->Bool)(lv:List Value->List Value)(F:Frame)(B:List Frame),
 ∃q',segGo tb p w cw ann 1 1 s ⟨m.wrap K H gd lv,c,q,F::B⟩=some (aU,⟨m'.wrap K H gd lv,c,q',F::B⟩))(h:Go tb p w cw ann m' c aU a eU j):Go tb p w cw ann m c s a eU (1+j):=
 λq K H gd lv F B=>by
  obtain⟨q',e⟩:=st q K H gd lv F B;obtain⟨n,q'',l,e'⟩:=h q' K H gd lv F B;exact⟨1+n,q'',g9 l 1,A5 tb p w cw ann 1 e e'⟩
theorem Jy(h:Go tb p w cw ann (k ()) c s a aU j):Go tb p w cw ann (.rule tag k) c s a aU (1+j):=
 l8 (λq K H gd lv F B=>⟨q,by cases B<;>rfl⟩) h
theorem Jz(h:Go tb p w cw ann (k ()) c s a aU j):Go tb p w cw ann (.at amS k) c s a aU (1+j):=
 l8 (λq K H gd lv F B=>⟨amS,by cases B<;>rfl⟩) h
theorem DS(h:Go tb p w cw ann (k ()) c s a aU j):Go tb p w cw ann (.point l k) c s a aU (1+j):=
 l8 (λq K H gd lv F B=>⟨q,by cases B<;>rfl⟩) h
theorem Y0(h:Go tb p w cw ann (k ⟨p,w.params⟩) c s a aU j):Go tb p w cw ann (.ask k) c s a aU (1+j):=
 l8 (λq K H gd lv F B=>⟨q,by cases B<;>rfl⟩) h
theorem xO(h:Go tb p w cw ann (k s.toks) c {s with toks:=s.toks+1} a aU j):Go tb p w cw ann (.fresh k) c s a aU (1+j):=
 l8 (λq K H gd lv F B=>⟨q,by cases B<;>rfl⟩) h
theorem NZ(h:Go tb p w cw ann (k s.heap.objs.size) c {s with heap:=s.heap.push o} a aU j):Go tb p w cw ann (.alloc o k) c s a aU (1+j):=
 l8 (λq K H gd lv F B=>⟨q,by cases B<;>rfl⟩) h
theorem qq(e:s.heap.get? x=some o)(h:Go tb p w cw ann (k o) c s a aU j):Go tb p w cw ann (.load x pt k) c s a aU (1+j):=
 l8 (λq K H gd lv F B=>⟨q,by
  obtain⟨heap,gens,drawn,toks,os⟩:=s;have e:heap.get? x=some o:=e;have st:step (denote tb) p w ⟨heap,gens,drawn,toks,os⟩ ⟨(Sem.load x pt k).wrap K H gd lv,c,q,F::B⟩=.go ⟨heap,gens,drawn,toks,os⟩ ⟨(k o).wrap K H gd lv,c,q,F::B⟩:=by
   simp only[Sem.wrap,step,e]
  have ok:stepOk cw ann ⟨(Sem.load x pt k).wrap K H gd lv,c,q,F::B⟩=true:=rfl;have en:endAt 1 ⟨(Sem.load x pt k).wrap K H gd lv,c,q,F::B⟩=none:=by cases B<;>rfl
  simp only[segGo,en,ok,st]⟩) h
theorem A6(e:(s.heap.get? x).isSome=true)(ha:cw<=x\/x=mainNs)
(h:Go tb p w cw ann (k ()) c {s with heap:=s.heap.update x f} a aU j):Go tb p w cw ann (.update x pt f k) c s a aU (1+j):=
 l8 (λq K H gd lv F B=>⟨q,by
  obtain⟨heap,gens,drawn,toks,os⟩:=s;have e:(heap.get? x).isSome=true:=e;have st:step (denote tb) p w ⟨heap,gens,drawn,toks,os⟩ ⟨(alj x pt f k).wrap K H gd lv,c,q,F::B⟩=.go ⟨heap.update x f,gens,drawn,toks,os⟩ ⟨(k ()).wrap K H gd lv,c,q,F::B⟩:=by
   simp only[Sem.wrap,step,e,if_true]
  have ok:stepOk cw ann ⟨(alj x pt f k).wrap K H gd lv,c,q,F::B⟩=true:=by
   show(true&&(b8 cw x||x==mainNs||x==cStatics||ann==some (.ref x)))=true;rcases ha with ha|rfl
   ·rw[eg ha];rfl
   ·simp
  have en:endAt 1 ⟨(alj x pt f k).wrap K H gd lv,c,q,F::B⟩=none:=by cases B<;>rfl
  simp only[segGo,en,ok,st]⟩) h
end
end
section
section
variable{p:bb}{w:World}{cw:Nat}{ann:Option Value}{c:Code}{s:ah}
def JA(k:Int)(t:Tok):Sem (Option Value):=callSpecialIfBoundUnlessNone? (.int k t) "__hash__" (do rule "hash.unhashable";raiseError "TypeError" s!"unhashable type: '{← typeNameOf (.int k t)}'")
theorem Lj(b)(heap)(gens:Array GenState)(drawn:Drawn)(toks)(os:gW)(k)(t)(c:Code)(q)(K:Option Value->Sem Fin)(H:Value->Sem Fin)(gd:Bool->Bool)(lv:List Value->List Value)(F:Frame):
 segGo treeTable p (w.withFollow "special-get-raises" b) cw ann 1 5 ⟨heap,gens,drawn,toks,os⟩ ⟨(JA k t).wrap K H gd lv,c,q,[F]⟩=some (⟨heap,gens,drawn,toks+1,os⟩,⟨K (some (.int (rawHash k) toks)),c,q,[F]⟩):=by
 cases b<;>rfl'
theorem Lk(b)(heap)(gens:Array GenState)(drawn:Drawn)(toks)(os:gW)(k)(t)(c:Code)(q)(K:Option Value->Sem Fin)(H:Value->Sem Fin)(gd:Bool->Bool)(lv:List Value->List Value)(F G:Frame)(B:List Frame):
 segGo treeTable p (w.withFollow "special-get-raises" b) cw ann 1 5 ⟨heap,gens,drawn,toks,os⟩ ⟨(JA k t).wrap K H gd lv,c,q,F::G::B⟩=some (⟨heap,gens,drawn,toks+1,os⟩,⟨K (some (.int (rawHash k) toks)),c,q,F::G::B⟩):=by
 cases b<;>rfl'
theorem N0(k)(t):Go treeTable p w cw ann (JA k t) c s (some (.int (rawHash k) s.toks)) {s with toks:=s.toks+1} 5:=by
 intro q K H gd lv F B;refine⟨5,q,b0 _,?_⟩;rw[<-SO w "special-get-raises"];cases B with
 |nil=>exact Lj _ _ _ _ _ _ _ _ _ _ _ _ _ _ _
 |cons G B=>exact Lk _ _ _ _ _ _ _ _ _ _ _ _ _ _ _ _ _
theorem w0(k)(t):pyHash (.int k t)=(do
 match<-JA k t with
 |some (.int i _)=>i7 i
 |some (.bool b)=>pure (if b then 1 else 0)
 |some (.ref a)=>
  match(<-load a).data with
  |.prim (.int i _)=>
   rule "hash.int-subclass"
   let h<-i7 i
   point
   pure h
  |_=>raiseError "TypeError" "__hash__ method should return an integer"
 |some r=>do notAStandIn r;raiseError "TypeError" "__hash__ method should return an integer"
 |none=>raiseError "TypeError" s!"unhashable type: '{← typeNameOf (.int k t)}'"):=by
 rfl'
theorem Ll(k)(t):Go treeTable p w cw ann (pyHash (.int k t)) c s (hashInt k) {s with toks:=s.toks+1} 10:=by
 have hr:=rawHash_range k;apply ib
 ·skip
  rw[w0];apply bC (N0 k t) ?_;rotate_left;show Go _ _ _ _ _ (i7 (rawHash k)) _ _ _ _ _;unfold i7;rw[if_pos (by rw[decide_eq_true hr.1,decide_eq_true hr.2];rfl)];exact bR
 ·omega
theorem DT{es:Array cZ}{h:Int}(hn:∀e∈es.toList,e.hash≠h):placesWithHash es.size (λi=>es[i]?.map (·.hash)) h=[]:=by
 unfold placesWithHash;rw[kY];intro i hi;rw[cL]at hi;show¬((es[i]?.map (·.hash))==some h)=true;rw[Array.getElem?_eq_getElem hi];simp only[alk,beq_iff_eq,Option.some.injEq];exact hn _ (by simp)
theorem jk(ho:s.heap.get? d=some o)(hd:o.data=.dict es ep):Go treeTable p w cw ann (dictEntries d pt) c s es s 10:=by
 apply ib
 ·skip
  unfold dictEntries;apply bC (qq ho bR) ?_;rotate_left;rw[hd];exact bR
 ·omega
theorem rX(ho:s.heap.get? d=some o)(hd:o.data=.dict es ep):Go treeTable p w cw ann (dictEpoch d pt) c s ep s 10:=by
 apply ib
 ·skip
  unfold dictEpoch;apply bC (qq ho bR) ?_;rotate_left;rw[hd];exact bR
 ·omega
theorem uH{d:Addr}{o:Obj}{es:Array cZ}{ep:Nat}{k:Int}{t:Tok}{h:Int}(ho:s.heap.get? d=some o)(hd:o.data=.dict es ep)(hn:∀e∈es.toList,e.hash≠h):
 Go treeTable p w cw ann (dictFind d (.int k t) h) c s none s 20:=by
 apply ib
 ·skip
  unfold dictFind;apply eh (bC (jk ho hd) ?_);rotate_left;dsimp only;rw[DT hn];exact bR
 ·omega
def kj(e:cZ):Obj->Obj:=avj (·.push e)
theorem l9{d:Addr}{o:Obj}{es:Array cZ}{ep:Nat}{pt:Option Value}{e:cZ}(ho:s.heap.get? d=some o)(hd:o.data=.dict es ep)(hs:es.size+1<=sizeLine+1)(hn:cw<=d):
 Go treeTable p w cw ann (updateDictKeys d (·.push e) pt) c s () {s with heap:=s.heap.update d (kj e)} 20:=by
 apply ib
 ·skip
  unfold updateDictKeys;apply bC (qq ho bR) ?_;rotate_left;rw[hd];have ho':(s.heap.update d (kj e)).get? d=some (kj e o):=by
   obtain⟨cls,dt,data,sl⟩:=o;simp only at hd;subst hd;exact Heap.get?_update_self _ ho rfl
  apply bC (A6 (by rw[ho];rfl) (.inl hn) bR) ?_;rotate_left;unfold lookBehind;apply bC (qq ho' bR) ?_;rotate_left;have:(kj e o).data.pastItsLine=none:=by
   obtain⟨cls,dt,data,sl⟩:=o;simp only at hd;subst hd;show(if(es.push e).size>sizeLine+1 then some "dict:memory" else none)=none;rw[if_neg (by rw[Array.size_push];omega)]
  rw[this];exact bR
 ·omega
theorem Hm(ho:s.heap.get? d=some o)(hd:o.data=.dict es ep)(hs:es.size+1<=sizeLine+1)(hn:cw<=d)
(hh:∀e∈es.toList,e.hash≠hashInt k):
 Go treeTable p w cw ann (dictSet d (.int k t) v) c s () {s with heap:=s.heap.update d (kj ⟨hashInt k,.int k t,v⟩),toks:=s.toks+1} 60:=by
 apply ib
 ·skip
  unfold dictSet;apply eh (bC (Ll k t) ?_);rotate_left;unfold dictSetHashed;apply eh (bC (uH (s:={s with toks:=s.toks+1}) ho hd hh) ?_);rotate_left;apply bC (Jy bR) ?_;rotate_left;exact l9 (s:={s with toks:=s.toks+1}) ho hd hs hn
 ·omega
theorem Hn(ho:s.heap.get? d=some o)(hd:o.data=.dict es ep)(hs:es.size+1<=sizeLine+1)(hn:cw<=d)
(hh:∀e∈es.toList,e.hash≠h):
 Go treeTable p w cw ann (dictPut d h (.int k t) v) c s () {s with heap:=s.heap.update d (kj ⟨h,.int k t,v⟩)} 50:=by
 apply ib
 ·skip
  unfold dictPut;apply bC (uH ho hd hh) ?_;rotate_left;exact l9 ho hd hs hn
 ·omega
end
end
section
def jN:Heap->List Obj->Heap
 |⟨objs,life⟩,os=>⟨objs++os.toArray,life⟩
def St(S:ah)(os:List Obj)(t:Nat):ah:={S with heap:=jN S.heap os,toks:=t}
def dO(es:List cZ):Obj:={cls:=.type "dict",data:=.dict es.toArray es.length}
theorem Ho(h)(os:List Obj):(jN h os).objs.size=h.objs.size+os.length:=by
 obtain⟨objs,life⟩:=h;simp[jN]
theorem Hp(h)(os:List Obj)(o):(jN h os).push o=jN h (os++[o]):=by
 obtain⟨objs,life⟩:=h;simp[jN,Heap.push]
theorem mZ{h:Heap}{os:List Obj}{i:Nat}{o:Obj}(e:os[i]? =some o)(ha:o.alive=true):(jN h os).get? (h.objs.size+i)=some o:=by
 rw[alm];refine⟨?_,ha⟩;obtain⟨objs,life⟩:=h;show(objs++os.toArray)[objs.size+i]? =some o;rw[nO (by omega)];simp[e]
theorem rY(h:Heap)(os:List Obj)(i:Nat)(f:Obj->Obj):(jN h os).update (h.objs.size+i) f=jN h (os.modify i f):=by
 obtain⟨objs,life⟩:=h;show(⟨(objs++os.toArray).modify (objs.size+i) f,life⟩:Heap)=⟨objs++(os.modify i f).toArray,life⟩
 congr 1;apply Array.ext_getElem?;intro j;rw[Array.getElem?_modify];by_cases hj:j<objs.size
 ·rw[oG hj,oG hj,if_neg (by omega)]
 ·rw[nO (by omega),nO (by omega)]
  simp only[fh,wV];by_cases hi:objs.size+i=j
  ·subst hi;simp
  ·have:¬i=j - objs.size:=by omega
   simp[this,hi]
theorem rZ(es:List cZ)(e:cZ):kj e (dO es)=dO (es++[e]):=by
 simp[kj,dO,avj]
theorem xP(a:List α)(x:α)(b:List α)(f:α->α):(a++x::b).modify a.length f=a++f x::b:=by
 induction a with
 |nil=>rfl
 |cons y a ih=>simp[ih]
def uI(q:Pos)(x:Int×Str):Sem Value×Sem Value:=(mkInt x.1,do let y<-mkText x.2;standAt q;pure y)
def uJ(t:Nat):List (Int×Str)->List cZ
 |[]=>[]
 |(k,v)::r=>⟨hashInt k,.int k t,.str v (t+1)⟩::uJ (t+3) r
def uL(t:Nat):List (Int×Str)->List cZ
 |[]=>[]
 |(k,v)::r=>⟨hashInt k,.int k t,.str v (t+1)⟩::uL (t+2) r
theorem Hq(t)(L:List (Int×Str)):(uJ t L).map (·.hash)=L.map λx=>hashInt x.1:=by
 induction L generalizing t with
 |nil=>rfl
 |cons x r ih=>obtain⟨k,v⟩:=x;simp[uJ,ih]
theorem Hr(t)(L:List (Int×Str)):(uL t L).map (·.hash)=L.map λx=>hashInt x.1:=by
 induction L generalizing t with
 |nil=>rfl
 |cons x r ih=>obtain⟨k,v⟩:=x;simp[uL,ih]
section
variable{p:bb}{w:World}{cw:Nat}{ann:Option Value}{c:Code}{S:ah}
theorem DU(k):Go treeTable p w cw ann (mkInt k) c s (.int k s.toks) {s with toks:=s.toks+1} 1:=ib (xO bR) (b0 _)
theorem JB(q)(x:Int×Str):Go treeTable p w cw ann (uI q x).2 c s (.str x.2 s.toks) {s with toks:=s.toks+1} 2:=
 ib (bC (xO bR) (Jz bR)) (b0 _)
theorem N1{os:List Obj}{es:List cZ}{more:List Obj}{t:Nat}{k:Int}{tk:Tok}{v:Value}(hs:es.length<=sizeLine)(hn:cw<=S.heap.objs.size)
(hh:∀e∈es,e.hash≠hashInt k):
 Go treeTable p w cw ann (dictSet (S.heap.objs.size+os.length) (.int k tk) v) c (St S (os++dO es::more) t) () (St S (os++dO (es++[⟨hashInt k,.int k tk,v⟩])::more) (t+1)) 60:=by
 have ho:(St S (os++dO es::more) t).heap.get? (S.heap.objs.size+os.length)=some (dO es):=mZ (by simp) rfl;have:=Hm (p:=p) (w:=w) (cw:=cw) (ann:=ann) (c:=c) (k:=k) (t:=tk) (v:=v) ho (es:=es.toArray) (ep:=es.length) rfl (by simpa using hs) (by omega) (by simpa using hh);have e:(St S (os++dO es::more) t).heap.update (S.heap.objs.size+os.length) (kj ⟨hashInt k,.int k tk,v⟩)=jN S.heap (os++dO (es++[⟨hashInt k,.int k tk,v⟩])::more):=by
  show(jN S.heap _).update _ _=_;rw[rY,xP,rZ]
 rw[e]at this;exact this
theorem Y1{os:List Obj}{es:List cZ}{more:List Obj}{t:Nat}{k:Int}{tk:Tok}{h:Int}{v:Value}(hs:es.length<=sizeLine)(hn:cw<=S.heap.objs.size)
(hh:∀e∈es,e.hash≠h):
 Go treeTable p w cw ann (dictPut (S.heap.objs.size+os.length) h (.int k tk) v) c (St S (os++dO es::more) t) () (St S (os++dO (es++[⟨h,.int k tk,v⟩])::more) t) 50:=by
 have ho:(St S (os++dO es::more) t).heap.get? (S.heap.objs.size+os.length)=some (dO es):=mZ (by simp) rfl;have:=Hn (p:=p) (w:=w) (cw:=cw) (ann:=ann) (c:=c) (k:=k) (t:=tk) (v:=v) (h:=h) ho (es:=es.toArray) (ep:=es.length) rfl (by simpa using hs) (by omega) (by simpa using hh);have e:(St S (os++dO es::more) t).heap.update (S.heap.objs.size+os.length) (kj ⟨h,.int k tk,v⟩)=jN S.heap (os++dO (es++[⟨h,.int k tk,v⟩])::more):=by
  show(jN S.heap _).update _ _=_;rw[rY,xP,rZ]
 rw[e]at this;exact this
theorem tR{α β:Type}{f:α->β}{g:α->β}{es:List α}{x:β}{L:List β}(h:(es.map f++x::L).Nodup):∀e∈es,f e≠x:=by
 intro e he;rw[kZ]at h;exact h.2.2 _ (xJ he) _ (aA ..)
theorem N2{os:List Obj}{q:Pos}(hn:cw<=S.heap.objs.size):∀(L:List (Int×Str))(es:List cZ)(t:Nat),(es.map (·.hash)++L.map λx=>hashInt x.1).Nodup->es.length+L.length<=sizeLine->
 Go treeTable p w cw ann (forIn (L.map (uI q)) dH λx __s=>
     match x with
     |(k,v)=>do
      let kv<-k;let vv<-holding [kv] v
      holding [kv,vv] (dictSet (S.heap.objs.size+os.length) kv vv)
      pure (cb dH)) c (St S (os++[dO es]) t) dH (St S (os++[dO (es++uJ t L)]) (t+3*L.length)) (70*L.length):=λL=>by
 induction L with
 |nil=>
  intro es t _ _;rw[List.map_nil,pj];simp only[uJ,c6,G9,tv,WR];exact bR
 |cons x L ih=>
  obtain⟨k,v⟩:=x;intro es t hd hb;rw[bH,iG];rw[bH]at hd;rw[bD]at hb;have h1:Go treeTable p w cw ann (do
                                                let kv<-mkInt k;let vv<-holding [kv] (uI q (k,v)).2
                                                holding [kv,vv] (dictSet (S.heap.objs.size+os.length) kv vv)
                                                pure (cb dH)) c (St S (os++[dO es]) t) (cb dH) (St S (os++[dO (es++[⟨hashInt k,.int k t,.str v (t+1)⟩])]) (t+3)) (1+(2+(60+0))):=by
   refine bC (DU k) ?_;rw[show({St S (os++[dO es]) t with toks:=(St S (os++[dO es]) t).toks+1}:ah)=St S (os++[dO es]) (t+1)from rfl];refine bC (eh (JB q (k,v))) ?_;rw[show({St S (os++[dO es]) (t+1)with toks:=(St S (os++[dO es]) (t+1)).toks+1}:ah)=St S (os++[dO es]) (t+2)from rfl];refine bC (eh (N1 (more:=[]) (by omega) hn (tR (g:=(·.hash)) hd))) ?_;exact bR
  have h2:=ih (es++[⟨hashInt k,.int k t,.str v (t+1)⟩]) (t+3) (by simpa using hd) (by simp;omega);rw[eN,show t+3+3*L.length=t+3*(((k,v)::L).length)by rw[bD];omega]at h2;exact ib (bC h1 h2) (by rw[bD];omega)
theorem N3{os:List Obj}{t:Nat}{β:Type}{f:Addr->Sem β}{b:β}{eU:ah}{j:Nat}(h:Go treeTable p w cw ann (f (S.heap.objs.size+os.length)) c (St S (os++[dO []]) t) b eU j):
 Go treeTable p w cw ann (alloc {cls:=.type "dict",data:=.dict #[]} >>= f) c (St S os t) b eU (1+j):=by
 refine bC (NZ bR) ?_;have e:({St S os t with heap:=(St S os t).heap.push {cls:=.type "dict",data:=.dict #[]}}:ah)=St S (os++[dO []]) t:=by
  show({S with heap:=(jN S.heap os).push _,toks:=t}:ah)=_;rw[Hp];rfl
 rw[e];have e2:(St S os t).heap.objs.size=S.heap.objs.size+os.length:=Ho ..;rw[e2];exact h
theorem Hs{os:List Obj}{t:Nat}{q:Pos}(L:List (Int×Str))(hl:15<L.length)(hb:L.length<=sizeLine)(hn:cw<=S.heap.objs.size)(hd:(L.map λx=>hashInt x.1).Nodup):
 Go treeTable p w cw ann (subDict (L.map (uI q))) c (St S os t) (S.heap.objs.size+os.length) (St S (os++[dO (uJ t L)]) (t+3*L.length)) (1+((1+0+(70*L.length+0))+0)):=by
 unfold subDict;refine N3 ?_;refine bC (a:=()) (k₂:=0) (eh ?_) bR;rw[if_neg (by rw[aj];omega)];refine bC (Jy bR) ?_;refine bC (a:=dH) (k₂:=0) ?_ bR;have:=N2 (p:=p) (w:=w) (ann:=ann) (c:=c) (os:=os) (q:=q) hn L [] t (by simpa using hd) (by simpa using hb);exact this
def A7(t:Nat):List (Int×Str)->List (Value×Value)
 |[]=>[]
 |(k,v)::r=>(.int k t,.str v (t+1))::A7 (t+2) r
theorem B6{os:List Obj}{q:Pos}:∀(L:List (Int×Str))(t:Nat),Go treeTable p w cw ann (evalPairs (L.map (uI q))) c (St S os t) (A7 t L) (St S os (t+2*L.length)) (10*L.length):=by
 intro zx
 induction zx with
 |nil=>
  rintro t;exact ib bR (de _)
 |cons zh L ih=>
  obtain⟨k,v⟩:=zh;rintro t;rw[bH];have h1:Go treeTable p w cw ann (do let kv<-mkInt k;let vv<-holding [kv] (uI q (k,v)).2;return (kv,vv)::(<-holding [kv,vv] (evalPairs (L.map (uI q))))) c (St S os t) (A7 t ((k,v)::L)) (St S os (t+2*((k,v)::L).length)) (1+(2+(10*L.length+0))):=by
   refine bC (DU k) ?_;refine bC (eh (JB q (k,v))) ?_;refine bC (eh (ih (t+2))) ?_;rw[show t+2+2*L.length=t+2*(((k,v)::L).length)by rw[bD];omega];exact bR
  exact ib h1 (by rw[bD];omega)
theorem N4{os:List Obj}(hn:cw<=S.heap.objs.size):∀(L:List (Int×Str))(es:List cZ)(t u:Nat),(es.map (·.hash)++L.map λx=>hashInt x.1).Nodup->es.length+L.length<=sizeLine->
 Go treeTable p w cw ann (forIn (A7 t L) dH λx __s=>
     match x with
     |(k,v)=>do
      dictSet (S.heap.objs.size+os.length) k v
      pure (cb dH)) c (St S (os++[dO es]) u) dH (St S (os++[dO (es++uL t L)]) (u+L.length)) (70*L.length):=by
 intro zx
 induction zx with
 |nil=>
  rintro es t u _ _;rw[A7,pj];simp only[uL,c6,G9,WR,tv];exact bR
 |cons zh L ih=>
  obtain⟨k,v⟩:=zh;rintro es t u hd hb;rw[A7,iG];rw[bH]at hd;rw[bD]at hb;have h1:Go treeTable p w cw ann (do
                                                dictSet (S.heap.objs.size+os.length) (.int k t) (.str v (t+1))
                                                pure (cb dH)) c (St S (os++[dO es]) u) (cb dH) (St S (os++[dO (es++[⟨hashInt k,.int k t,.str v (t+1)⟩])]) (u+1)) (60+0):=by
   refine bC (N1 (more:=[]) (by omega) hn (tR (g:=(·.hash)) hd)) ?_;exact bR
  have h2:=ih (es++[⟨hashInt k,.int k t,.str v (t+1)⟩]) (t+2) (u+1) (by simpa using hd) (by simp;omega);rw[eN,show u+1+L.length=u+(((k,v)::L).length)by rw[bD];omega]at h2;exact ib (bC h1 h2) (by rw[bD];omega)
theorem DV{os:List Obj}{t:Nat}{q:Pos}(L:List (Int×Str))(hl:L.length<=15)(hb:L.length<=sizeLine)(hn:cw<=S.heap.objs.size)(hd:(L.map λx=>hashInt x.1).Nodup):
 Go treeTable p w cw ann (subDict (L.map (uI q))) c (St S os t) (S.heap.objs.size+os.length) (St S (os++[dO (uL t L)]) (t+3*L.length)) (1+((10*L.length+(70*L.length+0))+0)):=by
 unfold subDict;refine N3 ?_;refine bC (a:=()) (k₂:=0) (eh ?_) bR;rw[if_pos (by rw[aj];omega)];refine bC (B6 L t) ?_;refine eh ?_;refine bC (a:=dH) (k₂:=0) ?_ bR;have:=N4 (p:=p) (w:=w) (ann:=ann) (c:=c) (os:=os) hn L [] t (t+2*L.length) (by simpa using hd) (by simpa using hb);rw[show t+2*L.length+L.length=t+3*L.length by omega]at this;exact this
end
end
section
section
variable{p:bb}{w:World}{cw:Nat}{ann:Option Value}{c:Code}{S:ah}
def pR(es:List cZ):Prop:=∀e∈es,∃k t,e.key=.int k t
theorem DW(t)(L:List (Int×Str)):pR (uJ t L):=by
 induction L generalizing t with
 |nil=>intro e he;cases he
 |cons x r ih=>
  obtain⟨k,v⟩:=x;intro e he;rcases aJ.mp he with rfl|he
  ·exact⟨_,_,rfl⟩
  ·exact ih _ e he
theorem DX(t)(L:List (Int×Str)):pR (uL t L):=by
 induction L generalizing t with
 |nil=>intro e he;cases he
 |cons x r ih=>
  obtain⟨k,v⟩:=x;intro e he;rcases aJ.mp he with rfl|he
  ·exact⟨_,_,rfl⟩
  ·exact ih _ e he
theorem A8(ho:s.heap.get? a=some o):Go treeTable p w cw ann (typeOf (.ref a)) c s o.cls s 1:=ib (bC (qq ho bR) bR) (b0 _)
theorem DY:typeLookup (.type "dict") "__iter__"=pure (some (.builtin "dict.__iter__")):=by rfl'
theorem N5:isSubtype (.type "dict") (.type "dict")=pure true:=by rfl'
theorem B7{os:List Obj}{t:Nat}{sub:List cZ}(hn:cw<=S.heap.objs.size)(hk:pR sub):∀(m i:Nat)(es:List cZ),i+m=sub.length->
 (es.map (·.hash)++(sub.drop i).map (·.hash)).Nodup->es.length+m<=sizeLine->
 Go treeTable p w cw ann (forIn (iu i m) dH λi __s=>do
     let __do_lift<-dictEntries (S.heap.objs.size+(os.length+1))
     match __do_lift[i]? with
      |some e=>do
       holding [e.key,e.val]
        (have __do_jp:=λ__r=>dictPut S.heap.objs.size e.hash e.key e.val;
        if false=true then do
         let __do_lift<-dictFind S.heap.objs.size e.key e.hash
         if __do_lift.isSome=true then do
             rule "dict.merge.duplicate-key"
             let __do_lift<-newExc (Value.type "KeyError") [e.key];let __r<-raiseNew __do_lift
             __do_jp __r
          else __do_jp ()
        else __do_jp ())
       let __do_lift<-dictEpoch (S.heap.objs.size+(os.length+1))
       if(__do_lift != sub.length)=true then do
           unsupported "dict.changed-during-merge"
           pure (cb dH)
        else pure (cb dH)
      |x=>do
       unsupported "dict.changed-during-merge"
       pure (cb dH)) c (St S (dO es::os++[dO sub]) t) dH (St S (dO (es++sub.drop i)::os++[dO sub]) t) (100*m):=λm=>by
 induction m with
 |zero=>
  intro i es hi _ _;rw[List.range'_zero,pj,List.drop_eq_nil_of_le (by omega),c6];exact bR
 |succ m ih=>
  intro i es hi hd hb;have hS:∀JC,(St S (dO JC::os++[dO sub]) t).heap.get? (S.heap.objs.size+(os.length+1))=some (dO sub):=λJC=>mZ (by simp) rfl;have me:i<sub.length:=by omega
  obtain⟨e,he⟩:∃e,sub[i]? =some e:=⟨_,bz me⟩;obtain⟨k,tk,aeU⟩:=hk e (gC he);have W6:sub.drop i=e::sub.drop (i+1):=by
   rw[gw me];rw[bz me]at he;rw[af he]
  rw[lV,iG];rw[W6,bH]at hd;refine ib (bC (a:=cb dH) (aU:=St S (dO (es++[e])::os++[dO sub]) t) (k₁:=10+(50+(10+0))) (k₂:=100*m) ?_ ?_) (by omega)
  ·refine bC (jk (hS es) rfl) ?_
   have e1:sub.toArray[i]? =some e:=by simpa using he
   rw[e1];dsimp only;refine bC (a:=()) (aU:=St S (dO (es++[e])::os++[dO sub]) t) (eh ?_) ?_
   ·rw[if_neg aF]
    obtain⟨h,key,v⟩:=e;dsimp only at aeU⊢;subst aeU;have:=Y1 (p:=p) (w:=w) (cw:=cw) (ann:=ann) (c:=c) (S:=S) (os:=[]) (es:=es) (more:=os++[dO sub]) (t:=t) (k:=k) (tk:=tk) (h:=h) (v:=v) (by omega) hn (tR (g:=(·.hash)) hd);exact this
   ·refine bC (rX (hS _) rfl) ?_
    rw[if_neg (by simp)];exact bR
  ·have:=ih (i+1) (es++[e]) (by omega) (by simpa using hd) (by simp;omega)
   rw[eN]at this;rw[W6];exact this
theorem N6{os:List Obj}{es sub:List cZ}{t:Nat}(hn:cw<=S.heap.objs.size)(hm:sysModules<S.heap.objs.size)(he:es≠[])(hk:pR sub)
(hd:(es.map (·.hash)++sub.map (·.hash)).Nodup)(hb:es.length+sub.length<=sizeLine):
 Go treeTable p w cw ann (mergeMapping S.heap.objs.size (.ref (S.heap.objs.size+(os.length+1))) false) c (St S (dO es::os++[dO sub]) t) () (St S (dO (es++sub)::os++[dO sub]) t) (1+0+(1+0+(0+(10+(10+(10+(100*sub.length+0))))))):=by
 have hD:∀JC,(St S (dO JC::os++[dO sub]) t).heap.get? S.heap.objs.size=some (dO JC):=λJC=>mZ (i:=0) (by simp) rfl;have hS:∀JC,(St S (dO JC::os++[dO sub]) t).heap.get? (S.heap.objs.size+(os.length+1))=some (dO sub):=λJC=>mZ (by simp) rfl;unfold mergeMapping;refine bC (a:=true) (aU:=St S (dO es::os++[dO sub]) t) (k₁:=1+0) ?_ ?_
 ·unfold isInstance
  refine bC (A8 (hS es)) ?_;rw[show(dO sub).cls=.type "dict" from rfl,N5];exact bR
 dsimp only;rw[if_pos rfl];refine bC (a:=some (.builtin "dict.__iter__")) (aU:=St S (dO es::os++[dO sub]) t) (k₁:=1+0) ?_ ?_
 ·unfold specialOf
  refine bC (A8 (hS es)) ?_;rw[show(dO sub).cls=.type "dict" from rfl,DY];exact bR
 rw[show(some (avk "dict.__iter__")==some (avk "dict.__iter__"))=true from by simp];refine bC bR ?_;dsimp only;rw[if_neg (by
  have:¬(S.heap.objs.size+(os.length+1)=sysModules):=by
   have h1: @LT.lt Nat _ sysModules S.heap.objs.size:=hm;intro h;have h2: @Eq Nat (S.heap.objs.size+(os.length+1)) sysModules:=h;omega
  simpa using this)]
 refine bC (jk (hD es) rfl) ?_;rw[if_neg (by
  cases es with
  |nil=>exact absurd rfl he
  |cons x r=>simp)]
 refine bC (jk (hS es) rfl) ?_;refine bC (rX (hS es) rfl) ?_;refine bC (a:=dH) (k₂:=0) ?_ bR;have:=B7 (p:=p) (w:=w) (ann:=ann) (c:=c) (os:=os) (t:=t) hn hk sub.length 0 es (by omega) (by simpa using hd) hb;rw[wW,<-wX]at this;rw[show sub.toArray.size=sub.length by simp];exact this
end
end
section
structure iD where
 has:Bool
 es:List cZ
 subs:List Obj
 t:Nat
def kJ(t:Nat)(C:List (Int×Str)):List cZ:=if C.length<=15 then uL t C else uJ t C
def iD.flush(C:List (Int×Str))(σ:iD):iD:=match C with
 |[]=>σ
 |_::_=>if σ.has then⟨true,σ.es++kJ σ.t C,σ.subs++[dO (kJ σ.t C)],σ.t+3*C.length⟩
   else⟨true,kJ σ.t C,[],σ.t+3*C.length⟩
def iD.objs(σ:iD):List Obj:=if σ.has then dO σ.es::σ.subs else[]
def iD.main(S:ah)(σ:iD):Option Addr:=if σ.has then some S.heap.objs.size else none
def iD.run:List (Int×Str)->List (Int×Str)->iD->List (Int×Str)×iD
 |[],R,σ=>(R,σ)
 |x::rest,R,σ=>match(R++[x]).length==17 with
  |true=>iD.run rest [] (σ.flush (R++[x]))
  |false=>iD.run rest (R++[x]) σ
def B8(run:List (Sem Value×Sem Value))(main:Option Addr):Sem (Option Addr):=
 if run.isEmpty=true then pure main
 else
  match main with
  |none=>do
   let __do_lift<-subDict run
   pure (some __do_lift)
  |some d=>do
   let sub<-holding [f7 d] (subDict run)
   (holding [f7 d,f7 sub] (mergeMapping d (f7 sub) false)).onRaise λx=>do
     let _<-holding [f7 d,x] (runValue (Code.builtin "proto.let_go" {}))
     pure ()
   pure (some d)
def hs(L:List (Int×Str)):List Int:=L.map λx=>hashInt x.1
theorem mf(t)(C:List (Int×Str)):(kJ t C).map (·.hash)=hs C:=by
 unfold kJ;split
 ·exact Hr t C
 ·exact Hq t C
theorem B9(t)(C:List (Int×Str)):pR (kJ t C):=by
 unfold kJ;split
 ·exact DX t C
 ·exact DW t C
theorem rv(t)(C:List (Int×Str)):(kJ t C).length=C.length:=by
 have:=congrArg qp (mf t C);simpa [hs]using this
def iD.good(σ:iD):Prop:=(σ.has=true->σ.es≠[])/\(σ.has=false->σ.es=[])
section
variable{p:bb}{w:World}{cw:Nat}{ann:Option Value}{c:Code}{S:ah}
theorem N7{os:List Obj}{t:Nat}{q:Pos}(L:List (Int×Str))(hb:L.length<=sizeLine)(hn:cw<=S.heap.objs.size)(hd:(hs L).Nodup):
 Go treeTable p w cw ann (subDict (L.map (uI q))) c (St S os t) (S.heap.objs.size+os.length) (St S (os++[dO (kJ t L)]) (t+3*L.length)) (80*L.length+2):=by
 unfold kJ;split
 ·rename_i h;exact ib (DV L h hb hn hd) (by omega)
 ·rename_i h;exact ib (Hs L (by omega) hb hn hd) (by omega)
theorem DZ{q:Pos}(C:List (Int×Str))(σ:iD)(hg:σ.good)(hn:cw<=S.heap.objs.size)(hm:sysModules<S.heap.objs.size)(hd:(σ.es.map (·.hash)++hs C).Nodup)(hb:σ.es.length+C.length<=sizeLine):
 Go treeTable p w cw ann (B8 (C.map (uI q)) (σ.main S)) c (St S σ.objs σ.t) ((σ.flush C).main S) (St S (σ.flush C).objs (σ.flush C).t) (180*C.length+60):=by
 cases C with
 |nil=>exact ib bR (de _)
 |cons x C=>
  obtain⟨has,es,subs,t⟩:=σ;have hC:(hs (x::C)).Nodup:=(kZ.mp hd).2.1;have hl:(x::C).length<=sizeLine:=by omega
  cases has with
  |false=>
   have h:=N7 (p:=p) (w:=w) (ann:=ann) (c:=c) (S:=S) (os:=[]) (t:=t) (q:=q) (x::C) hl hn hC;exact ib (bC h bR) (by omega)
  |true=>
   have h:=N7 (p:=p) (w:=w) (ann:=ann) (c:=c) (S:=S) (os:=dO es::subs) (t:=t) (q:=q) (x::C) hl hn hC;have hm:=N6 (p:=p) (w:=w) (cw:=cw) (ann:=ann) (c:=c) (S:=S) (os:=subs) (es:=es) (sub:=kJ t (x::C)) (t:=t+3*(x::C).length) hn hm (hg.1 rfl) (B9 _ _) (by rw[mf];exact hd) (by rw[rv];exact hb);rw[rv]at hm;exact ib (bC (eh h) (bC (Hl (eh hm)) bR)) (by omega)
theorem Ht(C:List (Int×Str))(σ:iD)(hg:σ.good):(σ.flush C).good:=by
 cases C with
 |nil=>exact hg
 |cons x C=>
  have mV:kJ σ.t (x::C)≠[]:=λh=>by have:=rv σ.t (x::C);rw[h]at this;simp at this
  unfold iD.flush;dsimp only;split
  ·exact⟨λ_ h=>mV (List.append_eq_nil_iff.mp h).2,λh=>by cases h⟩
  ·exact⟨λ_=>mV,λh=>by cases h⟩
theorem D6(C:List (Int×Str))(σ:iD)(hg:σ.good):(σ.flush C).es.map (·.hash)=σ.es.map (·.hash)++hs C:=by
 cases C with
 |nil=>simp[iD.flush,hs]
 |cons x C=>
  unfold iD.flush;dsimp only;split
  ·simp[mf]
  ·rename_i h
   rw[hg.2 (by simpa using h)];simp[mf]
theorem N8(f:Option (Sem Value)×Sem Value->Option Addr×List (Sem Value×Sem Value)->Sem (ForInStep (Option Addr×List (Sem Value×Sem Value))))
(hf:∀k v main run,f (some k,v) (main,run)=(if((run++[(k,v)]).length==17)=true then do
    let main<-B8 (run++[(k,v)]) main
    pure (cb (main,[]))
   else pure (cb (main,run++[(k,v)]))))
(hn:cw<=S.heap.objs.size)(hm:sysModules<S.heap.objs.size):∀(rest R:List (Int×Str))(σ:iD),σ.good->(σ.es.map (·.hash)++hs (R++rest)).Nodup->σ.es.length+(R++rest).length<=sizeLine->
 Go treeTable p w cw ann (forIn (rest.map λx=>(some (uI q x).1,(uI q x).2)) (σ.main S,R.map (uI q)) f) c (St S σ.objs σ.t)
  ((iD.run rest R σ).2.main S,(iD.run rest R σ).1.map (uI q)) (St S (iD.run rest R σ).2.objs (iD.run rest R σ).2.t) (3200*rest.length)/\
  (iD.run rest R σ).2.good/\((iD.run rest R σ).2.es.map (·.hash)++hs (iD.run rest R σ).1).Nodup/\(iD.run rest R σ).2.es.length+(iD.run rest R σ).1.length<=sizeLine:=λrest=>by
 induction rest with
 |nil=>
  intro R σ hg hd hb;rw[c6]at hd hb;exact⟨by rw[List.map_nil,pj];exact bR,hg,hd,hb⟩
 |cons x rest ih=>
  intro R σ hg hd hb;rw[bH,iG,hf];have hRx:R.map (uI q)++[((uI q x).1,(uI q x).2)]=(R++[x]).map (uI q):=by simp
  rw[hRx];have e1:R++x::rest=R++[x]++rest:=by simp
  rw[e1]at hd hb;cases h17:(R++[x]).length==17 with
  |true=>
   have er:iD.run (x::rest) R σ=iD.run rest [] (σ.flush (R++[x])):=by rw[iD.run,h17]
   rw[er,aj,h17,if_pos rfl];have hd':(σ.es.map (·.hash)++hs (R++[x])).Nodup:=by
    have e2:hs (R++[x]++rest)=hs (R++[x])++hs rest:=by simp[hs]
    rw[e2,<-eN]at hd;exact(kZ.mp hd).1
   have S2:σ.es.length+(R++[x]).length<=sizeLine:=by
    rw[aG (as:=R++[x])]at hb;omega
   obtain⟨a,b⟩:=ih [] (σ.flush (R++[x])) (Ht _ _ hg) (by
    rw[D6 _ _ hg,eN,iH];have e2:hs (R++[x]++rest)=hs (R++[x])++hs rest:=by simp[hs]
    rw[e2]at hd;exact hd) (by
    have e3:=congrArg qp (D6 (R++[x]) σ hg);simp only[aj,aG,hs]at e3;rw[aG (as:=R++[x])]at hb;rw[iH];simp only[aG]at hb;omega)
   have hf:=DZ (p:=p) (w:=w) (cw:=cw) (ann:=ann) (c:=c) (S:=S) (q:=q) _ _ hg hn hm hd' S2;rw[eq_of_beq h17]at hf;refine⟨ib (bC (a:=cb ((σ.flush (R++[x])).main S,[])) (aU:=St S (σ.flush (R++[x])).objs (σ.flush (R++[x])).t) (bC hf bR) a) (by rw[bD];omega),b⟩
  |false=>
   have er:iD.run (x::rest) R σ=iD.run rest (R++[x]) σ:=by rw[iD.run,h17]
   rw[er,aj,h17,if_neg aF];obtain⟨a,b⟩:=ih (R++[x]) σ hg hd hb;exact⟨ib (bC bR a) (by rw[bD];omega),b⟩
def iD.final(L:List (Int×Str))(t:Nat):iD:=(iD.run L [] ⟨false,[],[],t⟩).2.flush (iD.run L [] ⟨false,[],[],t⟩).1
theorem S3:∀(rest R:List (Int×Str))(σ:iD),(iD.run rest R σ).1.length<=R.length+rest.length:=by
 intro zx
 induction zx with
 |nil=>
  rintro R σ;simp[iD.run]
 |cons x rest ih=>
  rintro R σ;dsimp only[iD.run];split
  ·have:=ih [] (σ.flush (R++[x]));simp at this⊢;omega
  ·have:=ih (R++[x]) σ;simp at this⊢;omega
theorem Hu(L:List (Int×Str))(t:Nat)(hn:cw<=S.heap.objs.size)(hm:sysModules<S.heap.objs.size)(hd:(hs L).Nodup)(hb:L.length<=sizeLine)(hh:(iD.final L t).has=true):
 Go treeTable p w cw ann (dictDisplay (L.map λx=>(some (uI q x).1,(uI q x).2))) c (St S [] t) (.ref S.heap.objs.size) (St S (iD.final L t).objs (iD.final L t).t) (3400*L.length+100):=by
 have key:=λf hf=>N8 (p:=p) (w:=w) (cw:=cw) (ann:=ann) (c:=c) (S:=S) (q:=q) f hf hn hm L [] ⟨false,[],[],t⟩ ⟨(by intro h;cases h),λ_=>rfl⟩ (by simpa using hd) (by simpa using hb);have aux:∀f,(∀k v main run,f (some k,v) (main,run)=(if((run++[(k,v)]).length==17)=true then do
       let main<-B8 (run++[(k,v)]) main
       pure (cb (main,[]))
  else pure (cb (main,run++[(k,v)]))))->
  Go treeTable p w cw ann (do
   let s<-forIn (L.map λx=>(some (uI q x).1,(uI q x).2)) ((none:Option Addr),([]:List (Sem Value×Sem Value))) f;let d<-B8 s.2 s.1
   match d with
    |some d=>pure (f7 d)
    |none=>newDict) c (St S [] t) (.ref S.heap.objs.size) (St S (iD.final L t).objs (iD.final L t).t) (3400*L.length+100):=by
  intro f hf;obtain⟨k0,k1,k2,k3⟩:=key f hf;have hl:=S3 L [] ⟨false,[],[],t⟩;rw[G9,jw]at hl;refine ib (bC k0 (bC (k₂:=0) (DZ (q:=q) _ _ k1 hn hm k2 k3) ?_)) (by omega);show Go treeTable p w cw ann (match(iD.final L t).main S with|some d=>pure (f7 d)|none=>newDict) c _ _ _ _;unfold iD.main;rw[hh,if_pos rfl];exact bR
 unfold dictDisplay;exact aux _ (λ_ _ _ _=>rfl)
end
end
section
def Lm(e:Expr):Option (Const×Nat×Pos):=(aeR e).map (·.1)
theorem A9(h:Lm e=some x):e=.Constant x.1 x.2.1 x.2.2:=by
 obtain⟨x,_,rfl⟩:=dC h;exact x.2
def Y2:Const->Option Int
 |.int k=>some k
 |_=>none
theorem Ln(h:Y2 c=some k):c=.int k:=by
 cases c<;>first|exact no h|exact af h▸rfl
def Y3:Const->Option Str
 |.str k=>some k
 |_=>none
theorem Lo(h:Y3 c=some k):c=.str k:=by
 cases c<;>first|exact no h|exact af h▸rfl
def W7(k:Option Expr)(v:Expr):Option (Int×Str):=k.bind λk=>(Lm k).bind λx=>(Y2 x.1).bind λi=>(Lm v).bind λy=>(Y3 y.1).map λs=>(i,s)
def Ba:List (Option Expr)->List Expr->Option (List (Int×Str))
 |[],vs=>match vs with
  |[]=>some []
  |_::_=>none
 |k::ks,vs=>match vs with
  |[]=>none
  |v::vs=>(W7 k v).bind λx=>(Ba ks vs).map (x::·)
theorem D7(env)(pos)(h:W7 k v=some x):(∃e,k=some e/\eval e env=(uI pos x).1)/\(do let x<-eval v env;standAt pos;pure x)=(uI pos x).2:=by
 cases k with
 |none=>exact no h
 |some k=>
  obtain⟨c,h1,h⟩:=aO (show((Lm k).bind _)=some x from h);obtain⟨i,h2,h⟩:=aO h;obtain⟨d,h3,h⟩:=aO h;obtain⟨s,h4,h⟩:=dC h;rw[A9 h1,Ln h2,A9 h3,Lo h4,<-h];exact⟨⟨_,rfl,rfl⟩,rfl⟩
theorem D8(env)(pos)(ks:List (Option Expr)):∀(vs:List Expr)(L:List (Int×Str)),Ba ks vs=some L->
 (evalEachOpt ks env).zip ((evalEach vs env).map λv=>do let x<-v;standAt pos;pure x)=L.map λx=>(some (uI pos x).1,(uI pos x).2):=by
 induction ks with
 |nil=>
  intro vs L h;cases vs with
  |nil=>rw[<-af h];rfl
  |cons v vs=>exact no h
 |cons k ks ih=>
  intro vs L h;cases vs with
  |nil=>exact no h
  |cons v vs=>
   obtain⟨x,h1,h⟩:=aO h;obtain⟨L',h2,h3⟩:=dC h;obtain⟨⟨e,rfl,e1⟩,e2⟩:=D7 env pos h1;rw[<-h3,bH,<-ih _ _ h2,<-e1,<-e2];rfl
section
variable{p:bb}{w:World}{cw:Nat}{ann:Option Value}{c:Code}{S:ah}
theorem N9(ho:s.heap.get? mainNs=some o)(hd:o.data=.dict es ep)(hr:aRefKeyMayBeTheName n es=false):
 Go treeTable p w cw ann (nsSet mainNs n v) c s () {s with heap:=s.heap.update mainNs (adM n (if n.cps.isEmpty then 0 else reduceHash (w.params.strHash n.cps)) (.str n s.toks) v),toks:=s.toks+1} 4:=by
 show Go _ _ _ _ _ _ _ _ _ _ (1+0+(1+0+(1+0+(1+0))));unfold nsSet;refine bC (Y0 bR) ?_;refine bC (xO bR) ?_;refine bC (qq ho bR) ?_;rw[hd];dsimp only;rw[hr,if_neg aF];exact A6 (by rw[ho];rfl) (.inr rfl) bR
def aeW(d:Data):Option {x:Array cZ×Nat // d=.dict x.1 x.2}:=if h:d.ctorIdx=3 then PySem.Data.dict.elim (motive:=λd=>Option {x:Array cZ×Nat // d=.dict x.1 x.2}) d h λa b=>some ⟨(a,b),rfl⟩else none
def aeX(n:Str)(h:Heap):Option Bool:=(h.get? mainNs).bind λo=>(aeW o.data).map λx=> !aRefKeyMayBeTheName n x.1.1
def xo(n:Str)(h:Heap):Bool:=(aeX n h).getD false
theorem Ca(e:xo n h=true):∃o es ep,h.get? mainNs=some o/\o.data=.dict es ep/\aRefKeyMayBeTheName n es=false:=by
 unfold xo at e;cases hq:aeX n h with
 |none=>rw[hq]at e;exact lW e
 |some b=>
  rw[hq]at e;obtain⟨o,h1,h2⟩:=aO hq;obtain⟨x,_,h3⟩:=dC h2;exact⟨o,x.1.1,x.1.2,h1,x.2,(cQ _).mp (h3.trans e)⟩
theorem Lq{h:Heap}{os:List Obj}{a:Addr}{o:Obj}(e:h.get? a=some o):(jN h os).get? a=some o:=by
 rw[alm]at e⊢;refine⟨?_,e.2⟩;obtain⟨objs,life⟩:=h;have e1:objs[a]? =some o:=e.1;show(objs++os.toArray)[a]? =some o;have: @LT.lt Nat _ a objs.size:=(Array.getElem?_eq_some_iff.mp e1).1;rw[oG this];exact e1
def Cb(w:World)(n:Str)(L:List (Int×Str))(S:ah):ah:=
 {S with heap:=(jN S.heap (iD.final L S.toks).objs).update mainNs (adM n (if n.cps.isEmpty then 0 else reduceHash (w.params.strHash n.cps)) (.str n (iD.final L S.toks).t) (.ref S.heap.objs.size)),toks:=(iD.final L S.toks).t+1}
theorem Ah(hL:Ba ks vs=some L)(hst:storeName env n=nsSet mainNs n)
(hn:cw<=S.heap.objs.size)(hm:sysModules<S.heap.objs.size)(hd:(hs L).Nodup)(hb:L.length<=sizeLine)(hh:(iD.final L S.toks).has=true)(hr:xo n S.heap=true):
 Go treeTable p w cw ann (exec (.Assign [.Name n np] (.Dict ks vs dp) sp) env) c S .next (Cb w n L S) (1+0+(0+((1+0+(3400*L.length+100))+(0+((1+0+(1+0+(4+(1+0))))+0))))):=by
 show Go _ _ _ _ _ (do
  standAt sp
  if<-swapsWithSole [.Name n np] (.Dict ks vs dp) sp.line env then do
   evalThenUse (.Dict ks vs dp) env λv=>assignAll v ((assignEach [.Name n np] env).map (·.2))
   pure .next
  else do
   let v<-eval (.Dict ks vs dp) env
   assignStores env v (<-swappedStores [.Name n np] (.Dict ks vs dp) env) ((assignEach [.Name n np] env).map (·.2))) _ _ _ _ _
 refine bC (Jz bR) ?_;refine bC (a:=false) (k₁:=0) bR ?_;rw[if_neg aF];refine bC (a:=.ref S.heap.objs.size) (aU:=St S (iD.final L S.toks).objs (iD.final L S.toks).t) (k₁:=1+0+(3400*L.length+100)) ?_ ?_
 ·show Go _ _ _ _ _ (do
   standAt dp
   dictDisplay ((evalEachOpt ks env).zip ((evalEach vs env).map λv=>do let x<-v;standAt dp;pure x))) _ _ _ _ _
  refine bC (Jz bR) ?_;rw[D8 env dp ks vs L hL];have e:St S [] S.toks=S:=by
   obtain⟨⟨objs,life⟩,g,d,t,o⟩:=S;simp[St,jN]
  have:=Hu (p:=p) (w:=w) (cw:=cw) (ann:=ann) (c:=c) (S:=S) (q:=dp) L S.toks hn hm hd hb hh;rw[e]at this;exact this
 refine bC (a:=none) (k₁:=0) bR ?_;show Go _ _ _ _ _ (do (do standAt np;bindName env n (.ref S.heap.objs.size));pure rm) _ _ _ _ _;refine bC (a:=()) (aU:=Cb w n L S) (k₁:=1+0+(1+0+(4+(1+0)))) (k₂:=0) (bC (k₂:=1+0+(4+(1+0))) (Jz bR) ?_) bR;unfold bindName;rw[hst];obtain⟨o,es,ep,h1,h2,h3⟩:=Ca hr;show Go _ _ _ _ _ _ _ _ _ _ (1+0+(4+(1+0)));refine bC (eh (DS bR)) ?_;refine bC (N9 (s:=St S (iD.final L S.toks).objs (iD.final L S.toks).t) (Lq h1) h2 h3) ?_;exact DS bR
theorem Lr{st:Stmt}{env:Env}{s s':ah}{k:Nat}(h:Go treeTable p w cw ann (exec st env) c s .next s' k)(q:Pos)(F:Frame):
 ∃n q',n<=k+1/\segRun treeTable p w cw ann 1 n s (pieceOf st env c q [F])=some (.next,s',c,q'):=by
 obtain⟨n,q',l,e⟩:=h q doneF deadEnd id id F [];refine⟨n+1,q',jf l 1,seg_go e ?_⟩;rfl
end
end
def viQ(v:Value):Option {x:Int×Tok // v=.int x.1 x.2}:=if h:v.ctorIdx=4 then PySem.Value.int.elim (motive:=λv=>Option {x:Int×Tok // v=.int x.1 x.2}) v h λa b=>some ⟨(a,b),rfl⟩else none
def vfQ(v:Value):Option {x:UInt64×Tok // v=.float x.1 x.2}:=if h:v.ctorIdx=5 then PySem.Value.float.elim (motive:=λv=>Option {x:UInt64×Tok // v=.float x.1 x.2}) v h λa b=>some ⟨(a,b),rfl⟩else none
def vsQ(v:Value):Option {x:Str×Tok // v=.str x.1 x.2}:=if h:v.ctorIdx=6 then PySem.Value.str.elim (motive:=λv=>Option {x:Str×Tok // v=.str x.1 x.2}) v h λa b=>some ⟨(a,b),rfl⟩else none
def vrQ(v:Value):Option {x:Addr // v=.ref x}:=if h:v.ctorIdx=10 then PySem.Value.ref.elim (motive:=λv=>Option {x:Addr // v=.ref x}) v h λa=>some ⟨a,rfl⟩else none
def amT(d:Data):Option {x:Array (Int×Value)×Nat×SetTable // d=.set x.1 x.2.1 x.2.2}:=if h:d.ctorIdx=4 then PySem.Data.set.elim (motive:=λd=>Option {x:Array (Int×Value)×Nat×SetTable // d=.set x.1 x.2.1 x.2.2}) d h λa b c=>some ⟨(a,b,c),rfl⟩else none
def vInt(v:Value):Option Int:=(viQ v).map λx=>x.1.1
def vStr(v:Value):Option Str:=(vsQ v).map λx=>x.1.1
def aeY(v:Value):Option UInt64:=(vfQ v).bind λx=>bif bO x.1.2 0 then none else some x.1.1
def Oa(h:Heap)(n:Str):Option Obj:=(h.nsMap mainGlobals n).bind λv=>(vrQ v).bind λa=>if a.1=sysModules then none else h.get? a.1
def Ob(h:Heap)(n:Str):Option (Bool×List (Int×Option Int)):=(Oa h n).bind λo=>(amT o.data).map λx=>((o.cls==.type "set"&&o.dict.isNone)&&(o.slots.isEmpty&&x.1.2.2.fits x.1.1.size),x.1.1.toList.map λe=>(e.1,vInt e.2))
def Hv(f:cZ->α)(h:Heap)(n:Str):Option (Bool×List α):=(Oa h n).bind λo=>(aeW o.data).map λx=>((o.cls==.type "dict"&&o.dict.isNone)&&o.slots.isEmpty,x.1.1.toList.map f)
structure Look where
 fl:List (Option (Option UInt64))
 st:Option (Bool×List (Int×Option Int))
 d3:Option (Bool×List (Int×Option Int×Option Str))
 d4:Option (Bool×List (Int×Option Str×Option Int))
def Oc(fn:List Str)(sn n3 n4:Str)(h:Heap):Look:=
 ⟨fn.map λn=>(h.nsMap mainGlobals n).map aeY,Ob h sn,Hv (λe=>(e.hash,vInt e.key,vStr e.val)) h n3,Hv (λe=>(e.hash,vStr e.key,vInt e.val)) h n4⟩
structure JD where
 p:bb
 q:bb
 loose:List Str
 pre:Nat
 i:Nat
 n:Str
 L:List (Int×Str)
 look:Heap->Look
def amU(e:ae):Option (List (Option ae)×List ae×Pos):=if h:e.ctorIdx=6 then PySem.Expr.Dict.elim (motive_1:=λ_=>Option (List (Option ae)×List ae×Pos)) e h λa b c=>some (a,b,c)else none
def S4(s:Stmt):Option (List ae×ae×Pos):=if h:s.ctorIdx=5 then PySem.Stmt.Assign.elim (motive_2:=λ_=>Option (List ae×ae×Pos)) s h λa b c=>some (a,b,c)else none
def fdS(s:Stmt):Option (Str×nN×List Stmt×Scope):=if h:s.ctorIdx=0 then PySem.Stmt.FunctionDef.elim (motive_2:=λ_=>Option (Str×nN×List Stmt×Scope)) s h λn a b _ _ _ c _ _ _=>some (n,a,b,c)else none
def Od(s:Stmt):Option (Str×Pos):=(S4 s).bind λx=>x.1.head?.bind λe=>(rW e).map λy=>y.1
def Y4(s:Stmt):List (Option ae)×List ae×Pos:=((S4 s).bind λx=>amU x.2.1).getD default
def pS(s:Stmt):List (Option ae):=(Y4 s).1
def pT(s:Stmt):List ae:=(Y4 s).2.1
def Oe(s:Stmt):Pos:=((Od s).map (·.2)).getD default
def Og(s:Stmt):Pos:=(Y4 s).2.2
def Oh(s:Stmt):Pos:=((S4 s).map (·.2.2)).getD default
abbrev TG:=(String->Option ali)->bb->World->Nat->Option Value->Nat->ah->Thread->Option (ah×Thread)
abbrev SR:=(String->Option ali)->bb->World->Nat->Option Value->Nat->Nat->ah->Thread->Option (Flow×ah×Code×Pos)
def Y5(p:bb)(c f:Addr):Env:={scope:=p.main.scope,locals:=mainNs,globals:=mainNs,cells:=[],code:=.ref c,frame:=some f}
def S5(P:JD)(az s:ah):Bool:=staticsOk (importedModules P.p.main.body) az.heap s.heap&&namesBound P.p s.heap&&gensDone s&&laidKept az.heap s.heap
section
abbrev pw:bb:=PySem.Challenge.pw_ta0129_02
def iI:List Str:=["ONE_THIRD","ONE_SIXTH","TWO_THIRD","b1_set","b3_exceptions","EXACT_TOKEN_TYPES"].map tw
def S6(s:Stmt):Bool:=((Od s).map λx=>iI.contains x.1).getD false
def xQ:Stmt:=(behindTheImports pw)[20]!
def L3:List (Int×Str):=(Ba (pS xQ) (pT xQ)).getD []
def Y6(n:Str)(s:Stmt):Option Int:=(Od s).bind λm=>if m.1=n then(S4 s).bind λx=>(Lm x.2.1).bind λc=>Y2 c.1 else none
def constOf(n:Str):List Stmt->Option Int
 |s::r=>(Y6 n s).or (constOf n r)
 |[]=>none
def aeZ(b:List Stmt)(k:Option ae)(v:ae):Option (Str×Int):=k.bind λk=>(Lm k).bind λc=>(Y3 c.1).bind λk=>(rW v).map λg=>(k,(constOf g.1.1 b).getD 0)
def ae0(b:List Stmt)(ks:List (Option ae))(vs:List ae):List (Str×Int):=(ks.zip vs).filterMap λx=>aeZ b x.1 x.2
def D9:Stmt:=(behindTheImports pw)[73]!
def L4:List (Str×Int):=ae0 pw.main.body (pS D9) (pT D9)
def gK:bb:={pw with main:={pw.main with body:=pw.main.body.filter λs=> !S6 s}}
def Hw:JD:=⟨pw,gK,iI,12,20,"b3_exceptions",L3,Oc ["ONE_THIRD","ONE_SIXTH","TWO_THIRD"] "b1_set" "b3_exceptions" "EXACT_TOKEN_TYPES"⟩
def mG:Env:=Y5 pw 13 14
def mH:List Int:=[65024,65025,65026,65027,65028,65029,6150,65030,65031,65032,65033,6155,6156,6157,8203,8204,8205,65034,65035,65036,65037,65038,65039,173,847,8288,65279]
def Bb(w:World):Look:=⟨[some (some 4599676419421066581),some (some 4595172819793696085),some (some 4604180019048437077)],some (true,mH.map λi=>(i,some i)),
 some (true,L3.map λx=>(hashInt x.1,some x.1,some x.2)),some (true,L4.map λx=>(hashStr w x.1,some x.1,some x.2))⟩
abbrev JE:String->Option ali:=PySem.W.Fast.tw14364793385576792824
abbrev tgQ:TG:=PySem.W.Fast.tw15667345088766844465
abbrev Sj:SR:=PySem.W.Fast.tw14374325043358763698
abbrev dnQ:(String->Option ali)->Code->Sem Fin:=PySem.W.Fast.tw11892475500146522536
abbrev osX(s:ah):=openSeen gK iI (importedModules pw.main.body) (λ_=>true) true s
abbrev osQ(s:ah):=PySem.W.Fast.tw4187177175401517315 gK iI (importedModules pw.main.body) (λ_=>true) true s
abbrev ea:Code:=.body (behindTheImports pw) mG
def hS(P:WS)(s:Str):Int:=if s.cps.isEmpty then 0 else reduceHash (P.strHash s.cps)
def sAt(i:Nat):Stmt:=(behindTheImports pw)[i]!
def xR(s:Stmt):nN:=((fdS s).map (·.2.1)).getD default
def Cc(s:Stmt):List Stmt:=((fdS s).map (·.2.2.1)).getD []
def nY(s:Stmt):Scope:=((fdS s).map (·.2.2.2)).getD default
def oD(j:Nat):Obj:=(iD.final L3 423).objs.getD j default
section
variable(P:WS)
def kI(z:Int):Value:=.int z 0
def kR(a:Addr):Value:=.ref a
def kS(s:Str)(t:Tok):Value:=.str s t
def kE(s:Str)(t:Tok)(v:Value):cZ:=⟨hS P s,.str s t,v⟩
def kF(c:Value)(n:Str)(i g:Nat)(m d:Value):Obj:={cls:=c,dict:=none,data:=.func {name:=n,qualname:=n,params:=xR (sAt i),body:=.stmts (Cc (sAt i)),scope:=nY (sAt i),globals:=g,closure:=[],defaults:=.none,kwdefaults:=.none,doc:=.none,pyModule:=m,annotations:=none,code:=d,closureTuple:=.none,builtins:=0},slots:= #[]}
def kT(x:Array Value):Obj:={cls:=.type "tuple",dict:=none,data:=.seq x 0,slots:= #[]}
def kC(x:Array Value):Obj:={cls:=.type "code",dict:=none,data:=.fields x,slots:= #[]}
def kN(x:Array Value):Obj:={cls:=.none,dict:=none,data:=.fields x,slots:= #[]}
def kD(x:Array cZ)(n:Nat):Obj:={cls:=.type "dict",dict:=none,data:=.dict x n,slots:= #[]}
def kn0:Str:="<module>"
def jD:Str:="/claim/cut.py"
def kn2:Str:="__main__"
def kn3:Str:="__name__"
def kn4:Str:="cpy313.stringprep"
def kn5:Str:="__doc__"
def kn6:Str:="__package__"
def kn7:Str:="__loader__"
def kn8:Str:="__spec__"
def kn9:Str:="__annotations__"
def ana:Str:="__builtins__"
def anb:Str:="__file__"
def anc:Str:="__cached__"
def ane:Str:="ONE_THIRD"
def anf:Str:="ONE_SIXTH"
def ang:Str:="TWO_THIRD"
def Oi:Str:="rgb_to_hls"
def Oj:Str:="hls_to_rgb"
def Ol:Str:=⟨#[95,118]⟩
def Om:Str:="rgb_to_hsv"
def Oo:Str:="hsv_to_rgb"
def anh:Str:="_DIV_LIMIT"
def Oq:Str:="_div2n1n"
def Ot:Str:="_div3n2n"
def Ou:Str:="_int2digits"
def Ov:Str:="_digits2int"
def Ox:Str:="_divmod_pos"
def Oy:Str:="int_divmod"
def Hx:Str:=⟨#[114]⟩
def ae1:Str:=⟨#[103]⟩
def Ls:Str:=⟨#[98]⟩
def ae2:Str:="maxc"
def ae3:Str:="minc"
def ani:Str:="sumc"
def ae4:Str:="rangec"
def ae5:Str:=⟨#[108]⟩
def S7:Str:=⟨#[115]⟩
def ae6:Str:=⟨#[114,99]⟩
def ae7:Str:=⟨#[103,99]⟩
def ae8:Str:=⟨#[98,99]⟩
def S8:Str:=⟨#[104]⟩
def Oz:Str:="cpy313.colorsys"
def ae9:Str:=⟨#[109,50]⟩
def afa:Str:=⟨#[109,49]⟩
def Y7:Str:="hue"
def afb:Str:=⟨#[118]⟩
def anj:Str:=⟨#[105]⟩
def ank:Str:=⟨#[102]⟩
def anl:Str:=⟨#[112]⟩
def S9:Str:=⟨#[113]⟩
def anm:Str:=⟨#[116]⟩
def Ta:Str:=⟨#[97]⟩
def Hy:Str:=⟨#[110]⟩
def ano:Str:="pad"
def anp:Str:="half_n"
def anq:Str:="mask"
def afc:Str:=⟨#[98,49]⟩
def afd:Str:=⟨#[98,50]⟩
def anr:Str:=⟨#[113,49]⟩
def ans:Str:=⟨#[113,50]⟩
def Lu:Str:="cpy313._pylong"
def ant:Str:="a12"
def anu:Str:=⟨#[97,51]⟩
def afe:Str:="a_digits"
def aff:Str:="inner"
def afg:Str:="digits"
def anv:Str:="q_digits"
def anw:Str:="a_digit"
def anx:Str:="q_digit"
def anz:Str:="b1_set"
def OA:Str:="in_table_b1"
def afh:Str:="code"
def anA:Str:="b3_exceptions"
def Tc:Str:="cpy313.token"
def OB:Str:="map_table_b3"
def anB:Str:="ENDMARKER"
def anC:Str:="LPAR"
def anD:Str:="RPAR"
def anE:Str:="LSQB"
def anF:Str:="RSQB"
def anG:Str:="COLON"
def anH:Str:="COMMA"
def anI:Str:="SEMI"
def anJ:Str:="PLUS"
def anK:Str:="MINUS"
def anL:Str:="STAR"
def anM:Str:="SLASH"
def anN:Str:="VBAR"
def anO:Str:="AMPER"
def anP:Str:="LESS"
def anQ:Str:="GREATER"
def anR:Str:="EQUAL"
def anS:Str:="DOT"
def anT:Str:="PERCENT"
def anU:Str:="LBRACE"
def anV:Str:="RBRACE"
def anW:Str:="EQEQUAL"
def anY:Str:="NOTEQUAL"
def anZ:Str:="LESSEQUAL"
def an0:Str:="GREATEREQUAL"
def afi:Str:="TILDE"
def afj:Str:="CIRCUMFLEX"
def afk:Str:="LEFTSHIFT"
def afl:Str:="RIGHTSHIFT"
def afm:Str:="DOUBLESTAR"
def afn:Str:="PLUSEQUAL"
def afo:Str:="MINEQUAL"
def afp:Str:="STAREQUAL"
def afq:Str:="SLASHEQUAL"
def afr:Str:="PERCENTEQUAL"
def afs:Str:="AMPEREQUAL"
def aft:Str:="VBAREQUAL"
def afu:Str:="CIRCUMFLEXEQUAL"
def afv:Str:="LEFTSHIFTEQUAL"
def afw:Str:="RIGHTSHIFTEQUAL"
def afx:Str:="DOUBLESTAREQUAL"
def afy:Str:="DOUBLESLASH"
def afz:Str:="DOUBLESLASHEQUAL"
def afA:Str:=⟨#[65,84]⟩
def afB:Str:="ATEQUAL"
def afC:Str:="RARROW"
def afD:Str:="ELLIPSIS"
def afE:Str:="COLONEQUAL"
def afF:Str:="EXCLAMATION"
def afG:Str:="NT_OFFSET"
def afH:Str:="EXACT_TOKEN_TYPES"
def afI:Str:=⟨#[33]⟩
def afJ:Str:=⟨#[33,61]⟩
def afK:Str:=⟨#[37]⟩
def afL:Str:=⟨#[37,61]⟩
def afM:Str:=⟨#[38]⟩
def afN:Str:=⟨#[38,61]⟩
def afO:Str:=⟨#[40]⟩
def afP:Str:=⟨#[41]⟩
def afQ:Str:=⟨#[42]⟩
def afR:Str:=⟨#[42,42]⟩
def afS:Str:="**="
def afT:Str:=⟨#[42,61]⟩
def afU:Str:=⟨#[43]⟩
def afV:Str:=⟨#[43,61]⟩
def afW:Str:=⟨#[44]⟩
def afX:Str:=⟨#[45]⟩
def afY:Str:=⟨#[45,61]⟩
def afZ:Str:=⟨#[45,62]⟩
def af0:Str:=⟨#[46]⟩
def af1:Str:="..."
def af2:Str:=⟨#[47]⟩
def af3:Str:=⟨#[47,47]⟩
def af4:Str:="//="
def af5:Str:=⟨#[47,61]⟩
def af6:Str:=⟨#[58]⟩
def af7:Str:=⟨#[58,61]⟩
def af8:Str:=⟨#[59]⟩
def af9:Str:=⟨#[60]⟩
def aga:Str:=⟨#[60,60]⟩
def agb:Str:="<<="
def agc:Str:=⟨#[60,61]⟩
def agd:Str:=⟨#[61]⟩
def age:Str:=⟨#[61,61]⟩
def agf:Str:=⟨#[62]⟩
def agg:Str:=⟨#[62,61]⟩
def agh:Str:=⟨#[62,62]⟩
def agi:Str:=">>="
def agj:Str:=⟨#[64]⟩
def agk:Str:=⟨#[64,61]⟩
def agl:Str:=⟨#[91]⟩
def agm:Str:=⟨#[93]⟩
def agn:Str:=⟨#[94]⟩
def ago:Str:=⟨#[94,61]⟩
def agp:Str:=⟨#[123]⟩
def agq:Str:=⟨#[124]⟩
def agr:Str:=⟨#[124,61]⟩
def ags:Str:=⟨#[125]⟩
def agt:Str:=⟨#[126]⟩
def o5:Str:="law_ta0129_02"
def Ea:Str:="ISTERMINAL"
def Eb:Str:="ISNONTERMINAL"
def Ec:Str:="ISEOF"
def Ed:Str:="_law_page"
def Ee:Str:="_law_read"
def Ef:Str:="_law_upsets"
def Eg:Str:="_law_colours"
def Eh:Str:="_law_ahead"
def Ei:Str:="_law_beaten"
def Ej:Str:="_law_orders"
def Ek:Str:="_law_refused"
def El:Str:="_law_plain"
def Em:Str:="_law_fourfold"
def En:Str:="law"
def OC:Str:=⟨#[120]⟩
def agu:Str:="symbols"
def agv:Str:="upsets"
def agw:Str:="before"
def agx:Str:="mark"
def agy:Str:="symbol"
def agz:Str:="heap"
def agA:Str:="count"
def agB:Str:="told"
def agC:Str:="one"
def agD:Str:="tints"
def agE:Str:="share"
def agF:Str:="value"
def W8:Str:="light"
def agG:Str:="grey"
def W9:Str:="red"
def Xb:Str:="green"
def Xc:Str:="blue"
def Xd:Str:="first"
def agH:Str:="second"
def agI:Str:="depth"
def agJ:Str:="step"
def Xe:Str:="number"
def agK:Str:="divisor"
def agL:Str:="quotient"
def agM:Str:="rest"
def agN:Str:="less"
def agO:Str:="left"
def ke0:=kE P kn3 165 (kS kn4 354)
def Xf:=kE P kn5 166 .none
def Xg:=kE P kn6 167 .none
def Xh:=kE P kn7 168 (.builtin "__main__.__loader__#opaque")
def Xi:=kE P kn8 169 .none
def Xj:=kE P kn9 170 (kR 6)
def Xk:=kE P ana 171 (kR 4)
def Xl:=kE P anb 173 (kS jD 172)
def Xm:=kE P anc 174 .none
def Xn:=kE P ane 192 (.float 4599676419421066581 191)
def Eo:=kE P anf 196 (.float 4595172819793696085 195)
def Ep:=kE P ang 200 (.float 4604180019048437077 199)
def Er:=kE P Oi 219 (kR 21)
def Es:=kE P Oj 230 (kR 28)
def Et:=kE P Ol 239 (kR 35)
def Eu:=kE P Om 257 (kR 42)
def Ew:=kE P Oo 271 (kR 49)
def Ex:=kE P anh 275 (.int 4000 274)
def Ey:=kE P Oq 292 (kR 56)
def Ez:=kE P Ot 306 (kR 63)
def EA:=kE P Ou 317 (kR 70)
def EB:=kE P Ov 328 (kR 77)
def EC:=kE P Ox 343 (kR 84)
def ED:=kE P Oy 353 (kR 91)
def Hz:=kE P anz 415 (kR 99)
def Lv:=kE P OA 422 (kR 109)
def OD:=kE P anA 2373 (kR 110)
def Y8:=kE P kn3 165 (kS Tc 2382)
def Td:=kE P OB 2381 (kR 155)
def Te:=kE P anB 2385 (.int 0 2384)
def Tf:=kE P anC 2387 (.int 7 2386)
def Tg:=kE P anD 2389 (.int 8 2388)
def Ti:=kE P anE 2391 (.int 9 2390)
def Tj:=kE P anF 2393 (.int 10 2392)
def To:=kE P anG 2395 (.int 11 2394)
def Tp:=kE P anH 2397 (.int 12 2396)
def Tq:=kE P anI 2399 (.int 13 2398)
def Tr:=kE P anJ 2401 (.int 14 2400)
def Ts:=kE P anK 2403 (.int 15 2402)
def Tt:=kE P anL 2405 (.int 16 2404)
def Tv:=kE P anM 2407 (.int 17 2406)
def Tw:=kE P anN 2409 (.int 18 2408)
def Tx:=kE P anO 2411 (.int 19 2410)
def Tz:=kE P anP 2413 (.int 20 2412)
def TA:=kE P anQ 2415 (.int 21 2414)
def TB:=kE P anR 2417 (.int 22 2416)
def TC:=kE P anS 2419 (.int 23 2418)
def TF:=kE P anT 2421 (.int 24 2420)
def TH:=kE P anU 2423 (.int 25 2422)
def TJ:=kE P anV 2425 (.int 26 2424)
def TK:=kE P anW 2427 (.int 27 2426)
def TL:=kE P anY 2429 (.int 28 2428)
def TM:=kE P anZ 2431 (.int 29 2430)
def TN:=kE P an0 2433 (.int 30 2432)
def TP:=kE P afi 2435 (.int 31 2434)
def TQ:=kE P afj 2437 (.int 32 2436)
def Y9:=kE P afk 2439 (.int 33 2438)
def Za:=kE P afl 2441 (.int 34 2440)
def Zb:=kE P afm 2443 (.int 35 2442)
def Zc:=kE P afn 2445 (.int 36 2444)
def Zd:=kE P afo 2447 (.int 37 2446)
def Ze:=kE P afp 2449 (.int 38 2448)
def Zf:=kE P afq 2451 (.int 39 2450)
def Zg:=kE P afr 2453 (.int 40 2452)
def Zh:=kE P afs 2455 (.int 41 2454)
def Zi:=kE P aft 2457 (.int 42 2456)
def Zj:=kE P afu 2459 (.int 43 2458)
def Zk:=kE P afv 2461 (.int 44 2460)
def Zl:=kE P afw 2463 (.int 45 2462)
def Zm:=kE P afx 2465 (.int 46 2464)
def Zn:=kE P afy 2467 (.int 47 2466)
def Zo:=kE P afz 2469 (.int 48 2468)
def Zp:=kE P afA 2471 (.int 49 2470)
def Zq:=kE P afB 2473 (.int 50 2472)
def Zr:=kE P afC 2475 (.int 51 2474)
def Zs:=kE P afD 2477 (.int 52 2476)
def Zt:=kE P afE 2479 (.int 53 2478)
def Zu:=kE P afF 2481 (.int 54 2480)
def Zv:=kE P afG 2483 (.int 256 2482)
def agP:=kE P afH 2580 (kR 156)
def agQ:=kE P afZ 2518 (.int 51 2474)
def agR:=kE P af0 2520 (.int 23 2418)
def agS:=kE P af1 2522 (.int 52 2476)
def agT:=kE P af2 2524 (.int 17 2406)
def agU:=kE P af3 2526 (.int 47 2466)
def agV:=kE P af4 2528 (.int 48 2468)
def agW:=kE P af5 2530 (.int 39 2450)
def agX:=kE P af6 2532 (.int 11 2394)
def agY:=kE P af7 2534 (.int 53 2478)
def agZ:=kE P af8 2536 (.int 13 2398)
def ag0:=kE P af9 2538 (.int 20 2412)
def ag1:=kE P aga 2540 (.int 33 2438)
def ag2:=kE P agb 2542 (.int 44 2460)
def ag3:=kE P agc 2544 (.int 29 2430)
def ag4:=kE P agd 2546 (.int 22 2416)
def ag5:=kE P age 2548 (.int 27 2426)
def ag6:=kE P agf 2550 (.int 21 2414)
def ag7:=kE P agg 2552 (.int 30 2432)
def ag8:=kE P agh 2553 (.int 34 2440)
def ag9:=kE P agi 2554 (.int 45 2462)
def Xo:=kE P agj 2555 (.int 49 2470)
def Xp:=kE P agk 2556 (.int 50 2472)
def Xq:=kE P agl 2557 (.int 9 2390)
def Xr:=kE P agm 2558 (.int 10 2392)
def Xs:=kE P agn 2559 (.int 32 2436)
def Xu:=kE P ago 2560 (.int 43 2458)
def Xv:=kE P agp 2561 (.int 25 2422)
def Xx:=kE P agq 2562 (.int 18 2408)
def Xy:=kE P agr 2563 (.int 42 2456)
def Xz:=kE P ags 2564 (.int 26 2424)
def XA:=kE P agt 2565 (.int 31 2434)
def cE:=kT #[]
def eD:=kN #[]
def qZ:=kC #[(kS kn0 182),(kS kn0 183),(kS jD 184),(kI 1),(kI 0),(kI 0),(kI 0),(kI 0),(kR 11),(.bool false),(kI 181),(kR 12),.none,.none,.none,.none,(kI 185),(kI 1),(kS jD 186)]
def q0:Obj:={cls:=(.type "frame"),dict:=none,data:=.plain,slots:= #[(some (kR 13)),(some (kR 3)),(some (kR 3)),none,(some (kS kn2 164)),none,(some (kR 0))]}
def OE:Heap:=⟨#[oH P,oJ P,oL P,boot_o_3 P,oM P,oN P,oO P,oT P,oU P,oW P,lC P,cE,eD,qZ,q0],(fV P).life⟩
def OG:Nat:=187
def Zw:Pos:=⟨0,0,0,0⟩
def JF:Heap:=⟨#[oH P,oJ P,oL P,boot_o_3 P,oM P,oN P,oO P,oT P,oU P,oW P,lC P,cE,eD,qZ,q0],(fV P).life⟩
def JG:Nat:=187
def TR:Pos:=⟨0,0,0,0⟩
def an1:=kD #[ke0 P,Xf P,Xg P,Xh P,Xi P,Xj P,Xk P,Xl P,Xm P,Xn P,Eo P,Ep P,Er P,Es P,Et P,Eu P,Ew P,Ex P,Ey P,Ez P,EA P,EB P,EC P,ED P] 24
def XB:=kN #[(kI 5),(kI 0),(kR 20),(kI 28),(kI 0),(kR 27),(kI 37),(kI 0),(kR 34),(kI 46),(kI 0),(kR 41),(kI 65),(kI 0),(kR 48),(kI 88),(kI 0),(kR 55),(kI 104),(kI 0),(kR 62),(kI 114),(kI 0),(kR 69),(kI 130),(kI 0),(kR 76),(kI 139),(kI 0),(kR 83),(kI 150),(kI 0),(kR 90)]
def uM:=kT #[(kS Hx 204),(kS ae1 205),(kS Ls 206),(kS ae2 207),(kS ae3 208),(kS ani 209),(kS ae4 210),(kS ae5 211),(kS S7 212),(kS ae6 213),(kS ae7 214),(kS ae8 215),(kS S8 216)]
def uN:=kF .none Oi 4 0 .none .none
def uO:=kC #[(kS Oi 201),(kS Oi 202),(kS jD 203),(kI 5),(kI 3),(kI 0),(kI 0),(kI 3),(kR 15),(.bool true),(kI 181),(kR 16),.none,(kR 17),(kR 18),(kR 19),(kI 217),(kI 5),(kS jD 218)]
def uP:=kF (.type "function") Oi 4 3 (kS Oz 187) (kR 20)
def uQ:=kT #[(kS S8 223),(kS ae5 224),(kS S7 225),(kS ae9 226),(kS afa 227)]
def uR:=kF .none Oj 5 0 .none .none
def uT:=kC #[(kS Oj 220),(kS Oj 221),(kS jD 222),(kI 28),(kI 3),(kI 0),(kI 0),(kI 3),(kR 22),(.bool true),(kI 181),(kR 23),.none,(kR 24),(kR 25),(kR 26),(kI 228),(kI 28),(kS jD 229)]
def uU:=kF (.type "function") Oj 5 3 (kS Oz 187) (kR 27)
def uV:=kT #[(kS afa 234),(kS ae9 235),(kS Y7 236)]
def uW:=kF .none Ol 6 0 .none .none
def uX:=kC #[(kS Ol 231),(kS Ol 232),(kS jD 233),(kI 37),(kI 3),(kI 0),(kI 0),(kI 3),(kR 29),(.bool true),(kI 181),(kR 30),.none,(kR 31),(kR 32),(kR 33),(kI 237),(kI 37),(kS jD 238)]
def uY:=kF (.type "function") Ol 6 3 (kS Oz 187) (kR 34)
def uZ:=kT #[(kS Hx 243),(kS ae1 244),(kS Ls 245),(kS ae2 246),(kS ae3 247),(kS ae4 248),(kS afb 249),(kS S7 250),(kS ae6 251),(kS ae7 252),(kS ae8 253),(kS S8 254)]
def vg:=kF .none Om 7 0 .none .none
def vh:=kC #[(kS Om 240),(kS Om 241),(kS jD 242),(kI 46),(kI 3),(kI 0),(kI 0),(kI 3),(kR 36),(.bool true),(kI 181),(kR 37),.none,(kR 38),(kR 39),(kR 40),(kI 255),(kI 46),(kS jD 256)]
def vk:=kF (.type "function") Om 7 3 (kS Oz 187) (kR 41)
def vm:=kT #[(kS S8 261),(kS S7 262),(kS afb 263),(kS anj 264),(kS ank 265),(kS anl 266),(kS S9 267),(kS anm 268)]
def vq:=kF .none Oo 8 0 .none .none
def vr:=kC #[(kS Oo 258),(kS Oo 259),(kS jD 260),(kI 65),(kI 3),(kI 0),(kI 0),(kI 3),(kR 43),(.bool true),(kI 181),(kR 44),.none,(kR 45),(kR 46),(kR 47),(kI 269),(kI 65),(kS jD 270)]
def vt:=kF (.type "function") Oo 8 3 (kS Oz 187) (kR 48)
def vw:=kT #[(kS Ta 279),(kS Ls 280),(kS Hy 281),(kS ano 282),(kS anp 283),(kS anq 284),(kS afc 285),(kS afd 286),(kS anr 287),(kS Hx 288),(kS ans 289)]
def vx:=kF .none Oq 11 0 .none .none
def vy:=kC #[(kS Oq 276),(kS Oq 277),(kS jD 278),(kI 88),(kI 3),(kI 0),(kI 0),(kI 3),(kR 50),(.bool true),(kI 181),(kR 51),.none,(kR 52),(kR 53),(kR 54),(kI 290),(kI 88),(kS jD 291)]
def vz:=kF (.type "function") Oq 11 3 (kS Lu 272) (kR 55)
def vA:=kT #[(kS ant 296),(kS anu 297),(kS Ls 298),(kS afc 299),(kS afd 300),(kS Hy 301),(kS S9 302),(kS Hx 303)]
def vC:=kF .none Ot 12 0 .none .none
def vD:=kC #[(kS Ot 293),(kS Ot 294),(kS jD 295),(kI 104),(kI 6),(kI 0),(kI 0),(kI 3),(kR 57),(.bool true),(kI 181),(kR 58),.none,(kR 59),(kR 60),(kR 61),(kI 304),(kI 104),(kS jD 305)]
def vE:=kF (.type "function") Ot 12 3 (kS Lu 272) (kR 62)
def vG:=kT #[(kS Ta 310),(kS Hy 311)]
def vH:=kT #[(kS Hy 312),(kS afe 313),(kS aff 314)]
def vI:=kF .none Ou 13 0 .none .none
def vJ:=kC #[(kS Ou 307),(kS Ou 308),(kS jD 309),(kI 114),(kI 2),(kI 0),(kI 0),(kI 3),(kR 64),(.bool true),(kI 181),(kR 65),.none,(kR 66),(kR 67),(kR 68),(kI 315),(kI 114),(kS jD 316)]
def vM:=kF (.type "function") Ou 13 3 (kS Lu 272) (kR 69)
def vN:=kT #[(kS afg 321),(kS Hy 322)]
def vO:=kT #[(kS afg 323),(kS Hy 324),(kS aff 325)]
def vP:=kF .none Ov 14 0 .none .none
def vQ:=kC #[(kS Ov 318),(kS Ov 319),(kS jD 320),(kI 130),(kI 2),(kI 0),(kI 0),(kI 3),(kR 71),(.bool true),(kI 181),(kR 72),.none,(kR 73),(kR 74),(kR 75),(kI 326),(kI 130),(kS jD 327)]
def vR:=kF (.type "function") Ov 14 3 (kS Lu 272) (kR 76)
def vT:=kT #[(kS Ta 332),(kS Ls 333),(kS Hy 334),(kS afe 335),(kS Hx 336),(kS anv 337),(kS anw 338),(kS anx 339),(kS S9 340)]
def vU:=kF .none Ox 15 0 .none .none
def vV:=kC #[(kS Ox 329),(kS Ox 330),(kS jD 331),(kI 139),(kI 2),(kI 0),(kI 0),(kI 3),(kR 78),(.bool true),(kI 181),(kR 79),.none,(kR 80),(kR 81),(kR 82),(kI 341),(kI 139),(kS jD 342)]
def vW:=kF (.type "function") Ox 15 3 (kS Lu 272) (kR 83)
def vX:=kT #[(kS Ta 347),(kS Ls 348),(kS S9 349),(kS Hx 350)]
def vY:=kF .none Oy 16 0 .none .none
def vZ:=kC #[(kS Oy 344),(kS Oy 345),(kS jD 346),(kI 150),(kI 2),(kI 0),(kI 0),(kI 3),(kR 85),(.bool true),(kI 181),(kR 86),.none,(kR 87),(kR 88),(kR 89),(kI 351),(kI 150),(kS jD 352)]
def v7:=kF (.type "function") Oy 16 3 (kS Lu 272) (kR 90)
def JH:Heap:=⟨#[oH P,oJ P,oL P,an1 P,oM P,oN P,oO P,oT P,oU P,oW P,lC P,cE,XB,qZ,q0,cE,eD,uM,cE,uN,uO,uP,cE,eD,uQ,cE,uR,uT,uU,cE,eD,uV,cE,uW,uX,uY,cE,eD,uZ,cE,vg,vh,vk,cE,eD,vm,cE,vq,vr,vt,cE,eD,vw,cE,vx,vy,vz,cE,eD,vA,cE,vC,vD,vE,cE,eD,vG,vH,vI,vJ,vM,cE,eD,vN,vO,vP,vQ,vR,cE,eD,vT,cE,vU,vV,vW,cE,eD,vX,cE,vY,vZ,v7],(fV P).life⟩
def JI:Nat:=356
def TU:Pos:=⟨161,0,161,8⟩
def an2:=kD #[ke0 P,Xf P,Xg P,Xh P,Xi P,Xj P,Xk P,Xl P,Xm P,Xn P,Eo P,Ep P,Er P,Es P,Et P,Eu P,Ew P,Ex P,Ey P,Ez P,EA P,EB P,EC P,ED P,Hz P] 25
def xS:Obj:={cls:=(.type "list"),dict:=none,data:=(.seq #[(.int 173 356),(.int 847 357),(.int 6150 358),(.int 6155 359),(.int 6156 360),(.int 6157 361),(.int 8203 362),(.int 8204 363),(.int 8205 364),(.int 8288 365),(.int 65279 366)] 0),slots:= #[]}
def xT:Obj:={cls:=(.type "range"),dict:=none,data:=(.fields #[(.int 65024 367),(.int 65040 368),(.int 1 369)]),slots:= #[]}
def xU:Obj:={cls:=(.type "list"),dict:=none,data:=(.seq #[(.int 65024 372),(.int 65025 373),(.int 65026 374),(.int 65027 375),(.int 65028 376),(.int 65029 377),(.int 65030 378),(.int 65031 379),(.int 65032 380),(.int 65033 381),(.int 65034 382),(.int 65035 383),(.int 65036 384),(.int 65037 385),(.int 65038 386),(.int 65039 387)] 18),slots:= #[]}
def xV:Obj:={cls:=(.type "range_iterator"),dict:=none,data:=(.fields #[(kI 65040),(kI 0),(kI 1)]),slots:= #[]}
def xW:Obj:={cls:=(.type "StopIteration"),dict:=none,data:=(.fields #[(kR 96),.none,.none,.none,(.bool false),.none]),slots:= #[]}
def xX:Obj:={cls:=(.type "list"),dict:=none,data:=(.seq #[(.int 173 356),(.int 847 357),(.int 6150 358),(.int 6155 359),(.int 6156 360),(.int 6157 361),(.int 8203 362),(.int 8204 363),(.int 8205 364),(.int 8288 365),(.int 65279 366),(.int 65024 372),(.int 65025 373),(.int 65026 374),(.int 65027 375),(.int 65028 376),(.int 65029 377),(.int 65030 378),(.int 65031 379),(.int 65032 380),(.int 65033 381),(.int 65034 382),(.int 65035 383),(.int 65036 384),(.int 65037 385),(.int 65038 386),(.int 65039 387)] 0),slots:= #[]}
def xY:Obj:={cls:=(.type "set"),dict:=none,data:=(.set #[(65024,(.int 65024 372)),(65025,(.int 65025 373)),(65026,(.int 65026 374)),(65027,(.int 65027 375)),(65028,(.int 65028 376)),(65029,(.int 65029 377)),(6150,(.int 6150 358)),(65030,(.int 65030 378)),(65031,(.int 65031 379)),(65032,(.int 65032 380)),(65033,(.int 65033 381)),(6155,(.int 6155 359)),(6156,(.int 6156 360)),(6157,(.int 6157 361)),(8203,(.int 8203 362)),(8204,(.int 8204 363)),(8205,(.int 8205 364)),(65034,(.int 65034 382)),(65035,(.int 65035 383)),(65036,(.int 65036 384)),(65037,(.int 65037 385)),(65038,(.int 65038 386)),(65039,(.int 65039 387)),(173,(.int 173 356)),(847,(.int 847 357)),(8288,(.int 8288 365)),(65279,(.int 65279 366))] 29 {mask:=127,place:= #[0,1,2,3,4,5,6,7,8,9,10,11,12,13,14,15,16,17,18,19,20,21,22,45,79,96,127],dummies:= #[],finger:=0,led:= !(P.followText "set-order"),moves:=2,plain:=true}),slots:= #[]}
def ry:Obj:={cls:=(.type "list_iterator"),dict:=none,data:=(.fields #[.none,(kI 27)]),slots:= #[]}
def rz:Obj:={cls:=(.type "StopIteration"),dict:=none,data:=(.fields #[(kR 101),.none,.none,.none,(.bool false),.none]),slots:= #[]}
def JJ:Heap:=⟨#[oH P,oJ P,oL P,an2 P,oM P,oN P,oO P,oT P,oU P,oW P,lC P,cE,XB,qZ,q0,cE,eD,uM,cE,uN,uO,uP,cE,eD,uQ,cE,uR,uT,uU,cE,eD,uV,cE,uW,uX,uY,cE,eD,uZ,cE,vg,vh,vk,cE,eD,vm,cE,vq,vr,vt,cE,eD,vw,cE,vx,vy,vz,cE,eD,vA,cE,vC,vD,vE,cE,eD,vG,vH,vI,vJ,vM,cE,eD,vN,vO,vP,vQ,vR,cE,eD,vT,cE,vU,vV,vW,cE,eD,vX,cE,vY,vZ,v7,xS,xT,xU,xV,cE,xW,xX,xY P,ry,cE,rz],(fV P).life⟩
def JK:Nat:=416
def TV:Pos:=⟨162,0,162,6⟩
def an3:=kD #[ke0 P,Xf P,Xg P,Xh P,Xi P,Xj P,Xk P,Xl P,Xm P,Xn P,Eo P,Ep P,Er P,Es P,Et P,Eu P,Ew P,Ex P,Ey P,Ez P,EA P,EB P,EC P,ED P,Hz P,Lv P] 26
def XC:=kN #[(kI 5),(kI 0),(kR 20),(kI 28),(kI 0),(kR 27),(kI 37),(kI 0),(kR 34),(kI 46),(kI 0),(kR 41),(kI 65),(kI 0),(kR 48),(kI 88),(kI 0),(kR 55),(kI 104),(kI 0),(kR 62),(kI 114),(kI 0),(kR 69),(kI 130),(kI 0),(kR 76),(kI 139),(kI 0),(kR 83),(kI 150),(kI 0),(kR 90),(kI 163),(kI 0),(kR 108)]
def tS:=kT #[(kS afh 419)]
def tT:=kF .none OA 19 0 .none .none
def tU:=kC #[(kS OA 416),(kS OA 417),(kS jD 418),(kI 163),(kI 1),(kI 0),(kI 0),(kI 3),(kR 103),(.bool true),(kI 181),(kR 104),.none,(kR 105),(kR 106),(kR 107),(kI 420),(kI 163),(kS jD 421)]
def tV:=kF (.type "function") OA 19 3 (kS kn4 354) (kR 108)
def lH:Heap:=⟨#[oH P,oJ P,oL P,an3 P,oM P,oN P,oO P,oT P,oU P,oW P,lC P,cE,XC,qZ,q0,cE,eD,uM,cE,uN,uO,uP,cE,eD,uQ,cE,uR,uT,uU,cE,eD,uV,cE,uW,uX,uY,cE,eD,uZ,cE,vg,vh,vk,cE,eD,vm,cE,vq,vr,vt,cE,eD,vw,cE,vx,vy,vz,cE,eD,vA,cE,vC,vD,vE,cE,eD,vG,vH,vI,vJ,vM,cE,eD,vN,vO,vP,vQ,vR,cE,eD,vT,cE,vU,vV,vW,cE,eD,vX,cE,vY,vZ,v7,xS,xT,xU,xV,cE,xW,xX,xY P,ry,cE,rz,cE,eD,tS,cE,tT,tU,tV],(fV P).life⟩
def jc:Nat:=423
def TX:Pos:=⟨163,0,164,30⟩
def an4:=kD #[ke0 P,Xf P,Xg P,Xh P,Xi P,Xj P,Xk P,Xl P,Xm P,Xn P,Eo P,Ep P,Er P,Es P,Et P,Eu P,Ew P,Ex P,Ey P,Ez P,EA P,EB P,EC P,ED P,Hz P,Lv P,OD P] 27
def Bc:Heap:=⟨#[oH P,oJ P,oL P,an4 P,oM P,oN P,oO P,oT P,oU P,oW P,lC P,cE,XC,qZ,q0,cE,eD,uM,cE,uN,uO,uP,cE,eD,uQ,cE,uR,uT,uU,cE,eD,uV,cE,uW,uX,uY,cE,eD,uZ,cE,vg,vh,vk,cE,eD,vm,cE,vq,vr,vt,cE,eD,vw,cE,vx,vy,vz,cE,eD,vA,cE,vC,vD,vE,cE,eD,vG,vH,vI,vJ,vM,cE,eD,vN,vO,vP,vQ,vR,cE,eD,vT,cE,vU,vV,vW,cE,eD,vX,cE,vY,vZ,v7,xS,xT,xU,xV,cE,xW,xX,xY P,ry,cE,rz,cE,eD,tS,cE,tT,tU,tV,oD 0,oD 1,oD 2,oD 3,oD 4,oD 5,oD 6,oD 7,oD 8,oD 9,oD 10,oD 11,oD 12,oD 13,oD 14,oD 15,oD 16,oD 17,oD 18,oD 19,oD 20,oD 21,oD 22,oD 23,oD 24,oD 25,oD 26,oD 27,oD 28,oD 29,oD 30,oD 31,oD 32,oD 33,oD 34,oD 35,oD 36,oD 37,oD 38],(fV P).life⟩
def wb:Nat:=2374
def an5:=kD #[Y8 P,Xf P,Xg P,Xh P,Xi P,Xj P,Xk P,Xl P,Xm P,Xn P,Eo P,Ep P,Er P,Es P,Et P,Eu P,Ew P,Ex P,Ey P,Ez P,EA P,EB P,EC P,ED P,Hz P,Lv P,OD P,Td P,Te P,Tf P,Tg P,Ti P,Tj P,To P,Tp P,Tq P,Tr P,Ts P,Tt P,Tv P,Tw P,Tx P,Tz P,TA P,TB P,TC P,TF P,TH P,TJ P,TK P,TL P,TM P,TN P,TP P,TQ P] 55
def OH:=kN #[(kI 5),(kI 0),(kR 20),(kI 28),(kI 0),(kR 27),(kI 37),(kI 0),(kR 34),(kI 46),(kI 0),(kR 41),(kI 65),(kI 0),(kR 48),(kI 88),(kI 0),(kR 55),(kI 104),(kI 0),(kR 62),(kI 114),(kI 0),(kR 69),(kI 130),(kI 0),(kR 76),(kI 139),(kI 0),(kR 83),(kI 150),(kI 0),(kR 90),(kI 163),(kI 0),(kR 108),(kI 166),(kI 0),(kR 154)]
def Ce:=kT #[(kS afh 2377),(kS Hx 2378)]
def Cf:=kF .none OB 21 0 .none .none
def Cg:=kC #[(kS OB 2374),(kS OB 2375),(kS jD 2376),(kI 166),(kI 1),(kI 0),(kI 0),(kI 3),(kR 149),(.bool true),(kI 181),(kR 150),.none,(kR 151),(kR 152),(kR 153),(kI 2379),(kI 166),(kS jD 2380)]
def Ci:=kF (.type "function") OB 21 3 (kS kn4 354) (kR 154)
def JL:Heap:=⟨#[oH P,oJ P,oL P,an5 P,oM P,oN P,oO P,oT P,oU P,oW P,lC P,cE,OH,qZ,q0,cE,eD,uM,cE,uN,uO,uP,cE,eD,uQ,cE,uR,uT,uU,cE,eD,uV,cE,uW,uX,uY,cE,eD,uZ,cE,vg,vh,vk,cE,eD,vm,cE,vq,vr,vt,cE,eD,vw,cE,vx,vy,vz,cE,eD,vA,cE,vC,vD,vE,cE,eD,vG,vH,vI,vJ,vM,cE,eD,vN,vO,vP,vQ,vR,cE,eD,vT,cE,vU,vV,vW,cE,eD,vX,cE,vY,vZ,v7,xS,xT,xU,xV,cE,xW,xX,xY P,ry,cE,rz,cE,eD,tS,cE,tT,tU,tV,oD 0,oD 1,oD 2,oD 3,oD 4,oD 5,oD 6,oD 7,oD 8,oD 9,oD 10,oD 11,oD 12,oD 13,oD 14,oD 15,oD 16,oD 17,oD 18,oD 19,oD 20,oD 21,oD 22,oD 23,oD 24,oD 25,oD 26,oD 27,oD 28,oD 29,oD 30,oD 31,oD 32,oD 33,oD 34,oD 35,oD 36,oD 37,oD 38,cE,eD,Ce,cE,Cf,Cg,Ci],(fV P).life⟩
def JM:Nat:=2438
def TY:Pos:=⟨198,0,198,10⟩
def an6:=kD #[Y8 P,Xf P,Xg P,Xh P,Xi P,Xj P,Xk P,Xl P,Xm P,Xn P,Eo P,Ep P,Er P,Es P,Et P,Eu P,Ew P,Ex P,Ey P,Ez P,EA P,EB P,EC P,ED P,Hz P,Lv P,OD P,Td P,Te P,Tf P,Tg P,Ti P,Tj P,To P,Tp P,Tq P,Tr P,Ts P,Tt P,Tv P,Tw P,Tx P,Tz P,TA P,TB P,TC P,TF P,TH P,TJ P,TK P,TL P,TM P,TN P,TP P,TQ P,Y9 P,Za P,Zb P,Zc P,Zd P,Ze P,Zf P,Zg P,Zh P,Zi P,Zj P,Zk P,Zl P,Zm P,Zn P,Zo P,Zp P,Zq P,Zr P,Zs P,Zt P,Zu P,Zv P] 78
def JN:Heap:=⟨#[oH P,oJ P,oL P,an6 P,oM P,oN P,oO P,oT P,oU P,oW P,lC P,cE,OH,qZ,q0,cE,eD,uM,cE,uN,uO,uP,cE,eD,uQ,cE,uR,uT,uU,cE,eD,uV,cE,uW,uX,uY,cE,eD,uZ,cE,vg,vh,vk,cE,eD,vm,cE,vq,vr,vt,cE,eD,vw,cE,vx,vy,vz,cE,eD,vA,cE,vC,vD,vE,cE,eD,vG,vH,vI,vJ,vM,cE,eD,vN,vO,vP,vQ,vR,cE,eD,vT,cE,vU,vV,vW,cE,eD,vX,cE,vY,vZ,v7,xS,xT,xU,xV,cE,xW,xX,xY P,ry,cE,rz,cE,eD,tS,cE,tT,tU,tV,oD 0,oD 1,oD 2,oD 3,oD 4,oD 5,oD 6,oD 7,oD 8,oD 9,oD 10,oD 11,oD 12,oD 13,oD 14,oD 15,oD 16,oD 17,oD 18,oD 19,oD 20,oD 21,oD 22,oD 23,oD 24,oD 25,oD 26,oD 27,oD 28,oD 29,oD 30,oD 31,oD 32,oD 33,oD 34,oD 35,oD 36,oD 37,oD 38,cE,eD,Ce,cE,Cf,Cg,Ci],(fV P).life⟩
def JO:Nat:=2484
def T2:Pos:=⟨221,0,221,9⟩
def an7:=kD #[Y8 P,Xf P,Xg P,Xh P,Xi P,Xj P,Xk P,Xl P,Xm P,Xn P,Eo P,Ep P,Er P,Es P,Et P,Eu P,Ew P,Ex P,Ey P,Ez P,EA P,EB P,EC P,ED P,Hz P,Lv P,OD P,Td P,Te P,Tf P,Tg P,Ti P,Tj P,To P,Tp P,Tq P,Tr P,Ts P,Tt P,Tv P,Tw P,Tx P,Tz P,TA P,TB P,TC P,TF P,TH P,TJ P,TK P,TL P,TM P,TN P,TP P,TQ P,Y9 P,Za P,Zb P,Zc P,Zd P,Ze P,Zf P,Zg P,Zh P,Zi P,Zj P,Zk P,Zl P,Zm P,Zn P,Zo P,Zp P,Zq P,Zr P,Zs P,Zt P,Zu P,Zv P,agP P] 79
def OI:=kD #[kE P afI 2484 (.int 54 2480),kE P afJ 2486 (.int 28 2428),kE P afK 2488 (.int 24 2420),kE P afL 2490 (.int 40 2452),kE P afM 2492 (.int 19 2410),kE P afN 2494 (.int 41 2454),kE P afO 2496 (.int 7 2386),kE P afP 2498 (.int 8 2388),kE P afQ 2500 (.int 16 2404),kE P afR 2502 (.int 35 2442),kE P afS 2504 (.int 46 2464),kE P afT 2506 (.int 38 2448),kE P afU 2508 (.int 14 2400),kE P afV 2510 (.int 36 2444),kE P afW 2512 (.int 12 2396),kE P afX 2514 (.int 15 2402),kE P afY 2516 (.int 37 2446),agQ P,agR P,agS P,agT P,agU P,agV P,agW P,agX P,agY P,agZ P,ag0 P,ag1 P,ag2 P,ag3 P,ag4 P,ag5 P,ag6 P,ag7 P,ag8 P,ag9 P,Xo P,Xp P,Xq P,Xr P,Xs P,Xu P,Xv P,Xx P,Xy P,Xz P,XA P] 48
def OJ:=kD #[agQ P,agR P,agS P,agT P,agU P,agV P,agW P,agX P,agY P,agZ P,ag0 P,ag1 P,ag2 P,ag3 P,ag4 P,ag5 P,ag6 P] 17
def OL:=kD #[ag7 P,ag8 P,ag9 P,Xo P,Xp P,Xq P,Xr P,Xs P,Xu P,Xv P,Xx P,Xy P,Xz P,XA P] 14
def JP:Heap:=⟨#[oH P,oJ P,oL P,an7 P,oM P,oN P,oO P,oT P,oU P,oW P,lC P,cE,OH,qZ,q0,cE,eD,uM,cE,uN,uO,uP,cE,eD,uQ,cE,uR,uT,uU,cE,eD,uV,cE,uW,uX,uY,cE,eD,uZ,cE,vg,vh,vk,cE,eD,vm,cE,vq,vr,vt,cE,eD,vw,cE,vx,vy,vz,cE,eD,vA,cE,vC,vD,vE,cE,eD,vG,vH,vI,vJ,vM,cE,eD,vN,vO,vP,vQ,vR,cE,eD,vT,cE,vU,vV,vW,cE,eD,vX,cE,vY,vZ,v7,xS,xT,xU,xV,cE,xW,xX,xY P,ry,cE,rz,cE,eD,tS,cE,tT,tU,tV,oD 0,oD 1,oD 2,oD 3,oD 4,oD 5,oD 6,oD 7,oD 8,oD 9,oD 10,oD 11,oD 12,oD 13,oD 14,oD 15,oD 16,oD 17,oD 18,oD 19,oD 20,oD 21,oD 22,oD 23,oD 24,oD 25,oD 26,oD 27,oD 28,oD 29,oD 30,oD 31,oD 32,oD 33,oD 34,oD 35,oD 36,oD 37,oD 38,cE,eD,Ce,cE,Cf,Cg,Ci,OI P,OJ P,OL P],(fV P).life⟩
def JQ:Nat:=2581
def T3:Pos:=⟨222,0,222,17⟩
def an8:=kD #[kE P kn3 165 (kS o5 2602),Xf P,Xg P,Xh P,Xi P,Xj P,Xk P,Xl P,Xm P,Xn P,Eo P,Ep P,Er P,Es P,Et P,Eu P,Ew P,Ex P,Ey P,Ez P,EA P,EB P,EC P,ED P,Hz P,Lv P,OD P,Td P,Te P,Tf P,Tg P,Ti P,Tj P,To P,Tp P,Tq P,Tr P,Ts P,Tt P,Tv P,Tw P,Tx P,Tz P,TA P,TB P,TC P,TF P,TH P,TJ P,TK P,TL P,TM P,TN P,TP P,TQ P,Y9 P,Za P,Zb P,Zc P,Zd P,Ze P,Zf P,Zg P,Zh P,Zi P,Zj P,Zk P,Zl P,Zm P,Zn P,Zo P,Zp P,Zq P,Zr P,Zs P,Zt P,Zu P,Zv P,agP P,kE P Ea 2587 (kR 165),kE P Eb 2594 (kR 172),kE P Ec 2601 (kR 179),kE P Ed 2609 (kR 184),kE P Ee 2615 (kR 189),kE P Ef 2626 (kR 196),kE P Eg 2645 (kR 203),kE P Eh 2660 (kR 210),kE P Ei 2666 (kR 215),kE P Ej 2672 (kR 220),kE P Ek 2679 (kR 227),kE P El 2685 (kR 232),kE P Em 2698 (kR 239),kE P En 2704 (kR 244)] 93
def aha:=kN #[(kI 5),(kI 0),(kR 20),(kI 28),(kI 0),(kR 27),(kI 37),(kI 0),(kR 34),(kI 46),(kI 0),(kR 41),(kI 65),(kI 0),(kR 48),(kI 88),(kI 0),(kR 55),(kI 104),(kI 0),(kR 62),(kI 114),(kI 0),(kR 69),(kI 130),(kI 0),(kR 76),(kI 139),(kI 0),(kR 83),(kI 150),(kI 0),(kR 90),(kI 163),(kI 0),(kR 108),(kI 166),(kI 0),(kR 154),(kI 223),(kI 0),(kR 164),(kI 225),(kI 0),(kR 171),(kI 227),(kI 0),(kR 178),(kI 230),(kI 0),(kR 183),(kI 248),(kI 0),(kR 188),(kI 257),(kI 0),(kR 195),(kI 269),(kI 0),(kR 202),(kI 283),(kI 0),(kR 209),(kI 288),(kI 0),(kR 214),(kI 300),(kI 0),(kR 219),(kI 307),(kI 0),(kR 226),(kI 313),(kI 0),(kR 231),(kI 315),(kI 0),(kR 238),(kI 319),(kI 0),(kR 243)]
def Zx:=kT #[(kS OC 2584)]
def Zy:=kF .none Ea 74 0 .none .none
def Zz:=kC #[(kS Ea 2581),(kS Ea 2582),(kS jD 2583),(kI 223),(kI 1),(kI 0),(kI 0),(kI 3),(kR 159),(.bool true),(kI 181),(kR 160),.none,(kR 161),(kR 162),(kR 163),(kI 2585),(kI 223),(kS jD 2586)]
def ZA:=kF (.type "function") Ea 74 3 (kS Tc 2382) (kR 164)
def ZC:=kT #[(kS OC 2591)]
def ZD:=kF .none Eb 75 0 .none .none
def ZE:=kC #[(kS Eb 2588),(kS Eb 2589),(kS jD 2590),(kI 225),(kI 1),(kI 0),(kI 0),(kI 3),(kR 166),(.bool true),(kI 181),(kR 167),.none,(kR 168),(kR 169),(kR 170),(kI 2592),(kI 225),(kS jD 2593)]
def ZF:=kF (.type "function") Eb 75 3 (kS Tc 2382) (kR 171)
def ZG:=kT #[(kS OC 2598)]
def ZH:=kF .none Ec 76 0 .none .none
def ZI:=kC #[(kS Ec 2595),(kS Ec 2596),(kS jD 2597),(kI 227),(kI 1),(kI 0),(kI 0),(kI 3),(kR 173),(.bool true),(kI 181),(kR 174),.none,(kR 175),(kR 176),(kR 177),(kI 2599),(kI 227),(kS jD 2600)]
def ZK:=kF (.type "function") Ec 76 3 (kS Tc 2382) (kR 178)
def ZL:=kF .none Ed 78 0 .none .none
def ZM:=kC #[(kS Ed 2604),(kS Ed 2605),(kS jD 2606),(kI 230),(kI 3),(kI 0),(kI 0),(kI 3),(kR 180),(.bool true),(kI 181),(kR 181),.none,.none,.none,(kR 182),(kI 2607),(kI 230),(kS jD 2608)]
def ZN:=kF (.type "function") Ed 78 3 (kS o5 2602) (kR 183)
def ZO:=kF .none Ee 79 0 .none .none
def ZP:=kC #[(kS Ee 2610),(kS Ee 2611),(kS jD 2612),(kI 248),(kI 1),(kI 0),(kI 0),(kI 3),(kR 185),(.bool true),(kI 181),(kR 186),.none,.none,.none,(kR 187),(kI 2613),(kI 248),(kS jD 2614)]
def ZQ:=kF (.type "function") Ee 79 3 (kS o5 2602) (kR 188)
def ZS:=kT #[(kS agu 2619),(kS agv 2620),(kS agw 2621),(kS agx 2622),(kS agy 2623)]
def ZT:=kF .none Ef 80 0 .none .none
def ZU:=kC #[(kS Ef 2616),(kS Ef 2617),(kS jD 2618),(kI 257),(kI 1),(kI 0),(kI 0),(kI 3),(kR 190),(.bool true),(kI 181),(kR 191),.none,(kR 192),(kR 193),(kR 194),(kI 2624),(kI 257),(kS jD 2625)]
def ZV:=kF (.type "function") Ef 80 3 (kS o5 2602) (kR 195)
def ZW:=kT #[(kS agz 2630),(kS agA 2631),(kS agB 2632),(kS agC 2633),(kS agD 2634),(kS Y7 2635),(kS agE 2636),(kS agF 2637),(kS W8 2638),(kS agG 2639),(kS W9 2640),(kS Xb 2641),(kS Xc 2642)]
def ZY:=kF .none Eg 81 0 .none .none
def ZZ:=kC #[(kS Eg 2627),(kS Eg 2628),(kS jD 2629),(kI 269),(kI 2),(kI 0),(kI 0),(kI 3),(kR 197),(.bool true),(kI 181),(kR 198),.none,(kR 199),(kR 200),(kR 201),(kI 2643),(kI 269),(kS jD 2644)]
def Z0:=kF (.type "function") Eg 81 3 (kS o5 2602) (kR 202)
def Z1:=kT #[(kS Xd 2649),(kS agH 2650),(kS W9 2651),(kS Xb 2652),(kS Xc 2653),(kS Y7 2654),(kS W8 2655),(kS agI 2656),(kS agJ 2657)]
def Z2:=kF .none Eh 82 0 .none .none
def Z3:=kC #[(kS Eh 2646),(kS Eh 2647),(kS jD 2648),(kI 283),(kI 2),(kI 0),(kI 0),(kI 3),(kR 204),(.bool true),(kI 181),(kR 205),.none,(kR 206),(kR 207),(kR 208),(kI 2658),(kI 283),(kS jD 2659)]
def Z4:=kF (.type "function") Eh 82 3 (kS o5 2602) (kR 209)
def Z5:=kF .none Ei 83 0 .none .none
def Z6:=kC #[(kS Ei 2661),(kS Ei 2662),(kS jD 2663),(kI 288),(kI 3),(kI 0),(kI 0),(kI 3),(kR 211),(.bool true),(kI 181),(kR 212),.none,.none,.none,(kR 213),(kI 2664),(kI 288),(kS jD 2665)]
def Z7:=kF (.type "function") Ei 83 3 (kS o5 2602) (kR 214)
def Z8:=kF .none Ej 84 0 .none .none
def Z9:=kC #[(kS Ej 2667),(kS Ej 2668),(kS jD 2669),(kI 300),(kI 1),(kI 0),(kI 0),(kI 3),(kR 216),(.bool true),(kI 181),(kR 217),.none,.none,.none,(kR 218),(kI 2670),(kI 300),(kS jD 2671)]
def aac:=kF (.type "function") Ej 84 3 (kS o5 2602) (kR 219)
def aad:=kT #[(kS Xe 2676)]
def aae:=kF .none Ek 85 0 .none .none
def aaf:=kC #[(kS Ek 2673),(kS Ek 2674),(kS jD 2675),(kI 307),(kI 1),(kI 0),(kI 0),(kI 3),(kR 221),(.bool true),(kI 181),(kR 222),.none,(kR 223),(kR 224),(kR 225),(kI 2677),(kI 307),(kS jD 2678)]
def aag:=kF (.type "function") Ek 85 3 (kS o5 2602) (kR 226)
def aah:=kF .none El 86 0 .none .none
def aai:=kC #[(kS El 2680),(kS El 2681),(kS jD 2682),(kI 313),(kI 2),(kI 0),(kI 0),(kI 3),(kR 228),(.bool true),(kI 181),(kR 229),.none,.none,.none,(kR 230),(kI 2683),(kI 313),(kS jD 2684)]
def aaj:=kF (.type "function") El 86 3 (kS o5 2602) (kR 231)
def aak:=kT #[(kS Xe 2689),(kS agK 2690),(kS agL 2691),(kS agM 2692),(kS agN 2693),(kS agO 2694),(kS Xd 2695)]
def aal:=kF .none Em 87 0 .none .none
def aam:=kC #[(kS Em 2686),(kS Em 2687),(kS jD 2688),(kI 315),(kI 4),(kI 0),(kI 0),(kI 3),(kR 233),(.bool true),(kI 181),(kR 234),.none,(kR 235),(kR 236),(kR 237),(kI 2696),(kI 315),(kS jD 2697)]
def aan:=kF (.type "function") Em 87 3 (kS o5 2602) (kR 238)
def aao:=kF .none En 88 0 .none .none
def aap:=kC #[(kS En 2699),(kS En 2700),(kS jD 2701),(kI 319),(kI 1),(kI 0),(kI 0),(kI 3),(kR 240),(.bool true),(kI 181),(kR 241),.none,.none,.none,(kR 242),(kI 2702),(kI 319),(kS jD 2703)]
def aaq:=kF (.type "function") En 88 3 (kS o5 2602) (kR 243)
def g7:Heap:=⟨#[oH P,oJ P,oL P,an8 P,oM P,oN P,oO P,oT P,oU P,oW P,lC P,cE,aha,qZ,q0,cE,eD,uM,cE,uN,uO,uP,cE,eD,uQ,cE,uR,uT,uU,cE,eD,uV,cE,uW,uX,uY,cE,eD,uZ,cE,vg,vh,vk,cE,eD,vm,cE,vq,vr,vt,cE,eD,vw,cE,vx,vy,vz,cE,eD,vA,cE,vC,vD,vE,cE,eD,vG,vH,vI,vJ,vM,cE,eD,vN,vO,vP,vQ,vR,cE,eD,vT,cE,vU,vV,vW,cE,eD,vX,cE,vY,vZ,v7,xS,xT,xU,xV,cE,xW,xX,xY P,ry,cE,rz,cE,eD,tS,cE,tT,tU,tV,oD 0,oD 1,oD 2,oD 3,oD 4,oD 5,oD 6,oD 7,oD 8,oD 9,oD 10,oD 11,oD 12,oD 13,oD 14,oD 15,oD 16,oD 17,oD 18,oD 19,oD 20,oD 21,oD 22,oD 23,oD 24,oD 25,oD 26,oD 27,oD 28,oD 29,oD 30,oD 31,oD 32,oD 33,oD 34,oD 35,oD 36,oD 37,oD 38,cE,eD,Ce,cE,Cf,Cg,Ci,OI P,OJ P,OL P,cE,eD,Zx,cE,Zy,Zz,ZA,cE,eD,ZC,cE,ZD,ZE,ZF,cE,eD,ZG,cE,ZH,ZI,ZK,cE,eD,ZL,ZM,ZN,cE,eD,ZO,ZP,ZQ,cE,eD,ZS,cE,ZT,ZU,ZV,cE,eD,ZW,cE,ZY,ZZ,Z0,cE,eD,Z1,cE,Z2,Z3,Z4,cE,eD,Z5,Z6,Z7,cE,eD,Z8,Z9,aac,cE,eD,aad,cE,aae,aaf,aag,cE,eD,aah,aai,aaj,cE,eD,aak,cE,aal,aam,aan,cE,eD,aao,aap,aaq],(fV P).life⟩
def lJ:Nat:=2705
def aar:Pos:=⟨319,0,340,196⟩
def Sx(H:WS->Heap)(t:Nat)(w:World)(os:gW):ah:=⟨H w.params,#[],lu,t,os⟩
def EE(a b:Nat):List Stmt:=((behindTheImports pw).drop a).take (b - a)
theorem an9(w:World)(os:gW):tgQ JE pw w 11 (some (.ref 6)) 12 (Sx fV aeI w os) (topStub pw)=some (Sx OE OG w os,⟨dnQ JE ea,ea,Zw,[topFrame default]⟩):=by rfl'
theorem aas(w:World)(os:gW):Sj JE pw w 11 (some (.ref 6)) 1 1000 (Sx OE OG w os) (blockOf (behindTheImports pw) mG ea Zw [topFrame default])=some (.next,Sx JF JG w os,ea,TR):=by rfl'
theorem aoa(w:World)(os:gW):Sj JE pw w 11 (some (.ref 6)) 1 100000 (Sx JF JG w os) (piecesOf (EE 0 18) mG ea TR [topFrame default])=some (.next,Sx JH JI w os,ea,TU):=by rfl'
theorem aob(b:Bool)(w:World)(os:gW):Sj JE pw (w.withFollow "special-get-raises" b) 11 (some (.ref 6)) 1 100000 (Sx JH JI (w.withFollow "special-get-raises" b) os) (piecesOf (EE 18 19) mG ea TU [topFrame default])=some (.next,Sx JJ JK (w.withFollow "special-get-raises" b) os,ea,TV):=by
 cases b
 ·rfl'
 ·rfl'
theorem aoc(w:World)(os:gW):Sj JE pw w 11 (some (.ref 6)) 1 100000 (Sx JJ JK w os) (piecesOf (EE 19 20) mG ea TV [topFrame default])=some (.next,Sx lH jc w os,ea,TX):=by rfl'
theorem aod(w:World)(os:gW)(q:Pos):Sj JE pw w 11 (some (.ref 6)) 1 100000 (Sx Bc wb w os) (piecesOf (EE 21 50) mG ea q [topFrame default])=some (.next,Sx JL JM w os,ea,TY):=by rfl'
theorem aoe(w:World)(os:gW):Sj JE pw w 11 (some (.ref 6)) 1 100000 (Sx JL JM w os) (piecesOf (EE 50 73) mG ea TY [topFrame default])=some (.next,Sx JN JO w os,ea,T2):=by rfl'
theorem aof(b:Bool)(w:World)(os:gW):Sj JE pw (w.withFollow "special-get-raises" b) 11 (some (.ref 6)) 1 100000 (Sx JN JO (w.withFollow "special-get-raises" b) os) (piecesOf (EE 73 74) mG ea T2 [topFrame default])=some (.next,Sx JP JQ (w.withFollow "special-get-raises" b) os,ea,T3):=by
 cases b
 ·rfl'
 ·rfl'
theorem aog(w:World)(os:gW):Sj JE pw w 11 (some (.ref 6)) 1 100000 (Sx JP JQ w os) (piecesOf (EE 74 89) mG ea T3 [topFrame default])=some (.next,Sx g7 lJ w os,ea,aar):=by rfl'
end
end
theorem ahb(w:World)(os:gW):S5 Hw (Sx fV aeI w os) (Sx g7 lJ w os)=true:=by rfl'
theorem ahc(w:World)(os:gW):Hw.look (Sx g7 lJ w os).heap=Bb w:=by rfl'
theorem ahd(w:World)(os:gW):osQ (Sx g7 lJ w os)=openGood gK iI:=by rfl'
theorem XE:JE=treeTable:=PySem.W.Fast.te14364793385576792824.symm
theorem ahe:tgQ=topGo:=PySem.W.Fast.te15667345088766844465.symm
theorem ahf:Sj=segRun:=PySem.W.Fast.te14374325043358763698.symm
theorem ahg:dnQ=denote:=PySem.W.Fast.te11892475500146522536.symm
theorem ahh(s):osQ s=osX s:=by unfold osQ osX;rw[<-PySem.W.Fast.te4187177175401517315]
abbrev pv:Option Value:=some (.ref 6)
abbrev T4:Str:="b3_exceptions"
def ahi:Stmt:=.Assign [.Name T4 (Oe xQ)] (.Dict (pS xQ) (pT xQ) (Og xQ)) (Oh xQ)
theorem aat:EE 20 21=[ahi]:=by rfl'
theorem ahj:Ba (pS xQ) (pT xQ)=some L3:=by
 have:(Ba (pS xQ) (pT xQ)).isSome=true:=by rfl'
 obtain⟨x,hx⟩:=ay.mp this;unfold L3;rw[hx];rfl
def asc:List Int->Bool
 |a::b::r=>decide (a<b)&&asc (b::r)
 |_=>true
theorem aau:∀(l:List Int)(a:Int),asc (a::l)=true->∀x∈l,a<x:=by
 intro zx
 induction zx with
 |nil=>
  rintro _ _ x h;cases h
 |cons b r ih=>
  rintro a e x h;have e':(decide (a<b)&&asc (b::r))=true:=e;obtain⟨e1,e2⟩:=bX.mp e';have T5:a<b:=of_decide_eq_true e1;rcases aJ.mp h with rfl|h
  ·exact T5
  ·exact Int.lt_trans T5 (ih b e2 x h)
theorem OM:∀(l:List Int)(a:Int),asc (a::l)=true->asc l=true
 |[],_,_=>rfl
 |_::_,_,e=>(bX.mp e).2
theorem Bd:∀l:List Int,asc l=true->l.Nodup:=by
 intro zx
 induction zx with
 |nil=>
  rintro _;exact avl
 |cons a l ih=>
  rintro e;exact fM.mpr ⟨λh=>Int.lt_irrefl a (aau l a e a h),ih (OM l a e)⟩
theorem ON:(hs L3).Nodup:=Bd _ (by rfl')
theorem OO:L3.length=650:=by rfl'
theorem OP:storeName mG T4=nsSet mainNs T4:=by rfl'
theorem HA:(iD.final L3 jc).objs.length=39:=by rfl'
theorem ahk:(iD.final L3 jc).t+1=wb:=by rfl'
theorem T6:(iD.final L3 jc).objs=(aM 39).map oD:=by
 apply aln;intro i;rw[gD];by_cases h:i<39
 ·rw[adN h,bz (by rw[HA];exact h)]
  show _=some (oD i);unfold oD;have h':i<(iD.final L3 jc).objs.length:=by rw[HA];exact h
  have e:(iD.final L3 jc).objs.getD i default=(iD.final L3 jc).objs[i]:=by simp[kB,h']
  exact congrArg some e.symm
 ·rw[iP (by rw[HA];omega),iP (by simpa using h)]
  rfl
theorem T7(P:WS):(jN (lH P) ((aM 39).map oD)).update mainNs (adM T4 (if T4.cps.isEmpty then 0 else reduceHash (P.strHash T4.cps)) (.str T4 (wb - 1)) (.ref (lH P).objs.size))=Bc P:=by rfl'
theorem OQ(w)(os:gW):Cb w T4 L3 (Sx lH jc w os)=Sx Bc wb w os:=by
 have ht:(iD.final L3 jc).t=wb - 1:=by rw[<-ahk];omega
 have h:=T7 w.params;rw[<-T6,<-ht]at h;unfold Cb Sx;show(⟨_,_,_,_,_⟩:ah)=_;rw[show(⟨lH w.params,#[],lu,jc,os⟩:ah).heap=lH w.params from rfl,show(⟨lH w.params,#[],lu,jc,os⟩:ah).toks=jc from rfl,h,ahk]
theorem OR(w)(os:gW):(b8 11 (Sx lH jc w os).heap.objs.size&&tA sysModules (Sx lH jc w os).heap.objs.size&&(iD.final L3 (Sx lH jc w os).toks).has&&xo T4 (Sx lH jc w os).heap)=true:=by rfl'
theorem aav(w)(os:gW)(q):∃n q',n<=3400*650+200/\segRun treeTable pw w 11 pv 1 n (Sx lH jc w os) (pieceOf ahi mG ea q [topFrame default])=some (.next,Sx Bc wb w os,ea,q'):=by
 have r:=OR w os;simp only[av]at r;obtain⟨⟨⟨r1,r2⟩,r3⟩,r4⟩:=r;have g:=Ah (p:=pw) (w:=w) (cw:=11) (ann:=pv) (c:=ea) (S:=Sx lH jc w os) (np:=Oe xQ) (dp:=Og xQ) (sp:=Oh xQ) ahj OP (bP r1) (bP r2) ON (by rw[OO];decide) r3 r4;rw[OQ w os,OO]at g;obtain⟨n,q',l,e⟩:=Lr g q (topFrame default);exact⟨n,q',by omega,e⟩
theorem EF(a b)(h:a<=b):(behindTheImports pw).drop a=EE a b++(behindTheImports pw).drop b:=by
 have:=(WT (b - a) ((behindTheImports pw).drop a)).symm;rw[K8,show a+(b - a)=b by omega]at this;exact this
theorem OS:(behindTheImports pw).drop 89=[]:=by rfl'
abbrev Rn(N:Nat)(w:World)(s:ah)(a:Nat)(q:Pos)(r:ah):Prop:=topRun treeTable pw w 11 pv N s (restOf ((behindTheImports pw).drop a) mG ea q [topFrame default])=some r
theorem next(h:a<=b)(e:segRun treeTable pw w 11 pv 1 M s (piecesOf (EE a b) mG ea q [topFrame default])=some (.next,s',ea,q'))(k:Rn N w s' b q' r):Rn (M+N) w s a q r:=by
 unfold Rn;rw[EF a b h];exact piece_app e k
theorem OT{P:World->Prop}(h:∀(b:Bool)(w:World),P (w.withFollow "special-get-raises" b))(w:World):P w:=by
 have:=h (w.params.followText "special-get-raises") w;rwa[SO]at this
theorem conv(h:Sj JE pw w 11 pv 1 n s t=some r):segRun treeTable pw w 11 pv 1 n s t=some r:=by
 rw[<-XE,<-ahf];exact h
theorem ahl(h:tgQ JE pw w 11 pv n s t=some (s',⟨dnQ JE c,c',p,B⟩)):topGo treeTable pw w 11 pv n s t=some (s',⟨denote treeTable c,c',p,B⟩):=by
 rw[<-XE,<-ahe,<-ahg];exact h
abbrev ahm:Nat:=12+(1000+(100000+(100000+(100000+((3400*650+200)+(100000+(100000+(100000+(100000+3)))))))))
theorem T8(w:World)(os:gW):topRun treeTable pw w 11 pv ahm (Sx fV aeI w os) (topStub pw)=some (Sx g7 lJ w os):=by
 have e9:Rn 3 w (Sx g7 lJ w os) 89 aar (Sx g7 lJ w os):=by
  unfold Rn;rw[OS];refine piece_nil ?_;rfl'
 have hp9:∀w,segRun treeTable pw w 11 pv 1 100000 (Sx JP JQ w os) (piecesOf (EE 74 89) mG ea T3 [topFrame default])=some (.next,Sx g7 lJ w os,ea,aar):=λw=>conv (aog w os)
 have hp8:∀w,segRun treeTable pw w 11 pv 1 100000 (Sx JN JO w os) (piecesOf (EE 73 74) mG ea T2 [topFrame default])=some (.next,Sx JP JQ w os,ea,T3):=OT λb w=>conv (aof b w os)
 have hp7:∀w,segRun treeTable pw w 11 pv 1 100000 (Sx JL JM w os) (piecesOf (EE 50 73) mG ea TY [topFrame default])=some (.next,Sx JN JO w os,ea,T2):=λw=>conv (aoe w os)
 have hp6:∀w q,segRun treeTable pw w 11 pv 1 100000 (Sx Bc wb w os) (piecesOf (EE 21 50) mG ea q [topFrame default])=some (.next,Sx JL JM w os,ea,TY):=λw q=>conv (aod w os q)
 have hp4:∀w,segRun treeTable pw w 11 pv 1 100000 (Sx JJ JK w os) (piecesOf (EE 19 20) mG ea TV [topFrame default])=some (.next,Sx lH jc w os,ea,TX):=λw=>conv (aoc w os)
 have hp3:∀w,segRun treeTable pw w 11 pv 1 100000 (Sx JH JI w os) (piecesOf (EE 18 19) mG ea TU [topFrame default])=some (.next,Sx JJ JK w os,ea,TV):=OT λb w=>conv (aob b w os)
 have hp2:∀w,segRun treeTable pw w 11 pv 1 100000 (Sx JF JG w os) (piecesOf (EE 0 18) mG ea TR [topFrame default])=some (.next,Sx JH JI w os,ea,TU):=λw=>conv (aoa w os)
 obtain⟨n,q',ln,e5⟩:=aav w os TX;have k8:=next (by omega) (hp9 w) e9
 have k7:=next (by omega) (hp8 w) k8
 have k6:=next (by omega) (hp7 w) k7
 have k5:Rn _ w (Sx Bc wb w os) 21 q' (Sx g7 lJ w os):=next (by omega) (hp6 w q') k6
 have k4:Rn ((3400*650+200)+(100000+(100000+(100000+(100000+3))))) w (Sx lH jc w os) 20 TX (Sx g7 lJ w os):=by
  have:=piece_cons e5 k5;have m:=topRun_mono (3400*650+200 - n) _ _ _ _ this;unfold Rn;rw[EF 20 21 (by omega),aat];rw[show n+(100000+(100000+(100000+(100000+3))))+(3400*650+200 - n)=(3400*650+200)+(100000+(100000+(100000+(100000+3))))by omega]at m;exact m
 have k3:=next (by omega) (hp4 w) k4
 have k2:=next (by omega) (hp3 w) k3
 have k1:=next (by omega) (hp2 w) k2
 have hb:segRun treeTable pw w 11 pv 1 1000 (Sx OE OG w os) (blockOf (behindTheImports pw) mG ea Zw [topFrame default])=some (.next,Sx JF JG w os,ea,TR):=conv (aas w os)
 exact go_top (ahl (an9 w os)) (piece_block hb k1)
end Internal
namespace Internal.Q
def aaw:(v:Value)->Option {a:Addr // v=.ref a}
 |.ref a=>some ⟨a,rfl⟩
 |_=>none
def aoh:(v:Value)->Option {x:Str×Tok // v=.str x.1 x.2}
 |.str f t=>some ⟨(f,t),rfl⟩
 |_=>none
def ahn:(v:Value)->Option {x:Int×Tok // v=.int x.1 x.2}
 |.int f t=>some ⟨(f,t),rfl⟩
 |_=>none
def aho:(v:Value)->Option {x:Bool // v=.bool x}
 |.bool b=>some ⟨b,rfl⟩
 |_=>none
def aoi:(v:Value)->Option {x:String // v=.type x}
 |.type n=>some ⟨n,rfl⟩
 |_=>none
def aoj:(v:Value)->Option {_x:Unit // v=.none}
 |.none=>some ⟨(),rfl⟩
 |_=>none
def aok:(d:Data)->Option {x:jI // d=.func x}
 |.func f=>some ⟨f,rfl⟩
 |_=>none
def aax:(d:Data)->Option {x:Array Value // d=.fields x}
 |.fields f=>some ⟨f,rfl⟩
 |_=>none
def codeOf(h:Heap)(n:Str):Option (Addr×Addr):=(h.nsMap mainGlobals n).bind λv=>(aaw v).bind λa=>(h.get? a.1).bind λo=>(aok o.data).bind λfd=>(aaw fd.1.code).bind λc=>
 (h.get? c.1).bind λoc=>(aax oc.data).bind λvs=>(aaw (kB vs.1.toList 11 jb)).map λP=>(c.1,P.1)
def hdB(h:Heap)(c:Addr):Bool:=((h.get? c).bind λoc=>(aax oc.data).bind λvs=>(aoi oc.cls).map λn=>
 n.1==("code":String)&&((aoh (kB vs.1.toList 18 jb)).isSome&&((ahn (kB vs.1.toList 7 jb)).isSome&&((aho (kB vs.1.toList 9 jb)).isSome&&(ahn (kB vs.1.toList 10 jb)).isSome)))).getD false
def HB(h:Heap)(P:Addr):Bool:=((h.get? P).bind λo=>(aax o.data).bind λps=>(aoj o.cls).map λ_=>ps.1.toList.isEmpty&&(o.dict.isNone&&o.slots.toList.isEmpty)).getD false
def T9(h:Heap)(n:Str):Bool:=((codeOf h n).map λx=> !(bO x.1 x.2)&&(hdB h x.1&&HB h x.2)).getD false
def EG(h:Heap):Bool:=T9 h "_int2digits"&&(T9 h "_digits2int"&&((codeOf h "_int2digits").bind λx=>(codeOf h "_digits2int").map λy=> !(bO x.2 y.2)).getD false)
theorem ahp(P:WS):EG (g7 P)=true:=by rfl'
end Internal.Q
namespace Internal
section
set_option genInjectivity true in
set_option genSizeOf true in
inductive D where
 |JR|none|bool (b:Bool)|int (i:Int)|aN (x:UInt64)|str (s:Str)
 |tup (l:List D)|lst (l:List D)|nZ (a b c:Int)
abbrev Kept(F:Addr->Prop)(h h':Heap):Prop:=∀b o,¬F b->h.get? b=some o->h'.get? b=some o
abbrev bT(h h':Heap):Prop:=∀b o,h.get? b=some o->h'.get? b=some o
section
variable{h h':Heap}{a:Addr}{F:Addr->Prop}
theorem nG{o:Obj}{P:Prop}(e:h.get? a=none)(q:h.get? a=some o):P:=nomatch e.symm.trans q
theorem nS{P:Prop}(e:h.get? a=none)(q:(h.get? a).isSome=true):P:=nomatch (congrArg pP e).symm.trans q
theorem sS(e:h.get? a=some o):(h.get? a).isSome=true:=congrArg pP e
theorem JS(k:bT h h')(e:h'.get? a=none):h.get? a=none:=by
 cases q:h.get? a with
 |none=>rfl
 |some o=>exact nG e (k a o q)
theorem kdS(k:Kept F h h')(n:¬F a)(e:(h.get? a).isSome=true):(h'.get? a).isSome=true:=
 by obtain⟨o,q⟩:=ay.mp e;exact sS (k a o n q)
theorem kpS(k:bT h h')(e:(h.get? a).isSome=true):(h'.get? a).isSome=true:=
 by obtain⟨o,q⟩:=ay.mp e;exact sS (k a o q)
end
mutual
def bU (h:Heap) (F:Addr->Prop):D->Value->Prop
 |.JR,_=>False
 |.none,v=>v=.none
 |.bool b,v=>v=.bool b
 |.int i,v=>∃t,v=.int i t
 |.aN x,v=>∃t,v=.float x t/\t≠0
 |.str s,v=>∃t,v=.str s t
 |.tup ds,v=>∃a vs n,v=.ref a/\¬F a/\IsT h a vs.toArray n/\aZ h F ds vs
 |.lst ds,v=>∃a vs n,v=.ref a/\¬F a/\IsL h a vs.toArray n/\aZ h F ds vs
 |.nZ a b c,v=>∃r t u w,v=.ref r/\¬F r/\Jo h r a b c t u w
def aZ (h:Heap) (F:Addr->Prop):List D->List Value->Prop
 |[],vs=>vs=[]
 |d::ds,vs=>∃v r,vs=v::r/\bU h F d v/\aZ h F ds r
end
section
variable{h:Heap}{F:Addr->Prop}
theorem bU.int(x:bU h F (.int i) v):∃t,v=.int i t:=x
theorem bU.aN(x:bU h F (.aN i) v):∃t,v=.float i t/\t≠0:=x
theorem bU.str(x:bU h F (.str i) v):∃t,v=.str i t:=x
theorem fx:bU h F (.int i) (.int i t):=(⟨t,rfl⟩:∃u,Dr i t=.int i u)
theorem xq:bU h F (.str i) (.str i t):=(⟨t,rfl⟩:∃u,Value.str i t=.str i u)
theorem Cj(ht:t≠0):bU h F (.aN i) (.float i t):=(⟨t,rfl,ht⟩:∃u,Value.float i t=.float i u/\u≠0)
theorem kx:bU h F (.bool i) (.bool i):=(rfl:adO i=.bool i)
theorem EH:bU h F .none .none:=(rfl:jb=.none)
inductive RL(h:Heap)(F:Addr->Prop)(ds:List D)(v:Value):Prop
 |mk (a:Addr) (vs:List Value) (n:Nat) (e:v=.ref a) (nf:¬F a) (l:IsL h a vs.toArray n) (r:aZ h F ds vs)
inductive RT(h:Heap)(F:Addr->Prop)(ds:List D)(v:Value):Prop
 |mk (a:Addr) (vs:List Value) (n:Nat) (e:v=.ref a) (nf:¬F a) (l:IsT h a vs.toArray n) (r:aZ h F ds vs)
inductive RR(h:Heap)(F:Addr->Prop)(a b c:Int)(v:Value):Prop
 |mk (r:Addr) (t u w:Tok) (e:v=.ref r) (nf:¬F r) (g:Jo h r a b c t u w)
theorem bU.lst(x:bU h F (.lst ds) v):RL h F ds v:=by obtain⟨a,b,c,d,e,f,g⟩:=(x:∃a vs n,v=.ref a/\¬F a/\IsL h a vs.toArray n/\aZ h F ds vs);exact⟨a,b,c,d,e,f,g⟩
theorem bU.tup(x:bU h F (.tup ds) v):RT h F ds v:=by obtain⟨a,b,c,d,e,f,g⟩:=(x:∃a vs n,v=.ref a/\¬F a/\IsT h a vs.toArray n/\aZ h F ds vs);exact⟨a,b,c,d,e,f,g⟩
theorem bU.nZ(x:bU h F (.nZ a b c) v):RR h F a b c v:=by obtain⟨a,b,c,d,e,f,g⟩:=(x:∃r t u w,v=.ref r/\¬F r/\Jo h r a b c t u w);exact⟨a,b,c,d,e,f,g⟩
theorem g8(nf:¬F a)(l:IsL h a vs.toArray n)(r:aZ h F ds vs):bU h F (.lst ds) (.ref a):=(⟨a,vs,n,rfl,nf,l,r⟩:∃b vs n,f7 a=.ref b/\¬F b/\IsL h b vs.toArray n/\aZ h F ds vs)
theorem Ck(nf:¬F a)(l:IsT h a vs.toArray n)(r:aZ h F ds vs):bU h F (.tup ds) (.ref a):=(⟨a,vs,n,rfl,nf,l,r⟩:∃b vs n,f7 a=.ref b/\¬F b/\IsT h b vs.toArray n/\aZ h F ds vs)
theorem xr(nf:¬F r)(g:Jo h r a b c t u w):bU h F (.nZ a b c) (.ref r):=(⟨r,t,u,w,rfl,nf,g⟩:∃q t u w,f7 r=.ref q/\¬F q/\Jo h q a b c t u w)
theorem bU.bool(x:bU h F (.bool b) v):v=.bool b:=x
theorem bU.none(x:bU h F .none v):v=.none:=x
theorem aZ.nil:aZ h F [] []:=(rfl:([]:List Value)=[])
theorem aZ.m7(x:aZ h F [] vs):vs=[]:=x
theorem aZ.cons{d ds v vs}(a:bU h F d v)(b:aZ h F ds vs):aZ h F (d::ds) (v::vs):=(⟨v,vs,rfl,a,b⟩:∃w r,v::vs=w::r/\bU h F d w/\aZ h F ds r)
theorem aZ.eM(x:aZ h F (d::ds) vs):∃v r,vs=v::r/\bU h F d v/\aZ h F ds r:=x
theorem aZ.one{d v}(a:bU h F d v):aZ h F [d] [v]:=.cons a .nil
end
theorem nFk{h:Heap}{F F':Addr->Prop}{a:Addr}{o:Obj}(hF:∀b,F' b->F b\/h.get? b=none)(na:¬F a)(g:h.get? a=some o):¬F' a:=λq=>(hF a q).elim na λe=>nG e g
theorem bU.gen{F F':Addr->Prop}{P:D->Prop}(pt:∀l,P (.tup l)->∀d,d∈l->P d)(pl:∀l,P (.lst l)->∀d,d∈l->P d)(k:∀d b o,P d->bU h F d (.ref b)->¬F b->h.get? b=some o->¬F' b/\h'.get? b=some o)(d:D):∀(v:Value),P d->bU h F d v->bU h' F' d v:=by
 refine D.rec (motive_1:=λd=>∀v,P d->bU h F d v->bU h' F' d v) (motive_2:=λds=>∀vs,(∀d,d∈ds->P d)->aZ h F ds vs->aZ h' F' ds vs) (λ_ _ x=>x) (λ_ _ x=>x) (λ_ _ _ x=>x) (λ_ _ _ x=>x) (λ_ _ _ x=>x) (λ_ _ _ x=>x)
  (λl ih v p x=>?_) (λl ih v p x=>?_) (λa b c v p x=>?_) (λ_ _ x=>x) (λd ds i1 i2 vs p x=>?_) d
 ·obtain⟨a,vs,n,rfl,na,g,rs⟩:=x.tup
  have q:=k _ a _ p x na g;exact Ck q.1 q.2 (ih vs (pt l p) rs)
 ·obtain⟨a,vs,n,rfl,na,g,rs⟩:=x.lst
  have q:=k _ a _ p x na g;exact g8 q.1 q.2 (ih vs (pl l p) rs)
 ·obtain⟨r,t,u,w,rfl,na,g⟩:=x.nZ
  have q:=k _ r _ p x na g;exact xr q.1 q.2
 ·obtain⟨v,r,rfl,a,b⟩:=x.eM
  exact .cons (i1 v (p d (aA ..)) a) (i2 r (λd q=>p d (aD _ q)) b)
theorem bU.kept(k:Kept F h h')(hF:∀b,F' b->F b\/h.get? b=Option.none)(d:D)(v:Value):bU h F d v->bU h' F' d v:=
 bU.gen (P:=λ_=>True) (λ_ _ _ _=>trivial) (λ_ _ _ _=>trivial) (λ_ b o _ _ nb g=>⟨nFk hF nb g,k b o nb g⟩) d v trivial
theorem aZ.kept(k:Kept F h h')(hF:∀b,F' b->F b\/h.get? b=none)(ds):∀(vs:List Value),aZ h F ds vs->aZ h' F' ds vs:=by
 induction ds with
 |nil=>exactλ_ x=>x
 |cons d ds ih=>
  intro vs x;obtain⟨v,r,rfl,a,b⟩:=x.eM;exact .cons (bU.kept k hF d v a) (ih r b)
section
theorem bU.keeps(k:bT h h')(x:bU h F d v):bU h' F d v:=
 bU.kept (F:=F) (λb o _ e=>k b o e) (λ_ q=>.inl q) d v x
theorem aZ.keeps(k:bT h h')(x:aZ h F d v):aZ h' F d v:=
 aZ.kept (F:=F) (λb o _ e=>k b o e) (λ_ q=>.inl q) d v x
theorem bU.less(hF:∀b,F' b->F b\/h.get? b=Option.none)(x:bU h F d v):bU h F' d v:=
 bU.kept (F:=F) (λ_ _ _ e=>e) hF d v x
theorem aZ.less(hF:∀b,F' b->F b\/h.get? b=none)(x:aZ h F d v):aZ h F' d v:=
 aZ.kept (F:=F) (λ_ _ _ e=>e) hF d v x
theorem aZ.length:∀{vs:List Value},aZ h F ds vs->vs.length=ds.length:=by
 induction ds with
 |nil=>exactλx=>congrArg qp x.m7
 |cons d ds ih=>
  intro vs x;obtain⟨v,r,rfl,a,b⟩:=x.eM;exact congrArg lx (ih b)
theorem aZ.append(x:aZ h F ds vs)(y:aZ h F es ws):aZ h F (ds++es) (vs++ws):=by
 induction ds generalizing vs with
 |nil=>obtain rfl:=x.m7;exact y
 |cons d ds ih=>
  obtain⟨v,r,rfl,a,b⟩:=x.eM;exact .cons a (ih b)
theorem aZ.get:∀{vs:List Value}{i:Nat},aZ h F ds vs->vs[i]? =some v->∃d,ds[i]? =some d/\bU h F d v:=by
 induction ds with
 |nil=>intro vs i x e;obtain rfl:=x.m7;exact nomatch e
 |cons d ds ih=>
  intro vs i x e;obtain⟨w,r,rfl,a,b⟩:=x.eM;cases i with
  |zero=>exact⟨d,rfl,af e▸a⟩
  |succ i=>exact ih b e
theorem aZ.get'{h:Heap}{F:Addr->Prop}{ds:List D}{vs:List Value}{i:Nat}{d:D}(x:aZ h F ds vs)(e:ds[i]? =some d):∃v,vs[i]? =some v/\bU h F d v:=by
 have hl:=x.length;have hi:i<vs.length:=by
  rw[hl];exact(ff.mp e).1
 obtain⟨d',h1,h2⟩:=x.get (bz hi);rw[e]at h1;cases h1;exact⟨_,bz hi,h2⟩
theorem aZ.take:∀{vs:List Value}(n:Nat),aZ h F ds vs->aZ h F (ds.take n) (vs.take n):=by
 induction ds with
 |nil=>intro vs n x;obtain rfl:=x.m7;cases n<;>exact .nil
 |cons d ds ih=>
  intro vs n x;obtain⟨w,r,rfl,a,b⟩:=x.eM;cases n with
  |zero=>exact .nil
  |succ n=>exact .cons a (ih n b)
theorem aZ.drop:∀{vs:List Value}(n:Nat),aZ h F ds vs->aZ h F (ds.drop n) (vs.drop n):=by
 induction ds with
 |nil=>intro vs n x;obtain rfl:=x.m7;cases n<;>exact .nil
 |cons d ds ih=>
  intro vs n x;obtain⟨w,r,rfl,a,b⟩:=x.eM;cases n with
  |zero=>exact .cons a b
  |succ n=>exact ih n b
theorem aZ.reverse:∀{vs:List Value},aZ h F ds vs->aZ h F ds.reverse vs.reverse:=by
 induction ds with
 |nil=>intro vs x;obtain rfl:=x.m7;exact .nil
 |cons d ds ih=>
  intro vs x;obtain⟨w,r,rfl,a,b⟩:=x.eM;rw[iX,iX];exact(ih b).append (.one a)
theorem aZ.set(n)(x:aZ h F ds vs)(y:bU h F d v):aZ h F (ds.set n d) (vs.set n v):=by
 induction ds generalizing vs n with
 |nil=>obtain rfl:=x.m7;exact .nil
 |cons e ds ih=>
  obtain⟨w,r,rfl,a,b⟩:=x.eM;cases n with
  |zero=>exact .cons y b
  |succ n=>exact .cons a (ih n b)
section
variable{h:Heap}{F:Addr->Prop}
def Ua:Option Obj->Nat
 |some o=>match o.cls with
  |.type n=>if n="tuple" then 6 else if n="list" then 7 else 8
  |_=>0
 |none=>0
def aon(h:Heap):Value->Nat
 |.none=>1|.bool _=>2|.int _ _=>3|.float _ _=>4|.str _ _=>5|.ref a=>Ua (h.get? a)|_=>0
theorem bU.tag(x:bU h F d v):aon h v=d.ctorIdx:=by
 cases d with
 |JR=>exact(x:False).elim
 |none=>exact x.none▸rfl
 |bool b=>exact x.bool▸rfl
 |int i=>obtain⟨_,e⟩:=x.int;exact e▸rfl
 |aN i=>obtain⟨_,e,_⟩:=x.aN;exact e▸rfl
 |str i=>obtain⟨_,e⟩:=x.str;exact e▸rfl
 |tup l=>obtain⟨a,_,_,e,_,g,_⟩:=x.tup;exact e▸(congrArg Ua (show h.get? a=_ from g)).trans rfl
 |lst l=>obtain⟨a,_,_,e,_,g,_⟩:=x.lst;exact e▸(congrArg Ua (show h.get? a=_ from g)).trans rfl
 |nZ _ _ _=>obtain⟨a,_,_,_,e,_,g⟩:=x.nZ;exact e▸(congrArg Ua (show h.get? a=_ from g)).trans rfl
end
theorem JT{h:Heap}{a b:Addr}{c c':Value}{vs jO:List Value}{n n':Nat}(e:f7 a=.ref b)(g:h.get? a=some {cls:=c,dict:=none,data:=.seq vs.toArray n,slots:= #[]})(g':h.get? b=some {cls:=c',dict:=none,data:=.seq jO.toArray n',slots:= #[]}):vs=jO:=
 congrArg Array.toList (Data.seq.inj (congrArg Obj.data (af (g.symm.trans ((congrArg h.get? (lb e)).trans g'))))).1
section
variable{d:D}
theorem ahq(e:d.ctorIdx=1):d=.none:=D.none.elim (motive_1:=λd=>d=.none) d e rfl
theorem aoo(e:d.ctorIdx=2):∃b,d=.bool b:=D.bool.elim (motive_1:=λd=>∃b,d=.bool b) d e λb=>⟨b,rfl⟩
theorem aop(e:d.ctorIdx=3):∃b,d=.int b:=D.int.elim (motive_1:=λd=>∃b,d=.int b) d e λb=>⟨b,rfl⟩
theorem aoq(e:d.ctorIdx=4):∃b,d=.aN b:=D.aN.elim (motive_1:=λd=>∃b,d=.aN b) d e λb=>⟨b,rfl⟩
theorem aor(e:d.ctorIdx=5):∃b,d=.str b:=D.str.elim (motive_1:=λd=>∃b,d=.str b) d e λb=>⟨b,rfl⟩
theorem aos(e:d.ctorIdx=6):∃b,d=.tup b:=D.tup.elim (motive_1:=λd=>∃b,d=.tup b) d e λb=>⟨b,rfl⟩
theorem ahr(e:d.ctorIdx=7):∃b,d=.lst b:=D.lst.elim (motive_1:=λd=>∃b,d=.lst b) d e λb=>⟨b,rfl⟩
theorem aot(e:d.ctorIdx=8):∃a b c,d=.nZ a b c:=D.nZ.elim (motive_1:=λd=>∃a b c,d=.nZ a b c) d e λa b c=>⟨a,b,c,rfl⟩
end
def qB(d:D):Option {x:Bool // d=.bool x}:=if h:d.ctorIdx=2 then D.bool.elim (motive_1:=λd=>Option {x:Bool // d=.bool x}) d h λx=>some ⟨x,rfl⟩else none
def qI(d:D):Option {x:Int // d=.int x}:=if h:d.ctorIdx=3 then D.int.elim (motive_1:=λd=>Option {x:Int // d=.int x}) d h λx=>some ⟨x,rfl⟩else none
def qF(d:D):Option {x:UInt64 // d=.aN x}:=if h:d.ctorIdx=4 then D.aN.elim (motive_1:=λd=>Option {x:UInt64 // d=.aN x}) d h λx=>some ⟨x,rfl⟩else none
def qS(d:D):Option {x:Str // d=.str x}:=if h:d.ctorIdx=5 then D.str.elim (motive_1:=λd=>Option {x:Str // d=.str x}) d h λx=>some ⟨x,rfl⟩else none
def qT(d:D):Option {x:List D // d=.tup x}:=if h:d.ctorIdx=6 then D.tup.elim (motive_1:=λd=>Option {x:List D // d=.tup x}) d h λx=>some ⟨x,rfl⟩else none
def qR(d:D):Option {x:Int×Int×Int // d=.nZ x.1 x.2.1 x.2.2}:=if h:d.ctorIdx=8 then D.nZ.elim (motive_1:=λd=>Option {x:Int×Int×Int // d=.nZ x.1 x.2.1 x.2.2}) d h λa b c=>some ⟨(a,b,c),rfl⟩else none
def qL(d:D):Option {x:List D // d=.lst x}:=if h:d.ctorIdx=7 then D.lst.elim (motive_1:=λd=>Option {x:List D // d=.lst x}) d h λx=>some ⟨x,rfl⟩else none
section
variable{h:Heap}{F:Addr->Prop}{d:D}{v:Value}
theorem bU.b(r:bU h F d v)(x:{x:Bool // d=.bool x}):v=.bool x.1:=(x.2▸r:bU h F (.bool x.1) v)
theorem bU.i(r:bU h F d v)(x:{x:Int // d=.int x}):∃t,v=.int x.1 t:=(x.2▸r:bU h F (.int x.1) v)
theorem bU.f(r:bU h F d v)(x:{x:UInt64 // d=.aN x}):∃t,v=.float x.1 t/\t≠0:=(x.2▸r:bU h F (.aN x.1) v)
theorem bU.s(r:bU h F d v)(x:{x:Str // d=.str x}):∃t,v=.str x.1 t:=(x.2▸r:bU h F (.str x.1) v)
theorem bU.t(r:bU h F d v)(x:{x:List D // d=.tup x}):RT h F x.1 v:=(x.2▸r:bU h F (.tup x.1) v).tup
theorem bU.r(r:bU h F d v)(x:{x:Int×Int×Int // d=.nZ x.1 x.2.1 x.2.2}):RR h F x.1.1 x.1.2.1 x.1.2.2 v:=(x.2▸r:bU h F (.nZ x.1.1 x.1.2.1 x.1.2.2) v).nZ
theorem bU.l(r:bU h F d v)(x:{x:List D // d=.lst x}):RL h F x.1 v:=(x.2▸r:bU h F (.lst x.1) v).lst
end
theorem Ub{t u w t' u' w'}(e:f7 a=.ref b)(g:Jo h a p q r t u w)(g':Jo h b p' q' r' t' u' w'):D.nZ p q r=.nZ p' q' r':=by
 have x:=congrArg Array.toList (zW (congrArg Obj.data (af (g.symm.trans ((congrArg h.get? (lb e)).trans g')))));have y:=(ey x).2;rw[(oX (ey x).1).1,(oX (ey y).1).1,(oX (ey (ey y).2).1).1]
theorem bU.inj{h:Heap}{F:Addr->Prop}{d d':D}{v:Value}(x:bU h F d v)(y:bU h F d' v):d=d':=by
 revert v d';refine D.rec (motive_1:=λd=>∀{d' v},bU h F d v->bU h F d' v->d=d') (motive_2:=λds=>∀{w7 vs},aZ h F ds vs->aZ h F w7 vs->ds=w7) (λ{d' v} x _=>(x:False).elim) (λ{d' v} x y=>(ahq (y.tag.symm.trans x.tag)).symm) (λb d' v x y=>?_) (λb d' v x y=>?_) (λb d' v x y=>?_) (λb d' v x y=>?_)
  (λl ih d' v x y=>?_) (λl ih d' v x y=>?_) (λa b c d' v x y=>?_) (λ{w7 vs} x y=>?_) (λe es i1 i2 w7 vs x y=>?_) d
 ·obtain⟨_,rfl⟩:=aoo (y.tag.symm.trans x.tag);exact congrArg D.bool (YU (x.bool.symm.trans y.bool))
 ·obtain⟨_,rfl⟩:=aop (y.tag.symm.trans x.tag);obtain⟨_,e⟩:=x.int;obtain⟨_,e'⟩:=y.int;exact congrArg D.int (oX (e.symm.trans e')).1
 ·obtain⟨_,rfl⟩:=aoq (y.tag.symm.trans x.tag);obtain⟨_,e,_⟩:=x.aN;obtain⟨_,e',_⟩:=y.aN;exact congrArg D.aN (Value.float.inj (e.symm.trans e')).1
 ·obtain⟨_,rfl⟩:=aor (y.tag.symm.trans x.tag);obtain⟨_,e⟩:=x.str;obtain⟨_,e'⟩:=y.str;exact congrArg D.str (aeJ (e.symm.trans e')).1
 ·obtain⟨_,rfl⟩:=aos (y.tag.symm.trans x.tag)
  obtain⟨a,vs,n,e,_,i,r⟩:=x.tup;obtain⟨a',jO,n',e',_,i',r'⟩:=y.tup;exact congrArg D.tup (ih r (JT (e.symm.trans e') i i'▸r'))
 ·obtain⟨_,rfl⟩:=ahr (y.tag.symm.trans x.tag)
  obtain⟨a,vs,n,e,_,i,r⟩:=x.lst;obtain⟨a',jO,n',e',_,i',r'⟩:=y.lst;exact congrArg D.lst (ih r (JT (e.symm.trans e') i i'▸r'))
 ·obtain⟨_,_,_,rfl⟩:=aot (y.tag.symm.trans x.tag)
  obtain⟨r,t,u,w,e,_,i⟩:=x.nZ;obtain⟨r',t',u',w',e',_,i'⟩:=y.nZ;exact Ub (e.symm.trans e') i i'
 ·cases w7 with
  |nil=>rfl
  |cons d ds=>obtain⟨_,_,q,_⟩:=y.eM;exact nomatch x.m7.symm.trans q
 ·cases w7 with
  |nil=>obtain⟨_,_,q,_⟩:=x.eM;exact nomatch y.m7.symm.trans q
  |cons d' w7=>
   obtain⟨v,r,e,a,b⟩:=x.eM;obtain⟨v',r',q,a',b'⟩:=y.eM;obtain⟨rfl,rfl⟩:=ey (e.symm.trans q);rw[i1 a a',i2 b b']
def gU(F:Addr->Prop)(s:ah)(d:D)(v:Value)(s':ah):Prop:=Keeps s s'/\bU s'.heap F d v
theorem gp(h:∀Q':α->ah->Prop,(∀a s',Q a s'->Q' a s')->wpAny M A t Q' E s):wpAny M A t Q E s:=h Q λ_ _ q=>q
theorem Keeps.rfl':Keeps s s:=⟨s.heap,s.toks,rfl,λ_ _ e=>e⟩
theorem Keeps.Uc(n):Keeps s {s with toks:=n}:=⟨s.heap,n,rfl,λ_ _ e=>e⟩
theorem Keeps.trans'(k:Keeps s s')(k':Keeps s' Lw):Keeps s Lw:=
 by obtain⟨_,_,e,k⟩:=k;obtain⟨h',t',e',k'⟩:=k';exact⟨h',t',e'.trans (e▸rfl),λb o q=>k' b o (e▸k b o q)⟩
theorem Keeps.all(k:Keeps s s'):bT s.heap s'.heap:=by
 obtain⟨h,t,rfl,k⟩:=k;exact k
theorem Keeps.push(o):Keeps s {s with heap:=s.heap.push o}:=⟨_,s.toks,rfl,λ_ _ e=>aV _ e⟩
theorem Keeps.EI(o)(n):Keeps s {s with heap:=s.heap.push o,toks:=n}:=⟨_,n,rfl,λ_ _ e=>aV _ e⟩
abbrev iQ(F:Addr->Prop)(h:Heap):Prop:=∀b,F b->(h.get? b).isSome=true
theorem mh(lo:iQ F h):¬F h.objs.size:=λq=>by
 have e:=lo _ q;cases g:h.get? h.objs.size with
 |none=>rw[g]at e;cases e
 |some o=>exact dN _ (cT g)
theorem m8(lo:iQ F h)(x:aZ h F ds vs):
 bU (h.push {cls:=.type "list",data:=.seq vs.toArray}) F (.lst ds) (.ref h.objs.size):=by
 exact g8 (mh lo) (IsL.new h vs.toArray) (x.keeps λ_ _ e=>aV _ e)
theorem EJ(lo:iQ F h)(x:aZ h F ds vs):
 bU (h.push {cls:=.type "tuple",data:=.seq vs.toArray}) F (.tup ds) (.ref h.objs.size):=by
 exact Ck (mh lo) (IsT.new h vs.toArray) (x.keeps λ_ _ e=>aV _ e)
theorem iQ.keeps(lo:iQ F h)(k:bT h h'):iQ F h':=λb q=>by
 obtain⟨o,e⟩:=ay.mp (lo b q);rw[k b o e];rfl
end
end
section
@[irreducible] def sm(i:Int):Bool:=decide (i.natAbs<2^1000)
theorem OU(h1: -(10^100)<=i)(h2:i<=10^100):sm i=true:=by
 have h:i.natAbs<=10^100:=by omega
 have h':(10:Nat)^100<2^1000:=by decide
 unfold sm;exact decide_eq_true (bj h h')
theorem EK(h:sm i=true):i.natAbs<2^1000:=by unfold sm at h;exact of_decide_eq_true h
theorem ahs:(2:Nat)^1000<2^1023:=jg (by decide) (by decide)
theorem Ud(h:sm i=true):i.natAbs<2^1023:=ck (EK h) (cx ahs)
theorem xt(h:i.natAbs<2^n):cg i<=n:=by
 unfold cg;split
 ·exact de _
 ·rename_i hz
  have hz:i≠0:=by simpa using hz
  have:=(adP (by omega:i.natAbs≠0)).mpr h;omega
theorem mulOk_of(ha:sm a=true)(hb:sm b=true):IntMulOk a b:=by
 have h1:=xt (EK ha);have h2:=xt (EK hb);unfold IntMulOk;have h3:¬((cg a:Int)+cg b>((2^27:Nat):Int)):=by omega
 have h4:Builtin.Int.intTooBig ((cg a:Int)+cg b)=false:=decide_eq_false h3;rw[h4,Bool.and_false];exact aF
theorem aay(hb:sm b=true):Builtin.divisionGoesByPylong a b=false:=by
 refine PyProof.noPylong_of_log2 ?_;by_cases hz:b.natAbs=0
 ·rw[hz];decide
 ·have:=(adP hz).mpr (EK hb)
  omega
def ei:Nat:=1048576
theorem ic:ei<=sizeLine:=by decide
def rep(n:Nat)(xs:List α):List α:=match n with
 |0=>[]
 |n+1=>xs++rep n xs
def EL(a b:Int):UInt64:=fv (decide (a<0) != decide (b<0)) a.natAbs b.natAbs
def Dz(f:Int->Int->Option α)(a b:D):Option α:=(qI a).bind λi=>(qI b).bind λj=>f i.1 j.1
def Sk(f:UInt64->UInt64->Option α)(a b:D):Option α:=(qF a).bind λi=>(qF b).bind λj=>f i.1 j.1
def OV(f:UInt64->Int->Option α)(a b:D):Option α:=(qF a).bind λi=>(qI b).bind λj=>f i.1 j.1
def aaz{α:Type}(f:Int->UInt64->Option α)(a b:D):Option α:=(qI a).bind λi=>(qF b).bind λj=>f i.1 j.1
def arB{α:Type}(f:Bool->Bool->Option α)(a b:D):Option α:=(qB a).bind λi=>(qB b).bind λj=>f i.1 j.1
def arS(f:Str->Str->Option α)(a b:D):Option α:=(qS a).bind λi=>(qS b).bind λj=>f i.1 j.1
def arL(f:List D->List D->Option α)(a b:D):Option α:=(qL a).bind λi=>(qL b).bind λj=>f i.1 j.1
def arT(f:List D->List D->Option α)(a b:D):Option α:=(qT a).bind λi=>(qT b).bind λj=>f i.1 j.1
def aow(x y:Str):Option D:=if x.length+y.length<=ei then some (.str (x++y))else none
def XF(i:Int)(y:UInt64):Option D:=if sm i then some (.aN (iY (eE i) y))else none
def aht(a b:D):Option D:=(Dz (λi j=>some (.int (i+j))) a b).or ((Sk (λx y=>some (.aN (iY x y))) a b).or ((aaz XF a b).or ((arS aow a b).or
 ((arL (λx y=>if x.length+y.length<=ei then some (.lst (x++y))else none) a b).or (arT (λl k=>match l with
    |[]=>none
    |a::as=>match k with
     |[]=>none
     |b::bs=>if(a::as).length+(b::bs).length<=ei then some (.tup ((a::as)++(b::bs)))else none) a b)))))
def XG(a b:D):Option D:=(Dz (λi j=>some (.int (i - j))) a b).or ((Sk (λx y=>some (.aN (lU x y))) a b).or (OV (λx j=>if sm j then some (.aN (lU x (eE j)))else none) a b))
def OW(l:List D)(n:Int):Option D:=match l with
 |[]=>none
 |a::as=>if 0<=n/\n<=65536/\(a::as).length*n.toNat<=ei then some (.lst (rep n.toNat (a::as)))else none
def ahu(a b:D):Option D:=(Dz (λi j=>if sm i&&sm j then some (.int (i*j))else none) a b).or (((qI a).bind λi=>(qF b).bind λy=>if sm i.1 then some (.aN (hO (eE i.1) y.1))else none).or ((Sk (λx y=>some (.aN (hO x y))) a b).or
 ((OV (λx j=>if sm j then some (.aN (hO x (eE j)))else none) a b).or ((qL a).bind λl=>(qI b).bind λn=>OW l.1 n.1))))
def ahv(a b:D):Option D:=(Dz (λa b=>if b≠0/\lD (EL a b)=false then some (.aN (EL a b))else none) a b).or (Sk (λa b=>if gQ b then none else some (.aN (jS a b))) a b)
def ahw(a b:D):Option D:=(Dz (λa b=>if b≠0 then some (.int (a.fmod b))else none) a b).or (Sk (λa b=>if gQ b then none else some (.aN (tB a b).snd)) a b)
def ahx(a b:Int):Option D:=if b≠0/\sm b=true then some (.int (a.fdiv b))else none
def ahy(a n:Int):Option D:=if a.natAbs<18446744073709551616/\0<=n/\n<=100000 then some (.int (a^n.toNat))else none
def ahz(a n:Int):Option D:=if sm a=true/\0<=n/\n<=100000 then some (.int (a*2^n.toNat))else none
def ahA(a n:Int):Option D:=if 0<=n then some (.int (a.fdiv (2^n.toNat)))else none
def ahB(a b:Int):Option D:=some (.int (nP a b))
def NV(a b:Int):Option D:=some (.int (iZ a b))
def aE:qU->D->D->Option D
 |.Add,a,b=>aht a b
 |.Sub,a,b=>XG a b
 |.Mult,a,b=>ahu a b
 |.Div,a,b=>ahv a b
 |.FloorDiv,a,b=>Dz ahx a b
 |.Mod,a,b=>ahw a b
 |.Pow,a,b=>Dz ahy a b
 |.LShift,a,b=>Dz ahz a b
 |.RShift,a,b=>Dz ahA a b
 |.BitXor,a,b=>Dz ahB a b
 |.BitAnd,a,b=>Dz NV a b
 |_,_,_=>none
theorem DA{P:Prop}(e:false=true):P:=nomatch e
theorem Ue{α:Type}{c:Bool}{x d:α}(e:(bif c then some x else none)=some d):c=true/\x=d:=by
 cases c with
 |true=>exact⟨rfl,af e⟩
 |false=>exact no e
theorem bx{α:Type}{c:Prop}[i:Decidable c]{x d:α}(e:(if c then some x else none)=some d):c/\x=d:=by
 cases i with
 |isTrue h=>exact⟨h,af e⟩
 |isFalse h=>exact no e
theorem dy{α:Type}{c:Prop}[i:Decidable c]{x:Option α}{d:α}(e:(if c then x else none)=some d):c/\x=some d:=by
 cases i with
 |isTrue h=>exact⟨h,e⟩
 |isFalse h=>exact no e
theorem xu{α:Type}{c:Prop}[i:Decidable c]{x d:α}(e:(if c then none else some x)=some d):¬c/\x=d:=by
 cases i with
 |isTrue h=>exact no e
 |isFalse h=>exact⟨h,af e⟩
section
variable{prog:bb}{w:World}{A:aC}{E:Value->ah->Prop}{s:ah}{F:Addr->Prop}
theorem lh:gU F s (.int i) (.int i t) {s with toks:=n}:=⟨Keeps.Uc _,fx⟩
theorem w9(ht:1<=t):gU F s (.aN i) (.float i t) {s with toks:=n}:=⟨Keeps.Uc _,Cj (Nat.pos_iff_ne_zero.mp ht)⟩
theorem EM:gU F s (.str i) (.str i t) {s with toks:=n}:=⟨Keeps.Uc _,xq⟩
theorem XH:gU F s (.bool i) (.bool i) {s with toks:=n}:=⟨Keeps.Uc _,kx⟩
theorem aaA(lo:iQ F s.heap)(x:aZ s.heap F ds vs):
 gU F s (.lst ds) (.ref s.heap.objs.size) {s with heap:=s.heap.push {cls:=.type "list",data:=.seq vs.toArray}}:=⟨Keeps.push _,m8 lo x⟩
theorem aox(lo:iQ F s.heap)(x:aZ s.heap F ds vs):
 gU F s (.tup ds) (.ref s.heap.objs.size) {s with heap:=s.heap.push {cls:=.type "tuple",data:=.seq vs.toArray}}:=⟨Keeps.push _,EJ lo x⟩
theorem aZ.rep(x:aZ h F ds vs)(n):aZ h F (Internal.rep n ds) (Internal.rep n vs):=by
 induction n with
 |zero=>exact .nil
 |succ n ih=>exact x.append ih
theorem foldl_rep(xs:Array α):∀(n:Nat)(acc:Array α),List.foldl (λx1 x2=>x1++x2) acc (bh n xs)=acc++(Internal.rep n xs.toList).toArray:=by
 intro zx
 induction zx with
 |zero=>
  rintro acc;simp[Internal.rep]
 |succ n ih=>
  rintro acc;rw[adQ,ki,ih];apply Array.ext';simp[Internal.rep]
theorem ahC
(hl:IsL s.heap l items k)(hlo: -(2^63:Int)<=x)(hhi:x<2^63)(hsz:items.size*x.toNat<=2^24)
(h:Q (.ref s.heap.objs.size) {s with heap:=s.heap.push {cls:=.type "list",data:=.seq (List.foldl (λx1 x2=>x1++x2) #[] (bh (if items.isEmpty=true then 0 else x.toNat) items))}}):
 wpAny (model prog w) A (binaryOp .Mult (.ref l) (.int x u)) Q E s:=
 wpAny_binaryOp_repeat_ref (T:="list") (U:="int") (by decide) ⟨_,hl,rfl⟩ (λs'=>typeIs_int s' x u) noFill_list_mul F.fills_int_mul F.slot_int_rmul repeat_list F.slot_int_index.lookup
  (GS F.slot_int_rmul (typeIs_int s x u) F.entry_int_rmul (F.args_int_rmul_2 _ _) (int___rmul___int_list x u l items k)
    ⟨hl,rfl,⟨_,hl,rfl⟩,GS F.slot_list_mul ⟨_,hl,rfl⟩ F.entry_list_mul (F.args_list_mul_2 _ _)
      (AutoListH.list___mul___list_int_3 l items k x u (by simp[Builtin.List.listFitsIndex];omega) (by omega) (by simp[B0,sizeLine];omega))
      ⟨hl,h⟩⟩)
theorem G4{α:Type}{P:Value->Value->Prop}{f:Int->Int->Option α}{d:α}(k:∀i j t u,f i j=some d->P (.int i t) (.int j u))(ra:bU s.heap F a va)(rb:bU s.heap F b vb)(e:Dz f a b=some d):P va vb:=by
 obtain⟨i,_,e⟩:=aO e;obtain⟨j,_,e⟩:=aO e;obtain⟨t,h1⟩:=ra.i i;obtain⟨u,h2⟩:=rb.i j;exact h1▸h2▸k _ _ _ _ e
theorem Sl{α:Type}{P:Value->Value->Prop}{f:UInt64->UInt64->Option α}{d:α}(k:∀i j t u,t≠0->u≠0->f i j=some d->P (.float i t) (.float j u))(ra:bU s.heap F a va)(rb:bU s.heap F b vb)(e:Sk f a b=some d):P va vb:=by
 obtain⟨i,_,e⟩:=aO e;obtain⟨j,_,e⟩:=aO e;obtain⟨t,h1,q⟩:=ra.f i;obtain⟨u,h2,q2⟩:=rb.f j;exact h1▸h2▸k _ _ _ _ q q2 e
theorem fiE{α:Type}{P:Value->Value->Prop}{f:UInt64->Int->Option α}{d:α}(k:∀i j t u,f i j=some d->P (.float i t) (.int j u))(ra:bU s.heap F a va)(rb:bU s.heap F b vb)(e:OV f a b=some d):P va vb:=by
 obtain⟨i,_,e⟩:=aO e;obtain⟨j,_,e⟩:=aO e;obtain⟨t,h1,_⟩:=ra.f i;obtain⟨u,h2⟩:=rb.i j;exact h1▸h2▸k _ _ _ _ e
theorem ifE{α:Type}{P:Value->Value->Prop}{f:Int->UInt64->Option α}{d:α}(k:∀i j t u,f i j=some d->P (.int i t) (.float j u))(ra:bU s.heap F a va)(rb:bU s.heap F b vb)(e:aaz f a b=some d):P va vb:=by
 obtain⟨i,_,e⟩:=aO e;obtain⟨j,_,e⟩:=aO e;obtain⟨t,h1⟩:=ra.i i;obtain⟨u,h2,_⟩:=rb.f j;exact h1▸h2▸k _ _ _ _ e
theorem bbE{α:Type}{P:Value->Value->Prop}{f:Bool->Bool->Option α}{d:α}(k:∀i j,f i j=some d->P (.bool i) (.bool j))(ra:bU s.heap F a va)(rb:bU s.heap F b vb)(e:arB f a b=some d):P va vb:=by
 obtain⟨i,_,e⟩:=aO e;obtain⟨j,_,e⟩:=aO e;exact ra.b i▸rb.b j▸k _ _ e
theorem ssE{α:Type}{P:Value->Value->Prop}{f:Str->Str->Option α}{d:α}(k:∀i j t u,f i j=some d->P (.str i t) (.str j u))(ra:bU s.heap F a va)(rb:bU s.heap F b vb)(e:arS f a b=some d):P va vb:=by
 obtain⟨i,_,e⟩:=aO e;obtain⟨j,_,e⟩:=aO e;obtain⟨t,h1⟩:=ra.s i;obtain⟨u,h2⟩:=rb.s j;exact h1▸h2▸k _ _ _ _ e
theorem llE{α:Type}{P:Value->Value->Prop}{f:List D->List D->Option α}{d:α}(k:∀l l' a a' vs jO n n',IsL s.heap a vs.toArray n->IsL s.heap a' jO.toArray n'->aZ s.heap F l vs->aZ s.heap F l' jO->f l l'=some d->P (.ref a) (.ref a'))(ra:bU s.heap F a va)(rb:bU s.heap F b vb)(e:arL f a b=some d):P va vb:=by
 obtain⟨i,_,e⟩:=aO e;obtain⟨j,_,e⟩:=aO e;obtain⟨_,vs,n,h1,_,hl,hr⟩:=ra.l i;obtain⟨_,jO,n',h2,_,pN,qO⟩:=rb.l j;exact h1▸h2▸k _ _ _ _ _ _ _ _ hl pN hr qO e
theorem ttE{α:Type}{P:Value->Value->Prop}{f:List D->List D->Option α}{d:α}(k:∀l l' a a' vs jO n n',IsT s.heap a vs.toArray n->IsT s.heap a' jO.toArray n'->aZ s.heap F l vs->aZ s.heap F l' jO->f l l'=some d->P (.ref a) (.ref a'))(ra:bU s.heap F a va)(rb:bU s.heap F b vb)(e:arT f a b=some d):P va vb:=by
 obtain⟨i,_,e⟩:=aO e;obtain⟨j,_,e⟩:=aO e;obtain⟨_,vs,n,h1,_,hl,hr⟩:=ra.t i;obtain⟨_,jO,n',h2,_,pN,qO⟩:=rb.t j;exact h1▸h2▸k _ _ _ _ _ _ _ _ hl pN hr qO e
def mj(d:D):Bool:=bO d.ctorIdx 7
theorem tW(h:mj d=true):∃l,d=.lst l:=ahr (bE h)
def ky(s:ah)(v:Value):Prop:=∃a,v=.ref a/\s.heap.get? a=none
theorem kl(h:Heap):h.get? h.objs.size=none:=by
 cases e:h.get? h.objs.size with
 |none=>rfl
 |some o=>exact absurd (cT e) (dN _)
theorem Cm(r:aZ h F (a::as) vs):¬vs.toArray.isEmpty=true:=by
 obtain⟨v,r,rfl,_,_⟩:=r.eM;exact aF
theorem XI(hr:aZ h F l vs)(hq:aZ h F k ws)(e:l.length+k.length<=ei):vs.toArray.size+ws.toArray.size<=sizeLine:=by
 rw[aX,aX,hr.length,hq.length];exact aq e ic
abbrev BS(prog:bb)(w:World)(A:aC)(E:Value->ah->Prop)(s:ah)(F:Addr->Prop)(op:qU)(d:D)(va vb:Value):Prop:=wpAny (model prog w) A (binaryOp op va vb) (gU F s d) E s
abbrev BF(prog:bb)(w:World)(A:aC)(E:Value->ah->Prop)(s:ah)(F:Addr->Prop)(d:D)(va vb:Value):Prop:=wpAny (model prog w) A (binaryOp .Add va vb) (λv s'=>gU F s d v s'/\(mj d=true->ky s v)) E s
theorem HC(lo:iQ F s.heap)(hl:IsT s.heap a vs.toArray n)(hk:IsT s.heap a' jO.toArray n')(hr:aZ s.heap F l vs)(hq:aZ s.heap F k jO)(e:(match l with
 |[]=>none
 |a::as=>match k with
  |[]=>none
  |b::bs=>if(a::as).length+(b::bs).length<=ei then some (D.tup ((a::as)++(b::bs)))else none)=some d):BF prog w A E s F d (.ref a) (.ref a'):=by
 cases l with
 |nil=>exact no e
 |cons x l=>
  cases k with
  |nil=>exact no e
  |cons y k=>
   obtain⟨h,rfl⟩:=bx e;refine PySem.P.add_tuple hl hk (Cm hr) (Cm hq) ?_ (XI hr hq h);rw[adR];exact⟨aox lo (hr.append hq),DA⟩
theorem HD(lo:iQ F s.heap)(hl:IsL s.heap a vs.toArray n)(hk:IsL s.heap a' jO.toArray n')(hr:aZ s.heap F l vs)(hq:aZ s.heap F k jO)(h:l.length+k.length<=ei):BF prog w A E s F (.lst (l++k)) (.ref a) (.ref a'):=by
 refine PySem.P.add_list hl hk ?_ (XI hr hq h);rw[adR];exact⟨aaA lo (hr.append hq),λ_=>⟨_,rfl,kl _⟩⟩
theorem Be(ht:1<=s.toks)(lo:iQ F s.heap)(ra:bU s.heap F a va)(rb:bU s.heap F b vb)(e:aht a b=some d):BF prog w A E s F d va vb:=
 jV e (G4 (λ_ _ _ _ e=>af e▸PyProof.Rows.add_int ⟨lh,DA⟩) ra rb) λe=>jV e (Sl (λ_ _ _ _ _ _ e=>af e▸PyProof.Rows.add_float ⟨w9 ht,DA⟩) ra rb)
  λe=>jV e (ifE (f:=XF) (P:=BF prog w A E s F d) (λ_ _ _ _ e=>by exact(bx e).2▸PyProof.Rows.add_if_fits (Ud (bx e).1) ⟨w9 ht,DA⟩) ra rb)
  λe=>jV e (ssE (λ_ _ _ _ e=>(bx e).2▸PyProof.Rows.add_str (λ_ _=>⟨EM,DA⟩) (aq (bx e).1 ic)) ra rb)
  λe=>jV e (llE (λ_ _ _ _ _ _ _ _ hl pN hr qO e=>(bx e).2▸HD lo hl pN hr qO (bx e).1) ra rb) (ttE (λ_ _ _ _ _ _ _ _ hl pN hr qO e=>HC lo hl pN hr qO e) ra rb)
theorem HE(ht:1<=s.toks)(ra:bU s.heap F a va)(rb:bU s.heap F b vb)(e:XG a b=some d):BS prog w A E s F .Sub d va vb:=
 jV e (G4 (λ_ _ _ _ e=>af e▸PyProof.Rows.sub_int lh) ra rb) λe=>jV e (Sl (λ_ _ _ _ _ _ e=>af e▸PyProof.Rows.sub_float (w9 ht)) ra rb)
  (fiE (λ_ _ _ _ e=>(bx e).2▸PyProof.Rows.sub_fi_fits (Ud (bx e).1) (w9 ht)) ra rb)
theorem OX(lo:iQ F s.heap)(hl:IsL s.heap a vs.toArray n)(hr:aZ s.heap F l vs)(e:OW l i=some d):BS prog w A E s F .Mult d (.ref a) (.int i u):=by
 cases l with
 |nil=>exact no e
 |cons x l=>
  obtain⟨h,rfl⟩:=bx e;refine ahC hl (f9 (by decide) h.1) (Int.lt_of_le_of_lt h.2.1 (by decide)) (by rw[aX,hr.length];exact aq h.2.2 (by decide)) ?_;rw[foldl_rep,if_neg (Cm hr),oY];exact aaA lo (hr.rep _)
theorem EN(ht:1<=s.toks)(ra:bU s.heap F a va)(rb:bU s.heap F b vb)(e:((qI a).bind λi=>(qF b).bind λy=>if sm i.1 then some (.aN (hO (eE i.1) y.1))else none)=some d):BS prog w A E s F .Mult d va vb:=by
 obtain⟨i,_,e⟩:=aO e;obtain⟨j,_,e⟩:=aO e;obtain⟨t,h1⟩:=ra.i i;obtain⟨u,h2,_⟩:=rb.f j;exact h1▸h2▸(bx e).2▸PyProof.Rows.mul_if_fits (Ud (bx e).1) (w9 ht)
theorem EO(lo:iQ F s.heap)(ra:bU s.heap F a va)(rb:bU s.heap F b vb)(e:((qL a).bind λl=>(qI b).bind λn=>OW l.1 n.1)=some d):BS prog w A E s F .Mult d va vb:=by
 obtain⟨i,_,e⟩:=aO e;obtain⟨j,_,e⟩:=aO e;obtain⟨_,vs,n,h1,_,hl,hr⟩:=ra.l i;obtain⟨u,h2⟩:=rb.i j;exact h1▸h2▸OX lo hl hr e
theorem Lx(ht:1<=s.toks)(lo:iQ F s.heap)(ra:bU s.heap F a va)(rb:bU s.heap F b vb)(e:ahu a b=some d):BS prog w A E s F .Mult d va vb:=
 jV e (G4 (λ_ _ _ _ e=>(bx e).2▸PyProof.Rows.mul_int lh (mulOk_of (bX.mp (bx e).1).1 (bX.mp (bx e).1).2)) ra rb) λe=>jV e (EN ht ra rb)
  λe=>jV e (Sl (λ_ _ _ _ _ _ e=>af e▸PyProof.Rows.mul_float (w9 ht)) ra rb) λe=>jV e (fiE (λ_ _ _ _ e=>(bx e).2▸PyProof.Rows.mul_fi_fits (Ud (bx e).1) (w9 ht)) ra rb) (EO lo ra rb)
theorem Ly(ht:1<=s.toks)(ra:bU s.heap F a va)(rb:bU s.heap F b vb)(e:ahv a b=some d):BS prog w A E s F .Div d va vb:=
 jV e (G4 (λ_ _ _ _ e=>by
  obtain⟨h,e⟩:=bx e;exact e▸AutoIntOps.truediv_2 (by simpa using h.1) (by have:=h.2;unfold EL at this;simp[this]) (w9 ht)) ra rb) (Sl (λ_ _ _ _ _ _ e=>(xu e).2▸AutoFloatOps.truediv_1 (xu e).1 (w9 ht)) ra rb)
theorem Lz(ht:1<=s.toks)(ra:bU s.heap F a va)(rb:bU s.heap F b vb)(e:ahw a b=some d):BS prog w A E s F .Mod d va vb:=
 jV e (G4 (λ_ _ _ _ e=>(bx e).2▸PyProof.Rows.mod_int (bx e).1 lh) ra rb) (Sl (λ_ _ _ _ _ _ e=>(xu e).2▸AutoFloatOps.mod_1 (xu e).1 (w9 ht)) ra rb)
theorem OY(h:a.natAbs<18446744073709551616/\0<=n/\n<=100000):(cg a:Int)*n<=64*100000:=
 Int.mul_le_mul (gf.mpr (xt (n:=64) h.1)) h.2.2 h.2.1 (by decide)
theorem pU(ht:1<=s.toks)(lo:iQ F s.heap)(ra:bU s.heap F a va)(rb:bU s.heap F b vb)(e:aE op a b=some d):BS prog w A E s F op d va vb:=by
 cases op with
 |Add=>exact ai (Be ht lo ra rb e) (λ_ _ q=>q.1) λ_ _ e=>e
 |Sub=>exact HE ht ra rb e
 |Mult=>exact Lx ht lo ra rb e
 |Div=>exact Ly ht ra rb e
 |Mod=>exact Lz ht ra rb e
 |Pow=>
  refine G4 (f:=ahy) (λi j t u e=>?_) ra rb e;obtain⟨h,e⟩:=bx e;have hb:=OY h;exact e▸PyProof.Rows.pow_int h.2.1 (by omega) lh
 |LShift=>
  refine G4 (f:=ahz) (λi j t u e=>?_) ra rb e;obtain⟨h,e⟩:=bx e;have hb:=xt (EK h.1);exact e▸PyProof.Rows.lshift_int h.2.1 (by omega) lh
 |RShift=>
  refine G4 (f:=ahA) (λi j t u e=>?_) ra rb e;obtain⟨h,e⟩:=bx e;exact e▸PyProof.Rows.rshift_int h lh
 |BitXor=>
  refine G4 (f:=ahB) (λi j t u e=>?_) ra rb e;exact af e▸PyProof.Rows.xor_int lh
 |BitAnd=>
  refine G4 (f:=NV) (λi j t u e=>?_) ra rb e;exact af e▸PyProof.Rows.and_int lh
 |FloorDiv=>
  refine G4 (f:=ahx) (λi j t u e=>?_) ra rb e;obtain⟨h,e⟩:=bx e;exact e▸PyProof.Rows.floordiv_int h.1 lh (.inl (aay h.2))
 |_=>exact no e
def m9(d:D):Option Bool:=((qB d).map λx=>x.1).or (((qI d).map λi=>i.1 != 0).or ((qL d).bind λl=>if l.1.length<=ei then some (!l.1.isEmpty)else none))
def ahF:UnaryOp->D->Option D
 |.USub,d=>(qI d).map λi=>.int (-i.1)
 |.Invert,d=>(qI d).map λi=>.int (cR i.1)
 |.Not,d=>(m9 d).map λb=>.bool !b
 |.UAdd,_=>none
end
end
section
open PySem.SeqAt
def sd(f:D->D->Option Bool):List D->List D->Option Bool
 |[],ys=>match ys with
  |[]=>some true
  |_::_=>none
 |x::xs,ys=>match ys with
  |[]=>none
  |y::ys=>(f x y).bind λp=>(sd f xs ys).map λq=>p&&q
def xa(a b:UInt64):Bool:=cA a b==some .eq
def aaB(a b:UInt64):Option Bool:=if xa a b=true then some true else none
def LA(x:UInt64)(i:Int):Option Bool:=some (fw x i==some .eq)
def OZ(a b:D):Option Bool:=(Dz (λi j=>some (i==j)) a b).or ((arS (λi j=>some (i==j)) a b).or ((Sk aaB a b).or ((OV LA a b).or ((aaz (λi x=>LA x i) a b).or (arB (λp q=>some (p==q)) a b)))))
def aaC(f:D->D->Option Bool)(a b:List D):Option Bool:=if a.length=b.length then sd f a b else some false
def aaD(f:D->D->Option Bool)(a b:List D):Option Bool:=if a.length=b.length then sd f a b else none
def aaE(f:D->D->Option Bool)(z:Bool)(a b:D):Option Bool:=if z=true then(OZ a b).or ((arL (aaC f) a b).or (arT (aaD f) a b))else OZ a b
def rA:Nat->D->D->Option Bool
 |0=>aaE (λ_ _=>none) false
 |n+1=>aaE (rA n) true
section
variable{F:Addr->Prop}
theorem Bf(hf:∀d b,f d d=some b->b=true):∀(ds:List D)(b:Bool),sd f ds ds=some b->b=true:=by
 intro zx
 induction zx with
 |nil=>
  rintro b e;exact(af e).symm
 |cons d ds ih=>
  rintro b e;obtain⟨p,h1,h2⟩:=aO e;obtain⟨q,h3,rfl⟩:=dC h2;rw[hf d p h1,ih q h3];rfl
theorem Bg(e:OZ d d=some b):b=true:=by
 refine jV e (λe=>?_) λe=>jV e (λe=>?_) λe=>?_
 ·obtain⟨i,h1,e⟩:=aO e
  obtain⟨j,h2,e⟩:=aO e;obtain rfl:=af (h1.symm.trans h2);exact(af e).symm.trans (beq_self_eq_true _)
 ·obtain⟨i,h1,e⟩:=aO e
  obtain⟨j,h2,e⟩:=aO e;obtain rfl:=af (h1.symm.trans h2);exact(af e).symm.trans (beq_self_eq_true _)
 ·refine jV e (λe=>?_) λe=>jV e (λe=>?_) λe=>jV e (λe=>?_) λe=>?_
  ·obtain⟨i,h1,e⟩:=aO e
   obtain⟨j,h2,e⟩:=aO e;exact(bx e).2.symm
  ·obtain⟨i,h1,e⟩:=aO e
   obtain⟨j,h2,e⟩:=aO e;exact nomatch i.2.symm.trans j.2
  ·obtain⟨i,h1,e⟩:=aO e
   obtain⟨j,h2,e⟩:=aO e;exact nomatch i.2.symm.trans j.2
  ·obtain⟨i,h1,e⟩:=aO e
   obtain⟨j,h2,e⟩:=aO e;obtain rfl:=af (h1.symm.trans h2);exact(af e).symm.trans (beq_self_eq_true _)
theorem Bh(hf:∀d b,f d d=some b->b=true)(d)(b)(e:aaE f z d d=some b):b=true:=by
 cases z with
 |false=>exact Bg e
 |true=>
  refine jV e Bg λe=>jV e (λe=>?_) λe=>?_
  ·obtain⟨i,h1,e⟩:=aO e
   obtain⟨j,h2,e⟩:=aO e;obtain rfl:=af (h1.symm.trans h2);exact Bf hf i.1 b ((if_pos rfl).symm.trans e)
  ·obtain⟨i,h1,e⟩:=aO e
   obtain⟨j,h2,e⟩:=aO e;obtain rfl:=af (h1.symm.trans h2);exact Bf hf i.1 b ((if_pos rfl).symm.trans e)
theorem O0:∀(n:Nat)(d:D)(b:Bool),rA n d d=some b->b=true:=by
 intro zx
 induction zx with
 |zero=>
  rintro d b e;exact Bh (f:=λ_ _=>none) (λ_ _ e=>no e) d b e
 |succ n ih=>
  rintro d b e;exact Bh (ih) d b e
theorem xZ(e:Nat->Bool)(n):(aM (n+1)).all e=(e 0&&(aM n).all λi=>e (i+1)):=by
 rw[SP,qG,List.all_map];rfl
theorem xw(hf:∀d d' v v' b,bU s.heap F d v->bU s.heap F d' v'->f d d'=some b->EqAt A s v v' b):
 ∀(ds w7:List D)(vs jO:List Value)(b:Bool),aZ s.heap F ds vs->aZ s.heap F w7 jO->sd f ds w7=some b->
  ∃e:Nat->Bool,(∀j v v',vs[j]? =some v->jO[j]? =some v'->EqAt A s v v' (e j))/\(aM vs.length).all e=b:=by
 intro zx
 induction zx with
 |nil=>
  rintro w7 vs jO b x y e;cases w7 with
  |cons _ _=>exact no e
  |nil=>
   obtain rfl:=x.m7;exact⟨λ_=>true,λj v v' h=>no h,af e⟩
 |cons d ds ih=>
  rintro w7 vs jO b x y e;cases w7 with
  |nil=>exact no e
  |cons d' w7=>
   obtain⟨p,h1,h2⟩:=aO e;obtain⟨q,h3,rfl⟩:=dC h2;obtain⟨v,r,rfl,a1,b1⟩:=x.eM;obtain⟨v',r',rfl,a2,b2⟩:=y.eM;obtain⟨e,he,hb⟩:=ih w7 r r' q b1 b2 h3;refine⟨λj=>match j with|0=>p|j+1=>e j,λj u u' hu hu'=>?_,by rw[bD,xZ,<-hb]⟩;cases j with
   |zero=>exact af hu▸af hu'▸hf _ _ _ _ _ a1 a2 h1
   |succ j=>exact he j u u' hu hu'
theorem HF(hb:i0 s.heap)(ht:t≠0)(hu:u≠0)(same:xa a b=true):EqAt A s (.float a t) (.float b u) true:=λprog w E Q h=>by
 unfold eqBool;refine bQ ?_;refine xK (λT5=>ao (jJ (aL h))) (λ_=>?_);dsimp only;have jp:wpAny (model prog w) A (do let r<-richCompare AW (.float a t) (.float b u);truthOfDropped r) Q E s:=
  ao (show wpAny (model prog w) A (compareOp .Eq (.float a t) (.float b u)) _ E s from AutoFloatOps.eq_0 (by
   have:(cA a b==some Ordering.eq)=true:=same;rw[this];exact fW h))
 have fin:∀c:Bool,wpAny (model prog w) A (if c=true then pure true else do let r<-richCompare AW (.float a t) (.float b u);truthOfDropped r) Q E s:=λc=>by
  cases c
  ·exact jp
  ·exact aL h
 refine ao ?_;show wpAny (model prog w) A (amy (a==b&& !Float64.isNaN a) t u) _ E s;unfold amy;refine aeK ?_;split
 ·rename_i h0
  simp[ht,hu]at h0
 refine aeK ?_;split
 ·exact aL (fin true)
 refine aeK ?_;split
 ·exact aL (fin false)
 refine ao (YV hb ?_);rw[if_neg aF];refine ao (YV hb ?_);rw[if_neg aF];exact ao (jJ (ao (wpAny_askSetting (aL (fin _)))))
abbrev HG(s:ah)(A:aC)(o1 o2:CmpOp)(k:Bool)(va vb:Value):Prop:=∀(prog:bb)(w:World)(E:Value->ah->Prop)(Q:Value->ah->Prop),(Q (.bool k) s->wpAny (model prog w) A (compareOp o1 va vb) Q E s)/\(Q (.bool !k) s->wpAny (model prog w) A (compareOp o2 va vb) Q E s)
theorem Ug(i j t u):HG s A .Eq .NotEq (i==j) (.int i t) (.int j u):=λ_ _ _ _=>⟨Jp,PyProof.Rows.ne_int⟩
theorem Uh(i j t u):HG s A .Eq .NotEq (i==j) (.str i t) (.str j u):=λ_ _ _ _=>⟨Jq,PyProof.Rows.ne_str⟩
theorem JU(i j t u):HG s A .Eq .NotEq (xa i j) (.float i t) (.float j u):=λ_ _ _ _=>⟨AutoFloatOps.eq_0,AutoFloatOps.ne_0⟩
theorem Ui(e:aaB x y=some b):xa x y=b:=(bx e).1.trans (bx e).2
theorem O1(x:bU s.heap F d v)(y:bU s.heap F d' v')(e:OZ d d'=some b):HG s A .Eq .NotEq b v v':=
 jV e (G4 (λi j t u e=>af e▸Ug i j t u) x y) λe=>jV e (ssE (λi j t u e=>af e▸Uh i j t u) x y) λe=>jV e (Sl (λi j t u _ _ e=>Ui e▸JU i j t u) x y) λe=>jV e (fiE (f:=LA) (P:=HG s A .Eq .NotEq b) (λi j t u e=>by exact af e▸λ_ _ _ _=>⟨K9,PyProof.Rows.ne_fi⟩) x y)
  λe=>jV e (ifE (f:=λi x=>LA x i) (P:=HG s A .Eq .NotEq b) (λi j t u e=>by exact af e▸λ_ _ _ _=>⟨Lb,PyProof.Rows.ne_if⟩) x y) (bbE (P:=HG s A .Eq .NotEq b) (λi j e=>af e▸λ_ _ _ _=>⟨Ha,PyProof.Rows.ne_bool⟩) x y)
theorem aaF(i j)(t u):EqAt A s (.int i t) (.int j u) (i==j):=λprog w E Q hq=>by
 unfold eqBool;refine bQ (xK (λT5=>?_) λ_=>?_)
 ·rw[show(i==j)=true from beq_iff_eq.mpr (oX (eq_of_beq T5)).1]at hq
  exact ao (jJ (aL hq))
 ·show wpAny (model prog w) A (do let r<-richCompare AW (.int i t) (.int j u);truthOfDropped r) Q E s
  exact ao (show wpAny (model prog w) A (compareOp .Eq (.int i t) (.int j u)) _ E s from Jp (fW hq))
theorem aaG(i j)(t u):EqAt A s (.str i t) (.str j u) (i==j):=λprog w E Q hq=>by
 unfold eqBool;refine bQ (xK (λT5=>?_) λ_=>?_)
 ·rw[show(i==j)=true from beq_iff_eq.mpr (aeJ (eq_of_beq T5)).1]at hq
  exact ao (jJ (aL hq))
 ·show wpAny (model prog w) A (do let r<-richCompare AW (.str i t) (.str j u);truthOfDropped r) Q E s
  exact ao (show wpAny (model prog w) A (compareOp .Eq (.str i t) (.str j u)) _ E s from Jq (fW hq))
theorem Uj{A:aC}{s:ah}(i j:Bool):EqAt A s (.bool i) (.bool j) (i==j):=λprog w E Q hq=>by
 unfold eqBool;refine bQ (xK (λT5=>?_) λ_=>?_)
 ·rw[show(i==j)=true from beq_iff_eq.mpr (YU (eq_of_beq T5))]at hq
  exact ao (jJ (aL hq))
 ·show wpAny (model prog w) A (do let r<-richCompare AW (.bool i) (.bool j);truthOfDropped r) Q E s
  exact ao (show wpAny (model prog w) A (compareOp .Eq (.bool i) (.bool j)) _ E s from Ha (fW hq))
theorem O2{A:aC}{s:ah}{a b:Value}{k:Bool}(hn:(a==b)=false)(hm:eqBool a b=holding [a,b] (if(a==b)=true then(do rule "eq-bool.same-object";return true)else do let r<-richCompare AW a b;truthOfDropped r))
(h:∀(prog:bb)(w:World)(E:Value->ah->Prop)(Q:Value->ah->Prop),Q (.bool k) s->wpAny (model prog w) A (compareOp .Eq a b) Q E s):EqAt A s a b k:=λprog w E Q hq=>by
 rw[hm,hn];exact bQ (ao (show wpAny (model prog w) A (compareOp .Eq a b) _ E s from h prog w E _ (fW hq)))
theorem aaH(hb:i0 s.heap)(ht:t≠0)(hu:u≠0)(e:aaB x y=some b):EqAt A s (.float x t) (.float y u) b:=(bx e).2▸HF hb ht hu (bx e).1
theorem JV(hb:i0 s.heap)(x:bU s.heap F d v)(y:bU s.heap F d' v')(e:OZ d d'=some b):EqAt A s v v' b:=
 jV e (G4 (P:=λv v'=>EqAt A s v v' b) (λi j t u e=>af e▸aaF i j t u) x y) λe=>jV e (ssE (P:=λv v'=>EqAt A s v v' b) (λi j t u e=>af e▸aaG i j t u) x y) λe=>jV e (Sl (P:=λv v'=>EqAt A s v v' b) (λi j t u ht hu e=>aaH hb ht hu e) x y) λe=>jV e (fiE (f:=LA) (P:=λv v'=>EqAt A s v v' b) (λi j t u e=>by exact af e▸O2 (by rfl) rfl λ_ _ _ _=>K9) x y)
  λe=>jV e (ifE (f:=λi x=>LA x i) (P:=λv v'=>EqAt A s v v' b) (λi j t u e=>by exact af e▸O2 (by rfl) rfl λ_ _ _ _=>Lb) x y) (bbE (P:=λv v'=>EqAt A s v v' b) (λi j e=>af e▸Uj i j) x y)
theorem nh(hr:aZ h F l vs)(qO:aZ h F l' jO):(l.length=l'.length)=(vs.toArray.size=jO.toArray.size):=by
 rw[aX,aX,hr.length,qO.length]
theorem Cn{A:aC}{s:ah}{f:Nat->Bool}{vs jO:List Value}(hf:∀j v v',vs[j]? =some v->jO[j]? =some v'->EqAt A s v v' (f j))(j:Nat)(h1:j<vs.toArray.size)(h2:j<jO.toArray.size):EqAt A s vs.toArray[j] jO.toArray[j] (f j):=
 hf j _ _ (by simp at h1⊢) (by simp at h2⊢)
theorem O3{A:aC}{s:ah}{f:D->D->Option Bool}{a a':Addr}{l l':List D}{vs jO:List Value}{k k':Nat}{b:Bool}(hu:A.units<cLine)(hf:∀d d' v v' b,bU s.heap F d v->bU s.heap F d' v'->f d d'=some b->EqAt A.in1 s v v' b)
(hl:IsL s.heap a vs.toArray k)(pN:IsL s.heap a' jO.toArray k')(hr:aZ s.heap F l vs)(qO:aZ s.heap F l' jO)(e:aaC f l l'=some b):RcAt A s (.ref a) (.ref a') b:=by
 by_cases hlen:l.length=l'.length
 ·obtain⟨g,hg,S2⟩:=xw hf _ _ _ _ _ hr qO ((if_pos hlen).symm.trans e)
  rw[<-S2,<-aX];exact RcAt.lists hl.isList pN.isList (nh hr qO▸hlen) hu (Cn hg)
 ·rw[<-af ((if_neg hlen).symm.trans e)]
  exact RcAt.lists_lengths hl.isList pN.isList (bne_iff_ne.mpr (mt (nh hr qO).mpr hlen)) hu
theorem O4{A:aC}{s:ah}{f:D->D->Option Bool}{a a':Addr}{l l':List D}{vs jO:List Value}{k k':Nat}{b:Bool}(hu:A.units<cLine)(hf:∀d d' v v' b,bU s.heap F d v->bU s.heap F d' v'->f d d'=some b->EqAt A.in1 s v v' b)
(hl:IsT s.heap a vs.toArray k)(pN:IsT s.heap a' jO.toArray k')(hr:aZ s.heap F l vs)(qO:aZ s.heap F l' jO)(e:aaD f l l'=some b):RcAt A s (.ref a) (.ref a') b:=by
 obtain⟨hlen,e⟩:=dy e;obtain⟨g,hg,S2⟩:=xw hf _ _ _ _ _ hr qO e;have q:=RcAt.tuples (A:=A) (e:=g) (⟨_,hl,rfl,_,rfl⟩:s.heap.IsTuple a vs.toArray) (⟨_,pN,rfl,_,rfl⟩:s.heap.IsTuple a' jO.toArray) hu (Cn hg);rw[<-(nh hr qO▸hlen:vs.toArray.size=jO.toArray.size),Nat.min_self,beq_self_eq_true,NS,aX,S2]at q;exact q
theorem Uk(x:bU s.heap F d (.ref a))(y:bU s.heap F d' (.ref a'))(e:rA n d d'=some b)(h:RcAt A s (.ref a) (.ref a') b):EqAt A s (.ref a) (.ref a') b:=by
 by_cases mV:a=a'
 ·subst mV
  rw[O0 n d b ((bU.inj x y:d=d')▸e)];exact EqAt.same _
 ·exact EqAt.of_refs mV h
theorem O5(hb:i0 s.heap)(n):∀(A:aC)(d d':D)(v v':Value)(b:Bool),A.units+n<cLine->bU s.heap F d v->bU s.heap F d' v'->rA n d d'=some b->EqAt A s v v' b:=by
 induction n with
 |zero=>exactλA d d' v v' b _ x y e=>JV hb x y e
 |succ n ih=>
  intro A d d' v v' b hu x y e;have hA:A.units<cLine:=bj (dU ..) hu;have hf:∀d d' v v' b,bU s.heap F d v->bU s.heap F d' v'->rA n d d'=some b->EqAt A.in1 s v v' b:=λd d' v v' b=>ih A.in1 d d' v v' b (bj (WU (Nat.succ_add_eq_add_succ A.units n)) hu);have fin:∀a a',v=.ref a->v'=.ref a'->RcAt A s (.ref a) (.ref a') b->EqAt A s v v' b:=λa a' h1 h2=>by subst h1 h2;exact Uk x y e
  have e0:=e;refine jV e0 (JV hb x y) λe0=>jV e0 (λe0=>?_) λe0=>?_
  ·obtain⟨i,_,e0⟩:=aO e0
   obtain⟨j,_,e0⟩:=aO e0;obtain⟨a,vs,k,h1,_,hl,hr⟩:=x.l i;obtain⟨a',jO,k',h2,_,pN,qO⟩:=y.l j;exact fin a a' h1 h2 (O3 hA hf hl pN hr qO e0)
  ·obtain⟨i,_,e0⟩:=aO e0
   obtain⟨j,_,e0⟩:=aO e0;obtain⟨a,vs,k,h1,_,hl,hr⟩:=x.t i;obtain⟨a',jO,k',h2,_,pN,qO⟩:=y.t j;exact fin a a' h1 h2 (O4 hA hf hl pN hr qO e0)
end
end
end Internal
namespace Internal
section
open PySem.SeqAt
def Ul(d:D):Option (Option Bool):=if d.ctorIdx=1 then some none else(qB d).map λx=>some x.1
def ahG:Option Bool->Option Bool->Bool
 |none,q=>match q with
  |none=>true
  |some _=>false
 |some x,q=>match q with
  |none=>false
  |some y=>x==y
def same(a b:D):Option Bool:=(Ul b).bind λq=>((Ul a).map λp=>ahG p q).or ((qS a).map λ_=>false)
def ya(x:D):List D->Option Bool
 |[]=>some false
 |y::ys=>(rA 40 y x).bind λa=>(ya x ys).map λb=>a||b
def inS(x y:Str):Option Bool:=some (!(Builtin.Str.occurrences y x 0 y.length 1).isEmpty)
def yb(x y:D):Option Bool:=(arS inS x y).or ((qL y).bind λl=>ya x l.1)
def eqD(a b:D):Option Bool:=(Sk (λx y=>some (xa x y)) a b).or (rA 40 a b)
def XJ(f:Int->Int->Bool)(g:UInt64->UInt64->Option Bool)(k:UInt64->Int->Option Bool)(a b:D):Option Bool:=(Dz (λi j=>some (f i j)) a b).or ((Sk g a b).or (OV k a b))
def cmp:CmpOp->D->D->Option Bool
 |.Eq,a,b=>eqD a b
 |.NotEq,a,b=>(eqD a b).map λx=> !x
 |.Lt,a,b=>XJ (λa b=>decide (a<b)) (λa b=>some (cA a b==some .lt)) (λ_ _=>none) a b
 |.LtE,a,b=>XJ (λa b=>decide (a<=b)) (λa b=>some (cA a b==some .lt||cA a b==some .eq)) (λ_ _=>none) a b
 |.Gt,a,b=>XJ (λa b=>decide (b<a)) (λ_ _=>none) (λ_ _=>none) a b
 |.GtE,a,b=>XJ (λa b=>decide (b<=a)) (λ_ _=>none) (λa b=>some (fw a b==some .gt||fw a b==some .eq)) a b
 |.Is,a,b=>same a b
 |.IsNot,a,b=>(same a b).map λx=> !x
 |.In,a,b=>yb a b
 |.NotIn,a,b=>(yb a b).map λx=> !x
section
variable{F:Addr->Prop}
theorem O6{A:aC}{s:ah}{x:D}{v:Value}(hb:i0 s.heap)(hu:A.units+41<cLine)(rx:bU s.heap F x v):
 ∀(ds:List D)(vs:List Value)(b:Bool),aZ s.heap F ds vs->ya x ds=some b->∃e:Value->Bool,(∀y∈vs,EqAt A.in1 s y v (e y))/\vs.any e=b:=by
 have pick:∀y:Value,∃k:Bool,∀d b,bU s.heap F d y->rA 40 d x=some b->k=b:=λy=>by
  by_cases h:∃d b,bU s.heap F d y/\rA 40 d x=some b
  ·obtain⟨d,b,h1,h2⟩:=h;exact⟨b,λd' b' h1' XK=>af ((bU.inj h1 h1'▸h2:rA 40 d' x=some b).symm.trans XK)⟩
  ·exact⟨true,λd b h1 h2=>absurd ⟨d,b,h1,h2⟩ h⟩
 obtain⟨f,sp⟩:=Classical.axiomOfChoice pick;intro ds vs b hr he;refine⟨f,?_⟩;induction ds generalizing vs b with
 |nil=>exact hr.m7▸⟨λy h=>(nomatch h),af he⟩
 |cons d ds ih=>
  obtain⟨p,h1,h2⟩:=aO he;obtain⟨q,h3,rfl⟩:=dC h2;obtain⟨u,r,rfl,a1,b1⟩:=hr.eM;have e1:=sp u d p a1 h1;refine⟨λy hy=>?_,by rw[List.any_cons,(ih r q b1 h3).2,e1]⟩;cases hy with
  |head=>exact e1.symm▸O5 hb 40 A.in1 d x _ v p (bj (WU (Ad ..)) hu) a1 rx h1
  |tail _ hy=>exact(ih r q b1 h3).1 y hy
def HH:Option Bool->Value
 |none=>.none
 |some b=>.bool b
theorem ER(r:bU h F a v)(e:Ul a=some p):v=HH p:=by
 unfold Ul at e;by_cases h:a.ctorIdx=1
 ·rw[if_pos h]at e
  rw[ahq h]at r;exact af e▸r.none
 ·rw[if_neg h]at e
  obtain⟨x,_,rfl⟩:=dC e;exact r.b x
theorem JW(p q:Option Bool):plainIs (HH p) (HH q)=true/\(HH p==HH q)=ahG p q:=by
 cases p<;>cases q<;>first|exact⟨rfl,rfl⟩|(rename_i x y;cases x<;>cases y<;>exact⟨rfl,rfl⟩)
theorem JX(x)(t)(q:Option Bool):plainIs (.str x t) (HH q)=true/\(Value.str x t==HH q)=false:=by cases q<;>exact⟨rfl,rfl⟩
theorem O7{s:ah}{A:aC}{a b:Value}{k:Bool}(h:plainIs a b=true)(e:(a==b)=k):HG s A .Is .IsNot k a b:=λprog w E Q=>⟨λq=>wpAny_is_plain h (e.symm▸q),λq=>wpAny_isNot_plain h (e.symm▸q)⟩
theorem yc(ra:bU s.heap F a va)(rb:bU s.heap F b vb)(e:same a b=some k):HG s A .Is .IsNot k va vb:=by
 obtain⟨q,hb,e⟩:=aO e;obtain rfl:=ER rb hb;refine jV e (λe=>?_) λe=>?_
 ·obtain⟨p,ha,rfl⟩:=dC e
  obtain rfl:=ER ra ha;exact O7 (JW p q).1 (JW p q).2
 ·obtain⟨x,_,rfl⟩:=dC e
  obtain⟨t,rfl⟩:=ra.s x;exact O7 (JX x.1 t q).1 (JX x.1 t q).2
theorem ES(hb:i0 s.heap)(hu:A.units+41<cLine)(ra:bU s.heap F a va)(rb:bU s.heap F b vb)(e:yb a b=some k):HG s A .In .NotIn k va vb:=by
 refine jV e (λe=>ssE (f:=inS) (P:=HG s A .In .NotIn k) (λi j t u e=>by exact af e▸λ_ _ _ _=>⟨PySem.P.in_str,PySem.P.notIn_str⟩) ra rb e) λe=>?_;obtain⟨x,_,e⟩:=aO e;obtain⟨l,vs,n,h1,_,hl,hr⟩:=rb.l x;obtain⟨f,h2,h3⟩:=O6 hb hu ra _ _ _ hr e;exact h1▸(List.any_toArray.trans h3:vs.toArray.any f=k)▸λ_ _ _ _=>⟨in_listAt f hl.isList λy hy=>h2 y (amz.mp hy),notIn_listAt f hl.isList λy hy=>h2 y (amz.mp hy)⟩
theorem aaI(hu:A.units<cLine)(hf:∀d d' v v' b,bU s.heap F d v->bU s.heap F d' v'->f d d'=some b->EqAt A.in1 s v v' b)
(hl:IsL s.heap a vs.toArray k)(pN:IsL s.heap a' jO.toArray k')(hr:aZ s.heap F l vs)(qO:aZ s.heap F l' jO)(e:aaC f l l'=some b):RcNeAt A s (.ref a) (.ref a') !b:=by
 by_cases hlen:l.length=l'.length
 ·obtain⟨g,hg,S2⟩:=xw hf _ _ _ _ _ hr qO ((if_pos hlen).symm.trans e)
  rw[<-S2,<-aX];exact RcNeAt.lists hl.isList pN.isList (nh hr qO▸hlen) hu (Cn hg)
 ·rw[<-af ((if_neg hlen).symm.trans e)]
  exact RcNeAt.lists_lengths hl.isList pN.isList (bne_iff_ne.mpr (mt (nh hr qO).mpr hlen)) hu
theorem aaJ(hu:A.units<cLine)(hf:∀d d' v v' b,bU s.heap F d v->bU s.heap F d' v'->f d d'=some b->EqAt A.in1 s v v' b)
(hl:IsT s.heap a vs.toArray k)(pN:IsT s.heap a' jO.toArray k')(hr:aZ s.heap F l vs)(qO:aZ s.heap F l' jO)(e:aaD f l l'=some b):RcNeAt A s (.ref a) (.ref a') !b:=by
 obtain⟨hlen,e⟩:=dy e;obtain⟨g,hg,S2⟩:=xw hf _ _ _ _ _ hr qO e;have q:=RcNeAt.tuples (A:=A) (e:=g) (⟨_,hl,rfl,_,rfl⟩:s.heap.IsTuple a vs.toArray) (⟨_,pN,rfl,_,rfl⟩:s.heap.IsTuple a' jO.toArray) hu (Cn hg);rw[<-(nh hr qO▸hlen:vs.toArray.size=jO.toArray.size),Nat.min_self,beq_self_eq_true,NS,aX,S2]at q;exact q
theorem Bj(hb:i0 s.heap)(hu:A.units+41<cLine)(ra:bU s.heap F a va)(rb:bU s.heap F b vb)(e:eqD a b=some k):HG s A .Eq .NotEq k va vb:=by
 have hA:A.units<cLine:=bj (dU ..) hu;have hq:∀d d' v v' b,bU s.heap F d v->bU s.heap F d' v'->rA 39 d d'=some b->EqAt A.in1 s v v' b:=λd d' v v' b=>O5 hb 39 A.in1 d d' v v' b (dz (by show A.units+1+39<A.units+41;omega) hu);exact jV e (Sl (λi j t u _ _ e=>af e▸JU i j t u) ra rb) λe=>jV e (O1 ra rb) λe=>
  jV e (llE (P:=HG s A .Eq .NotEq k) (λ_ _ _ _ _ _ _ _ hl pN hr qO e prog w E Q=>⟨O3 hA hq hl pN hr qO e prog w E Q,aaI hA hq hl pN hr qO e prog w E Q⟩) ra rb)
   (ttE (P:=HG s A .Eq .NotEq k) (λ_ _ _ _ _ _ _ _ hl pN hr qO e prog w E Q=>⟨O4 hA hq hl pN hr qO e prog w E Q,aaJ hA hq hl pN hr qO e prog w E Q⟩) ra rb)
abbrev CO(prog:bb)(w:World)(A:aC)(E:Value->ah->Prop)(s:ah)(Q:Value->ah->Prop)(op:CmpOp)(va vb:Value):Prop:=wpAny (model prog w) A (compareOp op va vb) Q E s
theorem se
(k1:∀i j t u,Q (.bool (f i j)) s->CO prog w A E s Q op (.int i t) (.int j u))(k2:∀i j t u,g i j=some k->CO prog w A E s Q op (.float i t) (.float j u))
(k3:∀i j t u,z i j=some k->CO prog w A E s Q op (.float i t) (.int j u))
(ra:bU s.heap F a va)(rb:bU s.heap F b vb)(e:XJ f g z a b=some k)(h:Q (.bool k) s):CO prog w A E s Q op va vb:=
 jV e (G4 (λi j t u e=>k1 i j t u (af e▸h)) ra rb) λe=>jV e (Sl (λi j t u _ _ e=>k2 i j t u e) ra rb) (fiE k3 ra rb)
theorem Bk
(hb:i0 s.heap)(hu:A.units+41<cLine)(ra:bU s.heap F a va)(rb:bU s.heap F b vb)(e:cmp op a b=some k)(h:Q (.bool k) s):CO prog w A E s Q op va vb:=by
 have neg:∀{o1 o2:CmpOp}{x:Option Bool},(∀j,x=some j->HG s A o1 o2 j va vb)->x.map (λx=> !x)=some k->CO prog w A E s Q o2 va vb:=λt e=>by
  obtain⟨j,e2,rfl⟩:=dC e;exact(t j e2 prog w E Q).2 h
 cases op with
 |Eq=>exact(Bj hb hu ra rb e prog w E Q).1 h
 |NotEq=>exact neg (λ_=>Bj hb hu ra rb) e
 |Lt=>exact se (λ_ _ _ _=>PyProof.Rows.lt_int) (λ_ _ _ _ q=>by exact Nx (af q▸h)) (λ_ _ _ _ q=>no q) ra rb e h
 |LtE=>exact se (λ_ _ _ _=>PyProof.Rows.le_int) (λ_ _ _ _ q=>by exact AutoFloatOps.le_0 (af q▸h)) (λ_ _ _ _ q=>no q) ra rb e h
 |Gt=>exact se (λ_ _ _ _=>PyProof.Rows.gt_int) (λ_ _ _ _ q=>no q) (λ_ _ _ _ q=>no q) ra rb e h
 |GtE=>exact se (λ_ _ _ _=>PyProof.Rows.ge_int) (λ_ _ _ _ q=>no q) (λ_ _ _ _ q=>by exact PyProof.Rows.ge_fi (af q▸h)) ra rb e h
 |Is=>exact(yc ra rb e prog w E Q).1 h
 |IsNot=>exact neg (λ_=>yc ra rb) e
 |In=>exact(ES hb hu ra rb e prog w E Q).1 h
 |NotIn=>exact neg (λ_=>ES hb hu ra rb) e
end
end
end Internal
namespace Internal
section
def sf(x:Str):List D:=x.cps.toList.map λc=>.str ⟨#[c]⟩
def kU(a c:Int):Nat->List D
 |0=>[]
 |n+1=>.int a::kU (a+c) c n
def iJ(a b c:Int):Nat:=(fj a b c).toNat
def km(a b c:Int):Bool:=decide (c≠0)&&Hb a b c&&decide (0<=fj a b c)
def aoB(x:Int×Int×Int):Option (List D):=if km x.1 x.2.1 x.2.2=true then some (kU x.1 x.2.2 (iJ x.1 x.2.1 x.2.2))else none
def LB(d:D):Option (List D):=((qL d).map λx=>x.1).or ((qT d).map λx=>x.1)
def items(d:D):Option (List D):=(LB d).or (((qS d).map λx=>sf x.1).or ((qR d).bind λx=>aoB x.1))
theorem ET:items (.nZ a b c)=if km a b c=true then some (kU a c (iJ a b c))else none:=rfl
theorem n7(c):∀(n:Nat)(a:Int),(kU a c n).length=n:=by
 intro zx
 induction zx with
 |zero=>
  rintro _;exact rfl
 |succ n ih=>
  rintro a;rw[kU,bD,ih]
theorem Bl(c)(n):∀(a:Int)(i:Nat),i<n->(kU a c n)[i]? =some (.int (a+i*c)):=by
 induction n with
 |zero=>exactλ_ _ h=>absurd h (avm _)
 |succ n ih=>
  intro a i h;cases i with
  |zero=>simp[kU]
  |succ i=>
   rw[kU,List.getElem?_cons_succ,ih _ i (Nat.lt_of_succ_lt_succ h)];congr 2;rw[eY,Int.add_mul,Int.natCast_one,Int.one_mul,Int.add_assoc,WV c]
def yd(I:Addr)(P:Nat->Value->Prop)(St:Nat->Heap->Prop):Prop:=
 (∀i h,St i h->∃o T,h.get? I=some o/\o.cls=.type T/\["enumerate","zip","dict_itemiterator","dict_reverseitemiterator","odict_iterator","itertools.zip_longest","itertools.pairwise"].contains T=false)
   \/∀i v,P i v->∀a,v≠.ref a
inductive It(prog:bb)(w:World)(A:aC)(F:Addr->Prop)(ds:List D)(s s':ah)(it:Value):Prop
 |mk (I:Addr) (fp:List Addr) (P:Nat->Value->Prop) (St:Nat->Heap->Prop) (hx:it=.ref I) (no:yd I P St) (W:Walks prog w A I fp [I] ds.length P St) (st:St 0 s'.heap) (hI:s.heap.get? I=none) (ye:∀i h,St i h->(h.get? I).isSome=true)
  (Co:∀b∈fp,b=I\/(¬F b/\(s.heap.get? b).isSome=true)) (hP:∀i v h (F':Addr->Prop),P i v->Kept F s.heap h->(∀b,F' b->F b\/s.heap.get? b=none)->∀d,ds[i]? =some d->bU h F' d v)
section
variable{prog:bb}{w:World}{A:aC}{E:Value->ah->Prop}{s:ah}{F:Addr->Prop}
theorem gL(h:Heap)(o:Obj)(ho:o.isFreed=false):(h.push o).get? h.objs.size=some o:=gY _ ho
theorem EU
(hQ:∀(o:Obj)(St:Nat->Heap->Prop),(∀i h,St i h->(h.get? s.heap.objs.size).isSome=true)->(∀A':aC,A'.handled=none->Walks prog w A' s.heap.objs.size [s.heap.objs.size] [s.heap.objs.size] x.cps.size (SignAt x) St)->St 0 (s.heap.push o)->
   Q (.ref s.heap.objs.size) {s with heap:=s.heap.push o}):wpAny (model prog w) A (pyIter (.str x t)) Q E s:=by
 cases ha:x.cps.all (·<128)
 ·exact wpAny_pyIter_wide ha (hQ _ _ (λi h st=>by obtain⟨o,e,_⟩:=st;rw[e];rfl) (λA' hA=>Walks.strWide hA _ x t) ⟨_,gY _ rfl,rfl,rfl⟩)
 ·exact wpAny_pyIter_ascii ha (hQ _ _ (λi h st=>by obtain⟨o,e,_⟩:=st;rw[e];rfl) (λA' hA=>Walks.strAscii hA _ x t) ⟨_,gY _ rfl,rfl,rfl⟩)
theorem fp2{h:Heap}{I a:Addr}{o:Obj}(na:¬F a)(e:h.get? a=some o):∀b∈[I,a],b=I\/(¬F b/\(h.get? b).isSome=true):=λb hb=>by
 cases hb with
 |head=>exact .inl rfl
 |tail _ hb=>cases hb with
  |head=>exact .inr ⟨na,by rw[e];rfl⟩
  |tail _ hb=>exact nomatch hb
theorem aaK{h0:Heap}{ds:List D}{vs:List Value}(r:aZ h0 F ds vs){i:Nat}{v:Value}{h:Heap}{F':Addr->Prop}(hP:vs[i]? =some v)(k:Kept F h0 h)(hF':∀b,F' b->F b\/h0.get? b=none)(d:D)(hd:ds[i]? =some d):bU h F' d v:=
 let⟨_,e1,e2⟩:=r.get hP
 af (e1.symm.trans hd)▸bU.kept k hF' _ _ e2
theorem O8{ds:List D}{v:Value}(hh:A.handled=none)(r:RL s.heap F ds v):wpAny (model prog w) A (pyIter v) (λit s'=>Keeps s s'/\It prog w A F ds s s' it) E s:=by
 obtain⟨a,vs,n,rfl,na,hl,hr⟩:=r;have W:=Walks.list (prog:=prog) (w:=w) (A:=A) hh s.heap.objs.size a (el (cT hl)) vs.toArray;rw[show vs.toArray.size=ds.length from by rw[aX,hr.length]]at W;exact wpAny_pyIter_list hl.isList ⟨Keeps.push _,_,_,_,_,rfl,.inl λi h st=>by obtain⟨⟨o,e1,e2,_⟩,_⟩:=st;exact⟨o,_,e1,e2,by decide⟩,W,⟨⟨_,gL _ _ rfl,rfl,rfl⟩,⟨_,aV _ hl,rfl,_,rfl⟩⟩,kl _,λi h st=>by obtain⟨⟨o,e1,_⟩,_⟩:=st;exact e1▸rfl,fp2 na hl,
  λi u h F' hP k hF'=>aaK hr (fh.symm.trans hP) k hF'⟩
theorem O9{ds:List D}{v:Value}(hh:A.handled=none)(r:RT s.heap F ds v):wpAny (model prog w) A (pyIter v) (λit s'=>Keeps s s'/\It prog w A F ds s s' it) E s:=by
 obtain⟨a,vs,n,rfl,na,hl,hr⟩:=r;have hT:s.heap.IsTuple a vs.toArray:=⟨_,hl,rfl,_,rfl⟩
 have W:=Walks.tuple (prog:=prog) (w:=w) (A:=A) hh s.heap.objs.size a (el (cT hl)) vs.toArray;rw[show vs.toArray.size=ds.length from by rw[aX,hr.length]]at W;exact wpAny_pyIter_tuple hT ⟨Keeps.push _,_,_,_,_,rfl,.inl λi h st=>by obtain⟨⟨o,e1,e2,_⟩,_⟩:=st;exact⟨o,_,e1,e2,by decide⟩,W,⟨⟨_,gL _ _ rfl,rfl,rfl⟩,⟨_,aV _ hl,rfl,_,rfl⟩⟩,kl _,λi h st=>by obtain⟨⟨o,e1,_⟩,_⟩:=st;exact e1▸rfl,fp2 na hl,
  λi u h F' hP k hF'=>aaK hr (fh.symm.trans hP) k hF'⟩
theorem Pa(hh:A.handled=none)(r:∃t,v=.str x t):wpAny (model prog w) A (pyIter v) (λit s'=>Keeps s s'/\It prog w A F (sf x) s s' it) E s:=by
 obtain⟨t,rfl⟩:=r;refine EU λo St ho W st=>⟨Keeps.push _,_,_,_,_,rfl,?_,by rw[show(sf x).length=x.cps.size from by rw[sf,aj,cj]];exact W A hh,st,kl _,ho,λb hb=>.inl (aY.mp hb),λi u h F' p _ _ d hd=>?_⟩
 ·exact .inr λi v p a q=>by obtain⟨_,_,_,e⟩:=p;exact nomatch e.symm.trans q
 ·obtain⟨c,t',hc,rfl⟩:=p
  unfold sf at hd;rw[gD,tC,hc]at hd;exact af hd▸xq
theorem Pb(hh:A.handled=none)(hr:km a b c=true)(r:RR s.heap F a b c v):wpAny (model prog w) A (pyIter v) (λit s'=>Keeps s s'/\It prog w A F (kU a c (iJ a b c)) s s' it) E s:=by
 obtain⟨a',t,u,w',rfl,na,hl⟩:=r;unfold km at hr;simp only[av,decide_eq_true_eq]at hr;have W:=Walks.range (prog:=prog) (w:=w) (A:=A) hh s.heap.objs.size a c (iJ a b c);refine wpAny_pyIter_range hl hr.1.2 ⟨Keeps.push _,_,_,_,_,rfl,?_,by rw[n7];exact W,?_,kl _,λi h st=>by rw[show h.get? s.heap.objs.size=some _ from st];rfl,λb hb=>.inl (aY.mp hb),λi v h F' p _ _ d hd=>?_⟩
 ·exact .inr λi v p a q=>by obtain⟨_,e⟩:=p;exact nomatch e.symm.trans q
 ·show(s.heap.push _).get? _=_
  rw[asL,Int.zero_mul,Int.add_zero,Int.sub_zero,show((iJ a b c:Nat):Int)=fj a b c from zX hr.2];exact gL _ _ rfl
 ·obtain⟨t',rfl⟩:=p
  have hi:i<iJ a b c:=n7 c (iJ a b c) a▸(ff.mp hd).1;exact af ((Bl _ _ _ i hi).symm.trans hd)▸fx
theorem jW(hh:A.handled=none)(lo:iQ F s.heap)(r:bU s.heap F d v)(e:items d=some ds):
 wpAny (model prog w) A (pyIter v) (λit s'=>Keeps s s'/\It prog w A F ds s s' it) E s:=by
 refine jV e (λe=>jV e (λe=>?_) λe=>?_) λe=>jV e (λe=>?_) λe=>?_
 ·obtain⟨x,_,rfl⟩:=dC e
  exact O8 hh (r.l x)
 ·obtain⟨x,_,rfl⟩:=dC e
  exact O9 hh (r.t x)
 ·obtain⟨x,_,rfl⟩:=dC e
  exact Pa hh (r.s x)
 ·obtain⟨x,_,e⟩:=aO e
  exact(bx e).2▸Pb hh (bx e).1 (r.r x)
end
end
section
structure Ok(A:aC)(F:Addr->Prop)(s:ah):Prop where
 hh:A.handled=none
 gl:∃mg,s.heap.Ns mainGlobals mg
 tk:1<=s.toks
 lo:iQ F s.heap
theorem NoneBooked.keeps(x:i0 h)(k:bT h h'):i0 h':=by obtain⟨m,a,b⟩:=x;exact⟨m,a.keeps k,b⟩
theorem NoLimit.aaM(x:h.NoLimit)(k:bT h h'):h'.NoLimit:=by obtain⟨m,a,b⟩:=x;exact⟨m,a.keeps k,b⟩
def gM:List D->Option (List Int)
 |[]=>some []
 |x::r=>(qI x).bind λi=>(gM r).map (i.1::·)
theorem lA:∀{ns:List Int}{vs:List Value},gM ds=some ns->aZ h F ds vs->Jr vs ns:=by
 induction ds with
 |nil=>intro ns vs e x;exact af e▸x.m7▸.nil
 |cons d ds ih=>
  intro ns vs e x;obtain⟨i,_,e⟩:=aO e;obtain⟨ms,e1,rfl⟩:=dC e;obtain⟨v,r,rfl,a,b⟩:=x.eM;obtain⟨t,rfl⟩:=a.i i;exact .cons _ _ (ih e1 b)
theorem Bm(x:Jr vs ns):aZ h F (ns.map .int) vs:=by
 induction x with
 |nil=>exact .nil
 |cons n t r ih=>exact .cons fx ih
def fgt(a b:UInt64):Bool:=cA a b==some .gt
def Pc(a b:UInt64):Bool:=cA a b==some .lt
def Ai(a b c:UInt64):UInt64:=bif fgt c (bif fgt b a then b else a)then c else(bif fgt b a then b else a)
def LD(a b c:UInt64):UInt64:=bif Pc c (bif Pc b a then b else a)then c else(bif Pc b a then b else a)
def ahI:List Int->Option Int
 |[]=>none
 |n::ns=>some (ns.foldl max n)
def ahJ:List Int->Option Int
 |[]=>none
 |n::ns=>some (ns.foldl min n)
inductive Bi where
 |len|range|max|min|abs|sum|chr|ord|list|sorted|divmod|int
def Bi.val:Bi->Value
 |.len=>.builtin "len"|.range=>.type "range"|.max=>.builtin "max"|.min=>.builtin "min"|.abs=>.builtin "abs"|.sum=>.builtin "sum"
 |.chr=>.builtin "chr"|.ord=>.builtin "ord"|.list=>.type "list"|.sorted=>.builtin "sorted"|.divmod=>.builtin "divmod"|.int=>.type "int"
def Bi.name:Bi->Str
 |.len=>"len"|.range=>"range"|.max=>"max"|.min=>"min"|.abs=>"abs"|.sum=>"sum"
 |.chr=>"chr"|.ord=>"ord"|.list=>"list"|.sorted=>"sorted"|.divmod=>"divmod"|.int=>"int"
def d1(f:D->Option D):List D->Option D
 |[]=>none
 |x::r=>match r with
  |[]=>f x
  |_::_=>none
def d2(f:D->D->Option D):List D->Option D
 |[]=>none
 |x::r=>d1 (f x) r
def ahK(n:Nat):Option D:=if n<=ei then some (.int n)else none
def ahL(d:D):Option D:=((qL d).bind λx=>ahK x.1.length).or ((qS d).bind λx=>ahK x.1.length)
def Um(f:UInt64->Option D)(d:D):Option D:=(qF d).bind λx=>f x.1
def EV(f:Int->Option D)(d:D):Option D:=(qI d).bind λx=>f x.1
def HI(f:List D->Option D)(d:D):Option D:=(qL d).bind λx=>f x.1
def ahM(x:Str):Option D:=match x.cps.toList with
    |[]=>none
    |c::r=>match r with
     |[]=>some (.int c)
     |_::_=>none
def ahN(d:D):Option D:=(qS d).bind λx=>ahM x.1
def XM(d:D):Option D:=((qR d).bind λx=>if km x.1.1 x.1.2.1 x.1.2.2=true/\iJ x.1.1 x.1.2.1 x.1.2.2<=ei then some (.lst (kU x.1.1 x.1.2.2 (iJ x.1.1 x.1.2.1 x.1.2.2)))else none).or ((qL d).bind λl=>if l.1.length<=ei then some (.lst l.1)else none)
def ahO:List Int->Option D
 |[]=>none
 |a::r=>match r with
  |[]=>some (.nZ 0 a 1)
  |b::q=>match q with
   |[]=>some (.nZ a b 1)
   |c::k=>match k with
    |[]=>if c≠0/\sm c=true then some (.nZ a b c)else none
    |_::_=>none
def EW(f:Int->Int->Option D):List Int->Option D
 |[]=>none
 |a::r=>match r with
  |[]=>none
  |b::q=>match q with
   |[]=>f a b
   |_::_=>none
def dmI(a b:Int):Option D:=if b≠0/\sm b=true then some (.tup [.int (a.fdiv b),.int (a.fmod b)])else none
def ahP(a b:Int):Option D:=some (.lst (if a<=b then[.int a,.int b]else[.int b,.int a]))
def aaN(k:UInt64->UInt64->UInt64->UInt64):List D->Option D
 |[]=>none
 |x::r=>(qF x).bind λa=>d2 (Sk λb c=>some (.aN (k a.1 b c))) r
def ahQ(l:List D):Option D:=(gM l).bind λns=>(ahI ns).map .int
def Pd(l:List D):Option D:=(gM l).bind λns=>(ahJ ns).map .int
def ahR(i j:Int):Option D:=some (.int (if j>i then j else i))
def ahS(i j:Int):Option D:=some (.int (if j<i then j else i))
def cH:Bi->List D->Option D
 |.len,ds=>d1 ahL ds
 |.range,ds=>(gM ds).bind ahO
 |.max,ds=>(d1 (HI ahQ) ds).or ((d2 (Dz ahR) ds).or (aaN Ai ds))
 |.min,ds=>(d2 (Dz ahS) ds).or ((d1 (HI Pd) ds).or (aaN LD ds))
 |.abs,ds=>d1 (Um λa=>some (.aN (tD a))) ds
 |.sum,ds=>d1 (HI λl=>(gM l).map λns=>.int ns.sum) ds
 |.chr,ds=>d1 (EV λi=>if 0<=i/\i<=0x10FFFF then some (.str ⟨#[i.toNat]⟩)else none) ds
 |.ord,ds=>d1 ahN ds
 |.list,ds=>d1 XM ds
 |.sorted,ds=>d1 (HI λl=>(gM l).bind (EW ahP)) ds
 |.divmod,ds=>(gM ds).bind (EW dmI)
 |.int,ds=>d1 (Um λx=>if cN x then some (.int (cq cC x))else none) ds
section
variable{prog:bb}{w:World}{A:aC}{E:Value->ah->Prop}{s:ah}{F:Addr->Prop}
theorem yf:∀(ns:List Int)(n M:Int),M∈n::ns->(∀a∈n::ns,a<=M)->ns.foldl max n=M:=by
 intro zx
 induction zx with
 |nil=>
  rintro n M h1 _;simp at h1;simp[h1]
 |cons m ns ih=>
  rintro n M h1 h2;rw[ki];refine ih (max n m) M ?_ λa ha=>?_
  ·have a1:=h2 n (by simp)
   have a2:=h2 m (by simp);rcases aJ.mp h1 with rfl|h1
   ·rw[show max M m=M by omega];exact aA
   ·rcases aJ.mp h1 with rfl|h1
    ·rw[show max n M=M by omega];exact aA
    ·exact aD _ h1
  ·rcases aJ.mp ha with rfl|ha
   ·have a1:=h2 n (by simp)
    have a2:=h2 m (by simp);omega
   ·exact h2 a (by simp[ha])
theorem pW:∀(ns:List Int)(n M:Int),M∈n::ns->(∀a∈n::ns,M<=a)->ns.foldl min n=M:=by
 intro zx
 induction zx with
 |nil=>
  rintro n M h1 _;simp at h1;simp[h1]
 |cons m ns ih=>
  rintro n M h1 h2;rw[ki];refine ih (min n m) M ?_ λa ha=>?_
  ·have a1:=h2 n (by simp)
   have a2:=h2 m (by simp);rcases aJ.mp h1 with rfl|h1
   ·rw[show min M m=M by omega];exact aA
   ·rcases aJ.mp h1 with rfl|h1
    ·rw[show min n M=M by omega];exact aA
    ·exact aD _ h1
  ·rcases aJ.mp ha with rfl|ha
   ·have a1:=h2 n (by simp)
    have a2:=h2 m (by simp);omega
   ·exact h2 a (by simp[ha])
theorem Ok.fr(o:Ok A F s):∃mg,Fr {} mainGlobals s.heap mg:=by
 obtain⟨mg,x⟩:=o.gl;exact⟨mg,x,λb o e=>by simp[Heap.get?]at e,de _⟩
theorem EX:News h L h' []:=λ_ hp=>nomatch hp
theorem ex7{α β γ δ ε ζ η:Type}{p:α->β->γ->δ->ε->ζ->η->Prop}(a:α)(b:β)(c:γ)(d:δ)(e:ε)(f:ζ)(g:η)(h:p a b c d e f g):∃a b c d e f g,p a b c d e f g:=⟨a,b,c,d,e,f,g,h⟩
def Un(a b c:UInt64):Nat->UInt64
 |0=>a
 |n+1=>match n with
  |0=>b
  |_+1=>c
theorem Uo(ht:t≠0)(hu:u≠0)(hv:v≠0)(i:Nat)(y:Value)(e:(#[.float a t,.float b u,.float c v]:Array Value)[i]? =some y):∃k,y=.float (Un a b c i) k/\k≠0:=by
 cases i with
 |zero=>exact⟨t,(af e).symm,ht⟩
 |succ i=>
  cases i with
  |zero=>exact⟨u,(af e).symm,hu⟩
  |succ i=>
   cases i with
   |zero=>exact⟨v,(af e).symm,hv⟩
   |succ i=>exact no ((Array.getElem?_eq_none (nQ 3 i)).symm.trans e)
theorem ahT(a b c)(cm:UInt64->UInt64->Bool):Un a b c (argBest (λi j=>cm (Un a b c i) (Un a b c j)) (3 - 1))=(bif cm c (bif cm b a then b else a)then c else(bif cm b a then b else a)):=by
 show Un a b c (if cm c (Un a b c (if cm b a=true then 1 else 0))=true then 2 else(if cm b a=true then 1 else 0))=_;cases cm b a with
 |true=>
  show Un a b c (if cm c b=true then 2 else 1)=bif cm c b then c else b;cases cm c b<;>rfl
 |false=>
  show Un a b c (if cm c a=true then 2 else 0)=bif cm c a then c else a;cases cm c a<;>rfl
theorem wc{op:CmpOp}{id:String}{a b c:UInt64}{t u v:Tok}(cm:UInt64->UInt64->Bool)(ok:Ok A F s)(ht:t≠0)(hu:u≠0)(hv:v≠0)
(rule:∀{Q:Value->ah->Prop},wpAny (model prog w) A.in1 (pyIter (.ref s.heap.objs.size)) (λit eU=>∃I fp wr n P St bt,it=.ref I/\Walks prog w A.in1 I fp wr n P St/\St 0 eU.heap/\(∀b∈fp,b<eU.heap.objs.size)/\0<n/\CmpOf prog w A.in1 op P bt/\
   ∀v h' tk,P (argBest bt (n - 1)) v->(∀b o,b∉wr->eU.heap.get? b=some o->h'.get? b=some o)->Q v {eU with heap:=h',toks:=tk}) E
   {s with heap:=s.heap.push {cls:=.type "tuple",data:=.seq #[.float a t,.float b u,.float c v]}}->wpAny (model prog w) A (call (.builtin id) [.float a t,.float b u,.float c v]) Q E s)
(hc:∀(x y:UInt64)(t u:Tok)(s:ah)(Q:Value->ah->Prop)(E:Value->ah->Prop),Q (.bool (cm x y)) s->wpAny (model prog w) A.in1 (richCompare op (.float x t) (.float y u)) Q E s):
 wpAny (model prog w) A (call (.builtin id) [.float a t,.float b u,.float c v]) (gU F s (.aN (bif cm c (bif cm b a then b else a)then c else(bif cm b a then b else a)))) E s:=by
 refine rule ?_;generalize hH:s.heap.push {cls:=.type "tuple",data:=.seq #[.float a t,.float b u,.float c v]}=H;have hT:H.IsTuple s.heap.objs.size #[.float a t,.float b u,.float c v]:=by rw[<-hH];exact⟨_,gL _ _ rfl,rfl,_,rfl⟩
 have hsz:s.heap.objs.size<H.objs.size:=by rw[<-hH,hU];exact dW _
 have W:=Walks.tuple (prog:=prog) (w:=w) (A:=A.in1) ok.hh H.objs.size s.heap.objs.size (el hsz) #[.float a t,.float b u,.float c v];have XN:bT s.heap H:=λb o e=>by rw[<-hH];exact aV _ e
 refine wpAny_pyIter_tuple hT ?_;let xs:Nat->UInt64:=Un a b c;have hP:=Uo (a:=a) (b:=b) (c:=c) ht hu hv;refine ex7 _ _ _ _ _ _ (λi j=>cm (xs i) (xs j)) ⟨rfl,W,⟨⟨_,gL _ _ rfl,rfl,rfl⟩,?_⟩,?_,(by show 0<3;decide),?_,?_⟩
 ·obtain⟨o,e,r⟩:=hT
  exact⟨o,aV _ e,r⟩
 ·intro q hq
  rw[hU];rcases aJ.mp hq with rfl|hq
  ·exact dW _
  ·rw[aY.mp hq];exact qH hsz
 ·intro i j vi vj s' Q E' hi hj hQ
  obtain⟨k1,rfl,_⟩:=hP i vi hi;obtain⟨k2,rfl,_⟩:=hP j vj hj;exact hc _ _ _ _ _ _ _ hQ
 ·intro y h' tk hy hk
  obtain⟨k,rfl,hk0⟩:=hP _ y hy;have e:=ahT a b c cm;refine⟨⟨h',tk,rfl,λq o e'=>hk q o ?_ (aV _ (XN q o e'))⟩,?_⟩
  ·intro hm
   rw[aY.mp hm]at e';exact dN _ (dz hsz (cT e'))
  ·exact e▸Cj hk0
end
end
section
section
variable{prog:bb}{w:World}{A:aC}{E:Value->ah->Prop}{s:ah}{F:Addr->Prop}
theorem tX(c)(n)(a):kU a c n=(rangeInts a c n).map .int:=by
 apply aln;intro i;by_cases h:i<n
 ·rw[Bl c n a i h,gD,rangeInts_get h];rfl
 ·rw[iP (by rw[n7];omega),iP (by rw[aj,rangeInts_length];omega)]
theorem HJ(c)(n)(a)(ys)(x:Jr ys (rangeInts a c n)):aZ h F (kU a c n) ys:=by
 rw[tX];exact Bm x
theorem HK{a b:Int}{ns:List Int}(h1:ns.Perm [a,b])(h2:ns.Pairwise (·<=·)):ns=if a<=b then[a,b]else[b,a]:=by
 have key:∀{l:List Int},ns.Perm l->l.Pairwise (·<=·)->ns=l:=λp q=>p.eq_of_pairwise (λ_ _ _ _=>Int.le_antisymm) h2 q;by_cases h:a<=b
 ·rw[if_pos h];exact key h1 (by simpa using h)
 ·rw[if_neg h];exact key (h1.trans (List.Perm.swap b a [])) (by simpa using Ds (Int.not_le.mp h))
theorem Pe(r:aZ h F [d] vs):∃v,vs=[v]/\bU h F d v:=by
 obtain⟨v,r',rfl,a,b⟩:=r.eM;exact⟨v,b.m7▸rfl,a⟩
theorem Up(h:cN x=true)(q:wY x=true):False:=by
 unfold cN at h;unfold wY at q;split at q<;>simp_all
theorem Uq(h:cN x=true)(q:lD x=true):False:=by
 unfold cN at h;unfold lD at q;split at q<;>simp_all
theorem d1E{P:List Value->Prop}{f:D->Option D}{h:Heap}{ds:List D}{vs:List Value}{d:D}(r:aZ h F ds vs)(e:d1 f ds=some d)(k:∀x v,bU h F x v->f x=some d->P [v]):P vs:=by
 cases ds with
 |nil=>exact no e
 |cons x ds=>
  cases ds with
  |nil=>obtain⟨v,a,b⟩:=Pe r;exact a▸k x v b e
  |cons _ _=>exact no e
theorem d2E{P:List Value->Prop}{f:D->D->Option D}{h:Heap}{ds:List D}{vs:List Value}{d:D}(r:aZ h F ds vs)(e:d2 f ds=some d)(k:∀x y v v',bU h F x v->bU h F y v'->f x y=some d->P [v,v']):P vs:=by
 cases ds with
 |nil=>exact no e
 |cons x ds=>
  obtain⟨v,r',e1,a,b⟩:=r.eM;exact e1▸d1E (P:=λl=>P (v::l)) b e λy v' c e=>k x y v v' a c e
theorem aoE{P:Value->Prop}{f:UInt64->Option D}{h:Heap}{x:D}{v:Value}{d:D}(r:bU h F x v)(e:Um f x=some d)(k:∀y t,t≠0->f y=some d->P (.float y t)):P v:=by
 obtain⟨y,_,e⟩:=aO e;obtain⟨t,a,b⟩:=r.f y;exact a▸k y.1 t b e
theorem ahU{P:Value->Prop}{f:Int->Option D}{h:Heap}{x:D}{v:Value}{d:D}(r:bU h F x v)(e:EV f x=some d)(k:∀y t,f y=some d->P (.int y t)):P v:=by
 obtain⟨y,_,e⟩:=aO e;obtain⟨t,a⟩:=r.i y;exact a▸k y.1 t e
theorem ahV{P:Value->Prop}{f:List D->Option D}{h:Heap}{x:D}{v:Value}{d:D}(r:bU h F x v)(e:HI f x=some d)(k:∀l a vs n,IsL h a vs.toArray n->aZ h F l vs->f l=some d->P (.ref a)):P v:=by
 obtain⟨y,_,e⟩:=aO e;obtain⟨a,vs,n,e1,_,e2,e3⟩:=r.l y;exact e1▸k y.1 a vs n e2 e3 e
abbrev BC(prog:bb)(w:World)(A:aC)(E:Value->ah->Prop)(F:Addr->Prop)(s:ah)(c:Value)(vs:List Value)(d:D):Prop:=wpAny (model prog w) A (call c vs) (gU F s d) E s
theorem Pf(h:n<=ei):(n:Int)<2^63:=oZ.mpr (bj h (by decide))
theorem LF(r:bU s.heap F x v)(e:ahL x=some d):BC prog w A E F s (.builtin "len") [v] d:=by
 refine jV e (λe=>?_) λe=>?_
 ·obtain⟨y,_,e⟩:=aO e
  obtain⟨h,e⟩:=bx e;obtain⟨a,vs,n,rfl,na,hl,hr⟩:=r.l y;rw[<-hr.length]at h e;exact e▸PySem.Calls.call_len_list hl.isList (Pf h) lh
 ·obtain⟨y,_,e⟩:=aO e
  obtain⟨h,e⟩:=bx e;obtain⟨t,rfl⟩:=r.s y;exact e▸PyProof.Rows.len_str (Int.not_le.mpr (Pf h)) lh
theorem EY(ok:Ok A F s)(r:Jr vs ns)(e:ahO ns=some d):BC prog w A E F s (.type "range") vs d:=by
 cases r with
 |nil=>exact no e
 |cons a t r=>
  cases r with
  |nil=>
   exact af e▸call_range_1 ⟨Keeps.EI _ _,xr (mh ok.lo) (avn ..)⟩
  |cons b u r=>
   cases r with
   |nil=>
    exact af e▸call_range_2 ⟨Keeps.EI _ _,xr (mh ok.lo) (avn ..)⟩
   |cons c u' r=>
    cases r with
    |nil=>
     obtain⟨h,e⟩:=bx e;obtain⟨mg,fr⟩:=ok.fr;exact e▸range3_rows fr EX h.1 (λh' tk t1 u1 v1 hr _ _ hk=>⟨⟨h',tk,rfl,hk⟩,xr (mh ok.lo) hr⟩) (.inl (aay h.2))
    |cons _ _ _=>exact no e
theorem yg(e:gM l=some ns)(hl:IsL h a vs.toArray n)(r:aZ h F l vs):∃xs:Array (Int×Tok),h.IsList a (intItems xs)/\ns=xs.toList.map (·.1):=by
 have hI:=lA e r;obtain⟨xs,ex⟩:=hI.allInts.items;have pN:=hl.isList;rw[ex]at pN;exact⟨xs,pN,by rw[<-hI.numsOf,<-nums_intItems,<-ex]⟩
theorem Ur(ok:Ok A F s)(hl:s.heap.IsList a (intItems xs))(Cp:ns=xs.toList.map (·.1))(e:ahI ns=some M):BC prog w A E F s (.builtin "max") [.ref a] (.int M):=by
 cases ns with
 |nil=>exact no e
 |cons m ns=>
  have hsz:0<xs.size:=by rw[<-cj,<-aj (f:=(·.1)),<-Cp];exact asM _
  refine max_intList ok.hh hl hsz λv h' tk hv hk=>?_;obtain⟨t,rfl⟩:=intItems_at hv;obtain⟨h1,h2⟩:=argBest_gt (numAt xs) (xs.size - 1);have hM:ns.foldl max m=numAt xs (argBest (λi j=>decide (numAt xs i>numAt xs j)) (xs.size - 1)):=by
   refine yf ns m _ ?_ λa ha=>?_
   ·rw[Cp,numAt_eq];exact asO (by rw[aj,cj];exact amA hsz h1)
   ·rw[Cp]at ha
    obtain⟨j,hj,rfl⟩:=mem_getD ha;rw[aj,cj]at hj;rw[<-numAt_eq];exact h2 j (adS hj)
  exact⟨⟨h',tk,rfl,hk⟩,af e▸hM▸fx⟩
theorem yh{c:Value}{k:UInt64->UInt64->UInt64->UInt64}{ds:List D}{vs:List Value}{d:D}(k3:∀i j l t u v,t≠0->u≠0->v≠0->BC prog w A E F s c [.float i t,.float j u,.float l v] (.aN (k i j l)))
(r:aZ s.heap F ds vs)(e:aaN k ds=some d):BC prog w A E F s c vs d:=by
 cases ds with
 |nil=>exact no e
 |cons x ds=>
  obtain⟨a,_,e⟩:=aO e;obtain⟨v,r',e1,r0,r1⟩:=r.eM;obtain⟨t,e2,h1⟩:=r0.f a;rw[e1,e2];refine d2E (P:=λl=>BC prog w A E F s c (.float a.1 t::l) d) r1 e λy z v1 v2 r2 r3 e=>?_;exact Sl (P:=λv1 v2=>BC prog w A E F s c [.float a.1 t,v1,v2] d) (λi j u v q1 q2 e=>by exact af e▸k3 _ _ _ _ _ _ h1 q1 q2) r2 r3 e
theorem Us{ns:List Int}{M:Int}{a:Addr}{xs:Array (Int×Tok)}(ok:Ok A F s)(hl:s.heap.IsList a (intItems xs))(Cp:ns=xs.toList.map (·.1))(e:ahJ ns=some M):BC prog w A E F s (.builtin "min") [.ref a] (.int M):=by
 cases ns with
 |nil=>exact no e
 |cons m ns=>
  have hsz:0<xs.size:=by rw[<-cj,<-aj (f:=(·.1)),<-Cp];exact asM _
  refine min_intList ok.hh hl hsz λv h' tk hv hk=>?_;obtain⟨t,rfl⟩:=intItems_at hv;obtain⟨h1,h2⟩:=argBest_lt (numAt xs) (xs.size - 1);have hM:ns.foldl min m=numAt xs (argBest (λi j=>decide (numAt xs i<numAt xs j)) (xs.size - 1)):=by
   refine pW ns m _ ?_ λa ha=>?_
   ·rw[Cp,numAt_eq];exact asO (by rw[aj,cj];exact amA hsz h1)
   ·rw[Cp]at ha
    obtain⟨j,hj,rfl⟩:=mem_getD ha;rw[aj,cj]at hj;rw[<-numAt_eq];exact h2 j (adS hj)
  exact⟨⟨h',tk,rfl,hk⟩,af e▸hM▸fx⟩
theorem LG(ok:Ok A F s)(e:gM l=some ns)(hl:IsL s.heap a vs.toArray n)(r:aZ s.heap F l vs):BC prog w A E F s (.builtin "sum") [.ref a] (.int ns.sum):=by
 obtain⟨xs,h1,h2⟩:=yg e hl r;refine sum_intListG ok.hh h1 λh' tk t' hk=>⟨⟨h',tk,rfl,hk⟩,?_⟩
 rw[preSum_eq,h2,show xs.size=(xs.toList.map (·.1)).length by rw[aj,cj],rn];exact fx
theorem LH(e:(if 0<=i/\i<=0x10FFFF then some (D.str ⟨#[i.toNat]⟩)else none)=some d):BC prog w A E F s (.builtin "chr") [.int i t] d:=
 (bx e).2▸chr_of_range (bx e).1.1 (bx e).1.2 EM
theorem LI(e:ahM x=some d):∃c,x=⟨#[c]⟩/\d=.int c:=by
 obtain⟨⟨l⟩⟩:=x;cases l with
 |nil=>exact no e
 |cons c l=>
  cases l with
  |nil=>exact⟨c,rfl,(af e).symm⟩
  |cons _ _=>exact no e
theorem LJ(r:bU s.heap F x v)(e:ahN x=some d):BC prog w A E F s (.builtin "ord") [v] d:=by
 obtain⟨y,_,e⟩:=aO e;obtain⟨t,rfl⟩:=r.s y;obtain⟨c,h,rfl⟩:=LI e;exact h▸PySem.P.ord_of_char lh
abbrev BL(prog:bb)(w:World)(A:aC)(E:Value->ah->Prop)(F:Addr->Prop)(s:ah)(v:Value)(d:D):Prop:=wpAny (model prog w) A (call (.type "list") [v]) (λv s'=>gU F s d v s'/\ky s v) E s
theorem Pg(ok:Ok A F s)(h:l.length<=ei)(r:RL s.heap F l v):BL prog w A E F s v (.lst l):=by
 obtain⟨a,vs,n,e,na,hl,hr⟩:=r;exact e▸call_list_seq a (.inl rfl) hl rfl rfl (λh' c' hk hD=>⟨⟨⟨h',s.toks,rfl,hk⟩,g8 (mh ok.lo) hD (hr.keeps hk)⟩,_,rfl,kl _⟩) (by rw[aX,hr.length];exact aq h ic)
theorem Ph(ok:Ok A F s)(h:km a b c=true)(fX:iJ a b c<=ei)(r:RR s.heap F a b c v):BL prog w A E F s v (.lst (kU a c (iJ a b c))):=by
 unfold km at h;simp only[av,decide_eq_true_eq]at h;obtain⟨r,t,u,w',e,na,hl⟩:=r;obtain⟨mg,fr⟩:=ok.fr;refine e▸list_rangeD (n:=iJ a b c) ok.hh fr EX hl h.1.2 (zX h.2).symm (aq fX (by decide)) λh' tk ys _ _ hk _ hL hP hC=>⟨⟨⟨h',tk,rfl,hk⟩,?_⟩,_,rfl,kl _⟩
 obtain⟨⟨c',hD⟩,_⟩:=hP;exact g8 (mh ok.lo) hD (HJ _ _ _ _ (IntsAre.ofCarried hC))
theorem yi(ok:Ok A F s)(r:bU s.heap F x v)(e:XM x=some d):BL prog w A E F s v d:=by
 refine jV e (λe=>?_) λe=>?_
 ·obtain⟨y,_,e⟩:=aO e
  exact(bx e).2▸Ph ok (bx e).1.1 (bx e).1.2 (r.r y)
 ·obtain⟨y,_,e⟩:=aO e
  exact(bx e).2▸Pg ok (bx e).1 (r.l y)
inductive I2(f:Int->Int->Option D)(d:D):List Value->List Int->Prop
 |mk (a:Int) (t:Tok) (b:Int) (u:Tok) (e:f a b=some d):I2 f d [.int a t,.int b u] [a,b]
theorem Bn(r:Jr vs ns)(e:EW f ns=some d):I2 f d vs ns:=by
 cases r with
 |nil=>exact no e
 |cons a t r=>
  cases r with
  |nil=>exact no e
  |cons b u r=>
   cases r with
   |cons _ _ _=>exact no e
   |nil=>exact⟨a,t,b,u,e⟩
theorem Cq(ok:Ok A F s)(e:gM l=some ns)(hl:IsL s.heap a vs.toArray n)(hr:aZ s.heap F l vs)(e2:EW ahP ns=some d):BC prog w A E F s (.builtin "sorted") [.ref a] d:=by
 have hI:=lA e hr;cases Bn hI e2 with
 |mk i t j u e2=>
  refine sorted_ints hl.isList hI (by show 2<64;decide) λout ns' h1 h2 h3=>?_;obtain⟨e',he'⟩:=sortedAll_at s.heap [.int i t,.int j u] out;refine⟨⟨_,s.toks,rfl,λb o g=>sortedAll_old g⟩,?_⟩;rw[<-af e2];refine g8 (λq=>?_) (vs:=out.toList) he' ?_
  ·obtain⟨o,g⟩:=ay.mp (ok.lo _ q)
   exact dN _ (dz (dW _) (cT g))
  ·rw[HK h2 h3]at h1
   have:=Bm (F:=F) (h:=sortedAll s.heap [.int i t,.int j u] out) h1;by_cases q:i<=j
   ·rw[if_pos q]at this⊢;exact this
   ·rw[if_neg q]at this⊢;exact this
theorem Cr(ok:Ok A F s)(r:Jr vs ns)(e:EW dmI ns=some d):BC prog w A E F s (.builtin "divmod") vs d:=by
 cases Bn r e with
 |mk i t j u e=>
  obtain⟨h,e⟩:=bx e;exact e▸divmod_int h.1 ⟨Keeps.EI _ _,Ck (vs:=[_,_]) (mh ok.lo) (IsT.new ..) (.cons fx (.one fx))⟩ (.inl (aay h.2))
theorem LK(ok:Ok A F s)(e:(if cN x=true then some (D.int (cq cC x))else none)=some d):BC prog w A E F s (.type "int") [.float x t] d:=by
 obtain⟨h,e⟩:=bx e;exact e▸PySem.Flt.call_int_float3 ok.hh (λq=>(Up h q).elim) (λq=>(Uq h q).elim) λ_=>lh
theorem Sm{c:Value}{f:D->Option D}{d:D}(r:aZ s.heap F ds vs)(e:d1 f ds=some d)(k:∀x v,bU s.heap F x v->f x=some d->BC prog w A E F s c [v] d):BC prog w A E F s c vs d:=d1E (P:=λvs=>BC prog w A E F s c vs d) r e k
theorem bFE{c:Value}{f:UInt64->Option D}{d:D}(r:bU s.heap F x v)(e:Um f x=some d)(k:∀y t,f y=some d->BC prog w A E F s c [.float y t] d):BC prog w A E F s c [v] d:=aoE (P:=λv=>BC prog w A E F s c [v] d) r e λy t _=>k y t
theorem bLE{c:Value}{f:List D->Option D}{d:D}(r:bU s.heap F x v)(e:HI f x=some d)(k:∀l a vs n,IsL s.heap a vs.toArray n->aZ s.heap F l vs->f l=some d->BC prog w A E F s c [.ref a] d):BC prog w A E F s c [v] d:=ahV (P:=λv=>BC prog w A E F s c [v] d) r e k
theorem HL(ok:Ok A F s)(hl:IsL s.heap a vs.toArray n)(hr:aZ s.heap F l vs)(e:ahQ l=some d):BC prog w A E F s (.builtin "max") [.ref a] d:=by
 obtain⟨ns,e1,e2⟩:=aO e;obtain⟨M,e3,rfl⟩:=dC e2;obtain⟨xs,h3,h4⟩:=yg e1 hl hr;exact Ur ok h3 h4 e3
theorem HM(ok:Ok A F s)(hl:IsL s.heap a vs.toArray n)(hr:aZ s.heap F l vs)(e:Pd l=some d):BC prog w A E F s (.builtin "min") [.ref a] d:=by
 obtain⟨ns,e1,e2⟩:=aO e;obtain⟨M,e3,rfl⟩:=dC e2;obtain⟨xs,h3,h4⟩:=yg e1 hl hr;exact Us ok h3 h4 e3
theorem HN(ok:Ok A F s)(r1:bU s.heap F x v)(r2:bU s.heap F y v')(e:Dz ahR x y=some d):BC prog w A E F s (.builtin "max") [v,v'] d:=by
 refine G4 (P:=λv v'=>BC prog w A E F s (.builtin "max") [v,v'] d) (λi j t u e=>?_) r1 r2 e;exact af e▸max_two_ints ok.hh λh' tk hk=>⟨⟨h',tk,rfl,hk⟩,by split<;>exact fx⟩
theorem HO(ok:Ok A F s)(r1:bU s.heap F x v)(r2:bU s.heap F y v')(e:Dz ahS x y=some d):BC prog w A E F s (.builtin "min") [v,v'] d:=by
 refine G4 (P:=λv v'=>BC prog w A E F s (.builtin "min") [v,v'] d) (λi j t u e=>?_) r1 r2 e;exact af e▸min_two_ints ok.hh λh' tk hk=>⟨⟨h',tk,rfl,hk⟩,by split<;>exact fx⟩
theorem Pj(ok:Ok A F s)(r:aZ s.heap F ds vs)(e:cH b ds=some d):
 wpAny (model prog w) A (call b.val vs) (gU F s d) E s:=by
 cases b with
 |len=>exact Sm r e λx v r e=>LF r e
 |range=>
  obtain⟨ns,e1,e2⟩:=aO e;exact EY ok (lA e1 r) e2
 |max=>exact jV e (λe=>Sm r e λx v r e=>bLE r e λl a vs n h1 h2 e=>HL ok h1 h2 e) λe=>jV e (λe=>d2E (P:=λl=>BC prog w A E F s (.builtin "max") l d) r e λx y v v' r1 r2 e=>HN ok r1 r2 e) λe=>yh (k:=Ai) (λi j l t u v h0 h1 h2=>wc fgt ok h0 h1 h2 (λh=>call_max_three h) λx y t u s Q E h=>AutoFloatOps.gt_0 h) r e
 |min=>exact jV e (λe=>d2E (P:=λl=>BC prog w A E F s (.builtin "min") l d) r e λx y v v' r1 r2 e=>HO ok r1 r2 e) λe=>jV e (λe=>Sm r e λx v r e=>bLE r e λl a vs n h1 h2 e=>HM ok h1 h2 e) λe=>yh (k:=LD) (λi j l t u v h0 h1 h2=>wc Pc ok h0 h1 h2 (λh=>call_min_three h) λx y t u s Q E h=>Nx h) r e
 |abs=>
  refine Sm r e λx v r e=>bFE r e λy t e=>?_;exact af e▸PySem.Flt.call_abs_float (w9 ok.tk)
 |sum=>
  refine Sm r e λx v r e=>bLE r e λl a vs n h1 h2 e=>?_;obtain⟨ns,e1,rfl⟩:=dC e;exact LG ok e1 h1 h2
 |chr=>exact Sm r e λx v r e=>ahU (P:=λv=>BC prog w A E F s (.builtin "chr") [v] d) r e λy t e=>LH e
 |ord=>exact Sm r e λx v r e=>LJ r e
 |list=>exact Sm r e λx v r e=>ai (yi ok r e) (λ_ _ q=>q.1) λ_ _ e=>e
 |sorted=>
  refine Sm r e λx v r e=>bLE r e λl a vs n h1 h2 e=>?_;obtain⟨ns,e1,e2⟩:=aO e;exact Cq ok e1 h1 h2 e2
 |divmod=>
  obtain⟨ns,e1,e2⟩:=aO e;exact Cr ok (lA e1 r) e2
 |int=>exact Sm r e λx v r e=>bFE r e λy t e=>LK ok e
end
end
section
open Builtin.Str
def jP(n:Nat)(d:Nat):Option Int->Nat
 |none=>d
 |some i=>(max 0 (min (if i<0 then i+n else i) n)).toNat
def sl(lo hi:Option Int)(l:List α):List α:=
 (l.drop (jP l.length 0 lo)).take (jP l.length l.length hi - jP l.length 0 lo)
theorem Pk(h:d<=n)(i:Option Int):jP n d i<=n:=by
 unfold jP;cases i with
 |none=>exact h
 |some i=>exact Int.toNat_le.mpr (Int.max_le.mpr ⟨bF _,asP ..⟩)
theorem EZ(lo hi:Option Int)(n):sliceBounds lo hi none n=(((jP n 0 lo:Nat):Int),((jP n n hi:Nat):Int),(1:Int)):=by
 unfold sliceBounds jP;cases lo<;>cases hi<;>simp only[B4]<;>simp<;>lia
theorem Ut(vs)(lo hi:Option Int):slicePick vs.toArray lo hi none=(sl lo hi vs).toArray:=by
 unfold slicePick;rw[EZ];dsimp only;rw[aX,WW,pick_run];rfl
theorem we(lo hi:Option Int)(n):strSliceIndices lo hi 1 n=sliceRange (jP n 0 lo:Nat) (jP n n hi:Nat) 1:=by
 unfold strSliceIndices jP;cases lo<;>cases hi<;>simp only[gt_iff_lt,Int.zero_lt_one,if_true]<;>first|rfl|(congr 1<;>simp<;>lia)|skip
theorem LL(x:Str)(lo hi:Option Int):((strSliceIndices lo hi 1 x.length).filterMap (x.cps[·]?)).toArray=(sl lo hi x.cps.toList).toArray:=by
 rw[we,WW,pick_run];rfl
def Sn(i:Int)(ds:List D):Option D:=(seqIndex? i ds.length).bind λj=>ds[j]?
def itS(i:Int)(x:Str):Option D:=(seqIndex? i x.length).bind λj=>(x.cps.toList[j]?).bind λc=>some (.str ⟨#[c]⟩)
def fY(o:D)(i:Int):Option D:=
 if -(2^62)<=i/\i<2^62 then((qL o).bind λl=>Sn i l.1).or (((qT o).bind λl=>Sn i l.1).or ((qS o).bind λx=>itS i x.1))else none
def yj(o:D)(lo hi:Option Int):Option D:=((qL o).bind λds=>if ds.1.length<=ei then some (.lst (sl lo hi ds.1))else none).or ((qS o).bind λx=>if x.1.length<=ei then some (.str ⟨(sl lo hi x.1.cps.toList).toArray⟩)else none)
theorem Uu{lo hi:Option Int}{ds:List D}:yj (.lst ds) lo hi=if ds.length<=ei then some (.lst (sl lo hi ds))else none:=(amB:(if ds.length<=ei then some (D.lst (sl lo hi ds))else none).or none=_)
theorem Cs(h: -(2^62)<=i/\i<2^62):fY (.lst ds) i=Sn i ds:=(if_pos h).trans (amB:(Sn i ds).or none=Sn i ds)
theorem Uv(h: -(2^62)<=i/\i<2^62):fY (.str x) i=itS i x:=if_pos h
section
variable{prog:bb}{w:World}{A:aC}{E:Value->ah->Prop}{s:ah}{F:Addr->Prop}
def Bo(s:ah)(o:Value):Prop:=∃T id,s.TypeIs o T/\typeLookup (.type T) "__getitem__"=pure (some (.builtin id))
theorem Bp:Bo s (.str x t):=⟨"str",_,typeIs_str s _ t,PySem.F.slot_str_getitem.lookup⟩
theorem LM(hl:IsT s.heap a vs n):Bo s (.ref a):=⟨"tuple",_,⟨_,hl,rfl⟩,PySem.F.slot_tuple_getitem.lookup⟩
theorem tY(hl:IsL s.heap a vs n):Bo s (.ref a):=⟨"list",_,hl.isList.typeIs,list_getitem_lookup⟩
theorem Uw(slice)(o i):∃l,subscripted slice false o i=operate l (getItem o i):=by
 have k:∃l,operate [o,i] (getItem o i)=operate l (getItem o i):=⟨_,rfl⟩
 have k2:∀lo hi st p,∃l,subscripted (.Slice lo hi st p) false o i=operate l (getItem o i):=λlo hi st p=>by cases st<;>exact⟨_,rfl⟩
 exact eT (motive_1:=λslice=>∃l,subscripted slice false o i=operate l (getItem o i)) slice (λ_ _ _=>k) (λ_ _ _=>k) (λ_ _ _ _=>k) (λ_ _ _=>k) (λ_ _ _ _=>k) (λ_ _ _ _=>k) (λ_ _ _=>k) (λ_ _ _=>k) (λ_ _ _ _=>k) (λ_ _ _ _=>k) (λ_ _ _ _ _=>k) (λ_ _ _ _=>k) (λ_ _=>k) (λ_ _=>k) (λ_ _=>k) (λ_ _ _ _=>k) (λ_ _ _ _=>k) (λ_ _ _ _=>k) (λ_ _=>k) (λ_ _ _=>k) (λ_ _ _=>k) (λ_ _ _=>k) (λ_ _=>k) (λ_ _=>k) (λ_ _=>k) (λ_ _ _=>k) k2
theorem tZ
(h:wpAny (model prog w) A (eval value env) (λo aU=>wpAny (model prog w) A (eval slice env) (λi eU=>Bo eU o/\wpAny (model prog w) A (getItem o i) Q E eU) E aU) E s):
 wpAny (model prog w) A (eval (.Subscript value slice pos) env) Q E s:=by
 refine Subscript_ (ai h (λo aU ia=>ai ia (λi eU yk=>?_) λ_ _ e=>e) λ_ _ e=>e);obtain⟨⟨T,id,hT,hl⟩,hg⟩:=yk;unfold subscriptTail;refine ao ?_;rw[getitemInPython_of_ne hT.not_modules];refine ao (wpAny_specialOf hT hl ?_);have fin:wpAny (model prog w) A (subscripted slice false o i) (λr fu=>wpAny (model prog w) A (letTemporaryGo value o r >>= λ_=>pure r) Q E fu) E eU:=by
  have hh:∀l,wpAny (model prog w) A (operate l (getItem o i)) (λr fu=>wpAny (model prog w) A (letTemporaryGo value o r >>= λ_=>pure r) Q E fu) E eU:=
   λl=>wpAny_operating (ai hg (λr fu aoF=>ao (wpAny_letTemporaryGo (aL aoF))) λ_ _ x=>x)
  obtain⟨l,e⟩:=Uw slice o i;rw[e];exact hh l
 first
  |exact aL (ao fin)
  |exact ao (aL (ao fin))
  |exact ao fin
theorem Ux(hi: -(2^62)<=i/\i<2^62)(hl:IsL s.heap a vs.toArray n)(hr:aZ s.heap F ds vs)(e:Sn i ds=some d):
 wpAny (model prog w) A (getItem (.ref a) (.int i t)) (gU F s d) E s:=by
 obtain⟨j,e1,e2⟩:=aO e;obtain⟨x,e3,e4⟩:=hr.get' e2;have fin:gU (F:=F) s d x s:=⟨Keeps.rfl',e4⟩
 have hlen:=hr.length;have e3':vs.toArray[j]? =some x:=fh.trans e3;unfold seqIndex? at e1;dsimp only at e1;by_cases h0:i<0
 ·rw[if_pos h0]at e1
  obtain⟨hc,rfl⟩:=bx e1;obtain⟨c1,c2⟩:=(av _ _).mp hc;have c1:=of_decide_eq_true c1;have c2:=of_decide_eq_true c2;refine wpAny_getItem_list_neg hl.isList h0 (by rw[aX,hlen];lia) (by lia) ?_ fin;rw[aX,hlen];exact e3'
 ·rw[if_neg h0]at e1
  obtain⟨hc,rfl⟩:=bx e1;exact wpAny_getItem_list hl.isList (by lia) (by lia) e3' fin
theorem Uy(hi: -(2^62)<=i/\i<2^62)(e:itS i x=some d):wpAny (model prog w) A (getItem (.str x u) (.int i t)) (gU F s d) E s:=by
 obtain⟨j,e1,e2⟩:=aO e;obtain⟨c,e3,e4⟩:=aO e2;exact af e4▸PySem.P.getItem_str (c:=c) (by simp;lia) (e1▸by simpa using e3) EM
theorem Uz(hi: -(2^62)<=i/\i<2^62)(hl:IsT s.heap a vs.toArray n)(hr:aZ s.heap F ds vs)(e:Sn i ds=some d):wpAny (model prog w) A (getItem (.ref a) (.int i t)) (gU F s d) E s:=by
 obtain⟨j,e1,e2⟩:=aO e;obtain⟨x,e3,e4⟩:=hr.get' e2;exact PySem.P.getItem_tuple hl (by lia) (by lia) (by rw[aX,hr.length];exact e1) (fh.trans e3) ⟨Keeps.rfl',e4⟩
theorem HP(ra:bU s.heap F o v)(e:fY o i=some d):
 Bo s v/\wpAny (model prog w) A (getItem v (.int i t)) (gU F s d) E s:=by
 obtain⟨hi,e⟩:=dy e;refine jV e (λe=>?_) λe=>jV e (λe=>?_) λe=>?_
 ·obtain⟨l,_,e⟩:=aO e
  obtain⟨a,vs,n,h,na,hl,hr⟩:=ra.l l;exact h▸⟨tY hl,Ux hi hl hr e⟩
 ·obtain⟨l,_,e⟩:=aO e
  obtain⟨a,vs,n,h,na,hl,hr⟩:=ra.t l;exact h▸⟨LM hl,Uz hi hl hr e⟩
 ·obtain⟨x,_,e⟩:=aO e
  obtain⟨u,h⟩:=ra.s x;exact h▸⟨Bp,Uy hi e⟩
theorem UA(lo hi:Option Int)(r:aZ h F ds vs):aZ h F (sl lo hi ds) (sl lo hi vs):=by
 unfold sl;rw[r.length];exact(r.drop _).take _
theorem aaO{x:Str}{lo hi:Option Int}(h:(jP x.length x.length hi - jP x.length 0 lo)=x.length):(⟨(sl lo hi x.cps.toList).toArray⟩:Str)=x:=by
 have b1:=Pk (b0 x.length) hi;have hx:x.cps.toList.length=x.length:=rfl;have e1:jP x.length 0 lo=0\/x.length=0:=by lia
 obtain⟨c⟩:=x;congr 1;unfold sl;rw[hx];rcases e1 with e1|e1
 ·rw[e1]at h⊢
  rw[wW,rT (by rw[hx];lia)]
 ·have:c= #[]:=Array.eq_empty_of_size_eq_zero e1
  rw[this];simp
theorem part_of{lo hi:Option Int}{vl vu:Value}(pl:GU vl lo)(pu:GU vu hi):∃l u:Option (Int×Tok),vl=partValue l/\vu=partValue u/\l.map (·.1)=lo/\u.map (·.1)=hi:=by
 cases pl<;>cases pu<;>first
  |exact⟨none,none,rfl,rfl,rfl,rfl⟩
  |exact⟨none,some (_,_),rfl,rfl,rfl,rfl⟩
  |exact⟨some (_,_),none,rfl,rfl,rfl,rfl⟩
  |exact⟨some (_,_),some (_,_),rfl,rfl,rfl,rfl⟩
theorem aaP(x:Str)(lo hi:Option Int):(sl lo hi x.cps.toList).toArray.size<=x.length:=by
 rw[aX];unfold sl;have hx:x.cps.toList.length=x.length:=rfl;rw[lX];exact aq (asQ ..) (by rw[jj];exact tE ..)
theorem Pl{x:Str}{u:Tok}{lo hi:Option Int}{vl vu:Value}{sa:Addr}(fX:x.length<=ei)(hs:s.heap.IsSliceOf sa vl vu .none)(pl:GU vl lo)(pu:GU vu hi):
 wpAny (model prog w) A (getItem (.str x u) (.ref sa)) (gU F s (.str ⟨(sl lo hi x.cps.toList).toArray⟩)) E s:=by
 obtain⟨l,u',rfl,rfl,rfl,rfl⟩:=part_of pl pu;refine wpAny_getItem_str_slice (l:=l) (u:=u') (st:=none) hs rfl ?_;unfold sliceMade slicePicked;have hp:=LL x (l.map (·.1)) (u'.map (·.1));split
 ·rename_i hc
  simp only[alo,B4,av,beq_iff_eq]at hc;have hc2:=hc.2;rw[we,WW,aj,bY]at hc2;rw[aaO hc2];exact⟨Keeps.rfl',xq⟩
 ·simp only[alo,B4]
  rw[hp];exact⟨aq (aaP x _ _) (aq fX ic),EM⟩
theorem Pm{lo hi:Option Int}{ds:List D}(lw:iQ F s.heap)(fX:ds.length<=ei)(hl:IsL s.heap a vs.toArray n)(hr:aZ s.heap F ds vs)(hs:s.heap.IsSliceOf sa vl vu .none)(pl:GU vl lo)(pu:GU vu hi):wpAny (model prog w) A (getItem (.ref a) (.ref sa)) (gU F s (.lst (sl lo hi ds))) E s:=by
 refine wpAny_getItem_list_slice hl.isList hs pl pu .none (by simp) ⟨Keeps.push _,?_⟩ (by rw[aX,hr.length];exact aq fX ic);rw[Ut];exact m8 lw (UA _ _ hr)
theorem HQ{o d:D}{lo hi:Option Int}{v vl vu:Value}{sa:Addr}(lw:iQ F s.heap)(ra:bU s.heap F o v)(hs:s.heap.IsSliceOf sa vl vu .none)(pl:GU vl lo)(pu:GU vu hi)(e:yj o lo hi=some d):
 Bo s v/\wpAny (model prog w) A (getItem v (.ref sa)) (gU F s d) E s:=by
 refine jV e (λe=>?_) λe=>?_
 ·obtain⟨l,_,e⟩:=aO e
  obtain⟨a,vs,n,h,na,hl,hr⟩:=ra.l l;exact h▸(bx e).2▸⟨tY hl,Pm lw (bx e).1 hl hr hs pl pu⟩
 ·obtain⟨x,_,e⟩:=aO e
  obtain⟨u,h⟩:=ra.s x;exact h▸(bx e).2▸⟨Bp,Pl (bx e).1 hs pl pu⟩
end
end
end Internal
namespace Internal
section
open Builtin.Str Builtin
def strs?:List D->Option (List Str)
 |[]=>some []
 |d::r=>(qS d).bind λx=>(strs? r).map (x.1::·)
theorem LN:∀{ys:List Str}{vs:List Value},strs? ds=some ys->aZ h F ds vs->StrsAre vs ys:=by
 induction ds with
 |nil=>intro ns vs e x;exact x.m7▸af e▸.nil
 |cons d ds ih=>
  intro ns vs e x;obtain⟨y,_,e⟩:=aO e;obtain⟨ms,e1,rfl⟩:=dC e;obtain⟨v,r,rfl,a,b⟩:=x.eM;obtain⟨t,q⟩:=a.s y;exact q▸.cons _ _ (ih e1 b)
theorem pX(l:List (Str×Tok)):aZ h F (l.map λp=>.str p.1) (strValues l):=by
 induction l with
 |nil=>exact .nil
 |cons x l ih=>exact .cons xq ih
inductive Me where
 |index|find|startswith|join|split|lower|count|jX
def d0(x:Option D):List D->Option D
 |[]=>x
 |_::_=>none
def UB(f:Str->Option D)(d:D):Option D:=(qS d).bind λx=>f x.1
def LO(f:Str->List D->Option D)(d:D)(ds:List D):Option D:=(qS d).bind λx=>f x.1 ds
def aaQ(f:List D->List D->Option D)(d:D)(ds:List D):Option D:=(qL d).bind λx=>f x.1 ds
def aoG(f:Int->List D->Option D)(d:D)(ds:List D):Option D:=(qI d).bind λx=>f x.1 ds
def aaR:List Nat->Option D
 |i::_=>some (.int i)
 |[]=>none
def ixS(x:Str)(ds:List D):Option D:=d1 (UB λy=>aaR (occurrences x y 0 x.length 1)) ds
def ixL(l:List D)(ds:List D):Option D:=d1 (EV λk=>(gM l).bind λns=>if k∈ns/\ns.length<=ei then some (.int (ns.idxOf k:Nat))else none) ds
def XQ(x y:Str):Option D:=some (.int (Ny x y))
def swS(x y:Str):Option D:=some (.bool (Txt.startswith x y))
def aaS(f:Str->Str->Option D):D->List D->Option D:=LO λx=>d1 (UB (f x))
def ahW(x:Str)(l:List D):Option D:=(strs? l).bind λys=>if(ys.map (·.length)).sum+ys.length*x.length<=16777216 then some (.str (Txt.join x ys))else none
def Pn(x:Str):List D->Option D:=d1 (HI (ahW x))
def XR(x:Str):List D->Option D:=d0 (if x.length<=ei/\(spaceWords x (x.length+1)).length<=ei then some (.lst ((SQ x).map .str))else none)
def aaT(x:Str):List D->Option D:=d0 (if x.length<=1000000 then some (.str (asR x))else none)
def aoH(l:List D)(k:Int):Option D:=(gM l).map λns=>.int (ns.count k:Nat)
def aaU(l:List D):List D->Option D:=d1 (EV (aoH l))
def o6:Me->D->List D->Option D
 |.index,o,ds=>(aaQ ixL o ds).or (LO ixS o ds)
 |.find,o,ds=>aaS XQ o ds
 |.startswith,o,ds=>aaS swS o ds
 |.join,o,ds=>LO Pn o ds
 |.split,o,ds=>LO XR o ds
 |.lower,o,ds=>LO aaT o ds
 |.count,o,ds=>aaQ aaU o ds
 |.jX,o,ds=>aoG (λi=>d0 (some (.int (cg i)))) o ds
def Me.str:Me->Str
 |.index=>"index"|.find=>"find"|.startswith=>"startswith"|.join=>"join"|.split=>"split"|.lower=>"lower"|.count=>"count"|.jX=>"bit_length"
def Me.of(n:Str):Option Me:=[Me.index,.find,.startswith,.join,.split,.lower,.count,.jX].find? λm=>m.str==n
theorem Me.aaV(h:Me.of n=some m):n=m.str:=by
 unfold Me.of at h;have:=Hc h;exact(eq_of_beq this).symm
section
variable{prog:bb}{w:World}{A:aC}{E:Value->ah->Prop}{s:ah}{F:Addr->Prop}
abbrev MF(s:ah)(m:Me)(p:String×String)(v:Value):Prop:=PlainAttrs p.1/\Slot p.1 m.str p.2/\typeOf (.builtin p.2)=pure (.type "method_descriptor")/\s.TypeIs v p.1/\(∀a,v=.ref a->∃ob,s.heap.get? a=some ob/\ob.dict=none)
abbrev MI(s:ah)(m:Me)(v:Value)(id:String):Prop:=∃T,MF s m (T,id) v
theorem UC{m:Me}{id:String}{x:Str}{t:Tok}(a:Slot "str" m.str id)(b:typeOf (.builtin id)=pure (.type "method_descriptor")):MI s m (.str x t) id:=⟨"str",PySem.F.plainAttrs_str,a,b,typeIs_str _ _ _,λ_ e=>nomatch e⟩
theorem aoI{m:Me}{id:String}(hl:IsL s.heap a xs n)(u:Slot "list" m.str id)(b:typeOf (.builtin id)=pure (.type "method_descriptor")):MI s m (.ref a) id:=⟨"list",jU,u,b,hl.isList.typeIs,λb e=>lb e▸⟨_,hl,rfl⟩⟩
theorem aoJ:MI s .jX (.int i t) "int.bit_length":=⟨"int",PySem.F.plainAttrs_int,PySem.F.slot_int_bit_length,PySem.F.type_int_bit_length,typeIs_int _ _ _,λ_ e=>nomatch e⟩
theorem HR(hl:s.heap.IsList l vs.toArray)(hi:Jr vs ns)
(hb:ns.length<=ei)(hk:k∈ns)(h:Q (.int (ns.idxOf k:Nat) s.toks) {s with toks:=s.toks+1}):
 wpAny (model prog w) A (call (.builtin "list.index") [.ref l,.int k t]) Q E s:=by
 obtain⟨⟨cls,dd,data,sl⟩,ho,hc,n,hd⟩:=id hl;simp only at hc hd;subst hc hd;have hlen:=hi.length;have hj:ns.idxOf k<ns.length:=List.idxOf_lt_length_iff.mpr hk;have fX:ei=1048576:=rfl;refine GS Lc ⟨_,ho,rfl⟩ PySem.F.entry_list_index (PySem.F.args_list_index_2 _ _)
  (PySem.SeqAt.list_indexAt l vs.toArray n dd sl (.int k t) (isInt k) (ns.idxOf k) (by simpa [hlen]using hj) (by omega) ?_ ?_) ⟨ho,λy hy=>(eq_isInt k t hi y (by simpa using hy)).at _ _,h⟩
 ·show isInt k vs[ns.idxOf k]=true
  rw[isInt_at k hi _ (by omega) hj];simpa using List.getElem_idxOf hj
 ·intro j hjs me
  show isInt k vs[j]=false;rw[isInt_at k hi j (by simpa using hjs) (by omega)];exact ne_of_lt_idxOf me _
theorem yl(r:aZ h F ds vs)(e:d0 x ds=some d):vs=[]/\x=some d:=by
 cases ds with
 |nil=>exact⟨r.m7,e⟩
 |cons _ _=>exact no e
abbrev CB(prog:bb)(w:World)(A:aC)(E:Value->ah->Prop)(F:Addr->Prop)(s:ah)(id:String)(d:D)(vs:List Value):Prop:=wpAny (model prog w) A (call (.builtin id) vs) (gU F s d) E s
abbrev MS(prog:bb)(w:World)(A:aC)(E:Value->ah->Prop)(F:Addr->Prop)(s:ah)(m:Me)(d:D)(ds:List D)(v:Value):Prop:=∃id,MI s m v id/\∀s2 vs,Ok A F s2->bT s.heap s2.heap->aZ s2.heap F ds vs->CB prog w A E F s2 id d (v::vs)
theorem n8(r0:bU s.heap F o v)(e:LO f o ds=some d)(k:∀x t,f x ds=some d->MS prog w A E F s m d ds (.str x t)):MS prog w A E F s m d ds v:=by
 obtain⟨x,_,e⟩:=aO e;obtain⟨t,q⟩:=r0.s x;exact q▸k _ t e
theorem ym{m:Me}{id:String}{f:List D->List D->Option D}{o d:D}(r0:bU s.heap F o v)(e:aaQ f o ds=some d)(u:Slot "list" m.str id)(b:typeOf (.builtin id)=pure (.type "method_descriptor"))(k:∀l a jO n s2 vs,IsL s2.heap a jO.toArray n->aZ s2.heap F l jO->aZ s2.heap F ds vs->f l ds=some d->CB prog w A E F s2 id d (.ref a::vs)):MS prog w A E F s m d ds v:=by
 obtain⟨x,_,e⟩:=aO e;obtain⟨a,jO,n,q,_,hl,hr⟩:=r0.l x;exact q▸⟨id,aoI hl u b,λs2 vs _ k2 r=>k _ a jO n s2 vs (k2 a _ hl) (hr.keeps k2) r e⟩
theorem ahX{P:List Value->Prop}{f:Int->Option D}{d:D}(r:aZ s.heap F ds vs)(e:d1 (EV f) ds=some d)(k:∀x t,f x=some d->P [.int x t]):P vs:=d1E r e λx v r e=>ahU (P:=λv=>P [v]) r e k
theorem aoK{P:List Value->Prop}{f:Str->Option D}{d:D}(r:aZ s.heap F ds vs)(e:d1 (UB f) ds=some d)(k:∀x t,f x=some d->P [.str x t]):P vs:=d1E r e λx v r e=>by
 obtain⟨x,_,e⟩:=aO e;obtain⟨t,q⟩:=r.s x;exact q▸k _ t e
theorem rB{m:Me}{id:String}{f:Str->Str->Option D}{o d:D}(r0:bU s.heap F o v)(e:aaS f o ds=some d)(a:Slot "str" m.str id)(b:typeOf (.builtin id)=pure (.type "method_descriptor"))(k:∀x t y u s2,f x y=some d->CB prog w A E F s2 id d [.str x t,.str y u]):MS prog w A E F s m d ds v:=
 n8 (f:=λx=>d1 (UB (f x))) r0 e λx t e=>⟨id,UC a b,λs2 vs _ _ r=>aoK (P:=λvs=>CB prog w A E F s2 id d (.str x t::vs)) r e λy u e=>k x t y u s2 e⟩
theorem E0(ok:Ok A F s)(e:(if x.length<=ei/\(spaceWords x (x.length+1)).length<=ei then some (D.lst ((SQ x).map .str))else none)=some d):wpAny (model prog w) A (call (.builtin "str.split") [.str x t]) (gU F s d) E s:=by
 obtain⟨h,rfl⟩:=bx e;refine GS Nz (typeIs_str _ _ _) PySem.F.entry_str_split (PySem.F.args_str_split_1 _) (meets_str_split_space x t (aq h.1 ic) (aq h.2 ic)) ?_;cases hw:spaceWords x (x.length+1)==[(0,x.length)]
 ·simp only[kq,if_false]
  have hn:(numbered s.toks (avo x)).map (·.1)=SQ x:=(numbered_texts _ _).trans (if_neg (ne_true_of_eq_false hw)).symm;rw[strsFrom_eq,<-hn,eO];exact⟨Keeps.EI _ _,m8 ok.lo (pX (numbered s.toks (avo x)))⟩
 ·simp only[if_true]
  have hn:[x]=SQ x:=(if_pos hw).symm;rw[<-hn];exact⟨Keeps.EI _ _,m8 ok.lo (pX [(x,t)])⟩
theorem LP{d:D}(hl:IsL s.heap a jO.toArray n)(hr:aZ s.heap F l jO)(r:aZ s.heap F ds vs)(e:ixL l ds=some d):CB prog w A E F s "list.index" d (.ref a::vs):=by
 refine ahX (P:=λvs=>CB prog w A E F s "list.index" d (.ref a::vs)) r e λk t e=>?_;obtain⟨ns,e1,e2⟩:=aO e;exact(bx e2).2▸HR hl.isList (lA e1 hr) (bx e2).1.2 (bx e2).1.1 lh
theorem LQ(e:aaR (occurrences x y 0 x.length 1)=some d):wpAny (model prog w) A (call (.builtin "str.index") [.str x t,.str y u]) (gU F s d) E s:=by
 cases h:occurrences x y 0 x.length 1 with
 |nil=>rw[h]at e;exact no e
 |cons i r=>rw[h]at e;exact af e▸SC.index h lh
theorem HS(r:aZ s.heap F ds vs)(e:Pn x ds=some d):CB prog w A E F s "str.join" d (.str x t::vs):=by
 refine d1E (P:=λvs=>CB prog w A E F s "str.join" d (.str x t::vs)) r e λy v r1 e=>ahV (P:=λv=>CB prog w A E F s "str.join" d [.str x t,v]) r1 e λl a vs n hl hr e=>?_;obtain⟨ys,e1,e2⟩:=aO e;exact(bx e2).2▸join_list hl.isList (LN e1 hr) (bx e2).1 λ_ _=>EM
theorem E1{d:D}(hl:IsL s.heap a jO.toArray n)(hr:aZ s.heap F l jO)(r:aZ s.heap F ds vs)(e:aaU l ds=some d):CB prog w A E F s "list.count" d (.ref a::vs):=by
 refine ahX (P:=λvs=>CB prog w A E F s "list.count" d (.ref a::vs)) r e λk t e=>?_;obtain⟨ns,e1,rfl⟩:=dC e;exact count_list_ints hl.isList (lA e1 hr) lh
theorem LR(r:aZ s.heap F ds vs)(e:aaT x ds=some d):CB prog w A E F s "str.lower" d (.str x t::vs):=by
 obtain⟨h,e⟩:=yl r e;exact h▸(bx e).2▸SCL.lower (aq (bx e).1 (by decide)) λ_=>EM
theorem Po(r0:bU s.heap F o v)(e:o6 m o ds=some d):MS prog w A E F s m d ds v:=by
 cases m with
 |index=>exact jV e (λe=>ym r0 e Lc PySem.F.type_list_index λl a jO n s2 vs hl hr r e=>LP hl hr r e) λe=>rB (f:=λx y=>aaR (occurrences x y 0 x.length 1)) r0 e PySem.F.slot_str_index PySem.F.type_str_index λx t y u s2 e=>LQ e
 |find=>exact rB (f:=XQ) r0 e PySem.F.slot_str_find PySem.F.type_str_find λx t y u s2 e=>by exact af e▸SC.find lh
 |startswith=>exact rB (f:=swS) r0 e PySem.F.slot_str_startswith PySem.F.type_str_startswith λx t y u s2 e=>by exact af e▸SC.startswith XH
 |join=>exact n8 (f:=Pn) r0 e λx t e=>⟨_,UC PySem.F.slot_str_join PySem.F.type_str_join,λs2 vs _ _ r=>HS r e⟩
 |split=>exact n8 (f:=XR) r0 e λx t e=>⟨_,UC Nz PySem.F.type_str_split,λs2 vs ok _ r=>(yl r e).1▸E0 ok (yl r e).2⟩
 |lower=>exact n8 (f:=aaT) r0 e λx t e=>⟨_,UC PySem.F.slot_str_lower PySem.F.type_str_lower,λs2 vs _ _ r=>LR r e⟩
 |count=>exact ym (f:=aaU) r0 e PySem.F.slot_list_count PySem.F.type_list_count λl a jO n s2 vs hl hr r e=>E1 hl hr r e
 |jX=>
  obtain⟨x,_,e⟩:=aO e;obtain⟨t,q⟩:=r0.i x;exact q▸⟨_,aoJ,λs2 vs _ _ r=>(yl r e).1▸af (yl r e).2▸call_int_bit_length lh⟩
end
end
end Internal
namespace Internal
section
section
variable{prog:bb}{w:World}{A:aC}{E:Value->ah->Prop}{s:ah}{F:Addr->Prop}
abbrev TS(prog:bb)(w:World)(A:aC)(E:Value->ah->Prop)(s:ah)(b:Bool)(v:Value):Prop:=wpAny (model prog w) A (truthy v) (λc s'=>c=b/\Keeps s s') E s
theorem LU(h:l.length<=ei)(r:RL s.heap F l v):TS prog w A E s (!l.isEmpty) v:=by
 obtain⟨a,vs,n,e,na,hl,hr⟩:=r;have q:vs.toArray.isEmpty=l.isEmpty:=by cases l with
  |nil=>obtain rfl:=hr.m7;rfl
  |cons x l=>obtain⟨v,r,rfl,_⟩:=hr.eM;rfl
 exact e▸wpAny_truthy_list hl.isList (by rw[aX,hr.length];exact Pf h) ⟨congrArg _ q,Keeps.Uc _⟩
theorem mm(r:bU s.heap F d v)(e:m9 d=some b):TS prog w A E s b v:=by
 refine jV e (λe=>?_) λe=>jV e (λe=>?_) λe=>?_
 ·obtain⟨x,_,e⟩:=dC e
  exact(r.b x)▸fW ⟨e,Keeps.rfl'⟩
 ·obtain⟨x,_,e⟩:=dC e
  obtain⟨t,q⟩:=r.i x;exact q▸PyProof.Rows.truthy_int ⟨e,Keeps.rfl'⟩
 ·obtain⟨x,_,e⟩:=aO e
  exact(bx e).2▸LU (bx e).1 (r.l x)
theorem HT(r:bU s.heap F a v)(e:ahF op a=some d):wpAny (model prog w) A (unaryOp op v) (gU F s d) E s:=by
 cases op with
 |Not=>
  obtain⟨b,e1,rfl⟩:=dC e;exact PyProof.Rows.not_of (ai (mm r e1) (λc s' h=>⟨h.2,h.1▸kx⟩) λ_ _ x=>x)
 |USub=>
  obtain⟨x,_,rfl⟩:=dC e;obtain⟨t,q⟩:=r.i x;exact q▸PyProof.Rows.neg_int lh
 |Invert=>
  obtain⟨x,_,rfl⟩:=dC e;obtain⟨t,q⟩:=r.i x;exact q▸PyProof.Rows.invert_int lh
 |UAdd=>exact no e
def So(d:D)(n:Str):Option Bool:=(qI d).bind λ_=>if n="bool" then some false else if n="int" then some true else none
def Ct(n:Str):String:=if n="bool" then "bool" else "int"
theorem LV(r:bU s.heap F d v)(e:So d n=some b):
 wpAny (model prog w) A (call (.builtin "isinstance") [v,.type (Ct n)]) (gU F s (.bool b)) E s:=by
 obtain⟨x,_,e⟩:=aO e;obtain⟨t,q⟩:=r.i x;unfold Ct;by_cases hn:n="bool"
 ·rw[if_pos hn]at e⊢
  exact q▸PySem.IsiPair.int_bool (af e▸XH)
 ·rw[if_neg hn]at e⊢
  exact q▸PySem.IsiPair.int_int (s:=s) ((bx e).2▸⟨Keeps.rfl',kx⟩)
theorem Pp{I:Addr}{P:Nat->Value->Prop}{St:Nat->Heap->Prop}{i j:Nat}{v:Value}{Q:Unit->ah->Prop}(no:yd I P St)(p:P i v)(st:St j s.heap)(h:Q () s):
 wpAny (model prog w) A (letOwnedTupleGo (.Tuple [] default default) (.ref I) v) Q E s:=by
 have k:wpAny (model prog w) A (pure ()) Q E s:=aL h;refine Value.casesOn (motive:=λv=>P i v->wpAny (model prog w) A (letOwnedTupleGo (.Tuple [] default default) (.ref I) v) Q E s) v (λ_=>k) (λ_=>k) (λ_=>k) (λ_ _=>k) (λ_ _ _=>k) (λ_ _ _=>k) (λ_ _ _=>k) (λ_ _ _=>k) (λ_ _=>k) (λ_ _=>k) (λa p=>?_) p;rcases no with no|no
 ·obtain⟨o,T,ho,hc,hT⟩:=no j _ st
  show wpAny _ A (load I >>= _) Q E s;refine ao (wpAny_load ho ?_);obtain⟨cls,dict,data,slots⟩:=o;have hc:cls=.type T:=hc;clear ho no p st h;subst hc;cases data with
  |fields vs=>
   show wpAny _ A (if(_&&_)=true then _ else _) Q E s;rw[hT,Bool.false_and];exact k
  |_=>exact k
 ·exact absurd rfl (no i _ p a)
theorem qr{I:Addr}{P:Nat->Value->Prop}{St:Nat->Heap->Prop}{i j:Nat}{v:Value}{target:ae}{Q:Unit->ah->Prop}(no:yd I P St)(p:P i v)(st:St j s.heap)(h:Q () s):
 wpAny (model prog w) A (letOwnedTupleGo target (.ref I) v) Q E s:=by
 have k:wpAny (model prog w) A (letOwnedTupleGo (.Tuple [] default default) (.ref I) v) Q E s:=Pp no p st h;have k2:wpAny (model prog w) A (pure ()) Q E s:=aL h;exact eT (motive_1:=λtarget=>wpAny (model prog w) A (letOwnedTupleGo target (.ref I) v) Q E s) target (λ_ _ _=>k2) (λ_ _ _=>k2) (λ_ _ _ _=>k2) (λ_ _ _=>k2) (λ_ _ _ _=>k2) (λ_ _ _ _=>k2) (λ_ _ _=>k2) (λ_ _ _=>k2) (λ_ _ _ _=>k2) (λ_ _ _ _=>k2) (λ_ _ _ _ _=>k2) (λ_ _ _ _=>k2) (λ_ _=>k2) (λ_ _=>k2) (λ_ _=>k2) (λ_ _ _ _=>k2) (λ_ _ _ _=>k2) (λ_ _ _ _=>k2) (λ_ _=>k2) (λ_ _ _=>k2) (λ_ _ _=>k2) (λ_ _ _=>k2) (λ_ _=>k2) (λ_ _=>k2) (λ_ _=>k) (λ_ _ _=>k) (λ_ _ _ _=>k2)
theorem HU{ds:List D}{I:Addr}{fp:List Addr}{P:Nat->Value->Prop}{St:Nat->Heap->Prop}(W:Walks prog w A I fp [I] ds.length P St)(hI:s.heap.get? I=none)
(hP:∀i v h (F':Addr->Prop),P i v->Kept F s.heap h->(∀b,F' b->F b\/s.heap.get? b=none)->∀d,ds[i]? =some d->bU h F' d v):
 ∀(n i:Nat)(aU:ah)(Q:List Value->ah->Prop),i+n=ds.length->Keeps s aU->St i aU.heap->
  (∀vs eU,Keeps s eU->St ds.length eU.heap->vs.length=n->(∀h,bT s.heap h->aZ h F (ds.drop i) vs)->Q vs eU)->
  wpAny (model prog w) A (draw (.ref I) n) Q E aU:=λn=>by
 induction n with
 |zero=>
  intro i aU Q hi k st h;show wpAny _ _ (pure []) Q E aU;have hi':i=ds.length:=by omega
  refine aL (h [] aU k (hi'▸st) rfl λ_ _=>?_);rw[hi',DM];exact .nil
 |succ n ih=>
  intro i aU Q hi k st h;have me:i<ds.length:=by omega
  show wpAny _ _ (pyNext (.ref I) >>= _) Q E aU;refine ao (W.item i _ _ _ me st λv h' tk p LW hk=>?_);obtain⟨ia,DR,rfl,ka⟩:=k;have k2:Keeps s {s with heap:=h',toks:=tk}:=⟨h',tk,rfl,λb o e=>hk b o (λhm=>by rw[aY.mp hm,hI]at e;cases e) (ka b o e)⟩
  refine ao (bQ (ih (i+1) _ _ (by omega) k2 LW λvs eU k3 xQ hl hr=>aL ?_));refine h (v::vs) eU k3 xQ (by simp[hl]) λhh Pq=>?_;rw[gw me];exact .cons (hP i v hh F p (λb o _ e=>Pq b o e) (λ_ q=>.inl q) _ (bz me)) (hr hh Pq)
theorem LX(e:LB d=some ds):items d=some ds:=by unfold items;rw[e];rfl
theorem Pr(r:bU s.heap F d v)(e:LB d=some ds):∃T id,s.TypeIs v T/\Slot T "__iter__" id:=by
 refine jV e (λe=>?_) λe=>?_
 ·obtain⟨x,_,_⟩:=dC e
  obtain⟨a,vs,n,q,na,hl,hr⟩:=r.l x;exact⟨"list",_,q▸hl.isList.typeIs,slot_list_iter⟩
 ·obtain⟨x,_,_⟩:=dC e
  obtain⟨a,vs,n,q,na,hl,hr⟩:=r.t x;exact⟨"tuple",_,q▸⟨_,hl,rfl⟩,PySem.F.slot_tuple_iter⟩
theorem mn{d:D}{ds:List D}{v:Value}(hh:A.handled=none)(lo:iQ F s.heap)(r:bU s.heap F d v)(e:LB d=some ds):
 wpAny (model prog w) A (unpackItems v ds.length none) (λvs s'=>Keeps s s'/\aZ s'.heap F ds vs) E s:=by
 have hi:=LX e;obtain⟨T,id,hT,slot⟩:=Pr r e;refine gp λQ hQ=>?_;unfold unpackItems;refine ao ?_;unfold notIterableAtAll;refine ao (wpAny_specialOf hT slot.lookup (aL ?_));show wpAny _ A (holding [v] (pyIter v) >>= _) Q E s;refine ao (bQ (ai (jW hh lo r hi) (λit s' h=>?_) λ_ _ x=>x));cases h.2 with
 |mk I fp P St hx no W st hI hI2 fpF hP=>
 subst hx;refine ao (bQ (HU (F:=F) W hI hP ds.length 0 s' _ (jw _) h.1 st λvs eU k2 NF hl hr=>?_));rw[if_neg (λz=>dN _ (hl▸z))];refine ao (bQ (W.done _ _ _ NF λyk tk hk=>?_));obtain⟨ia,DR,rfl,ka⟩:=k2;have kk:bT s.heap yk:=λb o e=>hk b o (λhm=>nG hI (aY.mp hm▸e)) (ka b o e);exact aL (hQ _ _ ⟨⟨yk,tk,rfl,kk⟩,hr yk kk⟩)
end
end
section
abbrev cu:=List (Str×D)
abbrev bW:=List (Str×gZ)
def put(n:Str)(d:D):cu->cu
 |[]=>[(n,d)]
 |(x,e)::r=>if x=n then(x,d)::r else(x,e)::put n d r
def look:cu->Str->Option D
 |[],_=>none
 |(x,d)::r,n=>if x=n then(match d with|.JR=>none|d=>some d)else look r n
theorem iT:∀{σ:cu},look (put n d σ) n=some e->e=d:=by
 intro zx
 induction zx with
 |nil=>
  rintro h;unfold put look at h;rw[if_pos rfl]at h;split at h<;>cases h;rfl
 |cons zh r ih=>
  obtain⟨x,e'⟩:=zh;rintro h;unfold put at h;split at h
  ·rename_i hx
   unfold look at h;rw[if_pos hx]at h;split at h<;>cases h;rfl
  ·rename_i hx
   unfold look at h;rw[if_neg hx]at h;exact ih h
theorem cU(hk:k≠n):∀{σ:cu},look (put n d σ) k=look σ k
 |[]=>by
  unfold put look;rw[if_neg (gi hk)];rfl
 |(x,e')::r=>by
  dsimp only[put];split
  ·rename_i hx
   subst hx;dsimp only[look];rw[if_neg (gi hk),if_neg (gi hk)]
  ·rename_i hx
   dsimp only[look];rw[cU hk]
inductive Upd(X:Addr->Prop)(s s':ah):Prop
 |mk (h:Heap) (tk:Nat) (e:s'={s with heap:=h,toks:=tk}) (k:Kept X s.heap h)
theorem Upd.refl:Upd X s s:=⟨_,_,rfl,λ_ _ _ e=>e⟩
theorem Upd.of(k:Keeps s s'):Upd X s s':=by
 obtain⟨h,t,rfl,k⟩:=k;exact⟨h,t,rfl,λb o _ e=>k b o e⟩
theorem Upd.trans(k:Upd X s s')(k':Upd X s' Lw):Upd X s Lw:=by
 obtain⟨h,t,rfl,k⟩:=k;obtain⟨h',t',rfl,k'⟩:=k';exact⟨h',t',rfl,λb o n e=>k' b o n (k b o n e)⟩
theorem Upd.more(k:Upd X s s')(h:∀a,X a->Y a):Upd Y s s':=by
 obtain⟨h',t,rfl,k⟩:=k;exact⟨h',t,rfl,λb o n e=>k b o (λq=>n (h b q)) e⟩
theorem Upd.kept(k:Upd X s s')(h:∀a,X a->G a):Kept G s.heap s'.heap:=by
 obtain⟨h',t,rfl,k⟩:=k;exactλb o n e=>k b o (λq=>n (h b q)) e
theorem Upd.rep(k:Upd X s s')(h:∀a,X a->G a)(r:bU s.heap G d v):bU s'.heap G d v:=
 bU.kept (k.kept h) (λ_ q=>.inl q) d v r
theorem Upd.E2(k:Upd X s s')(h:∀a,X a->G a)(r:aZ s.heap G d v):aZ s'.heap G d v:=
 aZ.kept (k.kept h) (λ_ q=>.inl q) d v r
theorem Upd.keeps(k:Upd X s s')(h:∀a,X a->az.heap.get? a=none)(k0:Keeps az s):Keeps az s':=by
 obtain⟨h',t,rfl,k⟩:=k;obtain⟨ia,DR,rfl,k0⟩:=k0;exact⟨h',t,rfl,λb o e=>k b o (λq=>by rw[h b q]at e;cases e) (k0 b o e)⟩
def Cl(env:Env)(n:Str):Prop:=env.kindOf n=some .cell\/env.kindOf n=some .free
inductive aoL(h:Heap)(G:Addr->Prop)(m:Str->Option Value)(n:Str)(d:D):Prop
 |mk (v:Value) (e:m n=some v) (r:bU h G d v)
inductive aoM(env:Env)(h:Heap)(G:Addr->Prop)(n:Str)(d:D):Prop
 |mk (c:Addr) (v:Value) (e:env.cells.lookup n=some c) (i:h.IsCell c (some v)) (r:bU h G d v)
inductive aaW(env:Env)(G:Addr->Prop)(σ:cu)(h:Heap):Prop
 |mk (m:Str->Option Value) (ns:h.Ns env.locals m) (f:∀n d,look σ n=some d->(env.kindOf n=some .local->aoL h G m n d)/\(Cl env n->aoM env h G n d))
structure In(env:Env)(G:Addr->Prop)(σ:cu)(h:Heap):Prop where
 fn:env.scope.kind=.function
 gl:env.globals=mainGlobals
 bi:env.builtins=builtinsNs
 lo:iQ G h
 fl:G env.locals
 fc:∀n c,env.cells.lookup n=some c->G c/\c≠env.locals
 inj:∀n n' c,env.cells.lookup n=some c->env.cells.lookup n'=some c->n=n'
 ce:∀n,env.kindOf n=some .cell->∃c v,env.cells.lookup n=some c/\h.IsCell c v
 va:aaW env G σ h
theorem In.keeps(x:In env G σ h)(k:bT h h'):In env G σ h':=by
 refine⟨x.fn,x.gl,x.bi,x.lo.keeps k,x.fl,x.fc,x.inj,λn hn=>?_,?_⟩
 ·obtain⟨c,v,h1,h2⟩:=x.ce n hn
  exact⟨c,v,h1,h2.keeps k⟩
 ·obtain⟨m,hm,hv⟩:=x.va
  refine⟨m,hm.keeps k,λn d e=>⟨λhk=>?_,λhk=>?_⟩⟩
  ·obtain⟨v,h1,h2⟩:=(hv n d e).1 hk
   exact⟨v,h1,h2.keeps k⟩
  ·obtain⟨c,v,h1,h2,h3⟩:=(hv n d e).2 hk
   exact⟨c,v,h1,h2.keeps k,h3.keeps k⟩
theorem In.sub(x:In env G σ h)(hs:∀n d,look σ' n=some d->look σ n=some d):In env G σ' h:=by
 refine⟨x.fn,x.gl,x.bi,x.lo,x.fl,x.fc,x.inj,x.ce,?_⟩;obtain⟨m,hm,hv⟩:=x.va;exact⟨m,hm,λn d e=>hv n d (hs n d e)⟩
theorem In.upd(x:In env G σ s.heap)(k:Upd X s s')(hX:∀a,X a->G a)(hlo:iQ G s'.heap)(hl:¬X env.locals)(hc:∀n c,env.cells.lookup n=some c->¬X c):
 In env G σ s'.heap:=by
 have kp:Kept X s.heap s'.heap:=k.kept λ_ q=>q;refine⟨x.fn,x.gl,x.bi,hlo,x.fl,x.fc,x.inj,λn hn=>?_,?_⟩
 ·obtain⟨c,v,h1,o,h2,h3⟩:=x.ce n hn
  exact⟨c,v,h1,o,kp _ _ (hc n c h1) h2,h3⟩
 ·obtain⟨m,hm,hv⟩:=x.va
  refine⟨m,hm.at' λo e=>kp _ _ hl e,λn d e=>⟨λhk=>?_,λhk=>?_⟩⟩
  ·obtain⟨v,h1,h2⟩:=(hv n d e).1 hk
   exact⟨v,h1,k.rep hX h2⟩
  ·obtain⟨c,v,h1,⟨o,h2,XK⟩,h3⟩:=(hv n d e).2 hk
   exact⟨c,v,h1,⟨o,kp _ _ (hc n c h1) h2,XK⟩,k.rep hX h3⟩
section
variable{prog:bb}{w:World}{A:aC}{E:Value->ah->Prop}{s:ah}{env:Env}{G:Addr->Prop}{σ:cu}
theorem In.name(x:In env G σ s.heap)(hk:env.kindOf n=some .local\/Cl env n)(hl:look σ n=some d)(hd:(n==("__debug__":Str))=false)(Aj:env.kindOf n=some .free->(n==("__classdict__":Str))=false):
 wpAny (model prog w) A (eval (.Name n pos) env) (λv s'=>s'=s/\bU s.heap G d v) E s:=by
 obtain⟨m,hm,hv⟩:=x.va;rcases hk with hk|hk
 ·obtain⟨v,h1,h2⟩:=(hv n d hl).1 hk
  exact i5 (jL x.fn hk hm h1 ⟨rfl,h2⟩) hd
 ·obtain⟨c,v,h1,h2,h3⟩:=(hv n d hl).2 hk
  rcases hk with hk|hk
  ·exact i5 (pQ x.fn hk h1 h2 ⟨rfl,h3⟩) hd
  ·exact i5 (Dt x.fn hk h1 h2 ⟨rfl,h3⟩ (Aj hk)) hd
theorem In.load(x:In env G σ s.heap)(hk:env.kindOf n=some .local\/env.kindOf n=some .cell)(hl:look σ n=some d):
 wpAny (model prog w) A (loadName env n) (λv s'=>s'=s/\bU s.heap G d v) E s:=by
 obtain⟨m,hm,hv⟩:=x.va;rcases hk with hk|hk
 ·obtain⟨v,h1,h2⟩:=(hv n d hl).1 hk
  exact jL x.fn hk hm h1 ⟨rfl,h2⟩
 ·obtain⟨c,v,h1,h2,h3⟩:=(hv n d hl).2 (.inl hk)
  exact pQ x.fn hk h1 h2 ⟨rfl,h3⟩
theorem iQ.sameBut(lo:iQ G h)(hs:rU a h h')(ha:(h'.get? a).isSome=true):iQ G h':=λb q=>by
 by_cases hb:b=a
 ·subst hb;exact ha
 ·obtain⟨o,e⟩:=ay.mp (lo b q)
  rw[hs.extBut b o hb e];rfl
theorem In.store(x:In env G σ s.heap)(hk:env.kindOf n=some .local\/env.kindOf n=some .cell)(r:bU s.heap G d v):
 wpAny (model prog w) A (storeName env n v) (λ_ s'=>Upd (λa=>a=env.locals\/env.cells.lookup n=some a) s s'/\In env G (put n d σ) s'.heap) E s:=by
 obtain⟨m,hm,hv⟩:=x.va;rcases hk with hk|hk
 ·refine mW hk hm (λh' Pt n9=>?_) (by rw[x.fn];rfl)
  have u:Upd (λa=>a=env.locals) s {s with heap:=h',toks:=s.toks+1}:=⟨h',_,rfl,λb o hb e=>n9.extBut b o hb e⟩
  refine⟨u.more λa q=>.inl q,x.fn,x.gl,x.bi,?_,x.fl,x.fc,x.inj,λk mI=>?_,⟨_,Pt,λk e he=>⟨λmI=>?_,λmI=>?_⟩⟩⟩
  ·obtain⟨o,_,_,ho,_⟩:=Pt
   exact x.lo.sameBut n9 (by rw[ho];rfl)
  ·obtain⟨c,v',h1,h2⟩:=x.ce k mI
   exact⟨c,v',h1,h2.sameBut n9 (x.fc k c h1).2⟩
  ·by_cases jY:k=n
   ·subst jY
    have:=iT he;subst this;exact⟨v,by simp,u.rep (λa q=>q▸x.fl) r⟩
   ·rw[cU jY]at he
    obtain⟨v',h1,h2⟩:=(hv k e he).1 mI;exact⟨v',by simpa [jY]using h1,u.rep (λa q=>q▸x.fl) h2⟩
  ·have jY:k≠n:=λq=>by subst q;rcases mI with mI|mI<;>(rw[hk]at mI;cases mI)
   rw[cU jY]at he;obtain⟨c,v',h1,h2,h3⟩:=(hv k e he).2 mI;exact⟨c,v',h1,h2.sameBut n9 (x.fc k c h1).2,u.rep (λa q=>q▸x.fl) h3⟩
 ·obtain⟨c,aoN,hc,hc0⟩:=x.ce n hk
  refine asS x.fn hk hc hc0 λh' LY n9=>?_;have u:Upd (λa=>a=c) s {s with heap:=h'}:=⟨h',_,rfl,λb o hb e=>n9.extBut b o hb e⟩
  have oe:=(x.fc n c hc).2;have hcG:=(x.fc n c hc).1;refine⟨u.more λa q=>.inr (q▸hc),x.fn,x.gl,x.bi,?_,x.fl,x.fc,x.inj,λk mI=>?_,⟨m,hm.sameBut n9 (gi oe),λk e he=>⟨λmI=>?_,λmI=>?_⟩⟩⟩
  ·obtain⟨o,ho,_⟩:=LY
   exact x.lo.sameBut n9 (by rw[ho];rfl)
  ·by_cases jY:k=n
   ·subst jY;exact⟨c,_,hc,LY⟩
   ·obtain⟨c',v',h1,h2⟩:=x.ce k mI
    exact⟨c',v',h1,h2.sameBut n9 λq=>jY (x.inj k n c (q▸h1) hc)⟩
  ·have jY:k≠n:=λq=>by subst q;rw[hk]at mI;cases mI
   rw[cU jY]at he;obtain⟨v',h1,h2⟩:=(hv k e he).1 mI;exact⟨v',h1,u.rep (λa q=>q▸hcG) h2⟩
  ·by_cases jY:k=n
   ·subst jY
    have:=iT he;subst this;exact⟨c,v,hc,LY,u.rep (λa q=>q▸hcG) r⟩
   ·rw[cU jY]at he
    obtain⟨c',v',h1,h2,h3⟩:=(hv k e he).2 mI;exact⟨c',v',h1,h2.sameBut n9 (λq=>jY (x.inj k n c (q▸h1) hc)),u.rep (λa q=>q▸hcG) h3⟩
end
end
section
def yn(e:ae):Option Str:=(rW e).map λx=>x.1.1
theorem lL(h:yn e=some n):∃p,e=.Name n p:=by
 obtain⟨x,_,rfl⟩:=dC h;exact⟨_,x.2⟩
def bindAll(ok:Str->Bool):List ae->List D->cu->Option cu
 |[],ds,σ=>match ds with
  |[]=>some σ
  |_::_=>none
 |e::es,ds,σ=>match ds with
  |[]=>none
  |d::ds=>(yn e).bind λn=>if ok n then bindAll ok es ds (put n d σ)else none
def ahZ(e:ae):Option (List ae):=(SX e).map λx=>x.1.1
def Br(ok:Str->Bool)(t:ae)(d:D)(σ:cu):Option cu:=
 match yn t with
 |some n=>if ok n then some (put n d σ)else none
 |none=>(ahZ t).bind λes=>(LB d).bind λds=>bindAll ok es ds σ
theorem LZ(h:ahZ e=some es):∃c p,e=.Tuple es c p:=by
 obtain⟨x,_,rfl⟩:=dC h;exact⟨_,_,x.2⟩
theorem Cu(h:bindAll ok (e::es) ds σ=some σ'):∃n p d l,e=.Name n p/\ds=d::l/\ok n=true/\bindAll ok es l (put n d σ)=some σ':=by
 cases ds with
 |nil=>exact no h
 |cons d l=>
  obtain⟨n,h1,h2⟩:=aO h;exact⟨n,(lL h1).choose,d,l,(lL h1).choose_spec,rfl,dy h2⟩
theorem wg(h:bindAll ok [] ds σ=some σ'):ds=[]/\σ'=σ:=by
 cases ds with
 |nil=>exact⟨rfl,(af h).symm⟩
 |cons d l=>exact no h
theorem mq{ok:Str->Bool}{σ':cu}{P:List ae->List D->cu->Prop}(h0:P [] [] σ')(h1:∀n p d es ds σ,ok n=true->P es ds (put n d σ)->P (.Name n p::es) (d::ds) σ)(es:List ae):∀ds σ,bindAll ok es ds σ=some σ'->P es ds σ:=by
 induction es with
 |nil=>intro ds σ h;rw[(wg h).1,<-(wg h).2];exact h0
 |cons e es ih=>
  intro ds σ h;obtain⟨n,p,d,l,rfl,rfl,h3,h4⟩:=Cu h;exact h1 n p d es l σ h3 (ih l _ h4)
theorem yo{ok:Str->Bool}{es:List ae}{ds:List D}{σ σ':cu}(h:bindAll ok es ds σ=some σ'):es.length=ds.length:=
 mq (P:=λes ds _=>es.length=ds.length) rfl (λ_ _ _ _ _ _ _ ih=>congrArg lx ih) es ds σ h
theorem yq{ok:Str->Bool}{env:Env}{es:List ae}{ds:List D}{σ σ':cu}(h:bindAll ok es ds σ=some σ'):(assignEach es env).findIdx? (·.1)=none/\(assignEach es env).length=es.length/\(assignEach es env).map (·.2)=es.map λe=>assign e env:=
 mq (P:=λes _ _=>(assignEach es env).findIdx? (·.1)=none/\(assignEach es env).length=es.length/\(assignEach es env).map (·.2)=es.map λe=>assign e env) ⟨rfl,rfl,rfl⟩
  (λn p _ es _ _ _ ih=>⟨by
    show List.findIdx? _ ((false,_)::assignEach es env)=none;rw[aeL,ih.1];rfl,congrArg lx ih.2.1,congrArg (assign (.Name n p) env::·) ih.2.2⟩) es ds σ h
section
variable{prog:bb}{w:World}{A:aC}{E:Value->ah->Prop}{env:Env}{G:Addr->Prop}
def WOk(env:Env)(ok:Str->Bool)(X:Addr->Prop):Prop:=
 X env.locals/\∀n,ok n=true->(env.kindOf n=some .local\/env.kindOf n=some .cell)/\∀c,env.cells.lookup n=some c->X c
theorem nj(wo:WOk env ok X)(x:In env G σ s.heap)(hn:ok n=true)(r:bU s.heap G d v):
 wpAny (model prog w) A (assign (.Name n pos) env v) (λ_ s'=>Upd X s s'/\In env G (put n d σ) s'.heap) E s:=
 g0 (ai (x.store (wo.2 n hn).1 r) (λ_ s' h=>⟨h.1.more λa q=>by
  rcases q with q|q
  ·exact q▸wo.1
  ·exact(wo.2 n hn).2 a q,h.2⟩) λ_ _ e=>e)
theorem Ak{X:Addr->Prop}{ok:Str->Bool}(wo:WOk env ok X)(hX:∀a,X a->G a)(es:List ae)(ds:List D)(vs:List Value)(σ σ':cu)(s:ah)(x:In env G σ s.heap)(r:aZ s.heap G ds vs)(h:bindAll ok es ds σ=some σ'):
 wpAny (model prog w) A (assignInOrder (es.map λe=>assign e env) vs) (λ_ s'=>Upd X s s'/\In env G σ' s'.heap) E s:=
 mq (P:=λes ds σ=>∀vs s,In env G σ s.heap->aZ s.heap G ds vs->wpAny (model prog w) A (assignInOrder (es.map λe=>assign e env) vs) (λ_ s'=>Upd X s s'/\In env G σ' s'.heap) E s)
  (λvs s x r=>by
    rw[r.m7];exact aL ⟨.refl,x⟩)
  (λn p d es ds σ hn ih vs s x r=>by
    obtain⟨v,vs,rfl,r1,r2⟩:=r.eM;exact ao (bQ (ai (nj wo x hn r1) (λ_ aU ia=>
     ai (ih vs aU ia.2 (ia.1.E2 hX r2)) (λ_ eU yk=>⟨ia.1.trans yk.1,yk.2⟩) λ_ _ e=>e) λ_ _ e=>e))) es ds σ h vs s x r
theorem E3(hh:A.handled=none)(wo:WOk env ok X)(hX:∀a,X a->G a)(x:In env G σ s.heap)(r:bU s.heap G d v)(h:Br ok t d σ=some σ'):
 wpAny (model prog w) A (assign t env v) (λ_ s'=>Upd X s s'/\In env G σ' s'.heap) E s:=by
 unfold Br at h;cases e:yn t with
 |some n=>
  rw[e]at h;obtain⟨p,rfl⟩:=lL e;obtain⟨hn,rfl⟩:=bx h;exact nj wo x hn r
 |none=>
  rw[e]at h;obtain⟨es,h0,q⟩:=aO h;obtain⟨c,p,rfl⟩:=LZ h0;obtain⟨ds,h1,h2⟩:=aO q;obtain⟨f1,f2,f3⟩:=yq (env:=env) h2;rw[arm_assign_Tuple];unfold unpack;rw[f1,f2,f3,yo h2];exact ao (dF (ao (bQ (ai (mn hh x.lo r h1) (λvs aU ia=>
   ai (Ak wo hX es ds vs _ _ aU (x.keeps (Keeps.all ia.1)) ia.2 h2) (λ_ eU yk=>⟨(Upd.of ia.1).trans yk.1,yk.2⟩) λ_ _ e=>e) λ_ _ e=>e))))
end
end
section
structure dq(A:aC)(La:Heap->Prop)(s:ah):Prop where
 hh:A.handled=none
 nb:i0 s.heap
 nl:s.heap.NoLimit
 gl:∃mg,s.heap.Ns mainGlobals mg
 tk:1<=s.toks
 un:A.units+200<cLine
 la:∀h,bT s.heap h->La h
theorem dq.keeps(o:dq A La s)(k:Keeps s s')(t:1<=s'.toks):dq A La s':=
 ⟨o.hh,NoneBooked.keeps o.nb (Keeps.all k),NoLimit.aaM o.nl (Keeps.all k),by obtain⟨m,x⟩:=o.gl;exact⟨m,x.keeps (Keeps.all k)⟩,t,o.un,λh kh=>o.la h λb ob e=>kh b ob (Keeps.all k b ob e)⟩
theorem dq.ok(o:dq A La s)(lo:iQ F s.heap):Ok A F s:=⟨o.hh,o.gl,o.tk,lo⟩
section
variable{prog:bb}{w:World}{A:aC}{E:Value->ah->Prop}
theorem bw(hn:1<=s.toks)(h:wpAny M A t Q E s):wpAny M A t (λa s'=>1<=s'.toks/\Q a s') E s:=
 ai (wpAny_toks_of hn h) (λ_ _ x=>x) λ_ _ x=>x.2
def UD(VB:cu->ae->Option Bool)(σ:cu):List ae->Option Bool
 |[]=>some true
 |c::cs=>(VB σ c).bind λb=>if b=true then UD VB σ cs else some false
theorem UE:∀(ifs:List ae)(s:ah)(Q:Bool->ah->Prop),Q false s->
 wpAny (model prog w) A (forIn ifs false λc r=>if r=true then do let ok<-isTrue c env (eval c env);pure (cb ok)else pure (cb r)) Q E s:=by
 intro zx
 induction zx with
 |nil=>
  rintro s Q h;exact aL h
 |cons c cs ih=>
  rintro s Q h;rw[iG];simp only[kq,if_false];exact ao (aL (ih s Q h))
theorem Bs(hV:∀c b s,VB σ c=some b->Keeps az s->1<=s.toks->wpAny (model prog w) A (isTrue c env (eval c env)) (λb' s'=>b'=b/\Keeps s s') E s):
 ∀(ifs:List ae)(b:Bool)(s:ah),UD VB σ ifs=some b->Keeps az s->1<=s.toks->
 wpAny (model prog w) A (forIn ifs true λc r=>if r=true then do let ok<-isTrue c env (eval c env);pure (cb ok)else pure (cb r)) (λb' s'=>b'=b/\Keeps s s') E s:=λifs=>by
 induction ifs with
 |nil=>intro b s h _ _;cases h;exact aL ⟨rfl,Keeps.rfl'⟩
 |cons c cs ih=>
  intro b s h k t;unfold UD at h;obtain⟨b1,h1,h2⟩:=aO h;rw[iG];simp only[if_true];refine ao (ao (ai (bw t (hV c b1 s h1 k t)) (λb' s' h'=>aL ?_) λ_ _ e=>e));obtain⟨t',rfl,k'⟩:=h';cases b' with
  |true=>
   rw[if_pos rfl]at h2;exact ai (ih b s' h2 (Keeps.trans' k k') t') (λ_ _ q=>⟨q.1,Keeps.trans' k' q.2⟩) λ_ _ e=>e
  |false=>
   rw[if_neg (by decide)]at h2;cases h2;exact UE cs s' _ ⟨rfl,k'⟩
def gN(f:D->Option (List D)):List D->Option (List D)
 |[]=>some []
 |d::ds=>(f d).bind λa=>(gN f ds).bind λb=>some (a++b)
def lM(VB:cu->ae->Option Bool)(ok:Str->Bool)(target:ae)(ifs:List ae)(sj:cu->Option (List D))(σ:cu)(d:D):Option (List D):=
 (Br ok target d σ).bind λxd=>(UD VB xd ifs).bind λb=>if b=true then sj xd else some []
theorem E4(DB:∀n,ok n=true->look JY n=none)(h:bindAll ok es ds σ=some σ'):(∀m e,look JY m=some e->look σ m=some e)->∀m e,look JY m=some e->look σ' m=some e:=
 mq (P:=λ_ _ σ=>(∀m e,look JY m=some e->look σ m=some e)->∀m e,look JY m=some e->look σ' m=some e) id
  (λn _ _ _ _ _ hn ih k=>ih λm e he=>by
    rw[cU λq=>no ((DB _ hn).symm.trans (q▸he))];exact k m e he) es ds σ h
theorem L0(DB:∀n,ok n=true->look σ n=none)(h:Br ok t d σ=some σ'):∀m e,look σ m=some e->look σ' m=some e:=by
 unfold Br at h;cases e:yn t with
 |some n=>
  rw[e]at h;obtain⟨hn,rfl⟩:=bx h;intro m e he;rw[cU λq=>no ((DB _ hn).symm.trans (q▸he))];exact he
 |none=>
  rw[e]at h;obtain⟨es,h0,q⟩:=aO h;obtain⟨ds,h1,h2⟩:=aO q;exact E4 DB h2 λ_ _ q=>q
inductive Acc(G:Addr->Prop)(h:Heap)(a:Addr)(ds:List D):Prop
 |mk (vs:Array Value) (n:Nat) (l:IsL h a vs n) (r:aZ h G ds vs.toList)
theorem Acc.cases(x:Acc G h a ds):∃vs n,IsL h a vs n/\aZ h G ds vs.toList:=by obtain⟨a,b,c,d⟩:=x;exact⟨a,b,c,d⟩
variable{G X:Addr->Prop}{cenv:Env}{La:Heap->Prop}{kW:List D}
theorem Bt(f:D->Option (List D))(d)(ds):gN f (d::ds)=(f d).bind λa=>(gN f ds).bind λb=>some (a++b):=rfl
theorem wi(f:D->Option (List D)):∀(a b:List D),gN f (a++b)=(gN f a).bind λx=>(gN f b).bind λy=>some (x++y):=by
 intro zx
 induction zx with
 |nil=>
  rintro b;show gN f b=(gN f b).bind λy=>some ([]++y);cases gN f b<;>rfl
 |cons d a ih=>
  rintro b;rw[cz,Bt,Bt,ih b];cases f d with
  |none=>rfl
  |some r=>
   cases gN f a with
   |none=>rfl
   |some x=>
    cases gN f b with
    |none=>rfl
    |some y=>simp
theorem HV(hi:i<ds.length)(h:gN f ds=some out):
 ∃o1 r rest,gN f (ds.take i)=some o1/\f ds[i]=some r/\out=o1++(r++rest)/\gN f (ds.take (i+1))=some (o1++r):=by
 have e:ds=ds.take i++(ds[i]::ds.drop (i+1)):=by
  rw[<-gw hi,WT]
 rw[e,wi]at h;obtain⟨o1,h1,h2⟩:=aO h;obtain⟨y,h3,h4⟩:=aO h2;cases h4;unfold gN at h3;obtain⟨r,h5,h6⟩:=aO h3;obtain⟨rest,h7,h8⟩:=aO h6;cases h8;refine⟨o1,r,rest,h1,h5,rfl,?_⟩;rw[List.take_add_one,bz hi,wi,h1];simp only[ag,Option.toList_some];dsimp only[gN];rw[h5];simp[gN]
theorem Acc.kept(x:Acc G h a ds)(k:Kept Y h h')(hY:∀b,Y b->G b)(ha:¬Y a):Acc G h' a ds:=by
 obtain⟨vs,n,h1,h2⟩:=x;exact⟨vs,n,k a _ ha h1,aZ.kept (λb o nb e=>k b o (λq=>nb (hY b q)) e) (λ_ q=>.inl q) _ _ h2⟩
theorem Acc.keeps(x:Acc G h a ds)(k:bT h h'):Acc G h' a ds:=by
 obtain⟨vs,n,h1,h2⟩:=x;exact⟨vs,n,k a _ h1,h2.keeps k⟩
theorem iQ.upd(lo:iQ G h)(k:Kept Y h h')(hY:∀b,Y b->(h'.get? b).isSome=true):iQ G h':=λb q=>by
 by_cases hb:Y b
 ·exact hY b hb
 ·obtain⟨o,e⟩:=ay.mp (lo b q)
  rw[k b o hb e];rfl
theorem In.less(x:In env G σ h)(h1:∀a,G' a->G a)(h2:∀a,(G a/\(a=env.locals\/∃n,env.cells.lookup n=some a))->G' a):In env G' σ h:=by
 refine⟨x.fn,x.gl,x.bi,λb q=>x.lo b (h1 b q),h2 _ ⟨x.fl,.inl rfl⟩,λn c e=>⟨h2 _ ⟨(x.fc n c e).1,.inr ⟨n,e⟩⟩,(x.fc n c e).2⟩,x.inj,x.ce,?_⟩;obtain⟨m,hm,hv⟩:=x.va;refine⟨m,hm,λn d e=>⟨λhk=>?_,λhk=>?_⟩⟩
 ·obtain⟨v,q1,q2⟩:=(hv n d e).1 hk
  exact⟨v,q1,q2.less λb q=>.inl (h1 b q)⟩
 ·obtain⟨c,v,q1,q2,q3⟩:=(hv n d e).2 hk
  exact⟨c,v,q1,q2,q3.less λb q=>.inl (h1 b q)⟩
theorem qt{I:Addr}{fp:List Addr}{n i:Nat}{P:Nat->Value->Prop}{St:Nat->Heap->Prop}(W:Walks prog w A I fp [I] n P St)(hi:i<n){s:ah}(t:1<=s.toks)(st:St i s.heap){Q:Option Value->ah->Prop}
(h:∀v s',1<=s'.toks->Upd (λa=>a=I) s s'->P i v->St (i+1) s'.heap->Q (some v) s'):wpAny (model prog w) A (pyNext (.ref I)) Q E s:=
 ai (bw t (Q:=λr s'=>1<=s'.toks->Q r s') (W.item i s _ E hi st λv _ _ p LW hk t=>h v _ t ⟨_,_,rfl,λb o nb e=>hk b o (λhm=>nb (aY.mp hm)) e⟩ p LW)) (λ_ _ q=>q.2 q.1) λ_ _ e=>e
theorem qu{I:Addr}{fp:List Addr}{n:Nat}{P:Nat->Value->Prop}{St:Nat->Heap->Prop}(W:Walks prog w A I fp [I] n P St){s:ah}(t:1<=s.toks)(st:St n s.heap){Q:Option Value->ah->Prop}
(h:∀s',1<=s'.toks->Upd (λa=>a=I) s s'->Q none s'):wpAny (model prog w) A (pyNext (.ref I)) Q E s:=
 ai (bw t (Q:=λr s'=>1<=s'.toks->Q r s') (W.done s _ E st λ_ _ hk t=>h _ t ⟨_,_,rfl,λb o nb e=>hk b o (λhm=>nb (aY.mp hm)) e⟩)) (λ_ _ q=>q.2 q.1) λ_ _ e=>e
theorem E5(J:Nat->ah->Prop)
(turn:∀n s,J n s->∀(Q:Du->ah->Prop)(E:Value->ah->Prop),(∀s',R (.ok .next) s'->Q (.done .next) s')->(∀m s',m<n->J m s'->Q (.again (.compLoop (.ListComp elt gens scope pos) k (.ref I) (.ref acc) cenv)) s')->
   wpAny (model prog w) A (compTurn (.ListComp elt gens scope pos) k (.ref I) (.ref acc) cenv) Q E s)
(n)(h:J n s):codeAny (model prog w) A (.compLoop (.ListComp elt gens scope pos) k (.ref I) (.ref acc) cenv) R s:=
 codeAny_loop rfl J (λn s hJ=>show wpAny _ A ((compTurn (.ListComp elt gens scope pos) k (.ref I) (.ref acc) cenv).onRaise (λx=>do noteFrame x cenv;theTreesLotGoes x)) _ _ s from
  wpAny_noted (turn n s hJ _ _ (λ_ q=>q) λm _ hm hJ=>⟨rfl,m,hm,hJ⟩)) n h
theorem In.shrink(x:In env G σ s.heap)(u:Upd (λa=>a=C) s s')(hC:G C)(hl:C≠env.locals)(hc:∀n,env.cells.lookup n≠some C):In env (λa=>G a/\a≠C) σ s'.heap:=by
 have kp:Kept (λa=>a=C) s.heap s'.heap:=u.kept λ_ q=>q;refine⟨x.fn,x.gl,x.bi,λb q=>kdS kp q.2 (x.lo b q.1),⟨x.fl,λz=>hl z.symm⟩,λn c e=>⟨⟨(x.fc n c e).1,λz=>hc n (z▸e)⟩,(x.fc n c e).2⟩,x.inj,λn hn=>?_,?_⟩
 ·obtain⟨c,v,q1,o,q2,q3⟩:=x.ce n hn
  exact⟨c,v,q1,o,kp c o (λz=>hc n (z▸q1)) q2,q3⟩
 ·obtain⟨m,hm,hv⟩:=x.va
  refine⟨m,hm.at' λo e=>kp _ o (λz=>hl z.symm) e,λn d e=>⟨λmI=>?_,λmI=>?_⟩⟩
  ·obtain⟨v,q1,q2⟩:=(hv n d e).1 mI
   exact⟨v,q1,(u.rep (G:=G) (λa q=>q▸hC) q2).less λb q=>.inl q.1⟩
  ·obtain⟨c,v,q1,⟨o,q2,q3⟩,q4⟩:=(hv n d e).2 mI
   exact⟨c,v,q1,⟨o,kp c o (λz=>hc n (z▸q1)) q2,q3⟩,(u.rep (G:=G) (λa q=>q▸hC) q4).less λb q=>.inl q.1⟩
theorem Acc.less(x:Acc G h a ds)(hG:∀b,G' b->G b):Acc G' h a ds:=
 by obtain⟨vs,n,h1,h2⟩:=x;exact⟨vs,n,h1,h2.less λb q=>.inl (hG b q)⟩
inductive CI(f:D->Option (List D))(ds:List D)(X:Addr->Prop)(I:Addr)(G:Addr->Prop)(cenv:Env)(σ:cu)(St:Nat->Heap->Prop)(acc:Addr)(kW:List D)(s:ah)(n:Nat)(s':ah):Prop
 |mk (i:Nat) (o1:List D) (hi:i<=ds.length) (hn:n=ds.length+1 - i) (h1:gN f (ds.take i)=some o1) (u:Upd (λa=>X a\/a=I) s s') (x:In cenv G σ s'.heap) (t:1<=s'.toks) (st:St i s'.heap) (ac:Acc G s'.heap acc (kW++o1))
theorem Cv{elt:ae}{gens:List dX}{scope:Scope}{pos:Pos}{k:Nat}{target:ae}{ifs:List ae}{aaZ:Pos}{acc:Addr}{I:Addr}{E6:Sem Du}{VB:cu->ae->Option Bool}{ok:Str->Bool}{sj:cu->Option (List D)}{σ:cu}{az:ah}
{fp:List Addr}{P:Nat->Value->Prop}{St:Nat->Heap->Prop}{ds:List D}{R:GV->ah->Prop}{Xw:Addr->Prop}{s:ah}
(Pu:compTurn (.ListComp elt gens scope pos) k (.ref I) (.ref acc) cenv=(do
   standAt aaZ
   match<-pyNext (.ref I)with
   |none=>pure (.done .next)
   |some v=>
    letOwnedTupleGo target (.ref I) v
    assign target cenv v
    let mut ok:=true
    for c in ifs do
     if ok then ok<-isTrue c cenv (eval c cenv)
    if ok then E6 else again (.compLoop (.ListComp elt gens scope pos) k (.ref I) (.ref acc) cenv)))
(am:dq A La az)(wo:WOk cenv ok Xw)(hwX:∀a,Xw a->X a)(hwa:¬Xw acc)(HW:∀a,X a->G a)(hIG:G I)(hIX:¬X I)(hX0:∀a,X a->az.heap.get? a=none)(Sp:az.heap.get? I=none)(haX:X acc)
(hIl:I≠cenv.locals)(hIc:∀n,cenv.cells.lookup n≠some I)(DB:∀n,ok n=true->look σ n=none)
(no:yd I P St)(W:Walks prog w A I fp [I] ds.length P St)(ye:∀i h,St i h->(h.get? I).isSome=true)(Co:∀b∈fp,b=I\/¬X b)
(hP:∀i v h,P i v->Kept (λa=>X a\/a=I) s.heap h->∀d,ds[i]? =some d->bU h G d v)
(hVB:∀E xd c b s,In cenv G xd s.heap->Keeps az s->1<=s.toks->VB xd c=some b->wpAny (model prog w) A (isTrue c cenv (eval c cenv)) (λb' s'=>b'=b/\Keeps s s') E s)
(hem:∀E (Q:Du->ah->Prop) xd s xs ys,In cenv G xd s.heap->Keeps az s->1<=s.toks->Acc G s.heap acc xs->sj xd=some ys->xs.length+ys.length<=ei->(∀n d,look σ n=some d->look xd n=some d)->
   (∀s',1<=s'.toks->Upd X s s'->In cenv G xd s'.heap->Acc G s'.heap acc (xs++ys)->Q (.again (.compLoop (.ListComp elt gens scope pos) k (.ref I) (.ref acc) cenv)) s')->wpAny (model prog w) A E6 Q E s)
(hR:∀s' xs,Upd (λa=>X a\/a=I) s s'->1<=s'.toks->In cenv (λa=>G a/\a≠I) σ s'.heap->Acc (λa=>G a/\a≠I) s'.heap acc (kW++xs)->gN (lM VB ok target ifs sj σ) ds=some xs->R (.ok .next) s')
{out:List D}(yr:gN (lM VB ok target ifs sj σ) ds=some out)(hlen:kW.length+out.length<=ei)
(k0:Upd (λa=>X a\/a=I) az s)(x:In cenv G σ s.heap)(tk:1<=s.toks)(st:St 0 s.heap)(ac:Acc G s.heap acc kW):
 codeAny (model prog w) A (.compLoop (.ListComp elt gens scope pos) k (.ref I) (.ref acc) cenv) R s:=by
 have aoQ:∀a,(X a\/a=I)->az.heap.get? a=none:=λa q=>q.elim (hX0 a) λz=>z▸Sp;have hIa:acc≠I:=λq=>hIX (q▸haX);have hfX:∀(b:Addr),b∈fp->¬X b:=λb hb=>(Co b hb).elim (λz=>z▸hIX) id;refine E5 (CI (lM VB ok target ifs sj σ) ds X I G cenv σ St acc kW s) (λn s1 hI Q E' hN hJ=>?_) (ds.length+1) ⟨0,[],de _,rfl,rfl,.refl,x,tk,st,(c6 kW).symm▸ac⟩;cases hI with
 |mk i o1 hi hn ho1 k1 x1 t1 XS ac1=>
 rw[Pu];refine ao (dF (ao ?_));rcases pE hi with me|Pw
 ·refine qt W me t1 XS λv s2 t2 u1 p LW=>?_
  obtain⟨o1',r,rest,h1,h2,h3,h4⟩:=HV me yr;cases ho1.symm.trans h1;obtain⟨xd,h5,h6⟩:=aO h2;obtain⟨b,h7,h8⟩:=aO h6;have x2:In cenv G σ s2.heap:=x1.upd u1 (λa q=>q▸hIG) (iQ.upd x1.lo (u1.kept λ_ q=>q) λb q=>q▸ye _ _ LW) (λq=>hIl q.symm) (λn c e q=>hIc n (q▸e));have k2:=k1.trans (u1.more λa q=>Or.inr (a:=X a) q);have kk2:=(k0.trans k2).keeps aoQ Keeps.rfl';have rep:=hP i v s2.heap p (k2.kept λ_ q=>q) _ (bz me);refine ao (qr no p LW (ao (ai (bw t2 (E3 am.hh wo (λa q=>HW a (hwX a q)) x2 rep h5)) (λ_ s3 Sq=>?_) λ_ _ e=>e)));have kk3:=Sq.2.1.keeps (λa q=>hX0 a (hwX a q)) kk2;have xQ:St (i+1) s3.heap:=W.frame _ _ _ LW λb hb o e=>Sq.2.1.kept (G:=Xw) (λ_ q=>q) b o (λz=>hfX b hb (hwX _ z)) e;have ac3:=(ac1.kept (u1.kept λ_ q=>q) (λb q=>q▸hIG) hIa).kept (Sq.2.1.kept λ_ q=>q) (λb q=>HW b (hwX b q)) hwa;refine ao (ai (bw Sq.1 (Bs (az:=s3) (λc b s hv k t=>hVB _ xd c b s (Sq.2.2.keeps (Keeps.all k)) (Keeps.trans' kk3 k) t hv) ifs b s3 h7 Keeps.rfl' Sq.1)) (λok4 s4 XT=>?_) λ_ _ e=>e);have aa0:=L0 DB h5;have x4:=Sq.2.2.keeps (Keeps.all XT.2.2);have D9:St (i+1) s4.heap:=W.frame _ _ _ xQ λb _ o e=>Keeps.all XT.2.2 b o e;have ac4:=ac3.keeps (Keeps.all XT.2.2);have u4:=(k2.trans (Sq.2.1.more λa q=>Or.inl (b:=a=I) (hwX a q))).trans (Upd.of XT.2.2);have hmn:ds.length+1 - (i+1)<n:=hn▸zY (qH me) (dW i);rw[<-XT.2.1]at h8;cases ok4 with
  |true=>
   have hl1:(kW++o1).length+r.length<=ei:=by
    rw[h3]at hlen;simp only[aG]at hlen⊢;omega
   exact hem _ _ xd s4 _ r x4 (Keeps.trans' kk3 XT.2.2) XT.1 ac4 h8 hl1 aa0 λs5 t5 u5 x5 ac5=>hJ _ s5 hmn ⟨i+1,o1++r,me,rfl,h4,u4.trans (u5.more λa q=>.inl q),x5.sub aa0,t5,
    W.frame _ _ _ D9 λb hb o e=>u5.kept (G:=X) (λ_ q=>q) b o (hfX b hb) e,(eN kW o1 r)▸ac5⟩
  |false=>
   rw[<-af h8]at h4;exact aL (hJ _ s4 hmn ⟨i+1,o1++[],me,rfl,h4,u4,x4.sub aa0,XT.1,D9,(c6 o1).symm▸ac4⟩)
 ·refine qu W t1 (Pw▸XS) λs2 t2 u1=>aL (hN _ (hR _ o1 (k1.trans (u1.more λa q=>.inr q)) t2 (x1.shrink u1 hIG hIl hIc) ((ac1.kept (u1.kept λ_ q=>q) (λb q=>q▸hIG) hIa).less λ_ q=>q.1) ?_))
  rw[Pw,rn]at ho1;exact ho1
end
end
section
def gF(env:Env):List (Str×gZ)->List (Str×Addr)->List (Str×Addr)
 |[],acc=>acc
 |(n,k)::r,acc=>if k==.free then gF env r ((n,(env.cells.lookup n).getD 0)::acc)else gF env r acc
theorem JZ:∀(names:List (Str×gZ))(acc:List (Str×Addr)),(∀n,(n,bJ)∈names->(env.cells.lookup n).isSome=true)->
 (forIn names acc (λ(x:Str×gZ) cs=>if(x.2==bJ)=true then do
   let c<-cellOf env x.1
   pure (cb ((x.1,c)::cs))else pure (cb cs)):Sem (List (Str×Addr)))=pure (gF env names acc):=by
 intro zx
 induction zx with
 |nil=>
  rintro acc _;exact rfl
 |cons zh r ih=>
  obtain⟨n,k⟩:=zh;rintro acc h;rw[iG];dsimp only;dsimp only[gF];have hr:∀n,(n,bJ)∈r->(env.cells.lookup n).isSome=true:=λn hn=>h n (aD _ hn);split
  ·rename_i hk
   have jQ:k=.free:=by simpa using hk
   obtain⟨c,hc⟩:=ay.mp (h n (by rw[jQ];exact aA));unfold cellOf;rw[hc];exact ih _ hr
  ·exact ih _ hr
theorem Px:∀(names:List (Str×gZ))(acc:List (Str×Addr))(n:Str)(c:Addr),(∀n,(n,bJ)∈names->(env.cells.lookup n).isSome=true)->(n,c)∈gF env names acc->(n,c)∈acc\/((n,bJ)∈names/\env.cells.lookup n=some c):=by
 intro zx
 induction zx with
 |nil=>
  rintro acc n c _ h;exact .inl h
 |cons zh r ih=>
  obtain⟨x,k⟩:=zh;rintro acc n c hs h;unfold gF at h;have hr:∀n,(n,bJ)∈r->(env.cells.lookup n).isSome=true:=λn hn=>hs n (aD _ hn);split at h
  ·rename_i hk
   have jQ:k=.free:=by simpa using hk
   rcases ih _ n c hr h with q|q
   ·rcases aJ.mp q with q|q
    ·obtain⟨c',hc⟩:=ay.mp (hs x (by rw[jQ];exact aA))
     rw[hc]at q;cases q;exact .inr ⟨by rw[jQ];exact aA,hc⟩
    ·exact .inl q
   ·exact .inr ⟨aD _ q.1,q.2⟩
  ·rcases ih _ n c hr h with q|q
   ·exact .inl q
   ·exact .inr ⟨aD _ q.1,q.2⟩
theorem Py:∀(names:List (Str×gZ))(acc:List (Str×Addr))(n:Str),((n,bJ)∈names\/∃c,(n,c)∈acc)->∃c,(n,c)∈gF env names acc:=λnames=>by
 induction names with
 |nil=>exactλacc n h=>h.resolve_left λh=>nomatch h
 |cons zh r ih=>
  obtain⟨x,k⟩:=zh;intro acc n h;dsimp only[gF];split
  ·rename_i hk
   have jQ:k=.free:=by simpa using hk
   apply ih;rcases h with h|⟨c,h⟩
   ·rcases aJ.mp h with h|h
    ·cases h;exact .inr ⟨_,aA⟩
    ·exact .inl h
   ·exact .inr ⟨c,aD _ h⟩
  ·rename_i hk
   apply ih;rcases h with h|h
   ·rcases aJ.mp h with h|h
    ·cases h;exact absurd rfl hk
    ·exact .inl h
   ·exact .inr h
theorem mem_lookup:∀{l:List (Str×α)}{n:Str}{k:α},(l.map (·.1)).Nodup->(n,k)∈l->l.lookup n=some k:=λ{l}=>by
 induction l with
 |nil=>exactλ_ h=>nomatch h
 |cons zh r ih=>
  obtain⟨x,j⟩:=zh;intro n k hd h;rw[bH,fM]at hd;rcases aJ.mp h with h'|h'
  ·cases h'
   rw[ez];simp
  ·have:n≠x:=λq=>hd.1 (fU.mpr ⟨_,h',q⟩)
   rw[ez,show(n==x)=false from by simpa using this];exact ih hd.2 h'
theorem og:∀{l:List (Str×α)}{n:Str}{c:α},(n,c)∈l->∃c',l.lookup n=some c':=λ{l}=>by
 induction l with
 |nil=>exactλh=>nomatch h
 |cons zh r ih=>
  obtain⟨x,j⟩:=zh;intro n k h;rw[ez];cases hb:n==x with
  |true=>exact⟨_,rfl⟩
  |false=>
   rcases aJ.mp h with h|h
   ·cases h;simp at hb
   ·exact ih h
theorem Al:∀(names:List (Str×gZ))(n:Nat)(a b:List (Str×Addr)),cellsFrom n names (a++b)=cellsFrom n names a++b:=by
 intro zx
 induction zx with
 |nil=>
  rintro _ _ _;exact rfl
 |cons zh r ih=>
  obtain⟨x,k⟩:=zh;rintro n a b;dsimp only[cellsFrom];split
  ·rw[<-cz,ih]
  ·exact ih n a b
theorem gS:∀(names:List (Str×gZ))(n:Nat)(a:List (Str×Addr))(x:Str)(c:Addr),(x,c)∈cellsFrom n names a->(x,c)∈a\/(x,pk)∈names:=by
 intro zx
 induction zx with
 |nil=>
  rintro _ _ _ _ h;exact .inl h
 |cons zh r ih=>
  obtain⟨y,k⟩:=zh;rintro n a x c h;unfold cellsFrom at h;split at h
  ·rename_i hk
   have jQ:k=.cell:=by simpa using hk
   rcases ih _ _ x c h with q|q
   ·rcases aJ.mp q with q|q
    ·cases q;exact .inr (by rw[jQ];exact aA)
    ·exact .inl q
   ·exact .inr (aD _ q)
  ·rcases ih _ _ x c h with q|q
   ·exact .inl q
   ·exact .inr (aD _ q)
theorem mJ:∀(names:List (Str×gZ))(n:Nat)(a:List (Str×Addr))(x:Str),((x,pk)∈names\/∃c,(x,c)∈a)->∃c,(x,c)∈cellsFrom n names a:=λnames=>by
 induction names with
 |nil=>exactλ_ _ _ h=>h.resolve_left λh=>nomatch h
 |cons zh r ih=>
  obtain⟨y,k⟩:=zh;intro n a x h;dsimp only[cellsFrom];split
  ·rename_i hk
   apply ih;rcases h with h|⟨c,h⟩
   ·rcases aJ.mp h with h|h
    ·cases h;exact .inr ⟨_,aA⟩
    ·exact .inl h
   ·exact .inr ⟨c,aD _ h⟩
  ·rename_i hk
   apply ih;rcases h with h|h
   ·rcases aJ.mp h with h|h
    ·cases h;exact absurd rfl hk
    ·exact .inl h
   ·exact .inr h
def d8(scope:Scope):bW:=scope.names.map λp=>(p.1,if p.2==.free then .cell else p.2)
def lj(σ:cu):List (Str×gZ)->cu
 |[]=>[]
 |(n,k)::r=>if k==.free then(n,(look σ n).getD .JR)::lj σ r else lj σ r
theorem L5:∀{names:List (Str×gZ)}{n:Str}{d:D},look (lj σ names) n=some d->(n,bJ)∈names/\look σ n=some d:=λ{names}=>by
 induction names with
 |nil=>intro n d h;cases h
 |cons a r ih=>
  intro n d h;obtain⟨x,k⟩:=a;unfold lj at h;split at h
  ·rename_i hk
   have jQ:k=.free:=by simpa using hk
   unfold look at h;split at h
   ·rename_i hx
    subst hx;refine⟨by rw[jQ];exact aA,?_⟩;cases hl:look σ x with
    |none=>rw[hl]at h;cases h
    |some e=>
     rw[hl,B5]at h;split at h<;>cases h;rfl
   ·exact⟨aD _ (ih h).1,(ih h).2⟩
  ·exact⟨aD _ (ih h).1,(ih h).2⟩
def mK(ks:bW)(σ:cu):List (Str×gZ)->Bool
 |[]=>true
 |(n,k)::r=>(if k==.free then(ks.lookup n==some .cell)&&(look σ n).isSome else true)&&mK ks σ r
theorem HX:∀{names:List (Str×gZ)},mK ks σ names=true->∀n,(n,bJ)∈names->ks.lookup n=some .cell/\∃d,look σ n=some d:=λ{names}=>by
 induction names with
 |nil=>exactλ_ _ h=>nomatch h
 |cons zh r ih=>
  obtain⟨x,k⟩:=zh;intro h n hm;unfold mK at h;rw[av]at h;rcases aJ.mp hm with hm|hm
  ·cases hm
   have h1:=h.1;rw[if_pos (by rfl),av]at h1;exact⟨by simpa using h1.1,ay.mp h1.2⟩
  ·exact ih h.2 n hm
theorem Am(hf:env.scope.kind=.function)(h:∀n,(n,bJ)∈scope.names->env.kindOf n=some .cell):(relabel scope env).names=d8 scope:=by
 unfold relabel d8;dsimp only;apply adT;rintro⟨n,k⟩ hm;dsimp only;by_cases hk:k=.free
 ·subst hk
  rw[h n hm,hf];rfl
 ·have:(k==bJ)=false:=by simpa using hk
  rw[this];simp
theorem An(hd:(scope.names.map (·.1)).Nodup)(h:(d8 scope).lookup n=some k):∃j,(n,j)∈scope.names/\k=if j==.free then .cell else j:=by
 have:=mem_of_lookup h;unfold d8 at this;obtain⟨⟨x,j⟩,h1,h2⟩:=Li this;cases h2;exact⟨j,h1,rfl⟩
theorem yt(hd:(scope.names.map (·.1)).Nodup)(h:(n,j)∈scope.names):(d8 scope).lookup n=some (if j==.free then .cell else j):=by
 refine mem_lookup ?_ (fU.mpr ⟨_,h,rfl⟩);rw[d8,eO];exact hd
section
variable{prog:bb}{w:World}{A:aC}{E:Value->ah->Prop}{G:Addr->Prop}{env:Env}{La:Heap->Prop}
theorem wj
(h:Q {scope:=scope,locals:=s.heap.objs.size,globals:=env.globals,cells:=cellsFrom (s.heap.objs.size+1) scope.names cl,qual:=q,func:=none,code:=env.code,frame:=env.frame,builtins:=env.builtins}
   {s with heap:=pushCells (s.heap.push {cls:=.type "dict",data:=.dict #[]}) scope.names}):
 wpAny (model prog w) A (newFunctionEnv scope env.globals cl [] q none .none (some env)) Q E s:=by
 simp only[newFunctionEnv,Option.isSome_some,if_true];refine ao (wpAny_alloc ?_);refine ao (wpAny_layCells _ (λname kind cells=>by cases hkc:kind==pk<;>simp[hkc]) _ _ _ _ ?_);rw[show({s with heap:=s.heap.push {cls:=.type "dict",data:=.dict #[]}}:ah).heap.objs.size=s.heap.objs.size+1 from hU ..];rw[pj];exact ao (aL (aL h))
end
end
section
section
variable{prog:bb}{w:World}{A:aC}{E:Value->ah->Prop}{G:Addr->Prop}{env:Env}{La:Heap->Prop}
abbrev jZ(scope:Scope)(env:Env)(C:Addr):List (Str×Addr):=cellsFrom (C+1) scope.names (gF env scope.names [])
abbrev fE(scope:Scope)(h:Heap):Heap:=pushCells (h.push {cls:=.type "dict",data:=.dict #[]}) scope.names
abbrev oh(scope:Scope)(env:Env)(C:Addr):Env:=compEnvC scope (jZ scope env C) C env
theorem HY(hd:(scope.names.map (·.1)).Nodup)(hf:∀n,(n,bJ)∈scope.names->(env.cells.lookup n).isSome=true)
(me:∀n c,(n,bJ)∈scope.names->env.cells.lookup n=some c->c<h.objs.size)(aoS:∀n n' c,env.cells.lookup n=some c->env.cells.lookup n'=some c->n=n'):
 (∀n c,(jZ scope env h.objs.size).lookup n=some c->((n,pk)∈scope.names/\(fE scope h).IsCell c none/\h.objs.size+1<=c)\/((n,bJ)∈scope.names/\env.cells.lookup n=some c))/\
 (∀n,(n,pk)∈scope.names->∃c,(jZ scope env h.objs.size).lookup n=some c)/\
 (∀n c,(n,bJ)∈scope.names->env.cells.lookup n=some c->(jZ scope env h.objs.size).lookup n=some c)/\
 (∀n n' c,(jZ scope env h.objs.size).lookup n=some c->(jZ scope env h.objs.size).lookup n'=some c->n=n'):=by
 have ok0:=cellsFrom_ok scope.names (h.push {cls:=.type "dict",data:=.dict #[]}) (h.objs.size+1) [] ⟨λ_ _ hm=>(nomatch hm),Ld⟩ (by rw[hU];exact b0 _);rw[hU]at ok0;have e1:∀n,(jZ scope env h.objs.size).lookup n=((cellsFrom (h.objs.size+1) scope.names []).lookup n).or ((gF env scope.names []).lookup n):=λn=>by
  show(cellsFrom (h.objs.size+1) scope.names ([]++gF env scope.names [])).lookup n=_;rw[Al,List.lookup_append]
 have e2:∀n,(n,bJ)∈scope.names->(cellsFrom (h.objs.size+1) scope.names []).lookup n=none:=λn hn=>by
  cases hl:(cellsFrom (h.objs.size+1) scope.names []).lookup n with
  |none=>rfl
  |some c=>
   rcases gS _ _ _ _ _ (mem_of_lookup hl)with q|q
   ·cases q
   ·have a:=mem_lookup hd hn
    have b:=mem_lookup hd q;rw[a]at b;cases b
 have e3:∀n c,(gF env scope.names []).lookup n=some c->(n,bJ)∈scope.names/\env.cells.lookup n=some c:=λn c hl=>by
  rcases Px _ _ _ _ hf (mem_of_lookup hl)with q|q
  ·cases q
  ·exact q
 refine⟨λn c hl=>?_,λn hn=>?_,λn c hn hc=>?_,λn n' c hl pN=>?_⟩
 ·rw[e1]at hl
  cases ho:(cellsFrom (h.objs.size+1) scope.names []).lookup n with
  |some c'=>
   rw[ho,Hd]at hl;cases hl;refine .inl ⟨?_,ok0.empty n c (mem_of_lookup ho)⟩;rcases gS _ _ _ _ _ (mem_of_lookup ho)with q|q
   ·cases q
   ·exact q
  |none=>
   rw[ho,nX]at hl;exact .inr (e3 n c hl)
 ·obtain⟨c,hm⟩:=mJ scope.names (h.objs.size+1) [] n (.inl hn)
  obtain⟨c',hl⟩:=og hm;exact⟨c',by rw[e1,hl,Hd]⟩
 ·obtain⟨c',hm⟩:=Py (env:=env) scope.names [] n (.inl hn)
  obtain⟨c'',hl⟩:=og hm;rw[e1,e2 n hn,nX,hl];have:=(e3 n c'' hl).2;rw[hc]at this;exact this.symm
 ·rw[e1]at hl pN
  have key:∀m,((cellsFrom (h.objs.size+1) scope.names []).lookup m).or ((gF env scope.names []).lookup m)=some c->((m,c)∈cellsFrom (h.objs.size+1) scope.names []/\h.objs.size+1<=c)\/(env.cells.lookup m=some c/\c<h.objs.size):=λm q=>by
   cases ho:(cellsFrom (h.objs.size+1) scope.names []).lookup m with
   |some c'=>rw[ho,Hd]at q;cases q;exact .inl ⟨mem_of_lookup ho,(ok0.empty m c (mem_of_lookup ho)).2⟩
   |none=>
    rw[ho,nX]at q;exact .inr ⟨(e3 m c q).2,me m c (e3 m c q).1 (e3 m c q).2⟩
  rcases key n hl with q|q<;>rcases key n' pN with q'|q'
  ·exact name_of_addr ok0.apart q.1 q'.1
  ·exact absurd (ck q'.2 (Dv q.2)) (dN _)
  ·exact absurd (ck q.2 (Dv q'.2)) (dN _)
  ·exact aoS n n' c q.1 q'.1
def L6(scope:Scope)(n:Str):Bool:=match scope.names.lookup n with|some .local=>true|some .cell=>true|_=>false
theorem sk(x:In env G σ aU.heap)(hk:scope.kind=.function)(hd:(scope.names.map (·.1)).Nodup)(hf:mK env.scope.names σ scope.names=true)(k:Keeps aU fu):
 (relabel scope env).names=d8 scope/\
 closureFor scope env=pure (gF env scope.names [])/\
 In (oh scope env fu.heap.objs.size) (λa=>G a\/(aU.heap.get? a=none/\((fE scope fu.heap).get? a).isSome=true)) (lj σ scope.names) (fE scope fu.heap)/\
 WOk (oh scope env fu.heap.objs.size) (L6 scope) (λa=>fu.heap.objs.size<=a/\((fE scope fu.heap).get? a).isSome=true)/\
 (∀n c,(oh scope env fu.heap.objs.size).cells.lookup n=some c->fu.heap.objs.size+1<=c\/(aU.heap.get? c).isSome=true):=by
 have o7:=HX hf;have pY:∀n,(n,bJ)∈scope.names->∃c v d,env.cells.lookup n=some c/\aU.heap.IsCell c (some v)/\look σ n=some d/\bU aU.heap G d v:=λn hn=>by
  obtain⟨h1,d,h2⟩:=o7 n hn;obtain⟨m,hm,hv⟩:=x.va;obtain⟨c,v,q1,q2,q3⟩:=(hv n d h2).2 (.inl h1);exact⟨c,v,d,q1,q2,h2,q3⟩
 have XU:∀n,(n,bJ)∈scope.names->(env.cells.lookup n).isSome=true:=λn hn=>by
  obtain⟨c,v,d,q1,_⟩:=pY n hn;rw[q1];rfl
 have XN:bT aU.heap fu.heap:=Keeps.all k;have me:∀n c,(n,bJ)∈scope.names->env.cells.lookup n=some c->c<fu.heap.objs.size:=λn c hn hc=>by
  obtain⟨c',v,d,q1,⟨o,q2,_⟩,_⟩:=pY n hn;rw[hc]at q1;cases(q1);exact cT (XN c o q2)
 obtain⟨c1,c2,c3,c4⟩:=HY (env:=env) (scope:=scope) (h:=fu.heap) hd XU me x.inj;have E7:=Am x.fn λn hn=>(o7 n hn).1;have hold:∀b o,fu.heap.get? b=some o->(fE scope fu.heap).get? b=some o:=λb o e=>pG _ _ b o (aV _ e);have hC:(fE scope fu.heap).get? fu.heap.objs.size=some {cls:=.type "dict",data:=.dict #[]}:=pG _ _ _ _ (gL _ _ rfl);have ah4:∀a,fu.heap.objs.size<=a->aU.heap.get? a=none:=λa ha=>by
  cases e:aU.heap.get? a with
  |none=>rfl
  |some o=>exact absurd (cT (XN a o e)) (pH.mpr ha)
 have hG:∀b,(G b\/(aU.heap.get? b=none/\((fE scope fu.heap).get? b).isSome=true))->G b\/aU.heap.get? b=none:=λb q=>q.imp id adU;have mr:∀n j,(oh scope env fu.heap.objs.size).kindOf n=some j->∃i,(n,i)∈scope.names/\j=if i==.free then .cell else i:=λn j h=>by
  have h':(relabel scope env).names.lookup n=some j:=h;rw[E7]at h';exact An hd h'
 have aa3:closureFor scope env=pure (gF env scope.names []):=by
  have:=JZ (env:=env) scope.names [] XU;simp only[closureFor];rw[this];rfl
 refine⟨E7,aa3,⟨hk,x.gl,x.bi,?_,.inr ⟨ah4 _ (b0 _),congrArg pP hC⟩,λn c e=>?_,c4,λn hn=>?_,?_⟩,⟨⟨b0 _,congrArg pP hC⟩,λn hn=>?_⟩,λn c e=>?_⟩
 ·rintro b (q|q)
  ·exact(x.lo.keeps XN).keeps hold b q
  ·exact q.2
 ·rcases c1 n c e with⟨_,⟨o,q1,_⟩,q2⟩|⟨q1,q2⟩
  ·exact⟨.inr ⟨ah4 _ (by omega),by rw[q1];rfl⟩,Nat.ne_of_gt q2⟩
  ·exact⟨.inl (x.fc n c q2).1,el (me n c q1 q2)⟩
 ·obtain⟨i,h1,h2⟩:=mr n _ hn
  by_cases hi:i=.free
  ·subst hi
   obtain⟨c,v,d,q1,q2,_⟩:=pY n h1;exact⟨c,_,c3 n c h1 q1,(q2.keeps XN).keeps hold⟩
  ·have:(i==bJ)=false:=by simpa using hi
   rw[this]at h2;simp only[kq,if_false]at h2;subst h2;obtain⟨c,hc⟩:=c2 n h1;rcases c1 n c hc with⟨_,q1,_⟩|⟨q1,_⟩
   ·exact⟨c,_,hc,q1⟩
   ·have a:=mem_lookup hd h1
    have b:=mem_lookup hd q1;rw[a]at b;cases b
 ·refine⟨_,(Heap.Ns.new fu.heap (.type "dict")).keeps (pG _ _),λn d e=>?_⟩
  obtain⟨h1,h2⟩:=L5 e;obtain⟨c,v,d',q1,q2,q3,q4⟩:=pY n h1;rw[h2]at q3;cases q3;refine⟨λmI=>?_,λ_=>⟨c,v,c3 n c h1 q1,(q2.keeps XN).keeps hold,bU.kept (F:=G) (λb o _ e=>hold b o (XN b o e)) hG _ _ q4⟩⟩;have h':(relabel scope env).names.lookup n=some .local:=mI;rw[E7,yt hd h1]at h';cases h'
 ·unfold L6 at hn
  have key:∀j,scope.names.lookup n=some j->j≠.free->(oh scope env fu.heap.objs.size).kindOf n=some j:=λj h hj=>by
   show(relabel scope env).names.lookup n=some j;rw[E7,yt hd (mem_of_lookup h)];have:(j==bJ)=false:=by simpa using hj
   rw[this];rfl
  have fin:∀j,scope.names.lookup n=some j->j≠.free->∀c,(oh scope env fu.heap.objs.size).cells.lookup n=some c->fu.heap.objs.size<=c/\((fE scope fu.heap).get? c).isSome=true:=λj h hj c hc=>by
   rcases c1 n c hc with⟨_,⟨o,q1,_⟩,q2⟩|⟨q1,_⟩
   ·exact⟨by omega,by rw[q1];rfl⟩
   ·have a:=mem_lookup hd (mem_of_lookup h)
    have b:=mem_lookup hd q1;rw[a]at b;cases b;exact absurd rfl hj
  split at hn
  ·rename_i h
   exact⟨.inl (key _ h (by decide)),fin _ h (by decide)⟩
  ·rename_i h
   exact⟨.inr (key _ h (by decide)),fin _ h (by decide)⟩
  ·cases hn
 ·rcases c1 n c e with⟨_,_,q2⟩|⟨q1,q2⟩
  ·exact .inl q2
  ·obtain⟨c',v,d,r1,⟨o,r2,_⟩,_⟩:=pY n q1
   rw[q2]at r1;cases r1;exact .inr (by rw[r2];rfl)
end
end
section
theorem Ao(elt t1 i1)(f1)(t2 i2)(f2)(scope)(pos)(it acc)(env):
 compTurn (.ListComp elt [⟨t1,i1,f1,0⟩,⟨t2,i2,f2,0⟩] scope pos) 0 it acc env=(do
  standAt i1.pos
  match<-pyNext it with
  |none=>pure (.done .next)
  |some v=>
   letOwnedTupleGo t1 it v
   assign t1 env v
   let mut ok:=true
   for c in f1 do
    if ok then ok<-isTrue c env (eval c env)
   if ok then
    (do
      let x<-eval i2 env
      standAt i2.pos
      let x<-foldedSetIterable i2 env x;let it'<-holding [x] (pyIter x);let _<-runOwn (.compStart (.ListComp elt [⟨t1,i1,f1,0⟩,⟨t2,i2,f2,0⟩] scope pos) 1 it' acc env) env
      again (.compLoop (.ListComp elt [⟨t1,i1,f1,0⟩,⟨t2,i2,f2,0⟩] scope pos) 0 it acc env))
   else again (.compLoop (.ListComp elt [⟨t1,i1,f1,0⟩,⟨t2,i2,f2,0⟩] scope pos) 0 it acc env)):=by rfl
theorem so(elt t1 i1)(f1)(scope)(pos)(it acc)(env):
 compTurn (.ListComp elt [⟨t1,i1,f1,0⟩] scope pos) 0 it acc env=(do
  standAt i1.pos
  match<-pyNext it with
  |none=>pure (.done .next)
  |some v=>
   letOwnedTupleGo t1 it v
   assign t1 env v
   let mut ok:=true
   for c in f1 do
    if ok then ok<-isTrue c env (eval c env)
   if ok then(do
       let _<-(do let _<-call (.builtin "list.append") [acc,<-eval elt env])
       again (.compLoop (.ListComp elt [⟨t1,i1,f1,0⟩] scope pos) 0 it acc env))
   else again (.compLoop (.ListComp elt [⟨t1,i1,f1,0⟩] scope pos) 0 it acc env)):=by rfl
theorem Ap(elt t1 i1)(f1)(t2 i2)(f2)(scope)(pos)(it acc)(env):
 compTurn (.ListComp elt [⟨t1,i1,f1,0⟩,⟨t2,i2,f2,0⟩] scope pos) 1 it acc env=(do
  standAt i2.pos
  match<-pyNext it with
  |none=>pure (.done .next)
  |some v=>
   letOwnedTupleGo t2 it v
   assign t2 env v
   let mut ok:=true
   for c in f2 do
    if ok then ok<-isTrue c env (eval c env)
   if ok then(do
       let _<-(do let _<-call (.builtin "list.append") [acc,<-eval elt env])
       again (.compLoop (.ListComp elt [⟨t1,i1,f1,0⟩,⟨t2,i2,f2,0⟩] scope pos) 1 it acc env))
   else again (.compLoop (.ListComp elt [⟨t1,i1,f1,0⟩,⟨t2,i2,f2,0⟩] scope pos) 1 it acc env)):=by rfl
section
variable{prog:bb}{w:World}{A:aC}{E:Value->ah->Prop}{s:ah}{R:GV->ah->Prop}
theorem yu{scope pos it acc env}
(h0:codeAny (model prog w) A (.compLoop (.ListComp elt [⟨t1,i1,f1,0⟩,⟨t2,i2,f2,0⟩] scope pos) 1 it acc env) R s)
(h:wpAny (model prog w) A (pyIter it) (λit' s'=>codeAny (model prog w) A (.compLoop (.ListComp elt [⟨t1,i1,f1,0⟩,⟨t2,i2,f2,0⟩] scope pos) 1 it' acc env) R s')
   (notedBy (model prog w) A env λx s'=>R (.error x) s') s):
 codeAny (model prog w) A (.compStart (.ListComp elt [⟨t1,i1,f1,0⟩,⟨t2,i2,f2,0⟩] scope pos) 1 it acc env) R s:=by
 refine codeAny_of_tree ?_;show wpAny _ _ ((compStart (.ListComp elt [⟨t1,i1,f1,0⟩,⟨t2,i2,f2,0⟩] scope pos) 1 it acc env).onRaise (λx=>do noteFrame x env;standAt theWindowsPlace)) _ _ s;refine wpAny_notedAt ?_;unfold compStart;show wpAny _ _ (ask >>= _) _ _ s;refine ao (wpAny_askSetting (aeK ?_));split
 ·first
   |exact ao (aL (aL (SS rfl h0)))
   |exact aL (SS rfl h0)
 ·first
   |exact ao (jJ (ao (dF (ao (ai h (λit' s' h'=>aL (SS rfl h')) λ_ _ x=>x)))))
   |(refine ao (jJ ?_);show wpAny _ _ (standAt i2.pos >>= _) _ _ s;exact ao (dF (ao (ai h (λit' s' h'=>aL (SS rfl h')) λ_ _ x=>x))))
variable{G X:Addr->Prop}{cenv:Env}{La:Heap->Prop}
theorem E8(x:In cenv G xd s.heap)(haX:X acc)(haG:G acc)(hal:acc≠cenv.locals)(hac:∀n,cenv.cells.lookup n≠some acc)(ac:Acc G s.heap acc xs)
(hl:xs.length+1<=ei)(h:wpAny (model prog w) A (eval elt cenv) (gU G s d) E s):
 wpAny (model prog w) A (do let _<-call (.builtin "list.append") [.ref acc,<-eval elt cenv]) (λ_ s'=>Upd X s s'/\In cenv G xd s'.heap/\Acc G s'.heap acc (xs++[d])) E s:=by
 refine ao (ai h (λv s1 h1=>?_) λ_ _ e=>e);obtain⟨k,r⟩:=h1;obtain⟨vs,n,q1,q2⟩:=ac.keeps (Keeps.all k);have fX:ei=1048576:=rfl;have hsz:vs.size<=sizeLine:=by
  have h1:=q2.length;have h2:=ic;rw[cj]at h1;exact aq (by rw[h1];omega) h2
 refine ao (lF (hsz:=hsz) ⟨n,q1⟩ λh' hp hs=>aL ?_);have u:Upd (λa=>a=acc) s1 {s1 with heap:=h'}:=⟨h',_,rfl,λb o hb e=>hs.extBut b o hb e⟩
 obtain⟨n',hp⟩:=hp;refine⟨(Upd.of k).trans (u.more λa q=>q▸haX),?_,?_⟩
 ·refine(x.keeps (Keeps.all k)).upd u (λa q=>q▸haG) ?_ (λq=>hal q.symm) (λn c e q=>hac n (q▸e))
  exact iQ.upd (x.lo.keeps (Keeps.all k)) (u.kept (G:=λa=>a=acc) λ_ q=>q) λb q=>by subst q;rw[hp];rfl
 ·refine⟨vs.push v,n',hp,?_⟩
  rw[AX];exact(u.E2 (λa q=>q▸haG) q2).append (.one (u.rep (λa q=>q▸haG) r))
end
end
section
structure Ev where
 d:bW->cu->ae->Option D
 b:bW->cu->ae->Option Bool
def i9(e:ae):Bool:= !(bO e.ctorIdx 7)
def qP(scope:Scope)(σ:cu)(n:Str):Bool:=L6 scope n&&(look σ n).isNone
def yv:List Str->Bool
 |[]=>true
 |x::xs=> !(xs.contains x)&&yv xs
theorem wk:∀{l:List Str},yv l=true->l.Nodup:=by
 intro zx
 induction zx with
 |nil=>
  rintro _;exact avl
 |cons x xs ih=>
  rintro h;unfold yv at h;simp only[av,cQ]at h;refine fM.mpr ⟨?_,ih h.2⟩;simpa using h.1
def E9(V:Ev)(scope:Scope)(elt:ae)(σ:cu):Option (List D):=(V.d (d8 scope) σ elt).map λd=>[d]
def Pz(V:Ev)(scope:Scope)(elt t2 i2:ae)(f2:List ae)(σ:cu):Option (List D):=
 (V.d (d8 scope) σ i2).bind λd=>(items d).bind λds=>gN (lM (V.b (d8 scope)) (qP scope σ) t2 f2 (E9 V scope elt) σ) ds
def jl(V:Ev)(scope:Scope)(elt:ae):List dX->Option (ae×ae×List ae×(cu->Option (List D)))
 |[]=>none
 |g::r=>match r with
  |[]=>if g.is_async=0/\i9 g.iter=true then some (g.target,g.iter,g.ifs,E9 V scope elt)else none
  |h::r=>match r with
   |[]=>if(g.is_async=0/\i9 g.iter=true)/\h.is_async=0/\i9 h.iter=true then some (g.target,g.iter,g.ifs,Pz V scope elt h.target h.iter h.ifs)else none
   |_::_=>none
theorem ll(h:jl V scope elt gens=some c):
 ∃i gs,gens=⟨c.1,i,c.2.2.1,0⟩::gs/\c.2.1=i/\i9 i=true/\((gs=[]/\c.2.2.2=E9 V scope elt)\/∃t2 i2 f2,gs=[⟨t2,i2,f2,0⟩]/\i9 i2=true/\c.2.2.2=Pz V scope elt t2 i2 f2):=by
 cases gens with
 |nil=>exact no h
 |cons g r=>
  obtain⟨t,i,f,a⟩:=g;cases r with
  |nil=>
   obtain⟨⟨rfl,q2⟩,rfl⟩:=bx h;exact⟨_,_,rfl,rfl,q2,.inl ⟨rfl,rfl⟩⟩
  |cons k r=>
   obtain⟨t2,i2,f2,a2⟩:=k;cases r with
   |cons _ _=>exact no h
   |nil=>
    obtain⟨⟨⟨rfl,q2⟩,rfl,q4⟩,rfl⟩:=bx h;exact⟨_,_,rfl,rfl,q2,.inr ⟨_,_,_,rfl,q4,rfl⟩⟩
def yw(V:Ev)(ks:bW)(σ:cu)(elt:ae)(gens:List dX)(scope:Scope):Option (List D):=
 if(scope.kind=.function/\yv (scope.names.map (·.1))=true)/\mK ks σ scope.names=true then
  (jl V scope elt gens).bind λc=>(V.d ks σ c.2.1).bind λd=>(items d).bind λds=>
    (gN (lM (V.b (d8 scope)) (qP scope (lj σ scope.names)) c.1 c.2.2.1 c.2.2.2 (lj σ scope.names)) ds).bind λout=>if out.length<=ei then some out else none
 else none
section
variable{prog:bb}{w:World}{A:aC}{E:Value->ah->Prop}{G:Addr->Prop}{env:Env}{La:Heap->Prop}
structure c8(prog:bb)(w:World)(La:Heap->Prop)(Bu:aC->Prop)(V:Ev):Prop where
 d:∀(A:aC)(E:Value->ah->Prop) env G σ s e d,Bu A->dq A La s->In env G σ s.heap->V.d env.scope.names σ e=some d->wpAny (model prog w) A (eval e env) (gU G s d) E s
 b:∀(A:aC)(E:Value->ah->Prop) env G σ s e b,Bu A->dq A La s->In env G σ s.heap->V.b env.scope.names σ e=some b->wpAny (model prog w) A (isTrue e env (eval e env)) (λb' s'=>b'=b/\Keeps s s') E s
theorem jm(h:i9 e=true)(env)(x):foldedSetIterable e env x=pure x:=by
 have k:∀b:Bool,b=true->(pure x:Sem Value)=pure x:=λ_ _=>rfl;exact eT (motive_1:=λe=>i9 e=true->foldedSetIterable e env x=pure x) e (λ_ _ _=>k _) (λ_ _ _=>k _) (λ_ _ _ _=>k _) (λ_ _ _=>k _) (λ_ _ _ _=>k _) (λ_ _ _ _=>k _) (λ_ _ _=>k _) (λ_ _ _ h=>lW h) (λ_ _ _ _=>k _) (λ_ _ _ _=>k _) (λ_ _ _ _ _=>k _) (λ_ _ _ _=>k _) (λ_ _=>k _) (λ_ _=>k _) (λ_ _=>k _) (λ_ _ _ _=>k _) (λ_ _ _ _=>k _) (λ_ _ _ _=>k _) (λ_ _=>k _) (λ_ _ _=>k _) (λ_ _ _=>k _) (λ_ _ _=>k _) (λ_ _=>k _) (λ_ _=>k _) (λ_ _=>k _) (λ_ _ _=>k _) (λ_ _ _ _=>k _) h
theorem L8:∀n,qP scope σ n=true->look σ n=none:=λn h=>by
 unfold qP at h;rw[av]at h;simpa using h.2
theorem In.Fb{σ:cu}{h h':Heap}{Y:Addr->Prop}(x:In env G σ h)(k:bT h h')(hI:∀a,Y a->h.get? a=none)(hI':∀a,Y a->(h'.get? a).isSome=true):In env (λa=>G a\/Y a) σ h':=by
 have hG:∀b,(G b\/Y b)->G b\/h.get? b=none:=λb q=>Or.imp id (hI b) q;refine⟨x.fn,x.gl,x.bi,λb q=>q.elim (λq=>x.lo.keeps k b q) (hI' b),.inl x.fl,λn c e=>⟨.inl (x.fc n c e).1,(x.fc n c e).2⟩,x.inj,λn hn=>?_,?_⟩
 ·obtain⟨c,v,h1,h2⟩:=x.ce n hn
  exact⟨c,v,h1,h2.keeps k⟩
 ·obtain⟨m,hm,hv⟩:=x.va
  refine⟨m,hm.keeps k,λn d e=>⟨λhk=>?_,λhk=>?_⟩⟩
  ·obtain⟨v,h1,h2⟩:=(hv n d e).1 hk
   exact⟨v,h1,bU.kept (F:=G) (λb o _ e=>k b o e) hG _ _ h2⟩
  ·obtain⟨c,v,h1,h2,h3⟩:=(hv n d e).2 hk
   exact⟨c,v,h1,h2.keeps k,bU.kept (F:=G) (λb o _ e=>k b o e) hG _ _ h3⟩
theorem Upd.aa5(u:Upd (λa=>X a\/a=I) aU s')(k:Keeps s aU)(hI:s.heap.get? I=none):Upd X s s':=by
 obtain⟨h1,t1,rfl,ka⟩:=k;obtain⟨h2,t2,rfl,kb⟩:=u;exact⟨h2,t2,rfl,λb o nb e=>kb b o (λz=>z.elim nb λz=>nG hI (z▸e)) (ka b o e)⟩
theorem Acc.grow(x:Acc G h a ds)(k:bT h h')(hG:∀b,G' b->G b\/h.get? b=none):Acc G' h' a ds:=
 by obtain⟨vs,n,r1,r2⟩:=x;exact⟨vs,n,k _ _ r1,aZ.kept (F:=G) (λb o _ e=>k b o e) hG _ _ r2⟩
structure LC(A:aC)(La:Heap->Prop)(scope:Scope)(cenv:Env)(X Xw:Addr->Prop)(acc:Addr)(aU:ah):Prop where
 am:dq A La aU
 wo:WOk cenv (L6 scope) Xw
 hw:∀a,Xw a->X a
 wa:¬Xw acc
 h0:∀a,X a->aU.heap.get? a=none
 ha:X acc
 ac:∀n,cenv.cells.lookup n≠some acc
 nm:cenv.scope.names=d8 scope
theorem PA(h:qP scope σ n=true):L6 scope n=true:=((av _ _).mp h).1
section
variable{V:Ev}{Bu:aC->Prop}{scope:Scope}{cenv:Env}{X Xw:Addr->Prop}{acc:Addr}{aU s:ah}{elt:ae}{gens:List dX}{pos:Pos}{σ:cu}{ds out kW:List D}
theorem Cw(VO:c8 prog w La Bu V)(bu:Bu A)(c:LC A La scope cenv X Xw acc aU){k:Nat}{target:ae}{ifs:List ae}{aaZ:Pos}{E6:Value->Sem Du}{sj:cu->Option (List D)}{Gn:Addr->Prop}{sa sb:ah}{it:Value}{R:GV->ah->Prop}
(Pu:∀it,compTurn (.ListComp elt gens scope pos) k it (.ref acc) cenv=(do
   standAt aaZ
   match<-pyNext it with
   |none=>pure (.done .next)
   |some v=>
    letOwnedTupleGo target it v
    assign target cenv v
    let mut ok:=true
    for c in ifs do
     if ok then ok<-isTrue c cenv (eval c cenv)
    if ok then E6 it else again (.compLoop (.ListComp elt gens scope pos) k it (.ref acc) cenv)))
(hit:It prog w A G ds sa sb it)(k1:Keeps aU sa)(kab:Keeps sa sb)(kb:Keeps sb s)
(hX:∀b,X b->(G b\/sa.heap.get? b=none)/\Gn b/\(sa.heap.get? b=none->sb.heap.get? b=none))(hG:∀b,Gn b->G b\/sa.heap.get? b=none)(hI:∀b,sa.heap.get? b=none->(sb.heap.get? b).isSome=true->Gn b)(hc:∀n a,cenv.cells.lookup n=some a->X a\/(sa.heap.get? a).isSome=true)
(hem:∀it E (Q:Du->ah->Prop) xd s xs ys,In cenv Gn xd s.heap->Keeps aU s->1<=s.toks->Acc Gn s.heap acc xs->sj xd=some ys->xs.length+ys.length<=ei->(∀n d,look σ n=some d->look xd n=some d)->
   (∀s',1<=s'.toks->Upd X s s'->In cenv Gn xd s'.heap->Acc Gn s'.heap acc (xs++ys)->Q (.again (.compLoop (.ListComp elt gens scope pos) k it (.ref acc) cenv)) s')->wpAny (model prog w) A (E6 it) Q E s)
(hR:∀I s',sa.heap.get? I=none->Upd (λa=>X a\/a=I) s s'->1<=s'.toks->In cenv (λa=>Gn a/\a≠I) σ s'.heap->Acc (λa=>Gn a/\a≠I) s'.heap acc (kW++out)->R (.ok .next) s')
(yr:gN (lM (V.b (d8 scope)) (qP scope σ) target ifs sj σ) ds=some out)(hlen:kW.length+out.length<=ei)(x:In cenv Gn σ s.heap)(tk:1<=s.toks)(ac:Acc Gn s.heap acc kW):
 codeAny (model prog w) A (.compLoop (.ListComp elt gens scope pos) k it (.ref acc) cenv) R s/\∀(Q:Value->ah->Prop)(E:Value->ah->Prop),Q it s->wpAny (model prog w) A (pyIter it) Q E s:=by
 cases hit with
 |mk I fp P St hx no W st Sp ye Co hP=>
 subst hx;have hIb:=ye _ _ st;have nXI:¬X I:=λz=>nS ((hX I z).2.2 Sp) hIb;have LW:St 0 s.heap:=W.frame _ _ _ st λb _ o e=>Keeps.all kb b o e;have kas:=Keeps.trans' kab kb;refine⟨Cv (X:=X) (Xw:=Xw) (G:=Gn) (kW:=kW) (Pu _) c.am ⟨c.wo.1,λn hn=>c.wo.2 n (PA hn)⟩ c.hw c.wa (λa q=>(hX a q).2.1) (hI I Sp hIb) nXI c.h0 (JS (Keeps.all k1) Sp) c.ha (λz=>nXI (z▸c.hw _ c.wo.1)) (λn e=>(hc n I e).elim nXI λq=>nS Sp q) L8
  no W ye (λb hb=>(Co b hb).imp id λz q=>(hX b q).1.elim z.1 λq=>nS q z.2) (λi v h p kp d hd=>hP i v h Gn p (λb o nb e=>kp b o (λz=>z.elim (λz=>(hX b z).1.elim nb λq=>nG q e) λz=>nG Sp (z▸e)) (Keeps.all kas b o e)) hG d hd)
  (λE xd t b s xx kk tt hv=>VO.b A E _ Gn xd s t b bu (c.am.keeps kk tt) xx (c.nm▸hv)) (hem _) (λs' xs u t x ac hx=>hR I s' Sp u t x (af (yr.symm.trans hx)▸ac)) yr hlen (Upd.of (Keeps.trans' k1 kas)) x tk LW ac,λQ E q=>W.self 0 s Q E LW q⟩
theorem wq(VO:c8 prog w La Bu V)(bu:Bu A)(c:LC A La scope cenv X Xw acc aU)(hD:G acc)(x:In cenv G σ s.heap)(kk:Keeps aU s)(tt:1<=s.toks)(ac:Acc G s.heap acc xs)(he:E9 V scope elt σ=some ys)(hl:xs.length+ys.length<=ei)
(hQ:∀s',1<=s'.toks->Upd X s s'->In cenv G σ s'.heap->Acc G s'.heap acc (xs++ys)->Q (.again cc) s'):
 wpAny (model prog w) A (do
  let _<-(do let _<-call (.builtin "list.append") [.ref acc,<-eval elt cenv])
  again cc) Q E s:=by
 obtain⟨d,h1,rfl⟩:=dC he;exact ao (ai (bw tt (E8 x c.ha hD (λz=>c.wa (z▸c.wo.1)) c.ac ac hl (VO.d A _ _ G σ s elt d bu (c.am.keeps kk tt) x (c.nm▸h1)))) (λ_ s' q=>aL (hQ s' q.1 q.2.1 q.2.2.1 q.2.2.2)) λ_ _ e=>e)
theorem Fc(VO:c8 prog w La Bu V)(bu:Bu A)(c:LC A La scope cenv X Xw acc aU)(hn:i9 i2=true)(HW:∀a,X a->G a)(x:In cenv G σ s.heap)(kk:Keeps aU s)(tt:1<=s.toks)(ac:Acc G s.heap acc xs)
(he:Pz V scope elt t2 i2 f2 σ=some ys)(hl:xs.length+ys.length<=ei)(hQ:∀s',1<=s'.toks->Upd X s s'->In cenv G σ s'.heap->Acc G s'.heap acc (xs++ys)->Q (.again cc) s'):
 wpAny (model prog w) A (do
  let x<-eval i2 cenv
  standAt i2.pos
  let x<-foldedSetIterable i2 cenv x;let it'<-holding [x] (pyIter x);let _<-runOwn (.compStart (.ListComp elt [⟨t,i,f,0⟩,⟨t2,i2,f2,0⟩] scope pos) 1 it' (.ref acc) cenv) cenv
  again cc) Q E s:=by
 obtain⟨d,h1,h2⟩:=aO he;obtain⟨ds2,h3,h4⟩:=aO h2;refine ao (ai (bw tt (VO.d A _ _ G σ s i2 d bu (c.am.keeps kk tt) x (c.nm▸h1))) (λv s5 h5=>ao (dF (ao (asU (jm hn _ v) ?_)))) λ_ _ e=>e);have x5:=x.keeps (Keeps.all h5.2.1);refine ao (bQ (ai (bw h5.1 (jW c.am.hh x5.lo h5.2.2 h3)) (λit s6 h6=>ao ?_) λ_ _ e=>e));have k6:=Keeps.all h6.2.1;obtain⟨Gn,nU,hn2,hn3⟩:∃Gn:Addr->Prop,(∀b,G b->Gn b)/\(∀b,Gn b->G b\/(s5.heap.get? b=none/\(s6.heap.get? b).isSome=true))/\(∀b,s5.heap.get? b=none->(s6.heap.get? b).isSome=true->Gn b)/\In cenv Gn σ s6.heap:=
  ⟨_,λ_=>.inl,λ_ q=>q,λ_ q r=>.inr ⟨q,r⟩,x5.Fb k6 (λ_ q=>q.1) λ_ q=>q.2⟩
 have hn4:∀b,Gn b->G b\/s5.heap.get? b=none:=λb q=>(hn2 b q).imp id adU;have lo5:∀b,G b->∀I,s5.heap.get? I=none->b≠I:=λb q I hI z=>nS hI (z▸x5.lo b q);have m2:=Cw (R:=λr s'=>match r with
  |.ok _=>wpAny (model prog w) A (again cc) Q E s'
  |.error e=>cameBackBy (model prog w) A cenv E e s') (Gn:=Gn) (kW:=xs) VO bu c (λ_=>Ap elt t i f t2 i2 f2 scope pos _ _ _) h6.2.2
  (Keeps.trans' kk h5.2.1) h6.2.1 Keeps.rfl' (λb q=>⟨.inl (HW b q),nU b (HW b q),λe=>nS e (x5.lo b (HW b q))⟩) hn4 hn3.1 (λn a e=>.inr (x5.lo a (x5.fc n a e).1)) (λ_ E Q σ2 s xs ys r1 r2 r3 r4 r5 r6 _=>wq VO bu c (nU _ (HW _ c.ha)) r1 r2 r3 r4 r5 r6)
  (λI s' hI u tt xx ac=>aL (hQ s' tt (u.aa5 (Keeps.trans' h5.2.1 h6.2.1) (JS (Keeps.all h5.2.1) hI)) (xx.less (λa q=>⟨nU a q,lo5 a q I hI⟩) λa q=>(hn2 a q.1.1).resolve_right λr=>nS r.1 (q.2.elim (λz=>z▸x5.lo _ x5.fl) λ⟨n,z⟩=>x5.lo a (x5.fc n a z).1)) (ac.less λa q=>⟨nU a q,lo5 a q I hI⟩))) h4 hl hn3.2 h6.1
  ((ac.keeps (Keeps.all h5.2.1)).grow k6 hn4)
 exact wpAny_runOwn (h:=none) (yu m2.1 (m2.2 _ _ m2.1))
end
theorem UG{V:Ev}{Bu:aC->Prop}(VO:c8 prog w La Bu V)(bu:Bu A){scope:Scope}{σ:cu}{aU eU Fd:ah}{elt:ae}{gens:List dX}{pos:Pos}{c:ae×ae×List ae×(cu->Option (List D))}{it:Value}{ds out:List D}{R:GV->ah->Prop}{cenv:Env}{D:Addr}{G' X Xw:Addr->Prop}
(lc:LC A La scope cenv X Xw D aU)(xc:In cenv G' σ Fd.heap)(hG:∀a,G' a->G a\/aU.heap.get? a=none)(hX:∀a,X a->G' a/\eU.heap.get? a=none)(hI:∀b,aU.heap.get? b=none->(eU.heap.get? b).isSome=true->G' b)(oe:∀n c,cenv.cells.lookup n=some c->X c\/(aU.heap.get? c).isSome=true)
(hc:jl V scope elt gens=some c)(J0:Keeps aU eU)(J1:Keeps eU Fd)(tk4:1<=Fd.toks)(ac:Acc G' Fd.heap D [])(hit:It prog w A G ds aU eU it)
(yr:gN (lM (V.b (d8 scope)) (qP scope σ) c.1 c.2.2.1 c.2.2.2 σ) ds=some out)(hlen:out.length<=ei)
(hR:∀I s',aU.heap.get? I=none->Upd (λa=>X a\/a=I) Fd s'->1<=s'.toks->In cenv (λa=>G' a/\a≠I) σ s'.heap->Acc (λa=>G' a/\a≠I) s'.heap D ([]++out)->R (.ok .next) s'):
 codeAny (model prog w) A (.compStart (.ListComp elt gens scope pos) 0 it (.ref D) cenv) R Fd:=by
 have hX':∀b,X b->(G b\/aU.heap.get? b=none)/\G' b/\(aU.heap.get? b=none->eU.heap.get? b=none):=λb q=>⟨.inr (lc.h0 b q),(hX b q).1,λ_=>(hX b q).2⟩
 obtain⟨t,i,f,em⟩:=c;obtain⟨i',gs,rfl,rfl,Cp,hc⟩:=ll hc;rcases hc with⟨rfl,e⟩|⟨t2,i2,f2,rfl,aoW,e⟩
 ·have m:=Cw VO bu lc (λ_=>so elt t i f scope pos _ _ _) hit Keeps.rfl' J0 J1 hX' hG hI oe
   (λ_ E Q xd s xs ys q1 q2 q3 q4 q5 q6 _=>wq VO bu lc (hX _ lc.ha).1 q1 q2 q3 q4 q5 q6) hR (e▸yr) ((jw _).symm▸hlen) xc tk4 ac
  exact xi m.1 (m.2 _ _ m.1)
 ·have m:=Cw VO bu lc (λ_=>Ao elt t i f t2 i2 f2 scope pos _ _ _) hit Keeps.rfl' J0 J1 hX' hG hI oe
   (λ_ E Q xd s xs ys q1 q2 q3 q4 q5 q6 _=>Fc VO bu lc aoW (λa q=>(hX a q).1) q1 q2 q3 q4 q5 q6) hR (e▸yr) ((jw _).symm▸hlen) xc tk4 ac
  exact xi m.1 (m.2 _ _ m.1)
theorem PB{V:Ev}{Bu:aC->Prop}(VO:c8 prog w La Bu V)(bu:Bu A){scope:Scope}{σ:cu}{aU eU fu:ah}{elt:ae}{gens:List dX}{pos:Pos}{c:ae×ae×List ae×(cu->Option (List D))}{it:Value}{ds out:List D}{R:GV->ah->Prop}{D:Addr}
(am:dq A La aU)(x:In env G σ aU.heap)(hk:scope.kind=.function)(hd:(scope.names.map (·.1)).Nodup)(hf:mK env.scope.names σ scope.names=true)(hc:jl V scope elt gens=some c)(J0:Keeps aU eU)(k23:Keeps eU fu)(tk3:1<=fu.toks)
(hDs:D=eU.heap.objs.size)(Sr: @LT.lt Nat _ D fu.heap.objs.size)(hD3:fu.heap.get? D=some {cls:=.type "list",data:=.seq #[]})(hit:It prog w A G ds aU eU it)
(yr:gN (lM (V.b (d8 scope)) (qP scope (lj σ scope.names)) c.1 c.2.2.1 c.2.2.2 (lj σ scope.names)) ds=some out)(hlen:out.length<=ei)
(hR:∀s',Keeps aU s'->1<=s'.toks->aU.heap.get? D=none->aU.heap.get? fu.heap.objs.size=none->D≠fu.heap.objs.size->(∃m,s'.heap.Ns fu.heap.objs.size m)->Acc (λa=>G a\/a=fu.heap.objs.size) s'.heap D out->R (.ok .next) s'):
 codeAny (model prog w) A (.compStart (.ListComp elt gens scope pos) 0 it (.ref D) (oh scope env fu.heap.objs.size)) R {fu with heap:=fE scope fu.heap}:=by
 have nw2:∀a:Nat,D<=a->eU.heap.get? a=none:=λa ha=>by
  cases e:eU.heap.get? a with
  |none=>rfl
  |some o=>exact absurd (cT e) (pH.mpr (hDs▸ha))
 have nw:∀a:Nat,D<=a->aU.heap.get? a=none:=λa ha=>JS (Keeps.all J0) (nw2 a ha);have ci:=sk x hk hd hf (Keeps.trans' J0 k23);have k34:bT fu.heap (fE scope fu.heap):=λb o e=>pG _ _ b o (aV _ e);generalize fE scope fu.heap=HZ at*;have xl:=x.lo;generalize hce:oh scope env fu.heap.objs.size=cenv at*;have oe:cenv.locals=fu.heap.objs.size:=hce▸rfl;have E7:cenv.scope.names=d8 scope:=hce▸ci.1;generalize fu.heap.objs.size=C at*;generalize lj σ scope.names=σ' at*;obtain⟨_,_,h3,h4,h5⟩:=ci;obtain⟨Xw,w1,w2,w3⟩:∃Xw:Addr->Prop,WOk cenv (L6 scope) Xw/\(∀a:Nat,Xw a->C<=a/\(HZ.get? a).isSome=true)/\(∀a:Nat,C<=a->(HZ.get? a).isSome=true->Xw a):=⟨_,h4,λ_ q=>q,λ_ q r=>⟨q,r⟩⟩
 obtain⟨G',g1,g2,g3,g4⟩:∃G':Addr->Prop,In cenv G' σ' HZ/\(∀a,G' a->G a\/aU.heap.get? a=none)/\(∀a,aU.heap.get? a=none->(HZ.get? a).isSome=true->G' a)/\(∀a,G a->G' a):=⟨_,h3,λ_ q=>q.imp id adU,λ_ q r=>.inr ⟨q,r⟩,λ_=>.inl⟩
 have hD4:=k34 _ _ hD3;have gX:∀a:Nat,(Xw a\/a=D)->D<=a/\(HZ.get? a).isSome=true:=λa q=>q.elim (λz=>⟨aq (cx Sr) (w2 a z).1,(w2 a z).2⟩) λz=>⟨WU z.symm,z▸sS hD4⟩
 have lc:LC A La scope cenv (λa=>Xw a\/a=D) Xw D aU:=⟨am,w1,λ_=>.inl,λz=>dN _ (ck Sr (w2 D z).1),λa q=>nw a (gX a q).1,.inr rfl,
  λn e=>(h5 n D e).elim (λz=>dN _ (dz Sr z)) λz=>nS (nw D (b0 _)) z,E7⟩
 have J1:Keeps eU {fu with heap:=HZ}:=Keeps.trans' k23 ⟨HZ,fu.toks,rfl,k34⟩;exact UG (X:=λa=>Xw a\/a=D) (Xw:=Xw) (G':=G') VO bu lc g1 g2 (λa q=>⟨g3 a (lc.h0 a q) (gX a q).2,nw2 a (gX a q).1⟩) (λb q r=>g3 b q (kpS (Keeps.all J1) r)) (λn c e=>(h5 n c e).imp (λz=>.inl (w3 c (Dv z) (g1.lo c (g1.fc n c e).1))) id) hc J0 J1 tk3
  ⟨#[],0,hD4,.nil⟩ hit yr hlen λI s' hI u tt xx ac=>hR s' (u.keeps (λa q=>q.elim (lc.h0 a) λz=>z▸hI) (Keeps.trans' J0 J1)) tt (nw D (b0 _)) (nw C (cx Sr)) (el Sr) (by obtain⟨m,hm,_⟩:=xx.va;exact⟨m,oe▸hm⟩)
    (ac.less λb q=>q.elim (λq=>⟨g4 b q,λz=>nS hI (z▸xl b q)⟩) λq=>q▸oe▸xx.fl)
theorem H0{V:Ev}{Bu:aC->Prop}(VO:c8 prog w La Bu V)(bu:Bu A){scope:Scope}{σ:cu}{aU eU:ah}{elt:ae}{gens:List dX}{pos:Pos}{c:ae×ae×List ae×(cu->Option (List D))}{it:Value}{ds out:List D}{RR:Value->Addr->GV->ah->Prop}
(am:dq A La aU)(x:In env G σ aU.heap)(hk:scope.kind=.function)(hd:(scope.names.map (·.1)).Nodup)(hf:mK env.scope.names σ scope.names=true)
(hc:jl V scope elt gens=some c)(J0:Keeps aU eU)(PC:1<=eU.toks)(hit:It prog w A G ds aU eU it)
(yr:gN (lM (V.b (d8 scope)) (qP scope (lj σ scope.names)) c.1 c.2.2.1 c.2.2.2 (lj σ scope.names)) ds=some out)(hlen:out.length<=ei)
(hRR:∀s' D C,Keeps aU s'->1<=s'.toks->aU.heap.get? D=none->aU.heap.get? C=none->D≠C->(∃m,s'.heap.Ns C m)->Acc (λa=>G a\/a=C) s'.heap D out->RR (.ref D) C (.ok .next) s'):
 closureFor scope env=pure (gF env scope.names [])/\
 wpAny (model prog w) A (newList []) (λacc fu=>wpAny (model prog w) A (newFunctionEnv scope env.globals (gF env scope.names []) [] env.qual none .none (some env)) (λcenv Fd=>
  codeAny (model prog w) A (.compStart (.ListComp elt gens scope pos) 0 it acc {cenv with scope:=relabel scope env}) (RR acc cenv.locals) Fd) E fu) E eU:=by
 exact⟨(sk x hk hd hf (Keeps.rfl' (s:=aU))).2.1,wpAny_newObj_type (wj (PB VO bu am x hk hd hf hc J0 (Keeps.push _) PC rfl (by rw[hU];exact dW _) (gL _ _ rfl) hit yr hlen λs'=>hRR s' _ _))⟩
end
end
section
structure ec where
 fn:Str->List D->Option D
 gl:Str->Option D
 get:Str->List D->Option D
 mem:Str->D->Option Bool
def Bi.of(n:Str):Option Bi:=[Bi.len,.range,.max,.min,.abs,.sum,.chr,.ord,.list,.sorted,.divmod,.int].find? λb=>b.name==n
theorem Bi.UH(h:Bi.of n=some b):n=b.name:=by
 have:=Hc h;exact(beq_iff_eq.mp this).symm
inductive Gv(h:Heap)(n:Str)(v:Value):Prop
 |mk (mg:Str->Option Value) (a:h.Ns mainGlobals mg) (b:mg n=some v)
inductive Bv(h:Heap)(n:Str)(v:Value):Prop
 |mk (mg mb:Str->Option Value) (a:h.Ns mainGlobals mg) (b:mg n=none) (c:h.Ns builtinsNs mb) (d:mb n=some v)
structure dP(prog:bb)(w:World)(La:Heap->Prop)(Bu:aC->Prop)(T:ec):Prop where
 gl:∀h n d,La h->T.gl n=some d->∃v,Gv h n v/\∀F,bU h F d v
 bi:∀h (b:Bi),La h->Bv h b.name b.val
 So:∀h,La h->Bv h "isinstance" (.builtin "isinstance")
 rev:∀h,La h->Bv h "reversed" (.type "reversed")
 ty:∀h (n:Str),La h->(n="bool"\/n="int")->Bv h n (.type (Ct n))
 fn:∀h f ds d,La h->T.fn f ds=some d->∃a o fd,Gv h f (.ref a)/\h.get? a=some o/\o.data=.func fd/\
  ∀(A:aC)(E:Value->ah->Prop) F s vs,Bu A->dq A La s->iQ F s.heap->bT h s.heap->aZ s.heap F ds vs->wpAny (model prog w) A (call (.ref a) vs) (gU F s d) E s
 get:∀h g ds d,La h->T.get g ds=some d->∃a o,Gv h g (.ref a)/\h.get? a=some o/\o.cls=.type "dict"/\o.dict=none/\
  ∀(A:aC)(E:Value->ah->Prop) F s vs,Bu A->dq A La s->iQ F s.heap->bT h s.heap->aZ s.heap F ds vs->wpAny (model prog w) A (call (.builtin "dict.get") (.ref a::vs)) (gU F s d) E s
 mem:∀h g x b,La h->T.mem g x=some b->∃a,Gv h g (.ref a)/\
  ∀(A:aC)(E:Value->ah->Prop) F s v,Bu A->dq A La s->bT h s.heap->bU s.heap F x v->wpAny (model prog w) A (compareOp .In v (.ref a)) (λr s'=>r=.bool b/\Keeps s s') E s
def gm(e:ae):Bool:= !(bO e.ctorIdx 22)
def tJ(f:ae->Option D):List ae->Option (List D)
 |[]=>some []
 |e::es=>if gm e=true then(f e).bind λd=>(tJ f es).bind λds=>some (d::ds)else none
def cst:Const->Option D
 |.none=>some .none|.bool b=>some (.bool b)|.int i=>some (.int i)|.float x=>some (.aN x)|.str s=>some (.str s)|_=>none
def intD:D->Option Int
 |.int i=>some i
 |_=>none
def part(f:ae->Option D):Option ae->Option (Option Int)
 |none=>some none
 |some e=>((f e).bind intD).map some
def nk(e:ae):Bool:=bO e.ctorIdx 23||bO e.ctorIdx 19||bO e.ctorIdx 21
def rC(e:ae):Option Str:=yn e
theorem pZ(h:rC e=some g):∃p,e=.Name g p:=lL h
def Cx(e:ae):Option (Option ae×Option ae×Option ae):=(NW e).map λx=>x.1.1
theorem Cy(h:Cx e=some g):∃p,e=.Slice g.1 g.2.1 g.2.2 p:=by
 obtain⟨x,_,rfl⟩:=dC h;exact⟨_,x.2⟩
def UI(ks:bW)(g:Str):Bool:=decide (ks.lookup g=some .globalImplicit/\(g==("__debug__":Str))=false)
def J2(ks:bW)(op:CmpOp)(r:ae):Option Str:=match op with
 |.In=>match rC r with
  |some g=>bif UI ks g then some g else none
  |none=>none
 |_=>none
theorem H2(h:J2 ks op r=some g):op=.In/\(∃p,r=.Name g p)/\ks.lookup g=some .globalImplicit/\(g==("__debug__":Str))=false:=by
 cases op<;>first|exact no h|skip
 refine⟨rfl,?_⟩;unfold J2 at h;cases hn:rC r with
 |none=>rw[hn]at h;exact no h
 |some g'=>
  rw[hn]at h;obtain⟨h1,h2⟩:=Ue h;exact h2▸⟨pZ hn,of_decide_eq_true h1⟩
def ah9(V:Ev)(T:ec)(ks:bW)(σ:cu)(l:ae)(op:CmpOp)(r:ae):Option Bool:=
 if behindInMarks op r=false then
  match J2 ks op r with
  |some g=>(V.d ks σ l).bind (T.mem g)
  |none=>(V.d ks σ l).bind λa=>(V.d ks σ r).bind λb=>cmp op a b
 else none
def UJ(V:Ev)(T:ec)(ks:bW)(σ:cu)(l:ae):List CmpOp->List ae->Option Bool
 |[],_=>none
 |op::ops,rs=>match ops with
  |_::_=>none
  |[]=>match rs with
   |[]=>none
   |r::rs=>match rs with
    |_::_=>none
    |[]=>ah9 V T ks σ l op r
def allB(V:Ev)(ks:bW)(σ:cu)(op:BoolOp):List ae->Option Bool
 |[]=>some (match op with|.And=>true|.Or=>false)
 |e::es=>(V.b ks σ e).bind λb=>match op,b with
  |.And,false=>some false
  |.Or,true=>some true
  |_,_=>allB V ks σ op es
def aa6(V:Ev)(ks:bW)(σ:cu)(op:BoolOp):List ae->Option D
 |[]=>none
 |e::es=>match es with
  |[]=>V.d ks σ e
  |_::_=>(V.d ks σ e).bind λd=>(m9 d).bind λb=>match op,b with
   |.And,false=>some d
   |.Or,true=>some d
   |_,_=>aa6 V ks σ op es
def aa7(V:Ev)(ks:bW)(σ:cu):List ae->Option D
 |[]=>none
 |e::r=>match r with
  |[]=>none
  |y::z=>match z with
   |_::_=>none
   |[]=>match rC y with
    |none=>none
    |some t=>if(ks.lookup t=some .globalImplicit/\gm e=true)/\(t==("__debug__":Str))=false then(V.d ks σ e).bind λd=>(So d t).map .bool else none
def J3(V:Ev)(T:ec)(ks:bW)(σ:cu)(f:Str)(args:List ae):Option D:=
 if ks.lookup f=some .globalImplicit/\(f==("__debug__":Str))=false then
  if f="isinstance" then aa7 V ks σ args
  else(tJ (V.d ks σ) args).bind λds=>match Bi.of f with
   |some b=>cH b ds
   |none=>T.fn f ds
 else none
def meD(V:Ev)(ks:bW)(σ:cu)(o:ae)(m:Str)(args:List ae):Option D:=(V.d ks σ o).bind λd=>(tJ (V.d ks σ) args).bind λds=>(Me.of m).bind λk=>o6 k d ds
def PE(V:Ev)(T:ec)(ks:bW)(σ:cu)(o:ae)(m:Str)(args:List ae):Option D:=
 match rC o with
 |some g=>if ks.lookup g=some .globalImplicit then(if m="get"/\(g==("__debug__":Str))=false then(tJ (V.d ks σ) args).bind (T.get g)else none)else meD V ks σ o m args
 |none=>meD V ks σ o m args
def aia(T:ec)(σ:cu)(id:Str):gZ->Option D
 |.local=>look σ id
 |.cell=>look σ id
 |.free=>if(id==("__classdict__":Str))=false then look σ id else none
 |.globalImplicit=>T.gl id
 |_=>none
def XW(T:ec)(ks:bW)(σ:cu)(id:Str):Option D:=if(id==("__debug__":Str))=false then(match ks.lookup id with
    |some k=>aia T σ id k
    |none=>none)else none
def XX(V:Ev)(ks:bW)(σ:cu)(o:D)(p:Option ae×Option ae×Option ae):Option D:=match p.2.2 with
 |none=>(part (V.d ks σ) p.1).bind λa=>(part (V.d ks σ) p.2.1).bind λb=>yj o a b
 |some _=>none
def PF(V:Ev)(ks:bW)(σ:cu)(sl:ae)(o:D):Option D:=match Cx sl with
 |some p=>XX V ks σ o p
 |none=>((V.d ks σ sl).bind intD).bind λi=>fY o i
def PG(V:Ev)(T:ec)(ks:bW)(σ:cu)(pos:Pos)(args:List ae)(f:ae):Option D:=
 match NX f with
 |some a=>if(nk a.1.1=true/\a.1.2.2.endLine=pos.line)/\args.length<20 then PE V T ks σ a.1.1 a.1.2.1 args else none
 |none=>(rW f).bind λn=>J3 V T ks σ n.1.1 args
def PH(V:Ev)(T:ec)(ks:bW)(σ:cu):ae->Option D:=
 exC none (λop es _=>aa6 V ks σ op es) (λl op r _=>(V.d ks σ l).bind λa=>(V.d ks σ r).bind λb=>aE op a b) (λop x _=>(V.d ks σ x).bind (ahF op))
  (λt a b _=>(V.b ks σ t).bind λc=>if c=true then V.d ks σ a else V.d ks σ b) (λelt gens scope _=>(yw V ks σ elt gens scope).map .lst) (λl ops rs _=>(UJ V T ks σ l ops rs).map .bool)
  (λf args H3 pos=>match H3 with
    |[]=>PG V T ks σ pos args f
    |_::_=>none)
  (λc _ _=>cst c) (λv sl _=>(V.d ks σ v).bind λo=>PF V ks σ sl o) (λid _=>XW T ks σ id)
  (λes _=>(tJ (V.d ks σ) es).bind λds=>if ds.length<=ei then some (.lst ds)else none) (λes _ _=>(tJ (V.d ks σ) es).bind λds=>if ds.length<=ei then some (.tup ds)else none)
def XY(V:Ev)(T:ec)(ks:bW)(σ:cu):ae->Option Bool:=
 exC none (λop es _=>allB V ks σ op es) (λ_ _ _ _=>none)
  (λop x _=>match op with
    |.Not=>(V.b ks σ x).map not
    |_=>none)
  (λ_ _ _ _=>none) (λ_ _ _ _=>none) (λl ops rs _=>UJ V T ks σ l ops rs) (λf args k p=>(V.d ks σ (.Call f args k p)).bind m9) (λ_ _ _=>none) (λ_ _ _=>none)
  (λid p=>(V.d ks σ (.Name id p)).bind m9) (λ_ _=>none) (λ_ _ _=>none)
def iU(T:ec)(V:Ev):Ev:=⟨PH V T,XY V T⟩
def dS(T:ec):Nat->Ev
 |0=>⟨λ_ _ _=>none,λ_ _ _=>none⟩
 |n+1=>iU T (dS T n)
section
variable{prog:bb}{w:World}{A:aC}{E:Value->ah->Prop}{G:Addr->Prop}{env:Env}{La:Heap->Prop}{Bu:aC->Prop}{V:Ev}{T:ec}{σ:cu}{s:ah}
theorem fy(hn:gm e=true):starEach (e::es) env=(false,eval e env)::starEach es env:=by
 cases e<;>first|rfl|exact DA hn
theorem j0:∀{es:List ae}{ds:List D},tJ f es=some ds->(backTo pos (starEach es env)).any (·.1)=false/\(backTo pos (starEach es env)).all (λx=> !x.1)=true/\(backTo pos (starEach es env)).length=es.length:=λ{es}=>by
 induction es with
 |nil=>exactλ_=>⟨rfl,rfl,rfl⟩
 |cons e es ih0=>
  intro ds h;obtain⟨hn,h⟩:=dy h;obtain⟨d,h1,h2⟩:=aO h;obtain⟨w7,h3,h4⟩:=aO h2;have ih:=ih0 h3;rw[fy hn];exact⟨ih.1,ih.2.1,congrArg lx ih.2.2⟩
theorem fL(VO:c8 prog w La Bu V)(bu:Bu A)(am:dq A La s)(x:In env G σ s.heap)(h:V.d env.scope.names σ e=some d)
(k:∀v s1,Keeps s s1->dq A La s1->In env G σ s1.heap->bU s1.heap G d v->Q v s1):wpAny (model prog w) A (eval e env) Q E s:=
 ai (bw am.tk (VO.d A E env G σ s e d bu am x h)) (λv s1 q=>k v s1 q.2.1 (am.keeps q.2.1 q.1) (x.keeps (Keeps.all q.2.1)) q.2.2) λ_ _ e=>e
theorem sq(VO:c8 prog w La Bu V)(bu:Bu A)(am:dq A La s)(x:In env G σ s.heap)(h:V.b env.scope.names σ e=some b)
(k:∀s1,Keeps s s1->dq A La s1->In env G σ s1.heap->Q b s1):wpAny (model prog w) A (isTrue e env (eval e env)) Q E s:=
 ai (bw am.tk (VO.b A E env G σ s e b bu am x h)) (λv s1 q=>q.2.1.symm▸k s1 q.2.2 (am.keeps q.2.2 q.1) (x.keeps (Keeps.all q.2.2))) λ_ _ e=>e
theorem fA(k:Keeps s s1)(h:wpAny (model prog w) A m (gU G s1 d) E s1):wpAny (model prog w) A m (gU G s d) E s1:=
 ai h (λ_ _ q=>⟨Keeps.trans' k q.1,q.2⟩) λ_ _ e=>e
theorem rE(k:Keeps s s1)(h:wpAny (model prog w) A m (λb' s'=>b'=b/\Keeps s1 s') E s1):wpAny (model prog w) A m (λb' s'=>b'=b/\Keeps s s') E s1:=
 ai h (λ_ _ q=>⟨q.1,Keeps.trans' k q.2⟩) λ_ _ e=>e
theorem nq(VO:c8 prog w La Bu V)(bu:Bu A):∀{es:List ae}{ds:List D}{s:ah},dq A La s->In env G σ s.heap->tJ (V.d env.scope.names σ) es=some ds->
 wpAny (model prog w) A (spliced (backTo pos (starEach es env))) (λvs s'=>Keeps s s'/\aZ s'.heap G ds vs) E s:=λ{es}=>by
 induction es with
 |nil=>exactλam x h=>af h▸Sg ⟨Keeps.rfl',.nil⟩
 |cons e es ih=>
  intro ds s am x h;obtain⟨hn,h⟩:=dy h;obtain⟨d,h1,h2⟩:=aO h;obtain⟨w7,h3,h4⟩:=aO h2;refine af h4▸wpAny_items_cons (fL VO bu am x h1 λv s1 k1 iL x1 r1=>?_) (fy hn);exact ai (ih iL x1 h3) (λvs s2 q=>⟨Keeps.trans' k1 q.1,.cons (r1.keeps (Keeps.all q.1)) q.2⟩) λ_ _ e=>e
theorem nr(VO:c8 prog w La Bu V)(bu:Bu A)(am:dq A La s)(x:In env G σ s.heap)(h:tJ (V.d env.scope.names σ) es=some ds)
(k:∀vs s1,Keeps s s1->dq A La s1->In env G σ s1.heap->aZ s1.heap G ds vs->Q vs s1):wpAny (model prog w) A (spliced (backTo pos (starEach es env))) Q E s:=
 ai (bw am.tk (nq VO bu am x h)) (λv s1 q=>k v s1 q.2.1 (am.keeps q.2.1 q.1) (x.keeps (Keeps.all q.2.1)) q.2.2) λ_ _ e=>e
theorem L9(tk:1<=s.toks)(h:cst c=some d):wpAny (model prog w) A (eval (.Constant c k pos) env) (gU G s d) E s:=by
 cases c<;>first|exact no h|skip
 all_goals first
  |exact af h▸Constant_none ⟨Keeps.rfl',EH⟩
  |exact af h▸Constant_bool ⟨Keeps.rfl',kx⟩
  |exact af h▸wpAny_Constant_int lh
  |exact af h▸PySem.wpAny_Constant_float (w9 tk)
  |exact af h▸wpAny_Constant_str EM
theorem nu(x:In env G σ s.heap)(hk:env.scope.names.lookup n=some .globalImplicit)(hd:(n==("__debug__":Str))=false)(g:Gv s.heap n v\/Bv s.heap n v)(h:Q v s):
 wpAny (model prog w) A (eval (.Name n pos) env) Q E s:=by
 refine Calls.Name_function_global x.fn hk ?_ hd;rcases g with⟨mg,h1,h2⟩|⟨mg,mb,h1,h2,h3,h4⟩
 ·exact Calls.loadGlobal_global (by rw[x.gl];exact h1) h2 h
 ·exact Calls.loadGlobal_builtin (by rw[x.gl];exact h1) h2 (by rw[x.bi];exact h3) h4 h
theorem qv(h:intD d=some i):d=.int i:=by
 cases d<;>first|exact no h|exact congrArg D.int (af h)
theorem yx(VO:c8 prog w La Bu V)(bu:Bu A)(am:dq A La s)(x:In env G σ s.heap)(h:part (V.d env.scope.names σ) e=some i):
 wpAny (model prog w) A (evalPart e env) (λv s'=>Keeps s s'/\GU v i) E s:=by
 cases e with
 |none=>
  rw[evalPart_none];exact aL ⟨Keeps.rfl',af h▸.none⟩
 |some e=>
  obtain⟨j,h1,rfl⟩:=dC h;obtain⟨d,h2,h3⟩:=aO h1;obtain rfl:=qv h3;rw[evalPart_some];exact fL VO bu am x h2 λv s1 k1 _ _ r1=>⟨k1,by obtain⟨t,q⟩:=r1.int;exact q▸.int _ _⟩
end
end
section
section
variable{prog:bb}{w:World}{A:aC}{E:Value->ah->Prop}{G:Addr->Prop}{env:Env}{La:Heap->Prop}{Bu:aC->Prop}{V:Ev}{T:ec}{σ:cu}{s:ah}
theorem dT:∀{l:List (Bool×Sem Value)},l.any (·.1)=false->wpAny M A (spliced l) (λvs s'=>Q ⟨vs,[]⟩ s') E s->wpAny M A (evalArgs f true l []) Q E s:=by
 intro zx
 induction zx with
 |nil=>
  rintro _ h;unfold evalArgs;show wpAny M A (spliced [] >>= _) Q E s;refine ao (ai h (λvs s' h'=>?_) λ_ _ x=>x);refine ao (aL ?_);refine bQ ?_;exact ao (aL (ao (aL (aL h'))))
 |cons zh rest ih=>
  obtain⟨b,x⟩:=zh;rintro hp h;have hb:b=false:=by
   rw[List.any_cons,mE]at hp;exact hp.1
  subst hb;exact Calls.evalArgs_plain h
inductive H4(V:Ev)(ks:bW)(σ:cu)(elt:ae)(gens:List dX)(scope:Scope)(out:List D):Prop
 |mk (c:ae×ae×List ae×(cu->Option (List D))) (d:D) (ds:List D) (hk:scope.kind=.function) (hd:(scope.names.map (·.1)).Nodup) (hf:mK ks σ scope.names=true) (h1:jl V scope elt gens=some c) (h3:V.d ks σ c.2.1=some d) (h5:items d=some ds)
  (h7:gN (lM (V.b (d8 scope)) (qP scope (lj σ scope.names)) c.1 c.2.2.1 c.2.2.2 (lj σ scope.names)) ds=some out) (hl:out.length<=ei)
theorem Fe(h:yw V ks σ elt gens scope=some out):H4 V ks σ elt gens scope out:=by
 obtain⟨⟨⟨hk,hnd⟩,hf⟩,h⟩:=dy h;obtain⟨c,h1,h2⟩:=aO h;obtain⟨d,h3,h4⟩:=aO h2;obtain⟨ds,h5,h6⟩:=aO h4;obtain⟨o,h7,h8⟩:=aO h6;obtain⟨hl,rfl⟩:=bx h8;exact⟨c,d,ds,hk,wk hnd,hf,h1,h3,h5,h7,hl⟩
theorem Bw(h:H4 V ks σ elt gens scope out):∃t i f gs,gens=⟨t,i,f,0⟩::gs:=by
 cases h with
 |mk c d ds hk hd hf h1 h3 h5 h7 hl=>
 obtain⟨i,gs,e,_⟩:=ll h1;exact⟨_,_,_,_,e⟩
theorem J4(VO:c8 prog w La Bu V)(bu:Bu A)(am:dq A La s)(x:In env G σ s.heap)(h:H4 V env.scope.names σ elt (⟨t,i,f,0⟩::gs) scope out)
(hQ:∀s' D C,Keeps s s'->1<=s'.toks->s.heap.get? D=none->s.heap.get? C=none->D≠C->(∃m,s'.heap.Ns C m)->Acc (λa=>G a\/a=C) s'.heap D out->compPost (model prog w) A E use Q (.ref D) C (.ok .next) s'):
 wpAny (model prog w) A (comprehension (.ListComp elt (⟨t,i,f,0⟩::gs) scope pos) scope env cp (newList []) false (eval i env) use) Q E s:=by
 cases h with
 |mk c d ds hk hd hf h1 h3 h5 h7 hl=>
 obtain⟨i',gs',e0,e1,e3,_⟩:=ll h1;have e0:i=i':=congrArg Comprehension.iter (ey e0).1;rw[e1,<-e0]at h3;rw[<-e0]at e3;refine adV (g:=⟨t,i,f,0⟩) (gs:=gs) rfl (λy=>jm e3 env y) (sk x hk hd hf (Keeps.rfl' (s:=s))).2.1 hk (λy hy hl=>mem_lookup hd (by rw[<-hl];exact hy)) ?_;refine ai (bw am.tk (VO.d A _ env G σ s _ d bu am x h3)) (λv s1 q=>?_) λ_ _ e=>e;have k1:=Keeps.all q.2.1;have x1:=x.keeps k1;refine ai (bw q.1 (jW am.hh x1.lo q.2.2 h5)) (λit s2 q2=>?_) λ_ _ e=>e;exact(H0 VO bu (am.keeps q.2.1 q.1) x1 hk hd hf h1 q2.2.1 q2.1 q2.2.2 h7 hl λs' D C k t hD hC=>hQ s' D C (Keeps.trans' q.2.1 k) t (JS k1 hD) (JS k1 hC)).2
theorem wt(VO:c8 prog w La Bu V)(bu:Bu A)(am:dq A La s)(x:In env G σ s.heap)(h:yw V env.scope.names σ elt gens scope=some out):
 wpAny (model prog w) A (eval (.ListComp elt gens scope pos) env) (λv s'=>gU G s (.lst out) v s'/\∃a,v=.ref a/\s.heap.get? a=none) E s:=by
 have h:=Fe h;obtain⟨t,i,f,gs,rfl⟩:=Bw h;rw[eval_ListComp];refine J4 VO bu am x h λs' D C k t hD hC Sr ⟨m,hm⟩ aa8=>⟨m,hm,λh' n9=>⟨⟨?_,?_⟩,D,rfl,hD⟩⟩
 ·obtain⟨ia,aib,rfl,ka⟩:=k
  exact⟨h',aib,rfl,λb o e=>n9.extBut b o (λz=>nG hC (z▸e)) (ka b o e)⟩
 ·obtain⟨vs,n,q1,q2⟩:=aa8
  exact g8 (vs:=vs.toList) (λq=>nS hD (x.lo D q)) (n9.extBut _ _ Sr q1) (aZ.kept (F:=λa=>G a\/a=C) (λb o nb e=>n9.extBut b o (λz=>nb (.inr z)) e) (λb q=>.inl (.inl q)) _ _ q2)
theorem yy(VO:c8 prog w La Bu V)(TO:dP prog w La Bu T)(bu:Bu A)(am:dq A La s)(x:In env G σ s.heap)(h:ah9 V T env.scope.names σ l op r=some b):
 behindInMarks op r=false/\wpAny (model prog w) A (eval l env) (λa aU=>wpAny (model prog w) A (eval r env) (λc eU=>wpAny (model prog w) A (compareOp op a c) (λv s'=>v=.bool b/\Keeps s s') E eU) E aU) E s:=by
 obtain⟨hb,h⟩:=dy h;refine⟨hb,?_⟩;cases hm:J2 env.scope.names op r with
 |some g=>
  rw[hm]at h;obtain⟨rfl,⟨p,rfl⟩,hg⟩:=H2 hm;obtain⟨a,h1,h2⟩:=aO h;refine fL VO bu am x h1 λva s1 k1 iL x1 r1=>?_;obtain⟨ad,hgv,hm⟩:=TO.mem s1.heap g a b (iL.la _ λ_ _ e=>e) h2;exact nu x1 hg.1 hg.2 (.inl hgv) (ai (hm A E G s1 va bu iL (λ_ _ e=>e) r1) (λv s3 q3=>⟨q3.1,Keeps.trans' k1 q3.2⟩) λ_ _ e=>e)
 |none=>
  rw[hm]at h;obtain⟨a,h1,h2⟩:=aO h;obtain⟨c,h3,h4⟩:=aO h2;exact fL VO bu am x h1 λva s1 k1 iL x1 r1=>fL VO bu iL x1 h3 λvc s2 k2 p0 x2 r2=>Bk p0.nb (dz (aeM (by decide) _) am.un) (r1.keeps (Keeps.all k2)) r2 h4 ⟨rfl,Keeps.trans' k1 k2⟩
theorem H5(VO:c8 prog w La Bu V)(TO:dP prog w La Bu T)(bu:Bu A)(am:dq A La s)(x:In env G σ s.heap)(h:UJ V T env.scope.names σ l ops rs=some b):
 ∃op r,ops=[op]/\rs=[r]/\behindInMarks op r=false/\wpAny (model prog w) A (eval l env) (λa aU=>wpAny (model prog w) A (eval r env) (λc eU=>wpAny (model prog w) A (compareOp op a c) (λv s'=>v=.bool b/\Keeps s s') E eU) E aU) E s:=by
 cases ops with
 |nil=>exact no h
 |cons op ops=>
  cases ops with
  |cons _ _=>exact no h
  |nil=>
   cases rs with
   |nil=>exact no h
   |cons r rs=>
    cases rs with
    |cons _ _=>exact no h
    |nil=>exact⟨op,r,rfl,rfl,yy VO TO bu am x h⟩
end
end
section
section
variable{prog:bb}{w:World}{A:aC}{E:Value->ah->Prop}{G:Addr->Prop}{env:Env}{La:Heap->Prop}{Bu:aC->Prop}{V:Ev}{T:ec}{σ:cu}{s:ah}
theorem Bi.kind(b:Bi):(∃id,b.val=.builtin id)\/∃id,b.val=.type id:=by cases b<;>first|exact .inl ⟨_,rfl⟩|exact .inr ⟨_,rfl⟩
theorem aic(h:So d t=some b):t="bool"\/t="int":=by
 obtain⟨_,_,h⟩:=aO h;by_cases h1:t="bool"
 ·exact .inl h1
 ·rw[if_neg h1]at h
  exact .inr (bx h).1
theorem H6(VO:c8 prog w La Bu V)(TO:dP prog w La Bu T)(bu:Bu A)(am:dq A La s)(x:In env G σ s.heap)(hf:env.scope.names.lookup ("isinstance":Str)=some .globalImplicit)(h:aa7 V env.scope.names σ args=some d):
 wpAny (model prog w) A (eval (.Call (.Name "isinstance" np) args [] pos) env) (gU G s d) E s:=by
 cases args with
 |nil=>exact no h
 |cons e args=>
  cases args with
  |nil=>exact no h
  |cons y args=>
   cases args with
   |cons _ _=>exact no h
   |nil=>
    unfold aa7 at h;dsimp only at h;cases hn:rC y with
    |none=>rw[hn]at h;exact no h
    |some t=>
     rw[hn]at h;obtain⟨tp,rfl⟩:=pZ hn;obtain⟨⟨⟨ht1,hs⟩,htd⟩,h⟩:=dy h;obtain⟨v,h1,h2⟩:=aO h;obtain⟨b,h3,rfl⟩:=dC h2;show wpAny _ _ (do callWith pos (<-eval (.Name "isinstance" np) env) [] (backTo pos (starEach [e,.Name t tp] env)) []) _ _ _;refine ao (nu x hf (by decide) (.inr (TO.So _ (am.la _ λ_ _ e=>e))) ?_);rw[show backTo pos (starEach [e,.Name t tp] env)=[(false,eval e env),(false,eval (.Name t tp) env)]from congrArg (backTo pos) ((fy hs).trans rfl)];exact iw rfl (dT rfl (dx (fL VO bu am x h1 λva s1 k1 iL x1 r1=>dx (nu x1 ht1 htd (.inr (TO.ty _ t (iL.la _ λ_ _ e=>e) (aic h3))) (gx (fA k1 (LV r1 h3)))))))
theorem Ff(VO:c8 prog w La Bu V)(TO:dP prog w La Bu T)(bu:Bu A)(am:dq A La s)(x:In env G σ s.heap)(hf:env.scope.names.lookup b.name=some .globalImplicit/\(b.name==("__debug__":Str))=false)
(h1:tJ (V.d env.scope.names σ) args=some ds)(h2:cH b ds=some d):wpAny (model prog w) A (eval (.Call (.Name b.name np) args [] pos) env) (gU G s d) E s:=by
 have hp:=(j0 (env:=env) (pos:=pos) h1).1;show wpAny _ _ (do callWith pos (<-eval (.Name b.name np) env) [] (backTo pos (starEach args env)) []) _ _ _;refine ao (nu x hf.1 hf.2 (.inr (TO.bi _ b (am.la _ λ_ _ e=>e))) ?_);have core:wpAny (model prog w) A (spliced (backTo pos (starEach args env))) (λvs s'=>wpAny (model prog w) A (call b.val vs) (gU G s d) E s') E s:=
  nr VO bu am x h1 λvs s1 k1 iL x1 r1=>fA k1 (Pj (iL.ok x1.lo) r1 h2)
 rcases b.kind with⟨id,e⟩|⟨id,e⟩
 ·rw[e]at core⊢
  exact iw hp (dT hp core)
 ·rw[e]at core⊢
  exact xj hp (dT hp core)
theorem Fg(VO:c8 prog w La Bu V)(TO:dP prog w La Bu T)(bu:Bu A)(am:dq A La s)(x:In env G σ s.heap)(hf:env.scope.names.lookup f=some .globalImplicit/\(f==("__debug__":Str))=false)
(h1:tJ (V.d env.scope.names σ) args=some ds)(h2:T.fn f ds=some d):wpAny (model prog w) A (eval (.Call (.Name f np) args [] pos) env) (gU G s d) E s:=by
 obtain⟨a,o,fd,g1,g2,g3,g4⟩:=TO.fn s.heap f ds d (am.la _ λ_ _ e=>e) h2;show wpAny _ _ (do callWith pos (<-eval (.Name f np) env) [] (backTo pos (starEach args env)) []) _ _ _;exact ao (nu x hf.1 hf.2 (.inl g1) (kr (o:=o) (fd:=fd) (dT (j0 h1).1 (nr VO bu am x h1 λvs s1 k1 iL x1 r1=>⟨⟨Keeps.all k1 _ _ g2,g3⟩,fA k1 (g4 A E G s1 vs bu iL x1.lo (Keeps.all k1) r1)⟩))))
theorem Fh(VO:c8 prog w La Bu V)(TO:dP prog w La Bu T)(bu:Bu A)(am:dq A La s)(x:In env G σ s.heap)(h:J3 V T env.scope.names σ f args=some d):
 wpAny (model prog w) A (eval (.Call (.Name f np) args [] pos) env) (gU G s d) E s:=by
 obtain⟨hf,h0⟩:=dy h;by_cases hi:f="isinstance"
 ·rw[if_pos hi]at h0
  subst hi;exact H6 VO TO bu am x hf.1 h0
 ·rw[if_neg hi]at h0
  obtain⟨ds,h1,h2⟩:=aO h0;cases hb:Bi.of f with
  |some b=>
   rw[hb]at h2;obtain rfl:=Bi.UH hb;exact Ff VO TO bu am x hf h1 h2
  |none=>
   rw[hb]at h2;exact Fg VO TO bu am x hf h1 h2
theorem Cz(h:nk o=true)(m)(env)(t:Sem Value):attributeBase o m env t=t:=by
 rcases(mX ..).mp h with h|h
 ·rcases(mX ..).mp h with h|h
  ·exact Dq (motive_1:=λo=>attributeBase o m env t=t) o (bE h) λ_ _=>rfl
  ·exact uF (motive_1:=λo=>attributeBase o m env t=t) o (bE h) λ_ _ _=>rfl
 ·exact tq (motive_1:=λo=>attributeBase o m env t=t) o (bE h) λ_ _ _=>rfl
theorem J5(hb:nk o=true)(hl:ap.endLine=pos.line)(hn:args.length<20)(h3:tJ (V.d env.scope.names σ) args=some ds)
(k:wpAny (model prog w) A (eval o env) (λv s1=>∃T id,PlainAttrs T/\Slot T m id/\typeOf (.builtin id)=pure (.type "method_descriptor")/\s1.TypeIs v T/\(∀a,v=.ref a->∃ob,s1.heap.get? a=some ob/\ob.dict=none)/\
   wpAny (model prog w) A (spliced (backTo pos (starEach args env))) (λvs s2=>wpAny (model prog w) A (call (.builtin id) (v::vs)) Q E s2) E s1) E s):wpAny (model prog w) A (eval (.Call (.Attribute o m ap) args [] pos) env) Q E s:=by
 obtain⟨p1,p2,p3⟩:=j0 (env:=env) (pos:=pos) h3;refine lG (Cz hb _ _ _) ?_ (by simpa using hl) (ai k (λv s1 q=>?_) λ_ _ e=>e)
 ·rw[p2,show decide (args.length+([]:List SN).length+(if([]:List SN).isEmpty then 0 else 1)<30)=true from decide_eq_true (dz hn (by decide))]
  rfl
 ·obtain⟨T,id,m1,m2,m3,m4,m5,m6⟩:=q;exact⟨T,id,m1,m2,m3,m4,m5,iw p1 (dT p1 m6)⟩
theorem Bx(VO:c8 prog w La Bu V)(bu:Bu A)(am:dq A La s)(x:In env G σ s.heap)
(hb:nk o=true)(hl:ap.endLine=pos.line)(hn:args.length<20)(h:meD V env.scope.names σ o m args=some d):wpAny (model prog w) A (eval (.Call (.Attribute o m ap) args [] pos) env) (gU G s d) E s:=by
 obtain⟨od,h1,h2⟩:=aO h;obtain⟨ds,h3,h4⟩:=aO h2;obtain⟨k,h5,h6⟩:=aO h4;obtain rfl:=Me.aaV h5;refine J5 hb hl hn h3 (fL VO bu am x h1 λvo s1 k1 iL x1 r1=>?_);obtain⟨id,⟨T,m1,m2,m3,m4,m5⟩,ms⟩:=Po (prog:=prog) (w:=w) (A:=A) (E:=E) r1 h6;exact⟨T,id,m1,m2,m3,m4,m5,nr VO bu iL x1 h3 λvs s2 k2 p0 x2 r2=>fA (Keeps.trans' k1 k2) (ms s2 vs (p0.ok x2.lo) (Keeps.all k2) r2)⟩
theorem H7(VO:c8 prog w La Bu V)(TO:dP prog w La Bu T)(bu:Bu A){g:Str}{args:List ae}{gp ap pos:Pos}{ds:List D}{d:D}(am:dq A La s)(x:In env G σ s.heap)
(hl:ap.endLine=pos.line)(hn:args.length<20)(hg:env.scope.names.lookup g=some .globalImplicit)(hgd:(g==("__debug__":Str))=false)(h3:tJ (V.d env.scope.names σ) args=some ds)(h4:T.get g ds=some d):
 wpAny (model prog w) A (eval (.Call (.Attribute (.Name g gp) "get" ap) args [] pos) env) (gU G s d) E s:=by
 obtain⟨a,ob,g1,g2,g3,g4,g5⟩:=TO.get s.heap g ds d (am.la _ λ_ _ e=>e) h4;refine J5 rfl hl hn h3 (nu x hg hgd (.inl g1) ⟨"dict","dict.get",PySem.F.plainAttrs_dict,rR,PySem.F.type_dict_get,⟨_,g2,g3⟩,λb e=>lb e▸⟨_,g2,g4⟩,?_⟩);exact nr VO bu am x h3 λvs s2 k2 p0 x2 r2=>fA k2 (g5 A E G s2 vs bu p0 x2.lo (Keeps.all k2) r2)
theorem Fi(VO:c8 prog w La Bu V)(TO:dP prog w La Bu T)(bu:Bu A)(am:dq A La s)(x:In env G σ s.heap)
(hb:nk o=true)(hl:ap.endLine=pos.line)(hn:args.length<20)(h:PE V T env.scope.names σ o m args=some d):
 wpAny (model prog w) A (eval (.Call (.Attribute o m ap) args [] pos) env) (gU G s d) E s:=by
 unfold PE at h;cases ho:rC o with
 |none=>rw[ho]at h;exact Bx VO bu am x hb hl hn h
 |some g=>
  rw[ho]at h;dsimp only at h;by_cases hg:env.scope.names.lookup g=some .globalImplicit
  ·rw[if_pos hg]at h
   obtain⟨⟨rfl,hgd⟩,h0⟩:=dy h;obtain⟨gp,rfl⟩:=pZ ho;obtain⟨ds,h3,h4⟩:=aO h0;exact H7 VO TO bu am x hl hn hg hgd h3 h4
  ·rw[if_neg hg]at h
   exact Bx VO bu am x hb hl hn h
theorem H8(VO:c8 prog w La Bu V)(bu:Bu A):∀{es:List ae}{b:Bool}{s:ah},dq A La s->In env G σ s.heap->allB V env.scope.names σ op es=some b->
 wpAny (model prog w) A (allTrue op es env) (λb' s'=>b'=b/\Keeps s s') E s:=λ{es}=>by
 induction es with
 |nil=>
  intro b s am x h;cases op
  ·exact wpAny_allTrue_And_nil ⟨af h,Keeps.rfl'⟩
  ·exact asV ⟨af h,Keeps.rfl'⟩
 |cons e es ih=>
  intro b s am x h;obtain⟨c,h1,h2⟩:=aO h;cases op
  ·refine wpAny_allTrue_And_cons (sq VO bu am x h1 λs1 k1 iL x1=>?_)
   cases c
   ·exact⟨af h2,k1⟩
   ·exact rE k1 (ih iL x1 h2)
  ·refine zZ (sq VO bu am x h1 λs1 k1 iL x1=>?_)
   cases c
   ·exact rE k1 (ih iL x1 h2)
   ·exact⟨af h2,k1⟩
theorem yz(am:dq A La s)(x:In env G σ s.heap)(r:bU s.heap G d v)(h:m9 d=some b)(k:∀s1,Keeps s s1->dq A La s1->In env G σ s1.heap->bU s1.heap G d v->Q b s1):wpAny (model prog w) A (truthy v) Q E s:=
 ai (bw am.tk (mm r h)) (λc s1 q=>q.2.1.symm▸k s1 q.2.2 (am.keeps q.2.2 q.1) (x.keeps (Keeps.all q.2.2)) (r.keeps (Keeps.all q.2.2))) λ_ _ e=>e
theorem H9(VO:c8 prog w La Bu V)(bu:Bu A):∀{es:List ae}{d:D}{s:ah},dq A La s->In env G σ s.heap->aa6 V env.scope.names σ op es=some d->
 wpAny (model prog w) A (eval (.BoolOp op es pos) env) (gU G s d) E s:=λ{es}=>by
 induction es with
 |nil=>intro d s am x h;exact no h
 |cons e es ih=>
  intro d s am x h;cases es with
  |nil=>exact BoolOp_one (VO.d A E env G σ s e d bu am x h)
  |cons e' es=>
   obtain⟨a,h1,h2⟩:=aO h;obtain⟨c,h3,h4⟩:=aO h2;cases op
   ·refine BoolOp_and (fL VO bu am x h1 λv s1 k1 iL x1 r1=>yz iL x1 r1 h3 λs2 k2 p0 x2 r2=>?_)
    cases c
    ·exact⟨Keeps.trans' k1 k2,af h4▸r2⟩
    ·exact fA (Keeps.trans' k1 k2) (ih p0 x2 h4)
   ·refine BoolOp_or (fL VO bu am x h1 λv s1 k1 iL x1 r1=>yz iL x1 r1 h3 λs2 k2 p0 x2 r2=>?_)
    cases c
    ·exact fA (Keeps.trans' k1 k2) (ih p0 x2 h4)
    ·exact⟨Keeps.trans' k1 k2,af h4▸r2⟩
end
end
section
section
variable{prog:bb}{w:World}{A:aC}{E:Value->ah->Prop}{G:Addr->Prop}{env:Env}{La:Heap->Prop}{Bu:aC->Prop}{V:Ev}{T:ec}{σ:cu}{s:ah}
theorem Fj(TO:dP prog w La Bu T)(am:dq A La s)(x:In env G σ s.heap)(h:XW T env.scope.names σ n=some d):wpAny (model prog w) A (eval (.Name n pos) env) (gU G s d) E s:=by
 obtain⟨hd,h⟩:=dy h;have PJ:(env.kindOf n=some .local\/Cl env n)->(env.kindOf n=some .free->(n==("__classdict__":Str))=false)->look σ n=some d->wpAny (model prog w) A (eval (.Name n pos) env) (gU G s d) E s:=
  λhk Aj hl=>ai (x.name hk hl hd Aj) (λv s' q=>q.1.symm▸⟨Keeps.rfl',q.2⟩) λ_ _ e=>e
 cases hk:env.scope.names.lookup n with
 |none=>rw[hk]at h;exact no h
 |some k=>
  have jQ:env.kindOf n=some k:=hk;rw[hk]at h;cases k<;>first|exact no h|skip
  ·exact PJ (.inl jQ) (λq=>nomatch jQ.symm.trans q) h
  ·exact PJ (.inr (.inl jQ)) (λq=>nomatch jQ.symm.trans q) h
  ·obtain⟨hc,h⟩:=dy h
   exact PJ (.inr (.inr jQ)) (λ_=>hc) h
  ·obtain⟨v,g1,g2⟩:=TO.gl s.heap _ d (am.la _ λ_ _ e=>e) h
   exact nu x hk hd (.inl g1) ⟨Keeps.rfl',g2 G⟩
theorem Fm(VO:c8 prog w La Bu V)(bu:Bu A){v:ae}{lo hi:Option ae}{sp pos:Pos}{o d:D}(am:dq A La s)(x:In env G σ s.heap)(h1:V.d env.scope.names σ v=some o)
(h:XX V env.scope.names σ o (lo,hi,none)=some d):wpAny (model prog w) A (eval (.Subscript v (.Slice lo hi none sp) pos) env) (gU G s d) E s:=by
 obtain⟨a,h3,h4⟩:=aO h;obtain⟨b,h5,h6⟩:=aO h4;refine tZ (fL VO bu am x h1 λvo s1 k1 iL x1 r1=>wpAny_Slice (ai (bw iL.tk (yx VO bu iL x1 h3)) (λvl s2 q2=>?_) λ_ _ e=>e));have x2:=x1.keeps (Keeps.all q2.2.1);refine ai (yx VO bu (iL.keeps q2.2.1 q2.1) x2 h5) (λvu s3 q3=>?_) λ_ _ e=>e;rw[evalPart_none];have x3:=x2.keeps (Keeps.all q3.1);have k13:=Keeps.trans' q2.2.1 q3.1;refine aL ?_;have key:=HQ (prog:=prog) (w:=w) (A:=A) (E:=E) (s:={s3 with heap:=s3.heap.push {cls:=.type "slice",data:=.fields #[vl,vu,.none]}}) (F:=G) (x3.lo.keeps λ_ _ e=>aV _ e) ((r1.keeps (Keeps.all k13)).keeps λ_ _ e=>aV _ e) ⟨_,gL _ _ rfl,rfl,rfl⟩ q2.2.2 q3.2 h6;exact⟨key.1,fA (Keeps.trans' (Keeps.trans' k1 k13) (Keeps.push _)) key.2⟩
theorem Ia(VO:c8 prog w La Bu V)(bu:Bu A){v sl:ae}{pos:Pos}{d:D}(am:dq A La s)(x:In env G σ s.heap)(h:((V.d env.scope.names σ v).bind λo=>PF V env.scope.names σ sl o)=some d):
 wpAny (model prog w) A (eval (.Subscript v sl pos) env) (gU G s d) E s:=by
 obtain⟨o,h1,h2⟩:=aO h;unfold PF at h2;cases hs:Cx sl with
 |some p=>
  rw[hs]at h2;obtain⟨sp,rfl⟩:=Cy hs;obtain⟨lo,hi,st⟩:=p;cases st with
  |some _=>exact no h2
  |none=>exact Fm VO bu am x h1 h2
 |none=>
  rw[hs]at h2;obtain⟨i,h3,h4⟩:=aO h2;obtain⟨di,h5,h6⟩:=aO h3;obtain rfl:=qv h6;refine tZ (fL VO bu am x h1 λvo s1 k1 iL x1 r1=>fL VO bu iL x1 h5 λvi s2 k2 p0 x2 r2=>?_);obtain⟨t,rfl⟩:=r2.int;have key:=HP (prog:=prog) (w:=w) (A:=A) (E:=E) (t:=t) (r1.keeps (Keeps.all k2)) h4;exact⟨key.1,fA (Keeps.trans' k1 k2) key.2⟩
theorem Ma(VO:c8 prog w La Bu V)(bu:Bu A)(am:dq A La s)(x:In env G σ s.heap)(h:((V.b env.scope.names σ t).bind λc=>if c=true then V.d env.scope.names σ a else V.d env.scope.names σ b)=some d):
 wpAny (model prog w) A (eval (.IfExp t a b pos) env) (gU G s d) E s:=by
 obtain⟨c,h1,h2⟩:=aO h;refine IfExp_ (sq VO bu am x h1 λs1 k1 iL x1=>?_);cases c
 ·exact fA k1 (VO.d A E env G σ s1 b d bu iL x1 h2)
 ·exact fA k1 (VO.d A E env G σ s1 a d bu iL x1 h2)
theorem Ib(VO:c8 prog w La Bu V)(bu:Bu A)(am:dq A La s)(x:In env G σ s.heap)(h:((V.d env.scope.names σ l).bind λa=>(V.d env.scope.names σ r).bind λb=>aE op a b)=some d):
 wpAny (model prog w) A (eval (.BinOp l op r pos) env) (gU G s d) E s:=by
 obtain⟨a,h1,h2⟩:=aO h;obtain⟨b,h3,h4⟩:=aO h2;exact AY (fL VO bu am x h1 λva s1 k1 iL x1 r1=>fL VO bu iL x1 h3 λvc s2 k2 p0 x2 r2=>fA (Keeps.trans' k1 k2) (pU p0.tk x2.lo (r1.keeps (Keeps.all k2)) r2 h4))
theorem yA(VO:c8 prog w La Bu V)(TO:dP prog w La Bu T)(bu:Bu A)(am:dq A La s)(x:In env G σ s.heap)(h:UJ V T env.scope.names σ l ops rs=some b):
 wpAny (model prog w) A (eval (.Compare l ops rs pos) env) (gU G s (.bool b)) E s/\wpAny (model prog w) A (isTrue (.Compare l ops rs pos) env (eval (.Compare l ops rs pos) env)) (λb' s'=>b'=b/\Keeps s s') E s:=by
 obtain⟨op,r,rfl,rfl,hb,_⟩:=H5 (prog:=prog) (w:=w) (A:=A) (E:=E) VO TO bu am x h;have h2:=(yy (prog:=prog) (w:=w) (A:=A) (E:=E) VO TO bu am x h).2;exact⟨wpAny_Compare1 (ai h2 (λa s1 q1=>ai q1 (λc s2 q2=>ai q2 (λv s3 q3=>q3.1.symm▸⟨q3.2,kx⟩) λ_ _ e=>e) λ_ _ e=>e) λ_ _ e=>e) hb,
  amC (ai h2 (λa s1 q1=>ai q1 (λc s2 q2=>ai q2 (λv s3 q3=>q3.1.symm▸fW ⟨rfl,q3.2⟩) λ_ _ e=>e) λ_ _ e=>e) λ_ _ e=>e) hb⟩
theorem Fn(VO:c8 prog w La Bu V)(bu:Bu A)(am:dq A La s)(x:In env G σ s.heap)(h:((tJ (V.d env.scope.names σ) es).bind λds=>if ds.length<=ei then some (D.lst ds)else none)=some d):
 wpAny (model prog w) A (eval (.List es pos) env) (gU G s d) E s:=by
 obtain⟨ds,h1,h2⟩:=aO h;obtain⟨hl,rfl⟩:=bx h2;exact wpAny_List (nr VO bu am x h1 λvs s1 k1 _ x1 r1=>⟨by rw[r1.length];exact aq hl ic,Keeps.trans' k1 (Keeps.push _),m8 x1.lo r1⟩)
theorem Fo(VO:c8 prog w La Bu V)(bu:Bu A)(am:dq A La s)(x:In env G σ s.heap)(h:((tJ (V.d env.scope.names σ) es).bind λds=>if ds.length<=ei then some (D.tup ds)else none)=some d):
 wpAny (model prog w) A (eval (.Tuple es k pos) env) (gU G s d) E s:=by
 obtain⟨ds,h1,h2⟩:=aO h;obtain⟨hl,rfl⟩:=bx h2;exact NT (nr VO bu am x h1 λvs s1 k1 _ x1 r1=>⟨by rw[r1.length];exact aq hl ic,Keeps.trans' k1 (Keeps.push _),EJ x1.lo r1⟩)
theorem Fp(VO:c8 prog w La Bu V)(TO:dP prog w La Bu T)(bu:Bu A)(am:dq A La s)(x:In env G σ s.heap)(h:PG V T env.scope.names σ pos args f=some d):
 wpAny (model prog w) A (eval (.Call f args [] pos) env) (gU G s d) E s:=by
 unfold PG at h;cases ha:NX f with
 |some a=>
  rw[ha]at h;obtain⟨hc,h⟩:=dy h;rw[a.2];exact Fi VO TO bu am x hc.1.1 hc.1.2 hc.2 h
 |none=>
  rw[ha]at h;obtain⟨n,_,h⟩:=aO h;rw[n.2];exact Fh VO TO bu am x h
theorem Fq(VO:c8 prog w La Bu V)(TO:dP prog w La Bu T)(bu:Bu A)(am:dq A La s)(x:In env G σ s.heap)(h:PH V T env.scope.names σ e=some d):
 wpAny (model prog w) A (eval e env) (gU G s d) E s:=by
 refine Jx (P:=λe=>wpAny (model prog w) A (eval e env) (gU G s d) E s) e (λop es pos h=>H9 VO bu am x h) (λl op r pos h=>Ib VO bu am x h) (λop y pos h=>?_) (λt a b pos h=>Ma VO bu am x h) (λelt gens scope pos h=>?_) (λl ops rs pos h=>?_) (λf args H3 pos h=>?_)
  (λc k pos h=>L9 am.tk h) (λv sl pos h=>Ia VO bu am x h) (λn pos h=>Fj TO am x h) (λes pos h=>Fn VO bu am x h) (λes k pos h=>Fo VO bu am x h) h
 ·obtain⟨a,h1,h2⟩:=aO h
  exact UnaryOp_ (fL VO bu am x h1 λva s1 k1 _ _ r1=>fA k1 (HT r1 h2))
 ·obtain⟨out,h1,rfl⟩:=dC h
  exact ai (wt VO bu am x h1) (λ_ _ q=>q.1) λ_ _ e=>e
 ·obtain⟨b,h1,rfl⟩:=dC h
  exact(yA VO TO bu am x h1).1
 ·cases H3 with
  |cons _ _=>exact no h
  |nil=>exact Fp VO TO bu am x h
theorem sr(VO:c8 prog w La Bu V)(bu:Bu A)(am:dq A La s)(x:In env G σ s.heap)(he:isTrue e env (eval e env)=(do let v<-eval e env;standAt e.pos;holding [v] (truthy v)))(h:(V.d env.scope.names σ e).bind m9=some b):
 wpAny (model prog w) A (isTrue e env (eval e env)) (λb' s'=>b'=b/\Keeps s s') E s:=by
 obtain⟨d,h1,h2⟩:=aO h;exact isTrue_plain (fL VO bu am x h1 λv s1 k1 _ _ r1=>rE k1 (mm r1 h2)) he
theorem Fs(VO:c8 prog w La Bu V)(TO:dP prog w La Bu T)(bu:Bu A)(am:dq A La s)(x:In env G σ s.heap)(h:XY V T env.scope.names σ e=some b):
 wpAny (model prog w) A (isTrue e env (eval e env)) (λb' s'=>b'=b/\Keeps s s') E s:=by
 refine Jx (P:=λe=>wpAny (model prog w) A (isTrue e env (eval e env)) (λb' s'=>b'=b/\Keeps s s') E s) e (λop es pos h=>avp (H8 VO bu am x h)) (λ_ _ _ _ h=>no h) (λop y pos h=>?_) (λ_ _ _ _ h=>no h) (λ_ _ _ _ h=>no h) (λl ops rs pos h=>(yA VO TO bu am x h).2) (λf args k pos h=>sr VO bu am x rfl h)
  (λ_ _ _ h=>no h) (λ_ _ _ h=>no h) (λn pos h=>sr VO bu am x rfl h) (λ_ _ h=>no h) (λ_ _ _ h=>no h) h
 cases op<;>first|exact no h|skip
 obtain⟨c,h1,rfl⟩:=dC h;exact isTrue_not (sq VO bu am x h1 λs1 k1 _ _=>⟨rfl,k1⟩)
theorem lN(VO:c8 prog w La Bu V)(TO:dP prog w La Bu T):c8 prog w La Bu (iU T V):=
 ⟨λ_ _ _ _ _ _ _ _ bu am x h=>Fq VO TO bu am x h,λ_ _ _ _ _ _ _ _ bu am x h=>Fs VO TO bu am x h⟩
theorem gq(TO:dP prog w La Bu T):∀n,c8 prog w La Bu (dS T n):=by
 intro zx
 induction zx with
 |zero=>
  exact⟨λ_ _ _ _ _ _ _ _ _ _ _ h=>(nomatch h),λ_ _ _ _ _ _ _ _ _ _ _ h=>(nomatch h)⟩
 |succ n ih=>
  exact lN (ih) TO
end
end
section
theorem Ns.uniq{h:Heap}{a:Addr}{m m':Str->Option Value}(x:h.Ns a m)(y:h.Ns a m')(n:Str):m n=m' n:=by
 obtain⟨o,es,ep,h1,h2,_,h3⟩:=x;obtain⟨o',JC,ep',h1',XK,_,Sq⟩:=y;rw[h1]at h1';cases h1';rw[h2]at XK;cases XK;rw[<-h3,<-Sq]
def J6(env:Env)(h:Heap)(n:Str)(v:Value):Prop:=
 (env.kindOf n=some .local->∃m,h.Ns env.locals m/\m n=some v)/\(env.kindOf n=some .cell->∃c,env.cells.lookup n=some c/\h.IsCell c (some v))
theorem J6.keeps(x:J6 env h n v)(k:bT h h'):J6 env h' n v:=
 ⟨λhk=>by obtain⟨m,a,b⟩:=x.1 hk;exact⟨m,a.keeps k,b⟩,λhk=>by obtain⟨c,a,b⟩:=x.2 hk;exact⟨c,a,b.keeps k⟩⟩
theorem J6.kept(x:J6 env h n v)(k:Kept X h h')(hl:¬X env.locals)(hc:∀n c,env.cells.lookup n=some c->¬X c):J6 env h' n v:=
 ⟨λhk=>by obtain⟨m,a,b⟩:=x.1 hk;exact⟨m,a.at' λo e=>k _ o hl e,b⟩,λhk=>by obtain⟨c,a,o,b,b'⟩:=x.2 hk;exact⟨c,a,o,k _ _ (hc n c a) b,b'⟩⟩
theorem PK(r0:bU h G D0 (.ref a))(d)(v):sizeOf d<sizeOf D0->bU h G d v->bU h (λb=>G b\/b=a) d v:=
 bU.gen (P:=λd=>sizeOf d<sizeOf D0) (λl p d q=>dz (dz (WX q) (by simp)) p) (λl p d q=>dz (dz (WX q) (by simp)) p)
  (λd b o p r nb g=>⟨λq=>q.elim nb λz=>dN _ (bU.inj (z▸r) r0▸p:sizeOf D0<sizeOf D0),g⟩) d v
theorem By(r0:bU h G D0 (.ref a)):∀(vs:List Value),sizeOf ds<sizeOf D0->aZ h G ds vs->aZ h (λb=>G b\/b=a) ds vs:=by
 induction ds with
 |nil=>exactλ_ _ x=>x
 |cons d ds ih=>
  intro vs hs x;obtain⟨v,r,rfl,a,b⟩:=x.eM;have h1:sizeOf d<sizeOf (d::ds):=by simp;omega
  have h2:sizeOf ds<sizeOf (d::ds):=by simp;omega
  exact .cons (PK r0 d v (dz h1 hs) a) (ih r (dz h2 hs) b)
def nv(d:D):Bool:=b8 d.ctorIdx 5
theorem lO(hf:nv d=true)(r:bU h G d v):bU h' G' d v:=by
 cases d with
 |tup l=>cases hf
 |lst l=>cases hf
 |nZ _ _ _=>cases hf
 |_=>exact r
theorem eJ:∀{vs:List Value},ds.all nv=true->aZ h G ds vs->aZ h' G' ds vs:=by
 induction ds with
 |nil=>exactλ_ r=>r
 |cons d ds ih=>
  intro vs hf r;obtain⟨v,q,rfl,a,b⟩:=r.eM;rw[qG,av]at hf;exact .cons (lO hf.1 a) (ih hf.2 b)
def du(own:List Str)(σ:cu):cu:=σ.filter λp=> !own.contains p.1
theorem fF:∀{σ:cu}{n:Str},look (du own σ) n=if own.contains n=true then none else look σ n:=λ{σ}=>by
 induction σ with
 |nil=>
  intro n;show look [] n=_;dsimp only[look];split<;>rfl
 |cons a r ih=>
  intro n;obtain⟨x,d⟩:=a;unfold du;rw[dk];dsimp only;by_cases hx:own.contains x=true
  ·rw[hx]
   simp only[qJ,kq,if_false];show look (du own r) n=_;rw[ih];by_cases hn:x=n
   ·subst hn;rw[if_pos hx,if_pos hx]
   ·by_cases ho:own.contains n=true
    ·rw[if_pos ho,if_pos ho]
    ·rw[if_neg ho,if_neg ho];unfold look;rw[if_neg hn]
     cases r<;>rfl
  ·have Mb:own.contains x=false:=by simpa using hx
   rw[Mb];simp only[Bool.not_false,if_true];show look ((x,d)::du own r) n=_;dsimp only[look];by_cases hn:x=n
   ·subst hn
    rw[if_pos rfl,if_pos rfl,if_neg hx]
   ·rw[if_neg hn,if_neg hn]
    exact ih
theorem J7:∀{σ:cu}{n:Str}{d:D},look σ n=some d->d≠.JR:=by
 intro zx
 induction zx with
 |nil=>
  rintro _ _ h;cases h
 |cons zh r ih=>
  obtain⟨x,e⟩:=zh;rintro n d h;unfold look at h;split at h
  ·split at h
   ·cases h
   ·rename_i q
    cases h;exact q
  ·exact ih h
theorem gT:look (put n d σ) n=look (put n d σ') n:=by
 have key:∀σ:cu,look (put n d σ) n=(match d with|.JR=>none|d=>some d):=by
  intro σ
  induction σ with
  |nil=>dsimp only[put,look];rw[if_pos rfl];all_goals (cases d<;>rfl)
  |cons p r ih=>
   obtain⟨x,e⟩:=p;dsimp only[put];split
   ·rename_i hx
    dsimp only[look];rw[if_pos hx];all_goals (cases d<;>rfl)
   ·rename_i hx
    dsimp only[look];rw[if_neg hx];exact ih
 rw[key,key]
section
variable{prog:bb}{w:World}{A:aC}{E:Value->ah->Prop}{s:ah}{env:Env}{G:Addr->Prop}{σ:cu}
theorem In.aa9{n:Str}{d:D}{v:Value}(x:In env G σ s.heap)(hk:env.kindOf n=some .local\/env.kindOf n=some .cell)(r:d≠.JR->bU s.heap G d v):
 wpAny (model prog w) A (storeName env n v) (λ_ s'=>Upd (λa=>a=env.locals\/env.cells.lookup n=some a) s s'/\In env G (put n d σ) s'.heap/\J6 env s'.heap n v/\∀k u,k≠n->J6 env s.heap k u->J6 env s'.heap k u) E s:=by
 obtain⟨m,hm,hv⟩:=x.va;rcases hk with hk|hk
 ·refine mW hk hm (λh' Pt n9=>?_) (by rw[x.fn];rfl)
  have u:Upd (λa=>a=env.locals) s {s with heap:=h',toks:=s.toks+1}:=⟨h',_,rfl,λb o hb e=>n9.extBut b o hb e⟩
  refine⟨u.more λa q=>.inl q,⟨x.fn,x.gl,x.bi,?_,x.fl,x.fc,x.inj,λk mI=>?_,⟨_,Pt,λk e he=>⟨λmI=>?_,λmI=>?_⟩⟩⟩,⟨λ_=>⟨_,Pt,by simp⟩,λq=>by rw[hk]at q;cases q⟩,λk u jY PN=>⟨λq=>?_,λq=>?_⟩⟩
  ·obtain⟨o,_,_,ho,_⟩:=Pt
   exact x.lo.sameBut n9 (by rw[ho];rfl)
  ·obtain⟨c,v',h1,h2⟩:=x.ce k mI
   exact⟨c,v',h1,h2.sameBut n9 (x.fc k c h1).2⟩
  ·by_cases jY:k=n
   ·subst jY
    have:=iT he;subst this;exact⟨v,by simp,u.rep (λa q=>q▸x.fl) (r (J7 he))⟩
   ·rw[cU jY]at he
    obtain⟨v',h1,h2⟩:=(hv k e he).1 mI;exact⟨v',by simpa [jY]using h1,u.rep (λa q=>q▸x.fl) h2⟩
  ·have jY:k≠n:=λq=>by subst q;rcases mI with mI|mI<;>(rw[hk]at mI;cases mI)
   rw[cU jY]at he;obtain⟨c,v',h1,h2,h3⟩:=(hv k e he).2 mI;exact⟨c,v',h1,h2.sameBut n9 (x.fc k c h1).2,u.rep (λa q=>q▸x.fl) h3⟩
  ·obtain⟨m',h1,h2⟩:=PN.1 q
   exact⟨_,Pt,by rw[if_neg jY,Ns.uniq hm h1];exact h2⟩
  ·obtain⟨c,h1,h2⟩:=PN.2 q
   exact⟨c,h1,h2.sameBut n9 (x.fc k c h1).2⟩
 ·obtain⟨c,aoN,hc,hc0⟩:=x.ce n hk
  refine asS x.fn hk hc hc0 λh' LY n9=>?_;have u:Upd (λa=>a=c) s {s with heap:=h'}:=⟨h',_,rfl,λb o hb e=>n9.extBut b o hb e⟩
  have oe:=(x.fc n c hc).2;have hcG:=(x.fc n c hc).1;refine⟨u.more λa q=>.inr (q▸hc),⟨x.fn,x.gl,x.bi,?_,x.fl,x.fc,x.inj,λk mI=>?_,⟨m,hm.sameBut n9 (gi oe),λk e he=>⟨λmI=>?_,λmI=>?_⟩⟩⟩,⟨(λq=>by rw[hk]at q;cases q),λ_=>⟨c,hc,LY⟩⟩,λk u' jY PN=>⟨λq=>?_,λq=>?_⟩⟩
  ·obtain⟨o,ho,_⟩:=LY
   exact x.lo.sameBut n9 (by rw[ho];rfl)
  ·by_cases jY:k=n
   ·subst jY;exact⟨c,_,hc,LY⟩
   ·obtain⟨c',v',h1,h2⟩:=x.ce k mI
    exact⟨c',v',h1,h2.sameBut n9 λq=>jY (x.inj k n c (q▸h1) hc)⟩
  ·have jY:k≠n:=λq=>by subst q;rw[hk]at mI;cases mI
   rw[cU jY]at he;obtain⟨v',h1,h2⟩:=(hv k e he).1 mI;exact⟨v',h1,u.rep (λa q=>q▸hcG) h2⟩
  ·by_cases jY:k=n
   ·subst jY
    have:=iT he;subst this;exact⟨c,v,hc,LY,u.rep (λa q=>q▸hcG) (r (J7 he))⟩
   ·rw[cU jY]at he
    obtain⟨c',v',h1,h2,h3⟩:=(hv k e he).2 mI;exact⟨c',v',h1,h2.sameBut n9 (λq=>jY (x.inj k n c (q▸h1) hc)),u.rep (λa q=>q▸hcG) h3⟩
  ·obtain⟨m',h1,h2⟩:=PN.1 q
   exact⟨m',h1.sameBut n9 (gi oe),h2⟩
  ·obtain⟨c',h1,h2⟩:=PN.2 q
   exact⟨c',h1,h2.sameBut n9 λz=>jY (x.inj k n c (z▸h1) hc)⟩
end
end
section
def J8:qU->Bool
 |.Add=>true
 |_=>false
theorem PO(h:J8 op=true):op=.Add:=by cases op<;>first|rfl|exact lW h
inductive FrI:ae->Prop
 |lst (es:List ae) (pos:Pos):FrI (.List es pos)
 |comp (elt:ae) (gens:List dX) (scope:Scope) (pos:Pos):FrI (.ListComp elt gens scope pos)
 |bin (l r:ae) (pos:Pos):FrI (.BinOp l .Add r pos)
 |call (args:List ae) (H3:List SN) (fp pos:Pos):FrI (.Call (.Name "list" fp) args H3 pos)
def frQ(e):Option (PLift (FrI e)):=
 match aeT e with
 |some x=>some ⟨x.2▸.lst _ _⟩
 |none=>match W5 e with
  |some x=>some ⟨x.2▸.comp _ _ _ _⟩
  |none=>match amQ e with
   |some x=>if h:J8 x.1.2.1=true then some ⟨by rw[x.2,PO h];exact .bin _ _ _⟩else none
   |none=>(NY e).bind λx=>(rW x.1.1).bind λy=>if h:y.1.1=("list":Str)then some ⟨by rw[x.2,y.2,h];exact .call _ _ _ _⟩else none
def j1(e:ae):Bool:=(frQ e).isSome
theorem frI(h:j1 e=true):FrI e:=((frQ e).get h).down
section
variable{prog:bb}{w:World}{A:aC}{E:Value->ah->Prop}{G:Addr->Prop}{env:Env}{La:Heap->Prop}{Bu:aC->Prop}{V:Ev}{T:ec}{σ:cu}{s:ah}
theorem ky.before(k:Keeps s s')(f:ky s' v):ky s v:=by
 obtain⟨a,e,h⟩:=f;refine⟨a,e,?_⟩;cases g:s.heap.get? a with
 |none=>rfl
 |some o=>rw[Keeps.all k a o g]at h;cases h
theorem Ic(ok:Ok A G s)(r:aZ s.heap G ds vs)(e:cH .list ds=some d):
 wpAny (model prog w) A (call (.type "list") vs) (λv s'=>gU G s d v s'/\ky s v) E s:=
 d1E (P:=λvs=>wpAny (model prog w) A (call (.type "list") vs) (λv s'=>gU G s d v s'/\ky s v) E s) r e λx v r e=>yi ok r e
theorem Ie(VO:c8 prog w La Bu V)(TO:dP prog w La Bu T)(bu:Bu A)(am:dq A La s)(x:In env G σ s.heap)(h:J3 V T env.scope.names σ "list" args=some (.lst ds)):
 wpAny (model prog w) A (eval (.Call (.Name "list" fp) args [] pos) env) (λv s'=>gU G s (.lst ds) v s'/\ky s v) E s:=by
 unfold J3 at h;obtain⟨hk,h⟩:=dy h;rw[if_neg (by decide)]at h;obtain⟨w7,h1,h2⟩:=aO h;rw[show Bi.of (tw "list")=some .list from by rfl']at h2;have hp:=(j0 (env:=env) (pos:=pos) h1).1;show wpAny _ _ (do callWith pos (<-eval (.Name "list" fp) env) [] (backTo pos (starEach args env)) []) _ _ _;refine ao (nu x hk.1 hk.2 (.inr (TO.bi _ .list (am.la _ λ_ _ e=>e))) ?_);refine xj hp (dT hp ?_);refine ai (bw am.tk (nq VO bu am x h1)) (λvs s1 q1=>?_) λ_ _ e=>e;exact ai (Ic ((am.keeps q1.2.1 q1.1).ok (x.keeps (Keeps.all q1.2.1)).lo) q1.2.2 h2) (λv s3 q3=>⟨⟨Keeps.trans' q1.2.1 q3.1.1,q3.1.2⟩,ky.before q1.2.1 q3.2⟩) λ_ _ e=>e
theorem wu(VO:c8 prog w La Bu V)(TO:dP prog w La Bu T)(bu:Bu A)(am:dq A La s)(x:In env G σ s.heap)(hf:j1 e=true)(h:PH V T env.scope.names σ e=some (.lst ds)):
 wpAny (model prog w) A (eval e env) (λv s'=>gU G s (.lst ds) v s'/\ky s v) E s:=by
 cases frI hf with
 |lst es pos=>
  obtain⟨w7,h1,h2⟩:=aO h;obtain⟨hl,h2⟩:=bx h2;refine wpAny_List (ai (nq VO bu am x h1) (λvs s1 q1=>⟨?_,?_⟩) λ_ _ e=>e)
  ·rw[q1.2.length];exact aq hl ic
  ·exact D.lst.inj h2▸⟨⟨Keeps.trans' q1.1 (Keeps.push _),m8 (x.keeps (Keeps.all q1.1)).lo q1.2⟩,ky.before q1.1 ⟨_,rfl,kl _⟩⟩
 |comp elt gens scope pos=>
  obtain⟨out,h1,h2⟩:=dC h;exact D.lst.inj h2▸wt VO bu am x h1
 |bin l r pos=>
  obtain⟨a,h1,h2⟩:=aO h;obtain⟨b,h3,h4⟩:=aO h2;refine AY (ai (bw am.tk (VO.d A E env G σ s l a bu am x h1)) (λva s1 q1=>?_) λ_ _ e=>e);have x1:=x.keeps (Keeps.all q1.2.1);refine ai (bw q1.1 (VO.d A E env G σ s1 r b bu (am.keeps q1.2.1 q1.1) x1 h3)) (λvc s2 q2=>?_) λ_ _ e=>e;exact ai (Be q2.1 (x1.keeps (Keeps.all q2.2.1)).lo (q1.2.2.keeps (Keeps.all q2.2.1)) q2.2.2 h4) (λv s3 q3=>⟨⟨Keeps.trans' (Keeps.trans' q1.2.1 q2.2.1) q3.1.1,q3.1.2⟩,ky.before (Keeps.trans' q1.2.1 q2.2.1) (q3.2 rfl)⟩) λ_ _ e=>e
 |call args H3 fp pos=>
  cases H3 with
  |cons _ _=>exact no h
  |nil=>exact Ie VO TO bu am x h
end
end
section
def Ow(env:Env)(n:Str):Prop:=env.kindOf n=some .local\/env.kindOf n=some .cell
structure nV(env:Env)(F:Addr->Prop)(az:ah):Prop where
 hl:az.heap.get? env.locals=none
 hc:∀n c,Ow env n->env.cells.lookup n=some c->az.heap.get? c=none
 lo:iQ F az.heap
inductive aid(env:Env)(h₀:Heap)(σ:cu)(h:Heap)(G:Addr->Prop)(n:Str)(a:Addr):Prop
 |mk (hk:env.kindOf n=some .local\/env.kindOf n=some .cell) (hv:J6 env h n (.ref a)) (hg:G a) (hn:h₀.get? a=none) (ds:List D) (hl:look σ n=some (.lst ds)) (ac:Acc G h a ds)
structure SI(env:Env)(F:Addr->Prop)(az:ah)(σ:cu)(own:List Str)(s:ah)(G:Addr->Prop)(oa:Str->Addr):Prop where
 hF:∀a,F a->G a
 hN:∀a,G a->F a\/az.heap.get? a=none
 kp:Keeps az s
 tk:1<=s.toks
 ie:In env G (du own σ) s.heap
 ow:∀n,n∈own->aid env az.heap σ s.heap G n (oa n)
 od:∀n,n∈own->oa n≠env.locals/\∀k,env.cells.lookup k≠some (oa n)
 oi:∀n n',n∈own->n'∈own->oa n=oa n'->n=n'
def rF(n:Str)(own:List Str):List Str:=own.filter λm=>m != n
theorem ig:m∈rF n own↔m∈own/\m≠n:=by
 unfold rF;rw[gy];simp
section
variable{prog:bb}{w:World}{A:aC}{E:Value->ah->Prop}{G F:Addr->Prop}{env:Env}{az s s':ah}{σ:cu}{own:List Str}{oa:Str->Addr}
theorem SI.owG(si:SI env F az σ own s G oa)(hn:n∈own):G (oa n):=by
 obtain⟨_,_,h⟩:=si.ow n hn;exact h
theorem SI.owN(si:SI env F az σ own s G oa)(hn:n∈own):az.heap.get? (oa n)=none:=by
 obtain⟨_,_,_,h⟩:=si.ow n hn;exact h
theorem SI.keeps(si:SI env F az σ own s G oa)(k:Keeps s s')(t:1<=s'.toks):SI env F az σ own s' G oa:=
 ⟨si.hF,si.hN,Keeps.trans' si.kp k,t,si.ie.keeps (Keeps.all k),λn hn=>by
   obtain⟨h1,h2,h3,h4,ds,h5,h6⟩:=si.ow n hn;exact⟨h1,h2.keeps (Keeps.all k),h3,h4,ds,h5,h6.keeps (Keeps.all k)⟩,si.od,si.oi⟩
theorem SI.weak(si:SI env F az σ own s G oa):In env (λa=>G a/\∀n,n∈own->a≠oa n) σ s.heap:=by
 have x:=si.ie;have hs:∀a,(G a/\∀n,n∈own->a≠oa n)->G a:=λa q=>q.1;refine⟨x.fn,x.gl,x.bi,λb q=>x.lo b q.1,⟨x.fl,λn hn q=>(si.od n hn).1 q.symm⟩,λn c e=>⟨⟨(x.fc n c e).1,λm hm q=>(si.od m hm).2 n (q▸e)⟩,(x.fc n c e).2⟩,x.inj,x.ce,?_⟩;obtain⟨m,hm,hv⟩:=x.va;refine⟨m,hm,λn d e=>?_⟩;by_cases hn:n∈own
 ·obtain⟨h1,h2,h3,h4,ds,h5,vs,k,h6,h7⟩:=si.ow n hn
  rw[e]at h5;cases h5;have rep:bU s.heap (λa=>G a/\∀n,n∈own->a≠oa n) (.lst ds) (.ref (oa n)):=by
   exact g8 (vs:=vs.toList) (λq=>q.2 n hn rfl) h6 (h7.less λb q=>.inl q.1)
  refine⟨λhk=>?_,λhk=>?_⟩
  ·obtain⟨m',q1,q2⟩:=h2.1 hk
   exact⟨_,by rw[Ns.uniq hm q1];exact q2,rep⟩
  ·obtain⟨c,q1,q2⟩:=h2.2 (hk.resolve_right λq=>by rcases h1 with h1|h1<;>(rw[h1]at q;cases q))
   exact⟨c,_,q1,q2,rep⟩
 ·have e':look (du own σ) n=some d:=by
   rw[fF,if_neg (by simpa using hn)];exact e
  refine⟨λhk=>?_,λhk=>?_⟩
  ·obtain⟨v,q1,q2⟩:=(hv n d e').1 hk
   exact⟨v,q1,q2.less λb q=>.inl q.1⟩
  ·obtain⟨c,v,q1,q2,q3⟩:=(hv n d e').2 hk
   exact⟨c,v,q1,q2,q3.less λb q=>.inl q.1⟩
theorem SI.Fb{Y:Addr->Prop}(si:SI env F az σ own s G oa)(k:Keeps s s')(t:1<=s'.toks)(h0:∀a,Y a->s.heap.get? a=none)(h1:∀a,Y a->(s'.heap.get? a).isSome=true):SI env F az σ own s' (λb=>G b\/Y b) oa:=by
 have h00:∀a,Y a->az.heap.get? a=none:=λa q=>by
  cases e:az.heap.get? a with
  |none=>rfl
  |some o=>have:=Keeps.all si.kp a o e;rw[h0 a q]at this;cases this
 refine⟨λb q=>.inl (si.hF b q),λb q=>?_,Keeps.trans' si.kp k,t,si.ie.Fb (Keeps.all k) h0 h1,λn hn=>?_,si.od,si.oi⟩
 ·rcases q with q|q
  ·exact si.hN b q
  ·exact .inr (h00 b q)
 ·obtain⟨q1,q2,q3,q4,ds,q5,vs,m,q6,q7⟩:=si.ow n hn
  exact⟨q1,q2.keeps (Keeps.all k),.inl q3,q4,ds,q5,vs,m,Keeps.all k _ _ q6,aZ.kept (F:=G) (λb o _ e=>Keeps.all k b o e) (λb q=>Or.imp id (h0 b) q) _ _ q7⟩
theorem SI.grow(si:SI env F az σ own s G oa)(k:Keeps s s')(t:1<=s'.toks)(h0:s.heap.get? a=none)(h1:(s'.heap.get? a).isSome=true):SI env F az σ own s' (λb=>G b\/b=a) oa:=
 si.Fb k t (λ_ q=>q▸h0) (λ_ q=>q▸h1)
theorem SI.shrink(si:SI env F az σ own s G oa)(u:Upd (λa=>a=C) s s')(t:1<=s'.toks)(hC:G C)(hCF:¬F C)(h0:az.heap.get? C=none)(hl:C≠env.locals)(hc:∀n,env.cells.lookup n≠some C)(ho:∀n,n∈own->oa n≠C):
 SI env F az σ own s' (λa=>G a/\a≠C) oa:=by
 have kp:Kept (λa=>a=C) s.heap s'.heap:=u.kept λ_ q=>q;refine⟨λb q=>⟨si.hF b q,λz=>hCF (z▸q)⟩,λb q=>si.hN b q.1,u.keeps (λa q=>q▸h0) si.kp,t,si.ie.shrink u hC hl hc,λn hn=>?_,si.od,si.oi⟩;obtain⟨q1,q2,q3,q4,ds,q5,vs,m,q6,q7⟩:=si.ow n hn;exact⟨q1,q2.kept kp (λz=>hl z.symm) (λn c e z=>hc n (z▸e)),⟨q3,ho n hn⟩,q4,ds,q5,vs,m,kp _ _ (ho n hn) q6,(u.E2 (G:=G) (λa q=>q▸hC) q7).less λb q=>.inl q.1⟩
theorem nV.ao3(fr:nV env F az)(hk:Ow env n)(h:a=env.locals\/env.cells.lookup n=some a):az.heap.get? a=none:=by
 rcases h with h|h
 ·exact h▸fr.hl
 ·exact fr.hc n a hk h
theorem SI.bind(si:SI env F az σ own s G oa)(fr:nV env F az)(hk:env.kindOf n=some .local\/env.kindOf n=some .cell)(r:d≠.JR->bU s.heap G d v):
 wpAny (model prog w) A (storeName env n v) (λ_ s'=>1<=s'.toks/\Upd (λa=>a=env.locals\/env.cells.lookup n=some a) s s'/\SI env F az (put n d σ) (rF n own) s' G oa/\J6 env s'.heap n v) E s:=by
 refine ai (bw si.tk (si.ie.aa9 hk r)) (λ_ s' q=>?_) λ_ _ e=>e;obtain⟨t,u,x,hv,hvs⟩:=q;have HW:∀a,(a=env.locals\/env.cells.lookup n=some a)->G a:=λa q=>by
  rcases q with q|q
  ·exact q▸si.ie.fl
  ·exact(si.ie.fc n a q).1
 refine⟨t,u,⟨si.hF,si.hN,u.keeps (λa q=>fr.ao3 hk q) si.kp,t,x.sub λk e he=>?_,λk jQ=>?_,λk jQ=>si.od k (ig.mp jQ).1,λk k' h1 h2=>si.oi k k' (ig.mp h1).1 (ig.mp h2).1⟩,hv⟩
 ·rw[fF]at he
  split at he
  ·cases he
  ·rename_i hc
   by_cases jY:k=n
   ·subst jY
    rw[gT (σ':=σ)];exact he
   ·rw[cU jY]at he⊢
    rw[fF,if_neg ?_]
    ·exact he
    ·intro q
     exact hc (by simpa using ig.mpr ⟨by simpa using q,jY⟩)
 ·obtain⟨hm,mV⟩:=ig.mp jQ
  obtain⟨q1,q2,q3,q4,ds,q5,q6⟩:=si.ow k hm;refine⟨q1,hvs k _ mV q2,q3,q4,ds,by rw[cU mV];exact q5,q6.kept (u.kept λ_ q=>q) HW λz=>?_⟩;rcases z with z|z
  ·exact(si.od k hm).1 z
  ·exact(si.od k hm).2 n z
def qQ(oa:Str->Addr)(n:Str)(a:Addr):Str->Addr:=λk=>if k=n then a else oa k
theorem SI.PQ(si:SI env F az σ own s G oa)(fr:nV env F az)(hk:env.kindOf n=some .local\/env.kindOf n=some .cell)(hG:G a)(h0:az.heap.get? a=none)(ac:Acc G s.heap a ds)
(hl:a≠env.locals)(hc:∀k,env.cells.lookup k≠some a)(hn:∀k,k∈own->k≠n->oa k≠a):
 wpAny (model prog w) A (storeName env n (.ref a)) (λ_ s'=>1<=s'.toks/\Upd (λa=>a=env.locals\/env.cells.lookup n=some a) s s'/\SI env F az (put n (.lst ds) σ) (n::rF n own) s' G (qQ oa n a)) E s:=by
 refine ai (SI.bind (d:=.JR) si fr hk (λq=>absurd rfl q)) (λ_ s' q=>?_) λ_ _ e=>e;obtain⟨t,u,Mc,hv⟩:=q;have HW:∀a,(a=env.locals\/env.cells.lookup n=some a)->G a:=λa q=>by
  rcases q with q|q
  ·exact q▸si.ie.fl
  ·exact(si.ie.fc n a q).1
 have mV:∀{k},k∈rF n own->k≠n:=λh=>(ig.mp h).2;refine⟨t,u,⟨Mc.hF,Mc.hN,Mc.kp,t,Mc.ie.sub λk e he=>?_,λk jQ=>?_,λk jQ=>?_,λk k' h1 h2 e=>?_⟩⟩
 ·rw[fF]at he⊢
  split at he
  ·cases he
  ·rename_i hcn
   have jY:k≠n:=λz=>hcn (by subst z;simp);rw[cU jY]at he;rw[if_neg (λz=>hcn (by simp at z⊢;exact .inr z)),cU jY];exact he
 ·rcases aJ.mp jQ with rfl|hm
  ·refine⟨hk,by unfold qQ;rw[if_pos rfl];exact hv,by unfold qQ;rw[if_pos rfl];exact hG,by unfold qQ;rw[if_pos rfl];exact h0,ds,?_,?_⟩
   ·have:∀σ:cu,look (put k (.lst ds) σ) k=some (.lst ds):=λσ=>by
     rw[gT (σ':=[])];dsimp only[put,look];rw[if_pos rfl]
    exact this σ
   ·unfold qQ;rw[if_pos rfl]
    refine ac.kept (u.kept λ_ q=>q) HW λz=>?_;rcases z with z|z
    ·exact hl z
    ·exact hc _ z
  ·obtain⟨q1,q2,q3,q4,w7,q5,q6⟩:=Mc.ow k hm
   have jY:=mV hm;have e:qQ oa n a k=oa k:=if_neg jY;rw[e];exact⟨q1,q2,q3,q4,w7,by rw[cU jY]at q5⊢;exact q5,q6⟩
 ·rcases aJ.mp jQ with rfl|hm
  ·unfold qQ;rw[if_pos rfl];exact⟨hl,hc⟩
  ·unfold qQ;rw[if_neg (mV hm)];exact Mc.od k hm
 ·rcases aJ.mp h1 with rfl|hm<;>rcases aJ.mp h2 with rfl|hm'
  ·rfl
  ·exfalso
   have e1:qQ oa k a k=a:=if_pos rfl;have e2:qQ oa k a k'=oa k':=if_neg (mV hm');rw[e1,e2]at e;exact hn k' (ig.mp hm').1 (mV hm') e.symm
  ·exfalso
   have e1:qQ oa k' a k'=a:=if_pos rfl;have e2:qQ oa k' a k=oa k:=if_neg (mV hm);rw[e1,e2]at e;exact hn k (ig.mp hm).1 (mV hm) e
  ·have e1:qQ oa n a k=oa k:=if_neg (mV hm)
   have e2:qQ oa n a k'=oa k':=if_neg (mV hm');rw[e1,e2]at e;exact Mc.oi k k' hm hm' e
end
end
section
def eV(V:Ev)(ks:bW)(σ:cu)(own:List Str)(e:ae):Option (D×Bool):=
 match V.d ks (du own σ) e with
 |some d=>some (d,j1 e&&mj d)
 |none=>match V.d ks σ e with
  |some (.lst ds)=>if j1 e=true/\ds.all nv=true then some (.lst ds,true)else none
  |some d=>if nv d=true then some (d,false)else none
  |none=>none
section
variable{prog:bb}{w:World}{A:aC}{E:Value->ah->Prop}{G F:Addr->Prop}{env:Env}{az s s':ah}{σ:cu}{own:List Str}{oa:Str->Addr}{La:Heap->Prop}{Bu:aC->Prop}{V0:Ev}{T:ec}
theorem Bz(lo:iQ G s.heap)(f:ky s v):∃a,v=.ref a/\s.heap.get? a=none/\¬G a:=by
 obtain⟨a,e,h⟩:=f;exact⟨a,e,h,λq=>by
  have:=lo a q;rw[h]at this;cases this⟩
inductive EFI(V:Ev)(ks:bW)(σ:cu)(own:List Str)(e:ae)(d:D)(fl:Bool):Prop
 |own (h1:V.d ks (du own σ) e=some d) (h2:fl=(j1 e&&mj d))
 |lst (ds:List D) (h1:V.d ks σ e=some (.lst ds)) (h2:j1 e=true) (h3:ds.all nv=true) (hd:d=.lst ds)
 |aN (h1:V.d ks σ e=some d) (h2:nv d=true) (h3:fl=false)
theorem Md(h:eV V ks σ own e=some (d,fl)):EFI V ks σ own e d fl:=by
 unfold eV at h;cases h1:V.d ks (du own σ) e with
 |some d'=>rw[h1]at h;cases h;exact .own h1 rfl
 |none=>
  rw[h1]at h;cases h2:V.d ks σ e with
  |none=>rw[h2]at h;exact no h
  |some d'=>
   rw[h2]at h;clear h1;cases d' with
   |lst ds=>
    obtain⟨q,z⟩:=bx h;cases z;exact .lst ds h2 q.1 q.2 rfl
   |_=>
    obtain⟨q,z⟩:=bx h;cases z;exact .aN h2 q rfl
structure EvF(G:Addr->Prop)(s:ah)(d:D)(fl:Bool)(v:Value)(s':ah):Prop where
 t:1<=s'.toks
 k:Keeps s s'
 r:bU s'.heap G d v
 f:fl=true->ky s v/\mj d=true
theorem gB(VO:c8 prog w La Bu V0)(TO:dP prog w La Bu T)(bu:Bu A)(am:dq A La az)(si:SI env F az σ own s G oa)(h:eV (iU T V0) env.scope.names σ own e=some (d,fl)):
 wpAny (model prog w) A (eval e env) (EvF G s d fl) E s:=by
 have DC:=am.keeps si.kp si.tk;have VS:=lN VO TO;cases Md h with
 |own hd hf=>
  subst hf;cases hb:j1 e&&mj d
  ·exact ai (bw si.tk (VS.d A E env G _ s e d bu DC si.ie hd)) (λv s1 q=>⟨q.1,q.2.1,q.2.2,DA⟩) λ_ _ e=>e
  ·obtain⟨h1,h2⟩:=bX.mp hb
   cases d<;>first|exact DA h2|skip
   exact ai (bw si.tk (wu VO TO bu DC si.ie h1 hd)) (λv s1 q=>⟨q.1,q.2.1.1,q.2.1.2,λ_=>⟨q.2.2,rfl⟩⟩) λ_ _ e=>e
 |lst ds hd h1 h2 e0=>
  subst e0;refine ai (bw si.tk (wu VO TO bu DC si.weak h1 hd)) (λv s1 q=>?_) λ_ _ e=>e;obtain⟨t,⟨k,r⟩,fr⟩:=q;refine⟨t,k,?_,λ_=>⟨fr,rfl⟩⟩;obtain⟨a,rfl,h0,nG⟩:=Bz si.ie.lo fr;obtain⟨b,vs,n,e1,_,g,rs⟩:=r.lst;cases e1;exact g8 nG g (eJ h2 rs)
 |aN hd hf e0=>
  subst e0;exact ai (bw si.tk (VS.d A E env _ σ s e d bu DC si.weak hd)) (λv s1 q=>⟨q.1,q.2.1,lO hf q.2.2,DA⟩) λ_ _ e=>e
end
end
section
inductive Fl where
 |nx (σ:cu) (own:List Str)
 |rt (d:D)
def FP(env:Env)(F:Addr->Prop)(az:ah):Fl->Flow->ah->Prop
 |.nx σ own,f,s'=>f=.next/\∃G oa,SI env F az σ own s' G oa
 |.rt d,f,s'=>∃v,f=.ret v/\Keeps az s'/\1<=s'.toks/\bU s'.heap F d v
def Aq(ks:bW)(n:Str):Bool:=match ks.lookup n with|some .local=>true|some .cell=>true|_=>false
theorem p5{env:Env}{n:Str}(h:Aq env.scope.names n=true):env.kindOf n=some .local\/env.kindOf n=some .cell:=by
 unfold Aq at h;split at h
 ·rename_i q;exact .inl q
 ·rename_i q;exact .inr q
 ·cases h
def kK(W:List Str)(n:Str)(c:D×Bool)(p:cu×List Str):cu×List Str:=
 (put n c.1 p.1,if(c.2&&W.contains n)=true then n::rF n p.2 else rF n p.2)
def J9(ks:bW)(n:Str)(p:Pos)(s:Scope)(vp:Pos):Bool:=ks.lookup n==some .local&&p.line==vp.line&& !(s.names.any λx=>x.1==n&&(x.2==.local||x.2==.cell))
def mu(ks:bW)(n:Str)(p:Pos)(e:ae):Bool:=
 eT (motive_1:=λ_=>Bool) e (λ_ _ _=>false) (λ_ _ _=>false) (λ_ _ _ _=>false) (λ_ _ _=>false) (λ_ _ _ _=>false) (λ_ _ _ _=>false) (λ_ _ _=>false) (λ_ _ _=>false) (λ_ _ s vp=>J9 ks n p s vp) (λ_ _ s vp=>J9 ks n p s vp) (λ_ _ _ s vp=>J9 ks n p s vp)
  (λ_ _ _ _=>false) (λ_ _=>false) (λ_ _=>false) (λ_ _=>false) (λ_ _ _ _=>false) (λ_ _ _ _=>false) (λ_ _ _ _=>false) (λ_ _=>false) (λ_ _ _=>false) (λ_ _ _=>false) (λ_ _ _=>false) (λ_ _=>false) (λ_ _=>false) (λ_ _=>false) (λ_ _ _=>false) (λ_ _ _ _=>false)
section
variable{prog:bb}{w:World}{A:aC}{E:Value->ah->Prop}{G F:Addr->Prop}{env:Env}{az s s':ah}{σ:cu}{own W:List Str}{oa:Str->Addr}{La:Heap->Prop}{Bu:aC->Prop}{V0:Ev}{T:ec}
theorem sv(h:env.scope.kind=.function):env.blockKind=.function:=by
 unfold Env.blockKind;rw[h];rfl
theorem nz(hf:env.scope.kind=.function)(n:Str)(p:Pos)(e:ae)(l:Nat):swapsWith e (some (.Name n p)) l env=pure (mu env.scope.names n p e):=by
 have k:(pure false:Sem Bool)=pure false:=rfl;have c:∀(s:Scope)(vp:Pos),(pure (env.blockKind==.function&&env.kindOf n==some .local&&p.line==vp.line&& !(s.names.any λx=>x.1==n&&(x.2==.local||x.2==.cell))):Sem Bool)=pure (J9 env.scope.names n p s vp):=λs vp=>by rw[sv hf];rfl
 exact eT (motive_1:=λe=>swapsWith e (some (.Name n p)) l env=pure (mu env.scope.names n p e)) e (λ_ _ _=>k) (λ_ _ _=>k) (λ_ _ _ _=>k) (λ_ _ _=>k) (λ_ _ _ _=>k) (λ_ _ _ _=>k) (λ_ _ _=>k) (λ_ _ _=>k) (λ_ _ s vp=>c s vp) (λ_ _ s vp=>c s vp) (λ_ _ _ s vp=>c s vp)
  (λ_ _ _ _=>k) (λ_ _=>k) (λ_ _=>k) (λ_ _=>k) (λ_ _ _ _=>k) (λ_ _ _ _=>k) (λ_ _ _ _=>k) (λ_ _=>k) (λ_ _ _=>k) (λ_ _ _=>k) (λ_ _ _=>k) (λ_ _=>k) (λ_ _=>k) (λ_ _=>k) (λ_ _ _=>k) (λ_ _ _ _=>k)
theorem SI.abb(h:∀a,G a↔G' a)(si:SI env F az σ own s G oa):SI env F az σ own s G' oa:=by
 have:G=G':=funext λa=>propext (h a);rwa[<-this]
theorem rG(fr:nV env F az)(hk:env.kindOf n=some .local\/env.kindOf n=some .cell)(si:SI env F az σ own s G oa)(r:bU s.heap G d v)
(PR:fl=true->mj d=true/\∃a,v=.ref a/\SI env F az σ own s (λb=>G b\/b=a) oa/\az.heap.get? a=none/\a≠env.locals/\(∀k,env.cells.lookup k≠some a)/\∀k,k∈own->oa k≠a):
 wpAny (model prog w) A (storeName env n v) (λ_ s'=>1<=s'.toks/\Upd (λa=>a=env.locals\/env.cells.lookup n=some a) s s'/\∃G' Ft,SI env F az (kK W n (d,fl) (σ,own)).1 (kK W n (d,fl) (σ,own)).2 s' G' Ft/\(∀b,G b->G' b)/\
  (∀b,G' b->G b\/v=.ref b)/\∀C,(∀k,k∈own->oa k≠C)->v≠.ref C->∀k,k∈(kK W n (d,fl) (σ,own)).2->Ft k≠C) E s:=by
 unfold kK;dsimp only;split
 ·rename_i hw
  rw[av]at hw;obtain⟨hl,a,rfl,Mc,h0,h1,h2,h3⟩:=PR hw.1;obtain⟨ds,rfl⟩:=tW hl;have ac:Acc (λb=>G b\/b=a) s.heap a ds:=by
   have r':=r;obtain⟨b,vs,k,e,nb,g,rs⟩:=r.lst;cases e;exact⟨vs.toArray,k,g,By r' vs (by simp) rs⟩
  refine ai (SI.PQ Mc fr hk (.inr rfl) h0 ac h1 h2 λk jQ _=>h3 k jQ) (λ_ s1 q=>?_) λ_ _ e=>e;refine⟨q.1,q.2.1,_,_,q.2.2,λb z=>.inl z,λb z=>Or.imp id (λ(z:b=a)=>z▸rfl) z,λC hC hv k jQ=>?_⟩;unfold qQ;split
  ·intro z;exact hv (z▸rfl)
  ·rename_i jY
   rcases aJ.mp jQ with z|z
   ·exact absurd z jY
   ·exact hC k (ig.mp z).1
 ·refine ai (SI.bind si fr hk (λ_=>r)) (λ_ s1 q=>?_) λ_ _ e=>e
  exact⟨q.1,q.2.1,_,_,q.2.2.1,λb z=>z,λb z=>.inl z,λC hC _ k jQ=>hC k (ig.mp jQ).1⟩
theorem SI.CA(si:SI env F az σ own s G oa)(k:Keeps s s')(t:1<=s'.toks)(r:bU s'.heap gO d v)(hd:mj d=true)(f:ky s v):
 ∃a,v=.ref a/\s.heap.get? a=none/\(s'.heap.get? a).isSome=true/\SI env F az σ own s' (λb=>G b\/b=a) oa/\az.heap.get? a=none/\a≠env.locals/\(∀k,env.cells.lookup k≠some a)/\∀k,k∈own->oa k≠a:=by
 obtain⟨a,rfl,h0,nG⟩:=Bz si.ie.lo f;have h1:(s'.heap.get? a).isSome=true:=by
  obtain⟨_,rfl⟩:=tW hd;obtain⟨b,vs,n,e,_,g,_⟩:=r.lst;cases e;rw[show s'.heap.get? a=some _ from g];rfl
 refine⟨a,rfl,h0,h1,si.grow k t h0 h1,?_,λz=>nG (z▸si.ie.fl),λk z=>nG (si.ie.fc k a z).1,λk hk z=>nG (z▸(si.owG hk))⟩;cases e:az.heap.get? a with
 |none=>rfl
 |some o=>rw[Keeps.all si.kp a o e]at h0;cases h0
theorem Ar(VO:c8 prog w La Bu V0)(TO:dP prog w La Bu T)(bu:Bu A)(am:dq A La az)(fr:nV env F az)(hk:env.kindOf n=some .local\/env.kindOf n=some .cell)
(si:SI env F az σ own s G oa)(Fu:mu env.scope.names n p e=false)(h:eV (iU T V0) env.scope.names σ own e=some c):
 wpAny (model prog w) A (exec (.Assign [.Name n p] e pos) env) (FP env F az (.nx (kK W n c (σ,own)).1 (kK W n c (σ,own)).2)) E s:=by
 obtain⟨d,fl⟩:=c;refine rV (ai (gB VO TO bu am si h) (λv s1 q=>?_) λ_ _ e=>e) (by rw[nz si.ie.fn,Fu]);obtain⟨t1,k1,r1,f1⟩:=q;refine ai (rG (W:=W) (fl:=fl) fr hk (si.keeps k1 t1) r1 λPR=>?_) (λ_ s2 q=>?_) λ_ _ e=>e
 ·obtain⟨a,q1,_,_,q2⟩:=si.CA k1 t1 r1 (f1 PR).2 (f1 PR).1
  exact⟨(f1 PR).2,a,q1,q2⟩
 ·obtain⟨_,_,G',Ft,q1,_⟩:=q
  exact⟨rfl,G',Ft,q1⟩
end
end
section
section
variable{prog:bb}{w:World}{A:aC}{E:Value->ah->Prop}{G F:Addr->Prop}{env:Env}{az s s':ah}{σ:cu}{own W:List Str}{oa:Str->Addr}{La:Heap->Prop}{Bu:aC->Prop}{V0:Ev}{T:ec}
theorem Au(VO:c8 prog w La Bu V0)(bu:Bu A)(am:dq A La az)(fr:nV env F az)
(hk:env.kindOf n=some .local\/env.kindOf n=some .cell)
(si:SI env F az σ own s G oa)(Fu:mu env.scope.names n p (.ListComp elt gens scope vp)=true)(h:yw V0 env.scope.names (du own σ) elt gens scope=some out):
 wpAny (model prog w) A (exec (.Assign [.Name n p] (.ListComp elt gens scope vp) pos) env) (FP env F az (.nx (kK W n (.lst out,true) (σ,own)).1 (kK W n (.lst out,true) (σ,own)).2)) E s:=by
 refine gp λQ hP=>?_;rw[exec_Assign_Name_used _ _ _ _ (show swapsWith _ (some (.Name n p)) pos.line env=pure true by rw[nz si.ie.fn,Fu])];refine ao (dF (ao ?_));have x:=si.ie;have h:=Fe h;obtain⟨t,i,f,gs,rfl⟩:=Bw h;refine ao (ai (J4 (use:=some (assign (.Name n p) env)) (Q:=λ_ s'=>FP env F az (.nx (kK W n (.lst out,true) (σ,own)).1 (kK W n (.lst out,true) (σ,own)).2) .next s') VO bu (am.keeps si.kp si.tk) x h
  λs' D C k tk' hD hC Sr Cp aa8=>?_) (λ_ s' hq=>aL (aL (hP _ _ hq))) λ_ _ e=>e)
 clear hP Q;obtain⟨mC,hmC⟩:=Cp;have n0:∀a,s.heap.get? a=none->az.heap.get? a=none:=λa q=>JS (Keeps.all si.kp) q;have nG:∀a,s.heap.get? a=none->¬G a:=λa q z=>nS q (x.lo a z);have hCs:(s'.heap.get? C).isSome=true:=by
  obtain⟨o,_,_,e,_⟩:=hmC;exact sS e
 obtain⟨vs,m,q1,q2⟩:=aa8;have hDs:(s'.heap.get? D).isSome=true:=sS q1;have siC:SI env F az σ own s' (λb=>G b\/b=C) oa:=si.grow k tk' hC hCs;have ao5:SI env F az σ own s' (λb=>(G b\/b=C)\/b=D) oa:=(si.Fb (Y:=λb=>b=C\/b=D) k tk' (λb q=>q.elim (λz=>z▸hC) λz=>z▸hD) (λb q=>q.elim (λz=>z▸hCs) λz=>z▸hDs)).abb λa=>or_assoc.symm;have lne:∀a,s.heap.get? a=none->a≠env.locals:=λa q z=>nG a q (z▸x.fl);have cne:∀a,s.heap.get? a=none->∀k,env.cells.lookup k≠some a:=λa q k z=>nG a q (x.fc k a z).1;have one:∀a,s.heap.get? a=none->∀k,k∈own->oa k≠a:=λa q k hk z=>nG a q (z▸(si.owG hk));have rD:bU s'.heap (λb=>G b\/b=C) (.lst out) (.ref D):=by
  exact g8 (vs:=vs.toList) (λz=>z.elim (nG D hD) Sr) q1 q2
 show wpAny _ _ (assign (.Name n p) env (.ref D)) _ _ _;refine g0 (ai (rG (W:=W) (fl:=true) fr hk siC rD λ_=>⟨rfl,D,rfl,ao5,n0 D hD,lne D hD,cne D hD,one D hD⟩) (λ_ s3 q=>?_) λ_ _ e=>e);obtain⟨t3,u3,G',Ft,tK,g1,g2,g3⟩:=q;exact⟨mC,hmC.at' λo e=>u3.kept (G:=λa=>a=env.locals\/env.cells.lookup n=some a) (λ_ q=>q) C o (λz=>z.elim (lne C hC) (cne C hC n)) e,λh' n9=>⟨rfl,λa=>G' a/\a≠C,Ft,
  tK.shrink ⟨h',s3.toks,rfl,λb o hb e=>n9.extBut b o hb e⟩ t3 (g1 C (.inr rfl)) (λz=>nS (n0 C hC) (fr.lo C z)) (n0 C hC) (lne C hC) (cne C hC) (g3 C (one C hC) λz=>Sr (lb z))⟩⟩
end
end
section
def kL(V:Ev)(ks:bW)(σ:cu)(own W:List Str):List Str->List ae->Option (List (D×Bool))
 |[],es=>match es with
  |[]=>some []
  |_::_=>none
 |n::ns,es=>match es with
  |[]=>none
  |e::es=>if gm e=true then(eV V ks σ own e).bind λc=>(kL V ks σ own W ns es).bind λcs=>some ((c.1,c.2&&W.contains n)::cs)else none
theorem yB(h:kL V ks σ own W [] es=some cs):es=[]/\cs=[]:=by
 cases es with
 |nil=>exact⟨rfl,(af h).symm⟩
 |cons _ _=>exact no h
theorem wx(h:kL V ks σ own W (n::ns) es=some cs):
 ∃e JC c cs',es=e::JC/\gm e=true/\eV V ks σ own e=some c/\kL V ks σ own W ns JC=some cs'/\cs=(c.1,c.2&&W.contains n)::cs':=by
 cases es with
 |nil=>exact no h
 |cons e es=>
  obtain⟨hn,h⟩:=dy h;obtain⟨c,h1,h2⟩:=aO h;obtain⟨cs',h3,h4⟩:=aO h2;exact⟨e,es,c,cs',rfl,hn,h1,h3,(af h4).symm⟩
def aih(n:Str)(c:D×Bool)(p:cu×List Str):cu×List Str:=(put n c.1 p.1,if c.2=true then n::rF n p.2 else rF n p.2)
def p6:List Str->List (D×Bool)->cu×List Str->cu×List Str
 |n::ns,c::cs,p=>p6 ns cs (aih n c p)
 |_,_,p=>p
def iV(cs:List (D×Bool)):Nat:=(cs.filter (·.2)).length
def CP(gO:Addr->Prop)(h:Heap)(a:Addr):List (D×Bool)->List Value->Prop
 |[],vs=>vs=[]
 |c::cs,vs=>∃v r,vs=v::r/\(if c.2=true then v=.ref a/\∃ds,c.1=.lst ds/\Acc gO h a ds else bU h gO c.1 v)/\CP gO h a cs r
theorem CP.kept(k:Kept X h h')(hX:∀b,X b->gO b)(ha:¬X a):∀{cs:List (D×Bool)}{vs:List Value},CP gO h a cs vs->CP gO h' a cs vs:=λ{cs}=>by
 induction cs with
 |nil=>exactλx=>x
 |cons c cs ih=>
  intro vs x;dsimp only[CP]at x⊢;obtain⟨v,r,e,h1,h2⟩:=x;refine⟨v,r,e,?_,ih h2⟩;split
  ·rename_i hc
   rw[if_pos hc]at h1;obtain⟨q1,ds,q2,q3⟩:=h1;exact⟨q1,ds,q2,q3.kept k hX ha⟩
  ·rename_i hc
   rw[if_neg hc]at h1;exact bU.kept (λb o nb e=>k b o (λq=>nb (hX b q)) e) (λ_ q=>.inl q) _ _ h1
theorem CP.length:∀{cs:List (D×Bool)}{vs:List Value},CP gO h a cs vs->vs.length=cs.length:=by
 intro zx
 induction zx with
 |nil=>
  rintro _ x;unfold CP at x;subst x;rfl
 |cons c cs ih=>
  rintro vs x;unfold CP at x;obtain⟨v,r,rfl,h1,h2⟩:=x;simp[ih h2]
theorem CP.plain(k:Kept gO h h')(hG:∀b,ao8 b->gO b\/h.get? b=none):∀{cs:List (D×Bool)}{vs:List Value},iV cs=0->CP gO h a cs vs->CP ao8 h' b cs vs:=λ{cs}=>by
 induction cs with
 |nil=>exactλ_ x=>x
 |cons c cs ih=>
  intro vs hf x;dsimp only[CP]at x⊢;obtain⟨v,r,e,h1,h2⟩:=x;unfold iV at hf;rw[dk]at hf;split at hf
  ·simp at hf
  ·rename_i hc
   rw[if_neg hc]at h1;exact⟨v,r,e,by rw[if_neg hc];exact bU.kept k hG _ _ h1,ih hf h2⟩
section
variable{prog:bb}{w:World}{A:aC}{E:Value->ah->Prop}{G F:Addr->Prop}{env:Env}{az s s':ah}{σ:cu}{own W:List Str}{oa:Str->Addr}{La:Heap->Prop}{Bu:aC->Prop}{V0:Ev}{T:ec}
def Sep(env:Env)(az:ah)(own:List Str)(oa:Str->Addr)(a:Addr):Prop:=
 az.heap.get? a=none/\a≠env.locals/\(∀k,env.cells.lookup k≠some a)/\∀k,k∈own->oa k≠a
inductive EP(env:Env)(F:Addr->Prop)(az:ah)(σ:cu)(own:List Str)(oa:Str->Addr)(G:Addr->Prop)(cs:List (D×Bool))(s:ah)(vs:List Value)(s':ah):Prop
 |mk (t:1<=s'.toks) (k:Keeps s s') (gO:Addr->Prop) (a:Addr) (si:SI env F az σ own s' gO oa) (cp:CP gO s'.heap a cs vs) (alt:(iV cs=0/\gO=G)\/(iV cs≠0/\gO=(λb=>G b\/b=a)/\s.heap.get? a=none/\Sep env az own oa a))
theorem EP.plain(k1:Keeps s aU)(r:bU aU.heap G d v)(x:EP env F az σ own oa G cs aU vs s'):EP env F az σ own oa G ((d,false)::cs) s (v::vs) s':=by
 cases x with
 |mk t k gO a si cp alt=>
 have r2:bU s'.heap gO d v:=by
  rcases alt with⟨_,e⟩|⟨_,e,h0,_⟩
  ·exact e▸r.keeps (Keeps.all k)
  ·exact e▸bU.kept (F:=G) (λb o _ e=>Keeps.all k b o e) (λb q=>Or.imp id (λ(z:b=a)=>z▸h0) q) _ _ r
 exact⟨t,Keeps.trans' k1 k,gO,a,si,⟨v,vs,rfl,r2,cp⟩,alt.imp id λz=>⟨z.1,z.2.1,JS (Keeps.all k1) z.2.2.1,z.2.2.2⟩⟩
theorem EP.ao9(k1:Keeps s aU)(hf:iV cs=0)(ac:Acc (λb=>G b\/b=a) aU.heap a ds)(h0:s.heap.get? a=none)(sp:Sep env az own oa a)(x:EP env F az σ own oa (λb=>G b\/b=a) cs aU vs s'):
 EP env F az σ own oa G ((.lst ds,true)::cs) s (.ref a::vs) s':=by
 cases x with
 |mk t k gO a' si cp alt=>
 rcases alt with⟨_,rfl⟩|⟨hz,_⟩
 ·exact⟨t,Keeps.trans' k1 k,_,a,si,⟨.ref a,vs,rfl,⟨rfl,ds,rfl,ac.keeps (Keeps.all k)⟩,CP.plain (λb o _ e=>e) (λb q=>.inl q) hf cp⟩,.inr ⟨asW _,rfl,h0,sp⟩⟩
 ·exact absurd hf hz
theorem CC(VO:c8 prog w La Bu V0)(TO:dP prog w La Bu T)(bu:Bu A)(am:dq A La az):∀{es:List ae}{cs:List (D×Bool)}{s:ah}{G:Addr->Prop},SI env F az σ own s G oa->
 kL (iU T V0) env.scope.names σ own W ns es=some cs->iV cs<=1->wpAny (model prog w) A (spliced (backTo pos (starEach es env))) (EP env F az σ own oa G cs s) E s:=by
 induction ns with
 |nil=>
  intro es cs s G si h _;obtain⟨rfl,rfl⟩:=yB h;exact Sg ⟨si.tk,Keeps.rfl',G,0,si,rfl,.inl ⟨rfl,rfl⟩⟩
 |cons n ns ih=>
  intro es cs s G si h hf;obtain⟨e,es,c,cs',rfl,hn,h1,h3,rfl⟩:=wx h;refine wpAny_items_cons (ai (gB VO TO bu am si h1) (λv s1 q=>?_) λ_ _ e=>e) (fy hn);obtain⟨t1,k1,r1,f1⟩:=q;cases hb:c.2&&W.contains n with
  |false=>
   rw[hb]at hf;exact ai (ih (si.keeps k1 t1) h3 hf) (λvs s2 q=>q.plain k1 r1) λ_ _ e=>e
  |true=>
   rw[hb]at hf;have hf':iV cs'=0:=Nat.le_zero.mp (WY hf);have f2:=f1 ((av _ _).mp hb).1;obtain⟨a,rfl,h0,_,tL,sp⟩:=si.CA k1 t1 r1 f2.2 f2.1;obtain⟨ds,hd⟩:=tW f2.2;rw[hd]at r1⊢;obtain⟨b,us,k,e,nb,g,rs⟩:=r1.lst;cases e;exact ai (ih tL h3 (hf'.symm▸de 1)) (λvs s2 q=>q.ao9 k1 hf' ⟨us.toArray,k,g,By r1 us (by simp) rs⟩ h0 sp) λ_ _ e=>e
end
end
inductive Stores(env:Env):List Str->List (Value->Sem Unit)->Prop
 |nil:Stores env [] []
 |cons {n:Str} {ns:List Str} {f:Value->Sem Unit} {fs:List (Value->Sem Unit)} (h:∀(prog:bb)(w:World)(A:aC)(E:Value->ah->Prop)(Q:Unit->ah->Prop)(s:ah)(v:Value),wpAny (model prog w) A (storeName env n v) Q E s->wpAny (model prog w) A (f v) Q E s) (r:Stores env ns fs):Stores env (n::ns) (f::fs)
def PT:List ae->Option (List Str)
 |[]=>some []
 |e::es=>(yn e).bind λn=>(PT es).map (n::·)
theorem yC:∀{ns:List Str},PT ts=some ns->(assignEach ts env).findIdx? (·.1)=none/\(assignEach ts env).length=ns.length/\ts.length=ns.length/\Stores env ns ((assignEach ts env).map (·.2)):=by
 induction ts with
 |nil=>intro ns h;rw[<-af h];exact⟨rfl,rfl,rfl,.nil⟩
 |cons t ts ih=>
  intro ns h;obtain⟨n,h1,h2⟩:=aO h;obtain⟨ns',h3,rfl⟩:=dC h2;obtain⟨p,rfl⟩:=lL h1;have ih:=ih h3;refine⟨?_,congrArg lx ih.2.1,congrArg lx ih.2.2.1,.cons (λ_ _ _ _ _ _ _ h=>g0 h) ih.2.2.2⟩;show List.findIdx? _ ((false,_)::assignEach ts env)=none;rw[aeL,ih.1];rfl
theorem Ig:∀(ns:List Str),Stores env ns (ns.map λn=>bindName env n):=by
 intro zx
 induction zx with
 |nil=>
  exact .nil
 |cons _ ns ih=>
  exact .cons (λ_ _ _ _ _ _ _ h=>WZ h) (ih)
def yD(ks:bW)(ts vs:List ae):Option (Option (List Str)):=
 if(!(ts.length==2||ts.length==3)||vs.length != ts.length)=true then some none
 else if(vs.any fun|.Starred .. =>true|_=>false)=true then some none
 else
  let line:=(ts.head?.map (·.pos.line)).getD 0;let names:=ts.filterMap fun
   |.Name id pos=>if(ks.lookup id==some .local&&pos.line==line)=true then some id else none
   |_=>none
  if(names.length != ts.length||names.eraseDups.length != names.length)=true then some none
  else if vs.all (foldedForSure 8)=true then some none
  else if vs.all (constantsAlone 8)=true then none
  else some (some names)
theorem yE(hf:env.scope.kind=.function)(h:yD env.scope.names ts vs=some r):swappedStores [.Tuple ts k p] (.Tuple vs k' p') env=pure r:=by
 unfold yD at h;unfold swappedStores;dsimp only at h⊢;rw[sv hf];split at h
 ·rename_i h1
  cases h;rw[if_pos (by rw[h1];rfl)]
 ·rename_i h1
  rw[if_neg (by simpa using h1)];split at h
  ·rename_i h2
   cases h;exact if_pos h2
  ·rename_i h2
   refine(if_neg h2).trans ?_;split at h
   ·rename_i h3
    cases h;exact if_pos h3
   ·rename_i h3
    refine(if_neg h3).trans ?_;split at h
    ·rename_i h4
     cases h;exact if_pos h4
    ·rename_i h4
     refine(if_neg h4).trans ?_;split at h
     ·cases h
     ·rename_i h5
      cases h;exact if_neg h5
section
section
variable{prog:bb}{w:World}{A:aC}{E:Value->ah->Prop}{G F gO:Addr->Prop}{env:Env}{az s s':ah}{σ:cu}{own W:List Str}{oa:Str->Addr}{La:Heap->Prop}{Bu:aC->Prop}{V0:Ev}{T:ec}
theorem oj(fr:nV env F az)(hs:Stores env ns fs)(hk:ns.all (Aq env.scope.names)=true)(hl:ns.length=cs.length)(si:SI env F az σ own s gO oa)(cp:CP gO s.heap a cs vs)(hf:iV cs<=1)
(yF:iV cs≠0->gO a/\Sep env az own oa a):
 wpAny (model prog w) A (assignInOrder fs vs) (λ_ s'=>∃Ft,SI env F az (p6 ns cs (σ,own)).1 (p6 ns cs (σ,own)).2 s' gO Ft) E s:=by
 induction hs generalizing cs vs σ own oa s with
 |nil=>
  cases cs with
  |cons _ _=>cases hl
  |nil=>
   unfold CP at cp;rw[cp];exact aL ⟨oa,si⟩
 | @cons n ns f fs hst _ ih=>
   cases cs with
   |nil=>cases hl
   |cons c cs=>
   unfold CP at cp;obtain⟨v,r,rfl,h1,h2⟩:=cp;obtain⟨hk1,Pq⟩:=(av _ _).mp hk;have jY:=p5 hk1;have pN:ns.length=cs.length:=Le hl;have HW:∀b,(b=env.locals\/env.cells.lookup n=some b)->gO b:=λb q=>q.elim (λq=>q▸si.ie.fl) λq=>(si.ie.fc n b q).1;obtain⟨d,fl⟩:=c;cases fl with
   |true=>
    obtain⟨rfl,ds,e,ac⟩:=(if_pos rfl).mp h1;have e:d=.lst ds:=e;have hf0:iV cs=0:=Nat.le_zero.mp (WY hf);obtain⟨ga,sp⟩:=yF (asW _);rw[e];exact ao (bQ (hst _ _ _ _ _ _ _ (ai (SI.PQ si fr jY ga sp.1 ac sp.2.1 sp.2.2.1 λk jQ _=>sp.2.2.2 k jQ) (λ_ s1 q=>
     ih Pq pN q.2.2 (CP.plain (q.2.1.kept HW) (λb q=>.inl q) hf0 h2) (hf0▸de 1) λz=>absurd hf0 z) λ_ _ e=>e)))
   |false=>
    refine ao (bQ (hst _ _ _ _ _ _ _ (ai (SI.bind si fr jY λ_=>(if_neg aF).mp h1) (λ_ s1 q=>?_) λ_ _ e=>e)));have cp1:CP gO s1.heap a cs r:=by
     by_cases hf0:iV cs=0
     ·exact CP.plain (q.2.1.kept HW) (λb q=>.inl q) hf0 h2
     ·obtain⟨ga,sp⟩:=yF hf0
      exact CP.kept (q.2.1.kept λ_ q=>q) HW (λz=>z.elim sp.2.1 (sp.2.2.1 n)) h2
    exact ih Pq pN q.2.2.1 cp1 hf λz=>⟨(yF z).1,(yF z).2.1,(yF z).2.2.1,(yF z).2.2.2.1,λk jQ=>(yF z).2.2.2.2 k (ig.mp jQ).1⟩
theorem CP.reverse:∀{cs:List (D×Bool)}{vs:List Value},CP gO h a cs vs->CP gO h a cs.reverse vs.reverse:=by
 have app:∀{cs ds:List (D×Bool)}{vs ws:List Value},CP gO h a cs vs->CP gO h a ds ws->CP gO h a (cs++ds) (vs++ws):=by
  intro cs
  induction cs with
  |nil=>intro ds vs ws x y;unfold CP at x;subst x;exact y
  |cons c cs ih=>
   intro ds vs ws x y;unfold CP at x;obtain⟨v,r,rfl,h1,h2⟩:=x;exact⟨v,r++ws,rfl,h1,ih h2 y⟩
 intro cs
 induction cs with
 |nil=>intro vs x;unfold CP at x;subst x;rfl
 |cons c cs ih=>
  intro vs x;unfold CP at x;obtain⟨v,r,rfl,h1,h2⟩:=x;rw[iX,iX];exact app (ih h2) ⟨v,[],rfl,h1,rfl⟩
def UK(V:Ev)(ks:bW)(W:List Str)(ts es:List ae)(σ:cu)(own:List Str):Option (cu×List Str):=
 (PT ts).bind λns=>if ns.all (Aq ks)=true then
   (kL V ks σ own W ns es).bind λcs=>if iV cs<=1/\es.length<=ei then
     (yD ks ts es).bind λr=>match r with
       |none=>some (p6 ns cs (σ,own))
       |some ms=>if ms=ns then some (p6 ns.reverse cs.reverse (σ,own))else none
     else none
   else none
theorem Av:∀{es:List ae}{cs:List (D×Bool)},kL V ks σ own W ns es=some cs->ns.length=es.length/\cs.length=es.length:=by
 induction ns with
 |nil=>intro es cs h;obtain⟨rfl,rfl⟩:=yB h;exact⟨rfl,rfl⟩
 |cons n ns ih=>
  intro es cs h;obtain⟨e,JC,c,cs',rfl,_,_,h3,rfl⟩:=wx h;exact⟨congrArg lx (ih h3).1,congrArg lx (ih h3).2⟩
theorem Aw(VO:c8 prog w La Bu V0)(TO:dP prog w La Bu T)(bu:Bu A)(am:dq A La az)(fr:nV env F az)
(si:SI env F az σ own s G oa)(h:UK (iU T V0) env.scope.names W ts es σ own=some r):
 wpAny (model prog w) A (exec (.Assign [.Tuple ts k p] (.Tuple es k' p') pos) env) (FP env F az (.nx r.1 r.2)) E s:=by
 obtain⟨ns,h1,h2⟩:=aO h;obtain⟨jn,h2⟩:=dy h2;obtain⟨cs,h3,h4⟩:=aO h2;obtain⟨PR,h4⟩:=dy h4;obtain⟨sw,h5,h6⟩:=aO h4;obtain⟨f1,f2,f3,f4⟩:=yC (env:=env) h1;obtain⟨l1,l2⟩:=Av h3;refine gp λQ hQ=>?_;show wpAny _ _ (do
  standAt pos
  let v<-eval (.Tuple es k' p') env
  assignStores env v (<-swappedStores [.Tuple ts k p] (.Tuple es k' p') env) [assign (.Tuple ts k p) env]) _ _ _
 refine ao (dF (ao ?_));refine NT (ai (CC VO TO bu am (pos:=p') si h3 PR.1) (λvs s1 q=>?_) λ_ _ e=>e);cases q with
 |mk t1 k1 gO a tL cp alt=>
 have lv:=cp.length;refine⟨by rw[lv,l2];exact aq PR.2 ic,?_⟩;rw[yE si.ie.fn h5];refine ao (aL ?_);have yF:iV cs≠0->gO a/\Sep env az own oa a:=λz=>alt.elim (λq=>absurd q.1 z) λq=>⟨by rw[q.2.1];exact .inr rfl,q.2.2.2⟩
 have ht:({s1 with heap:=s1.heap.push {cls:=.type "tuple",data:=.seq vs.toArray}}:ah).heap.IsTuple s1.heap.objs.size vs.toArray:=⟨_,gL _ _ rfl,rfl,_,rfl⟩
 have go:∀h':Heap,Heap.ExtBut (s1.heap.push {cls:=.type "tuple",data:=.seq vs.toArray}).objs.size (s1.heap.push {cls:=.type "tuple",data:=.seq vs.toArray}) h'->SI env F az σ own {s1 with heap:=h'} gO oa/\CP gO h' a cs vs:=λh' hx=>by
  have k3:Keeps s1 {s1 with heap:=h'}:=⟨h',s1.toks,rfl,λb o e=>hx b o (el (cT (aV _ e))) (aV _ e)⟩
  exact⟨tL.keeps k3 t1,CP.kept (X:=λ_=>False) (λb o _ e=>Keeps.all k3 b o e) (λ_ q=>q.elim) (λq=>q) cp⟩
 cases sw with
 |none=>
  rw[<-af h6]at hQ;show wpAny _ _ (do assignAll (.ref s1.heap.objs.size) [assign (.Tuple ts k p) env];pure rm) _ _ _;refine ao ?_;show wpAny _ _ (assign (.Tuple ts k p) env (.ref s1.heap.objs.size)) _ _ _;exact wpAny_assign_Tuple am.hh ht (by rw[f2,aX,lv,l2,l1]) f1 λh' hx=>
   ai (oj fr f4 jn (by rw[l1,l2]) (go h' hx).1 (go h' hx).2 PR.1 yF) (λ_ s3 q=>aL (hQ _ _ ⟨rfl,gO,q⟩)) λ_ _ e=>e
 |some ms=>
  obtain⟨rfl,h6⟩:=bx h6;rw[<-h6]at hQ;show wpAny _ _ (do
   rule "assign.swapped-stores"
   let items<-unpackItems (.ref s1.heap.objs.size) ms.length none
   assignInOrder (ms.reverse.map λn=>bindName env n) items.reverse
   pure rm) _ _ _
  refine ao (jJ (ao ?_));rw[show ms.length=vs.toArray.size from by rw[aX,lv,l2,l1]];have Ka:iV cs.reverse=iV cs:=by unfold iV;rw[List.filter_reverse,dZ]
  rw[<-Ka]at yF;exact aeN am.hh ht λh' hx=>ao (ai (oj fr (Ig ms.reverse) (by rw[List.all_reverse];exact jn) (by rw[dZ,dZ,l1,l2]) (go h' hx).1 (CP.reverse (go h' hx).2) (Ka▸PR.1) yF)
   (λ_ s3 q=>aL (hQ _ _ ⟨rfl,gO,q⟩)) λ_ _ e=>e)
end
end
section
theorem yG(h:Heap)(K:Addr->Prop):∃h':Heap,∀a o,h'.get? a=some o↔(K a/\h.get? a=some o):=by
 classical
 refine⟨{h with objs:=h.objs.mapIdx λi o=>if K i then o else{o with data:=.freed}},λa o=>?_⟩;unfold Heap.get?;dsimp only;rw[Array.getElem?_mapIdx];cases e:h.objs[a]? with
 |none=>simp
 |some x=>
  simp only[alk];by_cases hk:K a
  ·rw[if_pos hk]
   simp[hk]
  ·rw[if_neg hk]
   simp[hk]
section
variable{prog:bb}{w:World}{A:aC}{E:Value->ah->Prop}{G F:Addr->Prop}{env:Env}{az s s':ah}{σ:cu}{own W:List Str}{oa:Str->Addr}{La:Heap->Prop}{Bu:aC->Prop}{V0:Ev}{T:ec}
end
end
section
def fg(ks:bW)(t:ae)(d:D)(p:cu×List Str):Option (cu×List Str):=
 match rW t with
 |some x=>if Aq ks x.1.1=true then some (aih x.1.1 (d,false) p)else none
 |none=>(SX t).bind λx=>(LB d).bind λds=>(PT x.1.1).bind λns=>if ns.all (Aq ks)=true/\ns.length=ds.length then some (p6 ns (ds.map λd=>(d,false)) p)else none
abbrev XD:=List Stmt->cu->List Str->Option Fl
def sx(X:XD)(ks:bW)(t:ae)(body:List Stmt):List D->cu->List Str->Option Fl
 |[],σ,own=>some (.nx σ own)
 |d::ds,σ,own=>(fg ks t d (σ,own)).bind λp=>(X body p.1 p.2).bind λr=>match r with
  |.nx σ' own'=>sx X ks t body ds σ' own'
  |.rt d=>some (.rt d)
def om(X:XD)(V:Ev)(ks:bW)(test:ae)(body:List Stmt):Nat->cu->List Str->Option Fl
 |0,_,_=>none
 |m+1,σ,own=>(V.b ks σ test).bind λc=>if c=true then(X body σ own).bind λr=>match r with
   |.nx σ' own'=>om X V ks test body m σ' own'
   |.rt d=>some (.rt d)
  else some (.nx σ own)
section
variable{prog:bb}{w:World}{A:aC}{E:Value->ah->Prop}{G F:Addr->Prop}{env:Env}{az s s':ah}{σ:cu}{own W:List Str}{oa:Str->Addr}{La:Heap->Prop}{Bu:aC->Prop}{V0 V:Ev}{T:ec}{X:XD}
def Ss(prog:bb)(w:World)(La:Heap->Prop)(Bu:aC->Prop)(ks:bW)(X:XD):Prop:=
 ∀(A:aC)(E:Value->ah->Prop) env F az σ own s G oa body r,Bu A->dq A La az->nV env F az->SI env F az σ own s G oa->env.scope.names=ks->X body σ own=some r->
  wpAny (model prog w) A (execs body env) (FP env F az r) E s
theorem CP.abf:∀{ds:List D}{vs:List Value},aZ h G ds vs->CP G h a (ds.map λd=>(d,false)) vs:=by
 intro zx
 induction zx with
 |nil=>
  rintro vs x;exact x
 |cons d ds ih=>
  rintro vs x;obtain⟨v,r,rfl,h1,h2⟩:=x.eM;exact⟨v,r,rfl,by rw[if_neg (by simp)];exact h1,ih h2⟩
theorem wy:∀(ds:List D),iV (ds.map λd=>(d,false))=0:=by
 intro zx
 induction zx with
 |nil=>
  exact rfl
 |cons d ds ih=>
  have:=ih;unfold iV at this⊢;rw[bH,kG (by simp)];exact this
theorem wz(hh:A.handled=none)(fr:nV env F az)(si:SI env F az σ own s G oa)(r:bU s.heap G d v)(h:fg env.scope.names t d (σ,own)=some p):
 wpAny (model prog w) A (assign t env v) (λ_ s'=>∃Ft,SI env F az p.1 p.2 s' G Ft) E s:=by
 unfold fg at h;cases hq:rW t with
 |some x=>
  rw[hq]at h;clear hq;obtain⟨⟨n,np⟩,rfl⟩:=x;obtain⟨hk,rfl⟩:=bx h;exact g0 (ai (SI.bind si fr (p5 hk) λ_=>r) (λ_ s' q=>⟨oa,q.2.2.1⟩) λ_ _ e=>e)
 |none=>
  rw[hq]at h;clear hq;obtain⟨⟨⟨ts,c,p⟩,rfl⟩,_,h⟩:=aO h;obtain⟨ds,h1,h2⟩:=aO h;obtain⟨ns,h3,h4⟩:=aO h2;obtain⟨hk,rfl⟩:=bx h4;obtain⟨f1,f2,f3,f4⟩:=yC (env:=env) h3;rw[arm_assign_Tuple];refine ao (dF ?_);unfold unpack;rw[f1,f2,hk.2];refine ao (bQ (ai (bw si.tk (mn hh si.ie.lo r h1)) (λvs aU ia=>?_) λ_ _ e=>e));exact oj (a:=0) fr f4 hk.1 (by rw[aj];exact hk.2) (si.keeps ia.2.1 ia.1) (CP.abf ia.2.2) (by rw[wy];omega) λz=>absurd (wy ds) z
theorem SI.apa(si:SI env F az σ own s G oa)(u:Upd (λa=>a=I) s s')(t:1<=s'.toks)(hG:G I)(h0:az.heap.get? I=none)(hl:I≠env.locals)(hc:∀n,env.cells.lookup n≠some I)(ho:∀n,n∈own->oa n≠I)(hs:(s'.heap.get? I).isSome=true):
 SI env F az σ own s' G oa:=by
 have kp:Kept (λa=>a=I) s.heap s'.heap:=u.kept λ_ q=>q;refine⟨si.hF,si.hN,u.keeps (λa q=>q▸h0) si.kp,t,si.ie.upd u (λa q=>q▸hG) (iQ.upd si.ie.lo kp λb q=>q▸hs) (λz=>hl z.symm) (λn c e z=>hc n (z▸e)),λn hn=>?_,si.od,si.oi⟩;obtain⟨q1,q2,q3,q4,ds,q5,q6⟩:=si.ow n hn;exact⟨q1,q2.kept kp (λz=>hl z.symm) (λn c e z=>hc n (z▸e)),q3,q4,ds,q5,q6.kept kp (λb q=>q▸hG) (ho n hn)⟩
theorem SI.UL(si:SI env F az σ own s G oa)(fr:nV env F az)(hG:G I)(hI:(s.heap.get? I).isSome=true)(hl:I≠env.locals)(hc:∀n,env.cells.lookup n≠some I)(ho:∀n,n∈own->oa n≠I):
 ∃aU,Keeps az aU/\SI env (λa=>F a\/a=I) aU σ own s G oa/\nV env (λa=>F a\/a=I) aU/\(∀a o,s.heap.get? a=some o->(¬G a\/a=I)->aU.heap.get? a=some o)/\1<=aU.toks:=by
 obtain⟨h',hh⟩:=yG s.heap (λa=>(¬G a\/F a)\/a=I);obtain⟨h,tk,rfl,kk⟩:=si.kp;have nF:∀a,az.heap.get? a=none->¬F a:=λa e q=>by
  have:=fr.lo a q;rw[e]at this;cases this
 have UM:∀a,G a->¬F a->a≠I->h'.get? a=none:=λa g nf ni=>by
  cases e:h'.get? a with
  |none=>rfl
  |some o=>rcases((hh a o).mp e).1 with(q|q)|q
           ·exact absurd g q
           ·exact absurd q nf
           ·exact absurd q ni
 have old:∀a o,az.heap.get? a=some o->h'.get? a=some o:=λa o e=>(hh a o).mpr ⟨.inl (by
  by_cases g:G a
  ·rcases si.hN a g with q|q
   ·exact .inr q
   ·rw[q]at e;cases e
  ·exact .inl g),kk a o e⟩
 have hI':(h'.get? I).isSome=true:=by
  obtain⟨o,e⟩:=ay.mp hI;rw[(hh I o).mpr ⟨.inr rfl,e⟩];rfl
 refine⟨{az with heap:=h',toks:=tk},⟨h',tk,rfl,old⟩,⟨λa q=>q.elim (si.hF a) λz=>z▸hG,λa g=>?_,⟨h,tk,rfl,λb o e=>((hh b o).mp e).2⟩,si.tk,si.ie,λn hn=>?_,si.od,si.oi⟩,⟨UM _ si.ie.fl (nF _ fr.hl) (gi hl),λn c how e=>UM _ (si.ie.fc n c e).1 (nF _ (fr.hc n c how e)) (λz=>hc n (z▸e)),λb q=>?_⟩,λa o e q=>(hh a o).mpr ⟨q.imp .inl id,e⟩,si.tk⟩
 ·by_cases q:F a
  ·exact .inl (.inl q)
  ·by_cases z:a=I
   ·exact .inl (.inr z)
   ·exact .inr (UM a g q z)
 ·obtain⟨q1,q2,q3,q4,q5,q6,q7⟩:=si.ow n hn
  exact⟨q1,q2,q3,UM _ q3 (nF _ q4) (ho n hn),q5,q6,q7⟩
 ·rcases q with q|q
  ·obtain⟨o,e⟩:=ay.mp (fr.lo b q)
   rw[old b o e];rfl
  ·exact q▸hI'
theorem SI.UN(si:SI env (λa=>F a\/a=I) aU σ own s G oa)(k:Keeps az aU)(h0:az.heap.get? I=none):SI env F az σ own s G oa:=by
 have n0:∀a,aU.heap.get? a=none->az.heap.get? a=none:=λa q=>by
  cases e:az.heap.get? a with
  |none=>rfl
  |some o=>rw[Keeps.all k a o e]at q;cases q
 refine⟨λa q=>si.hF a (.inl q),λa q=>?_,Keeps.trans' k si.kp,si.tk,si.ie,λn hn=>?_,si.od,si.oi⟩
 ·rcases si.hN a q with(z|z)|z
  ·exact .inl z
  ·exact .inr (z▸h0)
  ·exact .inr (n0 a z)
 ·obtain⟨q1,q2,q3,q4,q5,q6,q7⟩:=si.ow n hn
  exact⟨q1,q2,q3,n0 _ q4,q5,q6,q7⟩
inductive apb(env:Env)(F:Addr->Prop)(az:ah)(X:XD)(V:Ev)(test:ae)(body:List Stmt)(r:Fl)(n:Nat)(s:ah):Prop
 |mk (σ:cu) (own:List Str) (G:Addr->Prop) (oa:Str->Addr) (si:SI env F az σ own s G oa) (h:om X V env.scope.names test body n σ own=some r)
theorem Fv(XO:Ss prog w La Bu env.scope.names X)(VO:c8 prog w La Bu V)(bu:Bu A)(am:dq A La az)(fr:nV env F az)(si:SI env F az σ own s G oa)
(h:om X V env.scope.names test body m σ own=some r):wpAny (model prog w) A (exec (.While test body [] pos) env) (FP env F az r) E s:=by
 refine wpAny_While (codeAny_whileLoop (apb env F az X V test body r) (λn s1 hI=>?_) m ⟨σ,own,G,oa,si,h⟩);obtain⟨σ',own',G',Ft,tL,h1⟩:=hI;cases n with
 |zero=>cases h1
 |succ n=>
  unfold om at h1;obtain⟨c,h2,h3⟩:=aO h1;refine ai (bw tL.tk (VO.b A _ env _ σ' s1 test c bu (am.keeps tL.kp tL.tk) tL.weak h2)) (λb s2 q=>?_) λ_ _ e=>e;obtain⟨t2,rfl,k2⟩:=q;have ua:=tL.keeps k2 t2;cases b with
  |false=>
   rw[if_neg (by decide)]at h3;cases h3;exact dD ⟨rfl,G',Ft,ua⟩
  |true=>
   rw[if_pos rfl]at h3;obtain⟨r',h4,h5⟩:=aO h3;refine ai (XO A _ env F az σ' own' s2 G' Ft body r' bu am fr ua rfl h4) (λf s3 q=>?_) λ_ _ e=>e;cases r' with
   |nx σ2 apc=>
    obtain⟨rfl,G2,oa2,tK⟩:=q;exact⟨n,dW _,σ2,apc,G2,oa2,tK,h5⟩
   |rt d=>
    cases h5;obtain⟨v,rfl,q⟩:=q;exact⟨v,rfl,q⟩
end
end
section
section
variable{prog:bb}{w:World}{A:aC}{E:Value->ah->Prop}{G F:Addr->Prop}{env:Env}{az s s':ah}{σ:cu}{own W:List Str}{oa:Str->Addr}{La:Heap->Prop}{Bu:aC->Prop}{V0 V:Ev}{T:ec}{X:XD}
theorem Kb(J:Value->Nat->ah->Prop)(hs:∀x,foldedSetIterable iter env x=pure x)
(hi:wpAny (model prog w) A (eval iter env) (λx s1=>wpAny (model prog w) A (pyIter x) (λi s2=>∃n,J i n s2) E s1) E s)
(turn:∀i n s,J i n s->∀(B:Flow->ah->Prop)(C:Option Value->ah->Prop)(E:Value->ah->Prop),(∀v s',wpAny (model prog w) A (letOwnedTupleGo t i v) (λ_ s1=>wpAny (model prog w) A (assign t env v) (λ_ s2=>wpAny (model prog w) A (execs body env) B E s2) E s1) E s'->C (some v) s')->(∀m s',m<n->J i m s'->B .next s')->(∀v s',Q (.ret v) s'->B (.ret v) s')->(∀s',Q .next s'->C none s')->
   wpAny (model prog w) A (pyNext i) C E s):
 wpAny (model prog w) A (exec (.For t iter body [] pos) env) Q E s:=
 wpAny_For (ai hi (λ_ _ q=>ai q (λi _ ⟨n,hJ⟩=>codeAny_forLoop_any (J i) (λn s hJ=>turn i n s hJ _ _ _ (λ_ _ q=>q) (λm _ hm hJ=>⟨m,hm,hJ⟩) (λ_ _ q=>q) λ_ q=>dD q) n hJ) λ_ _ e=>e) λ_ _ e=>e) hs
inductive FI(prog:bb)(w:World)(A:aC)(X:XD)(env:Env)(t:ae)(body:List Stmt)(ds:List D)(r:Fl)(F:Addr->Prop)(az:ah)(G:Addr->Prop)(x:Value)(n:Nat)(s:ah):Prop
 |mk (I:Addr) (fp:List Addr) (P:Nat->Value->Prop) (St:Nat->Heap->Prop) (h₀:Heap) (hx:x=.ref I) (no:yd I P St) (Wk:Walks prog w A I fp [I] ds.length P St) (ye:∀i h,St i h->(h.get? I).isSome=true)
  (XZ:az.heap.get? I=none) (hl:I≠env.locals) (hc:∀n,env.cells.lookup n≠some I) (nFI:¬F I) (nI:h₀.get? I=none) (hP:∀i v h (F':Addr->Prop),P i v->Kept G h₀ h->(∀b,F' b->G b\/h₀.get? b=none)->∀d,ds[i]? =some d->bU h F' d v)
  (i:Nat) (σ:cu) (own:List Str) (G':Addr->Prop) (oa:Str->Addr) (hi:i<=ds.length) (hn:n=ds.length+1 - i) (hf:sx X env.scope.names t body (ds.drop i) σ own=some r) (si:SI env F az σ own s G' oa) (gI:G' I)
  (ho:∀n,n∈own->oa n≠I) (st:St i s.heap) (Co:∀b,b∈fp->b=I\/((s.heap.get? b).isSome=true/\¬G' b)) (kg:Kept G h₀ s.heap) (ng:∀b,(h₀.get? b).isSome=true->¬G b->¬G' b)
theorem Mf(XO:Ss prog w La Bu env.scope.names X)(bu:Bu A)(am:dq A La az)(fr:nV env F az)(abg:i9 iter=true)(si:SI env F az σ own s G oa)
(hit:wpAny (model prog w) A (eval iter env) (λx s1=>wpAny (model prog w) A (pyIter x) (λi s2=>1<=s2.toks/\∃sp,Keeps s sp/\Keeps sp s2/\It prog w A G ds sp s2 i) E s1) E s)
(h:sx X env.scope.names t body ds σ own=some r):wpAny (model prog w) A (exec (.For t iter body [] pos) env) (FP env F az r) E s:=by
 refine Kb (FI prog w A X env t body ds r F az G)
  (jm abg env) (ai hit (λx s1 q=>ai q (λi s2 q=>?_) λ_ _ e=>e) λ_ _ e=>e) λx n s3 q B C E' hS hB hR hN=>?_
 ·obtain⟨t2,sp,kp,k2,I,fp,P,St,rfl,no,Wk,st,hI,ye,Co,hP⟩:=q
  have nI:=JS (Keeps.all kp) hI;have gI:¬G I:=λz=>nS nI (si.ie.lo I z);have XZ:=JS (Keeps.all si.kp) nI;exact⟨_,I,fp,P,St,sp.heap,rfl,no,Wk,ye,XZ,λz=>gI (z▸si.ie.fl),λn z=>gI (si.ie.fc n I z).1,λz=>nS XZ (fr.lo I z),hI,hP,0,σ,own,_,oa,de _,rfl,h,si.grow (Keeps.trans' kp k2) t2 nI (ye _ _ st),.inr rfl,λn hn z=>gI (z▸(si.owG hn)),st,
   λb hb=>(Co b hb).imp id λz=>⟨kpS (Keeps.all k2) z.2,λq=>q.elim z.1 λq=>nS hI (q▸z.2)⟩,λb o _ e=>Keeps.all k2 b o e,λb hb nb z=>z.elim nb λq=>nS hI (q▸hb)⟩
 ·cases q with
  |mk I fp P St h₀ hx no Wk ye XZ hl hc nFI nI hP i σi awz Gi oai hi hn hfd tK gI hoI xQ fp3 kg3 ng3=>
  subst hx;rcases pE hi with me|Pw
  ·refine qt Wk me tK.tk xQ λv s4 t4 u4 p D9=>hS v s4 (qr no p D9 ?_)
   have X0:=tK.apa u4 t4 gI XZ hl hc hoI (ye _ _ D9);have k4:Kept (λa=>a=I) s3.heap s4.heap:=u4.kept λ_ q=>q;have kg4:Kept G h₀ s4.heap:=λb o nb e=>k4 b o (λz=>nG nI (z▸e)) (kg3 b o nb e);have rep:=hP i v s4.heap Gi p kg4 (λb gb=>by
    by_cases gg:G b
    ·exact .inl gg
    ·cases e:h₀.get? b with
     |none=>exact .inr rfl
     |some o=>exact absurd gb (ng3 b (sS e) gg)) _ (bz me)
   rw[gw me]at hfd;obtain⟨pr,h1,h2⟩:=aO hfd;obtain⟨r',h3,h4⟩:=aO h2;obtain⟨aU,kb,xe,fr5,hold,tkb⟩:=X0.UL fr gI (ye _ _ D9) hl hc hoI;refine ai (wz am.hh fr5 xe rep h1) (λ_ s6 ⟨oa6,Kc⟩=>?_) λ_ _ e=>e;refine ai (XO A _ env _ aU pr.1 pr.2 s6 Gi oa6 body r' bu (am.keeps kb tkb) fr5 Kc rfl h3) (λf s7 q=>?_) λ_ _ e=>e;cases r' with
   |rt d=>
    obtain⟨v',rfl,q1,q2,q3⟩:=q;exact hR v' s7 (af h4▸⟨v',rfl,Keeps.trans' kb q1,q2,q3.less λb z=>.inl (.inl z)⟩)
   |nx σ7 aph=>
    obtain⟨rfl,G7,oa7,CD⟩:=q;have old:∀b o,s4.heap.get? b=some o->(¬Gi b\/b=I)->s7.heap.get? b=some o:=λb o e z=>Keeps.all CD.kp b o (hold b o e z);have nG7:∀b,(s4.heap.get? b).isSome=true->¬Gi b->¬G7 b:=λb hb nb z=>by
     obtain⟨o,e⟩:=ay.mp hb;exact(CD.hN b z).elim (λz=>z.elim (λz=>nb (X0.hF b z)) λz=>nb (z▸gI)) λz=>nG z (hold b o e (.inl nb))
    obtain⟨oI,eI⟩:=ay.mp (ye _ _ D9);refine hB (ds.length+1 - (i+1)) s7 (by subst hn;exact zY (qH me) (dW i)) ⟨I,fp,P,St,h₀,rfl,no,Wk,ye,XZ,hl,hc,nFI,nI,hP,i+1,σ7,aph,G7,oa7,me,rfl,h4,CD.UN kb XZ,CD.hF I (.inr rfl),λk hk z=>?_,?_,λb hb=>?_,λb o nb e=>?_,λb hb nb=>?_⟩
    ·exact nG (z▸(CD.owN hk)) (hold I oI eI (.inr rfl))
    ·exact Wk.frame _ _ _ D9 λb hb o e=>old b o e ((fp3 b hb).elim .inr λz=>.inl z.2)
    ·refine(fp3 b hb).imp id λz=>?_
     have hb4:=kdS k4 (λq:b=I=>z.2 (q▸gI)) z.1;obtain⟨o,e⟩:=ay.mp hb4;exact⟨sS (old b o e (.inl z.2)),nG7 b hb4 z.2⟩
    ·exact old b o (kg4 b o nb e) (.inl (ng3 b (sS e) nb))
    ·exact nG7 b (kdS kg4 nb hb) (ng3 b hb nb)
  ·rw[Pw,DM]at hfd
   exact qu Wk tK.tk (Pw▸xQ) λs' t u=>hN s' (af hfd▸⟨rfl,_,oai,tK.shrink u t gI nFI XZ hl hc hoI⟩)
end
end
section
section
variable{prog:bb}{w:World}{A:aC}{E:Value->ah->Prop}{G F:Addr->Prop}{env:Env}{az s s':ah}{σ:cu}{own W:List Str}{oa:Str->Addr}{La:Heap->Prop}{Bu:aC->Prop}{V0 V:Ev}{T:ec}{X:XD}
theorem yH:fillsInplaceSlot (.type "list") "add" (Operator.Add==.Add)=pure false:=by
 unfold fillsInplaceSlot;show(typeLookup (.type "list") (dunderI "add") >>= λfi=>pure (fi.isSome&& !isSeqSlot fi))=pure false;rw[qV.lookup];rfl'
theorem Ax:seqSlot? (.type "list") (dunderI "add")=pure (some (.builtin "list.__iadd__")):=by
 unfold seqSlot?;rw[qV.lookup];rfl'
theorem Mg{l b:Addr}{items CF:Array Value}{n n2:Nat}{Q:Value->ah->Prop}(hl:IsL s.heap l items n)(hb:IsL s.heap b CF n2)(hs:items.size+CF.size<=ei)
(h:Q (.ref l) {s with heap:=s.heap.update l (jh λx=>x++CF)}):wpAny (model prog w) A (inplaceOp .Add (.ref l) (.ref b)) Q E s:=by
 have fX:ei=1048576:=rfl;have h1:=ic;unfold inplaceOp;refine bQ ?_;refine ao (wpAny_typeOf hl.isList.typeIs (ao (asU yH ?_)));show wpAny _ A (if false=true then _ else _) Q E s;rw[if_neg aF];refine ao (wpAny_binaryOp1_none (nm:="add") hl.isList.typeIs hb.isList.typeIs noFill_list_add ?_);refine ao (asU Ax ?_);refine ao (jJ ?_);exact GS qV ⟨_,hl,rfl⟩ PySem.F.entry_list_iadd (PySem.F.args_list_iadd_2 _ _) (AutoSeq1.list___iadd___list_list_0 l items n b CF n2 (by simp[B0,sizeLine];omega) (by omega) (by omega)) ⟨hl,hb,h⟩
theorem SI.write(si:SI env F az σ own s G oa)(hn:n∈own)(u:Upd (λa=>a=oa n) s s')(t:1<=s'.toks)(ac:Acc G s'.heap (oa n) ds):SI env F az (put n (.lst ds) σ) own s' G oa:=by
 have kp:Kept (λa=>a=oa n) s.heap s'.heap:=u.kept λ_ q=>q;obtain⟨w1,w2,w3,w4,ds0,w5,w6⟩:=si.ow n hn;have hs:(s'.heap.get? (oa n)).isSome=true:=by
  obtain⟨vs,m,q1,_⟩:=ac;rw[show s'.heap.get? (oa n)=some _ from q1];rfl
 have hl:=(si.od n hn).1;have hc:=(si.od n hn).2;have api:∀σ:cu,look (put n (.lst ds) σ) n=some (.lst ds):=λσ=>by
  rw[gT (σ':=[])];dsimp only[put,look];rw[if_pos rfl]
 refine⟨si.hF,si.hN,u.keeps (λa q=>q▸w4) si.kp,t,?_,λk hk=>?_,si.od,si.oi⟩
 ·refine(si.ie.upd u (λa q=>q▸w3) (iQ.upd si.ie.lo kp λb q=>q▸hs) (λz=>hl z.symm) (λn c e z=>hc n (z▸e))).sub λk e he=>?_
  rw[fF]at he⊢;split at he
  ·cases he
  ·rename_i hcn
   have jY:k≠n:=λz=>hcn (by subst z;simpa using hn);rw[if_neg hcn];rwa[cU jY]at he
 ·by_cases jY:k=n
  ·subst jY
   exact⟨w1,w2.kept kp (λz=>hl z.symm) (λn c e z=>hc n (z▸e)),w3,w4,ds,api _,ac⟩
  ·obtain⟨q1,q2,q3,q4,w7,q5,q6⟩:=si.ow k hk
   exact⟨q1,q2.kept kp (λz=>hl z.symm) (λn c e z=>hc n (z▸e)),q3,q4,w7,by rw[cU jY];exact q5,q6.kept kp (λb q=>q▸w3) λz=>jY (si.oi k n hk hn z)⟩
theorem SI.xy(si:SI env F az σ own s G oa)(hn:n∈own)(h:Q (.ref (oa n)) s):wpAny (model prog w) A (loadName env n) Q E s:=by
 obtain⟨hk,hv,_⟩:=si.ow n hn;rcases hk with hk|hk
 ·obtain⟨m,h1,h2⟩:=hv.1 hk
  exact jL si.ie.fn hk h1 h2 h
 ·obtain⟨c,h1,h2⟩:=hv.2 hk
  exact pQ si.ie.fn hk h1 h2 h
theorem gu(h:env.scope.kind=.function):interactive env=false:=by unfold interactive;rw[h];rfl
theorem PU(h:gm e=true)(env):starEach [e] env=[(false,eval e env)]:=fy h
theorem CG(VO:c8 prog w La Bu V0)(TO:dP prog w La Bu T)(bu:Bu A)(am:dq A La az)(si:SI env F az σ own s G oa)(hn:n∈own)(hd:(n==("__debug__":Str))=false)(hl:ap.endLine=cp.line)(hst:gm e=true)
(Ay:look σ n=some (.lst ds))(hlen:ds.length+1<=ei)(h:eV (iU T V0) env.scope.names σ own e=some c):
 wpAny (model prog w) A (exec (.Expr (.Call (.Attribute (.Name n np) "append" ap) [e] [] cp) pos) env) (FP env F az (.nx (put n (.lst (ds++[c.1])) σ) own)) E s:=by
 obtain⟨d,fl⟩:=c;have he:starEach [e] env=[(false,eval e env)]:=PU hst env;have hb:backTo cp (starEach [e] env)=[(false,eval e env)]:=by rw[he];rfl
 refine qX ?_ (gu si.ie.fn) rfl;refine lG rfl (by rw[hb];rfl) (by simpa using hl) ?_;refine i5 (si.xy hn ?_) hd;obtain⟨w1,w2,w3,w4,ds0,w5,vs,m,q1,q2⟩:=si.ow n hn;rw[Ay]at w5;cases w5;refine⟨"list","list.append",jU,Js,Jt,⟨_,q1,rfl⟩,λb e=>by cases e;exact⟨_,q1,rfl⟩,?_⟩;rw[hb];refine iw rfl (dT rfl (dx (ai (gB VO TO bu am si h) (λv s1 q=>gx ?_) λ_ _ e=>e)));obtain⟨t1,k1,r1,_⟩:=q;have tL:=si.keeps k1 t1;have fX:ei=1048576:=rfl;have hsz:vs.size<=sizeLine:=by
  have h1:=q2.length;rw[cj]at h1;exact aq (by rw[h1];omega) ic
 refine lF (hsz:=hsz) ⟨m,Keeps.all k1 _ _ q1⟩ λh' hp hs=>?_;obtain⟨n',hp⟩:=hp;have u:Upd (λa=>a=oa n) s1 {s1 with heap:=h'}:=⟨h',_,rfl,λb o hb e=>hs.extBut b o hb e⟩
 refine⟨rfl,G,oa,tL.write hn u t1 ⟨_,n',hp,?_⟩⟩;rw[AX];exact(u.E2 (G:=G) (λa q=>q▸w3) (q2.keeps (Keeps.all k1))).append (.one (u.rep (G:=G) (λa q=>q▸w3) r1))
end
end
section
def apj:D->D->Option D
 |.int a,y=>match y with
  |.int b=>some (.int (a+b))
  |_=>none
 |.str a,y=>match y with
  |.str b=>if a.length+b.length<=ei then some (.str (a++b))else none
  |_=>none
 |_,_=>none
def apk:D->D->Option D
 |.int a,y=>match y with
  |.int b=>some (.int (a - b))
  |_=>none
 |_,_=>none
def Ih:qU->D->D->Option D
 |.Add,a,b=>apj a b
 |.Sub,a,b=>apk a b
 |_,_,_=>none
theorem Kd:∀{σ:cu},put n d (put n d' σ)=put n d σ:=by
 intro zx
 induction zx with
 |nil=>
  show put n d [(n,d')]=[(n,d)];rw[put,if_pos rfl]
 |cons zh r ih=>
  obtain⟨x,y⟩:=zh;by_cases hx:x=n
  ·have e1:put n d' ((x,y)::r)=(x,d')::r:=by dsimp only[put];rw[if_pos hx]
   have e2:put n d ((x,y)::r)=(x,d)::r:=by dsimp only[put];rw[if_pos hx]
   rw[e1,e2];dsimp only[put];rw[if_pos hx]
  ·have e1:put n d' ((x,y)::r)=(x,y)::put n d' r:=by rw[put,if_neg hx]
   have e2:put n d ((x,y)::r)=(x,y)::put n d r:=by rw[put,if_neg hx]
   rw[e1,e2,put,if_neg hx,ih]
def yI(e:ae):Bool:=(SX e).isNone
section
variable{prog:bb}{w:World}{A:aC}{E:Value->ah->Prop}{G F:Addr->Prop}{env:Env}{az s s':ah}{σ:cu}{own W:List Str}{oa:Str->Addr}{La:Heap->Prop}{Bu:aC->Prop}{V0 V:Ev}{T:ec}{X:XD}
theorem Ii(ra:bU s.heap G a va)(rb:bU s.heap G b vb)(e:Ih op a b=some d):wpAny (model prog w) A (inplaceOp op va vb) (gU G s d) E s:=by
 cases op<;>first|exact no e|skip
 ·cases a<;>first|exact no e|skip
  ·cases b<;>first|exact no e|skip
   obtain⟨t,rfl⟩:=ra.int;obtain⟨u,rfl⟩:=rb.int;exact PySem.P.iadd_int (af e▸lh)
  ·cases b<;>first|exact no e|skip
   obtain⟨h,e⟩:=bx e;obtain⟨t,rfl⟩:=ra.str;obtain⟨u,rfl⟩:=rb.str;exact PyProof.Rows.iadd_str (λ_ _=>e▸EM) (aq h ic)
 ·cases a<;>first|exact no e|skip
  cases b<;>first|exact no e|skip
  obtain⟨t,rfl⟩:=ra.int;obtain⟨u,rfl⟩:=rb.int;exact PySem.P.isub_int (af e▸lh)
theorem Az(am:dq A La az)(si:SI env F az σ own s G oa)(hn:n∈own)(hd:(n==("__debug__":Str))=false)(hl:ap.endLine=cp.line)
(Ay:look σ n=some (.lst ds))(hlen:ds.length<=ei):
 wpAny (model prog w) A (exec (.Expr (.Call (.Attribute (.Name n np) "reverse" ap) [] [] cp) pos) env) (FP env F az (.nx (put n (.lst ds.reverse) σ) own)) E s:=by
 refine qX ?_ (gu si.ie.fn) rfl;refine lG rfl rfl (by simpa using hl) ?_;refine i5 (si.xy hn ?_) hd;obtain⟨w1,w2,w3,w4,ds0,w5,vs,m,q1,q2⟩:=si.ow n hn;rw[Ay]at w5;cases w5;refine⟨"list","list.reverse",jU,PySem.F.slot_list_reverse,PySem.F.type_list_reverse,⟨_,q1,rfl⟩,λb e=>by cases e;exact⟨_,q1,rfl⟩,?_⟩;have hsz:vs.size<=sizeLine:=by
  have h1:=q2.length;rw[cj]at h1;exact aq (by rw[h1];omega) ic
 refine PySem.P.reverse_list q1 ?_ hsz;have hs:rU (oa n) s.heap (s.heap.update (oa n) (jh λx=>x.reverse)):=ly ..;have u:Upd (λa=>a=oa n) s {s with heap:=s.heap.update (oa n) (jh λx=>x.reverse)}:=⟨_,_,rfl,λb o hb e=>hs.extBut b o hb e⟩
 refine⟨rfl,G,oa,si.write hn u si.tk ⟨_,_,pJ q1 _,?_⟩⟩;rw[Array.toList_reverse];exact(u.E2 (G:=G) (λa q=>q▸w3) q2).reverse
theorem Ij(VO:c8 prog w La Bu V0)(TO:dP prog w La Bu T)(bu:Bu A)(am:dq A La az)(fr:nV env F az)(si:SI env F az σ own s G oa)(hn:n∈own)
(Ay:look σ n=some (.lst ds))(hlen:ds.length+es.length<=ei)(h:eV (iU T V0) env.scope.names σ own e=some (.lst es,fl)):
 wpAny (model prog w) A (exec (.AugAssign (.Name n np) .Add e pos) env) (FP env F az (.nx (put n (.lst (ds++es)) σ) (n::rF n own))) E s:=by
 refine asX (si.xy hn ?_);refine ai (gB VO TO bu am si h) (λv s1 q=>?_) λ_ _ e=>e;obtain⟨t1,k1,r1,_⟩:=q;have tL:=si.keeps k1 t1;obtain⟨w1,w2,w3,w4,ds0,w5,vs,m,q1,q2⟩:=tL.ow n hn;rw[Ay]at w5;cases w5;obtain⟨b,us,k,rfl,nb,g,rs⟩:=r1.lst;refine Mg q1 g (by
  have e1:vs.size=ds.length:=by have h0:=q2.length;rwa[cj]at h0
  have e2:us.toArray.size=es.length:=by rw[aX,rs.length]
  rw[e1,e2];exact hlen) ?_
 have hs:rU (oa n) s1.heap (s1.heap.update (oa n) (jh λx=>x++us.toArray)):=ly ..;have u:Upd (λa=>a=oa n) s1 {s1 with heap:=s1.heap.update (oa n) (jh λx=>x++us.toArray)}:=⟨_,_,rfl,λb o hb e=>hs.extBut b o hb e⟩
 have ac:Acc G (s1.heap.update (oa n) (jh λx=>x++us.toArray)) (oa n) (ds++es):=by
  refine⟨_,_,pJ q1 _,?_⟩;rw[Array.toList_append];exact(u.E2 (G:=G) (λa q=>q▸w3) q2).append (u.E2 (G:=G) (λa q=>q▸w3) rs)
 have ua:=tL.write hn u t1 ac;obtain⟨hk,_⟩:=ua.ow n hn;refine ai (SI.PQ ua fr hk w3 w4 ac (tL.od n hn).1 (tL.od n hn).2 λk jQ mV z=>mV (tL.oi k n jQ hn z)) (λ_ s3 q=>?_) λ_ _ e=>e;obtain⟨t3,u3,tK⟩:=q;rw[Kd]at tK;exact⟨rfl,G,qQ oa n (oa n),tK⟩
theorem Ik(VO:c8 prog w La Bu V0)(TO:dP prog w La Bu T)(bu:Bu A)(am:dq A La az)(fr:nV env F az)(si:SI env F az σ own s G oa)(hk:env.kindOf n=some .local\/env.kindOf n=some .cell)
(Ay:look (du own σ) n=some a)(h:eV (iU T V0) env.scope.names σ own e=some c)(UO:Ih op a c.1=some d):
 wpAny (model prog w) A (exec (.AugAssign (.Name n np) op e pos) env) (FP env F az (.nx (put n d σ) (rF n own))) E s:=by
 obtain⟨c,fl⟩:=c;refine asX (ai (si.ie.load hk Ay) (λva s1 q=>?_) λ_ _ e=>e);obtain⟨rfl,ra⟩:=q;refine ai (gB VO TO bu am si h) (λv s1 q=>?_) λ_ _ e=>e;obtain⟨t1,k1,r1,_⟩:=q;refine ai (bw t1 (Ii (ra.keeps (Keeps.all k1)) r1 UO)) (λv2 s2 q=>?_) λ_ _ e=>e;obtain⟨t2,k2,r2⟩:=q;refine ai (SI.bind (si.keeps (Keeps.trans' k1 k2) t2) fr hk λ_=>r2) (λ_ s3 q=>?_) λ_ _ e=>e;exact⟨rfl,G,oa,q.2.2.1⟩
theorem CH(VO:c8 prog w La Bu V)(bu:Bu A)(am:dq A La az)(fr:nV env F az)(si:SI env F az σ own s G oa)(h:V.d env.scope.names σ e=some d):
 wpAny (model prog w) A (exec (.Return (some e) pos) env) (FP env F az (.rt d)) E s:=by
 refine g6 (ai (bw si.tk (VO.d A E env _ σ s e d bu (am.keeps si.kp si.tk) si.weak h)) (λv s1 q=>?_) λ_ _ e=>e);refine⟨v,rfl,Keeps.trans' si.kp q.2.1,q.1,q.2.2.less λb hb=>.inl ⟨si.hF b hb,λn hn z=>?_⟩⟩;have h0:=(si.owN hn)
 have:=fr.lo b hb;rw[z,h0]at this;cases this
theorem PV(XO:Ss prog w La Bu env.scope.names X)(VO:c8 prog w La Bu V)(bu:Bu A)(am:dq A La az)(fr:nV env F az)(si:SI env F az σ own s G oa)
(h:V.b env.scope.names σ t=some c)(h2:(if c=true then X a σ own else X b σ own)=some r):wpAny (model prog w) A (exec (.If t a b pos) env) (FP env F az r) E s:=by
 refine AZ (ai (bw si.tk (VO.b A _ env _ σ s t c bu (am.keeps si.kp si.tk) si.weak h)) (λc' s2 q=>?_) λ_ _ e=>e);obtain⟨t2,rfl,k2⟩:=q;have ua:=si.keeps k2 t2;cases c'
 ·exact XO A E env F az σ own s2 G oa b r bu am fr ua rfl h2
 ·exact XO A E env F az σ own s2 G oa a r bu am fr ua rfl h2
theorem Mh(e)(ts)(k)(p)(l)(env):swapsWith e (some (.Tuple ts k p)) l env=pure false:=by cases e<;>exact Eq.refl (pure false)
theorem Il(hnt:yI e=true)(ts)(k')(p)(env):swappedStores [.Tuple ts k' p] e env=pure none:=by
 have k:∀b:Bool,b=true->(pure none:Sem (Option (List Str)))=pure none:=λ_ _=>rfl;exact eT (motive_1:=λe=>yI e=true->swappedStores [.Tuple ts k' p] e env=pure none) e (λ_ _ _=>k _) (λ_ _ _=>k _) (λ_ _ _ _=>k _) (λ_ _ _=>k _) (λ_ _ _ _=>k _) (λ_ _ _ _=>k _) (λ_ _ _=>k _) (λ_ _ _=>k _) (λ_ _ _ _=>k _) (λ_ _ _ _=>k _) (λ_ _ _ _ _=>k _) (λ_ _ _ _=>k _) (λ_ _=>k _) (λ_ _=>k _) (λ_ _=>k _) (λ_ _ _ _=>k _) (λ_ _ _ _=>k _) (λ_ _ _ _=>k _) (λ_ _=>k _) (λ_ _ _=>k _) (λ_ _ _=>k _) (λ_ _ _=>k _) (λ_ _=>k _) (λ_ _=>k _) (λ_ _=>k _) (λ_ _ _ h=>DA h) (λ_ _ _ _=>k _) hnt
theorem AA(VO:c8 prog w La Bu V0)(TO:dP prog w La Bu T)(bu:Bu A)(am:dq A La az)(fr:nV env F az)(hnt:yI e=true)(si:SI env F az σ own s G oa)
(h:eV (iU T V0) env.scope.names σ own e=some c)(h2:fg env.scope.names (.Tuple ts k p) c.1 (σ,own)=some r):wpAny (model prog w) A (exec (.Assign [.Tuple ts k p] e pos) env) (FP env F az (.nx r.1 r.2)) E s:=by
 obtain⟨d,fl⟩:=c;have h1:swapsWith e (some (.Tuple ts k p)) pos.line env=pure false:=Mh ..;have h3:swappedStores [.Tuple ts k p] e env=pure none:=Il hnt ..;have hx:exec (.Assign [.Tuple ts k p] e pos) env=(do
  standAt pos
  if<-swapsWith e (some (.Tuple ts k p)) pos.line env then do
   evalThenUse e env λv=>assignAll v [assign (.Tuple ts k p) env]
   pure .next
  else do
   let v<-eval e env
   assignStores env v (<-swappedStores [.Tuple ts k p] e env) [assign (.Tuple ts k p) env]):=rfl
 rw[hx,h1,h3];refine ao (dF (ao (aL ?_)));simp only[kq,if_false];refine ao (ai (gB VO TO bu am si h) (λv s1 q=>?_) λ_ _ e=>e);obtain⟨t1,k1,r1,_⟩:=q;refine ao (aL ?_);show wpAny _ _ (do assignAll v [assign (.Tuple ts k p) env];pure rm) _ _ _;refine ao ?_;show wpAny _ _ (assign (.Tuple ts k p) env v) _ _ _;exact ai (wz am.hh fr (si.keeps k1 t1) r1 h2) (λ_ s2 q=>aL ⟨rfl,G,q⟩) λ_ _ e=>e
end
end
section
def Ke:List ae->List SN->Option ae
 |[],_=>none
 |e::r,H3=>match r with
  |[]=>match H3 with
   |[]=>some e
   |_::_=>none
  |_::_=>none
def PW(e:ae):Option ae:=(NY e).bind λx=>(rW x.1.1).bind λy=>bif y.1.1==("reversed":Str)then Ke x.1.2.1 x.1.2.2.1 else none
theorem CJ(h:Ke args H3=some e):args=[e]/\H3=[]:=by
 cases args with
 |nil=>exact no h
 |cons x r=>
  cases r with
  |cons _ _=>exact no h
  |nil=>cases H3 with
   |cons _ _=>exact no h
   |nil=>exact⟨af h▸rfl,rfl⟩
theorem Im(h:PW it=some e):∃fp pos,it=.Call (.Name "reversed" fp) [e] [] pos:=by
 obtain⟨⟨⟨f,args,H3,pos⟩,rfl⟩,_,h⟩:=aO h;obtain⟨⟨⟨g,fp⟩,hy⟩,_,h⟩:=aO h;have hy:f=.Name g fp:=hy;subst hy;cases hf:g==("reversed":Str)with
 |false=>rw[hf]at h;exact no h
 |true=>
  rw[hf]at h;obtain⟨rfl,rfl⟩:=CJ h;exact⟨fp,pos,eq_of_beq hf▸rfl⟩
def apm:D->Option (List D)
 |.lst l=>some l.reverse
 |_=>none
def yJ(V:Ev)(ks:bW)(σ:cu)(own:List Str)(it:ae):Option (List D):=
 match PW it with
 |some e=>if ks.lookup ("reversed":Str)=some .globalImplicit/\gm e=true then(V.d ks (du own σ) e).bind apm else none
 |none=>if i9 it=true then(V.d ks (du own σ) it).bind items else none
section
variable{prog:bb}{w:World}{A:aC}{E:Value->ah->Prop}{G F:Addr->Prop}{env:Env}{az s s':ah}{σ:cu}{own W:List Str}{oa:Str->Addr}{La:Heap->Prop}{Bu:aC->Prop}{V0 V:Ev}{T:ec}{X:XD}
theorem abh(hh:A.handled=none)(t1:1<=s1.toks)(na:¬G a)(hl:IsL s1.heap a vs.toArray n)(hr:aZ s1.heap G l vs)
(k:∀i s2,1<=s2.toks->Keeps s1 s2->It prog w A G l.reverse s1 s2 i->Q i s2):wpAny (model prog w) A (call (.type "reversed") [.ref a]) (λx s'=>wpAny (model prog w) A (pyIter x) Q E s') E s1:=by
 refine PySem.call_reversed_list hl.isList ?_;have Wk:=Walks.listRev (prog:=prog) (w:=w) (A:=A) hh s1.heap.objs.size a (el (cT hl)) vs.toArray;have hsz:vs.toArray.size=l.reverse.length:=by rw[aX,hr.length,dZ]
 have hz:(vs.toArray.size:Int) - 1=((l.reverse.length:Nat):Int) - 1 - ((0:Nat):Int):=by rw[hsz,asL,Int.sub_zero]
 rw[hsz]at Wk;have hrv:(s1.heap.push (revObj a ((vs.toArray.size:Int) - 1))).IsRevIter s1.heap.objs.size a ((vs.toArray.size:Int) - 1):=⟨_,gY _ rfl,rfl,rfl⟩
 refine wpAny_pyIter_revIter hrv (k _ _ t1 (Keeps.push _) ⟨s1.heap.objs.size,_,_,_,rfl,.inl λi h st=>by obtain⟨_,⟨o,e1,e2,_⟩,_⟩:=st;exact⟨o,_,e1,e2,by decide⟩,Wk,⟨de _,hz▸hrv,hl.isList.push _⟩,kl _,λi h st=>by obtain⟨_,⟨o,e1,_⟩,_⟩:=st;exact e1▸rfl,fp2 na hl,λi u h F' hP k hF' d hd=>?_⟩);have hi:i<l.length:=dZ (as:=l)▸(ff.mp hd).1;rw[List.getElem?_reverse hi]at hd;rw[fh,dZ]at hP;exact aaK hr hP k hF' d hd
theorem CK(VO:c8 prog w La Bu V)(TO:dP prog w La Bu T)(bu:Bu A)(am:dq A La az)(si:SI env F az σ own s G oa)(h:yJ V env.scope.names σ own it=some ds):
 i9 it=true/\wpAny (model prog w) A (eval it env) (λx s1=>wpAny (model prog w) A (pyIter x) (λi s2=>1<=s2.toks/\∃sp,Keeps s sp/\Keeps sp s2/\It prog w A G ds sp s2 i) E s1) E s:=by
 have DC:=am.keeps si.kp si.tk;unfold yJ at h;cases hr:PW it with
 |none=>
  rw[hr]at h;obtain⟨hn,h⟩:=dy h;obtain⟨d,h1,h2⟩:=aO h;exact⟨hn,fL VO bu DC si.ie h1 λv s1 k1 iL x1 r1=>ai (bw iL.tk (jW am.hh x1.lo r1 h2)) (λi s2 q=>⟨q.1,s1,k1,q.2.1,q.2.2⟩) λ_ _ e=>e⟩
 |some e=>
  rw[hr]at h;obtain⟨fp,pos,rfl⟩:=Im hr;obtain⟨hc,h0⟩:=dy h;obtain⟨d,h1,h2⟩:=aO h0;cases d<;>first|exact no h2|skip
  obtain rfl:=af h2;refine⟨rfl,?_⟩;show wpAny _ _ (do callWith pos (<-eval (.Name "reversed" fp) env) [] (backTo pos (starEach [e] env)) []) _ _ _;refine ao (nu si.ie hc.1 (by decide) (.inr (TO.rev _ (DC.la _ λ_ _ e=>e))) ?_);rw[show backTo pos (starEach [e] env)=[(false,eval e env)]from congrArg (backTo pos) (fy hc.2)];refine xj rfl (dT rfl (dx (fL VO bu DC si.ie h1 λv s1 k1 iL x1 r1=>gx ?_)));obtain⟨a,vs,n,rfl,na,hl,hr⟩:=r1.lst;exact abh am.hh iL.tk na hl hr λi s2 t2 k2 it=>⟨t2,s1,k1,k2,it⟩
end
end
section
def yK:D->Option (List D)
 |.lst l=>some l
 |_=>none
theorem lQ(h:yK d=some l):d=.lst l:=by
 cases d<;>first|exact no h|exact congrArg D.lst (af h)
def aii(n:Str)(c d:D×Bool)(σ:cu)(o:Option D)(i j:D):Option cu:=(o.bind yK).bind λds=>(intD i).bind λi=>(intD j).bind λj=>
 if(nv c.1=true/\nv d.1=true/\c.2=false/\d.2=false)/\0<=i/\i<ds.length/\0<=j/\j<ds.length/\ds.length<=ei then some (put n (.lst ((ds.set i.toNat c.1).set j.toNat d.1)) σ)else none
theorem Mi(h:aii n c d σ o i j=some σ'):∃ds k1 k2,o=some (.lst ds)/\i=.int k1/\j=.int k2/\
 ((nv c.1=true/\nv d.1=true/\c.2=false/\d.2=false)/\0<=k1/\k1<ds.length/\0<=k2/\k2<ds.length/\ds.length<=ei)/\put n (.lst ((ds.set k1.toNat c.1).set k2.toNat d.1)) σ=σ':=by
 obtain⟨ds,h1,h2⟩:=aO h;obtain⟨k1,h3,h4⟩:=aO h2;obtain⟨k2,h5,h6⟩:=aO h4;obtain⟨x,h7,h8⟩:=aO h1;exact⟨ds,k1,k2,lQ h8▸h7,qv h3,qv h5,bx h6⟩
def aij(V:Ev)(ks:bW)(n:Str)(i j a b:ae)(σ:cu)(own:List Str):Option cu:=
 if own.contains n=true/\(n==("__debug__":Str))=false/\gm a=true/\gm b=true then
  (eV V ks σ own a).bind λc=>(eV V ks σ own b).bind λd=>(V.d ks (du own σ) i).bind λi=>(V.d ks (du own σ) j).bind λj=>
    aii n c d σ (look σ n) i j
 else none
section
variable{prog:bb}{w:World}{A:aC}{E:Value->ah->Prop}{G F:Addr->Prop}{env:Env}{az s s':ah}{σ:cu}{own W:List Str}{oa:Str->Addr}{La:Heap->Prop}{Bu:aC->Prop}{V0 V:Ev}{T:ec}{X:XD}
theorem wA(h:Q () s):wpAny M A (release vs keep) Q E s:=λΓ p hΓ=>by rw[Sem.wp_release];exact h
theorem ub(hn:n∈own)(d):∀σ:cu,du own (put n d σ)=du own σ:=by
 intro zx
 induction zx with
 |nil=>
  show du own [(n,d)]=[]
  unfold du;rw[kG (by simpa using hn)];rfl
 |cons zh r ih=>
  obtain⟨x,e⟩:=zh;by_cases hx:x=n
  ·rw[put,if_pos hx]
   unfold du;rw[kG (by subst hx;simpa using hn),kG (by subst hx;simpa using hn)]
  ·rw[put,if_neg hx]
   have ih:=ih;unfold du at ih⊢;rw[dk,dk,ih]
theorem yL(o i)(p)(env)(v):assign (.Subscript o i p) env v=(do
 let ov<-holding [v] (eval o env);let iv<-holding [v,ov] (eval i env)
 standAt p
 holding [v,ov,iv] (setItem ov iv v)
 release (match i with|.Slice _ _ none _=>[iv,v,ov]|_=>[v,ov,iv]) []):=rfl
theorem wB(VO:c8 prog w La Bu V)(bu:Bu A)(am:dq A La az)(si:SI env F az σ own s G oa)(hn:n∈own)(hd:(n==("__debug__":Str))=false)
(Ay:look σ n=some (.lst ds))(hi:V.d env.scope.names (du own σ) i=some (.int k))(h0:0<=k)(h1:k<ds.length)(fX:ds.length<=ei)(r:∀h,bU h G d v)(hsl:∀l u q,i≠.Slice l u none q):
 wpAny (model prog w) A (assign (.Subscript (.Name n np) i p) env v) (λ_ s'=>SI env F az (put n (.lst (ds.set k.toNat d)) σ) own s' G oa) E s:=by
 rw[yL];refine ao (bQ (i5 (si.xy hn ?_) hd));refine ao (bQ (ai (bw si.tk (VO.d A E env G _ s i _ bu (am.keeps si.kp si.tk) si.ie hi)) (λiv s1 q=>?_) λ_ _ e=>e));obtain⟨t1,k1,r1⟩:=q;obtain⟨t,rfl⟩:=r1.int;have tL:=si.keeps k1 t1;obtain⟨w1,w2,w3,w4,ds0,w5,vs,m,q1,q2⟩:=tL.ow n hn;rw[Ay]at w5;cases w5;have hsz:vs.size=ds.length:=by have h0:=q2.length;rwa[cj]at h0
 have hl:ei=1048576:=rfl;refine ao (dF (ao (bQ (ki_setAt (n:=m) q1 h0 (by omega) (by rw[hsz];exact h1) (wA ?_)))));have hs:rU (oa n) s1.heap (s1.heap.update (oa n) (jh (·.setIfInBounds k.toNat v))):=ly ..;have u:Upd (λa=>a=oa n) s1 {s1 with heap:=s1.heap.update (oa n) (jh (·.setIfInBounds k.toNat v))}:=⟨_,_,rfl,λb o hb e=>hs.extBut b o hb e⟩
 refine tL.write hn u t1 ⟨_,_,pJ q1 _,?_⟩;rw[Ju];exact(u.E2 (G:=G) (λa q=>q▸w3) q2).set _ (r _)
theorem Mj:yD ks [.Subscript o1 i p1,.Subscript o2 j p2] vs=some none:=by
 unfold yD;refine ite_eq_left_iff.mpr λ_=>ite_eq_left_iff.mpr λ_=>?_;exact if_pos rfl
theorem Io(VS:c8 prog w La Bu V)(bu:Bu A)(am:dq A La az){n:Str}{np Mk p p' q:Pos}{kk:Nat}{i j:ae}{k1 k2:Int}{ds:List D}{d1 d2:D}{v1 v2:Value}(si:SI env F az σ own s G oa)(hn:n∈own)(hd:(n==("__debug__":Str))=false)
(hsl:∀l u q,i≠.Slice l u none q)(abi:∀l u q,j≠.Slice l u none q)(Ay:look σ n=some (.lst ds))(h5:V.d env.scope.names (du own σ) i=some (.int k1))(h7:V.d env.scope.names (du own σ) j=some (.int k2))
(b5:0<=k1/\k1<ds.length)(b7:0<=k2/\k2<ds.length)(b9:ds.length<=ei)(r1:∀h,bU h G d1 v1)(r2:∀h,bU h G d2 v2){s1:ah}(k:Keeps s s1)(t1:1<=s1.toks){a:Addr}(ht:s1.heap.IsTuple a [v1,v2].toArray):
 wpAny (model prog w) A (assign (.Tuple [.Subscript (.Name n np) i p,.Subscript (.Name n Mk) j p'] kk q) env (.ref a)) (λ_ s'=>SI env F az (put n (.lst ((ds.set k1.toNat d1).set k2.toNat d2)) σ) own s' G oa) E s1:=by
 refine wpAny_assign_Tuple am.hh ht rfl rfl λh' hx=>?_;have kp:Keeps s {s1 with heap:=h'}:=by
  obtain⟨h1,t',rfl,ka⟩:=k;exact⟨h',t',rfl,λb o e=>hx b o (el (cT (ka b o e))) (ka b o e)⟩
 show wpAny _ _ (do holding [v2] (assign (.Subscript (.Name n np) i p) env v1);assignInOrder [assign (.Subscript (.Name n Mk) j p') env] [v2]) _ _ _;refine ao (bQ (ai (wB VS bu am (si.keeps kp t1) hn hd Ay h5 b5.1 b5.2 b9 r1 hsl) (λ_ s5 xe=>?_) λ_ _ e=>e));show wpAny _ _ (do holding [] (assign (.Subscript (.Name n Mk) j p') env v2);assignInOrder [] []) _ _ _;have apn:look (put n (.lst (ds.set k1.toNat d1)) σ) n=some (.lst (ds.set k1.toNat d1)):=by
  rw[gT (σ':=[])];dsimp only[put,look];rw[if_pos rfl]
 refine ao (bQ (ai (wB VS bu am xe hn hd apn (by rw[ub hn];exact h7) b7.1 (by rw[asY];exact b7.2) (by rw[asY];exact b9) r2 abi) (λ_ s6 Kc=>?_) λ_ _ e=>e));rw[Kd]at Kc;exact aL Kc
theorem Ml(VO:c8 prog w La Bu V0)(TO:dP prog w La Bu T)(bu:Bu A)(am:dq A La az)(hnn:n'=n)(si:SI env F az σ own s G oa)(hsl:∀l u q,i≠.Slice l u none q)(abi:∀l u q,j≠.Slice l u none q)
(h:aij (iU T V0) env.scope.names n i j a b σ own=some σ'):
 wpAny (model prog w) A (exec (.Assign [.Tuple [.Subscript (.Name n np) i p,.Subscript (.Name n' Mk) j p'] kk q] (.Tuple [a,b] kk' q') pos) env) (FP env F az (.nx σ' own)) E s:=by
 subst hnn;obtain⟨⟨hc1,hd,sa,sb⟩,h⟩:=dy h;obtain⟨c1,h1,h2⟩:=aO h;obtain⟨c2,h3,h4⟩:=aO h2;obtain⟨di,h5,h6⟩:=aO h4;obtain⟨dj,h7,h8⟩:=aO h6;obtain⟨ds,k1,k2,Ay,rfl,rfl,hb,rfl⟩:=Mi h8;have hn:n'∈own:=cG.mp hc1;have Fu:swappedStores [.Tuple [.Subscript (.Name n' np) i p,.Subscript (.Name n' Mk) j p'] kk q] (.Tuple [a,b] kk' q') env=pure none:=yE si.ie.fn Mj;have hbt:backTo q' (starEach [a,b] env)=[(false,eval a env),(false,eval b env)]:=congrArg (backTo q') ((fy sa).trans (congrArg _ (fy sb)));show wpAny _ _ (do
  standAt pos
  let v<-eval (.Tuple [a,b] kk' q') env
  assignStores env v (<-swappedStores [.Tuple [.Subscript (.Name n' np) i p,.Subscript (.Name n' Mk) j p'] kk q] (.Tuple [a,b] kk' q') env) [assign (.Tuple [.Subscript (.Name n' np) i p,.Subscript (.Name n' Mk) j p'] kk q) env]) _ _ _
 rw[Fu];refine ao (dF (ao (NT ?_)));rw[hbt];refine dx (ai (gB VO TO bu am si h1) (λv1 s1 z1=>dx (ai (gB VO TO bu am (si.keeps z1.k z1.t) h3) (λv2 s2 z2=>gx ⟨by show(2:Nat)<=sizeLine;exact aq (by decide) ic,?_⟩) λ_ _ e=>e)) λ_ _ e=>e);refine ao (aL (ao (?_:wpAny _ _ (assign (.Tuple [.Subscript (.Name n' np) i p,.Subscript (.Name n' Mk) j p'] kk q) env (.ref s2.heap.objs.size)) _ _ _)));exact ai (Io (lN VO TO) bu am si hn hd hsl abi Ay h5 h7 ⟨hb.2.1,hb.2.2.1⟩ ⟨hb.2.2.2.1,hb.2.2.2.2.1⟩ hb.2.2.2.2.2 (λh=>lO hb.1.1 z1.r) (λh=>lO hb.1.2.1 z2.r) (Keeps.trans' (Keeps.trans' z1.k z2.k) (Keeps.push _)) z2.t ⟨_,gL _ _ rfl,rfl,_,rfl⟩)
  (λ_ s6 Kc=>aL ⟨rfl,G,oa,Kc⟩) λ_ _ e=>e
end
end
section
def p7(e:ae):Bool:=(NW e).isNone
def wC(e:ae):Option (Str×Pos):=(rW e).map (·.1)
theorem oo(h:wC e=some x):e=.Name x.1 x.2:=by
 obtain⟨x,_,rfl⟩:=dC h;exact x.2
def CL(e:ae):Option (List ae×Nat×Pos):=(SX e).map (·.1)
theorem BA(h:CL e=some x):e=.Tuple x.1 x.2.1 x.2.2:=by
 obtain⟨x,_,rfl⟩:=dC h;exact x.2
theorem Mm(h:CL e=none):yI e=true:=by
 unfold yI;rw[rq.mp h];rfl
def p8(e:ae):Option (ae×List dX×Scope×Pos):=(W5 e).map (·.1)
theorem p9(h:p8 e=some x):e=.ListComp x.1 x.2.1 x.2.2.1 x.2.2.2:=by
 obtain⟨x,_,rfl⟩:=dC h;exact x.2
def Ip(e:ae):Option (ae×Str×Pos):=(NX e).map (·.1)
theorem Fw(h:Ip e=some x):e=.Attribute x.1 x.2.1 x.2.2:=by
 obtain⟨x,_,rfl⟩:=dC h;exact x.2
def PX:List α->Option α
 |[]=>none
 |x::r=>match r with
  |[]=>some x
  |_::_=>none
theorem BB{α:Type}{l:List α}{x:α}(h:PX l=some x):l=[x]:=by
 cases l with
 |nil=>exact no h
 |cons y r=>cases r with
  |nil=>exact af h▸rfl
  |cons _ _=>exact no h
def PY:List α->Option (α×α)
 |[]=>none
 |x::r=>(PX r).map λy=>(x,y)
theorem yM{α:Type}{l:List α}{x:α×α}(h:PY l=some x):l=[x.1,x.2]:=by
 cases l with
 |nil=>exact no h
 |cons y r=>
  obtain⟨z,h1,rfl⟩:=dC h;exact BB h1▸rfl
def AB(V:Ev)(ks:bW)(W:List Str)(n:Str)(p:Pos)(e:ae)(σ:cu)(own:List Str):Option Fl:=
 if Aq ks n=true then
  if mu ks n p e=true then
   match p8 e with
   |some _=>((V.d ks (du own σ) e).bind yK).map λout=>.nx (kK W n (.lst out,true) (σ,own)).1 (kK W n (.lst out,true) (σ,own)).2
   |none=>none
  else(eV V ks σ own e).map λc=>.nx (kK W n c (σ,own)).1 (kK W n c (σ,own)).2
 else none
def P0(e:ae):Option (Str×ae):=(aeS e).bind λs=>(wC s.1.1).map λx=>(x.1,s.1.2.1)
theorem yO(h:P0 e=some x):∃np p,e=.Subscript (.Name x.1 np) x.2 p:=by
 obtain⟨s,_,h⟩:=aO h;obtain⟨z,h1,rfl⟩:=dC h;exact⟨z.2,s.1.2.2,by rw[<-oo h1];exact s.2⟩
def UP(ts es:List ae):Option (Str×ae×ae×ae×ae):=
 (PY ts).bind λt=>(P0 t.1).bind λx=>(P0 t.2).bind λy=>(PY es).bind λz=>
   if y.1=x.1/\p7 x.2=true/\p7 y.2=true then some (x.1,x.2,y.2,z.1,z.2)else none
theorem Mn(h:UP ts es=some r):
 ∃m np p Mk p',m=r.1/\ts=[.Subscript (.Name r.1 np) r.2.1 p,.Subscript (.Name m Mk) r.2.2.1 p']/\es=[r.2.2.2.1,r.2.2.2.2]/\p7 r.2.1=true/\p7 r.2.2.1=true:=by
 obtain⟨t,h1,h⟩:=aO h;obtain⟨x,h2,h⟩:=aO h;obtain⟨y,h3,h⟩:=aO h;obtain⟨z,h4,h⟩:=aO h;obtain⟨⟨q1,q2,q3⟩,rfl⟩:=bx h;obtain⟨np,p,e1⟩:=yO h2;obtain⟨Mk,p',e2⟩:=yO h3;exact⟨y.1,np,p,Mk,p',q1,(yM h1).trans (by rw[e1,e2]),yM h4,q2,q3⟩
def Mp(V:Ev)(ks:bW)(W:List Str)(ts es:List ae)(σ:cu)(own:List Str):Option Fl:=
 match UP ts es with
 |some r=>(aij V ks r.1 r.2.1 r.2.2.1 r.2.2.2.1 r.2.2.2.2 σ own).map λσ'=>.nx σ' own
 |none=>(UK V ks W ts es σ own).map λr=>.nx r.1 r.2
def abk(V:Ev)(ks:bW)(W:List Str)(t e:ae)(σ:cu)(own:List Str):Option Fl:=
 match wC t with
 |some x=>AB V ks W x.1 x.2 e σ own
 |none=>match CL t with
  |some ts=>match CL e with
   |some es=>Mp V ks W ts.1 es.1 σ own
   |none=>(eV V ks σ own e).bind λc=>(fg ks t c.1 (σ,own)).map λr=>.nx r.1 r.2
  |none=>none
def Iq(V:Ev)(ks:bW)(n:Str)(op:qU)(e:ae)(σ:cu)(own:List Str):Option Fl:=
 if own.contains n=true then
  if J8 op=true then((look σ n).bind yK).bind λds=>(eV V ks σ own e).bind λc=>(yK c.1).bind λes=>
   if ds.length+es.length<=ei then some (.nx (put n (.lst (ds++es)) σ) (n::rF n own))else none
  else none
 else if Aq ks n=true then(look (du own σ) n).bind λa=>(eV V ks σ own e).bind λc=>(Ih op a c.1).map λd=>.nx (put n d σ) (rF n own)
 else none
def meS(V:Ev)(ks:bW)(n m:Str)(ds:List D)(σ:cu)(own:List Str):List ae->Option Fl
 |[]=>if m="reverse"/\ds.length<=ei then some (.nx (put n (.lst ds.reverse) σ) own)else none
 |e::r=>match r with
  |[]=>if(m="append"/\gm e=true)/\ds.length+1<=ei then(eV V ks σ own e).map λc=>.nx (put n (.lst (ds++[c.1])) σ) own else none
  |_::_=>none
def Kf(V:Ev)(ks:bW)(n m:Str)(args:List ae)(σ:cu)(own:List Str):Option Fl:=
 if own.contains n=true/\(n==("__debug__":Str))=false then((look σ n).bind yK).bind λds=>meS V ks n m ds σ own args
 else none
def P4(f:ae)(args:List ae)(cp:Pos):Option (Str×Str×List ae):=(Ip f).bind λa=>(wC a.1).bind λx=>if a.2.2.endLine=cp.line then some (x.1,a.2.1,args)else none
def rH(e:ae):Option (Str×Str×List ae):=(NY e).bind λx=>match x.1.2.2.1 with
 |[]=>P4 x.1.1 x.1.2.1 x.1.2.2.2
 |_::_=>none
theorem Fx(h:P4 f args cp=some x):∃np ap,f=.Attribute (.Name x.1 np) x.2.1 ap/\args=x.2.2/\ap.endLine=cp.line:=by
 obtain⟨a,h1,h⟩:=aO h;obtain⟨n,h2,h⟩:=aO h;obtain⟨h3,rfl⟩:=bx h;exact⟨n.2,a.2.2,by rw[Fw h1,oo h2],rfl,h3⟩
theorem Fy(h:rH e=some x):∃np ap cp,e=.Call (.Attribute (.Name x.1 np) x.2.1 ap) x.2.2 [] cp/\ap.endLine=cp.line:=by
 obtain⟨⟨⟨f,args,H3,cp⟩,rfl⟩,_,h⟩:=aO h;cases H3 with
 |cons _ _=>exact no h
 |nil=>
  obtain⟨np,ap,rfl,rfl,hl⟩:=Fx h;exact⟨np,ap,cp,rfl,hl⟩
def c9(V:Ev)(ks:bW)(W:List Str)(wf:Nat)(X:XD)(st:Stmt)(σ:cu)(own:List Str):Option Fl:=
 stC none (λ_ _ _ _ _=>none) (λe _=>e.bind λe=>(V.d ks σ e).map .rt) (λts e _=>(PX ts).bind λt=>abk V ks W t e σ own) (λt op e _=>(wC t).bind λx=>Iq V ks x.1 op e σ own)
  (λt it body orelse _=>match orelse with
    |[]=>(yJ V ks σ own it).bind λds=>sx X ks t body ds σ own
    |_::_=>none)
  (λt body orelse _=>match orelse with
    |[]=>om X V ks t body wf σ own
    |_::_=>none)
  (λt a b _=>(V.b ks σ t).bind λc=>if c=true then X a σ own else X b σ own) (λe _=>(rH e).bind λx=>Kf V ks x.1 x.2.1 x.2.2 σ own) st
def cO(S:Stmt->cu->List Str->Option Fl):XD
 |[],σ,own=>some (.nx σ own)
 |st::rest,σ,own=>(S st σ own).bind λr=>match r with
  |.nx σ' own'=>cO S rest σ' own'
  |.rt d=>some (.rt d)
def AE(V:Ev)(ks:bW)(W:List Str)(wf:Nat):Nat->XD
 |0=>λ_ _ _=>none
 |n+1=>cO (c9 V ks W wf (AE V ks W wf n))
section
variable{prog:bb}{w:World}{A:aC}{E:Value->ah->Prop}{G F:Addr->Prop}{env:Env}{az s s':ah}{σ:cu}{own W:List Str}{oa:Str->Addr}{La:Heap->Prop}{Bu:aC->Prop}{V0 V:Ev}{T:ec}{X:XD}
theorem wF(h:p7 i=true):∀l u q,i≠.Slice l u none q:=λl u q z=>by subst z;exact DA h
theorem CM(h:own.contains n=true):n∈own:=cG.mp h
theorem Ir(VO:c8 prog w La Bu V0)(TO:dP prog w La Bu T)(bu:Bu A)(am:dq A La az)(fr:nV env F az)(si:SI env F az σ own s G oa)
(h:AB (iU T V0) env.scope.names W n p e σ own=some r):wpAny (model prog w) A (exec (.Assign [.Name n p] e pos) env) (FP env F az r) E s:=by
 obtain⟨hk,h⟩:=dy h;cases Fu:mu env.scope.names n p e with
 |false=>
  rw[Fu]at h;obtain⟨c,h1,rfl⟩:=dC h;exact Ar VO TO bu am fr (p5 hk) si Fu h1
 |true=>
  rw[Fu,if_pos rfl]at h;cases hc:p8 e with
  |none=>rw[hc]at h;exact no h
  |some x=>
   rw[hc]at h;obtain rfl:=p9 hc;obtain⟨out,h1,rfl⟩:=dC h;obtain⟨d,h2,h3⟩:=aO h1;obtain rfl:=lQ h3;obtain⟨o,h4,h5⟩:=dC (show(yw V0 env.scope.names (du own σ) x.1 x.2.1 x.2.2.1).map D.lst=some (.lst out)from h2);exact Au VO bu am fr (p5 hk) si Fu (D.lst.inj h5▸h4)
theorem Iu(VO:c8 prog w La Bu V0)(TO:dP prog w La Bu T)(bu:Bu A)(am:dq A La az)(fr:nV env F az)(si:SI env F az σ own s G oa)
(h:abk (iU T V0) env.scope.names W t e σ own=some r):wpAny (model prog w) A (exec (.Assign [t] e pos) env) (FP env F az r) E s:=by
 unfold abk at h;cases hn:wC t with
 |some x=>
  rw[hn]at h;obtain rfl:=oo hn;exact Ir VO TO bu am fr si h
 |none=>
  rw[hn]at h;cases ht:CL t with
  |none=>rw[ht]at h;exact no h
  |some ts=>
   rw[ht]at h;obtain rfl:=BA ht;cases he:CL e with
   |none=>
    rw[he]at h;obtain⟨c,h1,h2⟩:=aO h;obtain⟨r',h3,rfl⟩:=dC h2;exact AA VO TO bu am fr (Mm he) si h1 h3
   |some es=>
    rw[he]at h;obtain rfl:=BA he;have h:Mp (iU T V0) env.scope.names W ts.1 es.1 σ own=some r:=h;unfold Mp at h;cases hs:UP ts.1 es.1 with
    |none=>
     rw[hs]at h;obtain⟨r',h1,rfl⟩:=dC h;exact Aw VO TO bu am fr si h1
    |some q=>
     rw[hs]at h;obtain⟨σ',h1,rfl⟩:=dC h;obtain⟨m,np,p,Mk,p',q1,q2,q3,q4,q5⟩:=Mn hs;rw[q2,q3];exact Ml VO TO bu am q1 si (wF q4) (wF q5) h1
theorem Iv(VO:c8 prog w La Bu V0)(TO:dP prog w La Bu T)(bu:Bu A)(am:dq A La az)(fr:nV env F az)(si:SI env F az σ own s G oa)
(h:Iq (iU T V0) env.scope.names n op e σ own=some r):wpAny (model prog w) A (exec (.AugAssign (.Name n np) op e pos) env) (FP env F az r) E s:=by
 unfold Iq at h;cases hn:own.contains n with
 |true=>
  rw[hn,if_pos rfl]at h;obtain⟨ho,h⟩:=dy h;cases op<;>first|exact DA ho|skip
  obtain⟨ds,h1,h⟩:=aO h;obtain⟨c,h2,h⟩:=aO h;obtain⟨es,h3,h⟩:=aO h;obtain⟨hl,rfl⟩:=bx h;obtain⟨d,h4,h5⟩:=aO h1;obtain⟨d',fl⟩:=c;obtain rfl:=lQ h5;obtain rfl:=lQ h3;exact Ij VO TO bu am fr si (CM hn) h4 hl h2
 |false=>
  rw[hn,if_neg aF]at h;obtain⟨hk,h⟩:=dy h;obtain⟨a,h1,h2⟩:=aO h;obtain⟨c,h3,h4⟩:=aO h2;obtain⟨d,h5,rfl⟩:=dC h4;exact Ik VO TO bu am fr si (p5 hk) h1 h3 h5
theorem Fz(VO:c8 prog w La Bu V0)(TO:dP prog w La Bu T)(bu:Bu A)(am:dq A La az)(hl:ap.endLine=cp.line)(si:SI env F az σ own s G oa)
(h:Kf (iU T V0) env.scope.names n m args σ own=some r):wpAny (model prog w) A (exec (.Expr (.Call (.Attribute (.Name n np) m ap) args [] cp) pos) env) (FP env F az r) E s:=by
 obtain⟨hn,h⟩:=dy h;obtain⟨ds,h1,h2⟩:=aO h;obtain⟨d,h4,h5⟩:=aO h1;obtain rfl:=lQ h5;cases args with
 |nil=>
  obtain⟨⟨rfl,hlen⟩,rfl⟩:=bx h2;exact Az am si (CM hn.1) hn.2 hl h4 hlen
 |cons e args=>
  cases args with
  |cons _ _=>exact no h2
  |nil=>
   obtain⟨⟨⟨rfl,hs⟩,hlen⟩,h6⟩:=dy h2;obtain⟨c,h7,rfl⟩:=dC h6;exact CG VO TO bu am si (CM hn.1) hn.2 hl hs h4 hlen h7
theorem FA(XO:Ss prog w La Bu env.scope.names X)(VO:c8 prog w La Bu V0)(TO:dP prog w La Bu T)(bu:Bu A)(am:dq A La az)(fr:nV env F az){wf:Nat}{st:Stmt}{r:Fl}(si:SI env F az σ own s G oa)
(h:c9 (iU T V0) env.scope.names W wf X st σ own=some r):wpAny (model prog w) A (exec st env) (FP env F az r) E s:=by
 refine SY (P:=λst=>wpAny (model prog w) A (exec st env) (FP env F az r) E s) st (λe pos h=>?_) (λts e pos h=>?_) (λt op e pos h=>?_) (λt it body orelse pos h=>?_) (λt body orelse pos h=>?_) (λt a b pos h=>?_) (λe pos h=>?_) h
 ·obtain⟨e,rfl,h2⟩:=aO h
  obtain⟨d,h1,rfl⟩:=dC h2;exact CH (lN VO TO) bu am fr si h1
 ·obtain⟨t,h1,h2⟩:=aO h
  obtain rfl:=BB h1;exact Iu VO TO bu am fr si h2
 ·obtain⟨x,h1,h2⟩:=aO h
  obtain rfl:=oo h1;exact Iv VO TO bu am fr si h2
 ·cases orelse with
  |nil=>
   obtain⟨ds,h1,h2⟩:=aO h;obtain⟨q1,q2⟩:=CK (prog:=prog) (w:=w) (A:=A) (E:=E) (lN VO TO) TO bu am si h1;exact Mf XO bu am fr q1 si q2 h2
  |cons _ _=>exact no h
 ·cases orelse with
  |nil=>exact Fv XO (lN VO TO) bu am fr si h
  |cons _ _=>exact no h
 ·obtain⟨c,h1,h2⟩:=aO h
  exact PV XO (lN VO TO) bu am fr si h1 h2
 ·obtain⟨x,h1,h2⟩:=aO h
  obtain⟨np,ap,cp,rfl,hl⟩:=Fy h1;exact Fz VO TO bu am hl si h2
theorem CN(bu:Bu A)(am:dq A La az)(fr:nV env F az)
(hS:∀(E:Value->ah->Prop) σ own s G oa st r,SI env F az σ own s G oa->S st σ own=some r->wpAny (model prog w) A (exec st env) (FP env F az r) E s):
 ∀(body:List Stmt)(σ:cu)(own:List Str)(s:ah)(G:Addr->Prop)(oa:Str->Addr)(r:Fl),SI env F az σ own s G oa->cO S body σ own=some r->wpAny (model prog w) A (execs body env) (FP env F az r) E s:=λbody=>by
 induction body with
 |nil=>intro σ own s G oa r si h;cases h;exact dD ⟨rfl,G,oa,si⟩
 |cons st rest ih=>
  intro σ own s G oa r si h;unfold cO at h;obtain⟨r',h1,h2⟩:=aO h;refine aS (ai (hS E σ own s G oa st r' si h1) (λf s1 q=>?_) λ_ _ e=>e);cases r' with
  |nx σ' own'=>
   obtain⟨rfl,G',Ft,Mc⟩:=q;exact ih σ' own' s1 G' Ft r Mc h2
  |rt d=>
   cases h2;obtain⟨v,rfl,q⟩:=q;exact⟨v,rfl,q⟩
theorem uc(VO:c8 prog w La Bu V0)(TO:dP prog w La Bu T)(ks)(wf):∀n,Ss prog w La Bu ks (AE (iU T V0) ks W wf n)
 |0=>λ_ _ _ _ _ _ _ _ _ _ _ _ _ _ _ _ _ h=>by cases h
 |n+1=>λA E env F az σ own s G oa body r bu am fr si hk h=>by
  subst hk;exact CN bu am fr (λE σ own s G oa st r si h=>FA (uc VO TO _ wf n) VO TO bu am fr si h) body σ own s G oa r si h
end
end
section
theorem yP{kindOf:Str->Option gZ}{n:Str}(hk:kindOf n=some .local):∀(fk:List Str)(vs:List Value)(m:Str->Option Value),fk.length=vs.length->fk.Nodup->bindL kindOf (fk.zip vs) m n=((fk.zip vs).lookup n).or (m n)
 |[],_,m,_,_=>by unfold bindL;rfl
 |p::ps,[],_,h,_=>by simp at h
 |p::ps,v::vs,m,h,hd=>by
  rw[pn];dsimp only[bindL];rw[yP hk ps vs _ (by simpa using h) (fM.mp hd).2,ez];cases hb:n==p with
  |true=>
   have:n=p:=by simpa using hb
   subst this;have hn:(ps.zip vs).lookup n=none:=by
    cases e:(ps.zip vs).lookup n with
    |none=>rfl
    |some u=>exact absurd (gA (mem_of_lookup e)).1 (fM.mp hd).1
   rw[hn,if_pos hk];simp
  |false=>
   have mV:n≠p:=by simpa using hb
   cases(ps.zip vs).lookup n with
   |some u=>rfl
   |none=>
    simp only[nX];split
    ·exact if_neg mV
    ·rfl
theorem yQ{kindOf:Str->Option gZ}{n:Str}(hk:kindOf n=some .cell):∀(fk:List Str)(vs:List Value)(m:Str->Option Value),fk.length=vs.length->fk.Nodup->bindC kindOf (fk.zip vs) m n=((fk.zip vs).lookup n).or (m n)
 |[],_,m,_,_=>by unfold bindC;rfl
 |p::ps,[],_,h,_=>by simp at h
 |p::ps,v::vs,m,h,hd=>by
  rw[pn];dsimp only[bindC];rw[yQ hk ps vs _ (by simpa using h) (fM.mp hd).2,ez];cases hb:n==p with
  |true=>
   have:n=p:=by simpa using hb
   subst this;have hn:(ps.zip vs).lookup n=none:=by
    cases e:(ps.zip vs).lookup n with
    |none=>rfl
    |some u=>exact absurd (gA (mem_of_lookup e)).1 (fM.mp hd).1
   rw[hn,if_neg (by rw[hk];decide)];simp
  |false=>
   have mV:n≠p:=by simpa using hb
   cases(ps.zip vs).lookup n with
   |some u=>rfl
   |none=>
    simp only[nX];split
    ·rfl
    ·exact if_neg mV
theorem UQ(h:look [("",d)] ""=some e):d=e:=by
 have h:(if("":Str)="" then _ else none)=some e:=h;rw[if_pos rfl]at h;cases d<;>first|exact no h|exact af h
theorem sy{fk:List Str}:∀{ds:List D}{vs:List Value},aZ h F ds vs->look (fk.zip ds) n=some d->∃v,(fk.zip vs).lookup n=some v/\bU h F d v:=by
 induction fk with
 |nil=>exactλ_ e=>no e
 |cons p ps ih=>
  intro ds vs r e;cases ds with
  |nil=>exact no e
  |cons d' ds=>
   obtain⟨v,r',rfl,h1,h2⟩:=r.eM;rw[pn,ez];have e:(if p=n then _ else look (ps.zip ds) n)=some d:=e;by_cases hp:p=n
   ·rw[if_pos hp]at e
    rw[hp,beq_self_eq_true];exact⟨v,rfl,UQ ((if_pos rfl).trans e)▸h1⟩
   ·rw[if_neg hp]at e
    rw[beq_eq_false_iff_ne.mpr λz:n=p=>hp z.symm];exact ih h2 e
section
variable{prog:bb}{w:World}{A:aC}{E:Value->ah->Prop}{F:Addr->Prop}{s:ah}{La:Heap->Prop}{Bu:aC->Prop}{V0 V:Ev}{T:ec}
structure P5(fd:jI)(fk:List Str)(body:List Stmt)(ks:bW):Prop where
 bdy:fd.body=.stmts body
 FC:fd.scope.names=ks
 kind:fd.scope.kind=.function
 gen:fd.scope.isGenerator=false
 co:fd.scope.isCoroutine=false
 clo:fd.closure=[]
 gl:fd.globals=mainGlobals
 bi:fd.builtins=builtinsNs
 bind:∀vs:List Value,vs.length=fk.length->bindArgs fd ⟨vs,[]⟩=pure (fk.zip vs)
 nd:fk.Nodup
 ok:fk.all (Aq ks)=true
 kd:(ks.map (·.1)).Nodup
theorem FD
(sz:A.depth<recursionLimit)(ho:s.heap.get? a=some o)(yR:o.data=.func fd)(fX:s.heap.NoLimit)(Aj:s.heap.CodeRec fd.code fd.qualname)(tk:1<=s.toks)
(ail:fd.body=.stmts body)(yS:bindArgs fd ⟨vals,[]⟩=pure binds)(aa3:fd.closure=[])
(mr:∀x∈binds,fd.scope.names.lookup x.1=some .local\/(fd.scope.names.lookup x.1=some .cell/\((cellsFrom (s.heap.objs.size+1) fd.scope.names []).lookup x.1).isSome=true))
(h:∀aU,1<=aU.toks->InCallC s (callEnvC fd s.heap.objs.size a).locals (bindL (callEnvC fd s.heap.objs.size a).kindOf binds λ_=>none) (callEnvC fd s.heap.objs.size a).cells
    (bindC (callEnvC fd s.heap.objs.size a).kindOf binds λ_=>none) aU->
   wpAny (model prog w) (A.deeper (callEnvC fd s.heap.objs.size a)) (execs body (callEnvC fd s.heap.objs.size a)) (λf s'=>R (.ok (.ret (match f with|.ret v=>v|_=>.none))) s')
    (λe s'=>wpAny (model prog w) (A.deeper (callEnvC fd s.heap.objs.size a)) (leaving (callEnvC fd s.heap.objs.size a) e) (λ_ Lw=>R (.error e) Lw) (λe' Lw=>R (.error e') Lw) s') aU)
(hco:fd.scope.isCoroutine=false)(aps:fd.scope.isGenerator=false)(hk:fd.scope.kind=.function):
 codeAny (model prog w) A (.call (.ref a) ⟨vals,[]⟩) R s:=by
 refine codeAny_call_function sz ho yR hco aps ail Aj ?_;rw[yS,aa3];refine aL (ai (wpAny_toks_of (n:=1) tk (wpAny_newFunctionEnv_cells (Q:=λenv s'=>env=newEnv fd.scope s.heap.objs.size fd.globals (cellsFrom (s.heap.objs.size+1) fd.scope.names []) (fd.qualname++".<locals>.") (some a) fd.code none fd.builtins/\InCallC s env.locals (bindL env.kindOf binds λ_=>none) env.cells (bindC env.kindOf binds λ_=>none) s') hk mr λenv he s' x=>⟨he,x⟩)) (λenv s' q=>?_) λ_ _ e=>e.2);obtain⟨t,he,x⟩:=q;subst he;exact⟨fX.keeps x.toInCall.keep,codeAny_func (h s' t x)⟩
theorem sA{Q:Value->ah->Prop}{ks:bW}{a:Addr}{o:Obj}{fd:jI}{fk:List Str}{body:List Stmt}{ds:List D}{vs:List Value}(fi:P5 fd fk body ks)
(sz:A.depth<recursionLimit)(ho:s.heap.get? a=some o)(yR:o.data=.func fd)(Aj:s.heap.CodeRec fd.code fd.qualname)(hl:ds.length=fk.length)
(am:dq A La s)(un:A.units+203<cLine)(lo:iQ F s.heap)(r:aZ s.heap F ds vs)
(h:∀env aU G oa,env.scope.names=ks->env=callEnvC fd s.heap.objs.size a->dq (A.deeper env) La s->nV env F s->SI env F s (fk.zip ds) [] aU G oa->∀E':Value->ah->Prop,wpAny (model prog w) (A.deeper env) (execs body env) (λf s'=>Q (match f with|.ret v=>v|_=>.none) s') E' aU):
 wpAny (model prog w) A (call (.ref a) vs) Q E s:=by
 have hvl:=r.length;refine GW ?_;have ok0:=cellsFrom_ok fd.scope.names (s.heap.push {cls:=.type "frame",data:=.dict #[]}) (s.heap.objs.size+1) [] ⟨λ_ _ hm=>(nomatch hm),Ld⟩ (by rw[hU];exact b0 _);refine FD sz ho yR am.nl Aj am.tk fi.bdy (fi.bind vs (by rw[hvl,hl])) fi.clo (λx hx=>?_) (λaU t1 X1=>?_) fi.co fi.gen fi.kind
 ·obtain⟨xn,xv⟩:=x
  have hm:=(gA hx).1;have:=aw.mp fi.ok xn hm;unfold Aq at this;rw[fi.FC];split at this
  ·rename_i q;exact .inl q
  ·rename_i q
   refine .inr ⟨q,?_⟩;obtain⟨c,hc⟩:=mJ fd.scope.names (s.heap.objs.size+1) [] xn (.inl (by rw[fi.FC];exact mem_of_lookup q));obtain⟨c',LY⟩:=og hc;rw[fi.FC]at LY;rw[LY];rfl
  ·cases this
 ·generalize ij:callEnvC fd s.heap.objs.size a=env at X1⊢
  have AF:env.locals=s.heap.objs.size:=by rw[<-ij];rfl
  have rI:env.scope=fd.scope:=by rw[<-ij];rfl
  have rJ:env.cells=cellsFrom (s.heap.objs.size+1) fd.scope.names []:=by rw[<-ij];rfl
  have mr:∀n,env.kindOf n=ks.lookup n:=λn=>by unfold gR;rw[rI,fi.FC]
  have nw:∀b,s.heap.objs.size<=b->s.heap.get? b=none:=λb hb=>by
   cases e:s.heap.get? b with
   |none=>rfl
   |some o=>exact absurd (cT e) (pH.mpr hb)
  have oe:∀n c,env.cells.lookup n=some c->s.heap.objs.size<c:=λn c e=>by
   have:=X1.above n c (mem_of_lookup e);rwa[AF]at this
  let G:Addr->Prop:=λb=>F b\/b=env.locals\/∃n,env.cells.lookup n=some b;have kk:bT s.heap aU.heap:=X1.toInCall.keep;obtain⟨h1,tk1,e1⟩:=X1.toInCall.same;have hGn:∀b,G b->F b\/s.heap.get? b=none:=λb q=>by
   rcases q with q|q|⟨n,q⟩
   ·exact .inl q
   ·exact .inr (nw b (by rw[q,AF];exact b0 _))
   ·exact .inr (nw b (cx (oe n b q)))
  have bl:∀n c,env.cells.lookup n=some c->G c:=λn c e=>.inr (.inr ⟨n,e⟩);have hcs:∀n,env.kindOf n=some .cell->∃c,env.cells.lookup n=some c:=λn hk=>by
   rw[mr]at hk;obtain⟨c,hc⟩:=mJ fd.scope.names (s.heap.objs.size+1) [] n (.inl (by rw[fi.FC];exact mem_of_lookup hk));obtain⟨c',LY⟩:=og hc;exact⟨c',by rw[rJ];exact LY⟩
  have hGr:∀{d':D}{v:Value},bU s.heap F d' v->bU aU.heap G d' v:=λr=>bU.kept (F:=F) (λb o _ e=>kk b o e) hGn _ _ r;have fr:nV env F s:=⟨nw _ (by rw[AF];exact b0 _),λn c _ e=>nw _ (cx (oe n c e)),lo⟩
  have x1:In env G (fk.zip ds) aU.heap:=by
   refine⟨by rw[rI];exact fi.kind,by rw[<-ij];exact fi.gl,by rw[<-ij];exact fi.bi,λb q=>?_,.inr (.inl rfl),λn c e=>⟨bl n c e,λz=>?_⟩,λn n' c e e'=>name_of_addr X1.apart (mem_of_lookup e) (mem_of_lookup e'),λn hk=>?_,⟨_,X1.toInCall.ns,λn d' e=>⟨λhk=>?_,λhk=>?_⟩⟩⟩
   ·rcases q with q|q|⟨n,q⟩
    ·exact(lo.keeps kk) b q
    ·obtain⟨o',_,_,e,_⟩:=X1.toInCall.ns
     rw[q,e];rfl
    ·obtain⟨o',e,_⟩:=X1.cell n b q
     rw[e];rfl
   ·have:=oe n c e
    rw[z,AF]at this;exact dN _ this
   ·obtain⟨c,hc⟩:=hcs n hk
    exact⟨c,_,hc,X1.cell n c hc⟩
   ·obtain⟨v,e1,e2⟩:=sy r e
    refine⟨v,?_,hGr e2⟩;rw[yP hk fk vs _ (by rw[hvl,hl]) fi.nd,e1];rfl
   ·obtain⟨v,e1,e2⟩:=sy r e
    have hk:env.kindOf n=some .cell:=hk.resolve_right λq=>by
     have hm:=(gA (mem_of_lookup e1)).1;have:=aw.mp fi.ok n hm;unfold Aq at this;rw[<-mr,q]at this;cases this
    obtain⟨c,hc⟩:=hcs n hk;refine⟨c,v,hc,?_,hGr e2⟩;have:=X1.cell n c hc;rw[yQ hk fk vs _ (by rw[hvl,hl]) fi.nd,e1]at this;exact this
  have si:SI env F s (fk.zip ds) [] aU G (λ_=>0):=
   ⟨λb q=>.inl q,hGn,⟨h1,tk1,e1,by rw[e1]at kk;exact kk⟩,t1,x1.sub λn d' e=>by rw[fF]at e;simpa using e,λn hn=>(nomatch hn),λn hn=>(nomatch hn),λn n' hn=>(nomatch hn)⟩
  have am':dq (A.deeper env) La s:=⟨am.hh,am.nb,am.nl,am.gl,am.tk,by rw[eL];omega,am.la⟩
  exact ai (h env aU G _ (by rw[rI];exact fi.FC) ij.symm am' fr si _) (λf s' q=>q) λ_ _ e=>e
theorem P6(XO:Ss prog w La Bu ks X)(fi:P5 fd fk body ks)
(sz:A.depth<recursionLimit)(ho:s.heap.get? a=some o)(yR:o.data=.func fd)(Aj:s.heap.CodeRec fd.code fd.qualname)(hl:ds.length=fk.length)
(bu:∀env,Bu (A.deeper env))(am:dq A La s)(un:A.units+203<cLine)(lo:iQ F s.heap)(r:aZ s.heap F ds vs)(h:X body (fk.zip ds) []=some (.rt d)):
 wpAny (model prog w) A (call (.ref a) vs) (gU F s d) E s:=by
 refine sA fi sz ho yR Aj hl am un lo r (λenv aU G oa jn _ iL fr si E'=>?_);refine ai (XO (A.deeper env) E' env F s (fk.zip ds) [] aU G oa body (.rt d) (bu env) iL fr si jn h) (λf s' q=>?_) λ_ _ e=>e;obtain⟨v,rfl,q1,q2,q3⟩:=q;exact⟨q1,q3⟩
end
end
def Bu(k:Nat)(A:aC):Prop:=A.depth+k<=900/\A.units+3*k+203<cLine
theorem Bu.less(h:Bu k A)(hj:j<=k):Bu j A:=⟨by have:=h.1;omega,by have:=h.2;omega⟩
theorem Bu.deeper(h:Bu (k+1) A)(env:Env):Bu k (A.deeper env):=⟨by
 have:=h.1;show A.depth+1+k<=900;omega,by
 have:=h.2;rw[eL];omega⟩
structure yT where
 fns:Str->Option (List Str×List Stmt×Scope)
 W:Str->List Str
 prim:Str->Option (List D->Option D)
 gl:Str->Option D
 get:Str->List D->Option D
 mem:Str->D->Option Bool
def abm:Option Fl->Option D
 |none=>none
 |some x=>match x with
  |.rt d=>some d
  |_=>none
theorem Mq(h:abm o=some d):o=some (.rt d):=by
 cases o with
 |none=>exact no h
 |some x=>cases x<;>first|exact no h|exact af h▸rfl
def yT.run(P:yT)(m wf n:Nat)(T:ec)(f:Str)(ds:List D):Option D:=
 (P.fns f).bind λx=>if ds.length=x.1.length then abm (AE (dS T (m+1)) x.2.2.names (P.W f) wf n x.2.1 (x.1.zip ds) [])else none
def yT.fn(P:yT)(m wf n:Nat)(T:ec)(f:Str)(ds:List D):Option D:=match P.prim f with
 |some p=>p ds
 |none=>P.run m wf n T f ds
def yT.tab(P:yT)(m wf n:Nat):Nat->ec
 |0=>⟨λ_ _=>none,P.gl,P.get,P.mem⟩
 |r+1=>⟨P.fn m wf n (P.tab m wf n r),P.gl,P.get,P.mem⟩
structure FE(prog:bb)(w:World)(La:Heap->Prop)(P:yT)(k:Nat):Prop where
 gl:∀h n d,La h->P.gl n=some d->∃v,Gv h n v/\∀F,bU h F d v
 bi:∀h (b:Bi),La h->Bv h b.name b.val
 So:∀h,La h->Bv h "isinstance" (.builtin "isinstance")
 rev:∀h,La h->Bv h "reversed" (.type "reversed")
 ty:∀h (n:Str),La h->(n="bool"\/n="int")->Bv h n (.type (Ct n))
 fn:∀h f ps body sc,La h->P.prim f=none->P.fns f=some (ps,body,sc)->∃a o fd,Gv h f (.ref a)/\h.get? a=some o/\o.data=.func fd/\h.CodeRec fd.code fd.qualname/\P5 fd ps body sc.names
 prim:∀h f p ds d,La h->P.prim f=some p->p ds=some d->∃a o fd,Gv h f (.ref a)/\h.get? a=some o/\o.data=.func fd/\
  ∀(A:aC)(E:Value->ah->Prop) F s vs,Bu k A->dq A La s->iQ F s.heap->bT h s.heap->aZ s.heap F ds vs->wpAny (model prog w) A (call (.ref a) vs) (gU F s d) E s
 get:∀h g ds d,La h->P.get g ds=some d->∃a o,Gv h g (.ref a)/\h.get? a=some o/\o.cls=.type "dict"/\o.dict=none/\
  ∀(A:aC)(E:Value->ah->Prop) F s vs,dq A La s->iQ F s.heap->bT h s.heap->aZ s.heap F ds vs->wpAny (model prog w) A (call (.builtin "dict.get") (.ref a::vs)) (gU F s d) E s
 mem:∀h g x b,La h->P.mem g x=some b->∃a,Gv h g (.ref a)/\
  ∀(A:aC)(E:Value->ah->Prop) F s v,dq A La s->bT h s.heap->bU s.heap F x v->wpAny (model prog w) A (compareOp .In v (.ref a)) (λr s'=>r=.bool b/\Keeps s s') E s
theorem FG{prog:bb}{w:World}{La:Heap->Prop}{Bu:aC->Prop}{P:yT}(L:FE prog w La P k)(h:Heap)(g:Str)(ds:List D)(d:D)(la:La h)(e:P.get g ds=some d):∃a o,Gv h g (.ref a)/\h.get? a=some o/\o.cls=.type "dict"/\o.dict=none/\
 ∀(A:aC)(E:Value->ah->Prop) F s vs,Bu A->dq A La s->iQ F s.heap->bT h s.heap->aZ s.heap F ds vs->wpAny (model prog w) A (call (.builtin "dict.get") (.ref a::vs)) (gU F s d) E s:=by
 obtain⟨a,o,q1,q2,q3,q4,q5⟩:=L.get h g ds d la e;exact⟨a,o,q1,q2,q3,q4,λA E F s vs _=>q5 A E F s vs⟩
theorem FH{prog:bb}{w:World}{La:Heap->Prop}{Bu:aC->Prop}{P:yT}(L:FE prog w La P k)(h:Heap)(g:Str)(x:D)(b:Bool)(la:La h)(e:P.mem g x=some b):∃a,Gv h g (.ref a)/\
 ∀(A:aC)(E:Value->ah->Prop) F s v,Bu A->dq A La s->bT h s.heap->bU s.heap F x v->wpAny (model prog w) A (compareOp .In v (.ref a)) (λr s'=>r=.bool b/\Keeps s s') E s:=by
 obtain⟨a,q1,q2⟩:=L.mem h g x b la e;exact⟨a,q1,λA E F s v _=>q2 A E F s v⟩
theorem aiq(L:FE prog w La P k)(m wf n:Nat)(TO:dP prog w La (Bu (r+k)) T)(h:Heap)(f:Str)(ds:List D)(d:D)(la:La h)(e:P.fn m wf n T f ds=some d):∃a o fd,Gv h f (.ref a)/\h.get? a=some o/\o.data=.func fd/\
 ∀(A:aC)(E:Value->ah->Prop) F s vs,Bu (r+1+k) A->dq A La s->iQ F s.heap->bT h s.heap->aZ s.heap F ds vs->wpAny (model prog w) A (call (.ref a) vs) (gU F s d) E s:=by
 unfold yT.fn at e;cases hp:P.prim f with
 |some p=>
  rw[hp]at e;obtain⟨a,o,fd,q1,q2,q3,q4⟩:=L.prim h f p ds d la hp e;exact⟨a,o,fd,q1,q2,q3,λA E F s vs bu=>q4 A E F s vs (bu.less (by omega))⟩
 |none=>
  rw[hp]at e;obtain⟨x,hf,e⟩:=aO (show(P.fns f).bind _=some d from e);obtain⟨hl,e⟩:=dy e;obtain⟨a,o,fd,q1,q2,q3,q4,q5⟩:=L.fn h f x.1 x.2.1 x.2.2 la hp hf;refine⟨a,o,fd,q1,q2,q3,λA E F s vs bu am lo kk rs=>?_⟩;have bu':Bu (r+k+1) A:=by rw[Nat.add_right_comm];exact bu
  exact P6 (uc (W:=P.W f) (gq TO m) TO x.2.2.names wf n) q5 (bj (aq (dU _ _) bu.1) (by decide)) (kk _ _ q2) q3 (q4.keeps kk) hl (λenv=>bu'.deeper env) am (by have:=bu.2;omega) lo rs (Mq e)
theorem Iw(L:FE prog w La P k)(m wf n:Nat)(r:Nat):dP prog w La (Bu (r+k)) (P.tab m wf n r):=by
 induction r with
 |zero=>exact⟨L.gl,L.bi,L.So,L.rev,L.ty,λ_ _ _ _ _ h=>no h,FG L,FH L⟩
 |succ r ih=>exact⟨L.gl,L.bi,L.So,L.rev,L.ty,aiq L m wf n ih,FG L,FH L⟩
section
section
variable{G F:Addr->Prop}{env:Env}{az s s':ah}{σ:cu}{own:List Str}{oa:Str->Addr}
inductive ais(env:Env)(F:Addr->Prop)(az:ah)(σ:cu)(own:List Str)(s':ah)(G:Addr->Prop)(oa:Str->Addr)(P:Addr):Prop
 |mk (aU:ah) (si:SI env F aU σ own s' G oa) (fr:nV env F aU) (kb:∀a o,az.heap.get? a=some o->a≠P->aU.heap.get? a=some o) (kP:∀o,s'.heap.get? P=some o->aU.heap.get? P=some o) (tk:1<=aU.toks) (fm:∃h tk,aU={az with heap:=h,toks:=tk})
theorem SI.sE(si:SI env F az σ own s G oa)(fr:nV env F az)(hF:F P)(hc:∀n,env.cells.lookup n≠some P)(u:Upd (λa=>a=P) s s')(t:1<=s'.toks)(hs:(s'.heap.get? P).isSome=true):
 ais env F az σ own s' G oa P:=by
 obtain⟨h',hh⟩:=yG s'.heap (λa=>¬G a\/F a);have hG:G P:=si.hF P hF;have kp:Kept (λa=>a=P) s.heap s'.heap:=u.kept λ_ q=>q;obtain⟨h,tk,rfl,kk⟩:=si.kp;obtain⟨h2,PC,rfl,ku⟩:=u;have nF:∀a,az.heap.get? a=none->¬F a:=λa e q=>by
  have:=fr.lo a q;rw[e]at this;cases this
 have hl:P≠env.locals:=λz=>nF _ fr.hl (z▸hF);have ho:∀n,n∈own->oa n≠P:=λn hn z=>nF _ (si.owN hn) (z▸hF);have UM:∀a,G a->¬F a->h'.get? a=none:=λa g nf=>by
  cases e:h'.get? a with
  |none=>rfl
  |some o=>rcases((hh a o).mp e).1 with q|q
           ·exact absurd g q
           ·exact absurd q nf
 have u':Upd (λa=>a=P) {az with heap:=h,toks:=tk} {az with heap:=h2,toks:=PC}:=⟨h2,PC,rfl,ku⟩
 have old:∀a o,az.heap.get? a=some o->a≠P->h'.get? a=some o:=λa o e ne=>(hh a o).mpr ⟨by
  by_cases g:G a
  ·rcases si.hN a g with q|q
   ·exact .inr q
   ·rw[q]at e;cases e
  ·exact .inl g,ku a o ne (kk a o e)⟩
 refine⟨{az with heap:=h',toks:=PC},⟨si.hF,λa g=>?_,⟨h2,PC,rfl,λb o e=>((hh b o).mp e).2⟩,t,si.ie.upd u' (λa q=>q▸hG) (iQ.upd si.ie.lo kp λb q=>q▸hs) (λz=>hl z.symm) (λn c e z=>hc n (z▸e)),λn hn=>?_,si.od,si.oi⟩,
  ⟨UM _ si.ie.fl (nF _ fr.hl),λn c ho e=>UM _ (si.ie.fc n c e).1 (nF _ (fr.hc n c ho e)),λb q=>?_⟩,old,λo e=>(hh P o).mpr ⟨.inr hF,e⟩,t,⟨h',PC,rfl⟩⟩
 ·by_cases q:F a
  ·exact .inl q
  ·exact .inr (UM a g q)
 ·obtain⟨q1,q2,q3,q4,ds,q5,q6⟩:=si.ow n hn
  exact⟨q1,q2.kept kp (λz=>hl z.symm) (λn c e z=>hc n (z▸e)),q3,UM _ q3 (nF _ q4),ds,q5,q6.kept kp (λb q=>q▸hG) (ho n hn)⟩
 ·by_cases hb:b=P
  ·obtain⟨o,e⟩:=ay.mp hs
   rw[hb,(hh P o).mpr ⟨.inr hF,e⟩];rfl
  ·obtain⟨o,e⟩:=ay.mp (fr.lo b q)
   rw[old b o e hb];rfl
end
end
theorem FK{vs:List Value}:∀(ns:List Str),ns.length=vs.length->(ns.filter λn=>((ns.zip vs).lookup n).isNone)=[]:=by
 intro ns hl;rw[kY];intro n hn;obtain⟨i,hi,rfl⟩:=adW hn;have hm:(ns[i],vs[i]'(by lia))∈ns.zip vs:=by
  have:(ns.zip vs)[i]'(by simp;lia)=(ns[i],vs[i]'(by lia)):=by simp
  rw[<-this];exact hZ _
 have:∀(l:List (Str×Value))(n:Str)(v:Value),(n,v)∈l->(l.lookup n).isSome=true:=by
  intro l
  induction l with
  |nil=>intro n v h;cases h
  |cons x l ih=>
   obtain⟨a,b⟩:=x;intro n v h;rw[ez];cases hb:n==a with
   |true=>rfl
   |false=>
    rcases aJ.mp h with h|h
    ·injection h with h1 h2
     subst h1;simp at hb
    ·exact ih n v h
 have h2:=this _ _ _ hm;cases e:(ns.zip vs).lookup ns[i]with
 |none=>rw[e]at h2;cases h2
 |some v=>simp
theorem Mr(n:Str)(v:Value)(z:List (Str×Value))(l:List Str)(h:∀m,m∈l->m≠n):l.filterMap (λm=>(((n,v)::z).lookup m).map (m,·))=l.filterMap (λm=>(z.lookup m).map (m,·)):=
 by
 induction l with
 |nil=>rfl
 |cons m l ih=>rw[xM,xM,ez,beq_eq_false_iff_ne.mpr (h m (aA ..)),ih λx hx=>h x (aD _ hx)]
theorem AG(ns:List Str):∀(vs:List Value),ns.Nodup->ns.length=vs.length->(ns.filterMap λn=>((ns.zip vs).lookup n).map (n,·))=ns.zip vs:=by
 induction ns with
 |nil=>exactλ_ _ _=>rfl
 |cons n ns ih=>
  intro vs hd hl;cases vs with
  |nil=>cases hl
  |cons v vs=>
   have hd:=fM.mp hd;rw[pn,xM,ez,beq_self_eq_true];show(n,v)::_=_;rw[Mr n v (ns.zip vs) ns λm hm e=>hd.1 (e▸hm),ih vs hd.2 (Le hl)]
theorem j2(h1:fd.params.posonlyargs=[])(h2:fd.params.kwonlyargs=[])(h3:fd.params.vararg=none)(h4:fd.params.kwarg=none)(h5:fd.defaults=.none)
(hd:(fd.params.args.map (·.arg)).Nodup)(hl:vs.length=(fd.params.args.map (·.arg)).length):bindArgs fd ⟨vs,[]⟩=pure ((fd.params.args.map (·.arg)).zip vs):=by
 have f1:=FK (vs:=vs) (fd.params.args.map (·.arg)) hl.symm;have f2:=AG (fd.params.args.map (·.arg)) vs hd hl.symm;have g1:¬(decide (vs.length>(fd.params.args.map (·.arg)).length)&&true)=true:=by rw[hl];simp
 obtain⟨a1,a2,⟨po,ar,va,ko,kd,kw⟩,a4,a5,a6,a7,a8,a9,a10,a11,a12⟩:=fd;dsimp only at*;subst h1 h2 h3 h4 h5;refine(if_neg g1).trans ?_;generalize hz:List.drop _ _=dd;have hz':dd=[]:=hz.symm.trans List.drop_nil;clear hz;subst hz';refine(if_neg ?_).trans ?_
 ·show¬(!((List.take (ar.map (·.arg)).length (ar.map (·.arg))).filter λn=>(((ar.map (·.arg)).zip vs).lookup n).isNone).isEmpty)=true
  rw[rn,f1];exact aF
 ·generalize (ar.map (·.arg))=ns at*
  generalize hz:List.drop _ _=dd;have hz':dd=[]:=hz.symm.trans (DM (l:=ns));clear hz;subst hz';show(pure ((ns++[]).filterMap λn=>((ns.zip vs).lookup n).map (n,·)):Sem (List (Str×Value)))=_;rw[c6,f2]
section
theorem ud(h:vInt v=some i):∃t,v=.int i t:=by
 obtain⟨x,_,rfl⟩:=dC h;exact⟨x.1.2,x.2⟩
theorem BD(h:vStr v=some i):∃t,v=.str i t:=by
 obtain⟨x,_,rfl⟩:=dC h;exact⟨x.1.2,x.2⟩
theorem isInt_self(i)(t):Value.isInt i (.int i t)=true:=by simp[Value.isInt]
theorem rK(i)(t):avq i (.str i t)=true:=by simp[avq]
theorem CQ(w)(h:vInt v=some i):(intKind pw w).is i v=true:=by obtain⟨t,e⟩:=ud h;exact e▸isInt_self i t
theorem abn(w)(h:vStr v=some i):(strKind pw w).is i v=true:=by obtain⟨t,e⟩:=BD h;exact e▸rK i t
section
variable{w:World}{K V:Type}[DecidableEq K](knd:KeyKind pw w K)(kf:Value->Option K)(vf:Value->Option V)
theorem abo(his:∀v k,kf v=some k->knd.is k v=true)(L:List (K×V)):∀(es:List cZ),es.map (λe=>(e.hash,kf e.key,vf e.val))=L.map (λx=>(knd.hash x.1,some x.1,some x.2))->
 ∃jA,Pairs knd es jA/\(∀e∈es,∃k,knd.is k e.key=true/\e.hash=knd.hash k)/\jA.map (λkv=>(kv.1,vf kv.2))=L.map (λx=>(x.1,some x.2)):=by
 induction L with
 |nil=>
  intro es h;rw[adX.mp h];exact⟨[],.nil,λe he=>(nomatch he),rfl⟩
 |cons x L ih=>
  intro es h;cases es with
  |nil=>cases h
  |cons e es=>
   obtain⟨h1,h2⟩:=ey h;obtain⟨jA,p,q,r⟩:=ih es h2;rcases gv h1 with⟨a,h1⟩
   rcases gv h1 with⟨b,c⟩
   refine⟨(x.1,e.val)::jA,.cons (his _ _ b) rfl p,λy hy=>?_,by rw[bH,r,c];rfl⟩;rcases aJ.mp hy with rfl|hy
   ·exact⟨x.1,his _ _ b,a⟩
   ·exact q y hy
theorem FL(L:List (K×V)):∀(jA:List (K×Value)),jA.map (λkv=>(kv.1,vf kv.2))=L.map (λx=>(x.1,some x.2))->∀k,(valueAt jA k).map vf=(L.find? λx=>decide (x.1=k)).map λx=>some x.2:=by
 induction L with
 |nil=>intro jA h k;rw[adX.mp h];rfl
 |cons x L ih=>
  intro jA h k;cases jA with
  |nil=>cases h
  |cons y jA=>
   obtain⟨h1,h2⟩:=ey h;obtain⟨h0,h1⟩:=gv h1;have ih:=ih jA h2 k;have h0:y.1=x.1:=h0;unfold valueAt at ih⊢;rw[He,He,h0];cases decide (x.1=k)with
   |true=>exact congrArg some h1
   |false=>exact ih
end
def floats:List (Str×UInt64):=[("ONE_THIRD",4599676419421066581),("ONE_SIXTH",4595172819793696085),("TWO_THIRD",4604180019048437077)]
def abp(w:World)(h:Heap)(a:Addr):Prop:=∃jA,h.DictOf (intKind pw w) a jA/\jA.map (λkv=>(kv.1,vStr kv.2))=L3.map (λx=>(x.1,some x.2))
def abq(w:World)(h:Heap)(a:Addr):Prop:=∃jA,h.DictOf (strKind pw w) a jA/\jA.map (λkv=>(kv.1,vInt kv.2))=L4.map (λx=>(x.1,some x.2))
inductive YP(w:World)(h:Heap):Prop
 |mk (mg:Str->Option Value) (g:h.Ns mainGlobals mg) (fl:∀x∈floats,∃t,mg x.1=some (.float x.2 t)/\t≠0) (s:∃a,mg "b1_set"=some (.ref a)/\h.SetOf (intKind pw w) a (λk=>mH.contains k) 27)
  (d3:∃a,mg "b3_exceptions"=some (.ref a)/\a≠sysModules/\abp w h a) (d4:∃a,mg "EXACT_TOKEN_TYPES"=some (.ref a)/\a≠sysModules/\abq w h a)
theorem yU(e:Oa h n=some o):∃a,h.nsMap mainGlobals n=some (.ref a)/\a≠sysModules/\h.get? a=some o:=by
 obtain⟨v,h1,e⟩:=aO e;obtain⟨a,_,e⟩:=aO e;by_cases q:a.1=sysModules
 ·rw[if_pos q]at e;exact no e
 ·rw[if_neg q]at e;exact⟨a.1,h1.trans (congrArg some a.2),q,e⟩
theorem UR:(L3.map (·.1)).Nodup:=Bd _ (by rfl')
theorem UT:(L4.map (·.1)).Nodup:=by decide
theorem Iy{m:Str->Option Value}{n:Str}{b:UInt64}(h:(m n).map aeY=some (some b)):∃t,m n=some (.float b t)/\t≠0:=by
 obtain⟨v,h1,h2⟩:=dC h;rw[h1];obtain⟨⟨⟨y,t⟩,rfl⟩,_,h2⟩:=aO h2;have h2:(bif bO t 0 then none else some y)=some b:=h2;cases ht:bO t 0 with
 |true=>rw[ht]at h2;exact no h2
 |false=>
  rw[ht]at h2;exact⟨t,congrArg (λy=>some (Value.float y t)) (af h2),Nat.ne_of_beq_eq_false ht⟩
theorem P7{w:World}{h:Heap}{n:Str}{K V:Type}[DecidableEq K](knd:KeyKind pw w K)(kf:Value->Option K)(vf:Value->Option V)(his:∀v k,kf v=some k->knd.is k v=true){L:List (K×V)}(hL:(L.map (·.1)).Nodup)
(e:Hv (λe=>(e.hash,kf e.key,vf e.val)) h n=some (true,L.map λx=>(knd.hash x.1,some x.1,some x.2))):∃a,h.nsMap mainGlobals n=some (.ref a)/\a≠sysModules/\∃jA,h.DictOf knd a jA/\jA.map (λkv=>(kv.1,vf kv.2))=L.map (λx=>(x.1,some x.2)):=by
 obtain⟨o,h1,h2⟩:=aO e;obtain⟨a,ha,hs,ho⟩:=yU h1;obtain⟨cls,dict,data,slots⟩:=o;obtain⟨⟨⟨xs,ep⟩,hx⟩,_,h2⟩:=dC h2;have hx:data=.dict xs ep:=hx;subst hx;obtain⟨c,c5⟩:=gv h2;obtain⟨c,c3⟩:=(av _ _).mp c;obtain⟨c1,c2⟩:=(av _ _).mp c;obtain⟨jA,p,q,r⟩:=abo knd kf vf his L _ c5;refine⟨a,ha,hs,jA,⟨_,xs,ep,ho,⟨eq_of_beq c1,cX.mp c2,aeO.mp c3⟩,rfl,λe he=>q e (Array.mem_toList_iff.mpr he),p,?_⟩,r⟩;have:=congrArg (wZ Prod.fst) r;rw[eO,eO]at this;exact(show jA.map (·.1)=L.map (·.1)from this)▸hL
theorem UU:∀k∈mH,hashInt k=k:=by decide
theorem abr(e:Ob h "b1_set"=some (true,mH.map λi=>(i,some i))):∃a,h.nsMap mainGlobals "b1_set"=some (.ref a)/\h.SetOf (intKind pw w) a (λk=>mH.contains k) 27:=by
 obtain⟨o,h1,h2⟩:=aO e;obtain⟨a,ha,hs,ho⟩:=yU h1;obtain⟨cls,dict,data,slots⟩:=o;obtain⟨⟨⟨xs,ep,t⟩,hx⟩,_,h2⟩:=dC h2;have hx:data=.set xs ep t:=hx;subst hx;obtain⟨c,c5⟩:=gv h2;obtain⟨c,c3⟩:=(av _ _).mp c;obtain⟨c1,c2⟩:=(av _ _).mp c;obtain⟨c3,c4⟩:=(av _ _).mp c3;have hl:xs.size=27:=by
  have:=congrArg qp c5;rw[aj,aj,cj]at this;exact this
 have mem:∀e∈xs.toList,∃k∈mH,e.1=k/\vInt e.2=some k:=λe he=>by
  obtain⟨k,hk,hke⟩:=Li (c5▸xJ (f:=λe:Int×Value=>(e.1,vInt e.2)) he);obtain⟨q1,q2⟩:=gv hke;exact⟨k,hk,q1.symm,q2.symm⟩
 refine⟨a,ha,⟨⟨cls,dict,.set xs ep t,slots⟩,xs,ep,t,ho,⟨eq_of_beq c1,cX.mp c2,aeO.mp c3⟩,rfl,λe he=>?_,λk=>⟨λhk=>?_,λ⟨e,he,hke⟩=>?_⟩,hl▸(by decide),c4,hl⟩⟩
 ·obtain⟨k,hk,h1,h2⟩:=mem e he
  obtain⟨t,h3⟩:=ud h2;exact⟨⟨k,CQ w h2,h1.trans (UU k hk).symm⟩,h3▸rfl⟩
 ·obtain⟨e,he,hke⟩:=Li (c5.symm▸xJ (f:=λi=>(i,some i)) (cG.mp hk))
  exact⟨e,he,CQ w (gv hke).2⟩
 ·obtain⟨k',jQ,_,h2⟩:=mem e he
  exact cG.mpr ((intKind pw w).inj _ _ _ hke (CQ w h2)▸jQ)
theorem aiu(w:World)(s:ah)(e:(s.heap.isNs mainGlobals,Hw.look s.heap)=(true,Bb w)):YP w s.heap:=by
 obtain⟨e1,e2⟩:=gv e;have e2:Oc ["ONE_THIRD","ONE_SIXTH","TWO_THIRD"] "b1_set" "b3_exceptions" "EXACT_TOKEN_TYPES" s.heap=Bb w:=e2;have f:=congrArg Look.fl e2;obtain⟨f1,f⟩:=ey f;obtain⟨f2,f⟩:=ey f;refine⟨s.heap.nsMap mainGlobals,.of_isNs e1,λx hx=>?_,abr (congrArg Look.st e2),P7 (intKind pw w) vInt vStr (λ_ _=>CQ w) UR (congrArg Look.d3 e2),P7 (strKind pw w) vStr vInt (λ_ _=>abn w) UT (congrArg Look.d4 e2)⟩;rcases aJ.mp hx with rfl|hx
 ·exact Iy f1
 ·rcases aJ.mp hx with rfl|hx
  ·exact Iy f2
  ·rw[aY.mp hx];exact Iy (ey f).1
theorem dict_keeps{w:World}{h h':Heap}{a:Addr}{K:Type}[DecidableEq K]{knd:KeyKind pw w K}{jA:List (K×Value)}(k:bT h h')(x:h.DictOf knd a jA):h'.DictOf knd a jA:=by
 obtain⟨o,es,ep,ho,r⟩:=x;exact⟨o,es,ep,k _ _ ho,r⟩
theorem FQ(w:World)(h h':Heap)(y:YP w h)(k:∀b o,h.get? b=some o->h'.get? b=some o):YP w h':=by
 cases y with
 |mk mg g fl s d3 d4=>
 refine⟨mg,g.keeps k,fl,?_,?_,?_⟩
 ·obtain⟨a,a1,o,es,ep,t,a2,a3⟩:=s
  exact⟨a,a1,o,es,ep,t,k _ _ a2,a3⟩
 ·obtain⟨b,b1,b2,jA,b3,b4⟩:=d3
  exact⟨b,b1,b2,jA,dict_keeps k b3,b4⟩
 ·obtain⟨b,b1,b2,jA,b3,b4⟩:=d4
  exact⟨b,b1,b2,jA,dict_keeps k b3,b4⟩
end
section
def jE:List A0:=recsOf gK
structure pz(mg mb:Str->Option Value)(w:World)(h:Heap):Prop where
 g:h.Ns mainGlobals mg
 b:h.Ns builtinsNs mb
 fn:∀d∈jE,∃a o pm code doc,mg d.name=some (.ref a)/\h.get? a=some o/\o.data=.func (cJ d.name d.params d.body d.scope pm code doc)/\h.CodeRec code d.name
 const:∀x d,valOf gK x=some d->∃v,mg x=some v/\∀h':Heap,Reads h' v d []
 free:∀x,x∉startupNames->x∉looseW gK iI->x∉(recsOf gK).map (·.name)->x∉(litsOf gK).map (·.1)->x∉(clssOf gK (looseW gK iI)).map (·.name)->mg x=none
 builtins:∀x:Str,x≠"__name__"->mb x=bootBuiltins x
 bmain:∃bm ob,mg "__builtins__"=some (.ref bm)/\bm≠builtinsNs/\h.get? bm=some ob/\ob.cls=.type "module"/\ob.dict=some builtinsNs/\ob.data=.plain
 yp:YP w h
def jo(w:World)(h:Heap):Prop:=∃mg mb,pz mg mb w h
theorem pz.keeps(x:pz mg mb w h)(k:∀b o,h.get? b=some o->h'.get? b=some o):pz mg mb w h':=by
 refine⟨x.g.keeps k,x.b.keeps k,λd hd=>?_,x.const,x.free,x.builtins,?_,FQ w h h' x.yp k⟩
 ·obtain⟨a,o,pm,code,doc,h1,h2,h3,h4⟩:=x.fn d hd
  exact⟨a,o,pm,code,doc,h1,k _ _ h2,h3,h4.keeps k⟩
 ·obtain⟨bm,ob,h1,h2,h3,r⟩:=x.bmain
  exact⟨bm,ob,h1,h2,k _ _ h3,r⟩
def FR(x:Str):Bool:= !startupNames.contains x&&(!(looseW gK iI).contains x&&(!((recsOf gK).map (·.name)).contains x&&(!((litsOf gK).map (·.1)).contains x&& !((clssOf gK (looseW gK iI)).map (·.name)).contains x)))
theorem pz.bv(x:pz mg mb w h)(f:FR n=true)(hn:n≠"__name__")(hv:bootBuiltins n=some v):Bv h n v:=by
 unfold FR at f;simp only[av,cQ,List.contains_eq_mem,decide_eq_false_iff_not]at f;obtain⟨f1,f2,f3,f4,f5⟩:=f;exact⟨mg,mb,x.g,x.free n f1 f2 f3 f4 f5,x.b,(x.builtins n hn).trans hv⟩
def P8:List Str:=["len","range","max","min","abs","sum","chr","ord","list","sorted","divmod","int","isinstance","reversed","bool","ZeroDivisionError"]
theorem nA(h:P8.contains n=true):FR n=true:=aw.mp (show P8.all FR=true by rfl') n (cG.mp h)
def glL:List (Str×Int):=([("_DIV_LIMIT",4000),("ENDMARKER",0),("LPAR",7),("RPAR",8),("LSQB",9),("RSQB",10),("COLON",11),("COMMA",12),("SEMI",13),("PLUS",14),("MINUS",15),("STAR",16),("SLASH",17),("VBAR",18),("AMPER",19),("LESS",20),("GREATER",21),("EQUAL",22),("DOT",23),("PERCENT",24),("LBRACE",25),("RBRACE",26),("EQEQUAL",27),("NOTEQUAL",28),("LESSEQUAL",29),("GREATEREQUAL",30),("TILDE",31),("CIRCUMFLEX",32),("LEFTSHIFT",33),("RIGHTSHIFT",34),("DOUBLESTAR",35),("PLUSEQUAL",36),("MINEQUAL",37),("STAREQUAL",38),("SLASHEQUAL",39),("PERCENTEQUAL",40),("AMPEREQUAL",41),("VBAREQUAL",42),("CIRCUMFLEXEQUAL",43),("LEFTSHIFTEQUAL",44),("RIGHTSHIFTEQUAL",45),("DOUBLESTAREQUAL",46),("DOUBLESLASH",47),("DOUBLESLASHEQUAL",48),("AT",49),("ATEQUAL",50),("RARROW",51),("ELLIPSIS",52),("COLONEQUAL",53),("EXCLAMATION",54),("NT_OFFSET",256)]:List (String×Int)).map λx=>(tw x.1,x.2)
theorem abt:glL.map (λx=>valOf gK x.1)=glL.map (λx=>some (.int x.2)):=by rfl'
structure aiv(p:nN)(s:Scope):Prop where
 k1:p.posonlyargs=[]
 k2:p.kwonlyargs=[]
 k3:p.vararg=none
 k4:p.kwarg=none
 k5:(p.args.map (·.arg)).Nodup
 k6:s.kind=.function
 k7:s.isGenerator=false
 k8:s.isCoroutine=false
 k9:(p.args.map (·.arg)).all (Aq s.names)=true
 UW:(s.names.map (·.1)).Nodup
def Iz(p:nN)(s:Scope):Bool:=p.posonlyargs.isEmpty&&(p.kwonlyargs.isEmpty&&(p.vararg.isNone&&(p.kwarg.isNone&&(decide ((p.args.map (·.arg)).Nodup)&&(s.kind==.function&&(!s.isGenerator&&(!s.isCoroutine&&((p.args.map (·.arg)).all (Aq s.names)&&decide ((s.names.map (·.1)).Nodup)))))))))
theorem rL(h:Iz p s=true):aiv p s:=by
 obtain⟨k1,h⟩:=(av _ _).mp h;obtain⟨k2,h⟩:=(av _ _).mp h;obtain⟨k3,h⟩:=(av _ _).mp h;obtain⟨k4,h⟩:=(av _ _).mp h;obtain⟨k5,h⟩:=(av _ _).mp h;obtain⟨k6,h⟩:=(av _ _).mp h;obtain⟨k7,h⟩:=(av _ _).mp h;obtain⟨k8,h⟩:=(av _ _).mp h;obtain⟨k9,UW⟩:=(av _ _).mp h;exact⟨lY.mp k1,lY.mp k2,cX.mp k3,cX.mp k4,of_decide_eq_true k5,eq_of_beq k6,cQ _▸k7,cQ _▸k8,k9,of_decide_eq_true UW⟩
theorem xA:(jE.all λd=>Iz d.params d.scope)=true:=by rfl'
def Wof(f:Str):List Str:=
 if f="_divmod_pos" then["q_digits"]else if f="_law_page" then["row"]else if f="_law_read" then["row"]else if f="_law_upsets" then["upsets"]else if f="_law_colours" then["told"]
 else if f="_law_orders" then["rings"]else[]
def Kg:D->Option Int
 |.int k=>some k
 |_=>none
def P9:D->Option Str
 |.str k=>some k
 |_=>none
def abu:List D->Option D
 |d::r=>if r.isEmpty then some d else none
 |[]=>none
def aiw:List D->Option (D×D)
 |d::r=>(abu r).map λe=>(d,e)
 |[]=>none
def IA(g:Str)(ds:List D):Option D:=
 if g="b3_exceptions" then((abu ds).bind Kg).map λk=>match L3.lookup k with|some x=>.str x|none=>.none
 else if g="EXACT_TOKEN_TYPES" then(aiw ds).bind λp=>(P9 p.1).bind λk=>(Kg p.2).map λd=>.int ((L4.lookup k).getD d)
 else none
def IB(g:Str)(x:D):Option Bool:=
 if g="b1_set" then(Kg x).map λi=>mH.contains i
 else if g="EXACT_TOKEN_TYPES" then(P9 x).map λk=>(L4.lookup k).isSome
 else none
def UX(n:Str):Option D:=match floats.lookup n with
 |some x=>some (.aN x)
 |none=>(glL.lookup n).map .int
def NG(prim:Str->Option (List D->Option D)):yT where
 fns f:=(jE.find? (λd=>d.name==f)).map λd=>(d.params.args.map (·.arg),d.body,d.scope)
 W:=Wof
 prim:=prim
 gl:=UX
 get:=IA
 mem:=IB
theorem rM(h:Kg d=some i):d=.int i:=by
 cases d<;>first|exact no h|exact congrArg D.int (af h)
theorem yV(h:P9 d=some i):d=.str i:=by
 cases d<;>first|exact no h|exact congrArg D.str (af h)
theorem BE(h:abu ds=some d):ds=[d]:=by
 cases ds with
 |nil=>exact no h
 |cons e r=>
  obtain⟨h1,h2⟩:=bx h;rw[lY.mp h1,h2]
theorem Ms(h:aiw ds=some p):ds=[p.1,p.2]:=by
 cases ds with
 |nil=>exact no h
 |cons e r=>
  obtain⟨d,h1,rfl⟩:=dC h;rw[BE h1]
theorem wG{K V:Type}[BEq K][LawfulBEq K][DecidableEq K](k:K)(L:List (K×V)):((L.find? λx=>decide (x.1=k)).map λx=>some x.2)=(L.lookup k).map some:=by
 induction L with
 |nil=>rfl
 |cons x L ih=>
  rw[He,ez];by_cases h:x.1=k
  ·rw[decide_eq_true h,h,beq_self_eq_true];rfl
  ·rw[decide_eq_false h,beq_eq_false_iff_ne.mpr (gi h)];exact ih
theorem Qa(jA:List (Int×Value))(h:jA.map (λkv=>(kv.1,vStr kv.2))=L3.map (λx=>(x.1,some x.2)))(k:Int):(valueAt jA k).map vStr=(L3.lookup k).map some:=(FL vStr L3 jA h k).trans (wG k L3)
theorem FT(jA:List (Str×Value))(h:jA.map (λkv=>(kv.1,vInt kv.2))=L4.map (λx=>(x.1,some x.2)))(k:Str):(valueAt jA k).map vInt=(L4.lookup k).map some:=(FL vInt L4 jA h k).trans (wG k L4)
theorem aix(x:pz mg mb w h)(e:((jE.find? (λd=>d.name==f)).map λd=>(d.params.args.map (·.arg),d.body,d.scope))=some (ps,body,sc)):
 ∃a o fd,Gv h f (.ref a)/\h.get? a=some o/\o.data=.func fd/\h.CodeRec fd.code fd.qualname/\P5 fd ps body sc.names:=by
 obtain⟨d,hd,e⟩:=dC e;simp only[pL]at e;obtain⟨rfl,rfl,rfl⟩:=e;have hm:=dY hd;have hn:d.name=f:=by simpa using Hc hd
 obtain⟨a,o,pm,code,doc,h1,h2,h3,h4⟩:=x.fn d hm;have k:=rL (aw.mp xA d hm);exact⟨a,o,_,⟨mg,x.g,hn▸h1⟩,h2,h3,h4,⟨rfl,rfl,k.k6,k.k7,k.k8,rfl,rfl,rfl,λvs hl=>j2 (fd:=cJ d.name d.params d.body d.scope pm code doc) k.k1 k.k2 k.k3 k.k4 rfl k.k5 hl,k.k5,k.k9,k.UW⟩⟩
section
variable{w:World}{h:Heap}{mg mb:Str->Option Value}{La:Heap->Prop}
theorem aiy(x:pz mg mb w h)(e:UX n=some d):∃v,Gv h n v/\∀F:Addr->Prop,bU h F d v:=by
 unfold UX at e;cases hf:floats.lookup n with
 |some b=>
  rw[hf]at e;cases x.yp with
  |mk Sv g' fl _ _ _=>
  obtain⟨t,ht,ht0⟩:=fl (n,b) (mem_of_lookup hf);rw[<-af e];exact⟨_,⟨Sv,g',ht⟩,λF=>Cj ht0⟩
 |none=>
  rw[hf]at e;obtain⟨i,hi,rfl⟩:=dC e;obtain⟨v,hv,hr⟩:=x.const n _ (List.map_inj_left.mp abt (n,i) (mem_of_lookup hi));cases hr h;exact⟨_,⟨mg,x.g,hv⟩,λF=>fx⟩
theorem FV{K:Type}[DecidableEq K]{knd:KeyKind pw w K}{a:Addr}{jA:List (K×Value)}(t:h.DictOf knd a jA):∃o,h.get? a=some o/\o.cls=.type "dict"/\o.dict=none:=by
 obtain⟨o,es,ep,ho,hx,r⟩:=t;exact⟨o,ho,hx.1,hx.2.1⟩
theorem Qb(t3:s.heap.DictOf (intKind pw w) a jA)(s3:a≠sysModules)(l3:jA.map (λkv=>(kv.1,vStr kv.2))=L3.map (λx=>(x.1,some x.2)))(rs:aZ s.heap F [.int k] vs):
 wpAny (model pw w) A (call (.builtin "dict.get") (.ref a::vs)) (gU F s (match L3.lookup k with|some x=>.str x|none=>.none)) E s:=by
 obtain⟨v,rfl,r1⟩:=Pe rs;obtain⟨t,rfl⟩:=r1.int;refine call_meetsIn rR t3.typeIs NA (PySem.F.args_dict_get_2 _ _) (meets_dict_get (intKind pw w) (k:=k) a (isInt_self k t) (beq_eq_false_iff_ne.mpr s3)) ⟨_,t3.mapOf,Keeps.Uc _,?_⟩;have hv:=Qa jA l3 k;cases hl:L3.lookup k with
 |none=>
  rw[hl]at hv;rw[rq.mp hv];exact EH
 |some y=>
  rw[hl]at hv;obtain⟨u,hu,hy⟩:=dC hv;rw[hu];exact BD hy
theorem Qc(t4:s.heap.DictOf (strKind pw w) a jA)(s4:a≠sysModules)(l4:jA.map (λkv=>(kv.1,vInt kv.2))=L4.map (λx=>(x.1,some x.2)))(rs:aZ s.heap F [.str k,.int i] vs):
 wpAny (model pw w) A (call (.builtin "dict.get") (.ref a::vs)) (gU F s (.int ((L4.lookup k).getD i))) E s:=by
 obtain⟨v,_,rfl,r1,r⟩:=rs.eM;obtain⟨u,rfl,r2⟩:=Pe r;obtain⟨t,rfl⟩:=r1.str;obtain⟨t2,rfl⟩:=r2.int;refine call_meetsIn rR t4.typeIs NA (PySem.F.args_dict_get_3 _ _ _) (meets_dict_get_default (strKind pw w) (k:=k) a (show(strKind pw w).is k (.str k t)=true from rK k t) (beq_eq_false_iff_ne.mpr s4) _) ⟨_,t4.mapOf,Keeps.Uc _,?_⟩;have hv:=FT jA l4 k;cases hl:L4.lookup k with
 |none=>
  rw[hl]at hv;rw[rq.mp hv];exact fx
 |some y=>
  rw[hl]at hv;obtain⟨u,hu,hy⟩:=dC hv;rw[hu];exact ud hy
def aiz(w:World)(La:Heap->Prop)(h:Heap)(g:Str)(ds:List D)(d:D):Prop:=∃a o,Gv h g (.ref a)/\h.get? a=some o/\o.cls=.type "dict"/\o.dict=none/\
    ∀(A:aC)(E:Value->ah->Prop) F s vs,dq A La s->iQ F s.heap->bT h s.heap->aZ s.heap F ds vs->wpAny (model pw w) A (call (.builtin "dict.get") (.ref a::vs)) (gU F s d) E s
theorem abv(x:pz mg mb w h){g:Str}{ds:List D}{d:D}(e:IA g ds=some d):aiz w La h g ds d:=by
 unfold IA at e;cases x.yp with
 |mk Sv g' _ _ d3 d4=>
 by_cases hg:g="b3_exceptions"
 ·rw[if_pos hg]at e
  obtain⟨k,hk,rfl⟩:=dC e;obtain⟨y,h1,h2⟩:=aO hk;obtain⟨a,m,s3,jA,t,l⟩:=d3;obtain⟨o,ho,hc,hd⟩:=FV t;rw[BE h1,rM h2];exact⟨a,o,⟨Sv,g',hg▸m⟩,ho,hc,hd,λA E F s vs _ _ kk rs=>Qb (dict_keeps kk t) s3 l rs⟩
 ·rw[if_neg hg]at e
  obtain⟨hg,e⟩:=dy e;obtain⟨p,h1,e⟩:=aO e;obtain⟨k,h2,e⟩:=aO e;obtain⟨i,h3,rfl⟩:=dC e;obtain⟨a,m,s4,jA,t,l⟩:=d4;obtain⟨o,ho,hc,hd⟩:=FV t;rw[Ms h1,yV h2,rM h3];exact⟨a,o,⟨Sv,g',hg▸m⟩,ho,hc,hd,λA E F s vs _ _ kk rs=>Qc (dict_keeps kk t) s4 l rs⟩
def aiA(w:World)(La:Heap->Prop)(h:Heap)(g:Str)(y:D)(b:Bool):Prop:=∃a,Gv h g (.ref a)/\
    ∀(A:aC)(E:Value->ah->Prop) F s v,dq A La s->bT h s.heap->bU s.heap F y v->wpAny (model pw w) A (compareOp .In v (.ref a)) (λr s'=>r=.bool b/\Keeps s s') E s
theorem abw(x:pz mg mb w h)(e:IB g y=some b):aiA w La h g y b:=by
 unfold IB at e;cases x.yp with
 |mk Sv g' _ st _ d4=>
 by_cases hg:g="b1_set"
 ·rw[if_pos hg]at e
  obtain⟨i,hk,rfl⟩:=dC e;obtain⟨a,m,o,es,ep,t,ho,r⟩:=st;rw[rM hk];refine⟨a,⟨Sv,g',hg▸m⟩,λA E F s v am kk r0=>?_⟩;obtain⟨t',rfl⟩:=r0.int;exact wpAny_inSet_of (knd:=intKind pw w) (k:=i) (isInt_self i t') rfl ⟨o,es,ep,t,kk _ _ ho,r⟩ ⟨rfl,Keeps.Uc _⟩
 ·rw[if_neg hg]at e
  obtain⟨hg,e⟩:=dy e;obtain⟨k,hk,rfl⟩:=dC e;obtain⟨a,m,s4,jA,t4,l4⟩:=d4;rw[yV hk];refine⟨a,⟨Sv,g',hg▸m⟩,λA E F s v am kk r0=>?_⟩;obtain⟨t',rfl⟩:=r0.str;have hb:=congrArg pP (FT jA l4 k);rw[adY,adY]at hb;exact wpAny_in_of (knd:=strKind pw w) (k:=k) (rK k t') (beq_eq_false_iff_ne.mpr s4) (dict_keeps kk t4).mapOf ⟨hb▸rfl,Keeps.Uc _⟩
end
theorem UY(w:World)(La:Heap->Prop)(prim:Str->Option (List D->Option D))(NH:∀h,La h->∃mg mb,pz mg mb w h)
(aiB:∀h f p ds d,La h->prim f=some p->p ds=some d->∃a o fd,Gv h f (.ref a)/\h.get? a=some o/\o.data=.func fd/\
 ∀(A:aC)(E:Value->ah->Prop) F s vs,Bu k A->dq A La s->iQ F s.heap->bT h s.heap->aZ s.heap F ds vs->wpAny (model pw w) A (call (.ref a) vs) (gU F s d) E s):FE pw w La (NG prim) k where
 gl:=λh n d la e=>by
  obtain⟨mg,mb,x⟩:=NH h la;exact aiy x e
 bi:=λh b la=>by
  obtain⟨mg,mb,x⟩:=NH h la;cases b<;>exact x.bv (nA (by rfl')) (by decide) (by rfl')
 So:=λh la=>by
  obtain⟨mg,mb,x⟩:=NH h la;exact x.bv (nA (by rfl')) (by decide) (by rfl')
 rev:=λh la=>by
  obtain⟨mg,mb,x⟩:=NH h la;exact x.bv (nA (by rfl')) (by decide) (by rfl')
 ty:=λh n la hn=>by
  obtain⟨mg,mb,x⟩:=NH h la;rcases hn with rfl|rfl
  ·exact x.bv (nA (by rfl')) (by decide) (by rfl')
  ·exact x.bv (nA (by rfl')) (by decide) (by rfl')
 fn:=λh f ps body sc la _ e=>by
  obtain⟨mg,mb,x⟩:=NH h la;exact aix x e
 prim:=λh f p ds d la=>aiB h f p ds d la
 get:=λh g ds d la e=>by
  obtain⟨mg,mb,x⟩:=NH h la;exact abv x e
 mem:=λh g y b la e=>by
  obtain⟨mg,mb,x⟩:=NH h la;exact abw x e
end
section
section
variable{prog:bb}{w:World}{A:aC}{E:Value->ah->Prop}{F:Addr->Prop}{s:ah}{La:Heap->Prop}
structure Qd(fd:jI)(fk:List Str)(body:List Stmt)(ks:bW)(cl:List (Str×Addr)):Prop where
 bdy:fd.body=.stmts body
 FC:fd.scope.names=ks
 kind:fd.scope.kind=.function
 gen:fd.scope.isGenerator=false
 co:fd.scope.isCoroutine=false
 clo:fd.closure=cl
 gl:fd.globals=mainGlobals
 bi:fd.builtins=builtinsNs
 bind:∀vs:List Value,vs.length=fk.length->bindArgs fd ⟨vs,[]⟩=pure (fk.zip vs)
 nd:fk.Nodup
 loc:∀p∈fk,ks.lookup p=some .local
 CR:∀x∈ks,x.2≠.cell
 fre:∀n c,cl.lookup n=some c->ks.lookup n=some .free
 inj:∀n n' c,cl.lookup n=some c->cl.lookup n'=some c->n=n'
theorem mv:∀(a b:cu),look (a++b) n=some d->look a n=some d\/look b n=some d:=by
 intro zx
 induction zx with
 |nil=>
  rintro b h;exact .inr h
 |cons zh a ih=>
  obtain⟨m,e⟩:=zh;rintro b h;rw[cz]at h;unfold look at h;by_cases hm:m=n
  ·rw[if_pos hm]at h
   left;dsimp only[look];rw[if_pos hm];exact h
  ·rw[if_neg hm]at h
   rcases ih b h with q|q
   ·left;dsimp only[look];rw[if_neg hm];exact q
   ·exact .inr q
theorem BH(fi:Qd fd fk body ks cl)
(sz:A.depth<recursionLimit)(ho:s.heap.get? a=some o)(yR:o.data=.func fd)(Aj:s.heap.CodeRec fd.code fd.qualname)(hl:ds.length=fk.length)
(am:dq A La s)(un:A.units+203<cLine)(lo:iQ F s.heap)(r:aZ s.heap F ds vs)
(hF:∀n c,cl.lookup n=some c->F c)
(hc:∀n d,look σc n=some d->ks.lookup n=some .free/\∃c v,cl.lookup n=some c/\s.heap.IsCell c (some v)/\bU s.heap F d v)
(h:∀env aU G oa,env.scope.names=ks->env.cells=cl->dq (A.deeper env) La aU->nV env F s->SI env F s (fk.zip ds++σc) [] aU G oa->(∀E':Value->ah->Prop,wpAny (model prog w) (A.deeper env) (execs body env) (λf s'=>Q (match f with|.ret v=>v|_=>.none) s') E' aU)):
 wpAny (model prog w) A (call (.ref a) vs) Q E s:=by
 have hvl:=r.length;refine GW ?_;have jY:∀n,(callEnv fd s.heap.objs.size a).kindOf n=ks.lookup n:=λn=>by
  show fd.scope.names.lookup n=_;rw[fi.FC]
 have hzl:(fk.zip vs).map (·.1)=fk:=List.map_fst_zip (by omega);refine codeAny_call_def (binds:=fk.zip vs) sz ho yR am.nl Aj fi.bdy (λM A' Q' E' hq=>by rw[fi.bind vs (by omega)];exact aL hq) (by rw[fi.FC];exact fi.CR) (λx hx=>by
  rw[fi.FC];exact fi.loc _ (gA hx).1) (λh₀ Cp hk=>?_) fi.co fi.gen fi.kind
 generalize ij:callEnv fd s.heap.objs.size a=env;have AF:env.locals=s.heap.objs.size:=by rw[<-ij];rfl
 have rI:env.scope=fd.scope:=by rw[<-ij];rfl
 have rJ:env.cells=cl:=by rw[<-ij,<-fi.clo];rfl
 have mr:∀n,env.kindOf n=ks.lookup n:=λn=>by unfold gR;rw[rI,fi.FC]
 have nw:∀b,s.heap.objs.size<=b->s.heap.get? b=none:=λb hb=>by
  cases e:s.heap.get? b with
  |none=>rfl
  |some o=>exact absurd (cT e) (pH.mpr hb)
 have old:∀b,F b->b≠env.locals:=λb q z=>by
  have:=lo b q;rw[z,AF,nw _ (b0 _)]at this;cases this
 let G:Addr->Prop:=λb=>F b\/b=env.locals;have hGn:∀b,G b->F b\/s.heap.get? b=none:=λb q=>q.imp id λz=>by rw[z,AF];exact nw _ (b0 _)
 have hGr:∀{d':D}{v:Value},bU s.heap F d' v->bU h₀ G d' v:=λr=>bU.kept (F:=F) (λb o _ e=>hk b o e) hGn _ _ r;have fr:nV env F s:=⟨nw _ (by rw[AF];exact b0 _),λn c how e=>by
  rw[rJ]at e;have q:=fi.fre n c e;rcases how with how|how<;>(rw[mr,q]at how;cases how),lo⟩
 have hnd:((fk.zip vs).reverse.map (·.1)).Nodup:=by
  rw[DN,hzl];unfold List.Nodup;rw[List.pairwise_reverse];exact List.Pairwise.imp gi fi.nd
 have x1:In env G (fk.zip ds++σc) h₀:=by
  refine⟨by rw[rI];exact fi.kind,by rw[<-ij];exact fi.gl,by rw[<-ij];exact fi.bi,λb q=>?_,.inr rfl,λn c e=>?_,λn n' c e e'=>?_,λn jQ=>?_,⟨_,by rw[AF];exact Cp,λn d' e=>⟨λjQ=>?_,λjQ=>?_⟩⟩⟩
  ·rcases q with q|q
   ·obtain⟨o',e⟩:=ay.mp (lo b q)
    rw[hk _ _ e];rfl
   ·obtain⟨o',_,_,e,_⟩:=Cp
    rw[q,AF,e];rfl
  ·rw[rJ]at e
   exact⟨.inl (hF n c e),old c (hF n c e)⟩
  ·rw[rJ]at e e'
   exact fi.inj n n' c e e'
  ·rw[mr]at jQ
   exact absurd rfl (fi.CR _ (mem_of_lookup jQ))
  ·rcases mv _ _ e with q|q
   ·obtain⟨v,e1,e2⟩:=sy r q
    refine⟨v,?_,hGr e2⟩;exact mem_lookup hnd (rr.mpr (mem_of_lookup e1))
   ·have:=(hc n d' q).1
    rw[mr,this]at jQ;cases jQ
  ·rcases mv _ _ e with q|q
   ·obtain⟨v,e1,_⟩:=sy r q
    have hm:=fi.loc _ (gA (mem_of_lookup e1)).1;rcases jQ with jQ|jQ<;>(rw[mr,hm]at jQ;cases jQ)
   ·obtain⟨_,c,v,e1,e2,e3⟩:=hc n d' q
    exact⟨c,v,by rw[rJ];exact e1,e2.keeps hk,hGr e3⟩
 have kp:Keeps s {s with heap:=h₀,toks:=s.toks+(fk.zip vs).length}:=⟨h₀,_,rfl,hk⟩
 have tk1:1<=s.toks+(fk.zip vs).length:=by have:=am.tk;omega
 have si:SI env F s (fk.zip ds++σc) [] {s with heap:=h₀,toks:=s.toks+(fk.zip vs).length} G (λ_=>0):=
  ⟨λb q=>.inl q,hGn,kp,tk1,x1.sub λn d' e=>by rw[fF]at e;simpa using e,λn hn=>(nomatch hn),λn hn=>(nomatch hn),λn n' hn=>(nomatch hn)⟩
 have AH:=am.keeps kp tk1;have am':dq (A.deeper env) La {s with heap:=h₀,toks:=s.toks+(fk.zip vs).length}:=⟨AH.hh,AH.nb,AH.nl,AH.gl,tk1,by rw[eL];omega,AH.la⟩
 exact ai (h env _ G _ (by rw[rI];exact fi.FC) rJ am' fr si _) (λf s' q=>q) λ_ _ e=>e
end
end
section
def stK:Stmt->List ae×List Stmt×List Stmt×qU×Pos:=stC ([],[],[],.Add,default) (λ_ _ _ _ p=>([],[],[],.Add,p)) (λe p=>([e.getD default],[],[],.Add,p)) (λts e p=>(e::ts,[],[],.Add,p)) (λt o e p=>([e,t],[],[],o,p)) (λx e a b p=>([e,x],a,b,.Add,p)) (λt a b p=>([t],a,b,.Add,p)) (λt a b p=>([t],a,b,.Add,p)) (λe p=>([e],[],[],.Add,p))
def bk(st:Stmt):ae:=(stK st).1.headD default
def dw(st:Stmt):ae:=bk st
def br(st:Stmt):List Stmt:=(stK st).2.1
def dG(st:Stmt):List Stmt:=(stK st).2.2.1
def bV(st:Stmt):Pos:=(stK st).2.2.2.2
def qf(st:Stmt):ae:=(PX (stK st).1.tail).getD default
def jF(st:Stmt):Pos:=((wC (qf st)).getD ("",default)).2
def ak(i:Nat)(b:List Stmt):Stmt:=b.getD i default
section
variable{V:Ev}{ks:bW}{W:List Str}{wf:Nat}{X:XD}{σ:cu}{own:List Str}{rest:List Stmt}
theorem qw(h:V.d ks (du own σ) e=some d)(hk:Aq ks n=true)(hs:mu ks n p e=false):
 cO (c9 V ks W wf X) (.Assign [.Name n p] e q::rest) σ own=cO (c9 V ks W wf X) rest (kK W n (d,j1 e&&mj d) (σ,own)).1 (kK W n (d,j1 e&&mj d) (σ,own)).2:=by
 show(Dw (AB V ks W n p e σ own) _)=_;unfold AB;rw[if_pos hk,hs,if_neg aF];unfold eV;rw[h];rfl
theorem Qe(h:V.b ks σ t=some c):
 cO (c9 V ks W wf X) (.If t a b q::rest) σ own=(if c=true then X a σ own else X b σ own).bind λr=>match r with
  |.nx σ' own'=>cO (c9 V ks W wf X) rest σ' own'
  |.rt d=>some (.rt d):=by
 show(Dw (Dw (V.b ks σ t) _) _)=_;rw[h];rfl
theorem UZ(h:V.d ks σ e=some d):cO (c9 V ks W wf X) (.Return (some e) q::rest) σ own=some (.rt d):=by
 show(Dw (Option.map _ (V.d ks σ e)) _)=_;rw[h];rfl
theorem xB:AE V ks W wf (n+1) b σ own=cO (c9 V ks W wf (AE V ks W wf n)) b σ own:=rfl
end
end
section
section
variable{prog:bb}{w:World}{A:aC}{E:Value->ah->Prop}{G F:Addr->Prop}{env:Env}{La:Heap->Prop}{Qf:aC->Prop}{V:Ev}{T:ec}{σ:cu}{s:ah}
theorem CT(b):∀(a:List Stmt),execs (a++b) env=(execs a env >>= λf=>match f with
 |.next=>execs b env
 |f=>pure f):=by
 intro zx
 induction zx with
 |nil=>
  exact rfl
 |cons st a ih=>
  rw[cz,execs_cons,execs_cons,bind_assoc];congr 1;funext f;cases f with
  |next=>exact ih
  |brk=>rfl
  |cont=>rfl
  |ret v=>rfl
theorem uf(h:wpAny (model prog w) A (execs a env) (λf s'=>match f with
 |.next=>wpAny (model prog w) A (execs b env) Q E s'
 |f=>Q f s') E s):wpAny (model prog w) A (execs (a++b) env) Q E s:=by
 rw[CT];exact ao (ai h (λf s' q=>by cases f<;>first|exact q|exact aL q) λ_ _ e=>e)
theorem BI(VO:c8 prog w La Qf V)(bu:Qf A)(am:dq A La s)(x:In env G σ s.heap)(hk:Cl env f)(hd1:(f==("__debug__":Str))=false)
(hd2:(f==("__classdict__":Str))=false)(hc:env.cells.lookup f=some c)(hv:s.heap.IsCell c (some (.ref fa)))(ho:s.heap.get? fa=some o)(abx:o.data=.func fd)(h1:tJ (V.d env.scope.names σ) args=some ds)
(k:∀s1 vs,Keeps s s1->1<=s1.toks->aZ s1.heap G ds vs->wpAny (model prog w) A (call (.ref fa) vs) Q E s1):wpAny (model prog w) A (eval (.Call (.Name f np) args [] pos) env) Q E s:=by
 have hp:=(j0 (env:=env) (pos:=pos) h1).1;show wpAny _ _ (do callWith pos (<-eval (.Name f np) env) [] (backTo pos (starEach args env)) []) _ _ _;refine ao ?_;have core:wpAny (model prog w) A (callWith pos (.ref fa) [] (backTo pos (starEach args env)) []) Q E s:=by
  refine kr (o:=o) (fd:=fd) (dT hp ?_);refine ai (bw am.tk (nq VO bu am x h1)) (λvs s1 q1=>?_) λ_ _ e=>e;obtain⟨t1,k1,r1⟩:=q1;exact⟨⟨Keeps.all k1 _ _ ho,abx⟩,k s1 vs k1 t1 r1⟩
 rcases hk with hk|hk
 ·exact i5 (pQ x.fn hk hc hv core) hd1
 ·exact i5 (Dt x.fn hk hc hv core hd2) hd1
end
def yW(n:Str):List Stmt->List Stmt
 |s::r=>match fdS s with
  |some x=>if x.1=n then x.2.2.1 else yW n r
  |none=>yW n r
 |[]=>[]
def dB:List Stmt:=yW "_digits2int" pw.main.body
def dI:Stmt:=ak 0 dB
def iB:List Stmt:=Cc dI
def iK:bW:=(nY dI).names
def exK:ae->List ae:=exC [] (λ_ es _=>es) (λl _ r _=>[l,r]) (λ_ x _=>[x]) (λt b e _=>[b,e,t]) (λ_ _ _ _=>[]) (λl _ _ _=>[l]) (λf args _ _=>f::args) (λ_ _ _=>[]) (λv i _=>[v,i]) (λ_ _=>[]) (λ_ _=>[]) (λ_ _ _=>[])
def Mt(i:Nat)(e:ae):ae:=(exK e).getD i default
def pA(e:ae):ae:=Mt 0 e
def IC(e:ae):ae:=Mt 1 e
def o8(i:Nat)(e:ae):ae:=Mt (i+1) e
def exT(e:ae):ae:=Mt 2 e
def iE:ae:=bk (ak 3 iB)
theorem Qg:iB=[.If (dw (ak 0 iB)) (br (ak 0 iB)) [] (bV (ak 0 iB)),.Assign [.Name "mid" (jF (ak 1 iB))] (bk (ak 1 iB)) (bV (ak 1 iB)),.Assign [.Name "shift" (jF (ak 2 iB))] (bk (ak 2 iB)) (bV (ak 2 iB))]++[.Return (some iE) (bV (ak 3 iB))]:=by rfl'
theorem aiD:iE=.BinOp (.BinOp (.Call (.Name "inner" (pA (pA (pA iE))).pos) [.Name "mid" (o8 0 (pA (pA iE))).pos,.Name "R" (o8 1 (pA (pA iE))).pos] [] (pA (pA iE)).pos) .LShift (.Name "shift" (IC (pA iE)).pos) (pA iE).pos) .Add
 (.Call (.Name "inner" (pA (IC iE)).pos) [.Name "L" (o8 0 (IC iE)).pos,.Name "mid" (o8 1 (IC iE)).pos] [] (IC iE).pos) iE.pos:=by rfl'
def ID(L R n:Int)(xs:List D):cu:=[("L",.int L),("R",.int R),("digits",.lst xs),("n",.int n)]
section
variable{T:ec}
abbrev V6(T:ec):Ev:=iU T (dS T 6)
theorem CU(L R n)(xs):(V6 T).b iK (ID L R n xs) (dw (ak 0 iB))=some (L+1==R):=by rfl'
theorem Mu:br (ak 0 iB)=[.Return (some (bk (ak 0 (br (ak 0 iB))))) (bV (ak 0 (br (ak 0 iB))))]:=by rfl'
theorem aiE(L R n)(xs):(V6 T).d iK (ID L R n xs) (bk (ak 0 (br (ak 0 iB))))=fY (.lst xs) L:=by rfl'
theorem aiF(L R n)(xs):(V6 T).d iK (ID L R n xs) (bk (ak 1 iB))=some (.int ((L+R).fdiv (2^(1:Int).toNat))):=by rfl'
def aiG(L R n m:Int)(xs:List D):cu:=[("L",.int L),("R",.int R),("digits",.lst xs),("n",.int n),("mid",.int m)]
theorem U0(L R n m)(xs):(V6 T).d iK (aiG L R n m xs) (bk (ak 2 iB))=aE .Mult (.int (m - L)) (.int n):=by rfl'
def j3(n:Nat):List Int->Int
 |[]=>0
 |x::r=>x+2^n*j3 n r
theorem Qh(n):∀(a b:List Int),j3 n (a++b)=j3 n a+2^(n*a.length)*j3 n b:=by
 intro zx
 induction zx with
 |nil=>
  rintro b;simp[j3]
 |cons x a ih=>
  rintro b;rw[cz];show x+2^n*j3 n (a++b)=(x+2^n*j3 n a)+2^(n*(x::a).length)*j3 n b;rw[ih b,bD,mT,Hf,Int.pow_add];rw[adZ,<-Int.mul_assoc,Int.add_assoc,Dx (2^(n*a.length)) (2^n)]
theorem IE(n):∀(a:List Int),(∀x∈a,0<=x/\x<2^n)->0<=j3 n a/\j3 n a<2^(n*a.length):=by
 intro zx
 induction zx with
 |nil=>
  rintro _;simp[j3]
 |cons x a ih=>
  rintro h;have ih:=ih λy hy=>h y (aD _ hy);have hx:=h x (aA ..);have hp:(0:Int)<2^n:=Int.pow_pos (by decide);dsimp only[j3];refine⟨Int.add_nonneg hx.1 (Int.mul_nonneg (Ds hp) ih.1),?_⟩;rw[bD,mT,Hf,Int.pow_add];have h1:j3 n a+1<=2^(n*a.length):=ih.2;have h2:2^n*(j3 n a+1)<=2^n*2^(n*a.length):=Int.mul_le_mul_of_nonneg_left h1 (Ds hp);rw[Dx (2^(n*a.length))];rw[adZ,Int.mul_one]at h2;omega
theorem Qi(h0:0<=x)(h:x<2^m)(hm:m<=990):sm x=true:=by
 unfold sm;have h1:x<2^1000:=Int.lt_of_lt_of_le h (by
  have:(2:Nat)^m<=2^1000:=bM (by decide) (by omega)
  exact_mod_cast this)
 have:(x.natAbs:Int)<2^1000:=by rw[Int.natAbs_of_nonneg h0];exact h1
 exact decide_eq_true (by exact_mod_cast this)
def Bq(k:Nat)(A:aC):Prop:=A.depth+k<=990/\A.units+3*k+203<cLine
theorem Bq.deeper(h:Bq (k+1) A)(env:Env):Bq k (A.deeper env):=⟨by
 have:=h.1;show A.depth+1+k<=990;omega,by
 have:=h.2;rw[eL];omega⟩
theorem Bq.dep(h:Bq k A):A.depth<recursionLimit:=bj (aq (dU _ k) h.1) (by decide)
theorem Bq.un(h:Bq k A):A.units+203<cLine:=bj (jf (dU _ (3*k)) 203) h.2
theorem Bq.un2(h:Bq k A):A.units+200<cLine:=bj (g9 (by decide) _) h.un
theorem Bq.le(h:Bq k A)(hj:j<=k):Bq j A:=⟨aq (g9 hj _) h.1,bj (jf (g9 (cY 3 hj) _) 203) h.2⟩
theorem aby(hn:n*c<=b)(h:1<=n):c<=b:=aq (tF c h) hn
theorem aiH(hn:n*c<=b)(h:1<=c):n<=b:=aq (SU n h) hn
theorem Kh(hm:m=(L+R)/2)(h1:L<R)(h:¬L+1=R):L<m/\m<R:=by subst hm;omega
theorem aiI(hm:m=a/2):m+m<=a/\a<m+m+2:=by subst hm;omega
theorem FW(hm:m=(L+R)/2)(hk:R - L<=2^(j+1)):m - L<=2^j/\R - m<=2^j:=by
 rw[W0,Nat.mul_two]at hk;obtain⟨h1,h2⟩:=aiI hm;generalize 2^j=p at*;have h3:=uG.mp hk;clear hm hk;exact⟨uG.mpr (by omega),uG.mpr (by omega)⟩
theorem aiJ{L R:Nat}(h:L+1=R):((L:Int)+1==(R:Int))=true:=by rw[beq_iff_eq,<-h];rfl
theorem aiK{L R:Nat}(h:¬L+1=R):((L:Int)+1==(R:Int))=false:=by
 rw[beq_eq_false_iff_ne];exactλq=>h (Int.ofNat_inj.mp (show((L+1:Nat):Int)=(R:Int)from q))
theorem smI{x:Nat}(h:x<=100000):sm (x:Int)=true:=OU (f9 (by decide) (bF x)) (f9 (gf.mpr h) (by decide))
structure kn(h:Heap)(F:Addr->Prop)(f:Addr)(xs:List Int)(n:Nat)(o:Obj)(fd:jI)(cl:List (Str×Addr))(cd ci cn:Addr):Prop where
 ho:h.get? f=some o
 hd:o.data=.func fd
 fi:Qd fd ["L","R"] iB iK cl
 rc:h.CodeRec fd.code fd.qualname
 ld:cl.lookup ("digits":Str)=some cd
 li:cl.lookup ("inner":Str)=some ci
 ln:cl.lookup ("n":Str)=some cn
 hF:∀m c,cl.lookup m=some c->F c
 vd:∃v,h.IsCell cd (some v)/\bU h F (.lst (xs.map .int)) v
 vi:h.IsCell ci (some (.ref f))
 vn:∃v,h.IsCell cn (some v)/\bU h F (.int n) v
theorem kn.keeps(I:kn h F f xs n o fd cl cd ci cn)(k:bT h h'):kn h' F f xs n o fd cl cd ci cn:=
 ⟨k _ _ I.ho,I.hd,I.fi,I.rc.keeps k,I.ld,I.li,I.ln,I.hF,by obtain⟨v,a,b⟩:=I.vd;exact⟨v,a.keeps k,b.keeps k⟩,I.vi.keeps k,by obtain⟨v,a,b⟩:=I.vn;exact⟨v,a.keeps k,b.keeps k⟩⟩
theorem kn.into(I:kn h F f xs n o fd cl cd ci cn)(hF:∀a,F a->G a)(x:In env G σ h)
(jn:env.scope.names=iK)(oe:env.cells=cl)(l1:look σ "digits"=some (.lst (xs.map .int)))(l2:look σ "n"=some (.int n)):kn h G f xs n o fd cl cd ci cn:=by
 obtain⟨m,hm,hv⟩:=x.va;have fr:∀(nm:Str),iK.lookup nm=some .free->Cl env nm:=λnm e=>.inr (by unfold gR;rw[jn];exact e);refine⟨I.ho,I.hd,I.fi,I.rc,I.ld,I.li,I.ln,λm c e=>hF c (I.hF m c e),?_,I.vi,?_⟩
 ·obtain⟨c,v,e1,e2,e3⟩:=(hv _ _ l1).2 (fr _ (by decide))
  rw[oe,I.ld]at e1;cases e1;exact⟨v,e2,e3⟩
 ·obtain⟨c,v,e1,e2,e3⟩:=(hv _ _ l2).2 (fr _ (by decide))
  rw[oe,I.ln]at e1;cases e1;exact⟨v,e2,e3⟩
theorem Qj{xs:List Int}{L:Nat}(h:L<xs.length)(hb:xs.length<2^60):fY (.lst (xs.map .int)) (L:Int)=some (.int (xs[L]'h)):=by
 rw[Cs (by omega)];unfold Sn seqIndex?;rw[aj];have e1:¬((L:Int)<0):=by omega
 simp only[e1,if_false];rw[if_pos (by simp;omega)];simp[h]
def FX(w:World)(La:Heap->Prop)(f:Addr)(xs:List Int)(n:Nat)(o:Obj)(fd:jI)(cl:List (Str×Addr))(cd ci cn:Addr)(k:Nat):Prop:=
 ∀(L R:Nat),L<R->R<=xs.length->R - L<=2^k->∀(A:aC)(E:Value->ah->Prop)(s:ah)(F:Addr->Prop)(vs:List Value),Bq (k+1) A->dq A La s->iQ F s.heap->
    kn s.heap F f xs n o fd cl cd ci cn->aZ s.heap F [.int L,.int R] vs->wpAny (model pw w) A (call (.ref f) vs) (gU F s (.int (j3 n ((xs.drop L).take (R - L))))) E s
theorem Qk(L R:Nat):((L:Int)+R).fdiv (2^(1:Int).toNat)=(((L+R)/2:Nat):Int):=by
 rw[bN _ (by decide)];have:(2:Int)^(1:Int).toNat=2:=by decide
 rw[this];omega
def Ql(L R n m t:Int)(xs:List D):cu:=[("L",.int L),("R",.int R),("digits",.lst xs),("n",.int n),("mid",.int m),("shift",.int t)]
def U1:List Stmt:=iB.take 3
theorem U2:U1=[.If (dw (ak 0 iB)) (br (ak 0 iB)) [] (bV (ak 0 iB)),.Assign [.Name "mid" (jF (ak 1 iB))] (bk (ak 1 iB)) (bV (ak 1 iB)),.Assign [.Name "shift" (jF (ak 2 iB))] (bk (ak 2 iB)) (bV (ak 2 iB))]:=by rfl'
theorem abz:iB=U1++[.Return (some iE) (bV (ak 3 iB))]:=by rfl'
theorem CV(ha:sm a=true)(hb:sm b=true):aE .Mult (.int a) (.int b)=some (.int (a*b)):=by
 show dA (if(sm a&&sm b)=true then some (D.int (a*b))else none) _=_;rw[ha,hb];rfl
theorem IF(ha:sm a=true)(h0:0<=n)(h1:n<=100000):aE .LShift (.int a) (.int n)=some (.int (a*2^n.toNat)):=by
 show(if sm a=true/\0<=n/\n<=100000 then some (D.int (a*2^n.toNat))else none)=_;rw[if_pos ⟨ha,h0,h1⟩]
section
variable{T:ec}
theorem U3(L R n m t)(xs)(p q):tJ ((V6 T).d iK (Ql L R n m t xs)) [.Name "mid" p,.Name "R" q]=some [.int m,.int R]:=by rfl'
theorem U4(L R n m t)(xs)(p q):tJ ((V6 T).d iK (Ql L R n m t xs)) [.Name "L" p,.Name "mid" q]=some [.int L,.int m]:=by rfl'
theorem apy(L R n m t)(xs)(p):(V6 T).d iK (Ql L R n m t xs) (.Name "shift" p)=some (.int t):=by rfl'
end
theorem FY(xs:List α)(L m R)(h1:L<=m)(h2:m<=R):(xs.drop L).take (R - L)=(xs.drop L).take (m - L)++(xs.drop m).take (R - m):=by
 rw[<-tG h2 h1,jx,List.take_add,K8,z6 h1]
theorem abA{m L n t:Nat}(h:L<=m)(hm:m<=100000)(hn:n<=100000)(ht:t=(m - L)*n):aE .Mult (.int ((m:Int) - L)) (.int n)=some (.int t):=by
 rw[<-Ae h,CV (smI (aq (tE ..) hm)) (smI hn),ht,nR]
theorem Mv{xs:List Int}{L R:Nat}(h:L+1=R)(hL:L<xs.length):(xs.drop L).take (R - L)=[xs[L]'hL]:=by
 subst h;rw[SV,gw hL];rfl
theorem Mw{α:Type}{xs:List α}{L m:Nat}(h:m<=xs.length):((xs.drop L).take (m - L)).length=m - L:=by
 rw[lX,jj];exact nT (Nat.sub_le_sub_right h L)
theorem yX{w:World}{La:Heap->Prop}{T:ec}(TO:dP pw w La (λ_=>True) T){f:Addr}{xs:List Int}{n:Nat}{o:Obj}{fd:jI}{cl:List (Str×Addr)}{cd ci cn:Addr}
(hn:n*xs.length<=900)(nU:1<=n)(hx:∀x∈xs,0<=x/\x<2^n)(L R:Nat)(h1:L<R)(h2:R<=xs.length)(A:aC)(E:Value->ah->Prop)(s:ah)(F:Addr->Prop)(vs:List Value)(k:Nat)(bq:Bq (k+1) A)(am:dq A La s)(lo:iQ F s.heap)
(I:kn s.heap F f xs n o fd cl cd ci cn)(rs:aZ s.heap F [.int L,.int R] vs)(ih:L+1=R\/∃j,k=j+1/\R - L<=2^k/\FX w La f xs n o fd cl cd ci cn j):
 wpAny (model pw w) A (call (.ref f) vs) (gU F s (.int (j3 n ((xs.drop L).take (R - L))))) E s:=by
 have hlen:=aby hn nU;have hn9:=aiH hn (aq (aq (asZ (de L)) h1) h2);have VO:c8 pw w La (λ_=>True) (V6 T):=gq TO 7;have XO:Ss pw w La (λ_=>True) iK (AE (V6 T) iK [] 10 3):=uc (W:=[]) (gq TO 6) TO iK 10 3;refine BH (σc:=[("digits",.lst (xs.map .int)),("n",.int n)]) I.fi bq.dep I.ho I.hd I.rc rfl am bq.un lo rs I.hF (λm d e=>?_) (λenv aU G oa jn oe iL fr si E'=>?_)
 ·unfold look at e
  split at e
  ·rename_i hm
   subst hm;cases e;obtain⟨v,a,b⟩:=I.vd;exact⟨by decide,cd,v,I.ld,a,b⟩
  ·unfold look at e
   split at e
   ·rename_i hm
    subst hm;cases e;obtain⟨v,a,b⟩:=I.vn;exact⟨by decide,cn,v,I.ln,a,b⟩
   ·unfold look at e;cases e
 have si:SI env F s (ID L R n (xs.map .int)) [] aU G oa:=si;have DC:dq (A.deeper env) La s:=⟨am.hh,am.nb,am.nl,am.gl,am.tk,(bq.deeper env).un2,am.la⟩
 refine gp λQ hQ=>?_;by_cases NI:L+1=R
 ·have hL:L<xs.length:=ck h1 h2
  have hX:AE (V6 T) iK [] 10 3 iB (ID L R n (xs.map .int)) []=some (.rt (.int (xs[L]'hL))):=by
   rw[Qg,xB];rw[cz,Qe (CU _ _ _ _),Mu,xB,UZ ((aiE _ _ _ _).trans (Qj hL (bj hlen (by decide))))];rw[aiJ NI];rfl
  refine ai (XO (A.deeper env) E' env F s _ [] aU G oa iB _ trivial DC fr si jn hX) (λg s' q=>?_) λ_ _ e=>e;obtain⟨v,rfl,q1,q2,q3⟩:=q;refine hQ _ _ ⟨q1,?_⟩;rw[Mv NI hL];show bU s'.heap F (.int (xs[L]+2^n*0)) v;rw[Int.mul_zero,Int.add_zero];exact q3
 ·obtain⟨j,rfl,hk,ct⟩:=ih.resolve_left NI
  obtain⟨m,hm⟩:∃m,m=(L+R)/2:=⟨_,rfl⟩;obtain⟨Ki,AI⟩:=Kh hm h1 NI;obtain⟨hk1,Pq⟩:=FW hm hk;have U5:m<=xs.length:=aq (cx AI) h2;obtain⟨t,ht⟩:∃t:Nat,t=(m - L)*n:=⟨_,rfl⟩;have ht9:t<=900:=by
   rw[ht,eS];exact aq (cY _ (aq (tE ..) U5)) hn
  have hX:AE (V6 T) iK [] 10 3 U1 (ID L R n (xs.map .int)) []=some (.nx (Ql L R n m t (xs.map .int)) []):=by
   rw[U2,xB,Qe (CU _ _ _ _)];rw[aiK NI];show cO (c9 (V6 T) iK [] 10 (AE (V6 T) iK [] 10 2)) _ (ID L R n (xs.map .int)) []=_;rw[qw (d:=.int m) ((aiF _ _ _ _).trans (by rw[Qk,<-hm])) (by rfl') (by rfl')];show cO (c9 (V6 T) iK [] 10 (AE (V6 T) iK [] 10 2)) _ (aiG L R n m (xs.map .int)) []=_;rw[qw (d:=.int t) ((U0 _ _ _ _ _).trans (abA (cx Ki) (aq U5 (aq hlen (by decide))) (aq hn9 (by decide)) ht)) (by rfl') (by rfl')];rfl
  rw[abz];refine uf (ai (XO (A.deeper env) E' env F s _ [] aU G oa U1 _ trivial DC fr si jn hX) (λg s2 q=>?_) λ_ _ e=>e);obtain⟨rfl,G2,oa2,ua⟩:=q;have x2:In env G2 (Ql L R n m t (xs.map .int)) s2.heap:=ua.ie;have I2:kn s2.heap G2 f xs n o fd cl cd ci cn:=(I.keeps (Keeps.all ua.kp)).into ua.hF x2 jn oe (by rfl') (by rfl');have p0:dq (A.deeper env) La s2:=DC.keeps ua.kp ua.tk;have o7:Cl env "inner":=.inr (by unfold gR;rw[jn];decide);have Qm:env.cells.lookup ("inner":Str)=some ci:=by rw[oe];exact I.li
  have hhi:=IE n ((xs.drop m).take (R - m)) λx h=>hx x (List.mem_of_mem_drop (YW h));have hhl:n*((xs.drop m).take (R - m)).length<=900:=by
   have:((xs.drop m).take (R - m)).length<=xs.length:=by rw[lX,jj];exact aq (asQ ..) (tE ..)
   exact aq (cY _ this) hn
  refine aS (g6 ?_);rw[aiD];refine AY (AY (BI VO trivial p0 x2 o7 (by decide) (by decide) Qm I2.vi I2.ho I2.hd (by rw[jn];exact U3 _ _ _ _ _ _ _ _) (λs3 vs3 k3 t3 r3=>?_)));refine ai (bw t3 (ct m R AI h2 Pq (A.deeper env) E' s3 G2 vs3 (bq.deeper env) (p0.keeps k3 t3) (x2.keeps (Keeps.all k3)).lo (I2.keeps (Keeps.all k3)) r3)) (λv1 s4 q4=>?_) λ_ _ e=>e;obtain⟨t4,k4,r4⟩:=q4;have J1:=Keeps.trans' k3 k4;have Kj:=p0.keeps J1 t4;have x4:=x2.keeps (Keeps.all J1);refine ai (bw t4 (VO.d (A.deeper env) E' env G2 _ s4 _ _ trivial Kj x4 (by rw[jn];exact apy _ _ _ _ _ _ _))) (λv5 s5 q5=>?_) λ_ _ e=>e;obtain⟨t5,k5,r5⟩:=q5;refine ai (bw t5 (pU t5 (x4.keeps (Keeps.all k5)).lo (r4.keeps (Keeps.all k5)) r5 (IF (Qi hhi.1 hhi.2 (aq hhl (by decide))) (bF t) (gf.mpr (aq ht9 (by decide)))))) (λv6 s6 q6=>?_) λ_ _ e=>e;obtain⟨t6,k6,r6⟩:=q6;have k26:=Keeps.trans' J1 (Keeps.trans' k5 k6);have am6:=p0.keeps k26 t6;have x6:=x2.keeps (Keeps.all k26);have I6:=I2.keeps (Keeps.all k26);refine BI VO trivial am6 x6 o7 (by decide) (by decide) Qm I6.vi I6.ho I6.hd (by rw[jn];exact U4 _ _ _ _ _ _ _ _) (λs7 vs7 k7 t7 r7=>?_);refine ai (bw t7 (ct L m Ki U5 hk1 (A.deeper env) E' s7 G2 vs7 (bq.deeper env) (am6.keeps k7 t7) (x6.keeps (Keeps.all k7)).lo (I6.keeps (Keeps.all k7)) r7)) (λv8 s8 q8=>?_) λ_ _ e=>e;obtain⟨t8,k8,r8⟩:=q8;have k68:=Keeps.trans' k7 k8;refine ai (pU (op:=.Add) (d:=.int (j3 n ((xs.drop m).take (R - m))*2^(t:Int).toNat+j3 n ((xs.drop L).take (m - L)))) t8 (x6.keeps (Keeps.all k68)).lo (r6.keeps (Keeps.all k68)) r8 rfl) (λv9 s9 q9=>?_) λ_ _ e=>e;refine hQ _ _ ⟨Keeps.trans' (Keeps.trans' ua.kp k26) (Keeps.trans' k68 q9.1),?_⟩;have e1:j3 n ((xs.drop L).take (R - L))=j3 n ((xs.drop m).take (R - m))*2^(t:Int).toNat+j3 n ((xs.drop L).take (m - L)):=by
   rw[FY xs L m R (cx Ki) (cx AI),Qh,Mw U5,show(t:Int).toNat=n*(m - L)by rw[aR,ht,eS],Dx,WV]
  rw[e1];exact q9.2
theorem yY(TO:dP pw w La (λ_=>True) T)
(hn:n*xs.length<=900)(nU:1<=n)(hx:∀x∈xs,0<=x/\x<2^n):∀k,FX w La f xs n o fd cl cd ci cn k:=by
 intro zx
 induction zx with
 |zero=>
  exactλL R h1 h2 h3 A E s F vs bq am lo I rs=>yX TO hn nU hx L R h1 h2 A E s F vs 0 bq am lo I rs (.inl (by simp at h3;omega))
 |succ k ih=>
  exactλL R h1 h2 h3 A E s F vs bq am lo I rs=>yX TO hn nU hx L R h1 h2 A E s F vs (k+1) bq am lo I rs (.inr ⟨k,rfl,h3,ih⟩)
end
end
section
def bG(P:Addr)(h h':Heap):Prop:=∀b o,h.get? b=some o->b≠P->h'.get? b=some o
inductive TabAt(h:Heap)(P:Addr):Prop
 |mk (ps:Array Value) (h1:h.get? P=some (tabObj ps)) (h2:aeP ps.toList)
theorem TabAt.X2(t:TabAt h P)(x:h.Ns a m):a≠P:=λe=>by
 obtain⟨ps,h1,_⟩:=t;obtain⟨o,es,ep,h2,h3,_⟩:=x;rw[e,h1]at h2;cases h2;cases h3
theorem Ns.but(t:TabAt h P)(k:bG P h h')(x:h.Ns a m):h'.Ns a m:=
 x.at' λo e=>k a o e (t.X2 x)
theorem FZ(h:aeP l)(e:l[1]? =some (.str q tk)):False:=by
 cases l with
 |nil=>cases e
 |cons x l=>
  cases l with
  |nil=>cases e
  |cons y l=>
   have e:y=.str q tk:=af e;rw[e]at h;cases x<;>exact h
theorem rN(t:TabAt h P)(x:h.CodeRec (.ref c) q):c≠P:=λz=>by
 obtain⟨c0,o,vs,tk,e,g,d,v⟩:=x;obtain⟨ps,h1,h2⟩:=t;rw[<-lb e,z,h1]at g;rw[<-af g]at d;rw[<-zW d]at v;exact FZ h2 ((tC ..).trans v)
theorem CodeRec.but(t:TabAt h P)(k:bG P h h')(x:h.CodeRec cd q):h'.CodeRec cd q:=by
 obtain⟨c,o,vs,tk,rfl,g,d,v⟩:=x;exact⟨c,o,vs,tk,rfl,k c o g (rN t ⟨c,o,vs,tk,rfl,g,d,v⟩),d,v⟩
theorem dq.but(t:TabAt s.heap P)(k:bG P s.heap s'.heap)(am:dq A La s)(tk:1<=s'.toks)(NH:∀h h',La h->TabAt h P->bG P h h'->La h'):dq A La s':=by
 obtain⟨mc,n1,n2⟩:=am.nb;obtain⟨mc',l1,l2⟩:=am.nl;obtain⟨mg,g1⟩:=am.gl;exact⟨am.hh,⟨mc,Ns.but t k n1,n2⟩,⟨mc',Ns.but t k l1,l2⟩,⟨mg,Ns.but t k g1⟩,tk,am.un,λh kh=>NH s.heap h (am.la _ λ_ _ e=>e) t λb o e ne=>kh b o (k b o e ne)⟩
theorem TabAt.ne(t:TabAt h P)(k:bG P h h')(e:h.get? b=some o)(hd:∀vs,o.data≠.fields vs):h'.get? b=some o:=k b o e λz=>by
 obtain⟨ps,hP,_⟩:=t;rw[z,hP]at e;exact hd ps (af e▸rfl)
theorem F0{w:World}{h h':Heap}{P a:Addr}{K:Type}[DecidableEq K]{knd:KeyKind pw w K}{jA:List (K×Value)}(t:TabAt h P)(k:bG P h h')(x:h.DictOf knd a jA):h'.DictOf knd a jA:=by
 obtain⟨o,es,ep,ho,hx,hd,r⟩:=x;exact⟨o,es,ep,t.ne k ho (λvs e=>nomatch hd.symm.trans e),hx,hd,r⟩
theorem YP.but(t:TabAt h P)(k:bG P h h')(x:YP w h):YP w h':=by
 cases x with
 |mk mg g fl s d3 d4=>
 refine⟨mg,Ns.but t k g,fl,?_,?_,?_⟩
 ·obtain⟨a,a1,o,es,ep,tt,a2,a3,a4,a5⟩:=s
  exact⟨a,a1,o,es,ep,tt,t.ne k a2 (λvs e=>nomatch a4.symm.trans e),a3,a4,a5⟩
 ·obtain⟨b,b1,b2,jA,b3,b4⟩:=d3
  exact⟨b,b1,b2,jA,F0 t k b3,b4⟩
 ·obtain⟨b,b1,b2,jA,b3,b4⟩:=d4
  exact⟨b,b1,b2,jA,F0 t k b3,b4⟩
theorem pz.but(x:pz mg mb w h)(t:TabAt h P)(k:bG P h h'):pz mg mb w h':=by
 refine⟨Ns.but t k x.g,Ns.but t k x.b,λd hd=>?_,x.const,x.free,x.builtins,?_,x.yp.but t k⟩
 ·obtain⟨a,o,pm,code,doc,h1,h2,h3,h4⟩:=x.fn d hd
  exact⟨a,o,pm,code,doc,h1,t.ne k h2 (λvs e=>nomatch h3.symm.trans e),h3,CodeRec.but t k h4⟩
 ·obtain⟨bm,ob,h1,h2,h3,h4,h5,h6⟩:=x.bmain
  exact⟨bm,ob,h1,h2,t.ne k h3 (λvs e=>nomatch h6.symm.trans e),h4,h5,h6⟩
theorem pz.bat(x:pz mg mb w h)(t:TabAt h P):h.BuiltinsAt mg P:=by
 obtain⟨bm,ob,h1,h2,h3,h4,h5,h6⟩:=x.bmain;obtain⟨ps,hP,_⟩:=t;refine⟨bm,ob,h1,h2,λz=>?_,λz=>?_,h3,h4,h5,h6⟩
 ·obtain⟨o,es,ep,e,d,_⟩:=x.g
  rw[z,e]at h3;cases h3;rw[d]at h6;cases h6
 ·rw[z,hP]at h3
  cases h3;cases h6
theorem jo.but:∀h h',jo w h->TabAt h P->bG P h h'->jo w h':=λh h' ⟨mg,mb,x⟩ t k=>⟨mg,mb,x.but t k⟩
section
variable{prog:bb}{w:World}{A:aC}{E:Value->ah->Prop}{G F:Addr->Prop}{env:Env}{La:Heap->Prop}{az s:ah}{σ:cu}{own:List Str}{oa:Str->Addr}
theorem rg(h:∀n,(n,bJ)∈scope.names->(env.cells.lookup n).isSome=true):closureFor scope env=pure (gF env scope.names []):=by
 have:=JZ (env:=env) scope.names [] h;show(forIn scope.names [] _ >>= pure)=_;rw[bind_pure];exact this
inductive PlT(h:Heap)(P:Addr)(pos:Pos)(qual:Str):Prop
 |mk (ps:Array Value) (h1:h.get? P=some (tabObj ps)) (h2:aeP ps.toList) (h3:codeAmong pos ps.toList=none\/∃c',codeAmong pos ps.toList=some (.ref c')/\h.CodeRec (.ref c') qual)
inductive WmT(h:Heap)(P:Addr)(pos:Pos)(qual:Str):Prop
 |mk (ps:Array Value) (c':Addr) (h1:h.get? P=some (tabObj ps)) (h2:aeP ps.toList) (h3:codeAmong pos ps.toList=some (.ref c')) (h4:h.CodeRec (.ref c') qual)
structure Place(h:Heap)(c P:Addr)(pos:Pos)(qual:Str):Prop where
 hd:W2 h c P
 tab:PlT h P pos qual
theorem Place.tabAt(x:Place h c P pos qual):TabAt h P:=by obtain⟨ps,a,b,_⟩:=x.tab;exact⟨ps,a,b⟩
structure jG(h:Heap)(c P:Addr)(pos:Pos)(qual:Str):Prop where
 hd:W2 h c P
 tab:WmT h P pos qual
inductive NM(s:ah)(c P:Addr)(pos:Pos)(name qual:Str)(params:nN)(body:List Stmt)(scope:Scope)(cl:List (Str×Addr))(pm:Value)(v:Value)(s':ah):Prop
 |mk (fa c':Addr) (xC doc:Value) (hv:v=.ref fa) (hn:s.heap.get? fa=none) (kb:bG P s.heap s'.heap) (fm:∃h tk,s'={s with heap:=h,toks:=tk}) (wm:jG s'.heap c P pos qual) (rc:s'.heap.CodeRec (.ref c') qual)
  (fo:s'.heap.get? fa=some (fnMade name qual params body scope cl doc pm c' xC)) (ka:(∃ps c',s.heap.get? P=some (tabObj ps)/\codeAmong pos ps.toList=some (.ref c'))->bT s.heap s'.heap)
theorem aiL(x:W2 h c P):c≠P:=by
 obtain⟨_,_,_,_,_,_,_,_,_,_,r⟩:=x;obtain⟨_,_,_,_,_,_,_,_,r⟩:=r;exact r
theorem qx(x:W2 h c P)(k:∀o vs,h.get? c=some o->o.data=.fields vs->h'.get? c=some o):W2 h' c P:=by
 obtain⟨o,vs,file,tf,iV,tg,inF,text,tt,e,e2,d,r⟩:=x;exact⟨o,vs,file,tf,iV,tg,inF,text,tt,k o vs e d,e2,d,r⟩
theorem Mx(pl:Place s.heap c P pos qual)(hge:env.globals=mainGlobals)(hg:s.heap.Ns mainGlobals mg)(Kk:env.code=.ref c)(hb:s.heap.BuiltinsAt mg P)
(oe:∀n,(n,bJ)∈scope.names->(env.cells.lookup n).isSome=true):
 wpAny (model prog w) A (makeFunction name qual params (.stmts body) scope env [] [] [] pos ln) (NM s c P pos name qual params body scope (gF env scope.names []) ((mg "__name__").getD .none)) E s:=by
 obtain⟨ps,hP,ht,hh⟩:=pl.tab;have nw:∀b:Nat,s.heap.objs.size<=b->s.heap.get? b=none:=λb hb=>by
  cases e:s.heap.get? b with
  |none=>rfl
  |some o=>exact absurd (cT e) (pH.mpr hb)
 rcases hh with hnf|⟨c',hf,hrc⟩
 ·refine makeFunction_K (rg oe) hge hg Kk pl.hd hP ht hnf (pl.tabAt.X2 hg) hb (λc' xC doc h' tk hx hsz me aiM apE=>?_)
  have hk:bG P s.heap (h'.push (fnMade name qual params body scope (gF env scope.names []) doc ((mg "__name__").getD .none) c' xC)):=λb o e ne=>aV _ (hx b o ne e);refine⟨_,c',xC,doc,rfl,nw _ (cx (bj hsz me)),hk,⟨_,_,rfl⟩,⟨qx pl.hd λo _ e _=>hk c o e (aiL pl.hd),_,c',aV _ apE,?_,?_,aiM.push _⟩,aiM.push _,gY _ rfl,λ⟨ps',c2,e1,e2⟩=>?_⟩
  ·have:=TriplesOk_snoc pos.line pos.col (.ref c') ps.toList ht
   simpa using this
  ·have:=codeAmong_snoc (pos:=pos) (c:=.ref c') ps.toList ht hnf
   simpa using this
  ·rw[hP]at e1
   cases e1;exact no (hnf.symm.trans e2)
 ·refine makeFunction_hit (rg oe) hge hg Kk pl.hd hP ht hf hb (λxC doc h' tk hk hsz=>?_)
  have jQ:bT s.heap (h'.push {cls:=.type "function",data:=.func (fnX name qual params body scope (gF env scope.names []) .none .none doc ((mg "__name__").getD .none) none (.ref c') xC)}):=λb o e=>aV _ (hk b o e);exact⟨_,c',xC,doc,rfl,nw _ hsz,λb o e _=>jQ b o e,⟨_,_,rfl⟩,⟨pl.hd.keeps jQ,ps,c',jQ _ _ hP,ht,hf,hrc.keeps jQ⟩,hrc.keeps jQ,gY _ rfl,λ_=>jQ⟩
end
end
section
section
variable{w:World}{A:aC}{E:Value->ah->Prop}{G F:Addr->Prop}{env:Env}{az s:ah}{σ:cu}{oa:Str->Addr}
theorem F1(am:dq A (jo w) az)(fr:nV env F az)(si:SI env F az σ [] s G oa)(hF:F P)(pl:Place az.heap c P pos qual)
(Kk:env.code=.ref c)(hq:qualnameIn env nm nm=qual)(hd0:params.defaults=[])(hk0:params.kw_defaults=[])(ha:annTrees params none env=[])(E7:env.kindOf nm=some .cell)
(oe:∀n,(n,bJ)∈scope.names->(env.cells.lookup n).isSome=true)(X3:∀n,env.cells.lookup n≠some P)
(k:∀(sb s3:ah)(ci fa c':Addr)(xC doc pm:Value),SI env F sb (put nm .JR σ) [] s3 G oa->nV env F sb->dq A (jo w) sb->bG P az.heap sb.heap->((∃ps c',az.heap.get? P=some (tabObj ps)/\codeAmong pos ps.toList=some (.ref c'))->bT az.heap sb.heap)->
   (∃h tk,sb={az with heap:=h,toks:=tk})->jG s3.heap c P pos qual->env.cells.lookup nm=some ci->s3.heap.IsCell ci (some (.ref fa))->s3.heap.get? fa=some (fnMade nm qual params body scope (gF env scope.names []) doc pm c' xC)->s3.heap.CodeRec (.ref c') qual->
   (∀b o,s.heap.get? b=some o->b≠P->b≠env.locals->env.cells.lookup nm≠some b->s3.heap.get? b=some o)->wpAny (model pw w) A (execs rest env) Q E s3):
 wpAny (model pw w) A (execs (.FunctionDef nm params body [] none [] scope none nm pos::rest) env) Q E s:=by
 have kk:=Keeps.all si.kp;have pl1:Place s.heap c P pos qual:=⟨pl.hd.keeps kk,by obtain⟨ps,a,b,d⟩:=pl.tab;exact⟨ps,kk _ _ a,b,d.imp id λ⟨c',e,r⟩=>⟨c',e,r.keeps kk⟩⟩⟩
 obtain⟨mg,mb,la⟩:=am.la s.heap kk;have t1:=pl1.tabAt;refine aS (nestDef_K hd0 hk0 ha ?_);rw[hq];refine ai (bw si.tk (Mx pl1 si.ie.gl la.g Kk (la.bat t1) oe)) (λv s2 q=>?_) λ_ _ e=>e;obtain⟨PC,fa,c',xC,doc,rfl,hn,kb,fm,wm,rc,hfo,ka⟩:=q;obtain⟨h2,aiN,rfl⟩:=fm;have u:Upd (λa=>a=P) s {s with heap:=h2,toks:=aiN}:=⟨h2,aiN,rfl,λb o ne e=>kb b o e ne⟩
 obtain⟨ps2,c2,hP2,hT2,hA2,hR2⟩:=wm.tab;obtain⟨sb,sib,IG,kbb,kPb,tkb,fmb⟩:=si.sE fr hF X3 u PC (by rw[hP2];rfl);refine ai (SI.bind (d:=.JR) sib IG (.inr E7) (λq=>absurd rfl q)) (λ_ s3 q=>?_) λ_ _ e=>e;obtain⟨tk3,u3,tK,hv⟩:=q;obtain⟨ci,hlc,hvc⟩:=hv.2 E7;have kp3:∀b o,h2.get? b=some o->b≠env.locals->(env.cells.lookup nm≠some b)->s3.heap.get? b=some o:=λb o e n1 n2=>(u3.kept (G:=λa=>a=env.locals\/env.cells.lookup nm=some a) λ_ q=>q) b o (λq=>q.elim n1 n2) e;have xb:=sib.ie;obtain⟨ml,U6,_⟩:=xb.va;have aiO:∀{b:Addr}{o:Obj},h2.get? b=some o->(∀es ep,o.data≠.dict es ep)->b≠env.locals:=λ{b o} e hd z=>by
  obtain⟨o',es,ep,e',d',_⟩:=U6;rw[<-z]at e';have:some o=some o':=e.symm.trans e';cases this;exact hd es ep d'
 have aiP:∀{b:Addr}{o:Obj},h2.get? b=some o->(∀v,o.data≠.cell v)->env.cells.lookup nm≠some b:=λ{b o} e hd z=>by
  obtain⟨c0,v0,l0,o',e',d'⟩:=xb.ce nm E7;rw[z]at l0;cases l0;have:some o=some o':=e.symm.trans e';cases this;exact hd v0 d'
 have yZ:∀{b:Addr}{o:Obj}{vs:Array Value},h2.get? b=some o->o.data=.fields vs->s3.heap.get? b=some o:=λ{b o vs} e d=>kp3 b o e (aiO e λes ep q=>by rw[d]at q;cases q) (aiP e λv q=>by rw[d]at q;cases q);have rcK:∀{cd:Value}{q:Str},h2.CodeRec cd q->s3.heap.CodeRec cd q:=λ{cd q} x=>by obtain⟨c0,o,vs,t,e,g,d,r⟩:=x;exact⟨c0,o,vs,t,e,yZ g d,d,r⟩
 have tb:TabAt az.heap P:=pl.tabAt;have My:bG P az.heap sb.heap:=λb o e ne=>kbb b o e ne;refine k sb s3 ci fa c' xC doc _ tK IG (dq.but tb My am tkb jo.but) My (λhw b o e=>?_) fmb ?_ hlc hvc (kp3 fa _ hfo (aiO hfo λes ep q=>by cases q) (aiP hfo λv q=>by cases q)) (rcK rc) λb o e ne n1 n2=>kp3 b o (kb b o e ne) n1 n2
 ·obtain⟨ps,c3,e1,e2⟩:=hw
  by_cases hb:b=P
  ·subst hb
   exact kPb o (ka ⟨ps,c3,kk _ _ e1,e2⟩ b o (kk _ _ e))
  ·exact My b o e hb
 ·exact⟨qx wm.hd λ_ _ e d=>yZ e d,ps2,c2,yZ hP2 rfl,hT2,hA2,rcK hR2⟩
end
end
section
theorem y0{d:A0}{pm code doc:Value}(hm:d∈jE):P5 (cJ d.name d.params d.body d.scope pm code doc) (d.params.args.map (·.arg)) d.body d.scope.names:=by
 have ok:=aw.mp xA d hm;unfold Iz at ok;simp only[av,lY,cX,decide_eq_true_eq,beq_iff_eq,cQ]at ok;obtain⟨k1,k2,k3,k4,k5,k6,k7,k8,k9,UW⟩:=ok;exact⟨rfl,rfl,k6,k7,k8,rfl,rfl,rfl,λvs hl=>j2 (fd:=cJ d.name d.params d.body d.scope pm code doc) k1 k2 k3 k4 rfl k5 hl,k5,k9,UW⟩
def NJ:ec:=⟨λ_ _=>none,UX,IA,IB⟩
theorem oq(w):dP pw w (jo w) (λ_=>True) NJ:=by
 have L:=UY (k:=50) w (jo w) (λ_=>none) (λ_ x=>x) (λh f p ds d _ e=>by cases e);exact⟨L.gl,L.bi,L.So,L.rev,L.ty,λ_ _ _ _ _ h=>(nomatch h),λh g ds d la e=>by
  obtain⟨a,o,q1,q2,q3,q4,q5⟩:=L.get h g ds d la e;exact⟨a,o,q1,q2,q3,q4,λA E F s vs _=>q5 A E F s vs⟩,λh g x b la e=>by
  obtain⟨a,q1,q2⟩:=L.mem h g x b la e;exact⟨a,q1,λA E F s v _=>q2 A E F s v⟩⟩
def jH:A0:=(jE.find? (λd=>d.name==("_digits2int":Str))).getD ⟨("":Str),default,[],default,default⟩
theorem F2:jH∈jE:=by
 have:(jE.find? (λd=>d.name==("_digits2int":Str))).isSome=true:=by rfl'
 obtain⟨d,hd⟩:=ay.mp this;have e:jH=d:=by unfold jH;rw[hd];rfl
 rw[e];exact dY hd
theorem Mz:jH.params.args.map (·.arg)=(["digits","n"]:List Str):=by rfl'
theorem ug:jH.name=("_digits2int":Str):=by rfl'
def dK:bW:=jH.scope.names
def DD:nN:=xR dI
def z9:Scope:=nY dI
def dE:ae:=bk (ak 1 dB)
theorem Qn:jH.body=[.FunctionDef "inner" DD iB [] none [] z9 none "inner" (bV dI),.Return (some dE) (bV (ak 1 dB))]:=by rfl'
theorem aiQ:dE=.IfExp (exT dE) (.Call (.Name "inner" (pA (pA dE)).pos) [o8 0 (pA dE),o8 1 (pA dE)] [] (pA dE).pos) (IC dE) dE.pos:=by rfl'
def dQ:Str:=(("_digits2int":Str)++(".<locals>.":Str))++("inner":Str)
theorem Qo:(z9.names.all λx=>x.2 != .free||dK.lookup x.1==some .cell)=true:=by rfl'
def Qp(xs:List D)(n:Int):cu:=[("digits",.lst xs),("n",.int n),("inner",.JR)]
section
variable{T:ec}
theorem Qq(xs)(n):(V6 T).b dK (Qp xs n) (exT dE)=m9 (.lst xs):=by rfl'
theorem abB(xs)(n):(V6 T).d dK (Qp xs n) (IC dE)=some (.int 0):=by rfl'
theorem apK(xs)(n):(V6 T).d dK (Qp xs n) (o8 0 (pA dE))=some (.int 0):=by rfl'
theorem apL(xs)(n):(V6 T).d dK (Qp xs n) (o8 1 (pA dE))=cH .len [.lst xs]:=by rfl'
theorem apM(ha:f a=some x)(hb:f b=some y)(na:gm a=true)(nb:gm b=true):tJ f [a,b]=some [x,y]:=by
 unfold tJ;rw[if_pos na,ha];unfold tJ;rw[if_pos nb,hb];rfl
end
theorem ot:z9.names=iK/\z9.kind=.function/\z9.isGenerator=false/\z9.isCoroutine=false:=⟨rfl,by rfl',by rfl',by rfl'⟩
theorem iA:DD.posonlyargs=[]/\DD.kwonlyargs=[]/\DD.vararg=none/\DD.kwarg=none/\DD.args.map (·.arg)=(["L","R"]:List Str)/\DD.defaults=[]/\DD.kw_defaults=[]:=⟨by rfl',by rfl',by rfl',by rfl',by rfl',by rfl',by rfl'⟩
theorem aiR(env):annTrees DD none env=[]:=by rfl'
theorem abC:∀x∈iK,x.2≠.cell:=by
 have h:(iK.all λx=>x.2 != .cell)=true:=by rfl'
 intro x hx;have:=aw.mp h x hx;simpa using this
theorem U7(env):gF env iK []=([("n",(env.cells.lookup ("n":Str)).getD 0),("inner",(env.cells.lookup ("inner":Str)).getD 0),("digits",(env.cells.lookup ("digits":Str)).getD 0)]:List (Str×Addr)):=by rfl'
theorem abD(e:([("n",l1),("inner",l2),("digits",l3)]:List (Str×Addr)).lookup n=some c):(n=("n":Str)/\c=l1)\/(n=("inner":Str)/\c=l2)\/(n=("digits":Str)/\c=l3):=by
 have:=mem_of_lookup e;simp only[aJ,dm,or_false,pL]at this;exact this
structure DP(P c:Addr)(pos:Pos)(q:Str)(F:Addr->Prop)(s:ah)(d:D)(v:Value)(s':ah):Prop where
 fm:∃h tk,s'={s with heap:=h,toks:=tk}
 kb:bG P s.heap s'.heap
 ka:(∃ps c',s.heap.get? P=some (tabObj ps)/\codeAmong pos ps.toList=some (.ref c'))->bT s.heap s'.heap
 wm:jG s'.heap c P pos q
 r:bU s'.heap F d v
theorem F3{w:World}{A:aC}{E:Value->ah->Prop}{F:Addr->Prop}{s:ah}{a c P:Addr}{o:Obj}{pm doc:Value}{xs:List Int}{n:Nat}{vs:List Value}(ho:s.heap.get? a=some o)(hd:o.data=.func (cJ jH.name jH.params jH.body jH.scope pm (.ref c) doc))
(rc:s.heap.CodeRec (.ref c) jH.name)(pl:Place s.heap c P (bV dI) dQ)(hF:F P)(bq:Bq 45 A)(am:dq A (jo w) s)(lo:iQ F s.heap)(rs:aZ s.heap F [.lst (xs.map .int),.int n] vs)
(hn:n*xs.length<=900)(nU:1<=n)(hx:∀x∈xs,0<=x/\x<2^n):
 wpAny (model pw w) A (call (.ref a) vs) (DP P c (bV dI) dQ F s (.int (j3 n xs))) E s:=by
 have fi:=y0 (d:=jH) (pm:=pm) (code:=.ref c) (doc:=doc) F2;rw[Mz,Qn]at fi;have hlen:xs.length<=900:=by
  have:1*xs.length<=n*xs.length:=ad0 _ nU;omega
 refine sA (fk:=(["digits","n"]:List Str)) fi (by have:=bq.1;show A.depth<1000;omega) ho hd rc rfl am (by have:=bq.2;omega) lo rs (λenv aU G oa jn ij iL fr si E'=>?_);have si:SI env F s [("digits",.lst (xs.map .int)),("n",.int n)] [] aU G oa:=si;have hk:∀m,env.kindOf m=dK.lookup m:=λm=>by unfold gR;rw[jn];rfl
 have Qr:env.code=.ref c:=by rw[ij];rfl
 have pY:∀m,dK.lookup m=some .cell->∃c v,env.cells.lookup m=some c/\aU.heap.IsCell c v:=λm e=>si.ie.ce m (by rw[hk];exact e);have X3:∀m,env.cells.lookup m≠some P:=λm e=>by
  have hm:(m,P)∈cellsFrom (s.heap.objs.size+1) jH.scope.names []:=by
   have:=mem_of_lookup e;rw[ij]at this;exact this
  have AI:=gS _ _ _ _ _ hm;simp only[dm,false_or]at AI;have:=fr.hc m P (.inr (by rw[hk];exact mem_lookup fi.kd AI)) e;obtain⟨ps,h1,_⟩:=pl.tab;rw[h1]at this;cases this
 have o7:∀m,(m,bJ)∈z9.names->dK.lookup m=some .cell:=λm hm=>by
  have:=aw.mp Qo _ hm;simpa using this
 refine F1 (qual:=dQ) iL fr si hF pl Qr (by rw[ij];rfl') iA.2.2.2.2.2.1 iA.2.2.2.2.2.2 (aiR env) (by rw[hk];decide) (λm hm=>?_) X3 (λsb s3 ci fa c' xC xf NK NL Mfr Mam Mkb Mka Mfm Mwm Mlc Mvc Mfo Mrc Mkq=>?_)
 ·obtain⟨c0,_,e,_⟩:=pY m (o7 m hm)
  rw[e];rfl
 have VO:c8 pw w (jo w) (λ_=>True) (V6 NJ):=gq (oq w) 7;have x3:In env G (Qp (xs.map .int) n) s3.heap:=NL.ie;have tk3:=NL.tk;have Kl:dq (A.deeper env) (jo w) s3:=Mam.keeps NL.kp NL.tk;have fin:∀v s',Keeps s3 s'->bU s'.heap F (.int (j3 n xs)) v->DP P c (bV dI) dQ F s (.int (j3 n xs)) v s':=λv s' k r=>by
  have kk:=Keeps.trans' NL.kp k;obtain⟨h1,t1,e1⟩:=Mfm;obtain⟨h2,t2,e2,k2⟩:=kk;have k3:=Keeps.all k;refine⟨⟨h2,t2,by rw[e2,e1]⟩,λb o e ne=>?_,λhw b o e=>?_,?_,r⟩
  ·rw[e2];exact k2 _ _ (Mkb b o e ne)
  ·rw[e2];exact k2 _ _ (Mka hw b o e)
  ·obtain⟨ps,c2,h1,h2,h3,h4⟩:=Mwm.tab
   exact⟨Mwm.hd.keeps k3,ps,c2,k3 _ _ h1,h2,h3,h4.keeps k3⟩
 refine gp λQ hQ=>?_;refine aS (g6 ?_);rw[aiQ];cases hxs:xs with
 |nil=>
  subst hxs;refine IfExp_ (ai (bw tk3 (VO.b (A.deeper env) E' env G _ s3 _ false trivial Kl x3 (by rw[jn];exact Qq _ _))) (λb s4 q=>?_) λ_ _ e=>e);obtain⟨t4,rfl,k4⟩:=q;refine ai (VO.d (A.deeper env) E' env G _ s4 _ _ trivial (Kl.keeps k4 t4) (x3.keeps (Keeps.all k4)) (by rw[jn];exact abB _ _)) (λv s5 q=>?_) λ_ _ e=>e;refine hQ _ _ (fin v s5 (Keeps.trans' k4 q.1) ?_);exact q.2
 |cons y ys=>
  have htr:m9 (.lst (xs.map .int))=some true:=by
   show(if(xs.map D.int).length<=ei then some (!(xs.map D.int).isEmpty)else none)=_;rw[if_pos (by rw[aj];have:ei=1048576:=rfl;omega),hxs];rfl
  refine IfExp_ (ai (bw tk3 (VO.b (A.deeper env) E' env G _ s3 _ true trivial Kl x3 (by rw[jn];exact(Qq _ _).trans htr))) (λb s4 q=>?_) λ_ _ e=>e);obtain⟨t4,rfl,k4⟩:=q;have Kj:=Kl.keeps k4 t4;have x4:=x3.keeps (Keeps.all k4);have abE:Cl env "inner":=.inl (by rw[hk];decide);have hl:cH .len [.lst (xs.map .int)]=some (.int xs.length):=by
   show dA (if(xs.map D.int).length<=ei then some (D.int (xs.map D.int).length)else none) _=_;rw[aj,if_pos (by have:ei=1048576:=rfl;omega)];rfl
  refine BI VO trivial Kj x4 abE (by decide) (by decide) Mlc (Mvc.keeps (Keeps.all k4)) (Keeps.all k4 _ _ Mfo) rfl (by rw[jn];exact apM (apK _ _) ((apL _ _).trans hl) (by rfl') (by rfl')) (λs5 vs5 k5 t5 r5=>?_);have am5:=Kj.keeps k5 t5;have x5:=x4.keeps (Keeps.all k5);have k35:=Keeps.trans' k4 k5;have Qs:=Keeps.all k35;have Ay:∀m:Str,dK.lookup m=some .cell->env.cells.lookup m=some ((env.cells.lookup m).getD 0):=λm e=>by
   obtain⟨c0,_,e0,_⟩:=pY m e;rw[e0];rfl
  have hl1:=Ay "n" (by decide);have hl2:=Ay "inner" (by decide);have X4:=Ay "digits" (by decide);have Qm:(env.cells.lookup ("inner":Str)).getD 0=ci:=by rw[Mlc];rfl
  have CW:gF env z9.names []=([("n",(env.cells.lookup ("n":Str)).getD 0),("inner",(env.cells.lookup ("inner":Str)).getD 0),("digits",(env.cells.lookup ("digits":Str)).getD 0)]:List (Str×Addr)):=U7 env;have rh:∀m c0,(gF env z9.names []).lookup m=some c0->env.cells.lookup m=some c0/\iK.lookup m=some .free:=λm c0 e=>by
   rw[CW]at e;rcases abD e with⟨rfl,rfl⟩|⟨rfl,rfl⟩|⟨rfl,rfl⟩
   ·exact⟨hl1,by decide⟩
   ·exact⟨hl2,by decide⟩
   ·exact⟨X4,by decide⟩
  obtain⟨ml,U6,hva⟩:=x5.va;have I:kn s5.heap G fa xs n (fnMade "inner" dQ DD iB z9 (gF env z9.names []) xf NK c' xC) (fnX "inner" dQ DD iB z9 (gF env z9.names []) .none .none xf NK none (.ref c') xC) (gF env z9.names [])
   ((env.cells.lookup ("digits":Str)).getD 0) ci ((env.cells.lookup ("n":Str)).getD 0):=by
   refine⟨Qs _ _ Mfo,rfl,⟨rfl,rfl,ot.2.1,ot.2.2.1,ot.2.2.2,rfl,rfl,rfl,λvs hl=>?_,by decide,λp hp=>?_,abC,λm c0 e=>(rh m c0 e).2,λm m' c0 e e'=>x5.inj m m' c0 (rh m c0 e).1 (rh m' c0 e').1⟩,Mrc.keeps Qs,by rw[CW];rfl,by rw[CW,Qm];rfl,by rw[CW];rfl,λm c0 e=>(x5.fc m c0 (rh m c0 e).1).1,?_,Mvc.keeps Qs,?_⟩
   ·have:=j2 (fd:=fnX "inner" dQ DD iB z9 (gF env z9.names []) .none .none xf NK none (.ref c') xC) (vs:=vs) iA.1 iA.2.1 iA.2.2.1 iA.2.2.2.1 rfl (by rw[show(fnX "inner" dQ DD iB z9 (gF env z9.names []) .none .none xf NK none (.ref c') xC).params=DD from rfl,iA.2.2.2.2.1];decide) (by rw[show(fnX "inner" dQ DD iB z9 (gF env z9.names []) .none .none xf NK none (.ref c') xC).params=DD from rfl,iA.2.2.2.2.1];exact hl)
    rw[show(fnX "inner" dQ DD iB z9 (gF env z9.names []) .none .none xf NK none (.ref c') xC).params=DD from rfl,iA.2.2.2.2.1]at this;exact this
   ·simp only[aJ,dm,or_false]at hp
    rcases hp with rfl|rfl<;>decide
   ·obtain⟨c0,v0,e1,e2,e3⟩:=(hva "digits" (.lst (xs.map .int)) (by rfl')).2 (.inl (by rw[hk];decide))
    rw[X4]at e1;cases e1;exact⟨v0,e2,e3⟩
   ·obtain⟨c0,v0,e1,e2,e3⟩:=(hva "n" (.int n) (by rfl')).2 (.inl (by rw[hk];decide))
    rw[hl1]at e1;cases e1;exact⟨v0,e2,e3⟩
  have abF:0<xs.length:=by rw[hxs];simp
  have h10:xs.length<=2^10:=aq hlen (by decide);refine ai (yY (oq w) hn nU hx 10 0 xs.length abF (b0 _) (by rw[gJ];exact h10) (A.deeper env) E' s5 G vs5 ⟨by have:=bq.1;show A.depth+1+11<=990;omega,by have:=bq.2;rw[eL];omega⟩ am5 x5.lo I r5) (λv s6 q=>?_) λ_ _ e=>e;refine hQ _ _ (fin v s6 (Keeps.trans' k35 q.1) ?_);have:=q.2;rw[gJ,wW,rn]at this;exact this
end
end Internal
namespace Internal.Q
inductive IH(mg:Str->Option Value)(h:Heap)(n:Str)(c P:Addr):Prop
 |mk (a:Addr) (o:Obj) (fd:jI) (h1:mg n=some (.ref a)) (h2:h.get? a=some o) (h3:o.data=.func fd) (h4:fd.code=.ref c) (h5:W2 h c P) (h6:h.get? P=some (tabObj #[]))
inductive abG(h:Heap)(n:Str)(c P:Addr):Prop
 |mk (a:Addr) (o:Obj) (fd:jI) (oc:Obj) (vs:Array Value) (h1:h.nsMap mainGlobals n=some (.ref a)) (h2:h.get? a=some o) (h3:o.data=.func fd) (h4:fd.code=.ref c) (h5:h.get? c=some oc) (h6:oc.data=.fields vs) (h7:kB vs.toList 11 jb=.ref P)
theorem F4(e:codeOf h n=some (c,P)):abG h n c P:=by
 obtain⟨v,h1,e⟩:=aO e;obtain⟨a,_,e⟩:=aO e;obtain⟨o,h2,e⟩:=aO e;obtain⟨fd,_,e⟩:=aO e;obtain⟨c',_,e⟩:=aO e;obtain⟨oc,h3,e⟩:=aO e;obtain⟨vs,_,e⟩:=aO e;obtain⟨P',_,e⟩:=dC e;obtain⟨rfl,rfl⟩:=gv e;exact⟨_,_,_,_,_,a.2▸h1,h2,fd.2,c'.2,h3,vs.2,P'.2⟩
theorem uh(h:(o.map f).getD false=true):∃x,o=some x/\f x=true:=by
 cases o with
 |none=>exact DA h
 |some x=>exact⟨x,rfl,h⟩
theorem nE{α β:Type}{o:Option α}{f:α->Option β}{g:Option β->Bool}(h:g (o.bind f)=true)(hn:g none=false):∃x,o=some x/\g (f x)=true:=by
 cases o with
 |none=>exact DA (hn.symm.trans h)
 |some x=>exact⟨x,rfl,h⟩
theorem sF{α:Type}{p:α->Prop}{o:Option {x:α // p x}}(h:o.isSome=true):∃x,p x:=by
 cases o with
 |none=>exact DA h
 |some x=>exact⟨x.1,x.2⟩
theorem aiX{h:Heap}{c P:Addr}{oc:Obj}{vs:Array Value}(h5:h.get? c=some oc)(h6:oc.data=.fields vs)(h7:kB vs.toList 11 jb=.ref P)(b:hdB h c=true)(mV:c≠P):W2 h c P:=by
 obtain⟨o',e1,b⟩:=nE (g:=λo=>o.getD false) b rfl;cases h5.symm.trans e1;obtain⟨v',_,b⟩:=nE (g:=λo=>o.getD false) b rfl;cases zW (h6.symm.trans v'.2);obtain⟨n,_,b⟩:=uh b;simp only[av]at b;obtain⟨c1,c2,c3,c4,c5⟩:=b;have gd:∀i,v'.1.getD i jb=kB v'.1.toList i jb:=λi=>by
  rw[Hg,bp,tC]
 rw[<-gd]at h7 c2 c3 c4 c5;obtain⟨_,q1⟩:=sF c2;obtain⟨_,q2⟩:=sF c3;obtain⟨_,q3⟩:=sF c4;obtain⟨_,q4⟩:=sF c5;refine⟨oc,_,_,_,_,_,_,_,_,h5,by rw[n.2,eq_of_beq c1],h6,?_,h7,q1,q2,q3,q4,mV⟩;rw[Hg]at h7;cases hv:v'.1[11]? with
 |none=>rw[hv]at h7;cases h7
 |some v=>rw[hv]at h7;exact congrArg some h7
theorem Qt{h:Heap}{P:Addr}(b:HB h P=true):h.get? P=some (tabObj #[]):=by
 obtain⟨o,e1,b⟩:=nE (g:=λo=>o.getD false) b rfl;obtain⟨ps,_,b⟩:=nE (g:=λo=>o.getD false) b rfl;obtain⟨n,_,b⟩:=uh b;simp only[av,lY,cX]at b;obtain⟨c2,c3,c4⟩:=b;have h1:=ps.2;have h2:=n.2;rw[NU.mp c2]at h1;rw[e1];obtain⟨cls,dict,data,slots⟩:=o;dsimp only at*;rw[h1,h2,c3,NU.mp c4]
theorem Km(e:codeOf h n=some (c,P))(b:T9 h n=true):IH (h.nsMap mainGlobals) h n c P:=by
 obtain⟨a,o,fd,oc,vs,h1,h2,h3,h4,h5,h6,h7⟩:=F4 e;unfold T9 at b;rw[e]at b;have b:(!(bO c P)&&(hdB h c&&HB h P))=true:=b;simp only[av,cQ]at b;obtain⟨b1,b2,b3⟩:=b;exact⟨a,o,fd,h1,h2,h3,h4,aiX h5 h6 h7 b2 (λz=>by rw[z,tH]at b1;cases b1),Qt b3⟩
end Internal.Q
namespace Internal
section
theorem oB(h:x=some a)(k:f a=r):x.bind f=r:=by rw[h];exact k
theorem sG:∀{xs:List α},(∀x∈xs,f (φ x)=some (g x))->gN f (xs.map φ)=some (xs.flatMap g)
 |[],_=>rfl
 |d::ds,h=>by
  rw[bH];dsimp only[gN];rw[h d (aA ..)];show(gN f (ds.map φ)).bind _=_;rw[sG (xs:=ds) λx hx=>h x (aD _ hx)];rfl
def nH(e:ae):ae×List dX×Scope×Pos:=(p8 e).getD (default,[],default,default)
abbrev kM(e:ae):Scope:=(nH e).2.2.1
def II:List dX->ae
 |g::_=>g.iter
 |[]=>default
def qg(e:ae):ae:=II (nH e).2.1
def cOk(ks:bW)(σ:cu)(e:ae):Bool:=match p8 e with
 |some x=>(decide (x.2.2.1.kind=.function/\yv (x.2.2.1.names.map (·.1))=true)&&mK ks σ x.2.2.1.names)&&(jl (dS ⟨λ_ _=>none,λ_=>none,λ_ _=>none,λ_ _=>none⟩ 0) x.2.2.1 x.1 x.2.1).isSome
 |none=>false
def iF(V:Ev)(σ:cu)(e:ae)(d:D):Option (List D):=(jl V (kM e) (nH e).1 (nH e).2.1).bind λc=>lM (V.b (d8 (kM e))) (qP (kM e) (lj σ (kM e).names)) c.1 c.2.2.1 c.2.2.2 (lj σ (kM e).names) d
def ui(V:Ev)(σ:cu)(e:ae):D->Option (List D):=match(nH e).2.1 with
 |[_,g]=>lM (V.b (d8 (kM e))) (qP (kM e) σ) g.target g.ifs (E9 V (kM e) (nH e).1) σ
 |_=>λ_=>none
def ou(σ:cu)(d:D)(e:ae):cu:=match(nH e).2.1 with
 |g::_=>(Br (qP (kM e) (lj σ (kM e).names)) g.target d (lj σ (kM e).names)).getD []
 |_=>[]
theorem F5(h:(jl V' scope elt gens).isSome=true):∃c,jl V scope elt gens=some c/\c.2.1=II gens:=by
 obtain⟨c,hc⟩:=ay.mp h;obtain⟨i,gs,rfl,-,h2,h3⟩:=ll hc;rcases h3 with⟨rfl,-⟩|⟨t2,i2,f2,rfl,h4,-⟩
 ·exact⟨_,if_pos ⟨rfl,h2⟩,rfl⟩
 ·exact⟨_,if_pos ⟨⟨rfl,h2⟩,rfl,h4⟩,rfl⟩
theorem y6(DB:cOk ks σ e=true)(hi:V.d ks σ (qg e)=some d)(hit:items d=some ds)
(hF:gN (iF V σ e) ds=some out)(hl:out.length<=ei):(iU T V).d ks σ e=some (.lst out):=by
 unfold cOk at DB;cases hx:p8 e with
 |none=>rw[hx]at DB;exact DA DB
 |some x=>
  rw[hx]at DB;obtain⟨h1,h2⟩:=bX.mp DB;obtain⟨h3,h4⟩:=bX.mp h1;obtain⟨c,hc,Qm⟩:=F5 (V:=V) h2;obtain rfl:=p9 hx;have hF:gN (λd=>(jl V x.2.2.1 x.1 x.2.1).bind λc=>lM (V.b (d8 x.2.2.1)) (qP x.2.2.1 (lj σ x.2.2.1.names)) c.1 c.2.2.1 c.2.2.2 (lj σ x.2.2.1.names) d) ds=some out:=hF;rw[hc]at hF;show(yw V ks σ x.1 x.2.1 x.2.2.1).map _=_;unfold yw;rw[if_pos ⟨of_decide_eq_true h3,h4⟩,hc];show((V.d ks σ c.2.1).bind _).map _=_;rw[Qm,show V.d ks σ (II x.2.1)=some d from hi];show((items d).bind _).map _=_;rw[hit];show((gN (lM (V.b (d8 x.2.2.1)) (qP x.2.2.1 (lj σ x.2.2.1.names)) c.1 c.2.2.1 c.2.2.2 (lj σ x.2.2.1.names)) ds).bind _).map _=_;rw[show gN (lM (V.b (d8 x.2.2.1)) (qP x.2.2.1 (lj σ x.2.2.1.names)) c.1 c.2.2.1 c.2.2.2 (lj σ x.2.2.1.names)) ds=some out from hF,ag,if_pos hl];rfl
theorem ik{α:Type}{T:ec}{V:Ev}{ks:bW}{σ:cu}{e:ae}{d:D}{φ:α->D}{xs:List α}{g:α->List D}(DB:cOk ks σ e=true)(hi:V.d ks σ (qg e)=some d)(hit:items d=some (xs.map φ))
(hF:∀x∈xs,iF V σ e (φ x)=some (g x))(hl:(xs.flatMap g).length<=ei):(iU T V).d ks σ e=some (.lst (xs.flatMap g)):=
 y6 DB hi hit (sG hF) hl
theorem tr(h2:b=c)(h1:autoParam (a=b) Mxx.ka):a=c:=h1.trans h2
def uj(st:Stmt):ae:=bk st
def l7(e:ae):List ae×Nat×Pos:=(CL e).getD ([],0,default)
def sH(st:Stmt):List ae:=(l7 (qf st)).1
def F6(st:Stmt):List ae:=(l7 (uj st)).1
def iM(st:Stmt):ae:=qf st
def Kn(ks:bW)(ts es:List ae)(ns:List Str)(cs:List (D×Bool))(σ:cu)(own:List Str):Option (cu×List Str):=
 if iV cs<=1/\es.length<=ei then
     (yD ks ts es).bind λr=>match r with
       |none=>some (p6 ns cs (σ,own))
       |some ms=>if ms=ns then some (p6 ns.reverse cs.reverse (σ,own))else none
     else none
def abI(st:Stmt):qU:=(stK st).2.2.2.1
def X5(st:Stmt):ae:=bk st
def MA(st:Stmt):Str×Str×List ae:=(rH (X5 st)).getD ("","",[])
def j4(st:Stmt):Str:=(MA st).1
def Ko(st:Stmt):ae:=(PX (MA st).2.2).getD default
def eG(st:Stmt):Str:=((wC (qf st)).getD ("",default)).1
abbrev g1(o:Option (cu×List Str)):cu:=(o.getD ([],[])).1
abbrev g2(o:Option (cu×List Str)):List Str:=(o.getD ([],[])).2
section
variable{V:Ev}{ks:bW}{W:List Str}{wf:Nat}{X:XD}{σ σ':cu}{own own':List Str}{rest:List Stmt}{st:Stmt}{r:Option Fl}
theorem fb(h:c9 V ks W wf X st σ own=some (.nx σ' own'))(k:cO (c9 V ks W wf X) rest σ' own'=r):cO (c9 V ks W wf X) (st::rest) σ own=r:=by
 dsimp only[cO];rw[h];exact k
theorem df(h:c9 V ks W wf X st σ own=some (.rt d)):cO (c9 V ks W wf X) (st::rest) σ own=some (.rt d):=by
 dsimp only[cO];rw[h];rfl
theorem bZ(d)(h:V.d ks (du own σ) (bk st)=some d)(hs:autoParam (st=.Assign [.Name (eG st) (jF st)] (bk st) (bV st)) Mxx.ka)(hk:autoParam ((Aq ks (eG st)&& !mu ks (eG st) (jF st) (bk st))=true) Mxx.ka):
 c9 V ks W wf X st σ own=some (.nx (kK W (eG st) (d,j1 (bk st)&&mj d) (σ,own)).1 (kK W (eG st) (d,j1 (bk st)&&mj d) (σ,own)).2):=by
 rw[av,cQ]at hk;generalize eG st=n at*;rw[hs];show AB V ks W n (jF st) (bk st) σ own=_;unfold AB;rw[if_pos hk.1,hk.2,if_neg aF];unfold eV;rw[h];rfl
theorem U8(c:D×Bool)(h:eV V ks σ own (bk st)=some c)(hs:autoParam (st=.Assign [.Name (eG st) (jF st)] (bk st) (bV st)) Mxx.ka)(hk:autoParam ((Aq ks (eG st)&& !mu ks (eG st) (jF st) (bk st))=true) Mxx.ka):
 c9 V ks W wf X st σ own=some (.nx (kK W (eG st) c (σ,own)).1 (kK W (eG st) c (σ,own)).2):=by
 rw[av,cQ]at hk;generalize eG st=n at*;rw[hs];show AB V ks W n (jF st) (bk st) σ own=_;unfold AB;rw[if_pos hk.1,hk.2,if_neg aF,h];rfl
theorem U9(out)(h:V.d ks (du own σ) (bk st)=some (.lst out))(hs:autoParam (st=.Assign [.Name (eG st) (jF st)] (bk st) (bV st)) Mxx.ka)(hk:autoParam ((Aq ks (eG st)&&mu ks (eG st) (jF st) (bk st)&&(p8 (bk st)).isSome)=true) Mxx.ka):
 c9 V ks W wf X st σ own=some (.nx (kK W (eG st) (.lst out,true) (σ,own)).1 (kK W (eG st) (.lst out,true) (σ,own)).2):=by
 obtain⟨hk1,Pq⟩:=bX.mp hk;obtain⟨hk3,hk4⟩:=bX.mp hk1;obtain⟨x,hx⟩:=ay.mp Pq;generalize eG st=n at*;rw[hs];show AB V ks W n (jF st) (bk st) σ own=_;unfold AB;rw[if_pos hk3,if_pos hk4,hx];show((V.d ks (du own σ) (bk st)).bind yK).map _=_;rw[h];rfl
theorem nW(h:V.d ks (du own σ) e=some d):eV V ks σ own e=some (d,j1 e&&mj d):=by
 unfold eV;rw[h]
theorem apV(h:V.d ks σ e=some d)(hf:autoParam (nv d=true) Mxx.ka)(h0:autoParam (V.d ks (du own σ) e=none) Mxx.ka):eV V ks σ own e=some (d,false):=by
 unfold eV;rw[h0,h];cases d<;>first|(cases hf;done)|rfl
theorem mM:kL V ks σ own W [] []=some []:=rfl
theorem ej(h:eV V ks σ own e=some c)(hr:kL V ks σ own W ns es=some cs)(hn:autoParam (gm e=true) Mxx.ka):
 kL V ks σ own W (n::ns) (e::es)=some ((c.1,c.2&&W.contains n)::cs):=by
 show(if gm e=true then(eV V ks σ own e).bind _ else none)=_;rw[if_pos hn,h];show(kL V ks σ own W ns es).bind _=_;rw[hr];rfl
theorem mN(ns)(es)(h:kL V ks σ own W ns es=some cs)(he:autoParam (F6 st=es) Mxx.ka)
(hs:autoParam (st=.Assign [.Tuple (sH st) (l7 (qf st)).2.1 (l7 (qf st)).2.2] (.Tuple (F6 st) (l7 (uj st)).2.1 (l7 (uj st)).2.2) (bV st)) Mxx.ka)(hn:autoParam ((UP (sH st) (F6 st)).isNone=true) Mxx.ka)(h1:autoParam (PT (sH st)=some ns) Mxx.ka)(h2:autoParam (ns.all (Aq ks)=true) Mxx.ka)
(hσ:autoParam ((Kn ks (sH st) (F6 st) ns cs σ own).isSome=true) Mxx.ka):c9 V ks W wf X st σ own=some (.nx (g1 (Kn ks (sH st) (F6 st) ns cs σ own)) (g2 (Kn ks (sH st) (F6 st) ns cs σ own))):=by
 subst he;obtain⟨r,hr⟩:=ay.mp hσ;rw[hr];generalize sH st=ts at*;generalize F6 st=es at*;rw[hs];show Mp V ks W ts es σ own=_;unfold Mp;rw[cX.mp hn];show(UK V ks W ts es σ own).map _=_;unfold UK;rw[h1];show(if ns.all (Aq ks)=true then _ else none).map _=_;rw[if_pos h2,h];show(Kn ks ts es ns cs σ own).map _=_;rw[hr];rfl
theorem aiY(h:(!b)=true):b=false:=by cases b<;>first|rfl|exact DA h
theorem mO(c:D×Bool)(h:eV V ks σ own (uj st)=some c)(h1:autoParam ((fg ks (iM st) c.1 (σ,own)).isSome=true) Mxx.ka)
(hs:autoParam (st=.Assign [.Tuple (sH st) (l7 (qf st)).2.1 (l7 (qf st)).2.2] (uj st) (bV st)) Mxx.ka)(ht:autoParam (iM st=.Tuple (sH st) (l7 (qf st)).2.1 (l7 (qf st)).2.2) Mxx.ka)(hn:autoParam ((CL (uj st)).isNone=true) Mxx.ka):
 c9 V ks W wf X st σ own=some (.nx (g1 (fg ks (iM st) c.1 (σ,own))) (g2 (fg ks (iM st) c.1 (σ,own)))):=by
 obtain⟨r,hr⟩:=ay.mp h1;rw[hr];rw[ht]at hr;generalize sH st=ts at*;generalize uj st=e at*;rw[hs];show(match CL e with
                                                                                                  |some es=>Mp V ks W ts es.1 σ own
                                                                                                  |none=>(eV V ks σ own e).bind λc=>(fg ks (.Tuple ts _ _) c.1 (σ,own)).map λ(r:cu×List Str)=>Fl.nx r.1 r.2)=_
 rw[cX.mp hn];show(eV V ks σ own e).bind _=_;rw[h,ag,hr];rfl
theorem abJ(d)(h:eV V ks σ own (bk st)=some c)(hd:autoParam (Ih (abI st) a c.1=some d) Mxx.ka)(ha:autoParam (look (du own σ) (eG st)=some a) Mxx.ka)
(hs:autoParam (st=.AugAssign (.Name (eG st) (jF st)) (abI st) (bk st) (bV st)) Mxx.ka)(ho:autoParam ((!own.contains (eG st)&&Aq ks (eG st))=true) Mxx.ka):
 c9 V ks W wf X st σ own=some (.nx (put (eG st) d σ) (rF (eG st) own)):=by
 rw[av,cQ]at ho;generalize eG st=n at*;rw[hs];show Iq V ks n (abI st) (bk st) σ own=_;unfold Iq;rw[ho.1,if_neg aF,if_pos ho.2,ha];show(eV V ks σ own (bk st)).bind _=_;rw[h];show(Ih _ _ _).map _=_;rw[hd];rfl
theorem Kp(h:eV V ks σ own (bk st)=some (.lst es,fl))(hl:ds.length+es.length<=ei)(ha:autoParam (look σ (eG st)=some (.lst ds)) Mxx.ka)
(hs:autoParam (st=.AugAssign (.Name (eG st) (jF st)) .Add (bk st) (bV st)) Mxx.ka)(ho:autoParam (own.contains (eG st)=true) Mxx.ka):
 c9 V ks W wf X st σ own=some (.nx (put (eG st) (.lst (ds++es)) σ) (eG st::rF (eG st) own)):=by
 generalize eG st=n at*;rw[hs];show Iq V ks n .Add (bk st) σ own=_;unfold Iq;rw[if_pos ho,if_pos (show J8 .Add=true from rfl),ha];show(eV V ks σ own (bk st)).bind _=_;rw[h];show(if ds.length+es.length<=ei then _ else none)=_;rw[if_pos hl]
theorem sI(c)(h:V.b ks σ (dw st)=some c)(hs:autoParam (st=.If (dw st) (br st) (dG st) (bV st)) Mxx.ka):c9 V ks W wf X st σ own=if c=true then X (br st) σ own else X (dG st) σ own:=by
 rw[hs];show(V.b ks σ (dw st)).bind _=_;rw[h];rfl
theorem lR(h:V.b ks σ (dw st)=some true)(hx:X b σ own=some (.nx σ' own'))(k:cO (c9 V ks W wf X) rest σ' own'=r)(hb:autoParam (br st=b) Mxx.ka)(hs:autoParam (st=.If (dw st) (br st) (dG st) (bV st)) Mxx.ka):
 cO (c9 V ks W wf X) (st::rest) σ own=r:=
 fb (by rw[sI true h hs,if_pos rfl,hb];exact hx) k
theorem fT(h:V.b ks σ (dw st)=some true)(hx:X b σ own=some (.rt d))(hb:autoParam (br st=b) Mxx.ka)(hs:autoParam (st=.If (dw st) (br st) (dG st) (bV st)) Mxx.ka):
 cO (c9 V ks W wf X) (st::rest) σ own=some (.rt d):=
 df (by rw[sI true h hs,if_pos rfl,hb];exact hx)
theorem cM(h:V.b ks σ (dw st)=some false)(hx:X b σ own=some (.nx σ' own'))(k:cO (c9 V ks W wf X) rest σ' own'=r)(hb:autoParam (dG st=b) Mxx.ka)(hs:autoParam (st=.If (dw st) (br st) (dG st) (bV st)) Mxx.ka):
 cO (c9 V ks W wf X) (st::rest) σ own=r:=
 fb (by rw[sI false h hs,if_neg aF,hb];exact hx) k
theorem y8{ds:List D}{r:Fl}(h:yJ V ks σ own (bk st)=some ds)(hf:sx X ks (iM st) (br st) ds σ own=some r)(hs:autoParam (st=.For (iM st) (bk st) (br st) [] (bV st)) Mxx.ka):c9 V ks W wf X st σ own=some r:=by
 rw[hs];show(yJ V ks σ own (bk st)).bind _=_;rw[h];exact hf
theorem Qu{r:Fl}(hf:om X V ks (dw st) (br st) wf σ own=some r)(hs:autoParam (st=.While (dw st) (br st) [] (bV st)) Mxx.ka):c9 V ks W wf X st σ own=some r:=by
 rw[hs];exact hf
theorem dR(d)(h:V.d ks σ (bk st)=some d)(hs:autoParam (st=.Return (some (bk st)) (bV st)) Mxx.ka):c9 V ks W wf X st σ own=some (.rt d):=by
 rw[hs];show(V.d ks σ (bk st)).map _=_;rw[h];rfl
theorem Kq(hs:autoParam (rH (X5 st)=some (MA st)) Mxx.ka)(hx:autoParam (st=.Expr (X5 st) (bV st)) Mxx.ka)(ho:autoParam ((own.contains (j4 st)&& !(j4 st==("__debug__":Str)))=true) Mxx.ka)(ha:autoParam (look σ (j4 st)=some (.lst ds)) Mxx.ka)
(h:meS V ks (j4 st) (MA st).2.1 ds σ own (MA st).2.2=r):c9 V ks W wf X st σ own=r:=by
 obtain⟨h1,h2⟩:=bX.mp ho;rw[hx];show(rH (X5 st)).bind _=_;rw[hs];show Kf V ks (j4 st) (MA st).2.1 (MA st).2.2 σ own=_;unfold Kf;rw[if_pos ⟨h1,aiY h2⟩,ha];exact h
theorem CX(h:eV V ks σ own (Ko st)=some c)(hl:ds.length+1<=ei)(ha:autoParam (look σ (j4 st)=some (.lst ds)) Mxx.ka)(hs:autoParam (rH (X5 st)=some (MA st)) Mxx.ka)(hx:autoParam (st=.Expr (X5 st) (bV st)) Mxx.ka)
(hm:autoParam ((MA st).2.1="append") Mxx.ka)(hg:autoParam ((MA st).2.2=[Ko st]) Mxx.ka)(hn:autoParam (gm (Ko st)=true) Mxx.ka)(ho:autoParam ((own.contains (j4 st)&& !(j4 st==("__debug__":Str)))=true) Mxx.ka):
 c9 V ks W wf X st σ own=some (.nx (put (j4 st) (.lst (ds++[c.1])) σ) own):=by
 refine Kq hs hx ho ha ?_;rw[hg,hm];show(if _ then(eV V ks σ own (Ko st)).map _ else none)=_;rw[if_pos ⟨⟨rfl,hn⟩,hl⟩,h];rfl
theorem fR(h:cO (c9 V ks W wf (AE V ks W wf n)) bs σ own=r)(hb:autoParam (b=bs) Mxx.ka):AE V ks W wf (n+1) b σ own=r:=by
 subst hb;exact h
theorem sJ(h:X body (g1 (fg ks t d (σ,own))) (g2 (fg ks t d (σ,own)))=some (.nx σ' own'))(k:sx X ks t body ds σ' own'=r)(hb:autoParam ((fg ks t d (σ,own)).isSome=true) Mxx.ka):
 sx X ks t body (d::ds) σ own=r:=by
 dsimp only[sx];obtain⟨p,hp⟩:=ay.mp hb;rw[hp]at h⊢;show(X body p.1 p.2).bind _=_;rw[show X body p.1 p.2=_ from h];exact k
end
end
section
def Qv(n:Str):List Stmt->Stmt
 |[]=>default
 |st::r=>match st with
  |.FunctionDef name .. =>if name=n then st else Qv n r
  |_=>Qv n r
def bo(n:Str):List Stmt:=Cc (Qv n pw.main.body)
def uk(n:Str):bW:=(nY (Qv n pw.main.body)).names
abbrev Va(T:ec):Ev:=dS T 31
abbrev Xa(T:ec)(ks:bW)(W:List Str)(n:Nat):XD:=AE (dS T 31) ks W 60 n
def Aa(i:Nat)(st:Stmt):ae:=(F6 st).getD i default
def di(n:Nat):D:=.int n
theorem ox{α:Type}{l:List α}{i:Nat}{d:α}(h:i<l.length):l.getD i d=l[i]:=by simp[kB,h]
theorem za{l:List D}{a:Nat}(h:a<l.length)(hb:l.length<2^60):fY (.lst l) a=some (l[a]'h):=by
 rw[Cs (by omega)];unfold Sn seqIndex?;have e1:¬((a:Int)<0):=by omega
 simp only[e1,if_false];rw[if_pos (by simp;omega)];simp[h]
theorem F7{l:List Nat}{a:Nat}(h:a<l.length)(hb:l.length<2^60):fY (.lst (l.map di)) a=some (di (l[a]'h)):=by
 rw[za (by simpa using h) (by simpa using hb)];simp
section
variable{T:ec}
end
end
section
theorem d9:ei=1048576:=rfl
theorem Qw:∀(n a:Nat),kU a 1 n=(iu a n).map di:=by
 intro zx
 induction zx with
 |zero=>
  rintro _;exact rfl
 |succ n ih=>
  rintro a;rw[lV,bH,<-ih (a+1)];rfl
theorem IJ(a b):fj a b 1=if a<b then b - a else 0:=by
 unfold fj;rw[if_pos (by decide)];split
 ·rw[Int.ediv_one];omega
 ·rfl
theorem BJ(a b)(h:a<=b)(hb:b<=ei):items (.nZ a b 1)=some ((iu a (b - a)).map di):=by
 have hl:=d9;have hs:fj a b 1=((b - a:Nat):Int):=by
  rw[IJ];split<;>omega
 have DB:km a b 1=true:=by
  unfold km Hb Builtin.Range.rangeFitsLong;rw[hs];simp;omega
 rw[ET,if_pos DB];unfold iJ;rw[hs,aR,Qw]
theorem j7(b)(hb:b<=ei):items (.nZ 0 b 1)=some ((aM b).map di):=by
 have:=BJ 0 b (de _) hb;rw[gJ,<-wX]at this;exact this
theorem mw(h:l.length<=ei):cH .len [.lst l]=some (.int l.length):=by
 show dA (if l.length<=ei then some (D.int l.length)else none) _=_;rw[if_pos h];rfl
theorem mx:∀(xs:List α),(xs.flatMap λx=>if p x=true then[f x]else[])=(xs.filter p).map f:=by
 intro zx
 induction zx with
 |nil=>
  exact rfl
 |cons x xs ih=>
  rw[d7,dk,ih];cases p x<;>simp
theorem eR:∀(xs:List α),(xs.flatMap λx=>[f x])=xs.map f:=by
 intro zx
 induction zx with
 |nil=>
  exact rfl
 |cons x xs ih=>
  rw[d7,ih];rfl
theorem turn_if:(((some b).bind λb=>if b=true then some true else some false).bind λb=>if b=true then e else some [])=if b=true then e else some []:=by cases b<;>rfl
theorem kz(h1: -1048576<=x)(h2:x<=1048576):sm x=true:=OU (f9 (by decide) h1) (f9 h2 (by decide))
section
variable{T:ec}
end
end
end Internal
namespace Internal.Z
section
def apW(f:Str):Scope:=nY (Qv f pw.main.body)
abbrev Tn(prim:Str->Option (List D->Option D))(r:Nat):ec:=(NG prim).tab 30 60 20 r
theorem fq(ps)(hp:prim f=none)(h:Xa (Tn prim r) (uk f) (Wof f) 20 (bo f) (ps.zip ds) []=some (.rt d))(hl:(ds.length==ps.length)=true:=by rfl)
(hf:autoParam (((jE.find? (λd=>d.name==f)).map λd=>(d.params.args.map (·.arg),d.body,d.scope))=some (ps,bo f,apW f)) Mxx.ka):
 (Tn prim (r+1)).fn f ds=some d:=by
 show(match(NG prim).prim f with
  |some p=>p ds
  |none=>(NG prim).run 30 60 20 (Tn prim r) f ds)=_
 rw[show(NG prim).prim f=none from hp];refine oB (show(NG prim).fns f=_ from hf) ?_;show(if ds.length=ps.length then abm (Xa (Tn prim r) (uk f) (Wof f) 20 (bo f) (ps.zip ds) [])else none)=some d;rw[if_pos (by simpa using hl),h];rfl
section
variable{T:ec}
end
end
section
structure my(T:ec):Prop where
 mem:T.mem=IB
 get:T.get=IA
 gl:T.gl=UX
theorem sM(prim:Str->Option (List D->Option D))(r):my (Tn prim r):=by
 cases r<;>exact⟨rfl,rfl,rfl⟩
def ch(c:Nat):Str:=⟨#[c]⟩
def mP(c:Nat):Str:=match L3.lookup (c:Int)with
 |some x=>x
 |none=>asR (ch c)
section
variable{T:ec}
theorem aiZ(h:my T)(c):Xa T (uk "in_table_b1") [] 20 (bo "in_table_b1") [("code",.str (ch c))] []=some (.rt (.bool (mH.contains (c:Int)))):=by
 refine fR (bs:=[ak 0 (bo "in_table_b1")]) (df (dR _ (tr (b:=(T.mem "b1_set" (.int c)).map .bool) ?_)));rw[h.mem];rfl
theorem abK(h:my T)(c:Nat):Xa T (uk "map_table_b3") [] 20 (bo "map_table_b3") [("code",.str (ch c))] []=some (.rt (.str (mP c))):=by
 obtain⟨B,hB⟩:∃B,B=bo "map_table_b3":=⟨_,rfl⟩;refine fR (bs:=[ak 0 (bo "map_table_b3"),ak 1 (bo "map_table_b3"),ak 2 (bo "map_table_b3")]) ?_;unfold mP;cases hl:L3.lookup (c:Int)with
 |some x=>
  refine fb (bZ (.str x) (tr (b:=T.get "b3_exceptions" [.int c]) (by rw[h.get];show some (match L3.lookup (c:Int)with|some x=>D.str x|none=>.none)=_;rw[hl]))) ?_;exact fT (b:=[ak 0 (br (ak 1 (bo "map_table_b3")))]) (by rfl') (fR (bs:=[ak 0 (br (ak 1 (bo "map_table_b3")))]) (df (dR _ (by rfl'))))
 |none=>
  refine fb (bZ .none (tr (b:=T.get "b3_exceptions" [.int c]) (by rw[h.get];show some (match L3.lookup (c:Int)with|some x=>D.str x|none=>.none)=_;rw[hl]))) ?_;refine cM (b:=[]) (by rfl') (fR (bs:=[]) rfl) ?_;refine df (dR _ (tr (b:=o6 .lower (.str (ch c)) []) ?_));show(if(ch c).length<=1000000 then some (D.str (asR (ch c)))else none)=_;rw[if_pos (by show(1:Nat)<=1000000;decide)]
theorem apX(h:my T)(x):Xa T (uk "ISTERMINAL") [] 20 (bo "ISTERMINAL") [("x",.int x)] []=some (.rt (.bool (decide (x<256)))):=by
 refine fR (bs:=[ak 0 (bo "ISTERMINAL")]) (df (dR _ (tr (b:=((T.gl "NT_OFFSET").bind λd=>cmp .Lt (.int x) d).map .bool) ?_)));rw[h.gl];rfl'
theorem ai0(h:my T)(x):Xa T (uk "ISNONTERMINAL") [] 20 (bo "ISNONTERMINAL") [("x",.int x)] []=some (.rt (.bool (decide (256<=x)))):=by
 refine fR (bs:=[ak 0 (bo "ISNONTERMINAL")]) (df (dR _ (tr (b:=((T.gl "NT_OFFSET").bind λd=>cmp .GtE (.int x) d).map .bool) ?_)));rw[h.gl];rfl'
theorem apY(h:my T)(x):Xa T (uk "ISEOF") [] 20 (bo "ISEOF") [("x",.int x)] []=some (.rt (.bool (x==0))):=by
 refine fR (bs:=[ak 0 (bo "ISEOF")]) (df (dR _ (tr (b:=((T.gl "ENDMARKER").bind λd=>cmp .Eq (.int x) d).map .bool) ?_)));rw[h.gl];rfl'
end
structure S1(T:ec):Prop where
 b1:∀c:Nat,T.fn "in_table_b1" [.str (ch c)]=some (.bool (mH.contains (c:Int)))
 b3:∀c:Nat,T.fn "map_table_b3" [.str (ch c)]=some (.str (mP c))
 tm:∀x:Int,T.fn "ISTERMINAL" [.int x]=some (.bool (decide (x<256)))
 nt:∀x:Int,T.fn "ISNONTERMINAL" [.int x]=some (.bool (decide (256<=x)))
 eo:∀x:Int,T.fn "ISEOF" [.int x]=some (.bool (x==0))
theorem X6(hp:∀f,(f==("_int2digits":Str))=false->(f==("_digits2int":Str))=false->(f==("_law_refused":Str))=false->(f==("_law_beaten":Str))=false->prim f=none)(r):S1 (Tn prim (r+1)):=
 ⟨λc=>fq (["code"]:List Str) (hp _ (by decide) (by decide) (by decide) (by decide)) (aiZ (sM prim r) c),λc=>fq (["code"]:List Str) (hp _ (by decide) (by decide) (by decide) (by decide)) (abK (sM prim r) c),
  λx=>fq (["x"]:List Str) (hp _ (by decide) (by decide) (by decide) (by decide)) (apX (sM prim r) x),λx=>fq (["x"]:List Str) (hp _ (by decide) (by decide) (by decide) (by decide)) (ai0 (sM prim r) x),λx=>fq (["x"]:List Str) (hp _ (by decide) (by decide) (by decide) (by decide)) (apY (sM prim r) x)⟩
end
section
def ai1(e:ae):ae:=(nH e).1
def Qx(e:ae):bW:=d8 (kM e)
def dl(l:List Nat):D:=.lst (l.map di)
section
variable{T:ec}
end
end
section
theorem abL(f:α->β)(lo hi:Option Int)(l:List α):sl lo hi (l.map f)=(sl lo hi l).map f:=by
 unfold sl;rw[aj,List.map_take,List.map_drop]
theorem zb(n d i:Nat):jP n d (some (i:Int))=min i n:=by
 show(max 0 (min (if(i:Int)<0 then(i:Int)+n else i) n)).toNat=_;rw[if_neg (Int.not_lt.mpr (bF _)),show min (i:Int) n=((min i n:Nat):Int)from(Nat.le_total i n).elim (λh=>by rw[nT h,avr (gf.mpr h)]) λh=>by rw[as0 h,as1 (gf.mpr h)],Int.max_eq_right (bF _)];rfl
theorem MB(h:i<=n):jP n d (some (i:Int))=i:=by
 rw[zb,nT h]
theorem sN(a b:Nat):cmp .Eq (di a) (.int b)=some (a==b):=by
 show some ((a:Int)==(b:Int))=_;congr 1;rw[eW,beq_iff_eq,beq_iff_eq];omega
theorem ints_map:∀(l:List Nat),gM (l.map di)=some (l.map fN):=by
 intro zx
 induction zx with
 |nil=>
  exact rfl
 |cons a l ih=>
  show(gM (l.map di)).map (λr=>(a:Int)::r)=_;rw[ih];rfl
theorem qy(h:a.length+b.length<=ei):aE .Add (.lst a) (.lst b)=some (.lst (a++b)):=by
 show dA (if a.length+b.length<=ei then some (D.lst (a++b))else none) _=_;rw[if_pos h];rfl
theorem BK(x:Nat):∀(l:List Nat),ya (di x) (l.map di)=some (decide (x∈l)):=by
 intro zx
 induction zx with
 |nil=>
  exact rfl
 |cons a l ih=>
  have h1:rA 40 (di a) (di x)=some (a==x):=sN a x;show((rA 40 (di a) (di x)).bind λa=>(ya (di x) (l.map di)).map λb=>a||b)=_;rw[h1,ih];refine congrArg some ?_;rw[eW,mX,beq_iff_eq,decide_eq_true_eq,decide_eq_true_eq,aJ];exact or_congr ⟨Eq.symm,Eq.symm⟩ Iff.rfl
theorem CY(a):cmp .Eq (.lst a) (.lst [])=some a.isEmpty:=by
 show dA (if a.length=([]:List D).length then sd (rA 39) a []else some false) _=_;cases a with
 |nil=>rfl
 |cons x a=>rw[if_neg (by simp)];rfl
theorem F8:(((some b).bind λb=>if b=true then some true else some false).bind λb=>if b=true then some [x]else some [])=some (if b=true then[x]else[]):=by cases b<;>rfl
theorem Vb(h:l.length<=ei):(((cH .len [.lst l]).bind λd=>some [d]).bind λds=>cH .range ds)=some (.nZ 0 l.length 1):=by
 rw[mw h];rfl
theorem oy(p:α->Bool)(n)(l:List α)(h:l.length<=n):(l.filter p).length<=n:=aq (tO ..) h
section
variable{T:ec}
end
end
section
section
variable{T:ec}
end
end
section
def X7(a:Option Bool)(k:Option Bool):Option Bool:=a.bind λb=>match BoolOp.Or,b with|.And,false=>some false|.Or,true=>some true|_,_=>k
def Vc(a:Option Bool)(k:Option Bool):Option Bool:=a.bind λb=>match Hh,b with|.And,false=>some false|.Or,true=>some true|_,_=>k
section
variable{T:ec}
theorem MC(x):∀(l:List Int),ya (.int x) (l.map .int)=some (decide (x∈l)):=by
 intro zx
 induction zx with
 |nil=>
  exact rfl
 |cons a l ih=>
  have h1:rA 40 (.int a) (.int x)=some (a==x):=rfl;show((rA 40 (.int a) (.int x)).bind λa=>(ya (.int x) (l.map .int)).map λb=>a||b)=_;rw[h1,ih];refine congrArg some ?_;rw[eW,mX,beq_iff_eq,decide_eq_true_eq,decide_eq_true_eq,aJ];exact or_congr ⟨Eq.symm,Eq.symm⟩ Iff.rfl
theorem zc:∀(l:List Int),gM (l.map .int)=some l:=by
 intro zx
 induction zx with
 |nil=>
  exact rfl
 |cons a l ih=>
  show(gM (l.map .int)).map (λr=>a::r)=_;rw[ih];rfl
end
end
section
def mk(l:List Nat):Str:=⟨l.toArray⟩
theorem qh(l:List Nat):(mk l).length=l.length:=by show l.toArray.size=_;simp
theorem qz(l:List Nat):(mk l).cps.toList=l:=by simp[mk]
theorem X8(x:Str):mk x.cps.toList=x:=by simp[mk]
theorem IK(a b:List Nat):mk a++mk b=mk (a++b):=by
 show(⟨a.toArray++b.toArray⟩:Str)=⟨(a++b).toArray⟩
 simp
theorem zd:∀ys:List Str,Str.join (mk []) ys=mk (ys.flatMap λy=>y.cps.toList)
 |[]=>rfl
 |[x]=>by
  show x=_;rw[d7,List.flatMap_nil,c6,X8]
 |x::y::r=>by
  show x++mk []++Str.join (mk []) (y::r)=_;have h:x++mk []=x:=by
   show(⟨x.cps++ #[]⟩:Str)=x;simp
  rw[zd (y::r),h];show _=mk (x.cps.toList++(y::r).flatMap λy=>y.cps.toList);rw[<-IK,X8]
theorem Qy(ys:List Str):Txt.join (mk []) ys=mk (ys.flatMap λy=>y.cps.toList):=by
 rw[<-zd];exact StrLaws.glued_eq_join _ _
theorem strs_map:∀ys:List Str,strs? (ys.map .str)=some ys:=by
 intro zx
 induction zx with
 |nil=>
  exact rfl
 |cons y ys ih=>
  show(strs? (ys.map .str)).map (λr=>y::r)=_;rw[ih];rfl
theorem Qz{ys:List Str}(h:(ys.map (·.length)).sum<=16777216):o6 .join (.str (mk [])) [.lst (ys.map .str)]=some (.str (mk (ys.flatMap λy=>y.cps.toList))):=by
 show(strs? (ys.map .str)).bind (λys=>if(ys.map (·.length)).sum+ys.length*(mk []).length<=16777216 then some (D.str (Txt.join (mk []) ys))else none)=_;rw[strs_map,ag,show(mk []).length=0 from rfl,tv,WR,if_pos h,Qy]
def G5(p:List Nat)(m:Nat):Bool:=(L4.lookup (mk (p.take m))).isSome
def kA(p:List Nat):Nat:=if G5 p 3=true then 3 else if G5 p 2=true then 2 else 1
def ri:Str:="filstk"
def IL(p:List Nat):Int:=(L4.lookup (mk (p.take (kA p)))).getD (256+Ny ri (mk (p.take (kA p))))
section
variable{T:ec}
def qK:bW:=uk "_law_read"
def qB:List Stmt:=bo "_law_read"
def qW:Stmt:=ak 3 qB
def X9:List Stmt:=br qW
def qS(o:Option D)(text told plain row:D):cu:=([("text",text),("told",told),("plain",plain),("row",row)]:cu)++(match o with|none=>[]|some a=>[("size",a)])
def qC:ae:=IC (o8 0 (bk (ak 0 X9)))
def eX:Str:="EXACT_TOKEN_TYPES"
theorem q_c(o:Option D)(text told row)(p)(m):iF (dS T 28) (du ["row"] (qS o text told (.str p) row)) qC (.int m)=
 ((((yj (.str p) none (some m)).bind λd=>T.mem eX d).bind λb=>if b=true then some true else some false).bind λb=>if b=true then some [.int m]else some []):=by
 rcases o with _|o<;>rfl'
theorem apZ(o:Option D)(text told row)(p):cOk qK (du ["row"] (qS o text told (.str p) row)) qC=true:=by
 rcases o with _|o<;>rfl'
theorem ap0(o:Option D)(text told row)(p):(dS T 28).d qK (du ["row"] (qS o text told (.str p) row)) (qg qC)=some (.tup [.int 2,.int 3]):=by
 rcases o with _|o<;>rfl'
theorem Vd(o:Option D)(text told)(row)(p p2)(z)(k)(more)(n)(h1:(dS T 29).d qK (du ["row"] (qS o text told (.str p) (.lst row))) qC=some (.lst more))
(h2:(((aE .Add (.lst [.int 1]) (.lst more)).bind λd=>some [d]).bind λds=>cH .max ds)=some (.int z))
(h3:(((yj (.str p) none (some z)).bind λd=>(((((yj (.str p) none (some z)).bind λd=>some [d]).bind λds=>o6 .find (.str ri) ds).bind λb=>aE .Add (.int 256) b).bind λd2=>some [d2]).bind λds=>some (d::ds)).bind λds=>T.get eX ds)=some k)
(h4:yj (.str p) (some z) none=some (.str p2))(hl:row.length+1<=ei):
 Xa T qK ["row"] (n+1) X9 (qS o text told (.str p) (.lst row)) ["row"]=some (.nx (qS (some (.int z)) text told (.str p2) (.lst (row++[k]))) ["row"]):=by
 rcases o with _|o
 all_goals
  refine fR (bs:=[ak 0 X9,ak 1 X9,ak 2 X9]) ?_;refine fb (bZ (.int z) (tr (b:=((((dS T 29).d qK (du ["row"] (qS _ text told (.str p) (.lst row))) qC).bind λd=>aE .Add (.lst [.int 1]) d).bind λd=>some [d]).bind λds=>cH .max ds) (by rw[h1];exact h2))) ?_;refine fb (CX (ds:=row) (nW (d:=k) (tr h3)) hl) ?_;exact fb (bZ (.str p2) (tr h4)) (by rfl')
end
end
section
def lq(c:Nat):Bool:=mH.contains (c:Int)
def gG(cs:List Nat):List Nat:=(cs.filter λc=> !lq c).flatMap λc=>(mP c).cps.toList
inductive IM:List Nat->List Int->Prop
 |nil:IM [] []
 |cons {p:List Nat} {v:Int} {vs:List Int}:p≠[]->IL p=v->IM (p.drop (kA p)) vs->IM p (v::vs)
theorem ai2(s):IB eX (.str s)=some (L4.lookup s).isSome:=by
 unfold IB;rw[if_neg (by decide),if_pos (show eX=tw "EXACT_TOKEN_TYPES" from rfl)];rfl
theorem ai3(s)(d):IA eX [.str s,.int d]=some (.int ((L4.lookup s).getD d)):=by
 unfold IA;rw[if_neg (by decide),if_pos (show eX=tw "EXACT_TOKEN_TYPES" from rfl)];rfl
theorem BM(p:List Nat)(m:Nat)(h:p.length<=ei):yj (.str (mk p)) none (some (m:Int))=some (.str (mk (p.take m))):=by
 show(if(mk p).length<=ei then some (D.str ⟨(sl none (some (m:Int)) (mk p).cps.toList).toArray⟩)else none)=_;rw[qh,if_pos h,qz];unfold sl;congr 2;show mk _=mk _;congr 1;rw[show jP p.length 0 none=0 from rfl,wW,gJ];rw[zb];exact List.take_eq_take_min.symm
theorem MD(p:List Nat)(m:Nat)(h:p.length<=ei):yj (.str (mk p)) (some (m:Int)) none=some (.str (mk (p.drop m))):=by
 show(if(mk p).length<=ei then some (D.str ⟨(sl (some (m:Int)) none (mk p).cps.toList).toArray⟩)else none)=_;rw[qh,if_pos h,qz];unfold sl;congr 2;show mk _=mk _;congr 1;rw[show jP p.length p.length none=p.length from rfl];rw[zb,<-List.drop_eq_drop_min,rT (by rw[jj];exact Nat.sub_le_sub_left (Nat.min_le_left ..) _)]
theorem BN(l:List α)(d:α)(F:α->List β):(aM l.length).flatMap (λi=>F (l.getD i d))=l.flatMap F:=by
 have:(aM l.length).map (λi=>l.getD i d)=l:=by
  apply amD
  ·simp
  ·intro i h1 h2
   simp at h1;simp[h1]
 conv=>rhs;rw[<-this]
 rw[amE]
section
variable{T:ec}
theorem abM(hT:my T)(o:Option D)(text told row)(p)(hp:p.length<=ei):(dS T 29).d qK (du ["row"] (qS o text told (.str (mk p)) row)) qC=some (.lst ((if G5 p 2=true then[.int 2]else[])++(if G5 p 3=true then[.int 3]else[]))):=by
 have h:∀m:Nat,iF (dS T 28) (du ["row"] (qS o text told (.str (mk p)) row)) qC (.int m)=some (if G5 p m=true then[.int m]else[]):=λm=>by
  rw[q_c,BM p m hp,ag,hT.mem,ai2,show(L4.lookup (mk (p.take m))).isSome=G5 p m from rfl,F8]
 have h2:=h 2;have h3:=h 3;rw[show((2:Nat):Int)=2 from rfl]at h2;rw[show((3:Nat):Int)=3 from rfl]at h3;refine y6 (apZ ..) (ap0 ..) rfl ?_ ?_
 ·show((iF _ _ qC (.int 2)).bind λa=>((iF _ _ qC (.int 3)).bind λb=>(some []).bind λc=>some (b++c)).bind λb=>some (a++b))=_
  rw[h2,h3];simp
 ·rw[d9]
  cases G5 p 2<;>cases G5 p 3<;>decide
theorem abN(hT:my T)(o:Option D)(text told)(row)(p)(n)(hp:p.length<=ei)(hl:row.length+1<=ei):
 Xa T qK ["row"] (n+1) X9 (qS o text told (.str (mk p)) (.lst (row.map .int))) ["row"]=some (.nx (qS (some (.int (kA p))) text told (.str (mk (p.drop (kA p)))) (.lst ((row++[IL p]).map .int))) ["row"]):=by
 have h:=Vd (T:=T) o text told (row.map .int) (mk p) (mk (p.drop (kA p))) (kA p) (.int (IL p)) _ n (abM hT o text told (.lst (row.map .int)) p hp) ?_ ?_ (MD p _ hp) (by rw[aj];exact hl)
 ·rw[c7];exact h
 ·unfold kA
  cases G5 p 2<;>cases G5 p 3<;>rfl
 ·rw[BM p _ hp]
  show T.get eX [.str (mk (p.take (kA p))),.int (256+Ny ri (mk (p.take (kA p))))]=_;rw[hT.get,ai3];rfl
theorem abO(o:Option D)(text told row)(p):(dS T 31).b qK (qS o text told (.str p) row) (dw qW)=(some (p==mk [])).map λx=> !x:=by
 rcases o with _|o<;>rfl'
theorem Kr(o:Option D)(text told row)(p):(dS T 31).b qK (qS o text told (.str (mk p)) row) (dw qW)=some (!p.isEmpty):=by
 rw[abO];show some (!(mk p==mk []))=_;cases p with
 |nil=>rfl
 |cons a p=>
  have:(mk (a::p)==mk [])=false:=by
   rw[beq_eq_false_iff_ne];intro h;have:=congrArg (λx=>x.cps.toList) h;simp[mk]at this
  rw[this];rfl
theorem abP(hT:my T)(text told)(n):∀(m:Nat)(vs:List Int)(o:Option D)(p:List Nat)(row:List Int),IM p vs->vs.length<m->p.length<=ei->row.length+vs.length<=1000->
 ∃o',om (Xa T qK ["row"] (n+1)) (dS T 31) qK (dw qW) X9 m (qS o text told (.str (mk p)) (.lst (row.map .int))) ["row"]=some (.nx (qS o' text told (.str (mk [])) (.lst ((row++vs).map .int))) ["row"]):=λm=>by
 induction m with
 |zero=>intro vs o p row _ h _ _;exact absurd h (avm _)
 |succ m ih=>
  intro vs o p row t h hp hr;cases t with
  |nil=>
   refine⟨o,?_⟩;dsimp only[om];rw[Kr,c6];rfl
  |cons h1 h2 h3=>
   rename_i v vs;rw[bD]at h hr;have fX:=d9;obtain⟨o',ho⟩:=ih vs (some (.int (kA p))) (p.drop (kA p)) (row++[v]) h3 (by omega) (by rw[jj];omega) (by rw[aG];simp;omega);refine⟨o',?_⟩;dsimp only[om];rw[Kr,show p.isEmpty=false from by cases p<;>simp_all];show(Xa T qK ["row"] (n+1) X9 _ _).bind _=_;rw[abN hT o text told row p n hp (by omega),h2];rw[eN]at ho;exact ho
end
end
end Internal.Z
namespace Internal
section
section
variable{V:Ev}{ks:bW}{W:List Str}{wf:Nat}{X:XD}{σ:cu}{own:List Str}{st:Stmt}
theorem ze(out)(h:V.d ks (du own σ) (bk st)=some (.lst out))(hs:autoParam (st=.Assign [.Name (eG st) (jF st)] (bk st) (bV st)) Mxx.ka)(hk:autoParam ((Aq ks (eG st)&&(p8 (bk st)).isSome)=true) Mxx.ka):
 c9 V ks W wf X st σ own=some (.nx (kK W (eG st) (.lst out,true) (σ,own)).1 (kK W (eG st) (.lst out,true) (σ,own)).2):=by
 obtain⟨h1,h2⟩:=bX.mp hk;cases Fu:mu ks (eG st) (jF st) (bk st)with
 |true=>exact U9 out h hs (by rw[h1,h2,Fu];rfl)
 |false=>
  have:=bZ (W:=W) (wf:=wf) (X:=X) (.lst out) h hs (by rw[h1,Fu];rfl);obtain⟨x,hx⟩:=ay.mp h2;rw[show(j1 (bk st)&&mj (.lst out))=true from p9 hx▸rfl]at this;exact this
end
end
end Internal
namespace Internal.Z
section
def dch(c:Nat):D:=.str (ch c)
def o9(c:Nat):D:=.bool (lq c)
theorem sO:∀l:List α,(l.flatMap λ_=>([]:List β))=[]:=by
 intro zx
 induction zx with
 |nil=>
  exact rfl
 |cons a l ih=>
  rw[d7,ih];rfl
def b3D(c:Nat):List D:=if(!lq c)=true then[.str (mP c)]else[]
theorem QA(cs:List Nat):cs.flatMap b3D=((cs.filter λc=> !lq c).map mP).map .str:=by
 rw[eO];exact mx (p:=λc=> !lq c) (f:=λc=>D.str (mP c)) cs
section
variable{T:ec}
def qC0:ae:=bk (ak 0 qB)
def qC1:ae:=o8 0 (bk (ak 1 qB))
def qC2:ae:=bk (ak 2 qB)
abbrev qS0(text:D):cu:=[("text",text)]
abbrev qS1(text told:D):cu:=[("text",text),("told",told)]
abbrev qS2(text told plain:D):cu:=[("text",text),("told",told),("plain",plain)]
theorem ap4(text)(s):iF (dS T 30) (qS0 text) qC0 (.str s)=(T.fn "in_table_b1" [.str s]).map λd=>[d]:=by rfl'
theorem ap5(text)(told)(i):iF (dS T 29) (qS1 (.str text) (.lst told)) qC1 (.int i)=
 ((((fY (.lst told) i).bind λd=>cmp .Is d (.bool false)).bind λb=>if b=true then some true else some false).bind λb=>if b=true then(((fY (.str text) i).bind λd=>some [d]).bind λds=>T.fn "map_table_b3" ds).map λd=>[d]else some []):=by rfl'
theorem ai7(text)(told):(dS T 29).d qK (qS1 (.str text) told) (qg qC1)=((cH .len [.str text]).bind λd=>some [d]).bind λds=>cH .range ds:=by rfl'
theorem ap6(text told plain)(b):iF (dS T 30) (qS2 text told plain) qC2 (.bool b)=some []:=by cases b<;>rfl'
theorem getI_str{l:List Nat}{i:Nat}(h:i<l.length)(hb:l.length<2^60):fY (.str (mk l)) i=some (dch l[i]):=by
 rw[Uv (by omega)];unfold itS seqIndex?;rw[qh];have e1:¬((i:Int)<0):=by omega
 simp only[e1,if_false];rw[if_pos (by simp;omega),qz];simp[h,dch,ch]
theorem jq{α:Type}{l:List α}{f:α->D}{i:Nat}(h:i<l.length)(hb:l.length<2^60):fY (.lst (l.map f)) i=some (f l[i]):=by
 rw[za (by simpa using h) (by simpa using hb)];simp
theorem abR(hT:S1 T)(cs)(h:cs.length<=ei):(dS T 31).d qK (qS0 (.str (mk cs))) qC0=some (.lst (cs.map o9)):=by
 have e:=ik (T:=T) (V:=dS T 30) (ks:=qK) (σ:=qS0 (.str (mk cs))) (e:=qC0) (d:=.str (mk cs)) (φ:=dch) (xs:=cs) (g:=λc=>[o9 c])
  (by rfl') (by rfl') (by show some (sf (mk cs))=_;unfold sf;rw[qz];rfl) (λc hc=>by rw[show dch c=.str (ch c)from rfl,ap4,hT.b1];rfl) (by rw[eR,aj];exact h)
 rw[eR]at e;exact e
theorem Ve(hT:S1 T)(cs:List Nat)(h:cs.length<=1000):(dS T 30).d qK (qS1 (.str (mk cs)) (.lst (cs.map o9))) qC1=some (.lst (((cs.filter λc=> !lq c).map mP).map .str)):=by
 have fX:=d9;have e:=ik (T:=T) (V:=dS T 29) (ks:=qK) (σ:=qS1 (.str (mk cs)) (.lst (cs.map o9))) (e:=qC1) (d:=.nZ 0 cs.length 1) (φ:=di) (xs:=aM cs.length) (g:=λi=>b3D (cs.getD i 0))
  (by rfl') ((ai7 ..).trans (by
    rw[show cH .len [.str (mk cs)]=some (.int cs.length)from by show(if(mk cs).length<=ei then some (D.int (mk cs).length)else none)=_;rw[qh,if_pos (by omega)]];rfl)) (j7 _ (by omega)) (λi hi=>?_) ?_
 ·rw[BN cs 0 b3D,QA]at e
  exact e
 ·rw[cL]at hi
  rw[show di i=.int i from rfl,ap5];rewrite[jq hi (by omega),getI_str hi (by omega)];rw[ox hi];have h1:cmp .Is (o9 cs[i]) (.bool false)=some (!lq cs[i]):=by
   show some (lq cs[i]==false)=_;cases lq cs[i]<;>rfl
  rw[ag,h1,turn_if,ag,ag,show dch cs[i]=.str (ch cs[i])from rfl,hT.b3];unfold b3D;cases lq cs[i]<;>rfl
 ·rw[BN cs 0 b3D,QA,aj,aj]
  exact oy _ _ _ (by omega)
theorem ai8(text plain:D)(cs:List Nat):(dS T 31).d qK (qS2 text (.lst (cs.map o9)) plain) qC2=some (.lst []):=by
 have e:=ik (T:=T) (V:=dS T 30) (ks:=qK) (σ:=qS2 text (.lst (cs.map o9)) plain) (e:=qC2) (d:=.lst (cs.map o9)) (φ:=o9) (xs:=cs) (g:=λ_=>[])
  (by rfl') (by rfl') rfl (λc hc=>ap6 ..) (by rw[sO];exact de _)
 rw[sO]at e;exact e
theorem ai9(hT:S1 T)(hI:my T)(cs:List Nat)(vs:List Int)(h:cs.length<=1000)(hb:∀c∈cs,lq c=false->(mP c).length<=100)(t:IM (gG cs) vs)(hv:vs.length<60):
 Xa T qK ["row"] 20 qB (qS0 (.str (mk cs))) []=some (.rt (.lst ((vs++[0]).map .int))):=by
 have fX:=d9;have abS:∀l:List Nat,(∀c∈l,(mP c).length<=100)->((l.map mP).map (·.length)).sum<=100*l.length:=λl=>by
  induction l with
  |nil=>intro _;simp
  |cons a l ih=>
   intro hh;have:=ih λc hc=>hh c (aD _ hc);have h1:=hh a (aA ..);rw[bH,bH,qM,bD];omega
 have hf:∀c∈cs.filter (λc=> !lq c),(mP c).length<=100:=λc hc=>hb c (gy.mp hc).1 (by simpa using(gy.mp hc).2);have hs:=abS _ hf;have PR:=oy (λc=> !lq c) 1000 cs h;have hpl:(gG cs).length<=ei:=by
  unfold gG;have:∀l:List Nat,(l.flatMap λc=>(mP c).cps.toList).length=((l.map mP).map (·.length)).sum:=λl=>by
   induction l with
   |nil=>rfl
   |cons a l ih=>rw[d7,aG,ih,bH,bH,qM];congr 1
  rw[this];omega
 obtain⟨o',ho⟩:=abP (T:=T) hI (.str (mk cs)) (.lst (cs.map o9)) 18 60 vs none (gG cs) [] t hv hpl (by simp;omega);refine fR (bs:=[ak 0 qB,ak 1 qB,ak 2 qB,ak 3 qB,ak 4 qB]) ?_;refine fb (ze (cs.map o9) (tr (abR hT cs (by omega)))) ?_;refine fb (bZ (.str (mk (gG cs))) (tr (b:=(((dS T 30).d qK (qS1 (.str (mk cs)) (.lst (cs.map o9))) qC1).bind λd=>some [d]).bind λds=>o6 .join (.str (mk [])) ds) ?_)) ?_
 ·rw[Ve hT cs h,ag,ag,Qz (by omega)]
  unfold gG;rw[amE]
 refine fb (ze [] (tr (ai8 (T:=T) (.str (mk cs)) (.str (mk (gG cs))) cs))) ?_;refine fb (Qu (tr ho)) ?_;refine df (dR _ (tr (b:=aE .Add (.lst (vs.map .int)) (.lst [.int 0])) ?_ ?_))
 ·rw[qy (by rw[aj];simp;omega),c7];rfl
 ·rcases o' with _|o'<;>rfl'
end
end
section
theorem xD:∀{a b:List Stmt},cO S a σ own=some (.nx σ' own')->cO S b σ' own'=r->cO S (a++b) σ own=r:=by
 intro a b h k
 induction a generalizing σ own with
 |nil=>cases h;exact k
 |cons st a ih=>
  rw[cz];dsimp only[cO]at h⊢;obtain⟨r',h1,h2⟩:=aO h;rw[h1];cases r' with
  |nx xd aw1=>exact ih h2
  |rt d=>cases h2
def aja:D->List Str
 |.lst l=>(strs? l).getD []
 |_=>[]
def Ks:D->List Int
 |.lst l=>(gM l).getD []
 |_=>[]
def pK:bW:=uk "_law_page"
def pB:List Stmt:=bo "_law_page"
def pV(i:Nat):D:=((dS NJ 31).d pK [] (bk (ak i pB))).getD .none
def rO:D:=pV 0
def ME:D:=pV 1
def um:D:=pV 2
def IP:D:=pV 3
section
variable{T:ec}
end
end
def QB:D:=.lst [.int 8497,.int 8464,.int 8466,.int 383,.int 120139,.int 120130]
def dh:List Nat:=ri.cps.toList
def F9(l:Nat):Nat:=dh.idxOf l
def uo:List (List Nat):=(aja rO).map λx=>x.cps.toList
def IQ:List (Nat×List Nat):=match ME with
 |.lst l=>l.filterMap λd=>match d with
  |.tup [.int c,.str w]=>some (c.toNat,w.cps.toList)
  |_=>none
 |_=>[]
def Ga:List Nat:=(Ks um).map as3
def MG:List Nat:=(Ks IP).map as3
def MH:List Nat:=(Ks QB).map as3
def φV(x:Nat×List Nat):D:=.tup [di x.1,.str (mk x.2)]
theorem QC:rO=.lst (uo.map λx=>.str (mk x)):=by rfl'
theorem abT:ME=.lst (IQ.map φV):=by rfl'
theorem abU:um=.lst (Ga.map di):=by rfl'
theorem abV:IP=.lst (MG.map di):=by rfl'
theorem abW:QB=.lst (MH.map di):=by rfl'
theorem Ku:uo.length=48:=by rfl'
theorem Kv:Ga.length=12:=by rfl'
theorem Kw:MG.length=27:=by rfl'
def Kx(c:Nat)(w:List Nat):Bool:= !lq c&&((mP c).cps.toList==w&&b8 c 1114111)
theorem abX:(IQ.all λx=>Kx x.1 x.2&&(!x.2.isEmpty&&(x.2.all dh.contains&&b8 x.2.length 3)))=true:=by rfl'
theorem abY:(Ga.all λg=>dh.all λl=>Kx (g+l - 97) [l]&&b8 97 (g+l))=true:=by rfl'
theorem abZ:(MG.all λc=>lq c&&b8 c 1114111)=true:=by rfl'
def opC:List Nat:=[40,41,91,93,58,44,59,43,45,42,47,124,38,60,62,61,46,37,123,125,33,126,94,64]
theorem ab0:(opC.all λc=>Kx c [c]&& !dh.contains c)=true:=by rfl'
theorem Vf:(uo.all λo=>o.all (λc=>opC.contains c)&&(!o.isEmpty&&b8 o.length 3))=true:=by rfl'
theorem ab1:(uo.all λo=>o.all (λc=>Kx c [c]&& !dh.contains c)&&(!o.isEmpty&&b8 o.length 3))=true:=by
 refine aw.mpr λo ho=>?_;have h:=aw.mp Vf o ho;rw[av]at h⊢;exact⟨aw.mpr λc hc=>aw.mp ab0 c (cG.mp (aw.mp h.1 c hc)),h.2⟩
theorem Vg:((aM 48).all λi=>L4.lookup (mk (uo.getD i []))==some ((7+i:Nat):Int))=true:=by rfl'
theorem ajb:(L4.all λx=>x.1.cps.toList.all λc=> !dh.contains c)=true:=by rfl'
theorem CZ:(dh.all λl=>Ny ri (mk [l])==(F9 l:Int))=true:=by rfl'
theorem uq(hl:l∈dh)(hm:l∈s):L4.lookup (mk s)=none:=by
 cases h:L4.lookup (mk s)with
 |none=>rfl
 |some v=>
  have:=aw.mp ajb _ (mem_of_lookup h);dsimp only at this;rw[qz]at this;have:=aw.mp this l hm;simp[hl]at this
theorem zf(hl:l∈dh)(m)(h:0<m):G5 (l::p) m=false:=by
 unfold G5;obtain⟨m,rfl⟩:∃k,m=k+1:=⟨m - 1,by omega⟩
 rw[ad5,uq hl (aA ..)];rfl
theorem wH(hl:l∈dh):kA (l::p)=1:=by
 unfold kA;rw[zf hl 3 (by omega),zf hl 2 (by omega)];rfl
theorem IS(hl:l∈dh):IL (l::p)=256+(F9 l:Int):=by
 unfold IL;rw[wH hl];show(L4.lookup (mk [l])).getD (256+Ny ri (mk [l]))=_;rw[uq hl (aA ..)];have:=aw.mp CZ l hl;rw[eq_of_beq this];rfl
theorem ur(h:i<48):∃o,uo[i]? =some o/\L4.lookup (mk o)=some ((7+i:Nat):Int)/\o≠[]/\o.length<=3/\∀c∈o,Kx c [c]=true/\c∉dh:=by
 have hi:i<uo.length:=by rw[Ku];exact h
 refine⟨uo[i],by simp[hi],?_,?_⟩
 ·have:=aw.mp Vg i (cL.mpr h)
  rw[ox hi]at this;exact eq_of_beq this
 ·have:=aw.mp ab1 _ (hZ hi)
  simp only[av,cQ,aw]at this;obtain⟨h1,h2,h3⟩:=this;refine⟨λe=>by rw[e]at h2;simp at h2,bP h3,λc hc=>?_⟩;have:=h1 c hc;exact⟨this.1,by simpa using this.2⟩
theorem IT(hl:l∈dh)(h:o.length<m):G5 (o++l::p) m=false:=by
 unfold G5;rw[List.take_append,uq hl]
 ·rfl
 ·rw[fO]
  right;obtain⟨k,hk⟩:∃k,m - o.length=k+1:=⟨m - o.length - 1,by omega⟩
  rw[hk,ad5];exact aA ..
theorem Vh(hi:i<48)(ho:uo[i]? =some o)(hl:l∈dh):kA (o++l::p)=o.length/\IL (o++l::p)=((7+i:Nat):Int):=by
 obtain⟨o',h1,h2,h3,h4,h5⟩:=ur hi;rw[ho]at h1;cases(h1);have ht:G5 (o++l::p) o.length=true:=by
  unfold G5;rw[Lf,h2];rfl
 have h0:o.length≠0:=λe=>h3 (ix e);have hs:kA (o++l::p)=o.length:=by
  unfold kA;match hn:o.length,h0,h4 with
  |1,_,_=>rw[IT hl (by omega),IT hl (by omega)];rfl
  |2,_,_=>rw[hn]at ht;rw[IT hl (by omega),ht];rfl
  |3,_,_=>rw[hn]at ht;rw[ht];rfl
 refine⟨hs,?_⟩;unfold IL;rw[hs,Lf,h2];rfl
inductive Seg:List Nat->List Int->Prop
 |nil:Seg [] []
 |let{l:Nat} {p:List Nat} {vs:List Int}:l∈dh->Seg p vs->Seg (l::p) ((256+(F9 l:Int))::vs)
 |op {i:Nat} {o:List Nat} {l:Nat} {p:List Nat} {vs:List Int}:i<48->uo[i]? =some o->l∈dh->Seg (l::p) vs->Seg (o++l::p) (((7+i:Nat):Int)::vs)
theorem Seg.app(h:Seg p vs)(k:Seg q ws):Seg (p++q) (vs++ws):=by
 induction h with
 |nil=>exact k
 |«let» hl _ ih=>exact .let hl ih
 |op hi ho hl _ ih=>
  rw[eN,cz,cz];exact .op hi ho hl ih
theorem Seg.toks(h:Seg p vs):IM p vs:=by
 induction h with
 |nil=>exact .nil
 | @«let» l p vs hl _ ih=>
   refine .cons (by simp) (IS hl) ?_;rw[wH hl];exact ih
 | @op i o l p vs hi ho hl _ ih=>
   obtain⟨h1,h2⟩:=Vh (p:=p) hi ho hl;refine .cons (by simp) h2 ?_;rw[h1,List.drop_left];exact ih
theorem Seg.lets:∀{w:List Nat},(∀l∈w,l∈dh)->Seg w (w.map λl=>256+(F9 l:Int)):=by
 intro zx
 induction zx with
 |nil=>
  rintro _
  exact .nil
 |cons l w ih=>
  rintro h
  exact .let (h l (aA ..)) (ih λx hx=>h x (aD _ hx))
section
section
variable{T:ec}
theorem QD(w):items (.str (mk w))=some (w.map dch):=by
 show some (sf (mk w))=_;unfold sf;rw[qz];rfl
end
end
section
theorem sP{a n:Nat}(ha:a<1000000)(hn:n<=100000):aE .Pow (.int a) (.int n)=some (.int (a^n:Nat)):=by
 show(if(a:Int).natAbs<18446744073709551616/\(0:Int)<=n/\(n:Int)<=100000 then some (D.int ((a:Int)^(n:Int).toNat))else none)=_;rw[if_pos (by omega),aR,gE]
theorem nJ{a b:Nat}(hb:0<b)(hs:sm b=true):aE .FloorDiv (.int a) (.int b)=some (.int (a/b:Nat)):=by
 show(if(b:Int)≠0/\sm b=true then some (D.int ((a:Int).fdiv b))else none)=_;rw[if_pos ⟨by omega,hs⟩,bN _ (by omega)];rfl
theorem i6{a b:Nat}(hb:0<b):aE .Mod (.int a) (.int b)=some (.int (a%b:Nat)):=by
 show dA (if(b:Int)≠0 then some (D.int ((a:Int).fmod b))else none) _=_;rw[if_pos (by omega),cy _ (by omega)];rfl
theorem zg{x n:Nat}(h:x<=2^n)(hn:n<1000):sm x=true:=by
 unfold sm;refine decide_eq_true ?_;rw[iC];exact bj h (jg (by decide) hn)
theorem C0{b k n:Nat}(hb:b<=2^n)(h:n*k<1000):sm ((b^k:Nat):Int)=true:=
 zg (n:=n*k) (by rw[Nat.pow_mul];exact Nat.pow_le_pow_left hb k) h
theorem ab2:(dh.all λl=>match o6 .index (.str ri) [.str (ch l)]with|some (.int i)=>i==(F9 l:Int)|_=>false)=true:=by rfl'
theorem Vi(h:l∈dh):o6 .index (.str ri) [.str (ch l)]=some (di (F9 l)):=by
 have:=aw.mp ab2 l h;split at this
 ·rename_i i he
  rw[he,eq_of_beq this];rfl
 ·cases this
theorem nL(i):intD (.int i)=some i:=rfl
theorem ajc(c):ch c=mk [c]:=rfl
theorem Ky{α:Type}{l:List α}{f:α->D}{i:Nat}{x:α}(h:l[i]? =some x)(hb:l.length<2^60):fY (.lst (l.map f)) i=some (f x):=by
 obtain⟨h1,h2⟩:=ff.mp h;rw[jq h1 hb,h2]
theorem Kz{c:Nat}(h:c<=1114111):cH .chr [.int c]=some (.str (ch c)):=by
 show(if(0:Int)<=c/\(c:Int)<=0x10FFFF then some (D.str ⟨#[(c:Int).toNat]⟩)else none)=_;rw[if_pos (by omega),aR];rfl
theorem add_str(h:a.length+b.length<=ei):aE .Add (.str (mk a)) (.str (mk b))=some (.str (mk (a++b))):=by
 show dA (if(mk a).length+(mk b).length<=ei then some (D.str (mk a++mk b))else none) _=_;rw[qh,qh,if_pos h,IK];rfl
theorem Vj(h:a.length+b.length<=ei):Ih .Add (.str (mk a)) (.str (mk b))=some (.str (mk (a++b))):=by
 show(if(mk a).length+(mk b).length<=ei then some (D.str (mk a++mk b))else none)=_;rw[qh,qh,if_pos h,IK]
theorem zi(h:Kx c w=true):lq c=false/\(mP c).cps.toList=w/\c<=1114111:=by
 unfold Kx at h;simp only[av,cQ]at h;exact⟨h.1,eq_of_beq h.2.1,bP h.2.2⟩
theorem KA(h:Kx c w=true)(hw:w.length<=3):(mP c).length<=100:=by
 have:=congrArg qp (zi h).2.1;have e:(mP c).cps.toList.length=(mP c).length:=by simp[Str.length]
 omega
theorem Gb(h:Kx c w=true):gG [c]=w:=by
 obtain⟨h1,h2,_⟩:=zi h;unfold gG;rw[dk,h1];simpa using h2
theorem qA(a b):gG (a++b)=gG a++gG b:=by
 unfold gG;rw[eu,ad6]
theorem MJ(h:lq c=true):gG [c]=[]:=by
 unfold gG;rw[dk,h];rfl
section
variable{T:ec}
end
end
section
def vL(l:Nat):Int:=256+(F9 l:Int)
theorem QE(h:∀c∈o,Kx c [c]=true):gG o=o:=by
 induction o with
 |nil=>rfl
 |cons c o ih=>
  rw[show c::o=[c]++o from rfl,qA,Gb (h c (aA ..)),ih λx hx=>h x (aD _ hx)]
section
variable{T:ec}
theorem MK(h:j<27):∃c,MG[j]? =some c/\lq c=true/\c<=1114111:=by
 have hj:j<MG.length:=by rw[Kw];exact h
 have:=aw.mp abZ _ (hZ hj);rw[av]at this;exact⟨MG[j],by simp[hj],this.1,bP this.2⟩
end
end
section
section
variable{T:ec}
end
end
section
theorem ab3{V:Ev}{ks:bW}{W:List Str}{wf:Nat}{X:XD}{σ:cu}{own:List Str}{st:Stmt}{ds:List D}(hl:ds.length<=ei)(ha:autoParam (look σ (j4 st)=some (.lst ds)) Mxx.ka)(hs:autoParam (rH (X5 st)=some (MA st)) Mxx.ka)(hx:autoParam (st=.Expr (X5 st) (bV st)) Mxx.ka)
(hm:autoParam ((MA st).2.1="reverse") Mxx.ka)(hg:autoParam ((MA st).2.2=[]) Mxx.ka)(ho:autoParam ((own.contains (j4 st)&& !(j4 st==("__debug__":Str)))=true) Mxx.ka):c9 V ks W wf X st σ own=some (.nx (put (j4 st) (.lst ds.reverse) σ) own):=by
 refine Kq hs hx ho ha ?_;rw[hg,hm];exact if_pos ⟨rfl,hl⟩
section
variable{T:ec}
def nK:bW:=uk "_div2n1n"
def nB:List Stmt:=bo "_div2n1n"
theorem ajd(hI:my T)(a b n:Int)(h1:cg a - n<=4000)(hb:b≠0)(hs:sm b=true):Xa T nK [] 20 nB [("a",.int a),("b",.int b),("n",.int n)] []=some (.rt (.tup [.int (a.fdiv b),.int (a.fmod b)])):=by
 obtain⟨rest,hr⟩:∃rest,rest=nB.drop 1:=⟨_,rfl⟩;refine fR (b:=nB) (bs:=ak 0 nB::rest) ?_ (by rw[hr];rfl');refine fT (b:=[ak 0 (br (ak 0 nB))]) (tr (b:=(T.gl "_DIV_LIMIT").bind λd=>cmp .LtE (.int (cg a - n)) d) ?_) (fR (bs:=[ak 0 (br (ak 0 nB))]) (df (dR _ (tr (b:=cH .divmod [.int a,.int b]) ?_))))
 ·rw[hI.gl]
  have:UX "_DIV_LIMIT"=some (.int 4000):=by rfl'
  rw[this];show some (decide (cg a - n<=4000))=_;rw[decide_eq_true h1]
 ·show(if b≠0/\sm b=true then some (D.tup [.int (a.fdiv b),.int (a.fmod b)])else none)=_
  rw[if_pos ⟨hb,hs⟩]
def vK:bW:=uk "_divmod_pos"
def vB:List Stmt:=bo "_divmod_pos"
def vF:Stmt:=ak 4 vB
def vFB:List Stmt:=br vF
def vS(o:Option (D×D))(a b n ad r:D)(qs:List D):cu:=([("a",a),("b",b),("n",n),("a_digits",ad),("r",r),("q_digits",.lst qs)]:cu)++(match o with|none=>[]|some (x,y)=>[("a_digit",x),("q_digit",y)])
theorem Vk(o:Option (D×D))(a ad)(b n r d q r2)(qs)(m)(h1:((((aE .LShift (.int r) (.int n)).bind λx=>aE .Add x (.int d)).bind λx=>some [x,.int b,.int n]).bind λds=>T.fn "_div2n1n" ds)=some (.tup [.int q,.int r2]))(hl:qs.length+1<=ei):
 Xa T vK ["q_digits"] (m+1) vFB (g1 (fg vK (iM vF) (.int d) (vS o a (.int b) (.int n) ad (.int r) qs,["q_digits"]))) (g2 (fg vK (iM vF) (.int d) (vS o a (.int b) (.int n) ad (.int r) qs,["q_digits"])))=
  some (.nx (vS (some (.int d,.int q)) a (.int b) (.int n) ad (.int r2) (qs++[.int q])) ["q_digits"]):=by
 rcases o with _|⟨x,y⟩
 all_goals
  refine fR (bs:=[ak 0 vFB,ak 1 vFB]) ?_;refine fb (mO (.tup [.int q,.int r2],false) (nW (d:=.tup [.int q,.int r2]) (tr h1))) ?_;exact fb (CX (ds:=qs) (nW (d:=.int q) (by rfl')) hl) (by rfl')
theorem ab4(o:Option (D×D))(a ad b n r d)(qs):fg vK (iM vF) d (vS o a b n ad r qs,["q_digits"])=some (g1 (fg vK (iM vF) d (vS o a b n ad r qs,["q_digits"])),g2 (fg vK (iM vF) d (vS o a b n ad r qs,["q_digits"]))):=by
 rcases o with _|⟨x,y⟩<;>rfl'
end
end
def da(n:Nat):Nat->Nat->List Nat
 |0,_=>[]
 |c+1,x=>x%2^n::da n c (x/2^n)
def pf(n:Nat):List Nat->Nat
 |[]=>0
 |x::r=>x+2^n*pf n r
theorem fz(n):∀c x,(da n c x).length=c:=by
 intro zx
 induction zx with
 |zero=>
  rintro _;exact rfl
 |succ c ih=>
  rintro x;rw[da,bD,ih]
theorem rQ(n):∀c x,∀d∈da n c x,d<2^n:=by
 intro zx
 induction zx with
 |zero=>
  rintro _ d h;cases h
 |succ c ih=>
  rintro x d h;rw[da]at h;rcases aJ.mp h with rfl|h
  ·exact dJ _ (eZ (by decide))
  ·exact ih _ d h
theorem wJ(n):∀c x,x<2^(n*c)->pf n (da n c x)=x:=by
 intro zx
 induction zx with
 |zero=>
  rintro x h;rw[tv,Nat.pow_zero]at h;have:x=0:=by omega
  subst this;rfl
 |succ c ih=>
  rintro x h;rw[da,pf,ih]
  ·exact Nat.mod_add_div x (2^n)
  ·rw[lz,iy]at h
   exact mU (by rw[eS];exact h)
theorem jr(n):∀l:List Nat,j3 n (l.map fN)=(pf n l:Int):=by
 intro zx
 induction zx with
 |nil=>
  exact rfl
 |cons x l ih=>
  rw[bH,pf];show(x:Int)+2^n*j3 n (l.map fN)=_;rw[ih];push_cast;rfl
theorem IU(n):∀(l:List Nat),(∀d∈l,d<2^n)->da n l.length (pf n l)=l:=by
 intro zx
 induction zx with
 |nil=>
  rintro _;exact rfl
 |cons x l ih=>
  rintro h;have hx:=h x (aA ..);have hp:0<2^n:=eZ (by decide);rw[bD,da,pf,Nat.add_mul_mod_self_left,rS hx,Nat.add_mul_div_left _ _ hp,as4 hx,jw,ih λd hd=>h d (aD _ hd)]
theorem QF(n):∀(l:List Nat),(∀d∈l,d<2^n)->pf n l<2^(n*l.length):=by
 intro zx
 induction zx with
 |nil=>
  rintro _;simp[pf]
 |cons x l ih=>
  rintro h;have hx:=h x (aA ..);have ih:=ih λd hd=>h d (aD _ hd);rw[bD,lz,jx,iy,pf];have:2^n*(pf n l+1)<=2^n*2^(n*l.length):=cY _ ih;rw[mT,Hf]at this;omega
def sQ(n b:Nat)(s:Nat×List Nat)(d:Nat):Nat×List Nat:=((s.1*2^n+d)%b,s.2++[(s.1*2^n+d)/b])
def uu(n:Nat)(l:List Nat):Nat:=l.foldl (λv d=>v*2^n+d) 0
theorem uv(n:Nat)(l:List Nat)(d:Nat):uu n (l++[d])=uu n l*2^n+d:=by unfold uu;rw[fJ];rfl
theorem Gd(n:Nat):∀l:List Nat,uu n l.reverse=pf n l:=by
 intro zx
 induction zx with
 |nil=>
  exact rfl
 |cons x l ih=>
  rw[iX,uv,ih,pf,eS,jx]
theorem zj{α:Type}{P:List α->Prop}(h0:P [])(h1:∀l a,P l->P (l++[a]))(l:List α):P l:=by
 have:∀l:List α,P l.reverse:=λl=>by
  induction l with
  |nil=>exact h0
  |cons a l ih=>rw[iX];exact h1 _ _ ih
 have:=this l.reverse;rwa[YX]at this
theorem QG(n b:Nat)(hb:0<b)(l:List Nat)(hl:∀d∈l,d<2^n):(l.foldl (sQ n b) (0,[])).1=uu n l%b/\uu n (l.foldl (sQ n b) (0,[])).2=uu n l/b/\(∀q∈(l.foldl (sQ n b) (0,[])).2,q<2^n)/\(l.foldl (sQ n b) (0,[])).2.length=l.length:=by
 induction l using zj with
 |h0=>exact⟨by simp[uu],by simp[uu],by simp,rfl⟩
 |h1 l a ih=>
  obtain⟨i1,i2,i3,i4⟩:=ih λd hd=>hl d (List.mem_append_left _ hd);have ha:a<2^n:=hl a (by simp);rw[fJ];generalize l.foldl (sQ n b) (0,[])=s at i1 i2 i3 i4;show(s.1*2^n+a)%b=_/\uu n (s.2++[(s.1*2^n+a)/b])=_/\(∀q∈s.2++[(s.1*2^n+a)/b],q<2^n)/\(s.2++[(s.1*2^n+a)/b]).length=_;have hr:s.1<b:=by rw[i1];exact dJ _ hb
  have key:uu n (l++[a])=b*(uu n l/b*2^n)+(s.1*2^n+a):=by
   rw[uv,i1];have:=Jv (uu n l) b
   conv=>lhs;rw[<-this]
   rw[Hi,Sh,Ad]
  refine⟨?_,?_,λq hq=>?_,?_⟩
  ·rw[key,Jw]
  ·rw[uv,i2,key,Nat.mul_add_div hb]
  ·rcases fO.mp hq with h|h
   ·exact i3 q h
   ·rw[aY.mp h]
    refine mU ?_;have:(s.1+1)*2^n<=b*2^n:=ad0 _ hr;rw[Hi,ad7]at this;omega
  ·rw[aG,aG,i4];rfl
def jd(x:Nat):Nat:=if x=0 then 0 else x.log2+1
theorem xE(x:Nat):cg (x:Int)=jd x:=by
 unfold cg jd;by_cases h:x=0
 ·subst h;rfl
 ·rw[if_neg h]
  have:((x:Int)==0)=false:=by rw[beq_eq_false_iff_ne];omega
  simp[this,h]
theorem C1(x):x<2^jd x:=by
 unfold jd;split
 ·subst_vars;decide
 ·exact as5
theorem j8(h:x<2^k):jd x<=k:=by
 unfold jd;split
 ·exact de _
 ·rename_i h0
  exact(adP h0).mpr h
def pC(n x:Nat):Nat:=(jd x+n - 1)/n
def fG(n x:Nat):List Nat:=da n (pC n x) x
theorem zk(hn:0<n):jd x<=n*pC n x/\n*pC n x<=jd x+n - 1:=by
 unfold pC;have h1:=Jv (jd x+n - 1) n;have h2:=dJ (jd x+n - 1) hn;exact⟨by omega,Nat.mul_div_le ..⟩
theorem ML(hn:0<n):pf n (fG n x)=x:=by
 refine wJ n _ x (ck (C1 x) (bM (by decide) (zk hn).1))
end Internal.Z
namespace Internal
open Internal.Z (da fz rQ wJ)
theorem uw(a):cR (cR (a:Int))=a:=by unfold cR;omega
theorem IV(a b:Nat):nP (a:Int) (b:Int)=((a ||| b:Nat):Int) - ((a &&& b:Nat):Int):=by
 have h1:iZ (a:Int) (b:Int)=((a &&& b:Nat):Int):=by
  unfold iZ;rw[decide_eq_true (by omega),decide_eq_true (by omega)];rfl
 have h2:amF (a:Int) (b:Int)=((a ||| b:Nat):Int):=by
  unfold amF;have n1:¬(0<=cR (a:Int)):=by unfold cR;omega
  have n2:¬(0<=cR (b:Int)):=by unfold cR;omega
  have h3:iZ (cR (a:Int)) (cR (b:Int))=cR (((a ||| b:Nat)):Int):=by
   unfold iZ;rw[decide_eq_false n1,decide_eq_false n2];dsimp only;rw[uw,uw,aR,aR]
  rw[h3,uw]
 unfold nP;rw[h1,h2]
theorem Vl(x s:Nat):nP (x:Int) ((x/2^s*2^s:Nat):Int)=((x%2^s:Nat):Int):=by
 have hb:∀i,(x/2^s*2^s).testBit i=(decide (s<=i)&&x.testBit i):=λi=>by
  rw[eS,Nat.testBit_two_pow_mul];by_cases h:s<=i
  ·rw[Nat.testBit_div_two_pow];simp[h]
  ·simp[h]
 have h1:x ||| (x/2^s*2^s)=x:=by
  apply xk;intro i;rw[Nat.testBit_or,hb];cases x.testBit i<;>simp
 have h2:x &&& (x/2^s*2^s)=x/2^s*2^s:=by
  apply xk;intro i;rw[tP,hb];cases x.testBit i<;>simp
 rw[IV,h1,h2];have:=Jv x (2^s);rw[eS]at this;omega
theorem Ge(n):∀(a b x:Nat),da n (a+b) x=da n a (x%2^(n*a))++da n b (x/2^(n*a)):=by
 intro zx
 induction zx with
 |zero=>
  rintro b x;simp[da]
 |succ a ih=>
  rintro b x;rw[show a+1+b=(a+b)+1 by omega,da,da,ih b,cz];have e:2^(n*(a+1))=2^n*2^(n*a):=by rw[lz,jx,iy]
  rw[e];congr 1
  ·rw[Nat.mod_mul_right_mod]
  ·rw[pM,Nat.div_div_eq_div_mul]
theorem Gf(n x)(h:x<2^n):da n 1 x=[x]:=by
 show[x%2^n]=_;rw[rS h]
theorem bG.trans(a:bG P h1 h2)(b:bG P h2 h3):bG P h1 h3:=λx o e ne=>b x o (a x o e ne) ne
theorem bG.of(a:bT h1 h2):bG P h1 h2:=λx o e _=>a x o e
theorem MM(t:IsL h P it k)(x:h.Ns a m):a≠P:=λe=>by
 obtain⟨o,es,ep,h2,h3,_⟩:=x;have h1:h.get? P=some _:=t;rw[e,h1]at h2;cases h2;cases h3
theorem IW(t:IsL h P it j)(k:bG P h h')(x:h.Ns a m):h'.Ns a m:=x.at' λo e=>k a o e (MM t x)
theorem dq.ab5(t:IsL s.heap P it j)(k:bG P s.heap s'.heap)(am:dq A La s)(tk:1<=s'.toks)(NH:∀h',bG P s.heap h'->La h'):dq A La s':=by
 obtain⟨mc,n1,n2⟩:=am.nb;obtain⟨mc',l1,l2⟩:=am.nl;obtain⟨mg,g1⟩:=am.gl;exact⟨am.hh,⟨mc,IW t k n1,n2⟩,⟨mc',IW t k l1,l2⟩,⟨mg,IW t k g1⟩,tk,am.un,λh kh=>NH h (bG.trans k (bG.of kh))⟩
end Internal
namespace Internal.I
section
def eB:List Stmt:=yW "_int2digits" pw.main.body
def eI:Stmt:=ak 1 eB
def jB:List Stmt:=Cc eI
def jK:bW:=(nY eI).names
def jC(i:Nat):ae:=bk (ak i jB)
def asT(st:Stmt):ae:=qf st
def ap8(e:ae):ae:=IC e
def ap9(e:ae):ae:=pA e
def jT:List Stmt:=br (ak 0 jB)
def Vm:List Stmt:=[.Assign [.Name "mid" (jF (ak 1 jB))] (bk (ak 1 jB)) (bV (ak 1 jB)),.Assign [.Name "shift" (jF (ak 2 jB))] (bk (ak 2 jB)) (bV (ak 2 jB)),.Assign [.Name "upper" (jF (ak 3 jB))] (bk (ak 3 jB)) (bV (ak 3 jB)),.Assign [.Name "lower" (jF (ak 4 jB))] (bk (ak 4 jB)) (bV (ak 4 jB))]
theorem jC5:jC 5=.Call (.Name "inner" (pA (jC 5)).pos) [.Name "lower" (o8 0 (jC 5)).pos,.Name "L" (o8 1 (jC 5)).pos,.Name "mid" (o8 2 (jC 5)).pos] [] (jC 5).pos:=by rfl'
theorem jC6:jC 6=.Call (.Name "inner" (pA (jC 6)).pos) [.Name "upper" (o8 0 (jC 6)).pos,.Name "mid" (o8 1 (jC 6)).pos,.Name "R" (o8 2 (jC 6)).pos] [] (jC 6).pos:=by rfl'
theorem aje:jB=.If (dw (ak 0 jB)) jT [] (bV (ak 0 jB))::(Vm++[.Expr (jC 5) (bV (ak 5 jB)),.Expr (jC 6) (bV (ak 6 jB))]):=by rfl'
theorem ajf:jT=[.Assign [.Subscript (.Name "a_digits" (ap9 (asT (ak 0 jT))).pos) (.Name "L" (ap8 (asT (ak 0 jT))).pos) (asT (ak 0 jT)).pos] (.Name "x" (bk (ak 0 jT)).pos) (bV (ak 0 jT)),.Return none (bV (ak 1 jT))]:=by rfl'
abbrev IX(x L R n:Int):cu:=[("x",.int x),("L",.int L),("R",.int R),("n",.int n)]
abbrev jS1(x L R n m t u l:Int):cu:=IX x L R n++([("mid",.int m),("shift",.int t),("upper",.int u),("lower",.int l)]:cu)
section
variable{T:ec}
theorem ab6(x L R n):(V6 T).b jK (IX x L R n) (dw (ak 0 jB))=some (L+1==R):=by rfl'
theorem j_x(x L R n)(p):(V6 T).d jK (IX x L R n) (.Name "x" p)=some (.int x):=by rfl'
theorem j_L(x L R n)(p):(V6 T).d jK (IX x L R n) (.Name "L" p)=some (.int L):=by rfl'
theorem ajh(x L R n):(V6 T).d jK (IX x L R n) (bk (ak 1 jB))=some (.int ((L+R).fdiv (2^(1:Int).toNat))):=by rfl'
theorem aqa(x L R n m):(V6 T).d jK (IX x L R n++([("mid",.int m)]:cu)) (bk (ak 2 jB))=aE .Mult (.int (m - L)) (.int n):=by rfl'
theorem aqb(x L R n m t):(V6 T).d jK (IX x L R n++([("mid",.int m),("shift",.int t)]:cu)) (bk (ak 3 jB))=aE .RShift (.int x) (.int t):=by rfl'
theorem aqc(x L R n m t u):(V6 T).d jK (IX x L R n++([("mid",.int m),("shift",.int t),("upper",.int u)]:cu)) (bk (ak 4 jB))=(aE .LShift (.int u) (.int t)).bind λd=>aE .BitXor (.int x) d:=by rfl'
theorem aqd(x L R n m t u l)(p q r):tJ ((V6 T).d jK (jS1 x L R n m t u l)) [.Name "lower" p,.Name "L" q,.Name "mid" r]=some [.int l,.int L,.int m]:=by rfl'
theorem aqe(x L R n m t u l)(p q r):tJ ((V6 T).d jK (jS1 x L R n m t u l)) [.Name "upper" p,.Name "mid" q,.Name "R" r]=some [.int u,.int m,.int R]:=by rfl'
end
structure js(h:Heap)(F:Addr->Prop)(f:Addr)(n:Nat)(o:Obj)(fd:jI)(cl:List (Str×Addr))(cd ci cn al:Addr):Prop where
 ho:h.get? f=some o
 hd:o.data=.func fd
 fi:Qd fd ["x","L","R"] jB jK cl
 rc:h.CodeRec fd.code fd.qualname
 ld:cl.lookup ("a_digits":Str)=some cd
 li:cl.lookup ("inner":Str)=some ci
 ln:cl.lookup ("n":Str)=some cn
 hF:∀m c,cl.lookup m=some c->F c
 fa:F al
 na:∀m c,cl.lookup m=some c->c≠al
 vd:h.IsCell cd (some (.ref al))
 vi:h.IsCell ci (some (.ref f))
 vn:∃v,h.IsCell cn (some v)/\bU h F (.int n) v
end
end Internal.I
namespace Internal.I
section
open Internal.Z (da fz)
section
variable{prog:bb}{w:World}{A:aC}{E:Value->ah->Prop}{G F:Addr->Prop}{env:Env}{La:Heap->Prop}{T:ec}
theorem js.but(I:js h F f n o fd cl cd ci cn al)(t:IsL h al it j)(k:bG al h h'):js h' F f n o fd cl cd ci cn al:=by
 have t:h.get? al=some _:=t;have ne:∀{b:Addr}{o:Obj},h.get? b=some o->(∀x y,o.data≠.seq x y)->h'.get? b=some o:=λ{b o} e hd=>k b o e λz=>by
  rw[z,t]at e;cases e;exact hd _ _ rfl
 have cell:∀{c:Addr}{v:Option Value},h.IsCell c v->h'.IsCell c v:=λ{c v} ⟨o,e,d⟩=>⟨o,ne e (λx y q=>by rw[d]at q;cases q),d⟩
 have rc:h'.CodeRec fd.code fd.qualname:=by
  obtain⟨c,o,vs,tk,e,g,d,v⟩:=I.rc;exact⟨c,o,vs,tk,e,ne g (λx y q=>by rw[d]at q;cases q),d,v⟩
 obtain⟨v,a,b⟩:=I.vn;refine⟨ne I.ho (λx y q=>by rw[I.hd]at q;cases q),I.hd,I.fi,rc,I.ld,I.li,I.ln,I.hF,I.fa,I.na,cell I.vd,cell I.vi,v,cell a,?_⟩;exact lO (d:=.int n) rfl b
theorem js.mono(I:js h F f n o fd cl cd ci cn al)(hF:∀a,F a->G a):js h G f n o fd cl cd ci cn al:=by
 obtain⟨v,a,b⟩:=I.vn;exact⟨I.ho,I.hd,I.fi,I.rc,I.ld,I.li,I.ln,λm c e=>hF c (I.hF m c e),hF _ I.fa,I.na,I.vd,I.vi,v,a,lO (d:=.int n) rfl b⟩
theorem allFlat(ds:List Nat):(ds.map di).all nv=true:=by
 induction ds with
 |nil=>rfl
 |cons d ds ih=>rw[bH,qG,ih];rfl
theorem Acc.any{h h':Heap}{F G:Addr->Prop}{al:Addr}{ds:List Nat}(a:Acc F h al (ds.map di))(k:h.get? al=h'.get? al\/bT h h'):Acc G h' al (ds.map di):=by
 obtain⟨vs,n,q1,q2⟩:=a;have q1:h.get? al=some _:=q1;refine⟨vs,n,?_,eJ (allFlat ds) q2⟩;rcases k with k|k
 ·show h'.get? al=_
  rw[<-k];exact q1
 ·exact k _ _ q1
def wK(s:ah)(F:Addr->Prop)(al:Addr)(ds:List Nat)(v:Value)(s':ah):Prop:=v=.none/\1<=s'.toks/\(∃h tk,s'={s with heap:=h,toks:=tk})/\bG al s.heap s'.heap/\Acc F s'.heap al (ds.map di)
def BO(w:World)(La:Heap->Prop)(f:Addr)(n:Nat)(o:Obj)(fd:jI)(cl:List (Str×Addr))(cd ci cn al:Addr)(cnt:Nat)(k:Nat):Prop:=
 ∀(x L R:Nat),L<R->R<=cnt->R - L<=2^k->x<2^(n*(R - L))->∀(A:aC)(E:Value->ah->Prop)(s:ah)(F:Addr->Prop)(vs:List Value)(ds:List Nat),Bq (k+1) A->dq A La s->iQ F s.heap->
  js s.heap F f n o fd cl cd ci cn al->Acc F s.heap al (ds.map di)->ds.length=cnt->(∀h',bG al s.heap h'->La h')->aZ s.heap F [.int x,.int L,.int R] vs->
   wpAny (model pw w) A (call (.ref f) vs) (wK s F al (ds.take L++da n (R - L) x++ds.drop R)) E s
theorem MN(ds:List Nat)(L x:Nat)(h:L<ds.length):ds.set L x=ds.take L++[x]++ds.drop (L+1):=by
 rw[List.set_eq_take_append_cons_drop,if_pos h];simp
theorem QH{s:ah}{σ:cu}{L x:Int}{ds:List Nat}{al cd:Addr}{V:Ev}{Qf:aC->Prop}{np lp p xp pos:Pos}{Q:Flow->ah->Prop}(VO:c8 prog w La Qf V)(bu:Qf A)(am:dq A La s)(y:In env G σ s.heap)(hk:env.kindOf "a_digits"=some .free)(hc:env.cells.lookup ("a_digits":Str)=some cd)(hv:s.heap.IsCell cd (some (.ref al)))
(ac:Acc G s.heap al (ds.map di))(hx:V.d env.scope.names σ (.Name "x" xp)=some (.int x))(hL:V.d env.scope.names σ (.Name "L" lp)=some (.int L))(h0:0<=L)(h1:L<ds.length)(fX:ds.length<=ei)(hx0:0<=x)
(k:∀h tk,1<=tk->bG al s.heap h->Acc G h al ((ds.set L.toNat x.toNat).map di)->Q .next {s with heap:=h,toks:=tk}):
 wpAny (model prog w) A (exec (.Assign [.Subscript (.Name "a_digits" np) (.Name "L" lp) p] (.Name "x" xp) pos) env) Q E s:=by
 have Mb:exec (.Assign [.Subscript (.Name "a_digits" np) (.Name "L" lp) p] (.Name "x" xp) pos) env=(do
  standAt pos
  let v<-eval (.Name "x" xp) env
  assignStores env v none [assign (.Subscript (.Name "a_digits" np) (.Name "L" lp) p) env]):=rfl
 rw[Mb];refine ao (dF (ao (ai (bw am.tk (VO.d A E env G σ s _ _ bu am y hx)) (λv s1 q=>?_) λ_ _ e=>e)));obtain⟨t1,k1,r1⟩:=q;show wpAny _ _ (do assignAll v [assign (.Subscript (.Name "a_digits" np) (.Name "L" lp) p) env];pure rm) _ _ _;refine ao ?_;show wpAny _ _ (assign (.Subscript (.Name "a_digits" np) (.Name "L" lp) p) env v) _ _ _;rw[yL];have y1:=y.keeps (Keeps.all k1);have iL:=am.keeps k1 t1;refine ao (bQ (i5 (Dt y.fn hk hc (hv.keeps (Keeps.all k1)) ?_ (by decide)) (by decide)));refine ao (bQ (ai (bw t1 (VO.d A E env G σ s1 _ _ bu iL y1 hL)) (λiv s2 q=>?_) λ_ _ e=>e));obtain⟨t2,k2,r2⟩:=q;obtain⟨t,rfl⟩:=r2.int;have J0:=Keeps.trans' k1 k2;obtain⟨vs,m,q1,q2⟩:=ac;have q1':IsL s2.heap al vs m:=Keeps.all J0 _ _ q1;have hsz:vs.size=ds.length:=by have h0:=q2.length;rw[cj,aj]at h0;exact h0
 have hl:ei=1048576:=rfl;refine ao (dF (ao (bQ (ki_setAt (n:=m) q1' h0 (by omega) (by rw[hsz];exact h1) (wA ?_)))));have hs:rU al s2.heap (s2.heap.update al (jh (·.setIfInBounds L.toNat v))):=ly ..;obtain⟨hh,tt,rfl,kk⟩:=J0;refine aL (k _ _ t2 (λb o e ne=>hs.extBut b o ne (kk b o e)) ⟨_,_,pJ q1' _,?_⟩);rw[Ju];have e1:(ds.set L.toNat x.toNat).map di=(ds.map di).set L.toNat (.int x):=by
  rw[List.map_set];congr 1;show D.int _=_;congr 1;omega
 rw[e1];exact(eJ (h':=(hh.update al (jh (·.setIfInBounds L.toNat v)))) (G':=G) (allFlat ds) q2).set _ (lO (d:=.int x) rfl r1)
end
end
end Internal.I
end
section
open PySem PySem.W PyProof.Rows
set_option exponentiation.threshold 2000
namespace Internal.I
open Internal.Z (da fz)
theorem aqf:∃a b c d e,jC 5=.Call (.Name "inner" a) [.Name "lower" b,.Name "L" c,.Name "mid" d] [] e:=⟨_,_,_,_,_,jC5⟩
theorem aqg:∃a b c d e,jC 6=.Call (.Name "inner" a) [.Name "upper" b,.Name "mid" c,.Name "R" d] [] e:=⟨_,_,_,_,_,jC6⟩
theorem IY(ds A1 A2:List Nat)(L m R:Nat)(h1:L<=m)(h2:m<=R)(h3:R<=ds.length)(hA:A1.length=m - L)(hB:A2.length=R - m):
 ((ds.take L++A1++ds.drop m).take m++A2++(ds.take L++A1++ds.drop m).drop R)=ds.take L++(A1++A2)++ds.drop R:=by
 have hl:(ds.take L++A1).length=m:=by rw[aG,lX,hA];omega
 have e1:(ds.take L++A1++ds.drop m).take m=ds.take L++A1:=by rw[GX (by omega),rT (by omega)]
 have e2:(ds.take L++A1++ds.drop m).drop R=ds.drop R:=by
  rw[List.drop_append,SW (by omega),iH,hl,K8];congr 1;omega
 rw[e1,e2];simp
theorem QI(x L R n m t u l:Nat)(hm:m=(L+R)/2)(ht:((m:Int) - L)*n=(t:Int))(U6:m<=100000)(hLm:L<=m)(hn:n<=100000)(ht9:t<=900)(hu:u=x/2^t)(hl:l=x%2^t)(hx:x<2^990):
 AE (V6 T) jK [] 10 3 Vm (IX x L R n) []=some (.nx (jS1 x L R n m t u l) []):=by
 have ab7:(100000:Int)<=10^100:=by decide
 have hsm:∀x:Int,0<=x->x<=100000->sm x=true:=λx h0 h1=>OU (f9 (by decide) h0) (f9 h1 ab7);have at6:u<2^990:=by rw[hu];exact bj (Nat.div_le_self ..) hx
 have h2t:(2:Int)^(t:Int).toNat=((2^t:Nat):Int):=by rw[aR,gE];rfl
 show AE (V6 T) jK [] 10 3 [_,_,_,_] _ _=_;rw[xB,qw (d:=.int m) ((ajh _ _ _ _).trans (by rw[Qk,<-hm])) (by rfl') (by rfl')];show cO (c9 (V6 T) jK [] 10 (AE (V6 T) jK [] 10 2)) _ (IX x L R n++([("mid",.int m)]:cu)) []=_;rw[qw (d:=.int t) ((aqa _ _ _ _ _).trans (by rw[CV (hsm _ (by omega) (by omega)) (hsm _ (by omega) (by omega)),ht])) (by rfl') (by rfl')];show cO (c9 (V6 T) jK [] 10 (AE (V6 T) jK [] 10 2)) _ (IX x L R n++([("mid",.int m),("shift",.int t)]:cu)) []=_;rw[qw (d:=.int u) ((aqb _ _ _ _ _ _).trans (by
  show(if(0:Int)<=(t:Int)then some (D.int ((x:Int).fdiv (2^(t:Int).toNat)))else none)=_;rw[if_pos (by omega),h2t,bN _ (by omega),hu];rfl)) (by rfl') (by rfl')]
 show cO (c9 (V6 T) jK [] 10 (AE (V6 T) jK [] 10 2)) _ (IX x L R n++([("mid",.int m),("shift",.int t),("upper",.int u)]:cu)) []=_;rw[qw (d:=.int l) ((aqc _ _ _ _ _ _ _).trans (by
  rw[IF (Qi (m:=990) (by omega) (by
   have h3:((2^990:Nat):Int)=2^990:=gE 2 990;omega) (by omega)) (by omega) (by omega),ag,h2t]
  show some (D.int (nP (x:Int) ((u:Int)*((2^t:Nat):Int))))=_;rw[<-nR,hu,Vl,<-hl])) (by rfl') (by rfl')]
 rfl
end Internal.I
namespace Internal.I
open Internal.Z (da fz)
theorem wK.start(k:Keeps s s')(p:wK s' G al ds v Lw):wK s F al ds v Lw:=by
 obtain⟨h1,h2,⟨h,tk,h3⟩,h4,h5⟩:=p;obtain⟨h0,t0,rfl,kk⟩:=k;exact⟨h1,h2,⟨h,tk,h3⟩,bG.trans (bG.of kk) h4,Acc.any h5 (.inl rfl)⟩
theorem js.QJ(I:js h F f n o fd cl cd ci cn al)(k:bT h h'):js h' F f n o fd cl cd ci cn al:=by
 obtain⟨v,a,b⟩:=I.vn;exact⟨k _ _ I.ho,I.hd,I.fi,I.rc.keeps k,I.ld,I.li,I.ln,I.hF,I.fa,I.na,I.vd.keeps k,I.vi.keeps k,v,a.keeps k,b.keeps k⟩
theorem IZ(h:L+1=R)(hx:x<2^(n*(R - L))):da n (R - L) x=[x]:=by
 subst h;rw[SV]at hx⊢;rw[Hf]at hx;exact Internal.Gf n x hx
theorem Vn{ds A:List Nat}{L m c:Nat}(h:m<=ds.length)(h1:L<=m)(hA:A.length=m - L)(hl:ds.length=c):(ds.take L++A++ds.drop m).length=c:=by
 rw[aG,aG,lX,jj,hA,nT (aq h1 h),z6 h1,z6 h,hl]
theorem wL{w:World}{La:Heap->Prop}{T:ec}(TO:dP pw w La (λ_=>True) T){f:Addr}{n:Nat}{o:Obj}{fd:jI}{cl:List (Str×Addr)}{cd ci cn al:Addr}{cnt:Nat}
(hn:n*cnt<=900)(nU:1<=n)(x L R:Nat)(h1:L<R)(h2:R<=cnt)(hx:x<2^(n*(R - L)))(A:aC)(E:Value->ah->Prop)(s:ah)(F:Addr->Prop)(vs:List Value)(ds:List Nat)(k:Nat)(bq:Bq (k+1) A)(am:dq A La s)(lo:iQ F s.heap)
(I:js s.heap F f n o fd cl cd ci cn al)(ac:Acc F s.heap al (ds.map di))(hl:ds.length=cnt)(hla:∀h',bG al s.heap h'->La h')(rs:aZ s.heap F [.int x,.int L,.int R] vs)(ih:L+1=R\/∃j,k=j+1/\R - L<=2^k/\BO w La f n o fd cl cd ci cn al cnt j):
 wpAny (model pw w) A (call (.ref f) vs) (wK s F al (ds.take L++da n (R - L) x++ds.drop R)) E s:=by
 have hlen:=aby hn nU;have hn9:=aiH hn (aq (aq (asZ (de L)) h1) h2);have aqh:n*(R - L)<=900:=aq (cY _ (aq (tE ..) h2)) hn;have ajj:x<2^990:=ck hx (bM (by decide) (aq aqh (by decide)));have VO:c8 pw w La (λ_=>True) (V6 T):=gq TO 7;have XO:Ss pw w La (λ_=>True) jK (AE (V6 T) jK [] 10 3):=uc (W:=[]) (gq TO 6) TO jK 10 3;refine BH (σc:=[("n",.int n)]) I.fi bq.dep I.ho I.hd I.rc rfl am bq.un lo rs I.hF (λm d e=>?_) (λenv aU G oa jn oe iL fr si E'=>?_)
 ·unfold look at e
  split at e
  ·rename_i hm
   subst hm;cases e;obtain⟨v,a,b⟩:=I.vn;exact⟨by decide,cn,v,I.ln,a,b⟩
  ·unfold look at e;cases e
 have si:SI env F s (IX x L R n) [] aU G oa:=si;have DC:dq (A.deeper env) La s:=⟨am.hh,am.nb,am.nl,am.gl,am.tk,(bq.deeper env).un2,am.la⟩
 have hkd:env.kindOf "a_digits"=some .free:=by unfold gR;rw[jn];decide
 have o7:Cl env "inner":=.inr (by unfold gR;rw[jn];decide);have Qm:env.cells.lookup ("inner":Str)=some ci:=by rw[oe];exact I.li
 have Aj:env.cells.lookup ("a_digits":Str)=some cd:=by rw[oe];exact I.ld
 have X3:∀m,env.cells.lookup m≠some al:=λm e=>I.na m al (by rw[<-oe];exact e) rfl;rw[aje];have y1:In env G (IX x L R n) aU.heap:=si.ie;refine aS (AZ (ai (bw si.tk (VO.b (A.deeper env) E' env G _ aU _ _ trivial iL y1 (by rw[jn];exact ab6 _ _ _ _))) (λb s2 q=>?_) λ_ _ e=>e));obtain⟨t2,rfl,k2⟩:=q;have ua:=si.keeps k2 t2;have y2:In env G (IX x L R n) s2.heap:=ua.ie;have p0:=iL.keeps k2 t2;have k02:=ua.kp;by_cases NI:L+1=R
 ·have hL:L<ds.length:=hl▸ck h1 h2
  rw[if_pos (aiJ NI),ajf];refine aS (QH (al:=al) (cd:=cd) (ds:=ds) VO trivial p0 y2 hkd Aj (I.vd.keeps (Keeps.all k02)) (Acc.any ac (.inr (Keeps.all k02))) (by rw[jn];exact j_x _ _ _ _ _) (by rw[jn];exact j_L _ _ _ _ _) (bF L) (oZ.mpr hL) (aq (hl▸hlen) (by decide)) (bF x) (λh tk htk kb acc=>?_));refine aS (wpAny_Return_none ?_);show wK s F al _ .none _;rw[aR,aR,MN ds L x hL]at acc;rw[IZ NI hx,<-NI];exact wK.start (G:=G) k02 ⟨rfl,htk,⟨h,tk,rfl⟩,kb,acc⟩
 ·obtain⟨j,rfl,hk,ct⟩:=ih.resolve_left NI
  rw[if_neg (by rw[aiK NI];exact aF)];obtain⟨m,hm⟩:∃m,m=(L+R)/2:=⟨_,rfl⟩;obtain⟨Ki,AI⟩:=Kh hm h1 NI;obtain⟨hk1,Pq⟩:=FW hm hk;have U5:m<=cnt:=aq (cx AI) h2;obtain⟨t,ht⟩:∃t:Nat,t=n*(m - L):=⟨_,rfl⟩;have htI:((m:Int) - L)*n=(t:Int):=by
   rw[ht,nR,Ae (cx Ki),Dx]
  have ht9:t<=900:=by
   rw[ht];exact aq (cY _ (aq (tE ..) U5)) hn
  have hX:=QI (T:=T) x L R n m t (x/2^t) (x%2^t) hm htI (aq U5 (aq hlen (by decide))) (cx Ki) (aq hn9 (by decide)) ht9 rfl rfl ajj;have ab8:n*(R - L)=t+n*(R - m):=by rw[ht,<-mT,jx,tG (cx AI) (cx Ki)]
  have hxl:x%2^t<2^(n*(m - L)):=by rw[<-ht];exact dJ _ (eZ (by decide))
  have hxu:x/2^t<2^(n*(R - m)):=by
   rw[ab8,iy]at hx;exact mU hx
  refine dD ?_;show wpAny (model pw w) (A.deeper env) (execs (Vm++[.Expr (jC 5) (bV (ak 5 jB)),.Expr (jC 6) (bV (ak 6 jB))]) env) _ _ _;refine uf (ai (XO (A.deeper env) E' env F s _ [] s2 G oa Vm _ trivial DC fr ua jn hX) (λg s3 q=>?_) λ_ _ e=>e);obtain⟨rfl,G2,oa2,tK⟩:=q;generalize hu:x/2^t=u at*;generalize hlo:x%2^t=l at*;have y3:In env G2 (jS1 x L R n m t u l) s3.heap:=tK.ie;have I3:js s3.heap G2 f n o fd cl cd ci cn al:=(I.but ac.cases.choose_spec.choose_spec.1 (bG.of (Keeps.all tK.kp))).mono tK.hF;have Kl:dq (A.deeper env) La s3:=DC.keeps tK.kp tK.tk;have fn3:=gu y3.fn;obtain⟨pa,pb,pc,pd,pe,j5⟩:=aqf;obtain⟨qa,qb,qc,qd,qe,j6⟩:=aqg;rw[j5,j6];refine aS (qX ?_ fn3 rfl);refine BI VO trivial Kl y3 o7 (by decide) (by decide) Qm I3.vi I3.ho I3.hd (by rw[jn];exact aqd _ _ _ _ _ _ _ _ _ _ _) (λs4 vs4 k4 t4 r4=>?_);have k04:=Keeps.trans' tK.kp k4;have ac4:Acc G2 s4.heap al (ds.map di):=Acc.any ac (.inr (Keeps.all k04));obtain⟨it4,n4,il4,_⟩:=id ac4;have I4:js s4.heap G2 f n o fd cl cd ci cn al:=I3.QJ (Keeps.all k4);have ab9:∀h',bG al s4.heap h'->La h':=λh' q=>hla h' (bG.trans (bG.of (Keeps.all k04)) q);have Kj:=Kl.keeps k4 t4;have y4:=y3.keeps (Keeps.all k4);refine ai (ct l L m Ki U5 hk1 hxl (A.deeper env) _ s4 G2 vs4 ds (bq.deeper env) Kj y4.lo I4 ac4 hl ab9 r4) (λv s5 q=>?_) λ_ _ e=>e;obtain⟨rfl,t5,⟨h5,tk5,hs5⟩,kb5,ac5⟩:=q;have X0:=tK.keeps k4 t4;have u5:Upd (λa=>a=al) s4 s5:=⟨h5,tk5,hs5,by rw[hs5]at kb5;exactλb o ne e=>kb5 b o e ne⟩
  obtain⟨it5,n5,il5,_⟩:=id ac5;obtain⟨sb,xe,fr5,kbb,kPb,tkb,⟨hb,tb,hsb⟩⟩:=X0.sE fr I.fa X3 u5 t5 (by rw[show s5.heap.get? al=some _ from il5];rfl);have am5:dq (A.deeper env) La s5:=dq.ab5 il4 kb5 Kj t5 ab9;have y5:In env G2 (jS1 x L R n m t u l) s5.heap:=xe.ie;have I5:=I4.but il4 kb5;refine aS (qX ?_ fn3 rfl);refine BI VO trivial am5 y5 o7 (by decide) (by decide) Qm I5.vi I5.ho I5.hd (by rw[jn];exact aqe _ _ _ _ _ _ _ _ _ _ _) (λs6 vs6 k6 t6 r6=>?_);have ac6:=Acc.any (G:=G2) ac5 (.inr (Keeps.all k6));have aqj:∀h',bG al s6.heap h'->La h':=λh' q=>ab9 h' (bG.trans kb5 (bG.trans (bG.of (Keeps.all k6)) q));have hlA:(da n (m - L) l).length=m - L:=fz ..;refine ai (ct u m R AI h2 Pq hxu (A.deeper env) _ s6 G2 vs6 _ (bq.deeper env) (am5.keeps k6 t6) (y5.keeps (Keeps.all k6)).lo (I5.QJ (Keeps.all k6)) ac6 (Vn (by rw[hl];exact U5) (cx Ki) hlA hl) aqj r6) (λv s7 q=>?_) λ_ _ e=>e;obtain⟨rfl,t7,⟨h7,tk7,hs7⟩,kb7,ac7⟩:=q;refine dD ?_;show wK s F al _ .none s7;rw[IY ds _ _ L m R (cx Ki) (cx AI) (hl▸h2) hlA (fz ..)]at ac7;have e1:da n (R - L) x=da n (m - L) l++da n (R - m) u:=by
   rw[<-tG (cx AI) (cx Ki),jx (R - m),Internal.Ge,<-ht,hu,hlo]
  rw[e1];refine⟨rfl,t7,?_,bG.trans (bG.of (Keeps.all k04)) (bG.trans kb5 (bG.trans (bG.of (Keeps.all k6)) kb7)),Acc.any ac7 (.inl rfl)⟩;obtain⟨ha,ta,rfl,_⟩:=k04;obtain⟨hc6,tc6,h6e,_⟩:=k6;exact⟨h7,tk7,by rw[hs7,h6e,hs5]⟩
theorem MO{w:World}{La:Heap->Prop}{T:ec}(TO:dP pw w La (λ_=>True) T){f:Addr}{n:Nat}{o:Obj}{fd:jI}{cl:List (Str×Addr)}{cd ci cn al:Addr}{cnt:Nat}
(hn:n*cnt<=900)(nU:1<=n):∀k,BO w La f n o fd cl cd ci cn al cnt k:=by
 intro zx
 induction zx with
 |zero=>
  exactλx L R h1 h2 h3 hx A E s F vs ds bq am lo I ac hl hla rs=>wL TO hn nU x L R h1 h2 hx A E s F vs ds 0 bq am lo I ac hl hla rs (.inl (by simp at h3;omega))
 |succ k ih=>
  exactλx L R h1 h2 h3 hx A E s F vs ds bq am lo I ac hl hla rs=>wL TO hn nU x L R h1 h2 hx A E s F vs ds (k+1) bq am lo I ac hl hla rs (.inr ⟨k,rfl,h3,ih⟩)
end Internal.I
namespace Internal.I
section
open Internal.Z (da fz)
def lr:A0:=(jE.find? (λd=>d.name==("_int2digits":Str))).getD ⟨("":Str),default,[],default,default⟩
theorem qi:lr∈jE:=by
 have:(jE.find? (λd=>d.name==("_int2digits":Str))).isSome=true:=by rfl'
 obtain⟨d,hd⟩:=ay.mp this;have e:lr=d:=by unfold lr;rw[hd];rfl
 rw[e];exact dY hd
theorem MP:lr.params.args.map (·.arg)=(["a","n"]:List Str):=by rfl'
theorem j9:lr.name=("_int2digits":Str):=by rfl'
def eK:bW:=lr.scope.names
def G6:nN:=xR eI
def DE:Scope:=nY eI
def eC:ae:=bk (ak 0 (br (ak 2 eB)))
theorem QK:lr.body=[ak 0 eB]++[.FunctionDef "inner" G6 jB [] none [] DE none "inner" (bV eI),.If (dw (ak 2 eB)) [.Expr eC (bV (ak 0 (br (ak 2 eB))))] [] (bV (ak 2 eB)),ak 3 eB]:=by rfl'
theorem ajk:eC=.Call (.Name "inner" (pA eC).pos) [o8 0 eC,o8 1 eC,o8 2 eC] [] eC.pos:=by rfl'
def eQ:Str:=(("_int2digits":Str)++(".<locals>.":Str))++("inner":Str)
theorem QL:(DE.names.all λx=>x.2 != .free||eK.lookup x.1==some .cell)=true:=by rfl'
abbrev sB(a n:Int):cu:=[("a",.int a),("n",.int n),("inner",.JR)]
abbrev sC(a n:Int)(zs:List D):cu:=[("a",.int a),("n",.int n),("inner",.JR),("a_digits",.lst zs)]
section
variable{T:ec}
theorem e_l(a n):(V6 T).d eK [("a",.int a),("n",.int n)] (pA (bk (ak 0 eB)))=some (.lst [.int 0]):=by rfl'
theorem e_r(a n):(V6 T).d eK [("a",.int a),("n",.int n)] (IC (bk (ak 0 eB)))=aE .FloorDiv (.int (cg a+n - 1)) (.int n):=by rfl'
theorem ajl:ak 0 eB=.Assign [.Name "a_digits" (jF (ak 0 eB))] (.BinOp (pA (bk (ak 0 eB))) .Mult (IC (bk (ak 0 eB))) (bk (ak 0 eB)).pos) (bV (ak 0 eB)):=by rfl'
theorem acb(a n):(V6 T).b eK (sB a n) (dw (ak 2 eB))=m9 (.int a):=by rfl'
theorem acd(a n)(zs):tJ ((V6 T).d eK (sC a n zs)) [o8 0 eC,o8 1 eC,o8 2 eC]=(((cH .len [.lst zs]).bind λd=>some [d]).bind λds=>some (.int 0::ds)).bind λds=>some (.int a::ds):=by rfl'
end
theorem oz:DE.names=jK/\DE.kind=.function/\DE.isGenerator=false/\DE.isCoroutine=false:=⟨rfl,by rfl',by rfl',by rfl'⟩
theorem kc:G6.posonlyargs=[]/\G6.kwonlyargs=[]/\G6.vararg=none/\G6.kwarg=none/\G6.args.map (·.arg)=(["x","L","R"]:List Str)/\G6.defaults=[]/\G6.kw_defaults=[]:=⟨by rfl',by rfl',by rfl',by rfl',by rfl',by rfl',by rfl'⟩
theorem ajm(env):annTrees G6 none env=[]:=by rfl'
theorem ace:∀x∈jK,x.2≠.cell:=by
 have h:(jK.all λx=>x.2 != .cell)=true:=by rfl'
 intro x hx;have:=aw.mp h x hx;simpa using this
theorem Vo(env):gF env jK []=([("n",(env.cells.lookup ("n":Str)).getD 0),("inner",(env.cells.lookup ("inner":Str)).getD 0),("a_digits",(env.cells.lookup ("a_digits":Str)).getD 0)]:List (Str×Addr)):=by rfl'
theorem abD(e:([("n",l1),("inner",l2),("a_digits",l3)]:List (Str×Addr)).lookup n=some c):(n=("n":Str)/\c=l1)\/(n=("inner":Str)/\c=l2)\/(n=("a_digits":Str)/\c=l3):=by
 have:=mem_of_lookup e;simp only[aJ,dm,or_false,pL]at this;exact this
end
end Internal.I
namespace Internal.I
section
section
variable{prog:bb}{w:World}{A:aC}{E:Value->ah->Prop}{G F:Addr->Prop}{env:Env}{az s s':ah}{σ:cu}{own:List Str}{oa:Str->Addr}{La:Heap->Prop}{Bu:aC->Prop}{V:Ev}
theorem MQ(lo:iQ G s.heap)(ra:bU s.heap G (.lst (a::as)) va)(rb:bU s.heap G (.int n) vb)(e:aE .Mult (.lst (a::as)) (.int n)=some (.lst ds)):
 wpAny (model prog w) A (binaryOp .Mult va vb) (λv s'=>gU G s (.lst ds) v s'/\ky s v) E s:=by
 have e:(if 0<=n/\n<=65536/\(a::as).length*n.toNat<=ei then some (D.lst (rep n.toNat (a::as)))else none)=some (.lst ds):=e;split at e<;>cases e;rename_i h;obtain⟨l,vs,n,rfl,hn,hl,hr⟩:=ra.lst;obtain⟨u,rfl⟩:=rb.int;have e1:=hr.length;refine ahC hl (by omega) (by omega) (by rw[aX,e1];exact aq h.2.2 (by decide)) ?_;rw[foldl_rep,if_neg (by cases vs<;>simp at e1⊢)];simp only[oY,List.toList_toArray];exact⟨aaA lo (hr.rep _),_,rfl,kl _⟩
theorem Vp(VO:c8 prog w La Bu V)(bu:Bu A)(am:dq A La az)(fr:nV env F az)(hk:env.kindOf n=some .local\/env.kindOf n=some .cell)
(si:SI env F az σ [] s G oa)(h1:V.d env.scope.names σ l=some (.lst (a::as)))(h2:V.d env.scope.names σ r=some (.int i))(h3:aE .Mult (.lst (a::as)) (.int i)=some (.lst ds)):
 wpAny (model prog w) A (exec (.Assign [.Name n p] (.BinOp l .Mult r q) pos) env) (FP env F az (.nx (put n (.lst ds) σ) [n])) E s:=by
 have DC:=am.keeps si.kp si.tk;have x:In env G σ s.heap:=si.ie.sub λm d e=>by rw[fF];simpa using e
 refine rV (AY (ai (bw si.tk (VO.d A _ env G σ s l _ bu DC x h1)) (λva s1 q1=>?_) λ_ _ e=>e)) (by rw[nz si.ie.fn];rfl);obtain⟨t1,k1,r1⟩:=q1;refine ai (bw t1 (VO.d A _ env G σ s1 r _ bu (DC.keeps k1 t1) (x.keeps (Keeps.all k1)) h2)) (λvb s2 q2=>?_) λ_ _ e=>e;obtain⟨t2,k2,r2⟩:=q2;refine ai (bw t2 (MQ ((x.keeps (Keeps.all k1)).keeps (Keeps.all k2)).lo (r1.keeps (Keeps.all k2)) r2 h3)) (λv s3 q3=>?_) λ_ _ e=>e;obtain⟨t3,⟨k3,r3⟩,f3⟩:=q3;have kk:=Keeps.trans' (Keeps.trans' k1 k2) k3;have f:=ky.before (Keeps.trans' k1 k2) f3;refine ai (rG (W:=[n]) (fl:=true) fr hk (si.keeps kk t3) r3 λ_=>?_) (λ_ s4 q4=>?_) λ_ _ e=>e
 ·obtain⟨a,q1,_,_,q2⟩:=si.CA kk t3 r3 rfl f
  exact⟨rfl,a,q1,q2⟩
 ·obtain⟨_,_,G',Ft,q1,_⟩:=q4
  refine⟨rfl,G',Ft,?_⟩;unfold kK at q1;rw[if_pos (by simp)]at q1;exact q1
theorem SI.ajn(si:SI env F az (put n (.lst ds) σ) [n] s G oa):SI env F az (du [n] σ) [] s G oa/\J6 env s.heap n (.ref (oa n))/\G (oa n)/\az.heap.get? (oa n)=none/\Acc G s.heap (oa n) ds/\oa n≠env.locals/\∀k,env.cells.lookup k≠some (oa n):=by
 obtain⟨h1,h2,h3,h4,w7,h5,h6⟩:=si.ow n (aY.mpr rfl);have hd:=si.od n (aY.mpr rfl);have e:look (put n (.lst ds) σ) n=some (.lst ds):=by
  rw[gT (σ':=[])];dsimp only[put,look];rw[if_pos rfl]
 rw[e]at h5;cases h5;refine⟨⟨si.hF,si.hN,si.kp,si.tk,?_,λm hm=>(nomatch hm),λm hm=>(nomatch hm),λm m' hm=>(nomatch hm)⟩,h2,h3,h4,h6,hd.1,hd.2⟩;have:=si.ie;rw[ub (aY.mpr rfl)]at this;exact this.sub λm d e=>by
  rw[fF]at e;simpa using e
theorem SI.again(si:SI env F az σ [] s G oa)(hk:env.kindOf n=some .local\/env.kindOf n=some .cell)(hv:J6 env s.heap n (.ref al))(hG:G al)(h0:az.heap.get? al=none)(ac:Acc G s.heap al ds)(hl:al≠env.locals)(hc:∀k,env.cells.lookup k≠some al):
 SI env F az (put n (.lst ds) σ) [n] s G (λ_=>al):=by
 have hs:∀{m:Str},m∈[n]->m=n:=λh=>aY.mp h;refine⟨si.hF,si.hN,si.kp,si.tk,?_,λm hm=>?_,λm hm=>⟨hl,hc⟩,λm m' h1 h2 _=>(hs h1).trans (hs h2).symm⟩
 ·rw[ub (aY.mpr rfl)]
  exact si.ie.sub λm d e=>by
   rw[fF]at e⊢;split at e
   ·cases e
   ·simpa using e
 ·cases hs hm
  refine⟨hk,hv,hG,h0,ds,?_,ac⟩;rw[gT (σ':=[])];dsimp only[put,look];rw[if_pos rfl]
end
end
end Internal.I
namespace Internal.I
open Internal.Z (da fz fG pC jd xE j8 C1 zk)
theorem jG.ab5(x:jG h c P pos q)(t:IsL h al it j)(k:bG al h h'):jG h' c P pos q:=by
 have t:h.get? al=some _:=t;have yZ:∀{b:Addr}{o:Obj}{vs:Array Value},h.get? b=some o->o.data=.fields vs->h'.get? b=some o:=λ{b o vs} e d=>k b o e λz=>by
  rw[z,t]at e;cases e;cases d
 obtain⟨ps,c',h1,h2,h3,h4⟩:=x.tab;refine⟨qx x.hd λ_ _ e d=>yZ e d,ps,c',yZ h1 rfl,h2,h3,?_⟩;obtain⟨c0,o,vs,t,e,g,d,r⟩:=h4;exact⟨c0,o,vs,t,e,yZ g d,d,r⟩
theorem _root_.Internal.jG.zl(x:jG h c P pos q)(k:bT h h'):jG h' c P pos q:=by
 obtain⟨ps,c2,h1,h2,h3,h4⟩:=x.tab;exact⟨x.hd.keeps k,ps,c2,k _ _ h1,h2,h3,h4.keeps k⟩
theorem ajo:ak 3 eB=.Return (some (bk (ak 3 eB))) (bV (ak 3 eB)):=by rfl'
theorem ajp(a n)(zs):(V6 T).d eK (sC a n zs) (bk (ak 3 eB))=some (.lst zs):=by rfl'
theorem QM(cnt):(bh cnt 0).map di=bh cnt (.int 0):=by rw[List.map_replicate];rfl
theorem QN(m):rep m [D.int 0]=bh m (D.int 0):=by
 induction m with
 |zero=>rfl
 |succ m ih=>rw[rep,ih,adQ];rfl
theorem zm(hx:x<2^600)(nU:1<=n)(hn:n<=300):n*pC n x<=900:=by
 have hb:=j8 hx;obtain⟨_,h2⟩:=zk (n:=n) (x:=x) nU;omega
theorem Vq{x n:Nat}(hx:x<2^600)(nU:1<=n)(hn:n<=300):aE .FloorDiv (.int (cg (x:Int)+n - 1)) (.int n)=some (.int (pC n x:Nat)):=by
 rw[xE];show(if(n:Int)≠0/\sm n=true then some (D.int (((jd x:Int)+n - 1).fdiv n))else none)=_;rw[if_pos ⟨(λz=>by rw[Int.ofNat_inj.mp z]at nU;cases nU),smI (aq hn (by decide))⟩,bN _ (bF n)];unfold pC;congr 2;rw[Int.natCast_ediv];congr 1;omega
theorem Vr{cnt:Nat}(h:cnt<=900):aE .Mult (.lst [.int 0]) (.int (cnt:Int))=some (.lst ((bh cnt 0).map di)):=by
 show(if 0<=(cnt:Int)/\(cnt:Int)<=65536/\[D.int 0].length*(cnt:Int).toNat<=ei then some (D.lst (rep (cnt:Int).toNat [.int 0]))else none)=_;rw[aR,if_pos ⟨bF _,gf.mpr (aq h (by decide)),aq (cY 1 h) (by decide)⟩,QN,QM]
theorem QO(nU:1<=n):pC n 0=0:=as4 (show 0+n - 1<n by omega)
theorem Vs(nU:1<=n)(h0:x≠0):0<pC n x:=by
 unfold pC jd;rw[if_neg h0];exact ad8 (by omega) nU
theorem acf(hl:vs.length=(["x","L","R"]:List Str).length):
 bindArgs (fnX "inner" eQ G6 jB DE cl .none .none xf NK none (.ref c') xC) ⟨vs,[]⟩=pure ((["x","L","R"]:List Str).zip vs):=by
 have h:=j2 (fd:=fnX "inner" eQ G6 jB DE cl .none .none xf NK none (.ref c') xC) (vs:=vs) kc.1 kc.2.1 kc.2.2.1 kc.2.2.2.1 rfl;rw[show(fnX "inner" eQ G6 jB DE cl .none .none xf NK none (.ref c') xC).params=G6 from rfl,kc.2.2.2.2.1]at h;exact h (by decide) hl
theorem Gg{w:World}{A:aC}{E:Value->ah->Prop}{F:Addr->Prop}{s:ah}{a c P:Addr}{o:Obj}{pm doc:Value}{x n:Nat}{vs:List Value}(ho:s.heap.get? a=some o)(hd:o.data=.func (cJ lr.name lr.params lr.body lr.scope pm (.ref c) doc))
(rc:s.heap.CodeRec (.ref c) lr.name)(pl:Place s.heap c P (bV eI) eQ)(hF:F P)(bq:Bq 45 A)(am:dq A (jo w) s)(lo:iQ F s.heap)(rs:aZ s.heap F [.int x,.int n] vs)
(hx:x<2^600)(nU:1<=n)(hn:n<=300):
 wpAny (model pw w) A (call (.ref a) vs) (DP P c (bV eI) eQ F s (.lst ((fG n x).map di))) E s:=by
 have fi:=y0 (d:=lr) (pm:=pm) (code:=.ref c) (doc:=doc) qi;rw[MP,QK]at fi;obtain⟨cnt,QP⟩:∃cnt,cnt=pC n x:=⟨_,rfl⟩;have QQ:=zm hx nU hn;have hdiv:=Vq hx nU hn;obtain⟨hc1,_⟩:=zk (n:=n) (x:=x) nU;rw[<-QP]at QQ hdiv hc1;have QR:=aby QQ nU;refine sA (fk:=(["a","n"]:List Str)) fi bq.dep ho hd rc rfl am bq.un lo rs (λenv aU G oa jn ij iL fr si E'=>?_);refine gp λQ hQ=>?_;have si:SI env F s [("a",.int x),("n",.int n)] [] aU G oa:=si;have hk:∀m,env.kindOf m=eK.lookup m:=λm=>by unfold gR;rw[jn];rfl
 have AJ:env.scope.names=eK:=jn;have Qr:env.code=.ref c:=by rw[ij];rfl
 have pY:∀m,eK.lookup m=some .cell->∃c v,env.cells.lookup m=some c/\aU.heap.IsCell c v:=λm e=>si.ie.ce m (by rw[hk];exact e);have X3:∀m,env.cells.lookup m≠some P:=λm e=>by
  have hm:(m,P)∈cellsFrom (s.heap.objs.size+1) lr.scope.names []:=by
   have:=mem_of_lookup e;rw[ij]at this;exact this
  have AI:=gS _ _ _ _ _ hm;simp only[dm,false_or]at AI;have:=fr.hc m P (.inr (by rw[hk];exact mem_lookup fi.kd AI)) e;obtain⟨ps,h1,_⟩:=pl.tab;rw[h1]at this;cases this
 have o7:∀m,(m,bJ)∈DE.names->eK.lookup m=some .cell:=λm hm=>by
  have:=aw.mp QL _ hm;simpa using this
 have VO:c8 pw w (jo w) (λ_=>True) (V6 NJ):=gq (oq w) 7;have XO:Ss pw w (jo w) (λ_=>True) eK (AE (V6 NJ) eK ["a_digits"] 10 3):=uc (W:=["a_digits"]) (gq (oq w) 6) (oq w) eK 10 3;have hkA:env.kindOf "a_digits"=some .cell:=by rw[hk];decide
 show wpAny (model pw w) (A.deeper env) (execs (ak 0 eB::[.FunctionDef "inner" G6 jB [] none [] DE none "inner" (bV eI),.If (dw (ak 2 eB)) [.Expr eC (bV (ak 0 (br (ak 2 eB))))] [] (bV (ak 2 eB)),ak 3 eB]) env) _ _ _;rw[ajl];refine aS (ai (Vp VO trivial iL fr (.inr hkA) si (by rw[jn];exact e_l _ _) (by rw[jn];exact(e_r _ _).trans hdiv) (Vr QR)) (λg s2 q=>?_) λ_ _ e=>e);obtain⟨rfl,G2,oa2,ua⟩:=q;obtain⟨tK,hv,Vt,Vu,ajr,hnl,hnc⟩:=SI.ajn ua;generalize oa2 "a_digits"=al at hv Vt Vu ajr hnl hnc;have tK:SI env F s [("a",.int x),("n",.int n)] [] s2 G2 oa2:=by
  have e:du ["a_digits"] [("a",.int x),("n",.int n)]=([("a",.int x),("n",.int n)]:cu):=by rfl'
  rw[e]at tK;exact tK
 have haP:al≠P:=λz=>by
  obtain⟨ps,h1,_⟩:=pl.tab;rw[z,h1]at Vu;cases Vu
 show wpAny (model pw w) (A.deeper env) (execs _ env) _ _ _;refine F1 (qual:=eQ) iL fr tK hF pl Qr (by rw[ij];rfl') kc.2.2.2.2.2.1 kc.2.2.2.2.2.2 (ajm env) (by rw[hk];decide) (λm hm=>?_) X3 (λsb s3 ci fa c' xC xf NK NL Mfr Mam Mkb Mka Mfm Mwm Mlc Mvc Mfo Mrc Mkq=>?_)
 ·obtain⟨c0,_,e,_⟩:=pY m (o7 m hm)
  rw[e];rfl
 have x3:In env G2 (sB x n) s3.heap:=NL.ie;have ajs:sb.heap.get? al=none:=by
  rcases NL.hN al Vt with q|q
  ·have:=lo al q
   rw[Vu]at this;cases this
  ·exact q
 have ac3:Acc G2 s3.heap al ((bh cnt 0).map di):=by
  obtain⟨it,j,q1,q2⟩:=ajr;exact⟨it,j,Mkq al _ q1 haP hnl (hnc _),eJ (allFlat _) q2⟩
 have hv3:J6 env s3.heap "a_digits" (.ref al):=by
  refine⟨λq=>(by rw[hkA]at q;cases q),λ_=>?_⟩;obtain⟨cc,e1,ob,e2,e3⟩:=hv.2 hkA;refine⟨cc,e1,ob,Mkq cc _ e2 (λz=>X3 _ (z▸e1)) (tK.ie.fc _ _ e1).2 (λz=>?_),e3⟩;have:=tK.ie.inj _ _ _ e1 z;exact absurd this (by decide)
 have X0:SI env F sb (sC x n ((bh cnt 0).map di)) ["a_digits"] s3 G2 (λ_=>al):=SI.again NL (.inr hkA) hv3 Vt ajs ac3 hnl hnc;have Kl:dq (A.deeper env) (jo w) s3:=Mam.keeps NL.kp NL.tk;have fin:∀(zs:List D)(s4:ah)(oa4:Str->Addr),SI env F sb (sC x n zs) ["a_digits"] s4 G2 oa4->bG al s3.heap s4.heap->zs=(fG n x).map di->wpAny (model pw w) (A.deeper env) (execs [ak 3 eB] env)
  Q E' s4:=λzs s4 oa4 xe kb hz=>by
  subst hz;obtain⟨it,j,il,_⟩:=ac3;have wm4:jG s4.heap c P (bV eI) eQ:=jG.ab5 Mwm il kb;have Kj:dq (A.deeper env) (jo w) s4:=Mam.keeps xe.kp xe.tk;rw[ajo];refine aS (g6 (ai (bw xe.tk (VO.d (A.deeper env) E' env _ _ s4 _ _ trivial Kj xe.weak (by rw[jn];exact ajp _ _ _))) (λv s5 q=>?_) λ_ _ e=>e));obtain⟨t5,k5,r5⟩:=q;obtain⟨h0,t0,eb⟩:=Mfm;obtain⟨h1,t1,e1,kk1⟩:=Keeps.trans' xe.kp k5;refine hQ _ _ ⟨⟨h1,t1,by rw[e1,eb]⟩,λb o e ne=>?_,λhw b o e=>?_,wm4.zl (Keeps.all k5),r5.less λb q=>.inl ⟨xe.hF b q,λm hm z=>?_⟩⟩
  ·rw[e1];exact kk1 _ _ (Mkb b o e ne)
  ·rw[e1];exact kk1 _ _ (Mka hw b o e)
  ·have h9:=Mfr.lo b q
   rw[z,(xe.owN hm)]at h9;cases h9
 have hT:(V6 NJ).b eK (sB x n) (dw (ak 2 eB))=some (decide (x≠0)):=(acb _ _).trans (by
  show some ((x:Int) != 0)=some (decide (x≠0));congr 1;by_cases h:x=0<;>simp[h])
 refine aS (AZ (ai (bw NL.tk (VO.b (A.deeper env) E' env G2 _ s3 _ (decide (x≠0)) trivial Kl x3 (by rw[jn];exact hT))) (λb s4 q=>?_) λ_ _ e=>e));obtain⟨t4,rfl,k4⟩:=q;have xe:=X0.keeps k4 t4;by_cases h0:x=0
 ·rw[if_neg (by simpa using h0)]
  refine dD ?_;refine fin _ s4 _ xe (bG.of (Keeps.all k4)) ?_;have hz:cnt=0:=by rw[QP,h0];exact QO nU
  have hz2:fG n x=[]:=by unfold fG;rw[<-QP,hz];rfl
  rw[hz,hz2];rfl
 ·rw[if_pos (by simpa using h0),ajk]
  have abF:0<cnt:=QP▸Vs nU h0;have abE:Cl env "inner":=.inl (by rw[hk];decide);have hl:cH .len [.lst ((bh cnt 0).map di)]=some (.int cnt):=by
   show dA (if((bh cnt 0).map di).length<=ei then some (D.int ((bh cnt 0).map di).length)else none) none=_;rw[aj,gk,if_pos (aq QR (by decide))];rfl
  have Kj:=Kl.keeps k4 t4;refine aS (qX ?_ (gu x3.fn) rfl);refine BI VO trivial Kj xe.weak abE (by decide) (by decide) Mlc (Mvc.keeps (Keeps.all k4)) (Keeps.all k4 _ _ Mfo) rfl (by rw[jn];exact(acd _ _ _).trans (by rw[hl];rfl)) (λs5 vs5 k5 t5 r5=>?_);have k35:=Keeps.trans' k4 k5;have Qs:=Keeps.all k35;have am5:=Kj.keeps k5 t5;have Kc:=xe.keeps k5 t5;have x5:=x3.keeps Qs;have ac5:Acc G2 s5.heap al ((bh cnt 0).map di):=Acc.any ac3 (.inr Qs);have Ay:∀m:Str,eK.lookup m=some .cell->env.cells.lookup m=some ((env.cells.lookup m).getD 0):=λm e=>by
   obtain⟨c0,_,e0,_⟩:=pY m e;rw[e0];rfl
  have hl1:=Ay "n" (by decide);have hl2:=Ay "inner" (by decide);have X4:=Ay "a_digits" (by decide);have Qm:(env.cells.lookup ("inner":Str)).getD 0=ci:=by rw[Mlc];rfl
  have CW:gF env DE.names []=([("n",(env.cells.lookup ("n":Str)).getD 0),("inner",(env.cells.lookup ("inner":Str)).getD 0),("a_digits",(env.cells.lookup ("a_digits":Str)).getD 0)]:List (Str×Addr)):=Vo env;have rh:∀m c0,(gF env DE.names []).lookup m=some c0->env.cells.lookup m=some c0/\jK.lookup m=some .free:=λm c0 e=>by
   rw[CW]at e;rcases abD e with⟨rfl,rfl⟩|⟨rfl,rfl⟩|⟨rfl,rfl⟩
   ·exact⟨hl1,by decide⟩
   ·exact⟨hl2,by decide⟩
   ·exact⟨X4,by decide⟩
  obtain⟨ml,U6,hva⟩:=x5.va;have I:js s5.heap G2 fa n (fnMade "inner" eQ G6 jB DE (gF env DE.names []) xf NK c' xC) (fnX "inner" eQ G6 jB DE (gF env DE.names []) .none .none xf NK none (.ref c') xC) (gF env DE.names [])
   ((env.cells.lookup ("a_digits":Str)).getD 0) ci ((env.cells.lookup ("n":Str)).getD 0) al:=by
   refine⟨Qs _ _ Mfo,rfl,⟨rfl,rfl,oz.2.1,oz.2.2.1,oz.2.2.2,rfl,rfl,rfl,λvs hl=>acf hl,by decide,λp hp=>?_,ace,λm c0 e=>(rh m c0 e).2,λm m' c0 e e'=>x5.inj m m' c0 (rh m c0 e).1 (rh m' c0 e').1⟩,Mrc.keeps Qs,by rw[CW];rfl,by rw[CW,Qm];rfl,by rw[CW];rfl,λm c0 e=>(x5.fc m c0 (rh m c0 e).1).1,Vt,λm c0 e z=>hnc m (z▸(rh m c0 e).1),?_,Mvc.keeps Qs,?_⟩
   ·simp only[aJ,dm,or_false]at hp
    rcases hp with rfl|rfl|rfl<;>decide
   ·obtain⟨cc,e1,e2⟩:=hv3.2 hkA
    rw[X4]at e1;cases e1;exact e2.keeps Qs
   ·obtain⟨c0,v0,e1,e2,e3⟩:=(hva "n" (.int n) (by rfl')).2 (.inl (by rw[hk];decide))
    rw[hl1]at e1;cases e1;exact⟨v0,e2,e3⟩
  have aql:∀h',bG al s5.heap h'->jo w h':=λh' q=>Mam.la h' λb o e=>q b o (Keeps.all Kc.kp b o e) λz=>by rw[z,ajs]at e;cases e
  have h10:cnt<=2^10:=aq QR (by decide);obtain⟨it5,j5,il5,_⟩:=id ac5;refine ai (MO (oq w) QQ nU 10 x 0 cnt abF (b0 _) (by rw[gJ];exact h10) (by rw[gJ];exact ck (C1 x) (bM (by decide) hc1)) (A.deeper env) _ s5 G2 vs5 (bh cnt 0) ((bq.deeper env).le (by decide)) am5 x5.lo I ac5 gk aql (eJ (by rfl) r5)) (λv s6 q=>?_) λ_ _ e=>e;obtain⟨rfl,t6,⟨h6,tk6,hs6⟩,kb6,ac6⟩:=q;have e6:(bh cnt 0).take 0++da n (cnt - 0) x++(bh cnt 0).drop cnt=fG n x:=by
   unfold fG;rw[<-QP,List.take_zero,iH,gJ,SW (by rw[gk];exact b0 _),c6]
  rw[e6]at ac6;have u6:Upd (λa=>a=al) s5 s6:=⟨h6,tk6,hs6,by rw[hs6]at kb6;exactλb o ne e=>kb6 b o e ne⟩
  have CD:=Kc.write (aY.mpr rfl) u6 t6 ac6;refine dD ?_;exact fin _ s6 _ (by
   have e:put "a_digits" (.lst ((fG n x).map di)) (sC x n ((bh cnt 0).map di))=sC x n ((fG n x).map di):=by rfl'
   rw[e]at CD;exact CD) (bG.trans (bG.of Qs) kb6) rfl
end Internal.I
namespace Internal.Z
section
structure PS(T:ec):Prop where
 i2d:∀a n:Nat,1<=n->n<=300->a<2^600->T.fn "_int2digits" [di a,di n]=some (dl (fG n a))
 d2i:∀(l:List Nat)(n:Nat),1<=n->n*l.length<=900->(∀d∈l,d<2^n)->T.fn "_digits2int" [dl l,di n]=some (di (pf n l))
def D1(T:ec):Prop:=∀x b n:Nat,x<2^2000->0<b->b<2^900->T.fn "_div2n1n" [di x,di b,di n]=some (.tup [di (x/b),di (x%b)])
def D2(T:ec):Prop:=∀a b:Nat,a<2^550->0<b->b<2^100->T.fn "_divmod_pos" [di a,di b]=some (.tup [di (a/b),di (a%b)])
theorem smN{x:Nat}(h:x<2^990):sm (x:Int)=true:=zg (cx h) (by decide)
theorem Yb{prim:Str->Option (List D->Option D)}(hp:prim "_div2n1n"=none)(r:Nat):D1 (Tn prim (r+1)):=λx b n hx hb DF=>by
 have h:=ajd (T:=Tn prim r) (sM prim r) x b n (by
  rw[xE];have:=j8 hx;omega) (by omega) (smN (ck DF (bM (by decide) (by decide))))
 rw[bN _ (by omega),cy _ (by omega)]at h;exact fq (["a","b","n"]:List Str) hp h
section
variable{T:ec}
theorem Vv{a n:Nat}(ha:a<2^990)(hn:n<=100000):aE .LShift (.int a) (.int n)=some (di (a*2^n)):=by
 rw[IF (smN ha) (by omega) (by omega),aR];show some (D.int _)=some (D.int _);congr 2
theorem acg(h1:D1 T)(a ad:D)(b n:Nat)(m:Nat)(hb:0<b)(DF:b<2^100)(hn:n<=100):∀(ds:List Nat)(o:Option (D×D))(s:Nat×List Nat),(∀d∈ds,d<2^n)->s.1<b->s.2.length+ds.length<=1000->
 ∃o',sx (Xa T vK ["q_digits"] (m+1)) vK (iM vF) vFB (ds.map di) (vS o a (di b) (di n) ad (di s.1) (s.2.map di)) ["q_digits"]=some (.nx (vS o' a (di b) (di n) ad (di (ds.foldl (sQ n b) s).1) ((ds.foldl (sQ n b) s).2.map di)) ["q_digits"]):=λds=>by
 induction ds with
 |nil=>intro o s _ _ _;exact⟨o,rfl⟩
 |cons d ds ih=>
  intro o s hd hs hl;have fX:=d9;rw[bD]at hl;have hdn:=hd d (aA ..);have ab7:(2:Nat)^n<=2^100:=bM (by decide) hn;have hx:s.1*2^n+d<2^2000:=by
   have e1:(s.1+1)*2^n<=2^100*2^100:=xm (by omega) ab7;rw[Hi,ad7]at e1;have e2:(2:Nat)^100*2^100<=2^2000:=by rw[<-iy];exact bM (by decide) (by decide)
   omega
  obtain⟨o',ho⟩:=ih (some (di d,di ((s.1*2^n+d)/b))) (sQ n b s d) (λx hx=>hd x (aD _ hx)) (dJ _ hb) (by
   show(s.2++[_]).length+_<=_;rw[aG];simp;omega)
  refine⟨o',?_⟩;rw[bH];refine sJ ?_ ho (by rw[show di d=.int d from rfl];exact ay.mpr ⟨_,ab4 o a ad (di b) (di n) (di s.1) (.int d) (s.2.map di)⟩);have h2:=h1 (s.1*2^n+d) b n hx hb (ck DF (bM (by decide) (by decide)));have h3:=Vk (T:=T) o a ad b n s.1 d ((s.1*2^n+d)/b:Nat) ((s.1*2^n+d)%b:Nat) (s.2.map di) m (by
   rw[Vv (dz hs (dz DF (jg (by decide) (by decide)))) (by omega),ag];have:aE .Add (di (s.1*2^n)) (.int d)=some (di (s.1*2^n+d)):=by
    show some (D.int _)=some (D.int _);rw[eY]
   rw[this,ag,ag];exact h2) (by rw[aj];omega)
  refine h3.trans ?_;show some (Fl.nx (vS _ a _ _ ad _ (s.2.map di++[di ((s.1*2^n+d)/b)])) _)=some (Fl.nx (vS _ a _ _ ad _ ((s.2++[(s.1*2^n+d)/b]).map di)) _);rw[c7];rfl
theorem v_all(hP:PS T)(h1:D1 T)(a b:Nat)(ha:a<2^550)(hb:0<b)(DF:b<2^100):Xa T vK ["q_digits"] 20 vB [("a",di a),("b",di b)] []=some (.rt (.tup [di (a/b),di (a%b)])):=by
 have fX:=d9;obtain⟨n,hn⟩:∃n,n=jd b:=⟨_,rfl⟩;have nU:1<=n:=by rw[hn];unfold jd;rw[if_neg (by omega)];omega
 have hn2:n<=100:=by rw[hn];exact j8 DF
 have hc:=zk (n:=n) (x:=a) nU;have hba:=j8 ha;have hdl:(fG n a).length=pC n a:=fz _ _ _;have oe:pC n a<=n*pC n a:=tF _ nU;obtain⟨s,hs⟩:∃s,s=(fG n a).reverse.foldl (sQ n b) (0,[]):=⟨_,rfl⟩;obtain⟨k1,k2,k3,k4⟩:=QG n b hb (fG n a).reverse (λd hd=>rQ n _ _ d (rr.mp hd));rw[<-hs,Gd,ML nU]at k1 k2;rw[<-hs]at k3 k4;rw[dZ]at k4;obtain⟨o',ho⟩:=acg (T:=T) h1 (di a) (dl (fG n a)) b n 18 hb DF hn2 (fG n a).reverse none (0,[]) (λd hd=>rQ n _ _ d (rr.mp hd)) hb (by rw[dZ];simp;omega);rw[<-hs]at ho;refine fR (bs:=[ak 0 vB,ak 1 vB,ak 2 vB,ak 3 vB,ak 4 vB,ak 5 vB,ak 6 vB,ak 7 vB]) ?_;refine fb (bZ (di n) (tr (b:=o6 .jX (di b) []) (by show some (D.int (cg (b:Int)))=_;rw[xE,<-hn];rfl))) ?_;refine fb (bZ (dl (fG n a)) (tr (b:=T.fn "_int2digits" [di a,di n]) (hP.i2d a n nU (by omega) (ck ha (bM (by decide) (by decide)))))) ?_;refine fb (bZ (.int 0) (by rfl')) ?_;refine fb (bZ (.lst []) (by rfl')) ?_;refine fb (y8 (ds:=(fG n a).reverse.map di) (tr (b:=some ((fG n a).map di).reverse) (by rw[DN])) (tr ho)) ?_;refine fb (ab3 (ds:=s.2.map di) (by rw[aj];omega) (by rcases o' with _|⟨x,y⟩<;>rfl') (by rfl') (by rfl')) ?_;have hq:T.fn "_digits2int" [.lst (s.2.map di).reverse,di n]=some (di (a/b)):=by
  rw[<-DN];have:=hP.d2i s.2.reverse n nU (by rw[dZ,k4,hdl];omega) (λd hd=>k3 d (rr.mp hd));rw[<-Gd,YX,k2]at this;exact this
 refine fb (U8 (di (a/b),false) (apV (tr hq (by rcases o' with _|⟨x,y⟩<;>rfl')) rfl (by rcases o' with _|⟨x,y⟩<;>rfl'))) ?_;rw[<-k1];exact df (dR _ (by rcases o' with _|⟨x,y⟩<;>rfl'))
end
end
section
theorem ajt(hp:prim "_divmod_pos"=none)(r)(hP:PS (Tn prim r))(h1:D1 (Tn prim r)):D2 (Tn prim (r+1)):=λa b ha hb DF=>
 fq (["a","b"]:List Str) hp (v_all hP h1 a b ha hb DF)
def Yc(a b:Int):D:=.tup [.int (a.fdiv b),.int (a.fmod b)]
def D3(T:ec):Prop:=∀a b:Int,0<=a->a<2^550->0<b->b<2^100->T.fn "int_divmod" [.int a,.int b]=some (Yc a b)
def D4(T:ec):Prop:=∀a b:Int,-(2^540)<a->a<2^540->0<b->b<2^100->T.fn "int_divmod" [.int a,.int b]=some (Yc a b)
def D5(T:ec):Prop:=∀a b:Int,-(2^530)<a->a<2^530->b≠0->-(2^100)<b->b<2^100->T.fn "int_divmod" [.int a,.int b]=some (Yc a b)
section
variable{T:ec}
def iK2:bW:=uk "int_divmod"
def iB2:List Stmt:=bo "int_divmod"
abbrev iI1:Stmt:=ak 0 iB2
abbrev Yd:Stmt:=ak 0 (dG iI1)
abbrev iI3:Stmt:=ak 0 (dG Yd)
abbrev iS(a b:Int):cu:=[("a",.int a),("b",.int b)]
theorem C2(a):cR a= -a - 1:=by
 unfold cR;lia
theorem aci(a b)(q)(e1:(b==0)=false)(e2:decide (b<0)=false)(e3:decide (a<0)=false)(h:T.fn "_divmod_pos" [.int a,.int b]=some q):Xa T iK2 [] 20 iB2 (iS a b) []=some (.rt q):=by
 have e1:(some (b==0):Option Bool)=some false:=by rw[e1]
 have e2:(some (decide (b<0)):Option Bool)=some false:=by rw[e2]
 have e3:(some (decide (a<0)):Option Bool)=some false:=by rw[e3]
 refine fR (bs:=[iI1]) (df ?_);rw[sI false (tr e1),if_neg aF];refine fR (bs:=[Yd]) (df ?_);rw[sI false (tr e2),if_neg aF];refine fR (bs:=[iI3]) (df ?_);rw[sI false (tr e3),if_neg aF];exact fR (bs:=[ak 0 (dG iI3)]) (df (dR _ (tr h)))
theorem Vw(a b q r)(e1:(b==0)=false)(e2:decide (b<0)=false)(e3:decide (a<0)=true)(h:T.fn "int_divmod" [.int (cR a),.int b]=some (.tup [.int q,.int r])):Xa T iK2 [] 20 iB2 (iS a b) []=some (.rt (.tup [.int (cR q),.int (b+cR r)])):=by
 have e1:(some (b==0):Option Bool)=some false:=by rw[e1]
 have e2:(some (decide (b<0)):Option Bool)=some false:=by rw[e2]
 have e3:(some (decide (a<0)):Option Bool)=some true:=by rw[e3]
 refine fR (bs:=[iI1]) (df ?_);rw[sI false (tr e1),if_neg aF];refine fR (bs:=[Yd]) (df ?_);rw[sI false (tr e2),if_neg aF];refine fR (bs:=[iI3]) ?_;refine fT (b:=[ak 0 (br iI3),ak 1 (br iI3)]) (tr e3) ?_;refine fR (bs:=[ak 0 (br iI3),ak 1 (br iI3)]) ?_;refine fb (mO (.tup [.int q,.int r],false) (nW (d:=.tup [.int q,.int r]) (tr h))) ?_;exact df (dR _ (by rfl'))
theorem Vx(a b q r)(e1:(b==0)=false)(e2:decide (b<0)=true)(h:T.fn "int_divmod" [.int (-a),.int (-b)]=some (.tup [.int q,.int r])):Xa T iK2 [] 20 iB2 (iS a b) []=some (.rt (.tup [.int q,.int (-r)])):=by
 have e1:(some (b==0):Option Bool)=some false:=by rw[e1]
 have e2:(some (decide (b<0)):Option Bool)=some true:=by rw[e2]
 refine fR (bs:=[iI1]) (df ?_);rw[sI false (tr e1),if_neg aF];refine fR (bs:=[Yd]) ?_;refine fT (b:=[ak 0 (br Yd),ak 1 (br Yd)]) (tr e2) ?_;refine fR (bs:=[ak 0 (br Yd),ak 1 (br Yd)]) ?_;refine fb (mO (.tup [.int q,.int r],false) (nW (d:=.tup [.int q,.int r]) (tr h))) ?_;exact df (dR _ (by rfl'))
end
theorem aju(hp:prim "int_divmod"=none)(r:Nat)(h:D2 (Tn prim r)):D3 (Tn prim (r+1)):=λa b ha ha2 hb DF=>by
 obtain⟨x,rfl⟩:=fP ha;obtain⟨y,rfl⟩:=fP (Ds hb);have hq:=h x y (by exact_mod_cast ha2) (by lia) (by exact_mod_cast DF);have hr:Yc (x:Int) (y:Int)=.tup [di (x/y),di (x%y)]:=by
  unfold Yc;rw[bN _ (by lia),cy _ (by lia)];rfl
 rw[hr];exact fq (["a","b"]:List Str) hp (aci x y _ (beq_eq_false_iff_ne.mpr (by lia)) (decide_eq_false (by lia)) (decide_eq_false (by lia)) hq)
theorem ajv(hp:prim "int_divmod"=none)(r:Nat)(h2:D3 (Tn prim (r+1)))(h:D3 (Tn prim r)):D4 (Tn prim (r+1)):=λa b ha ha2 hb DF=>by
 have aqp:(2:Int)^540<2^550:=by decide
 by_cases h0:0<=a
 ·exact h2 a b h0 (by lia) hb DF
 ·have hn:cR a= -a - 1:=C2 a
  have hq:=h (-a - 1) b (by lia) (by lia) hb DF;rw[<-hn]at hq;have:=fq (prim:=prim) (r:=r) (ds:=[.int a,.int b]) (["a","b"]:List Str) hp (Vw a b _ _ (beq_eq_false_iff_ne.mpr (by lia)) (decide_eq_false (by lia)) (decide_eq_true (by lia)) hq);refine this.trans ?_;unfold Yc;rw[hn,C2,C2,bN _ (by lia),cy _ (by lia),bN _ (by lia),cy _ (by lia)];have e1:=Int.mul_ediv_add_emod (-a - 1) b;have e2:=Int.emod_nonneg (-a - 1) (Int.ne_of_gt hb);have e3:=Int.emod_lt_of_pos (-a - 1) hb;have e4:a=b*(-((-a - 1)/b) - 1)+(b+(-((-a - 1)%b) - 1)):=by
   rw[Int.mul_sub,ad9];lia
  have e5:a/b= -((-a - 1)/b) - 1:=by
   have:=ji hb (a:=a) (r:=b+(-((-a - 1)%b) - 1)) (q:= -((-a - 1)/b) - 1);exact(this.mpr ⟨by lia,by lia,by lia⟩).1
  have e6:a%b=b+(-((-a - 1)%b) - 1):=by
   have:=ji hb (a:=a) (r:=b+(-((-a - 1)%b) - 1)) (q:= -((-a - 1)/b) - 1);exact(this.mpr ⟨by lia,by lia,by lia⟩).2
  rw[e5,e6]
theorem ajw(hp:prim "int_divmod"=none)(r:Nat)(h2:D4 (Tn prim (r+1)))(h:D4 (Tn prim r)):D5 (Tn prim (r+1)):=λa b ha ha2 hb hb1 DF=>by
 have aqp:(2:Int)^530<2^540:=by decide
 by_cases h0:0<b
 ·exact h2 a b (by lia) (by lia) h0 DF
 ·have hq:=h (-a) (-b) (by lia) (by lia) (by lia) (by lia)
  have:=fq (prim:=prim) (r:=r) (ds:=[.int a,.int b]) (["a","b"]:List Str) hp (Vx a b _ _ (beq_eq_false_iff_ne.mpr (by lia)) (decide_eq_true (by lia)) hq);refine this.trans ?_;unfold Yc;rw[GY,GZ,aea]
end
section
structure PL(T:ec):Prop where
 tup:∀l:List Int,l.length<=1000->T.fn "_law_plain" [.tup (l.map .int),.tup (l.map .int)]=some (.bool true)
 lst:∀l:List Int,l.length<=1000->T.fn "_law_plain" [.lst (l.map .int),.lst (l.map .int)]=some (.bool true)
def fK:bW:=uk "_law_plain"
def fB:List Stmt:=bo "_law_plain"
def fC:ae:=pA (IC (bk (ak 0 fB)))
section
variable{T:ec}
theorem zo(n):∀l:List Int,sd (rA n) (l.map .int) (l.map .int)=some true:=by
 intro zx
 induction zx with
 |nil=>
  exact rfl
 |cons x l ih=>
  rw[bH];have h1:rA n (.int x) (.int x)=some true:=by
   cases n<;>(show some (x==x)=some true;rw[beq_self_eq_true])
  show((rA n (.int x) (.int x)).bind λx=>(sd (rA n) (l.map .int) (l.map .int)).map λy=>x&&y)=_;rw[h1,ih];rfl
theorem f_c(told due)(x):iF (dS T 28) [("told",told),("due",due)] fC (.int x)=some []:=by rfl'
theorem QS(told due:D)(l:List Int)(hi:(dS T 28).d fK [("told",told),("due",due)] (qg fC)=some told)(ht:items told=some (l.map .int)):(dS T 29).d fK [("told",told),("due",due)] fC=some (.lst []):=by
 have e:=ik (T:=T) (V:=dS T 28) (ks:=fK) (σ:=[("told",told),("due",due)]) (e:=fC) (d:=told) (φ:=D.int) (xs:=l) (g:=λ_=>[]) (by rfl') hi ht (λx hx=>f_c ..) (by rw[sO];exact de _);rw[sO]at e;exact e
theorem f_tup(l l2):(dS T 31).d fK [("told",.tup l),("due",.tup l2)] (bk (ak 0 fB))=((cmp .Eq (.tup l) (.tup l2)).map D.bool).bind λd=>(m9 d).bind λb=>match Hh,b with|.And,false=>some d|.Or,true=>some d|_,_=>(((dS T 29).d fK [("told",.tup l),("due",.tup l2)] fC).bind λd=>cmp .Eq d (.lst [])).map D.bool:=by rfl'
theorem ajy(l l2):(dS T 31).d fK [("told",.lst l),("due",.lst l2)] (bk (ak 0 fB))=((cmp .Eq (.lst l) (.lst l2)).map D.bool).bind λd=>(m9 d).bind λb=>match Hh,b with|.And,false=>some d|.Or,true=>some d|_,_=>(((dS T 29).d fK [("told",.lst l),("due",.lst l2)] fC).bind λd=>cmp .Eq d (.lst [])).map D.bool:=by rfl'
theorem ack(l:List Int):Xa T fK [] 20 fB [("told",.tup (l.map .int)),("due",.tup (l.map .int))] []=some (.rt (.bool true)):=by
 refine fR (bs:=[ak 0 fB]) (df (dR _ ((f_tup _ _).trans ?_)));have h1:cmp .Eq (.tup (l.map .int)) (.tup (l.map .int))=some true:=by
  show(if(l.map D.int).length=(l.map D.int).length then sd (rA 39) (l.map .int) (l.map .int)else none)=_;rw[if_pos rfl,zo]
 rw[h1,QS _ _ l (by rfl') rfl,ag,CY];rfl
theorem acm(l:List Int):Xa T fK [] 20 fB [("told",.lst (l.map .int)),("due",.lst (l.map .int))] []=some (.rt (.bool true)):=by
 refine fR (bs:=[ak 0 fB]) (df (dR _ ((ajy _ _).trans ?_)));have h1:cmp .Eq (.lst (l.map .int)) (.lst (l.map .int))=some true:=by
  show dA (if(l.map D.int).length=(l.map D.int).length then sd (rA 39) (l.map .int) (l.map .int)else some false) _=_;rw[if_pos rfl,zo];rfl
 rw[h1,QS _ _ l (by rfl') rfl,ag,CY];rfl
end
theorem Ye(hp:prim "_law_plain"=none)(r:Nat):PL (Tn prim (r+1)):=
 ⟨λl _=>fq (["told","due"]:List Str) hp (ack l),λl _=>fq (["told","due"]:List Str) hp (acm l)⟩
def FF(T:ec):Prop:=∀number sR Gh rest:Int,-(2^520)<number->number<2^520->0<sR->sR<2^100->number=sR*Gh+rest->0<=rest->rest<sR->T.fn "_law_fourfold" [.int number,.int sR,.int Gh,.int rest]=some (.bool true)
section
variable{T:ec}
def uK:bW:=uk "_law_fourfold"
def uB:List Stmt:=bo "_law_fourfold"
abbrev uS(n d q r:Int):cu:=[("number",.int n),("divisor",.int d),("quotient",.int q),("rest",.int r)]
theorem acn(n d q r less left)(t1 t2)(h0:(if decide (0<r)=true then some (D.tup [.int (-q - 1),.int (d - r)])else some (.tup [.int (-q),.int 0]))=some (.tup [.int less,.int left]))
(h1:((T.fn "int_divmod" [.int n,.int d]).bind λa=>(T.fn "int_divmod" [.int (-n),.int (-d)]).bind λb=>aE .Add a b)=some t1)(h2:T.fn "_law_plain" [t1,.tup [.int q,.int r,.int q,.int (-r)]]=some (.bool true))
(h3:((T.fn "int_divmod" [.int (-n),.int d]).bind λa=>(T.fn "int_divmod" [.int n,.int (-d)]).bind λb=>aE .Add a b)=some t2)(h4:T.fn "_law_plain" [t2,.tup [.int less,.int left,.int less,.int (-left)]]=some (.bool true)):
 Xa T uK [] 20 uB (uS n d q r) []=some (.rt (.bool true)):=by
 refine fR (bs:=[ak 0 uB,ak 1 uB,ak 2 uB]) ?_;refine fb (mO (.tup [.int less,.int left],false) (nW (d:=.tup [.int less,.int left]) (tr h0))) ?_;refine fb (bZ (.bool true) (tr (b:=(((T.fn "int_divmod" [.int n,.int d]).bind λa=>(T.fn "int_divmod" [.int (-n),.int (-d)]).bind λb=>aE .Add a b).bind λt=>some [t,.tup [.int q,.int r,.int q,.int (-r)]]).bind λds=>T.fn "_law_plain" ds) (by rw[h1];exact h2))) ?_;exact df (dR _ (tr (b:=(((T.fn "int_divmod" [.int (-n),.int d]).bind λa=>(T.fn "int_divmod" [.int n,.int (-d)]).bind λb=>aE .Add a b).bind λt=>some [t,.tup [.int less,.int left,.int less,.int (-left)]]).bind λds=>T.fn "_law_plain" ds) (by rw[h3];exact h4)))
end
theorem ajz(hp:prim "_law_fourfold"=none)(r:Nat)(hP:PL (Tn prim r))(hD:D5 (Tn prim r)):FF (Tn prim (r+1)):=λn d q s nU hn2 hd hd2 e hr1 hr2=>by
 have axq:(2:Int)^520<2^530:=by decide
 have q1:n.fdiv d=q/\n.fmod d=s:=by
  rw[bN _ (by lia),cy _ (by lia)];exact(ji hd).mpr ⟨by lia,hr1,hr2⟩
 obtain⟨less,left,h0,q2⟩:∃less left:Int,(if decide (0<s)=true then some (D.tup [.int (-q - 1),.int (d - s)])else some (.tup [.int (-q),.int 0]))=some (.tup [.int less,.int left])/\(-n).fdiv d=less/\(-n).fmod d=left:=by
  by_cases h:0<s
  ·refine⟨-q - 1,d - s,by rw[if_pos (decide_eq_true h)],?_⟩
   rw[bN _ (by lia),cy _ (by lia)];exact(ji hd).mpr ⟨by rw[e,Int.mul_sub,ad9];lia,by lia,by lia⟩
  ·refine⟨-q,0,by rw[if_neg (by simpa using h)],?_⟩
   rw[bN _ (by lia),cy _ (by lia)];exact(ji hd).mpr ⟨by rw[e,ad9];lia,by lia,by lia⟩
 have a1:=hD n d (by lia) (by lia) (by lia) (by lia) hd2;have a2:=hD (-n) (-d) (by lia) (by lia) (by lia) (by lia) (by lia);have a3:=hD (-n) d (by lia) (by lia) (by lia) (by lia) hd2;have a4:=hD n (-d) (by lia) (by lia) (by lia) (by lia) (by lia);have f2:n.fdiv (-d)=(-n).fdiv d/\n.fmod (-d)= -((-n).fmod d):=by
  have e1:=GY (a:= -n) (b:=d);have e2:=GZ (a:= -n) (b:=d);rw[aea]at e1 e2;exact⟨e1,e2⟩
 unfold Yc at a1 a2 a3 a4;rw[GY,GZ,q1.1,q1.2]at a2;rw[q1.1,q1.2]at a1;rw[q2.1,q2.2]at a3;rw[f2.1,f2.2,q2.1,q2.2]at a4;refine fq (ds:=[.int n,.int d,.int q,.int s]) (["number","divisor","quotient","rest"]:List Str) hp (acn n d q s less left _ _ h0 (by rw[a1,a2];rfl) (hP.tup [q,s,q,-s] (by simp)) (by rw[a3,a4];rfl) (hP.tup [less,left,less,-left] (by simp)))
end
end Internal.Z
namespace Internal.I
open Internal.Z (da fz fG pC jd pf jr)
def QT:List D->Option (D×D)
 |[]=>none
 |a::l=>match l with
  |[]=>none
  |b::l=>match l with
   |[]=>some (a,b)
   |_::_=>none
theorem ux(h:QT ds=some x):ds=[x.1,x.2]:=by
 cases ds with
 |nil=>exact no h
 |cons a l=>cases l with
  |nil=>exact no h
  |cons b l=>cases l with
   |nil=>exact af h▸rfl
   |cons=>exact no h
def BP:D->Option Int
 |.int a=>some a
 |_=>none
theorem lS(h:BP d=some a):d=.int a:=by
 cases d<;>first|exact no h|exact af h▸rfl
def Gj:D->Option (List D)
 |.lst a=>some a
 |_=>none
theorem oA(h:Gj d=some a):d=.lst a:=by
 cases d<;>first|exact no h|exact af h▸rfl
def pI(ds:List D):Option D:=(QT ds).bind λx=>(BP x.1).bind λa=>(BP x.2).bind λn=>if 0<=a/\a<2^600/\1<=n/\n<=300 then some (.lst ((fG n.toNat a.toNat).map di))else none
def pD(ds:List D):Option D:=(QT ds).bind λx=>(Gj x.1).bind λxs=>(gM xs).bind λns=>(BP x.2).bind λn=>if 1<=n/\n.toNat*ns.length<=900/\(∀x∈ns,0<=x/\x<2^n.toNat)then some (.int (j3 n.toNat ns))else none
def jt(f:Str):Option (List D->Option D):=if f=("_int2digits":Str)then some pI else if f=("_digits2int":Str)then some pD else none
theorem zp:∀f,(f==("_int2digits":Str))=false->(f==("_digits2int":Str))=false->jt f=none:=λf h1 h2=>by
 unfold jt;rw[if_neg (by simpa using h1),if_neg (by simpa using h2)]
inductive Wm(h:Heap)(d:A0)(pos:Pos)(qual:Str)(P:Addr):Prop
 |mk (a:Addr) (o:Obj) (pm:Value) (c:Addr) (doc:Value) (g:Gv h d.name (.ref a)) (ho:h.get? a=some o) (hd:o.data=.func (cJ d.name d.params d.body d.scope pm (.ref c) doc)) (rc:h.CodeRec (.ref c) d.name) (wm:jG h c P pos qual)
def Sw(w:World)(h:Heap):Prop:=jo w h/\(∃P,Wm h lr (bV eI) eQ P)/\∃P,Wm h jH (bV dI) dQ P
theorem fnI(r)(ds):(Internal.Z.Tn jt (r+1)).fn "_int2digits" ds=pI ds:=by rfl'
theorem fnD(r)(ds):(Internal.Z.Tn jt (r+1)).fn "_digits2int" ds=pD ds:=by rfl'
theorem ajA(a n:Nat)(h1:1<=n)(h2:n<=300)(h3:a<2^600):pI [.int a,.int n]=some (.lst ((fG n a).map di)):=by
 have h4:(a:Int)<2^600:=by
  have e:((2^600:Nat):Int)=2^600:=gE 2 600;rw[<-e];exact oZ.mpr h3
 refine oB (a:=(.int a,.int n)) rfl (oB (a:=(a:Int)) rfl (oB (a:=(n:Int)) rfl ?_));rw[if_pos ⟨bF _,h4,by omega,by omega⟩,aR,aR]
theorem aco(r:Nat):Internal.Z.PS (Internal.Z.Tn jt (r+1)) where
 i2d a n h1 h2 h3:=by
  rw[fnI];exact ajA a n h1 h2 h3
 d2i l n h1 h2 h3:=by
  rw[fnD];refine oB (a:=(.lst (l.map di),.int n)) rfl (oB (a:=l.map di) rfl (oB (Internal.Z.ints_map l) (oB (a:=(n:Int)) rfl ?_)));have hb:∀x∈l.map fN,0<=x/\x<2^(n:Int).toNat:=λx hx=>by
   obtain⟨y,hy,rfl⟩:=Li hx;have:=h3 y hy;rw[aR];refine⟨bF _,?_⟩;have e:((2^n:Nat):Int)=2^n:=gE 2 n;rw[<-e];exact oZ.mpr this
  rw[if_pos ⟨by omega,by rw[aR,aj];exact h2,hb⟩,aR,jr];rfl
theorem dq.QU(am:dq A La s)(h:∀h,La h->La' h):dq A La' s:=⟨am.hh,am.nb,am.nl,am.gl,am.tk,am.un,λx k=>h x (am.la x k)⟩
theorem jG.place(x:jG h c P pos q):Place h c P pos q/\∃ps c',h.get? P=some (tabObj ps)/\codeAmong pos ps.toList=some (.ref c'):=by
 obtain⟨ps,c',h1,h2,h3,h4⟩:=x.tab;exact⟨⟨x.hd,ps,h1,h2,.inr ⟨c',h3,h4⟩⟩,ps,c',h1,h3⟩
theorem iQ.orP(lo:iQ F h)(e:h.get? P=some o):iQ (λa=>F a\/a=P) h:=λa q=>by
 rcases q with q|q
 ·exact lo a q
 ·rw[q,e];rfl
theorem ajB(h)(ds)(d)(la:Sw w h)(e:pI ds=some d):∃a o fd,Gv h "_int2digits" (.ref a)/\h.get? a=some o/\o.data=.func fd/\
 ∀(A:aC)(E:Value->ah->Prop) F s vs,Bu 50 A->dq A (Sw w) s->iQ F s.heap->bT h s.heap->aZ s.heap F ds vs->wpAny (model pw w) A (call (.ref a) vs) (gU F s d) E s:=by
 obtain⟨_,⟨P,a,o,pm,c,doc,g1,g2,g3,g4,g5⟩,_⟩:=la;rw[j9]at g1;refine⟨a,o,_,g1,g2,g3,λA E F s vs bu am lo kh rs=>?_⟩;obtain⟨z,e1,e⟩:=aO e;obtain⟨x,e2,e⟩:=aO e;obtain⟨n,e3,e⟩:=aO e;obtain⟨hc,e⟩:=bx e;rw[ux e1,lS e2,lS e3]at rs;subst e;obtain⟨x,rfl⟩:=fP hc.1;obtain⟨n,rfl⟩:=fP (show 0<=n by omega);have w5:=g5.zl kh;obtain⟨pl,ps,c',p1,p2⟩:=jG.place w5;have hx:x<2^600:=by
  have e:((2^600:Nat):Int)=2^600:=gE 2 600;have:=hc.2.1;rw[<-e]at this;exact oZ.mp this
 refine ai (bw am.tk (Gg (F:=λa=>F a\/a=P) (kh _ _ g2) g3 (g4.keeps kh) pl (.inr rfl) ⟨by have:=bu.1;omega,by have:=bu.2;omega⟩ (dq.QU am λ_ q=>q.1) (iQ.orP lo p1) (eJ (ds:=[.int x,.int n]) rfl rs) hx (by omega) (by omega))) (λv s' q=>?_) λ_ _ e=>e;obtain⟨t,⟨h2,tk,rfl⟩,_,ka,_,r⟩:=q;rw[aR,aR];exact⟨⟨h2,tk,rfl,ka ⟨ps,c',p1,p2⟩⟩,r.less λb q=>.inl (.inl q)⟩
end Internal.I
namespace Internal.I
theorem zq:∀{ds:List D}{ns:List Int},gM ds=some ns->ds=ns.map .int:=by
 intro zx
 induction zx with
 |nil=>
  rintro ns h;cases h;rfl
 |cons d ds ih=>
  rintro ns h;cases d<;>first|(cases h;done)|skip
  rename_i i;have h:(gM ds).map (i::·)=some ns:=h;obtain⟨ms,h1,rfl⟩:=dC h;rw[ih h1];rfl
theorem QV(ns:List Int):(ns.map D.int).all nv=true:=by
 induction ns with
 |nil=>rfl
 |cons d ds ih=>rw[bH,qG,ih];rfl
theorem ajC(h:Heap)(ds:List D)(d:D)(la:Sw w h)(e:pD ds=some d):∃a o fd,Gv h "_digits2int" (.ref a)/\h.get? a=some o/\o.data=.func fd/\
 ∀(A:aC)(E:Value->ah->Prop) F s vs,Bu 50 A->dq A (Sw w) s->iQ F s.heap->bT h s.heap->aZ s.heap F ds vs->wpAny (model pw w) A (call (.ref a) vs) (gU F s d) E s:=by
 obtain⟨_,_,P,a,o,pm,c,doc,g1,g2,g3,g4,g5⟩:=la;rw[ug]at g1;refine⟨a,o,_,g1,g2,g3,λA E F s vs bu am lo kh rs=>?_⟩;obtain⟨z,e1,e⟩:=aO e;obtain⟨xs,e2,e⟩:=aO e;obtain⟨ns,Cp,e⟩:=aO e;obtain⟨n,e3,e⟩:=aO e;obtain⟨hc,e⟩:=bx e;rw[ux e1,oA e2,lS e3]at rs;subst e;cases zq Cp;obtain⟨n,rfl⟩:=fP (show 0<=n by lia);rw[aR]at hc⊢;have w5:=g5.zl kh;obtain⟨pl,ps,c',p1,p2⟩:=jG.place w5;have rs':aZ s.heap (λa=>F a\/a=P) [.lst (ns.map .int),.int n] vs:=by
  obtain⟨v,r,rfl,r1,r2⟩:=rs.eM;refine .cons ?_ (eJ (ds:=[.int n]) rfl r2);obtain⟨b,vs,m,e,nb,g,q⟩:=r1.lst;refine e▸g8 (λz=>?_) g (eJ (QV ns) q);rcases z with z|z
  ·exact nb z
  ·rw[z]at g
   have g:s.heap.get? P=some _:=g;rw[p1]at g;cases g
 refine ai (bw am.tk (F3 (F:=λa=>F a\/a=P) (kh _ _ g2) g3 (g4.keeps kh) pl (.inr rfl) ⟨by have:=bu.1;lia,by have:=bu.2;lia⟩ (dq.QU am λ_ q=>q.1) (iQ.orP lo p1) rs' hc.2.1 (by lia) hc.2.2)) (λv s' q=>?_) λ_ _ e=>e;obtain⟨t,⟨h2,tk,rfl⟩,_,ka,_,r⟩:=q;exact⟨⟨h2,tk,rfl,ka ⟨ps,c',p1,p2⟩⟩,r.less λb q=>.inl (.inl q)⟩
theorem acp(w):FE pw w (Sw w) (NG jt) 50:=UY w (Sw w) jt (λh q=>q.1) (λh f p ds d la hp e=>by
 unfold jt at hp;split at hp
 ·rename_i hf
  cases hp;subst hf;exact ajB h ds d la e
 ·split at hp
  ·rename_i hf
   cases hp;subst hf;exact ajC h ds d la e
  ·cases hp)
theorem QW(w)(r):dP pw w (Sw w) (Bu (r+50)) (Internal.Z.Tn jt r):=Iw (acp w) 30 60 20 r
end Internal.I
end
section
open PySem PySem.W PyProof.Rows
namespace Internal.I
section
section
variable{prog:bb}{w:World}{A:aC}{E:Value->ah->Prop}{G F:Addr->Prop}{env:Env}{La:Heap->Prop}{Qf:aC->Prop}{V:Ev}{T:ec}{σ:cu}{s:ah}
theorem zt(VO:c8 prog w La Qf V)(bu:Qf A)(am:dq A La s)(x:In env G σ s.heap)(hk:env.scope.names.lookup f=some .globalImplicit)(hd1:(f==("__debug__":Str))=false)
(hg:Gv s.heap f (.ref fa))(ho:s.heap.get? fa=some o)(abx:o.data=.func fd)(h1:tJ (V.d env.scope.names σ) args=some ds)
(k:∀s1 vs,Keeps s s1->1<=s1.toks->aZ s1.heap G ds vs->wpAny (model prog w) A (call (.ref fa) vs) Q E s1):wpAny (model prog w) A (eval (.Call (.Name f np) args [] pos) env) Q E s:=by
 have hp:=(j0 (env:=env) (pos:=pos) h1).1;show wpAny _ _ (do callWith pos (<-eval (.Name f np) env) [] (backTo pos (starEach args env)) []) _ _ _;refine ao (nu x hk hd1 (.inl hg) ?_);refine kr (o:=o) (fd:=fd) (dT hp ?_);refine ai (bw am.tk (nq VO bu am x h1)) (λvs s1 q1=>?_) λ_ _ e=>e;obtain⟨t1,k1,r1⟩:=q1;exact⟨⟨Keeps.all k1 _ _ ho,abx⟩,k s1 vs k1 t1 r1⟩
end
end
end Internal.I
namespace Internal.Z
section
structure US where
 ups:List Int
 before:Int
 mark:Int
def Vy(s:US)(x:Int):Int:=8*min s.before (x - 256)+max s.before (x - 256)
def jR(s:US)(x:Int):US:=
 if x<256 then⟨s.ups,s.before,x⟩
 else if s.mark.fmod 2=1/\x - 256≠s.before then⟨s.ups++[Vy s x],x - 256,0⟩else⟨s.ups,x - 256,0⟩
section
variable{T:ec}
def G8:bW:=uk "_law_upsets"
def Yg:List Stmt:=bo "_law_upsets"
def Sy:Stmt:=ak 1 Yg
def uy:List Stmt:=br Sy
def QX:Stmt:=ak 1 uy
def upJ:Stmt:=ak 0 (dG QX)
def I0(o:Option D)(S ups before mark:D):cu:=([("symbols",S),("mark",mark),("before",before),("upsets",ups)]:cu)++(match o with|none=>[]|some a=>[("symbol",a)])
theorem I1(hT:S1 T)(o:Option D)(S ups before mark)(x):(dS T 31).b G8 (put "symbol" (.int x) (I0 o S ups before mark)) (dw (ak 0 uy))=some false:=by
 have h1:cmp .IsNot (.bool (decide (x<256))) (.bool (decide (x<256)))=some false:=by
  show(some (_==_)).map (λx=> !x)=_;simp
 have h2:cmp .IsNot (.bool (decide (256<=x))) (.bool (decide (255<x)))=some false:=by
  show(some (_==_)).map (λx=> !x)=_;have:decide (256<=x)=decide (255<x):=by
   rw[eW,decide_eq_true_eq,decide_eq_true_eq];omega
  rw[this];simp
 have h3:cmp .IsNot (.bool (x==0)) (.bool (x==0))=some false:=by
  show(some (_==_)).map (λx=> !x)=_;simp
 refine tr (b:=X7 ((T.fn "ISTERMINAL" [.int x]).bind λa=>cmp .IsNot a (.bool (decide (x<256)))) (X7 ((T.fn "ISNONTERMINAL" [.int x]).bind λa=>cmp .IsNot a (.bool (decide (255<x)))) (X7 ((T.fn "ISEOF" [.int x]).bind λa=>cmp .IsNot a (.bool (x==0))) (some false)))) ?_ ?_
 ·rw[hT.tm,hT.nt,hT.eo,ag,ag,ag,h1,h2,h3];rfl
 ·rcases o with _|o<;>rfl'
theorem QY(hT:S1 T)(o:Option D)(S)(ups before mark)(x)(n)(hx:x<256):
 Xa T G8 ["upsets"] (n+2) uy (g1 (fg G8 (iM Sy) (.int x) (I0 o S (.lst ups) before mark,["upsets"]))) (g2 (fg G8 (iM Sy) (.int x) (I0 o S (.lst ups) before mark,["upsets"])))=
  some (.nx (I0 (some (.int x)) S (.lst ups) before (.int x)) ["upsets"]):=by
 have Mb:(some (decide (x<256)):Option Bool)=some true:=by rw[decide_eq_true hx]
 have hw:=I1 hT o S (.lst ups) before mark x;rcases o with _|o
 all_goals
  refine fR (bs:=[ak 0 uy,ak 1 uy]) ?_;refine cM (b:=[]) (tr hw) (fR (bs:=[]) rfl) ?_;refine lR (b:=[ak 0 (br QX)]) (tr Mb) (fR (bs:=[ak 0 (br QX)]) (fb (bZ (.int x) (by rfl')) rfl)) ?_;rfl'
def upV(before x:Int):Option D:=(((((aE .Sub (.int x) (.int 256)).bind λd=>some [d]).bind λds=>some (.int before::ds)).bind λds=>cH .min ds).bind λm=>aE .Mult (.int 8) m).bind λa=>((((aE .Sub (.int x) (.int 256)).bind λd=>some [d]).bind λds=>some (.int before::ds)).bind λds=>cH .max ds).bind λb=>aE .Add a b
def upT(before mark x:Int):Option Bool:=Vc ((aE .Mod (.int mark) (.int 2)).bind λd=>cmp .Eq d (.int 1)) (Vc ((aE .Sub (.int x) (.int 256)).bind λd=>cmp .NotEq d (.int before)) (some true))
theorem QZ(hT:S1 T)(o:Option D)(S)(ups)(before mark:Int)(x)(n)(hx:¬x<256)(h1:upT before mark x=some true)(h2:upV before x=some v)(h3:aE .Sub (.int x) (.int 256)=some (.int y))(hl:ups.length+1<=ei):
 Xa T G8 ["upsets"] (n+3) uy (g1 (fg G8 (iM Sy) (.int x) (I0 o S (.lst ups) (.int before) (.int mark),["upsets"]))) (g2 (fg G8 (iM Sy) (.int x) (I0 o S (.lst ups) (.int before) (.int mark),["upsets"])))=
  some (.nx (I0 (some (.int x)) S (.lst (ups++[v])) (.int y) (.int 0)) ["upsets"]):=by
 have Mb:(some (decide (x<256)):Option Bool)=some false:=by rw[decide_eq_false hx]
 have hw:=I1 hT o S (.lst ups) (.int before) (.int mark) x;rcases o with _|o
 all_goals
  refine fR (bs:=[ak 0 uy,ak 1 uy]) ?_;refine cM (b:=[]) (tr hw) (fR (bs:=[]) rfl) ?_;refine cM (b:=[upJ,ak 1 (dG QX)]) (σ':=(I0 (some (.int x)) S (.lst (ups++[v])) (.int y) (.int 0))) (own':=["upsets"]) (tr Mb) (fR (bs:=[upJ,ak 1 (dG QX)]) ?_) rfl;refine lR (b:=[ak 0 (br upJ)]) (σ':=(I0 (some (.int x)) S (.lst (ups++[v])) (.int before) (.int mark))) (own':=["upsets"]) (tr h1) (fR (bs:=[ak 0 (br upJ)]) (fb (CX (ds:=ups) (nW (tr h2)) hl) rfl)) ?_;exact fb (mN ["before","mark"] [Aa 0 (ak 1 (dG QX)),Aa 1 (ak 1 (dG QX))] (ej (nW (tr h3)) (ej (nW (d:=.int 0) (by rfl')) mM))) rfl
theorem Q0(hT:S1 T)(o:Option D)(S)(ups)(before mark:Int)(x)(n)(hx:¬x<256)(h1:upT before mark x=some false)(h3:aE .Sub (.int x) (.int 256)=some (.int y)):
 Xa T G8 ["upsets"] (n+3) uy (g1 (fg G8 (iM Sy) (.int x) (I0 o S (.lst ups) (.int before) (.int mark),["upsets"]))) (g2 (fg G8 (iM Sy) (.int x) (I0 o S (.lst ups) (.int before) (.int mark),["upsets"])))=
  some (.nx (I0 (some (.int x)) S (.lst ups) (.int y) (.int 0)) ["upsets"]):=by
 have Mb:(some (decide (x<256)):Option Bool)=some false:=by rw[decide_eq_false hx]
 have hw:=I1 hT o S (.lst ups) (.int before) (.int mark) x;rcases o with _|o
 all_goals
  refine fR (bs:=[ak 0 uy,ak 1 uy]) ?_;refine cM (b:=[]) (tr hw) (fR (bs:=[]) rfl) ?_;refine cM (b:=[upJ,ak 1 (dG QX)]) (σ':=(I0 (some (.int x)) S (.lst ups) (.int y) (.int 0))) (own':=["upsets"]) (tr Mb) (fR (bs:=[upJ,ak 1 (dG QX)]) ?_) rfl;refine cM (b:=[]) (σ':=(I0 (some (.int x)) S (.lst ups) (.int before) (.int mark))) (own':=["upsets"]) (tr h1) (fR (bs:=[]) rfl) ?_;exact fb (mN ["before","mark"] [Aa 0 (ak 1 (dG QX)),Aa 1 (ak 1 (dG QX))] (ej (nW (tr h3)) (ej (nW (d:=.int 0) (by rfl')) mM))) rfl
end
end
section
theorem sub_int(a b:Int):aE .Sub (.int a) (.int b)=some (.int (a - b)):=by rfl'
theorem add_int(a b:Int):aE .Add (.int a) (.int b)=some (.int (a+b)):=by rfl'
theorem Q5(a:Int):aE .Mod (.int a) (.int 2)=some (.int (a.fmod 2)):=by rfl'
theorem Vz(a b:Int):cH .min [.int a,.int b]=some (.int (if b<a then b else a)):=by rfl'
theorem VA(a b:Int):cH .max [.int a,.int b]=some (.int (if b>a then b else a)):=by rfl'
theorem acq(s:US)(x:Int)(h1:sm (min s.before (x - 256))=true):upV s.before x=some (.int (Vy s x)):=by
 have e1:(if x - 256<s.before then x - 256 else s.before)=min s.before (x - 256):=by split<;>omega
 have e2:(if x - 256>s.before then x - 256 else s.before)=max s.before (x - 256):=by split<;>omega
 unfold upV Vy;rw[sub_int,ag,ag,ag,Vz,e1,ag,CV (kz (by decide) (by decide)) h1,ag,ag,VA,e2,ag,add_int]
theorem acr(s:US)(x:Int):upT s.before s.mark x=some (decide (s.mark.fmod 2=1/\x - 256≠s.before)):=by
 have e1:cmp .Eq (.int (s.mark.fmod 2)) (.int 1)=some (s.mark.fmod 2==1):=rfl;have e2:cmp .NotEq (.int (x - 256)) (.int s.before)=some (!(x - 256==s.before)):=rfl;unfold upT;rw[Q5,sub_int,ag,ag,e1,e2];have f1:(s.mark.fmod 2==1)=decide (s.mark.fmod 2=1):=rfl;have f2:(x - 256==s.before)=decide (x - 256=s.before):=rfl;rw[f1,f2];by_cases h:s.mark.fmod 2=1
 ·by_cases g:x - 256=s.before
  ·have k:¬(s.mark.fmod 2=1/\x - 256≠s.before):=λq=>q.2 g
   rw[decide_eq_false k,decide_eq_true h,decide_eq_true g];rfl
  ·have k:s.mark.fmod 2=1/\x - 256≠s.before:=⟨h,g⟩
   rw[decide_eq_true k,decide_eq_true h,decide_eq_false g];rfl
 ·have k:¬(s.mark.fmod 2=1/\x - 256≠s.before):=λq=>h q.1
  rw[decide_eq_false k,decide_eq_false h];rfl
section
variable{T:ec}
def upD(o:Option D)(S:D)(s:US):cu:=I0 o S (.lst (s.ups.map .int)) (.int s.before) (.int s.mark)
theorem VC(hT:S1 T)(o:Option D)(S:D)(s:US)(x:Int)(n:Nat)(h1:s.ups.length<=1000)(h2:sm (min s.before (x - 256))=true):
 Xa T G8 ["upsets"] (n+3) uy (g1 (fg G8 (iM Sy) (.int x) (upD o S s,["upsets"]))) (g2 (fg G8 (iM Sy) (.int x) (upD o S s,["upsets"])))=some (.nx (upD (some (.int x)) S (jR s x)) ["upsets"]):=by
 have fX:=d9;have ht:=acr s x;unfold jR;by_cases hx:x<256
 ·rw[if_pos hx]
  exact QY hT o S (s.ups.map .int) (.int s.before) (.int s.mark) x (n+1) hx
 ·rw[if_neg hx]
  by_cases h:s.mark.fmod 2=1/\x - 256≠s.before
  ·rw[if_pos h]
   rw[decide_eq_true h]at ht;have:=QZ hT o S (s.ups.map .int) s.before s.mark x n hx ht (acq s x h2) (sub_int x 256) (by rw[aj];omega);refine xN this ?_;unfold upD;dsimp only;rw[c7];rfl
  ·rw[if_neg h]
   rw[decide_eq_false h]at ht;exact Q0 hT o S (s.ups.map .int) s.before s.mark x n hx ht (sub_int x 256)
end
end
section
section
variable{T:ec}
theorem MR(s:US)(x)(N)(h1:s.ups.length<=N)(h2:s.before.natAbs<=3000)(hx:x.natAbs<=2000):(jR s x).ups.length<=N+1/\(jR s x).before.natAbs<=3000:=by
 unfold jR;split
 ·exact⟨Nat.le_succ_of_le h1,h2⟩
 ·split
  ·dsimp only;rw[aG];simp;omega
  ·dsimp only;omega
theorem VD(hT:S1 T)(S)(n):∀(xs:List Int)(o:Option D)(s:US)(N:Nat),s.ups.length<=N->s.before.natAbs<=3000->(∀x∈xs,x.natAbs<=2000)->N+xs.length<=1000->
 ∃o',sx (Xa T G8 ["upsets"] (n+3)) G8 (iM Sy) uy (xs.map .int) (upD o S s) ["upsets"]=some (.nx (upD o' S (xs.foldl jR s)) ["upsets"]):=by
 intro xs
 induction xs with
 |nil=>
  rintro o s N _ _ _ _;exact⟨o,rfl⟩
 |cons x xs ih=>
  rintro o s N h1 h2 h3 h4;rw[bD]at h4;have hx:=h3 x (aA ..);obtain⟨q1,q2⟩:=MR s x N h1 h2 hx;obtain⟨o',ho⟩:=ih (some (.int x)) (jR s x) (N+1) q1 q2 (λy hy=>h3 y (aD _ hy)) (by omega);exact⟨o',sJ (VC hT o S s x n (by omega) (kz (by omega) (by omega))) ho (by rcases o with _|o<;>rfl')⟩
theorem acs(hT:S1 T)(xs:List Int)(h:xs.length<=1000)(h3:∀x∈xs,x.natAbs<=2000):Xa T G8 ["upsets"] 20 Yg [("symbols",.lst (xs.map .int))] []=some (.rt (.lst ((xs.foldl jR ⟨[],-1,0⟩).ups.map .int))):=by
 obtain⟨o',ho⟩:=VD hT (.lst (xs.map .int)) 16 xs none ⟨[],-1,0⟩ 0 (by simp) (by decide) h3 (by omega);refine fR (bs:=[ak 0 Yg,ak 1 Yg,ak 2 Yg]) ?_;refine fb (mN ["upsets","before","mark"] [Aa 0 (ak 0 Yg),Aa 1 (ak 0 Yg),Aa 2 (ak 0 Yg)] (ej (nW (d:=.lst []) (by rfl')) (ej (nW (d:=.int (-1)) (by rfl')) (ej (nW (d:=.int 0) (by rfl')) mM)))) ?_;refine fb (y8 (ds:=xs.map .int) (by rfl') (tr ho)) ?_;generalize xs.foldl jR ⟨[],-1,0⟩=s;refine df (dR _ ?_);rcases o' with _|o'<;>rfl'
end
end
section
section
variable{T:ec}
def pF:Stmt:=ak 5 pB
def xF:List Stmt:=br pF
def pS1(ct ty ma place:Int)(text:Str)(row:List D):cu:=[("count",.int ct),("typing",.int ty),("marks",.int ma),("signs",rO),("several",ME),("great",um),("hidden",IP),("row",.lst row),("text",.str text),("place",.int place)]
def Ab(ct ty ma place:Int)(text:Str)(row:List D)(m dr ve wh ds wd co:D):cu:=pS1 ct ty ma place text row++([("mark",m),("draw",dr),("veil",ve),("which",wh),("dress",ds),("word",wd),("code",co)]:cu)
def pS2(o:Option (D×D×D×D×D×D×D))(ct ty ma place:Int)(text:Str)(row:List D):cu:=match o with
 |none=>pS1 ct ty ma place text row
 |some (m,dr,ve,wh,ds,wd,co)=>Ab ct ty ma place text row m dr ve wh ds wd co
theorem acu:xF=[ak 0 xF,ak 1 xF,ak 2 xF,ak 3 xF]++([ak 4 xF]++[ak 5 xF,ak 6 xF]):=by rfl'
theorem p_1(o:Option (D×D×D×D×D×D×D))(ct ty ma place)(text)(row)(dr mk_ ds wh ve c0)(wd)(n)
(h1:((aE .Pow (.int 13440) (.int place)).bind λd=>aE .FloorDiv (.int ty) d).bind (λd=>aE .Mod d (.int 13440))=some (.int dr))
(h2:((aE .Pow (.int 48) (.int place)).bind λd=>aE .FloorDiv (.int ma) d).bind (λd=>aE .Mod d (.int 48))=some (.int mk_))
(h3:aE .Mod (.int dr) (.int 16)=some (.int ds))(h4:(aE .FloorDiv (.int dr) (.int 16)).bind (λd=>aE .Mod d (.int 30))=some (.int wh))(h5:aE .FloorDiv (.int dr) (.int 480)=some (.int ve))
(h6:((aE .Mod (.int wh) (.int ct)).bind intD).bind (λi=>fY (.str ri) i)=some (.str wd))(h7:((aE .Mod (.int wh) (.int ct)).bind intD).bind (λi=>fY QB i)=some (.int c0)):
 cO (c9 (Va T) pK ["row"] 60 (Xa T pK ["row"] n)) [ak 0 xF,ak 1 xF,ak 2 xF,ak 3 xF] (pS2 o ct ty ma place text row) ["row"]=some (.nx (Ab ct ty ma place text row (.int mk_) (.int dr) (.int ve) (.int wh) (.int ds) (.str wd) (.int c0)) ["row"]):=by
 rcases o with _|⟨x1,x2,x3,x4,x5,x6,x7⟩
 all_goals
  refine fb (mN ["draw","mark"] [Aa 0 (ak 0 xF),Aa 1 (ak 0 xF)] (ej (nW (tr h1)) (ej (nW (tr h2)) mM))) ?_;refine fb (mN ["dress","which","veil"] [Aa 0 (ak 1 xF),Aa 1 (ak 1 xF),Aa 2 (ak 1 xF)] (ej (nW (tr h3)) (ej (nW (tr h4)) (ej (nW (tr h5)) mM)))) ?_;refine fb (bZ (.str wd) (tr h6)) ?_;exact fb (bZ (.int c0) (tr h7)) (by rfl')
abbrev pIf:Stmt:=ak 4 xF
abbrev MT:Stmt:=ak 0 (dG pIf)
def Yh:D:=.tup [.int 6,.int 8,.int 9]
theorem aqr(ct ty ma place)(text)(row)(m dr ve)(wh ds c0 cd)(wd wd2)(n)(h1:cmp .Lt (.int ds) (.int 3)=some true)
(h2:(((((aE .Sub (.int ct) (.int 4)).bind intD).bind λi=>fY Yh i).bind λb=>aE .Mod (.int wh) b).bind intD).bind (λi=>fY ME i)=some (.tup [.int cd,.str wd2])):
 cO (c9 (Va T) pK ["row"] 60 (Xa T pK ["row"] (n+2))) [pIf] (Ab ct ty ma place text row m dr ve (.int wh) (.int ds) (.str wd) (.int c0)) ["row"]=some (.nx (Ab ct ty ma place text row m dr ve (.int wh) (.int ds) (.str wd2) (.int cd)) ["row"]):=by
 refine lR (b:=[ak 0 (br pIf)]) (σ':=Ab ct ty ma place text row m dr ve (.int wh) (.int ds) (.str wd2) (.int cd)) (own':=["row"]) (tr h1) ?_ rfl;refine fR (bs:=[ak 0 (br pIf)]) ?_;exact fb (mO (.tup [.int cd,.str wd2],false) (nW (d:=.tup [.int cd,.str wd2]) (tr h2))) (by rfl')
theorem aqs(ct ty ma place)(text)(row)(m dr ve wh)(ds c0 cd)(wd)(n)(h1:cmp .Lt (.int ds) (.int 3)=some false)(h2:cmp .Lt (.int ds) (.int 15)=some true)
(h3:((((aE .Sub (.int ds) (.int 3)).bind intD).bind λi=>fY um i).bind λa=>((cH .ord [.str wd]).bind λb=>aE .Add a b)).bind (λa=>aE .Sub a (.int 97))=some (.int cd)):
 cO (c9 (Va T) pK ["row"] 60 (Xa T pK ["row"] (n+2))) [pIf] (Ab ct ty ma place text row m dr ve wh (.int ds) (.str wd) (.int c0)) ["row"]=some (.nx (Ab ct ty ma place text row m dr ve wh (.int ds) (.str wd) (.int cd)) ["row"]):=by
 refine cM (b:=[MT]) (σ':=Ab ct ty ma place text row m dr ve wh (.int ds) (.str wd) (.int cd)) (own':=["row"]) (tr h1) ?_ rfl;refine fR (bs:=[MT]) ?_;refine lR (b:=[ak 0 (br MT)]) (σ':=Ab ct ty ma place text row m dr ve wh (.int ds) (.str wd) (.int cd)) (own':=["row"]) (tr h2) ?_ rfl;refine fR (bs:=[ak 0 (br MT)]) ?_;exact fb (bZ (.int cd) (tr h3)) (by rfl')
theorem aqt(ct ty ma place)(text)(row)(m dr ve wh)(ds c0)(wd)(n)(h1:cmp .Lt (.int ds) (.int 3)=some false)(h2:cmp .Lt (.int ds) (.int 15)=some false):
 cO (c9 (Va T) pK ["row"] 60 (Xa T pK ["row"] (n+2))) [pIf] (Ab ct ty ma place text row m dr ve wh (.int ds) (.str wd) (.int c0)) ["row"]=some (.nx (Ab ct ty ma place text row m dr ve wh (.int ds) (.str wd) (.int c0)) ["row"]):=by
 refine cM (b:=[MT]) (σ':=Ab ct ty ma place text row m dr ve wh (.int ds) (.str wd) (.int c0)) (own':=["row"]) (tr h1) ?_ rfl;refine fR (bs:=[MT]) ?_;refine cM (b:=[]) (σ':=Ab ct ty ma place text row m dr ve wh (.int ds) (.str wd) (.int c0)) (own':=["row"]) (tr h2) ?_ rfl;exact fR (bs:=[]) rfl
def acw(place m ve cd:Int):Option D:=(((cmp .Gt (.int place) (.int 0)).bind λc=>if c=true then fY rO m else some (.str (mk []))).bind λa=>
    ((cmp .Eq (.int ve) (.int 0)).bind λc=>if c=true then some (.str (mk []))else((((aE .Sub (.int ve) (.int 1)).bind intD).bind λi=>fY IP i).bind λd=>some [d]).bind λds=>cH .chr ds).bind λb=>aE .Add a b).bind λa=>(cH .chr [.int cd]).bind λb=>aE .Add a b
def pC2:ae:=IC (bk (ak 6 xF))
def acx(place m:Int)(more:D):Option D:=((cmp .Gt (.int place) (.int 0)).bind λc=>if c=true then(aE .Add (.int 7) (.int m)).bind λd=>some (.lst [d])else some (.lst [])).bind λa=>aE .Add a more
theorem p_3(ct ty ma place)(text text2 add wd)(row)(m ve cd)(dr wh ds)(more es)(n)(h1:acw place m ve cd=some (.str add))(h2:Ih .Add (.str text) (.str add)=some (.str text2))
(h3:(dS T 30).d pK (du ["row"] (Ab ct ty ma place text2 row (.int m) dr (.int ve) wh ds (.str wd) (.int cd))) pC2=some more)(h4:acx place m more=some (.lst es))(hl:row.length+es.length<=ei):
 cO (c9 (Va T) pK ["row"] 60 (Xa T pK ["row"] n)) [ak 5 xF,ak 6 xF] (Ab ct ty ma place text row (.int m) dr (.int ve) wh ds (.str wd) (.int cd)) ["row"]=some (.nx (Ab ct ty ma place text2 (row++es) (.int m) dr (.int ve) wh ds (.str wd) (.int cd)) ["row"]):=by
 refine fb (abJ (a:=.str text) (.str text2) (nW (d:=.str add) (tr h1)) h2) ?_;refine fb (Kp (ds:=row) (nW (d:=.lst es) (tr (b:=((cmp .Gt (.int place) (.int 0)).bind λc=>if c=true then(aE .Add (.int 7) (.int m)).bind λd=>some (.lst [d])else some (.lst [])).bind λa=>((dS T 30).d pK (du ["row"] (Ab ct ty ma place text2 row (.int m) dr (.int ve) wh ds (.str wd) (.int cd))) pC2).bind λb=>aE .Add a b) (by rw[h3];exact h4))) hl) ?_;rfl'
end
end
section
theorem Gk:IQ.length=9:=by rfl'
theorem Gl:MH.length=6:=by rfl'
theorem VE:((aM 6).all λi=>Kx (MH.getD i 0) [dh.getD i 0]&&dh.contains (dh.getD i 0))=true:=by rfl'
theorem VF:((aM 3).all λi=>match fY Yh (i:Nat)with|some (.int k)=>decide (0<k)&&decide (k<=9)|_=>false)=true:=by rfl'
structure acy(cd:Nat)(w:List Nat):Prop where
 ne:w≠[]
 le:∀l∈w,l∈dh
 ln:w.length<=3
 ok:Kx cd w=true
theorem Q6(h:x∈IQ):acy x.1 x.2:=by
 have:=aw.mp abX x h;simp only[av,cQ,aw]at this;obtain⟨h1,h2,h3,h4⟩:=this;exact⟨λe=>(by rw[e]at h2;exact DA h2.symm),λl hl=>cG.mp (h3 l hl),bP h4,h1⟩
structure PI(p:Nat)(t:List Nat)(r:List Int):Prop where
 sg:Seg (gG t) r
 tl:t.length<=5*p
 b3:∀c∈t,lq c=false->(mP c).length<=100
 rl:r.length<=4*p
 hd:0<p->∃x xs,r=x::xs/\256<=x
theorem PI.next(I:PI p t r)(S:acy cd w)(AK:pre=[]\/∃c,lq c=true/\pre=[c])(hm:m<48)(op:List Nat)(ro:List Int)(UO:(p=0/\op=[]/\ro=[])\/(0<p/\uo[m]? =some op/\ro=[((7+m:Nat):Int)])):
 PI (p+1) (t++(op++pre++[cd])) (r++(ro++w.map vL)):=by
 have ajG:op.length<=3/\(∀c∈op,Kx c [c]=true)/\ro.length<=1:=by
  rcases UO with⟨_,rfl,rfl⟩|⟨_,h2,rfl⟩
  ·exact⟨by simp,by simp,by simp⟩
  ·obtain⟨o',e1,_,_,e2,e3⟩:=ur hm
   rw[h2]at e1;cases e1;exact⟨e2,λc hc=>(e3 c hc).1,by simp⟩
 have Yi:pre.length<=1/\gG pre=[]/\∀c∈pre,lq c=true:=by
  rcases AK with rfl|⟨c,h1,rfl⟩
  ·exact⟨by simp,rfl,by simp⟩
  ·exact⟨by simp,MJ h1,by simpa using h1⟩
 have hw:=S.ln;obtain⟨l,w',rfl⟩:=pq S.ne;refine⟨?_,?_,?_,?_,λ_=>?_⟩
 ·rw[qA]
  refine I.sg.app ?_;rw[qA,qA,QE ajG.2.1,Yi.2.1,c6,Gb S.ok];have Yj:=Seg.lets S.le;rcases UO with⟨_,rfl,rfl⟩|⟨_,h2,rfl⟩
  ·exact Yj
  ·exact .op hm h2 (S.le _ (aA ..)) Yj
 ·have:=I.tl
  rw[aG,aG,aG,tQ];omega
 ·intro c hc hb
  rw[fO,fO,fO]at hc;rcases hc with hc|(hc|hc)|hc
  ·exact I.b3 c hc hb
  ·exact KA (ajG.2.1 c hc) (by simp)
  ·rw[Yi.2.2 c hc]at hb;cases hb
  ·rw[aY.mp hc];exact KA S.ok S.ln
 ·have:=I.rl
  rw[aG,aG,aj];omega
 ·rcases UO with⟨rfl,rfl,rfl⟩|⟨h1,_⟩
  ·have:r=[]:=ix (by have:=I.rl;omega)
   exact⟨vL l,w'.map vL,by rw[this];rfl,by unfold vL;omega⟩
  ·obtain⟨x,xs,rfl,h⟩:=I.hd h1
   exact⟨x,_,rfl,h⟩
section
variable{T:ec}
theorem aqu(ct ty ma place)(text)(row)(m dr ve wh ds co)(wd l):iF (dS T 29) (du ["row"] (Ab ct ty ma place text row m dr ve wh ds (.str wd) co)) pC2 (.str l)=((o6 .index (.str ri) [.str l]).bind λb=>aE .Add (.int 256) b).map λd=>[d]:=by rfl'
theorem acz(ct ty ma place)(text)(row)(m dr ve wh ds co)(w)(hw:∀l∈w,l∈dh)(hl:w.length<=ei):
 (dS T 30).d pK (du ["row"] (Ab ct ty ma place text row m dr ve wh ds (.str (mk w)) co)) pC2=some (.lst ((w.map vL).map .int)):=by
 have e:=ik (T:=T) (V:=dS T 29) (ks:=pK) (σ:=du ["row"] (Ab ct ty ma place text row m dr ve wh ds (.str (mk w)) co)) (e:=pC2) (d:=.str (mk w)) (φ:=dch) (xs:=w) (g:=λl=>[.int (vL l)])
  (by rfl') (by rfl') (QD w) (λl hl=>?_) (by rw[eR,aj];exact hl)
 ·rw[eR]at e
  rw[eO];exact e
 ·refine(aqu ct ty ma place text row m dr ve wh ds co (mk w) (ch l)).trans ?_
  rw[Vi (hw l hl)];rfl
theorem Q7(a b:Nat):cmp .Lt (.int a) (.int b)=some (decide (a<b)):=by
 show some (decide ((a:Int)<b))=_;congr 1;rw[eW,decide_eq_true_eq,decide_eq_true_eq];omega
theorem aqv(ct ty ma place:Int)(c:Nat)(hct:ct=(c:Nat))(h4:4<=c)(h6:c<=6)(text:Str)(row:List D)(m dr ve:D)(wh ds:Nat)(hds:ds<16)(l c0:Nat)(hl:l∈dh)(hc0:Kx c0 [l]=true)(n:Nat):
 ∃cd w,acy cd w/\cO (c9 (Va T) pK ["row"] 60 (Xa T pK ["row"] (n+2))) [pIf] (Ab ct ty ma place text row m dr ve (.int wh) (.int ds) (.str (mk [l])) (.int c0)) ["row"]=
  some (.nx (Ab ct ty ma place text row m dr ve (.int wh) (.int ds) (.str (mk w)) (.int (cd:Nat))) ["row"]):=by
 have t1:=Q7 ds 3;have t2:=Q7 ds 15;by_cases h1:ds<3
 ·rw[decide_eq_true h1]at t1
  obtain⟨i,rfl⟩:∃i,c=i+4:=⟨c - 4,by omega⟩
  have hi:i<3:=by omega
  have h:=aw.mp VF i (cL.mpr hi);split at h
  ·rename_i k hk
   obtain⟨g1,g2⟩:=bX.mp h;have hk0:0<k:=of_decide_eq_true g1;have hk9:k<=9:=of_decide_eq_true g2;obtain⟨k,rfl⟩:∃j:Nat,k=j:=⟨k.toNat,by omega⟩
   have hm:wh%k<IQ.length:=by rw[Gk];have:=dJ wh (show k>0 by omega);omega
   refine⟨IQ[wh%k].1,IQ[wh%k].2,Q6 (hZ hm),aqr ct ty ma place text row m dr ve wh ds c0 _ (mk [l]) _ n t1 ?_⟩;have e1:aE .Sub (.int ct) (.int 4)=some (.int (i:Nat)):=by
    show some (D.int (ct - 4))=_;exact congrArg (λx=>some (D.int x)) (by omega)
   refine oB (oB (oB (oB (oB e1 (nL _)) hk) (i6 (by omega))) (nL _)) ?_;have e3:=jq (f:=φV) hm (by rw[Gk];decide);rw[abT];exact e3
  ·cases h
 ·rw[decide_eq_false h1]at t1
  by_cases h2:ds<15
  ·rw[decide_eq_true h2]at t2
   have hg:ds - 3<Ga.length:=by rw[Kv];omega
   have h:=aw.mp (aw.mp abY _ (hZ hg)) l hl;rw[av]at h;have h97:=bP h.2;refine⟨Ga[ds - 3]+l - 97,[l],⟨by simp,by simpa using hl,by simp,h.1⟩,aqs ct ty ma place text row m dr ve (.int wh) ds c0 _ (mk [l]) n t1 t2 ?_⟩;have e1:aE .Sub (.int ds) (.int 3)=some (.int ((ds - 3:Nat):Nat)):=by
    exact congrArg (λx=>some (D.int x)) (show(ds:Int) - 3=((ds - 3:Nat):Int)by omega)
   have e2:cH .ord [.str (mk [l])]=some (.int l):=rfl;rw[e1,ag,nL,ag,abU,jq hg (by rw[Kv];decide),ag,e2,ag];show(some (D.int ((Ga[ds - 3]:Int)+l))).bind (λa=>aE .Sub a (.int 97))=_;exact congrArg (λx=>some (D.int x)) (show(Ga[ds - 3]:Int)+l - 97=((Ga[ds - 3]+l - 97:Nat):Int)by omega)
  ·rw[decide_eq_false h2]at t2
   exact⟨c0,[l],⟨by simp,by simpa using hl,by simp,hc0⟩,aqt ct ty ma place text row m dr ve (.int wh) ds c0 (mk [l]) n t1 t2⟩
end
end
section
theorem KC(p:Nat):cmp .Gt (.int p) (.int 0)=some (decide (0<p)):=by
 show some (decide ((p:Int)>((0:Nat):Int)))=_;refine congrArg some (decide_eq_decide.mpr ?_);omega
theorem VG{j:Nat}(h:j≠0):aE .Sub (.int j) (.int 1)=some (.int ((j - 1:Nat):Int)):=
 congrArg (λx=>some (D.int x)) (show(j:Int) - 1=((j - 1:Nat):Int)by omega)
theorem ajH(p m ve cd:Nat)(hm:m<48)(hve:ve<28)(Aj:cd<=1114111):∃op pre,(pre=[]\/∃c,lq c=true/\pre=[c])/\((p=0/\op=[])\/(0<p/\uo[m]? =some op))/\op.length<=3/\acw p m ve cd=some (.str (mk (op++pre++[cd]))):=by
 have fX:=d9;obtain⟨o,e1,_,_,e2,_⟩:=ur hm;obtain⟨op,UO,hol,hA⟩:∃op:List Nat,((p=0/\op=[])\/(0<p/\uo[m]? =some op))/\op.length<=3/\((cmp .Gt (.int p) (.int 0)).bind λc=>if c=true then fY rO m else some (.str (mk [])))=some (.str (mk op)):=by
  rw[KC,ag];by_cases hp:0<p
  ·exact⟨o,.inr ⟨hp,e1⟩,e2,by rw[decide_eq_true hp,if_pos rfl,QC,Ky e1 (by rw[Ku];decide)]⟩
  ·exact⟨[],.inl ⟨by omega,rfl⟩,by simp,by rw[decide_eq_false hp,if_neg aF]⟩
 obtain⟨pre,AK,hpl,hB⟩:∃pre:List Nat,(pre=[]\/∃c,lq c=true/\pre=[c])/\pre.length<=1/\((cmp .Eq (.int ve) (.int 0)).bind λc=>if c=true then some (.str (mk []))else((((aE .Sub (.int ve) (.int 1)).bind intD).bind λi=>fY IP i).bind λd=>some [d]).bind λds=>cH .chr ds)=some (.str (mk pre)):=by
  have h2:cmp .Eq (.int ((ve:Nat):Int)) (.int 0)=some (ve==0):=sN ve 0;rw[h2,ag];by_cases h0:ve=0
  ·exact⟨[],.inl rfl,by simp,if_pos (by rw[h0];rfl)⟩
  ·obtain⟨c,hc1,hc2,hc3⟩:=MK (j:=ve - 1) (by omega)
   refine⟨[c],.inr ⟨c,hc2,rfl⟩,by simp,?_⟩;rw[if_neg (by rw[beq_iff_eq];exact h0)];refine oB (oB (oB (oB (VG h0) (nL _)) (by rw[abV];exact Ky hc1 (by rw[Kw];decide))) rfl) ?_;exact Kz hc3
 refine⟨op,pre,AK,UO,hol,?_⟩;unfold acw;rw[hA,ag,hB,ag,add_str (by omega),ag,Kz Aj,ag,ajc,add_str (by rw[aG];simp;omega)]
theorem ajJ(p m:Nat)(vs:List Int)(hl:vs.length<=100):acx p m (.lst (vs.map .int))=some (.lst (((if 0<p then[((7+m:Nat):Int)]else[])++vs).map .int)):=by
 have fX:=d9;unfold acx;rw[KC,ag];by_cases hp:0<p
 ·rw[decide_eq_true hp,if_pos rfl,if_pos hp]
  show(some (D.lst [D.int (7+(m:Int))])).bind _=_;rw[ag,qy (by rw[aj];simp;omega),c7,eY];rfl
 ·rw[decide_eq_false hp,if_neg aF,if_neg hp,ag,qy (by rw[aj];simp;omega)];rfl
theorem Q8{b k ty p:Nat}(hb:b<1000000)(hb0:0<b)(hbk:b<=2^k)(hk:k<=20)(hp:p<=10):((aE .Pow (.int b) (.int (p:Int))).bind λd=>aE .FloorDiv (.int (ty:Int)) d).bind (λd=>aE .Mod d (.int b))=some (.int ((ty/b^p%b:Nat):Int)):=
 oB (oB (sP hb (aq hp (by decide))) (nJ (eZ hb0) (C0 hbk (bj (xm hk hp) (by decide))))) (i6 hb0)
section
variable{T:ec}
def pS0(o:Option (Int×D×D×D×D×D×D×D))(ct ty ma:Int)(text:Str)(row:List D):cu:=match o with
 |none=>[("count",.int ct),("typing",.int ty),("marks",.int ma),("signs",rO),("several",ME),("great",um),("hidden",IP),("row",.lst row),("text",.str text)]
 |some (pl,x)=>pS2 (some x) ct ty ma pl text row
theorem acA(o:Option (Int×D×D×D×D×D×D×D))(ct ty ma p:Int)(text:Str)(row:List D):fg pK (iM pF) (.int p) (pS0 o ct ty ma text row,["row"])=some (pS2 (o.map (·.2)) ct ty ma p text row,(["row"]:List Str)):=by
 rcases o with _|⟨x0,x1,x2,x3,x4,x5,x6,x7⟩<;>rfl'
inductive ajK(ct ty ma p:Nat)(x:Option Fl):Prop
 |mk (o':D×D×D×D×D×D×D) (t':List Nat) (r':List Int) (I:PI (p+1) t' r') (h:x=some (.nx (pS2 (some o') ct ty ma p (mk t') (r'.map .int)) ["row"]))
theorem acB(o:Option (D×D×D×D×D×D×D))(ct ty ma p:Nat)(h4:4<=ct)(h6:ct<=6)(hp:p<8)(t:List Nat)(r:List Int)(n:Nat)(I:PI p t r):
 ajK ct ty ma p (Xa T pK ["row"] (n+3) xF (pS2 o ct ty ma p (mk t) (r.map .int)) ["row"]):=by
 have fX:=d9;obtain⟨dr,hdr⟩:∃dr,dr=ty/13440^p%13440:=⟨_,rfl⟩;obtain⟨m,hm⟩:∃m,m=ma/48^p%48:=⟨_,rfl⟩;have axy:dr<13440:=hdr▸dJ _ (by decide);have U6:m<48:=hm▸dJ _ (by decide);obtain⟨i,hi⟩:∃i,i=dr/16%30%ct:=⟨_,rfl⟩;have hi6:i<6:=ck (hi▸dJ _ (ck (by decide) h4)) h6;have hc:=aw.mp VE i (cL.mpr hi6);rw[av]at hc;have hll:i<dh.length:=hi6;have oe:i<MH.length:=by rw[Gl];exact hi6
 rw[ox hll,ox oe]at hc;have hl:dh[i]∈dh:=hZ hll;obtain⟨cd,w,S,hif⟩:=aqv (T:=T) ct ty ma p ct rfl h4 h6 (mk t) (r.map .int) (.int m) (.int dr) (.int ((dr/480:Nat):Int)) (dr/16%30) (dr%16) (dJ _ (by decide)) dh[i] MH[i] hl hc.1 n;obtain⟨_,_,Aj⟩:=zi S.ok;obtain⟨op,pre,AK,UO,hol,aqy⟩:=ajH p m (dr/480) cd U6 (by omega) Aj;have htl:=I.tl;have hrl:=I.rl;have hwl:=S.ln;have hpl:pre.length<=1:=by rcases AK with rfl|⟨c,_,rfl⟩<;>simp
 have Q9:=ajJ p m (w.map vL) (by rw[aj];omega);refine⟨(.int m,.int dr,.int ((dr/480:Nat):Int),.int ((dr/16%30:Nat):Int),.int ((dr%16:Nat):Int),.str (mk w),.int cd),_,_,I.next S AK U6 op (if 0<p then[((7+m:Nat):Int)]else[]) ?_,fR (xD (p_1 o ct ty ma p (mk t) (r.map .int) dr m ((dr%16:Nat):Int) ((dr/16%30:Nat):Int) ((dr/480:Nat):Int) MH[i] (mk [dh[i]]) (n+2) ?_ ?_ ?_ ?_ ?_ ?_ ?_) (xD hif
  (p_3 ct ty ma p (mk t) (mk (t++(op++pre++[cd]))) (mk (op++pre++[cd])) (mk w) (r.map .int) m ((dr/480:Nat):Int) cd (.int dr) (.int ((dr/16%30:Nat):Int)) (.int ((dr%16:Nat):Int)) (.lst ((w.map vL).map .int)) _ (n+2) aqy (Vj ?_) (acz _ _ _ _ _ _ _ _ _ _ _ _ w S.le ?_) Q9 ?_))) acu |>.trans ?_⟩
 ·rcases UO with⟨rfl,rfl⟩|⟨h1,h2⟩
  ·exact .inl ⟨rfl,rfl,if_neg (by decide)⟩
  ·exact .inr ⟨h1,h2,if_pos h1⟩
 ·exact hdr▸Q8 (k:=14) (by decide) (by decide) (by decide) (by decide) (by omega)
 ·exact hm▸Q8 (k:=6) (by decide) (by decide) (by decide) (by decide) (by omega)
 ·exact i6 (b:=16) (by decide)
 ·exact oB (nJ (b:=16) (by decide) (zg (n:=4) (by decide) (by decide))) (i6 (b:=30) (by decide))
 ·exact nJ (b:=480) (by decide) (zg (n:=9) (by decide) (by decide))
 ·refine oB (oB (i6 (by omega)) (nL _)) ?_
  rw[<-hi];exact getI_str hll (by decide)
 ·refine oB (oB (i6 (by omega)) (nL _)) ?_
  rw[<-hi,abW];exact jq oe (by rw[Gl];decide)
 ·simp only[aG,tQ];omega
 ·omega
 ·simp only[aj,aG];split<;>simp<;>omega
 ·rw[<-c7];rfl
theorem acC(ct ty ma:Nat)(h4:4<=ct)(h6:ct<=6)(n:Nat):∀(j k:Nat)(o:Option (Int×D×D×D×D×D×D×D))(t:List Nat)(r:List Int),k+j=8->PI k t r->
 ∃o' t' r',PI 8 t' r'/\sx (Xa T pK ["row"] (n+3)) pK (iM pF) xF ((iu k j).map di) (pS0 o ct ty ma (mk t) (r.map .int)) ["row"]=some (.nx (pS0 o' ct ty ma (mk t') (r'.map .int)) ["row"]):=by
 intro j
 induction j with
 |zero=>
  intro k o t r h I;obtain rfl:k=8:=h;exact⟨o,t,r,I,rfl⟩
 |succ j ih=>
  intro k o t r h I;obtain⟨o',t',r',I',e⟩:=acB (T:=T) (o.map (·.2)) ct ty ma k h4 h6 (by omega) t r n I;obtain⟨o2,t2,r2,I2,e2⟩:=ih (k+1) (some ((k:Int),o')) t' r' (by omega) I';refine⟨o2,t2,r2,I2,?_⟩;rw[lV,bH];dsimp only[sx];rw[show di k=.int k from rfl,acA];show(Xa T pK ["row"] (n+3) xF _ _).bind _=_;rw[e];exact e2
theorem aqA(o:Option (Int×D×D×D×D×D×D×D))(ct ty ma)(text)(row):(dS T 31).d pK (pS0 o ct ty ma text row) (bk (ak 6 pB))=(((aE .Add (.lst row) (.lst [.int 0])).bind λd=>some [d]).bind λds=>some (.str text::ds)).bind λds=>if ds.length<=ei then some (.tup ds)else none:=by
 rcases o with _|⟨x0,x1,x2,x3,x4,x5,x6,x7⟩<;>rfl'
theorem ajL(ct ty ma:Nat)(h4:4<=ct)(h6:ct<=6):∃t r,PI 8 t r/\Xa T pK ["row"] 20 pB [("count",.int ct),("typing",.int ty),("marks",.int ma)] []=some (.rt (.tup [.str (mk t),.lst ((r++[0]).map .int)])):=by
 have fX:=d9;obtain⟨o',t,r,I,hw⟩:=acC (T:=T) ct ty ma h4 h6 16 8 0 none [] [] rfl ⟨.nil,by simp,by simp,by simp,by simp⟩;refine⟨t,r,I,?_⟩;refine fR (bs:=[ak 0 pB,ak 1 pB,ak 2 pB,ak 3 pB,ak 4 pB,ak 5 pB,ak 6 pB]) ?_;refine fb (bZ rO (by rfl')) ?_;refine fb (bZ ME (by rfl')) ?_;refine fb (bZ um (by rfl')) ?_;refine fb (bZ IP (by rfl')) ?_;refine fb (mN ["text","row"] [Aa 0 (ak 4 pB),Aa 1 (ak 4 pB)] (ej (nW (d:=.str (mk [])) (by rfl')) (ej (nW (d:=.lst []) (by rfl')) mM))) ?_;refine fb (y8 (ds:=(iu 0 8).map di) (by rfl') (tr hw)) ?_;have hrl:=I.rl;refine df (dR _ ((aqA o' _ _ _ _ _).trans ?_));rw[qy (by rw[aj];simp;omega),ag,ag,ag,if_pos (by simp;omega),c7];rfl
end
end
end Internal.Z
end
section
namespace Internal.V
abbrev As:=Nat->Bool
def upd(a:As)(k:Nat)(b:Bool):As:=λi=>if i=k then b else a i
def Sz(k:Nat)(a:As):As:=λi=>decide (i<k)&&a i
def wd(k:Nat):Nat:=16*2^k
def pg:Nat->(As->Nat)->Nat
 |0,f=>f λ_=>false
 |k+1,f=>2^wd k*pg k (λa=>f (upd a k true))+pg k (λa=>f (upd a k false))
theorem VH(k):wd (k+1)=wd k+wd k:=by unfold wd;rw[W0];omega
theorem uz:∀(k)(f:As->Nat),(∀a,f a<2^16)->pg k f<2^wd k:=by
 intro k
 induction k with
 |zero=>intro f h;exact h _
 |succ k ih=>
  intro f h;have h1:=ih _ (λa=>h (upd a k true));have h2:=ih _ (λa=>h (upd a k false));rw[pg,VH,iy];have:2^wd k*pg k (λa=>f (upd a k true))+2^wd k<=2^wd k*2^wd k:=by
   rw[<-lz];exact cY _ h1
  omega
theorem VI(a:As)(k):upd (Sz k a) k (a k)=Sz (k+1) a:=by
 funext i;unfold upd Sz;by_cases h:i=k
 ·subst h;simp
 ·have:decide (i<k)=decide (i<k+1):=by simp;omega
  simp[h,this]
theorem Ra{m x y x' y':Nat}(hx:x<m)(Mb:x'<m)(h:m*y+x=m*y'+x'):y=y'/\x=x':=by
 have e1:(m*y+x)%m=x:=by rw[Jw];exact rS hx
 have e2:(m*y'+x')%m=x':=by rw[Jw];exact rS Mb
 have e:x=x':=by rw[<-e1,h,e2]
 subst e;have:=Nat.add_right_cancel h;exact⟨Nat.eq_of_mul_eq_mul_left (by omega) this,rfl⟩
theorem KD:∀(k)(f g:As->Nat),(∀a,f a<2^16)->(∀a,g a<2^16)->pg k f=pg k g->∀a,f (Sz k a)=g (Sz k a):=by
 intro k
 induction k with
 |zero=>
  intro f g _ _ h a;have:Sz 0 a=λ_=>false:=by funext i;unfold Sz;simp
  rw[this];exact h
 |succ k ih=>
  intro f g hf hg h a;rw[pg,pg]at h;have:=Ra (uz _ _ λa=>hf _) (uz _ _ λa=>hg _) h;rw[<-VI];cases a k with
  |false=>exact ih _ _ (λa=>hf _) (λa=>hg _) this.2 a
  |true=>exact ih _ _ (λa=>hf _) (λa=>hg _) this.1 a
theorem KG:∀(k)(f g:As->Nat),pg k (λa=>f a+g a)=pg k f+pg k g:=by
 intro k
 induction k with
 |zero=>intro f g;rfl
 |succ k ih=>intro f g;rw[pg,pg,pg,ih,ih,mT];omega
theorem zu{m x y x' y':Nat}(hx:x<2^m)(Mb:x'<2^m):
 (2^m*y+x) &&& (2^m*y'+x')=2^m*(y &&& y')+(x &&& x'):=by
 apply xk;intro i;rw[tP,o3 _ hx,o3 _ Mb,o3 _ (bj Nat.and_le_left hx)];split<;>rw[tP]
theorem Gm(b:Bool):b.toNat<2^16:=by cases b<;>decide
theorem VJ:∀(k)(p q:As->Bool),pg k (λa=>(p a&&q a).toNat)=pg k (λa=>(p a).toNat) &&& pg k (λa=>(q a).toNat):=by
 intro k
 induction k with
 |zero=>intro p q;show(p _&&q _).toNat=_ &&& _;rw[pg,pg];cases p (λ_=>false)<;>cases q (λ_=>false)<;>rfl
 |succ k ih=>
  intro p q;rw[pg,pg,pg,ih (λa=>p (upd a k true)) (λa=>q (upd a k true)),ih (λa=>p (upd a k false)) (λa=>q (upd a k false)),
   zu (uz _ _ λa=>Gm _) (uz _ _ λa=>Gm _)]
def cV(c:Nat):Nat->Nat
 |0=>c
 |k+1=>2^wd k*cV c k+cV c k
theorem zv(c):∀k,pg k (λ_=>c)=cV c k:=by
 intro k
 induction k with
 |zero=>rfl
 |succ k ih=>rw[pg,cV,ih]
abbrev DG:=Nat×Bool
def lit(a:As)(l:DG):Bool:=a l.1==l.2
def Rb(l:DG):Nat->Nat
 |0=>(false==l.2).toNat
 |k+1=>if l.1=k then 2^wd k*cV (true==l.2).toNat k+cV (false==l.2).toNat k else 2^wd k*Rb l k+Rb l k
theorem VK(l):∀k,pg k (λa=>(lit a l).toNat)=Rb l k:=by
 intro k
 induction k with
 |zero=>rfl
 |succ k ih=>
  rw[pg,Rb];by_cases h:l.1=k
  ·rw[if_pos h]
   have e:∀b,(λa=>(lit (upd a k b) l).toNat)=λ_=>(b==l.2).toNat:=by
    intro b;funext a;unfold lit upd;rw[if_pos h]
   rw[e,e,zv,zv]
  ·rw[if_neg h]
   have e:∀b,(λa=>(lit (upd a k b) l).toNat)=λa=>(lit a l).toNat:=by
    intro b;funext a;unfold lit upd;rw[if_neg h]
   rw[e,e,ih]
def KH(k:Nat):List DG->Nat
 |[]=>cV 1 k
 |l::t=>iN (Rb l k) (KH k t)
theorem Rc(k):∀c:List DG,pg k (λa=>(c.all (lit a)).toNat)=KH k c:=by
 intro c
 induction c with
 |nil=>exact zv 1 k
 |cons l t ih=>
  have:=VJ k (λa=>lit a l) (λa=>t.all (lit a));rw[KH,<-ih,<-VK];exact this
def cnt(a:As):List (List DG)->Nat
 |[]=>0
 |c::t=>(c.all (lit a)).toNat+cnt a t
def MU(k:Nat):List (List DG)->Nat
 |[]=>0
 |c::t=>et (KH k c) (MU k t)
theorem C3(k):∀L:List (List DG),pg k (λa=>cnt a L)=MU k L:=by
 intro L
 induction L with
 |nil=>show pg k (λ_=>0)=_;rw[zv];show cV 0 k=0;induction k with
  |zero=>rfl
  |succ k ih=>rw[cV,ih];rfl
 |cons c t ih=>
  rw[MU,<-ih,<-Rc];exact KG k _ _
theorem zm(a:As):∀L,cnt a L<=L.length:=by
 intro L
 induction L with
 |nil=>exact b0 _
 |cons c t ih=>rw[cnt,bD];cases c.all (lit a)<;>simp<;>omega
theorem KJ(h:l.1<k):lit (Sz k a) l=lit a l:=by unfold lit Sz;simp[h]
theorem C4(a:As)(k):∀L:List (List DG),(L.all λc=>c.all λl=>tA l.1 k)=true->cnt (Sz k a) L=cnt a L:=by
 intro L
 induction L with
 |nil=>intro _;rfl
 |cons c t ih=>
  intro h;rw[qG,av]at h;rw[cnt,cnt,ih h.2];congr 2;have h1:=aw.mp h.1;rw[eW,aw,aw];exact⟨λg x hx=>by rw[<-KJ (k:=k) (by have:=h1 x hx;simpa [NB]using this)];exact g x hx,
   λg x hx=>by rw[KJ (k:=k) (by have:=h1 x hx;simpa [NB]using this)];exact g x hx⟩
theorem same(k)(L M:List (List DG))(hl:(tA L.length 65536&&tA M.length 65536)=true)
(h1:(L.all λc=>c.all λl=>tA l.1 k)=true)(h2:(M.all λc=>c.all λl=>tA l.1 k)=true)
(h:bO (MU k L) (MU k M)=true)(a:As):cnt a L=cnt a M:=by
 rw[av,NB,NB]at hl;have e:=bE h;rw[<-C3,<-C3]at e;have:=KD k _ _ (λa=>bj (zm a L) hl.1) (λa=>bj (zm a M) hl.2) e a;rw[C4 a k L h1,C4 a k M h2]at this;exact this
def NN(i j:Nat):DG:=if i<j then(j*(j - 1)/2+i,true)else(i*(i - 1)/2+j,false)
def words(n:Nat):Nat->List (List Nat)
 |0=>[]
 |1=>(aM n).map λi=>[i]
 |m+2=>(words n (m+1)).flatMap λrow=>((aM n).filter λj=> !row.contains j).map λj=>row++[j]
def Gp:List Nat->List DG
 |i::j::t=>NN i j::Gp (j::t)
 |_=>[]
def rj(row:List Nat):Bool:=row.all λx=>b8 (row.headD 0) x
def Gq(row:List Nat):List DG:=Gp row++[NN (row.getLastD 0) (row.headD 0)]
def KL(n m:Nat):List (List Nat):=(words n m).filter rj
def C5(n:Nat):List (List Nat):=KL n 3++(if 5<=n then KL n 5 else[])
def zw(row:List Nat):Nat:=(row.map λi=>2^i).sum
def gV{α:Type}(f:α->α->Bool):List α->List (α×α)
 |[]=>[]
 |x::t=>(t.filter λy=>f x y).map (λy=>(x,y))++gV f t
def Rd(n:Nat):List (List Nat×List Nat):=gV (λx y=>iN (zw x) (zw y)==0) (C5 n)
def qj(n:Nat):List (List DG):=(words n n).map Gp
def C6(n:Nat):List (List DG):=(C5 n).map Gq
def uA(n:Nat):List (List DG):=(Rd n).map λp=>Gq p.1++Gq p.2
def rhs(n:Nat):List (List DG):=[]::(C6 n++C6 n++(uA n++uA n++(uA n++uA n)))
theorem aqB(a:As):cnt a (qj 4)=cnt a (rhs 4):=same 6 _ _ (by decide) (by decide) (by decide) (by decide) a
theorem aqC(a:As):cnt a (qj 5)=cnt a (rhs 5):=same 10 _ _ (by decide) (by decide) (by decide) (by decide) a
theorem aqD(a:As):cnt a (qj 6)=cnt a (rhs 6):=same 15 _ _ (by decide) (by decide) (by decide) (by decide) a
theorem Rf:∀(k)(f g:As->Nat),(∀a,f a<2^16)->(∀a,g a<2^16)->pg k (λa=>f a &&& g a)=pg k f &&& pg k g:=by
 intro k
 induction k with
 |zero=>intro f g _ _;rfl
 |succ k ih=>
  intro f g hf hg;rw[pg,pg,pg,ih _ _ (λa=>hf _) (λa=>hg _),ih _ _ (λa=>hf _) (λa=>hg _),
   zu (uz _ _ λa=>hf _) (uz _ _ λa=>hg _)]
theorem ajM{x:Nat}(h:x<2^16)(e:x &&& 2^15=0):x<2^15:=by
 have t:(x &&& 2^15).testBit 15=false:=by rw[e,Nat.zero_testBit]
 rw[tP,Nat.testBit_two_pow_self,NS,Nat.testBit_eq_decide_div_mod_eq]at t;have:=of_decide_eq_false t;omega
theorem lid(k)(L:List (List DG))(c:Nat)(hl:b8 (L.length+(32768 - c)) 65535=true)(hc:b8 c 32768=true)
(h1:(L.all λc=>c.all λl=>tA l.1 k)=true)
(h:bO (iN (et (MU k L) (cV (32768 - c) k)) (cV 32768 k)) 0=true)(a:As):cnt a L<c:=by
 have hl:=bP hl;have hc:=bP hc;have e:=bE h;have b:∀a,cnt a L+(32768 - c)<2^16:=λa=>by have:=zm a L;omega
 have e2:pg k (λa=>(cnt a L+(32768 - c)) &&& 2^15)=pg k (λ_=>0):=by
  rw[Rf k _ _ b (λ_=>by decide),KG,C3,zv,zv,zv];refine e.trans ?_;clear e h h1;induction k with
  |zero=>rfl
  |succ k ih=>rw[cV,<-ih];rfl
 have:=KD k _ _ (λa=>bj Nat.and_le_right (by decide)) (λ_=>by decide) e2 a;rw[C4 a k L h1]at this;have:=ajM (b a) this;omega
theorem aqF(a:As):cnt a (qj 4)<254:=lid 6 _ 254 (by decide) (by decide) (by decide) (by decide) a
theorem aqG(a:As):cnt a (qj 5)<254:=lid 10 _ 254 (by decide) (by decide) (by decide) (by decide) a
theorem aqH(a:As):cnt a (qj 6)<254:=lid 15 _ 254 (by decide) (by decide) (by decide) (by decide) a
theorem C7(a:As)(g:α->List DG):∀L:List α,cnt a (L.map g)=(L.filter λx=>(g x).all (lit a)).length:=by
 intro L
 induction L with
 |nil=>rfl
 |cons x t ih=>
  rw[bH,cnt,ih,dk];cases(g x).all (lit a)<;>simp<;>omega
theorem xG(a:As):∀L M,cnt a (L++M)=cnt a L+cnt a M:=by
 intro L M
 induction L with
 |nil=>simp[cnt]
 |cons c t ih=>rw[cz,cnt,cnt,ih];omega
theorem AL(f:α->α->Bool)(q:α->Bool):∀L:List α,gV f (L.filter q)=(gV f L).filter λp=>q p.1&&q p.2:=by
 intro L
 induction L with
 |nil=>rfl
 |cons x t ih=>
  rw[gV,eu,<-ih,dk];cases h:q x
  ·have:YZ (λp=>q p.1&&q p.2) (wZ (λy=>(x,y)) (YZ (λy=>f x y) t))=[]:=by
    rw[kY];intro p hp;obtain⟨y,_,rfl⟩:=fU.mp hp;simp[h]
   rw[this];rfl
  ·rw[if_pos rfl,gV,iz,tI,iz]
   congr 3;funext y;simp[h,Bool.and_comm]
theorem I7(f:β->β->Bool)(g:α->β):∀L:List α,(gV f (L.map g)).length=(gV (λx y=>f (g x) (g y)) L).length:=by
 intro L
 induction L with
 |nil=>rfl
 |cons x t ih=>rw[bH,gV,gV,aG,aG,ih,aj,aj,tI,aj];rfl
def good(a:As)(row:List Nat):Bool:=(Gp row).all (lit a)
def C8(a:As)(row:List Nat):Bool:=(Gq row).all (lit a)
def kO(a:As)(n:Nat):List Nat:=((C5 n).filter (C8 a)).map zw
def apart(x y:Nat):Bool:=iN x y==0
theorem MV(a n):(kO a n).length=cnt a (C6 n):=by
 unfold kO C6;rw[aj,C7];rfl
theorem MW(a n):(gV apart (kO a n)).length=cnt a (uA n):=by
 unfold kO uA Rd;rw[I7,AL,C7];congr 2;funext p;rw[Hj];rfl
theorem VL(a n):cnt a (rhs n)=1+2*(kO a n).length+4*(gV apart (kO a n)).length:=by
 unfold rhs;rw[cnt,xG,xG,xG,xG,MV,MW];show 1+_=_;omega
def eH(b:List (List Nat)):Nat->List (List Nat)
 |0=>[]
 |1=>(aM b.length).map λi=>[i]
 |m+2=>(eH b (m+1)).flatMap λrow=>((b.getD (row.getLastD 0) []).filter λj=> !row.contains j).map λj=>row++[j]
theorem qk:∀(m n)(row:List Nat),row∈words n m->row≠[]/\∀x∈row,x<n:=by
 intro m n
 induction m with
 |zero=>intro row h;exact absurd h (dm)
 |succ m ih=>
  cases m with
  |zero=>
   intro row h;obtain⟨i,hi,rfl⟩:=fU.mp h;refine⟨by simp,λx hx=>?_⟩;rw[aY.mp hx];exact cL.mp hi
  |succ m=>
   intro row h;obtain⟨r,hr,h⟩:=amG.mp h;obtain⟨j,hj,rfl⟩:=fU.mp h;refine⟨by simp,λx hx=>?_⟩;rcases fO.mp hx with hx|hx
   ·exact(ih r hr).2 x hx
   ·rw[aY.mp hx];exact cL.mp (gy.mp hj).1
theorem MX(j):∀(row:List Nat),row≠[]->Gp (row++[j])=Gp row++[NN (row.getLastD 0) j]:=by
 intro row
 induction row with
 |nil=>intro h;exact absurd rfl h
 |cons x t ih=>
  intro _;cases t with
  |nil=>rfl
  |cons y t=>
   have:=ih (by simp);rw[cz,cz,Gp,<-cz,this,Gp,cz];congr 3
theorem ql:∀(row:List Nat),row≠[]->row.getLastD 0∈row:=by
 intro row h;rw[NC,G0 h];exact List.getLast_mem h
def fH(a:As)(n:Nat):List (List Nat):=(aM n).map λi=>(aM n).filter λj=>(j != i)&&lit a (NN i j)
theorem qD(a n)(h:i<n):(fH a n).getD i []=(aM n).filter λj=>(j != i)&&lit a (NN i j):=by
 unfold fH;rw[bp,gD,adN h];rfl
theorem zy(f g:α->List β):∀L:List α,(∀x∈L,f x=g x)->L.flatMap f=L.flatMap g:=by
 intro L
 induction L with
 |nil=>intro _;rfl
 |cons x t ih=>intro h;rw[d7,d7,h x (aA ..),ih λy hy=>h y (aD _ hy)]
theorem zz(p:α->Bool)(f:α->List β)(q:β->Bool):∀L:List α,(∀x∈L,p x=false->(f x).filter q=[])->(L.flatMap f).filter q=(L.filter p).flatMap λx=>(f x).filter q:=by
 intro L
 induction L with
 |nil=>intro _;rfl
 |cons x t ih=>
  intro h;rw[d7,eu,ih λy hy=>h y (aD _ hy),dk];cases hp:p x
  ·rw[h x (aA ..) hp];rfl
  ·rw[if_pos rfl,d7]
theorem zA(a n):∀m,eH (fH a n) m=(words n m).filter (good a):=by
 intro m
 induction m with
 |zero=>rfl
 |succ m ih=>
  cases m with
  |zero=>
   have:(fH a n).length=n:=by unfold fH;rw[aj,bY]
   rw[eH,words,this,tI,List.filter_eq_self.mpr];intro x _;rfl
  |succ m=>
   have gs:∀(row:List Nat) j,row≠[]->good a (row++[j])=(good a row&&lit a (NN (row.getLastD 0) j)):=by
    intro row j h;unfold good;rw[MX j row h,Hj];simp
   rw[eH,ih,words,zz (good a)]
   ·apply zy
    intro row hr;have hr:=gy.mp hr;have hw:=qk _ _ _ hr.1;rw[qD a n (hw.2 _ (ql _ hw.1)),iz,tI,iz];congr 1;apply lg;intro j hj;have hl:=ql _ hw.1;show _=(good a (row++[j])&&_)
    rw[gs row j hw.1,hr.2];cases hc:row.contains j
    ·have:(j != row.getLastD 0)=true:=by
      rw[bne_iff_ne];rintro rfl;have:=cG.mpr hl;rw[hc]at this;cases this
     rw[this];simp
    ·simp
   ·intro row hr hg
    have hw:=qk _ _ _ hr;rw[kY];intro r h;obtain⟨j,_,rfl⟩:=fU.mp h;rw[gs row j hw.1,hg];simp
theorem Rg(a n):(eH (fH a n) n).length=cnt a (qj n):=by
 rw[zA];unfold qj;rw[C7];rfl
theorem ocf(a:As)(n)(h:n=4\/n=5\/n=6):
 (eH (fH a n) n).length=1+2*(kO a n).length+4*(gV apart (kO a n)).length/\(eH (fH a n) n).length<254:=by
 rw[Rg,<-VL];rcases h with rfl|rfl|rfl
 ·exact⟨aqB a,aqF a⟩
 ·exact⟨aqC a,aqG a⟩
 ·exact⟨aqD a,aqH a⟩
theorem wM:∀(m n)(row:List Nat),row∈words n m->row.Nodup/\row.length=m:=by
 intro m n
 induction m with
 |zero=>intro row h;exact absurd h (dm)
 |succ m ih=>
  cases m with
  |zero=>
   intro row h;obtain⟨i,hi,rfl⟩:=fU.mp h;exact⟨by simp,rfl⟩
  |succ m=>
   intro row h;obtain⟨r,hr,h⟩:=amG.mp h;obtain⟨j,hj,rfl⟩:=fU.mp h;have hn:=(gy.mp hj).2;have⟨i1,i2⟩:=ih r hr;refine⟨?_,by simp[i2]⟩;rw[kZ];refine⟨i1,by simp,?_⟩;intro x hx y hy;rw[aY.mp hy];rintro rfl;simp[hx]at hn
theorem MY:∀(row:List Nat),row.Nodup->2<=row.length->row.headD 0≠row.getLastD 0:=by
 intro row;cases row with
 |nil=>intro _ h;simp at h
 |cons x t=>
  cases t with
  |nil=>intro _ h;simp at h
  |cons y t=>
   intro hn _ e;have hx:=(fM.mp hn).1;have:(x::y::t).getLastD 0=(y::t).getLastD 0:=rfl;rw[this]at e;have e2:x=(y::t).getLastD 0:=e;rw[e2]at hx;exact hx (ql (y::t) (by simp))
def oE(b:List (List Nat))(row:List Nat):Bool:=(b.getD (row.getLastD 0) []).contains (row.headD 0)
theorem Gr(a n m)(hm:2<=m):(eH (fH a n) m).filter (λrow=>rj row&&oE (fH a n) row)=(KL n m).filter (C8 a):=by
 rw[zA];unfold KL;rw[iz,iz];apply lg;intro row hr;have hw:=qk _ _ _ hr;have⟨h1,h2⟩:=wM _ _ _ hr;have mV:=MY row h1 (by omega);have hh:row.headD 0<n:=by
  cases row with
  |nil=>exact absurd rfl hw.1
  |cons x t=>exact hw.2 x (aA ..)
 have hc:oE (fH a n) row=lit a (NN (row.getLastD 0) (row.headD 0)):=by
  unfold oE;rw[qD a n (hw.2 _ (ql _ hw.1)),eW,cG,gy,cL,av,bne_iff_ne];exact⟨λh=>h.2.2,λh=>⟨hh,mV,h⟩⟩
 have hg:C8 a row=(good a row&&lit a (NN (row.getLastD 0) (row.headD 0))):=by
  unfold C8 Gq good;rw[Hj];simp
 rw[hc,hg];cases rj row<;>cases good a row<;>cases lit a (NN (row.getLastD 0) (row.headD 0))<;>rfl
def ip(b:List (List Nat))(m:Nat):List Nat:=((eH b m).filter λrow=>rj row&&oE b row).map zw
theorem MZ(a n):kO a n=ip (fH a n) 3++(if 5<=n then ip (fH a n) 5 else[]):=by
 unfold kO C5 ip;rw[Gr a n 3 (by decide),Gr a n 5 (by decide),eu,c7];congr 1;split<;>rfl
end Internal.V
end
section
open PySem PySem.W PyProof.Rows
namespace Internal.Z
section
open Internal.V
section
variable{T:ec}
def oK:bW:=uk "_law_orders"
def SA:List Stmt:=bo "_law_orders"
def oF:Stmt:=ak 1 SA
def Yk:List Stmt:=br oF
def oC:ae:=bk (ak 0 Yk)
def oR:ae:=bk (ak 0 (br (ak 1 Yk)))
def oI:ae:=o8 0 (ai1 oR)
def oS(o:Option D)(b rows rings:List D):cu:=([("beaten",.lst b),("rings",.lst rings),("rows",.lst rows)]:cu)++(match o with|none=>[]|some a=>[("size",a)])
abbrev oQ(z:Int)(b rows rings:List D):cu:=du ["rings"] (oS (some (.int z)) b rows rings)
theorem aqI(z)(b rows rings row):iF (dS T 30) (oQ z b rows rings) oC (.lst row)=(((fY (.lst row) (-1)).bind intD).bind λi=>fY (.lst b) i).bind λd=>(items d).bind λds=>gN (ui (dS T 30) (ou (oQ z b rows rings) (.lst row) oC) oC) ds:=by rfl'
theorem aqJ(z)(b rows rings row)(j):ui (dS T 30) (ou (oQ z b rows rings) (.lst row) oC) oC (.int j)=
 (((cmp .NotIn (.int j) (.lst row))).bind λc=>if c=true then some true else some false).bind λc=>if c=true then(aE .Add (.lst row) (.lst [.int j])).map λd=>[d]else some []:=by rfl'
theorem aqK(z)(b rows rings row):iF (dS T 30) (oQ z b rows rings) oR (.lst row)=
 ((Vc ((fY (.lst row) 0).bind λx=>(cH .min [.lst row]).bind λy=>cmp .Eq x y) (Vc ((fY (.lst row) 0).bind λx=>(((fY (.lst row) (-1)).bind intD).bind λi=>fY (.lst b) i).bind λy=>cmp .In x y) (some true))).bind λc=>if c=true then some true else some false).bind λc=>
   if c=true then((((dS T 29).d (Qx oR) (ou (oQ z b rows rings) (.lst row) oR) oI).bind λd=>some [d]).bind λds=>cH .sum ds).map λd=>[d]else some []:=by rfl'
theorem aqL(z)(b rows rings row)(j):iF (dS T 28) (ou (oQ z b rows rings) (.lst row) oR) oI (.int j)=(aE .Pow (.int 2) (.int j)).map λd=>[d]:=by rfl'
theorem aqM(z)(b rows rings row):cOk (Qx oR) (ou (oQ z b rows rings) (.lst row) oR) oI=true:=by rfl'
theorem aqN(z)(b rows rings row):(dS T 28).d (Qx oR) (ou (oQ z b rows rings) (.lst row) oR) (qg oI)=some (.lst row):=by rfl'
theorem VM(o:Option D)(b rows rings BQ more)(z)(n)(h1:(dS T 31).d oK (oQ z b rows rings) oC=some (.lst BQ))(c:Bool)(h2:(aE .Mod (.int z) (.int 2)).bind (λd=>cmp .Eq d (.int 1))=some c)
(h3:c=true->(dS T 31).d oK (oQ z b BQ rings) oR=some (.lst more)/\rings.length+more.length<=ei):
 Xa T oK ["rings"] (n+2) Yk (g1 (fg oK (iM oF) (.int z) (oS o b rows rings,["rings"]))) (g2 (fg oK (iM oF) (.int z) (oS o b rows rings,["rings"])))=some (.nx (oS (some (.int z)) b BQ (if c=true then rings++more else rings)) ["rings"]):=by
 rcases o with _|o
 all_goals
  refine fR (bs:=[ak 0 Yk,ak 1 Yk]) ?_;refine fb (ze BQ (tr h1)) ?_;cases c with
  |true=>
   refine lR (b:=[ak 0 (br (ak 1 Yk))]) (σ':=oS (some (.int z)) b BQ (rings++more)) (own':=["rings"]) (tr h2) (fR (bs:=[ak 0 (br (ak 1 Yk))]) ?_) rfl;exact fb (Kp (ds:=rings) (nW (d:=.lst more) (tr (h3 rfl).1)) (h3 rfl).2) rfl
  |false=>exact cM (b:=[]) (σ':=oS (some (.int z)) b BQ rings) (own':=["rings"]) (tr h2) (fR (bs:=[]) rfl) rfl
theorem acD(o:Option D)(b rows rings)(z):(fg oK (iM oF) (.int z) (oS o b rows rings,["rings"])).isSome=true:=by
 rcases o with _|o<;>rfl'
theorem aqO(o:Option D)(b rows rings):(dS T 31).d oK (oS o b rows rings) (bk (ak 2 SA))=((((cH .len [.lst rows])).bind λd=>some [d,.lst rings]).bind λds=>if ds.length<=ei then some (.tup ds)else none):=by
 rcases o with _|o<;>rfl'
end
end
end Internal.Z
namespace Internal.Z
section
open Internal.V
theorem M0{row:List Nat}(h:row≠[])(hb:row.length<2^60):fY (.lst (row.map di)) (-1)=some (di (row.getLastD 0)):=by
 have hl:=List.length_pos_iff.mpr h;rw[Cs (by omega)];unfold Sn seqIndex?;have e1:(if(-1:Int)<0 then -1+((row.map di).length:Int)else -1)=(row.length:Int) - 1:=by rw[if_pos (by decide),aj];omega
 simp only[e1];rw[if_pos (by simp;omega),ag,gD,show((row.length:Int) - 1).toNat=row.length - 1 by omega,<-List.getLast?_eq_getElem?,NC,G0 h];rfl
theorem M1{row:List Nat}(h:row≠[])(hb:row.length<2^60):fY (.lst (row.map di)) 0=some (di (row.headD 0)):=by
 obtain⟨x,t,rfl⟩:=pq h;exact F7 (l:=x::t) (a:=0) (by simp) hb
theorem M3(j:Nat)(row:List Nat):cmp .NotIn (di j) (dl row)=some (!row.contains j):=by
 show(yb (di j) (dl row)).map (λx=> !x)=_;have:yb (di j) (dl row)=some (decide (j∈row)):=BK j row;rw[this];refine congrArg (λx=>some (!x)) ?_;rw[eW,decide_eq_true_eq,cG]
theorem acE(j:Nat)(row:List Nat):cmp .In (di j) (dl row)=some (row.contains j):=by
 have:cmp .In (di j) (dl row)=some (decide (j∈row)):=BK j row;rw[this];refine congrArg some ?_;rw[eW,decide_eq_true_eq,cG]
theorem Dc:∀(ns:List Int)(n a:Int),a∈n::ns->ns.foldl min n<=a:=by
 intro ns
 induction ns with
 |nil=>intro n a h;rw[aY.mp h];exact Hk _
 |cons m ns ih=>
  intro n a h;rw[ki];rcases aJ.mp h with rfl|h
  ·exact f9 (ih _ _ (aA ..)) (Int.min_le_left ..)
  ·rcases aJ.mp h with rfl|h
   ·exact f9 (ih _ _ (aA ..)) (asP ..)
   ·exact ih _ _ (aD _ h)
theorem Rh{row:List Nat}(h:row≠[]):(cH .min [.lst (row.map di)]).bind (λy=>cmp .Eq (di (row.headD 0)) y)=some (rj row):=by
 obtain⟨x,t,rfl⟩:=pq h;have e1:cH .min [.lst ((x::t).map di)]=some (.int ((t.map fN).foldl min (x:Int))):=by
  have e0:Pd ((x::t).map di)=some (.int ((t.map fN).foldl min (x:Int))):=by
   unfold Pd;rw[ints_map];rfl
  show dA none (dA (Pd ((x::t).map di)) _)=_;rw[e0];rfl
 rw[e1,ag];show some ((x:Int)==(t.map fN).foldl min (x:Int))=_;refine congrArg some ?_;unfold rj;rw[eW,beq_iff_eq,aw];have key:=Dc (t.map fN) x;constructor
 ·intro e y hy
  have:=key y (by
   rcases aJ.mp hy with rfl|hy
   ·exact aA ..
   ·exact aD _ (fU.mpr ⟨y,hy,rfl⟩))
  rw[<-e]at this;exact eg (gf.mp this)
 ·intro h
  refine(pW (t.map fN) x x (aA ..) λa ha=>?_).symm;rcases aJ.mp ha with rfl|ha
  ·exact Hk _
  ·obtain⟨y,hy,rfl⟩:=fU.mp ha
   exact gf.mpr (bP (h y (aD _ hy)))
theorem VN(l:List Nat):cH .sum [.lst (l.map di)]=some (di l.sum):=by
 show(gM (l.map di)).map (λns=>D.int ns.sum)=_;rw[ints_map];refine congrArg (λx=>some (D.int x)) ?_
 induction l with
 |nil=>rfl
 |cons a l ih=>rw[bH,qM,qM,ih,eY];rfl
def RU(b:List (List Nat)):Nat->List Nat
 |0=>[]
 |1=>[]
 |m+2=>if(m+2)%2==1 then RU b (m+1)++ip b (m+2)else RU b (m+1)
structure Tb(b:List (List Nat))(n:Nat):Prop where
 ln:b.length=n
 n6:n<=6
 SE:∀i,(b.getD i []).length<=6
 rows:∀m,1<=m->∀row∈eH b m,row≠[]/\row.length=m/\∀x∈row,x<n
theorem Ri(f:α->List β)(k):∀L:List α,(∀x∈L,(f x).length<=k)->(L.flatMap f).length<=k*L.length:=by
 intro L
 induction L with
 |nil=>intro _;simp
 |cons x t ih=>
  intro h;have h1:=h x (aA ..);have h2:=ih λy hy=>h y (aD _ hy);rw[d7,aG,bD,lz];omega
theorem Rj{b:List (List Nat)}{n:Nat}(t:Tb b n):∀m,(eH b (m+1)).length<=6^(m+1):=by
 intro m
 induction m with
 |zero=>rw[eH,aj,bY,t.ln];exact t.n6
 |succ m ih=>
  rw[eH,W0,eS];refine aq (Ri _ 6 _ λrow _=>?_) (cY _ ih);rw[aj];exact aq (tO ..) (t.SE _)
theorem sT{b:List (List Nat)}{n m:Nat}(t:Tb b n)(h0:1<=m)(h:m<=6):(eH b m).length<=46656:=by
 obtain⟨m,rfl⟩:∃k,m=k+1:=⟨m - 1,by omega⟩
 exact aq (Rj t m) (bM (n:=6) (by decide) h)
theorem KN{b:List (List Nat)}{n:Nat}(t:Tb b n){row:List Nat}(h:row≠[])(hl:row.length<=6)(hr:∀x∈row,x<n):(((fY (.lst (row.map di)) (-1)).bind intD).bind λi=>fY (.lst (b.map dl)) i)=some (dl (b.getD (row.getLastD 0) [])):=by
 have hx:=hr _ (ql row h);have hb:row.getLastD 0<b.length:=by rw[t.ln];exact hx
 rw[M0 h (by omega),ag,show intD (di (row.getLastD 0))=some ((row.getLastD 0:Nat):Int)from rfl,ag,jq hb (by rw[t.ln];have:=t.n6;omega),ox hb]
section
variable{T:ec}
theorem acF{b:List (List Nat)}{n:Nat}(t:Tb b n)(z)(rings)(m:Nat)(h1:1<=m)(h6:m+1<=6):(dS T 31).d oK (oQ z (b.map dl) ((eH b m).map dl) rings) oC=some (.lst ((eH b (m+1)).map dl)):=by
 have fX:=d9;obtain⟨m,rfl⟩:∃k,m=k+1:=⟨m - 1,by omega⟩
 have key:((eH b (m+1)).flatMap λrow=>((b.getD (row.getLastD 0) []).filter λj=> !row.contains j).map λj=>dl (row++[j]))=(eH b (m+2)).map dl:=by
  rw[eH,amH];simp only[eO,Function.comp_def]
 have e:=ik (T:=T) (V:=dS T 30) (ks:=oK) (σ:=oQ z (b.map dl) ((eH b (m+1)).map dl) rings) (e:=oC) (d:=.lst ((eH b (m+1)).map dl)) (φ:=dl) (xs:=eH b (m+1)) (g:=λrow=>((b.getD (row.getLastD 0) []).filter λj=> !row.contains j).map λj=>dl (row++[j]))
  (by rfl') (by rfl') rfl (λrow Q9=>?_) ?_
 ·rw[key]at e;exact e
 ·obtain⟨r1,r2,r3⟩:=t.rows (m+1) h1 row Q9
  refine(aqI ..).trans ?_;rw[KN t r1 (by omega) r3,ag];show gN _ ((b.getD (row.getLastD 0) []).map di)=_;have:=sG (φ:=di) (xs:=b.getD (row.getLastD 0) []) (g:=λj=>if(!row.contains j)=true then[dl (row++[j])]else[]) (f:=ui (dS T 30) (ou (oQ z (b.map dl) ((eH b (m+1)).map dl) rings) (.lst (row.map di)) oC) oC) (λj hj=>?_)
  ·refine this.trans (congrArg some ?_)
   exact mx (p:=λj=> !row.contains j) (f:=λj=>dl (row++[j])) (b.getD (row.getLastD 0) [])
  ·refine(aqJ z _ _ _ _ _).trans ?_
   rw[show cmp .NotIn (D.int ((j:Nat):Int)) (.lst (row.map di))=some (!row.contains j)from M3 j row,turn_if,qy (by rw[aj];simp;omega)];unfold dl;rw[c7];cases row.contains j<;>rfl
 ·rw[key,aj]
  exact aq (sT t (by omega) h6) (by omega)
theorem acG(z)(b rows rings)(row:List Nat)(hl:row.length<=6)(hr:∀x∈row,x<6):(dS T 29).d (Qx oR) (ou (oQ z b rows rings) (.lst (row.map di)) oR) oI=some (.lst ((row.map λj=>2^j).map di)):=by
 have fX:=d9;have e:=ik (T:=T) (V:=dS T 28) (ks:=Qx oR) (σ:=ou (oQ z b rows rings) (.lst (row.map di)) oR) (e:=oI) (d:=.lst (row.map di)) (φ:=di) (xs:=row) (g:=λj=>[di (2^j)])
  (aqM ..) (aqN ..) rfl (λj hj=>?_) ?_
 ·rw[eR]at e
  rw[eO];exact e
 ·refine(aqL z b rows rings (row.map di) j).trans ?_
  have:=sP (a:=2) (n:=j) (by decide) (by have:=hr j hj;omega);rw[show aE .Pow (.int 2) (.int (j:Int))=some (.int ((2^j:Nat):Int))from this];rfl
 ·rw[eR,aj];omega
theorem VP{b:List (List Nat)}{n:Nat}(t:Tb b n)(z)(rings)(m:Nat)(h1:1<=m)(h6:m<=6):(dS T 31).d oK (oQ z (b.map dl) ((eH b m).map dl) rings) oR=some (.lst ((ip b m).map di)):=by
 have fX:=d9;have hn:=t.n6;have key:((eH b m).flatMap λrow=>if(rj row&&oE b row)=true then[di (zw row)]else[])=(ip b m).map di:=by
  rw[mx (p:=λrow=>rj row&&oE b row) (f:=λrow=>di (zw row))];unfold ip;rw[eO];rfl
 have e:=ik (T:=T) (V:=dS T 30) (ks:=oK) (σ:=oQ z (b.map dl) ((eH b m).map dl) rings) (e:=oR) (d:=.lst ((eH b m).map dl)) (φ:=dl) (xs:=eH b m) (g:=λrow=>if(rj row&&oE b row)=true then[di (zw row)]else[])
  (by rfl') (by rfl') rfl (λrow Q9=>?_) ?_
 ·rw[key]at e;exact e
 ·obtain⟨r1,r2,r3⟩:=t.rows m h1 row Q9
  refine(aqK ..).trans ?_;have q1:(fY (.lst (row.map di)) 0)=some (di (row.headD 0)):=M1 r1 (by omega);have q2:cmp .In (di (row.headD 0)) (dl (b.getD (row.getLastD 0) []))=some (oE b row):=acE ..;rw[q1,ag,Rh r1,ag,KN t r1 (by omega) r3,ag,q2,acG _ _ _ _ _ (by omega) (λx hx=>ck (r3 x hx) hn),ag,ag,VN];cases rj row<;>cases oE b row<;>rfl
 ·rw[key,aj]
  unfold ip;rw[aj];exact aq (oy _ _ _ (sT t h1 h6)) (by omega)
theorem acH{b:List (List Nat)}{n:Nat}(t:Tb b n)(k:Nat):∀(j m:Nat)(o:Option D),1<=m->m+j=n->(RU b m).length<=100000*m->
 ∃o',sx (Xa T oK ["rings"] (k+2)) oK (iM oF) Yk ((iu (m+1) j).map di) (oS o (b.map dl) ((eH b m).map dl) ((RU b m).map di)) ["rings"]=some (.nx (oS o' (b.map dl) ((eH b n).map dl) ((RU b n).map di)) ["rings"]):=by
 have fX:=d9;have hn:=t.n6;intro j
 induction j with
 |zero=>
  intro m o h1 h2 _;obtain rfl:m=n:=h2;exact⟨o,rfl⟩
 |succ j ih=>
  intro m o h1 h2 h3;obtain⟨m,rfl⟩:∃k,m=k+1:=⟨m - 1,by omega⟩
  have hq:(ip b (m+2)).length<=46656:=by
   unfold ip;rw[aj];exact oy _ _ _ (sT t (by omega) (by omega))
  obtain⟨o',ho⟩:=ih (m+2) (some (.int ((m+2:Nat):Int))) (by omega) (by omega) (by
   rw[RU];split
   ·rw[aG];omega
   ·omega)
  refine⟨o',?_⟩;rw[lV,bH];have hc:(aE .Mod (.int ((m+2:Nat):Int)) (.int 2)).bind (λd=>cmp .Eq d (.int 1))=some ((m+2)%2==1):=by
   have:=i6 (a:=m+2) (b:=2) (by decide);rw[show((2:Nat):Int)=2 from rfl]at this;rw[this,ag];exact sN ((m+2)%2) 1
  have hs:=VM (T:=T) o (b.map dl) ((eH b (m+1)).map dl) ((RU b (m+1)).map di) ((eH b (m+2)).map dl) ((ip b (m+2)).map di) ((m+2:Nat):Int) k (acF t _ _ (m+1) h1 (by omega)) _ hc (λ_=>⟨VP t _ _ (m+2) (by omega) (by omega),by rw[aj,aj];omega⟩);refine sJ hs ?_ (acD ..);have e:(if((m+2)%2==1)=true then(RU b (m+1)).map di++(ip b (m+2)).map di else(RU b (m+1)).map di)=(RU b (m+2)).map di:=by
   rw[RU,<-c7];split<;>rfl
  rw[e];exact ho
theorem ajN{b:List (List Nat)}{n:Nat}(t:Tb b n)(h1:1<=n):Xa T oK ["rings"] 20 SA [("beaten",.lst (b.map dl))] []=some (.rt (.tup [di (eH b n).length,.lst ((RU b n).map di)])):=by
 have fX:=d9;have hn:=t.n6;have hln:=t.ln;obtain⟨o',ho⟩:=acH (T:=T) t 17 (n - 1) 1 none (b0 _) (by omega) (by simp[RU]);refine fR (bs:=[ak 0 SA,ak 1 SA,ak 2 SA]) ?_;have e1:(dS T 31).d oK [("beaten",.lst (b.map dl))] (Aa 0 (ak 0 SA))=some (.lst ((eH b 1).map dl)):=by
  have e:=ik (T:=T) (V:=dS T 30) (ks:=oK) (σ:=[("beaten",.lst (b.map dl))]) (e:=Aa 0 (ak 0 SA)) (d:=.nZ 0 b.length 1) (φ:=di) (xs:=aM b.length) (g:=λi=>[dl [i]])
   (by rfl') (tr (b:=((cH .len [.lst (b.map dl)]).bind λd=>some [d]).bind λds=>cH .range ds) (by rw[mw (by rw[aj];omega),aj];rfl)) (j7 _ (by omega)) (λi _=>by rfl') (by rw[eR,aj,bY];omega)
  rw[eR]at e;rw[eH,eO];exact e
 refine fb (mN ["rows","rings"] [Aa 0 (ak 0 SA),Aa 1 (ak 0 SA)] (ej (nW (tr e1)) (ej (nW (d:=.lst []) (by rfl')) mM))) ?_;refine fb (y8 (ds:=(iu 2 (n - 1)).map di) ?_ (tr ho)) ?_
 ·refine tr (b:=(((((cH .len [.lst (b.map dl)]).bind λd=>aE .Add d (.int 1)).bind λd=>some [d]).bind λds=>some (.int 2::ds)).bind λds=>cH .range ds).bind items) ?_
  rw[mw (by rw[aj];omega),aj,hln];have:=BJ 2 (n+1) (by omega) (by omega);rw[show n+1 - 2=n - 1 by omega]at this;rw[eY,show((2:Nat):Int)=2 from rfl,show((1:Nat):Int)=1 from rfl]at this;exact oB (oB (oB (oB (oB rfl (add_int _ _)) rfl) rfl) rfl) this
 refine df (dR _ ((aqO o' _ _ _).trans ?_));have hr:=sT t h1 hn;rw[mw (by rw[aj];omega),aj];rfl
end
end
end Internal.Z
end
section
open PySem PySem.W PyProof.Rows
set_option exponentiation.threshold 3000
namespace Internal.Z
def mz(k:Nat->Nat)(n:Nat):Nat:=Nat.rec (k 0) (λm _=>k (lx m)) n
theorem gj(k:Nat->Nat)(n:Nat):mz k n=k n:=by cases n<;>rfl
def NO(s:Nat)(c:Nat)(k:Nat->Nat)(n:Nat):Nat:=cond (b8 c n) (et s (mz k (Lg n c))) (k n)
def lg0(n:Nat):Nat:=cond (b8 2 n) 1 0
def lg1:Nat->Nat:=NO 2 4 lg0
def lg2:Nat->Nat:=NO 4 16 lg1
def lg3:Nat->Nat:=NO 8 256 lg2
def lg4:Nat->Nat:=NO 16 65536 lg3
def lg5:Nat->Nat:=NO 32 4294967296 lg4
def lg6:Nat->Nat:=NO 64 18446744073709551616 lg5
def VQ:Nat->Nat:=NO 128 340282366920938463463374607431768211456 lg6
theorem Gs(h:2^s<=n):eA n=s+eA (n/2^s):=by
 have hn:n≠0:=by have:=eZ (a:=2) (n:=s) (by decide);omega
 have hq:n/2^s≠0:=by
  have:=ad8 h (eZ (by decide));omega
 rw[avs hn];have h1:=Nat.log2_self_le hq;have h2:n/2^s<2^(eA (n/2^s)+1):=as5;have hp:0<2^s:=eZ (by decide);constructor
 ·rw[iy]
  have:=cY (2^s) h1;exact aq this (Nat.mul_div_le _ _)
 ·rw[Ad,iy,eS]
  exact(Nat.div_lt_iff_lt_mul hp).mp h2
theorem mQ(h:∀n,0<n->n<2^s->k n=eA n):∀n,0<n->n<2^(2*s)->NO s (2^s) k n=eA n:=λn h0 hn=>by
 unfold NO;rw[gj];by_cases hb:2^s<=n
 ·rw[eg hb]
  show s+k (n/2^s)=_;rw[h _ (ad8 hb (eZ (by decide))),<-Gs hb];rw[Nat.two_mul,iy]at hn;exact mU hn
 ·have:b8 (2^s) n=false:=by
   cases e:b8 (2^s) n with
   |false=>rfl
   |true=>exact absurd (bP e) hb
  rw[this];exact h n h0 (by omega)
theorem acI:∀n,0<n->n<2^2->lg0 n=eA n:=λn h0 hn=>
 (by decide:∀n,n<4->0<n->lg0 n=eA n) n hn h0
theorem uC:∀n,0<n->n<2^256->VQ n=eA n:=
 mQ (s:=128) (mQ (s:=64) (mQ (s:=32) (mQ (s:=16) (mQ (s:=8) (mQ (s:=4) (mQ (s:=2) acI))))))
theorem xg(h:a≠b):bO a b=false:=by
 cases e:bO a b with
 |false=>rfl
 |true=>exact absurd (bE e) h
theorem acJ(h:¬a<=b):b8 a b=false:=by
 cases e:b8 a b with
 |false=>rfl
 |true=>exact absurd (bP e) h
theorem ek(a b):b8 a b=decide (a<=b):=by
 by_cases h:a<=b
 ·rw[eg h,decide_eq_true h]
 ·rw[acJ h,decide_eq_false h]
def he2(d q r2:Nat):Nat:=cond (b8 r2 d) (cond (bO r2 d) (et q (qN q 2)) q) (lx q)
def he1(n d q:Nat):Nat:=mz (he2 d q) (i8 2 (qN n d))
def heN(d n:Nat):Nat:=mz (he1 n d) (Lg n d)
def heM(n d:Nat):Nat:=mz (he1 n d) (Lg n d)
def rm4(n d E:Nat):Nat:=cond (b8 E 1074) (mz (heN d) (i8 n (jy 2 (fQ 1074 E)))) (mz (heM n) (i8 d (jy 2 (fQ E 1074))))
def rmM(r:Nat):Nat:=cond (b8 r 9218868437227405312) r 9218868437227405312
def rm3(n d E:Nat):Nat:=mz rmM (et (i8 E 4503599627370496) (rm4 n d E))
def rmB(n d L K:Nat):Bool:=cond (b8 K L) (b8 (i8 d (jy 2 (fQ L K))) n) (b8 d (i8 n (jy 2 (fQ K L))))
def rm2(n d L K:Nat):Nat:=mz (rm3 n d) (fQ (et L (cond (rmB n d L K) 1022 1021)) K)
theorem Yl(n d:Nat):he1 n d (n/d)=A3 n d:=by
 unfold he1;rw[gj];unfold he2 A3;show cond (b8 (2*(n%d)) d) (cond (bO (2*(n%d)) d) (n/d+(n/d)%2) (n/d)) (n/d+1)=if(decide (2*(n%d)>d)||(2*(n%d)==d&&n/d%2==1))=true then n/d+1 else n/d;rcases Nat.lt_trichotomy (2*(n%d)) d with h|h|h
 ·rw[eg (cx h)]
  have h2:bO (2*(n%d)) d=false:=xg (el h);have h3:(2*(n%d)==d)=false:=beq_eq_false_iff_ne.mpr (el h);rw[h2,h3];simp;omega
 ·rw[h,eg (b0 _)]
  simp;have:=ND (n/d);rcases this with h0|h0<;>simp[h0]
 ·have h1:b8 (2*(n%d)) d=false:=by
   cases e:b8 (2*(n%d)) d with
   |false=>rfl
   |true=>have:=bP e;omega
  rw[h1];simp[h]
theorem zD{n d:Nat}{k:Int}{j:Nat}(h:k=j):eF n d k=(n*2^j,d):=by
 unfold eF;rw[if_pos (by omega),h,aR]
theorem sU{n d:Nat}{k:Int}{j:Nat}(h:k= -(j:Int)):eF n d k=(n,d*2^j):=by
 unfold eF;by_cases hj:j=0
 ·subst hj
  rw[if_pos (by omega),h];simp
 ·rw[if_neg (by omega),h,aea,aR]
theorem Ym(n d:Nat)(hn:0<n)(h1:eA d<=eA n+1021):A4 n d=rm2 n d (eA n) (eA d):=by
 generalize hL:eA n=L at h1;generalize hK:eA d=K at h1;unfold A4;rw[if_neg (by simpa using(by omega:n≠0)),hL,hK];obtain⟨E,hE⟩:∃E,E=L+(cond (rmB n d L K) 1022 1021) - K:=⟨_,rfl⟩;have hB:(if(eF n d (-((L:Int) - (K:Int)))).1>=(eF n d (-((L:Int) - (K:Int)))).2 then((L:Int) - K) - 52 else((L:Int) - K) - 53)=((E:Nat):Int) - 1074:=by
  rw[hE];unfold rmB;by_cases hk:K<=L
  ·rw[eg hk,sU (j:=L - K) (by omega)]
   show(if n>=d*2^(L - K)then _ else _)=((L+(cond (b8 (d*2^(L - K)) n) 1022 1021) - K:Nat):Int) - 1074;rw[ek];by_cases hb:d*2^(L - K)<=n
   ·rw[if_pos hb,decide_eq_true hb,cond_true];omega
   ·rw[if_neg hb,decide_eq_false hb,cond_false];omega
  ·rw[acJ hk,zD (j:=K - L) (by omega)]
   show(if n*2^(K - L)>=d then _ else _)=((L+(cond (b8 d (n*2^(K - L))) 1022 1021) - K:Nat):Int) - 1074;rw[ek];by_cases hb:d<=n*2^(K - L)
   ·rw[if_pos hb,decide_eq_true hb,cond_true];omega
   ·rw[if_neg hb,decide_eq_false hb,cond_false];omega
 have hm:max (((E:Nat):Int) - 1074) (-1074)=((E:Nat):Int) - 1074:=Int.max_eq_left (by omega);have hr:rm2 n d L K=rm3 n d E:=by
  unfold rm2;rw[gj,hE];rfl
 have hmm:∀r,rmM r=min alp r:=λr=>by
  unfold rmM;rw[ek,show alp=9218868437227405312 from by decide];by_cases h:r<=9218868437227405312
  ·rw[decide_eq_true h,cond_true];exact(as0 h).symm
  ·rw[decide_eq_false h,cond_false];exact(nT (cx (Nat.lt_of_not_le h))).symm
 have h4:rm4 n d E=A3 (eF n d (-(((E:Nat):Int) - 1074))).1 (eF n d (-(((E:Nat):Int) - 1074))).2:=by
  unfold rm4 heN heM;simp only[gj];rw[ek];by_cases h:E<=1074
  ·rw[decide_eq_true h,cond_true,zD (j:=1074 - E) (by omega)]
   exact Yl _ _
  ·rw[decide_eq_false h,cond_false,sU (j:=E - 1074) (by omega)]
   exact Yl _ _
 rw[hr];unfold rm3;rw[gj,hmm,h4];dsimp only;rw[hB,hm];rw[Int.sub_add_cancel,aR];rfl
def lg8:Nat->Nat:=NO 256 (2^256) VQ
def lg9:Nat->Nat:=NO 512 (2^512) lg8
def lgA:Nat->Nat:=NO 1024 (2^1024) lg9
theorem acK:∀n,0<n->n<2^2048->lgA n=eA n:=
 mQ (s:=1024) (mQ (s:=512) (mQ (s:=256) uC))
open Float64 in
def aQ (n:Nat):UInt64:=n.toUInt64
theorem iW(x:UInt64):aQ x.toNat=x:=by
 show avt x.toNat=x;exact UInt64.ofNat_toNat
theorem qE(n:Nat):(aQ n).toNat=n%2^64:=by
 show(avt n).toNat=_;exact UInt64.toNat_ofNat'
def SF(neg:Bool)(m:Nat):Nat:=cond neg (et 9223372036854775808 m) m
theorem sV(neg:Bool)(m:Nat):z7 neg m=aQ (SF neg m):=by
 unfold z7 SF aQ;cases neg
 ·show(0+m).toUInt64=_;rw[jw];rfl
 ·rfl
def Rk(x:Nat):Nat:=qN (Lg x 4503599627370496) 2048
def frB(x:Nat):Nat:=qN x 4503599627370496
def BR(x:Nat):Bool:=bO (qN (Lg x 9223372036854775808) 2) 1
def gh(x:Nat):Nat:=cond (bO (Rk x) 0) 1 (Rk x)
def mB(x:Nat):Nat:=cond (bO (Rk x) 0) (frB x) (et 4503599627370496 (frB x))
def fZ(x:Nat):Bool:=not (bO (Rk x) 2047)
theorem Yn(x):x%2^64/2^52%2048=Rk x:=by
 show x%2^64/2^52%2048=x/4503599627370496%2048;exact(congrArg (·%2048) (pM x (2^52) 4096)).trans (alq _ ⟨2,rfl⟩)
theorem Yo(x):x%2^64%2^52=frB x:=by
 show x%2^64%2^52=x%4503599627370496;exact alq _ ⟨4096,rfl⟩
theorem Yp(x):(x%2^64/2^63==1)=BR x:=by
 have h64:(2:Nat)^64=18446744073709551616:=rfl;have h63:(2:Nat)^63=9223372036854775808:=rfl;rw[h64,h63];show(x%18446744073709551616/9223372036854775808==1)=bO (x/9223372036854775808%2) 1;rw[show x%18446744073709551616/9223372036854775808=x/9223372036854775808%2 from pM x 9223372036854775808 2];rcases ND (x/9223372036854775808)with h|h<;>rw[h]<;>rfl
theorem gn(h:fZ x=true):G3 (aQ x)=.fin (BR x) (mB x) ((gh x:Int) - 1075):=by
 unfold G3;rw[qE,Yn,Yo,Yp];unfold fZ at h;have h1:(Rk x==2047)=false:=by
  cases e:(Rk x==2047)with
  |false=>rfl
  |true=>
   rw[eq_of_beq e]at h;cases h
 dsimp only;rw[h1,if_neg aF];unfold mB gh;by_cases h0:Rk x=0
 ·rw[h0];rfl
 ·rw[if_neg (by simpa using h0),xg h0];rfl
theorem Yq(x):mB x<2^53:=by
 have hf:frB x<4503599627370496:=dJ _ (by decide);have h53:(2:Nat)^53=9007199254740992:=rfl;rw[h53];unfold mB;cases bO (Rk x) 0
 ·show 4503599627370496+frB x<_;lia
 ·show frB x<_;lia
theorem Gu(j):eA (2^j)=j:=by
 rw[avs (by have:=eZ (a:=2) (n:=j) (by decide);lia)];exact⟨b0 _,jg (by decide) (by lia)⟩
theorem Gw(j)(h:0<m):eA (m*2^j)=eA m+j:=by
 have hp:0<2^j:=eZ (by decide);have:=Gs (n:=m*2^j) (s:=j) (tF _ h);rw[this,Nat.mul_div_cancel _ hp,jx]
def ob2(neg:Bool)(m j L:Nat):Nat:=cond (b8 j (et L 1021)) (SF neg (mz (λd=>rm2 m d L j) (jy 2 j))) (jz neg m (-(j:Int))).toNat
def ob1(neg:Bool)(m j:Nat):Nat:=cond (b8 m 115792089237316195423570985008687907853269984665640564039457584007913129639935) (mz (ob2 neg m j) (VQ m)) (cond (tA m (2^2048)) (mz (ob2 neg m j) (lgA m)) (jz neg m (-(j:Int))).toNat)
def VR(neg:Bool)(j m:Nat):Nat:=cond (bO m 0) (SF neg 0) (ob1 neg m j)
theorem Gx(neg:Bool)(m j:Nat):jz neg m (-(j:Int))=z7 neg (A4 m (2^j)):=by
 unfold jz;rw[sU (j:=j) rfl,ad7];show fv neg m (2^j)=_;unfold fv;rfl
theorem Rl(neg:Bool)(j m:Nat)(h0:m≠0):jz neg m (-(j:Int))=aQ (ob2 neg m j (eA m)):=by
 unfold ob2;rw[ek];by_cases h2:j<=et (eA m) 1021
 ·rw[decide_eq_true h2,cond_true,gj,Gx,Ym m (2^j) (by lia) (by rw[Gu];exact h2),Gu,sV]
  rfl
 ·rw[decide_eq_false h2,cond_false,iW]
theorem wN(neg:Bool)(j m:Nat):jz neg m (-(j:Int))=aQ (VR neg j m):=by
 unfold VR;by_cases h0:m=0
 ·subst h0
  rw[Gx];show z7 neg 0=_;exact sV neg 0
 ·rw[xg h0,cond_false]
  unfold ob1;rw[ek];by_cases h1:m<=115792089237316195423570985008687907853269984665640564039457584007913129639935
  ·rw[decide_eq_true h1,cond_true,gj]
   have hm:m<2^256:=by
    have:(2:Nat)^256=115792089237316195423570985008687907853269984665640564039457584007913129639936:=by decide
    lia
   rw[uC m (by lia) hm];exact Rl neg j m h0
  ·rw[decide_eq_false h1,cond_false]
   cases hb:tA m (2^2048)with
   |true=>
    have hm:m<2^2048:=bP hb;rw[cond_true,gj,acK m (by lia) hm];exact Rl neg j m h0
   |false=>rw[cond_false,iW]
def KO(x y:Nat):Nat:=(iY (aQ x) (aQ y)).toNat
def ad4(a b:Bool)(j p q:Nat):Nat:=cond (mF a b) (cond (b8 q p) (cond (bO p q) 0 (mz (VR a j) (fQ p q))) (mz (VR b j) (fQ q p))) (mz (VR a j) (et p q))
def ad3(a b:Bool)(k f g p:Nat):Nat:=mz (λq=>mz (λj=>ad4 a b j p q) (fQ 1075 g)) (i8 k (jy 2 (fQ f g)))
def ad2(a b:Bool)(m e k f g:Nat):Nat:=mz (ad3 a b k f g) (i8 m (jy 2 (fQ e g)))
def ad1(x y:Nat)(a b:Bool)(m e k f:Nat):Nat:=cond (b8 e f) (cond (b8 e 1075) (ad2 a b m e k f e) (KO x y)) (cond (b8 f 1075) (ad2 a b m e k f f) (KO x y))
def dc2(k:Bool->Bool->Nat->Nat->Nat->Nat->Nat)(x y:Nat):Nat:=
 mz (λm=>mz (λe=>mz (λn=>mz (λf=>k (BR x) (BR y) m e n f) (gh y)) (mB y)) (gh x)) (mB x)
theorem zE(k:Bool->Bool->Nat->Nat->Nat->Nat->Nat)(x y):dc2 k x y=k (BR x) (BR y) (mB x) (gh x) (mB y) (gh y):=by
 unfold dc2;simp only[gj]
def I8(x y:Nat):Nat:=cond (and (fZ x) (fZ y)) (dc2 (ad1 x y) x y) (KO x y)
theorem Rm(a b:Bool)(j p q:Nat):(if(cf a p+cf b q==0)=true then kH (a&&b)else jz (decide (cf a p+cf b q<0)) (cf a p+cf b q).natAbs (-(j:Int)))=aQ (ad4 a b j p q):=by
 unfold ad4;simp only[gj];have hz:∀c:Bool,kH c=aQ (VR c j 0):=λc=>(sV c 0).trans (congrArg aQ (show SF c 0=VR c j 0 from rfl));have h00:kH false=aQ 0:=(sV false 0).trans (congrArg aQ (show SF false 0=0 from rfl));cases a<;>cases b
 ·have e:cf false p+cf false q=((p+q:Nat):Int):=by show(p:Int)+q=_;lia
  rw[e,show mF false false=false from rfl,cond_false,show et p q=p+q from rfl];by_cases h:p+q=0
  ·rw[if_pos (by rw[h];rfl),h];exact hz false
  ·rw[if_neg (by rw[beq_iff_eq];lia),decide_eq_false (by lia),iC,wN]
 ·have e:cf false p+cf true q=(p:Int) - q:=by show(p:Int)+ -(q:Int)=_;lia
  rw[e,show mF false true=true from rfl,cond_true,ek];by_cases h:q<=p
  ·rw[decide_eq_true h,cond_true]
   by_cases h2:p=q
   ·subst h2
    rw[if_pos (by rw[beq_iff_eq];lia)];have:bO p p=true:=tH p;rw[this,cond_true];exact h00
   ·rw[xg h2,cond_false,if_neg (by rw[beq_iff_eq];lia),decide_eq_false (by lia),<-wN]
    congr 1;show _=p - q;lia
  ·rw[decide_eq_false h,cond_false,if_neg (by rw[beq_iff_eq];lia),decide_eq_true (by lia),<-wN]
   congr 1;show _=q - p;lia
 ·have e:cf true p+cf false q=(q:Int) - p:=by show -(p:Int)+(q:Int)=_;lia
  rw[e,show mF true false=true from rfl,cond_true,ek];by_cases h:q<=p
  ·rw[decide_eq_true h,cond_true]
   by_cases h2:p=q
   ·subst h2
    rw[if_pos (by rw[beq_iff_eq];lia)];have:bO p p=true:=tH p;rw[this,cond_true];exact h00
   ·rw[xg h2,cond_false,if_neg (by rw[beq_iff_eq];lia),decide_eq_true (by lia),<-wN]
    congr 1;show _=p - q;lia
  ·rw[decide_eq_false h,cond_false,if_neg (by rw[beq_iff_eq];lia),decide_eq_false (by lia),<-wN]
   congr 1;show _=q - p;lia
 ·have e:cf true p+cf true q= -((p+q:Nat):Int):=by show -(p:Int)+ -(q:Int)=_;lia
  rw[e,show mF true true=false from rfl,cond_false,show et p q=p+q from rfl];by_cases h:p+q=0
  ·rw[if_pos (by rw[h];rfl),h];exact hz true
  ·rw[if_neg (by rw[beq_iff_eq];lia),decide_eq_true (by lia),Int.natAbs_neg,iC,wN]
theorem zF(a:Bool)(m:Nat)(b:Bool)(k e f g:Nat)(h:(g=e/\e<=f)\/(g=f/\f<=e)):
 amI a m ((e:Int) - 1075) b k ((f:Int) - 1075)=(cf a (m*2^(e - g)),cf b (k*2^(f - g)),(g:Int) - 1075):=by
 unfold amI;have hg:min ((e:Int) - 1075) ((f:Int) - 1075)=(g:Int) - 1075:=by
  rcases h with⟨rfl,h⟩|⟨rfl,h⟩
  ·exact avr (aeb (gf.mpr h) _)
  ·exact as1 (aeb (gf.mpr h) _)
 rw[hg];have hc (e:Nat):((e:Int) - 1075 - ((g:Int) - 1075)).toNat=e - g:=by rw[show(e:Int) - 1075 - ((g:Int) - 1075)=e - g by lia];exact Int.toNat_sub ..
 have h1:=hc e;have h2:=hc f;dsimp only;rw[h1,h2]
theorem Dd(x y:Nat):iY (aQ x) (aQ y)=aQ (I8 x y):=by
 unfold I8;have hs:iY (aQ x) (aQ y)=aQ (KO x y):=(iW _).symm;cases hx:fZ x
 ·exact hs
 ·cases hy:fZ y
  ·exact hs
  ·rw[iO,cond_true,zE]
   have key:∀g,(g=gh x/\gh x<=gh y)\/(g=gh y/\gh y<=gh x)->g<=1075->iY (aQ x) (aQ y)=aQ (ad2 (BR x) (BR y) (mB x) (gh x) (mB y) (gh y) g):=λg hg h75=>by
    unfold iY;rw[gn hx,gn hy];dsimp only;rw[zF _ _ _ _ _ _ g hg];unfold ad2 ad3;simp only[gj];have:=Rm (BR x) (BR y) (1075 - g) (mB x*2^(gh x - g)) (mB y*2^(gh y - g));rw[show -((1075 - g:Nat):Int)=(g:Int) - 1075 by lia]at this;exact this
   unfold ad1;rw[ek,ek,ek];by_cases h:gh x<=gh y
   ·rw[decide_eq_true h,cond_true]
    by_cases h2:gh x<=1075
    ·rw[decide_eq_true h2,cond_true];exact key _ (.inl ⟨rfl,h⟩) h2
    ·rw[decide_eq_false h2,cond_false];exact hs
   ·rw[decide_eq_false h,cond_false]
    by_cases h2:gh y<=1075
    ·rw[decide_eq_true h2,cond_true];exact key _ (.inr ⟨rfl,by lia⟩) h2
    ·rw[decide_eq_false h2,cond_false];exact hs
end Internal.Z
namespace Internal.Z
theorem Ro(a b):(a != b)=mF a b:=by cases a<;>cases b<;>rfl
def Rp(x y:Nat):Nat:=(hO (aQ x) (aQ y)).toNat
def mu1(x y:Nat)(a b:Bool)(m e k f:Nat):Nat:=cond (b8 (et e f) 2150) (mz (λj=>mz (VR (mF a b) j) (i8 m k)) (fQ 2150 (et e f))) (Rp x y)
def VT(x y:Nat):Nat:=cond (and (fZ x) (fZ y)) (dc2 (mu1 x y) x y) (Rp x y)
theorem VU(x y):hO (aQ x) (aQ y)=aQ (VT x y):=by
 unfold VT;have hs:hO (aQ x) (aQ y)=aQ (Rp x y):=(iW _).symm;cases hx:fZ x
 ·exact hs
 ·cases hy:fZ y
  ·exact hs
  ·rw[iO,cond_true,zE]
   unfold mu1;simp only[gj];rw[ek];by_cases h:et (gh x) (gh y)<=2150
   ·rw[decide_eq_true h,cond_true,<-wN]
    unfold hO;rw[gn hx,gn hy];dsimp only;have h':gh x+gh y<=2150:=h;rw[Ro,show((gh x:Int) - 1075)+((gh y:Int) - 1075)= -((fQ 2150 (et (gh x) (gh y)):Nat):Int)by
     show _= -((2150 - (gh x+gh y):Nat):Int);omega]
    rfl
   ·rw[decide_eq_false h,cond_false];exact hs
def Yr(neg:Bool)(n d:Nat):Nat:=(fv neg n d).toNat
def fr2(neg:Bool)(n d K L:Nat):Nat:=cond (b8 K (et L 1021)) (SF neg (rm2 n d L K)) (Yr neg n d)
theorem I9(neg:Bool){n d K L:Nat}(hn:0<n)(hL:L=eA n)(hK:K=eA d):fv neg n d=aQ (fr2 neg n d K L):=by
 unfold fr2;rw[ek];by_cases h:K<=et L 1021
 ·rw[decide_eq_true h,cond_true,<-sV]
  unfold fv;rw[Ym n d hn (by rw[<-hK,<-hL];exact h),<-hL,<-hK]
 ·rw[decide_eq_false h,cond_false]
  exact(iW _).symm
theorem KP(neg)(d):fv neg 0 d=aQ (SF neg 0):=by
 rw[<-sV];unfold fv;rfl
def Rq(x y:Nat):Nat:=(jS (aQ x) (aQ y)).toNat
def dv2(neg:Bool)(m e k f:Nat):Nat:=cond (b8 f e)
 (mz (λj=>mz (λn=>mz (λK=>mz (fr2 neg n k K) (et (VQ m) j)) (VQ k)) (i8 m (jy 2 j))) (fQ e f))
 (mz (λj=>mz (λd=>mz (λK=>mz (fr2 neg m d K) (VQ m)) (et (VQ k) j)) (i8 k (jy 2 j))) (fQ f e))
def dv1(x y:Nat)(a b:Bool)(m e k f:Nat):Nat:=cond (bO k 0) (Rq x y) (cond (bO m 0) (SF (mF a b) 0) (dv2 (mF a b) m e k f))
def VV(x y:Nat):Nat:=cond (and (fZ x) (fZ y)) (dc2 (dv1 x y) x y) (Rq x y)
theorem sW(h:m<2^53):m<2^256:=ck h (bM (by decide) (by decide))
theorem VW(x y:Nat):jS (aQ x) (aQ y)=aQ (VV x y):=by
 unfold VV;have hs:jS (aQ x) (aQ y)=aQ (Rq x y):=(iW _).symm;cases hx:fZ x
 ·exact hs
 ·cases hy:fZ y
  ·exact hs
  ·rw[iO,cond_true,zE]
   unfold dv1;by_cases hk:mB y=0
   ·rw[hk];exact hs
   ·rw[xg hk,cond_false]
    have hd:jS (aQ x) (aQ y)=fv (mF (BR x) (BR y)) (eF (mB x) (mB y) (((gh x:Int) - 1075) - ((gh y:Int) - 1075))).1 (eF (mB x) (mB y) (((gh x:Int) - 1075) - ((gh y:Int) - 1075))).2:=by
     unfold jS;rw[gn hx,gn hy];dsimp only;rw[if_neg (by simpa using hk),Ro]
    by_cases hm:mB x=0
    ·rw[hm]at hd⊢
     rw[hd];have:(eF 0 (mB y) (((gh x:Int) - 1075) - ((gh y:Int) - 1075))).1=0:=by
      unfold eF;split<;>simp
     rw[this,KP];rfl
    ·rw[xg hm,cond_false]
     unfold dv2;simp only[gj];have hx2:=sW (Yq x);have hy2:=sW (Yq y);rw[uC _ (by omega) hx2,uC _ (by omega) hy2,ek];by_cases h:gh y<=gh x
     ·rw[decide_eq_true h,cond_true,hd,zD (j:=gh x - gh y) (by omega)]
      exact I9 _ (Nat.mul_pos (by omega) (eZ (by decide))) (Gw _ (by omega)).symm rfl
     ·rw[decide_eq_false h,cond_false,hd,sU (j:=gh y - gh x) (by omega)]
      exact I9 _ (by omega) rfl (Gw _ (by omega)).symm
def mA(n d:Nat):Nat:=cond (bO n 0) 0 (cond (and (b8 n 9007199254740991) (and (b8 d 9007199254740991) (b8 1 d))) (mz (λK=>mz (fr2 false n d K) (VQ n)) (VQ d)) (Yr false n d))
theorem Ys(n d:Nat):fv false n d=aQ (mA n d):=by
 unfold mA;by_cases h0:n=0
 ·subst h0
  exact KP false d
 ·rw[xg h0,cond_false,ek,ek,ek]
  by_cases h:n<=9007199254740991/\d<=9007199254740991/\1<=d
  ·rw[decide_eq_true h.1,decide_eq_true h.2.1,decide_eq_true h.2.2,iO,iO,cond_true]
   simp only[gj];have h53:(2:Nat)^53=9007199254740992:=rfl;rw[uC n (by omega) (sW (by omega)),uC d (by omega) (sW (by omega))];exact I9 _ (by omega) rfl rfl
  ·have:(and (decide (n<=9007199254740991)) (and (decide (d<=9007199254740991)) (decide (1<=d))))=false:=by
    rw[Bool.eq_false_iff];intro hh;simp only[av,decide_eq_true_eq]at hh;exact h hh
   rw[this,cond_false];exact(iW _).symm
theorem Gy(n:Nat):eE (n:Int)=aQ (mA n 1):=by
 rw[<-Ys];unfold eE;rw[decide_eq_false (by omega),iC]
theorem KQ(n d:Nat):EL (n:Int) (d:Int)=aQ (mA n d):=by
 rw[<-Ys];unfold EL;rw[decide_eq_false (by omega),decide_eq_false (by omega),iC,iC];rfl
theorem KR(h:fZ x=true):wY (aQ x)=false:=by
 unfold wY;rw[gn h]
def Rr(x:Nat):Nat:=cond (fZ x) (Nat.xor x 9223372036854775808) (Si (aQ x)).toNat
theorem VX(x):Si (aQ x)=aQ (Rr x):=by
 unfold Rr;cases h:fZ x
 ·exact(iW _).symm
 ·rw[cond_true]
  unfold Si;rw[KR h,if_neg aF,sV];apply UInt64.toNat.inj;rw[UInt64.toNat_xor,qE,qE,qE];show _=(x ^^^ 9223372036854775808)%2^64;rw[Nat.xor_mod_two_pow];rfl
def M4(x y:Nat):Nat:=mz (I8 x) (Rr y)
theorem KU(x y):lU (aQ x) (aQ y)=aQ (M4 x y):=by
 unfold lU M4;rw[VX,Dd,gj]
def VY(x:Nat):Nat:=cond (fZ x) (qN x 9223372036854775808) (tD (aQ x)).toNat
theorem VZ(x):tD (aQ x)=aQ (VY x):=by
 unfold VY;cases h:fZ x
 ·exact(iW _).symm
 ·rw[cond_true]
  unfold tD;rw[KR h,if_neg aF,sV,qE];refine congrArg aQ ?_;show x%2^64%2^63=x%9223372036854775808;have h64:(2:Nat)^64=18446744073709551616:=rfl;have h63:(2:Nat)^63=9223372036854775808:=rfl;rw[h64,h63];omega
def mD:Option Ordering->Nat
 |some .lt=>0|some .eq=>1|some .gt=>2|none=>3
theorem De(o:Option Ordering):(o==some .lt)=bO (mD o) 0:=by
 match o with
 |some .lt=>rfl|some .eq=>rfl|some .gt=>rfl|none=>rfl
theorem Df(o:Option Ordering):(o==some .eq)=bO (mD o) 1:=by
 match o with
 |some .lt=>rfl|some .eq=>rfl|some .gt=>rfl|none=>rfl
theorem KV(o:Option Ordering):(o==some .gt)=bO (mD o) 2:=by
 match o with
 |some .lt=>rfl|some .eq=>rfl|some .gt=>rfl|none=>rfl
def V1(p q:Nat):Nat:=cond (b8 p q) (cond (bO p q) 1 0) 2
def c4(a b:Bool)(p q:Nat):Nat:=cond a (cond b (V1 q p) (cond (bO (et p q) 0) 1 0)) (cond b (cond (bO (et p q) 0) 1 2) (V1 p q))
theorem V2(P Q:Int):mD (some (compare P Q))=if P<Q then 0 else if P=Q then 1 else 2:=by
 show mD (some (compareOfLessAndEq P Q))=_;unfold compareOfLessAndEq;split
 ·rfl
 ·split<;>rfl
theorem KW(p q):V1 p q=if p<q then 0 else if p=q then 1 else 2:=by
 unfold V1;rw[ek];by_cases h:p<=q
 ·rw[decide_eq_true h,cond_true]
  by_cases h2:p=q
  ·subst h2;rw[tH,cond_true,if_neg (by lia),if_pos rfl]
  ·rw[xg h2,cond_false,if_pos (by lia)]
 ·rw[decide_eq_false h,cond_false,if_neg (by lia),if_neg (by lia)]
theorem Yt(a b:Bool)(p q:Nat):mD (some (compare (cf a p) (cf b q)))=c4 a b p q:=by
 rw[V2];unfold c4;cases a<;>cases b
 ·rw[show cf false p=(p:Int)from rfl,show cf false q=(q:Int)from rfl,cond_false,cond_false,KW]
  by_cases h:p<q
  ·rw[if_pos (by lia),if_pos h]
  ·rw[if_neg (by lia),if_neg h]
   by_cases h2:p=q
   ·rw[if_pos (by lia),if_pos h2]
   ·rw[if_neg (by lia),if_neg h2]
 ·rw[show cf false p=(p:Int)from rfl,show cf true q= -(q:Int)from rfl,cond_false,cond_true,if_neg (by lia)]
  by_cases h:p+q=0
  ·rw[if_pos (by lia),show et p q=0 from h];rfl
  ·rw[if_neg (by lia),xg (show et p q≠0 from h),cond_false]
 ·rw[show cf true p= -(p:Int)from rfl,show cf false q=(q:Int)from rfl,cond_true,cond_false]
  by_cases h:p+q=0
  ·rw[if_neg (by lia),if_pos (by lia),show et p q=0 from h];rfl
  ·rw[if_pos (by lia),xg (show et p q≠0 from h),cond_false]
 ·rw[show cf true p= -(p:Int)from rfl,show cf true q= -(q:Int)from rfl,cond_true,cond_true,KW]
  by_cases h:q<p
  ·rw[if_pos (by lia),if_pos h]
  ·rw[if_neg (by lia),if_neg h]
   by_cases h2:q=p
   ·rw[if_pos (by lia),if_pos h2]
   ·rw[if_neg (by lia),if_neg h2]
def ajR(x y:Nat):Nat:=mD (cA (aQ x) (aQ y))
def c2(a b:Bool)(m e k f g:Nat):Nat:=mz (λp=>mz (c4 a b p) (i8 k (jy 2 (fQ f g)))) (i8 m (jy 2 (fQ e g)))
def c1(a b:Bool)(m e k f:Nat):Nat:=cond (b8 e f) (c2 a b m e k f e) (c2 a b m e k f f)
def cmN(x y:Nat):Nat:=cond (and (fZ x) (fZ y)) (dc2 c1 x y) (ajR x y)
theorem Yu(x y):mD (cA (aQ x) (aQ y))=cmN x y:=by
 unfold cmN;cases hx:fZ x
 ·rfl
 ·cases hy:fZ y
  ·rfl
  ·rw[iO,cond_true,zE]
   have key:∀g,(g=gh x/\gh x<=gh y)\/(g=gh y/\gh y<=gh x)->mD (cA (aQ x) (aQ y))=c2 (BR x) (BR y) (mB x) (gh x) (mB y) (gh y) g:=λg hg=>by
    unfold cA;rw[gn hx,gn hy];dsimp only;rw[zF _ _ _ _ _ _ g hg];unfold c2;simp only[gj];exact Yt _ _ _ _
   unfold c1;rw[ek];by_cases h:gh x<=gh y
   ·rw[decide_eq_true h,cond_true];exact key _ (.inl ⟨rfl,h⟩)
   ·rw[decide_eq_false h,cond_false];exact key _ (.inr ⟨rfl,by lia⟩)
def M5(x:Nat):Bool:=and (fZ x) (bO (mB x) 0)
theorem Rt(x):gQ (aQ x)=M5 x:=by
 unfold M5;cases hx:fZ x
 ·unfold gQ G3
  rw[qE,Yn,Yo,Yp];unfold fZ at hx;have h1:Rk x=2047:=by
   have:bO (Rk x) 2047=true:=by simpa using hx
   exact bE this
  dsimp only;rw[h1,if_pos (show((2047:Nat)==2047)=true from rfl)];split
  ·rename_i hq;split at hq<;>cases hq
  ·rfl
 ·unfold gQ
  rw[gn hx];cases h:mB x with
  |zero=>rfl
  |succ n=>rfl
def zG(x y:Nat):Nat:=(qY (aQ x) (aQ y)).toNat
def fm2(a:Bool)(m e k f g:Nat):Nat:=mz (λq=>mz (λj=>mz (VR a j) (qN (i8 m (jy 2 (fQ e g))) q)) (fQ 1075 g)) (i8 k (jy 2 (fQ f g)))
def fm1(x y:Nat)(a _b:Bool)(m e k f:Nat):Nat:=cond (bO k 0) (zG x y) (cond (b8 e f) (cond (b8 e 1075) (fm2 a m e k f e) (zG x y)) (cond (b8 f 1075) (fm2 a m e k f f) (zG x y)))
def fmN(x y:Nat):Nat:=cond (and (fZ x) (fZ y)) (dc2 (fm1 x y) x y) (zG x y)
theorem ajS(x y:Nat):qY (aQ x) (aQ y)=aQ (fmN x y):=by
 unfold fmN;have hs:qY (aQ x) (aQ y)=aQ (zG x y):=(iW _).symm;cases hx:fZ x
 ·exact hs
 ·cases hy:fZ y
  ·exact hs
  ·rw[iO,cond_true,zE]
   unfold fm1;by_cases hk:mB y=0
   ·rw[hk];exact hs
   ·rw[xg hk,cond_false]
    have key:∀g,(g=gh x/\gh x<=gh y)\/(g=gh y/\gh y<=gh x)->g<=1075->qY (aQ x) (aQ y)=aQ (fm2 (BR x) (mB x) (gh x) (mB y) (gh y) g):=λg hg h75=>by
     unfold qY;rw[gn hx,gn hy];dsimp only;rw[if_neg (by simpa using hk),zF _ _ _ _ _ _ g hg];unfold fm2;simp only[gj];rw[<-wN,show cf false (mB x*2^(gh x - g))=((mB x*2^(gh x - g):Nat):Int)from rfl,show cf false (mB y*2^(gh y - g))=((mB y*2^(gh y - g):Nat):Int)from rfl];rw[aR,aR,show -((fQ 1075 g:Nat):Int)=(g:Int) - 1075 by show -((1075 - g:Nat):Int)=_;lia];rfl
    rw[ek,ek,ek];by_cases h:gh x<=gh y
    ·rw[decide_eq_true h,cond_true]
     by_cases h2:gh x<=1075
     ·rw[decide_eq_true h2,cond_true];exact key _ (.inl ⟨rfl,h⟩) h2
     ·rw[decide_eq_false h2,cond_false];exact hs
    ·rw[decide_eq_false h,cond_false]
     by_cases h2:gh y<=1075
     ·rw[decide_eq_true h2,cond_true];exact key _ (.inr ⟨rfl,by lia⟩) h2
     ·rw[decide_eq_false h2,cond_false];exact hs
def md2(m:Nat):Nat:=cond (M5 m) 0 (cond (bO (cmN m 0) 0) (I8 m 4607182418800017408) m)
def mdN(x:Nat):Nat:=mz md2 (fmN x 4607182418800017408)
theorem acN:(4607182418800017408:UInt64)=aQ 4607182418800017408:=rfl
theorem ajT(x):(tB (aQ x) 4607182418800017408).2=aQ (mdN x):=by
 rw[acN];unfold mdN;rw[gj];unfold tB md2;dsimp only;rw[ajS];generalize fmN x 4607182418800017408=m;rw[Rt];have h0:kH false=aQ 0:=(sV false 0).trans (congrArg aQ (show SF false 0=0 from rfl));have h1:W3 (aQ 4607182418800017408) (kH false)=false:=by decide
 have h2:Float64.copysign (kH false) (aQ 4607182418800017408)=aQ 0:=by decide
 have h3:W3 (aQ m) (kH false)=bO (cmN m 0) 0:=by
  unfold W3;rw[h0,De,Yu]
 rw[h1,h2,h3];cases M5 m
 ·cases bO (cmN m 0) 0
  ·rfl
  ·exact Dd m 4607182418800017408
 ·rfl
def trN(x:Nat):Nat:=Lg (mB x) (jy 2 (fQ 1075 (gh x)))
theorem ajU(x)(h:fZ x=true)(hs:BR x=false)(he:b8 (gh x) 1075=true):cq cC (aQ x)=(trN x:Int):=by
 have he:=bP he;unfold cq;rw[gn h,hs];show aeQ false (mB x) ((gh x:Int) - 1075)=_;unfold aeQ trN;by_cases h0:gh x=1075
 ·rw[if_pos (by lia),h0]
  show((mB x:Nat):Int)*2^((1075:Nat) - 1075:Int).toNat=((mB x/2^(1075 - 1075):Nat):Int)
  simp
 ·rw[if_neg (by lia)]
  have e:(-((gh x:Int) - 1075)).toNat=1075 - gh x:=by lia
  rw[e,show cf false (mB x)=((mB x:Nat):Int)from rfl,bN _ (by exact_mod_cast de _)];show((mB x:Nat):Int)/2^(1075 - gh x)=((mB x/2^(1075 - gh x):Nat):Int)
  push_cast;rfl
def ciN(x i:Nat):Nat:=cond (and (fZ x) (b8 (gh x) 1074)) (c4 (BR x) false (mB x) (i8 i (jy 2 (fQ 1075 (gh x))))) (mD (fw (aQ x) (i:Int)))
theorem ajV(x i:Nat):mD (fw (aQ x) (i:Int))=ciN x i:=by
 unfold ciN;cases hx:fZ x
 ·rfl
 ·rw[ek]
  by_cases h:gh x<=1074
  ·rw[decide_eq_true h,iO,cond_true]
   unfold fw;rw[gn hx];dsimp only;rw[if_neg (by lia)];have e:(-((gh x:Int) - 1075)).toNat=1075 - gh x:=by lia
   rw[e];have:=Yt (BR x) false (mB x) (i*2^(1075 - gh x));rw[show cf false (i*2^(1075 - gh x))=((i*2^(1075 - gh x):Nat):Int)from rfl]at this;rw[show((i*2^(1075 - gh x):Nat):Int)=(i:Int)*2^(1075 - gh x)by push_cast;rfl]at this;exact this
  ·rw[decide_eq_false h];rfl
theorem acO(h:fZ x=true):cN (aQ x)=true:=by
 unfold cN;rw[gn h]
end Internal.Z
end
section
open PySem PySem.W PyProof.Rows
namespace Internal.Z
section
structure FO(α:Type) where
 add:α->α->α
 sub:α->α->α
 mul:α->α->α
 dv:α->α->α
 md:α->α
 cm:α->α->Nat
 ci:α->Nat->Nat
 BU:α->Bool
 fin:α->Bool
 ab:α->α
 k:Nat->α
 i:Nat->α
 q:Nat->Nat->α
 tr:α->Nat
 AO:α->Bool
 fc:{β:Type}->α->(α->β)->β
def zI(n:Nat)(k:Nat->β):β:=Nat.rec (k 0) (λm _=>k (lx m)) n
theorem ju(n)(k:Nat->β):zI n k=k n:=by cases n<;>rfl
def FU:FO UInt64 where
 add:=iY
 sub:=lU
 mul:=hO
 dv:=jS
 md x:=(tB x 4607182418800017408).2
 cm x y:=mD (cA x y)
 ci x n:=mD (fw x n)
 BU:=gQ
 fin x:=cN x
 ab:=tD
 k:=aQ
 i n:=eE n
 q n d:=EL n d
 tr x:=(cq cC x).toNat
 AO x:=cN x&&(decide (0<=cq cC x)&&decide (cq cC x<=1000000))
 fc x k:=k x
def XS(f:Nat->Nat)(x:Nat):Nat:=mz f x
def NF(f:Nat->Nat->Nat)(x y:Nat):Nat:=mz (λx=>mz (f x) y) x
def stB(f:Nat->Bool)(x:Nat):Bool:=zI x f
theorem Ja(f)(x):XS f x=f x:=gj f x
theorem qm(f:Nat->Nat->Nat)(x y):NF f x y=f x y:=by unfold NF;rw[gj,gj]
theorem Ru(f:Nat->Bool)(x):stB f x=f x:=ju x f
def Yv(x:Nat):Bool:=and (fZ x) (and (not (BR x)) (and (b8 (gh x) 1075) (b8 (trN x) 1000000)))
def FN:FO Nat where
 add:=NF I8
 sub:=NF M4
 mul:=NF VT
 dv:=NF VV
 md:=XS mdN
 cm:=NF cmN
 ci:=NF ciN
 BU:=stB M5
 fin:=stB fZ
 ab:=XS VY
 k x:=x
 i n:=NF mA n 1
 q:=NF mA
 tr:=XS trN
 AO:=stB Yv
 fc:=zI
section
variable{α:Type}(o:FO α)
def oGt(a b:α):Bool:=bO (o.cm a b) 2
def Jb(a b:α):Bool:=bO (o.cm a b) 0
def pO(a b:α):Bool:=bO (o.cm a b) 1
def xh(a b c:α):α:=o.fc (cond (oGt o b a) b a) λm=>cond (oGt o c m) c m
def AP(a b c:α):α:=o.fc (cond (Jb o b a) b a) λm=>cond (Jb o c m) c m
abbrev Ac:Nat:=4602678819172646912
abbrev Dg:Nat:=4607182418800017408
abbrev xH:Nat:=4611686018427387904
abbrev c40:Nat:=4616189618054758400
abbrev DH:Nat:=4618441417868443648
abbrev V3:Nat:=4599676419421066581
abbrev c16:Nat:=4595172819793696085
abbrev Yw:Nat:=4604180019048437077
def Gz(M R r g b:α):α:=
 o.fc (o.dv (o.sub M r) R) λrc=>o.fc (o.dv (o.sub M g) R) λgc=>o.fc (o.dv (o.sub M b) R) λbc=>
 o.fc (cond (pO o r M) (o.sub bc gc) (cond (pO o g M) (o.sub (o.add (o.k xH) rc) bc) (o.sub (o.add (o.k c40) gc) rc))) λh=>o.md (o.dv h (o.k DH))
def Dh(r g b:α):Option (α×α×α):=
 o.fc (xh o r g b) λM=>o.fc (AP o r g b) λm=>cond (pO o m M) (some (o.k 0,o.k 0,M))<|
 o.fc (o.sub M m) λR=>cond (or (o.BU M) (o.BU R)) none<|o.fc (Gz o M R r g b) λh=>o.fc (o.dv R M) λs=>some (h,s,M)
def Yx(a b:α):Bool:=or (Jb o a b) (pO o a b)
def AQ(r g b:α):Option (α×α×α):=
 o.fc (xh o r g b) λM=>o.fc (AP o r g b) λm=>o.fc (o.add M m) λS=>o.fc (o.dv S (o.k xH)) λl=>cond (pO o m M) (some (o.k 0,l,o.k 0))<|
 o.fc (o.sub M m) λR=>o.fc (cond (Yx o l (o.k Ac)) S (o.sub (o.sub (o.k xH) M) m)) λd=>cond (or (o.BU d) (o.BU R)) none<|o.fc (Gz o M R r g b) λh=>o.fc (o.dv R d) λs=>some (h,l,s)
def BV(v p q t:α):Nat->α×α×α
 |0=>(v,t,p)|1=>(q,v,p)|2=>(p,v,t)|3=>(p,q,v)|4=>(t,p,v)|_=>(v,p,q)
def Jc(h s v:α):Option (α×α×α):=
 cond (pO o s (o.k 0)) (some (v,v,v))<|
 o.fc (o.mul h (o.k DH)) λx=>cond (not (o.AO x)) none<|
 o.fc (o.sub x (o.i (o.tr x))) λf=>o.fc (o.mul v (o.sub (o.k Dg) s)) λp=>o.fc (o.mul v (o.sub (o.k Dg) (o.mul s f))) λq=>o.fc (o.mul v (o.sub (o.k Dg) (o.mul s (o.sub (o.k Dg) f)))) λt=>
 some (BV v p q t (o.tr x%6))
def oV(m1 m2 hue:α):α:=
 o.fc (o.md hue) λu=>cond (Jb o u (o.k c16)) (o.add m1 (o.mul (o.mul (o.sub m2 m1) u) (o.k DH)))<|
 cond (Jb o u (o.k Ac)) m2<|cond (Jb o u (o.k Yw)) (o.add m1 (o.mul (o.mul (o.sub m2 m1) (o.sub (o.k Yw) u)) (o.k DH))) m1
def Di(h l s:α):α×α×α:=
 cond (pO o s (o.k 0)) (l,l,l)<|
 o.fc (cond (Yx o l (o.k Ac)) (o.mul l (o.add (o.k Dg) s)) (o.sub (o.add l s) (o.mul l s))) λm2=>o.fc (o.sub (o.mul (o.k xH) l) m2) λm1=>
 o.fc (oV o m1 m2 (o.add h (o.k V3))) λa=>o.fc (oV o m1 m2 h) λb=>o.fc (oV o m1 m2 (o.sub h (o.k V3))) λc=>(a,b,c)
end
def up3(x:Nat×Nat×Nat):UInt64×UInt64×UInt64:=(aQ x.1,aQ x.2.1,aQ x.2.2)
theorem GA(x y):FU.add (aQ x) (aQ y)=aQ (FN.add x y):=(Dd x y).trans (congrArg aQ (qm I8 x y).symm)
theorem wO(x y):FU.sub (aQ x) (aQ y)=aQ (FN.sub x y):=(KU x y).trans (congrArg aQ (qm M4 x y).symm)
theorem BW(x y):FU.mul (aQ x) (aQ y)=aQ (FN.mul x y):=(VU x y).trans (congrArg aQ (qm VT x y).symm)
theorem acR(x y):FU.dv (aQ x) (aQ y)=aQ (FN.dv x y):=(VW x y).trans (congrArg aQ (qm VV x y).symm)
theorem ajY(x):FU.md (aQ x)=aQ (FN.md x):=(ajT x).trans (congrArg aQ (Ja mdN x).symm)
theorem acS(x y):FU.cm (aQ x) (aQ y)=FN.cm x y:=(Yu x y).trans (qm cmN x y).symm
theorem aqX(x n):FU.ci (aQ x) n=FN.ci x n:=(ajV x n).trans (qm ciN x n).symm
theorem Yy(x):FU.BU (aQ x)=FN.BU x:=(Rt x).trans (Ru M5 x).symm
theorem aqY(x):FU.ab (aQ x)=aQ (FN.ab x):=(VZ x).trans (congrArg aQ (Ja VY x).symm)
theorem h_k(x):FU.k x=aQ (FN.k x):=rfl
theorem h_i(x):FU.i x=aQ (FN.i x):=(Gy x).trans (congrArg aQ (qm mA x 1).symm)
theorem h_q(x y):FU.q x y=aQ (FN.q x y):=(KQ x y).trans (congrArg aQ (qm mA x y).symm)
theorem jv(x)(k:UInt64->β):FU.fc x k=k x:=rfl
theorem sX(x)(k:Nat->β):FN.fc x k=k x:=ju x k
theorem uD(b)(x y):cond b (aQ x) (aQ y)=aQ (cond b x y):=by cases b<;>rfl
theorem aqZ(x y):oGt FU (aQ x) (aQ y)=oGt FN x y:=by unfold oGt;rw[acS]
theorem acT(x y):Jb FU (aQ x) (aQ y)=Jb FN x y:=by unfold Jb;rw[acS]
theorem Jd(x y):pO FU (aQ x) (aQ y)=pO FN x y:=by unfold pO;rw[acS]
theorem ajZ(x y):Yx FU (aQ x) (aQ y)=Yx FN x y:=by unfold Yx;rw[acT,Jd]
theorem Rv(x y z):xh FU (aQ x) (aQ y) (aQ z)=aQ (xh FN x y z):=by
 unfold xh;simp only[jv,sX,aqZ,uD]
theorem Yz(x y z):AP FU (aQ x) (aQ y) (aQ z)=aQ (AP FN x y z):=by
 unfold AP;simp only[jv,sX,acT,uD]
theorem YA(M R r g b):Gz FU (aQ M) (aQ R) (aQ r) (aQ g) (aQ b)=aQ (Gz FN M R r g b):=by
 unfold Gz;simp only[jv,sX,wO,acR,Jd,h_k,GA,uD,ajY]
theorem aj0(r g b):Dh FU (aQ r) (aQ g) (aQ b)=(Dh FN r g b).map up3:=by
 unfold Dh;simp only[jv,sX,Rv,Yz,Jd,wO,Yy,YA,acR,h_k];cases pO FN (AP FN r g b) (xh FN r g b)
 ·cases(FN.BU (xh FN r g b)||FN.BU (FN.sub (xh FN r g b) (AP FN r g b)))<;>rfl
 ·rfl
theorem aj1(r g b):AQ FU (aQ r) (aQ g) (aQ b)=(AQ FN r g b).map up3:=by
 unfold AQ;simp only[jv,sX,Rv,Yz,Jd,wO,Yy,YA,acR,h_k,GA,ajZ,uD];cases pO FN (AP FN r g b) (xh FN r g b)
 ·simp only[cond_false]
  generalize (FN.BU _||FN.BU _)=z;cases z<;>rfl
 ·rfl
theorem aj2(h:FN.AO x=true):FU.AO (aQ x)=true/\FU.tr (aQ x)=FN.tr x:=by
 have h:(fZ x&&(!(BR x)&&(b8 (gh x) 1075&&b8 (trN x) 1000000)))=true:=(Ru Yv x).symm.trans h;simp only[av,cQ]at h;have e:=ajU x h.1 h.2.1 h.2.2.1;have hb:=bP h.2.2.2;constructor
 ·show(cN (aQ x)&&(decide (0<=cq cC (aQ x))&&decide (cq cC (aQ x)<=1000000)))=true
  rw[acO h.1,e,decide_eq_true (by omega),decide_eq_true (by omega)];rfl
 ·show(cq cC (aQ x)).toNat=XS trN x
  rw[e,aR,Ja]
theorem acU(v p q t):∀k,BV (aQ v) (aQ p) (aQ q) (aQ t) k=up3 (BV v p q t k)
 |0=>rfl|1=>rfl|2=>rfl|3=>rfl|4=>rfl|_+5=>rfl
theorem aj3(e:Jc FN h s v=some r):Jc FU (aQ h) (aQ s) (aQ v)=some (up3 r):=by
 unfold Jc at e⊢;simp only[jv,sX,Jd,h_k,BW,wO]at e⊢;cases h0:pO FN s (FN.k 0)with
 |true=>rw[h0]at e;cases e;rfl
 |false=>
  rw[h0]at e;simp only[cond_false]at e⊢;cases h1:FN.AO (FN.mul h (FN.k DH))with
  |false=>rw[h1]at e;cases e
  |true=>
   obtain⟨t1,t2⟩:=aj2 h1;rw[h1]at e;rw[t1,t2];simp only[qJ,cond_false,h_i,wO,BW]at e⊢;rw[acU,<-af e]
theorem h_v(a b c):oV FU (aQ a) (aQ b) (aQ c)=aQ (oV FN a b c):=by
 unfold oV;simp only[jv,sX,ajY,acT,h_k,GA,BW,wO,uD]
theorem aj4(h l s):Di FU (aQ h) (aQ l) (aQ s)=up3 (Di FN h l s):=by
 unfold Di;simp only[jv,sX,Jd,ajZ,h_k,GA,BW,wO,uD,h_v];cases pO FN s (FN.k 0)<;>rfl
end
section
theorem gH(a b):xa a b=pO FU a b:=Df _
theorem GB(a b):(cA a b==some .lt)=Jb FU a b:=De _
theorem KX(a b):(cA a b==some .lt||cA a b==some .eq)=Yx FU a b:=by
 rw[GB,Df];rfl
theorem Dj(a b c):Ai a b c=xh FU a b c:=by
 unfold Ai fgt xh;simp only[jv,KV];rfl
theorem KY(a b c):LD a b c=AP FU a b c:=by
 unfold LD Pc AP;simp only[jv,De];rfl
theorem sY(h:FU.BU b=false):aE .Div (.aN a) (.aN b)=some (.aN (FU.dv a b)):=by
 show(if gQ b=true then none else some (D.aN (jS a b)))=_;rw[show gQ b=false from h];rfl
section
variable{T:ec}
def aK:bW:=uk "rgb_to_hsv"
def aB:List Stmt:=bo "rgb_to_hsv"
abbrev aI:Stmt:=ak 9 aB
abbrev YB:Stmt:=ak 0 (dG aI)
abbrev aSh(r g b M m R v s rc gc bc h:UInt64):cu:=[("r",.aN r),("g",.aN g),("b",.aN b),("maxc",.aN M),("minc",.aN m),("rangec",.aN R),("v",.aN v),("s",.aN s),("rc",.aN rc),("gc",.aN gc),("bc",.aN bc),("h",.aN h)]
theorem Je(r g b M m R v s rc gc bc h)(n):cO (c9 (Va T) aK [] 60 (Xa T aK [] n)) [ak 10 aB,ak 11 aB] (aSh r g b M m R v s rc gc bc h) []=some (.rt (.tup [.aN (FU.md (FU.dv h (aQ DH))),.aN s,.aN v])):=by
 refine fb (bZ (.aN (FU.md (FU.dv h (aQ DH)))) (by rfl')) ?_;exact df (dR _ (by rfl'))
theorem aj5(r g b)(x:UInt64×UInt64×UInt64)(e:Dh FU r g b=some x):Xa T aK [] 20 aB [("r",.aN r),("g",.aN g),("b",.aN b)] []=some (.rt (.tup [.aN x.1,.aN x.2.1,.aN x.2.2])):=by
 unfold Dh at e;simp only[jv]at e;rw[<-Dj,<-KY]at e;obtain⟨M,hM⟩:∃M,M=Ai r g b:=⟨_,rfl⟩;obtain⟨m,hm⟩:∃m,m=LD r g b:=⟨_,rfl⟩;rw[<-hM,<-hm]at e;refine fR (bs:=[ak 0 aB,ak 1 aB,ak 2 aB,ak 3 aB,ak 4 aB,ak 5 aB,ak 6 aB,ak 7 aB,ak 8 aB,ak 9 aB,ak 10 aB,ak 11 aB]) ?_;refine fb (bZ (.aN M) (tr (b:=cH .max [.aN r,.aN g,.aN b]) (by rw[hM];rfl))) ?_;refine fb (bZ (.aN m) (tr (b:=cH .min [.aN r,.aN g,.aN b]) (by rw[hm];rfl))) ?_;clear hM hm;refine fb (bZ (.aN (FU.sub M m)) (by rfl')) ?_;refine fb (bZ (.aN M) (by rfl')) ?_;generalize hR:FU.sub M m=R at e⊢;cases h0:pO FU m M with
 |true=>
  rw[h0]at e;cases e;refine fT (b:=[ak 0 (br (ak 4 aB))]) (tr (b:=some (xa m M)) (by rw[gH,h0])) (fR (bs:=[ak 0 (br (ak 4 aB))]) (df (dR _ (by rfl'))))
 |false=>
  rw[h0,cond_false]at e;cases hz:(FU.BU M||FU.BU R)with
  |true=>rw[hz]at e;cases e
  |false=>
   rw[hz,cond_false]at e;cases e;rw[mE]at hz;refine cM (b:=[]) (tr (b:=some (xa m M)) (by rw[gH,h0])) (fR (bs:=[]) rfl) ?_;refine fb (bZ (.aN (FU.dv R M)) (tr (sY hz.1))) ?_;refine fb (bZ (.aN (FU.dv (FU.sub M r) R)) (tr (sY (a:=FU.sub M r) hz.2))) ?_;refine fb (bZ (.aN (FU.dv (FU.sub M g) R)) (tr (sY (a:=FU.sub M g) hz.2))) ?_;refine fb (bZ (.aN (FU.dv (FU.sub M b) R)) (tr (sY (a:=FU.sub M b) hz.2))) ?_;unfold Gz;simp only[jv];generalize FU.dv R M=s;generalize FU.dv (FU.sub M r) R=rc;generalize FU.dv (FU.sub M g) R=gc;generalize FU.dv (FU.sub M b) R=bc;cases h1:pO FU r M with
   |true=>
    refine lR (b:=[ak 0 (br aI)]) (σ':=aSh r g b M m R M s rc gc bc (FU.sub bc gc)) (own':=[]) (tr (b:=some (xa r M)) (by rw[gH,h1])) ?_ (Je ..);exact fR (bs:=[ak 0 (br aI)]) (fb (bZ (.aN (FU.sub bc gc)) (by rfl')) (by rfl'))
   |false=>
    cases h2:pO FU g M with
    |true=>
     refine cM (b:=[YB]) (σ':=aSh r g b M m R M s rc gc bc (FU.sub (FU.add (aQ xH) rc) bc)) (own':=[]) (tr (b:=some (xa r M)) (by rw[gH,h1])) ?_ (Je ..);refine fR (bs:=[YB]) (lR (b:=[ak 0 (br YB)]) (σ':=aSh r g b M m R M s rc gc bc (FU.sub (FU.add (aQ xH) rc) bc)) (own':=[]) (tr (b:=some (xa g M)) (by rw[gH,h2])) ?_ rfl);exact fR (bs:=[ak 0 (br YB)]) (fb (bZ (.aN (FU.sub (FU.add (aQ xH) rc) bc)) (by rfl')) (by rfl'))
    |false=>
     refine cM (b:=[YB]) (σ':=aSh r g b M m R M s rc gc bc (FU.sub (FU.add (aQ c40) gc) rc)) (own':=[]) (tr (b:=some (xa r M)) (by rw[gH,h1])) ?_ (Je ..);refine fR (bs:=[YB]) (cM (b:=[ak 0 (dG YB)]) (σ':=aSh r g b M m R M s rc gc bc (FU.sub (FU.add (aQ c40) gc) rc)) (own':=[]) (tr (b:=some (xa g M)) (by rw[gH,h2])) ?_ rfl);exact fR (bs:=[ak 0 (dG YB)]) (fb (bZ (.aN (FU.sub (FU.add (aQ c40) gc) rc)) (by rfl')) (by rfl'))
end
end
section
section
variable{T:ec}
def bK:bW:=uk "rgb_to_hls"
def bB:List Stmt:=bo "rgb_to_hls"
abbrev bI:Stmt:=ak 10 bB
abbrev YC:Stmt:=ak 0 (dG bI)
abbrev bL:Stmt:=ak 6 bB
abbrev bS(r g b M m S R l s:UInt64):cu:=[("r",.aN r),("g",.aN g),("b",.aN b),("maxc",.aN M),("minc",.aN m),("sumc",.aN S),("rangec",.aN R),("l",.aN l),("s",.aN s)]
abbrev bSh(r g b M m S R l s rc gc bc h:UInt64):cu:=[("r",.aN r),("g",.aN g),("b",.aN b),("maxc",.aN M),("minc",.aN m),("sumc",.aN S),("rangec",.aN R),("l",.aN l),("s",.aN s),("rc",.aN rc),("gc",.aN gc),("bc",.aN bc),("h",.aN h)]
theorem Jf(r g b M m S R l s rc gc bc h)(n):cO (c9 (Va T) bK [] 60 (Xa T bK [] n)) [ak 11 bB,ak 12 bB] (bSh r g b M m S R l s rc gc bc h) []=some (.rt (.tup [.aN (FU.md (FU.dv h (aQ DH))),.aN l,.aN s])):=by
 refine fb (bZ (.aN (FU.md (FU.dv h (aQ DH)))) (by rfl')) ?_;exact df (dR _ (by rfl'))
theorem YD(r g b M m S R l s)(n)(hz:FU.BU R=false):cO (c9 (Va T) bK [] 60 (Xa T bK [] (n+2))) [ak 7 bB,ak 8 bB,ak 9 bB,ak 10 bB,ak 11 bB,ak 12 bB] (bS r g b M m S R l s) []=some (.rt (.tup [.aN (Gz FU M R r g b),.aN l,.aN s])):=by
 refine fb (bZ (.aN (FU.dv (FU.sub M r) R)) (tr (sY (a:=FU.sub M r) hz))) ?_;refine fb (bZ (.aN (FU.dv (FU.sub M g) R)) (tr (sY (a:=FU.sub M g) hz))) ?_;refine fb (bZ (.aN (FU.dv (FU.sub M b) R)) (tr (sY (a:=FU.sub M b) hz))) ?_;unfold Gz;simp only[jv];generalize FU.dv (FU.sub M r) R=rc;generalize FU.dv (FU.sub M g) R=gc;generalize FU.dv (FU.sub M b) R=bc;cases h1:pO FU r M with
 |true=>
  refine lR (b:=[ak 0 (br bI)]) (σ':=bSh r g b M m S R l s rc gc bc (FU.sub bc gc)) (own':=[]) (tr (b:=some (xa r M)) (by rw[gH,h1])) ?_ (Jf ..);exact fR (bs:=[ak 0 (br bI)]) (fb (bZ (.aN (FU.sub bc gc)) (by rfl')) (by rfl'))
 |false=>
  cases h2:pO FU g M with
  |true=>
   refine cM (b:=[YC]) (σ':=bSh r g b M m S R l s rc gc bc (FU.sub (FU.add (aQ xH) rc) bc)) (own':=[]) (tr (b:=some (xa r M)) (by rw[gH,h1])) ?_ (Jf ..);refine fR (bs:=[YC]) (lR (b:=[ak 0 (br YC)]) (σ':=bSh r g b M m S R l s rc gc bc (FU.sub (FU.add (aQ xH) rc) bc)) (own':=[]) (tr (b:=some (xa g M)) (by rw[gH,h2])) ?_ rfl);exact fR (bs:=[ak 0 (br YC)]) (fb (bZ (.aN (FU.sub (FU.add (aQ xH) rc) bc)) (by rfl')) (by rfl'))
  |false=>
   refine cM (b:=[YC]) (σ':=bSh r g b M m S R l s rc gc bc (FU.sub (FU.add (aQ c40) gc) rc)) (own':=[]) (tr (b:=some (xa r M)) (by rw[gH,h1])) ?_ (Jf ..);refine fR (bs:=[YC]) (cM (b:=[ak 0 (dG YC)]) (σ':=bSh r g b M m S R l s rc gc bc (FU.sub (FU.add (aQ c40) gc) rc)) (own':=[]) (tr (b:=some (xa g M)) (by rw[gH,h2])) ?_ rfl);exact fR (bs:=[ak 0 (dG YC)]) (fb (bZ (.aN (FU.sub (FU.add (aQ c40) gc) rc)) (by rfl')) (by rfl'))
theorem aj6(r g b)(x:UInt64×UInt64×UInt64)(e:AQ FU r g b=some x):Xa T bK [] 20 bB [("r",.aN r),("g",.aN g),("b",.aN b)] []=some (.rt (.tup [.aN x.1,.aN x.2.1,.aN x.2.2])):=by
 unfold AQ at e;simp only[jv]at e;rw[<-Dj,<-KY]at e;obtain⟨M,hM⟩:∃M,M=Ai r g b:=⟨_,rfl⟩;obtain⟨m,hm⟩:∃m,m=LD r g b:=⟨_,rfl⟩;rw[<-hM,<-hm]at e;refine fR (bs:=[ak 0 bB,ak 1 bB,ak 2 bB,ak 3 bB,ak 4 bB,ak 5 bB,ak 6 bB,ak 7 bB,ak 8 bB,ak 9 bB,ak 10 bB,ak 11 bB,ak 12 bB]) ?_;refine fb (bZ (.aN M) (tr (b:=cH .max [.aN r,.aN g,.aN b]) (by rw[hM];rfl))) ?_;refine fb (bZ (.aN m) (tr (b:=cH .min [.aN r,.aN g,.aN b]) (by rw[hm];rfl))) ?_;clear hM hm;refine fb (bZ (.aN (FU.add M m)) (by rfl')) ?_;refine fb (bZ (.aN (FU.sub M m)) (by rfl')) ?_;refine fb (bZ (.aN (FU.dv (FU.add M m) (aQ xH))) (by rfl')) ?_;generalize hR:FU.sub M m=R at e⊢;generalize hS:FU.add M m=S at e⊢;rw[show FU.k xH=aQ xH from rfl]at e;generalize hl:FU.dv S (aQ xH)=l at e⊢;cases h0:pO FU m M with
 |true=>
  rw[h0]at e;cases e;refine fT (b:=[ak 0 (br (ak 5 bB))]) (tr (b:=some (xa m M)) (by rw[gH,h0])) (fR (bs:=[ak 0 (br (ak 5 bB))]) (df (dR _ (by rfl'))))
 |false=>
  rw[h0,cond_false]at e;refine cM (b:=[]) (tr (b:=some (xa m M)) (by rw[gH,h0])) (fR (bs:=[]) rfl) ?_;rw[show FU.k Ac=aQ Ac from rfl]at e;cases h1:Yx FU l (aQ Ac)with
  |true=>
   rw[h1,cond_true]at e;cases hz:(FU.BU S||FU.BU R)with
   |true=>rw[hz]at e;cases e
   |false=>
    rw[hz,cond_false]at e;cases e;rw[mE]at hz;refine lR (b:=[ak 0 (br bL)]) (σ':=bS r g b M m S R l (FU.dv R S)) (own':=[]) (tr (b:=some (cA l (aQ Ac)==some .lt||cA l (aQ Ac)==some .eq)) (by rw[KX,h1])) ?_ (YD _ _ _ _ _ _ _ _ _ 17 hz.2);exact fR (bs:=[ak 0 (br bL)]) (fb (bZ (.aN (FU.dv R S)) (tr (sY hz.1))) (by rfl'))
  |false=>
   rw[h1,cond_false]at e;cases hz:(FU.BU (FU.sub (FU.sub (aQ xH) M) m)||FU.BU R)with
   |true=>rw[hz]at e;cases e
   |false=>
    rw[hz,cond_false]at e;cases e;rw[mE]at hz;refine cM (b:=[ak 0 (dG bL)]) (σ':=bS r g b M m S R l (FU.dv R (FU.sub (FU.sub (aQ xH) M) m))) (own':=[]) (tr (b:=some (cA l (aQ Ac)==some .lt||cA l (aQ Ac)==some .eq)) (by rw[KX,h1])) ?_ (YD _ _ _ _ _ _ _ _ _ 17 hz.2);exact fR (bs:=[ak 0 (dG bL)]) (fb (bZ (.aN (FU.dv R (FU.sub (FU.sub (aQ xH) M) m))) (tr (sY hz.1))) (by rfl'))
end
end
section
theorem GC{a b:Nat}(hb:0<b):aE .Mod (.int a) (.int b)=some (.int (a%b:Nat)):=by
 show dA (if(b:Int)≠0 then some (D.int ((a:Int).fmod b))else none) _=_;rw[if_pos (by omega),cy _ (by omega)];rfl
section
variable{T:ec}
def hK:bW:=uk "hsv_to_rgb"
def hB:List Stmt:=bo "hsv_to_rgb"
abbrev hS(h s v:UInt64)(i:Int)(f p q t:UInt64):cu:=[("h",.aN h),("s",.aN s),("v",.aN v),("i",.int i),("f",.aN f),("p",.aN p),("q",.aN q),("t",.aN t)]
theorem six{P:Nat->Prop}(h0:P 0)(h1:P 1)(h2:P 2)(h3:P 3)(h4:P 4)(h5:P 5):∀k,k<6->P k
 |0,_=>h0|1,_=>h1|2,_=>h2|3,_=>h3|4,_=>h4|5,_=>h5
theorem acV(h s v:UInt64)(f p q t:UInt64)(n:Nat):∀(k:Nat),k<6->cO (c9 (Va T) hK [] 60 (Xa T hK [] (n+1))) [ak 7 hB,ak 8 hB,ak 9 hB,ak 10 hB,ak 11 hB,ak 12 hB] (hS h s v k f p q t) []=some (.rt (.tup [.aN (BV v p q t k).1,.aN (BV v p q t k).2.1,.aN (BV v p q t k).2.2])):=
 six (by rfl') (by rfl') (by rfl') (by rfl') (by rfl') (by rfl')
theorem aj7(h s v)(r:UInt64×UInt64×UInt64)(e:Jc FU h s v=some r):Xa T hK [] 20 hB [("h",.aN h),("s",.aN s),("v",.aN v)] []=some (.rt (.tup [.aN r.1,.aN r.2.1,.aN r.2.2])):=by
 unfold Jc at e;simp only[jv]at e;refine fR (bs:=[ak 0 hB,ak 1 hB,ak 2 hB,ak 3 hB,ak 4 hB,ak 5 hB,ak 6 hB,ak 7 hB,ak 8 hB,ak 9 hB,ak 10 hB,ak 11 hB,ak 12 hB]) ?_;rw[show FU.k 0=aQ 0 from rfl,show FU.k DH=aQ DH from rfl,show FU.k Dg=aQ Dg from rfl]at e;cases h0:pO FU s (aQ 0)with
 |true=>
  rw[h0]at e;cases e;exact fT (b:=[ak 0 (br (ak 0 hB))]) (tr (b:=some (xa s (aQ 0))) (by rw[gH,h0])) (fR (bs:=[ak 0 (br (ak 0 hB))]) (df (dR _ (by rfl'))))
 |false=>
  rw[h0,cond_false]at e;refine cM (b:=[]) (tr (b:=some (xa s (aQ 0))) (by rw[gH,h0])) (fR (bs:=[]) rfl) ?_;generalize hx:FU.mul h (aQ DH)=x at e;cases h1:FU.AO x with
  |false=>rw[h1]at e;cases e
  |true=>
   rw[h1,qJ,cond_false]at e;have h1:(cN x&&(decide (0<=cq cC x)&&decide (cq cC x<=1000000)))=true:=h1;simp only[av,decide_eq_true_eq]at h1;have hi:cq cC x=((FU.tr x:Nat):Int):=by
    show _=(((cq cC x).toNat:Nat):Int)
    omega
   generalize hm:FU.tr x=i at e hi;have hil:i<=1000000:=by omega
   have hx2:cH .int [.aN x]=some (.int (i:Int)):=by
    show(if cN x=true then some (D.int (cq cC x))else none)=_;rw[if_pos h1.1,hi]
   refine fb (bZ (.int (i:Int)) (tr (b:=cH .int [.aN (FU.mul h (aQ DH))]) (by rw[hx];exact hx2))) ?_;have hs:aE .Sub (.aN (FU.mul h (aQ DH))) (.int (i:Int))=some (.aN (FU.sub x (FU.i i))):=by
    show(if sm (i:Int)=true then some (D.aN (lU (FU.mul h (aQ DH)) (eE (i:Int))))else none)=_;rw[if_pos (kz (by omega) (by omega)),hx];rfl
   refine fb (bZ (.aN (FU.sub x (FU.i i))) (tr hs)) ?_;generalize FU.sub x (FU.i i)=f at e⊢;refine fb (bZ (.aN (FU.mul v (FU.sub (aQ Dg) s))) (by rfl')) ?_;refine fb (bZ (.aN (FU.mul v (FU.sub (aQ Dg) (FU.mul s f)))) (by rfl')) ?_;refine fb (bZ (.aN (FU.mul v (FU.sub (aQ Dg) (FU.mul s (FU.sub (aQ Dg) f))))) (by rfl')) ?_;generalize FU.mul v (FU.sub (aQ Dg) s)=p at e⊢;generalize FU.mul v (FU.sub (aQ Dg) (FU.mul s f))=q at e⊢;generalize FU.mul v (FU.sub (aQ Dg) (FU.mul s (FU.sub (aQ Dg) f)))=t at e⊢;have h6:aE .Mod (.int (i:Int)) (.int 6)=some (.int ((i%6:Nat):Int)):=by
    have:=GC (a:=i) (b:=6) (by omega);exact this
   have hk:i%6<6:=dJ _ (by decide);generalize i%6=k at e h6 hk;refine fb (bZ (.int (k:Int)) (tr h6)) ?_;have:=acV (T:=T) h s v f p q t 18 k hk;refine xN (b:=cO (c9 (Va T) hK [] 60 (Xa T hK [] 19)) [ak 7 hB,ak 8 hB,ak 9 hB,ak 10 hB,ak 11 hB,ak 12 hB] (hS h s v k f p q t) []) (by rfl') (this.trans ?_);rw[af e]
end
end
section
theorem aq1:UX "ONE_THIRD"=some (.aN (aQ V3)):=by rfl'
theorem aq2:UX "ONE_SIXTH"=some (.aN (aQ c16)):=by rfl'
theorem aj8:UX "TWO_THIRD"=some (.aN (aQ Yw)):=by rfl'
section
variable{T:ec}
def cK:bW:=uk "_v"
def cB:List Stmt:=bo "_v"
theorem aj9(hI:my T)(m1 m2 u0):Xa T cK [] 20 cB [("m1",.aN m1),("m2",.aN m2),("hue",.aN u0)] []=some (.rt (.aN (oV FU m1 m2 u0))):=by
 unfold oV;rw[jv];refine fR (bs:=[ak 0 cB,ak 1 cB,ak 2 cB,ak 3 cB,ak 4 cB]) ?_;refine fb (bZ (.aN (FU.md u0)) (by rfl')) ?_;generalize FU.md u0=u;rw[show FU.k DH=aQ DH from rfl,show FU.k c16=aQ c16 from rfl,show FU.k Ac=aQ Ac from rfl,show FU.k Yw=aQ Yw from rfl];have t1:(T.gl "ONE_SIXTH").bind (λd=>cmp .Lt (.aN u) d)=some (Jb FU u (aQ c16)):=by
  rw[hI.gl,aq2];show some (cA u (aQ c16)==some .lt)=_;rw[GB]
 have t3:(T.gl "TWO_THIRD").bind (λd=>cmp .Lt (.aN u) d)=some (Jb FU u (aQ Yw)):=by
  rw[hI.gl,aj8];show some (cA u (aQ Yw)==some .lt)=_;rw[GB]
 cases h1:Jb FU u (aQ c16)with
 |true=>
  rw[h1]at t1;exact fT (b:=[ak 0 (br (ak 1 cB))]) (tr t1) (fR (bs:=[ak 0 (br (ak 1 cB))]) (df (dR _ (by rfl'))))
 |false=>
  rw[h1]at t1;refine cM (b:=[]) (tr t1) (fR (bs:=[]) rfl) ?_;cases h2:Jb FU u (aQ Ac)with
  |true=>exact fT (b:=[ak 0 (br (ak 2 cB))]) (tr (b:=some (cA u (aQ Ac)==some .lt)) (by rw[GB,h2])) (fR (bs:=[ak 0 (br (ak 2 cB))]) (df (dR _ (by rfl'))))
  |false=>
   refine cM (b:=[]) (tr (b:=some (cA u (aQ Ac)==some .lt)) (by rw[GB,h2])) (fR (bs:=[]) rfl) ?_;cases h3:Jb FU u (aQ Yw)with
   |true=>
    rw[h3]at t3;refine fT (b:=[ak 0 (br (ak 3 cB))]) (tr t3) (fR (bs:=[ak 0 (br (ak 3 cB))]) (df (dR _ (tr (b:=(((T.gl "TWO_THIRD").bind λd=>aE .Sub d (.aN u)).bind λd=>aE .Mult (.aN (FU.sub m2 m1)) d).bind (λd=>aE .Mult d (.aN (aQ DH))) |>.bind λd=>aE .Add (.aN m1) d) ?_))));rw[hI.gl,aj8];rfl
   |false=>
    rw[h3]at t3;refine cM (b:=[]) (tr t3) (fR (bs:=[]) rfl) ?_;exact df (dR _ (by rfl'))
def dK2:bW:=uk "hls_to_rgb"
def GD:List Stmt:=bo "hls_to_rgb"
abbrev dI3:Stmt:=ak 1 GD
def VS(T:ec):Prop:=∀a b c:UInt64,T.fn "_v" [.aN a,.aN b,.aN c]=some (.aN (oV FU a b c))
theorem Rw(hI:my T)(hV:VS T)(h l s m2:UInt64)(n:Nat):cO (c9 (Va T) dK2 [] 60 (Xa T dK2 [] n)) [ak 2 GD,ak 3 GD] [("h",.aN h),("l",.aN l),("s",.aN s),("m2",.aN m2)] []=
 some (.rt (.tup [.aN (oV FU (FU.sub (FU.mul (aQ xH) l) m2) m2 (FU.add h (aQ V3))),.aN (oV FU (FU.sub (FU.mul (aQ xH) l) m2) m2 h),.aN (oV FU (FU.sub (FU.mul (aQ xH) l) m2) m2 (FU.sub h (aQ V3)))])):=by
 refine fb (bZ (.aN (FU.sub (FU.mul (aQ xH) l) m2)) (by rfl')) ?_;generalize FU.sub (FU.mul (aQ xH) l) m2=m1;refine df (dR _ (tr (b:=((((((((T.gl "ONE_THIRD").bind λd=>aE .Add (.aN h) d).bind λd=>some [d]).bind λds=>some (.aN m2::ds)).bind λds=>some (.aN m1::ds)).bind λds=>T.fn "_v" ds).bind λa=>((T.fn "_v" [.aN m1,.aN m2,.aN h]).bind λb=>(((((((T.gl "ONE_THIRD").bind λd=>aE .Sub (.aN h) d).bind λd=>some [d]).bind λds=>some (.aN m2::ds)).bind λds=>some (.aN m1::ds)).bind λds=>T.fn "_v" ds).bind λc=>some [c]).bind λds=>some (b::ds)).bind λds=>some (a::ds)).bind λds=>if ds.length<=ei then some (.tup ds)else none)) ?_));rw[hI.gl,aq1];show(((T.fn "_v" [.aN m1,.aN m2,.aN (FU.add h (aQ V3))]).bind λa=>((T.fn "_v" [.aN m1,.aN m2,.aN h]).bind λb=>((T.fn "_v" [.aN m1,.aN m2,.aN (FU.sub h (aQ V3))]).bind λc=>some [c]).bind λds=>some (b::ds)).bind λds=>some (a::ds)).bind λds=>if ds.length<=ei then some (D.tup ds)else none)=_;rw[hV,hV,hV,ag,ag,ag,ag,ag,ag,if_pos (by rw[d9];show(3:Nat)<=1048576;decide)]
theorem aka(hI:my T)(hV:VS T)(h l s:UInt64):Xa T dK2 [] 20 GD [("h",.aN h),("l",.aN l),("s",.aN s)] []=some (.rt (.tup [.aN (Di FU h l s).1,.aN (Di FU h l s).2.1,.aN (Di FU h l s).2.2])):=by
 unfold Di;simp only[jv];rw[show FU.k 0=aQ 0 from rfl,show FU.k xH=aQ xH from rfl,show FU.k Ac=aQ Ac from rfl,show FU.k Dg=aQ Dg from rfl,show FU.k V3=aQ V3 from rfl];refine fR (bs:=[ak 0 GD,ak 1 GD,ak 2 GD,ak 3 GD]) ?_;cases h0:pO FU s (aQ 0)with
 |true=>exact fT (b:=[ak 0 (br (ak 0 GD))]) (tr (b:=some (xa s (aQ 0))) (by rw[gH,h0])) (fR (bs:=[ak 0 (br (ak 0 GD))]) (df (dR _ (by rfl'))))
 |false=>
  refine cM (b:=[]) (tr (b:=some (xa s (aQ 0))) (by rw[gH,h0])) (fR (bs:=[]) rfl) ?_;cases h1:Yx FU l (aQ Ac)with
  |true=>
   refine lR (b:=[ak 0 (br dI3)]) (σ':=[("h",.aN h),("l",.aN l),("s",.aN s),("m2",.aN (FU.mul l (FU.add (aQ Dg) s)))]) (own':=[]) (tr (b:=some (cA l (aQ Ac)==some .lt||cA l (aQ Ac)==some .eq)) (by rw[KX,h1])) ?_ (Rw hI hV _ _ _ _ _);exact fR (bs:=[ak 0 (br dI3)]) (fb (bZ (.aN (FU.mul l (FU.add (aQ Dg) s))) (by rfl')) (by rfl'))
  |false=>
   refine cM (b:=[ak 0 (dG dI3)]) (σ':=[("h",.aN h),("l",.aN l),("s",.aN s),("m2",.aN (FU.sub (FU.add l s) (FU.mul l s)))]) (own':=[]) (tr (b:=some (cA l (aQ Ac)==some .lt||cA l (aQ Ac)==some .eq)) (by rw[KX,h1])) ?_ (Rw hI hV _ _ _ _ _);exact fR (bs:=[ak 0 (dG dI3)]) (fb (bZ (.aN (FU.sub (FU.add l s) (FU.mul l s))) (by rfl')) (by rfl'))
end
def t3(x:UInt64×UInt64×UInt64):D:=.tup [.aN x.1,.aN x.2.1,.aN x.2.2]
structure CS(T:ec):Prop where
 hsv:∀r g b x,Dh FU r g b=some x->T.fn "rgb_to_hsv" [.aN r,.aN g,.aN b]=some (t3 x)
 hls:∀r g b x,AQ FU r g b=some x->T.fn "rgb_to_hls" [.aN r,.aN g,.aN b]=some (t3 x)
 rgb:∀h s v x,Jc FU h s v=some x->T.fn "hsv_to_rgb" [.aN h,.aN s,.aN v]=some (t3 x)
 rgl:∀h l s,T.fn "hls_to_rgb" [.aN h,.aN l,.aN s]=some (t3 (Di FU h l s))
theorem YE(hp:∀f,(f==("_int2digits":Str))=false->(f==("_digits2int":Str))=false->(f==("_law_refused":Str))=false->(f==("_law_beaten":Str))=false->prim f=none)(r:Nat):CS (Tn prim (r+2)):=
 ⟨λr g b x e=>fq (["r","g","b"]:List Str) (hp _ (by decide) (by decide) (by decide) (by decide)) (aj5 r g b x e),λr g b x e=>fq (["r","g","b"]:List Str) (hp _ (by decide) (by decide) (by decide) (by decide)) (aj6 r g b x e),
  λh s v x e=>fq (["h","s","v"]:List Str) (hp _ (by decide) (by decide) (by decide) (by decide)) (aj7 h s v x e),
  λh l s=>fq (["h","l","s"]:List Str) (hp _ (by decide) (by decide) (by decide) (by decide)) (aka (sM prim _) (λa b c=>fq (["m1","m2","hue"]:List Str) (hp _ (by decide) (by decide) (by decide) (by decide)) (aj9 (sM prim r) a b c)) h l s)⟩
end
section
def fc3(x:Nat×Nat×Nat)(k:Nat->Nat->Nat->β):β:=zI x.1 λa=>zI x.2.1 λb=>zI x.2.2 λc=>k a b c
def YF(x:Option (Nat×Nat×Nat))(k:Nat->Nat->Nat->Bool):Bool:=match x with
 |some y=>fc3 y k
 |none=>false
def onN(x:Option Nat)(n:Nat):Bool:=match x with
 |some y=>bO y n
 |none=>false
section
variable{α:Type}(o:FO α)
def BX(c:α×α×α)(d:α×α):Option Nat:=
 o.fc (o.mul (o.i 64) c.1) λx=>o.fc (o.add x (o.q 1 2)) λy=>cond (not (o.AO y)) none<|
 o.fc (o.ab (o.sub x (o.i (o.tr y)))) λe1=>o.fc (o.ab (o.sub c.2.1 d.1)) λe2=>o.fc (o.ab (o.sub c.2.2 d.2)) λe3=>
 o.fc (o.mul (xh o e1 e2 e3) (o.i 1048576)) λz=>cond (bO (o.ci z 1) 0) (some (o.tr y%64)) none
end
def ckA(m h0 s1 v1 l1 t1:Nat):Bool:=zI (I8 (mA m 1) h0) λhh=>YF (Jc FN hh s1 v1) λr g b=>
 and (YF (Dh FN r g b) λx y z=>and (pO FN x h0) (and (pO FN y s1) (pO FN z v1))) (YF (AQ FN r g b) λx y z=>and (and (bO x h0) (and (bO y l1) (bO z t1))) (and (pO FN x h0) (and (pO FN y l1) (pO FN z t1))))
def ck1(h0 s1 v1 l1 t1:Nat):Bool:=and (and (fZ h0) (and (and (fZ s1) (fZ v1)) (and (fZ l1) (fZ t1)))) (and (ckA 0 h0 s1 v1 l1 t1) (and (ckA 1 h0 s1 v1 l1 t1) (ckA 2 h0 s1 v1 l1 t1)))
def ck0(st sh va:Nat):Bool:=zI (va*(8 - sh)) λli=>zI (mA st 64) λh0=>zI (mA sh 4) λs1=>zI (mA va 4) λv1=>zI (mA li 32) λl1=>zI (mA (sh*va) (min li (32 - li))) λt1=>ck1 h0 s1 v1 l1 t1
def ckS(st:Nat):Bool:=[1,2,3,4].all λsh=>[1,2,3,4].all λva=>ck0 st sh va
def ckR(lo:Nat):Bool:=(aM 16).all λa=>zI (lo+a) ckS
def SG(a b:Nat):Nat:=cond (b8 a b) (mA (b - a) 64) (Rr (mA (a - b) 64))
def ckD:Bool:=(aM 64).all λa=>zI a λa=>zI (mA a 64) λx=>(aM 64).all λb=>zI b λb=>bO (M4 (mA b 64) x) (SG a b)
def uE:List Nat:=[4,5,6,7,8,10,12,14,15,16,18,20,21,24,28].map λn=>mA n 32
def zJ:List Nat:=[(1,7),(1,3),(3,5),(1,1),(3,11),(3,7)].map λx=>mA x.1 x.2
def ckH(h l t n:Nat):Bool:=fc3 (Di FN h l t) λr g b=>YF (AQ FN r g b) λx y z=>onN (BX FN (x,y,z) (l,t)) n
def YG(a b:Nat):Bool:=zI (SG a b) λh=>zI (qN (64+b - a) 64) λn=>uE.all λl=>zI l λl=>zJ.all λt=>zI t λt=>ckH h l t n
def ckM:Bool:=[1,2,3,4].all λsh=>[1,2,3,4].all λva=>and (uE.contains (mA (va*(8 - sh)) 32)) (zJ.contains (mA (sh*va) (min (va*(8 - sh)) (32 - va*(8 - sh)))))
end
section
def evO:List (Option D)->Option (List D)
 |[]=>some []
 |x::xs=>x.bind λd=>(evO xs).bind λds=>some (d::ds)
def M6(xs:List (Option D)):Option D:=(evO xs).bind λds=>if ds.length<=ei then some (.tup ds)else none
def YH(T:ec)(f:Str)(xs:List (Option D)):Option D:=(evO xs).bind λds=>T.fn f ds
theorem acW(h:BX FN (a,b,c) (d,e)=some n):BX FU (aQ a,aQ b,aQ c) (aQ d,aQ e)=some n:=by
 unfold BX at h⊢;simp only[jv,sX,h_i,BW,h_q,GA]at h⊢;cases h1:FN.AO (FN.add (FN.mul (FN.i 64) a) (FN.q 1 2))with
 |false=>rw[h1]at h;cases h
 |true=>
  obtain⟨t1,t2⟩:=aj2 h1;rw[h1]at h;rw[t1,t2];simp only[qJ,cond_false,wO,aqY,Rv,BW,aqX]at h⊢;exact h
section
variable{T:ec}
theorem acX(h l:UInt64):Xa T dK2 [] 20 GD [("h",.aN h),("l",.aN l),("s",.int 0)] []=some (.rt (t3 (l,l,l))):=by
 refine fR (bs:=[ak 0 GD,ak 1 GD,ak 2 GD,ak 3 GD]) ?_;exact fT (b:=[ak 0 (br (ak 0 GD))]) (by rfl') (fR (bs:=[ak 0 (br (ak 0 GD))]) (df (dR _ (by rfl'))))
def SH:bW:=uk "_law_colours"
def cB4:List Stmt:=bo "_law_colours"
def cF:Stmt:=ak 1 cB4
def KZ:List Stmt:=br cF
abbrev C9:=D×D×D×D×D×D×D×D×D×D
def cS0(heap count:Int)(told:List D):cu:=[("heap",.int heap),("count",.int count),("told",.lst told)]
def cS(o:Option C9)(heap count:Int)(told:List D):cu:=match o with
 |none=>cS0 heap count told
 |some (one,ti,va,sh,hu,li,gr,r,g,b)=>cS0 heap count told++([("one",one),("tints",ti),("value",va),("share",sh),("hue",hu),("light",li),("grey",gr),("red",r),("green",g),("blue",b)]:cu)
theorem acY(o:Option C9)(heap count told)(one):(fg SH (iM cF) (.int one) (cS o heap count told,["told"])).isSome=true:=by
 rcases o with _|⟨x1,x2,x3,x4,x5,x6,x7,x8,x9,x0⟩<;>rfl'
theorem V4(o:Option C9)(heap count one ti sh va li:Int)(h0 s1 v1 gr t1 r g b:UInt64)(told:List D)(x:D)(n)
(e0:(aE .Pow (.int 1024) (.int one)).bind (λd=>aE .FloorDiv (.int heap) d)=some (.int ti))(e1:(aE .Mod (.int ti) (.int 64)).bind (λd=>aE .Div d (.int 64))=some (.aN h0))
(e2:1+(ti.fdiv 64).fmod 4=sh)(e3:1+(ti.fdiv 256).fmod 4=va)(e4:aE .Mult (.int va) (.int (8 - sh))=some (.int li))(e5:aE .Div (.int li) (.int 32)=some (.aN gr))
(e6:aE .Div (.int sh) (.int 4)=some (.aN s1))(e7:aE .Div (.int va) (.int 4)=some (.aN v1))(e8:(aE .Mult (.int sh) (.int va)).bind (λa=>(cH .min [.int li,.int (32 - li)]).bind λb=>aE .Div a b)=some (.aN t1))
(f1:YH T "hsv_to_rgb" [(aE .Mod (.int one) (.int 3)).bind λd=>aE .Add d (.aN h0),some (.aN s1),some (.aN v1)]=some (t3 (r,g,b)))
(f2:T.fn "rgb_to_hls" [.aN r,.aN g,.aN b]=some x)(f3:∃y,T.fn "rgb_to_hsv" [.aN r,.aN g,.aN b]=some y/\cmp .NotEq y (t3 (h0,s1,v1))=some false)
(f4:(fY (.lst (told++[x])) one).bind (λa=>cmp .NotEq a (t3 (h0,gr,t1)))=some false)
(f5:(((T.fn "hls_to_rgb" [.aN h0,.aN gr,.int 0]).bind λa=>(T.fn "rgb_to_hls" [.aN gr,.aN gr,.aN gr]).bind λb=>aE .Add a b).bind λa=>(T.fn "rgb_to_hsv" [.aN gr,.aN gr,.aN gr]).bind λb=>aE .Add a b).bind (λa=>cmp .NotEq a (.tup [.aN gr,.aN gr,.aN gr,.int 0,.aN gr,.int 0,.int 0,.int 0,.aN gr]))=some false)
(hl:told.length+1<=ei):
 Xa T SH ["told"] (n+2) KZ (g1 (fg SH (iM cF) (.int one) (cS o heap count told,["told"]))) (g2 (fg SH (iM cF) (.int one) (cS o heap count told,["told"])))=
  some (.nx (cS (some (.int one,.int ti,.int va,.int sh,.aN h0,.int li,.aN gr,.aN r,.aN g,.aN b)) heap count (told++[x])) ["told"]):=by
 have fX:=d9;have l3:∀a b c:D,(if[a,b,c].length<=ei then some (D.tup [a,b,c])else none)=some (.tup [a,b,c]):=λa b c=>if_pos (by rw[fX];show(3:Nat)<=1048576;decide);have DF:cS (some (.int one,.int ti,.int va,.int sh,.aN h0,.int li,.aN gr,.aN r,.aN g,.aN b)) heap count (told++[x])=cS0 heap count (told++[x])++([("one",.int one),("tints",.int ti),("value",.int va),("share",.int sh),("hue",.aN h0),("light",.int li),("grey",.aN gr),("red",.aN r),("green",.aN g),("blue",.aN b)]:cu):=rfl;rw[DF];rcases o with _|⟨x1,x2,x3,x4,x5,x6,x7,x8,x9,x0⟩
 all_goals
  refine fR (bs:=[ak 0 KZ,ak 1 KZ,ak 2 KZ,ak 3 KZ,ak 4 KZ,ak 5 KZ,ak 6 KZ,ak 7 KZ]) ?_;refine fb (bZ (.int ti) (tr e0)) ?_;refine fb (mN ["hue","share","value"] [Aa 0 (ak 1 KZ),Aa 1 (ak 1 KZ),Aa 2 (ak 1 KZ)] (ej (nW (d:=.aN h0) (tr e1)) (ej (nW (d:=.int sh) (tr (b:=some (.int (1+(ti.fdiv 64).fmod 4))) (by rw[e2]))) (ej (nW (d:=.int va) (tr (b:=some (.int (1+(ti.fdiv 256).fmod 4))) (by rw[e3]))) mM)))) ?_;refine fb (bZ (.int li) (tr e4)) ?_;refine fb (bZ (.aN gr) (tr e5)) ?_;refine fb (mO (t3 (r,g,b),false) (nW (d:=t3 (r,g,b)) (tr (b:=YH T "hsv_to_rgb" [(aE .Mod (.int one) (.int 3)).bind λd=>aE .Add d (.aN h0),aE .Div (.int sh) (.int 4),aE .Div (.int va) (.int 4)]) (by rw[e6,e7];exact f1)))) ?_;refine fb (CX (ds:=told) (nW (d:=x) (tr f2)) hl) ?_;refine cM (b:=[]) (tr (b:=X7 ((T.fn "rgb_to_hsv" [.aN r,.aN g,.aN b]).bind λa=>(M6 [some (.aN h0),aE .Div (.int sh) (.int 4),aE .Div (.int va) (.int 4)]).bind λy=>cmp .NotEq a y)
   (X7 ((fY (.lst (told++[x])) one).bind λa=>(M6 [some (.aN h0),some (.aN gr),(aE .Mult (.int sh) (.int va)).bind λa=>(cH .min [.int li,.int (32 - li)]).bind λb=>aE .Div a b]).bind λy=>cmp .NotEq a y) (some false))) ?_) (fR (bs:=[]) rfl) ?_
  ·obtain⟨y,y1,y2⟩:=f3
   have u1:M6 [some (.aN h0),aE .Div (.int sh) (.int 4),aE .Div (.int va) (.int 4)]=some (t3 (h0,s1,v1)):=by rw[e6,e7];exact l3 _ _ _
   have u2:M6 [some (.aN h0),some (.aN gr),(aE .Mult (.int sh) (.int va)).bind λa=>(cH .min [.int li,.int (32 - li)]).bind λb=>aE .Div a b]=some (t3 (h0,gr,t1)):=by rw[e8];exact l3 _ _ _
   rw[y1,ag,u1,u2,ag,y2];refine xN (b:=X7 ((fY (.lst (told++[x])) one).bind λa=>cmp .NotEq a (t3 (h0,gr,t1))) (some false)) rfl ?_;rw[f4];rfl
  refine cM (b:=[]) (tr (b:=((((T.fn "hls_to_rgb" [.aN h0,.aN gr,.int 0]).bind λa=>(T.fn "rgb_to_hls" [.aN gr,.aN gr,.aN gr]).bind λb=>aE .Add a b).bind λa=>(T.fn "rgb_to_hsv" [.aN gr,.aN gr,.aN gr]).bind λb=>aE .Add a b)).bind λa=>(M6 [some (.aN gr),some (.aN gr),some (.aN gr),some (.int 0),some (.aN gr),some (.int 0),some (.int 0),some (.int 0),some (.aN gr)]).bind λy=>cmp .NotEq a y) ?_) (fR (bs:=[]) rfl) (by rfl');have u3:M6 [some (.aN gr),some (.aN gr),some (.aN gr),some (.int 0),some (.aN gr),some (.int 0),some (.int 0),some (.int 0),some (.aN gr)]=some (.tup [.aN gr,.aN gr,.aN gr,.int 0,.aN gr,.int 0,.int 0,.int 0,.aN gr]):=by
   refine xN (b:=if 9<=ei then some (D.tup [.aN gr,.aN gr,.aN gr,.int 0,.aN gr,.int 0,.int 0,.int 0,.aN gr])else none) rfl (if_pos (by rw[fX];decide))
  rw[u3];exact f5
def aK4:bW:=uk "_law_ahead"
def aB4:List Stmt:=bo "_law_ahead"
theorem acZ(f0 f1 f2 s0 s1 s2 r g b a b' c:UInt64)(n:Nat)(q1:T.fn "hls_to_rgb" [.aN (FU.sub s0 f0),.aN f1,.aN s2]=some (t3 (r,g,b)))(q2:T.fn "rgb_to_hls" [.aN r,.aN g,.aN b]=some (t3 (a,b',c)))(h:BX FU (a,b',c) (f1,s2)=some n):
 Xa T aK4 [] 20 aB4 [("first",t3 (f0,f1,f2)),("second",t3 (s0,s1,s2))] []=some (.rt (.int n)):=by
 unfold BX at h;simp only[jv]at h;generalize hx:FU.mul (FU.i 64) a=x at h;generalize hy:FU.add x (FU.q 1 2)=y at h;cases h1:FU.AO y with
 |false=>rw[h1]at h;cases h
 |true=>
  rw[h1,qJ,cond_false]at h;have h1:(cN y&&(decide (0<=cq cC y)&&decide (cq cC y<=1000000)))=true:=h1;simp only[av,decide_eq_true_eq]at h1;have hi:cq cC y=((FU.tr y:Nat):Int):=by
   show _=(((cq cC y).toNat:Nat):Int)
   omega
  generalize FU.tr y=i at h hi;have hil:i<=1000000:=by omega
  have hx2:cH .int [.aN y]=some (.int (i:Int)):=by
   show(if cN y=true then some (D.int (cq cC y))else none)=_;rw[if_pos h1.1,hi]
  have hs:aE .Sub (.aN x) (.int (i:Int))=some (.aN (FU.sub x (FU.i i))):=by
   show(if sm (i:Int)=true then some (D.aN (lU x (eE (i:Int))))else none)=_;rw[if_pos (kz (by omega) (by omega))];rfl
  rw[<-Dj]at h;generalize FU.sub x (FU.i i)=w at h hs;cases hz:bO (FU.ci (FU.mul (Ai (FU.ab w) (FU.ab (FU.sub b' f1)) (FU.ab (FU.sub c s2))) (FU.i 1048576)) 1) 0 with
  |false=>rw[hz]at h;cases h
  |true=>
   rw[hz,cond_true]at h;cases h;have hge:cmp .GtE (.aN (FU.mul (Ai (FU.ab w) (FU.ab (FU.sub b' f1)) (FU.ab (FU.sub c s2))) (FU.i 1048576))) (.int 1)=some false:=by
    show some (fw _ 1==some .gt||fw _ 1==some .eq)=_;have hq:mD (fw (FU.mul (Ai (FU.ab w) (FU.ab (FU.sub b' f1)) (FU.ab (FU.sub c s2))) (FU.i 1048576)) 1)=0:=bE hz;rw[KV,Df,hq];rfl
   have hm:aE .Mod (.int (i:Int)) (.int 64)=some (.int ((i%64:Nat):Int)):=by
    have:=GC (a:=i) (b:=64) (by omega);exact this
   refine fR (bs:=[ak 0 aB4,ak 1 aB4,ak 2 aB4,ak 3 aB4]) ?_;refine fb (mO (t3 (r,g,b),false) (nW (d:=t3 (r,g,b)) (tr q1))) ?_;refine fb (mO (t3 (a,b',c),false) (nW (d:=t3 (a,b',c)) (tr q2))) ?_;refine fb (bZ (.int (i:Int)) (tr (b:=cH .int [.aN (FU.add (FU.mul (FU.i 64) a) (FU.q 1 2))]) (by rw[hx,hy];exact hx2))) ?_;refine df (dR _ (tr (b:=((((((aE .Sub (.aN (FU.mul (FU.i 64) a)) (.int (i:Int))).bind λd=>some [d]).bind λds=>cH .abs ds).bind λd1=>some [d1,.aN (FU.ab (FU.sub b' f1)),.aN (FU.ab (FU.sub c s2))]).bind λds=>cH .max ds).bind λm=>aE .Mult m (.int 1048576)).bind (λz=>cmp .GtE z (.int 1)) |>.bind λc=>if c=true then some (.int (-1))else aE .Mod (.int (i:Int)) (.int 64)) ?_));have hmul:∀m:UInt64,aE .Mult (.aN m) (.int 1048576)=some (.aN (FU.mul m (FU.i 1048576))):=λm=>by
    show dA (if sm 1048576=true then some (D.aN (hO m (eE 1048576)))else none) _=_;rw[if_pos (kz (by decide) (by decide))];rfl
   rw[hx,hs,hm,ag,ag,show cH .abs [.aN w]=some (.aN (FU.ab w))from rfl,ag,ag,
    show cH .max [.aN (FU.ab w),.aN (FU.ab (FU.sub b' f1)),.aN (FU.ab (FU.sub c s2))]=some (.aN (Ai (FU.ab w) (FU.ab (FU.sub b' f1)) (FU.ab (FU.sub c s2))))from rfl,ag,hmul,ag,hge]
   rfl
end
end
section
theorem nM(h:YF x k=true):∃a b c,x=some (a,b,c)/\k a b c=true:=by
 unfold YF at h;split at h
 ·rename_i y
  obtain⟨a,b,c⟩:=y;unfold fc3 at h;simp only[ju]at h;exact⟨a,b,c,rfl,h⟩
 ·cases h
theorem Rx(h:onN x n=true):x=some n:=by
 unfold onN at h;split at h
 ·rw[bE h]
 ·cases h
theorem akc(h:fZ n=true):lD (aQ n)=false:=by
 unfold lD;rw[gn h]
theorem Ry(hb:0<b)(h:fZ (mA a b)=true):aE .Div (.int (a:Int)) (.int (b:Int))=some (.aN (aQ (mA a b))):=by
 show dA (if(b:Int)≠0/\lD (EL (a:Int) (b:Int))=false then some (D.aN (EL (a:Int) (b:Int)))else none) _=_;rw[KQ,if_pos ⟨by omega,akc h⟩];rfl
section
variable{T:ec}
end
end
theorem aq8:ckR 0=true:=by rfl'
theorem aq9:ckR 16=true:=by rfl'
theorem ara:ckR 32=true:=by rfl'
theorem arb:ckR 48=true:=by rfl'
theorem ard:ckM=true:=by rfl'
theorem arf:ckD=true:=by rfl'
def ckG(g:Nat):Bool:=and (pO FN g g) (and (YF (AQ FN g g g) λx y z=>and (bO x 0) (and (pO FN y g) (bO z 0))) (YF (Dh FN g g g) λx y z=>and (bO x 0) (and (bO y 0) (pO FN z g))))
theorem ari:uE.all ckG=true:=by rfl'
theorem wQ(h:pO FN x a=true):rA 39 (.aN (aQ x)) (.aN (aQ a))=some true:=by
 show dA (dA none (dA none (dA (if xa (aQ x) (aQ a)=true then some true else none) _))) _=_;rw[gH,Jd,h];rfl
theorem K1:rA 39 (.aN (aQ 0)) (.int 0)=some true:=by rfl'
theorem M7:∀l:List (D×D),(∀p∈l,rA 39 p.1 p.2=some true)->sd (rA 39) (l.map (·.1)) (l.map (·.2))=some true:=by
 intro l
 induction l with
 |nil=>intro _;rfl
 |cons p l ih=>
  intro h;show(rA 39 p.1 p.2).bind (λx=>(sd (rA 39) (l.map (·.1)) (l.map (·.2))).map λq=>x&&q)=_;rw[h p (aA ..),ih λq hq=>h q (aD _ hq)];rfl
theorem Rz(l:List (D×D))(h:∀p∈l,rA 39 p.1 p.2=some true):cmp .NotEq (.tup (l.map (·.1))) (.tup (l.map (·.2)))=some false:=by
 show(if(l.map (·.1)).length=(l.map (·.2)).length then sd (rA 39) (l.map (·.1)) (l.map (·.2))else none).map (λx=> !x)=_;rw[if_pos (by rw[aj,aj]),M7 l h];rfl
theorem YI(h1:pO FN x a=true)(h2:pO FN y b=true)(h3:pO FN z c=true):cmp .NotEq (t3 (aQ x,aQ y,aQ z)) (t3 (aQ a,aQ b,aQ c))=some false:=
 Rz [(.aN (aQ x),.aN (aQ a)),(.aN (aQ y),.aN (aQ b)),(.aN (aQ z),.aN (aQ c))] (by
  intro p hp;simp only[aJ,dm,or_false]at hp;rcases hp with rfl|rfl|rfl
  ·exact wQ h1
  ·exact wQ h2
  ·exact wQ h3)
def M8(x:Nat):Nat:=1+x/64%4
def RA(x:Nat):Nat:=1+x/256%4
def SJ(x:Nat):Nat:=RA x*(8 - M8 x)
def RB(x:Nat):Nat:=mA (x%64) 64
def YJ(x:Nat):Nat:=mA (SJ x) 32
def YK(x:Nat):Nat:=mA (M8 x*RA x) (min (SJ x) (32 - SJ x))
def lT(x:Nat):D:=t3 (aQ (RB x),aQ (YJ x),aQ (YK x))
theorem in4:∀n,n<5->1<=n->n∈[1,2,3,4]:=by decide
theorem m4(x):1<=1+x%4/\1+x%4<5:=by omega
theorem sZ{lo a:Nat}(h:ckR lo=true)(ha:a<16):ckS (lo+a)=true:=by
 unfold ckR at h;have:=aw.mp h a (cL.mpr ha);rwa[ju]at this
theorem V5(st)(h:st<64):ckS st=true:=by
 have e:st=16*(st/16)+st%16:=by omega
 have h4:st/16<4:=by omega
 have hm:st%16<16:=by omega
 generalize st/16=q at e h4;generalize st%16=a at e hm;subst e;match q,h4 with
 |0,_=>rw[tv];exact sZ aq8 hm
 |1,_=>exact sZ aq9 hm
 |2,_=>exact sZ ara hm
 |3,_=>exact sZ arb hm
theorem V7(x:Nat):ck0 (x%64) (M8 x) (RA x)=true:=by
 have h:=V5 (x%64) (by omega);obtain⟨a1,a2⟩:=m4 (x/64);obtain⟨b1,b2⟩:=m4 (x/256);exact aw.mp (aw.mp h _ (in4 _ a2 a1)) _ (in4 _ b2 b1)
theorem Dk(x:Nat):YJ x∈uE/\YK x∈zJ:=by
 obtain⟨a1,a2⟩:=m4 (x/64);obtain⟨b1,b2⟩:=m4 (x/256);have:=aw.mp (aw.mp ard _ (in4 _ a2 a1)) _ (in4 _ b2 b1);obtain⟨h1,h2⟩:=bX.mp this;exact⟨cG.mp h1,cG.mp h2⟩
theorem akd:∀sh,sh<5->∀va,va<5->1<=sh->1<=va->va*(8 - sh)<=32/\1<=min (va*(8 - sh)) (32 - va*(8 - sh)):=by decide
theorem RC(x:Nat):SJ x<=32/\1<=min (SJ x) (32 - SJ x):=by
 obtain⟨a1,a2⟩:=m4 (x/64);obtain⟨b1,b2⟩:=m4 (x/256);exact akd _ a2 _ b2 a1 b1
theorem RD{T:ec}(hC:CS T)(h:Dh FN r g b=some (x,y,z)):T.fn "rgb_to_hsv" [.aN (aQ r),.aN (aQ g),.aN (aQ b)]=some (t3 (aQ x,aQ y,aQ z)):=hC.hsv _ _ _ _ ((aj0 r g b).trans (by rw[h];rfl))
theorem Jg{T:ec}(hC:CS T)(h:AQ FN r g b=some (x,y,z)):T.fn "rgb_to_hls" [.aN (aQ r),.aN (aQ g),.aN (aQ b)]=some (t3 (aQ x,aQ y,aQ z)):=hC.hls _ _ _ _ ((aj1 r g b).trans (by rw[h];rfl))
def RG(T:ec):Prop:=∀h l:UInt64,T.fn "hls_to_rgb" [.aN h,.aN l,.int 0]=some (t3 (l,l,l))
theorem V8{T:ec}(hC:CS T)(hR:RG T)(h0:UInt64)(g:Nat)(hg:ckG g=true):
 (((T.fn "hls_to_rgb" [.aN h0,.aN (aQ g),.int 0]).bind λa=>(T.fn "rgb_to_hls" [.aN (aQ g),.aN (aQ g),.aN (aQ g)]).bind λb=>aE .Add a b).bind λa=>(T.fn "rgb_to_hsv" [.aN (aQ g),.aN (aQ g),.aN (aQ g)]).bind λb=>aE .Add a b).bind
   (λa=>cmp .NotEq a (.tup [.aN (aQ g),.aN (aQ g),.aN (aQ g),.int 0,.aN (aQ g),.int 0,.int 0,.int 0,.aN (aQ g)]))=some false:=by
 have fX:=d9;unfold ckG at hg;obtain⟨g1,hg⟩:=bX.mp hg;obtain⟨g2,g3⟩:=bX.mp hg;obtain⟨x,y,z,a5,a6⟩:=nM g2;obtain⟨x',y',z',b5,b6⟩:=nM g3;simp only[av]at a6 b6;obtain rfl:=bE a6.1;obtain rfl:=bE a6.2.2;obtain rfl:=bE b6.1;obtain rfl:=bE b6.2.1;rw[hR,ag,Jg hC a5,ag,RD hC b5];have s1:aE .Add (t3 (aQ g,aQ g,aQ g)) (t3 (aQ 0,aQ y,aQ 0))=some (.tup [.aN (aQ g),.aN (aQ g),.aN (aQ g),.aN (aQ 0),.aN (aQ y),.aN (aQ 0)]):=xN (b:=if 6<=ei then some (D.tup [.aN (aQ g),.aN (aQ g),.aN (aQ g),.aN (aQ 0),.aN (aQ y),.aN (aQ 0)])else none) rfl (if_pos (by rw[fX];decide));have s2:aE .Add (.tup [.aN (aQ g),.aN (aQ g),.aN (aQ g),.aN (aQ 0),.aN (aQ y),.aN (aQ 0)]) (t3 (aQ 0,aQ 0,aQ z'))=some (.tup [.aN (aQ g),.aN (aQ g),.aN (aQ g),.aN (aQ 0),.aN (aQ y),.aN (aQ 0),.aN (aQ 0),.aN (aQ 0),.aN (aQ z')]):=xN (b:=if 9<=ei then some (D.tup [.aN (aQ g),.aN (aQ g),.aN (aQ g),.aN (aQ 0),.aN (aQ y),.aN (aQ 0),.aN (aQ 0),.aN (aQ 0),.aN (aQ z')])else none) rfl (if_pos (by rw[fX];decide));rw[s1,ag,ag,s2,ag];exact Rz [(.aN (aQ g),.aN (aQ g)),(.aN (aQ g),.aN (aQ g)),(.aN (aQ g),.aN (aQ g)),(.aN (aQ 0),.int 0),(.aN (aQ y),.aN (aQ g)),(.aN (aQ 0),.int 0),(.aN (aQ 0),.int 0),(.aN (aQ 0),.int 0),(.aN (aQ z'),.aN (aQ g))] (by
  intro p hp;simp only[aJ,dm,or_false]at hp;rcases hp with rfl|rfl|rfl|rfl|rfl|rfl|rfl|rfl|rfl
  ·exact wQ g1
  ·exact wQ g1
  ·exact wQ g1
  ·exact K1
  ·exact wQ a6.2.1
  ·exact K1
  ·exact K1
  ·exact K1
  ·exact wQ b6.2.2)
section
theorem smS{n:Nat}(h:n<=1000):sm (n:Int)=true:=kz (f9 (by decide) (bF n)) (f9 (gf.mpr h) (by decide))
theorem RE{a b:Nat}(ha:a<=1000)(hb:b<=1000):aE .Mult (.int a) (.int b)=some (.int (a*b:Nat)):=by rw[CV (smS ha) (smS hb),nR]
theorem fd1(x n:Nat):(x:Int).fdiv n=((x/n:Nat):Int):=bN _ (bF n)
theorem fm0(x n:Nat):(x:Int).fmod n=((x%n:Nat):Int):=cy _ (bF n)
theorem YL(x n:Nat):1+((x:Int).fdiv n).fmod 4=((1+x/n%4:Nat):Int):=by
 rw[fd1,show((x/n:Nat):Int).fmod 4=_ from fm0 (x/n) 4,eY];rfl
theorem ac0:∀li,li<33->(if(32:Int) - (li:Nat)<(li:Nat)then(32:Int) - (li:Nat)else(li:Nat))=((min li (32 - li):Nat):Int):=by decide
theorem ake{li:Nat}(h:li<=32):cH .min [.int (li:Int),.int (32 - (li:Int))]=some (.int (min li (32 - li):Nat)):=congrArg (λz=>some (D.int z)) (ac0 li (Dy h))
theorem RH{told:List D}{x:D}{n:Nat}(h:told.length=n)(hn:n<=1000):fY (.lst (told++[x])) (n:Int)=some x:=by
 subst h;rw[za (by simp) (by simp;omega)];simp
structure akf(T:ec)(m x:Nat):Prop where
 d1:aE .Div (.int ((x%64:Nat):Int)) (.int 64)=some (.aN (aQ (RB x)))
 d2:aE .Div (.int (M8 x:Nat)) (.int 4)=some (.aN (aQ (mA (M8 x) 4)))
 d3:aE .Div (.int (RA x:Nat)) (.int 4)=some (.aN (aQ (mA (RA x) 4)))
 d4:aE .Div (.int (SJ x:Nat)) (.int 32)=some (.aN (aQ (YJ x)))
 d5:aE .Div (.int (M8 x*RA x:Nat)) (.int (min (SJ x) (32 - SJ x):Nat))=some (.aN (aQ (YK x)))
 fs:∃r g b,T.fn "hsv_to_rgb" [.aN (FU.add (aQ (mA m 1)) (aQ (RB x))),.aN (aQ (mA (M8 x) 4)),.aN (aQ (mA (RA x) 4))]=some (t3 (r,g,b))/\T.fn "rgb_to_hls" [.aN r,.aN g,.aN b]=some (lT x)/\(∃y,T.fn "rgb_to_hsv" [.aN r,.aN g,.aN b]=some y/\cmp .NotEq y (t3 (aQ (RB x),aQ (mA (M8 x) 4),aQ (mA (RA x) 4)))=some false)/\cmp .NotEq (lT x) (lT x)=some false
theorem M9{T:ec}(hC:CS T){m h0 s1 v1 l1 t1:Nat}(h:ckA m h0 s1 v1 l1 t1=true):∃r g b,T.fn "hsv_to_rgb" [.aN (FU.add (aQ (mA m 1)) (aQ h0)),.aN (aQ s1),.aN (aQ v1)]=some (t3 (r,g,b))/\T.fn "rgb_to_hls" [.aN r,.aN g,.aN b]=some (t3 (aQ h0,aQ l1,aQ t1))/\
 (∃y,T.fn "rgb_to_hsv" [.aN r,.aN g,.aN b]=some y/\cmp .NotEq y (t3 (aQ h0,aQ s1,aQ v1))=some false)/\cmp .NotEq (t3 (aQ h0,aQ l1,aQ t1)) (t3 (aQ h0,aQ l1,aQ t1))=some false:=by
 unfold ckA at h;rw[ju]at h;obtain⟨r,g,b,a1,a2⟩:=nM h;obtain⟨a3,a4⟩:=bX.mp a2;obtain⟨x,y,z,a5,a6⟩:=nM a3;obtain⟨x',y',z',a7,a8⟩:=nM a4;simp only[av]at a6 a8;obtain⟨⟨b1,b2,b3⟩,c1,c2,c3⟩:=a8;obtain rfl:=bE b1;obtain rfl:=bE b2;obtain rfl:=bE b3;have f1:=hC.rgb _ _ _ _ (aj3 a1);rw[<-Dd]at f1;exact⟨_,_,_,f1,Jg hC a7,⟨_,RD hC a5,YI a6.1 a6.2.1 a6.2.2⟩,YI c1 c2 c3⟩
theorem facts{T:ec}(hC:CS T)(m x:Nat)(hm:m<3):akf T m x:=by
 have h:=V7 x;unfold ck0 at h;simp only[ju]at h;unfold ck1 at h;simp only[av]at h;obtain⟨⟨n1,⟨n2,n3⟩,n4,n5⟩,k0,k1,k2⟩:=h;have hk:ckA m (RB x) (mA (M8 x) 4) (mA (RA x) 4) (YJ x) (YK x)=true:=match m,hm with
  |0,_=>k0
  |1,_=>k1
  |2,_=>k2
 exact⟨Ry (b:=64) (by decide) n1,Ry (b:=4) (by decide) n2,Ry (b:=4) (by decide) n3,Ry (b:=32) (by decide) n4,Ry (RC x).2 n5,M9 hC hk⟩
section
variable{T:ec}
theorem ac2(hC:CS T)(hR:RG T)(o:Option C9)(heap count i:Nat)(hi:i<6)(told:List D)(hl:told.length=i)(n:Nat):∃o',
 Xa T SH ["told"] (n+2) KZ (g1 (fg SH (iM cF) (.int i) (cS o heap count told,["told"]))) (g2 (fg SH (iM cF) (.int i) (cS o heap count told,["told"])))=
  some (.nx (cS (some o') heap count (told++[lT (heap/1024^i)])) ["told"]):=by
 have fX:=d9;generalize hx:heap/1024^i=x;have F:=facts hC (i%3) x (dJ _ (by decide));obtain⟨r,g,b,f1,f2,f3,f4⟩:=F.fs;obtain⟨a1,a2⟩:=m4 (x/64);obtain⟨b1,b2⟩:=m4 (x/256);have hlg:=aw.mp ari _ (Dk x).1;refine⟨_,V4 (T:=T) o heap count i x (M8 x:Nat) (RA x:Nat) (SJ x:Nat) (aQ (RB x)) (aQ (mA (M8 x) 4)) (aQ (mA (RA x) 4)) (aQ (YJ x)) (aQ (YK x)) r g b told (lT x) n ?_ ?_ (YL x 64) (YL x 256) ?_ F.d4 F.d2 F.d3 ?_ ?_ f2 f3 ?_ (V8 hC hR _ _ hlg) (by omega)⟩
 ·rw[<-hx]
  exact oB (sP (a:=1024) (by decide) (by omega)) (nJ (eZ (by decide)) (C0 (n:=10) (by decide) (by omega)))
 ·exact oB (i6 (b:=64) (by decide)) F.d1
 ·rw[show(8 - ((M8 x:Nat):Int))=((8 - M8 x:Nat):Int)from(Ae (by show 1+x/64%4<=8;omega)).symm]
  exact RE (by show 1+x/256%4<=1000;omega) (by omega)
 ·exact oB (RE (by show 1+x/64%4<=1000;omega) (by show 1+x/256%4<=1000;omega)) (oB (ake (RC x).1) F.d5)
 ·have e1:(aE .Mod (.int (i:Int)) (.int 3)).bind (λd=>aE .Add d (.aN (aQ (RB x))))=some (.aN (FU.add (aQ (mA (i%3) 1)) (aQ (RB x)))):=by
   refine oB (i6 (b:=3) (by decide)) ?_;refine xN (b:=dA none (dA none (dA (if sm ((i%3:Nat):Int)=true then some (D.aN (iY (eE ((i%3:Nat):Int)) (aQ (RB x))))else none) none))) rfl ?_;rw[if_pos (smS (by omega)),Gy];rfl
  exact oB (oB e1 rfl) f1
 ·rw[RH hl (by omega)];exact f4
theorem ac8(hC:CS T)(hR:RG T)(heap count:Nat)(n:Nat):∀(j k:Nat)(o:Option C9)(told:List D),k+j<=6->told=(aM k).map (λi=>lT (heap/1024^i))->
 ∃o',sx (Xa T SH ["told"] (n+2)) SH (iM cF) KZ ((iu k j).map di) (cS o heap count told) ["told"]=some (.nx (cS o' heap count ((aM (k+j)).map λi=>lT (heap/1024^i))) ["told"]):=by
 intro j
 induction j with
 |zero=>intro k o told _ h;exact⟨o,by rw[h];rfl⟩
 |succ j ih=>
  intro k o told hk h;obtain⟨o',e⟩:=ac2 (T:=T) hC hR o heap count k (by omega) told (by rw[h,aj,bY]) n;obtain⟨o2,e2⟩:=ih (k+1) (some o') (told++[lT (heap/1024^k)]) (by omega) (by rw[dM,c7,h];rfl);refine⟨o2,?_⟩;rw[lV,bH];refine sJ e ?_ (acY o heap count told k);rw[show k+(j+1)=k+1+j by omega];exact e2
theorem akg(hC:CS T)(hR:RG T)(heap count:Nat)(hc:count<=6):Xa T SH ["told"] 20 cB4 [("heap",.int heap),("count",.int count)] []=some (.rt (.lst ((aM count).map λi=>lT (heap/1024^i)))):=by
 have fX:=d9;obtain⟨o',ho⟩:=ac8 (T:=T) hC hR heap count 17 count 0 none [] (by omega) rfl;rw[jw]at ho;refine fR (bs:=[ak 0 cB4,ak 1 cB4,ak 2 cB4]) ?_;refine fb (bZ (.lst []) (by rfl')) ?_;refine fb (y8 (ds:=(iu 0 count).map di) (tr (b:=(cH .range [.int count]).bind items) ?_) (tr ho)) ?_
 ·have:=j7 count (by omega)
  rw[wX]at this;refine oB (a:=.nZ 0 count 1) (r:=some ((iu 0 count).map di)) ?_ ?_
  ·rfl
  ·exact this
 generalize ((aM count).map λi=>lT (heap/1024^i))=L;refine df (dR _ ?_);rcases o' with _|⟨x1,x2,x3,x4,x5,x6,x7,x8,x9,x0⟩<;>rfl'
end
end
def V9(lo:Nat):Bool:=(aM 8).all λb=>zI (lo+b) λb=>YG 0 b
def Wa(lo:Nat):Bool:=(aM 8).all λb=>zI (lo+b) λb=>YG b 0
theorem ark:V9 0=true:=by rfl'
theorem arl:V9 8=true:=by rfl'
theorem arn:V9 16=true:=by rfl'
theorem aro:V9 24=true:=by rfl'
theorem arp:V9 32=true:=by rfl'
theorem arq:V9 40=true:=by rfl'
theorem ars:V9 48=true:=by rfl'
theorem art:V9 56=true:=by rfl'
theorem aru:Wa 0=true:=by rfl'
theorem arv:Wa 8=true:=by rfl'
theorem arw:Wa 16=true:=by rfl'
theorem arx:Wa 24=true:=by rfl'
theorem ary:Wa 32=true:=by rfl'
theorem arz:Wa 40=true:=by rfl'
theorem arA:Wa 48=true:=by rfl'
theorem arC:Wa 56=true:=by rfl'
theorem Wb(b)(h:b<64):YG 0 b=true:=by
 have e:b=8*(b/8)+b%8:=by omega
 have h8:b/8<8:=by omega
 have hm:b%8<8:=by omega
 generalize b/8=q at e h8;generalize b%8=a at e hm;subst e;have key:∀lo,V9 lo=true->YG 0 (lo+a)=true:=λlo h=>by
  have:=aw.mp h a (cL.mpr hm);rwa[ju]at this
 match q,h8 with
 |0,_=>exact key _ ark
 |1,_=>exact key _ arl
 |2,_=>exact key _ arn
 |3,_=>exact key _ aro
 |4,_=>exact key _ arp
 |5,_=>exact key _ arq
 |6,_=>exact key _ ars
 |7,_=>exact key _ art
theorem Wc(b)(h:b<64):YG b 0=true:=by
 have e:b=8*(b/8)+b%8:=by omega
 have h8:b/8<8:=by omega
 have hm:b%8<8:=by omega
 generalize b/8=q at e h8;generalize b%8=a at e hm;subst e;have key:∀lo,Wa lo=true->YG (lo+a) 0=true:=λlo h=>by
  have:=aw.mp h a (cL.mpr hm);rwa[ju]at this
 match q,h8 with
 |0,_=>exact key _ aru
 |1,_=>exact key _ arv
 |2,_=>exact key _ arw
 |3,_=>exact key _ arx
 |4,_=>exact key _ ary
 |5,_=>exact key _ arz
 |6,_=>exact key _ arA
 |7,_=>exact key _ arC
theorem GF{a b l t:Nat}(hl:l∈uE)(ht:t∈zJ)(h:YG a b=true):ckH (SG a b) l t (qN (64+b - a) 64)=true:=by
 unfold YG at h;rw[ju,ju]at h;have:=aw.mp h l hl;rw[ju]at this;have:=aw.mp this t ht;rw[ju]at this;exact this
theorem RI{a b:Nat}(h:a<=b):SG a b=mA (b - a) 64:=by unfold SG;rw[eg h,cond_true]
theorem RJ{a b:Nat}(h:¬a<=b):SG a b=Rr (mA (a - b) 64):=by unfold SG;rw[acJ h,cond_false]
theorem Wd{a b l t:Nat}(ha:a<64)(hb:b<64)(hl:l∈uE)(ht:t∈zJ):ckH (SG a b) l t (qN (64+b - a) 64)=true:=by
 by_cases h:a<=b
 ·have:=GF hl ht (Wb (b - a) (by omega))
  rw[RI (de _),gJ,gJ,<-Nat.add_sub_assoc h]at this;rw[RI h];exact this
 ·have:=GF hl ht (Wc (a - b) (by omega))
  rw[RJ (by omega),gJ,show 64+0 - (a - b)=64+b - a by omega]at this;rw[RJ h];exact this
theorem RK{a b:Nat}(ha:a<64)(hb:b<64):M4 (mA b 64) (mA a 64)=SG a b:=by
 have h:=arf;unfold ckD at h;simp only[ju]at h;exact bE (aw.mp (aw.mp h a (cL.mpr ha)) b (cL.mpr hb))
def AS(T:ec):Prop:=∀x y:Nat,T.fn "_law_ahead" [lT x,lT y]=some (di ((64+y%64 - x%64)%64))
def KS(T:ec):Prop:=∀heap count:Nat,count<=6->T.fn "_law_colours" [di heap,di count]=some (.lst ((aM count).map λi=>lT (heap/1024^i)))
abbrev NP(prim:Str->Option (List D->Option D)):Prop:=∀f,(f==("_int2digits":Str))=false->(f==("_digits2int":Str))=false->(f==("_law_refused":Str))=false->(f==("_law_beaten":Str))=false->prim f=none
theorem ac9{T:ec}(hC:CS T)(x y:Nat):Xa T aK4 [] 20 aB4 [("first",lT x),("second",lT y)] []=some (.rt (di ((64+y%64 - x%64)%64))):=by
 have h:=Wd (dJ x (show 64>0 by decide)) (dJ y (show 64>0 by decide)) (Dk x).1 (Dk y).2;unfold ckH fc3 at h;simp only[ju]at h;obtain⟨a,b,c,q1,q2⟩:=nM h;have q3:=acW (Rx q2);have f6:=hC.rgl (aQ (SG (x%64) (y%64))) (aQ (YJ x)) (aQ (YK y));rw[aj4,<-RK (dJ x (by decide)) (dJ y (by decide)),<-KU]at f6;exact acZ (aQ (RB x)) (aQ (YJ x)) (aQ (YK x)) (aQ (RB y)) (aQ (YJ y)) (aQ (YK y)) _ _ _ _ _ _ _ f6 (Jg hC (by rw[RK (dJ x (by decide)) (dJ y (by decide))];exact q1)) q3
theorem akh{prim:Str->Option (List D->Option D)}(hp:NP prim)(r:Nat):RG (Tn prim (r+1)):=λh l=>
 fq (["h","l","s"]:List Str) (hp _ (by decide) (by decide) (by decide) (by decide)) (acX h l)
theorem aki{prim:Str->Option (List D->Option D)}(hp:NP prim)(r:Nat):AS (Tn prim (r+3)):=λx y=>
 fq (["first","second"]:List Str) (hp _ (by decide) (by decide) (by decide) (by decide)) (ac9 (YE hp r) x y)
theorem akj{prim:Str->Option (List D->Option D)}(hp:NP prim)(r:Nat):KS (Tn prim (r+3)):=λheap count hc=>
 fq (["heap","count"]:List Str) (hp _ (by decide) (by decide) (by decide) (by decide)) (akg (YE hp r) (akh hp (r+1)) heap count hc)
end Internal.Z
namespace Internal.B
section
open PyProof.Rows.LCg
def bB:List Stmt:=yW "_law_beaten" pw.main.body
def bA:ae:=bk (ak 0 bB)
def RM(e:ae):ae:=match(nH e).2.1 with|g::_=>g.target|[]=>default
def bSc:Scope:=(nH bA).2.2.1
def bK:bW:=uk "_law_beaten"
theorem akk:∃py po px pi pe sp,ak 0 bB=.Assign [.Name "beaten" py] (.ListComp (.List [] pe) [⟨.Name "one" px,.Name "told" pi,[],0⟩] bSc po) sp/\mu bK "beaten" py (.ListComp (.List [] pe) [⟨.Name "one" px,.Name "told" pi,[],0⟩] bSc po)=true:=by
 refine⟨jF (ak 0 bB),bA.pos,(RM bA).pos,(qg bA).pos,(nH bA).1.pos,bV (ak 0 bB),?_,?_⟩<;>rfl'
theorem Na:bSc.kind=.function/\(bSc.names.all λy=>y.2 != .cell&&(y.2 != .free&&(y.2 != .local||bSc.names.lookup y.1==some .local)))=true/\bSc.names.lookup ("one":Str)=some NameKind.local:=⟨by rfl',by rfl',by rfl'⟩
section
variable{w:World}{A:aC}{E:Value->ah->Prop}{s:ah}{h₀:Heap}{L:Addr}{m:Str->Option Value}{env:Env}
theorem Wf{x:Str}{scope:Scope}{pe:Pos}{ax:Addr}{its:Array Value}{Fin:List Value->List (Addr×Obj)->Prop}{n:Nat}
(arD:∀(bs:List Addr)(news:List (Addr×Obj)),bs.length=n->bs.Nodup->(∀b∈bs,(b,lst [])∈news)->Fin (bs.map .ref) news)(hS:h₀.IsList ax its):∀(k i:Nat)(bs:List Addr)(news:List (Addr×Obj)),k+bs.length=n->bs.Nodup->(∀b∈bs,(b,lst [])∈news)->
 CompRest pw w A h₀ L m env (.List [] pe) x scope [] s (SrcAt h₀ ax its) (λi v=>its[i]? =some v) Fin k i (bs.map .ref) news:=by
 intro k
 induction k with
 |zero=>intro i bs news h1 h2 h3;exact arD bs news (by omega) h2 h3
 |succ k ih=>
  intro i bs news h1 h2 h3;refine CompRest.succ λv I oI C oC D m₂ h tk E' _ _ _ F N off ne=>?_;refine List_ (Sg (newList_N F N (λh' F' N'=>?_) (by decide)));have nw:∀p∈(I,oI)::(C,oC)::(D,lst (bs.map .ref))::news,p.1≠h.objs.size:=λp hp=>el (cT (N p hp).1);refine CompEnd.intro F' N' ((h.objs.size,lst [])::news) ?_ ⟨⟨(nw (I,oI) (by simp)).symm,(nw (C,oC) (by simp)).symm,(nw (D,lst (bs.map .ref)) (by simp)).symm⟩,off⟩ (.inl hS) ?_
  ·intro p hp
   simp only[aJ]at hp⊢;rcases hp with rfl|rfl|rfl|rfl|hp
   ·exact .inr (.inl rfl)
   ·exact .inr (.inr (.inl rfl))
   ·exact .inr (.inr (.inr (.inl rfl)))
   ·exact .inl rfl
   ·exact .inr (.inr (.inr (.inr hp)))
  ·have e:bs.map f7++[.ref h.objs.size]=(bs++[h.objs.size]).map .ref:=by rw[c7];rfl
   rw[e];refine ih (i+1) (bs++[h.objs.size]) _ (by rw[aG];simp;omega) ?_ ?_
   ·rw[kZ]
    refine⟨h2,by simp,λa ha b hb=>?_⟩;rw[aY.mp hb];exact nw (a,lst []) (by simp only[aJ];exact .inr (.inr (.inr (h3 a ha))))
   ·intro b hb
    rcases fO.mp hb with hb|hb
    ·exact aD _ (h3 b hb)
    ·rw[aY.mp hb];exact aA ..
theorem RN{Q:Flow->ah->Prop}{ax:Addr}{its:Array Value}(hh:A.handled=none)(jn:env.scope.names=bK)(SK:env.scope.kind=.function)(hL:env.locals=L)(F:Fr h₀ L s.heap m)(hm:m "told"=some (.ref ax))(hl:h₀.IsList ax its)(hsz:its.size<=1000)
(hQ:∀(al:Addr)(bs:List Addr)(h:Heap)(tk:Nat),bs.length=its.size->bs.Nodup->Fr h₀ L h (λz=>if z="beaten" then some (.ref al)else m z)->(∀b∈bs,h.get? b=some (lst [])/\b≠L/\h₀.get? b=none/\b≠al)->(h.get? al=some (lst (bs.map .ref))/\al≠L/\h₀.get? al=none)->Q .next {s with heap:=h,toks:=tk}):
 wpAny (model pw w) A (exec (ak 0 bB) env) Q E s:=by
 obtain⟨py,po,px,pi,pe,sp,e,Fu⟩:=akk;obtain⟨k1,k2,k3⟩:=Na;have k2:=aw.mp k2;simp only[av,mX,bne_iff_ne,beq_iff_eq]at k2;rw[e];have mr:∀n,env.kindOf n=bK.lookup n:=λn=>by unfold gR;rw[jn]
 refine Assign_ListComp_U (cl:=[]) F hL (by rw[nz SK,jn,Fu]) ?_ (λz hz=>(k2 z hz).1) k1 (λz hz hzl=>(k2 z hz).2.2.resolve_left (λq=>q hzl)) k3 (by rw[mr];decide) (by rw[SK];rfl) ?_
 ·rfl'
 ·refine i5 (jL SK (by rw[mr];decide) (by rw[hL];exact F.ns) hm ?_) (by decide)
  refine CompSrc.base hh F News.nil hl (aq hsz (by decide)) λg=>?_;refine Wf (n:=its.size) (λbs news q1 q2 q3=>?_) hl its.size 0 [] [] (by simp) (by simp) (by simp);intro D h tk F' N' o1;have o2:∀p∈news,p.1≠D:=by
   clear N' q3;induction news with
   |nil=>intro p hp;cases hp
   |cons x t ih=>
    intro p hp;rcases aJ.mp hp with rfl|hp
    ·exact o1.1
    ·exact ih o1.2 p hp
  have nd:=N' _ (aA ..);exact hQ D bs h tk q1 q2 F' (λb hb=>by
   have:=N' _ (aD _ (q3 b hb));exact⟨this.1,this.2.1,this.2.2,o2 _ (q3 b hb)⟩) ⟨nd.1,nd.2.1,nd.2.2⟩
end
end
end Internal.B
namespace Internal.B
section
section
variable{prog:bb}{w:World}{A:aC}{E:Value->ah->Prop}{G:Addr->Prop}{env:Env}{s:ah}{σ:cu}{La:Heap->Prop}{Bu:aC->Prop}{V:Ev}{ds:List D}
inductive FJ(prog:bb)(w:World)(A:aC)(G:Addr->Prop)(ds:List D)(sa:ah)(K:Nat->ah->Prop)(x:Value)(n:Nat)(s:ah):Prop
 |mk (I:Addr) (fp:List Addr) (P:Nat->Value->Prop) (St:Nat->Heap->Prop) (hx:x=.ref I) (no:yd I P St) (Wk:Walks prog w A I fp [I] ds.length P St) (hI:sa.heap.get? I=none) (ye:∀i h,St i h->(h.get? I).isSome=true) (Co:∀b∈fp,b=I\/(¬G b/\(sa.heap.get? b).isSome=true))
  (hP:∀i v h (F':Addr->Prop),P i v->Kept G sa.heap h->(∀b,F' b->G b\/sa.heap.get? b=none)->∀d,ds[i]? =some d->bU h F' d v) (i:Nat) (hi:i<=ds.length) (hn:n=ds.length+1 - i) (st:St i s.heap) (kg:Kept G sa.heap s.heap) (k:K i s)
theorem RO{K:Nat->ah->Prop}{Q:Flow->ah->Prop}{t iter:ae}{body:List Stmt}{pos:Pos}{d:D}(VO:c8 prog w La Bu V)(bu:Bu A)(am:dq A La s)(x:In env G σ s.heap)(abg:i9 iter=true)(h1:V.d env.scope.names σ iter=some d)(h2:items d=some ds)
(Kt:∀i s,K i s->1<=s.toks)(K0:∀s',Keeps s s'->1<=s'.toks->K 0 s')(KI:∀i I s1 s2,s.heap.get? I=none->(s1.heap.get? I).isSome=true->Upd (λa=>a=I) s1 s2->1<=s2.toks->K i s1->K i s2)
(turn:∀i (hi:i<ds.length) s1 v (E':Value->ah->Prop),K i s1->bU s1.heap G ds[i] v->wpAny (model prog w) A (assign t env v) (λ_ s2=>wpAny (model prog w) A (execs body env) (λf s3=>f=.next/\K (i+1) s3/\Upd G s1 s3) E' s2) E' s1)
(fin:∀s',K ds.length s'->Q .next s'):wpAny (model prog w) A (exec (.For t iter body [] pos) env) Q E s:=by
 refine Kb (λx n s2=>∃sa,Keeps s sa/\FJ prog w A G ds sa K x n s2) (jm abg env) (ai (bw am.tk (VO.d A _ env G σ s iter d bu am x h1)) (λv s1 q=>?_) λ_ _ e=>e) λx n s3 q B C E' hS hB hR hN=>?_
 ·obtain⟨t1,k1,r1⟩:=q
  have x1:=x.keeps (Keeps.all k1);refine ai (bw t1 (jW am.hh x1.lo r1 h2)) (λit s2 q2=>?_) λ_ _ e=>e;obtain⟨t2,k2,ti⟩:=q2;cases ti with
  |mk I fp P St hx no Wk st hI ye Co hP=>
  exact⟨_,s1,k1,I,fp,P,St,hx,no,Wk,hI,ye,Co,hP,0,de _,rfl,st,λb o _ e=>Keeps.all k2 b o e,K0 _ (Keeps.trans' k1 k2) t2⟩
 ·obtain⟨sa,ka,q⟩:=q
  cases q with
  |mk I fp P St hx no Wk hI ye Co hP i hi hn st kg k=>
  subst hx;have nI:=JS (Keeps.all ka) hI;have gI:¬G I:=λz=>nS nI (x.lo I z);rcases pE hi with me|Pw
  ·refine qt Wk me (Kt _ _ k) st λv s4 t4 u4 p D9=>hS v s4 (qr no p D9 ?_)
   have k4:=KI i I s3 s4 nI (ye _ _ st) u4 t4 k;have kg4:Kept G sa.heap s4.heap:=λb o nb e=>u4.kept (G:=λa=>a=I) (λ_ q=>q) b o (λz=>nG hI (z▸e)) (kg b o nb e);refine ai (turn i me s4 v _ k4 (hP i v s4.heap G p kg4 (λb q=>.inl q) _ (bz me))) (λ_ s5 q=>ai q (λf s6 q=>?_) λ_ _ e=>e) λ_ _ e=>e;obtain⟨rfl,k6,u6⟩:=q;exact hB (ds.length+1 - (i+1)) s6 (hn▸zY (qH me) (dW i)) ⟨sa,ka,I,fp,P,St,rfl,no,Wk,hI,ye,Co,hP,i+1,me,rfl,
    Wk.frame _ _ _ D9 (λb hb o e=>u6.kept (G:=G) (λ_ q=>q) b o ((Co b hb).elim (λz=>z▸gI) adU) e),λb o nb e=>u6.kept (G:=G) (λ_ q=>q) b o nb (kg4 b o nb e),k6⟩
  ·refine qu Wk (Kt _ _ k) (Pw▸st) λs4 t4 u4=>hN s4 (fin s4 ?_)
   exact Pw▸KI i I s3 s4 nI (ye _ _ st) u4 t4 k
end
def BG(h₀ h:Heap)(a:Addr):Prop:=h₀.get? a=none/\(h.get? a).isSome=true
structure BF(env:Env)(h₀:Heap)(L al:Addr)(bs:List Addr):Prop where
 fn:env.scope.kind=.function
 FC:env.scope.names=bK
 gl:env.globals=mainGlobals
 bi:env.builtins=builtinsNs
 ce:env.cells=[]
 loc:env.locals=L
 nd:bs.Nodup
 nb:∀b∈bs,b≠L/\h₀.get? b=none/\b≠al
 na:al≠L/\h₀.get? al=none
def MS(h₀:Heap)(m:Str->Option Value)(σ:cu):Prop:=∀n d,look σ n=some d->∃v,m n=some v/\bU h₀ (λ_=>False) d v
theorem zL:(bK.all λy=>y.2 != .cell&&y.2 != .free)=true:=by rfl'
theorem BF.kind{env:Env}(f:BF env h₀ L al bs)(n:Str):env.kindOf n=bK.lookup n:=by unfold gR;rw[f.FC]
theorem BF.CR{env:Env}(f:BF env h₀ L al bs)(n:Str):env.kindOf n≠some .cell/\env.kindOf n≠some .free:=by
 rw[f.kind];constructor<;>intro h
 ·have:=aw.mp zL _ (mem_of_lookup h)
  simp at this
 ·have:=aw.mp zL _ (mem_of_lookup h)
  simp at this
theorem zM{m:Str->Option Value}(F:Fr h₀ L h m):h₀.get? L=none/\(h.get? L).isSome=true:=by
 constructor
 ·cases e:h₀.get? L with
  |none=>rfl
  |some o=>exact absurd (cT e) (pH.mpr F.above)
 ·obtain⟨o,_,_,e,_⟩:=F.ns
  rw[e];rfl
theorem GG{env:Env}{m:Str->Option Value}{σ:cu}(f:BF env h₀ L al bs)(F:Fr h₀ L h m)(ms:MS h₀ m σ):In env (BG h₀ h) σ h:=by
 refine⟨f.fn,f.gl,f.bi,λb q=>q.2,f.loc▸zM F,λn c e=>(by rw[f.ce]at e;cases e),λn n' c e=>(by rw[f.ce]at e;cases e),λn hn=>absurd hn (f.CR n).1,m,f.loc▸F.ns,λn d e=>⟨λ_=>?_,λhc=>hc.elim (λq=>absurd q (f.CR n).1) λq=>absurd q (f.CR n).2⟩⟩;obtain⟨v,h1,h2⟩:=ms n d e;exact⟨v,h1,bU.kept (F:=λ_=>False) (λb o _ e=>F.keep b o e) (λb q=>.inr q.1) _ _ h2⟩
structure BS(az:ah)(L al:Addr)(bs:List Addr)(m:Str->Option Value)(rows:List (List Nat))(s:ah):Prop where
 tk:1<=s.toks
 kp:Keeps az s
 F:Fr az.heap L s.heap m
 bt:m "beaten"=some (.ref al)
 ol:s.heap.get? al=some (LCg.lst (bs.map .ref))
 ln:rows.length=bs.length
 SE:∀i b,bs[i]? =some b->Acc (λ_=>False) s.heap b ((rows.getD i []).map di)
section
variable{env:Env}{az s s':ah}{L al:Addr}{bs:List Addr}{m:Str->Option Value}{rows:List (List Nat)}
theorem BS.keeps(x:BS az L al bs m rows s)(k:Keeps s s')(t:1<=s'.toks):BS az L al bs m rows s':=
 ⟨t,Keeps.trans' x.kp k,x.F.keeps (Keeps.all k),x.bt,Keeps.all k _ _ x.ol,x.ln,λi b e=>(x.SE i b e).keeps (Keeps.all k)⟩
theorem BS.iter(f:BF env az.heap L al bs)(x:BS az L al bs m rows s)(u:Upd (λa=>a=I) s s')(t:1<=s'.toks)(h0:az.heap.get? I=none)(hl:L≠I)(ha:al≠I)(hb:∀b∈bs,b≠I):BS az L al bs m rows s':=by
 have kp:Kept (λa=>a=I) s.heap s'.heap:=u.kept λ_ q=>q;refine⟨t,u.keeps (λa q=>q▸h0) x.kp,LCg.fr_but x.F (λb o hb e=>kp b o (λz=>hb (aY.mpr z)) e) hl h0,x.bt,kp _ _ ha x.ol,x.ln,λi b e=>?_⟩;obtain⟨vs,n,h1,h2⟩:=x.SE i b e;exact⟨vs,n,kp _ _ (hb b (gC e)) h1,eJ (Internal.I.allFlat _) h2⟩
theorem BS.store{prog:bb}{w:World}{A:aC}{E:Value->ah->Prop}{n:Str}{v:Value}{Q:Unit->ah->Prop}(f:BF env az.heap L al bs)(x:BS az L al bs m rows s)(hk:bK.lookup n=some .local)(hn:n≠"beaten")
(h:∀s',BS az L al bs (λz=>if z=n then some v else m z) rows s'->Upd (λa=>a=L) s s'->Q () s'):wpAny (model prog w) A (storeName env n v) Q E s:=by
 refine mW (m:=m) (by rw[f.kind];exact hk) (by rw[f.loc];exact x.F.ns) (λh' Pt n9=>?_) (by rw[f.fn];rfl);rw[f.loc]at Pt n9;have u:Upd (λa=>a=L) s {s with heap:=h',toks:=s.toks+1}:=⟨h',_,rfl,λb o hb e=>n9.extBut b o hb e⟩
 refine h _ ⟨nQ 1 _,u.keeps (λa q=>q▸(zM x.F).1) x.kp,x.F.set Pt n9,?_,n9.extBut _ _ f.na.1 x.ol,x.ln,λi b e=>?_⟩ u
 ·show(if("beaten":Str)=n then _ else _)=_
  rw[if_neg (gi hn)];exact x.bt
 ·obtain⟨vs,k,h1,h2⟩:=x.SE i b e
  exact⟨vs,k,n9.extBut _ _ (f.nb b (gC e)).1 h1,eJ (Internal.I.allFlat _) h2⟩
theorem MS.put{h₀:Heap}{σ:cu}{n:Str}{d:D}{v:Value}(ms:MS h₀ m σ)(r:bU h₀ (λ_=>False) d v):MS h₀ (λz=>if z=n then some v else m z) (put n d σ):=λk e he=>by
 by_cases hk:k=n
 ·subst hk
  obtain rfl:=iT he;exact⟨v,if_pos rfl,r⟩
 ·rw[cU hk]at he
  obtain⟨u,h1,h2⟩:=ms k e he;exact⟨u,(if_neg hk).trans h1,h2⟩
end
end
section
section
variable{env:Env}{az s s':ah}{L al:Addr}{bs:List Addr}{m:Str->Option Value}{rows:List (List Nat)}{w:World}{A:aC}{E:Value->ah->Prop}
theorem BF.load{h₀:Heap}{x:Str}{v:Value}{Q:Value->ah->Prop}{p:Pos}(f:BF env h₀ L al bs)(F:Fr h₀ L s.heap m)(hk:bK.lookup x=some .local)(hd:(x==("__debug__":Str))=false)(hm:m x=some v)(h:Q v s):
 wpAny (model pw w) A (eval (.Name x p) env) Q E s:=
 i5 (jL f.fn (by rw[f.kind];exact hk) (by rw[f.loc];exact F.ns) hm h) hd
theorem zN(rows:List (List Nat))(i j k:Nat)(hi:i<rows.length):(rows.modify i (·++[j])).getD k []=if k=i then rows.getD i []++[j]else rows.getD k []:=by
 rw[bp,wV];by_cases h:k=i
 ·subst h
  rw[if_pos rfl,bp,bz hi];simp
 ·rw[if_neg h,bp]
  simp only[if_neg (gi h)];cases rows[k]? <;>rfl
theorem RP{nx ny:Str}{i j:Nat}{t u:Tok}{p1 p2 p3 p4 ap cp pos:Pos}{Q:Flow->ah->Prop}(f:BF env az.heap L al bs)(x:BS az L al bs m rows s)(hx:bK.lookup nx=some .local/\(nx==("__debug__":Str))=false)(hy:bK.lookup ny=some .local/\(ny==("__debug__":Str))=false)
(h1:m nx=some (.int i t))(h2:m ny=some (.int j u))(hi:i<bs.length)(hb:bs.length<=1000)(hr:(rows.getD i []).length<=1000)(hl:ap.endLine=cp.line)
(h:∀s',BS az L al bs m (rows.modify i (·++[j])) s'->Upd (λa=>a∈bs) s s'->Q .next s'):
 wpAny (model pw w) A (exec (.Expr (.Call (.Attribute (.Subscript (.Name "beaten" p1) (.Name nx p2) p3) "append" ap) [.Name ny p4] [] cp) pos) env) Q E s:=by
 have hbk:backTo cp (starEach [.Name ny p4] env)=[(false,eval (.Name ny p4) env)]:=rfl;refine qX ?_ (gu f.fn) rfl;refine lG rfl (by rw[hbk];rfl) (by simpa using hl) ?_;have hol:IsL s.heap al (bs.map .ref).toArray (bs.map f7).length:=x.ol;refine tZ (f.load x.F (by decide) (by decide) x.bt (f.load x.F hx.1 hx.2 h1 ⟨tY hol,?_⟩));obtain⟨b,hb1⟩:∃b,bs[i]? =some b:=⟨bs[i],bz hi⟩;refine wpAny_getItem_list (x:=.ref b) hol.isList (by omega) (by omega) ?_ ?_
 ·rw[aR,fh,gD,hb1];rfl
 obtain⟨vs,n,q1,q2⟩:=x.SE i b hb1;refine⟨"list","list.append",jU,Js,Jt,⟨_,q1,rfl⟩,λb e=>by cases e;exact⟨_,q1,rfl⟩,?_⟩;rw[hbk];refine iw rfl (dT rfl (dx (f.load x.F hy.1 hy.2 h2 (gx ?_))));have hsz:vs.size<=sizeLine:=by
  have h1:=q2.length;rw[cj,aj]at h1;exact aq (by rw[h1];exact hr) (by decide)
 refine lF (hsz:=hsz) ⟨n,q1⟩ λh' hp hs=>?_;obtain⟨n',hp⟩:=hp;have hbm:b∈bs:=gC hb1;have hbb:=f.nb b hbm;have u4:Upd (λa=>a=b) s {s with heap:=h'}:=⟨h',_,rfl,λc o hb e=>hs.extBut c o hb e⟩
 refine h _ ⟨x.tk,u4.keeps (λa q=>q▸hbb.2.1) x.kp,⟨x.F.ns.at' λo e=>hs.extBut _ _ (gi hbb.1) e,λc o e=>hs.extBut c o (λz=>by rw[z,hbb.2.1]at e;cases e) (x.F.keep c o e),x.F.above⟩,x.bt,hs.extBut _ _ (gi hbb.2.2) x.ol,by rw[Af];exact x.ln,λk c e=>?_⟩ (u4.more λa q=>q▸hbm);rw[zN rows i j k (by rw[x.ln];exact hi)];by_cases hk:k=i
 ·subst hk
  rw[hb1]at e;cases e;rw[if_pos rfl,c7];refine⟨vs.push (.int j u),n',hp,?_⟩;rw[AX];exact(eJ (h':=h') (G':=λ_=>False) (Internal.I.allFlat _) q2).append (.one fx)
 ·rw[if_neg hk]
  obtain⟨jO,n2,g1,g2⟩:=x.SE k c e;have mV:c≠b:=λz=>hk (by
   subst z;have e1:=(ff.mp e)
   have e2:=(ff.mp hb1)
   exact(List.getElem_inj f.nd).mp (e1.2.trans e2.2.symm))
  exact⟨jO,n2,hs.extBut _ _ mV g1,eJ (Internal.I.allFlat _) g2⟩
end
end
end Internal.B
namespace Internal.B
section
open Internal.Z (lT AS Tn)
def bF2:Stmt:=ak 1 bB
def bI:Stmt:=ak 0 (br bF2)
def DI:List Stmt:=br bI
def b3:Stmt:=ak 2 DI
def apS(st:Stmt):ae×Str×Pos:=(Ip (pA (bk st))).getD (default,"",default)
def apI(st:Stmt)(nx ny:Str):Stmt:=.Expr (.Call (.Attribute (.Subscript (.Name "beaten" (pA (apS st).1).pos) (.Name nx (IC (apS st).1).pos) (apS st).1.pos) "append" (apS st).2.2) [.Name ny (o8 0 (bk st)).pos] [] (bk st).pos) (bV st)
theorem akl:bB=[ak 0 bB,.For (.Name "second" (jF bF2)) (bk bF2) [.For (.Name "first" (jF bI)) (bk bI) DI [] (bV bI)] [] (bV bF2),.Return (some (.Name "beaten" (bk (ak 2 bB)).pos)) (bV (ak 2 bB))]:=by rfl'
theorem adb:DI=[.Assign [.Name "ahead" (jF (ak 0 DI))] (bk (ak 0 DI)) (bV (ak 0 DI)),.If (dw (ak 1 DI)) (br (ak 1 DI)) [] (bV (ak 1 DI)),.If (dw b3) [apI (ak 0 (br b3)) "first" "second"] [apI (ak 0 (dG b3)) "second" "first"] (bV b3)]:=by rfl'
theorem K4:(apS (ak 0 (br b3))).2.2.endLine=(bk (ak 0 (br b3))).pos.line/\(apS (ak 0 (dG b3))).2.2.endLine=(bk (ak 0 (dG b3))).pos.line:=by constructor<;>rfl'
theorem Jh:mu bK "ahead" (jF (ak 0 DI)) (bk (ak 0 DI))=false/\i9 (bk bF2)=true/\i9 (bk bI)=true:=⟨by rfl',by rfl',by rfl'⟩
def AR(told:List D)(H:Int)(ups:List D):cu:=[("told",.lst told),("heap",.int H),("upsets",.lst ups)]
section
variable{T:ec}
theorem akm(told H ups):(dS T 31).d bK (AR told H ups) (bk bF2)=((cH .len [.lst told]).bind λd=>some [d]).bind λds=>cH .range ds:=by rfl'
theorem akn(told H ups)(j):(dS T 31).d bK (AR told H ups++([("second",.int j)]:cu)) (bk bI)=cH .range [.int j]:=by rfl'
theorem arE(told H ups)(i j):(dS T 31).d bK (AR told H ups++([("second",.int j),("first",.int i)]:cu)) (bk (ak 0 DI))=
 ((fY (.lst told) i).bind λa=>((fY (.lst told) j).bind λb=>some [b]).bind λds=>some (a::ds)).bind λds=>T.fn "_law_ahead" ds:=by rfl'
theorem arG(told H ups)(i j k):(dS T 31).b bK (AR told H ups++([("second",.int j),("first",.int i),("ahead",.int k)]:cu)) (dw (ak 1 DI))=
 ((((aE .Pow (.int 1024) (.int j)).bind λd=>aE .FloorDiv (.int H) d).bind λa=>((aE .Pow (.int 1024) (.int i)).bind λd=>aE .FloorDiv (.int H) d).bind λb=>aE .Sub a b).bind λd=>aE .Mod d (.int 64)).bind λd=>cmp .NotEq (.int k) d:=by rfl'
theorem arH(told H ups)(i j k):(dS T 31).b bK (AR told H ups++([("second",.int j),("first",.int i),("ahead",.int k)]:cu)) (dw b3)=
 (((((((aE .Mult (.int 8) (.int i)).bind λd=>aE .Add d (.int j)).bind λd=>some [d]).bind λds=>o6 .count (.lst ups) ds).bind λd=>aE .Mod d (.int 2)).bind λd=>cmp .Eq d (.int 0)).map D.bool).bind λb=>cmp .Eq (.bool (decide (k<32))) b:=by rfl'
end
def Ji(H:Nat)(ups:List Int)(i j:Nat):Bool:=decide ((64+H/1024^j%64 - H/1024^i%64)%64<32)==(ups.count ((8*i+j:Nat):Int)%2==0)
def ja(H n:Nat):List D:=(aM n).map λi=>lT (H/1024^i)
theorem GH{H n i:Nat}(h:i<n)(hn:n<=6):fY (.lst (ja H n)) (i:Int)=some (lT (H/1024^i)):=by
 have:=Internal.Z.jq (l:=aM n) (f:=λi=>lT (H/1024^i)) (i:=i) (by rw[bY];exact h) (by rw[bY];omega);rw[Ag]at this;exact this
section
variable{T:ec}
theorem ako(hA:AS T){H n i j:Nat}(ups)(hi:i<n)(hj:j<n)(hn:n<=6):(dS T 31).d bK (AR (ja H n) H ups++([("second",.int j),("first",.int i)]:cu)) (bk (ak 0 DI))=some (.int ((64+H/1024^j%64 - H/1024^i%64)%64:Nat)):=by
 rw[arE,GH hi hn,ag,GH hj hn,ag,ag,ag];exact hA _ _
theorem YM{H i:Nat}(hi:i<6):((aE .Pow (.int 1024) (.int i)).bind λd=>aE .FloorDiv (.int H) d)=some (.int (H/1024^i:Nat)):=
 oB (Internal.Z.sP (a:=1024) (by decide) (by omega)) (Internal.Z.nJ (eZ (by decide)) (Internal.Z.C0 (n:=10) (by decide) (by omega)))
theorem QW{H i j:Nat}(told ups)(hi:i<6)(hj:j<6):(dS T 31).b bK (AR told H ups++([("second",.int j),("first",.int i),("ahead",.int ((64+H/1024^j%64 - H/1024^i%64)%64:Nat))]:cu)) (dw (ak 1 DI))=some false:=by
 rw[arG,YM hi,YM hj,ag,ag];generalize H/1024^j=y;generalize H/1024^i=x;have e:((y:Int) - (x:Int)).fmod 64=(((64+y%64 - x%64)%64:Nat):Int):=by
  rw[cy _ (by decide)];omega
 have h:aE .Mod (.int ((y:Int) - (x:Int))) (.int 64)=some (.int (((64+y%64 - x%64)%64:Nat):Int)):=by rw[<-e];rfl
 rw[Internal.Z.sub_int,ag,h,ag];show(some (((64+y%64 - x%64)%64:Nat)==(((64+y%64 - x%64)%64:Nat):Int))).map (λx=> !x)=_;rw[beq_self_eq_true];rfl
theorem akp{H i j:Nat}(told)(ups:List Int)(hi:i<6)(hj:j<6):(dS T 31).b bK (AR told H (ups.map .int)++([("second",.int j),("first",.int i),("ahead",.int ((64+H/1024^j%64 - H/1024^i%64)%64:Nat))]:cu)) (dw b3)=some (Ji H ups i j):=by
 rw[arH];have e1:aE .Mult (.int 8) (.int (i:Int))=some (.int ((8*i:Nat):Int)):=Internal.Z.RE (a:=8) (by decide) (by omega);have e2:o6 .count (.lst (ups.map .int)) [.int ((8*i+j:Nat):Int)]=some (.int (ups.count ((8*i+j:Nat):Int):Nat)):=by
  show(gM (ups.map .int)).map (λns=>D.int (ns.count ((8*i+j:Nat):Int):Nat))=_;rw[Internal.Z.zc];rfl
 have e3:=Internal.Z.i6 (a:=ups.count ((8*i+j:Nat):Int)) (b:=2) (by decide);have e4:cmp .Eq (.int ((ups.count ((8*i+j:Nat):Int)%2:Nat):Int)) (.int 0)=some (ups.count ((8*i+j:Nat):Int)%2==0):=Internal.Z.sN _ 0;rw[e1,ag,Internal.Z.add_int,ag,ag,<-eY,e2,ag,show((2:Int))=((2:Nat):Int)from rfl,e3,ag,e4];show some (decide ((((64+H/1024^j%64 - H/1024^i%64)%64:Nat):Int)<32)==(ups.count ((8*i+j:Nat):Int)%2==0))=_;unfold Ji;have:decide ((((64+H/1024^j%64 - H/1024^i%64)%64:Nat):Int)<32)=decide ((64+H/1024^j%64 - H/1024^i%64)%64<32):=decide_eq_decide.mpr (by omega);rw[this]
end
end
end Internal.B
namespace Internal.B
section
open Internal.Z (lT AS Tn)
theorem ade(w):FE pw w (jo w) (NG λ_=>none) 50:=UY w (jo w) (λ_=>none) (λ_ x=>x) (λh f p ds d _ e=>by cases e)
theorem RQ(w)(r):dP pw w (jo w) (Bu (r+50)) (Tn (λ_=>none) r):=Iw (ade w) 30 60 20 r
def kX(wn:Nat->Nat->Bool)(j:Nat)(rows:List (List Nat))(i:Nat):List (List Nat):=if wn i j=true then rows.modify i (·++[j])else rows.modify j (·++[i])
def bIn(wn:Nat->Nat->Bool)(rows:List (List Nat))(j:Nat):List (List Nat):=(aM j).foldl (kX wn j) rows
def DJ(wn:Nat->Nat->Bool)(n j:Nat):List (List Nat):=(aM j).foldl (bIn wn) (bh n [])
theorem K5(rows:List (List Nat))(i j k c:Nat)(h:(rows.getD k []).length<=c):((rows.modify i (·++[j])).getD k []).length<=c+1:=by
 rw[bp,wV];rw[bp]at h;cases e:rows[k]? with
 |none=>simp
 |some r=>
  rw[e]at h;by_cases hk:i=k
  ·simp only[hk,if_pos];simp at h⊢;omega
  ·simp only[if_neg hk];simp at h⊢;omega
theorem RS(wn j)(rows:List (List Nat))(k c:Nat)(h:(rows.getD k []).length<=c):∀i,(((aM i).foldl (kX wn j) rows).getD k []).length<=c+i:=by
 intro i
 induction i with
 |zero=>exact h
 |succ i ih=>
  rw[dM,fJ];show((kX wn j ((aM i).foldl (kX wn j) rows) i).getD k []).length<=_;unfold kX;split
  ·exact K5 _ _ _ _ _ ih
  ·exact K5 _ _ _ _ _ ih
theorem adf(wn n k):∀j,j<=6->((DJ wn n j).getD k []).length<=6*j:=by
 intro j
 induction j with
 |zero=>
  intro _;show((bh n []).getD k []).length<=_;rw[bp,ru];split<;>simp
 |succ j ih=>
  intro h;unfold DJ;rw[dM,fJ];have:=RS wn j (DJ wn n j) k _ (ih (by omega)) j;exact aq this (by omega)
section
variable{env:Env}{az s s':ah}{L al:Addr}{bs:List Addr}{m:Str->Option Value}{rows:List (List Nat)}{w:World}{A:aC}{E:Value->ah->Prop}
theorem MS.skip{h₀:Heap}{σ:cu}{n:Str}{v:Value}(ms:MS h₀ m σ)(h:look σ n=none):MS h₀ (λz=>if z=n then some v else m z) σ:=λk e he=>by
 obtain⟨u,h1,h2⟩:=ms k e he;exact⟨u,(if_neg (λz=>by rw[z,h]at he;cases he)).trans h1,h2⟩
theorem Wg{H n i j:Nat}{ups:List Int}{tj ti:Tok}{Q:Flow->ah->Prop}(f:BF env az.heap L al bs)(bu:Bu 54 A)(am:dq A (jo w) az)(hn:n<=6)(hb:bs.length=n)(hi:i<n)(hj:j<n)(hr:∀k,(rows.getD k []).length<=1000)
(x:BS az L al bs m rows s)(ms:MS az.heap m (AR (ja H n) H (ups.map .int)))(h1:m "second"=some (.int j tj))(h2:m "first"=some (.int i ti))
(h:∀s' m',BS az L al bs m' (kX (Ji H ups) j rows i) s'->MS az.heap m' (AR (ja H n) H (ups.map .int))->m' "second"=some (.int j tj)->Upd (λa=>a=L\/a∈bs) s s'->Q .next s'):
 wpAny (model pw w) A (execs DI env) Q E s:=by
 have VO:c8 pw w (jo w) (Bu 54) (dS (Tn (λ_=>none) 4) 31):=gq (RQ w 4) 31;have hA:AS (Tn (λ_=>none) 4):=Z.aki (prim:=λ_=>none) (λ_ _ _ _ _=>rfl) 1;have m2:MS az.heap m (AR (ja H n) H (ups.map .int)++([("second",.int j),("first",.int i)]:cu)):=λk e he=>by
  rcases mv _ _ he with q|q
  ·exact ms k e q
  ·unfold look at q
   split at q
   ·rename_i hk
    subst hk;cases q;exact⟨_,h1,fx⟩
   ·unfold look at q
    split at q
    ·rename_i hk
     subst hk;cases q;exact⟨_,h2,fx⟩
    ·cases q
 have y:=GG f x.F m2;have jn:=f.FC;rw[adb];refine aS (rV (ai (bw x.tk (VO.d A _ env _ _ s _ _ bu (am.keeps x.kp x.tk) y (by rw[jn];exact ako hA (ups.map .int) hi hj hn))) (λv s1 q=>?_) λ_ _ e=>e) (by rw[nz y.fn,jn,Jh.1]));obtain⟨t1,k1,r1⟩:=q;obtain⟨ta,rfl⟩:=r1.int;refine(x.keeps k1 t1).store f (by decide) (by decide) λs2 x2 u2=>?_;obtain⟨ahead,hah⟩:∃a,a=(64+H/1024^j%64 - H/1024^i%64)%64:=⟨_,rfl⟩;rw[<-hah]at x2;have m3:MS az.heap (λz=>if z="ahead" then some (.int (ahead:Nat) ta)else m z) (AR (ja H n) H (ups.map .int)++([("second",.int j),("first",.int i),("ahead",.int (ahead:Nat))]:cu)):=by
  have:=m2.put (n:="ahead") (d:=.int (ahead:Nat)) (v:=.int (ahead:Nat) ta) fx;exact this
 have mS:MS az.heap (λz=>if z="ahead" then some (.int (ahead:Nat) ta)else m z) (AR (ja H n) H (ups.map .int)):=ms.skip rfl;have g1:(λz=>if z=("ahead":Str)then some (Dr (ahead:Nat) ta)else m z) "second"=some (.int j tj):=h1;have g2:(λz=>if z=("ahead":Str)then some (Dr (ahead:Nat) ta)else m z) "first"=some (.int i ti):=h2;generalize (λz=>if z=("ahead":Str)then some (Dr (ahead:Nat) ta)else m z)=m' at x2 m3 mS g1 g2;have y2:=GG f x2.F m3;refine aS (AZ (ai (bw x2.tk (VO.b A E env _ _ s2 _ _ bu (am.keeps x2.kp x2.tk) y2 (by rw[jn,hah];exact QW (ja H n) (ups.map .int) (by omega) (by omega)))) (λb s3 q=>?_) λ_ _ e=>e));obtain⟨t3,rfl,k3⟩:=q;rw[if_neg aF];refine dD ?_;have x3:=x2.keeps k3 t3;have y3:=GG f x3.F m3;refine aS (AZ (ai (bw x3.tk (VO.b A E env _ _ s3 _ _ bu (am.keeps x3.kp x3.tk) y3 (by rw[jn,hah];exact akp (ja H n) ups (by omega) (by omega)))) (λb s4 q=>?_) λ_ _ e=>e));obtain⟨t4,rfl,k4⟩:=q;have x4:=x3.keeps k4 t4;have u4:Upd (λa=>a=L\/a∈bs) s s4:=((Upd.of k1).trans (u2.more λa q=>.inl q)).trans ((Upd.of k3).trans (Upd.of k4));have fin:∀s5,BS az L al bs m' (kX (Ji H ups) j rows i) s5->Upd (λa=>a∈bs) s4 s5->wpAny (model pw w) A (execs [] env) Q E s5:=λs5 x5 u5=>
  dD (h s5 m' x5 mS g1 (u4.trans (u5.more λa q=>.inr q)))
 unfold kX at fin;cases hw:Ji H ups i j with
 |true=>
  rw[hw,if_pos rfl]at fin;rw[if_pos rfl];exact aS (RP f x4 (by decide) (by decide) g2 g1 (by omega) (by omega) (hr i) K4.1 λs5 x5 u5=>dD (fin s5 x5 u5))
 |false=>
  rw[hw,if_neg aF]at fin;rw[if_neg aF];exact aS (RP f x4 (by decide) (by decide) g1 g2 (by omega) (by omega) (hr j) K4.2 λs5 x5 u5=>dD (fin s5 x5 u5))
end
end
end Internal.B
end
section
namespace Internal.B
open Internal.V (As lit NN fH)
def Dl(wn:Nat->Nat->Bool)(k x:Nat):Bool:=(x != k)&&(if k<x then wn k x else !wn x k)
def RV(wn:Nat->Nat->Bool)(j i k:Nat):List Nat:=
 if k<j then(aM j).filter (Dl wn k)++(if k<i/\wn k j=true then[j]else[])else if k=j then(aM i).filter (λx=> !wn x j)else[]
theorem adg(wn j)(rows:List (List Nat))(h0:∀k,k<rows.length->rows.getD k []=if k<j then(aM j).filter (Dl wn k)else[])(hj:j<rows.length):∀i,i<=j->
 ((aM i).foldl (kX wn j) rows).length=rows.length/\∀k,k<rows.length->((aM i).foldl (kX wn j) rows).getD k []=RV wn j i k:=by
 intro i
 induction i with
 |zero=>
  intro _;refine⟨rfl,λk hk=>?_⟩;show rows.getD k []=_;rw[h0 k hk];unfold RV;by_cases h:k<j
  ·rw[if_pos h,if_pos h,if_neg (by omega),c6]
  ·rw[if_neg h,if_neg h]
   split<;>simp
 |succ i ih=>
  intro hi;obtain⟨i1,i2⟩:=ih (by omega);rw[dM,fJ];generalize (aM i).foldl (kX wn j) rows=R at i1 i2;show(kX wn j R i).length=_/\∀k,_->(kX wn j R i).getD k []=_;unfold kX;cases hw:wn i j with
  |true=>
   rw[if_pos rfl];refine⟨by rw[Af];exact i1,λk hk=>?_⟩;rw[zN R i j k (by omega),i2 i (by omega),i2 k hk];unfold RV;by_cases e:k=i
   ·subst e
    have hkj:k<j:=by omega
    rw[if_pos rfl,if_pos hkj,if_pos hkj,if_neg (show¬(k<k/\wn k j=true) fromλq=>dN _ q.1),if_pos ⟨dW k,hw⟩,c6]
   ·rw[if_neg e]
    by_cases h:k<j
    ·rw[if_pos h,if_pos h]
     congr 1;by_cases h2:k<i/\wn k j=true
     ·rw[if_pos h2,if_pos ⟨by omega,h2.2⟩]
     ·rw[if_neg h2,if_neg (λq=>h2 ⟨by omega,q.2⟩)]
    ·rw[if_neg h,if_neg h]
     by_cases h2:k=j
     ·rw[if_pos h2,if_pos h2,dM,eu]
      simp[hw]
     ·rw[if_neg h2,if_neg h2]
  |false=>
   rw[if_neg aF];refine⟨by rw[Af];exact i1,λk hk=>?_⟩;rw[zN R j i k (by omega),i2 j hj,i2 k hk];unfold RV;by_cases e:k=j
   ·subst e
    rw[if_pos rfl,if_neg (dN _),if_pos rfl,if_neg (dN _),if_pos rfl,dM,eu];simp[hw]
   ·rw[if_neg e]
    by_cases h:k<j
    ·rw[if_pos h,if_pos h]
     congr 1;by_cases h2:k<i/\wn k j=true
     ·rw[if_pos h2,if_pos ⟨by omega,h2.2⟩]
     ·rw[if_neg h2,if_neg]
      intro q;by_cases h3:k=i
      ·rw[h3,hw]at q;exact absurd q.2 aF
      ·exact h2 ⟨by omega,q.2⟩
    ·rw[if_neg h,if_neg h,if_neg e,if_neg e]
theorem Wh(wn n):∀j,j<=n->(DJ wn n j).length=n/\∀k,k<n->(DJ wn n j).getD k []=if k<j then(aM j).filter (Dl wn k)else[]:=by
 intro j
 induction j with
 |zero=>
  intro _;refine⟨gk,λk hk=>?_⟩;show(bh n []).getD k []=_;rw[bp,ru,if_pos hk];rfl
 |succ j ih=>
  intro hj;obtain⟨i1,i2⟩:=ih (by omega);have e:DJ wn n (j+1)=(aM j).foldl (kX wn j) (DJ wn n j):=by
   unfold DJ;rw[dM,fJ];rfl
  obtain⟨q1,q2⟩:=adg wn j (DJ wn n j) (λk hk=>i2 k (by rw[i1]at hk;exact hk)) (by rw[i1];omega) j (b0 _);rw[e];refine⟨q1.trans i1,λk hk=>?_⟩;rw[q2 k (by rw[i1];exact hk)];unfold RV;by_cases h:k<j
  ·rw[if_pos h,if_pos (show k<j+1 by omega),dM,eu]
   congr 1;have:Dl wn k j=wn k j:=by unfold Dl;rw[if_pos h,(bne_iff_ne (a:=j) (b:=k)).mpr (by omega)];rfl
   rw[dk,List.filter_nil,this];by_cases h2:wn k j=true
   ·rw[if_pos ⟨h,h2⟩,if_pos h2]
   ·rw[if_neg (λq=>h2 q.2),if_neg h2]
  ·rw[if_neg h]
   by_cases h2:k=j
   ·subst h2
    rw[if_pos rfl,if_pos (dW k),dM,eu];have:YZ (Dl wn k) [k]=[]:=by simp[Dl]
    rw[this,c6];apply lg;intro x hx;have hx:=cL.mp hx;unfold Dl;rw[if_neg (by omega),(bne_iff_ne (a:=x) (b:=k)).mpr (by omega)];rfl
   ·rw[if_neg h2,if_neg (show¬k<j+1 by omega)]
def aWp(k:Nat):Option (Nat×Nat):=((aM 6).flatMap λj=>(aM j).map λi=>(i,j)).find? λp=>p.2*(p.2 - 1)/2+p.1==k
def aW(wn:Nat->Nat->Bool)(k:Nat):Bool:=((aWp k).map λp=>wn p.1 p.2).getD false
theorem adh:∀j,j<6->∀i,i<j->aWp (j*(j - 1)/2+i)=some (i,j):=by decide
theorem YN(wn):∀j,j<6->∀i,i<j->aW wn (j*(j - 1)/2+i)=wn i j:=λj hj i hi=>by
 unfold aW;rw[adh j hj i hi];rfl
theorem akq(wn:Nat->Nat->Bool)(n)(hn:n<=6):DJ wn n n=fH (aW wn) n:=by
 obtain⟨q1,q2⟩:=Wh wn n n (b0 _);apply amD
 ·rw[q1];unfold fH;rw[aj,bY]
 ·intro k h1 h2
  have hk:k<n:=by omega
  have:=q2 k hk;rw[bp,bz h1,B5,if_pos hk]at this;rw[this];have e3:(fH (aW wn) n)[k]=(aM n).filter λj=>(j != k)&&lit (aW wn) (NN k j):=by
   have:=Internal.V.qD (aW wn) n hk;rw[bp,bz h2,B5]at this;exact this
  rw[e3];apply lg;intro x hx;have hx:=cL.mp hx;unfold Dl;by_cases e:x=k
  ·subst e;simp
  ·rw[(bne_iff_ne (a:=x) (b:=k)).mpr e,Bool.true_and,Bool.true_and]
   unfold lit NN;by_cases h:k<x
   ·rw[if_pos h,if_pos h]
    dsimp only;rw[YN wn x (by omega) k h];cases wn k x<;>rfl
   ·rw[if_neg h,if_neg h]
    dsimp only;rw[YN wn k (by omega) x (by omega)];cases wn x k<;>rfl
end Internal.B
namespace Internal.V
open Internal.Z (pf)
def dn(r p:Nat):List Nat:=[1,r,p].take (if p≠0 then 3 else if r≠0 then 2 else 1)
theorem GI(w r p)(h:r=0->p=0):pf w (dn r p)=1+r*2^w+p*(2^w*2^w):=by
 unfold dn;by_cases hp:p=0
 ·subst hp
  by_cases hr:r=0
  ·subst hr;simp[pf]
  ·simp[hr,pf,eS]
 ·simp[hp,pf,mT,eS,Sh,Ad,amJ]
theorem Jj(w r p)(hw:8<=w)(hr:r<254)(hp:p<254):∀d∈dn r p,d<2^w:=by
 intro d hd;have h8:2^8<=2^w:=bM (by decide) hw;have:=YW hd;simp at this;rcases this with h|h|h<;>omega
theorem Dm(r p):(dn r p).getLastD 1≠0:=by
 unfold dn;by_cases hp:p=0
 ·subst hp
  by_cases hr:r=0
  ·subst hr;simp
  ·simp[hr]
 ·simp[hp]
theorem RW(b r p:Nat)(hb:2<=b):1+r*b+p*(b*b)=(1+2*r+4*p)+(b - 2)*(r+p*(b+2)):=by
 obtain⟨c,rfl⟩:∃c,b=c+2:=⟨b - 2,by omega⟩
 rw[Nat.add_sub_cancel];simp only[mT,Hi,eS,amJ];omega
end Internal.V
end
section
open PySem PySem.W PyProof.Rows
namespace Internal.Z
section
def lK:bW:=uk "law"
def lB:List Stmt:=bo "law"
section
variable{T:ec}
def tc:D:=((dS NJ 31).d lK [] (bk (ak 0 lB))).getD .none
def ph:List Int:=Ks tc
theorem Wi:tc=.lst (ph.map .int):=by rfl'
theorem GJ:ph.length=4:=by rfl'
theorem Wj:ph.all (λx=>decide (0<=x))=true:=by rfl'
abbrev kS(cW:List D)(zO:D):cu:=[("script",.lst cW),("owns",zO)]
def zP:ae:=bk (ak 1 lB)
def Jk:ae:=o8 0 (IC (ai1 zP))
abbrev BY:Int:=1000000000000000000000000000000000
theorem k_in(cW zO)(p t):iF (dS T 27) (ou (kS cW (.lst zO)) (.int p) zP) Jk (.int t)=((fY (.lst cW) t).bind λd=>aE .Mod d (.int BY)).map λd=>[d]:=by rfl'
theorem akr(cW zO)(p):cOk (Qx zP) (ou (kS cW (.lst zO)) (.int p) zP) Jk=true:=by rfl'
theorem aks(cW zO)(p):(dS T 27).d (Qx zP) (ou (kS cW (.lst zO)) (.int p) zP) (qg Jk)=
 ((((((cH .len [.lst cW]).bind λd=>some [d]).bind λds=>some (.int 60::ds)).bind λds=>cH .min ds).bind λm=>some [m,.int 4]).bind λds=>some (.int p::ds)).bind λds=>cH .range ds:=by rfl'
theorem akt(cW zO)(p):iF (dS T 30) (kS cW (.lst zO)) zP (.int p)=
 ((fY (.lst zO) p).bind λa=>((((dS T 28).d (Qx zP) (ou (kS cW (.lst zO)) (.int p) zP) Jk).bind λd=>some [d]).bind λds=>cH .sum ds).bind λb=>aE .Add a b).map λd=>[d]:=by rfl'
theorem tX(c):∀(n:Nat)(a:Int),kU a c n=(aM n).map λi=>D.int (a+c*(i:Nat)):=by
 intro zx
 induction zx with
 |zero=>
  rintro _;exact rfl
 |succ n ih=>
  rintro a;rw[kU,ih,SP,bH,eO];congr 1
  ·simp
  ·apply adT
   intro i _;show D.int (a+c+c*(i:Int))=D.int (a+c*((i+1:Nat):Int));congr 1;push_cast;rw[adZ];omega
theorem Wl(p m:Nat)(hp:p<=3)(hm:m<=60):∃N,items (.nZ p m 4)=some ((aM N).map λi=>D.int ((p:Int)+4*(i:Nat)))/\N<=60/\∀i,i<N->p+4*i<m:=by
 have all:∀p:Nat,p<4->∀m:Nat,m<61->km p m 4=true/\iJ p m 4<=60/\∀i:Nat,i<iJ p m 4->p+4*i<m:=by decide
 obtain⟨DB,h1,h2⟩:=all p (Dy hp) m (Dy hm);refine⟨iJ p m 4,?_,h1,h2⟩;rw[ET,if_pos DB,tX]
theorem adi(a b):cH .range [.int a,.int b,.int 4]=some (.nZ a b 4):=by
 show(if(4:Int)≠0/\sm 4=true then some (D.nZ a b 4)else none)=_;rw[if_pos ⟨by decide,kz (by decide) (by decide)⟩]
theorem arK(a b):cH .min [.int a,.int b]=some (.int (if b<a then b else a)):=rfl
theorem Wn{l:List Int}:cH .sum [.lst (l.map .int)]=some (.int l.sum):=by
 show(gM (l.map .int)).map (λns=>D.int ns.sum)=_;rw[zc];rfl
theorem k_one(cW:List Int)(hl:cW.length<=63)(p:Nat)(hp:p<=3):∃h:Nat,iF (dS T 30) (kS (cW.map .int) (.lst (ph.map .int))) zP (.int p)=some [di h]:=by
 have fX:=d9;have hpl:p<ph.length:=by rw[GJ];omega
 obtain⟨m,hm⟩:∃m,m=min 60 cW.length:=⟨_,rfl⟩;obtain⟨N,hN,axZ,hNi⟩:=Wl p m hp (by omega);have aku:(dS T 27).d (Qx zP) (ou (kS (cW.map .int) (.lst (ph.map .int))) (.int p) zP) (qg Jk)=some (.nZ p m 4):=by
  rw[aks,mw (by rw[aj];omega),ag,ag,ag,aj];have:cH .min [.int 60,.int (cW.length:Int)]=some (.int (m:Int)):=by
   have h2:(if(cW.length:Int)<60 then(cW.length:Int)else 60)=(m:Int):=by split<;>omega
   rw[arK,h2]
  rw[this,ag,ag,ag,adi]
 have e:=ik (T:=T) (V:=dS T 27) (ks:=Qx zP) (σ:=ou (kS (cW.map .int) (.lst (ph.map .int))) (.int p) zP) (e:=Jk) (d:=.nZ p m 4) (φ:=λi:Nat=>D.int ((p:Int)+4*(i:Nat))) (xs:=aM N) (g:=λi=>[D.int ((cW.getD (p+4*i) 0).fmod BY)])
  (akr ..) aku hN (λi hi=>?_) (by rw[eR,aj,bY];omega)
 ·rw[eR]at e
  obtain⟨ns,Cp⟩:∃ns,ns=(aM N).map λi=>(cW.getD (p+4*i) 0).fmod BY:=⟨_,rfl⟩
  have e2:((aM N).map λi=>D.int ((cW.getD (p+4*i) 0).fmod BY))=ns.map .int:=by rw[Cp,eO];rfl
  rw[e2]at e;have hnn:0<=ns.sum:=by
   have:∀x∈ns,0<=x:=λx hx=>by
    rw[Cp]at hx;obtain⟨i,_,rfl⟩:=Li hx;exact Int.fmod_nonneg_of_pos _ (by decide)
   clear e2 e Cp;induction ns with
   |nil=>simp
   |cons a l ih=>
    rw[qM];have h1:=this a (aA ..);have h2:=ih λx hx=>this x (aD _ hx);omega
  have ho:0<=ph[p]:=by
   have:=aw.mp Wj _ (hZ hpl);simpa using this
  refine⟨(ph[p]+ns.sum).toNat,?_⟩;rw[akt,jq hpl (by rw[GJ];decide),ag];rw[show(dS T 28).d (Qx zP) (ou (kS (cW.map .int) (.lst (ph.map .int))) (.int p) zP) Jk=some (.lst (ns.map .int))from e,ag,ag,Wn,ag];show some [D.int (ph[p]+ns.sum)]=some [D.int (((ph[p]+ns.sum).toNat:Nat):Int)];rw[zX (by omega)]
 ·have hi:=hNi i (cL.mp hi)
  rw[k_in,show(p:Int)+4*(i:Int)=((p+4*i:Nat):Int)by push_cast;rfl,jq (by omega) (by omega),ag];show(dA (if BY≠0 then some (D.int (cW[p+4*i].fmod BY))else none) none).map _=_;rw[if_pos (by decide),ox (by omega)];rfl
theorem Wo(cW:List Int)(hl:cW.length<=63):∃h0 h1 h2 h3:Nat,(dS T 31).d lK (kS (cW.map .int) tc) zP=some (dl [h0,h1,h2,h3]):=by
 have fX:=d9;obtain⟨h0,e0⟩:=k_one (T:=T) cW hl 0 (by decide);obtain⟨h1,e1⟩:=k_one (T:=T) cW hl 1 (by decide);obtain⟨h2,e2⟩:=k_one (T:=T) cW hl 2 (by decide);obtain⟨h3,e3⟩:=k_one (T:=T) cW hl 3 (by decide);refine⟨h0,h1,h2,h3,?_⟩;rw[Wi];refine y6 (d:=.nZ 0 4 1) (ds:=[.int 0,.int 1,.int 2,.int 3]) (by rfl') (by rfl') (by rfl') ?_ (by rw[fX];show(4:Nat)<=1048576;decide);show((iF _ _ zP (.int ((0:Nat):Int))).bind λa=>((iF _ _ zP (.int ((1:Nat):Int))).bind λb=>((iF _ _ zP (.int ((2:Nat):Int))).bind λc=>((iF _ _ zP (.int ((3:Nat):Int))).bind λd=>(some []).bind λe=>some (d++e)).bind λx=>some (c++x)).bind λx=>some (b++x)).bind λx=>some (a++x))=_;rw[e0,e1,e2,e3];rfl
end
end
section
section
variable{T:ec}
theorem Wq(n:Nat)(l:List Int):cmp .NotEq (.lst (l.map .int)) (.lst (l.map .int))=some false:=by
 show(dA (if(l.map D.int).length=(l.map D.int).length then sd (rA 39) (l.map .int) (l.map .int)else some false) _).map (λx=> !x)=_;rw[if_pos rfl,zo];rfl
theorem Wr{n:Nat}(h:n<=30):aE .Pow (.int 2) (.int n)=some (.int (2^n:Nat)):=sP (a:=2) (by decide) (aq h (by decide))
end
end
end Internal.Z
end
section
set_option exponentiation.threshold 2000
namespace Internal.Z
theorem adj(n)(x):∀l:List Nat,2^(n*l.length)*x<=pf n (l++[x]):=by
 intro zx
 induction zx with
 |nil=>
  simp[pf]
 |cons y l ih=>
  have ih:=ih;rw[cz,pf,bD,lz,jx (n*l.length) n,iy,Sh];have:=cY (2^n) ih;omega
theorem Ws(h:2^k<=x):k+1<=jd x:=by
 unfold jd;have:x≠0:=by have:=eZ (a:=2) (n:=k) (by decide);omega
 rw[if_neg this];have:=(Nat.le_log2 this).mpr h;omega
theorem Wt(hn:0<n)(l)(x)(hx:0<x)(h:∀d∈l++[x],d<2^n):fG n (pf n (l++[x]))=l++[x]:=by
 have h1:=QF n (l++[x]) h;have h2:2^(n*l.length)<=pf n (l++[x]):=aq (SU _ hx) (adj n x l);have b1:=j8 h1;have b2:=Ws h2;have hl:(l++[x]).length=l.length+1:=by simp
 have hc:pC n (pf n (l++[x]))=(l++[x]).length:=by
  unfold pC;rw[hl]at b1⊢;rw[lz]at b1;generalize jd (pf n (l++[x]))=b at b1 b2;exact Nat.div_eq_of_lt_le (by rw[W4,eS];omega) (by rw[W4,W4,eS];omega)
 unfold fG;rw[hc];exact IU n _ h
end Internal.Z
end
section
open PySem PySem.W PyProof.Rows
namespace Internal.Z
open Internal.V
theorem adk:∀(xs:List Int)(s:US),0<=s.before->(∀x∈s.ups,0<=x)->∀x∈(xs.foldl jR s).ups,0<=x:=by
 intro xs
 induction xs with
 |nil=>intro s _ h;exact h
 |cons y ys ih=>
  intro s h1 h2;rw[ki];refine ih (jR s y) ?_ ?_
  ·unfold jR
   split
   ·exact h1
   ·split
    ·dsimp only;omega
    ·dsimp only;omega
  ·unfold jR
   split
   ·exact h2
   ·split
    ·intro z hz
     dsimp only at hz;rcases fO.mp hz with hz|hz
     ·exact h2 z hz
     ·rw[aY.mp hz];unfold Vy;omega
    ·exact h2
theorem Wu{x:Int}{xs:List Int}(h:256<=x):∀z∈((x::xs).foldl jR ⟨[],-1,0⟩).ups,0<=z:=by
 rw[ki];have e:jR ⟨[],-1,0⟩ x=⟨[],x - 256,0⟩:=by
  unfold jR;rw[if_neg (by omega),if_neg (λq=>absurd q.1 (by decide))]
 rw[e];exact adk xs _ (by dsimp only;omega) (λz hz=>nomatch hz)
theorem adl(y:Int)(l:List Int)(h:∀z∈l,z≠y):cmp .In (.int y) (.lst (l.map .int))=some false:=by
 have:cmp .In (.int y) (.lst (l.map .int))=some (decide (y∈l)):=MC y l;rw[this,decide_eq_false λq=>h y q rfl]
def NQ(L:List Nat):List Nat:=(aM L.length).flatMap λj=>(L.take j).filter λx=>iN (L.getD j 0) x==0
theorem pairs_len:∀L:List Nat,(NQ L).length=(gV apart L).length:=by
 have step:∀(L:List Nat)(y:Nat),(gV apart (L++[y])).length=(gV apart L).length+(L.filter λx=>apart x y).length:=by
  intro L y
  induction L with
  |nil=>rfl
  |cons x t ih=>
   rw[cz,gV,gV,aG,aG,ih,aj,aj,eu,aG,dk,dk];cases apart x y<;>simp<;>omega
 intro L
 induction L using zj with
 |h0=>rfl
 |h1 L y ih=>
  rw[step,<-ih];unfold NQ;rw[aG,tQ,dM,ad6,aG];have e1:((aM L.length).flatMap λj=>((L++[y]).take j).filter λx=>iN ((L++[y]).getD j 0) x==0)=(aM L.length).flatMap λj=>(L.take j).filter λx=>iN (L.getD j 0) x==0:=by
   refine zy _ _ _ λj hj=>?_;have hj:=cL.mp hj;rw[GX (cx hj),bp,List.getElem?_append_left hj,<-bp]
  rw[e1];refine congrArg (_+·) ?_;rw[List.flatMap_singleton,Lf,bp,List.getElem?_append_right (b0 _),Nat.sub_self];refine congrArg qp (lg λx _=>?_);show(y &&& x==0)=(x &&& y==0)
  rw[Nat.and_comm]
theorem RX(a:As){n:Nat}(h:n<=6):Tb (fH a n) n where
 ln:=by unfold fH;rw[aj,bY]
 n6:=h
 SE i:=by
  by_cases hi:i<n
  ·rw[qD a n hi]
   exact aq (tO ..) (by rw[bY];exact h)
  ·unfold fH
   rw[bp,iP (by rw[aj,bY];omega)];exact de _
 rows m h1 row hr:=by
  rw[zA]at hr;have hr:=(gy.mp hr).1;exact⟨(qk m n row hr).1,(wM m n row hr).2,(qk m n row hr).2⟩
theorem akv(a:As){n:Nat}(h:n=4\/n=5\/n=6):RU (fH a n) n=kO a n:=by
 rw[MZ];rcases h with rfl|rfl|rfl
 ·show[]++ip (fH a 4) 3=_
  rw[if_neg (by decide),iH,c6]
 ·show([]++ip (fH a 5) 3)++ip (fH a 5) 5=_
  rw[if_pos (by decide),iH]
 ·show([]++ip (fH a 6) 3)++ip (fH a 6) 5=_
  rw[if_pos (by decide),iH]
end Internal.Z
namespace Internal.B
section
open Internal.Z (lT AS Tn)
theorem Upd.Nb(u:Upd (λa=>G a\/s.heap.get? a=none) s s'):Upd G s s':=by
 obtain⟨h,tk,e,k⟩:=u;exact⟨h,tk,e,λb o nb e=>k b o (λq=>q.elim nb λz=>by rw[z]at e;cases e) e⟩
section
variable{env:Env}{az s s':ah}{L al:Addr}{bs:List Addr}{m:Str->Option Value}{rows:List (List Nat)}{w:World}{A:aC}{E:Value->ah->Prop}
theorem BS.low(x:BS az L al bs m rows s):(s.heap.get? L).isSome=true/\(s.heap.get? al).isSome=true/\∀b∈bs,(s.heap.get? b).isSome=true:=by
 refine⟨(zM x.F).2,by rw[x.ol];rfl,λb hb=>?_⟩;obtain⟨i,hi,e⟩:=adW hb;obtain⟨vs,n,h1,_⟩:=x.SE i b (by rw[bz hi,e]);rw[show s.heap.get? b=some _ from h1];rfl
theorem BS.YO{I:Addr}(f:BF env az.heap L al bs)(x:BS az L al bs m rows s)(y:BS az L al bs m' auP s1)(hI:s1.heap.get? I=none)(u:Upd (λa=>a=I) s s')(t:1<=s'.toks):BS az L al bs m rows s':=by
 obtain⟨h1,h2,h3⟩:=y.low;exact x.iter f u t (JS (Keeps.all y.kp) hI) (λz=>nS hI (z▸h1)) (λz=>nS hI (z▸h2)) (λb hb z=>nS hI (z▸h3 b hb))
theorem BS.bg(f:BF env az.heap L al bs)(x:BS az L al bs m rows s){a:Addr}(h:a=L\/a∈bs):BG az.heap s.heap a:=by
 obtain⟨h1,h2,h3⟩:=x.low;rcases h with rfl|h
 ·exact⟨(zM x.F).1,h1⟩
 ·exact⟨(f.nb a h).2.1,h3 a h⟩
theorem yY{H n j:Nat}{ups:List Int}{tj:Tok}{it:ae}{p1 p2:Pos}{Q:Flow->ah->Prop}(hit:it=bk bI)(f:BF env az.heap L al bs)(bu:Bu 54 A)(am:dq A (jo w) az)(hn:n<=6)(hb:bs.length=n)(hj:j<n)(hr:∀k,(rows.getD k []).length<=100)
(x:BS az L al bs m rows s)(ms:MS az.heap m (AR (ja H n) H (ups.map .int)))(h1:m "second"=some (.int j tj))
(h:∀s' m',BS az L al bs m' (bIn (Ji H ups) rows j) s'->MS az.heap m' (AR (ja H n) H (ups.map .int))->Upd (λa=>a=L\/a∈bs) s s'->Q .next s'):
 wpAny (model pw w) A (exec (.For (.Name "first" p1) it DI [] p2) env) Q E s:=by
 subst hit;have VO:c8 pw w (jo w) (Bu 54) (dS (Tn (λ_=>none) 4) 31):=gq (RQ w 4) 31;have m2:MS az.heap m (AR (ja H n) H (ups.map .int)++([("second",.int j)]:cu)):=λk e he=>by
  rcases mv _ _ he with q|q
  ·exact ms k e q
  ·unfold look at q
   split at q
   ·rename_i hk
    subst hk;cases q;exact⟨_,h1,fx⟩
   ·cases q
 have adn:=j7 j (by rw[d9];omega);have hlen:((aM j).map di).length=j:=by rw[aj,bY]
 refine RO (K:=λi s1=>∃m',BS az L al bs m' ((aM i).foldl (kX (Ji H ups) j) rows) s1/\MS az.heap m' (AR (ja H n) H (ups.map .int))/\m' "second"=some (.int j tj)/\Upd (λa=>(a=L\/a∈bs)\/s.heap.get? a=none) s s1)
  VO bu (am.keeps x.kp x.tk) (GG f x.F m2) Jh.2.2 (by rw[f.FC,akn];rfl) adn (λi s1 q=>?_) (λs1 k1 t1=>⟨m,x.keeps k1 t1,ms,h1,Upd.of k1⟩) (λi I s1 s2 hI _ u t q=>?_) (λi hi s1 v E' q r=>?_) (λs1 q=>?_)
 ·obtain⟨_,q,_⟩:=q;exact q.tk
 ·obtain⟨m',q1,q2,q3,q4⟩:=q
  exact⟨m',q1.YO f x hI u t,q2,q3,q4.trans (u.more λa z=>.inr (z▸hI))⟩
 ·obtain⟨m',q1,q2,q3,q4⟩:=q
  rw[hlen]at hi;rw[amK,Ag]at r;obtain⟨ti,rfl⟩:=r.int;refine g0 (q1.store f (by decide) (by decide) λs2 x2 u2=>?_);refine Wg (i:=i) (j:=j) (tj:=tj) (ti:=ti) f bu am hn hb (by omega) hj (λk=>aq (RS _ _ _ _ _ (hr k) i) (by omega)) x2 (q2.skip rfl) ?_ ?_ λs3 m3 x3 ms3 g1 u3=>⟨rfl,⟨m3,?_,ms3,g1,?_⟩,?_⟩
  ·exact q3
  ·rfl
  ·rw[dM,fJ];exact x3
  ·exact q4.trans ((u2.more λa z=>.inl (.inl z)).trans (u3.more λa z=>.inl z))
  ·exact(u2.more λa z=>x.bg f (.inl z)).trans (u3.more λa z=>x.bg f z)
 ·obtain⟨m',q1,q2,q3,q4⟩:=q
  rw[hlen]at q1;exact h s1 m' q1 q2 (Upd.Nb q4)
theorem RY{H n:Nat}{ups:List Int}{it it2:ae}{p1 p2 p3 p4:Pos}{Q:Flow->ah->Prop}(hit:it=bk bF2)(adn:it2=bk bI)(f:BF env az.heap L al bs)(bu:Bu 54 A)(am:dq A (jo w) az)(hn:n<=6)(hb:bs.length=n)
(x:BS az L al bs m (bh n []) s)(ms:MS az.heap m (AR (ja H n) H (ups.map .int)))
(h:∀s' m',BS az L al bs m' (DJ (Ji H ups) n n) s'->Q .next s'):
 wpAny (model pw w) A (exec (.For (.Name "second" p1) it [.For (.Name "first" p3) it2 DI [] p4] [] p2) env) Q E s:=by
 subst hit;have VO:c8 pw w (jo w) (Bu 54) (dS (Tn (λ_=>none) 4) 31):=gq (RQ w 4) 31;have arN:=j7 n (by rw[d9];omega);have hlen:((aM n).map di).length=n:=by rw[aj,bY]
 refine RO (K:=λj s1=>∃m',BS az L al bs m' (DJ (Ji H ups) n j) s1/\MS az.heap m' (AR (ja H n) H (ups.map .int)))
  VO bu (am.keeps x.kp x.tk) (GG f x.F ms) Jh.2.1 (d:=.nZ 0 n 1) ?_ arN (λi s1 q=>?_) (λs1 k1 t1=>⟨m,x.keeps k1 t1,ms⟩) (λi I s1 s2 hI _ u t q=>?_) (λj hj s1 v E' q r=>?_) (λs1 q=>?_)
 ·rw[f.FC,akm,mw (by unfold ja;rw[aj,bY,d9];omega)]
  unfold ja;rw[aj,bY];rfl
 ·obtain⟨_,q,_⟩:=q;exact q.tk
 ·obtain⟨m',q1,q2⟩:=q
  exact⟨m',q1.YO f x hI u t,q2⟩
 ·obtain⟨m',q1,q2⟩:=q
  rw[hlen]at hj;rw[amK,Ag]at r;obtain⟨tj,rfl⟩:=r.int;refine g0 (q1.store f (by decide) (by decide) λs2 x2 u2=>?_);refine aS (yY (j:=j) (tj:=tj) adn f bu am hn hb hj (λk=>aq (adf _ _ k j (by omega)) (by omega)) x2 (q2.skip rfl) rfl λs3 m3 x3 ms3 u3=>?_);refine dD ⟨rfl,⟨m3,?_,ms3⟩,?_⟩
  ·unfold DJ at x3⊢
   rw[dM,fJ];exact x3
  ·exact(u2.more λa z=>x.bg f (.inl z)).trans (u3.more λa z=>x.bg f z)
 ·obtain⟨m',q1,_⟩:=q
  rw[hlen]at q1;exact h s1 m' q1
end
end
end Internal.B
namespace Internal.B
open Internal.Z (lT AS Tn)
def je:A0:=(jE.find? (λd=>d.name==("_law_beaten":Str))).getD ⟨("":Str),default,[],default,default⟩
theorem GK:je∈jE:=by
 have:(jE.find? (λd=>d.name==("_law_beaten":Str))).isSome=true:=by rfl'
 obtain⟨d,hd⟩:=ay.mp this;have e:je=d:=by unfold je;rw[hd];rfl
 rw[e];exact dY hd
theorem zQ:je.params.args.map (·.arg)=(["told","heap","upsets"]:List Str)/\je.name=("_law_beaten":Str)/\je.body=bB/\je.scope.names=bK:=⟨by rfl',by rfl',by rfl',by rfl'⟩
theorem Wv{h:Heap}{F:Addr->Prop}:∀(rows:List (List Nat))(bs:List Addr),rows.length=bs.length->(∀i b,bs[i]? =some b->Acc (λ_=>False) h b ((rows.getD i []).map di)/\¬F b)->aZ h F (rows.map Z.dl) (bs.map .ref):=by
 intro rows
 induction rows with
 |nil=>intro bs e _;rw[ix e.symm];exact .nil
 |cons r rows ih=>
  intro bs e h;cases bs with
  |nil=>cases e
  |cons b bs=>
   obtain⟨⟨vs,n,h1,h2⟩,h3⟩:=h 0 b rfl;exact .cons (g8 (vs:=vs.toList) h3 h1 (eJ (Internal.I.allFlat _) h2)) (ih bs (Le e) λi b e=>h (i+1) b e)
theorem GL{w:World}{A:aC}{E:Value->ah->Prop}{F:Addr->Prop}{s:ah}{a:Addr}{o:Obj}{pm cv doc:Value}{H n:Nat}{ups:List Int}{vs:List Value}(ho:s.heap.get? a=some o)(hd:o.data=.func (cJ je.name je.params je.body je.scope pm cv doc))
(rc:s.heap.CodeRec cv je.name)(bu:Bu 60 A)(am:dq A (jo w) s)(lo:iQ F s.heap)(rs:aZ s.heap F [.lst (ja H n),.int H,.lst (ups.map .int)] vs)(hn:n<=6):
 wpAny (model pw w) A (call (.ref a) vs) (gU F s (.lst ((DJ (Ji H ups) n n).map Z.dl))) E s:=by
 have rk:=rL (aw.mp xA _ GK);obtain⟨f1,f2,f3,f4⟩:=zQ;have hvl:=rs.length;obtain⟨v1,r1,rfl,q1,rs⟩:=rs.eM;obtain⟨v2,r2,rfl,q2,rs⟩:=rs.eM;obtain⟨v3,r3,rfl,q3,rs⟩:=rs.eM;obtain rfl:=rs.m7;have yS:=j2 (fd:=cJ je.name je.params je.body je.scope pm cv doc) (vs:=[v1,v2,v3]) rk.k1 rk.k2 rk.k3 rk.k4 rfl rk.k5 (by rw[show(cJ je.name je.params je.body je.scope pm cv doc).params=je.params from rfl,f1];rfl);rw[show(cJ je.name je.params je.body je.scope pm cv doc).params=je.params from rfl,f1]at yS;have ado:∀x∈je.scope.names,x.2≠.cell:=λx hx=>by
  rw[f4]at hx;have:=aw.mp zL x hx;simp at this;exact this.1
 refine GW (call_plain (bj (aq (dU _ 60) bu.1) (by decide)) ho hd am.nl rc yS (λx hx=>?_) (λia akw=>?_) rk.k8 rk.k7 rk.k6 ado)
 ·have hm:=(gA hx).1
  rw[f4];simp only[aJ,dm,or_false]at hm;rcases hm with e|e|e<;>rw[e]<;>decide
 rw[f3];generalize ij:envOf je.name je.scope s.heap.objs.size a cv=env at*;have e1:env.scope.names=bK:=by rw[<-ij];exact f4
 have e2:env.scope.kind=.function:=by rw[<-ij];exact rk.k6
 have e3:env.locals=s.heap.objs.size:=by rw[<-ij];rfl
 have e4:env.cells=[]/\env.globals=mainGlobals/\env.builtins=builtinsNs:=by rw[<-ij];exact⟨rfl,rfl,rfl⟩
 have bu':Bu 54 (A.deeper env):=(bu.less (by decide:55<=60)).deeper env;have am':dq (A.deeper env) (jo w) s:=⟨am.hh,am.nb,am.nl,am.gl,am.tk,by have:=bu.2;rw[eL];omega,am.la⟩
 obtain⟨ax,vl,k,rfl,nax,hil,hrl⟩:=q1.lst;have hlen:=hrl.length;have hlen:vl.length=n:=by rw[hlen];unfold ja;rw[aj,bY]
 rw[akl];refine aS (ai (bw (aq am.tk (dU _ _)) (RN (Q:=λf s'=>f=.next/\∃al bs m,bs.length=n/\BF env s.heap s.heap.objs.size al bs/\MS s.heap m (AR (ja H n) H (ups.map .int))/\(1<=s'.toks->BS s s.heap.objs.size al bs m (bh n []) s')) am.hh e1 e2 e3 akw rfl hil.isList (by rw[aX,hlen];omega) λal bs h tk g1 g2 g3 g4 g5=>?_)) (λf s2 q=>?_) λ_ _ e=>e)
 ·have hbl:bs.length=n:=by rw[g1,aX,hlen]
  refine⟨rfl,al,bs,_,hbl,⟨e2,e1,e4.2.1,e4.2.2,e4.1,e3,g2,λb hb=>⟨(g4 b hb).2.1,(g4 b hb).2.2.1,(g4 b hb).2.2.2⟩,g5.2⟩,?_,λt=>⟨t,⟨h,tk,rfl,g3.keep⟩,g3,rfl,g5.1,by rw[gk,hbl],λi b e=>⟨#[],0,(g4 b (gC e)).1,?_⟩⟩⟩
  ·refine MS.skip (n:="beaten") ?_ rfl
   intro k d e;unfold AR at e;unfold look at e;split at e
   ·rename_i hk;subst hk;cases e
    exact⟨_,rfl,q1.less λb q=>q.elim⟩
   ·unfold look at e
    split at e
    ·rename_i hk;subst hk;cases e
     exact⟨_,rfl,q2.less λb q=>q.elim⟩
    ·unfold look at e
     split at e
     ·rename_i hk;subst hk;cases e
      exact⟨_,rfl,q3.less λb q=>q.elim⟩
     ·cases e
  ·have:(bh n ([]:List Nat)).getD i []=[]:=by
    rw[bp,ru];split<;>rfl
   rw[this];exact .nil
 obtain⟨t2,rfl,al,bs,m,hbl,bf,ms,x⟩:=q;have x:=x t2;refine aS (RY rfl rfl bf bu' am' hn hbl x ms λs3 m3 x3=>?_);refine aS (g6 (bf.load x3.F (by decide) (by decide) x3.bt ?_));have nF:∀b,s.heap.get? b=none->¬F b:=λb e q=>nS e (lo b q);exact⟨x3.kp,g8 (vs:=bs.map .ref) (nF al bf.na.2) x3.ol (Wv _ bs x3.ln λi b e=>⟨x3.SE i b e,nF b (bf.nb b (gC e)).2.1⟩)⟩
end Internal.B
namespace Internal.B
open Internal.Z (lT AS Tn NP)
open Internal.I (BP lS Gj oA QT zq)
def akx:List D->Option (D×D×D)
 |[]=>none
 |a::l=>(QT l).map λx=>(a,x)
theorem Nc{ds:List D}{x:D×D×D}(h:akx ds=some x):ds=[x.1,x.2.1,x.2.2]:=by
 cases ds with
 |nil=>exact no h
 |cons a l=>
  obtain⟨y,h1,rfl⟩:=dC h;rw[Internal.I.ux h1]
open Classical in
def pB (ds:List D):Option D:=(akx ds).bind λx=>(Gj x.1).bind λl=>(BP x.2.1).bind λh=>(Gj x.2.2).bind λu=>(gM u).bind λups=>
 if l.length<=6/\0<=h/\l=ja h.toNat l.length then some (.lst ((DJ (Ji h.toNat ups) l.length l.length).map Z.dl))else none
def fS(f:Str):Option (List D->Option D):=if f=("_law_beaten":Str)then some pB else none
theorem iq:NP fS:=λf _ _ _ h=>by
 unfold fS;rw[if_neg (by simpa using h)]
theorem td(H n):(ja H n).length=n:=by unfold ja;rw[aj,bY]
theorem aky(H n:Nat)(ups:List Int)(hn:n<=6):pB [.lst (ja H n),.int H,.lst (ups.map .int)]=some (.lst ((DJ (Ji H ups) n n).map Z.dl)):=by
 refine oB (a:=(.lst (ja H n),.int H,.lst (ups.map .int))) rfl (oB (a:=ja H n) rfl (oB (a:=(H:Int)) rfl (oB (a:=ups.map .int) rfl (oB (a:=ups) (Z.zc ups) ?_))));rw[if_pos ⟨by rw[td];exact hn,bF _,by rw[td,aR]⟩,td,aR]
def BT(T:ec):Prop:=∀(H n:Nat)(ups:List Int),n<=6->T.fn "_law_beaten" [.lst (ja H n),.int H,.lst (ups.map .int)]=some (.lst ((DJ (Ji H ups) n n).map Z.dl))
theorem YQ(r:Nat):BT (Tn fS (r+1)):=λH n ups hn=>by
 have e:∀ds,(Tn fS (r+1)).fn "_law_beaten" ds=pB ds:=λds=>by
  show(match(NG fS).prim "_law_beaten" with
   |some p=>p ds
   |none=>(NG fS).run 30 60 20 (Tn fS r) "_law_beaten" ds)=_
  rw[show(NG fS).prim "_law_beaten"=some pB from(if_pos rfl:fS "_law_beaten"=some pB)]
 rw[e];exact aky H n ups hn
theorem akz(w:World)(h:Heap)(ds:List D)(d:D)(la:jo w h)(e:pB ds=some d):∃a o fd,Gv h "_law_beaten" (.ref a)/\h.get? a=some o/\o.data=.func fd/\
 ∀(A:aC)(E:Value->ah->Prop) F s vs,Bu 60 A->dq A (jo w) s->iQ F s.heap->bT h s.heap->aZ s.heap F ds vs->wpAny (model pw w) A (call (.ref a) vs) (gU F s d) E s:=by
 obtain⟨mg,mb,L⟩:=la;obtain⟨a,o,pm,code,doc,g1,g2,g3,g4⟩:=L.fn je GK;rw[zQ.2.1]at g1;refine⟨a,o,_,⟨mg,L.g,g1⟩,g2,g3,λA E F s vs bu am lo kh rs=>?_⟩;obtain⟨x,e1,e⟩:=aO e;obtain⟨l,e2,e⟩:=aO e;obtain⟨i,e3,e⟩:=aO e;obtain⟨u,e4,e⟩:=aO e;obtain⟨ups,e5,e⟩:=aO e;split at e
 case isFalse=>cases e
 rename_i c;cases e;obtain⟨c1,c2,c3⟩:=c;rw[Nc e1,oA e2,lS e3,oA e4,zq e5]at rs;obtain⟨H,rfl⟩:=fP c2;rw[aR]at c3⊢;rw[c3]at rs;exact GL (kh _ _ g2) g3 (g4.keeps kh) bu am lo rs c1
theorem adp(w):FE pw w (jo w) (NG fS) 60:=UY w (jo w) fS (λh q=>q) (λh f p ds d la hp e=>by
 unfold fS at hp;obtain⟨rfl,rfl⟩:=bx hp;exact akz w h ds d la e)
theorem wR(w)(r):dP pw w (jo w) (Bu (r+60)) (Tn fS r):=Iw (adp w) 30 60 20 r
end Internal.B
namespace Internal.Z
section
set_option genSizeOfSpec false in
set_option genInjectivity false in
structure Lp where
 (sc rd ups told qn rings pairs digits:List D) (a b c e count width orders:Int) (tx:Str)
section
variable{T:ec}(p:Lp)
abbrev hpD(a b c e:Int):D:=.lst [.int a,.int b,.int c,.int e]
abbrev l2S:cu:=[("script",.lst p.sc),("owns",tc),("heaps",hpD p.a p.b p.c p.e),("width",.int p.width),("count",.int p.count)]
abbrev l4S:cu:=l2S p++([("text",.str p.tx),("meant",.lst p.rd),("read",.lst p.rd)]:cu)
abbrev l6S:cu:=l4S p++([("told",.lst p.told),("upsets",.lst p.ups)]:cu)
abbrev l8S:cu:=l6S p++([("beaten",.lst p.qn)]:cu)
abbrev SM:cu:=l8S p++([("orders",.int p.orders),("rings",.lst p.rings)]:cu)
abbrev Ww:cu:=SM p++([("pairs",.lst p.pairs)]:cu)
abbrev DK:cu:=Ww p++([("digits",.lst p.digits)]:cu)
def lE(i j:Nat):ae:=Aa j (ak i lB)
theorem akD(sc a b c e):(dS T 31).d lK (kS sc tc++([("heaps",hpD a b c e)]:cu)) (lE 2 0)=(aE .Mod (.int e) (.int 3)).bind λd=>aE .Add (.int 4) d:=by rfl'
theorem akE(sc a b c e):(dS T 31).d lK (kS sc tc++([("heaps",hpD a b c e)]:cu)) (lE 2 1)=((aE .FloorDiv (.int e) (.int 3)).bind λd=>aE .Mod d (.int 23)).bind λd=>aE .Add (.int 8) d:=by rfl'
theorem adq:(dS T 31).d lK (l2S p) (bk (ak 3 lB))=T.fn "_law_page" [.int p.count,.int p.a,.int p.b]:=by rfl'
theorem akF:(dS T 31).d lK (l4S p) (lE 6 0)=((aE .Add (.lst p.rd) (.lst [.int 255,.int (-1)])).bind λd=>some [d]).bind λds=>T.fn "_law_upsets" ds:=by rfl'
theorem akG:(dS T 31).d lK (l4S p) (lE 6 1)=T.fn "_law_colours" [.int p.c,.int p.count]:=by rfl'
theorem arP:(dS T 31).b lK (l6S p) (dw (ak 7 lB))=X7 (cmp .In (.int (-1)) (.lst p.ups)) (X7 (cmp .Eq (.lst p.told) (.lst [])) (some false)):=by rfl'
theorem akH:(dS T 31).d lK (l6S p) (bk (ak 8 lB))=T.fn "_law_beaten" [.lst p.told,.int p.c,.lst p.ups]:=by rfl'
theorem arQ:(dS T 31).b lK (l8S p) (dw (ak 9 lB))=cmp .Eq (.lst p.qn) (.lst []):=by rfl'
theorem akI:(dS T 31).d lK (l8S p) (bk (ak 10 lB))=T.fn "_law_orders" [.lst p.qn]:=by rfl'
def NR:ae:=bk (ak 11 lB)
theorem akJ(j):iF (dS T 30) (SM p) NR (.int j)=(yj (.lst p.rings) none (some j)).bind λd=>(items d).bind λds=>gN (ui (dS T 30) (ou (SM p) (.int j) NR) NR) ds:=by rfl'
theorem akK(j)(x):ui (dS T 30) (ou (SM p) (.int j) NR) NR (.int x)=((((fY (.lst p.rings) j).bind λd=>aE .BitAnd d (.int x)).bind λd=>cmp .Eq d (.int 0)).bind λc=>if c=true then some true else some false).bind λc=>if c=true then some [.int x]else some []:=by rfl'
theorem akL:(dS T 30).d lK (SM p) (qg NR)=((cH .len [.lst p.rings]).bind λd=>some [d]).bind λds=>cH .range ds:=by rfl'
theorem akM:cOk lK (SM p) NR=true:=by rfl'
theorem akN:(dS T 31).d lK (Ww p) (bk (ak 12 lB))=
 (((((cH .len [.lst p.rings]).bind λa=>((cH .len [.lst p.pairs]).bind λb=>some [b]).bind λds=>some (a::ds)).bind λds=>some (D.int 1::ds)).bind λds=>if ds.length<=ei then some (D.lst ds)else none).bind λo=>
   ((((cmp .NotEq (.lst p.pairs) (.lst [])).bind λb=>if b=true then some (D.int 3)else(cmp .NotEq (.lst p.rings) (.lst [])).bind λb=>if b=true then some (D.int 2)else some (D.int 1)).bind intD).map some).bind λb=>yj o none b):=by rfl'
end
end
section
section
variable{T:ec}(p:Lp)
theorem arR(n)(h1:(dS T 31).d lK (kS p.sc tc) zP=some (hpD p.a p.b p.c p.e))(hc:(aE .Mod (.int p.e) (.int 3)).bind (λd=>aE .Add (.int 4) d)=some (.int p.count))
(hw:((aE .FloorDiv (.int p.e) (.int 3)).bind λd=>aE .Mod d (.int 23)).bind (λd=>aE .Add (.int 8) d)=some (.int p.width))(h3:T.fn "_law_page" [.int p.count,.int p.a,.int p.b]=some (.tup [.str p.tx,.lst p.rd]))(h4:T.fn "_law_read" [.str p.tx]=some (.lst p.rd))(h5:cmp .NotEq (.lst p.rd) (.lst p.rd)=some false):
 cO (c9 (Va T) lK [] 60 (Xa T lK [] (n+1))) [ak 0 lB,ak 1 lB,ak 2 lB,ak 3 lB,ak 4 lB,ak 5 lB] [("script",.lst p.sc)] []=some (.nx (l4S p) []):=by
 refine fb (bZ tc (by rfl')) ?_;refine fb (ze [.int p.a,.int p.b,.int p.c,.int p.e] (tr h1)) ?_;refine fb (mN ["count","width"] [lE 2 0,lE 2 1] (ej (nW ((akD p.sc p.a p.b p.c p.e).trans hc)) (ej (nW ((akE p.sc p.a p.b p.c p.e).trans hw)) mM))) ?_;refine fb (mO (.tup [.str p.tx,.lst p.rd],false) (nW ((adq p).trans h3))) ?_;refine fb (bZ (.lst p.rd) (tr h4)) ?_;exact cM (b:=[]) (tr h5) (fR (bs:=[]) rfl) rfl
theorem arU(n)(h6:aE .Add (.lst p.rd) (.lst [.int 255,.int (-1)])=some (.lst rd2))(h7:T.fn "_law_upsets" [.lst rd2]=some (.lst p.ups))(h8:T.fn "_law_colours" [.int p.c,.int p.count]=some (.lst p.told))
(g1:cmp .In (.int (-1)) (.lst p.ups)=some false)(g2:cmp .Eq (.lst p.told) (.lst [])=some false)(g3:T.fn "_law_beaten" [.lst p.told,.int p.c,.lst p.ups]=some (.lst p.qn))(g4:cmp .Eq (.lst p.qn) (.lst [])=some false):
 cO (c9 (Va T) lK [] 60 (Xa T lK [] (n+1))) [ak 6 lB,ak 7 lB,ak 8 lB,ak 9 lB] (l4S p) []=some (.nx (l8S p) []):=by
 refine fb (mN ["upsets","told"] [lE 6 0,lE 6 1] (ej (nW ((akF p).trans (oB (oB h6 rfl) h7))) (ej (nW ((akG p).trans h8)) mM))) ?_;refine cM (b:=[]) ((arP p).trans (by rw[g1,g2];rfl)) (fR (bs:=[]) rfl) ?_;refine fb (bZ (.lst p.qn) ((akH p).trans g3)) ?_;exact cM (b:=[]) ((arQ p).trans g4) (fR (bs:=[]) rfl) rfl
theorem arV(n)(k1:T.fn "_law_orders" [.lst p.qn]=some (.tup [.int p.orders,.lst p.rings]))(k2:(dS T 31).d lK (SM p) NR=some (.lst p.pairs))(k3:(dS T 31).d lK (Ww p) (bk (ak 12 lB))=some (.lst p.digits)):
 cO (c9 (Va T) lK [] 60 (Xa T lK [] (n+1))) [ak 10 lB,ak 11 lB,ak 12 lB] (l8S p) []=some (.nx (DK p) []):=by
 refine fb (mO (.tup [.int p.orders,.lst p.rings],false) (nW ((akI p).trans k1))) ?_;refine fb (ze p.pairs k2) ?_;exact fb (bZ (.lst p.digits) k3) rfl
end
end
section
open Internal.V
theorem Wx(a b:Nat):aE .BitAnd (.int a) (.int b)=some (.int (iN a b:Nat)):=by
 show some (D.int (iZ a b))=_;unfold iZ;rw[decide_eq_true (bF a),decide_eq_true (bF b)];rfl
section
variable{T:ec}(p:Lp)
theorem Wy{rs:List Nat}(hp:p.rings=rs.map di)(hl:rs.length<=300)(hl2:(NQ rs).length<=300):(dS T 31).d lK (SM p) NR=some (.lst ((NQ rs).map di)):=by
 have fX:=d9;have key:((aM rs.length).flatMap λj=>((rs.take j).filter λx=>iN (rs.getD j 0) x==0).map di)=(NQ rs).map di:=by
  unfold NQ;rw[amH]
 have e:=ik (T:=T) (V:=dS T 30) (ks:=lK) (σ:=SM p) (e:=NR) (d:=.nZ 0 rs.length 1) (φ:=di) (xs:=aM rs.length) (g:=λj=>((rs.take j).filter λx=>iN (rs.getD j 0) x==0).map di)
  (akM p) ((akL p).trans (by rw[hp,Vb (by rw[aj];omega),aj])) (j7 _ (by omega)) (λj hj=>?_) (by rw[key,aj];omega)
 ·rw[key]at e;exact e
 ·have hj:=cL.mp hj
  refine(akJ p j).trans ?_;rw[hp,Uu,if_pos (by rw[aj];omega),ag,abL];have es:sl none (some (j:Int)) rs=rs.take j:=by
   unfold sl;rw[MB (cx hj)];rfl
  rw[es];show gN _ ((rs.take j).map di)=_;have:=sG (φ:=di) (xs:=rs.take j) (g:=λx=>if(iN (rs.getD j 0) x==0)=true then[di x]else[]) (f:=ui (dS T 30) (ou (SM p) (.int j) NR) NR) (λx hx=>?_)
  ·refine this.trans (congrArg some ?_)
   exact mx (p:=λx=>iN (rs.getD j 0) x==0) (f:=di) (rs.take j)
  ·refine(akK p j x).trans ?_
   rw[hp,F7 hj (by omega),ag,show aE .BitAnd (di rs[j]) (D.int (x:Int))=_ from Wx rs[j] x,ag,show cmp .Eq (.int (iN rs[j] x:Nat)) (.int 0)=some (iN rs[j] x==0)from sN _ 0,F8,ox hj];rfl
theorem RZ{rs ps:List Nat}(hp:p.rings=rs.map di)(hq:p.pairs=ps.map di)(hl:rs.length<=300)(hl2:ps.length<=300):(dS T 31).d lK (Ww p) (bk (ak 12 lB))=some (.lst ((dn rs.length ps.length).map di)):=by
 have fX:=d9;have ne:∀l:List Nat,cmp .NotEq (.lst (l.map di)) (.lst [])=some (!l.isEmpty):=λl=>by
  show(cmp .Eq (.lst (l.map di)) (.lst [])).map (λx=> !x)=_;rw[CY,List.isEmpty_map];rfl
 refine(akN p).trans ?_;rw[hp,hq,mw (by rw[aj];omega),mw (by rw[aj];omega),ne,ne,aj,aj];cases ps with
 |cons y ps=>rfl
 |nil=>
  cases rs with
  |nil=>rfl
  |cons x rs=>rfl
end
end
end Internal.Z
namespace Internal.Z
open Internal.V
open Internal.B (BT YQ fS iq ja Ji DJ)
structure LS(T:ec):Prop where
 akO:∀ct ty ma:Nat,4<=ct->ct<=6->∃t r,PI 8 t r/\T.fn "_law_page" [di ct,di ty,di ma]=some (.tup [.str (mk t),.lst ((r++[0]).map .int)])
 read:∀(cs:List Nat)(vs:List Int),cs.length<=1000->(∀c∈cs,lq c=false->(mP c).length<=100)->IM (gG cs) vs->vs.length<60->T.fn "_law_read" [.str (mk cs)]=some (.lst ((vs++[0]).map .int))
 ups:∀xs:List Int,xs.length<=1000->(∀x∈xs,x.natAbs<=2000)->T.fn "_law_upsets" [.lst (xs.map .int)]=some (.lst ((xs.foldl jR ⟨[],-1,0⟩).ups.map .int))
 ks:KS T
 bt:BT T
 ord:∀(b:List (List Nat))(n:Nat),Tb b n->1<=n->T.fn "_law_orders" [.lst (b.map dl)]=some (.tup [di (eH b n).length,.lst ((RU b n).map di)])
theorem akP(r:Nat):LS (Tn fS (r+3)) where
 akO ct ty ma h1 h2:=by
  obtain⟨t,r',I,h⟩:=ajL (T:=Tn fS (r+2)) ct ty ma h1 h2;exact⟨t,r',I,fq (["count","typing","marks"]:List Str) (iq _ (by decide) (by decide) (by decide) (by decide)) h⟩
 read cs vs h1 h2 h3 h4:=fq (["text"]:List Str) (iq _ (by decide) (by decide) (by decide) (by decide)) (ai9 (X6 iq (r+1)) (sM fS _) cs vs h1 h2 h3 h4)
 ups xs h1 h2:=fq (["symbols"]:List Str) (iq _ (by decide) (by decide) (by decide) (by decide)) (acs (X6 iq (r+1)) xs h1 h2)
 ks:=akj iq r
 bt:=YQ (r+2)
 ord b n t h:=fq (["beaten"]:List Str) (iq _ (by decide) (by decide) (by decide) (by decide)) (ajN t h)
theorem ads(h:Seg p vs):∀x∈vs,x.natAbs<=2000:=by
 induction h with
 |nil=>intro x hx;cases hx
 |«let» hl _ ih=>
  intro x hx;rcases aJ.mp hx with rfl|hx
  ·have:=List.idxOf_lt_length_of_mem hl
   have h6:dh.length=6:=rfl;unfold F9;omega
  ·exact ih x hx
 |op hi _ _ _ ih=>
  intro x hx;rcases aJ.mp hx with rfl|hx
  ·omega
  ·exact ih x hx
structure qo(p:Lp)(width O R P:Nat):Prop where
 wd:8<=width/\width<=30
 ew:p.width=width
 eo:p.orders=O
 ed:p.digits=(dn R P).map di
 oc:O=1+2*R+4*P
 o4:O<254
 rp:R=0->P=0
set_option maxHeartbeats 0 in
theorem Nd {T:ec} (hT:LS T) (cW:List Int) (hl:cW.length<=63) (n0:Nat):∃p width O R P,qo p width O R P/\
 cO (c9 (Va T) lK [] 60 (Xa T lK [] (n0+1))) ([ak 0 lB,ak 1 lB,ak 2 lB,ak 3 lB,ak 4 lB,ak 5 lB]++([ak 6 lB,ak 7 lB,ak 8 lB,ak 9 lB]++[ak 10 lB,ak 11 lB,ak 12 lB])) [("script",.lst (cW.map .int))] []=some (.nx (DK p) []):=by
 have fX:=d9;obtain⟨a,b,c,e,hh⟩:=Wo (T:=T) cW hl;obtain⟨ct,hct⟩:∃k,k=4+e%3:=⟨_,rfl⟩;obtain⟨wd,hwd⟩:∃k,k=8+e/3%23:=⟨_,rfl⟩;have hc6:4<=ct/\ct<=6:=by omega
 have arW:8<=wd/\wd<=30:=by omega
 obtain⟨t,r,I,akQ⟩:=hT.akO ct a b hc6.1 hc6.2;have htl:=I.tl;have hrr:=I.rl;have akR:=hT.read t r (by omega) I.b3 I.sg.toks (by omega);have hbd:∀x∈r++[0,255,-1],x.natAbs<=2000:=λx hx=>by
  rcases fO.mp hx with hx|hx
  ·exact ads I.sg x hx
  ·simp at hx
   rcases hx with rfl|rfl|rfl<;>decide
 have akS:=hT.ups (r++[0,255,-1]) (by rw[aG];simp;omega) hbd;obtain⟨x0,xs0,rfl,hx0⟩:=I.hd (by decide);have adu:=Wu (x:=x0) (xs:=xs0++[0,255,-1]) hx0;rw[<-cz]at adu;generalize ((x0::xs0++[0,255,-1]).foldl jR ⟨[],-1,0⟩).ups=ups at akS adu;have arX:=hT.ks c ct hc6.2;have hbt:=hT.bt c ct ups hc6.2;rw[Internal.B.akq _ _ hc6.2]at hbt;generalize Internal.B.aW (Ji c ups)=A at hbt;have Wz:=hT.ord (fH A ct) ct (RX A hc6.2) (by omega);have akT:ct=4\/ct=5\/ct=6:=by omega
 rw[akv A akT]at Wz;obtain⟨o1,o2⟩:=ocf A ct akT;obtain⟨rs,hrs⟩:∃rs,rs=kO A ct:=⟨_,rfl⟩;rw[<-hrs]at Wz o1;rw[<-pairs_len rs]at o1;generalize (eH (fH A ct) ct).length=O at*;have hbl:0<(fH A ct).length:=by unfold fH;rw[aj,bY];omega
 generalize fH A ct=bt at*;have oe:0<(ja c ct).length:=by rw[Internal.B.td];omega
 have h6:aE .Add (.lst ((x0::xs0++[0]).map .int)) (.lst [.int 255,.int (-1)])=some (.lst ((x0::xs0++[0,255,-1]).map .int)):=by
  rw[qy (by rw[aj,aG];exact aq (jf (show(x0::xs0).length+1<=900 by omega) 2) (by decide)),c7,c7,eN];rfl
 have hC:(aE .Mod (.int e) (.int 3)).bind (λd=>aE .Add (.int 4) d)=some (.int ct):=oB (i6 (a:=e) (b:=3) (by decide)) (by rw[hct,eY];rfl);have hW:((aE .FloorDiv (.int e) (.int 3)).bind λd=>aE .Mod d (.int 23)).bind (λd=>aE .Add (.int 8) d)=some (.int wd):=
  oB (oB (nJ (a:=e) (b:=3) (by decide) (kz (by decide) (by decide))) (i6 (b:=23) (by decide))) (by rw[hwd,eY];rfl)
 have ne:∀l:List D,0<l.length->cmp .Eq (.lst l) (.lst [])=some false:=λl h=>by
  rw[CY];cases l with
  |nil=>cases h
  |cons x xs=>rfl
 have hdl:(NQ rs).length<=300/\rs.length<=300:=by omega
 obtain⟨p,hp⟩:∃p:Lp,p=⟨wZ D.int cW,wZ D.int (x0::xs0++[0]),wZ D.int ups,ja c ct,bt.map dl,rs.map di,(NQ rs).map di,(dn rs.length (NQ rs).length).map di,a,b,c,e,ct,wd,O,mk t⟩:=⟨_,rfl⟩;have q1:p.rings=rs.map di:=by rw[hp]
 have q2:p.pairs=(NQ rs).map di:=by rw[hp]
 have k2:=Wy (T:=T) p q1 hdl.2 hdl.1;have k3:=RZ (T:=T) p q1 q2 hdl.2 hdl.1;have ed:p.digits=(dn rs.length (NQ rs).length).map di:=by rw[hp]
 rw[<-q2]at k2;rw[<-ed]at k3;have e1:p.count=ct:=by rw[hp]
 have e2:p.rd=wZ D.int (x0::xs0++[0]):=by rw[hp]
 have e3:p.tx=mk t:=by rw[hp]
 have e4:p.a=a:=by rw[hp]
 have e5:p.b=b:=by rw[hp]
 have e6:p.c=c:=by rw[hp]
 have e7:p.e=e:=by rw[hp]
 have e8:p.width=wd:=by rw[hp]
 have e9:p.orders=O:=by rw[hp]
 have f1:p.ups=wZ D.int ups:=by rw[hp]
 have f2:p.told=ja c ct:=by rw[hp]
 have f3:p.qn=bt.map dl:=by rw[hp]
 have f4:p.sc=cW.map D.int:=by rw[hp]
 clear hp;have t0:(dS T 31).d lK (kS p.sc tc) zP=some (hpD p.a p.b p.c p.e):=by rw[f4,e4,e5,e6,e7];exact hh
 have t1:T.fn "_law_page" [.int p.count,.int p.a,.int p.b]=some (.tup [.str p.tx,.lst p.rd]):=by rw[e1,e4,e5,e3,e2];exact akQ
 have t2:T.fn "_law_read" [.str p.tx]=some (.lst p.rd):=by rw[e3,e2];exact akR
 have t3:cmp .NotEq (.lst p.rd) (.lst p.rd)=some false:=by rw[e2];exact Wq 0 _
 have B1:=arR p n0 t0 (by rw[e7,e1];exact hC) (by rw[e7,e8];exact hW) t1 t2 t3;have B2:=arU (T:=T) p n0 (by rw[e2];exact h6) (by rw[f1];exact akS) (by rw[e6,e1,f2];exact arX) (by rw[f1];exact adl _ _ λz hz q=>by have:=adu z hz;omega) (by rw[f2];exact ne _ oe) (by rw[f2,e6,f1,f3];exact hbt) (by rw[f3];exact ne _ (by rw[aj];exact hbl));have B3:=arV p n0 (by rw[f3,e9,q1];exact Wz) k2 k3;rw[f4]at B1;exact⟨p,wd,O,rs.length,(NQ rs).length,⟨arW,e8,e9,ed,o1,o2,λh=>by rw[ix h];rfl⟩,xD B1 (xD B2 B3)⟩
end Internal.Z
namespace Internal.B
section
open Internal.I (zt)
def wU:List Stmt×List DO×ae×Pos:=([],[],default,default)
def trQ(s:Stmt):List Stmt×List DO×ae×Pos:=
 tN (motive_2:=λ_=>List Stmt×List DO×ae×Pos) s (λ_ _ _ _ _ _ _ _ _ _=>wU) (λ_ _ _ _ _ _ _ _ _ _=>wU) (λ_ _ _ _ _ _ _ _ _ _ _=>wU) (λ_ _=>wU) (λ_ _=>wU) (λ_ _ _=>wU) (λ_ _ _ _ _ _ _=>wU) (λ_ _ _ _=>wU) (λ_ _ _ _ _=>wU) (λ_ _ _ _ _=>wU) (λ_ _ _ _ _=>wU) (λ_ _ _ _=>wU) (λ_ _ _ _=>wU) (λ_ _ _=>wU) (λ_ _ _=>wU) (λ_ _ _=>wU) (λe _ p=>([],[],e.getD default,p)) (λa b _ _ p=>(a,b,default,p)) (λ_ _ _ _ _=>wU) (λ_ _ _=>wU) (λ_ _=>wU) (λ_ _ _ _=>wU) (λ_ _=>wU) (λ_ _=>wU) (λ_ _=>wU) (λ_=>wU) (λ_=>wU) (λ_=>wU)
def hdQ:List DO->Option ae×List Stmt×Pos
 |.ExceptHandler t _ b p::_=>(t,b,p)
 |[]=>(none,[],default)
def cK(e:ae):=((aeR e).map λx=>x.1.2.1).getD default
def zB:List Stmt:=bo "_law_refused"
def zK:bW:=uk "_law_refused"
def zC:ae:=bk (ak 0 (trQ (ak 0 zB)).1)
def zH:Option ae×List Stmt×Pos:=hdQ (trQ (ak 0 zB)).2.1
def zR:Stmt:=ak 0 zH.2.1
theorem akU:zB=.Try [.Expr (.Call (.Name "int_divmod" (pA zC).pos) [.Name "number" (o8 0 zC).pos,o8 1 zC] [] zC.pos) (bV (ak 0 (trQ (ak 0 zB)).1))] [.ExceptHandler (some (.Name "ZeroDivisionError" (zH.1.getD default).pos)) none [.Return (some (.Constant (.bool true) (cK (bk zR)) (bk zR).pos)) (bV zR)] zH.2.2] [] [] (trQ (ak 0 zB)).2.2.2::zB.tail:=by rfl'
def iB:List Stmt:=bo "int_divmod"
def iK:bW:=uk "int_divmod"
def iR:Stmt:=ak 0 (br (ak 0 iB))
theorem Qg:iB=.If (dw (ak 0 iB)) [.Raise (some (.Name "ZeroDivisionError" (trQ iR).2.2.1.pos)) none (trQ iR).2.2.2] (dG (ak 0 iB)) (bV (ak 0 iB))::iB.tail:=by rfl'
theorem adv(x):tJ ((dS NJ 7).d zK [("number",.int x)]) [.Name "number" (o8 0 zC).pos,o8 1 zC]=some [.int x,.int 0]:=by rfl'
theorem CU(x):(dS NJ 7).b iK [("a",.int x),("b",.int 0)] (dw (ak 0 iB))=some true:=by rfl'
def d6(n:Str):A0:=(jE.find? (λd=>d.name==n)).getD ⟨("":Str),default,[],default,default⟩
theorem GN{n:Str}(this:(jE.find? (λd=>d.name==n)).isSome=true):d6 n∈jE:=by
 obtain⟨d,hd⟩:=ay.mp this;have e:d6 n=d:=by unfold d6;rw[hd];rfl
 rw[e];exact dY hd
theorem GO:d6 "_law_refused"∈jE:=GN (by rfl')
theorem GP:d6 "int_divmod"∈jE:=GN (by rfl')
structure RF(f:Str)(ps:List Str)(body:List Stmt)(ks:bW):Prop where
 p:(d6 f).params.args.map (·.arg)=ps
 n:(d6 f).name=f
 b:(d6 f).body=body
 k:(d6 f).scope.names=ks
 CR:(ks.all λy=>y.2 != .cell&&y.2 != .free)=true
 loc:(ps.all λx=>decide (ks.lookup x=some .local))=true
theorem zS:RF "_law_refused" ["number"] zB zK:=⟨by rfl',by rfl',by rfl',by rfl',by rfl',by rfl'⟩
theorem zT:RF "int_divmod" ["a","b"] iB iK:=⟨by rfl',by rfl',by rfl',by rfl',by rfl',by rfl'⟩
section
variable{w:World}{A:aC}{s:ah}
theorem K6{R:GV->ah->Prop}{n:Str}{ps:List Str}{body:List Stmt}{ks:bW}{a:Addr}{o:Obj}{pm cd doc:Value}{vs:List Value}(hm:d6 n∈jE)(f:RF n ps body ks)(sz:A.depth<recursionLimit)(ho:s.heap.get? a=some o)
(hd:o.data=.func (cJ (d6 n).name (d6 n).params (d6 n).body (d6 n).scope pm cd doc))(fX:s.heap.NoLimit)(rc:s.heap.CodeRec cd (d6 n).name)(hl:vs.length=ps.length)
(h:∀ia,Fr s.heap s.heap.objs.size ia (λx=>(ps.zip vs).reverse.lookup x)->(d6 n).scope.kind=.function->
   wpAny (model pw w) (A.deeper (envOf (d6 n).name (d6 n).scope s.heap.objs.size a cd)) (execs body (envOf (d6 n).name (d6 n).scope s.heap.objs.size a cd))
    (λf s'=>R (.ok (.ret (match f with|.ret v=>v|_=>.none))) s')
    (λe s'=>wpAny (model pw w) (A.deeper (envOf (d6 n).name (d6 n).scope s.heap.objs.size a cd)) (leaving (envOf (d6 n).name (d6 n).scope s.heap.objs.size a cd) e)
      (λ_ Lw=>R (.error e) Lw) (λe' Lw=>R (.error e') Lw) s')
    {s with heap:=ia,toks:=s.toks+(ps.zip vs).length}):codeAny (model pw w) A (.call (.ref a) ⟨vs,[]⟩) R s:=by
 have rk:=rL (aw.mp xA _ hm);have yS:=j2 (fd:=cJ (d6 n).name (d6 n).params (d6 n).body (d6 n).scope pm cd doc) (vs:=vs) rk.k1 rk.k2 rk.k3 rk.k4 rfl rk.k5 (by rw[show(cJ (d6 n).name (d6 n).params (d6 n).body (d6 n).scope pm cd doc).params=(d6 n).params from rfl,f.p];exact hl);rw[show(cJ (d6 n).name (d6 n).params (d6 n).body (d6 n).scope pm cd doc).params=(d6 n).params from rfl,f.p]at yS;refine call_plain sz ho hd fX rc yS (λx hx=>?_) (λia F=>f.b▸h ia F rk.k6) rk.k8 rk.k7 rk.k6 (λx hx=>?_)
 ·rw[f.k]
  exact of_decide_eq_true (aw.mp f.loc _ (gA hx).1)
 ·rw[f.k]at hx
  have:=aw.mp f.CR x hx;simp at this;exact this.1
end
theorem YR{name:Str}{scope:Scope}{L a:Addr}{cd:Value}{h₀ h:Heap}{m:Str->Option Value}{σ:cu}{ks:bW}(hk:scope.kind=.function)(hn:scope.names=ks)(CR:(ks.all λy=>y.2 != .cell&&y.2 != .free)=true)(F:Fr h₀ L h m)(ms:MS h₀ m σ):In (envOf name scope L a cd) (BG h₀ h) σ h:=by
 have nc:∀n,(envOf name scope L a cd).kindOf n≠some .cell/\(envOf name scope L a cd).kindOf n≠some .free:=λn=>by
  show scope.names.lookup n≠_/\scope.names.lookup n≠_;rw[hn];constructor<;>intro h
  ·have:=aw.mp CR _ (mem_of_lookup h)
   simp at this
  ·have:=aw.mp CR _ (mem_of_lookup h)
   simp at this
 refine⟨hk,rfl,rfl,λb q=>q.2,zM F,λn c e=>(by cases e),λn n' c e=>(by cases e),λn hn=>absurd hn (nc n).1,m,F.ns,λn d e=>⟨λ_=>?_,λhc=>hc.elim (λq=>absurd q (nc n).1) λq=>absurd q (nc n).2⟩⟩;obtain⟨v,h1,h2⟩:=ms n d e;exact⟨v,h1,bU.kept (F:=λ_=>False) (λb o _ e=>F.keep b o e) (λb q=>.inr q.1) _ _ h2⟩
theorem akV{name:Str}{scope:Scope}{L a:Addr}{cd:Value}{h:Heap}{m:Str->Option Value}{ks:bW}(hk:scope.kind=.function)(hn:scope.names=ks)(CR:(ks.all λy=>y.2 != .cell&&y.2 != .free)=true)(ns:h.Ns L m):In (envOf name scope L a cd) (λb=>b=L) [] h:=by
 refine⟨hk,rfl,rfl,λb q=>?_,rfl,λn c e=>(by cases e),λn n' c e=>(by cases e),λn h=>?_,m,ns,λn d e=>(by cases e)⟩
 ·obtain⟨o,_,_,e,_⟩:=ns
  rw[q,e];rfl
 ·have h:scope.names.lookup n=some .cell:=h
  rw[hn]at h;have:=aw.mp CR _ (mem_of_lookup h);simp at this
theorem Bv.slots{h h':Heap}{n:Str}{v:Value}(x:Bv h n v)(u:h.UpToSlots h'):Bv h' n v:=by
 obtain⟨mg,mb,a,b,c,d⟩:=x;exact⟨mg,mb,u.ns a,b,u.ns c,d⟩
theorem Below.adw{A:aC}{base h h':Heap}{outer:List Env}(K:Below A base outer h)(k:bT h h'):Below A base outer h':=
 ⟨K.stack,λb o e=>k b o (K.stays b o e),K.frames.of_keeps λb o e _=>⟨o,k b o e,rfl⟩⟩
end
end Internal.B
namespace Internal.B
section
open Internal.I (zt)
abbrev ZX:String:="ZeroDivisionError"
theorem Dn:isSubtype (.type ZX) (.type ZX)=pure true/\isSubtype (.type ((Manifest.find? ZX).elim "type" λx=>x.metatype)) (.type "tuple")=pure false:=⟨by rw[isSubtype_type];rfl',by rw[isSubtype_type];rfl'⟩
theorem K7:FR ZX=true:=nA (by rfl')
def PZ(base:Heap)(s:ah)(v:Value)(s':ah):Prop:=v=.bool true/\∃h tk,s'={s with heap:=h,toks:=tk}/\base.StaysIn h/\s.heap.UpToSlots h
section
variable{w:World}{A:aC}{E:Value->ah->Prop}{s:ah}{base:Heap}{outer:List Env}
theorem Nf{R:GV->ah->Prop}{akW:Env}{fa:Addr}{o:Obj}{pm cd doc:Value}{x:Int}{vs:List Value}(K:Below A base (akW::outer) s.heap)(ho:s.heap.get? fa=some o)(hd:o.data=.func (cJ (d6 "int_divmod").name (d6 "int_divmod").params (d6 "int_divmod").body (d6 "int_divmod").scope pm cd doc))
(rc:s.heap.CodeRec cd (d6 "int_divmod").name)(bu:Bu 40 A)(am:dq A (jo w) s)(rs:aZ s.heap (λ_=>False) [.int x,.int 0] vs)
(h:∀e a0 h' tk,Heap.FlyingW base (akW::outer) e (.type ZX) a0 h'->s.heap.UpToSlots h'->R (.error (.ref e)) {s with heap:=h',toks:=tk}):codeAny (model pw w) A (.call (.ref fa) ⟨vs,[]⟩) R s:=by
 have rf:=zT;refine K6 GP rf (bj (aq (dU _ 40) bu.1) (by decide)) ho hd am.nl rc (by rw[rs.length];rfl) λia F SK=>?_;have K3:=K.push (name:=(d6 "int_divmod").name) (a:=fa) (cd:=cd) F SK;have ms:MS s.heap (λx=>((["a","b"]:List Str).zip vs).reverse.lookup x) [("a",.int x),("b",.int 0)]:=by
  obtain⟨v1,r1,rfl,q1,rs⟩:=rs.eM;obtain⟨v2,r2,rfl,q2,rs⟩:=rs.eM;obtain rfl:=rs.m7;intro k d e;unfold look at e;split at e
  ·rename_i hk;subst hk;cases e;exact⟨_,rfl,q1⟩
  ·unfold look at e
   split at e
   ·rename_i hk;subst hk;cases e;exact⟨_,rfl,q2⟩
   ·cases e
 have y:=YR (name:=(d6 "int_divmod").name) (a:=fa) (cd:=cd) SK rf.k rf.CR F ms;have k1:Keeps s {s with heap:=ia,toks:=s.toks+((["a","b"]:List Str).zip vs).length}:=⟨ia,_,rfl,F.keep⟩
 have t1:1<=s.toks+((["a","b"]:List Str).zip vs).length:=aq am.tk (dU _ _);have AH:=am.keeps k1 t1;have iL:dq (A.deeper (envOf (d6 "int_divmod").name (d6 "int_divmod").scope s.heap.objs.size fa cd)) (jo w) {s with heap:=ia,toks:=s.toks+((["a","b"]:List Str).zip vs).length}:=⟨AH.hh,AH.nb,AH.nl,AH.gl,AH.tk,by have:=bu.2;rw[eL];omega,AH.la⟩
 have VO:c8 pw w (jo w) (λ_=>True) (dS NJ 7):=gq (oq w) 7;rw[Qg];generalize ij:envOf (d6 "int_divmod").name (d6 "int_divmod").scope s.heap.objs.size fa cd=env at*;have Ka:env.frame=some s.heap.objs.size:=by rw[<-ij];rfl
 have E7:env.scope.names=iK:=by rw[<-ij];exact rf.k
 refine aS (AZ (ai (bw t1 (VO.b (A.deeper env) _ env _ _ _ _ _ trivial iL y (by rw[E7];exact CU x))) (λb s2 q=>?_) λ_ _ e=>e));obtain⟨t2,rfl,k2⟩:=q;rw[if_pos rfl];have y2:=y.keeps (Keeps.all k2);have p0:=iL.keeps k2 t2;obtain⟨mg,mb,L2⟩:=p0.la s2.heap λ_ _ e=>e;have bv:Bv s2.heap ZX (.type ZX):=L2.bv K7 (by decide) jM.boot;refine aS (Raise_classB p0.hh jM Dn.1 (nu y2 (by rw[E7];decide) (by decide) (.inr bv) ⟨rfl,rfl⟩) λh3 e hn=>?_);obtain⟨ob,t,he,arY,hdt⟩:=hn.there;have k02:=Keeps.all (Keeps.trans' k1 k2);have kb:∀b o,s.heap.get? b=some o->h3.get? b=some o:=λb o e=>hn.keeps b o (k02 b o e);have h1b:∀b o,ia.get? b=some o->h3.get? b=some o:=λb o e=>hn.keeps b o (Keeps.all k2 b o e);have hen:base.get? e=none:=by
  cases hq:base.get? e with
  |none=>rfl
  |some o'=>
   have:=k02 _ _ (K.stays e o' hq);rw[hn.new]at this;cases this
 refine wpAny_leaving_firstW (a0:=t) K3.stack (K3.frames.of_keeps λb o e _=>⟨o,h1b b o e,rfl⟩) Ka he (λb o e=>kb b o (K.stays b o e)) hen hdt rfl rfl λh4 hL=>?_;obtain⟨q1,⟨_,_,q2⟩,q3,q4⟩:=hL;rw[arY]at q3;obtain⟨h2,PC,rfl,_⟩:=k2;exact h e t h4 PC ⟨q1,hen,q2,q3⟩ ((mY kb).trans q4)
theorem Dp{a:Addr}{o:Obj}{pm cv doc:Value}{x:Int}{vs:List Value}(K:Below A base outer s.heap)(ho:s.heap.get? a=some o)(hd:o.data=.func (cJ (d6 "_law_refused").name (d6 "_law_refused").params (d6 "_law_refused").body (d6 "_law_refused").scope pm cv doc))
(rc:s.heap.CodeRec cv (d6 "_law_refused").name)(bu:Bu 50 A)(am:dq A (jo w) s)(rs:aZ s.heap (λ_=>False) [.int x] vs):wpAny (model pw w) A (call (.ref a) vs) (PZ base s) E s:=by
 have rf:=zS;have hvl:=rs.length;refine GW (K6 GO rf (bj (aq (dU _ 50) bu.1) (by decide)) ho hd am.nl rc (by rw[hvl];rfl) λia F SK=>?_);have K2:=K.push (name:=(d6 "_law_refused").name) (a:=a) (cd:=cv) F SK;have ms:MS s.heap (λx=>((["number"]:List Str).zip vs).reverse.lookup x) [("number",.int x)]:=by
  obtain⟨v1,r1,rfl,q1,rs⟩:=rs.eM;obtain rfl:=rs.m7;intro k d e;unfold look at e;split at e
  ·rename_i hk;subst hk;cases e;exact⟨_,rfl,q1⟩
  ·cases e
 have y:=YR (name:=(d6 "_law_refused").name) (a:=a) (cd:=cv) SK rf.k rf.CR F ms;have yN:∀{h:Heap},h.Ns s.heap.objs.size (λx=>((["number"]:List Str).zip vs).reverse.lookup x)->In (envOf (d6 "_law_refused").name (d6 "_law_refused").scope s.heap.objs.size a cv) (λb=>b=s.heap.objs.size) [] h:=λns=>akV SK rf.k rf.CR ns;have k1:Keeps s {s with heap:=ia,toks:=s.toks+((["number"]:List Str).zip vs).length}:=⟨ia,_,rfl,F.keep⟩
 have t1:1<=s.toks+((["number"]:List Str).zip vs).length:=aq am.tk (dU _ _);have AH:=am.keeps k1 t1;have iL:dq (A.deeper (envOf (d6 "_law_refused").name (d6 "_law_refused").scope s.heap.objs.size a cv)) (jo w) {s with heap:=ia,toks:=s.toks+((["number"]:List Str).zip vs).length}:=⟨AH.hh,AH.nb,AH.nl,AH.gl,AH.tk,by have:=bu.2;rw[eL];omega,AH.la⟩
 have VO:c8 pw w (jo w) (λ_=>True) (dS NJ 7):=gq (oq w) 7;rw[akU];generalize ij:envOf (d6 "_law_refused").name (d6 "_law_refused").scope s.heap.objs.size a cv=env at*;have Ka:env.frame=some s.heap.objs.size:=by rw[<-ij];rfl
 have E7:env.scope.names=zK:=by rw[<-ij];exact rf.k
 have bu2:Bu 40 (A.deeper env):=(bu.less (by decide:41<=50)).deeper env;obtain⟨mg,mb,L1⟩:=iL.la ia λ_ _ e=>e;obtain⟨fa,fo,fpm,fcd,arZ,g1,g2,g3,g4⟩:=L1.fn _ GP;rw[zT.n]at g1;have bv:Bv ia ZX (.type ZX):=L1.bv K7 (by decide) jM.boot;refine aS (wpAny_Try_except (aS (qX ?_ (gu y.fn) rfl)));refine zt VO trivial iL y (by rw[E7];decide) (by decide) ⟨mg,L1.g,g1⟩ g2 g3 (by rw[E7];exact adv x) λs3 vs3 k3 t3 r3=>?_;have WA:=Keeps.all k3;refine GW (Nf (x:=x) (Below.adw K2 WA) (WA _ _ g2) g3 (g4.keeps WA) bu2 (iL.keeps k3 t3) (eJ (ds:=[.int x,.int 0]) rfl r3) λe a0 h4 tk4 hf u4=>?_);have u04:ia.UpToSlots h4:=(mY WA).trans u4;obtain⟨h3,tk3,rfl,_⟩:=k3;refine wpAny_looks_onW K2.stack Ka hf λh5 hH u5=>wpAny_landsW hH λh6 hF u6=>?_;have u06:ia.UpToSlots h6:=(u04.trans u5).trans u6;obtain⟨ob,he,hc⟩:=hF.there;refine wpAny_handleBy_builtin (X:=ZX) (T:=ZX) (b:=true) jM.base Dn.2 Dn.1 (nu (yN (u06.ns F.ns)) (by rw[E7];decide) (by decide) (.inr (Bv.slots bv u06)) ⟨rfl,⟨ob,he,hc⟩,?_⟩);rw[if_pos rfl];refine lands_againW hF λh7 hF7 u7=>aS (g6 (Constant_bool ?_));exact⟨rfl,h7,_,rfl,hF7.1,((mY F.keep).trans u06).trans u7⟩
end
end
end Internal.B
namespace Internal.B
section
open Internal.I (zt)
def lB:List Stmt:=bo "law"
def lZ:ae:=pA (Mt 1 (dw (ak 15 lB)))
def tM:Scope:=(nH lZ).2.2.1
def R0:ae:=qg lZ
def WB:ae:=(nH lZ).1
theorem akX:lZ=.ListComp (.Call (.Name "_law_refused" (pA WB).pos) [.Name "number" (o8 0 WB).pos] [] WB.pos) [⟨.Name "number" (RM lZ).pos,R0,[],0⟩] tM lZ.pos:=by rfl'
theorem zU:i9 R0=true/\tM.kind=.function/\(tM.names.all λy=>y.2 != .cell&&(y.2 != .free&&(y.2 != .local||tM.names.lookup y.1==some .local)))=true/\(d8 tM).lookup ("number":Str)=some .local/\(d8 tM).lookup ("_law_refused":Str)=some .globalImplicit/\((d8 tM).all λy=>y.2 != .cell&&y.2 != .free)=true:=⟨by rfl',by rfl',by rfl',by rfl',by rfl',by rfl'⟩
theorem adx{env:Env}{L:Addr}{h:Heap}{m:Str->Option Value}{ks:bW}{n:Str}{i:Int}{t:Tok}(fn:env.scope.kind=.function)(hn:env.scope.names=ks)(gl:env.globals=mainGlobals)(bi:env.builtins=builtinsNs)(ce:env.cells=[])(loc:env.locals=L)(CR:(ks.all λy=>y.2 != .cell&&y.2 != .free)=true)(ns:h.Ns L m)(hm:m n=some (.int i t)):In env (λb=>b=L) [(n,.int i)] h:=by
 have nc:∀n,env.kindOf n≠some .cell/\env.kindOf n≠some .free:=λn=>by
  show env.scope.names.lookup n≠_/\env.scope.names.lookup n≠_;rw[hn];constructor<;>intro h
  ·have:=aw.mp CR _ (mem_of_lookup h)
   simp at this
  ·have:=aw.mp CR _ (mem_of_lookup h)
   simp at this
 refine⟨fn,gl,bi,λb q=>?_,loc,λn c e=>(by rw[ce]at e;cases e),λn n' c e=>(by rw[ce]at e;cases e),λn hn=>absurd hn (nc n).1,m,loc▸ns,λk d e=>⟨λ_=>?_,λhc=>hc.elim (λq=>absurd q (nc k).1) λq=>absurd q (nc k).2⟩⟩
 ·obtain⟨o,_,_,e,_⟩:=ns
  rw[q,e];rfl
 ·unfold look at e
  split at e
  ·rename_i hk;subst hk;cases e;exact⟨_,hm,fx⟩
  ·cases e
section
variable{w:World}{A:aC}{E:Value->ah->Prop}{s sb:ah}{env:Env}{L:Addr}
structure ZR(L:Addr)(s s1:ah):Prop where
 tk:1<=s1.toks
 u:Upd (λa=>a=L\/s.heap.get? a=none) s s1
 ns:∀m,s.heap.Ns L m->s1.heap.Ns L m
theorem ZR.keeps(x:ZR L s s1)(k:Keeps s1 s2)(t:1<=s2.toks):ZR L s s2:=⟨t,x.u.trans (Upd.of k),λm q=>(x.ns m q).keeps (Keeps.all k)⟩
theorem ZR.upd(x:ZR L s s1)(u:Upd (λa=>a=I) s1 s2)(t:1<=s2.toks)(hI:s.heap.get? I=none)(hL:L≠I):ZR L s s2:=
 ⟨t,x.u.trans (u.more λa q=>.inr (q▸hI)),λm q=>(x.ns m q).at' λo e=>u.kept (G:=λa=>a=I) (λ_ q=>q) L o hL e⟩
theorem ZR.base(x:ZR L s s1)(k:Keeps sb s)(hL:sb.heap.get? L=none):Keeps sb s1:=by
 have u:=Upd.Nb (G:=λa=>a=L) x.u;exact u.keeps (λa q=>q▸hL) k
theorem ady{cenv:Env}{C:Addr}{x:Int}{t:Tok}{mC mL:Str->Option Value}{Q:Value->ah->Prop}(am:dq A (jo w) s)(bu:Bu 50 A)(Ka:A.frames=some [env])(hsk:env.scope.kind≠.module)(hfm:env.frame=some L)(nsL:s.heap.Ns L mL)
(fn:cenv.scope.kind=.function)(hn:cenv.scope.names=d8 tM)(gl:cenv.globals=mainGlobals)(bi:cenv.builtins=builtinsNs)(ce:cenv.cells=[])(loc:cenv.locals=C)(nsC:s.heap.Ns C mC)(hm:mC "number"=some (.int x t))
(hQ:∀s',1<=s'.toks->Upd (λa=>a=L) s s'->(∀m,s.heap.Ns L m->s'.heap.Ns L m)->Q (.bool true) s'){p1 p2 p3:Pos}:wpAny (model pw w) A (eval (.Call (.Name "_law_refused" p1) [.Name "number" p2] [] p3) cenv) Q E s:=by
 obtain⟨_,_,_,l4,l5,l6⟩:=zU;have y:=adx fn hn gl bi ce loc l6 nsC hm;obtain⟨mg,mb,L1⟩:=am.la s.heap λ_ _ e=>e;obtain⟨fa,fo,fpm,fcd,arZ,g1,g2,g3,g4⟩:=L1.fn _ GO;rw[zS.n]at g1;have VO:c8 pw w (jo w) (λ_=>True) (dS NJ 7):=gq (oq w) 7;refine zt VO trivial am y (by rw[hn];exact l5) (by decide) ⟨mg,L1.g,g1⟩ g2 g3 (ds:=[.int x]) (by rw[hn];rfl') λs5 vs5 k5 t5 r5=>?_;have kd:=Keeps.all k5;obtain⟨hb,hh⟩:=yG s5.heap (λa=>a≠L);have hLn:hb.get? L=none:=by
  cases e:hb.get? L with
  |none=>rfl
  |some o=>exact absurd rfl ((hh L o).mp e).1
 have ar1:=nsL.keeps kd;have K:Below A hb [env] s5.heap:=⟨Ka,λb o e=>((hh b o).mp e).2,hsk,by
  obtain⟨o,es,ep,e1,e2,_⟩:=ar1;exact⟨L,o,hfm,hLn,e1,λvs q=>by rw[e2]at q;cases q⟩,trivial⟩
 refine ai (bw t5 (Dp (x:=x) K (kd _ _ g2) g3 (g4.keeps kd) bu (am.keeps k5 t5) (eJ (ds:=[.int x]) rfl r5))) (λv s6 q=>?_) λ_ _ e=>e;obtain⟨t6,rfl,h6,tk6,rfl,q1,q2⟩:=q;have u:Upd (λa=>a=L) s5 {s5 with heap:=h6,toks:=tk6}:=⟨h6,tk6,rfl,λb o nb e=>q1 b o ((hh b o).mpr ⟨nb,e⟩)⟩
 exact hQ _ t6 ((Upd.of k5).trans u) λm q=>q2.ns (q.keeps kd)
end
end
end Internal.B
namespace Internal.B
section
open LCg (lst)
section
variable{w:World}{A:aC}{E:Value->ah->Prop}{s sb:ah}{env:Env}{L:Addr}
inductive ZJ(L:Addr)(s:ah)(C D:Addr)(St:Nat->Heap->Prop)(l:Nat)(n:Nat)(s1:ah):Prop
 |mk (i:Nat) (hi:i<=l) (hn:n=l+1 - i) (st:St i s1.heap) (z:ZR L s s1) (mC:Str->Option Value) (nsC:s1.heap.Ns C mC) (hD:s1.heap.PlainList D (bh i (.bool true)).toArray)
theorem akZ{cenv:Env}{C D I:Addr}{fp:List Addr}{P:Nat->Value->Prop}{St:Nat->Heap->Prop}{xs:List Int}{R:GV->ah->Prop}{t:ae}{p1 p2 p3 px pos:Pos}(am:dq A (jo w) sb)(kb:Keeps sb s)(hLb:sb.heap.get? L=none)(bu:Bu 50 A)(Ka:A.frames=some [env])(hsk:env.scope.kind≠.module)(hfm:env.frame=some L)(nsL:s.heap.Ns L mL)
(fn:cenv.scope.kind=.function)(hn:cenv.scope.names=d8 tM)(gl:cenv.globals=mainGlobals)(bi:cenv.builtins=builtinsNs)(ce:cenv.cells=[])(loc:cenv.locals=C)
(no:yd I P St)(W:Walks pw w A I fp [I] xs.length P St)(Co:∀b∈fp,b=I\/((s.heap.get? b).isSome=true/\b≠L))(hP:∀i v,P i v->∀x,xs[i]? =some x->∃t,v=.int x t)
(hI:s.heap.get? I=none)(hC:s.heap.get? C=none)(hD:s.heap.get? D=none)(hIC:I≠C)(hID:I≠D)(hCD:C≠D)(hl:xs.length<=1000)
(hR:∀s',ZR L s s'->(∃m,s'.heap.Ns C m)->s'.heap.PlainList D (bh xs.length (.bool true)).toArray->R (.ok .next) s')(s0:ah)(z:ZR L s s0)(st:St 0 s0.heap)(nsC:s0.heap.Ns C mC)(hD0:s0.heap.PlainList D #[]):
 codeAny (model pw w) A (.compLoop (.ListComp (.Call (.Name "_law_refused" p1) [.Name "number" p2] [] p3) [⟨.Name "number" px,t,[],0⟩] tM pos) 0 (.ref I) (.ref D) cenv) R s0:=by
 have sL:(s.heap.get? L).isSome=true:=by obtain ⟨o,_,_,e,_⟩:=nsL;rw [e];rfl
 have ne:∀{a},s.heap.get? a=none->L≠a:=λh z=>nS h (z▸sL)
 obtain ⟨_,_,_,l4,_,_⟩:=zU;refine E5 (ZJ L s C D St xs.length) (λn s1 hJ Q E' hN hA=>?_) (xs.length+1) ⟨0,de _,rfl,st,z,_,nsC,hD0⟩
 cases hJ with
 |mk i hi Pt st z mC nsC hDl=>
 rw [so];refine ao (dF (ao ?_));rcases pE hi with me|Pw
 ·refine qt W me z.tk st λv s2 t2 u1 p LW=>?_
  obtain ⟨tx,rfl⟩:=hP i v p _ (bz me);have z2:=z.upd u1 t2 hI (ne hI)
  have k1:Kept (λa=>a=I) s1.heap s2.heap:=u1.kept λ_ q=>q
  have ar5:=nsC.at' λo e=>k1 C o (gi hIC) e
  have hD2:=hDl.at λo e=>k1 D o (gi hID) e
  refine ao (qr no p LW (ao (g0 (mW (m:=mC) (by unfold gR;rw [hn];exact l4) (by rw [loc];exact ar5) (λh3 hn3 hs3=>?_) (by rw [fn];rfl)))))
  rw [loc] at hn3 hs3;have u3:Upd (λa=>a=C) s2 {s2 with heap:=h3,toks:=s2.toks+1}:=⟨h3,_,rfl,λb o hb e=>hs3.extBut b o hb e⟩
  have z3:=z2.upd u3 (nQ 1 _) hC (ne hC)
  have xQ:St (i+1) h3:=W.frame _ _ _ LW λb hb o e=>hs3.extBut b o (λz=>by
   rcases Co b hb with q|q
   ·exact hIC (q▸z)
   ·exact nS hC (z▸q.1)) e
  have hD3:h3.PlainList D (bh i (.bool true)).toArray:=hD2.at λo e=>hs3.extBut _ o (gi hCD) e
  refine ao (ai (bw (nQ 1 _) (Bs (VB:=λ_ _=>none) (σ:=[]) (az:={s2 with heap:=h3,toks:=s2.toks+1}) (λc b s hv=>by cases hv) [] true _ rfl Keeps.rfl' (nQ 1 _))) (λok s4 q4=>?_) λ_ _ e=>e)
  obtain ⟨t4,rfl,k4⟩:=q4;rw [if_pos rfl];have z4:=z3.keeps k4 t4
  have Kj:=am.keeps (z4.base kb hLb) t4
  refine ao (ao (ady Kj bu Ka hsk hfm (z4.ns _ nsL) fn hn gl bi ce loc (hn3.keeps (Keeps.all k4)) (if_pos rfl) λs5 t5 u5 n5=>?_))
  have k5:Kept (λa=>a=L) s4.heap s5.heap:=u5.kept λ_ q=>q
  have z5:ZR L s s5:=⟨t5,z4.u.trans (u5.more λa q=>.inl q),λm q=>n5 _ (z4.ns m q)⟩
  have ar6:=(hn3.keeps (Keeps.all k4)).at' λo e=>k5 C o (gi (ne hC)) e
  have hD5:=hD3.at λo e=>k5 D o (gi (ne hD)) (Keeps.all k4 _ _ e)
  have st5:St (i+1) s5.heap:=W.frame _ _ _ xQ λb hb o e=>k5 b o (λz=>by
   rcases Co b hb with q|q
   ·exact ne hI (q▸z).symm
   ·exact q.2 z) (Keeps.all k4 b o e)
  refine ao (lF (items:=(bh i (.bool true)).toArray) (hsz:=by rw [aX,gk];exact aq (by omega:i<=1000) (by decide)) hD5 λh6 hp hs=>aL (aL ?_))
  rw [show (bh i (adO true)).toArray.push (.bool true)=(bh (i+1) (adO true)).toArray from by rw [List.push_toArray,List.replicate_succ']] at hp
  have u6:Upd (λa=>a=D) s5 {s5 with heap:=h6}:=⟨h6,_,rfl,λb o hb e=>hs.extBut b o hb e⟩
  have st6:St (i+1) h6:=W.frame _ _ _ st5 λb hb o e=>hs.extBut b o (λz=>by
   rcases Co b hb with q|q
   ·exact hID (q▸z)
   ·exact nS hD (z▸q.1)) e
  have k6:Kept (λa=>a=D) s5.heap h6:=λb o hb e=>hs.extBut b o hb e
  exact hA (xs.length+1 - (i+1)) _ (by omega) ⟨i+1,me,rfl,st6,z5.upd u6 t5 hD (ne hD),_,ar6.at' λo e=>k6 C o hCD e,hp⟩
 ·refine qu W z.tk (Pw▸st) λs2 t2 u1=>aL (hN _ (hR _ (z.upd u1 t2 hI (ne hI)) ⟨mC,nsC.at' λo e=>u1.kept (G:=λa=>a=I) (λ_ q=>q) C o (gi hIC) e⟩ ?_))
  rw [<-Pw];exact hDl.at λo e=>u1.kept (G:=λa=>a=I) (λ_ q=>q) D o (gi hID) e
end
end
end Internal.B
namespace Internal.B
section
theorem WC:(tM.names.map (·.1)).Nodup/\(∀ks σ,mK ks σ tM.names=true)/\(∀env,gF env tM.names []=[])/\(∀n,cellsFrom n tM.names []=[]):=⟨wk (by rfl'),λ_ _=>by rfl',λ_=>by rfl',λ_=>by rfl'⟩
theorem In.zr{env:Env}{G:Addr->Prop}{σ:cu}{s s1:ah}(x:In env G σ s.heap)(z:ZR env.locals s s1):In env G σ s1.heap:=by
 have u:=Upd.Nb (G:=λa=>a=env.locals) z.u;have k:Kept (λa=>a=env.locals) s.heap s1.heap:=u.kept λ_ q=>q;have hX:∀a,a=env.locals->G a:=λa q=>q▸x.fl;obtain⟨m,hm,hv⟩:=x.va;have Ki:=z.ns m hm;refine⟨x.fn,x.gl,x.bi,λb q=>?_,x.fl,x.fc,x.inj,λn hn=>?_,m,Ki,λn d e=>⟨λhk=>?_,λhk=>?_⟩⟩
 ·by_cases hb:b=env.locals
  ·obtain⟨o,_,_,e,_⟩:=Ki
   rw[hb,e];rfl
  ·obtain⟨o,e⟩:=ay.mp (x.lo b q)
   rw[k b o hb e];rfl
 ·obtain⟨c,v,h1,o,h2,h3⟩:=x.ce n hn
  exact⟨c,v,h1,o,k _ _ (x.fc n c h1).2 h2,h3⟩
 ·obtain⟨v,h1,h2⟩:=(hv n d e).1 hk
  exact⟨v,h1,u.rep hX h2⟩
 ·obtain⟨c,v,h1,⟨o,h2,XK⟩,h3⟩:=(hv n d e).2 hk
  exact⟨c,v,h1,⟨o,k _ _ (x.fc n c h1).2 h2,XK⟩,u.rep hX h3⟩
section
variable{w:World}{A:aC}{E:Value->ah->Prop}{G:Addr->Prop}{s sb:ah}{env:Env}{σ:cu}{V:Ev}{Bu':aC->Prop}
theorem R1{xs:List Int}(VO:c8 pw w (jo w) Bu' V)(bu':Bu' A)(bu:Bu 50 A)(am:dq A (jo w) sb)(kb:Keeps sb s)(tk:1<=s.toks)(hLb:sb.heap.get? env.locals=none)(x:In env G σ s.heap)(Ka:A.frames=some [env])(hfm:env.frame=some env.locals)
(hd:V.d env.scope.names σ R0=some (.tup (xs.map .int)))(hl:xs.length<=1000):
 wpAny (model pw w) A (eval lZ env) (λv s'=>ZR env.locals s s'/\∃D,v=.ref D/\s.heap.get? D=none/\s'.heap.PlainList D (bh xs.length (.bool true)).toArray) E s:=by
 obtain ⟨l1,l2,l3,l4,l5,l6⟩:=zU;obtain ⟨m1,m2,m3,m4⟩:=WC;have hsk:env.scope.kind≠.module:=by rw [x.fn];decide
 rw [akX,eval_ListComp];have ci0:=sk x l2 m1 (m2 _ _) (Keeps.rfl' (s:=s))
 refine adV (g:=⟨.Name "number" (RM lZ).pos,R0,[],0⟩) (gs:=[]) rfl (λy=>jm l1 env y) ci0.2.1 l2 (λy hy hl=>mem_lookup m1 (by rw [<-hl];exact hy)) ?_
 have AH:=am.keeps kb tk
 refine ai (bw tk (VO.d A _ env G σ s _ _ bu' AH x hd)) (λv s1 q=>?_) λ_ _ e=>e
 obtain ⟨t1,k1,r1⟩:=q;have kd1:=Keeps.all k1
 have x1:=x.keeps kd1
 refine ai (bw t1 (jW am.hh x1.lo r1 (ds:=xs.map .int) rfl)) (λit s2 q2=>?_) λ_ _ e=>e
 obtain ⟨t2,k2,hit⟩:=q2;rw [m3];refine wpAny_newObj_type (wj ?_);refine (?_:codeAny (model pw w) A (.compStart (.ListComp (.Call (.Name "_law_refused" (pA WB).pos) [.Name "number" (o8 0 WB).pos] [] WB.pos) [⟨.Name "number" (RM lZ).pos,R0,[],0⟩] tM lZ.pos) 0 it (.ref s2.heap.objs.size) {scope:=relabel tM env,locals:=(s2.heap.push {cls:=.type "list",data:=.seq ([]:List Value).toArray}).objs.size,globals:=env.globals,cells:=cellsFrom ((s2.heap.push {cls:=.type "list",data:=.seq ([]:List Value).toArray}).objs.size+1) tM.names [],qual:=env.qual,func:=none,code:=env.code,frame:=env.frame,builtins:=env.builtins}) (compPost (model pw w) A E none (λv s'=>ZR env.locals s s'/\∃D,v=.ref D/\s.heap.get? D=none/\s'.heap.PlainList D (bh xs.length (.bool true)).toArray) (.ref s2.heap.objs.size) (s2.heap.push {cls:=.type "list",data:=.seq ([]:List Value).toArray}).objs.size) {s2 with heap:=fE tM (s2.heap.push {cls:=.type "list",data:=.seq ([]:List Value).toArray})})
 have k23:Keeps s2 {s2 with heap:=s2.heap.push {cls:=.type "list",data:=.seq ([]:List Value).toArray}}:=Keeps.push _
 have ci:=sk x1 l2 m1 (m2 _ _) (Keeps.trans' k2 k23)
 have ci:In (oh tM env (s2.heap.push {cls:=.type "list",data:=.seq ([]:List Value).toArray}).objs.size) _ _ (fE tM (s2.heap.push {cls:=.type "list",data:=.seq ([]:List Value).toArray})):=ci.2.2.1
 have k34:bT (s2.heap.push {cls:=.type "list",data:=.seq ([]:List Value).toArray}) (fE tM (s2.heap.push {cls:=.type "list",data:=.seq ([]:List Value).toArray})):=λb o e=>pG _ _ b o (aV _ e)
 have hD0:(s2.heap.push {cls:=.type "list",data:=.seq ([]:List Value).toArray}).get? s2.heap.objs.size=some {cls:=.type "list",data:=.seq ([]:List Value).toArray}:=gL _ _ rfl
 have hsz:(s2.heap.push {cls:=.type "list",data:=.seq ([]:List Value).toArray}).objs.size=s2.heap.objs.size+1:=hU ..
 generalize s2.heap.push {cls:=.type "list",data:=.seq ([]:List Value).toArray}=h3 at*;generalize fE tM h3=h4 at*;have nw2:∀a:Nat,s2.heap.objs.size<=a->s2.heap.get? a=none:=λa ha=>by
  cases e:s2.heap.get? a with
  |none=>rfl
  |some o=>exact absurd (cT e) (pH.mpr ha)
 have YS:=Keeps.all k2
 have nw1:∀a:Nat,s2.heap.objs.size<=a->s1.heap.get? a=none:=λa ha=>JS YS (nw2 a ha)
 have nD:=nw1 _ (b0 _)
 have nC:=nw1 h3.objs.size (hsz▸Nat.le_succ _)
 have hCD:h3.objs.size≠s2.heap.objs.size:=by rw [hsz];exact Nat.succ_ne_self _
 generalize hDd:s2.heap.objs.size=D at*;generalize hCd:h3.objs.size=C at*;have nm:(relabel tM env).names=d8 tM:=ci0.1
 obtain ⟨mC,hmC,_⟩:=ci.va;have hmC:h4.Ns C mC:=hmC
 have sD:=hDd
 cases hit with
 |mk I fp P St hx no W st Sp ye Co hP=>
 subst hx;have hI2:=ye _ _ st
 have XJ:I<D:=by
  obtain ⟨o,e⟩:=ay.mp hI2;exact hDd▸cT e
 have hIC:I≠C:=el (dz XJ (by rw [hsz];exact dW _))
 have J1:Keeps s2 {s2 with heap:=h4}:=Keeps.trans' k23 ⟨h4,s2.toks,rfl,k34⟩
 have D9:St 0 h4:=W.frame _ _ _ st λb _ o e=>Keeps.all J1 b o e
 rw [aj] at W;obtain ⟨mL,hmL,_⟩:=x1.va;have hD4:h4.PlainList D #[]:=⟨_,k34 _ _ hD0⟩
 have fin:∀s',ZR env.locals s1 s'->(∃m,s'.heap.Ns C m)->s'.heap.PlainList D (bh xs.length (.bool true)).toArray->compPost (model pw w) A E none (λv s'=>ZR env.locals s s'/\∃D,v=.ref D/\s.heap.get? D=none/\s'.heap.PlainList D (bh xs.length (.bool true)).toArray) (.ref D) C (.ok .next) s':=λs' z ⟨m,hm⟩ hp=>⟨m,hm,λh' n9=>by
  have z1:ZR env.locals s s':=⟨z.tk,((Upd.of k1).trans (Upd.Nb (G:=λa=>a=env.locals) z.u)).more λ_ q=>.inl q,λm q=>z.ns m (q.keeps kd1)⟩
  have nC0:=JS kd1 nC
  have sL:(s.heap.get? env.locals).isSome=true:=x.lo _ x.fl
  exact ⟨z1.upd ⟨h',s'.toks,rfl,λb o hb e=>n9.extBut b o hb e⟩ z.tk nC0 (λq=>nS nC0 (q▸sL)),D,rfl,JS kd1 nD,hp.at λo e=>n9.extBut D o (gi hCD) e⟩⟩
 have lp:codeAny (model pw w) A (.compLoop (.ListComp (.Call (.Name "_law_refused" (pA WB).pos) [.Name "number" (o8 0 WB).pos] [] WB.pos) [⟨.Name "number" (RM lZ).pos,R0,[],0⟩] tM lZ.pos) 0 (.ref I) (.ref D) _) _ {s2 with heap:=h4}:=
  akZ (s:=s1) (xs:=xs) am (Keeps.trans' kb k1) hLb bu Ka hsk hfm hmL (cenv:={scope:=relabel tM env,locals:=C,globals:=env.globals,cells:=cellsFrom (C+1) tM.names [],qual:=env.qual,func:=none,code:=env.code,frame:=env.frame,builtins:=env.builtins}) (show (relabel tM env).kind=_ from l2) nm x.gl x.bi (m4 (C+1)) rfl no W
   (λb hb=>(Co b hb).imp id λq=>⟨q.2,λz=>q.1 (z▸x1.fl)⟩) (λi v p y hy=>by
     have:=hP i v s1.heap G p (λb o _ e=>e) (λb q=>.inl q) (.int y) (by rw [gD,hy];rfl)
     exact this.int) Sp nC nD hIC (el XJ) hCD hl fin _ ⟨t2,Upd.of (Keeps.trans' k2 J1),λm q=>q.keeps (Keeps.all (Keeps.trans' k2 J1))⟩ D9 hmC hD4
 exact xi lp (W.self 0 _ _ _ D9 lp)
end
end
end Internal.B
end
section
open PySem PySem.W PyProof.Rows
set_option exponentiation.threshold 2000
namespace Internal.Z
section
open Internal.V
def WD(X:Option D)(k:Option D):Option D:=X.bind λd=>(m9 d).bind λb=>match Hh,b with
 |.And,false=>some d
 |.Or,true=>some d
 |_,_=>k
theorem aT(h:X=some (.bool true))(hk:k=r):WD X k=r:=by rw[h];exact hk
section
variable{T:ec}(p:Lp)(whole dv q:Int)
abbrev Ng:cu:=DK p++([("whole",.int whole),("divisor",.int dv)]:cu)
abbrev DL:cu:=DK p++([("whole",.int whole),("divisor",.int dv),("quotient",.int q)]:cu)
theorem ak2:(dS T 31).d lK (DK p) (lE 13 0)=(aE .Pow (.int 2) (.int p.width)).bind λd=>aE .Sub d (.int 2):=by rfl'
theorem ak3:(dS T 31).d lK (Ng p whole dv) (bk (ak 14 lB))=aE .FloorDiv (.int (whole - p.orders)) (.int dv):=by rfl'
theorem l_z:(dS T 31).d lK (DL p whole dv q) Internal.B.R0=some (.tup [.int whole,.int (-whole),.int 0]):=by rfl'
theorem ar7:(dS T 31).d lK (DL p whole dv q) (bk (ak 16 lB))=
 WD (T.fn "_law_fourfold" [.int whole,.int dv,.int q,.int p.orders]) (WD (T.fn "_law_fourfold" [.int (whole - p.orders),.int dv,.int q,.int 0]) (WD (T.fn "_law_fourfold" [.int p.orders,.int dv,.int 0,.int p.orders]) (T.fn "_law_fourfold" [.int 0,.int dv,.int 0,.int 0]))):=by rfl'
end
structure AU(p:Lp)(width O R P:Nat)(whole:Nat)(dv q:Int):Prop where
 dlt:∀d∈dn R P,d<2^width
 wle:whole<2^330
 wh:whole=pf width (dn R P)
 dg:fG width whole=dn R P
 d3:(dn R P).length<=3
 dvi:dv=((2^width - 2:Nat):Int)
 eqn:(whole:Int)=dv*q+O
 lt:(O:Int)<dv
 dv0:0<dv
 dv4:dv<2^40
theorem WE(F:qo p width O R P):∃dv q,AU p width O R P (pf width (dn R P)) dv q:=by
 obtain⟨⟨w8,w30⟩,_,_,_,oc,o4,rp⟩:=F;have h8:2^8<=2^width:=bM (by decide) w8;have h30:2^width<=2^30:=bM (by decide) w30;have me:=Jj width R P w8 (by omega) (by omega);have X4:(dn R P).length<=3:=List.length_take_le' ..;have abS:=GI width R P rp;have hwh:=RW (2^width) R P (by omega);rw[<-oc]at hwh;have hwl:pf width (dn R P)<2^330:=ck (QF width _ me) (bM (by decide) (aq (xm w30 X4) (by decide)));refine⟨((2^width - 2:Nat):Int),((R+P*(2^width+2):Nat):Int),me,hwl,rfl,?_,X4,rfl,?_,by omega,by omega,by omega⟩
 ·have mV:dn R P≠[]:=by
   unfold dn;rw[Ne,List.take_eq_nil_iff];rintro(h|h)
   ·split at h<;>first|(cases h;done)|(split at h<;>cases h)
   ·cases h
  obtain⟨l,x,e⟩:∃l x,dn R P=l++[x]:=⟨(dn R P).dropLast,(dn R P).getLast mV,(List.dropLast_concat_getLast mV).symm⟩;have hx:=Dm R P;rw[e,List.getLastD_concat]at hx;rw[e]at me⊢;exact Wt (by omega) l x (by omega) me
 ·rw[abS,hwh]
  rw[eY,nR,WV]
end
end Internal.Z
namespace Internal.Z
open Internal.V
theorem R2{T T1:ec}(hF:FF T){p:Lp}{whole:Nat}{dv q:Int}(F:qo p width O R P)(N:AU p width O R P whole dv q):
 (dS T1 31).d lK (DK p) (lE 13 0)=some (.int dv)/\(dS T1 31).d lK (Ng p whole dv) (bk (ak 14 lB))=some (.int q)/\(dS T 31).d lK (DL p whole dv q) (bk (ak 16 lB))=some (.bool true):=by
 obtain⟨⟨w8,w30⟩,ew,eo,_,_,o4,_⟩:=F;obtain⟨_,wle,_,_,_,dvi,eqn,lt,dv0,dv4⟩:=N;have h8:2^8<=2^width:=bM (by decide) w8;rw[ak2,ak3,ar7,ew,eo];refine⟨oB (Wr w30) ?_,?_,?_⟩
 ·show some (D.int (((2^width:Nat):Int) - 2))=_
  rw[dvi,Ae (by omega)];rfl
 ·show(if dv≠0/\sm dv=true then some (D.int ((whole - (O:Int)).fdiv dv))else none)=_
  have hs:sm dv=true:=by
   rw[dvi];exact zg (x:=2^width - 2) (n:=30) (by have:2^width<=2^30:=bM (by decide) w30;omega) (by decide)
  rw[if_pos ⟨by omega,hs⟩,show(whole:Int) - O=dv*q by omega,Int.mul_fdiv_cancel_left _ (by omega)]
 ·have h5:(2:Nat)^330<2^500:=by decide
  have h6:((2^500:Nat):Int)=2^500:=gE 2 500;have h7:(2:Int)^500+100<2^520:=by decide
  have h8:(2:Int)^40<2^100:=by decide
  have h9:(254:Int)<2^500:=by decide
  have s1: -(2^520)<(whole:Int)/\(whole:Int)<2^520:=by omega
  have s2: -(2^520)<(whole:Int) - O/\(whole:Int) - O<2^520:=by omega
  have z0: -(2^520)<(O:Int)/\(O:Int)<2^520:=by omega
  have b1:dv<2^100:=by omega
  exact aT (hF whole dv q O s1.1 s1.2 dv0 b1 eqn (bF _) lt)
   (aT (hF (whole - O) dv q 0 s2.1 s2.2 dv0 b1 (by omega) (Hk _) dv0)
   (aT (hF O dv 0 O z0.1 z0.2 dv0 b1 (by omega) (bF _) lt) (hF 0 dv 0 0 (by decide) (by decide) dv0 b1 (by omega) (Hk _) dv0)))
end Internal.Z
namespace Internal.I
section
open Internal.Z (lB lK lE DK Ng DL pf fG jr Lp qo AU)
inductive Cd(h:Heap)(d:A0)(pos:Pos)(qual:Str)(P:Addr):Prop
 |mk (a:Addr) (o:Obj) (pm:Value) (c:Addr) (doc:Value) (g:Gv h d.name (.ref a)) (ho:h.get? a=some o) (hd:o.data=.func (cJ d.name d.params d.body d.scope pm (.ref c) doc)) (rc:h.CodeRec (.ref c) d.name) (pl:Place h c P pos qual)
theorem Gv.keeps(g:Gv h n v)(k:bT h h'):Gv h' n v:=by obtain⟨mg,a,b⟩:=g;exact⟨mg,a.keeps k,b⟩
theorem Place.keepsP(x:Place h c P pos q)(k:bT h h'):Place h' c P pos q:=
 ⟨x.hd.keeps k,by obtain⟨ps,a,b,d⟩:=x.tab;exact⟨ps,k _ _ a,b,d.imp id λ⟨c',e,r⟩=>⟨c',e,r.keeps k⟩⟩⟩
theorem Cd.keeps(x:Cd h d pos qual P)(k:bT h h'):Cd h' d pos qual P:=
 by obtain⟨a,o,pm,c,doc,h1,h2,h3,h4,h5⟩:=x;exact⟨a,o,pm,c,doc,Gv.keeps h1 k,k _ _ h2,h3,h4.keeps k,Place.keepsP h5 k⟩
theorem Wm.keeps(x:Wm h d pos qual P)(k:bT h h'):Wm h' d pos qual P:=
 by obtain⟨a,o,pm,c,doc,h1,h2,h3,h4,h5⟩:=x;exact⟨a,o,pm,c,doc,Gv.keeps h1 k,k _ _ h2,h3,h4.keeps k,h5.zl k⟩
theorem R3(l:List Nat):l.map di=(l.map fN).map D.int:=by rw[eO];rfl
def mR(h h':Heap):Prop:=∀b o,h.get? b=some o->(∀es ep,o.data≠.dict es ep)->(∀v,o.data≠.cell v)->h'.get? b=some o
section
variable{prog:bb}{w:World}{A:aC}{E:Value->ah->Prop}{G F:Addr->Prop}{env:Env}{az s s':ah}{σ:cu}{oa:Str->Addr}{La:Heap->Prop}{Qf:aC->Prop}{V:Ev}
theorem R4(si:SI env F az σ [] s G oa)(fr:nV env F az)(hk:env.kindOf n=some .local)(oe:∀a,env.cells.lookup n≠some a)(r:bU s.heap G d v):
 wpAny (model prog w) A (storeName env n v) (λ_ s'=>SI env F az (put n d σ) [] s' G oa/\mR s.heap s'.heap) E s:=by
 obtain⟨ml,U6,_⟩:=si.ie.va;refine ai (SI.bind (d:=d) si fr (.inl hk) (λ_=>r)) (λ_ s' q=>?_) λ_ _ e=>e;obtain⟨_,u,Mc,_⟩:=q;refine⟨Mc,λb o e n1 n2=>u.kept (G:=λa=>a=env.locals\/env.cells.lookup n=some a) (λ_ q=>q) b o (λq=>?_) e⟩;rcases q with q|q
 ·obtain⟨o',es,ep,e',d',_⟩:=U6
  rw[<-q,e]at e';cases e';exact n1 es ep d'
 ·exact oe b q
theorem ar9(VO:c8 prog w La Qf V)(bu:Qf A)(am:dq A La s)(fr:nV env F az)(hk:env.kindOf n=some .local)(oe:∀a,env.cells.lookup n≠some a)(si:SI env F az σ [] s G oa)(h:V.d env.scope.names σ e=some d)(Fu:mu env.scope.names n p e=false):
 wpAny (model prog w) A (exec (.Assign [.Name n p] e pos) env) (λf s'=>f=.next/\SI env F az (put n d σ) [] s' G oa/\mR s.heap s'.heap) E s:=by
 have x:In env G σ s.heap:=si.ie.sub λm d e=>by rw[fF];simpa using e
 refine rV (ai (bw am.tk (VO.d A _ env G σ s e _ bu am x h)) (λv s1 q=>?_) λ_ _ e=>e) (by rw[nz si.ie.fn,Fu]);obtain⟨t1,k1,r1⟩:=q;refine ai (R4 (si.keeps k1 t1) fr hk oe r1) (λ_ s2 q=>?_) λ_ _ e=>e;exact⟨rfl,q.1,λb o e n1 n2=>q.2 b o (Keeps.all k1 b o e) n1 n2⟩
end
theorem mR.trans(a:mR h1 h2)(b:mR h2 h3):mR h1 h3:=λx o e n1 n2=>b x o (a x o e n1 n2) n1 n2
theorem CodeRec.dc(x:h.CodeRec cd q)(k:mR h h'):h'.CodeRec cd q:=by
 obtain⟨c0,o,vs,t,e,g,d,r⟩:=x;exact⟨c0,o,vs,t,e,k _ _ g (λ_ _ q=>by rw[d]at q;cases q) (λ_ q=>by rw[d]at q;cases q),d,r⟩
theorem jG.dc(x:jG h c P pos q)(k:mR h h'):jG h' c P pos q:=by
 obtain⟨ps,c',h1,h2,h3,h4⟩:=x.tab;exact⟨qx x.hd λ_ _ e d=>k _ _ e (λ_ _ q=>nomatch d.symm.trans q) (λ_ q=>nomatch d.symm.trans q),ps,c',k _ _ h1 (λ_ _ q=>nomatch q) (λ_ q=>nomatch q),h2,h3,CodeRec.dc h4 k⟩
theorem jG.but(x:jG h c P pos q)(t:TabAt h P2)(k:bG P2 h h')(mV:P≠P2)(hc:h.CodeRec (.ref c) nm):jG h' c P pos q:=by
 obtain⟨ps,c',h1,h2,h3,h4⟩:=x.tab;exact⟨qx x.hd λ_ _ e _=>k _ _ e (rN t hc),ps,c',k _ _ h1 mV,h2,h3,CodeRec.but t k h4⟩
end
end Internal.I
namespace Internal.I
section
open Internal.Z (lB lK lE DK Ng DL pf fG jr Lp qo AU)
theorem Gv.but(t:TabAt h P)(k:bG P h h')(g:Gv h n v):Gv h' n v:=by obtain⟨mg,a,b⟩:=g;exact⟨mg,Ns.but t k a,b⟩
theorem Gv.uniq(g:Gv h n v)(g':Gv h n v'):v=v':=by
 obtain⟨m,a,b⟩:=g;obtain⟨m',a',b'⟩:=g';have:=Ns.uniq a a' n;rw[b,b']at this;exact af this
theorem zV(t:TabAt h P)(e:h.get? a=some o)(d:o.data=.func fd):a≠P:=λz=>by
 obtain⟨ps,h1,_⟩:=t;rw[z,h1]at e;cases e;cases d
theorem Cd.but(x:Cd h d pos qual P)(t:TabAt h P2)(k:bG P2 h h')(mV:P≠P2):Cd h' d pos qual P:=by
 obtain⟨a,o,pm,c,doc,h1,h2,h3,h4,h5⟩:=x;refine⟨a,o,pm,c,doc,Gv.but t k h1,k _ _ h2 (zV t h2 h3),h3,CodeRec.but t k h4,?_,?_⟩
 ·exact qx h5.hd λ_ _ e _=>k _ _ e (rN t h4)
 ·obtain⟨ps,e1,e2,e3⟩:=h5.tab
  exact⟨ps,k _ _ e1 mV,e2,e3.imp id λ⟨c',e,r⟩=>⟨c',e,CodeRec.but t k r⟩⟩
theorem Cd.at(x:Cd h d pos qual P):TabAt h P:=by
 obtain⟨_,_,_,_,_,_,_,_,_,p⟩:=x;exact p.tabAt
def th:A0:=(jE.find? (λd=>d.name==("_law_plain":Str))).getD ⟨("":Str),default,[],default,default⟩
theorem Nh:th∈jE:=by
 have:(jE.find? (λd=>d.name==("_law_plain":Str))).isSome=true:=by rfl'
 obtain⟨d,hd⟩:=ay.mp this;have e:th=d:=by unfold th;rw[hd];rfl
 rw[e];exact dY hd
theorem Jl:th.name=("_law_plain":Str):=by rfl'
theorem asa:Internal.Z.FF (Internal.Z.Tn jt 12):=by
 have nn:∀f:Str,(f==("_int2digits":Str))=false->(f==("_digits2int":Str))=false->jt f=none:=zp;have h1:Internal.Z.D1 (Internal.Z.Tn jt 1):=Internal.Z.Yb (nn _ (by decide) (by decide)) 0;have h2:∀r,Internal.Z.D2 (Internal.Z.Tn jt (r+1+1)):=λr=>Internal.Z.ajt (nn _ (by decide) (by decide)) (r+1) (aco r) (Internal.Z.Yb (nn _ (by decide) (by decide)) r);have h3:∀r,Internal.Z.D3 (Internal.Z.Tn jt (r+1+1+1)):=λr=>Internal.Z.aju (nn _ (by decide) (by decide)) (r+1+1) (h2 r);have h4:∀r,Internal.Z.D4 (Internal.Z.Tn jt (r+1+1+1+1)):=λr=>Internal.Z.ajv (nn _ (by decide) (by decide)) (r+1+1+1) (h3 (r+1)) (h3 r);have h5:∀r,Internal.Z.D5 (Internal.Z.Tn jt (r+1+1+1+1+1)):=λr=>Internal.Z.ajw (nn _ (by decide) (by decide)) (r+1+1+1+1) (h4 (r+1)) (h4 r);exact Internal.Z.ajz (nn _ (by decide) (by decide)) 11 (Internal.Z.Ye (nn _ (by decide) (by decide)) 10) (h5 6)
theorem WG(h:Bu k A)(hj:j<=k):Bq j A:=⟨aq (g9 hj _) (aq h.1 (by decide)),bj (jf (g9 (cY 3 hj) _) 203) h.2⟩
section
variable{w:World}{A:aC}{E:Value->ah->Prop}{F G:Addr->Prop}{env:Env}{s sb s':ah}{oa:Str->Addr}{p:Lp}{m:Np}{whole:Nat}{side AV:Int}{PD:Addr}{Q:Flow->ah->Prop}{rest:List Stmt}
end
end
end Internal.I
end
section
open PySem PySem.W PyProof.Rows
namespace Internal.Q
open Internal.I (Cd lr eI eQ j9 qi)
inductive YP2(w:World)(h:Heap):Prop
 |mk (y:YP w h) (mg:Str->Option Value) (g:h.Ns mainGlobals mg) (c1 P1 c2 P2:Addr) (t1:IH mg h "_int2digits" c1 P1) (t2:IH mg h "_digits2int" c2 P2) (ne:P1≠P2)
theorem IH.keeps(x:IH mg h n c P)(k:∀b o,h.get? b=some o->h'.get? b=some o):IH mg h' n c P:=
 by obtain⟨a,o,fd,h1,h2,h3,h4,h5,h6⟩:=x;exact⟨a,o,fd,h1,k _ _ h2,h3,h4,h5.keeps k,k _ _ h6⟩
theorem Ni(w)(h h')(x:YP2 w h)(k:∀b o,h.get? b=some o->h'.get? b=some o):YP2 w h':=
 by obtain⟨y,mg,g,c1,P1,c2,P2,t1,t2,ne⟩:=x;exact⟨FQ w h h' y k,mg,g.keeps k,c1,P1,c2,P2,t1.keeps k,t2.keeps k,ne⟩
theorem adC(w:World)(s:ah)(e:(s.heap.isNs mainGlobals,Hw.look s.heap,EG s.heap)=(true,Bb w,true)):YP2 w s.heap:=by
 obtain⟨e1,e2⟩:=gv e;obtain⟨e2,e3⟩:=gv e2;unfold EG at e3;simp only[av]at e3;obtain⟨b1,b2,b3⟩:=e3;obtain⟨x,h1,b3⟩:=nE (g:=λo=>o.getD false) b3 rfl;obtain⟨y,h2,b3⟩:=uh b3;exact⟨aiu w s (by rw[e1,e2]),s.heap.nsMap mainGlobals,.of_isNs e1,x.1,x.2,y.1,y.2,Km h1 b1,Km h2 b2,λz=>by rw[z,tH]at b3;cases b3⟩
theorem YT(L:pz mg mb w h)(hd:d∈jE)(g':h.Ns mainGlobals Sv)(t:IH Sv h d.name c P):Cd h d pos qual P:=by
 obtain⟨a,o,pm,code,doc,h1,h2,h3,h4⟩:=L.fn d hd;obtain⟨a',o',fd,t1,t2,t3,t4,t5,t6⟩:=t;have e:=Ns.uniq L.g g' d.name;rw[h1,t1]at e;cases(e);rw[h2]at t2;cases(t2);rw[h3]at t3;cases(t3);cases t4;exact⟨a,o,pm,c,doc,⟨mg,L.g,h1⟩,h2,h3,h4,t5,#[],t6,trivial,.inl rfl⟩
end Internal.Q
namespace Internal.J
theorem Jm:∀{xs:List WData},DQ R xs .int=true->∃l:List Int,xs=l.map ft:=by
 intro zx
 induction zx with
 |nil=>
  rintro _;exact⟨[],rfl⟩
 |cons x xs ih=>
  rintro h;unfold DQ at h;rw[av]at h;obtain⟨l,rfl⟩:=ih h.2;cases x<;>first|exact⟨_::l,rfl⟩|exact lW (show false=true from h.1)
theorem R5:∀{x:WData},WShape.has R x (.list .int)=true->∃l:List Int,x=.list (l.map ft):=λ{x} h=>by
 cases x<;>first|exact lW (show false=true from h)|skip
 rename_i xs;have h:(DQ R xs .int||false)=true:=h;rw[Bool.or_false]at h;obtain⟨l,rfl⟩:=Jm h;exact⟨l,rfl⟩
theorem Nj(h:Lh R args [.list .int]=true):∃l:List Int,args=[.list (l.map ft)]:=by
 cases args with
 |nil=>cases h
 |cons x r=>
  unfold Lh at h;rw[av]at h;obtain⟨l,rfl⟩:=R5 h.1;cases r with
  |nil=>exact⟨l,rfl⟩
  |cons _ _=>have:=h.2;unfold Lh at this;cases this
theorem less_int(a b):less? (.int a) (.int b)=some (decide (a<b)):=by rfl
theorem WH(l:List Int):(WTm.not (.lt (.lit (.int 63)) (.len (.arg 0)))).value [] {args:=[.list (l.map ft)]}=some (.bool !decide ((63:Int)<(l.length:Nat))):=by
 have e:(WTm.lt (.lit (.int 63)) (.len (.arg 0))).value [] {args:=[.list (l.map ft)]}=some (.bool (decide ((63:Int)<((l.map ft).length:Nat)))):=by
  show(less? (.int 63) (.int ((l.map ft).length:Nat))).map z8=_;rw[less_int];rfl
 show(match(WTm.lt (.lit (.int 63)) (.len (.arg 0))).value [] {args:=[.list (l.map ft)]}with|some (.bool b)=>some (z8 (!b))|_=>none)=_;rw[e,aj]
theorem Nk{r:OpenLaw}{args:List WData}(hb:r.bound=none)(hm:r.most=some 63)(h:r.row.toRowW.claim.pre args=true):∃l:List Int,args=[.list (l.map ft)]/\l.length<=63:=by
 obtain⟨h1,h2⟩:=pre_splitW h;obtain⟨l,rfl⟩:=Nj (R:=[]) h1;refine⟨l,rfl,?_⟩;have h2:(avu r).holds [] {args:=[.list (l.map ft)]}=true:=h2;unfold avu at h2;rw[hb,hm]at h2;have h2:(match(match(WTm.not (.lt (.lit (.int 63)) (.len (.arg 0)))).value [] {args:=[.list (l.map ft)]}with
                      |some (.bool false)=>some (z8 false)
                      |some (.bool true)=>(some (z8 true))
                      |_=>none)with|some (.bool true)=>true|_=>false)=true:=h2
 rw[WH]at h2;by_cases q:(63:Int)<(l.length:Nat)
 ·rw[decide_eq_true q]at h2
  cases h2
 ·omega
end Internal.J
namespace Internal.Q
open Internal.I (Cd lr eI eQ j9 qi)
def GQ(s:ah):Bool:=b8 1 s.toks&&(s.heap.isNs cStatics&&(s.heap.nsMap cStatics sharingNotToldKey).isNone)
abbrev Yfs(s:ah):=(s.heap.isNs mainGlobals,Hw.look s.heap,EG s.heap,GQ s)
abbrev Yas(w):=(true,Bb w,true,true)
theorem ak5:LeftO pw gK iI (λ_=>true) Yfs Yas 4000000:=by
 refine LeftO.of_pieces (H₀:=fV) (H₁:=g7) (gs₀:= #[]) (gs₁:= #[]) (d₀:=lu) (d₁:=lu) (k₀:=aeI) (k₁:=lJ) (m₀:=11) (ann:=pv) (M:=ahm) ?_ ?_ (λw os=>T8 w os) (by rfl') ?_
 ·exact boot_open (by rfl') (by rfl') (λs=>rfl)
 ·intro w;rfl'
 ·intro w
  funext os;have h1:(staticsOk (importedModules pw.main.body) (fV w.params) (g7 w.params)&&namesBound pw (g7 w.params)&&gensDone ⟨g7 w.params,#[],lu,lJ,os⟩&&laidKept (fV w.params) (g7 w.params))=true:=ahb w os;have h2:openSeen gK iI (importedModules pw.main.body) (λ_=>true) true ⟨g7 w.params,#[],lu,lJ,os⟩=openGood gK iI:=by
   have:=ahd w os;rw[ahh]at this;exact this
  have h3:Hw.look (g7 w.params)=Bb w:=ahc w os;rw[h1,h2];have h4:(g7 w.params).isNs mainGlobals=true:=by rfl'
  have h5:GQ ⟨g7 w.params,#[],lu,lJ,os⟩=true:=by rfl'
  show(true,openGood gK iI,(g7 w.params).isNs mainGlobals,Hw.look (g7 w.params),EG (g7 w.params),GQ ⟨g7 w.params,#[],lu,lJ,os⟩)=_;rw[h3,h4,ahp,h5]
theorem R6:∀{l:List Int}{s:ah}{r:List Value×ah},layAllW R cl P ord (l.map ft) s=some r->s.toks<=r.2.toks:=by
 intro zx
 induction zx with
 |nil=>
  rintro s r h;have h:some ([],s)=some r:=h;cases h;exact b0 _
 |cons x l ih=>
  rintro s r h;have h:(match layAllW R cl P ord (l.map ft) {s with toks:=s.toks+1}with|some q=>some (Dr x s.toks::q.1,q.2)|none=>none)=some r:=h;split at h
  ·rename_i q hq
   cases h;have:=ih hq;exact aq (Nat.le_succ _) this
  ·cases h
theorem Nl{R:WRecords}{cl:Str->Option Addr}{P:WS}{ord:List cZ->List cZ}{l:List Int}{s:ah}{r:List Value×ah}(h:layAllW R cl P ord [.list (l.map ft)] s=some r):s.toks<=r.2.toks:=by
 have h:(match(match layAllW R cl P ord (l.map ft) s with
  |some q=>some (f7 q.2.heap.objs.size,{q.2 with heap:=q.2.heap.push {cls:=.type "list",data:=.seq q.1.toArray}})
  |none=>none)with|some a=>some ([a.1],a.2)|none=>none)=some r:=h
 cases hq:layAllW R cl P ord (l.map ft) s with
 |none=>rw[hq]at h;cases h
 |some q=>
  rw[hq]at h;cases h;have:=R6 hq;exact this
theorem Nn{P:WS}{h:Heap}{F:Addr->Prop}{l:List Int}{vals:List Value}(x:WellAll P h vals [.list (l.map ft)])(nF:∀a o,h.get? a=some o->o.cls=.type "list"->¬F a):aZ h F [.lst (l.map D.int)] vals:=by
 obtain⟨v,vs,rfl,x1,x2⟩:=wellAll_cons_inv x;cases x2;cases x1 with
 |list e r=>
  rename_i a vs;refine .one ?_;refine g8 (nF _ _ e rfl) e ?_;clear e nF x;induction l generalizing vs with
  |nil=>cases r;exact .nil
  |cons i l ih=>
   cases r with
   |cons r1 r2=>
    refine .cons ?_ (ih r2);cases r1;exact fx
end Internal.Q
end
section
open PySem PySem.W PyProof.Rows
set_option exponentiation.threshold 2000
namespace Internal.I
open Internal.Z (lB lK lE DK Ng DL pf fG jr Lp qo AU)
open Internal.B (fS wR lZ R0)
open Internal.V (dn)
def kQ:A0:=(jE.find? (λd=>d.name==("law":Str))).getD ⟨("":Str),default,[],default,default⟩
theorem GR:kQ∈jE:=by
 have:(jE.find? (λd=>d.name==("law":Str))).isSome=true:=by rfl'
 obtain⟨d,hd⟩:=ay.mp this;have e:kQ=d:=by unfold kQ;rw[hd];rfl
 rw[e];exact dY hd
theorem Nq:kQ.params.args.map (·.arg)=(["script"]:List Str):=by rfl'
theorem Nr:kQ.name=("law":Str):=by rfl'
theorem xI:kQ.scope.names=lK:=by rfl'
def lOp(i:Nat):ae:=Mt i (dw (ak 15 lB))
def R7:ae:=lE 13 1
def lP:ae:=pA (lOp 0)
def lI:ae:=o8 0 lP
def ak6:ae->List ae:=exC [] (λ_ _ _=>[]) (λ_ _ _ _=>[]) (λ_ _ _=>[]) (λ_ _ _ _=>[]) (λ_ _ _ _=>[]) (λ_ _ rs _=>rs) (λ_ _ _ _=>[]) (λ_ _ _=>[]) (λ_ _ _=>[]) (λ_ _=>[]) (λ_ _=>[]) (λ_ _ _=>[])
def lZd:ae:=(ak6 (lOp 1)).getD 0 default
theorem adD:ak 13 lB=.Assign [.Tuple (sH (ak 13 lB)) (l7 (qf (ak 13 lB))).2.1 (l7 (qf (ak 13 lB))).2.2] (.Tuple [lE 13 0,R7] (l7 (uj (ak 13 lB))).2.1 (l7 (uj (ak 13 lB))).2.2) (bV (ak 13 lB)):=by rfl'
theorem adE:yD lK (sH (ak 13 lB)) [lE 13 0,R7]=some (some (["divisor","whole"]:List Str)):=by rfl'
theorem adF(env p):backTo p (starEach [lE 13 0,R7] env)=[(false,eval (lE 13 0) env),(false,eval R7 env)]:=by rfl'
theorem adG:∃a b c d,R7=.Call (.Name "_digits2int" a) [.Name "digits" b,.Name "width" c] [] d:=by
 refine⟨(pA R7).pos,(o8 0 R7).pos,(o8 1 R7).pos,R7.pos,?_⟩;rfl'
theorem ak7:∃a b c,lP=.Call (.Name "_law_plain" a) [lI,.Name "digits" b] [] c:=by
 refine⟨(pA lP).pos,(o8 1 lP).pos,lP.pos,?_⟩;rfl'
theorem ak8:∃a b c d,lI=.Call (.Name "_int2digits" a) [.Name "whole" b,.Name "width" c] [] d:=by
 refine⟨(pA lI).pos,(o8 0 lI).pos,(o8 1 lI).pos,lI.pos,?_⟩;rfl'
theorem adH:ak 14 lB=.Assign [.Name "quotient" (jF (ak 14 lB))] (bk (ak 14 lB)) (bV (ak 14 lB)):=by rfl'
theorem R8:kQ.body=([ak 0 lB,ak 1 lB,ak 2 lB,ak 3 lB,ak 4 lB,ak 5 lB]++([ak 6 lB,ak 7 lB,ak 8 lB,ak 9 lB]++[ak 10 lB,ak 11 lB,ak 12 lB]))++(ak 13 lB::ak 14 lB::
 [.If (.BoolOp .Or [.UnaryOp .Not lP (lOp 0).pos,.Compare lZ [.NotEq] [lZd] (lOp 1).pos] (dw (ak 15 lB)).pos) (br (ak 15 lB)) [] (bV (ak 15 lB)),.Return (some (bk (ak 16 lB))) (bV (ak 16 lB))]):=by rfl'
theorem R9(x)(p q):tJ ((dS T 31).d lK (DK x)) [.Name "digits" p,.Name "width" q]=some [.lst x.digits,.int x.width]:=by rfl'
theorem WI(x)(whole dv AV)(p q):tJ ((dS T 31).d lK (DL x whole dv AV)) [.Name "whole" p,.Name "width" q]=some [.int whole,.int x.width]:=by rfl'
theorem adI(x)(whole dv AV)(p):(dS T 31).d lK (DL x whole dv AV) (.Name "digits" p)=some (.lst x.digits):=by rfl'
theorem ak9(x)(whole dv AV):(dS T 31).d lK (DL x whole dv AV) lZd=some (.lst [.bool true,.bool true,.bool true]):=by rfl'
end Internal.I
namespace Internal.I
section
open Internal.Z (lB lK lE DK Ng DL pf fG jr Lp qo AU)
open Internal.B (fS wR lZ R0)
open Internal.V (dn)
theorem BZ(Fr:qo p width O R P)(N:AU p width O R P whole dv q):width*((dn R P).map fN).length<=900/\((dn R P).map fN).length<=1000/\∀x∈(dn R P).map fN,0<=x/\x<2^width:=by
 rw[aj];refine⟨aq (xm Fr.wd.2 N.d3) (by decide),aq N.d3 (by decide),λx hx=>?_⟩;obtain⟨y,hy,rfl⟩:=Li hx;refine⟨bF _,?_⟩;have e:((2^width:Nat):Int)=2^width:=gE 2 width;rw[<-e];exact oZ.mpr (N.dlt y hy)
inductive SD(w:World)(env:Env)(F:Addr->Prop)(A:aC)(s sb s':ah)(G:Addr->Prop)(oa:Str->Addr)(p:Lp)(whole:Nat)(dv:Int)(P:Addr):Prop
 |mk (si:SI env F sb (Ng p whole dv) [] s' G oa) (fr:nV env F sb) (kb:bG P s.heap sb.heap) (am:dq A (jo w) sb) (fm:∃h tk,sb={s with heap:=h,toks:=tk}) (a:Addr) (o:Obj) (pm:Value) (c:Addr) (doc:Value)
  (g:Gv sb.heap jH.name (.ref a)) (ho:sb.heap.get? a=some o) (hd:o.data=.func (cJ jH.name jH.params jH.body jH.scope pm (.ref c) doc)) (rc:sb.heap.CodeRec (.ref c) jH.name) (wm:jG s'.heap c P (bV dI) dQ)
theorem ala(p:Lp)(whole dv:Int):put "divisor" (.int dv) (put "whole" (.int whole) (DK p))=Ng p whole dv:=by rfl'
theorem alb(p:Lp)(whole dv AV:Int):put "quotient" (.int AV) (Ng p whole dv)=DL p whole dv AV:=by rfl'
section
variable{w:World}{A:aC}{E:Value->ah->Prop}{F G:Addr->Prop}{env:Env}{s sb s':ah}{oa:Str->Addr}{p:Lp}{whole:Nat}{dv AV:Int}{PD:Addr}{Q:Flow->ah->Prop}{rest:List Stmt}
theorem whole_run(jn:env.scope.names=lK)(hcD:∀m,env.cells.lookup m≠some PD)(lw1:env.kindOf "whole"=some .local)(lw2:∀b,env.cells.lookup ("whole":Str)≠some b)(lv1:env.kindOf "divisor"=some .local)(lv2:∀b,env.cells.lookup ("divisor":Str)≠some b)
(bu:Bu 79 A)(iL:dq A (jo w) s)(fr:nV env F s)(cD:Cd s.heap jH (bV dI) dQ PD)(hFD:F PD)(Fr:qo p width O R P)(N:AU p width O R P whole dv AV)(hdv:(dS (Internal.Z.Tn fS 3) 31).d lK (DK p) (lE 13 0)=some (.int dv))
(tL:SI env F s (DK p) [] s' G oa)(k:∀sb s5,SD w env F A s sb s5 G oa p whole dv PD->wpAny (model pw w) A (execs rest env) Q E s5):
 wpAny (model pw w) A (execs (ak 13 lB::rest) env) Q E s':=by
 obtain⟨d1l,d2l,d3l⟩:=BZ Fr N;obtain⟨p1,p2,p3,p4,e13⟩:=adG;have Jn:TabAt s.heap PD:=cD.at;have WJ:c8 pw w (jo w) (Bu 63) (dS (Internal.Z.Tn fS 3) 31):=gq (wR w 3) 31;obtain⟨fD,oD,pmD,cD',adJ,D1,D2,D3,D4,D5⟩:=cD;have y1:In env G (DK p) s'.heap:=tL.ie;have p0:=iL.keeps tL.kp tL.tk;rw[adD];refine aS ?_;show wpAny _ _ (do
  standAt (bV (ak 13 lB))
  let v<-eval (.Tuple [lE 13 0,R7] (l7 (uj (ak 13 lB))).2.1 (l7 (uj (ak 13 lB))).2.2) env
  assignStores env v (<-swappedStores [.Tuple (sH (ak 13 lB)) (l7 (qf (ak 13 lB))).2.1 (l7 (qf (ak 13 lB))).2.2] (.Tuple [lE 13 0,R7] (l7 (uj (ak 13 lB))).2.1 (l7 (uj (ak 13 lB))).2.2) env) [assign (.Tuple (sH (ak 13 lB)) (l7 (qf (ak 13 lB))).2.1 (l7 (qf (ak 13 lB))).2.2) env]) _ _ _
 refine ao (dF (ao (NT ?_)));rw[adF];refine dx (ai (bw p0.tk (WJ.d A _ env G _ s' _ _ (bu.less (by decide)) p0 y1 (by rw[jn];exact hdv))) (λv0 s2 q=>?_) λ_ _ e=>e);obtain⟨t2,k2,r2⟩:=q;have ua:=tL.keeps k2 t2;have y2:In env G (DK p) s2.heap:=ua.ie;have Kl:=iL.keeps ua.kp ua.tk;have kdD:=Keeps.all ua.kp;have d1:=Gv.keeps D1 kdD;have d2:=kdD _ _ D2;rw[ug]at d1;rw[e13];refine dx (zt WJ (bu.less (by decide)) Kl y2 (by rw[jn];decide) (by decide) d1 d2 D3 (by rw[jn];exact R9 _ _ _) (λs3 vs3 k3 t3 r3=>?_));have WA:=Keeps.all k3;rw[Fr.ed,Fr.ew,R3]at r3;refine ai (bw t3 (F3 (F:=G) (WA _ _ d2) D3 ((D4.keeps kdD).keeps WA) (Place.keepsP (Place.keepsP D5 kdD) WA) (tL.hF _ hFD) (WG bu (by decide)) (Kl.keeps k3 t3) (y2.keeps WA).lo r3 d1l (aq (by decide) Fr.wd.1) d3l)) (λv s4 q=>gx ?_) λ_ _ e=>e;obtain⟨t4,⟨h4,tk4,hs4⟩,kb4,_,wm4,r4⟩:=q;rw[jr,<-N.wh]at r4;have u4:Upd (λa=>a=PD) s3 s4:=⟨h4,tk4,hs4,by rw[hs4]at kb4;exactλb o ne e=>kb4 b o e ne⟩
 have asm:(s4.heap.get? PD).isSome=true:=by
  obtain⟨ps,c',h1,_⟩:=wm4.tab;rw[h1];rfl
 obtain⟨sb,X0,IG,kbb,kPb,tkb,fm⟩:=(ua.keeps k3 t3).sE fr hFD hcD u4 t4 asm;have My:bG PD s.heap sb.heap:=λb o e ne=>kbb b o e ne;refine⟨show 2<=sizeLine by decide,?_⟩;rw[yE (env:=env) y1.fn (by rw[jn];exact adE)];refine ao (aL ?_);show wpAny _ _ (do
  rule "assign.swapped-stores"
  let items<-unpackItems (.ref s4.heap.objs.size) [v0,v].toArray.size none
  assignInOrder ((["whole","divisor"]:List Str).map λn=>bindName env n) items.reverse
  pure rm) _ _ _
 refine ao (jJ (ao ?_));have ht:({s4 with heap:=s4.heap.push {cls:=.type "tuple",data:=.seq [v0,v].toArray}}:ah).heap.IsTuple s4.heap.objs.size [v0,v].toArray:=⟨_,gL _ _ rfl,rfl,_,rfl⟩
 refine aeN (items:=[v0,v].toArray) Kl.hh ht λh' hx=>?_;have hx:Heap.ExtBut (s4.heap.push {cls:=.type "tuple",data:=.seq [v0,v].toArray}).objs.size (s4.heap.push {cls:=.type "tuple",data:=.seq [v0,v].toArray}) h':=hx;have k5:Keeps s4 {s4 with heap:=h'}:=⟨h',s4.toks,rfl,λb o e=>hx b o (el (cT (aV _ e))) (aV _ e)⟩
 have xe:=X0.keeps k5 t4;have wm5:=wm4.zl (Keeps.all k5);show wpAny _ _ (do (do holding [v0] (bindName env "whole" v);(do holding [] (bindName env "divisor" v0);pure ()));pure rm) _ _ _;refine ao (ao (bQ (WZ (ai (R4 (d:=.int whole) xe IG lw1 lw2 (r4.keeps (Keeps.all k5))) (λ_ s6 q=>?_) λ_ _ e=>e))));obtain⟨Kc,kd6⟩:=q;have r0:bU s6.heap G (.int dv) v0:=r2;refine ao (bQ (WZ (ai (R4 (d:=.int dv) Kc IG lv1 lv2 r0) (λ_ s7 q=>aL (aL ?_)) λ_ _ e=>e)));obtain⟨CD,kd7⟩:=q;rw[ala]at CD;exact k sb s7 ⟨CD,IG,My,dq.but Jn My iL tkb jo.but,fm,fD,oD,pmD,cD',adJ,Gv.but Jn My D1,My _ _ D2 (zV Jn D2 D3),D3,CodeRec.but Jn My D4,jG.dc wm5 (kd6.trans kd7)⟩
theorem WK(jn:env.scope.names=lK)(lq1:env.kindOf "quotient"=some .local)(lq2:∀b,env.cells.lookup ("quotient":Str)≠some b)(bu:Bu 79 A)(amb:dq A (jo w) sb)(IG:nV env F sb)
(m2:(dS (Internal.Z.Tn fS 3) 31).d lK (Ng p whole dv) (bk (ak 14 lB))=some (.int AV))(xe:SI env F sb (Ng p whole dv) [] s' G oa)
(k:∀s7,SI env F sb (DL p whole dv AV) [] s7 G oa->mR s'.heap s7.heap->wpAny (model pw w) A (execs rest env) Q E s7):wpAny (model pw w) A (execs (ak 14 lB::rest) env) Q E s':=by
 have WJ:c8 pw w (jo w) (Bu 63) (dS (Internal.Z.Tn fS 3) 31):=gq (wR w 3) 31;rw[adH];refine aS (ai (ar9 WJ (bu.less (by decide)) (amb.keeps xe.kp xe.tk) IG lq1 lq2 xe (by rw[jn];exact m2) (by rw[jn];rfl')) (λg s6 q=>?_) λ_ _ e=>e);obtain⟨rfl,Kc,kd6⟩:=q;rw[alb]at Kc;exact k s6 Kc kd6
end
end
end Internal.I
namespace Internal.I
section
open Internal.B (ZR)
open Internal.Z (lB lK lE DK Ng DL pf fG jr Lp qo AU)
open Internal.B (fS wR lZ R0 R1)
theorem ZR.dc{L:Addr}{s s1:ah}{m:Str->Option Value}(z:ZR L s s1)(ns:s.heap.Ns L m):mR s.heap s1.heap:=by
 have u:=Internal.B.Upd.Nb (G:=λa=>a=L) z.u;intro b o e n1 _;refine u.kept (G:=λa=>a=L) (λ_ q=>q) b o (λq=>?_) e;obtain⟨o',es,ep,e',d',_⟩:=ns;rw[<-q,e]at e';cases e';exact n1 es ep d'
theorem Wm.zr{L:Addr}{s s1:ah}{m:Str->Option Value}(x:Wm s.heap d pos qual P)(z:ZR L s s1)(ns:s.heap.Ns L m)(hL:mainGlobals≠L):Wm s1.heap d pos qual P:=by
 have k:=ZR.dc z ns;have u:=Internal.B.Upd.Nb (G:=λa=>a=L) z.u;obtain⟨a,o,pm,c,doc,⟨mg,g1,g2⟩,h2,h3,h4,h5⟩:=x;exact⟨a,o,pm,c,doc,⟨mg,g1.at' λo e=>u.kept (G:=λa=>a=L) (λ_ q=>q) _ o hL e,g2⟩,k _ _ h2 (λ_ _ q=>nomatch h3.symm.trans q) (λ_ q=>nomatch h3.symm.trans q),h3,CodeRec.dc h4 k,jG.dc h5 k⟩
section
variable{w:World}{A:aC}{E:Value->ah->Prop}{F G:Addr->Prop}{env:Env}{s sb s':ah}{oa:Str->Addr}{p:Lp}{whole:Nat}{dv AV:Int}{PI PD:Addr}{Q:Bool->ah->Prop}{pos:Pos}
theorem asr(jn:env.scope.names=lK)(bu:Bu 79 A)(am:dq A (jo w) sb)(IG:nV env F sb)(kb:Keeps sb s)(tk:1<=s.toks)(x:In env G (DL p whole dv AV) s.heap)(Ka:A.frames=some [env])(hfm:env.frame=some env.locals)
(wI:Wm s.heap lr (bV eI) eQ PI)(wD:Wm s.heap jH (bV dI) dQ PD)
(hQ:∀s',Keeps sb s'->dq A (Sw w) s'->In env G (DL p whole dv AV) s'.heap->Wm s'.heap lr (bV eI) eQ PI->Wm s'.heap jH (bV dI) dQ PD->Q false s'):
 wpAny (model pw w) A (isTrue (.Compare lZ [.NotEq] [lZd] pos) env (eval (.Compare lZ [.NotEq] [lZd] pos) env)) Q E s:=by
 have WJ:c8 pw w (jo w) (Bu 63) (dS (Internal.Z.Tn fS 3) 31):=gq (wR w 3) 31
 refine amC (ai (R1 (xs:=[(whole:Int),-(whole:Int),0]) WJ (bu.less (by decide)) (bu.less (by decide)) am kb tk IG.hl x Ka hfm (by rw [jn];exact Internal.Z.l_z p whole dv AV) (show 3<=1000 by decide)) (λv s1 q=>?_) λ_ _ e=>e) rfl
 obtain ⟨z,D,rfl,hD,hp⟩:=q;obtain ⟨mL,hmL,_⟩:=x.va;have kb1:=z.base kb IG.hl
 have iL:=am.keeps kb1 z.tk
 have hgl:mainGlobals≠env.locals:=λq=>by
  obtain ⟨mg,mb,L7⟩:=am.la sb.heap λ_ _ e=>e
  obtain ⟨o,_,_,e,_⟩:=L7.g;rw [q,IG.hl] at e;cases e
 have wI1:=Wm.zr wI z hmL hgl
 have wD1:=Wm.zr wD z hmL hgl
 have x1:=Internal.B.In.zr x z
 refine ai (bw z.tk (WJ.d A _ env G _ s1 _ _ (bu.less (by decide)) iL x1 (by rw [jn];exact ak9 p whole dv AV))) (λv2 s2 q=>?_) λ_ _ e=>e
 obtain ⟨t2,k2,r2⟩:=q;have YS:=Keeps.all k2
 have p0:=iL.keeps k2 t2
 have x2:=x1.keeps YS
 obtain ⟨n,hp⟩:=hp.at λo e=>YS D o e
 have rD:bU s2.heap G (.lst [.bool true,.bool true,.bool true]) (.ref D):=g8 (vs:=[.bool true,.bool true,.bool true]) (λq=>nS hD (x.lo D q)) hp (.cons kx (.cons kx (.cons kx .nil)))
 refine Bk (k:=false) p0.nb (dz (aeM (by decide) _) p0.un) rD r2 rfl ?_
 refine fW (hQ s2 (Keeps.trans' kb1 k2) ⟨p0.hh,p0.nb,p0.nl,p0.gl,p0.tk,p0.un,λh k=>⟨p0.la h k,⟨PI,Wm.keeps (Wm.keeps wI1 YS) k⟩,PD,Wm.keeps (Wm.keeps wD1 YS) k⟩⟩ x2 (Wm.keeps wI1 YS) (Wm.keeps wD1 YS))
end
end
end Internal.I
namespace Internal.I
open Internal.Z (lB lK lE DK Ng DL pf fG jr Lp qo AU)
open Internal.B (fS wR lZ R0)
theorem Sb{w:World}{A:aC}{E:Value->ah->Prop}{F:Addr->Prop}{s:ah}{a:Addr}{o:Obj}{pm cv doc:Value}{cW:List Int}{vs:List Value}{PI PD:Addr}(ho:s.heap.get? a=some o)(hd:o.data=.func (cJ kQ.name kQ.params kQ.body kQ.scope pm cv doc))
(rc:s.heap.CodeRec cv kQ.name)(cI:Cd s.heap lr (bV eI) eQ PI)(cD:Cd s.heap jH (bV dI) dQ PD)(mV:PI≠PD)(hFI:F PI)(hFD:F PD)(bu:Bu 80 A)(ass:A.frames=some [])(am:dq A (jo w) s)(lo:iQ F s.heap)(rs:aZ s.heap F [.lst (cW.map .int)] vs)(hl:cW.length<=63):
 wpAny (model pw w) A (call (.ref a) vs) (λv s'=>v=.bool true/\(∃h tk,s'={s with heap:=h,toks:=tk})/\(∀b o,s.heap.get? b=some o->b≠PI->b≠PD->s'.heap.get? b=some o)/\(∃ps,s'.heap.get? PI=some (tabObj ps))/\∃ps,s'.heap.get? PD=some (tabObj ps)) E s:=by
 have fi:=y0 (d:=kQ) (pm:=pm) (code:=cv) (doc:=doc) GR;rw[Nq,R8]at fi;refine sA (fk:=(["script"]:List Str)) fi (WG bu (b0 _)).dep ho hd rc rfl am (WG bu (b0 _)).un lo rs (λenv aU G oa jn ij iL fr si E'=>?_);refine gp λQ hQ=>?_;have si:SI env F s [("script",.lst (cW.map .int))] [] aU G oa:=si;have hk:∀m,env.kindOf m=lK.lookup m:=λm=>by unfold gR;rw[jn,xI]
 have AJ:env.scope.names=lK:=by rw[jn,xI]
 have WL:Bu 79 (A.deeper env):=bu.deeper env;have hcT:∀{P:Addr},(∃ps,s.heap.get? P=some (tabObj ps))->∀m,env.cells.lookup m≠some P:=λ{P} ht m e=>by
  have hm:(m,P)∈cellsFrom (s.heap.objs.size+1) kQ.scope.names []:=by
   have:=mem_of_lookup e;rw[ij]at this;exact this
  have AI:=gS _ _ _ _ _ hm;simp only[dm,false_or]at AI;have:=fr.hc m P (.inr (by rw[hk,<-xI];exact mem_lookup fi.kd AI)) e;obtain⟨ps,h1⟩:=ht;rw[h1]at this;cases this
 have hcD:∀m,env.cells.lookup m≠some PD:=hcT (by obtain⟨ps,e,_⟩:=cD.at;exact⟨ps,e⟩);have hcI:∀m,env.cells.lookup m≠some PI:=hcT (by obtain⟨ps,e,_⟩:=cI.at;exact⟨ps,e⟩);have TO1:=wR w 3;have WJ:c8 pw w (jo w) (Bu 63) (dS (Internal.Z.Tn fS 3) 31):=gq TO1 31;have XO1:Ss pw w (jo w) (Bu 63) lK (AE (dS (Internal.Z.Tn fS 3) 31) lK [] 60 2):=uc (W:=[]) (gq TO1 30) TO1 lK 60 2;obtain⟨p,width,O,R,P,Fr,hB⟩:=Internal.Z.Nd (T:=Internal.Z.Tn fS 3) (Internal.Z.akP 0) cW hl 0;obtain⟨dv,AV,Nm⟩:=Internal.Z.WE Fr;obtain⟨whole,hw⟩:∃whole,whole=pf width (Internal.V.dn R P):=⟨_,rfl⟩;rw[<-hw]at Nm;refine uf (ai (XO1 (A.deeper env) E' env F s _ [] aU G oa _ _ (WL.less (by decide)) iL fr si AJ hB) (λg s2 q=>?_) λ_ _ e=>e);obtain⟨rfl,G1,oa1,tL⟩:=q;have loc:∀m,lK.lookup m=some .local->env.kindOf m=some .local/\∀b,env.cells.lookup m≠some b:=λm e=>by
  refine⟨by rw[hk];exact e,λb e2=>?_⟩;have hm:(m,b)∈cellsFrom (s.heap.objs.size+1) kQ.scope.names []:=by
   have:=mem_of_lookup e2;rw[ij]at this;exact this
  have AI:=gS _ _ _ _ _ hm;simp only[dm,false_or]at AI;have:=mem_lookup fi.kd AI;rw[xI,e]at this;cases this
 obtain⟨lw1,lw2⟩:=loc "whole" (by decide);obtain⟨lv1,lv2⟩:=loc "divisor" (by decide);have Jn:TabAt s.heap PD:=cD.at;have PLs:Internal.Z.PL (Internal.Z.Tn jt 12):=Internal.Z.Ye (zp _ (by decide) (by decide)) 11;obtain⟨m1,m2,tr⟩:=Internal.Z.R2 (T1:=Internal.Z.Tn fS 3) (T:=Internal.Z.Tn jt 12) asa Fr Nm;refine whole_run AJ hcD lw1 lw2 lv1 lv2 WL iL fr cD hFD Fr Nm m1 tL λsb s5 q=>?_;obtain⟨xe,IG,My,amb,⟨hb1,tb1,hsb⟩,fD,oD,pmD,cD',adJ,D1,D2,D3,D4,wm5⟩:=q;obtain⟨lq1,lq2⟩:=loc "quotient" (by decide);refine WK AJ lq1 lq2 WL amb IG m2 xe λs7 CD kdc=>?_;have y7:In env G1 (DL p whole dv AV) s7.heap:=CD.ie;have am7:=amb.keeps CD.kp CD.tk;have wm7:jG s7.heap cD' PD (bV dI) dQ:=jG.dc wm5 kdc;obtain⟨q1,q2,q3,eP⟩:=ak7;obtain⟨i1,i2,i3,i4,eI'⟩:=ak8;obtain⟨mg,mb,L7⟩:=am7.la s7.heap λ_ _ e=>e;refine aS (AZ (avp (zZ (isTrue_not ?_))));rw[eP];refine isTrue_plain ?_ rfl;obtain⟨aP,oP,pmP,cP,asx,g1,g2,g3,g4⟩:=L7.fn th Nh;rw[Jl]at g1;have gP:Gv s7.heap "_law_plain" (.ref aP):=⟨mg,L7.g,g1⟩
 have adK:=(j0 (env:=env) (pos:=q3) (f:=λ_=>some D.none) (es:=[lI,.Name "digits" q2]) (ds:=[.none,.none]) (by rw[eI'];rfl)).1;show wpAny _ _ (do callWith q3 (<-eval (.Name "_law_plain" q1) env) [] (backTo q3 (starEach [lI,.Name "digits" q2] env)) []) _ _ _;refine ao (nu y7 (by rw[AJ];decide) (by decide) (.inl gP) ?_);refine kr (o:=oP) (fd:=cJ th.name th.params th.body th.scope pmP cP asx) (dT adK ?_);rw[show backTo q3 (starEach [lI,.Name "digits" q2] env)=[(false,eval lI env),(false,eval (.Name "digits" q2) env)]from by rw[eI'];rfl];refine dx ?_;rw[eI'];have cI7:Cd s7.heap lr (bV eI) eQ PI:=(Cd.but cI Jn My mV).keeps (Keeps.all CD.kp);obtain⟨fI,oI,pmI,cI',asy,f1,f2,f3,f4,f5⟩:=id cI7;rw[j9]at f1;refine zt WJ (WL.less (by decide)) am7 y7 (by rw[AJ];decide) (by decide) f1 f2 f3 (by rw[AJ];exact WI _ _ _ _ _ _) (λs8 vs8 k8 t8 r8=>?_);rw[Fr.ew]at r8;have Nt:=Keeps.all k8;refine ai (bw t8 (Gg (F:=G1) (Nt _ _ f2) f3 (f4.keeps Nt) (Place.keepsP f5 Nt) (CD.hF _ hFI) (WG WL (by decide)) (am7.keeps k8 t8) (y7.keeps Nt).lo r8 (dz Nm.wle (jg (by decide) (by decide))) (aq (by decide) Fr.wd.1) (aq Fr.wd.2 (by decide)))) (λv s9 q=>?_) λ_ _ e=>e;obtain⟨t9,⟨h9,tk9,hs9⟩,Sd,_,wm9,r9⟩:=q;rw[Nm.dg]at r9;have tn:TabAt s8.heap PI:=(Place.keepsP f5 Nt).tabAt;have ald:TabAt sb.heap PI:=(Cd.but cI Jn My mV).at;have si8:=CD.keeps k8 t8;have u9:Upd (λa=>a=PI) s8 s9:=⟨h9,tk9,hs9,by rw[hs9]at Sd;exactλb o ne e=>Sd b o e ne⟩
 have asz:(s9.heap.get? PI).isSome=true:=by
  obtain⟨ps,c',h1,_⟩:=wm9.tab;rw[h1];rfl
 obtain⟨sc,si9,frc,kbc,kPc,tkc,⟨hc1,tc1,hsc⟩⟩:=si8.sE IG hFI hcI u9 t9 asz;have ale:bG PI sb.heap sc.heap:=λb o e ne=>kbc b o e ne;have alf:dq (A.deeper env) (jo w) sc:=dq.but ald ale amb tkc jo.but;have am9:=alf.keeps si9.kp si9.tk;have wI9:Wm s9.heap lr (bV eI) eQ PI:=⟨fI,oI,pmI,cI',asy,by rw[j9];exact Gv.but tn Sd (Gv.keeps f1 Nt),Sd _ _ (Nt _ _ f2) (zV tn (Nt _ _ f2) f3),f3,CodeRec.but tn Sd (f4.keeps Nt),wm9⟩
 have ks7:=Keeps.all CD.kp;have wD7:Wm s7.heap jH (bV dI) dQ PD:=⟨fD,oD,pmD,cD',adJ,Gv.keeps D1 ks7,ks7 _ _ D2,D3,D4.keeps ks7,wm7⟩
 have wD9:Wm s9.heap jH (bV dI) dQ PD:=by
  obtain⟨a1,o1,pm1,c1,asB,w1,w2,w3,w4,w5⟩:=Wm.keeps wD7 Nt;exact⟨a1,o1,pm1,c1,asB,Gv.but tn Sd w1,Sd _ _ w2 (zV tn w2 w3),w3,CodeRec.but tn Sd w4,jG.but w5 tn Sd (λz=>mV z.symm) w4⟩
 have WM:dq (A.deeper env) (Sw w) s9:=⟨am9.hh,am9.nb,am9.nl,am9.gl,am9.tk,am9.un,λh k=>⟨am9.la h k,⟨PI,Wm.keeps wI9 k⟩,PD,Wm.keeps wD9 k⟩⟩
 have y9:In env G1 (DL p whole dv AV) s9.heap:=si9.ie;have TO2:=QW w 12;have VO2:c8 pw w (Sw w) (Bu 62) (dS (Internal.Z.Tn jt 12) 31):=gq TO2 31;have gP9:Gv s9.heap "_law_plain" (.ref aP):=Gv.but tn Sd (Gv.keeps gP Nt);have oP9:s9.heap.get? aP=some oP:=Sd _ _ (Nt _ _ g2) (zV tn (Nt _ _ g2) g3);refine dx (ai (bw t9 (VO2.d (A.deeper env) E' env G1 _ s9 _ _ (WL.less (by decide)) WM y9 (by rw[AJ];exact adI _ _ _ _ _))) (λv2 s10 q=>gx ?_) λ_ _ e=>e);obtain⟨t10,UW,r10⟩:=q;rw[Fr.ed]at r10;have Se:=Keeps.all UW;refine⟨⟨Se _ _ oP9,g3⟩,?_⟩;obtain⟨aP',oP',ayJ,u1,u2,u3,u4⟩:=TO2.fn s10.heap "_law_plain" _ _ ((WM.la _ Se)) (PLs.lst ((Internal.V.dn R P).map fN) (BZ Fr Nm).2.1);have eaP:=Gv.uniq (Gv.keeps gP9 Se) u1;cases eaP;have rP:aZ s10.heap G1 [.lst (((Internal.V.dn R P).map fN).map .int),.lst (((Internal.V.dn R P).map fN).map .int)] [v,v2]:=by
  rw[<-R3];exact .cons (r9.keeps Se) (.one r10)
 refine ai (bw t10 (u4 (A.deeper env) _ G1 s10 [v,v2] (WL.less (by decide)) (WM.keeps UW t10) (y9.keeps Se).lo (λ_ _ e=>e) rP)) (λv3 s11 q=>?_) λ_ _ e=>e;obtain⟨t11,k11,r11⟩:=q;refine ai (bw t11 (mm (b:=true) r11 rfl)) (λcc s12 q=>?_) λ_ _ e=>e;obtain⟨t12,rfl,J0⟩:=q;rw[if_neg (by decide)];have k9:=Keeps.trans' (Keeps.trans' UW k11) J0;have ayO:=WM.keeps k9 t12;have y12:=y9.keeps (Keeps.all k9);have asD:=Keeps.trans' si9.kp k9;have asE:=Wm.keeps wI9 (Keeps.all k9);have asF:=Wm.keeps wD9 (Keeps.all k9);refine zZ (asr (PI:=PI) (PD:=PD) AJ WL alf frc asD t12 y12 (by show A.frames.map _=_;rw[ass];rfl) (by rw[ij];rfl) asE asF λs13 asG asH y13 asI asJ=>?_);rw[if_neg (by decide)];refine asV ?_;rw[if_neg (by decide)];refine dD ?_;refine aS (g6 (ai (VO2.d (A.deeper env) E' env G1 _ s13 _ _ (WL.less (by decide)) asH y13 (by rw[AJ];exact tr)) (λv4 s14 q=>?_) λ_ _ e=>e));have kf:=Keeps.trans' asG q.1;have r14:=q.2;have r14:=r14.bool;obtain⟨hf,tf,ef,kkf⟩:=kf;have ke:=Keeps.all q.1;refine hQ _ _ ⟨r14,⟨hf,tf,by rw[ef,hsc,hsb]⟩,λb o e n1 n2=>?_,?_,?_⟩
 ·rw[ef]
  exact kkf _ _ (ale _ _ (My _ _ e n2) n1)
 ·obtain⟨_,_,_,_,_,_,_,_,_,w5⟩:=Wm.keeps asI ke
  obtain⟨ps,_,h1,_⟩:=w5.tab;exact⟨ps,h1⟩
 ·obtain⟨_,_,_,_,_,_,_,_,_,w5⟩:=Wm.keeps asJ ke
  obtain⟨ps,_,h1,_⟩:=w5.tab;exact⟨ps,h1⟩
end Internal.I
end
section
open PySem PySem.W PyProof.Rows
namespace Internal.Q
open Internal.I (Cd lr eI eQ j9 qi kQ GR Nr)
abbrev WN:RowW:=fe.row.toRowW
theorem WO(G:Ground gK iI [] (λ_ _=>True) w az mg mb h)(y:YP w h):pz mg mb w h:=
 ⟨G.T.g,G.T.b,G.T.fn,G.T.const,G.T.free,G.T.builtins,G.T.bmain,y⟩
theorem Nu:Bu 80 callerA:=by
 refine⟨?_,?_⟩<;>decide
theorem WQ:defOf gK "law"=some (kQ,[]):=by rfl'
theorem Nv:kQ.params.defaults=[]:=by rfl'
theorem has_bool:WShape.has [] (.bool true) .bool=true:=rfl
theorem Nw:WN.claim.post args (.bool true) args=true:=by
 refine postC_of (X:=true) has_bool ?_ rfl;show some (z8 (PySem.W.same (.bool true) (.bool true)))=_;rw[same_self]
theorem walk(G:Ground gK iI [] (λ_ _=>True) w az mg mb aU.heap)(Y:Yfs az=Yas w)(ho:aU.heap.get? a=some o)
(hd:o.data=.func {cJ kQ.name kQ.params kQ.body kQ.scope pm cd doc with defaults:=dV,kwdefaults:=kV})(Aj:aU.heap.CodeRec cd kQ.name)(hD:Dflts mg aU.heap kQ.params [] dV kV)(alg:aU.gens= #[])(L:Laid [] w az aU args vals as)(AK:WN.claim.pre args=true)(hwl:WellAll w.params aU.heap vals args):
 wpAny (model pw w) callerA (call (.ref a) vals) (λv s'=>GoodWG WN.claim (classAt az.heap) (amL az.heap) args aU (.ok (.ret v)) s')
  (λe s'=>GoodWG WN.claim (classAt az.heap) (amL az.heap) args aU (.error e) s') aU:=by
 have hdV:dV=.none:=by
  rcases hD.pos with⟨_,q⟩|⟨q,_⟩
  ·exact q
  ·exact absurd Nv q
 have hkV:kV=.none:=by
  rcases hD.kw with⟨_,q⟩|⟨q,_⟩
  ·exact q
  ·exact absurd rfl q
 subst hdV hkV;obtain⟨l,rfl,hl⟩:=Internal.J.Nk (r:=fe) rfl rfl AK;have YY:YP2 w az.heap:=adC w az (by
  have:=Y;simp only[pL]at this⊢;exact⟨this.1,this.2.1,this.2.2.1⟩)
 have hm:GQ az=true:=by
  have:=Y;simp only[pL]at this;exact this.2.2.2
 obtain⟨y,Sv,g',c1,P1,c2,P2,t1,t2,mV⟩:=Ni w _ _ YY L.keeps;have la:=WO G y;unfold GQ at hm;simp only[av,Nat.ble_eq,cX]at hm;obtain⟨m1,m2,m3⟩:=hm;obtain⟨ord,Wz,alh⟩:=L.laid;have tk:1<=aU.toks:=aq m1 (Nl alh);have cI:Cd aU.heap lr (bV eI) eQ P1:=YT la qi g' (by rw[j9];exact t1);have cD:Cd aU.heap jH (bV dI) dQ P2:=YT la F2 g' (by rw[ug];exact t2);have e1:aU.heap.get? P1=some (tabObj #[]):=by obtain⟨_,_,_,_,_,_,_,_,h⟩:=t1;exact h
 have e2:aU.heap.get? P2=some (tabObj #[]):=by obtain⟨_,_,_,_,_,_,_,_,h⟩:=t2;exact h
 have am:dq callerA (jo w) aU:=⟨rfl,⟨_,(Heap.Ns.of_isNs m2).keeps L.keeps,m3⟩,G.T.nolimit,⟨mg,G.T.g⟩,tk,by decide,λh k=>⟨mg,mb,la.keeps k⟩⟩
 have lo:iQ (λb=>b=P1\/b=P2) aU.heap:=λb q=>by
  rcases q with rfl|rfl
  ·rw[e1];rfl
  ·rw[e2];rfl
 have rs:aZ aU.heap (λb=>b=P1\/b=P2) [.lst (l.map D.int)] vals:=Nn hwl (λb o e c q=>by
  rcases q with rfl|rfl
  ·rw[e1]at e;cases e;cases c
  ·rw[e2]at e;cases e;cases c)
 refine ai (Internal.I.Sb ho hd Aj cI cD mV (.inl rfl) (.inr rfl) Nu rfl am lo rs hl) (λv s' q=>?_) λ_ _ e=>e;obtain⟨rfl,⟨h',tk',rfl⟩,kept,⟨ps1,f1⟩,ps2,f2⟩:=q;have tb1:isCodeTable aU.heap P1:=by
  obtain⟨_,_,_,_,_,_,_,⟨o,vs,_,_,_,_,_,_,_,b1,b2,b3,b4,_⟩,_⟩:=t1;exact⟨c1,o,vs,b1,b2,b3,b4⟩
 have tb2:isCodeTable aU.heap P2:=by
  obtain⟨_,_,_,_,_,_,_,⟨o,vs,_,_,_,_,_,_,_,b1,b2,b3,b4,_⟩,_⟩:=t2;exact⟨c2,o,vs,b1,b2,b3,b4⟩
 refine⟨.inl ⟨.bool true,.bool true,[],rfl,λ_=>rfl,.bool true,Nw,λ_=>⟨.nil,λ_ h=>nomatch h⟩⟩,⟨λb o e=>?_,λb o e=>?_⟩,rfl,AllBare.of_eq alg⟩
 ·by_cases h1:b=P1
  ·subst h1
   rw[e1]at e;cases e;exact .inr (.inl ⟨tb1,rfl,#[],ps1,rfl,by rw[oY];exact f1⟩)
  ·by_cases h2:b=P2
   ·subst h2
    rw[e2]at e;cases e;exact .inr (.inl ⟨tb2,rfl,#[],ps2,rfl,by rw[oY];exact f2⟩)
   ·exact .inl (kept b o e h1 h2)
 ·by_cases h1:b=P1
  ·subst h1;exact⟨_,f1⟩
  ·by_cases h2:b=P2
   ·subst h2;exact⟨_,f2⟩
   ·exact⟨o,kept b o e h1 h2⟩
end Internal.Q
end
open PySem PySem.W PyProof.Rows
namespace Internal.Q
theorem whole:fe.Holds:=by
 w_on
 refine holds_law amM λ_=>?_;refine holds_openX (q:=gK) (loose:=iI) (Xt:=λ_=>true) (XP:=λ_ _=>True) (Yf:=Yfs) (Ya:=Yas) (N:=4000000) (d:=Internal.I.kQ) (kwd:=[]) ak5 (λ_ _=>trivial) (λ_ _ _ _ _=>trivial) WQ (by rfl') (by rfl') (λs _=>recFacts_nil (by rfl)) (by rfl) (by first|assumption|decide) (by decide) ⟨rfl,rfl,rfl,rfl,rfl,by decide⟩ ?hw ?hc
 case hw=>w_witness2
 intro w az aU mg mb G Y a o pm cd doc dV kV ho hd Aj hD hmg hg args vals as L AK ayX hrd hwl hlo;exact walk G Y ho hd Aj hD hg L AK hwl
end Internal.Q
theorem PySem.Challenge.cw_ta0129_02_holds : PySem.Challenge.rw_ta0129_02.Holds := by
 exact Internal.Q.whole
