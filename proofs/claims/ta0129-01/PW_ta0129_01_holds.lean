import PyProof.Rows.All
import Wide.All
import OpenK.AllK
import Wide.FinOn
import PySem.Challenge.RW_ta0129_01
set_option Elab.async false
set_option autoImplicit true
set_option genInjectivity false
set_option genSizeOf false
set_option maxRecDepth 1000000
set_option maxHeartbeats 0
set_option linter.unusedVariables false
open PySem renaming Expr→ae,wpAny_mono→aj,Shared→ak,wpAny_bind→aw,Around→aE,wpAny_pure→aM,Program→bb,wpAny_holding→cq,wpAny_execs_cons→cz,DictEntry→cX,Comprehension→dY,wpAny_standAt→eH,wpAny_execs_nil→iq,OsState→iu,NameKind→iz,NoneBooked→jt,FuncData→ky,wpAny_Name→mG,wpAny_truthy_bool→nD,wpAny_Return_some→nE,Arguments→oQ,wpAny_rule→oT,wpAny_loadName_cell→qt,Operator→se,wpAny_assign_Name→tC,wpAny_Assign_Name→tD,wpAny_Call_method_lateS→vR,callWith_type→yg,pushCells_keeps→yC,wpAny_allTrue_Or_cons→Am,wpAny_loadName_local→Bf,wpAny_BinOp→Bh,wpAny_loadName_free→DU,Fin→DV,call_meets→Hl,IsPart→Hm,wpAny_Expr→Ho,IsRange→J0,DefRec→N2,wpAny_ite_split→SF,Keyword→S9,Params→W5,sliceRange_one→W9,wpAny_sharingNotTold_none→Za,wpAny_ite→aeS,wpAny_list_append_plain→aeU,TriplesOk→aeX,Builtin→alJ,codeAny_compStart_list→alQ,wpAny_storeName_local→ane,wpAny_storeName_cell→asJ,wpAny_of_eq→asK,wpAny_allTrue_Or_nil→asL,wpAny_Tuple→asM,wpAny_AugAssign_Name→asN,wordsOf→avg,wpAny_isTrue_BoolOp→avh
open Option renaming bind_some→af,isSome_iff_exists→aA,isNone_iff_eq_none→cV,or→ec,none_or→oZ,isSome→qr,map_eq_none_iff→sF,map_some→tq,getD_none→Cw,bind→DW,some_or→HG,isSome_map→aek,map_none→alN,or_none→anc
open List renaming length_map→ag,mem_cons_of_mem→av,mem_cons_self→ax,length_append→aC,length_cons→aG,map_cons→aH,mem_cons→aL,mem_singleton→aU,getElem_mem→aV,map_append→aX,range→a0,all_eq_true→bf,size_toArray→bg,replicate→bz,mem_range→bH,length_range→cf,mem_append→cC,map_map→cG,nodup_cons→cJ,filter_cons→cQ,append_assoc→c7,getElem?_eq_getElem→da,mem_filter→dq,cons_append→du,append_nil→dD,nodup_append→dG,flatMap_cons→dH,sum_cons→dR,length_take→dU,drop_eq_getElem_cons→dZ,length_reverse→d7,foldl_append→eh,length_drop→eJ,lookup_cons→eL,mem_append_left→eM,take_length→fG,not_mem_nil→fH,getD→gJ,getElem?_toArray→gO,mem_of_find?_eq_some→gW,reverse_cons→gZ,mem_map_of_mem→iw,map_congr_left→iA,isEmpty_iff→iI,mem_map→iZ,forIn_cons→je,foldl_cons→jf,idxOf_lt_length_of_mem→ju,getElem?_eq_some_iff→ki,mem_or_eq_of_mem_set→kj,of_mem_zip→lh,count_cons→lj,filter_append→lG,filter_cons_of_neg→lO,filter_eq_nil_iff→mn,drop_zero→mq,nodup_nil→mr,take_of_length_le→mv,take_succ_eq_append_getElem→mw,getElem?_eq_none→nj,take_append_drop→nk,contains_iff_mem→nq,length_filter_le→nr,length_replicate→nu,perm_append_comm→nv,mem_append_right→ny,range_eq_range'→nY,nil_append→oo,length_set→oq,range_succ→ot,forIn_nil→p9,getElem_idxOf→qf,zip_cons_cons→qh,getD_eq_getElem?_getD→qi,length→rz,getElem?_map→rA,all_cons→rW,range'_succ→sE,mem_reverse→sG,isEmpty_map→sH,range'→xU,reverse_reverse→xW,replicate_succ→yB,filterMap_cons→yD,take_succ_cons→yF,flatMap_append→yG,map_replicate→Az,drop_length→Ef,map_reverse→Eg,mem_flatMap→Eh,flatMap_map→Ej,eq_nil_of_length_eq_zero→Hp,length_nil→HD,find?_some→HF,find?_cons→HH,countP_eq_length_filter→HN,drop_drop→LJ,take_add→Oi,take→SH,range_succ_eq_map→Tb,map_set→Tg,drop_of_length_le→Ti,sizeOf_lt_of_mem→Xb,take_eq_take_min→Xf,drop_eq_drop_min→Xg,getElem?_range→aee,append_toArray→aeg,getElem_of_mem→aei,map_eq_nil_iff→aej,length_pos_iff→aem,forall_mem_map→aet,findIdx?_cons→aeT,ext_getElem?→alM,filter_congr→alW,getElem?_set→alX,mem_toArray→anb,drop→ang,ext_getElem→anh,idxOf_cons→asV,take_left→avl,take_zero→avn
open Option.some renaming inj→ai
open Nat renaming le_trans→ao,pow_le_pow_right→aW,lt_of_le_of_lt→bx,le_refl→bD,lt_of_lt_of_le→bJ,le_of_lt→bV,ble→b8,beq→cy,le_of_ble_eq_true→cA,mul_le_mul_left→cE,lt_trans→dn,zero_le→dx,mod_lt→dA,pow_pos→ei,eq_of_beq_eq_true→el,add→eG,log2→eT,lt_irrefl→fg,mod_two_eq_zero_or_one→fh,lt_succ_self→fN,add_comm→fR,add_le_add_right→fW,sub→gh,lt_succ_of_le→gi,add_le_add_left→gv,ne_of_lt→gG,ble_eq_true_of_le→gR,mul_comm→hU,sub_zero→hW,le_add_right→iM,succ_le_succ→iN,pow_add→i7,zero_add→ja,mul→jx,pow_lt_pow_right→jN,pow→km,sub_le→lN,succ→mE,mod_eq_of_lt→nH,div_lt_of_lt_mul→oj,min_eq_left→oU,div_add_mod→oW,mul_le_mul→qo,mod_mul_right_div_self→qp,le_of_succ_le→rX,min_le_right→tv,le_mul_of_pos_left→uF,pow_succ→uG,sub_add_sub_cancel→uH,beq_refl→uI,mul_succ→uJ,mod→uM,sub_le_iff_le_add→vT,add_mul→yh,one_mul→yi,sub_lt_sub_left→Al,add_sub_cancel'→An,not_lt→Bg,mul_zero→DQ,lt_succ_of_lt→DS,add_mod_right→DX,succ_ne_zero→Hn,mul_add→HI,mul_one→HJ,not_lt_zero→J3,min_le_left→J6,div→LM,add_assoc→SG,mul_assoc→SK,le_mul_of_pos_right→Te,add_sub_cancel_left→Tf,add_zero→W4,le_of_eq→W7,le_of_succ_le_succ→Xc,succ_mul→Xk,div_lt_iff_lt_mul→Zb,add_lt_of_lt_sub'→Zc,log2_lt→aef,mul_le_mul_right→ael,eq_of_testBit_eq→aeo,div_pos→aep,add_mod→aes,sub_le_sub_left→aeY,lt_or_eq_of_le→alP,add_right_comm→alR,mod_mod_of_dvd→alV,le_of_lt_succ→ani,min_eq_right→asP,div_eq_of_lt→asS,lt_log2_self→asU,div_le_self→avk,mul_add_div→avm,log2_eq_iff→avo
open Bool renaming and_eq_true→ay,false_ne_true→aJ,and_eq_true_iff→bO,not_eq_true'→cF,eq_iff_iff→fq,false_eq_true→i0,and_self→jk,noConfusion→nz,or_eq_false_iff→nZ,xor→n6,not_true→rY,or_eq_true→uE
open Int renaming toNat_natCast→aY,fdiv_eq_ediv_of_nonneg→bp,fmod_eq_emod_of_nonneg→bM,natCast_nonneg→cg,ofNat→eR,ofNat_le→gD,natCast_pow→g0,eq_ofNat_of_zero_le→iO,le_trans→jb,natAbs_natCast→jc,ediv_emod_unique→jP,natCast_add→lD,natCast_mul→lF,pow_add→lS,mul_add→lT,ofNat_lt→pZ,mul_comm→p0,mul_assoc→sj,toNat→yE,toNat_of_nonneg→Ak,add_comm→DR,le_of_lt→DT,neg_fdiv_neg→Hq,neg_fmod_neg→Hr,mul_neg→HM,ofNat_sub→SJ,add_zero→W8,mul_zero→Xd,pow_succ→Xi,fmod_nonneg_of_pos→Xj,neg_neg→aeq,sub_le_sub_right→aer,lt_of_lt_of_le→alS,sub_add_cancel→alT,natCast_zero→asH,min_eq_right→asQ,min_eq_left→avj
open PySem.Heap renaming get?_push_of_some→bj,lt_size→dT,get?_push_size→iy,size_push→jM,SameBut→tB,get?_eq_some→alL
open PySem.NameKind renaming free→bG,cell→qg
open ForInStep renaming yield→bP
open PySem.Float64 renaming sgn→bQ,cmp→ck,truncOf→cu,isFinite→cO,shift→eU,ofFrac→fM,ofInt→gn,cmpInt→gE,isZero→ij,add→iF,sub→iG,mul→iH,ofBin→kq,div→kL,zero→lR,isInf→mL,fmod→sk,divmod→uA,abs→uD,isNaN→xV,pack→Ao,halfEven→Bj,roundMag→Bk,decode→Hs,neg→SM,lt→Xh,floorOf→aeZ,infMag→alU,align→ank
open PySem.Builtin.Int renaming intBits→bR
open PySem.Flt renaming toInt→bX
open PySem.Builtin renaming bitNot→cR,bitXor→oS,bitAnd→uL,bitOr→anj
open Array renaming length_toList→cT,getElem?_append_right→oR,getElem?_append_left→pH,empty_append→pY,getElem?_toList→uC,getD_eq_getD_getElem?→HK,toList_setIfInBounds→J5,toList_eq_nil_iff→Oj,toList_push→aeV,isEmpty_iff→aeW
open PUnit renaming unit→dP
open List.cons renaming inj→d6
open PySem.Expr renaming casesOn→fj
open PySem.Challenge renaming rw_ta0129_01→ft
open PySem.Builtin.Range renaming rangeSize→fu,small→HE
open PySem.Calls renaming spliced_cons→fE,docDef→fO,callWith_function→lE,callWith_builtin→me,spliced_nil→mf
open PySem.W.WData renaming int→fF,bool→Ap
open PySem.W renaming boot_heap→gw,boot_drawn→mD,boot_o_10→mK,boot_o_0→pJ,boot_o_1→pL,boot_o_2→pM,boot_o_4→pN,boot_o_5→pO,boot_o_6→pQ,boot_o_7→pR,boot_o_8→pT,boot_o_9→pU,CodeHd→Xe,boot_toks→aeQ
open Prod.mk renaming inj→gV,injEq→qn
open PySem.Value renaming ref→ix,none→jD,builtin→ave,isStrOf→avi
open PySem.pyHashByItsType renaming reduced→jw
open PySem.Obj renaming mapSeq→jO,putName→aed,mapDictKeys→avd
open PySem.Around renaming deeper_units→jQ
open PySem.Env renaming kindOf→lQ
open PySem.Value.ref renaming inj→mu
open PySem.Txt renaming startswith→mF,find→N0,words→Tc,lower→asI
open PySem.Heap.SameBut renaming update→mH
open PySem.Value.int renaming inj→pX
open PySem.IsL renaming update→qm
open PySem.F renaming plainAttrs_list→rC,slot_list_iadd→sf,slot_dict_get→tw,slot_list_index→LK,slot_str_split→N1,entry_dict_get→N3
open PySem.Expr.Subscript renaming elim→uy
open PySem.Str renaming ofString→uz
open Ne renaming symm→uP
open PySem.Expr.Constant renaming elim→vQ
open PySem.Data.fields renaming inj→Aj
open PySem.Builtin.List renaming listTooLong→Cv
open PySem.Expr.Name renaming elim→DO
open PySem.Flow renaming next→Ed
open PySem.Builtin.Str renaming occurrences→Ee
open Eq renaming trans→Ei
open PySem.W.WShape renaming hasItems→Ek,hasAll→LN
open PySem.BoolOp renaming And→HL
open PyProof.Rows renaming eq_int→J1,eq_str→J2,IntsAre→J4
open List.Pairwise renaming nil→LL
open PySem.AutoFloatOps renaming lt_0→NZ
open PySem.Stmt renaming casesOn→Oh
open PySem.Sem renaming wrap_wrap→SE,update→alK
open PySem.World renaming withFollow_self→Ta
open And renaming intro→Td
open PySem.CmpOp renaming Eq→W6
open List.Perm renaming swap→aeh,refl→aen
open PySem.Value.str renaming inj→aeR
open PySem.isSame renaming created→ana
open Nat.succ renaming inj→anf
open PySem.ExcName renaming means→anl
open PySem.IsRange renaming new→avf
open UInt64 renaming ofNat→avp
open PySem.W.OpenLaw renaming pre→avq
namespace Mxx
@[elab_as_elim] theorem rwL{α:Sort _}{a b:α}{p:α→Prop}(h:a=b)(x:p b):p a:=h▸x
@[elab_as_elim] theorem rwR{α:Sort _}{a b:α}{p:α→Prop}(h:a=b)(x:p a):p b:=h▸x
theorem x02{A B:Prop}{G:Prop}(h:A∧B)(k:A→B→G):G:=k h.1 h.2
theorem x11{α:Sort _}{A:α→Prop}{G:Prop}(h:∃ a,A a)(k:∀ a,A a→G):G:=h.elim fun a h=>k a h
theorem x12{α:Sort _}{A B:α→Prop}{G:Prop}(h:∃ a,A a∧B a)(k:∀ a,A a→B a→G):G:=h.elim fun a h=>k a h.1 h.2
theorem x03{A B C:Prop}{G:Prop}(h:A∧B∧C)(k:A→B→C→G):G:=k h.1 h.2.1 h.2.2
theorem x22{α β:Sort _}{A B:α→β→Prop}{G:Prop}(h:∃ a b,A a b∧B a b)(k:∀ a b,A a b→B a b→G):G:=h.elim fun a h=>h.elim fun b h=>k a b h.1 h.2
theorem x23{α β:Sort _}{A B C:α→β→Prop}{G:Prop}(h:∃ a b,A a b∧B a b∧C a b)(k:∀ a b,A a b→B a b→C a b→G):G:=h.elim fun a h=>h.elim fun b h=>k a b h.1 h.2.1 h.2.2
theorem x04{A B C D:Prop}{G:Prop}(h:A∧B∧C∧D)(k:A→B→C→D→G):G:=k h.1 h.2.1 h.2.2.1 h.2.2.2
theorem x34{α β γ:Sort _}{A B C D:α→β→γ→Prop}{G:Prop}(h:∃ a b c,A a b c∧B a b c∧C a b c∧D a b c)(k:∀ a b c,A a b c→B a b c→C a b c→D a b c→G):G:=h.elim fun a h=>h.elim fun b h=>h.elim fun c h=>k a b c h.1 h.2.1 h.2.2.1 h.2.2.2
theorem x24{α β:Sort _}{A B C D:α→β→Prop}{G:Prop}(h:∃ a b,A a b∧B a b∧C a b∧D a b)(k:∀ a b,A a b→B a b→C a b→D a b→G):G:=h.elim fun a h=>h.elim fun b h=>k a b h.1 h.2.1 h.2.2.1 h.2.2.2
theorem x21{α β:Sort _}{A:α→β→Prop}{G:Prop}(h:∃ a b,A a b)(k:∀ a b,A a b→G):G:=h.elim fun a h=>h.elim fun b h=>k a b h
theorem x13{α:Sort _}{A B C:α→Prop}{G:Prop}(h:∃ a,A a∧B a∧C a)(k:∀ a,A a→B a→C a→G):G:=h.elim fun a h=>k a h.1 h.2.1 h.2.2
theorem x44{α β γ δ:Sort _}{A B C D:α→β→γ→δ→Prop}{G:Prop}(h:∃ a b c d,A a b c d∧B a b c d∧C a b c d∧D a b c d)(k:∀ a b c d,A a b c d→B a b c d→C a b c d→D a b c d→G):G:=h.elim fun a h=>h.elim fun b h=>h.elim fun c h=>h.elim fun d h=>k a b c d h.1 h.2.1 h.2.2.1 h.2.2.2
theorem x32{α β γ:Sort _}{A B:α→β→γ→Prop}{G:Prop}(h:∃ a b c,A a b c∧B a b c)(k:∀ a b c,A a b c→B a b c→G):G:=h.elim fun a h=>h.elim fun b h=>h.elim fun c h=>k a b c h.1 h.2
theorem x05{A B C D E:Prop}{G:Prop}(h:A∧B∧C∧D∧E)(k:A→B→C→D→E→G):G:=k h.1 h.2.1 h.2.2.1 h.2.2.2.1 h.2.2.2.2
theorem x14{α:Sort _}{A B C D:α→Prop}{G:Prop}(h:∃ a,A a∧B a∧C a∧D a)(k:∀ a,A a→B a→C a→D a→G):G:=h.elim fun a h=>k a h.1 h.2.1 h.2.2.1 h.2.2.2
theorem x33{α β γ:Sort _}{A B C:α→β→γ→Prop}{G:Prop}(h:∃ a b c,A a b c∧B a b c∧C a b c)(k:∀ a b c,A a b c→B a b c→C a b c→G):G:=h.elim fun a h=>h.elim fun b h=>h.elim fun c h=>k a b c h.1 h.2.1 h.2.2
theorem x26{α β:Sort _}{A B C D E F:α→β→Prop}{G:Prop}(h:∃ a b,A a b∧B a b∧C a b∧D a b∧E a b∧F a b)(k:∀ a b,A a b→B a b→C a b→D a b→E a b→F a b→G):G:=h.elim fun a h=>h.elim fun b h=>k a b h.1 h.2.1 h.2.2.1 h.2.2.2.1 h.2.2.2.2.1 h.2.2.2.2.2
theorem x15{α:Sort _}{A B C D E:α→Prop}{G:Prop}(h:∃ a,A a∧B a∧C a∧D a∧E a)(k:∀ a,A a→B a→C a→D a→E a→G):G:=h.elim fun a h=>k a h.1 h.2.1 h.2.2.1 h.2.2.2.1 h.2.2.2.2
theorem x54{α β γ δ ε:Sort _}{A B C D:α→β→γ→δ→ε→Prop}{G:Prop}(h:∃ a b c d e,A a b c d e∧B a b c d e∧C a b c d e∧D a b c d e)(k:∀ a b c d e,A a b c d e→B a b c d e→C a b c d e→D a b c d e→G):G:=h.elim fun a h=>h.elim fun b h=>h.elim fun c h=>h.elim fun d h=>h.elim fun e h=>k a b c d e h.1 h.2.1 h.2.2.1 h.2.2.2
theorem x25{α β:Sort _}{A B C D E:α→β→Prop}{G:Prop}(h:∃ a b,A a b∧B a b∧C a b∧D a b∧E a b)(k:∀ a b,A a b→B a b→C a b→D a b→E a b→G):G:=h.elim fun a h=>h.elim fun b h=>k a b h.1 h.2.1 h.2.2.1 h.2.2.2.1 h.2.2.2.2
theorem x41{α β γ δ:Sort _}{A:α→β→γ→δ→Prop}{G:Prop}(h:∃ a b c d,A a b c d)(k:∀ a b c d,A a b c d→G):G:=h.elim fun a h=>h.elim fun b h=>h.elim fun c h=>h.elim fun d h=>k a b c d h
theorem x43{α β γ δ:Sort _}{A B C:α→β→γ→δ→Prop}{G:Prop}(h:∃ a b c d,A a b c d∧B a b c d∧C a b c d)(k:∀ a b c d,A a b c d→B a b c d→C a b c d→G):G:=h.elim fun a h=>h.elim fun b h=>h.elim fun c h=>h.elim fun d h=>k a b c d h.1 h.2.1 h.2.2
theorem x35{α β γ:Sort _}{A B C D E:α→β→γ→Prop}{G:Prop}(h:∃ a b c,A a b c∧B a b c∧C a b c∧D a b c∧E a b c)(k:∀ a b c,A a b c→B a b c→C a b c→D a b c→E a b c→G):G:=h.elim fun a h=>h.elim fun b h=>h.elim fun c h=>k a b c h.1 h.2.1 h.2.2.1 h.2.2.2.1 h.2.2.2.2
theorem x45{α β γ δ:Sort _}{A B C D E:α→β→γ→δ→Prop}{G:Prop}(h:∃ a b c d,A a b c d∧B a b c d∧C a b c d∧D a b c d∧E a b c d)(k:∀ a b c d,A a b c d→B a b c d→C a b c d→D a b c d→E a b c d→G):G:=h.elim fun a h=>h.elim fun b h=>h.elim fun c h=>h.elim fun d h=>k a b c d h.1 h.2.1 h.2.2.1 h.2.2.2.1 h.2.2.2.2
theorem x42{α β γ δ:Sort _}{A B:α→β→γ→δ→Prop}{G:Prop}(h:∃ a b c d,A a b c d∧B a b c d)(k:∀ a b c d,A a b c d→B a b c d→G):G:=h.elim fun a h=>h.elim fun b h=>h.elim fun c h=>h.elim fun d h=>k a b c d h.1 h.2
theorem x31{α β γ:Sort _}{A:α→β→γ→Prop}{G:Prop}(h:∃ a b c,A a b c)(k:∀ a b c,A a b c→G):G:=h.elim fun a h=>h.elim fun b h=>h.elim fun c h=>k a b c h
def mp(f:Lean.Syntax→Lean.Syntax):List Lean.Syntax→List Lean.Syntax
 |[]=>[]
 |a::l=>f a::mp f l
def go(a:List Lean.Syntax):List String→List Lean.Syntax→List Lean.Syntax
 |[],s=>s
 |w::l,s=>
  let r:=(w.drop 1).toString;let d:=w.back.toNat-48;let k n:=.node .none n (s.take d).reverse.toArray::s.drop d;let q:=Lean.Name.mkSimple (r.dropEnd 1).toString;let c:=w.front
  go a l (if c=='H' then a[r.toNat!]!::s else if c=='I' then Lean.mkIdent r.toName::s else if c=='.' then Lean.mkAtom r::s else if c=='T' then k (`Lean.Parser.Tactic++q)else if c=='R' then k (`Lean.Parser.Term++q)else if c=='P' then k (`Lean.Parser.Command++q)else k q)
def bl(t:String)(a:List Lean.Syntax):Lean.Syntax:=(go a (t.splitOn " ") [])[0]!
def sp:List Lean.Syntax→List Lean.Syntax
 |a::b::l=>a::Lean.mkAtom ";"::sp (b::l)
 |l=>l
def nl(a:List Lean.Syntax):Lean.Syntax:=Lean.mkNullNode a.toArray
def sq(a:List Lean.Syntax):=bl ".( H0 TtacticSeq1Indented1 TtacticSeq1 .) Tparen3" [nl (sp a)]
def fs(a:List Lean.Syntax):=bl ".first H0 Tfirst2" [nl (mp (fun t=>bl ".| H0 Nnull1 TtacticSeq1Indented1 TtacticSeq1 Ngroup2" [t]) a)]
def iN(e:Lean.Syntax):=sq [bl ".refine .( I NhygieneInfo1 RhygienicLParen2 .? ._ RsyntheticHole2 .: ._ Rhole1 .→ ._ Rhole1 Rarrow3 Nnull1 .) RtypeAscription5 H0 Nnull1 Rapp2 Trefine2" [e],bl ".intro Iz0 Nnull1 Tintro2" []]
def rf:=bl ".refine H0 H1 .? ._ RsyntheticHole2 Nnull2 Rapp2 Trefine2"
def cl:=bl ".clear H0 Nnull1 Tclear2"
def z0:=Lean.mkIdent `z0
def rw(s:Lean.Syntax):Lean.MacroM Lean.Syntax:=if s[3].getNumArgs>0 then Lean.Macro.throwUnsupported else
 pure (sq (mp (fun r=>
  let w:=bl ".rewrite Nnull0 ToptConfig1 .[ H0 Nnull1 .] TrwRuleSeq3 Nnull0 TrewriteSeq4" [r];let c k:=(r.find? fun s=>s.isOfKind k).isSome
  if c `Lean.Parser.Term.syntheticHole then w else
  let l:=Lean.mkIdent (if r[0].getNumArgs=0 then `Mxx.rwL else `Mxx.rwR);let e:=r[1];let x:=rf [l,e]
  if c `Lean.Parser.Term.byTactic then fs [x,w]else
  let v s:=bl ".with_reducible_and_instances H0 Nnull1 TtacticSeq1Indented1 TtacticSeq1 TwithReducibleAndInstances2" [s]
  fs [sq [iN e,fs [rf [l,z0],rf [l,bl "Ipropext Iz0 Nnull1 Rapp2" []]],cl [z0]],v x,v (rf [l,bl "H0 ... Rellipsis1 Nnull1 Rapp2" [e]]),w]) s[2][1].getSepArgs.toList++[bl ".try .with_reducible .rfl TtacticRfl1 Nnull1 TtacticSeq1Indented1 TtacticSeq1 TwithReducible2 Nnull1 TtacticSeq1Indented1 TtacticSeq1 TtacticTry_2" []]))
def xs(n:Nat):Nat→List Lean.Syntax
 |0=>[]
 |i+1=>rf [Lean.mkIdent (.str `Mxx s!"x{i}{n-i}"),z0]::xs n i
def ob(s:Lean.Syntax):Lean.MacroM Lean.Syntax:=
 let m:=s[1][0];let p:=m[0][0]
 if s[1].getNumArgs=1&&m[0].getNumArgs=1&&p.isOfKind `Lean.Parser.Tactic.rcasesPat.tuple&&s[2].getNumArgs=0&&s[3][1].getNumArgs=1 then
  let e:=s[3][1][0];let P:=p[1].getSepArgs;let rc e m:=bl ".rcases Nnull0 H0 TelimTarget2 Nnull1 .with H1 Nnull2 Trcases3" [e,m];let f:=rc e (bl "H0 Nnull0 TrcasesPatLo2" [m])
  if P.size<2 then pure f else
  pure (fs [sq (iN e::fs (xs P.size (min P.size 6))::cl [z0]::(if e.isIdent then[bl ".try H0 Nnull1 TtacticSeq1Indented1 TtacticSeq1 TtacticTry_2" [cl [e]]]else[])++mp (fun q=>
   let y:=q[0][0][0];let n x:=bl ".intro H0 Nnull1 Tintro2" [x]
   if q[0][0].getNumArgs=1&&y.isOfKind `Lean.Parser.Tactic.rcasesPat.one&&y[0].getId != `rfl then n y[0]else
   sq [n z0,rc z0 q]) P.toList),f])
 else Lean.Macro.throwUnsupported
def cs(s:Lean.Syntax):Lean.MacroM Lean.Syntax:=
 let h:=s[1][0][1]
 if s[2].getNumArgs+s[3].getNumArgs+s[1][0][0].getNumArgs=0&&h.isIdent then
 let b a:=bl ".subst H0 Nnull1 Tsubst2" [a]
 pure (fs [sq [iN (bl "IEq.symm IOption.some.inj H0 Nnull1 Rapp2 Nnull1 Rapp2" [h]),cl [h],b z0],b h,bl ".cases Nnull0 .( I NhygieneInfo1 RhygienicLParen2 H0 .) Rparen3 TelimTarget2 Nnull1 Nnull0 Nnull0 Tcases4" [h]])
 else Lean.Macro.throwUnsupported
def nc(s:Lean.Syntax)(a:List Lean.Syntax):Lean.MacroM Lean.Syntax:=if s[1][0].getNumArgs>0 then Lean.Macro.throwUnsupported else pure (fs a)
def om(s:Lean.Syntax):=nc s [bl ".with_reducible H0 Nnull1 TtacticSeq1Indented1 TtacticSeq1 TwithReducible2" [fs (go [] (".exact IInt.natCast_nonneg ._ Rhole1 Nnull1 Rapp2 Texact2 .exact IInt.not_lt.mpr IInt.natCast_nonneg ._ Rhole1 Nnull1 Rapp2 Nnull1 Rapp2 Texact2 .exact IInt.ofNat_inj Texact2 .exact INat.lt_of_le_of_lt INat.sub_le ... Rellipsis1 Nnull1 Rapp2 .by .assumption Tassumption1 Nnull1 TtacticSeq1Indented1 TtacticSeq1 RbyTactic2 Nnull2 Rapp2 Texact2".splitOn " ") []++mp (fun n=>bl ".exact H0 .by .assumption Tassumption1 Nnull1 TtacticSeq1Indented1 TtacticSeq1 RbyTactic2 Nnull1 Rapp2 Texact2" [n]) (go [] ("INat.le_of_lt INat.lt_of_succ_lt INat.not_lt.mp INat.le_of_not_le INat.pos_of_ne_zero INat.lt_of_mul_lt_mul_left".splitOn " ") []))],bl ".lia .- IabstractProof TnegConfigItem2 TconfigItem1 Nnull1 ToptConfig1 Tlia2" [],bl ".omega .+ IsplitDisjunctions TposConfigItem2 TconfigItem1 Nnull1 ToptConfig1 Tomega2" []]
def ka:Lean.Syntax:=bl ".kernel_rfl NtacticKernel_rfl1 Nnull1 TtacticSeq1Indented1 TtacticSeq1" []
def kr:=bl ".kernel_rfl NtacticKernel_rfl1" []
def de(s:Lean.Syntax):=nc s [bl ".decide .+ Ikernel TposConfigItem2 TconfigItem1 Nnull1 ToptConfig1 Tdecide2" []]
def dl(s:Lean.Syntax):Lean.MacroM Lean.Syntax:=if s.getPos?.isNone then Lean.Macro.throwUnsupported else
 let k:=s[1].getKind
 pure ((if k==`Lean.Parser.Command.definition||k==`Lean.Parser.Command.abbrev then s.modifyArg 0 (·.setArg 4 (bl ".noncomputable Pnoncomputable1 Nnull1" []))else s).rewriteBottomUp (·.setInfo .none))
end Mxx
local macro_rules (kind:=Lean.Parser.Tactic.rwSeq)|s=>Mxx.rw s
local macro_rules (kind:=Lean.Parser.Tactic.obtain)|s=>Mxx.ob s
local macro_rules (kind:=Lean.Parser.Tactic.cases)|s=>Mxx.cs s
local macro_rules (kind:=Lean.Parser.Tactic.omega)|s=>Mxx.om s
local macro_rules (kind:=Lean.Parser.Tactic.decide)|s=>Mxx.de s
local macro_rules (kind:=Lean.Parser.Tactic.tacticRfl')|s=>pure Mxx.kr
local macro_rules (kind:=Lean.Parser.Command.declaration)|s=>Mxx.dl s
noncomputable section
section
open PySem PySem.W PyProof.Rows
namespace Internal.Q
theorem ae0{a b:Bool}(h:a=true)(k:b=true):(a&&b)=true:=by rw[h,k];rfl
theorem rs:ft.row.wellSaid=true:=by
 unfold OpenRow.wellSaid OpenRow.partSaid looksOpen;repeat' (with_reducible refine ae0 ?_ ?_)
 all_goals decide
theorem anm:ft.wellSaid=true:=by
 unfold OpenLaw.wellSaid;repeat' (with_reducible refine ae0 ?_ ?_)
 all_goals first|(with_reducible exact rs)|decide
end Internal.Q
end
section
open PySem
namespace Internal
theorem no{α:Type}{d:α}{P:Prop}(e:(none:Option α)=some d):P:=nomatch e
inductive ano{α β:Type}(x:Option α)(f:α->Option β)(b:β):Prop
 |mk (a:α) (h1:x=some a) (h2:f a=some b)
theorem aO{α β:Type}{x:Option α}{f:α->Option β}{b:β}(h:x.bind f=some b):ano x f b:=by
 cases x with
 |none=>exact no h
 |some a=>exact⟨a,rfl,h⟩
theorem n7{α:Type}{x y:Option α}{b:α}{P:Prop}(h:x.or y=some b)(k1:x=some b->P)(k2:y=some b->P):P:=by
 cases x with
 |none=>exact k2 h
 |some a=>exact k1 h
inductive anp{α β:Type}(x:Option α)(f:α->β)(b:β):Prop
 |mk (a:α) (h1:x=some a) (h2:f a=b)
theorem dM{α β:Type}{x:Option α}{f:α->β}{b:β}(h:x.map f=some b):anp x f b:=by
 cases x with
 |none=>exact no h
 |some a=>exact⟨a,rfl,ai h⟩
inductive anq{α β:Type}(l:List α)(f:α->β)(b:β):Prop
 |mk (a:α) (h1:a∈l) (h2:f a=b)
theorem jR{α β:Type}{l:List α}{f:α->β}{b:β}(h:b∈l.map f):anq l f b:=by
 obtain⟨a,h1,h2⟩:=iZ.mp h;exact⟨a,h1,h2⟩
def tE(e:ae):Option {x:Str×Pos // e=.Name x.1 x.2}:=
 if h:e.ctorIdx=23 then DO (motive_1:=λe=>Option {x:Str×Pos // e=.Name x.1 x.2}) e h λa b=>some ⟨(a,b),rfl⟩else none
def Tj(e:ae):Option {x:List ae×Nat×Pos // e=.Tuple x.1 x.2.1 x.2.2}:=
 if h:e.ctorIdx=25 then PySem.Expr.Tuple.elim (motive_1:=λe=>Option {x:List ae×Nat×Pos // e=.Tuple x.1 x.2.1 x.2.2}) e h λa b c=>some ⟨(a,b,c),rfl⟩else none
def Ol(e:ae):Option {x:(Option ae×Option ae×Option ae)×Pos // e=.Slice x.1.1 x.1.2.1 x.1.2.2 x.2}:=
 if h:e.ctorIdx=26 then PySem.Expr.Slice.elim (motive_1:=λe=>Option {x:(Option ae×Option ae×Option ae)×Pos // e=.Slice x.1.1 x.1.2.1 x.1.2.2 x.2}) e h λa b c d=>some ⟨((a,b,c),d),rfl⟩else none
def Xl(e:ae):Option {x:ae×List dY×Scope×Pos // e=.ListComp x.1 x.2.1 x.2.2.1 x.2.2.2}:=
 if h:e.ctorIdx=8 then PySem.Expr.ListComp.elim (motive_1:=λe=>Option {x:ae×List dY×Scope×Pos // e=.ListComp x.1 x.2.1 x.2.2.1 x.2.2.2}) e h λa b c d=>some ⟨(a,b,c,d),rfl⟩else none
def Om(e:ae):Option {x:ae×Str×Pos // e=.Attribute x.1 x.2.1 x.2.2}:=
 if h:e.ctorIdx=20 then PySem.Expr.Attribute.elim (motive_1:=λe=>Option {x:ae×Str×Pos // e=.Attribute x.1 x.2.1 x.2.2}) e h λa b c=>some ⟨(a,b,c),rfl⟩else none
def anr(e:ae):Option {x:Const×Nat×Pos // e=.Constant x.1 x.2.1 x.2.2}:=
 if h:e.ctorIdx=19 then vQ (motive_1:=λe=>Option {x:Const×Nat×Pos // e=.Constant x.1 x.2.1 x.2.2}) e h λa b c=>some ⟨(a,b,c),rfl⟩else none
def Oo(e:ae):Option {x:ae×List ae×List S9×Pos // e=.Call x.1 x.2.1 x.2.2.1 x.2.2.2}:=
 if h:e.ctorIdx=16 then PySem.Expr.Call.elim (motive_1:=λe=>Option {x:ae×List ae×List S9×Pos // e=.Call x.1 x.2.1 x.2.2.1 x.2.2.2}) e h λa b c d=>some ⟨(a,b,c,d),rfl⟩else none
def ae1(e:ae):Option {x:ae×ae×Pos // e=.Subscript x.1 x.2.1 x.2.2}:=
 if h:e.ctorIdx=21 then uy (motive_1:=λe=>Option {x:ae×ae×Pos // e=.Subscript x.1 x.2.1 x.2.2}) e h λa b c=>some ⟨(a,b,c),rfl⟩else none
def ae2(e:ae):Option {x:List ae×Pos // e=.List x.1 x.2}:=
 if h:e.ctorIdx=24 then PySem.Expr.List.elim (motive_1:=λe=>Option {x:List ae×Pos // e=.List x.1 x.2}) e h λa b=>some ⟨(a,b),rfl⟩else none
def ans(e:ae):Option {x:ae×se×ae×Pos // e=.BinOp x.1 x.2.1 x.2.2.1 x.2.2.2}:=
 if h:e.ctorIdx=2 then PySem.Expr.BinOp.elim (motive_1:=λe=>Option {x:ae×se×ae×Pos // e=.BinOp x.1 x.2.1 x.2.2.1 x.2.2.2}) e h λa b c d=>some ⟨(a,b,c,d),rfl⟩else none
def exC{α:Type}(z:α)(bo bi un ie lc cm ca co su na li tu)(e:ae):=
 fj (motive_1:=λ_=>α) e bo (λ_ _ _=>z) bi un (λ_ _ _ _=>z) ie (λ_ _ _=>z) (λ_ _ _=>z) lc (λ_ _ _ _=>z) (λ_ _ _ _ _=>z) (λ_ _ _ _=>z) (λ_ _=>z) (λ_ _=>z) (λ_ _=>z) cm ca (λ_ _ _ _=>z) (λ_ _=>z) co (λ_ _ _=>z) su (λ_ _=>z) na li tu (λ_ _ _ _=>z)
theorem J7{α:Type}{d:α}{P:ae->Prop}{bo bi un ie lc cm ca co su na li tu}(e:ae)(kbo:∀a b c,bo a b c=some d->P (.BoolOp a b c))(kbi:∀a b c x,bi a b c x=some d->P (.BinOp a b c x))(kun:∀a b c,un a b c=some d->P (.UnaryOp a b c))(kie:∀a b c x,ie a b c x=some d->P (.IfExp a b c x))(klc:∀a b c x,lc a b c x=some d->P (.ListComp a b c x))(kcm:∀a b c x,cm a b c x=some d->P (.Compare a b c x))(kca:∀a b c x,ca a b c x=some d->P (.Call a b c x))(kco:∀a b c,co a b c=some d->P (.Constant a b c))(ksu:∀a b c,su a b c=some d->P (.Subscript a b c))(kna:∀a b,na a b=some d->P (.Name a b))(kli:∀a b,li a b=some d->P (.List a b))(ktu:∀a b c,tu a b c=some d->P (.Tuple a b c))
(h:exC none bo bi un ie lc cm ca co su na li tu e=some d):P e:=by
 have k:∀e,(none:Option α)=some d->P e:=λe h=>no h;revert h;exact fj (motive_1:=λe=>exC none bo bi un ie lc cm ca co su na li tu e=some d->P e) e kbo (λ_ _ _=>k _) kbi kun (λ_ _ _ _=>k _) kie (λ_ _ _=>k _) (λ_ _ _=>k _) klc (λ_ _ _ _=>k _) (λ_ _ _ _ _=>k _) (λ_ _ _ _=>k _) (λ_ _=>k _) (λ_ _=>k _) (λ_ _=>k _) kcm kca (λ_ _ _ _=>k _) (λ_ _=>k _) kco (λ_ _ _=>k _) ksu (λ_ _=>k _) kna kli ktu (λ_ _ _ _=>k _)
def stC{α:Type}(z:α)(fd:Str->oQ->List Stmt->Scope->Pos->α)(re as au fo wh fi ex)(s:Stmt):=
 Oh (motive_2:=λ_=>α) s (λn a b _ _ _ s _ _ p=>fd n a b s p) (λ_ _ _ _ _ _ _ _ _ _=>z) (λ_ _ _ _ _ _ _ _ _ _ _=>z) re (λ_ _=>z) as (λ_ _ _ _ _ _ _=>z) au (λ_ _ _ _ _=>z) fo (λ_ _ _ _ _=>z) wh fi (λ_ _ _=>z) (λ_ _ _=>z) (λ_ _ _=>z) (λ_ _ _=>z) (λ_ _ _ _ _=>z) (λ_ _ _ _ _=>z) (λ_ _ _=>z) (λ_ _=>z) (λ_ _ _ _=>z) (λ_ _=>z) (λ_ _=>z) ex (λ_=>z) (λ_=>z) (λ_=>z)
theorem To{α:Type}{d:α}{P:Stmt->Prop}{re as au fo wh fi ex}(s:Stmt)(kre:∀a b,re a b=some d->P (.Return a b))(kas:∀a b c,as a b c=some d->P (.Assign a b c))(kau:∀a b c x,au a b c x=some d->P (.AugAssign a b c x))(kfo:∀a b c x y,fo a b c x y=some d->P (.For a b c x y))(kwh:∀a b c x,wh a b c x=some d->P (.While a b c x))(kfi:∀a b c x,fi a b c x=some d->P (.If a b c x))(kex:∀a b,ex a b=some d->P (.Expr a b))
(h:stC none (λ_ _ _ _ _=>none) re as au fo wh fi ex s=some d):P s:=by
 have k:∀s,(none:Option α)=some d->P s:=λs h=>no h;revert h;exact Oh (motive_2:=λs=>stC none (λ_ _ _ _ _=>none) re as au fo wh fi ex s=some d->P s) s (λ_ _ _ _ _ _ _ _ _ _=>k _) (λ_ _ _ _ _ _ _ _ _ _=>k _) (λ_ _ _ _ _ _ _ _ _ _ _=>k _) kre (λ_ _=>k _) kas (λ_ _ _ _ _ _ _=>k _) kau (λ_ _ _ _ _=>k _) kfo (λ_ _ _ _ _=>k _) kwh kfi (λ_ _ _=>k _) (λ_ _ _=>k _) (λ_ _ _=>k _) (λ_ _ _=>k _) (λ_ _ _ _ _=>k _) (λ_ _ _ _ _=>k _) (λ_ _ _=>k _) (λ_ _=>k _) (λ_ _ _ _=>k _) (λ_ _=>k _) (λ_ _=>k _) kex (λ_=>k _) (λ_=>k _) (λ_=>k _)
end Internal
end
section
open PySem PySem.W PyProof.Rows
namespace Internal
section
section
variable(tb:String->Option alJ)(p:bb)(w:World)(cb:Nat)(ann:Option Value)
theorem Bl:∀(n:Nat){m:Nat}{s aQ:ak}{t El:Thread}{r:Option (ak×Thread)},segGo tb p w cb ann b n s t=some (aQ,El)->
 segGo tb p w cb ann b m aQ El=r->segGo tb p w cb ann b (n+m) s t=r:=λn=>by
 induction n with
 |zero=>
  intro m s aQ t El r h k;obtain⟨rfl,rfl⟩:s=aQ/\t=El:=by simpa [segGo]using h
  rw[ja];exact k
 |succ n ih=>
  intro m s aQ t El r h k;rw[show n+1+m=n+m+1 by omega];unfold segGo at h⊢;cases he:endAt b t with
  |some f=>rw[he]at h;cases h
  |none=>
   rw[he]at h;cases hk:stepOk cb ann t with
   |false=>rw[hk]at h;cases h
   |true=>
    rw[hk]at h;cases hs:step (denote tb) p w s t with
    |halt o fk=>rw[hs]at h;cases h
    |go fk avJ=>rw[hs]at h;exact ih h k
def Go(m:Sem α)(c:Code)(s:ak)(a:α)(s':ak)(k:Nat):Prop:=
 ∀(q:Pos)(K:α->Sem Fin)(H:Value->Sem Fin)(gd:Bool->Bool)(lv:List Value->List Value)(F:Frame)(B:List Frame),
  ∃n q',n<=k/\segGo tb p w cb ann 1 n s ⟨m.wrap K H gd lv,c,q,F::B⟩=some (s',⟨K a,c,q',F::B⟩)
variable{tb p w cb ann}{α β:Type}{c:Code}{s aQ fk:ak}
theorem iP(h:Go tb p w cb ann m c s a aQ k)(hk:k<=k'):Go tb p w cb ann m c s a aQ k':=
 λq K H gd lv F B=>by obtain⟨n,q',l,e⟩:=h q K H gd lv F B;exact⟨n,q',ao l hk,e⟩
theorem bN:Go tb p w cb ann (pure a:Sem α) c s a s 0:=λq _ _ _ _ _ _=>⟨0,q,bD _,rfl⟩
theorem bw{m:Sem α}{f:α->Sem β}{a:α}{b:β}{k₁ k₂:Nat}(h:Go tb p w cb ann m c s a aQ k₁)(k:Go tb p w cb ann (f a) c aQ b fk k₂):Go tb p w cb ann (m >>= f) c s b fk (k₁+k₂):=
 λq K H gd lv F B=>by
  rw[Sem.bind_eq_wrap',SE];obtain⟨n,q',l,e⟩:=h q (λa=>(f a).wrap K H gd lv) (λe=>(Sem.raise e:Sem β).wrap K H gd lv) (λg=>gd (id g)) (λl=>lv (id l)) F B;obtain⟨n',q'',l',e'⟩:=k q' K H gd lv F B;exact⟨n+n',q'',Nat.add_le_add l l',Bl tb p w cb ann n e e'⟩
theorem Tp(h:Go tb p w cb ann m c s a aQ k):Go tb p w cb ann (m.keep vs) c s a aQ k:=
 λq K H gd lv F B=>by rw[Sem.keep_eq_wrap,SE];exact h q _ _ _ _ F B
theorem HO(h:Go tb p w cb ann m c s a aQ j):Go tb p w cb ann (m.onRaise k) c s a aQ j:=
 λq K H gd lv F B=>by rw[Sem.onRaise_eq_wrap,SE];exact h q _ _ _ _ F B
theorem et(h:Go tb p w cb ann m c s a aQ k):Go tb p w cb ann (holding vs m) c s a aQ k:=by
 unfold holding;split
 ·exact h
 ·exact Tp h
theorem nJ(st:∀(q:Pos)(K:α->Sem Fin)(H:Value->Sem Fin)(gd:Bool->Bool)(lv:List Value->List Value)(F:Frame)(B:List Frame),
 ∃q',segGo tb p w cb ann 1 1 s ⟨m.wrap K H gd lv,c,q,F::B⟩=some (aQ,⟨m'.wrap K H gd lv,c,q',F::B⟩))(h:Go tb p w cb ann m' c aQ a fk j):Go tb p w cb ann m c s a fk (1+j):=
 λq K H gd lv F B=>by
  obtain⟨q',e⟩:=st q K H gd lv F B;obtain⟨n,q'',l,e'⟩:=h q' K H gd lv F B;exact⟨1+n,q'',gv l 1,Bl tb p w cb ann 1 e e'⟩
theorem J8(h:Go tb p w cb ann (k ()) c s a aQ j):Go tb p w cb ann (.rule tag k) c s a aQ (1+j):=
 nJ (λq K H gd lv F B=>⟨q,by cases B<;>rfl⟩) h
theorem J9(h:Go tb p w cb ann (k ()) c s a aQ j):Go tb p w cb ann (.at anu k) c s a aQ (1+j):=
 nJ (λq K H gd lv F B=>⟨anu,by cases B<;>rfl⟩) h
theorem Em(h:Go tb p w cb ann (k ()) c s a aQ j):Go tb p w cb ann (.point l k) c s a aQ (1+j):=
 nJ (λq K H gd lv F B=>⟨q,by cases B<;>rfl⟩) h
theorem Zd(h:Go tb p w cb ann (k ⟨p,w.params⟩) c s a aQ j):Go tb p w cb ann (.ask k) c s a aQ (1+j):=
 nJ (λq K H gd lv F B=>⟨q,by cases B<;>rfl⟩) h
theorem yH(h:Go tb p w cb ann (k s.toks) c {s with toks:=s.toks+1} a aQ j):Go tb p w cb ann (.fresh k) c s a aQ (1+j):=
 nJ (λq K H gd lv F B=>⟨q,by cases B<;>rfl⟩) h
theorem Oq(h:Go tb p w cb ann (k s.heap.objs.size) c {s with heap:=s.heap.push o} a aQ j):Go tb p w cb ann (.alloc o k) c s a aQ (1+j):=
 nJ (λq K H gd lv F B=>⟨q,by cases B<;>rfl⟩) h
theorem rE(e:s.heap.get? x=some o)(h:Go tb p w cb ann (k o) c s a aQ j):Go tb p w cb ann (.load x pt k) c s a aQ (1+j):=
 nJ (λq K H gd lv F B=>⟨q,by
  obtain⟨heap,gens,drawn,toks,os⟩:=s;have e:heap.get? x=some o:=e;have st:step (denote tb) p w ⟨heap,gens,drawn,toks,os⟩ ⟨(Sem.load x pt k).wrap K H gd lv,c,q,F::B⟩=.go ⟨heap,gens,drawn,toks,os⟩ ⟨(k o).wrap K H gd lv,c,q,F::B⟩:=by
   simp only[Sem.wrap,step,e]
  have ok:stepOk cb ann ⟨(Sem.load x pt k).wrap K H gd lv,c,q,F::B⟩=true:=rfl;have en:endAt 1 ⟨(Sem.load x pt k).wrap K H gd lv,c,q,F::B⟩=none:=by cases B<;>rfl
  simp only[segGo,en,ok,st]⟩) h
theorem Bm(e:(s.heap.get? x).isSome=true)(ha:cb<=x\/x=mainNs)
(h:Go tb p w cb ann (k ()) c {s with heap:=s.heap.update x f} a aQ j):Go tb p w cb ann (.update x pt f k) c s a aQ (1+j):=
 nJ (λq K H gd lv F B=>⟨q,by
  obtain⟨heap,gens,drawn,toks,os⟩:=s;have e:(heap.get? x).isSome=true:=e;have st:step (denote tb) p w ⟨heap,gens,drawn,toks,os⟩ ⟨(alK x pt f k).wrap K H gd lv,c,q,F::B⟩=.go ⟨heap.update x f,gens,drawn,toks,os⟩ ⟨(k ()).wrap K H gd lv,c,q,F::B⟩:=by
   simp only[Sem.wrap,step,e,if_true]
  have ok:stepOk cb ann ⟨(alK x pt f k).wrap K H gd lv,c,q,F::B⟩=true:=by
   show(true&&(b8 cb x||x==mainNs||x==cStatics||ann==some (.ref x)))=true;rcases ha with ha|rfl
   ·rw[gR ha];rfl
   ·simp
  have en:endAt 1 ⟨(alK x pt f k).wrap K H gd lv,c,q,F::B⟩=none:=by cases B<;>rfl
  simp only[segGo,en,ok,st]⟩) h
end
end
section
section
variable{p:bb}{w:World}{cb:Nat}{ann:Option Value}{c:Code}{s:ak}
def Ka(k:Int)(t:Tok):Sem (Option Value):=callSpecialIfBoundUnlessNone? (.int k t) "__hash__" (do rule "hash.unhashable";raiseError "TypeError" s!"unhashable type: '{← typeNameOf (.int k t)}'")
theorem LO(b)(heap)(gens:Array GenState)(drawn:Drawn)(toks)(os:iu)(k)(t)(c:Code)(q)(K:Option Value->Sem Fin)(H:Value->Sem Fin)(gd:Bool->Bool)(lv:List Value->List Value)(F:Frame):
 segGo treeTable p (w.withFollow "special-get-raises" b) cb ann 1 5 ⟨heap,gens,drawn,toks,os⟩ ⟨(Ka k t).wrap K H gd lv,c,q,[F]⟩=some (⟨heap,gens,drawn,toks+1,os⟩,⟨K (some (.int (rawHash k) toks)),c,q,[F]⟩):=by
 cases b<;>rfl'
theorem LP(b)(heap)(gens:Array GenState)(drawn:Drawn)(toks)(os:iu)(k)(t)(c:Code)(q)(K:Option Value->Sem Fin)(H:Value->Sem Fin)(gd:Bool->Bool)(lv:List Value->List Value)(F G:Frame)(B:List Frame):
 segGo treeTable p (w.withFollow "special-get-raises" b) cb ann 1 5 ⟨heap,gens,drawn,toks,os⟩ ⟨(Ka k t).wrap K H gd lv,c,q,F::G::B⟩=some (⟨heap,gens,drawn,toks+1,os⟩,⟨K (some (.int (rawHash k) toks)),c,q,F::G::B⟩):=by
 cases b<;>rfl'
theorem Ot(k)(t):Go treeTable p w cb ann (Ka k t) c s (some (.int (rawHash k) s.toks)) {s with toks:=s.toks+1} 5:=by
 intro q K H gd lv F B;refine⟨5,q,bD _,?_⟩;rw[<-Ta w "special-get-raises"];cases B with
 |nil=>exact LO _ _ _ _ _ _ _ _ _ _ _ _ _ _ _
 |cons G B=>exact LP _ _ _ _ _ _ _ _ _ _ _ _ _ _ _ _ _
theorem xX(k)(t):pyHash (.int k t)=(do
 match<-Ka k t with
 |some (.int i _)=>jw i
 |some (.bool b)=>pure (if b then 1 else 0)
 |some (.ref a)=>
  match(<-load a).data with
  |.prim (.int i _)=>
   rule "hash.int-subclass"
   let h<-jw i
   point
   pure h
  |_=>raiseError "TypeError" "__hash__ method should return an integer"
 |some r=>do notAStandIn r;raiseError "TypeError" "__hash__ method should return an integer"
 |none=>raiseError "TypeError" s!"unhashable type: '{← typeNameOf (.int k t)}'"):=by
 rfl'
theorem LQ(k)(t):Go treeTable p w cb ann (pyHash (.int k t)) c s (hashInt k) {s with toks:=s.toks+1} 10:=by
 have hr:=rawHash_range k;apply iP
 ·skip
  rw[xX];apply bw (Ot k t) ?_;rotate_left;show Go _ _ _ _ _ (jw (rawHash k)) _ _ _ _ _;unfold jw;rw[if_pos (by rw[decide_eq_true hr.1,decide_eq_true hr.2];rfl)];exact bN
 ·omega
theorem En{es:Array cX}{h:Int}(hn:∀e∈es.toList,e.hash≠h):placesWithHash es.size (λi=>es[i]?.map (·.hash)) h=[]:=by
 unfold placesWithHash;rw[mn];intro i hi;rw[bH]at hi;show¬((es[i]?.map (·.hash))==some h)=true;rw[Array.getElem?_eq_getElem hi];simp only[tq,beq_iff_eq,Option.some.injEq];exact hn _ (by simp)
theorem jU(ho:s.heap.get? d=some o)(hd:o.data=.dict es ep):Go treeTable p w cb ann (dictEntries d pt) c s es s 10:=by
 apply iP
 ·skip
  unfold dictEntries;apply bw (rE ho bN) ?_;rotate_left;rw[hd];exact bN
 ·omega
theorem tF(ho:s.heap.get? d=some o)(hd:o.data=.dict es ep):Go treeTable p w cb ann (dictEpoch d pt) c s ep s 10:=by
 apply iP
 ·skip
  unfold dictEpoch;apply bw (rE ho bN) ?_;rotate_left;rw[hd];exact bN
 ·omega
theorem vU{d:Addr}{o:Obj}{es:Array cX}{ep:Nat}{k:Int}{t:Tok}{h:Int}(ho:s.heap.get? d=some o)(hd:o.data=.dict es ep)(hn:∀e∈es.toList,e.hash≠h):
 Go treeTable p w cb ann (dictFind d (.int k t) h) c s none s 20:=by
 apply iP
 ·skip
  unfold dictFind;apply et (bw (jU ho hd) ?_);rotate_left;dsimp only;rw[En hn];exact bN
 ·omega
def lq(e:cX):Obj->Obj:=avd (·.push e)
theorem nL{d:Addr}{o:Obj}{es:Array cX}{ep:Nat}{pt:Option Value}{e:cX}(ho:s.heap.get? d=some o)(hd:o.data=.dict es ep)(hs:es.size+1<=sizeLine+1)(hn:cb<=d):
 Go treeTable p w cb ann (updateDictKeys d (·.push e) pt) c s () {s with heap:=s.heap.update d (lq e)} 20:=by
 apply iP
 ·skip
  unfold updateDictKeys;apply bw (rE ho bN) ?_;rotate_left;rw[hd];have ho':(s.heap.update d (lq e)).get? d=some (lq e o):=by
   obtain⟨cls,dt,data,sl⟩:=o;simp only at hd;subst hd;exact Heap.get?_update_self _ ho rfl
  apply bw (Bm (by rw[ho];rfl) (.inl hn) bN) ?_;rotate_left;unfold lookBehind;apply bw (rE ho' bN) ?_;rotate_left;have:(lq e o).data.pastItsLine=none:=by
   obtain⟨cls,dt,data,sl⟩:=o;simp only at hd;subst hd;show(if(es.push e).size>sizeLine+1 then some "dict:memory" else none)=none;rw[if_neg (by rw[Array.size_push];omega)]
  rw[this];exact bN
 ·omega
theorem HP(ho:s.heap.get? d=some o)(hd:o.data=.dict es ep)(hs:es.size+1<=sizeLine+1)(hn:cb<=d)
(hh:∀e∈es.toList,e.hash≠hashInt k):
 Go treeTable p w cb ann (dictSet d (.int k t) v) c s () {s with heap:=s.heap.update d (lq ⟨hashInt k,.int k t,v⟩),toks:=s.toks+1} 60:=by
 apply iP
 ·skip
  unfold dictSet;apply et (bw (LQ k t) ?_);rotate_left;unfold dictSetHashed;apply et (bw (vU (s:={s with toks:=s.toks+1}) ho hd hh) ?_);rotate_left;apply bw (J8 bN) ?_;rotate_left;exact nL (s:={s with toks:=s.toks+1}) ho hd hs hn
 ·omega
theorem HQ(ho:s.heap.get? d=some o)(hd:o.data=.dict es ep)(hs:es.size+1<=sizeLine+1)(hn:cb<=d)
(hh:∀e∈es.toList,e.hash≠h):
 Go treeTable p w cb ann (dictPut d h (.int k t) v) c s () {s with heap:=s.heap.update d (lq ⟨h,.int k t,v⟩)} 50:=by
 apply iP
 ·skip
  unfold dictPut;apply bw (vU ho hd hh) ?_;rotate_left;exact nL ho hd hs hn
 ·omega
end
end
section
def kz:Heap->List Obj->Heap
 |⟨objs,life⟩,os=>⟨objs++os.toArray,life⟩
def St(S:ak)(os:List Obj)(t:Nat):ak:={S with heap:=kz S.heap os,toks:=t}
def dS(es:List cX):Obj:={cls:=.type "dict",data:=.dict es.toArray es.length}
theorem HR(h)(os:List Obj):(kz h os).objs.size=h.objs.size+os.length:=by
 obtain⟨objs,life⟩:=h;simp[kz]
theorem HS(h)(os:List Obj)(o):(kz h os).push o=kz h (os++[o]):=by
 obtain⟨objs,life⟩:=h;simp[kz,Heap.push]
theorem ou{h:Heap}{os:List Obj}{i:Nat}{o:Obj}(e:os[i]? =some o)(ha:o.alive=true):(kz h os).get? (h.objs.size+i)=some o:=by
 rw[alL];refine⟨?_,ha⟩;obtain⟨objs,life⟩:=h;show(objs++os.toArray)[objs.size+i]? =some o;rw[oR (by omega)];simp[e]
theorem tG(h:Heap)(os:List Obj)(i:Nat)(f:Obj->Obj):(kz h os).update (h.objs.size+i) f=kz h (os.modify i f):=by
 obtain⟨objs,life⟩:=h;show(⟨(objs++os.toArray).modify (objs.size+i) f,life⟩:Heap)=⟨objs++(os.modify i f).toArray,life⟩
 congr 1;apply Array.ext_getElem?;intro j;rw[Array.getElem?_modify];by_cases hj:j<objs.size
 ·rw[pH hj,pH hj,if_neg (by omega)]
 ·rw[oR (by omega),oR (by omega)]
  simp only[gO,List.getElem?_modify];by_cases hi:objs.size+i=j
  ·subst hi;simp
  ·have:¬i=j - objs.size:=by omega
   simp[this,hi]
theorem tH(es:List cX)(e:cX):lq e (dS es)=dS (es++[e]):=by
 simp[lq,dS,avd]
theorem yI(a:List α)(x:α)(b:List α)(f:α->α):(a++x::b).modify a.length f=a++f x::b:=by
 induction a with
 |nil=>rfl
 |cons y a ih=>simp[ih]
def vV(q:Pos)(x:Int×Str):Sem Value×Sem Value:=(mkInt x.1,do let y<-mkText x.2;standAt q;pure y)
def vW(t:Nat):List (Int×Str)->List cX
 |[]=>[]
 |(k,v)::r=>⟨hashInt k,.int k t,.str v (t+1)⟩::vW (t+3) r
def vX(t:Nat):List (Int×Str)->List cX
 |[]=>[]
 |(k,v)::r=>⟨hashInt k,.int k t,.str v (t+1)⟩::vX (t+2) r
theorem HT(t)(L:List (Int×Str)):(vW t L).map (·.hash)=L.map λx=>hashInt x.1:=by
 induction L generalizing t with
 |nil=>rfl
 |cons x r ih=>obtain⟨k,v⟩:=x;simp[vW,ih]
theorem HU(t)(L:List (Int×Str)):(vX t L).map (·.hash)=L.map λx=>hashInt x.1:=by
 induction L generalizing t with
 |nil=>rfl
 |cons x r ih=>obtain⟨k,v⟩:=x;simp[vX,ih]
section
variable{p:bb}{w:World}{cb:Nat}{ann:Option Value}{c:Code}{S:ak}
theorem Eo(k):Go treeTable p w cb ann (mkInt k) c s (.int k s.toks) {s with toks:=s.toks+1} 1:=iP (yH bN) (bD _)
theorem Kb(q)(x:Int×Str):Go treeTable p w cb ann (vV q x).2 c s (.str x.2 s.toks) {s with toks:=s.toks+1} 2:=
 iP (bw (yH bN) (J9 bN)) (bD _)
theorem Ou{os:List Obj}{es:List cX}{more:List Obj}{t:Nat}{k:Int}{tk:Tok}{v:Value}(hs:es.length<=sizeLine)(hn:cb<=S.heap.objs.size)
(hh:∀e∈es,e.hash≠hashInt k):
 Go treeTable p w cb ann (dictSet (S.heap.objs.size+os.length) (.int k tk) v) c (St S (os++dS es::more) t) () (St S (os++dS (es++[⟨hashInt k,.int k tk,v⟩])::more) (t+1)) 60:=by
 have ho:(St S (os++dS es::more) t).heap.get? (S.heap.objs.size+os.length)=some (dS es):=ou (by simp) rfl;have:=HP (p:=p) (w:=w) (cb:=cb) (ann:=ann) (c:=c) (k:=k) (t:=tk) (v:=v) ho (es:=es.toArray) (ep:=es.length) rfl (by simpa using hs) (by omega) (by simpa using hh);have e:(St S (os++dS es::more) t).heap.update (S.heap.objs.size+os.length) (lq ⟨hashInt k,.int k tk,v⟩)=kz S.heap (os++dS (es++[⟨hashInt k,.int k tk,v⟩])::more):=by
  show(kz S.heap _).update _ _=_;rw[tG,yI,tH]
 rw[e]at this;exact this
theorem Ze{os:List Obj}{es:List cX}{more:List Obj}{t:Nat}{k:Int}{tk:Tok}{h:Int}{v:Value}(hs:es.length<=sizeLine)(hn:cb<=S.heap.objs.size)
(hh:∀e∈es,e.hash≠h):
 Go treeTable p w cb ann (dictPut (S.heap.objs.size+os.length) h (.int k tk) v) c (St S (os++dS es::more) t) () (St S (os++dS (es++[⟨h,.int k tk,v⟩])::more) t) 50:=by
 have ho:(St S (os++dS es::more) t).heap.get? (S.heap.objs.size+os.length)=some (dS es):=ou (by simp) rfl;have:=HQ (p:=p) (w:=w) (cb:=cb) (ann:=ann) (c:=c) (k:=k) (t:=tk) (v:=v) (h:=h) ho (es:=es.toArray) (ep:=es.length) rfl (by simpa using hs) (by omega) (by simpa using hh);have e:(St S (os++dS es::more) t).heap.update (S.heap.objs.size+os.length) (lq ⟨h,.int k tk,v⟩)=kz S.heap (os++dS (es++[⟨h,.int k tk,v⟩])::more):=by
  show(kz S.heap _).update _ _=_;rw[tG,yI,tH]
 rw[e]at this;exact this
theorem uQ{α β:Type}{f:α->β}{g:α->β}{es:List α}{x:β}{L:List β}(h:(es.map f++x::L).Nodup):∀e∈es,f e≠x:=by
 intro e he;rw[dG]at h;exact h.2.2 _ (iw he) _ (ax ..)
theorem Ov{os:List Obj}{q:Pos}(hn:cb<=S.heap.objs.size):∀(L:List (Int×Str))(es:List cX)(t:Nat),(es.map (·.hash)++L.map λx=>hashInt x.1).Nodup->es.length+L.length<=sizeLine->
 Go treeTable p w cb ann (forIn (L.map (vV q)) dP λx __s=>
     match x with
     |(k,v)=>do
      let kv<-k;let vv<-holding [kv] v
      holding [kv,vv] (dictSet (S.heap.objs.size+os.length) kv vv)
      pure (bP dP)) c (St S (os++[dS es]) t) dP (St S (os++[dS (es++vW t L)]) (t+3*L.length)) (70*L.length):=λL=>by
 induction L with
 |nil=>
  intro es t _ _;rw[List.map_nil,p9];simp only[vW,dD,HD,DQ,W4];exact bN
 |cons x L ih=>
  obtain⟨k,v⟩:=x;intro es t hd hb;rw[aH,je];rw[aH]at hd;rw[aG]at hb;have h1:Go treeTable p w cb ann (do
                                                let kv<-mkInt k;let vv<-holding [kv] (vV q (k,v)).2
                                                holding [kv,vv] (dictSet (S.heap.objs.size+os.length) kv vv)
                                                pure (bP dP)) c (St S (os++[dS es]) t) (bP dP) (St S (os++[dS (es++[⟨hashInt k,.int k t,.str v (t+1)⟩])]) (t+3)) (1+(2+(60+0))):=by
   refine bw (Eo k) ?_;rw[show({St S (os++[dS es]) t with toks:=(St S (os++[dS es]) t).toks+1}:ak)=St S (os++[dS es]) (t+1)from rfl];refine bw (et (Kb q (k,v))) ?_;rw[show({St S (os++[dS es]) (t+1)with toks:=(St S (os++[dS es]) (t+1)).toks+1}:ak)=St S (os++[dS es]) (t+2)from rfl];refine bw (et (Ou (more:=[]) (by omega) hn (uQ (g:=(·.hash)) hd))) ?_;exact bN
  have h2:=ih (es++[⟨hashInt k,.int k t,.str v (t+1)⟩]) (t+3) (by simpa using hd) (by simp;omega);rw[c7,show t+3+3*L.length=t+3*(((k,v)::L).length)by rw[aG];omega]at h2;exact iP (bw h1 h2) (by rw[aG];omega)
theorem Ox{os:List Obj}{t:Nat}{β:Type}{f:Addr->Sem β}{b:β}{fk:ak}{j:Nat}(h:Go treeTable p w cb ann (f (S.heap.objs.size+os.length)) c (St S (os++[dS []]) t) b fk j):
 Go treeTable p w cb ann (alloc {cls:=.type "dict",data:=.dict #[]} >>= f) c (St S os t) b fk (1+j):=by
 refine bw (Oq bN) ?_;have e:({St S os t with heap:=(St S os t).heap.push {cls:=.type "dict",data:=.dict #[]}}:ak)=St S (os++[dS []]) t:=by
  show({S with heap:=(kz S.heap os).push _,toks:=t}:ak)=_;rw[HS];rfl
 rw[e];have e2:(St S os t).heap.objs.size=S.heap.objs.size+os.length:=HR ..;rw[e2];exact h
theorem HV{os:List Obj}{t:Nat}{q:Pos}(L:List (Int×Str))(hl:15<L.length)(hb:L.length<=sizeLine)(hn:cb<=S.heap.objs.size)(hd:(L.map λx=>hashInt x.1).Nodup):
 Go treeTable p w cb ann (subDict (L.map (vV q))) c (St S os t) (S.heap.objs.size+os.length) (St S (os++[dS (vW t L)]) (t+3*L.length)) (1+((1+0+(70*L.length+0))+0)):=by
 unfold subDict;refine Ox ?_;refine bw (a:=()) (k₂:=0) (et ?_) bN;rw[if_neg (by rw[ag];omega)];refine bw (J8 bN) ?_;refine bw (a:=dP) (k₂:=0) ?_ bN;have:=Ov (p:=p) (w:=w) (ann:=ann) (c:=c) (os:=os) (q:=q) hn L [] t (by simpa using hd) (by simpa using hb);exact this
def Bn(t:Nat):List (Int×Str)->List (Value×Value)
 |[]=>[]
 |(k,v)::r=>(.int k t,.str v (t+1))::Bn (t+2) r
theorem Cx{os:List Obj}{q:Pos}:∀(L:List (Int×Str))(t:Nat),Go treeTable p w cb ann (evalPairs (L.map (vV q))) c (St S os t) (Bn t L) (St S os (t+2*L.length)) (10*L.length):=by
 intro zx
 induction zx with
 |nil=>
  rintro t;exact iP bN (dx _)
 |cons zh L ih=>
  obtain⟨k,v⟩:=zh;rintro t;rw[aH];have h1:Go treeTable p w cb ann (do let kv<-mkInt k;let vv<-holding [kv] (vV q (k,v)).2;return (kv,vv)::(<-holding [kv,vv] (evalPairs (L.map (vV q))))) c (St S os t) (Bn t ((k,v)::L)) (St S os (t+2*((k,v)::L).length)) (1+(2+(10*L.length+0))):=by
   refine bw (Eo k) ?_;refine bw (et (Kb q (k,v))) ?_;refine bw (et (ih (t+2))) ?_;rw[show t+2+2*L.length=t+2*(((k,v)::L).length)by rw[aG];omega];exact bN
  exact iP h1 (by rw[aG];omega)
theorem Oy{os:List Obj}(hn:cb<=S.heap.objs.size):∀(L:List (Int×Str))(es:List cX)(t u:Nat),(es.map (·.hash)++L.map λx=>hashInt x.1).Nodup->es.length+L.length<=sizeLine->
 Go treeTable p w cb ann (forIn (Bn t L) dP λx __s=>
     match x with
     |(k,v)=>do
      dictSet (S.heap.objs.size+os.length) k v
      pure (bP dP)) c (St S (os++[dS es]) u) dP (St S (os++[dS (es++vX t L)]) (u+L.length)) (70*L.length):=by
 intro zx
 induction zx with
 |nil=>
  rintro es t u _ _;rw[Bn,p9];simp only[vX,dD,HD,W4,DQ];exact bN
 |cons zh L ih=>
  obtain⟨k,v⟩:=zh;rintro es t u hd hb;rw[Bn,je];rw[aH]at hd;rw[aG]at hb;have h1:Go treeTable p w cb ann (do
                                                dictSet (S.heap.objs.size+os.length) (.int k t) (.str v (t+1))
                                                pure (bP dP)) c (St S (os++[dS es]) u) (bP dP) (St S (os++[dS (es++[⟨hashInt k,.int k t,.str v (t+1)⟩])]) (u+1)) (60+0):=by
   refine bw (Ou (more:=[]) (by omega) hn (uQ (g:=(·.hash)) hd)) ?_;exact bN
  have h2:=ih (es++[⟨hashInt k,.int k t,.str v (t+1)⟩]) (t+2) (u+1) (by simpa using hd) (by simp;omega);rw[c7,show u+1+L.length=u+(((k,v)::L).length)by rw[aG];omega]at h2;exact iP (bw h1 h2) (by rw[aG];omega)
theorem Ep{os:List Obj}{t:Nat}{q:Pos}(L:List (Int×Str))(hl:L.length<=15)(hb:L.length<=sizeLine)(hn:cb<=S.heap.objs.size)(hd:(L.map λx=>hashInt x.1).Nodup):
 Go treeTable p w cb ann (subDict (L.map (vV q))) c (St S os t) (S.heap.objs.size+os.length) (St S (os++[dS (vX t L)]) (t+3*L.length)) (1+((10*L.length+(70*L.length+0))+0)):=by
 unfold subDict;refine Ox ?_;refine bw (a:=()) (k₂:=0) (et ?_) bN;rw[if_pos (by rw[ag];omega)];refine bw (Cx L t) ?_;refine et ?_;refine bw (a:=dP) (k₂:=0) ?_ bN;have:=Oy (p:=p) (w:=w) (ann:=ann) (c:=c) (os:=os) hn L [] t (t+2*L.length) (by simpa using hd) (by simpa using hb);rw[show t+2*L.length+L.length=t+3*L.length by omega]at this;exact this
end
end
section
section
variable{p:bb}{w:World}{cb:Nat}{ann:Option Value}{c:Code}{S:ak}
def qu(es:List cX):Prop:=∀e∈es,∃k t,e.key=.int k t
theorem Er(t)(L:List (Int×Str)):qu (vW t L):=by
 induction L generalizing t with
 |nil=>intro e he;cases he
 |cons x r ih=>
  obtain⟨k,v⟩:=x;intro e he;rcases aL.mp he with rfl|he
  ·exact⟨_,_,rfl⟩
  ·exact ih _ e he
theorem Es(t)(L:List (Int×Str)):qu (vX t L):=by
 induction L generalizing t with
 |nil=>intro e he;cases he
 |cons x r ih=>
  obtain⟨k,v⟩:=x;intro e he;rcases aL.mp he with rfl|he
  ·exact⟨_,_,rfl⟩
  ·exact ih _ e he
theorem Bo(ho:s.heap.get? a=some o):Go treeTable p w cb ann (typeOf (.ref a)) c s o.cls s 1:=iP (bw (rE ho bN) bN) (bD _)
theorem Et:typeLookup (.type "dict") "__iter__"=pure (some (.builtin "dict.__iter__")):=by rfl'
theorem Oz:isSubtype (.type "dict") (.type "dict")=pure true:=by rfl'
theorem Cy{os:List Obj}{t:Nat}{sub:List cX}(hn:cb<=S.heap.objs.size)(hk:qu sub):∀(m i:Nat)(es:List cX),i+m=sub.length->
 (es.map (·.hash)++(sub.drop i).map (·.hash)).Nodup->es.length+m<=sizeLine->
 Go treeTable p w cb ann (forIn (xU i m) dP λi __s=>do
     let __do_lift<-dictEntries (S.heap.objs.size+(os.length+1))
     match __do_lift[i]? with
      |some e=>do
       holding [e.key,e.val]
        (have __do_jp:=λ__r=>dictPut S.heap.objs.size e.hash e.key e.val;
        if false=true then do
         let __do_lift<-dictFind S.heap.objs.size e.key e.hash
         if __do_lift.isSome=true then do
             rule "dict.merge.duplicate-key"
             let __do_lift<-newExc (Value.type "KeyError") [e.key];let __r<-raiseNew __do_lift
             __do_jp __r
          else __do_jp ()
        else __do_jp ())
       let __do_lift<-dictEpoch (S.heap.objs.size+(os.length+1))
       if(__do_lift != sub.length)=true then do
           unsupported "dict.changed-during-merge"
           pure (bP dP)
        else pure (bP dP)
      |x=>do
       unsupported "dict.changed-during-merge"
       pure (bP dP)) c (St S (dS es::os++[dS sub]) t) dP (St S (dS (es++sub.drop i)::os++[dS sub]) t) (100*m):=λm=>by
 induction m with
 |zero=>
  intro i es hi _ _;rw[List.range'_zero,p9,List.drop_eq_nil_of_le (by omega),dD];exact bN
 |succ m ih=>
  intro i es hi hd hb;have hS:∀Kc,(St S (dS Kc::os++[dS sub]) t).heap.get? (S.heap.objs.size+(os.length+1))=some (dS sub):=λKc=>ou (by simp) rfl;have o5:i<sub.length:=by omega
  obtain⟨e,he⟩:∃e,sub[i]? =some e:=⟨_,da o5⟩;obtain⟨k,tk,ae4⟩:=hk e (List.mem_of_getElem? he);have Xm:sub.drop i=e::sub.drop (i+1):=by
   rw[dZ o5];rw[da o5]at he;rw[ai he]
  rw[sE,je];rw[Xm,aH]at hd;refine iP (bw (a:=bP dP) (aQ:=St S (dS (es++[e])::os++[dS sub]) t) (k₁:=10+(50+(10+0))) (k₂:=100*m) ?_ ?_) (by omega)
  ·refine bw (jU (hS es) rfl) ?_
   have e1:sub.toArray[i]? =some e:=by simpa using he
   rw[e1];dsimp only;refine bw (a:=()) (aQ:=St S (dS (es++[e])::os++[dS sub]) t) (et ?_) ?_
   ·rw[if_neg aJ]
    obtain⟨h,key,v⟩:=e;dsimp only at ae4⊢;subst ae4;have:=Ze (p:=p) (w:=w) (cb:=cb) (ann:=ann) (c:=c) (S:=S) (os:=[]) (es:=es) (more:=os++[dS sub]) (t:=t) (k:=k) (tk:=tk) (h:=h) (v:=v) (by omega) hn (uQ (g:=(·.hash)) hd);exact this
   ·refine bw (tF (hS _) rfl) ?_
    rw[if_neg (by simp)];exact bN
  ·have:=ih (i+1) (es++[e]) (by omega) (by simpa using hd) (by simp;omega)
   rw[c7]at this;rw[Xm];exact this
theorem OA{os:List Obj}{es sub:List cX}{t:Nat}(hn:cb<=S.heap.objs.size)(hm:sysModules<S.heap.objs.size)(he:es≠[])(hk:qu sub)
(hd:(es.map (·.hash)++sub.map (·.hash)).Nodup)(hb:es.length+sub.length<=sizeLine):
 Go treeTable p w cb ann (mergeMapping S.heap.objs.size (.ref (S.heap.objs.size+(os.length+1))) false) c (St S (dS es::os++[dS sub]) t) () (St S (dS (es++sub)::os++[dS sub]) t) (1+0+(1+0+(0+(10+(10+(10+(100*sub.length+0))))))):=by
 have hD:∀Kc,(St S (dS Kc::os++[dS sub]) t).heap.get? S.heap.objs.size=some (dS Kc):=λKc=>ou (i:=0) (by simp) rfl;have hS:∀Kc,(St S (dS Kc::os++[dS sub]) t).heap.get? (S.heap.objs.size+(os.length+1))=some (dS sub):=λKc=>ou (by simp) rfl;unfold mergeMapping;refine bw (a:=true) (aQ:=St S (dS es::os++[dS sub]) t) (k₁:=1+0) ?_ ?_
 ·unfold isInstance
  refine bw (Bo (hS es)) ?_;rw[show(dS sub).cls=.type "dict" from rfl,Oz];exact bN
 dsimp only;rw[if_pos rfl];refine bw (a:=some (.builtin "dict.__iter__")) (aQ:=St S (dS es::os++[dS sub]) t) (k₁:=1+0) ?_ ?_
 ·unfold specialOf
  refine bw (Bo (hS es)) ?_;rw[show(dS sub).cls=.type "dict" from rfl,Et];exact bN
 rw[show(some (ave "dict.__iter__")==some (ave "dict.__iter__"))=true from by simp];refine bw bN ?_;dsimp only;rw[if_neg (by
  have:¬(S.heap.objs.size+(os.length+1)=sysModules):=by
   have h1: @LT.lt Nat _ sysModules S.heap.objs.size:=hm;intro h;have h2: @Eq Nat (S.heap.objs.size+(os.length+1)) sysModules:=h;omega
  simpa using this)]
 refine bw (jU (hD es) rfl) ?_;rw[if_neg (by
  cases es with
  |nil=>exact absurd rfl he
  |cons x r=>simp)]
 refine bw (jU (hS es) rfl) ?_;refine bw (tF (hS es) rfl) ?_;refine bw (a:=dP) (k₂:=0) ?_ bN;have:=Cy (p:=p) (w:=w) (ann:=ann) (c:=c) (os:=os) (t:=t) hn hk sub.length 0 es (by omega) (by simpa using hd) hb;rw[mq,<-nY]at this;rw[show sub.toArray.size=sub.length by simp];exact this
end
end
section
structure jd where
 has:Bool
 es:List cX
 subs:List Obj
 t:Nat
def lU(t:Nat)(C:List (Int×Str)):List cX:=if C.length<=15 then vX t C else vW t C
def jd.flush(C:List (Int×Str))(σ:jd):jd:=match C with
 |[]=>σ
 |_::_=>if σ.has then⟨true,σ.es++lU σ.t C,σ.subs++[dS (lU σ.t C)],σ.t+3*C.length⟩
   else⟨true,lU σ.t C,[],σ.t+3*C.length⟩
def jd.objs(σ:jd):List Obj:=if σ.has then dS σ.es::σ.subs else[]
def jd.main(S:ak)(σ:jd):Option Addr:=if σ.has then some S.heap.objs.size else none
def jd.run:List (Int×Str)->List (Int×Str)->jd->List (Int×Str)×jd
 |[],R,σ=>(R,σ)
 |x::rest,R,σ=>match(R++[x]).length==17 with
  |true=>jd.run rest [] (σ.flush (R++[x]))
  |false=>jd.run rest (R++[x]) σ
def Cz(run:List (Sem Value×Sem Value))(main:Option Addr):Sem (Option Addr):=
 if run.isEmpty=true then pure main
 else
  match main with
  |none=>do
   let __do_lift<-subDict run
   pure (some __do_lift)
  |some d=>do
   let sub<-holding [ix d] (subDict run)
   (holding [ix d,ix sub] (mergeMapping d (ix sub) false)).onRaise λx=>do
     let _<-holding [ix d,x] (runValue (Code.builtin "proto.let_go" {}))
     pure ()
   pure (some d)
def hs(L:List (Int×Str)):List Int:=L.map λx=>hashInt x.1
theorem nM(t)(C:List (Int×Str)):(lU t C).map (·.hash)=hs C:=by
 unfold lU;split
 ·exact HU t C
 ·exact HT t C
theorem CA(t)(C:List (Int×Str)):qu (lU t C):=by
 unfold lU;split
 ·exact Es t C
 ·exact Er t C
theorem sI(t)(C:List (Int×Str)):(lU t C).length=C.length:=by
 have:=congrArg rz (nM t C);simpa [hs]using this
def jd.good(σ:jd):Prop:=(σ.has=true->σ.es≠[])/\(σ.has=false->σ.es=[])
section
variable{p:bb}{w:World}{cb:Nat}{ann:Option Value}{c:Code}{S:ak}
theorem OB{os:List Obj}{t:Nat}{q:Pos}(L:List (Int×Str))(hb:L.length<=sizeLine)(hn:cb<=S.heap.objs.size)(hd:(hs L).Nodup):
 Go treeTable p w cb ann (subDict (L.map (vV q))) c (St S os t) (S.heap.objs.size+os.length) (St S (os++[dS (lU t L)]) (t+3*L.length)) (80*L.length+2):=by
 unfold lU;split
 ·rename_i h;exact iP (Ep L h hb hn hd) (by omega)
 ·rename_i h;exact iP (HV L (by omega) hb hn hd) (by omega)
theorem Eu{q:Pos}(C:List (Int×Str))(σ:jd)(hg:σ.good)(hn:cb<=S.heap.objs.size)(hm:sysModules<S.heap.objs.size)(hd:(σ.es.map (·.hash)++hs C).Nodup)(hb:σ.es.length+C.length<=sizeLine):
 Go treeTable p w cb ann (Cz (C.map (vV q)) (σ.main S)) c (St S σ.objs σ.t) ((σ.flush C).main S) (St S (σ.flush C).objs (σ.flush C).t) (180*C.length+60):=by
 cases C with
 |nil=>exact iP bN (dx _)
 |cons x C=>
  obtain⟨has,es,subs,t⟩:=σ;have hC:(hs (x::C)).Nodup:=(dG.mp hd).2.1;have hl:(x::C).length<=sizeLine:=by omega
  cases has with
  |false=>
   have h:=OB (p:=p) (w:=w) (ann:=ann) (c:=c) (S:=S) (os:=[]) (t:=t) (q:=q) (x::C) hl hn hC;exact iP (bw h bN) (by omega)
  |true=>
   have h:=OB (p:=p) (w:=w) (ann:=ann) (c:=c) (S:=S) (os:=dS es::subs) (t:=t) (q:=q) (x::C) hl hn hC;have hm:=OA (p:=p) (w:=w) (cb:=cb) (ann:=ann) (c:=c) (S:=S) (os:=subs) (es:=es) (sub:=lU t (x::C)) (t:=t+3*(x::C).length) hn hm (hg.1 rfl) (CA _ _) (by rw[nM];exact hd) (by rw[sI];exact hb);rw[sI]at hm;exact iP (bw (et h) (bw (HO (et hm)) bN)) (by omega)
theorem HW(C:List (Int×Str))(σ:jd)(hg:σ.good):(σ.flush C).good:=by
 cases C with
 |nil=>exact hg
 |cons x C=>
  have ox:lU σ.t (x::C)≠[]:=λh=>by have:=sI σ.t (x::C);rw[h]at this;simp at this
  unfold jd.flush;dsimp only;split
  ·exact⟨λ_ h=>ox (List.append_eq_nil_iff.mp h).2,λh=>by cases h⟩
  ·exact⟨λ_=>ox,λh=>by cases h⟩
theorem Ew(C:List (Int×Str))(σ:jd)(hg:σ.good):(σ.flush C).es.map (·.hash)=σ.es.map (·.hash)++hs C:=by
 cases C with
 |nil=>simp[jd.flush,hs]
 |cons x C=>
  unfold jd.flush;dsimp only;split
  ·simp[nM]
  ·rename_i h
   rw[hg.2 (by simpa using h)];simp[nM]
theorem OC(f:Option (Sem Value)×Sem Value->Option Addr×List (Sem Value×Sem Value)->Sem (ForInStep (Option Addr×List (Sem Value×Sem Value))))
(hf:∀k v main run,f (some k,v) (main,run)=(if((run++[(k,v)]).length==17)=true then do
    let main<-Cz (run++[(k,v)]) main
    pure (bP (main,[]))
   else pure (bP (main,run++[(k,v)]))))
(hn:cb<=S.heap.objs.size)(hm:sysModules<S.heap.objs.size):∀(rest R:List (Int×Str))(σ:jd),σ.good->(σ.es.map (·.hash)++hs (R++rest)).Nodup->σ.es.length+(R++rest).length<=sizeLine->
 Go treeTable p w cb ann (forIn (rest.map λx=>(some (vV q x).1,(vV q x).2)) (σ.main S,R.map (vV q)) f) c (St S σ.objs σ.t)
  ((jd.run rest R σ).2.main S,(jd.run rest R σ).1.map (vV q)) (St S (jd.run rest R σ).2.objs (jd.run rest R σ).2.t) (3200*rest.length)/\
  (jd.run rest R σ).2.good/\((jd.run rest R σ).2.es.map (·.hash)++hs (jd.run rest R σ).1).Nodup/\(jd.run rest R σ).2.es.length+(jd.run rest R σ).1.length<=sizeLine:=λrest=>by
 induction rest with
 |nil=>
  intro R σ hg hd hb;rw[dD]at hd hb;exact⟨by rw[List.map_nil,p9];exact bN,hg,hd,hb⟩
 |cons x rest ih=>
  intro R σ hg hd hb;rw[aH,je,hf];have hRx:R.map (vV q)++[((vV q x).1,(vV q x).2)]=(R++[x]).map (vV q):=by simp
  rw[hRx];have e1:R++x::rest=R++[x]++rest:=by simp
  rw[e1]at hd hb;cases h17:(R++[x]).length==17 with
  |true=>
   have er:jd.run (x::rest) R σ=jd.run rest [] (σ.flush (R++[x])):=by rw[jd.run,h17]
   rw[er,ag,h17,if_pos rfl];have hd':(σ.es.map (·.hash)++hs (R++[x])).Nodup:=by
    have e2:hs (R++[x]++rest)=hs (R++[x])++hs rest:=by simp[hs]
    rw[e2,<-c7]at hd;exact(dG.mp hd).1
   have Tq:σ.es.length+(R++[x]).length<=sizeLine:=by
    rw[aC (as:=R++[x])]at hb;omega
   obtain⟨a,b⟩:=ih [] (σ.flush (R++[x])) (HW _ _ hg) (by
    rw[Ew _ _ hg,c7,oo];have e2:hs (R++[x]++rest)=hs (R++[x])++hs rest:=by simp[hs]
    rw[e2]at hd;exact hd) (by
    have e3:=congrArg rz (Ew (R++[x]) σ hg);simp only[ag,aC,hs]at e3;rw[aC (as:=R++[x])]at hb;rw[oo];simp only[aC]at hb;omega)
   have hf:=Eu (p:=p) (w:=w) (cb:=cb) (ann:=ann) (c:=c) (S:=S) (q:=q) _ _ hg hn hm hd' Tq;rw[eq_of_beq h17]at hf;refine⟨iP (bw (a:=bP ((σ.flush (R++[x])).main S,[])) (aQ:=St S (σ.flush (R++[x])).objs (σ.flush (R++[x])).t) (bw hf bN) a) (by rw[aG];omega),b⟩
  |false=>
   have er:jd.run (x::rest) R σ=jd.run rest (R++[x]) σ:=by rw[jd.run,h17]
   rw[er,ag,h17,if_neg aJ];obtain⟨a,b⟩:=ih (R++[x]) σ hg hd hb;exact⟨iP (bw bN a) (by rw[aG];omega),b⟩
def jd.final(L:List (Int×Str))(t:Nat):jd:=(jd.run L [] ⟨false,[],[],t⟩).2.flush (jd.run L [] ⟨false,[],[],t⟩).1
theorem Tr:∀(rest R:List (Int×Str))(σ:jd),(jd.run rest R σ).1.length<=R.length+rest.length:=by
 intro zx
 induction zx with
 |nil=>
  rintro R σ;simp[jd.run]
 |cons x rest ih=>
  rintro R σ;dsimp only[jd.run];split
  ·have:=ih [] (σ.flush (R++[x]));simp at this⊢;omega
  ·have:=ih (R++[x]) σ;simp at this⊢;omega
theorem HX(L:List (Int×Str))(t:Nat)(hn:cb<=S.heap.objs.size)(hm:sysModules<S.heap.objs.size)(hd:(hs L).Nodup)(hb:L.length<=sizeLine)(hh:(jd.final L t).has=true):
 Go treeTable p w cb ann (dictDisplay (L.map λx=>(some (vV q x).1,(vV q x).2))) c (St S [] t) (.ref S.heap.objs.size) (St S (jd.final L t).objs (jd.final L t).t) (3400*L.length+100):=by
 have key:=λf hf=>OC (p:=p) (w:=w) (cb:=cb) (ann:=ann) (c:=c) (S:=S) (q:=q) f hf hn hm L [] ⟨false,[],[],t⟩ ⟨(by intro h;cases h),λ_=>rfl⟩ (by simpa using hd) (by simpa using hb);have aux:∀f,(∀k v main run,f (some k,v) (main,run)=(if((run++[(k,v)]).length==17)=true then do
       let main<-Cz (run++[(k,v)]) main
       pure (bP (main,[]))
  else pure (bP (main,run++[(k,v)]))))->
  Go treeTable p w cb ann (do
   let s<-forIn (L.map λx=>(some (vV q x).1,(vV q x).2)) ((none:Option Addr),([]:List (Sem Value×Sem Value))) f;let d<-Cz s.2 s.1
   match d with
    |some d=>pure (ix d)
    |none=>newDict) c (St S [] t) (.ref S.heap.objs.size) (St S (jd.final L t).objs (jd.final L t).t) (3400*L.length+100):=by
  intro f hf;obtain⟨k0,k1,k2,k3⟩:=key f hf;have hl:=Tr L [] ⟨false,[],[],t⟩;rw[HD,ja]at hl;refine iP (bw k0 (bw (k₂:=0) (Eu (q:=q) _ _ k1 hn hm k2 k3) ?_)) (by omega);show Go treeTable p w cb ann (match(jd.final L t).main S with|some d=>pure (ix d)|none=>newDict) c _ _ _ _;unfold jd.main;rw[hh,if_pos rfl];exact bN
 unfold dictDisplay;exact aux _ (λ_ _ _ _=>rfl)
end
end
section
def LR(e:Expr):Option (Const×Nat×Pos):=(anr e).map (·.1)
theorem Bp(h:LR e=some x):e=.Constant x.1 x.2.1 x.2.2:=by
 obtain⟨x,_,rfl⟩:=dM h;exact x.2
def Zf:Const->Option Int
 |.int k=>some k
 |_=>none
theorem LU(h:Zf c=some k):c=.int k:=by
 cases c<;>first|exact no h|exact ai h▸rfl
def Zg:Const->Option Str
 |.str k=>some k
 |_=>none
theorem LV(h:Zg c=some k):c=.str k:=by
 cases c<;>first|exact no h|exact ai h▸rfl
def Xn(k:Option Expr)(v:Expr):Option (Int×Str):=k.bind λk=>(LR k).bind λx=>(Zf x.1).bind λi=>(LR v).bind λy=>(Zg y.1).map λs=>(i,s)
def Br:List (Option Expr)->List Expr->Option (List (Int×Str))
 |[],vs=>match vs with
  |[]=>some []
  |_::_=>none
 |k::ks,vs=>match vs with
  |[]=>none
  |v::vs=>(Xn k v).bind λx=>(Br ks vs).map (x::·)
theorem Ex(env)(pos)(h:Xn k v=some x):(∃e,k=some e/\eval e env=(vV pos x).1)/\(do let x<-eval v env;standAt pos;pure x)=(vV pos x).2:=by
 cases k with
 |none=>exact no h
 |some k=>
  obtain⟨c,h1,h⟩:=aO (show((LR k).bind _)=some x from h);obtain⟨i,h2,h⟩:=aO h;obtain⟨d,h3,h⟩:=aO h;obtain⟨s,h4,h⟩:=dM h;rw[Bp h1,LU h2,Bp h3,LV h4,<-h];exact⟨⟨_,rfl,rfl⟩,rfl⟩
theorem Ey(env)(pos)(ks:List (Option Expr)):∀(vs:List Expr)(L:List (Int×Str)),Br ks vs=some L->
 (evalEachOpt ks env).zip ((evalEach vs env).map λv=>do let x<-v;standAt pos;pure x)=L.map λx=>(some (vV pos x).1,(vV pos x).2):=by
 induction ks with
 |nil=>
  intro vs L h;cases vs with
  |nil=>rw[<-ai h];rfl
  |cons v vs=>exact no h
 |cons k ks ih=>
  intro vs L h;cases vs with
  |nil=>exact no h
  |cons v vs=>
   obtain⟨x,h1,h⟩:=aO h;obtain⟨L',h2,h3⟩:=dM h;obtain⟨⟨e,rfl,e1⟩,e2⟩:=Ex env pos h1;rw[<-h3,aH,<-ih _ _ h2,<-e1,<-e2];rfl
section
variable{p:bb}{w:World}{cb:Nat}{ann:Option Value}{c:Code}{S:ak}
theorem OD(ho:s.heap.get? mainNs=some o)(hd:o.data=.dict es ep)(hr:aRefKeyMayBeTheName n es=false):
 Go treeTable p w cb ann (nsSet mainNs n v) c s () {s with heap:=s.heap.update mainNs (aed n (if n.cps.isEmpty then 0 else reduceHash (w.params.strHash n.cps)) (.str n s.toks) v),toks:=s.toks+1} 4:=by
 show Go _ _ _ _ _ _ _ _ _ _ (1+0+(1+0+(1+0+(1+0))));unfold nsSet;refine bw (Zd bN) ?_;refine bw (yH bN) ?_;refine bw (rE ho bN) ?_;rw[hd];dsimp only;rw[hr,if_neg aJ];exact Bm (by rw[ho];rfl) (.inr rfl) bN
def ae6(d:Data):Option {x:Array cX×Nat // d=.dict x.1 x.2}:=if h:d.ctorIdx=3 then PySem.Data.dict.elim (motive:=λd=>Option {x:Array cX×Nat // d=.dict x.1 x.2}) d h λa b=>some ⟨(a,b),rfl⟩else none
def ae7(n:Str)(h:Heap):Option Bool:=(h.get? mainNs).bind λo=>(ae6 o.data).map λx=> !aRefKeyMayBeTheName n x.1.1
def yj(n:Str)(h:Heap):Bool:=(ae7 n h).getD false
theorem CC(e:yj n h=true):∃o es ep,h.get? mainNs=some o/\o.data=.dict es ep/\aRefKeyMayBeTheName n es=false:=by
 unfold yj at e;cases hq:ae7 n h with
 |none=>rw[hq]at e;exact nz e
 |some b=>
  rw[hq]at e;obtain⟨o,h1,h2⟩:=aO hq;obtain⟨x,_,h3⟩:=dM h2;exact⟨o,x.1.1,x.1.2,h1,x.2,(cF _).mp (h3.trans e)⟩
theorem LW{h:Heap}{os:List Obj}{a:Addr}{o:Obj}(e:h.get? a=some o):(kz h os).get? a=some o:=by
 rw[alL]at e⊢;refine⟨?_,e.2⟩;obtain⟨objs,life⟩:=h;have e1:objs[a]? =some o:=e.1;show(objs++os.toArray)[a]? =some o;have: @LT.lt Nat _ a objs.size:=(Array.getElem?_eq_some_iff.mp e1).1;rw[pH this];exact e1
def CD(w:World)(n:Str)(L:List (Int×Str))(S:ak):ak:=
 {S with heap:=(kz S.heap (jd.final L S.toks).objs).update mainNs (aed n (if n.cps.isEmpty then 0 else reduceHash (w.params.strHash n.cps)) (.str n (jd.final L S.toks).t) (.ref S.heap.objs.size)),toks:=(jd.final L S.toks).t+1}
theorem AA(hL:Br ks vs=some L)(DY:storeName env n=nsSet mainNs n)
(hn:cb<=S.heap.objs.size)(hm:sysModules<S.heap.objs.size)(hd:(hs L).Nodup)(hb:L.length<=sizeLine)(hh:(jd.final L S.toks).has=true)(hr:yj n S.heap=true):
 Go treeTable p w cb ann (exec (.Assign [.Name n np] (.Dict ks vs dp) sp) env) c S .next (CD w n L S) (1+0+(0+((1+0+(3400*L.length+100))+(0+((1+0+(1+0+(4+(1+0))))+0))))):=by
 show Go _ _ _ _ _ (do
  standAt sp
  if<-swapsWithSole [.Name n np] (.Dict ks vs dp) sp.line env then do
   evalThenUse (.Dict ks vs dp) env λv=>assignAll v ((assignEach [.Name n np] env).map (·.2))
   pure .next
  else do
   let v<-eval (.Dict ks vs dp) env
   assignStores env v (<-swappedStores [.Name n np] (.Dict ks vs dp) env) ((assignEach [.Name n np] env).map (·.2))) _ _ _ _ _
 refine bw (J9 bN) ?_;refine bw (a:=false) (k₁:=0) bN ?_;rw[if_neg aJ];refine bw (a:=.ref S.heap.objs.size) (aQ:=St S (jd.final L S.toks).objs (jd.final L S.toks).t) (k₁:=1+0+(3400*L.length+100)) ?_ ?_
 ·show Go _ _ _ _ _ (do
   standAt dp
   dictDisplay ((evalEachOpt ks env).zip ((evalEach vs env).map λv=>do let x<-v;standAt dp;pure x))) _ _ _ _ _
  refine bw (J9 bN) ?_;rw[Ey env dp ks vs L hL];have e:St S [] S.toks=S:=by
   obtain⟨⟨objs,life⟩,g,d,t,o⟩:=S;simp[St,kz]
  have:=HX (p:=p) (w:=w) (cb:=cb) (ann:=ann) (c:=c) (S:=S) (q:=dp) L S.toks hn hm hd hb hh;rw[e]at this;exact this
 refine bw (a:=none) (k₁:=0) bN ?_;show Go _ _ _ _ _ (do (do standAt np;bindName env n (.ref S.heap.objs.size));pure Ed) _ _ _ _ _;refine bw (a:=()) (aQ:=CD w n L S) (k₁:=1+0+(1+0+(4+(1+0)))) (k₂:=0) (bw (k₂:=1+0+(4+(1+0))) (J9 bN) ?_) bN;unfold bindName;rw[DY];obtain⟨o,es,ep,h1,h2,h3⟩:=CC hr;show Go _ _ _ _ _ _ _ _ _ _ (1+0+(4+(1+0)));refine bw (et (Em bN)) ?_;refine bw (OD (s:=St S (jd.final L S.toks).objs (jd.final L S.toks).t) (LW h1) h2 h3) ?_;exact Em bN
theorem LX{st:Stmt}{env:Env}{s s':ak}{k:Nat}(h:Go treeTable p w cb ann (exec st env) c s .next s' k)(q:Pos)(F:Frame):
 ∃n q',n<=k+1/\segRun treeTable p w cb ann 1 n s (pieceOf st env c q [F])=some (.next,s',c,q'):=by
 obtain⟨n,q',l,e⟩:=h q doneF deadEnd id id F [];refine⟨n+1,q',fW l 1,seg_go e ?_⟩;rfl
end
end
def viQ(v:Value):Option {x:Int×Tok // v=.int x.1 x.2}:=if h:v.ctorIdx=4 then PySem.Value.int.elim (motive:=λv=>Option {x:Int×Tok // v=.int x.1 x.2}) v h λa b=>some ⟨(a,b),rfl⟩else none
def vfQ(v:Value):Option {x:UInt64×Tok // v=.float x.1 x.2}:=if h:v.ctorIdx=5 then PySem.Value.float.elim (motive:=λv=>Option {x:UInt64×Tok // v=.float x.1 x.2}) v h λa b=>some ⟨(a,b),rfl⟩else none
def vsQ(v:Value):Option {x:Str×Tok // v=.str x.1 x.2}:=if h:v.ctorIdx=6 then PySem.Value.str.elim (motive:=λv=>Option {x:Str×Tok // v=.str x.1 x.2}) v h λa b=>some ⟨(a,b),rfl⟩else none
def vrQ(v:Value):Option {x:Addr // v=.ref x}:=if h:v.ctorIdx=10 then PySem.Value.ref.elim (motive:=λv=>Option {x:Addr // v=.ref x}) v h λa=>some ⟨a,rfl⟩else none
def anw(d:Data):Option {x:Array (Int×Value)×Nat×SetTable // d=.set x.1 x.2.1 x.2.2}:=if h:d.ctorIdx=4 then PySem.Data.set.elim (motive:=λd=>Option {x:Array (Int×Value)×Nat×SetTable // d=.set x.1 x.2.1 x.2.2}) d h λa b c=>some ⟨(a,b,c),rfl⟩else none
def vInt(v:Value):Option Int:=(viQ v).map λx=>x.1.1
def vStr(v:Value):Option Str:=(vsQ v).map λx=>x.1.1
def ae8(v:Value):Option UInt64:=(vfQ v).bind λx=>bif cy x.1.2 0 then none else some x.1.1
def OE(h:Heap)(n:Str):Option Obj:=(h.nsMap mainGlobals n).bind λv=>(vrQ v).bind λa=>if a.1=sysModules then none else h.get? a.1
def OG(h:Heap)(n:Str):Option (Bool×List (Int×Option Int)):=(OE h n).bind λo=>(anw o.data).map λx=>((o.cls==.type "set"&&o.dict.isNone)&&(o.slots.isEmpty&&x.1.2.2.fits x.1.1.size),x.1.1.toList.map λe=>(e.1,vInt e.2))
def HY(f:cX->α)(h:Heap)(n:Str):Option (Bool×List α):=(OE h n).bind λo=>(ae6 o.data).map λx=>((o.cls==.type "dict"&&o.dict.isNone)&&o.slots.isEmpty,x.1.1.toList.map f)
structure Look where
 fl:List (Option (Option UInt64))
 st:Option (Bool×List (Int×Option Int))
 d3:Option (Bool×List (Int×Option Int×Option Str))
 d4:Option (Bool×List (Int×Option Str×Option Int))
def OH(fn:List Str)(sn n3 n4:Str)(h:Heap):Look:=
 ⟨fn.map λn=>(h.nsMap mainGlobals n).map ae8,OG h sn,HY (λe=>(e.hash,vInt e.key,vStr e.val)) h n3,HY (λe=>(e.hash,vStr e.key,vInt e.val)) h n4⟩
structure Kd where
 p:bb
 q:bb
 loose:List Str
 pre:Nat
 i:Nat
 n:Str
 L:List (Int×Str)
 look:Heap->Look
def anx(e:ae):Option (List (Option ae)×List ae×Pos):=if h:e.ctorIdx=6 then PySem.Expr.Dict.elim (motive_1:=λ_=>Option (List (Option ae)×List ae×Pos)) e h λa b c=>some (a,b,c)else none
def Ts(s:Stmt):Option (List ae×ae×Pos):=if h:s.ctorIdx=5 then PySem.Stmt.Assign.elim (motive_2:=λ_=>Option (List ae×ae×Pos)) s h λa b c=>some (a,b,c)else none
def fdS(s:Stmt):Option (Str×oQ×List Stmt×Scope):=if h:s.ctorIdx=0 then PySem.Stmt.FunctionDef.elim (motive_2:=λ_=>Option (Str×oQ×List Stmt×Scope)) s h λn a b _ _ _ c _ _ _=>some (n,a,b,c)else none
def OI(s:Stmt):Option (Str×Pos):=(Ts s).bind λx=>x.1.head?.bind λe=>(tE e).map λy=>y.1
def Zh(s:Stmt):List (Option ae)×List ae×Pos:=((Ts s).bind λx=>anx x.2.1).getD default
def qv(s:Stmt):List (Option ae):=(Zh s).1
def qw(s:Stmt):List ae:=(Zh s).2.1
def OJ(s:Stmt):Pos:=((OI s).map (·.2)).getD default
def OL(s:Stmt):Pos:=(Zh s).2.2
def OM(s:Stmt):Pos:=((Ts s).map (·.2.2)).getD default
abbrev TG:=(String->Option alJ)->bb->World->Nat->Option Value->Nat->ak->Thread->Option (ak×Thread)
abbrev SR:=(String->Option alJ)->bb->World->Nat->Option Value->Nat->Nat->ak->Thread->Option (Flow×ak×Code×Pos)
def Zi(p:bb)(c f:Addr):Env:={scope:=p.main.scope,locals:=mainNs,globals:=mainNs,cells:=[],code:=.ref c,frame:=some f}
def Tt(P:Kd)(aD s:ak):Bool:=staticsOk (importedModules P.p.main.body) aD.heap s.heap&&namesBound P.p s.heap&&gensDone s&&laidKept aD.heap s.heap
section
abbrev pw:bb:=PySem.Challenge.pw_ta0129_01
def jg:List Str:=["ONE_THIRD","ONE_SIXTH","TWO_THIRD","b1_set","b3_exceptions","EXACT_TOKEN_TYPES"].map uz
def Tv(s:Stmt):Bool:=((OI s).map λx=>jg.contains x.1).getD false
def AB:Stmt:=(behindTheImports pw)[20]!
def L3:List (Int×Str):=(Br (qv AB) (qw AB)).getD []
def Zj(n:Str)(s:Stmt):Option Int:=(OI s).bind λm=>if m.1=n then(Ts s).bind λx=>(LR x.2.1).bind λc=>Zf c.1 else none
def constOf(n:Str):List Stmt->Option Int
 |s::r=>(Zj n s).or (constOf n r)
 |[]=>none
def ae9(b:List Stmt)(k:Option ae)(v:ae):Option (Str×Int):=k.bind λk=>(LR k).bind λc=>(Zg c.1).bind λk=>(tE v).map λg=>(k,(constOf g.1.1 b).getD 0)
def afa(b:List Stmt)(ks:List (Option ae))(vs:List ae):List (Str×Int):=(ks.zip vs).filterMap λx=>ae9 b x.1 x.2
def ON:Stmt:=(behindTheImports pw)[73]!
def L4:List (Str×Int):=afa pw.main.body (qv ON) (qw ON)
def hZ:bb:={pw with main:={pw.main with body:=pw.main.body.filter λs=> !Tv s}}
def HZ:Kd:=⟨pw,hZ,jg,12,20,"b3_exceptions",L3,OH ["ONE_THIRD","ONE_SIXTH","TWO_THIRD"] "b1_set" "b3_exceptions" "EXACT_TOKEN_TYPES"⟩
def n8:Env:=Zi pw 13 14
def n9:List Int:=[65024,65025,65026,65027,65028,65029,6150,65030,65031,65032,65033,6155,6156,6157,8203,8204,8205,65034,65035,65036,65037,65038,65039,173,847,8288,65279]
def Bs(w:World):Look:=⟨[some (some 4599676419421066581),some (some 4595172819793696085),some (some 4604180019048437077)],some (true,n9.map λi=>(i,some i)),
 some (true,L3.map λx=>(hashInt x.1,some x.1,some x.2)),some (true,L4.map λx=>(hashStr w x.1,some x.1,some x.2))⟩
abbrev Ke:String->Option alJ:=PySem.W.Fast.tw14364793385576792824
abbrev tgQ:TG:=PySem.W.Fast.tw15667345088766844465
abbrev SN:SR:=PySem.W.Fast.tw14374325043358763698
abbrev dnQ:(String->Option alJ)->Code->Sem Fin:=PySem.W.Fast.tw11892475500146522536
abbrev osX(s:ak):=openSeen hZ jg (importedModules pw.main.body) (λ_=>true) true s
abbrev osQ(s:ak):=PySem.W.Fast.tw4187177175401517315 hZ jg (importedModules pw.main.body) (λ_=>true) true s
abbrev ej:Code:=.body (behindTheImports pw) n8
def hS(P:W5)(s:Str):Int:=if s.cps.isEmpty then 0 else reduceHash (P.strHash s.cps)
def sAt(i:Nat):Stmt:=(behindTheImports pw)[i]!
def yJ(s:Stmt):oQ:=((fdS s).map (·.2.1)).getD default
def CF(s:Stmt):List Stmt:=((fdS s).map (·.2.2.1)).getD []
def o6(s:Stmt):Scope:=((fdS s).map (·.2.2.2)).getD default
def oD(j:Nat):Obj:=(jd.final L3 423).objs.getD j default
section
variable(P:W5)
def kI(z:Int):Value:=.int z 0
def kR(a:Addr):Value:=.ref a
def kS(s:Str)(t:Tok):Value:=.str s t
def kE(s:Str)(t:Tok)(v:Value):cX:=⟨hS P s,.str s t,v⟩
def kF(c:Value)(n:Str)(i g:Nat)(m d:Value):Obj:={cls:=c,dict:=none,data:=.func {name:=n,qualname:=n,params:=yJ (sAt i),body:=.stmts (CF (sAt i)),scope:=o6 (sAt i),globals:=g,closure:=[],defaults:=.none,kwdefaults:=.none,doc:=.none,pyModule:=m,annotations:=none,code:=d,closureTuple:=.none,builtins:=0},slots:= #[]}
def kT(x:Array Value):Obj:={cls:=.type "tuple",dict:=none,data:=.seq x 0,slots:= #[]}
def kC(x:Array Value):Obj:={cls:=.type "code",dict:=none,data:=.fields x,slots:= #[]}
def kN(x:Array Value):Obj:={cls:=.none,dict:=none,data:=.fields x,slots:= #[]}
def kD(x:Array cX)(n:Nat):Obj:={cls:=.type "dict",dict:=none,data:=.dict x n,slots:= #[]}
def kn0:Str:="<module>"
def jV:Str:="/claim/cut.py"
def kn2:Str:="__main__"
def kn3:Str:="__name__"
def kn4:Str:="cpy313.stringprep"
def kn5:Str:="__doc__"
def kn6:Str:="__package__"
def kn7:Str:="__loader__"
def kn8:Str:="__spec__"
def kn9:Str:="__annotations__"
def anF:Str:="__builtins__"
def anG:Str:="__file__"
def anH:Str:="__cached__"
def anI:Str:="_DIV_LIMIT"
def OO:Str:="_div2n1n"
def OP:Str:="_div3n2n"
def OQ:Str:="_int2digits"
def OR:Str:="_digits2int"
def OT:Str:="_divmod_pos"
def OU:Str:="int_divmod"
def anJ:Str:="ONE_THIRD"
def anK:Str:="ONE_SIXTH"
def anL:Str:="TWO_THIRD"
def OV:Str:="rgb_to_hls"
def OW:Str:="hls_to_rgb"
def OX:Str:=⟨#[95,118]⟩
def OY:Str:="rgb_to_hsv"
def OZ:Str:="hsv_to_rgb"
def Tw:Str:=⟨#[97]⟩
def LY:Str:=⟨#[98]⟩
def H0:Str:=⟨#[110]⟩
def anM:Str:="pad"
def anN:Str:="half_n"
def anO:Str:="mask"
def afb:Str:=⟨#[98,49]⟩
def afc:Str:=⟨#[98,50]⟩
def anP:Str:=⟨#[113,49]⟩
def H2:Str:=⟨#[114]⟩
def anQ:Str:=⟨#[113,50]⟩
def LZ:Str:="cpy313._pylong"
def anR:Str:="a12"
def anS:Str:=⟨#[97,51]⟩
def Tx:Str:=⟨#[113]⟩
def afd:Str:="a_digits"
def afe:Str:="inner"
def aff:Str:="digits"
def anT:Str:="q_digits"
def anU:Str:="a_digit"
def anV:Str:="q_digit"
def afg:Str:=⟨#[103]⟩
def afh:Str:="maxc"
def afi:Str:="minc"
def anW:Str:="sumc"
def afj:Str:="rangec"
def afk:Str:=⟨#[108]⟩
def Tz:Str:=⟨#[115]⟩
def afl:Str:=⟨#[114,99]⟩
def afm:Str:=⟨#[103,99]⟩
def afn:Str:=⟨#[98,99]⟩
def TA:Str:=⟨#[104]⟩
def O0:Str:="cpy313.colorsys"
def afo:Str:=⟨#[109,50]⟩
def afp:Str:=⟨#[109,49]⟩
def anY:Str:="hue"
def afq:Str:=⟨#[118]⟩
def anZ:Str:=⟨#[105]⟩
def an0:Str:=⟨#[102]⟩
def an1:Str:=⟨#[112]⟩
def an2:Str:=⟨#[116]⟩
def an3:Str:="b1_set"
def O1:Str:="in_table_b1"
def afr:Str:="code"
def an4:Str:="b3_exceptions"
def TB:Str:="cpy313.token"
def O2:Str:="map_table_b3"
def an5:Str:="ENDMARKER"
def an6:Str:="LPAR"
def an7:Str:="RPAR"
def an8:Str:="LSQB"
def an9:Str:="RSQB"
def aoa:Str:="COLON"
def aob:Str:="COMMA"
def aoc:Str:="SEMI"
def aod:Str:="PLUS"
def aoe:Str:="MINUS"
def aof:Str:="STAR"
def aog:Str:="SLASH"
def aoh:Str:="VBAR"
def aoi:Str:="AMPER"
def aoj:Str:="LESS"
def aok:Str:="GREATER"
def aol:Str:="EQUAL"
def aom:Str:="DOT"
def aon:Str:="PERCENT"
def aoo:Str:="LBRACE"
def aop:Str:="RBRACE"
def aoq:Str:="EQEQUAL"
def aor:Str:="NOTEQUAL"
def aos:Str:="LESSEQUAL"
def aot:Str:="GREATEREQUAL"
def afs:Str:="TILDE"
def aft:Str:="CIRCUMFLEX"
def afu:Str:="LEFTSHIFT"
def afv:Str:="RIGHTSHIFT"
def afw:Str:="DOUBLESTAR"
def afx:Str:="PLUSEQUAL"
def afy:Str:="MINEQUAL"
def afz:Str:="STAREQUAL"
def afA:Str:="SLASHEQUAL"
def afB:Str:="PERCENTEQUAL"
def afC:Str:="AMPEREQUAL"
def afD:Str:="VBAREQUAL"
def afE:Str:="CIRCUMFLEXEQUAL"
def afF:Str:="LEFTSHIFTEQUAL"
def afG:Str:="RIGHTSHIFTEQUAL"
def afH:Str:="DOUBLESTAREQUAL"
def afI:Str:="DOUBLESLASH"
def afJ:Str:="DOUBLESLASHEQUAL"
def afK:Str:=⟨#[65,84]⟩
def afL:Str:="ATEQUAL"
def afM:Str:="RARROW"
def afN:Str:="ELLIPSIS"
def afO:Str:="COLONEQUAL"
def afP:Str:="EXCLAMATION"
def afQ:Str:="NT_OFFSET"
def afR:Str:="EXACT_TOKEN_TYPES"
def afS:Str:=⟨#[33]⟩
def afT:Str:=⟨#[33,61]⟩
def afU:Str:=⟨#[37]⟩
def afV:Str:=⟨#[37,61]⟩
def afW:Str:=⟨#[38]⟩
def afX:Str:=⟨#[38,61]⟩
def afY:Str:=⟨#[40]⟩
def afZ:Str:=⟨#[41]⟩
def af0:Str:=⟨#[42]⟩
def af1:Str:=⟨#[42,42]⟩
def af2:Str:="**="
def af3:Str:=⟨#[42,61]⟩
def af4:Str:=⟨#[43]⟩
def af5:Str:=⟨#[43,61]⟩
def af6:Str:=⟨#[44]⟩
def af7:Str:=⟨#[45]⟩
def af8:Str:=⟨#[45,61]⟩
def af9:Str:=⟨#[45,62]⟩
def aga:Str:=⟨#[46]⟩
def agb:Str:="..."
def agc:Str:=⟨#[47]⟩
def agd:Str:=⟨#[47,47]⟩
def age:Str:="//="
def agf:Str:=⟨#[47,61]⟩
def agg:Str:=⟨#[58]⟩
def agh:Str:=⟨#[58,61]⟩
def agi:Str:=⟨#[59]⟩
def agj:Str:=⟨#[60]⟩
def agk:Str:=⟨#[60,60]⟩
def agl:Str:="<<="
def agm:Str:=⟨#[60,61]⟩
def agn:Str:=⟨#[61]⟩
def ago:Str:=⟨#[61,61]⟩
def agp:Str:=⟨#[62]⟩
def agq:Str:=⟨#[62,61]⟩
def agr:Str:=⟨#[62,62]⟩
def ags:Str:=">>="
def agt:Str:=⟨#[64]⟩
def agu:Str:=⟨#[64,61]⟩
def agv:Str:=⟨#[91]⟩
def agw:Str:=⟨#[93]⟩
def agx:Str:=⟨#[94]⟩
def agy:Str:=⟨#[94,61]⟩
def agz:Str:=⟨#[123]⟩
def agA:Str:=⟨#[124]⟩
def agB:Str:=⟨#[124,61]⟩
def agC:Str:=⟨#[125]⟩
def agD:Str:=⟨#[126]⟩
def oy:Str:="law_ta0129_01"
def Ez:Str:="ISTERMINAL"
def EA:Str:="ISNONTERMINAL"
def EB:Str:="ISEOF"
def EC:Str:="_law_ring"
def ED:Str:="_law_page"
def EE:Str:="_law_read"
def EF:Str:="_law_ways"
def EG:Str:="_law_turned"
def EH:Str:="_law_others"
def EI:Str:="_law_joined"
def EJ:Str:="_law_rings"
def EK:Str:="_law_even"
def EL:Str:="_law_plain"
def EM:Str:="_law_fourfold"
def EN:Str:="law"
def O3:Str:=⟨#[120]⟩
def agE:Str:="symbols"
def agF:Str:="names"
def agG:Str:="row"
def agH:Str:="ways"
def agI:Str:="last"
def agJ:Str:="symbol"
def agK:Str:="colour"
def agL:Str:="due"
def Xo:Str:="step"
def agM:Str:="way"
def agN:Str:="tints"
def agO:Str:="share"
def agP:Str:="value"
def agQ:Str:="light"
def O4:Str:="first"
def Xp:Str:="second"
def agR:Str:="red"
def agS:Str:="green"
def agT:Str:="blue"
def agU:Str:="ahead"
def agV:Str:="behind"
def agW:Str:="ends"
def agX:Str:="rings"
def agY:Str:="pairs"
def agZ:Str:="one"
def ag0:Str:="other"
def ag1:Str:="number"
def ag2:Str:="divisor"
def ag3:Str:="quotient"
def ag4:Str:="rest"
def ag5:Str:="less"
def ag6:Str:="left"
def ke0:=kE P kn3 165 (kS kn4 354)
def Xq:=kE P kn5 166 .none
def Xr:=kE P kn6 167 .none
def Xs:=kE P kn7 168 (.builtin "__main__.__loader__#opaque")
def Xu:=kE P kn8 169 .none
def Xv:=kE P kn9 170 (kR 6)
def Xx:=kE P anF 171 (kR 4)
def Xy:=kE P anG 173 (kS jV 172)
def Xz:=kE P anH 174 .none
def XA:=kE P anI 190 (.int 4000 189)
def EO:=kE P OO 207 (kR 21)
def ER:=kE P OP 221 (kR 28)
def ES:=kE P OQ 232 (kR 35)
def ET:=kE P OR 243 (kR 42)
def EU:=kE P OT 258 (kR 49)
def EV:=kE P OU 268 (kR 56)
def EW:=kE P anJ 274 (.float 4599676419421066581 273)
def EX:=kE P anK 278 (.float 4595172819793696085 277)
def EY:=kE P anL 282 (.float 4604180019048437077 281)
def EZ:=kE P OV 301 (kR 63)
def E0:=kE P OW 312 (kR 70)
def E1:=kE P OX 321 (kR 77)
def E2:=kE P OY 339 (kR 84)
def E3:=kE P OZ 353 (kR 91)
def H3:=kE P an3 415 (kR 99)
def L0:=kE P O1 422 (kR 109)
def O5:=kE P an4 2373 (kR 110)
def Zk:=kE P kn3 165 (kS TB 2382)
def TC:=kE P O2 2381 (kR 155)
def TF:=kE P an5 2385 (.int 0 2384)
def TH:=kE P an6 2387 (.int 7 2386)
def TJ:=kE P an7 2389 (.int 8 2388)
def TK:=kE P an8 2391 (.int 9 2390)
def TL:=kE P an9 2393 (.int 10 2392)
def TM:=kE P aoa 2395 (.int 11 2394)
def TN:=kE P aob 2397 (.int 12 2396)
def TP:=kE P aoc 2399 (.int 13 2398)
def TQ:=kE P aod 2401 (.int 14 2400)
def TR:=kE P aoe 2403 (.int 15 2402)
def TU:=kE P aof 2405 (.int 16 2404)
def TV:=kE P aog 2407 (.int 17 2406)
def TX:=kE P aoh 2409 (.int 18 2408)
def TY:=kE P aoi 2411 (.int 19 2410)
def T2:=kE P aoj 2413 (.int 20 2412)
def T3:=kE P aok 2415 (.int 21 2414)
def T4:=kE P aol 2417 (.int 22 2416)
def T5:=kE P aom 2419 (.int 23 2418)
def T6:=kE P aon 2421 (.int 24 2420)
def T7:=kE P aoo 2423 (.int 25 2422)
def T8:=kE P aop 2425 (.int 26 2424)
def T9:=kE P aoq 2427 (.int 27 2426)
def Ua:=kE P aor 2429 (.int 28 2428)
def Ub:=kE P aos 2431 (.int 29 2430)
def Uc:=kE P aot 2433 (.int 30 2432)
def Ud:=kE P afs 2435 (.int 31 2434)
def Ue:=kE P aft 2437 (.int 32 2436)
def Zl:=kE P afu 2439 (.int 33 2438)
def Zm:=kE P afv 2441 (.int 34 2440)
def Zn:=kE P afw 2443 (.int 35 2442)
def Zo:=kE P afx 2445 (.int 36 2444)
def Zp:=kE P afy 2447 (.int 37 2446)
def Zq:=kE P afz 2449 (.int 38 2448)
def Zr:=kE P afA 2451 (.int 39 2450)
def Zs:=kE P afB 2453 (.int 40 2452)
def Zt:=kE P afC 2455 (.int 41 2454)
def Zu:=kE P afD 2457 (.int 42 2456)
def Zv:=kE P afE 2459 (.int 43 2458)
def Zw:=kE P afF 2461 (.int 44 2460)
def Zx:=kE P afG 2463 (.int 45 2462)
def Zy:=kE P afH 2465 (.int 46 2464)
def Zz:=kE P afI 2467 (.int 47 2466)
def ZA:=kE P afJ 2469 (.int 48 2468)
def ZC:=kE P afK 2471 (.int 49 2470)
def ZD:=kE P afL 2473 (.int 50 2472)
def ZE:=kE P afM 2475 (.int 51 2474)
def ZF:=kE P afN 2477 (.int 52 2476)
def ZG:=kE P afO 2479 (.int 53 2478)
def ZH:=kE P afP 2481 (.int 54 2480)
def ZI:=kE P afQ 2483 (.int 256 2482)
def ag7:=kE P afR 2580 (kR 156)
def ag8:=kE P af9 2518 (.int 51 2474)
def ag9:=kE P aga 2520 (.int 23 2418)
def aha:=kE P agb 2522 (.int 52 2476)
def ahb:=kE P agc 2524 (.int 17 2406)
def ahc:=kE P agd 2526 (.int 47 2466)
def ahd:=kE P age 2528 (.int 48 2468)
def ahe:=kE P agf 2530 (.int 39 2450)
def ahf:=kE P agg 2532 (.int 11 2394)
def ahg:=kE P agh 2534 (.int 53 2478)
def ahh:=kE P agi 2536 (.int 13 2398)
def ahi:=kE P agj 2538 (.int 20 2412)
def ahj:=kE P agk 2540 (.int 33 2438)
def ahk:=kE P agl 2542 (.int 44 2460)
def ahl:=kE P agm 2544 (.int 29 2430)
def ahm:=kE P agn 2546 (.int 22 2416)
def ahn:=kE P ago 2548 (.int 27 2426)
def aho:=kE P agp 2550 (.int 21 2414)
def ahp:=kE P agq 2552 (.int 30 2432)
def ahq:=kE P agr 2553 (.int 34 2440)
def ahr:=kE P ags 2554 (.int 45 2462)
def XB:=kE P agt 2555 (.int 49 2470)
def XC:=kE P agu 2556 (.int 50 2472)
def XE:=kE P agv 2557 (.int 9 2390)
def XF:=kE P agw 2558 (.int 10 2392)
def XG:=kE P agx 2559 (.int 32 2436)
def XH:=kE P agy 2560 (.int 43 2458)
def XI:=kE P agz 2561 (.int 25 2422)
def XJ:=kE P agA 2562 (.int 18 2408)
def XK:=kE P agB 2563 (.int 42 2456)
def XM:=kE P agC 2564 (.int 26 2424)
def XN:=kE P agD 2565 (.int 31 2434)
def cj:=kT #[]
def eN:=kN #[]
def so:=kC #[(kS kn0 182),(kS kn0 183),(kS jV 184),(kI 1),(kI 0),(kI 0),(kI 0),(kI 0),(kR 11),(.bool false),(kI 181),(kR 12),.none,.none,.none,.none,(kI 185),(kI 1),(kS jV 186)]
def sq:Obj:={cls:=(.type "frame"),dict:=none,data:=.plain,slots:= #[(some (kR 13)),(some (kR 3)),(some (kR 3)),none,(some (kS kn2 164)),none,(some (kR 0))]}
def O6:Heap:=⟨#[pJ P,pL P,pM P,boot_o_3 P,pN P,pO P,pQ P,pR P,pT P,pU P,mK P,cj,eN,so,sq],(gw P).life⟩
def O7:Nat:=187
def ZJ:Pos:=⟨0,0,0,0⟩
def Kf:Heap:=⟨#[pJ P,pL P,pM P,boot_o_3 P,pN P,pO P,pQ P,pR P,pT P,pU P,mK P,cj,eN,so,sq],(gw P).life⟩
def Kg:Nat:=187
def Ug:Pos:=⟨0,0,0,0⟩
def aou:=kD #[ke0 P,Xq P,Xr P,Xs P,Xu P,Xv P,Xx P,Xy P,Xz P,XA P,EO P,ER P,ES P,ET P,EU P,EV P,EW P,EX P,EY P,EZ P,E0 P,E1 P,E2 P,E3 P] 24
def XQ:=kN #[(kI 3),(kI 0),(kR 20),(kI 19),(kI 0),(kR 27),(kI 29),(kI 0),(kR 34),(kI 45),(kI 0),(kR 41),(kI 54),(kI 0),(kR 48),(kI 65),(kI 0),(kR 55),(kI 80),(kI 0),(kR 62),(kI 103),(kI 0),(kR 69),(kI 112),(kI 0),(kR 76),(kI 121),(kI 0),(kR 83),(kI 140),(kI 0),(kR 90)]
def vY:=kT #[(kS Tw 194),(kS LY 195),(kS H0 196),(kS anM 197),(kS anN 198),(kS anO 199),(kS afb 200),(kS afc 201),(kS anP 202),(kS H2 203),(kS anQ 204)]
def vZ:=kF .none OO 2 0 .none .none
def v7:=kC #[(kS OO 191),(kS OO 192),(kS jV 193),(kI 3),(kI 3),(kI 0),(kI 0),(kI 3),(kR 15),(.bool true),(kI 181),(kR 16),.none,(kR 17),(kR 18),(kR 19),(kI 205),(kI 3),(kS jV 206)]
def wb:=kF (.type "function") OO 2 3 (kS LZ 187) (kR 20)
def wc:=kT #[(kS anR 211),(kS anS 212),(kS LY 213),(kS afb 214),(kS afc 215),(kS H0 216),(kS Tx 217),(kS H2 218)]
def we:=kF .none OP 3 0 .none .none
def wg:=kC #[(kS OP 208),(kS OP 209),(kS jV 210),(kI 19),(kI 6),(kI 0),(kI 0),(kI 3),(kR 22),(.bool true),(kI 181),(kR 23),.none,(kR 24),(kR 25),(kR 26),(kI 219),(kI 19),(kS jV 220)]
def wi:=kF (.type "function") OP 3 3 (kS LZ 187) (kR 27)
def wj:=kT #[(kS Tw 225),(kS H0 226)]
def wk:=kT #[(kS H0 227),(kS afd 228),(kS afe 229)]
def wq:=kF .none OQ 4 0 .none .none
def wt:=kC #[(kS OQ 222),(kS OQ 223),(kS jV 224),(kI 29),(kI 2),(kI 0),(kI 0),(kI 3),(kR 29),(.bool true),(kI 181),(kR 30),.none,(kR 31),(kR 32),(kR 33),(kI 230),(kI 29),(kS jV 231)]
def wu:=kF (.type "function") OQ 4 3 (kS LZ 187) (kR 34)
def wx:=kT #[(kS aff 236),(kS H0 237)]
def wy:=kT #[(kS aff 238),(kS H0 239),(kS afe 240)]
def wz:=kF .none OR 5 0 .none .none
def wA:=kC #[(kS OR 233),(kS OR 234),(kS jV 235),(kI 45),(kI 2),(kI 0),(kI 0),(kI 3),(kR 36),(.bool true),(kI 181),(kR 37),.none,(kR 38),(kR 39),(kR 40),(kI 241),(kI 45),(kS jV 242)]
def wC:=kF (.type "function") OR 5 3 (kS LZ 187) (kR 41)
def wG:=kT #[(kS Tw 247),(kS LY 248),(kS H0 249),(kS afd 250),(kS H2 251),(kS anT 252),(kS anU 253),(kS anV 254),(kS Tx 255)]
def wH:=kF .none OT 6 0 .none .none
def wI:=kC #[(kS OT 244),(kS OT 245),(kS jV 246),(kI 54),(kI 2),(kI 0),(kI 0),(kI 3),(kR 43),(.bool true),(kI 181),(kR 44),.none,(kR 45),(kR 46),(kR 47),(kI 256),(kI 54),(kS jV 257)]
def wJ:=kF (.type "function") OT 6 3 (kS LZ 187) (kR 48)
def wL:=kT #[(kS Tw 262),(kS LY 263),(kS Tx 264),(kS H2 265)]
def wM:=kF .none OU 7 0 .none .none
def wN:=kC #[(kS OU 259),(kS OU 260),(kS jV 261),(kI 65),(kI 2),(kI 0),(kI 0),(kI 3),(kR 50),(.bool true),(kI 181),(kR 51),.none,(kR 52),(kR 53),(kR 54),(kI 266),(kI 65),(kS jV 267)]
def wO:=kF (.type "function") OU 7 3 (kS LZ 187) (kR 55)
def wQ:=kT #[(kS H2 286),(kS afg 287),(kS LY 288),(kS afh 289),(kS afi 290),(kS anW 291),(kS afj 292),(kS afk 293),(kS Tz 294),(kS afl 295),(kS afm 296),(kS afn 297),(kS TA 298)]
def wR:=kF .none OV 12 0 .none .none
def wU:=kC #[(kS OV 283),(kS OV 284),(kS jV 285),(kI 80),(kI 3),(kI 0),(kI 0),(kI 3),(kR 57),(.bool true),(kI 181),(kR 58),.none,(kR 59),(kR 60),(kR 61),(kI 299),(kI 80),(kS jV 300)]
def wV:=kF (.type "function") OV 12 3 (kS O0 269) (kR 62)
def wW:=kT #[(kS TA 305),(kS afk 306),(kS Tz 307),(kS afo 308),(kS afp 309)]
def wX:=kF .none OW 13 0 .none .none
def wY:=kC #[(kS OW 302),(kS OW 303),(kS jV 304),(kI 103),(kI 3),(kI 0),(kI 0),(kI 3),(kR 64),(.bool true),(kI 181),(kR 65),.none,(kR 66),(kR 67),(kR 68),(kI 310),(kI 103),(kS jV 311)]
def wZ:=kF (.type "function") OW 13 3 (kS O0 269) (kR 69)
def w0:=kT #[(kS afp 316),(kS afo 317),(kS anY 318)]
def w7:=kF .none OX 14 0 .none .none
def w8:=kC #[(kS OX 313),(kS OX 314),(kS jV 315),(kI 112),(kI 3),(kI 0),(kI 0),(kI 3),(kR 71),(.bool true),(kI 181),(kR 72),.none,(kR 73),(kR 74),(kR 75),(kI 319),(kI 112),(kS jV 320)]
def w9:=kF (.type "function") OX 14 3 (kS O0 269) (kR 76)
def xe:=kT #[(kS H2 325),(kS afg 326),(kS LY 327),(kS afh 328),(kS afi 329),(kS afj 330),(kS afq 331),(kS Tz 332),(kS afl 333),(kS afm 334),(kS afn 335),(kS TA 336)]
def xf:=kF .none OY 15 0 .none .none
def xg:=kC #[(kS OY 322),(kS OY 323),(kS jV 324),(kI 121),(kI 3),(kI 0),(kI 0),(kI 3),(kR 78),(.bool true),(kI 181),(kR 79),.none,(kR 80),(kR 81),(kR 82),(kI 337),(kI 121),(kS jV 338)]
def xh:=kF (.type "function") OY 15 3 (kS O0 269) (kR 83)
def xi:=kT #[(kS TA 343),(kS Tz 344),(kS afq 345),(kS anZ 346),(kS an0 347),(kS an1 348),(kS Tx 349),(kS an2 350)]
def xj:=kF .none OZ 16 0 .none .none
def xk:=kC #[(kS OZ 340),(kS OZ 341),(kS jV 342),(kI 140),(kI 3),(kI 0),(kI 0),(kI 3),(kR 85),(.bool true),(kI 181),(kR 86),.none,(kR 87),(kR 88),(kR 89),(kI 351),(kI 140),(kS jV 352)]
def xm:=kF (.type "function") OZ 16 3 (kS O0 269) (kR 90)
def Kh:Heap:=⟨#[pJ P,pL P,pM P,aou P,pN P,pO P,pQ P,pR P,pT P,pU P,mK P,cj,XQ,so,sq,cj,eN,vY,cj,vZ,v7,wb,cj,eN,wc,cj,we,wg,wi,cj,eN,wj,wk,wq,wt,wu,cj,eN,wx,wy,wz,wA,wC,cj,eN,wG,cj,wH,wI,wJ,cj,eN,wL,cj,wM,wN,wO,cj,eN,wQ,cj,wR,wU,wV,cj,eN,wW,cj,wX,wY,wZ,cj,eN,w0,cj,w7,w8,w9,cj,eN,xe,cj,xf,xg,xh,cj,eN,xi,cj,xj,xk,xm],(gw P).life⟩
def Ki:Nat:=356
def Uh:Pos:=⟨161,0,161,8⟩
def aov:=kD #[ke0 P,Xq P,Xr P,Xs P,Xu P,Xv P,Xx P,Xy P,Xz P,XA P,EO P,ER P,ES P,ET P,EU P,EV P,EW P,EX P,EY P,EZ P,E0 P,E1 P,E2 P,E3 P,H3 P] 25
def yK:Obj:={cls:=(.type "list"),dict:=none,data:=(.seq #[(.int 173 356),(.int 847 357),(.int 6150 358),(.int 6155 359),(.int 6156 360),(.int 6157 361),(.int 8203 362),(.int 8204 363),(.int 8205 364),(.int 8288 365),(.int 65279 366)] 0),slots:= #[]}
def yL:Obj:={cls:=(.type "range"),dict:=none,data:=(.fields #[(.int 65024 367),(.int 65040 368),(.int 1 369)]),slots:= #[]}
def yM:Obj:={cls:=(.type "list"),dict:=none,data:=(.seq #[(.int 65024 372),(.int 65025 373),(.int 65026 374),(.int 65027 375),(.int 65028 376),(.int 65029 377),(.int 65030 378),(.int 65031 379),(.int 65032 380),(.int 65033 381),(.int 65034 382),(.int 65035 383),(.int 65036 384),(.int 65037 385),(.int 65038 386),(.int 65039 387)] 18),slots:= #[]}
def yN:Obj:={cls:=(.type "range_iterator"),dict:=none,data:=(.fields #[(kI 65040),(kI 0),(kI 1)]),slots:= #[]}
def yO:Obj:={cls:=(.type "StopIteration"),dict:=none,data:=(.fields #[(kR 96),.none,.none,.none,(.bool false),.none]),slots:= #[]}
def yP:Obj:={cls:=(.type "list"),dict:=none,data:=(.seq #[(.int 173 356),(.int 847 357),(.int 6150 358),(.int 6155 359),(.int 6156 360),(.int 6157 361),(.int 8203 362),(.int 8204 363),(.int 8205 364),(.int 8288 365),(.int 65279 366),(.int 65024 372),(.int 65025 373),(.int 65026 374),(.int 65027 375),(.int 65028 376),(.int 65029 377),(.int 65030 378),(.int 65031 379),(.int 65032 380),(.int 65033 381),(.int 65034 382),(.int 65035 383),(.int 65036 384),(.int 65037 385),(.int 65038 386),(.int 65039 387)] 0),slots:= #[]}
def yQ:Obj:={cls:=(.type "set"),dict:=none,data:=(.set #[(65024,(.int 65024 372)),(65025,(.int 65025 373)),(65026,(.int 65026 374)),(65027,(.int 65027 375)),(65028,(.int 65028 376)),(65029,(.int 65029 377)),(6150,(.int 6150 358)),(65030,(.int 65030 378)),(65031,(.int 65031 379)),(65032,(.int 65032 380)),(65033,(.int 65033 381)),(6155,(.int 6155 359)),(6156,(.int 6156 360)),(6157,(.int 6157 361)),(8203,(.int 8203 362)),(8204,(.int 8204 363)),(8205,(.int 8205 364)),(65034,(.int 65034 382)),(65035,(.int 65035 383)),(65036,(.int 65036 384)),(65037,(.int 65037 385)),(65038,(.int 65038 386)),(65039,(.int 65039 387)),(173,(.int 173 356)),(847,(.int 847 357)),(8288,(.int 8288 365)),(65279,(.int 65279 366))] 29 {mask:=127,place:= #[0,1,2,3,4,5,6,7,8,9,10,11,12,13,14,15,16,17,18,19,20,21,22,45,79,96,127],dummies:= #[],finger:=0,led:= !(P.followText "set-order"),moves:=2,plain:=true}),slots:= #[]}
def sJ:Obj:={cls:=(.type "list_iterator"),dict:=none,data:=(.fields #[.none,(kI 27)]),slots:= #[]}
def sL:Obj:={cls:=(.type "StopIteration"),dict:=none,data:=(.fields #[(kR 101),.none,.none,.none,(.bool false),.none]),slots:= #[]}
def Kj:Heap:=⟨#[pJ P,pL P,pM P,aov P,pN P,pO P,pQ P,pR P,pT P,pU P,mK P,cj,XQ,so,sq,cj,eN,vY,cj,vZ,v7,wb,cj,eN,wc,cj,we,wg,wi,cj,eN,wj,wk,wq,wt,wu,cj,eN,wx,wy,wz,wA,wC,cj,eN,wG,cj,wH,wI,wJ,cj,eN,wL,cj,wM,wN,wO,cj,eN,wQ,cj,wR,wU,wV,cj,eN,wW,cj,wX,wY,wZ,cj,eN,w0,cj,w7,w8,w9,cj,eN,xe,cj,xf,xg,xh,cj,eN,xi,cj,xj,xk,xm,yK,yL,yM,yN,cj,yO,yP,yQ P,sJ,cj,sL],(gw P).life⟩
def Kk:Nat:=416
def Ui:Pos:=⟨162,0,162,6⟩
def aow:=kD #[ke0 P,Xq P,Xr P,Xs P,Xu P,Xv P,Xx P,Xy P,Xz P,XA P,EO P,ER P,ES P,ET P,EU P,EV P,EW P,EX P,EY P,EZ P,E0 P,E1 P,E2 P,E3 P,H3 P,L0 P] 26
def XR:=kN #[(kI 3),(kI 0),(kR 20),(kI 19),(kI 0),(kR 27),(kI 29),(kI 0),(kR 34),(kI 45),(kI 0),(kR 41),(kI 54),(kI 0),(kR 48),(kI 65),(kI 0),(kR 55),(kI 80),(kI 0),(kR 62),(kI 103),(kI 0),(kR 69),(kI 112),(kI 0),(kR 76),(kI 121),(kI 0),(kR 83),(kI 140),(kI 0),(kR 90),(kI 163),(kI 0),(kR 108)]
def uR:=kT #[(kS afr 419)]
def uT:=kF .none O1 19 0 .none .none
def uU:=kC #[(kS O1 416),(kS O1 417),(kS jV 418),(kI 163),(kI 1),(kI 0),(kI 0),(kI 3),(kR 103),(.bool true),(kI 181),(kR 104),.none,(kR 105),(kR 106),(kR 107),(kI 420),(kI 163),(kS jV 421)]
def uV:=kF (.type "function") O1 19 3 (kS kn4 354) (kR 108)
def mM:Heap:=⟨#[pJ P,pL P,pM P,aow P,pN P,pO P,pQ P,pR P,pT P,pU P,mK P,cj,XR,so,sq,cj,eN,vY,cj,vZ,v7,wb,cj,eN,wc,cj,we,wg,wi,cj,eN,wj,wk,wq,wt,wu,cj,eN,wx,wy,wz,wA,wC,cj,eN,wG,cj,wH,wI,wJ,cj,eN,wL,cj,wM,wN,wO,cj,eN,wQ,cj,wR,wU,wV,cj,eN,wW,cj,wX,wY,wZ,cj,eN,w0,cj,w7,w8,w9,cj,eN,xe,cj,xf,xg,xh,cj,eN,xi,cj,xj,xk,xm,yK,yL,yM,yN,cj,yO,yP,yQ P,sJ,cj,sL,cj,eN,uR,cj,uT,uU,uV],(gw P).life⟩
def jE:Nat:=423
def Uj:Pos:=⟨163,0,164,30⟩
def aox:=kD #[ke0 P,Xq P,Xr P,Xs P,Xu P,Xv P,Xx P,Xy P,Xz P,XA P,EO P,ER P,ES P,ET P,EU P,EV P,EW P,EX P,EY P,EZ P,E0 P,E1 P,E2 P,E3 P,H3 P,L0 P,O5 P] 27
def Bt:Heap:=⟨#[pJ P,pL P,pM P,aox P,pN P,pO P,pQ P,pR P,pT P,pU P,mK P,cj,XR,so,sq,cj,eN,vY,cj,vZ,v7,wb,cj,eN,wc,cj,we,wg,wi,cj,eN,wj,wk,wq,wt,wu,cj,eN,wx,wy,wz,wA,wC,cj,eN,wG,cj,wH,wI,wJ,cj,eN,wL,cj,wM,wN,wO,cj,eN,wQ,cj,wR,wU,wV,cj,eN,wW,cj,wX,wY,wZ,cj,eN,w0,cj,w7,w8,w9,cj,eN,xe,cj,xf,xg,xh,cj,eN,xi,cj,xj,xk,xm,yK,yL,yM,yN,cj,yO,yP,yQ P,sJ,cj,sL,cj,eN,uR,cj,uT,uU,uV,oD 0,oD 1,oD 2,oD 3,oD 4,oD 5,oD 6,oD 7,oD 8,oD 9,oD 10,oD 11,oD 12,oD 13,oD 14,oD 15,oD 16,oD 17,oD 18,oD 19,oD 20,oD 21,oD 22,oD 23,oD 24,oD 25,oD 26,oD 27,oD 28,oD 29,oD 30,oD 31,oD 32,oD 33,oD 34,oD 35,oD 36,oD 37,oD 38],(gw P).life⟩
def xo:Nat:=2374
def aoy:=kD #[Zk P,Xq P,Xr P,Xs P,Xu P,Xv P,Xx P,Xy P,Xz P,XA P,EO P,ER P,ES P,ET P,EU P,EV P,EW P,EX P,EY P,EZ P,E0 P,E1 P,E2 P,E3 P,H3 P,L0 P,O5 P,TC P,TF P,TH P,TJ P,TK P,TL P,TM P,TN P,TP P,TQ P,TR P,TU P,TV P,TX P,TY P,T2 P,T3 P,T4 P,T5 P,T6 P,T7 P,T8 P,T9 P,Ua P,Ub P,Uc P,Ud P,Ue P] 55
def O8:=kN #[(kI 3),(kI 0),(kR 20),(kI 19),(kI 0),(kR 27),(kI 29),(kI 0),(kR 34),(kI 45),(kI 0),(kR 41),(kI 54),(kI 0),(kR 48),(kI 65),(kI 0),(kR 55),(kI 80),(kI 0),(kR 62),(kI 103),(kI 0),(kR 69),(kI 112),(kI 0),(kR 76),(kI 121),(kI 0),(kR 83),(kI 140),(kI 0),(kR 90),(kI 163),(kI 0),(kR 108),(kI 166),(kI 0),(kR 154)]
def CG:=kT #[(kS afr 2377),(kS H2 2378)]
def CH:=kF .none O2 21 0 .none .none
def CJ:=kC #[(kS O2 2374),(kS O2 2375),(kS jV 2376),(kI 166),(kI 1),(kI 0),(kI 0),(kI 3),(kR 149),(.bool true),(kI 181),(kR 150),.none,(kR 151),(kR 152),(kR 153),(kI 2379),(kI 166),(kS jV 2380)]
def CK:=kF (.type "function") O2 21 3 (kS kn4 354) (kR 154)
def Kl:Heap:=⟨#[pJ P,pL P,pM P,aoy P,pN P,pO P,pQ P,pR P,pT P,pU P,mK P,cj,O8,so,sq,cj,eN,vY,cj,vZ,v7,wb,cj,eN,wc,cj,we,wg,wi,cj,eN,wj,wk,wq,wt,wu,cj,eN,wx,wy,wz,wA,wC,cj,eN,wG,cj,wH,wI,wJ,cj,eN,wL,cj,wM,wN,wO,cj,eN,wQ,cj,wR,wU,wV,cj,eN,wW,cj,wX,wY,wZ,cj,eN,w0,cj,w7,w8,w9,cj,eN,xe,cj,xf,xg,xh,cj,eN,xi,cj,xj,xk,xm,yK,yL,yM,yN,cj,yO,yP,yQ P,sJ,cj,sL,cj,eN,uR,cj,uT,uU,uV,oD 0,oD 1,oD 2,oD 3,oD 4,oD 5,oD 6,oD 7,oD 8,oD 9,oD 10,oD 11,oD 12,oD 13,oD 14,oD 15,oD 16,oD 17,oD 18,oD 19,oD 20,oD 21,oD 22,oD 23,oD 24,oD 25,oD 26,oD 27,oD 28,oD 29,oD 30,oD 31,oD 32,oD 33,oD 34,oD 35,oD 36,oD 37,oD 38,cj,eN,CG,cj,CH,CJ,CK],(gw P).life⟩
def Km:Nat:=2438
def Uk:Pos:=⟨198,0,198,10⟩
def aoz:=kD #[Zk P,Xq P,Xr P,Xs P,Xu P,Xv P,Xx P,Xy P,Xz P,XA P,EO P,ER P,ES P,ET P,EU P,EV P,EW P,EX P,EY P,EZ P,E0 P,E1 P,E2 P,E3 P,H3 P,L0 P,O5 P,TC P,TF P,TH P,TJ P,TK P,TL P,TM P,TN P,TP P,TQ P,TR P,TU P,TV P,TX P,TY P,T2 P,T3 P,T4 P,T5 P,T6 P,T7 P,T8 P,T9 P,Ua P,Ub P,Uc P,Ud P,Ue P,Zl P,Zm P,Zn P,Zo P,Zp P,Zq P,Zr P,Zs P,Zt P,Zu P,Zv P,Zw P,Zx P,Zy P,Zz P,ZA P,ZC P,ZD P,ZE P,ZF P,ZG P,ZH P,ZI P] 78
def Kn:Heap:=⟨#[pJ P,pL P,pM P,aoz P,pN P,pO P,pQ P,pR P,pT P,pU P,mK P,cj,O8,so,sq,cj,eN,vY,cj,vZ,v7,wb,cj,eN,wc,cj,we,wg,wi,cj,eN,wj,wk,wq,wt,wu,cj,eN,wx,wy,wz,wA,wC,cj,eN,wG,cj,wH,wI,wJ,cj,eN,wL,cj,wM,wN,wO,cj,eN,wQ,cj,wR,wU,wV,cj,eN,wW,cj,wX,wY,wZ,cj,eN,w0,cj,w7,w8,w9,cj,eN,xe,cj,xf,xg,xh,cj,eN,xi,cj,xj,xk,xm,yK,yL,yM,yN,cj,yO,yP,yQ P,sJ,cj,sL,cj,eN,uR,cj,uT,uU,uV,oD 0,oD 1,oD 2,oD 3,oD 4,oD 5,oD 6,oD 7,oD 8,oD 9,oD 10,oD 11,oD 12,oD 13,oD 14,oD 15,oD 16,oD 17,oD 18,oD 19,oD 20,oD 21,oD 22,oD 23,oD 24,oD 25,oD 26,oD 27,oD 28,oD 29,oD 30,oD 31,oD 32,oD 33,oD 34,oD 35,oD 36,oD 37,oD 38,cj,eN,CG,cj,CH,CJ,CK],(gw P).life⟩
def Ko:Nat:=2484
def Ul:Pos:=⟨221,0,221,9⟩
def aoA:=kD #[Zk P,Xq P,Xr P,Xs P,Xu P,Xv P,Xx P,Xy P,Xz P,XA P,EO P,ER P,ES P,ET P,EU P,EV P,EW P,EX P,EY P,EZ P,E0 P,E1 P,E2 P,E3 P,H3 P,L0 P,O5 P,TC P,TF P,TH P,TJ P,TK P,TL P,TM P,TN P,TP P,TQ P,TR P,TU P,TV P,TX P,TY P,T2 P,T3 P,T4 P,T5 P,T6 P,T7 P,T8 P,T9 P,Ua P,Ub P,Uc P,Ud P,Ue P,Zl P,Zm P,Zn P,Zo P,Zp P,Zq P,Zr P,Zs P,Zt P,Zu P,Zv P,Zw P,Zx P,Zy P,Zz P,ZA P,ZC P,ZD P,ZE P,ZF P,ZG P,ZH P,ZI P,ag7 P] 79
def O9:=kD #[kE P afS 2484 (.int 54 2480),kE P afT 2486 (.int 28 2428),kE P afU 2488 (.int 24 2420),kE P afV 2490 (.int 40 2452),kE P afW 2492 (.int 19 2410),kE P afX 2494 (.int 41 2454),kE P afY 2496 (.int 7 2386),kE P afZ 2498 (.int 8 2388),kE P af0 2500 (.int 16 2404),kE P af1 2502 (.int 35 2442),kE P af2 2504 (.int 46 2464),kE P af3 2506 (.int 38 2448),kE P af4 2508 (.int 14 2400),kE P af5 2510 (.int 36 2444),kE P af6 2512 (.int 12 2396),kE P af7 2514 (.int 15 2402),kE P af8 2516 (.int 37 2446),ag8 P,ag9 P,aha P,ahb P,ahc P,ahd P,ahe P,ahf P,ahg P,ahh P,ahi P,ahj P,ahk P,ahl P,ahm P,ahn P,aho P,ahp P,ahq P,ahr P,XB P,XC P,XE P,XF P,XG P,XH P,XI P,XJ P,XK P,XM P,XN P] 48
def Pa:=kD #[ag8 P,ag9 P,aha P,ahb P,ahc P,ahd P,ahe P,ahf P,ahg P,ahh P,ahi P,ahj P,ahk P,ahl P,ahm P,ahn P,aho P] 17
def Pb:=kD #[ahp P,ahq P,ahr P,XB P,XC P,XE P,XF P,XG P,XH P,XI P,XJ P,XK P,XM P,XN P] 14
def Kp:Heap:=⟨#[pJ P,pL P,pM P,aoA P,pN P,pO P,pQ P,pR P,pT P,pU P,mK P,cj,O8,so,sq,cj,eN,vY,cj,vZ,v7,wb,cj,eN,wc,cj,we,wg,wi,cj,eN,wj,wk,wq,wt,wu,cj,eN,wx,wy,wz,wA,wC,cj,eN,wG,cj,wH,wI,wJ,cj,eN,wL,cj,wM,wN,wO,cj,eN,wQ,cj,wR,wU,wV,cj,eN,wW,cj,wX,wY,wZ,cj,eN,w0,cj,w7,w8,w9,cj,eN,xe,cj,xf,xg,xh,cj,eN,xi,cj,xj,xk,xm,yK,yL,yM,yN,cj,yO,yP,yQ P,sJ,cj,sL,cj,eN,uR,cj,uT,uU,uV,oD 0,oD 1,oD 2,oD 3,oD 4,oD 5,oD 6,oD 7,oD 8,oD 9,oD 10,oD 11,oD 12,oD 13,oD 14,oD 15,oD 16,oD 17,oD 18,oD 19,oD 20,oD 21,oD 22,oD 23,oD 24,oD 25,oD 26,oD 27,oD 28,oD 29,oD 30,oD 31,oD 32,oD 33,oD 34,oD 35,oD 36,oD 37,oD 38,cj,eN,CG,cj,CH,CJ,CK,O9 P,Pa P,Pb P],(gw P).life⟩
def Kq:Nat:=2581
def Um:Pos:=⟨222,0,222,17⟩
def aoB:=kD #[kE P kn3 165 (kS oy 2602),Xq P,Xr P,Xs P,Xu P,Xv P,Xx P,Xy P,Xz P,XA P,EO P,ER P,ES P,ET P,EU P,EV P,EW P,EX P,EY P,EZ P,E0 P,E1 P,E2 P,E3 P,H3 P,L0 P,O5 P,TC P,TF P,TH P,TJ P,TK P,TL P,TM P,TN P,TP P,TQ P,TR P,TU P,TV P,TX P,TY P,T2 P,T3 P,T4 P,T5 P,T6 P,T7 P,T8 P,T9 P,Ua P,Ub P,Uc P,Ud P,Ue P,Zl P,Zm P,Zn P,Zo P,Zp P,Zq P,Zr P,Zs P,Zt P,Zu P,Zv P,Zw P,Zx P,Zy P,Zz P,ZA P,ZC P,ZD P,ZE P,ZF P,ZG P,ZH P,ZI P,ag7 P,kE P Ez 2587 (kR 165),kE P EA 2594 (kR 172),kE P EB 2601 (kR 179),kE P EC 2609 (kR 184),kE P ED 2615 (kR 189),kE P EE 2621 (kR 194),kE P EF 2633 (kR 201),kE P EG 2642 (kR 208),kE P EH 2661 (kR 215),kE P EI 2674 (kR 222),kE P EJ 2680 (kR 227),kE P EK 2686 (kR 232),kE P EL 2692 (kR 237),kE P EM 2705 (kR 244),kE P EN 2711 (kR 249)] 94
def ahs:=kN #[(kI 3),(kI 0),(kR 20),(kI 19),(kI 0),(kR 27),(kI 29),(kI 0),(kR 34),(kI 45),(kI 0),(kR 41),(kI 54),(kI 0),(kR 48),(kI 65),(kI 0),(kR 55),(kI 80),(kI 0),(kR 62),(kI 103),(kI 0),(kR 69),(kI 112),(kI 0),(kR 76),(kI 121),(kI 0),(kR 83),(kI 140),(kI 0),(kR 90),(kI 163),(kI 0),(kR 108),(kI 166),(kI 0),(kR 154),(kI 223),(kI 0),(kR 164),(kI 225),(kI 0),(kR 171),(kI 227),(kI 0),(kR 178),(kI 230),(kI 0),(kR 183),(kI 235),(kI 0),(kR 188),(kI 257),(kI 0),(kR 193),(kI 266),(kI 0),(kR 200),(kI 277),(kI 0),(kR 207),(kI 280),(kI 0),(kR 214),(kI 292),(kI 0),(kR 221),(kI 299),(kI 0),(kR 226),(kI 307),(kI 0),(kR 231),(kI 316),(kI 0),(kR 236),(kI 318),(kI 0),(kR 243),(kI 322),(kI 0),(kR 248)]
def ZK:=kT #[(kS O3 2584)]
def ZL:=kF .none Ez 74 0 .none .none
def ZM:=kC #[(kS Ez 2581),(kS Ez 2582),(kS jV 2583),(kI 223),(kI 1),(kI 0),(kI 0),(kI 3),(kR 159),(.bool true),(kI 181),(kR 160),.none,(kR 161),(kR 162),(kR 163),(kI 2585),(kI 223),(kS jV 2586)]
def ZN:=kF (.type "function") Ez 74 3 (kS TB 2382) (kR 164)
def ZO:=kT #[(kS O3 2591)]
def ZP:=kF .none EA 75 0 .none .none
def ZQ:=kC #[(kS EA 2588),(kS EA 2589),(kS jV 2590),(kI 225),(kI 1),(kI 0),(kI 0),(kI 3),(kR 166),(.bool true),(kI 181),(kR 167),.none,(kR 168),(kR 169),(kR 170),(kI 2592),(kI 225),(kS jV 2593)]
def ZR:=kF (.type "function") EA 75 3 (kS TB 2382) (kR 171)
def ZS:=kT #[(kS O3 2598)]
def ZT:=kF .none EB 76 0 .none .none
def ZU:=kC #[(kS EB 2595),(kS EB 2596),(kS jV 2597),(kI 227),(kI 1),(kI 0),(kI 0),(kI 3),(kR 173),(.bool true),(kI 181),(kR 174),.none,(kR 175),(kR 176),(kR 177),(kI 2599),(kI 227),(kS jV 2600)]
def ZV:=kF (.type "function") EB 76 3 (kS TB 2382) (kR 178)
def ZW:=kF .none EC 78 0 .none .none
def ZX:=kC #[(kS EC 2604),(kS EC 2605),(kS jV 2606),(kI 230),(kI 1),(kI 0),(kI 0),(kI 3),(kR 180),(.bool true),(kI 181),(kR 181),.none,.none,.none,(kR 182),(kI 2607),(kI 230),(kS jV 2608)]
def ZY:=kF (.type "function") EC 78 3 (kS oy 2602) (kR 183)
def ZZ:=kF .none ED 79 0 .none .none
def Z0:=kC #[(kS ED 2610),(kS ED 2611),(kS jV 2612),(kI 235),(kI 3),(kI 0),(kI 0),(kI 3),(kR 185),(.bool true),(kI 181),(kR 186),.none,.none,.none,(kR 187),(kI 2613),(kI 235),(kS jV 2614)]
def Z1:=kF (.type "function") ED 79 3 (kS oy 2602) (kR 188)
def Z2:=kF .none EE 80 0 .none .none
def Z3:=kC #[(kS EE 2616),(kS EE 2617),(kS jV 2618),(kI 257),(kI 1),(kI 0),(kI 0),(kI 3),(kR 190),(.bool true),(kI 181),(kR 191),.none,.none,.none,(kR 192),(kI 2619),(kI 257),(kS jV 2620)]
def Z4:=kF (.type "function") EE 80 3 (kS oy 2602) (kR 193)
def Z5:=kT #[(kS agE 2625),(kS agF 2626),(kS agG 2627),(kS agH 2628),(kS agI 2629),(kS agJ 2630)]
def Z6:=kF .none EF 81 0 .none .none
def Z7:=kC #[(kS EF 2622),(kS EF 2623),(kS jV 2624),(kI 266),(kI 1),(kI 0),(kI 0),(kI 3),(kR 195),(.bool true),(kI 181),(kR 196),.none,(kR 197),(kR 198),(kR 199),(kI 2631),(kI 266),(kS jV 2632)]
def Z8:=kF (.type "function") EF 81 3 (kS oy 2602) (kR 200)
def Z9:=kT #[(kS agK 2637),(kS agL 2638),(kS Xo 2639)]
def aac:=kF .none EG 82 0 .none .none
def aad:=kC #[(kS EG 2634),(kS EG 2635),(kS jV 2636),(kI 277),(kI 2),(kI 0),(kI 0),(kI 3),(kR 202),(.bool true),(kI 181),(kR 203),.none,(kR 204),(kR 205),(kR 206),(kI 2640),(kI 277),(kS jV 2641)]
def aae:=kF (.type "function") EG 82 3 (kS oy 2602) (kR 207)
def aaf:=kT #[(kS agM 2646),(kS agN 2647),(kS Xo 2648),(kS agO 2649),(kS agP 2650),(kS agQ 2651),(kS O4 2652),(kS Xp 2653),(kS agR 2654),(kS agS 2655),(kS agT 2656),(kS agU 2657),(kS agV 2658)]
def aag:=kF .none EH 83 0 .none .none
def aah:=kC #[(kS EH 2643),(kS EH 2644),(kS jV 2645),(kI 280),(kI 2),(kI 0),(kI 0),(kI 3),(kR 209),(.bool true),(kI 181),(kR 210),.none,(kR 211),(kR 212),(kR 213),(kI 2659),(kI 280),(kS jV 2660)]
def aai:=kF (.type "function") EH 83 3 (kS oy 2602) (kR 214)
def aaj:=kT #[(kS agW 2665),(kS agX 2666),(kS agY 2667),(kS agZ 2668),(kS ag0 2669),(kS O4 2670),(kS Xp 2671)]
def aak:=kF .none EI 84 0 .none .none
def aal:=kC #[(kS EI 2662),(kS EI 2663),(kS jV 2664),(kI 292),(kI 3),(kI 0),(kI 0),(kI 3),(kR 216),(.bool true),(kI 181),(kR 217),.none,(kR 218),(kR 219),(kR 220),(kI 2672),(kI 292),(kS jV 2673)]
def aam:=kF (.type "function") EI 84 3 (kS oy 2602) (kR 221)
def aan:=kF .none EJ 85 0 .none .none
def aao:=kC #[(kS EJ 2675),(kS EJ 2676),(kS jV 2677),(kI 299),(kI 2),(kI 0),(kI 0),(kI 3),(kR 223),(.bool true),(kI 181),(kR 224),.none,.none,.none,(kR 225),(kI 2678),(kI 299),(kS jV 2679)]
def aap:=kF (.type "function") EJ 85 3 (kS oy 2602) (kR 226)
def aaq:=kF .none EK 86 0 .none .none
def aar:=kC #[(kS EK 2681),(kS EK 2682),(kS jV 2683),(kI 307),(kI 2),(kI 0),(kI 0),(kI 3),(kR 228),(.bool true),(kI 181),(kR 229),.none,.none,.none,(kR 230),(kI 2684),(kI 307),(kS jV 2685)]
def aas:=kF (.type "function") EK 86 3 (kS oy 2602) (kR 231)
def aat:=kF .none EL 87 0 .none .none
def aau:=kC #[(kS EL 2687),(kS EL 2688),(kS jV 2689),(kI 316),(kI 2),(kI 0),(kI 0),(kI 3),(kR 233),(.bool true),(kI 181),(kR 234),.none,.none,.none,(kR 235),(kI 2690),(kI 316),(kS jV 2691)]
def aav:=kF (.type "function") EL 87 3 (kS oy 2602) (kR 236)
def aaw:=kT #[(kS ag1 2696),(kS ag2 2697),(kS ag3 2698),(kS ag4 2699),(kS ag5 2700),(kS ag6 2701),(kS O4 2702)]
def aax:=kF .none EM 88 0 .none .none
def aay:=kC #[(kS EM 2693),(kS EM 2694),(kS jV 2695),(kI 318),(kI 4),(kI 0),(kI 0),(kI 3),(kR 238),(.bool true),(kI 181),(kR 239),.none,(kR 240),(kR 241),(kR 242),(kI 2703),(kI 318),(kS jV 2704)]
def aaz:=kF (.type "function") EM 88 3 (kS oy 2602) (kR 243)
def aaA:=kF .none EN 89 0 .none .none
def aaB:=kC #[(kS EN 2706),(kS EN 2707),(kS jV 2708),(kI 322),(kI 1),(kI 0),(kI 0),(kI 3),(kR 245),(.bool true),(kI 181),(kR 246),.none,.none,.none,(kR 247),(kI 2709),(kI 322),(kS jV 2710)]
def aaC:=kF (.type "function") EN 89 3 (kS oy 2602) (kR 248)
def iC:Heap:=⟨#[pJ P,pL P,pM P,aoB P,pN P,pO P,pQ P,pR P,pT P,pU P,mK P,cj,ahs,so,sq,cj,eN,vY,cj,vZ,v7,wb,cj,eN,wc,cj,we,wg,wi,cj,eN,wj,wk,wq,wt,wu,cj,eN,wx,wy,wz,wA,wC,cj,eN,wG,cj,wH,wI,wJ,cj,eN,wL,cj,wM,wN,wO,cj,eN,wQ,cj,wR,wU,wV,cj,eN,wW,cj,wX,wY,wZ,cj,eN,w0,cj,w7,w8,w9,cj,eN,xe,cj,xf,xg,xh,cj,eN,xi,cj,xj,xk,xm,yK,yL,yM,yN,cj,yO,yP,yQ P,sJ,cj,sL,cj,eN,uR,cj,uT,uU,uV,oD 0,oD 1,oD 2,oD 3,oD 4,oD 5,oD 6,oD 7,oD 8,oD 9,oD 10,oD 11,oD 12,oD 13,oD 14,oD 15,oD 16,oD 17,oD 18,oD 19,oD 20,oD 21,oD 22,oD 23,oD 24,oD 25,oD 26,oD 27,oD 28,oD 29,oD 30,oD 31,oD 32,oD 33,oD 34,oD 35,oD 36,oD 37,oD 38,cj,eN,CG,cj,CH,CJ,CK,O9 P,Pa P,Pb P,cj,eN,ZK,cj,ZL,ZM,ZN,cj,eN,ZO,cj,ZP,ZQ,ZR,cj,eN,ZS,cj,ZT,ZU,ZV,cj,eN,ZW,ZX,ZY,cj,eN,ZZ,Z0,Z1,cj,eN,Z2,Z3,Z4,cj,eN,Z5,cj,Z6,Z7,Z8,cj,eN,Z9,cj,aac,aad,aae,cj,eN,aaf,cj,aag,aah,aai,cj,eN,aaj,cj,aak,aal,aam,cj,eN,aan,aao,aap,cj,eN,aaq,aar,aas,cj,eN,aat,aau,aav,cj,eN,aaw,cj,aax,aay,aaz,cj,eN,aaA,aaB,aaC],(gw P).life⟩
def mN:Nat:=2712
def aaD:Pos:=⟨322,0,341,206⟩
def Sx(H:W5->Heap)(t:Nat)(w:World)(os:iu):ak:=⟨H w.params,#[],mD,t,os⟩
def E4(a b:Nat):List Stmt:=((behindTheImports pw).drop a).take (b - a)
theorem aoC(w:World)(os:iu):tgQ Ke pw w 11 (some (.ref 6)) 12 (Sx gw aeQ w os) (topStub pw)=some (Sx O6 O7 w os,⟨dnQ Ke ej,ej,ZJ,[topFrame default]⟩):=by rfl'
theorem aaE(w:World)(os:iu):SN Ke pw w 11 (some (.ref 6)) 1 1000 (Sx O6 O7 w os) (blockOf (behindTheImports pw) n8 ej ZJ [topFrame default])=some (.next,Sx Kf Kg w os,ej,Ug):=by rfl'
theorem aoD(w:World)(os:iu):SN Ke pw w 11 (some (.ref 6)) 1 100000 (Sx Kf Kg w os) (piecesOf (E4 0 18) n8 ej Ug [topFrame default])=some (.next,Sx Kh Ki w os,ej,Uh):=by rfl'
theorem aoE(b:Bool)(w:World)(os:iu):SN Ke pw (w.withFollow "special-get-raises" b) 11 (some (.ref 6)) 1 100000 (Sx Kh Ki (w.withFollow "special-get-raises" b) os) (piecesOf (E4 18 19) n8 ej Uh [topFrame default])=some (.next,Sx Kj Kk (w.withFollow "special-get-raises" b) os,ej,Ui):=by
 cases b
 ·rfl'
 ·rfl'
theorem aoF(w:World)(os:iu):SN Ke pw w 11 (some (.ref 6)) 1 100000 (Sx Kj Kk w os) (piecesOf (E4 19 20) n8 ej Ui [topFrame default])=some (.next,Sx mM jE w os,ej,Uj):=by rfl'
theorem aoG(w:World)(os:iu)(q:Pos):SN Ke pw w 11 (some (.ref 6)) 1 100000 (Sx Bt xo w os) (piecesOf (E4 21 50) n8 ej q [topFrame default])=some (.next,Sx Kl Km w os,ej,Uk):=by rfl'
theorem aoH(w:World)(os:iu):SN Ke pw w 11 (some (.ref 6)) 1 100000 (Sx Kl Km w os) (piecesOf (E4 50 73) n8 ej Uk [topFrame default])=some (.next,Sx Kn Ko w os,ej,Ul):=by rfl'
theorem aoI(b:Bool)(w:World)(os:iu):SN Ke pw (w.withFollow "special-get-raises" b) 11 (some (.ref 6)) 1 100000 (Sx Kn Ko (w.withFollow "special-get-raises" b) os) (piecesOf (E4 73 74) n8 ej Ul [topFrame default])=some (.next,Sx Kp Kq (w.withFollow "special-get-raises" b) os,ej,Um):=by
 cases b
 ·rfl'
 ·rfl'
theorem aoJ(w:World)(os:iu):SN Ke pw w 11 (some (.ref 6)) 1 100000 (Sx Kp Kq w os) (piecesOf (E4 74 90) n8 ej Um [topFrame default])=some (.next,Sx iC mN w os,ej,aaD):=by rfl'
end
end
theorem aht(w:World)(os:iu):Tt HZ (Sx gw aeQ w os) (Sx iC mN w os)=true:=by rfl'
theorem ahu(w:World)(os:iu):HZ.look (Sx iC mN w os).heap=Bs w:=by rfl'
theorem ahv(w:World)(os:iu):osQ (Sx iC mN w os)=openGood hZ jg:=by rfl'
theorem XS:Ke=treeTable:=PySem.W.Fast.te14364793385576792824.symm
theorem ahw:tgQ=topGo:=PySem.W.Fast.te15667345088766844465.symm
theorem ahx:SN=segRun:=PySem.W.Fast.te14374325043358763698.symm
theorem ahy:dnQ=denote:=PySem.W.Fast.te11892475500146522536.symm
theorem ahz(s):osQ s=osX s:=by unfold osQ osX;rw[<-PySem.W.Fast.te4187177175401517315]
abbrev qj:Option Value:=some (.ref 6)
abbrev Un:Str:="b3_exceptions"
def ahA:Stmt:=.Assign [.Name Un (OJ AB)] (.Dict (qv AB) (qw AB) (OL AB)) (OM AB)
theorem aaF:E4 20 21=[ahA]:=by rfl'
theorem ahB:Br (qv AB) (qw AB)=some L3:=by
 have:(Br (qv AB) (qw AB)).isSome=true:=by rfl'
 obtain⟨x,hx⟩:=aA.mp this;unfold L3;rw[hx];rfl
def asc:List Int->Bool
 |a::b::r=>decide (a<b)&&asc (b::r)
 |_=>true
theorem aaG:∀(l:List Int)(a:Int),asc (a::l)=true->∀x∈l,a<x:=by
 intro zx
 induction zx with
 |nil=>
  rintro _ _ x h;cases h
 |cons b r ih=>
  rintro a e x h;have e':(decide (a<b)&&asc (b::r))=true:=e;obtain⟨e1,e2⟩:=bO.mp e';have tI:a<b:=of_decide_eq_true e1;rcases aL.mp h with rfl|h
  ·exact tI
  ·exact Int.lt_trans tI (ih b e2 x h)
theorem Pc:∀(l:List Int)(a:Int),asc (a::l)=true->asc l=true
 |[],_,_=>rfl
 |_::_,_,e=>(bO.mp e).2
theorem Bw:∀l:List Int,asc l=true->l.Nodup:=by
 intro zx
 induction zx with
 |nil=>
  rintro _;exact mr
 |cons a l ih=>
  rintro e;exact cJ.mpr ⟨λh=>Int.lt_irrefl a (aaG l a e a h),ih (Pc l a e)⟩
theorem Pd:(hs L3).Nodup:=Bw _ (by rfl')
theorem Pe:L3.length=650:=by rfl'
theorem Pf:storeName n8 Un=nsSet mainNs Un:=by rfl'
theorem H4:(jd.final L3 jE).objs.length=39:=by rfl'
theorem ahC:(jd.final L3 jE).t+1=xo:=by rfl'
theorem Uo:(jd.final L3 jE).objs=(a0 39).map oD:=by
 apply alM;intro i;rw[rA];by_cases h:i<39
 ·rw[aee h,da (by rw[H4];exact h)]
  show _=some (oD i);unfold oD;have h':i<(jd.final L3 jE).objs.length:=by rw[H4];exact h
  have e:(jd.final L3 jE).objs.getD i default=(jd.final L3 jE).objs[i]:=by simp[gJ,h']
  exact congrArg some e.symm
 ·rw[nj (by rw[H4];omega),nj (by simpa using h)]
  rfl
theorem Up(P:W5):(kz (mM P) ((a0 39).map oD)).update mainNs (aed Un (if Un.cps.isEmpty then 0 else reduceHash (P.strHash Un.cps)) (.str Un (xo - 1)) (.ref (mM P).objs.size))=Bt P:=by rfl'
theorem Pg(w)(os:iu):CD w Un L3 (Sx mM jE w os)=Sx Bt xo w os:=by
 have ht:(jd.final L3 jE).t=xo - 1:=by rw[<-ahC];omega
 have h:=Up w.params;rw[<-Uo,<-ht]at h;unfold CD Sx;show(⟨_,_,_,_,_⟩:ak)=_;rw[show(⟨mM w.params,#[],mD,jE,os⟩:ak).heap=mM w.params from rfl,show(⟨mM w.params,#[],mD,jE,os⟩:ak).toks=jE from rfl,h,ahC]
theorem Ph(w)(os:iu):(b8 11 (Sx mM jE w os).heap.objs.size&&Nat.blt sysModules (Sx mM jE w os).heap.objs.size&&(jd.final L3 (Sx mM jE w os).toks).has&&yj Un (Sx mM jE w os).heap)=true:=by rfl'
theorem aaH(w)(os:iu)(q):∃n q',n<=3400*650+200/\segRun treeTable pw w 11 qj 1 n (Sx mM jE w os) (pieceOf ahA n8 ej q [topFrame default])=some (.next,Sx Bt xo w os,ej,q'):=by
 have r:=Ph w os;simp only[ay]at r;obtain⟨⟨⟨r1,r2⟩,r3⟩,r4⟩:=r;have g:=AA (p:=pw) (w:=w) (cb:=11) (ann:=qj) (c:=ej) (S:=Sx mM jE w os) (np:=OJ AB) (dp:=OL AB) (sp:=OM AB) ahB Pf (cA r1) (cA r2) Pd (by rw[Pe];decide) r3 r4;rw[Pg w os,Pe]at g;obtain⟨n,q',l,e⟩:=LX g q (topFrame default);exact⟨n,q',by omega,e⟩
theorem E5(a b)(h:a<=b):(behindTheImports pw).drop a=E4 a b++(behindTheImports pw).drop b:=by
 have:=(nk (b - a) ((behindTheImports pw).drop a)).symm;rw[LJ,show a+(b - a)=b by omega]at this;exact this
theorem Pj:(behindTheImports pw).drop 90=[]:=by rfl'
abbrev Rn(N:Nat)(w:World)(s:ak)(a:Nat)(q:Pos)(r:ak):Prop:=topRun treeTable pw w 11 qj N s (restOf ((behindTheImports pw).drop a) n8 ej q [topFrame default])=some r
theorem next(h:a<=b)(e:segRun treeTable pw w 11 qj 1 M s (piecesOf (E4 a b) n8 ej q [topFrame default])=some (.next,s',ej,q'))(k:Rn N w s' b q' r):Rn (M+N) w s a q r:=by
 unfold Rn;rw[E5 a b h];exact piece_app e k
theorem Pk{P:World->Prop}(h:∀(b:Bool)(w:World),P (w.withFollow "special-get-raises" b))(w:World):P w:=by
 have:=h (w.params.followText "special-get-raises") w;rwa[Ta]at this
theorem conv(h:SN Ke pw w 11 qj 1 n s t=some r):segRun treeTable pw w 11 qj 1 n s t=some r:=by
 rw[<-XS,<-ahx];exact h
theorem ahD(h:tgQ Ke pw w 11 qj n s t=some (s',⟨dnQ Ke c,c',p,B⟩)):topGo treeTable pw w 11 qj n s t=some (s',⟨denote treeTable c,c',p,B⟩):=by
 rw[<-XS,<-ahw,<-ahy];exact h
abbrev ahE:Nat:=12+(1000+(100000+(100000+(100000+((3400*650+200)+(100000+(100000+(100000+(100000+3)))))))))
theorem Uq(w:World)(os:iu):topRun treeTable pw w 11 qj ahE (Sx gw aeQ w os) (topStub pw)=some (Sx iC mN w os):=by
 have e9:Rn 3 w (Sx iC mN w os) 90 aaD (Sx iC mN w os):=by
  unfold Rn;rw[Pj];refine piece_nil ?_;rfl'
 have hp9:∀w,segRun treeTable pw w 11 qj 1 100000 (Sx Kp Kq w os) (piecesOf (E4 74 90) n8 ej Um [topFrame default])=some (.next,Sx iC mN w os,ej,aaD):=λw=>conv (aoJ w os)
 have hp8:∀w,segRun treeTable pw w 11 qj 1 100000 (Sx Kn Ko w os) (piecesOf (E4 73 74) n8 ej Ul [topFrame default])=some (.next,Sx Kp Kq w os,ej,Um):=Pk λb w=>conv (aoI b w os)
 have hp7:∀w,segRun treeTable pw w 11 qj 1 100000 (Sx Kl Km w os) (piecesOf (E4 50 73) n8 ej Uk [topFrame default])=some (.next,Sx Kn Ko w os,ej,Ul):=λw=>conv (aoH w os)
 have hp6:∀w q,segRun treeTable pw w 11 qj 1 100000 (Sx Bt xo w os) (piecesOf (E4 21 50) n8 ej q [topFrame default])=some (.next,Sx Kl Km w os,ej,Uk):=λw q=>conv (aoG w os q)
 have hp4:∀w,segRun treeTable pw w 11 qj 1 100000 (Sx Kj Kk w os) (piecesOf (E4 19 20) n8 ej Ui [topFrame default])=some (.next,Sx mM jE w os,ej,Uj):=λw=>conv (aoF w os)
 have hp3:∀w,segRun treeTable pw w 11 qj 1 100000 (Sx Kh Ki w os) (piecesOf (E4 18 19) n8 ej Uh [topFrame default])=some (.next,Sx Kj Kk w os,ej,Ui):=Pk λb w=>conv (aoE b w os)
 have hp2:∀w,segRun treeTable pw w 11 qj 1 100000 (Sx Kf Kg w os) (piecesOf (E4 0 18) n8 ej Ug [topFrame default])=some (.next,Sx Kh Ki w os,ej,Uh):=λw=>conv (aoD w os)
 obtain⟨n,q',ln,e5⟩:=aaH w os Uj;have k8:=next (by omega) (hp9 w) e9
 have k7:=next (by omega) (hp8 w) k8
 have k6:=next (by omega) (hp7 w) k7
 have k5:Rn _ w (Sx Bt xo w os) 21 q' (Sx iC mN w os):=next (by omega) (hp6 w q') k6
 have k4:Rn ((3400*650+200)+(100000+(100000+(100000+(100000+3))))) w (Sx mM jE w os) 20 Uj (Sx iC mN w os):=by
  have:=piece_cons e5 k5;have m:=topRun_mono (3400*650+200 - n) _ _ _ _ this;unfold Rn;rw[E5 20 21 (by omega),aaF];rw[show n+(100000+(100000+(100000+(100000+3))))+(3400*650+200 - n)=(3400*650+200)+(100000+(100000+(100000+(100000+3))))by omega]at m;exact m
 have k3:=next (by omega) (hp4 w) k4
 have k2:=next (by omega) (hp3 w) k3
 have k1:=next (by omega) (hp2 w) k2
 have hb:segRun treeTable pw w 11 qj 1 1000 (Sx O6 O7 w os) (blockOf (behindTheImports pw) n8 ej ZJ [topFrame default])=some (.next,Sx Kf Kg w os,ej,Ug):=conv (aaE w os)
 exact go_top (ahD (aoC w os)) (piece_block hb k1)
end Internal
namespace Internal.Q
def aaI:(v:Value)->Option {a:Addr // v=.ref a}
 |.ref a=>some ⟨a,rfl⟩
 |_=>none
def aoL:(v:Value)->Option {x:Str×Tok // v=.str x.1 x.2}
 |.str f t=>some ⟨(f,t),rfl⟩
 |_=>none
def ahF:(v:Value)->Option {x:Int×Tok // v=.int x.1 x.2}
 |.int f t=>some ⟨(f,t),rfl⟩
 |_=>none
def ahG:(v:Value)->Option {x:Bool // v=.bool x}
 |.bool b=>some ⟨b,rfl⟩
 |_=>none
def aoM:(v:Value)->Option {x:String // v=.type x}
 |.type n=>some ⟨n,rfl⟩
 |_=>none
def aoN:(v:Value)->Option {_x:Unit // v=.none}
 |.none=>some ⟨(),rfl⟩
 |_=>none
def aoO:(d:Data)->Option {x:ky // d=.func x}
 |.func f=>some ⟨f,rfl⟩
 |_=>none
def aaJ:(d:Data)->Option {x:Array Value // d=.fields x}
 |.fields f=>some ⟨f,rfl⟩
 |_=>none
def codeOf(h:Heap)(n:Str):Option (Addr×Addr):=(h.nsMap mainGlobals n).bind λv=>(aaI v).bind λa=>(h.get? a.1).bind λo=>(aoO o.data).bind λfd=>(aaI fd.1.code).bind λc=>
 (h.get? c.1).bind λoc=>(aaJ oc.data).bind λvs=>(aaI (gJ vs.1.toList 11 jD)).map λP=>(c.1,P.1)
def hdB(h:Heap)(c:Addr):Bool:=((h.get? c).bind λoc=>(aaJ oc.data).bind λvs=>(aoM oc.cls).map λn=>
 n.1==("code":String)&&((aoL (gJ vs.1.toList 18 jD)).isSome&&((ahF (gJ vs.1.toList 7 jD)).isSome&&((ahG (gJ vs.1.toList 9 jD)).isSome&&(ahF (gJ vs.1.toList 10 jD)).isSome)))).getD false
def H5(h:Heap)(P:Addr):Bool:=((h.get? P).bind λo=>(aaJ o.data).bind λps=>(aoN o.cls).map λ_=>ps.1.toList.isEmpty&&(o.dict.isNone&&o.slots.toList.isEmpty)).getD false
def Ur(h:Heap)(n:Str):Bool:=((codeOf h n).map λx=> !(cy x.1 x.2)&&(hdB h x.1&&H5 h x.2)).getD false
def E6(h:Heap):Bool:=Ur h "_int2digits"&&(Ur h "_digits2int"&&((codeOf h "_int2digits").bind λx=>(codeOf h "_digits2int").map λy=> !(cy x.2 y.2)).getD false)
theorem ahH(P:W5):E6 (iC P)=true:=by rfl'
end Internal.Q
namespace Internal
section
set_option genInjectivity true in
set_option genSizeOf true in
inductive D where
 |Kr|none|bool (b:Bool)|int (i:Int)|aR (x:UInt64)|str (s:Str)
 |tup (l:List D)|lst (l:List D)|om (a b c:Int)
abbrev Kept(F:Addr->Prop)(h h':Heap):Prop:=∀b o,¬F b->h.get? b=some o->h'.get? b=some o
abbrev bU(h h':Heap):Prop:=∀b o,h.get? b=some o->h'.get? b=some o
section
variable{h h':Heap}{a:Addr}{F:Addr->Prop}
theorem nG{o:Obj}{P:Prop}(e:h.get? a=none)(q:h.get? a=some o):P:=nomatch e.symm.trans q
theorem nS{P:Prop}(e:h.get? a=none)(q:(h.get? a).isSome=true):P:=nomatch (congrArg qr e).symm.trans q
theorem sS(e:h.get? a=some o):(h.get? a).isSome=true:=congrArg qr e
theorem Us(k:bU h h')(e:h'.get? a=none):h.get? a=none:=by
 cases q:h.get? a with
 |none=>rfl
 |some o=>exact nG e (k a o q)
theorem kdS(k:Kept F h h')(n:¬F a)(e:(h.get? a).isSome=true):(h'.get? a).isSome=true:=
 by obtain⟨o,q⟩:=aA.mp e;exact sS (k a o n q)
theorem kpS(k:bU h h')(e:(h.get? a).isSome=true):(h'.get? a).isSome=true:=
 by obtain⟨o,q⟩:=aA.mp e;exact sS (k a o q)
end
mutual
def bT (h:Heap) (F:Addr->Prop):D->Value->Prop
 |.Kr,_=>False
 |.none,v=>v=.none
 |.bool b,v=>v=.bool b
 |.int i,v=>∃t,v=.int i t
 |.aR x,v=>∃t,v=.float x t/\t≠0
 |.str s,v=>∃t,v=.str s t
 |.tup ds,v=>∃a vs n,v=.ref a/\¬F a/\IsT h a vs.toArray n/\aZ h F ds vs
 |.lst ds,v=>∃a vs n,v=.ref a/\¬F a/\IsL h a vs.toArray n/\aZ h F ds vs
 |.om a b c,v=>∃r t u w,v=.ref r/\¬F r/\J0 h r a b c t u w
def aZ (h:Heap) (F:Addr->Prop):List D->List Value->Prop
 |[],vs=>vs=[]
 |d::ds,vs=>∃v r,vs=v::r/\bT h F d v/\aZ h F ds r
end
section
variable{h:Heap}{F:Addr->Prop}
theorem bT.int(x:bT h F (.int i) v):∃t,v=.int i t:=x
theorem bT.aR(x:bT h F (.aR i) v):∃t,v=.float i t/\t≠0:=x
theorem bT.str(x:bT h F (.str i) v):∃t,v=.str i t:=x
theorem jW:bT h F (.int i) (.int i t):=(⟨t,rfl⟩:∃u,Value.int i t=.int i u)
theorem yk:bT h F (.str i) (.str i t):=(⟨t,rfl⟩:∃u,Value.str i t=.str i u)
theorem CL(ht:t≠0):bT h F (.aR i) (.float i t):=(⟨t,rfl,ht⟩:∃u,Value.float i t=.float i u/\u≠0)
theorem qx:bT h F (.bool i) (.bool i):=(rfl:Value.bool i=.bool i)
theorem E7:bT h F .none .none:=(rfl:jD=.none)
inductive RL(h:Heap)(F:Addr->Prop)(ds:List D)(v:Value):Prop
 |mk (a:Addr) (vs:List Value) (n:Nat) (e:v=.ref a) (nf:¬F a) (l:IsL h a vs.toArray n) (r:aZ h F ds vs)
inductive RT(h:Heap)(F:Addr->Prop)(ds:List D)(v:Value):Prop
 |mk (a:Addr) (vs:List Value) (n:Nat) (e:v=.ref a) (nf:¬F a) (l:IsT h a vs.toArray n) (r:aZ h F ds vs)
inductive RR(h:Heap)(F:Addr->Prop)(a b c:Int)(v:Value):Prop
 |mk (r:Addr) (t u w:Tok) (e:v=.ref r) (nf:¬F r) (g:J0 h r a b c t u w)
theorem bT.lst(x:bT h F (.lst ds) v):RL h F ds v:=by obtain⟨a,b,c,d,e,f,g⟩:=(x:∃a vs n,v=.ref a/\¬F a/\IsL h a vs.toArray n/\aZ h F ds vs);exact⟨a,b,c,d,e,f,g⟩
theorem bT.tup(x:bT h F (.tup ds) v):RT h F ds v:=by obtain⟨a,b,c,d,e,f,g⟩:=(x:∃a vs n,v=.ref a/\¬F a/\IsT h a vs.toArray n/\aZ h F ds vs);exact⟨a,b,c,d,e,f,g⟩
theorem bT.om(x:bT h F (.om a b c) v):RR h F a b c v:=by obtain⟨a,b,c,d,e,f,g⟩:=(x:∃r t u w,v=.ref r/\¬F r/\J0 h r a b c t u w);exact⟨a,b,c,d,e,f,g⟩
theorem jX(nf:¬F a)(l:IsL h a vs.toArray n)(r:aZ h F ds vs):bT h F (.lst ds) (.ref a):=(⟨a,vs,n,rfl,nf,l,r⟩:∃b vs n,ix a=.ref b/\¬F b/\IsL h b vs.toArray n/\aZ h F ds vs)
theorem CM(nf:¬F a)(l:IsT h a vs.toArray n)(r:aZ h F ds vs):bT h F (.tup ds) (.ref a):=(⟨a,vs,n,rfl,nf,l,r⟩:∃b vs n,ix a=.ref b/\¬F b/\IsT h b vs.toArray n/\aZ h F ds vs)
theorem yl(nf:¬F r)(g:J0 h r a b c t u w):bT h F (.om a b c) (.ref r):=(⟨r,t,u,w,rfl,nf,g⟩:∃q t u w,ix r=.ref q/\¬F q/\J0 h q a b c t u w)
theorem bT.bool(x:bT h F (.bool b) v):v=.bool b:=x
theorem bT.none(x:bT h F .none v):v=.none:=x
theorem aZ.nil:aZ h F [] []:=(rfl:([]:List Value)=[])
theorem aZ.qy(x:aZ h F [] vs):vs=[]:=x
theorem aZ.cons{d ds v vs}(a:bT h F d v)(b:aZ h F ds vs):aZ h F (d::ds) (v::vs):=(⟨v,vs,rfl,a,b⟩:∃w r,v::vs=w::r/\bT h F d w/\aZ h F ds r)
theorem aZ.gk(x:aZ h F (d::ds) vs):∃v r,vs=v::r/\bT h F d v/\aZ h F ds r:=x
theorem aZ.one{d v}(a:bT h F d v):aZ h F [d] [v]:=.cons a .nil
end
theorem nFk{h:Heap}{F F':Addr->Prop}{a:Addr}{o:Obj}(hF:∀b,F' b->F b\/h.get? b=none)(na:¬F a)(g:h.get? a=some o):¬F' a:=λq=>(hF a q).elim na λe=>nG e g
theorem bT.gen{F F':Addr->Prop}{P:D->Prop}(pt:∀l,P (.tup l)->∀d,d∈l->P d)(pl:∀l,P (.lst l)->∀d,d∈l->P d)(k:∀d b o,P d->bT h F d (.ref b)->¬F b->h.get? b=some o->¬F' b/\h'.get? b=some o)(d:D):∀(v:Value),P d->bT h F d v->bT h' F' d v:=by
 refine D.rec (motive_1:=λd=>∀v,P d->bT h F d v->bT h' F' d v) (motive_2:=λds=>∀vs,(∀d,d∈ds->P d)->aZ h F ds vs->aZ h' F' ds vs) (λ_ _ x=>x) (λ_ _ x=>x) (λ_ _ _ x=>x) (λ_ _ _ x=>x) (λ_ _ _ x=>x) (λ_ _ _ x=>x)
  (λl ih v p x=>?_) (λl ih v p x=>?_) (λa b c v p x=>?_) (λ_ _ x=>x) (λd ds i1 i2 vs p x=>?_) d
 ·obtain⟨a,vs,n,rfl,na,g,rs⟩:=x.tup
  have q:=k _ a _ p x na g;exact CM q.1 q.2 (ih vs (pt l p) rs)
 ·obtain⟨a,vs,n,rfl,na,g,rs⟩:=x.lst
  have q:=k _ a _ p x na g;exact jX q.1 q.2 (ih vs (pl l p) rs)
 ·obtain⟨r,t,u,w,rfl,na,g⟩:=x.om
  have q:=k _ r _ p x na g;exact yl q.1 q.2
 ·obtain⟨v,r,rfl,a,b⟩:=x.gk
  exact .cons (i1 v (p d (ax ..)) a) (i2 r (λd q=>p d (av _ q)) b)
theorem bT.kept(k:Kept F h h')(hF:∀b,F' b->F b\/h.get? b=Option.none)(d:D)(v:Value):bT h F d v->bT h' F' d v:=
 bT.gen (P:=λ_=>True) (λ_ _ _ _=>trivial) (λ_ _ _ _=>trivial) (λ_ b o _ _ nb g=>⟨nFk hF nb g,k b o nb g⟩) d v trivial
theorem aZ.kept(k:Kept F h h')(hF:∀b,F' b->F b\/h.get? b=none)(ds):∀(vs:List Value),aZ h F ds vs->aZ h' F' ds vs:=by
 induction ds with
 |nil=>exactλ_ x=>x
 |cons d ds ih=>
  intro vs x;obtain⟨v,r,rfl,a,b⟩:=x.gk;exact .cons (bT.kept k hF d v a) (ih r b)
section
theorem bT.keeps(k:bU h h')(x:bT h F d v):bT h' F d v:=
 bT.kept (F:=F) (λb o _ e=>k b o e) (λ_ q=>.inl q) d v x
theorem aZ.keeps(k:bU h h')(x:aZ h F d v):aZ h' F d v:=
 aZ.kept (F:=F) (λb o _ e=>k b o e) (λ_ q=>.inl q) d v x
theorem bT.less(hF:∀b,F' b->F b\/h.get? b=Option.none)(x:bT h F d v):bT h F' d v:=
 bT.kept (F:=F) (λ_ _ _ e=>e) hF d v x
theorem aZ.less(hF:∀b,F' b->F b\/h.get? b=none)(x:aZ h F d v):aZ h F' d v:=
 aZ.kept (F:=F) (λ_ _ _ e=>e) hF d v x
theorem aZ.length:∀{vs:List Value},aZ h F ds vs->vs.length=ds.length:=by
 induction ds with
 |nil=>exactλx=>congrArg rz x.qy
 |cons d ds ih=>
  intro vs x;obtain⟨v,r,rfl,a,b⟩:=x.gk;exact congrArg mE (ih b)
theorem aZ.append(x:aZ h F ds vs)(y:aZ h F es ws):aZ h F (ds++es) (vs++ws):=by
 induction ds generalizing vs with
 |nil=>obtain rfl:=x.qy;exact y
 |cons d ds ih=>
  obtain⟨v,r,rfl,a,b⟩:=x.gk;exact .cons a (ih b)
theorem aZ.get:∀{vs:List Value}{i:Nat},aZ h F ds vs->vs[i]? =some v->∃d,ds[i]? =some d/\bT h F d v:=by
 induction ds with
 |nil=>intro vs i x e;obtain rfl:=x.qy;exact nomatch e
 |cons d ds ih=>
  intro vs i x e;obtain⟨w,r,rfl,a,b⟩:=x.gk;cases i with
  |zero=>exact⟨d,rfl,ai e▸a⟩
  |succ i=>exact ih b e
theorem aZ.get'{h:Heap}{F:Addr->Prop}{ds:List D}{vs:List Value}{i:Nat}{d:D}(x:aZ h F ds vs)(e:ds[i]? =some d):∃v,vs[i]? =some v/\bT h F d v:=by
 have hl:=x.length;have hi:i<vs.length:=by
  rw[hl];exact(ki.mp e).1
 obtain⟨d',h1,h2⟩:=x.get (da hi);rw[e]at h1;cases h1;exact⟨_,da hi,h2⟩
theorem aZ.take:∀{vs:List Value}(n:Nat),aZ h F ds vs->aZ h F (ds.take n) (vs.take n):=by
 induction ds with
 |nil=>intro vs n x;obtain rfl:=x.qy;cases n<;>exact .nil
 |cons d ds ih=>
  intro vs n x;obtain⟨w,r,rfl,a,b⟩:=x.gk;cases n with
  |zero=>exact .nil
  |succ n=>exact .cons a (ih n b)
theorem aZ.drop:∀{vs:List Value}(n:Nat),aZ h F ds vs->aZ h F (ds.drop n) (vs.drop n):=by
 induction ds with
 |nil=>intro vs n x;obtain rfl:=x.qy;cases n<;>exact .nil
 |cons d ds ih=>
  intro vs n x;obtain⟨w,r,rfl,a,b⟩:=x.gk;cases n with
  |zero=>exact .cons a b
  |succ n=>exact ih n b
theorem aZ.reverse:∀{vs:List Value},aZ h F ds vs->aZ h F ds.reverse vs.reverse:=by
 induction ds with
 |nil=>intro vs x;obtain rfl:=x.qy;exact .nil
 |cons d ds ih=>
  intro vs x;obtain⟨w,r,rfl,a,b⟩:=x.gk;rw[gZ,gZ];exact(ih b).append (.one a)
theorem aZ.set(n)(x:aZ h F ds vs)(y:bT h F d v):aZ h F (ds.set n d) (vs.set n v):=by
 induction ds generalizing vs n with
 |nil=>obtain rfl:=x.qy;exact .nil
 |cons e ds ih=>
  obtain⟨w,r,rfl,a,b⟩:=x.gk;cases n with
  |zero=>exact .cons y b
  |succ n=>exact .cons a (ih n b)
section
variable{h:Heap}{F:Addr->Prop}
def Ut:Option Obj->Nat
 |some o=>match o.cls with
  |.type n=>if n="tuple" then 6 else if n="list" then 7 else 8
  |_=>0
 |none=>0
def aoR(h:Heap):Value->Nat
 |.none=>1|.bool _=>2|.int _ _=>3|.float _ _=>4|.str _ _=>5|.ref a=>Ut (h.get? a)|_=>0
theorem bT.tag(x:bT h F d v):aoR h v=d.ctorIdx:=by
 cases d with
 |Kr=>exact(x:False).elim
 |none=>exact x.none▸rfl
 |bool b=>exact x.bool▸rfl
 |int i=>obtain⟨_,e⟩:=x.int;exact e▸rfl
 |aR i=>obtain⟨_,e,_⟩:=x.aR;exact e▸rfl
 |str i=>obtain⟨_,e⟩:=x.str;exact e▸rfl
 |tup l=>obtain⟨a,_,_,e,_,g,_⟩:=x.tup;exact e▸(congrArg Ut (show h.get? a=_ from g)).trans rfl
 |lst l=>obtain⟨a,_,_,e,_,g,_⟩:=x.lst;exact e▸(congrArg Ut (show h.get? a=_ from g)).trans rfl
 |om _ _ _=>obtain⟨a,_,_,_,e,_,g⟩:=x.om;exact e▸(congrArg Ut (show h.get? a=_ from g)).trans rfl
end
theorem Ks{h:Heap}{a b:Addr}{c c':Value}{vs lr:List Value}{n n':Nat}(e:ix a=.ref b)(g:h.get? a=some {cls:=c,dict:=none,data:=.seq vs.toArray n,slots:= #[]})(g':h.get? b=some {cls:=c',dict:=none,data:=.seq lr.toArray n',slots:= #[]}):vs=lr:=
 congrArg Array.toList (Data.seq.inj (congrArg Obj.data (ai (g.symm.trans ((congrArg h.get? (mu e)).trans g'))))).1
section
variable{d:D}
theorem ahI(e:d.ctorIdx=1):d=.none:=D.none.elim (motive_1:=λd=>d=.none) d e rfl
theorem aoS(e:d.ctorIdx=2):∃b,d=.bool b:=D.bool.elim (motive_1:=λd=>∃b,d=.bool b) d e λb=>⟨b,rfl⟩
theorem aoT(e:d.ctorIdx=3):∃b,d=.int b:=D.int.elim (motive_1:=λd=>∃b,d=.int b) d e λb=>⟨b,rfl⟩
theorem aoU(e:d.ctorIdx=4):∃b,d=.aR b:=D.aR.elim (motive_1:=λd=>∃b,d=.aR b) d e λb=>⟨b,rfl⟩
theorem aoV(e:d.ctorIdx=5):∃b,d=.str b:=D.str.elim (motive_1:=λd=>∃b,d=.str b) d e λb=>⟨b,rfl⟩
theorem aoW(e:d.ctorIdx=6):∃b,d=.tup b:=D.tup.elim (motive_1:=λd=>∃b,d=.tup b) d e λb=>⟨b,rfl⟩
theorem ahJ(e:d.ctorIdx=7):∃b,d=.lst b:=D.lst.elim (motive_1:=λd=>∃b,d=.lst b) d e λb=>⟨b,rfl⟩
theorem aoX(e:d.ctorIdx=8):∃a b c,d=.om a b c:=D.om.elim (motive_1:=λd=>∃a b c,d=.om a b c) d e λa b c=>⟨a,b,c,rfl⟩
end
def qB(d:D):Option {x:Bool // d=.bool x}:=if h:d.ctorIdx=2 then D.bool.elim (motive_1:=λd=>Option {x:Bool // d=.bool x}) d h λx=>some ⟨x,rfl⟩else none
def qI(d:D):Option {x:Int // d=.int x}:=if h:d.ctorIdx=3 then D.int.elim (motive_1:=λd=>Option {x:Int // d=.int x}) d h λx=>some ⟨x,rfl⟩else none
def qF(d:D):Option {x:UInt64 // d=.aR x}:=if h:d.ctorIdx=4 then D.aR.elim (motive_1:=λd=>Option {x:UInt64 // d=.aR x}) d h λx=>some ⟨x,rfl⟩else none
def qS(d:D):Option {x:Str // d=.str x}:=if h:d.ctorIdx=5 then D.str.elim (motive_1:=λd=>Option {x:Str // d=.str x}) d h λx=>some ⟨x,rfl⟩else none
def qT(d:D):Option {x:List D // d=.tup x}:=if h:d.ctorIdx=6 then D.tup.elim (motive_1:=λd=>Option {x:List D // d=.tup x}) d h λx=>some ⟨x,rfl⟩else none
def qR(d:D):Option {x:Int×Int×Int // d=.om x.1 x.2.1 x.2.2}:=if h:d.ctorIdx=8 then D.om.elim (motive_1:=λd=>Option {x:Int×Int×Int // d=.om x.1 x.2.1 x.2.2}) d h λa b c=>some ⟨(a,b,c),rfl⟩else none
def qL(d:D):Option {x:List D // d=.lst x}:=if h:d.ctorIdx=7 then D.lst.elim (motive_1:=λd=>Option {x:List D // d=.lst x}) d h λx=>some ⟨x,rfl⟩else none
section
variable{h:Heap}{F:Addr->Prop}{d:D}{v:Value}
theorem bT.b(r:bT h F d v)(x:{x:Bool // d=.bool x}):v=.bool x.1:=(x.2▸r:bT h F (.bool x.1) v)
theorem bT.i(r:bT h F d v)(x:{x:Int // d=.int x}):∃t,v=.int x.1 t:=(x.2▸r:bT h F (.int x.1) v)
theorem bT.f(r:bT h F d v)(x:{x:UInt64 // d=.aR x}):∃t,v=.float x.1 t/\t≠0:=(x.2▸r:bT h F (.aR x.1) v)
theorem bT.s(r:bT h F d v)(x:{x:Str // d=.str x}):∃t,v=.str x.1 t:=(x.2▸r:bT h F (.str x.1) v)
theorem bT.t(r:bT h F d v)(x:{x:List D // d=.tup x}):RT h F x.1 v:=(x.2▸r:bT h F (.tup x.1) v).tup
theorem bT.r(r:bT h F d v)(x:{x:Int×Int×Int // d=.om x.1 x.2.1 x.2.2}):RR h F x.1.1 x.1.2.1 x.1.2.2 v:=(x.2▸r:bT h F (.om x.1.1 x.1.2.1 x.1.2.2) v).om
theorem bT.l(r:bT h F d v)(x:{x:List D // d=.lst x}):RL h F x.1 v:=(x.2▸r:bT h F (.lst x.1) v).lst
end
theorem Uu{t u w t' u' w'}(e:ix a=.ref b)(g:J0 h a p q r t u w)(g':J0 h b p' q' r' t' u' w'):D.om p q r=.om p' q' r':=by
 have x:=congrArg Array.toList (Aj (congrArg Obj.data (ai (g.symm.trans ((congrArg h.get? (mu e)).trans g')))));have y:=(d6 x).2;rw[(pX (d6 x).1).1,(pX (d6 y).1).1,(pX (d6 (d6 y).2).1).1]
theorem bT.inj{h:Heap}{F:Addr->Prop}{d d':D}{v:Value}(x:bT h F d v)(y:bT h F d' v):d=d':=by
 revert v d';refine D.rec (motive_1:=λd=>∀{d' v},bT h F d v->bT h F d' v->d=d') (motive_2:=λds=>∀{xY vs},aZ h F ds vs->aZ h F xY vs->ds=xY) (λ{d' v} x _=>(x:False).elim) (λ{d' v} x y=>(ahI (y.tag.symm.trans x.tag)).symm) (λb d' v x y=>?_) (λb d' v x y=>?_) (λb d' v x y=>?_) (λb d' v x y=>?_)
  (λl ih d' v x y=>?_) (λl ih d' v x y=>?_) (λa b c d' v x y=>?_) (λ{xY vs} x y=>?_) (λe es i1 i2 xY vs x y=>?_) d
 ·obtain⟨_,rfl⟩:=aoS (y.tag.symm.trans x.tag);exact congrArg D.bool (Value.bool.inj (x.bool.symm.trans y.bool))
 ·obtain⟨_,rfl⟩:=aoT (y.tag.symm.trans x.tag);obtain⟨_,e⟩:=x.int;obtain⟨_,e'⟩:=y.int;exact congrArg D.int (pX (e.symm.trans e')).1
 ·obtain⟨_,rfl⟩:=aoU (y.tag.symm.trans x.tag);obtain⟨_,e,_⟩:=x.aR;obtain⟨_,e',_⟩:=y.aR;exact congrArg D.aR (Value.float.inj (e.symm.trans e')).1
 ·obtain⟨_,rfl⟩:=aoV (y.tag.symm.trans x.tag);obtain⟨_,e⟩:=x.str;obtain⟨_,e'⟩:=y.str;exact congrArg D.str (aeR (e.symm.trans e')).1
 ·obtain⟨_,rfl⟩:=aoW (y.tag.symm.trans x.tag)
  obtain⟨a,vs,n,e,_,i,r⟩:=x.tup;obtain⟨a',lr,n',e',_,i',r'⟩:=y.tup;exact congrArg D.tup (ih r (Ks (e.symm.trans e') i i'▸r'))
 ·obtain⟨_,rfl⟩:=ahJ (y.tag.symm.trans x.tag)
  obtain⟨a,vs,n,e,_,i,r⟩:=x.lst;obtain⟨a',lr,n',e',_,i',r'⟩:=y.lst;exact congrArg D.lst (ih r (Ks (e.symm.trans e') i i'▸r'))
 ·obtain⟨_,_,_,rfl⟩:=aoX (y.tag.symm.trans x.tag)
  obtain⟨r,t,u,w,e,_,i⟩:=x.om;obtain⟨r',t',u',w',e',_,i'⟩:=y.om;exact Uu (e.symm.trans e') i i'
 ·cases xY with
  |nil=>rfl
  |cons d ds=>obtain⟨_,_,q,_⟩:=y.gk;exact nomatch x.qy.symm.trans q
 ·cases xY with
  |nil=>obtain⟨_,_,q,_⟩:=x.gk;exact nomatch y.qy.symm.trans q
  |cons d' xY=>
   obtain⟨v,r,e,a,b⟩:=x.gk;obtain⟨v',r',q,a',b'⟩:=y.gk;obtain⟨rfl,rfl⟩:=d6 (e.symm.trans q);rw[i1 a a',i2 b b']
def iJ(F:Addr->Prop)(s:ak)(d:D)(v:Value)(s':ak):Prop:=Keeps s s'/\bT s'.heap F d v
theorem gp(h:∀Q':α->ak->Prop,(∀a s',Q a s'->Q' a s')->wpAny M A t Q' E s):wpAny M A t Q E s:=h Q λ_ _ q=>q
theorem Keeps.rfl':Keeps s s:=⟨s.heap,s.toks,rfl,λ_ _ e=>e⟩
theorem Keeps.Uv(n):Keeps s {s with toks:=n}:=⟨s.heap,n,rfl,λ_ _ e=>e⟩
theorem Keeps.trans'(k:Keeps s s')(k':Keeps s' Uw):Keeps s Uw:=
 by obtain⟨_,_,e,k⟩:=k;obtain⟨h',t',e',k'⟩:=k';exact⟨h',t',e'.trans (e▸rfl),λb o q=>k' b o (e▸k b o q)⟩
theorem Keeps.all(k:Keeps s s'):bU s.heap s'.heap:=by
 obtain⟨h,t,rfl,k⟩:=k;exact k
theorem Keeps.push(o):Keeps s {s with heap:=s.heap.push o}:=⟨_,s.toks,rfl,λ_ _ e=>bj _ e⟩
theorem Keeps.E8(o)(n):Keeps s {s with heap:=s.heap.push o,toks:=n}:=⟨_,n,rfl,λ_ _ e=>bj _ e⟩
abbrev jy(F:Addr->Prop)(h:Heap):Prop:=∀b,F b->(h.get? b).isSome=true
theorem nN(lo:jy F h):¬F h.objs.size:=λq=>by
 have e:=lo _ q;cases g:h.get? h.objs.size with
 |none=>rw[g]at e;cases e
 |some o=>exact fg _ (dT g)
theorem oz(lo:jy F h)(x:aZ h F ds vs):
 bT (h.push {cls:=.type "list",data:=.seq vs.toArray}) F (.lst ds) (.ref h.objs.size):=by
 exact jX (nN lo) (IsL.new h vs.toArray) (x.keeps λ_ _ e=>bj _ e)
theorem E9(lo:jy F h)(x:aZ h F ds vs):
 bT (h.push {cls:=.type "tuple",data:=.seq vs.toArray}) F (.tup ds) (.ref h.objs.size):=by
 exact CM (nN lo) (IsT.new h vs.toArray) (x.keeps λ_ _ e=>bj _ e)
theorem jy.keeps(lo:jy F h)(k:bU h h'):jy F h':=λb q=>by
 obtain⟨o,e⟩:=aA.mp (lo b q);rw[k b o e];rfl
end
end
section
@[irreducible] def sm(i:Int):Bool:=decide (i.natAbs<2^1000)
theorem Pl(h1: -(10^100)<=i)(h2:i<=10^100):sm i=true:=by
 have h:i.natAbs<=10^100:=by omega
 have h':(10:Nat)^100<2^1000:=by decide
 unfold sm;exact decide_eq_true (bx h h')
theorem Fb(h:sm i=true):i.natAbs<2^1000:=by unfold sm at h;exact of_decide_eq_true h
theorem ahK:(2:Nat)^1000<2^1023:=jN (by decide) (by decide)
theorem aaK(h:sm i=true):i.natAbs<2^1023:=bJ (Fb h) (bV ahK)
theorem ym(h:i.natAbs<2^n):bR i<=n:=by
 unfold bR;split
 ·exact dx _
 ·rename_i hz
  have hz:i≠0:=by simpa using hz
  have:=(aef (by omega:i.natAbs≠0)).mpr h;omega
theorem mulOk_of(ha:sm a=true)(hb:sm b=true):IntMulOk a b:=by
 have h1:=ym (Fb ha);have h2:=ym (Fb hb);unfold IntMulOk;have h3:¬((bR a:Int)+bR b>((2^27:Nat):Int)):=by omega
 have h4:Builtin.Int.intTooBig ((bR a:Int)+bR b)=false:=decide_eq_false h3;rw[h4,Bool.and_false];exact aJ
theorem aaL(hb:sm b=true):Builtin.divisionGoesByPylong a b=false:=by
 refine PyProof.noPylong_of_log2 ?_;by_cases hz:b.natAbs=0
 ·rw[hz];decide
 ·have:=(aef hz).mpr (Fb hb)
  omega
def dC:Nat:=1048576
theorem iQ:dC<=sizeLine:=by decide
def rep(n:Nat)(xs:List α):List α:=match n with
 |0=>[]
 |n+1=>xs++rep n xs
def o7(a b:Int):UInt64:=fM (decide (a<0) != decide (b<0)) a.natAbs b.natAbs
def H6(f:Int->Int->Option α)(a b:D):Option α:=(qI a).bind λi=>(qI b).bind λj=>f i.1 j.1
def SO(f:UInt64->UInt64->Option α)(a b:D):Option α:=(qF a).bind λi=>(qF b).bind λj=>f i.1 j.1
def Ux(f:UInt64->Int->Option α)(a b:D):Option α:=(qF a).bind λi=>(qI b).bind λj=>f i.1 j.1
def arS(f:Str->Str->Option α)(a b:D):Option α:=(qS a).bind λi=>(qS b).bind λj=>f i.1 j.1
def arL(f:List D->List D->Option α)(a b:D):Option α:=(qL a).bind λi=>(qL b).bind λj=>f i.1 j.1
def arT(f:List D->List D->Option α)(a b:D):Option α:=(qT a).bind λi=>(qT b).bind λj=>f i.1 j.1
def ao0(x y:Str):Option D:=if x.length+y.length<=dC then some (.str (x++y))else none
def ahL(a b:D):Option D:=(H6 (λi j=>some (.int (i+j))) a b).or ((SO (λx y=>some (.aR (iF x y))) a b).or ((arS ao0 a b).or
 ((arL (λx y=>if x.length+y.length<=dC then some (.lst (x++y))else none) a b).or (arT (λl k=>match l with
    |[]=>none
    |a::as=>match k with
     |[]=>none
     |b::bs=>if(a::as).length+(b::bs).length<=dC then some (.tup ((a::as)++(b::bs)))else none) a b))))
def XT(a b:D):Option D:=(H6 (λi j=>some (.int (i - j))) a b).or ((SO (λx y=>some (.aR (iG x y))) a b).or (Ux (λx j=>if sm j then some (.aR (iG x (gn j)))else none) a b))
def Pm(l:List D)(n:Int):Option D:=match l with
 |[]=>none
 |a::as=>if 0<=n/\n<=65536/\(a::as).length*n.toNat<=dC then some (.lst (rep n.toNat (a::as)))else none
def ahM(a b:D):Option D:=(H6 (λi j=>if sm i&&sm j then some (.int (i*j))else none) a b).or (((qI a).bind λi=>(qF b).bind λy=>if sm i.1 then some (.aR (iH (gn i.1) y.1))else none).or ((SO (λx y=>some (.aR (iH x y))) a b).or
 ((Ux (λx j=>if sm j then some (.aR (iH x (gn j)))else none) a b).or ((qL a).bind λl=>(qI b).bind λn=>Pm l.1 n.1))))
def ahN(a b:D):Option D:=(H6 (λa b=>if b≠0/\mL (o7 a b)=false then some (.aR (o7 a b))else none) a b).or (SO (λa b=>if ij b then none else some (.aR (kL a b))) a b)
def ahO(a b:D):Option D:=(H6 (λa b=>if b≠0 then some (.int (a.fmod b))else none) a b).or (SO (λa b=>if ij b then none else some (.aR (uA a b).snd)) a b)
def ahP(a b:Int):Option D:=if b≠0/\sm b=true then some (.int (a.fdiv b))else none
def ahQ(a n:Int):Option D:=if a.natAbs<18446744073709551616/\0<=n/\n<=100000 then some (.int (a^n.toNat))else none
def ahR(a n:Int):Option D:=if sm a=true/\0<=n/\n<=100000 then some (.int (a*2^n.toNat))else none
def ahS(a n:Int):Option D:=if 0<=n then some (.int (a.fdiv (2^n.toNat)))else none
def ahT(a b:Int):Option D:=some (.int (oS a b))
def az:se->D->D->Option D
 |.Add,a,b=>ahL a b
 |.Sub,a,b=>XT a b
 |.Mult,a,b=>ahM a b
 |.Div,a,b=>ahN a b
 |.FloorDiv,a,b=>H6 ahP a b
 |.Mod,a,b=>ahO a b
 |.Pow,a,b=>H6 ahQ a b
 |.LShift,a,b=>H6 ahR a b
 |.RShift,a,b=>H6 ahS a b
 |.BitXor,a,b=>H6 ahT a b
 |_,_,_=>none
theorem Ht{P:Prop}(e:false=true):P:=nomatch e
theorem Uy{α:Type}{c:Bool}{x d:α}(e:(bif c then some x else none)=some d):c=true/\x=d:=by
 cases c with
 |true=>exact⟨rfl,ai e⟩
 |false=>exact no e
theorem bh{α:Type}{c:Prop}[i:Decidable c]{x d:α}(e:(if c then some x else none)=some d):c/\x=d:=by
 cases i with
 |isTrue h=>exact⟨h,ai e⟩
 |isFalse h=>exact no e
theorem dy{α:Type}{c:Prop}[i:Decidable c]{x:Option α}{d:α}(e:(if c then x else none)=some d):c/\x=some d:=by
 cases i with
 |isTrue h=>exact⟨h,e⟩
 |isFalse h=>exact no e
theorem yn{α:Type}{c:Prop}[i:Decidable c]{x d:α}(e:(if c then none else some x)=some d):¬c/\x=d:=by
 cases i with
 |isTrue h=>exact no e
 |isFalse h=>exact⟨h,ai e⟩
section
variable{prog:bb}{w:World}{A:aE}{E:Value->ak->Prop}{s:ak}{F:Addr->Prop}
theorem mO:iJ F s (.int i) (.int i t) {s with toks:=n}:=⟨Keeps.Uv _,jW⟩
theorem yR(ht:1<=t):iJ F s (.aR i) (.float i t) {s with toks:=n}:=⟨Keeps.Uv _,CL (Nat.pos_iff_ne_zero.mp ht)⟩
theorem Fc:iJ F s (.str i) (.str i t) {s with toks:=n}:=⟨Keeps.Uv _,yk⟩
theorem XU:iJ F s (.bool i) (.bool i) {s with toks:=n}:=⟨Keeps.Uv _,qx⟩
theorem aaM(lo:jy F s.heap)(x:aZ s.heap F ds vs):
 iJ F s (.lst ds) (.ref s.heap.objs.size) {s with heap:=s.heap.push {cls:=.type "list",data:=.seq vs.toArray}}:=⟨Keeps.push _,oz lo x⟩
theorem ao1(lo:jy F s.heap)(x:aZ s.heap F ds vs):
 iJ F s (.tup ds) (.ref s.heap.objs.size) {s with heap:=s.heap.push {cls:=.type "tuple",data:=.seq vs.toArray}}:=⟨Keeps.push _,E9 lo x⟩
theorem aZ.rep(x:aZ h F ds vs)(n):aZ h F (Internal.rep n ds) (Internal.rep n vs):=by
 induction n with
 |zero=>exact .nil
 |succ n ih=>exact x.append ih
theorem foldl_rep(xs:Array α):∀(n:Nat)(acc:Array α),List.foldl (λx1 x2=>x1++x2) acc (bz n xs)=acc++(Internal.rep n xs.toList).toArray:=by
 intro zx
 induction zx with
 |zero=>
  rintro acc;simp[Internal.rep]
 |succ n ih=>
  rintro acc;rw[yB,jf,ih];apply Array.ext';simp[Internal.rep]
theorem ahU
(hl:IsL s.heap l items k)(hlo: -(2^63:Int)<=x)(hhi:x<2^63)(hsz:items.size*x.toNat<=2^24)
(h:Q (.ref s.heap.objs.size) {s with heap:=s.heap.push {cls:=.type "list",data:=.seq (List.foldl (λx1 x2=>x1++x2) #[] (bz (if items.isEmpty=true then 0 else x.toNat) items))}}):
 wpAny (model prog w) A (binaryOp .Mult (.ref l) (.int x u)) Q E s:=
 wpAny_binaryOp_repeat_ref (T:="list") (U:="int") (by decide) ⟨_,hl,rfl⟩ (λs'=>typeIs_int s' x u) noFill_list_mul F.fills_int_mul F.slot_int_rmul repeat_list F.slot_int_index.lookup
  (Hl F.slot_int_rmul (typeIs_int s x u) F.entry_int_rmul (F.args_int_rmul_2 _ _) (int___rmul___int_list x u l items k)
    ⟨hl,rfl,⟨_,hl,rfl⟩,Hl F.slot_list_mul ⟨_,hl,rfl⟩ F.entry_list_mul (F.args_list_mul_2 _ _)
      (AutoListH.list___mul___list_int_3 l items k x u (by simp[Builtin.List.listFitsIndex];omega) (by omega) (by simp[Cv,sizeLine];omega))
      ⟨hl,h⟩⟩)
theorem Kt{α:Type}{P:Value->Value->Prop}{f:Int->Int->Option α}{d:α}(k:∀i j t u,f i j=some d->P (.int i t) (.int j u))(ra:bT s.heap F a va)(rb:bT s.heap F b vb)(e:H6 f a b=some d):P va vb:=by
 obtain⟨i,_,e⟩:=aO e;obtain⟨j,_,e⟩:=aO e;obtain⟨t,h1⟩:=ra.i i;obtain⟨u,h2⟩:=rb.i j;exact h1▸h2▸k _ _ _ _ e
theorem SP{α:Type}{P:Value->Value->Prop}{f:UInt64->UInt64->Option α}{d:α}(k:∀i j t u,t≠0->u≠0->f i j=some d->P (.float i t) (.float j u))(ra:bT s.heap F a va)(rb:bT s.heap F b vb)(e:SO f a b=some d):P va vb:=by
 obtain⟨i,_,e⟩:=aO e;obtain⟨j,_,e⟩:=aO e;obtain⟨t,h1,q⟩:=ra.f i;obtain⟨u,h2,q2⟩:=rb.f j;exact h1▸h2▸k _ _ _ _ q q2 e
theorem fiE{α:Type}{P:Value->Value->Prop}{f:UInt64->Int->Option α}{d:α}(k:∀i j t u,f i j=some d->P (.float i t) (.int j u))(ra:bT s.heap F a va)(rb:bT s.heap F b vb)(e:Ux f a b=some d):P va vb:=by
 obtain⟨i,_,e⟩:=aO e;obtain⟨j,_,e⟩:=aO e;obtain⟨t,h1,_⟩:=ra.f i;obtain⟨u,h2⟩:=rb.i j;exact h1▸h2▸k _ _ _ _ e
theorem ssE{α:Type}{P:Value->Value->Prop}{f:Str->Str->Option α}{d:α}(k:∀i j t u,f i j=some d->P (.str i t) (.str j u))(ra:bT s.heap F a va)(rb:bT s.heap F b vb)(e:arS f a b=some d):P va vb:=by
 obtain⟨i,_,e⟩:=aO e;obtain⟨j,_,e⟩:=aO e;obtain⟨t,h1⟩:=ra.s i;obtain⟨u,h2⟩:=rb.s j;exact h1▸h2▸k _ _ _ _ e
theorem llE{α:Type}{P:Value->Value->Prop}{f:List D->List D->Option α}{d:α}(k:∀l l' a a' vs lr n n',IsL s.heap a vs.toArray n->IsL s.heap a' lr.toArray n'->aZ s.heap F l vs->aZ s.heap F l' lr->f l l'=some d->P (.ref a) (.ref a'))(ra:bT s.heap F a va)(rb:bT s.heap F b vb)(e:arL f a b=some d):P va vb:=by
 obtain⟨i,_,e⟩:=aO e;obtain⟨j,_,e⟩:=aO e;obtain⟨_,vs,n,h1,_,hl,hr⟩:=ra.l i;obtain⟨_,lr,n',h2,_,qq,qz⟩:=rb.l j;exact h1▸h2▸k _ _ _ _ _ _ _ _ hl qq hr qz e
theorem ttE{α:Type}{P:Value->Value->Prop}{f:List D->List D->Option α}{d:α}(k:∀l l' a a' vs lr n n',IsT s.heap a vs.toArray n->IsT s.heap a' lr.toArray n'->aZ s.heap F l vs->aZ s.heap F l' lr->f l l'=some d->P (.ref a) (.ref a'))(ra:bT s.heap F a va)(rb:bT s.heap F b vb)(e:arT f a b=some d):P va vb:=by
 obtain⟨i,_,e⟩:=aO e;obtain⟨j,_,e⟩:=aO e;obtain⟨_,vs,n,h1,_,hl,hr⟩:=ra.t i;obtain⟨_,lr,n',h2,_,qq,qz⟩:=rb.t j;exact h1▸h2▸k _ _ _ _ _ _ _ _ hl qq hr qz e
def mP(d:D):Bool:=cy d.ctorIdx 7
theorem uW(h:mP d=true):∃l,d=.lst l:=ahJ (el h)
def lH(s:ak)(v:Value):Prop:=∃a,v=.ref a/\s.heap.get? a=none
theorem lu(h:Heap):h.get? h.objs.size=none:=by
 cases e:h.get? h.objs.size with
 |none=>rfl
 |some o=>exact absurd (dT e) (fg _)
theorem CN(r:aZ h F (a::as) vs):¬vs.toArray.isEmpty=true:=by
 obtain⟨v,r,rfl,_,_⟩:=r.gk;exact aJ
theorem XW(hr:aZ h F l vs)(hq:aZ h F k ws)(e:l.length+k.length<=dC):vs.toArray.size+ws.toArray.size<=sizeLine:=by
 rw[bg,bg,hr.length,hq.length];exact ao e iQ
abbrev BS(prog:bb)(w:World)(A:aE)(E:Value->ak->Prop)(s:ak)(F:Addr->Prop)(op:se)(d:D)(va vb:Value):Prop:=wpAny (model prog w) A (binaryOp op va vb) (iJ F s d) E s
abbrev BF(prog:bb)(w:World)(A:aE)(E:Value->ak->Prop)(s:ak)(F:Addr->Prop)(d:D)(va vb:Value):Prop:=wpAny (model prog w) A (binaryOp .Add va vb) (λv s'=>iJ F s d v s'/\(mP d=true->lH s v)) E s
theorem H7(lo:jy F s.heap)(hl:IsT s.heap a vs.toArray n)(hk:IsT s.heap a' lr.toArray n')(hr:aZ s.heap F l vs)(hq:aZ s.heap F k lr)(e:(match l with
 |[]=>none
 |a::as=>match k with
  |[]=>none
  |b::bs=>if(a::as).length+(b::bs).length<=dC then some (D.tup ((a::as)++(b::bs)))else none)=some d):BF prog w A E s F d (.ref a) (.ref a'):=by
 cases l with
 |nil=>exact no e
 |cons x l=>
  cases k with
  |nil=>exact no e
  |cons y k=>
   obtain⟨h,rfl⟩:=bh e;refine PySem.P.add_tuple hl hk (CN hr) (CN hq) ?_ (XW hr hq h);rw[aeg];exact⟨ao1 lo (hr.append hq),Ht⟩
theorem H8(lo:jy F s.heap)(hl:IsL s.heap a vs.toArray n)(hk:IsL s.heap a' lr.toArray n')(hr:aZ s.heap F l vs)(hq:aZ s.heap F k lr)(h:l.length+k.length<=dC):BF prog w A E s F (.lst (l++k)) (.ref a) (.ref a'):=by
 refine PySem.P.add_list hl hk ?_ (XW hr hq h);rw[aeg];exact⟨aaM lo (hr.append hq),λ_=>⟨_,rfl,lu _⟩⟩
theorem Bx(ht:1<=s.toks)(lo:jy F s.heap)(ra:bT s.heap F a va)(rb:bT s.heap F b vb)(e:ahL a b=some d):BF prog w A E s F d va vb:=
 n7 e (Kt (λ_ _ _ _ e=>ai e▸PyProof.Rows.add_int ⟨mO,Ht⟩) ra rb) λe=>n7 e (SP (λ_ _ _ _ _ _ e=>ai e▸PyProof.Rows.add_float ⟨yR ht,Ht⟩) ra rb)
  λe=>n7 e (ssE (λ_ _ _ _ e=>(bh e).2▸PyProof.Rows.add_str (λ_ _=>⟨Fc,Ht⟩) (ao (bh e).1 iQ)) ra rb)
  λe=>n7 e (llE (λ_ _ _ _ _ _ _ _ hl qq hr qz e=>(bh e).2▸H8 lo hl qq hr qz (bh e).1) ra rb) (ttE (λ_ _ _ _ _ _ _ _ hl qq hr qz e=>H7 lo hl qq hr qz e) ra rb)
theorem H9(ht:1<=s.toks)(ra:bT s.heap F a va)(rb:bT s.heap F b vb)(e:XT a b=some d):BS prog w A E s F .Sub d va vb:=
 n7 e (Kt (λ_ _ _ _ e=>ai e▸PyProof.Rows.sub_int mO) ra rb) λe=>n7 e (SP (λ_ _ _ _ _ _ e=>ai e▸PyProof.Rows.sub_float (yR ht)) ra rb)
  (fiE (λ_ _ _ _ e=>(bh e).2▸PyProof.Rows.sub_fi_fits (aaK (bh e).1) (yR ht)) ra rb)
theorem Pn(lo:jy F s.heap)(hl:IsL s.heap a vs.toArray n)(hr:aZ s.heap F l vs)(e:Pm l i=some d):BS prog w A E s F .Mult d (.ref a) (.int i u):=by
 cases l with
 |nil=>exact no e
 |cons x l=>
  obtain⟨h,rfl⟩:=bh e;refine ahU hl (jb (by decide) h.1) (Int.lt_of_le_of_lt h.2.1 (by decide)) (by rw[bg,hr.length];exact ao h.2.2 (by decide)) ?_;rw[foldl_rep,if_neg (CN hr),pY];exact aaM lo (hr.rep _)
theorem Fd(ht:1<=s.toks)(ra:bT s.heap F a va)(rb:bT s.heap F b vb)(e:((qI a).bind λi=>(qF b).bind λy=>if sm i.1 then some (.aR (iH (gn i.1) y.1))else none)=some d):BS prog w A E s F .Mult d va vb:=by
 obtain⟨i,_,e⟩:=aO e;obtain⟨j,_,e⟩:=aO e;obtain⟨t,h1⟩:=ra.i i;obtain⟨u,h2,_⟩:=rb.f j;exact h1▸h2▸(bh e).2▸PyProof.Rows.mul_if_fits (aaK (bh e).1) (yR ht)
theorem Fe(lo:jy F s.heap)(ra:bT s.heap F a va)(rb:bT s.heap F b vb)(e:((qL a).bind λl=>(qI b).bind λn=>Pm l.1 n.1)=some d):BS prog w A E s F .Mult d va vb:=by
 obtain⟨i,_,e⟩:=aO e;obtain⟨j,_,e⟩:=aO e;obtain⟨_,vs,n,h1,_,hl,hr⟩:=ra.l i;obtain⟨u,h2⟩:=rb.i j;exact h1▸h2▸Pn lo hl hr e
theorem L1(ht:1<=s.toks)(lo:jy F s.heap)(ra:bT s.heap F a va)(rb:bT s.heap F b vb)(e:ahM a b=some d):BS prog w A E s F .Mult d va vb:=
 n7 e (Kt (λ_ _ _ _ e=>(bh e).2▸PyProof.Rows.mul_int mO (mulOk_of (bO.mp (bh e).1).1 (bO.mp (bh e).1).2)) ra rb) λe=>n7 e (Fd ht ra rb)
  λe=>n7 e (SP (λ_ _ _ _ _ _ e=>ai e▸PyProof.Rows.mul_float (yR ht)) ra rb) λe=>n7 e (fiE (λ_ _ _ _ e=>(bh e).2▸PyProof.Rows.mul_fi_fits (aaK (bh e).1) (yR ht)) ra rb) (Fe lo ra rb)
theorem L2(ht:1<=s.toks)(ra:bT s.heap F a va)(rb:bT s.heap F b vb)(e:ahN a b=some d):BS prog w A E s F .Div d va vb:=
 n7 e (Kt (λ_ _ _ _ e=>by
  obtain⟨h,e⟩:=bh e;exact e▸AutoIntOps.truediv_2 (by simpa using h.1) (by have:=h.2;unfold o7 at this;simp[this]) (yR ht)) ra rb) (SP (λ_ _ _ _ _ _ e=>(yn e).2▸AutoFloatOps.truediv_1 (yn e).1 (yR ht)) ra rb)
theorem L5(ht:1<=s.toks)(ra:bT s.heap F a va)(rb:bT s.heap F b vb)(e:ahO a b=some d):BS prog w A E s F .Mod d va vb:=
 n7 e (Kt (λ_ _ _ _ e=>(bh e).2▸PyProof.Rows.mod_int (bh e).1 mO) ra rb) (SP (λ_ _ _ _ _ _ e=>(yn e).2▸AutoFloatOps.mod_1 (yn e).1 (yR ht)) ra rb)
theorem Po(h:a.natAbs<18446744073709551616/\0<=n/\n<=100000):(bR a:Int)*n<=64*100000:=
 Int.mul_le_mul (gD.mpr (ym (n:=64) h.1)) h.2.2 h.2.1 (by decide)
theorem qA(ht:1<=s.toks)(lo:jy F s.heap)(ra:bT s.heap F a va)(rb:bT s.heap F b vb)(e:az op a b=some d):BS prog w A E s F op d va vb:=by
 cases op with
 |Add=>exact aj (Bx ht lo ra rb e) (λ_ _ q=>q.1) λ_ _ e=>e
 |Sub=>exact H9 ht ra rb e
 |Mult=>exact L1 ht lo ra rb e
 |Div=>exact L2 ht ra rb e
 |Mod=>exact L5 ht ra rb e
 |Pow=>
  refine Kt (f:=ahQ) (λi j t u e=>?_) ra rb e;obtain⟨h,e⟩:=bh e;have hb:=Po h;exact e▸PyProof.Rows.pow_int h.2.1 (by omega) mO
 |LShift=>
  refine Kt (f:=ahR) (λi j t u e=>?_) ra rb e;obtain⟨h,e⟩:=bh e;have hb:=ym (Fb h.1);exact e▸PyProof.Rows.lshift_int h.2.1 (by omega) mO
 |RShift=>
  refine Kt (f:=ahS) (λi j t u e=>?_) ra rb e;obtain⟨h,e⟩:=bh e;exact e▸PyProof.Rows.rshift_int h mO
 |BitXor=>
  refine Kt (f:=ahT) (λi j t u e=>?_) ra rb e;exact ai e▸PyProof.Rows.xor_int mO
 |FloorDiv=>
  refine Kt (f:=ahP) (λi j t u e=>?_) ra rb e;obtain⟨h,e⟩:=bh e;exact e▸PyProof.Rows.floordiv_int h.1 mO (.inl (aaL h.2))
 |_=>exact no e
def mh(d:D):Option Bool:=((qB d).map λx=>x.1).or (((qI d).map λi=>i.1 != 0).or ((qL d).bind λl=>if l.1.length<=dC then some (!l.1.isEmpty)else none))
def ahW:UnaryOp->D->Option D
 |.USub,d=>(qI d).map λi=>.int (-i.1)
 |.Invert,d=>(qI d).map λi=>.int (cR i.1)
 |.Not,d=>(mh d).map λb=>.bool !b
 |.UAdd,_=>none
end
end
section
open PySem.SeqAt
def tJ(f:D->D->Option Bool):List D->List D->Option Bool
 |[],ys=>match ys with
  |[]=>some true
  |_::_=>none
 |x::xs,ys=>match ys with
  |[]=>none
  |y::ys=>(f x y).bind λp=>(tJ f xs ys).map λq=>p&&q
def uX(a b:UInt64):Bool:=ck a b==some .eq
def aaN(a b:UInt64):Option Bool:=if uX a b=true then some true else none
def Pp(a b:D):Option Bool:=(H6 (λi j=>some (i==j)) a b).or ((arS (λi j=>some (i==j)) a b).or (SO aaN a b))
def aaO(f:D->D->Option Bool)(a b:List D):Option Bool:=if a.length=b.length then tJ f a b else some false
def aaP(f:D->D->Option Bool)(a b:List D):Option Bool:=if a.length=b.length then tJ f a b else none
def aaQ(f:D->D->Option Bool)(z:Bool)(a b:D):Option Bool:=if z=true then(Pp a b).or ((arL (aaO f) a b).or (arT (aaP f) a b))else Pp a b
def rG:Nat->D->D->Option Bool
 |0=>aaQ (λ_ _=>none) false
 |n+1=>aaQ (rG n) true
section
variable{F:Addr->Prop}
theorem By(hf:∀d b,f d d=some b->b=true):∀(ds:List D)(b:Bool),tJ f ds ds=some b->b=true:=by
 intro zx
 induction zx with
 |nil=>
  rintro b e;exact(ai e).symm
 |cons d ds ih=>
  rintro b e;obtain⟨p,h1,h2⟩:=aO e;obtain⟨q,h3,rfl⟩:=dM h2;rw[hf d p h1,ih q h3];rfl
theorem Bz(e:Pp d d=some b):b=true:=by
 refine n7 e (λe=>?_) λe=>n7 e (λe=>?_) λe=>?_
 ·obtain⟨i,h1,e⟩:=aO e
  obtain⟨j,h2,e⟩:=aO e;obtain rfl:=ai (h1.symm.trans h2);exact(ai e).symm.trans (beq_self_eq_true _)
 ·obtain⟨i,h1,e⟩:=aO e
  obtain⟨j,h2,e⟩:=aO e;obtain rfl:=ai (h1.symm.trans h2);exact(ai e).symm.trans (beq_self_eq_true _)
 ·obtain⟨i,h1,e⟩:=aO e
  obtain⟨j,h2,e⟩:=aO e;exact(bh e).2.symm
theorem BA(hf:∀d b,f d d=some b->b=true)(d)(b)(e:aaQ f z d d=some b):b=true:=by
 cases z with
 |false=>exact Bz e
 |true=>
  refine n7 e Bz λe=>n7 e (λe=>?_) λe=>?_
  ·obtain⟨i,h1,e⟩:=aO e
   obtain⟨j,h2,e⟩:=aO e;obtain rfl:=ai (h1.symm.trans h2);exact By hf i.1 b ((if_pos rfl).symm.trans e)
  ·obtain⟨i,h1,e⟩:=aO e
   obtain⟨j,h2,e⟩:=aO e;obtain rfl:=ai (h1.symm.trans h2);exact By hf i.1 b ((if_pos rfl).symm.trans e)
theorem Pq:∀(n:Nat)(d:D)(b:Bool),rG n d d=some b->b=true:=by
 intro zx
 induction zx with
 |zero=>
  rintro d b e;exact BA (f:=λ_ _=>none) (λ_ _ e=>no e) d b e
 |succ n ih=>
  rintro d b e;exact BA (ih) d b e
theorem yS(e:Nat->Bool)(n):(a0 (n+1)).all e=(e 0&&(a0 n).all λi=>e (i+1)):=by
 rw[Tb,rW,List.all_map];rfl
theorem yo(hf:∀d d' v v' b,bT s.heap F d v->bT s.heap F d' v'->f d d'=some b->EqAt A s v v' b):
 ∀(ds xY:List D)(vs lr:List Value)(b:Bool),aZ s.heap F ds vs->aZ s.heap F xY lr->tJ f ds xY=some b->
  ∃e:Nat->Bool,(∀j v v',vs[j]? =some v->lr[j]? =some v'->EqAt A s v v' (e j))/\(a0 vs.length).all e=b:=by
 intro zx
 induction zx with
 |nil=>
  rintro xY vs lr b x y e;cases xY with
  |cons _ _=>exact no e
  |nil=>
   obtain rfl:=x.qy;exact⟨λ_=>true,λj v v' h=>no h,ai e⟩
 |cons d ds ih=>
  rintro xY vs lr b x y e;cases xY with
  |nil=>exact no e
  |cons d' xY=>
   obtain⟨p,h1,h2⟩:=aO e;obtain⟨q,h3,rfl⟩:=dM h2;obtain⟨v,r,rfl,a1,b1⟩:=x.gk;obtain⟨v',r',rfl,a2,b2⟩:=y.gk;obtain⟨e,he,hb⟩:=ih xY r r' q b1 b2 h3;refine⟨λj=>match j with|0=>p|j+1=>e j,λj u u' hu hu'=>?_,by rw[aG,yS,<-hb]⟩;cases j with
   |zero=>exact ai hu▸ai hu'▸hf _ _ _ _ _ a1 a2 h1
   |succ j=>exact he j u u' hu hu'
theorem Ia(hb:jt s.heap)(ht:t≠0)(hu:u≠0)(same:uX a b=true):EqAt A s (.float a t) (.float b u) true:=λprog w E Q h=>by
 unfold eqBool;refine cq ?_;refine SF (λtI=>aw (oT (aM h))) (λ_=>?_);dsimp only;have jp:wpAny (model prog w) A (do let r<-richCompare W6 (.float a t) (.float b u);truthOfDropped r) Q E s:=
  aw (show wpAny (model prog w) A (compareOp .Eq (.float a t) (.float b u)) _ E s from AutoFloatOps.eq_0 (by
   have:(ck a b==some Ordering.eq)=true:=same;rw[this];exact nD h))
 have fin:∀c:Bool,wpAny (model prog w) A (if c=true then pure true else do let r<-richCompare W6 (.float a t) (.float b u);truthOfDropped r) Q E s:=λc=>by
  cases c
  ·exact jp
  ·exact aM h
 refine aw ?_;show wpAny (model prog w) A (ana (a==b&& !Float64.isNaN a) t u) _ E s;unfold ana;refine aeS ?_;split
 ·rename_i h0
  simp[ht,hu]at h0
 refine aeS ?_;split
 ·exact aM (fin true)
 refine aeS ?_;split
 ·exact aM (fin false)
 refine aw (Za hb ?_);rw[if_neg aJ];refine aw (Za hb ?_);rw[if_neg aJ];exact aw (oT (aw (wpAny_askSetting (aM (fin _)))))
abbrev N4(s:ak)(A:aE)(o1 o2:CmpOp)(k:Bool)(va vb:Value):Prop:=∀(prog:bb)(w:World)(E:Value->ak->Prop)(Q:Value->ak->Prop),(Q (.bool k) s->wpAny (model prog w) A (compareOp o1 va vb) Q E s)/\(Q (.bool !k) s->wpAny (model prog w) A (compareOp o2 va vb) Q E s)
theorem Uz(i j t u):N4 s A .Eq .NotEq (i==j) (.int i t) (.int j u):=λ_ _ _ _=>⟨J1,PyProof.Rows.ne_int⟩
theorem UA(i j t u):N4 s A .Eq .NotEq (i==j) (.str i t) (.str j u):=λ_ _ _ _=>⟨J2,PyProof.Rows.ne_str⟩
theorem Ku(i j t u):N4 s A .Eq .NotEq (uX i j) (.float i t) (.float j u):=λ_ _ _ _=>⟨AutoFloatOps.eq_0,AutoFloatOps.ne_0⟩
theorem UB(e:aaN x y=some b):uX x y=b:=(bh e).1.trans (bh e).2
theorem Pr(x:bT s.heap F d v)(y:bT s.heap F d' v')(e:Pp d d'=some b):N4 s A .Eq .NotEq b v v':=
 n7 e (Kt (λi j t u e=>ai e▸Uz i j t u) x y) λe=>n7 e (ssE (λi j t u e=>ai e▸UA i j t u) x y) (SP (λi j t u _ _ e=>UB e▸Ku i j t u) x y)
theorem aaR(i j)(t u):EqAt A s (.int i t) (.int j u) (i==j):=λprog w E Q hq=>by
 unfold eqBool;refine cq (SF (λtI=>?_) λ_=>?_)
 ·rw[show(i==j)=true from beq_iff_eq.mpr (pX (eq_of_beq tI)).1]at hq
  exact aw (oT (aM hq))
 ·show wpAny (model prog w) A (do let r<-richCompare W6 (.int i t) (.int j u);truthOfDropped r) Q E s
  exact aw (show wpAny (model prog w) A (compareOp .Eq (.int i t) (.int j u)) _ E s from J1 (nD hq))
theorem aaS(i j)(t u):EqAt A s (.str i t) (.str j u) (i==j):=λprog w E Q hq=>by
 unfold eqBool;refine cq (SF (λtI=>?_) λ_=>?_)
 ·rw[show(i==j)=true from beq_iff_eq.mpr (aeR (eq_of_beq tI)).1]at hq
  exact aw (oT (aM hq))
 ·show wpAny (model prog w) A (do let r<-richCompare W6 (.str i t) (.str j u);truthOfDropped r) Q E s
  exact aw (show wpAny (model prog w) A (compareOp .Eq (.str i t) (.str j u)) _ E s from J2 (nD hq))
theorem aaT(hb:jt s.heap)(ht:t≠0)(hu:u≠0)(e:aaN x y=some b):EqAt A s (.float x t) (.float y u) b:=(bh e).2▸Ia hb ht hu (bh e).1
theorem Kv(hb:jt s.heap)(x:bT s.heap F d v)(y:bT s.heap F d' v')(e:Pp d d'=some b):EqAt A s v v' b:=
 n7 e (Kt (P:=λv v'=>EqAt A s v v' b) (λi j t u e=>ai e▸aaR i j t u) x y) λe=>n7 e (ssE (P:=λv v'=>EqAt A s v v' b) (λi j t u e=>ai e▸aaS i j t u) x y) (SP (P:=λv v'=>EqAt A s v v' b) (λi j t u ht hu e=>aaT hb ht hu e) x y)
theorem oA(hr:aZ h F l vs)(qz:aZ h F l' lr):(l.length=l'.length)=(vs.toArray.size=lr.toArray.size):=by
 rw[bg,bg,hr.length,qz.length]
theorem CQ{A:aE}{s:ak}{f:Nat->Bool}{vs lr:List Value}(hf:∀j v v',vs[j]? =some v->lr[j]? =some v'->EqAt A s v v' (f j))(j:Nat)(h1:j<vs.toArray.size)(h2:j<lr.toArray.size):EqAt A s vs.toArray[j] lr.toArray[j] (f j):=
 hf j _ _ (by simp at h1⊢) (by simp at h2⊢)
theorem Pt{A:aE}{s:ak}{f:D->D->Option Bool}{a a':Addr}{l l':List D}{vs lr:List Value}{k k':Nat}{b:Bool}(hu:A.units<cLine)(hf:∀d d' v v' b,bT s.heap F d v->bT s.heap F d' v'->f d d'=some b->EqAt A.in1 s v v' b)
(hl:IsL s.heap a vs.toArray k)(qq:IsL s.heap a' lr.toArray k')(hr:aZ s.heap F l vs)(qz:aZ s.heap F l' lr)(e:aaO f l l'=some b):RcAt A s (.ref a) (.ref a') b:=by
 by_cases hlen:l.length=l'.length
 ·obtain⟨g,hg,Tq⟩:=yo hf _ _ _ _ _ hr qz ((if_pos hlen).symm.trans e)
  rw[<-Tq,<-bg];exact RcAt.lists hl.isList qq.isList (oA hr qz▸hlen) hu (CQ hg)
 ·rw[<-ai ((if_neg hlen).symm.trans e)]
  exact RcAt.lists_lengths hl.isList qq.isList (bne_iff_ne.mpr (mt (oA hr qz).mpr hlen)) hu
theorem Pu{A:aE}{s:ak}{f:D->D->Option Bool}{a a':Addr}{l l':List D}{vs lr:List Value}{k k':Nat}{b:Bool}(hu:A.units<cLine)(hf:∀d d' v v' b,bT s.heap F d v->bT s.heap F d' v'->f d d'=some b->EqAt A.in1 s v v' b)
(hl:IsT s.heap a vs.toArray k)(qq:IsT s.heap a' lr.toArray k')(hr:aZ s.heap F l vs)(qz:aZ s.heap F l' lr)(e:aaP f l l'=some b):RcAt A s (.ref a) (.ref a') b:=by
 obtain⟨hlen,e⟩:=dy e;obtain⟨g,hg,Tq⟩:=yo hf _ _ _ _ _ hr qz e;have q:=RcAt.tuples (A:=A) (e:=g) (⟨_,hl,rfl,_,rfl⟩:s.heap.IsTuple a vs.toArray) (⟨_,qq,rfl,_,rfl⟩:s.heap.IsTuple a' lr.toArray) hu (CQ hg);rw[<-(oA hr qz▸hlen:vs.toArray.size=lr.toArray.size),Nat.min_self,beq_self_eq_true,Bool.and_true,bg,Tq]at q;exact q
theorem UC(x:bT s.heap F d (.ref a))(y:bT s.heap F d' (.ref a'))(e:rG n d d'=some b)(h:RcAt A s (.ref a) (.ref a') b):EqAt A s (.ref a) (.ref a') b:=by
 by_cases ox:a=a'
 ·subst ox
  rw[Pq n d b ((bT.inj x y:d=d')▸e)];exact EqAt.same _
 ·exact EqAt.of_refs ox h
theorem Pw(hb:jt s.heap)(n):∀(A:aE)(d d':D)(v v':Value)(b:Bool),A.units+n<cLine->bT s.heap F d v->bT s.heap F d' v'->rG n d d'=some b->EqAt A s v v' b:=by
 induction n with
 |zero=>exactλA d d' v v' b _ x y e=>Kv hb x y e
 |succ n ih=>
  intro A d d' v v' b hu x y e;have hA:A.units<cLine:=bx (iM ..) hu;have hf:∀d d' v v' b,bT s.heap F d v->bT s.heap F d' v'->rG n d d'=some b->EqAt A.in1 s v v' b:=λd d' v v' b=>ih A.in1 d d' v v' b (bx (W7 (Nat.succ_add_eq_add_succ A.units n)) hu);have fin:∀a a',v=.ref a->v'=.ref a'->RcAt A s (.ref a) (.ref a') b->EqAt A s v v' b:=λa a' h1 h2=>by subst h1 h2;exact UC x y e
  have e0:=e;refine n7 e0 (Kv hb x y) λe0=>n7 e0 (λe0=>?_) λe0=>?_
  ·obtain⟨i,_,e0⟩:=aO e0
   obtain⟨j,_,e0⟩:=aO e0;obtain⟨a,vs,k,h1,_,hl,hr⟩:=x.l i;obtain⟨a',lr,k',h2,_,qq,qz⟩:=y.l j;exact fin a a' h1 h2 (Pt hA hf hl qq hr qz e0)
  ·obtain⟨i,_,e0⟩:=aO e0
   obtain⟨j,_,e0⟩:=aO e0;obtain⟨a,vs,k,h1,_,hl,hr⟩:=x.t i;obtain⟨a',lr,k',h2,_,qq,qz⟩:=y.t j;exact fin a a' h1 h2 (Pu hA hf hl qq hr qz e0)
end
end
end Internal
namespace Internal
section
open PySem.SeqAt
def UD(d:D):Option (Option Bool):=if d.ctorIdx=1 then some none else(qB d).map λx=>some x.1
def ahX:Option Bool->Option Bool->Bool
 |none,q=>match q with
  |none=>true
  |some _=>false
 |some x,q=>match q with
  |none=>false
  |some y=>x==y
def same(a b:D):Option Bool:=(UD b).bind λq=>((UD a).map λp=>ahX p q).or ((qS a).map λ_=>false)
def tK(x:D):List D->Option Bool
 |[]=>some false
 |y::ys=>(rG 40 y x).bind λa=>(tK x ys).map λb=>a||b
def inS(x y:Str):Option Bool:=some (!(Ee y x 0 y.length 1).isEmpty)
def gL(x y:D):Option Bool:=(arS inS x y).or ((qL y).bind λl=>tK x l.1)
def eqD(a b:D):Option Bool:=(SO (λx y=>some (uX x y)) a b).or (rG 40 a b)
def ltI(f:Int->Int->Bool)(g:UInt64->UInt64->Option Bool)(k:UInt64->Int->Option Bool)(a b:D):Option Bool:=(H6 (λi j=>some (f i j)) a b).or ((SO g a b).or (Ux k a b))
def cmp:CmpOp->D->D->Option Bool
 |.Eq,a,b=>eqD a b
 |.NotEq,a,b=>(eqD a b).map λx=> !x
 |.Lt,a,b=>ltI (λa b=>decide (a<b)) (λa b=>some (ck a b==some .lt)) (λ_ _=>none) a b
 |.LtE,a,b=>ltI (λa b=>decide (a<=b)) (λa b=>some (ck a b==some .lt||ck a b==some .eq)) (λ_ _=>none) a b
 |.Gt,a,b=>ltI (λa b=>decide (b<a)) (λ_ _=>none) (λ_ _=>none) a b
 |.GtE,a,b=>ltI (λa b=>decide (b<=a)) (λ_ _=>none) (λa b=>some (gE a b==some .gt||gE a b==some .eq)) a b
 |.Is,a,b=>same a b
 |.IsNot,a,b=>(same a b).map λx=> !x
 |.In,a,b=>gL a b
 |.NotIn,a,b=>(gL a b).map λx=> !x
section
variable{F:Addr->Prop}
theorem Px{A:aE}{s:ak}{x:D}{v:Value}(hb:jt s.heap)(hu:A.units+41<cLine)(rx:bT s.heap F x v):
 ∀(ds:List D)(vs:List Value)(b:Bool),aZ s.heap F ds vs->tK x ds=some b->∃e:Value->Bool,(∀y∈vs,EqAt A.in1 s y v (e y))/\vs.any e=b:=by
 have pick:∀y:Value,∃k:Bool,∀d b,bT s.heap F d y->rG 40 d x=some b->k=b:=λy=>by
  by_cases h:∃d b,bT s.heap F d y/\rG 40 d x=some b
  ·obtain⟨d,b,h1,h2⟩:=h;exact⟨b,λd' b' h1' h2'=>ai ((bT.inj h1 h1'▸h2:rG 40 d' x=some b).symm.trans h2')⟩
  ·exact⟨true,λd b h1 h2=>absurd ⟨d,b,h1,h2⟩ h⟩
 obtain⟨f,sp⟩:=Classical.axiomOfChoice pick;intro ds vs b hr he;refine⟨f,?_⟩;induction ds generalizing vs b with
 |nil=>exact hr.qy▸⟨λy h=>(nomatch h),ai he⟩
 |cons d ds ih=>
  obtain⟨p,h1,h2⟩:=aO he;obtain⟨q,h3,rfl⟩:=dM h2;obtain⟨u,r,rfl,a1,b1⟩:=hr.gk;have e1:=sp u d p a1 h1;refine⟨λy hy=>?_,by rw[List.any_cons,(ih r q b1 h3).2,e1]⟩;cases hy with
  |head=>exact e1.symm▸Pw hb 40 A.in1 d x _ v p (bx (W7 (SG ..)) hu) a1 rx h1
  |tail _ hy=>exact(ih r q b1 h3).1 y hy
def Ib:Option Bool->Value
 |none=>.none
 |some b=>.bool b
theorem Ff(r:bT h F a v)(e:UD a=some p):v=Ib p:=by
 unfold UD at e;by_cases h:a.ctorIdx=1
 ·rw[if_pos h]at e
  rw[ahI h]at r;exact ai e▸r.none
 ·rw[if_neg h]at e
  obtain⟨x,_,rfl⟩:=dM e;exact r.b x
theorem Kw(p q:Option Bool):plainIs (Ib p) (Ib q)=true/\(Ib p==Ib q)=ahX p q:=by
 cases p<;>cases q<;>first|exact⟨rfl,rfl⟩|(rename_i x y;cases x<;>cases y<;>exact⟨rfl,rfl⟩)
theorem Kx(x)(t)(q:Option Bool):plainIs (.str x t) (Ib q)=true/\(Value.str x t==Ib q)=false:=by cases q<;>exact⟨rfl,rfl⟩
theorem Py{s:ak}{A:aE}{a b:Value}{k:Bool}(h:plainIs a b=true)(e:(a==b)=k):N4 s A .Is .IsNot k a b:=λprog w E Q=>⟨λq=>wpAny_is_plain h (e.symm▸q),λq=>wpAny_isNot_plain h (e.symm▸q)⟩
theorem yT(ra:bT s.heap F a va)(rb:bT s.heap F b vb)(e:same a b=some k):N4 s A .Is .IsNot k va vb:=by
 obtain⟨q,hb,e⟩:=aO e;obtain rfl:=Ff rb hb;refine n7 e (λe=>?_) λe=>?_
 ·obtain⟨p,ha,rfl⟩:=dM e
  obtain rfl:=Ff ra ha;exact Py (Kw p q).1 (Kw p q).2
 ·obtain⟨x,_,rfl⟩:=dM e
  obtain⟨t,rfl⟩:=ra.s x;exact Py (Kx x.1 t q).1 (Kx x.1 t q).2
theorem Fg(hb:jt s.heap)(hu:A.units+41<cLine)(ra:bT s.heap F a va)(rb:bT s.heap F b vb)(e:gL a b=some k):N4 s A .In .NotIn k va vb:=by
 refine n7 e (λe=>ssE (f:=inS) (P:=N4 s A .In .NotIn k) (λi j t u e=>by exact ai e▸λ_ _ _ _=>⟨PySem.P.in_str,PySem.P.notIn_str⟩) ra rb e) λe=>?_;obtain⟨x,_,e⟩:=aO e;obtain⟨l,vs,n,h1,_,hl,hr⟩:=rb.l x;obtain⟨f,h2,h3⟩:=Px hb hu ra _ _ _ hr e;exact h1▸(List.any_toArray.trans h3:vs.toArray.any f=k)▸λ_ _ _ _=>⟨in_listAt f hl.isList λy hy=>h2 y (anb.mp hy),notIn_listAt f hl.isList λy hy=>h2 y (anb.mp hy)⟩
theorem aaV(hu:A.units<cLine)(hf:∀d d' v v' b,bT s.heap F d v->bT s.heap F d' v'->f d d'=some b->EqAt A.in1 s v v' b)
(hl:IsL s.heap a vs.toArray k)(qq:IsL s.heap a' lr.toArray k')(hr:aZ s.heap F l vs)(qz:aZ s.heap F l' lr)(e:aaO f l l'=some b):RcNeAt A s (.ref a) (.ref a') !b:=by
 by_cases hlen:l.length=l'.length
 ·obtain⟨g,hg,Tq⟩:=yo hf _ _ _ _ _ hr qz ((if_pos hlen).symm.trans e)
  rw[<-Tq,<-bg];exact RcNeAt.lists hl.isList qq.isList (oA hr qz▸hlen) hu (CQ hg)
 ·rw[<-ai ((if_neg hlen).symm.trans e)]
  exact RcNeAt.lists_lengths hl.isList qq.isList (bne_iff_ne.mpr (mt (oA hr qz).mpr hlen)) hu
theorem aaW(hu:A.units<cLine)(hf:∀d d' v v' b,bT s.heap F d v->bT s.heap F d' v'->f d d'=some b->EqAt A.in1 s v v' b)
(hl:IsT s.heap a vs.toArray k)(qq:IsT s.heap a' lr.toArray k')(hr:aZ s.heap F l vs)(qz:aZ s.heap F l' lr)(e:aaP f l l'=some b):RcNeAt A s (.ref a) (.ref a') !b:=by
 obtain⟨hlen,e⟩:=dy e;obtain⟨g,hg,Tq⟩:=yo hf _ _ _ _ _ hr qz e;have q:=RcNeAt.tuples (A:=A) (e:=g) (⟨_,hl,rfl,_,rfl⟩:s.heap.IsTuple a vs.toArray) (⟨_,qq,rfl,_,rfl⟩:s.heap.IsTuple a' lr.toArray) hu (CQ hg);rw[<-(oA hr qz▸hlen:vs.toArray.size=lr.toArray.size),Nat.min_self,beq_self_eq_true,Bool.and_true,bg,Tq]at q;exact q
theorem BB(hb:jt s.heap)(hu:A.units+41<cLine)(ra:bT s.heap F a va)(rb:bT s.heap F b vb)(e:eqD a b=some k):N4 s A .Eq .NotEq k va vb:=by
 have hA:A.units<cLine:=bx (iM ..) hu;have hq:∀d d' v v' b,bT s.heap F d v->bT s.heap F d' v'->rG 39 d d'=some b->EqAt A.in1 s v v' b:=λd d' v v' b=>Pw hb 39 A.in1 d d' v v' b (dn (by show A.units+1+39<A.units+41;omega) hu);exact n7 e (SP (λi j t u _ _ e=>ai e▸Ku i j t u) ra rb) λe=>n7 e (Pr ra rb) λe=>
  n7 e (llE (P:=N4 s A .Eq .NotEq k) (λ_ _ _ _ _ _ _ _ hl qq hr qz e prog w E Q=>⟨Pt hA hq hl qq hr qz e prog w E Q,aaV hA hq hl qq hr qz e prog w E Q⟩) ra rb)
   (ttE (P:=N4 s A .Eq .NotEq k) (λ_ _ _ _ _ _ _ _ hl qq hr qz e prog w E Q=>⟨Pu hA hq hl qq hr qz e prog w E Q,aaW hA hq hl qq hr qz e prog w E Q⟩) ra rb)
abbrev CO(prog:bb)(w:World)(A:aE)(E:Value->ak->Prop)(s:ak)(Q:Value->ak->Prop)(op:CmpOp)(va vb:Value):Prop:=wpAny (model prog w) A (compareOp op va vb) Q E s
theorem tL
(k1:∀i j t u,Q (.bool (f i j)) s->CO prog w A E s Q op (.int i t) (.int j u))(k2:∀i j t u,g i j=some k->CO prog w A E s Q op (.float i t) (.float j u))
(k3:∀i j t u,z i j=some k->CO prog w A E s Q op (.float i t) (.int j u))
(ra:bT s.heap F a va)(rb:bT s.heap F b vb)(e:ltI f g z a b=some k)(h:Q (.bool k) s):CO prog w A E s Q op va vb:=
 n7 e (Kt (λi j t u e=>k1 i j t u (ai e▸h)) ra rb) λe=>n7 e (SP (λi j t u _ _ e=>k2 i j t u e) ra rb) (fiE k3 ra rb)
theorem L6
(hb:jt s.heap)(hu:A.units+41<cLine)(ra:bT s.heap F a va)(rb:bT s.heap F b vb)(e:cmp op a b=some k)(h:Q (.bool k) s):CO prog w A E s Q op va vb:=by
 have neg:∀{o1 o2:CmpOp}{x:Option Bool},(∀j,x=some j->N4 s A o1 o2 j va vb)->x.map (λx=> !x)=some k->CO prog w A E s Q o2 va vb:=λt e=>by
  obtain⟨j,e2,rfl⟩:=dM e;exact(t j e2 prog w E Q).2 h
 cases op with
 |Eq=>exact(BB hb hu ra rb e prog w E Q).1 h
 |NotEq=>exact neg (λ_=>BB hb hu ra rb) e
 |Lt=>exact tL (λ_ _ _ _=>PyProof.Rows.lt_int) (λ_ _ _ _ q=>by exact NZ (ai q▸h)) (λ_ _ _ _ q=>no q) ra rb e h
 |LtE=>exact tL (λ_ _ _ _=>PyProof.Rows.le_int) (λ_ _ _ _ q=>by exact AutoFloatOps.le_0 (ai q▸h)) (λ_ _ _ _ q=>no q) ra rb e h
 |Gt=>exact tL (λ_ _ _ _=>PyProof.Rows.gt_int) (λ_ _ _ _ q=>no q) (λ_ _ _ _ q=>no q) ra rb e h
 |GtE=>exact tL (λ_ _ _ _=>PyProof.Rows.ge_int) (λ_ _ _ _ q=>no q) (λ_ _ _ _ q=>by exact PyProof.Rows.ge_fi (ai q▸h)) ra rb e h
 |Is=>exact(yT ra rb e prog w E Q).1 h
 |IsNot=>exact neg (λ_=>yT ra rb) e
 |In=>exact(Fg hb hu ra rb e prog w E Q).1 h
 |NotIn=>exact neg (λ_=>Fg hb hu ra rb) e
end
end
end Internal
namespace Internal
section
def tM(x:Str):List D:=x.cps.toList.map λc=>.str ⟨#[c]⟩
def mj(a c:Int):Nat->List D
 |0=>[]
 |n+1=>.int a::mj (a+c) c n
def jh(a b c:Int):Nat:=(fu a b c).toNat
def lx(a b c:Int):Bool:=decide (c≠0)&&HE a b c&&decide (0<=fu a b c)
def ao5(x:Int×Int×Int):Option (List D):=if lx x.1 x.2.1 x.2.2=true then some (mj x.1 x.2.2 (jh x.1 x.2.1 x.2.2))else none
def L8(d:D):Option (List D):=((qL d).map λx=>x.1).or ((qT d).map λx=>x.1)
def items(d:D):Option (List D):=(L8 d).or (((qS d).map λx=>tM x.1).or ((qR d).bind λx=>ao5 x.1))
theorem Fh:items (.om a b c)=if lx a b c=true then some (mj a c (jh a b c))else none:=rfl
theorem o8(c):∀(n:Nat)(a:Int),(mj a c n).length=n:=by
 intro zx
 induction zx with
 |zero=>
  rintro _;exact rfl
 |succ n ih=>
  rintro a;rw[mj,aG,ih]
theorem BD(c)(n):∀(a:Int)(i:Nat),i<n->(mj a c n)[i]? =some (.int (a+i*c)):=by
 induction n with
 |zero=>exactλ_ _ h=>absurd h (J3 _)
 |succ n ih=>
  intro a i h;cases i with
  |zero=>simp[mj]
  |succ i=>
   rw[mj,List.getElem?_cons_succ,ih _ i (Nat.lt_of_succ_lt_succ h)];congr 2;rw[lD,Int.add_mul,Int.natCast_one,Int.one_mul,Int.add_assoc,DR c]
def Fi(I:Addr)(P:Nat->Value->Prop)(St:Nat->Heap->Prop):Prop:=
 (∀i h,St i h->∃o T,h.get? I=some o/\o.cls=.type T/\["enumerate","zip","dict_itemiterator","dict_reverseitemiterator","odict_iterator","itertools.zip_longest","itertools.pairwise"].contains T=false)
   \/∀i v,P i v->∀a,v≠.ref a
inductive It(prog:bb)(w:World)(A:aE)(F:Addr->Prop)(ds:List D)(s s':ak)(it:Value):Prop
 |mk (I:Addr) (fp:List Addr) (P:Nat->Value->Prop) (St:Nat->Heap->Prop) (hx:it=.ref I) (no:Fi I P St) (W:Walks prog w A I fp [I] ds.length P St) (st:St 0 s'.heap) (hI:s.heap.get? I=none) (Ky:∀i h,St i h->(h.get? I).isSome=true)
  (hfp:∀b∈fp,b=I\/(¬F b/\(s.heap.get? b).isSome=true)) (hP:∀i v h (F':Addr->Prop),P i v->Kept F s.heap h->(∀b,F' b->F b\/s.heap.get? b=none)->∀d,ds[i]? =some d->bT h F' d v)
section
variable{prog:bb}{w:World}{A:aE}{E:Value->ak->Prop}{s:ak}{F:Addr->Prop}
theorem jm(h:Heap)(o:Obj)(ho:o.isFreed=false):(h.push o).get? h.objs.size=some o:=iy _ ho
theorem Fj
(hQ:∀(o:Obj)(St:Nat->Heap->Prop),(∀i h,St i h->(h.get? s.heap.objs.size).isSome=true)->(∀A':aE,A'.handled=none->Walks prog w A' s.heap.objs.size [s.heap.objs.size] [s.heap.objs.size] x.cps.size (SignAt x) St)->St 0 (s.heap.push o)->
   Q (.ref s.heap.objs.size) {s with heap:=s.heap.push o}):wpAny (model prog w) A (pyIter (.str x t)) Q E s:=by
 cases ha:x.cps.all (·<128)
 ·exact wpAny_pyIter_wide ha (hQ _ _ (λi h st=>by obtain⟨o,e,_⟩:=st;rw[e];rfl) (λA' hA=>Walks.strWide hA _ x t) ⟨_,iy _ rfl,rfl,rfl⟩)
 ·exact wpAny_pyIter_ascii ha (hQ _ _ (λi h st=>by obtain⟨o,e,_⟩:=st;rw[e];rfl) (λA' hA=>Walks.strAscii hA _ x t) ⟨_,iy _ rfl,rfl,rfl⟩)
theorem fp2{h:Heap}{I a:Addr}{o:Obj}(na:¬F a)(e:h.get? a=some o):∀b∈[I,a],b=I\/(¬F b/\(h.get? b).isSome=true):=λb hb=>by
 cases hb with
 |head=>exact .inl rfl
 |tail _ hb=>cases hb with
  |head=>exact .inr ⟨na,by rw[e];rfl⟩
  |tail _ hb=>exact nomatch hb
theorem aaY{h0:Heap}{ds:List D}{vs:List Value}(r:aZ h0 F ds vs){i:Nat}{v:Value}{h:Heap}{F':Addr->Prop}(hP:vs[i]? =some v)(k:Kept F h0 h)(hF':∀b,F' b->F b\/h0.get? b=none)(d:D)(hd:ds[i]? =some d):bT h F' d v:=
 let⟨_,e1,e2⟩:=r.get hP
 ai (e1.symm.trans hd)▸bT.kept k hF' _ _ e2
theorem Pz{ds:List D}{v:Value}(hh:A.handled=none)(r:RL s.heap F ds v):wpAny (model prog w) A (pyIter v) (λit s'=>Keeps s s'/\It prog w A F ds s s' it) E s:=by
 obtain⟨a,vs,n,rfl,na,hl,hr⟩:=r;have W:=Walks.list (prog:=prog) (w:=w) (A:=A) hh s.heap.objs.size a (gG (dT hl)) vs.toArray;rw[show vs.toArray.size=ds.length from by rw[bg,hr.length]]at W;exact wpAny_pyIter_list hl.isList ⟨Keeps.push _,_,_,_,_,rfl,.inl λi h st=>by obtain⟨⟨o,e1,e2,_⟩,_⟩:=st;exact⟨o,_,e1,e2,by decide⟩,W,⟨⟨_,jm _ _ rfl,rfl,rfl⟩,⟨_,bj _ hl,rfl,_,rfl⟩⟩,lu _,λi h st=>by obtain⟨⟨o,e1,_⟩,_⟩:=st;exact e1▸rfl,fp2 na hl,
  λi u h F' hP k hF'=>aaY hr (gO.symm.trans hP) k hF'⟩
theorem PA{ds:List D}{v:Value}(hh:A.handled=none)(r:RT s.heap F ds v):wpAny (model prog w) A (pyIter v) (λit s'=>Keeps s s'/\It prog w A F ds s s' it) E s:=by
 obtain⟨a,vs,n,rfl,na,hl,hr⟩:=r;have hT:s.heap.IsTuple a vs.toArray:=⟨_,hl,rfl,_,rfl⟩
 have W:=Walks.tuple (prog:=prog) (w:=w) (A:=A) hh s.heap.objs.size a (gG (dT hl)) vs.toArray;rw[show vs.toArray.size=ds.length from by rw[bg,hr.length]]at W;exact wpAny_pyIter_tuple hT ⟨Keeps.push _,_,_,_,_,rfl,.inl λi h st=>by obtain⟨⟨o,e1,e2,_⟩,_⟩:=st;exact⟨o,_,e1,e2,by decide⟩,W,⟨⟨_,jm _ _ rfl,rfl,rfl⟩,⟨_,bj _ hl,rfl,_,rfl⟩⟩,lu _,λi h st=>by obtain⟨⟨o,e1,_⟩,_⟩:=st;exact e1▸rfl,fp2 na hl,
  λi u h F' hP k hF'=>aaY hr (gO.symm.trans hP) k hF'⟩
theorem PB(hh:A.handled=none)(r:∃t,v=.str x t):wpAny (model prog w) A (pyIter v) (λit s'=>Keeps s s'/\It prog w A F (tM x) s s' it) E s:=by
 obtain⟨t,rfl⟩:=r;refine Fj λo St ho W st=>⟨Keeps.push _,_,_,_,_,rfl,?_,by rw[show(tM x).length=x.cps.size from by rw[tM,ag,cT]];exact W A hh,st,lu _,ho,λb hb=>.inl (aU.mp hb),λi u h F' p _ _ d hd=>?_⟩
 ·exact .inr λi v p a q=>by obtain⟨_,_,_,e⟩:=p;exact nomatch e.symm.trans q
 ·obtain⟨c,t',hc,rfl⟩:=p
  unfold tM at hd;rw[rA,uC,hc]at hd;exact ai hd▸yk
theorem PC(hh:A.handled=none)(hr:lx a b c=true)(r:RR s.heap F a b c v):wpAny (model prog w) A (pyIter v) (λit s'=>Keeps s s'/\It prog w A F (mj a c (jh a b c)) s s' it) E s:=by
 obtain⟨a',t,u,w',rfl,na,hl⟩:=r;unfold lx at hr;simp only[ay,decide_eq_true_eq]at hr;have W:=Walks.range (prog:=prog) (w:=w) (A:=A) hh s.heap.objs.size a c (jh a b c);refine wpAny_pyIter_range hl hr.1.2 ⟨Keeps.push _,_,_,_,_,rfl,?_,by rw[o8];exact W,?_,lu _,λi h st=>by rw[show h.get? s.heap.objs.size=some _ from st];rfl,λb hb=>.inl (aU.mp hb),λi v h F' p _ _ d hd=>?_⟩
 ·exact .inr λi v p a q=>by obtain⟨_,e⟩:=p;exact nomatch e.symm.trans q
 ·show(s.heap.push _).get? _=_
  rw[asH,Int.zero_mul,W8,Int.sub_zero,show((jh a b c:Nat):Int)=fu a b c from Ak hr.2];exact jm _ _ rfl
 ·obtain⟨t',rfl⟩:=p
  have hi:i<jh a b c:=o8 c (jh a b c) a▸(ki.mp hd).1;exact ai ((BD _ _ _ i hi).symm.trans hd)▸jW
theorem o9(hh:A.handled=none)(lo:jy F s.heap)(r:bT s.heap F d v)(e:items d=some ds):
 wpAny (model prog w) A (pyIter v) (λit s'=>Keeps s s'/\It prog w A F ds s s' it) E s:=by
 refine n7 e (λe=>n7 e (λe=>?_) λe=>?_) λe=>n7 e (λe=>?_) λe=>?_
 ·obtain⟨x,_,rfl⟩:=dM e
  exact Pz hh (r.l x)
 ·obtain⟨x,_,rfl⟩:=dM e
  exact PA hh (r.t x)
 ·obtain⟨x,_,rfl⟩:=dM e
  exact PB hh (r.s x)
 ·obtain⟨x,_,e⟩:=aO e
  exact(bh e).2▸PC hh (bh e).1 (r.r x)
end
end
section
structure Ok(A:aE)(F:Addr->Prop)(s:ak):Prop where
 hh:A.handled=none
 gl:∃mg,s.heap.Ns mainGlobals mg
 tk:1<=s.toks
 lo:jy F s.heap
theorem NoneBooked.keeps(x:jt h)(k:bU h h'):jt h':=by obtain⟨m,a,b⟩:=x;exact⟨m,a.keeps k,b⟩
theorem NoLimit.aa0(x:h.NoLimit)(k:bU h h'):h'.NoLimit:=by obtain⟨m,a,b⟩:=x;exact⟨m,a.keeps k,b⟩
def iD:List D->Option (List Int)
 |[]=>some []
 |x::r=>(qI x).bind λi=>(iD r).map (i.1::·)
theorem mI:∀{ns:List Int}{vs:List Value},iD ds=some ns->aZ h F ds vs->J4 vs ns:=by
 induction ds with
 |nil=>intro ns vs e x;exact ai e▸x.qy▸.nil
 |cons d ds ih=>
  intro ns vs e x;obtain⟨i,_,e⟩:=aO e;obtain⟨ms,e1,rfl⟩:=dM e;obtain⟨v,r,rfl,a,b⟩:=x.gk;obtain⟨t,rfl⟩:=a.i i;exact .cons _ _ (ih e1 b)
theorem BE(x:J4 vs ns):aZ h F (ns.map .int) vs:=by
 induction x with
 |nil=>exact .nil
 |cons n t r ih=>exact .cons jW ih
def fgt(a b:UInt64):Bool:=ck a b==some .gt
def PE(a b:UInt64):Bool:=ck a b==some .lt
def AE(a b c:UInt64):UInt64:=bif fgt c (bif fgt b a then b else a)then c else(bif fgt b a then b else a)
def L9(a b c:UInt64):UInt64:=bif PE c (bif PE b a then b else a)then c else(bif PE b a then b else a)
def aa1:List Int->Option Int
 |[]=>none
 |n::ns=>some (ns.foldl max n)
inductive Bi where
 |len|range|max|min|abs|sum|chr|ord|list|sorted|divmod|int
def Bi.val:Bi->Value
 |.len=>.builtin "len"|.range=>.type "range"|.max=>.builtin "max"|.min=>.builtin "min"|.abs=>.builtin "abs"|.sum=>.builtin "sum"
 |.chr=>.builtin "chr"|.ord=>.builtin "ord"|.list=>.type "list"|.sorted=>.builtin "sorted"|.divmod=>.builtin "divmod"|.int=>.type "int"
def Bi.name:Bi->Str
 |.len=>"len"|.range=>"range"|.max=>"max"|.min=>"min"|.abs=>"abs"|.sum=>"sum"
 |.chr=>"chr"|.ord=>"ord"|.list=>"list"|.sorted=>"sorted"|.divmod=>"divmod"|.int=>"int"
def d1(f:D->Option D):List D->Option D
 |[]=>none
 |x::r=>match r with
  |[]=>f x
  |_::_=>none
def d2(f:D->D->Option D):List D->Option D
 |[]=>none
 |x::r=>d1 (f x) r
def ah0(n:Nat):Option D:=if n<=dC then some (.int n)else none
def ah1(d:D):Option D:=((qL d).bind λx=>ah0 x.1.length).or ((qS d).bind λx=>ah0 x.1.length)
def UE(f:UInt64->Option D)(d:D):Option D:=(qF d).bind λx=>f x.1
def Fm(f:Int->Option D)(d:D):Option D:=(qI d).bind λx=>f x.1
def Ma(f:List D->Option D)(d:D):Option D:=(qL d).bind λx=>f x.1
def ah2(x:Str):Option D:=match x.cps.toList with
    |[]=>none
    |c::r=>match r with
     |[]=>some (.int c)
     |_::_=>none
def ah3(d:D):Option D:=(qS d).bind λx=>ah2 x.1
def XX(d:D):Option D:=((qR d).bind λx=>if lx x.1.1 x.1.2.1 x.1.2.2=true/\jh x.1.1 x.1.2.1 x.1.2.2<=dC then some (.lst (mj x.1.1 x.1.2.2 (jh x.1.1 x.1.2.1 x.1.2.2)))else none).or ((qL d).bind λl=>if l.1.length<=dC then some (.lst l.1)else none)
def ah4:List Int->Option D
 |[]=>none
 |a::r=>match r with
  |[]=>some (.om 0 a 1)
  |b::q=>match q with
   |[]=>some (.om a b 1)
   |c::k=>match k with
    |[]=>if c≠0/\sm c=true then some (.om a b c)else none
    |_::_=>none
def Fo(f:Int->Int->Option D):List Int->Option D
 |[]=>none
 |a::r=>match r with
  |[]=>none
  |b::q=>match q with
   |[]=>f a b
   |_::_=>none
def dmI(a b:Int):Option D:=if b≠0/\sm b=true then some (.tup [.int (a.fdiv b),.int (a.fmod b)])else none
def ah5(a b:Int):Option D:=some (.lst (if a<=b then[.int a,.int b]else[.int b,.int a]))
def aa2(k:UInt64->UInt64->UInt64->UInt64):List D->Option D
 |[]=>none
 |x::r=>(qF x).bind λa=>d2 (SO λb c=>some (.aR (k a.1 b c))) r
def ah6(l:List D):Option D:=(iD l).bind λns=>(aa1 ns).map .int
def ah7(i j:Int):Option D:=some (.int (if j<i then j else i))
def bY:Bi->List D->Option D
 |.len,ds=>d1 ah1 ds
 |.range,ds=>(iD ds).bind ah4
 |.max,ds=>(d1 (Ma ah6) ds).or (aa2 AE ds)
 |.min,ds=>(d2 (H6 ah7) ds).or (aa2 L9 ds)
 |.abs,ds=>d1 (UE λa=>some (.aR (uD a))) ds
 |.sum,ds=>d1 (Ma λl=>(iD l).map λns=>.int ns.sum) ds
 |.chr,ds=>d1 (Fm λi=>if 0<=i/\i<=0x10FFFF then some (.str ⟨#[i.toNat]⟩)else none) ds
 |.ord,ds=>d1 ah3 ds
 |.list,ds=>d1 XX ds
 |.sorted,ds=>d1 (Ma λl=>(iD l).bind (Fo ah5)) ds
 |.divmod,ds=>(iD ds).bind (Fo dmI)
 |.int,ds=>d1 (UE λx=>if cO x then some (.int (bX cu x))else none) ds
section
variable{prog:bb}{w:World}{A:aE}{E:Value->ak->Prop}{s:ak}{F:Addr->Prop}
theorem yU:∀(ns:List Int)(n M:Int),M∈n::ns->(∀a∈n::ns,a<=M)->ns.foldl max n=M:=by
 intro zx
 induction zx with
 |nil=>
  rintro n M h1 _;simp at h1;simp[h1]
 |cons m ns ih=>
  rintro n M h1 h2;rw[jf];refine ih (max n m) M ?_ λa ha=>?_
  ·have a1:=h2 n (by simp)
   have a2:=h2 m (by simp);rcases aL.mp h1 with rfl|h1
   ·rw[show max M m=M by omega];exact ax
   ·rcases aL.mp h1 with rfl|h1
    ·rw[show max n M=M by omega];exact ax
    ·exact av _ h1
  ·rcases aL.mp ha with rfl|ha
   ·have a1:=h2 n (by simp)
    have a2:=h2 m (by simp);omega
   ·exact h2 a (by simp[ha])
theorem Ok.fr(o:Ok A F s):∃mg,Fr {} mainGlobals s.heap mg:=by
 obtain⟨mg,x⟩:=o.gl;exact⟨mg,x,λb o e=>by simp[Heap.get?]at e,dx _⟩
theorem Fp:News h L h' []:=λ_ hp=>nomatch hp
theorem ex7{α β γ δ ε ζ η:Type}{p:α->β->γ->δ->ε->ζ->η->Prop}(a:α)(b:β)(c:γ)(d:δ)(e:ε)(f:ζ)(g:η)(h:p a b c d e f g):∃a b c d e f g,p a b c d e f g:=⟨a,b,c,d,e,f,g,h⟩
def UG(a b c:UInt64):Nat->UInt64
 |0=>a
 |n+1=>match n with
  |0=>b
  |_+1=>c
theorem UH(ht:t≠0)(hu:u≠0)(hv:v≠0)(i:Nat)(y:Value)(e:(#[.float a t,.float b u,.float c v]:Array Value)[i]? =some y):∃k,y=.float (UG a b c i) k/\k≠0:=by
 cases i with
 |zero=>exact⟨t,(ai e).symm,ht⟩
 |succ i=>
  cases i with
  |zero=>exact⟨u,(ai e).symm,hu⟩
  |succ i=>
   cases i with
   |zero=>exact⟨v,(ai e).symm,hv⟩
   |succ i=>exact no ((Array.getElem?_eq_none (Nat.le_add_left 3 i)).symm.trans e)
theorem ah8(a b c)(cm:UInt64->UInt64->Bool):UG a b c (argBest (λi j=>cm (UG a b c i) (UG a b c j)) (3 - 1))=(bif cm c (bif cm b a then b else a)then c else(bif cm b a then b else a)):=by
 show UG a b c (if cm c (UG a b c (if cm b a=true then 1 else 0))=true then 2 else(if cm b a=true then 1 else 0))=_;cases cm b a with
 |true=>
  show UG a b c (if cm c b=true then 2 else 1)=bif cm c b then c else b;cases cm c b<;>rfl
 |false=>
  show UG a b c (if cm c a=true then 2 else 0)=bif cm c a then c else a;cases cm c a<;>rfl
theorem xq{op:CmpOp}{id:String}{a b c:UInt64}{t u v:Tok}(cm:UInt64->UInt64->Bool)(ok:Ok A F s)(ht:t≠0)(hu:u≠0)(hv:v≠0)
(rule:∀{Q:Value->ak->Prop},wpAny (model prog w) A.in1 (pyIter (.ref s.heap.objs.size)) (λit fk=>∃I fp wr n P St bt,it=.ref I/\Walks prog w A.in1 I fp wr n P St/\St 0 fk.heap/\(∀b∈fp,b<fk.heap.objs.size)/\0<n/\CmpOf prog w A.in1 op P bt/\
   ∀v h' tk,P (argBest bt (n - 1)) v->(∀b o,b∉wr->fk.heap.get? b=some o->h'.get? b=some o)->Q v {fk with heap:=h',toks:=tk}) E
   {s with heap:=s.heap.push {cls:=.type "tuple",data:=.seq #[.float a t,.float b u,.float c v]}}->wpAny (model prog w) A (call (.builtin id) [.float a t,.float b u,.float c v]) Q E s)
(hc:∀(x y:UInt64)(t u:Tok)(s:ak)(Q:Value->ak->Prop)(E:Value->ak->Prop),Q (.bool (cm x y)) s->wpAny (model prog w) A.in1 (richCompare op (.float x t) (.float y u)) Q E s):
 wpAny (model prog w) A (call (.builtin id) [.float a t,.float b u,.float c v]) (iJ F s (.aR (bif cm c (bif cm b a then b else a)then c else(bif cm b a then b else a)))) E s:=by
 refine rule ?_;generalize hH:s.heap.push {cls:=.type "tuple",data:=.seq #[.float a t,.float b u,.float c v]}=H;have hT:H.IsTuple s.heap.objs.size #[.float a t,.float b u,.float c v]:=by rw[<-hH];exact⟨_,jm _ _ rfl,rfl,_,rfl⟩
 have hsz:s.heap.objs.size<H.objs.size:=by rw[<-hH,jM];exact fN _
 have W:=Walks.tuple (prog:=prog) (w:=w) (A:=A.in1) ok.hh H.objs.size s.heap.objs.size (gG hsz) #[.float a t,.float b u,.float c v];have XY:bU s.heap H:=λb o e=>by rw[<-hH];exact bj _ e
 refine wpAny_pyIter_tuple hT ?_;let xs:Nat->UInt64:=UG a b c;have hP:=UH (a:=a) (b:=b) (c:=c) ht hu hv;refine ex7 _ _ _ _ _ _ (λi j=>cm (xs i) (xs j)) ⟨rfl,W,⟨⟨_,jm _ _ rfl,rfl,rfl⟩,?_⟩,?_,(by show 0<3;decide),?_,?_⟩
 ·obtain⟨o,e,r⟩:=hT
  exact⟨o,bj _ e,r⟩
 ·intro q hq
  rw[jM];rcases aL.mp hq with rfl|hq
  ·exact fN _
  ·rw[aU.mp hq];exact DS hsz
 ·intro i j vi vj s' Q E' hi hj hQ
  obtain⟨k1,rfl,_⟩:=hP i vi hi;obtain⟨k2,rfl,_⟩:=hP j vj hj;exact hc _ _ _ _ _ _ _ hQ
 ·intro y h' tk hy hk
  obtain⟨k,rfl,hk0⟩:=hP _ y hy;have e:=ah8 a b c cm;refine⟨⟨h',tk,rfl,λq o e'=>hk q o ?_ (bj _ (XY q o e'))⟩,?_⟩
  ·intro hm
   rw[aU.mp hm]at e';exact fg _ (dn hsz (dT e'))
  ·exact e▸CL hk0
end
end
section
section
variable{prog:bb}{w:World}{A:aE}{E:Value->ak->Prop}{s:ak}{F:Addr->Prop}
theorem uY(c)(n)(a):mj a c n=(rangeInts a c n).map .int:=by
 apply alM;intro i;by_cases h:i<n
 ·rw[BD c n a i h,rA,rangeInts_get h];rfl
 ·rw[nj (by rw[o8];omega),nj (by rw[ag,rangeInts_length];omega)]
theorem Ic(c)(n)(a)(ys)(x:J4 ys (rangeInts a c n)):aZ h F (mj a c n) ys:=by
 rw[uY];exact BE x
theorem Ie{a b:Int}{ns:List Int}(h1:ns.Perm [a,b])(h2:ns.Pairwise (·<=·)):ns=if a<=b then[a,b]else[b,a]:=by
 have key:∀{l:List Int},ns.Perm l->l.Pairwise (·<=·)->ns=l:=λp q=>p.eq_of_pairwise (λ_ _ _ _=>Int.le_antisymm) h2 q;by_cases h:a<=b
 ·rw[if_pos h];exact key h1 (by simpa using h)
 ·rw[if_neg h];exact key (h1.trans (aeh b a [])) (by simpa using DT (Int.not_le.mp h))
theorem PF(r:aZ h F [d] vs):∃v,vs=[v]/\bT h F d v:=by
 obtain⟨v,r',rfl,a,b⟩:=r.gk;exact⟨v,b.qy▸rfl,a⟩
theorem UI(h:cO x=true)(q:xV x=true):False:=by
 unfold cO at h;unfold xV at q;split at q<;>simp_all
theorem UJ(h:cO x=true)(q:mL x=true):False:=by
 unfold cO at h;unfold mL at q;split at q<;>simp_all
theorem d1E{P:List Value->Prop}{f:D->Option D}{h:Heap}{ds:List D}{vs:List Value}{d:D}(r:aZ h F ds vs)(e:d1 f ds=some d)(k:∀x v,bT h F x v->f x=some d->P [v]):P vs:=by
 cases ds with
 |nil=>exact no e
 |cons x ds=>
  cases ds with
  |nil=>obtain⟨v,a,b⟩:=PF r;exact a▸k x v b e
  |cons _ _=>exact no e
theorem d2E{P:List Value->Prop}{f:D->D->Option D}{h:Heap}{ds:List D}{vs:List Value}{d:D}(r:aZ h F ds vs)(e:d2 f ds=some d)(k:∀x y v v',bT h F x v->bT h F y v'->f x y=some d->P [v,v']):P vs:=by
 cases ds with
 |nil=>exact no e
 |cons x ds=>
  obtain⟨v,r',e1,a,b⟩:=r.gk;exact e1▸d1E (P:=λl=>P (v::l)) b e λy v' c e=>k x y v v' a c e
theorem ao8{P:Value->Prop}{f:UInt64->Option D}{h:Heap}{x:D}{v:Value}{d:D}(r:bT h F x v)(e:UE f x=some d)(k:∀y t,t≠0->f y=some d->P (.float y t)):P v:=by
 obtain⟨y,_,e⟩:=aO e;obtain⟨t,a,b⟩:=r.f y;exact a▸k y.1 t b e
theorem ah9{P:Value->Prop}{f:Int->Option D}{h:Heap}{x:D}{v:Value}{d:D}(r:bT h F x v)(e:Fm f x=some d)(k:∀y t,f y=some d->P (.int y t)):P v:=by
 obtain⟨y,_,e⟩:=aO e;obtain⟨t,a⟩:=r.i y;exact a▸k y.1 t e
theorem aia{P:Value->Prop}{f:List D->Option D}{h:Heap}{x:D}{v:Value}{d:D}(r:bT h F x v)(e:Ma f x=some d)(k:∀l a vs n,IsL h a vs.toArray n->aZ h F l vs->f l=some d->P (.ref a)):P v:=by
 obtain⟨y,_,e⟩:=aO e;obtain⟨a,vs,n,e1,_,e2,e3⟩:=r.l y;exact e1▸k y.1 a vs n e2 e3 e
abbrev BC(prog:bb)(w:World)(A:aE)(E:Value->ak->Prop)(F:Addr->Prop)(s:ak)(c:Value)(vs:List Value)(d:D):Prop:=wpAny (model prog w) A (call c vs) (iJ F s d) E s
theorem PG(h:n<=dC):(n:Int)<2^63:=pZ.mpr (bx h (by decide))
theorem Mb(r:bT s.heap F x v)(e:ah1 x=some d):BC prog w A E F s (.builtin "len") [v] d:=by
 refine n7 e (λe=>?_) λe=>?_
 ·obtain⟨y,_,e⟩:=aO e
  obtain⟨h,e⟩:=bh e;obtain⟨a,vs,n,rfl,na,hl,hr⟩:=r.l y;rw[<-hr.length]at h e;exact e▸PySem.Calls.call_len_list hl.isList (PG h) mO
 ·obtain⟨y,_,e⟩:=aO e
  obtain⟨h,e⟩:=bh e;obtain⟨t,rfl⟩:=r.s y;exact e▸PyProof.Rows.len_str (Int.not_le.mpr (PG h)) mO
theorem Fq(ok:Ok A F s)(r:J4 vs ns)(e:ah4 ns=some d):BC prog w A E F s (.type "range") vs d:=by
 cases r with
 |nil=>exact no e
 |cons a t r=>
  cases r with
  |nil=>
   exact ai e▸call_range_1 ⟨Keeps.E8 _ _,yl (nN ok.lo) (avf ..)⟩
  |cons b u r=>
   cases r with
   |nil=>
    exact ai e▸call_range_2 ⟨Keeps.E8 _ _,yl (nN ok.lo) (avf ..)⟩
   |cons c u' r=>
    cases r with
    |nil=>
     obtain⟨h,e⟩:=bh e;obtain⟨mg,fr⟩:=ok.fr;exact e▸range3_rows fr Fp h.1 (λh' tk t1 u1 v1 hr _ _ hk=>⟨⟨h',tk,rfl,hk⟩,yl (nN ok.lo) hr⟩) (.inl (aaL h.2))
    |cons _ _ _=>exact no e
theorem Fs(e:iD l=some ns)(hl:IsL h a vs.toArray n)(r:aZ h F l vs):∃xs:Array (Int×Tok),h.IsList a (intItems xs)/\ns=xs.toList.map (·.1):=by
 have hI:=mI e r;obtain⟨xs,ex⟩:=hI.allInts.items;have qq:=hl.isList;rw[ex]at qq;exact⟨xs,qq,by rw[<-hI.numsOf,<-nums_intItems,<-ex]⟩
theorem CR(ok:Ok A F s)(hl:s.heap.IsList a (intItems xs))(Ig:ns=xs.toList.map (·.1))(e:aa1 ns=some M):BC prog w A E F s (.builtin "max") [.ref a] (.int M):=by
 cases ns with
 |nil=>exact no e
 |cons m ns=>
  have hsz:0<xs.size:=by rw[<-cT,<-ag (f:=(·.1)),<-Ig];exact Nat.zero_lt_succ _
  refine max_intList ok.hh hl hsz λv h' tk hv hk=>?_;obtain⟨t,rfl⟩:=intItems_at hv;obtain⟨h1,h2⟩:=argBest_gt (numAt xs) (xs.size - 1);have hM:ns.foldl max m=numAt xs (argBest (λi j=>decide (numAt xs i>numAt xs j)) (xs.size - 1)):=by
   refine yU ns m _ ?_ λa ha=>?_
   ·rw[Ig,numAt_eq];exact PySem.getD_mem (by rw[ag,cT];exact Nat.lt_of_le_pred hsz h1)
   ·rw[Ig]at ha
    obtain⟨j,hj,rfl⟩:=mem_getD ha;rw[ag,cT]at hj;rw[<-numAt_eq];exact h2 j (Nat.le_sub_one_of_lt hj)
  exact⟨⟨h',tk,rfl,hk⟩,ai e▸hM▸jW⟩
theorem yV{c:Value}{k:UInt64->UInt64->UInt64->UInt64}{ds:List D}{vs:List Value}{d:D}(k3:∀i j l t u v,t≠0->u≠0->v≠0->BC prog w A E F s c [.float i t,.float j u,.float l v] (.aR (k i j l)))
(r:aZ s.heap F ds vs)(e:aa2 k ds=some d):BC prog w A E F s c vs d:=by
 cases ds with
 |nil=>exact no e
 |cons x ds=>
  obtain⟨a,_,e⟩:=aO e;obtain⟨v,r',e1,r0,r1⟩:=r.gk;obtain⟨t,e2,h1⟩:=r0.f a;rw[e1,e2];refine d2E (P:=λl=>BC prog w A E F s c (.float a.1 t::l) d) r1 e λy z v1 v2 r2 r3 e=>?_;exact SP (P:=λv1 v2=>BC prog w A E F s c [.float a.1 t,v1,v2] d) (λi j u v q1 q2 e=>by exact ai e▸k3 _ _ _ _ _ _ h1 q1 q2) r2 r3 e
theorem Mc(ok:Ok A F s)(e:iD l=some ns)(hl:IsL s.heap a vs.toArray n)(r:aZ s.heap F l vs):BC prog w A E F s (.builtin "sum") [.ref a] (.int ns.sum):=by
 obtain⟨xs,h1,h2⟩:=Fs e hl r;refine sum_intListG ok.hh h1 λh' tk t' hk=>⟨⟨h',tk,rfl,hk⟩,?_⟩
 rw[preSum_eq,h2,show xs.size=(xs.toList.map (·.1)).length by rw[ag,cT],fG];exact jW
theorem Md(e:(if 0<=i/\i<=0x10FFFF then some (D.str ⟨#[i.toNat]⟩)else none)=some d):BC prog w A E F s (.builtin "chr") [.int i t] d:=
 (bh e).2▸chr_of_range (bh e).1.1 (bh e).1.2 Fc
theorem Mf(e:ah2 x=some d):∃c,x=⟨#[c]⟩/\d=.int c:=by
 obtain⟨⟨l⟩⟩:=x;cases l with
 |nil=>exact no e
 |cons c l=>
  cases l with
  |nil=>exact⟨c,rfl,(ai e).symm⟩
  |cons _ _=>exact no e
theorem Mg(r:bT s.heap F x v)(e:ah3 x=some d):BC prog w A E F s (.builtin "ord") [v] d:=by
 obtain⟨y,_,e⟩:=aO e;obtain⟨t,rfl⟩:=r.s y;obtain⟨c,h,rfl⟩:=Mf e;exact h▸PySem.P.ord_of_char mO
abbrev BL(prog:bb)(w:World)(A:aE)(E:Value->ak->Prop)(F:Addr->Prop)(s:ak)(v:Value)(d:D):Prop:=wpAny (model prog w) A (call (.type "list") [v]) (λv s'=>iJ F s d v s'/\lH s v) E s
theorem PH(ok:Ok A F s)(h:l.length<=dC)(r:RL s.heap F l v):BL prog w A E F s v (.lst l):=by
 obtain⟨a,vs,n,e,na,hl,hr⟩:=r;exact e▸call_list_seq a (.inl rfl) hl rfl rfl (λh' c' hk hD=>⟨⟨⟨h',s.toks,rfl,hk⟩,jX (nN ok.lo) hD (hr.keeps hk)⟩,_,rfl,lu _⟩) (by rw[bg,hr.length];exact ao h iQ)
theorem PJ(ok:Ok A F s)(h:lx a b c=true)(eY:jh a b c<=dC)(r:RR s.heap F a b c v):BL prog w A E F s v (.lst (mj a c (jh a b c))):=by
 unfold lx at h;simp only[ay,decide_eq_true_eq]at h;obtain⟨r,t,u,w',e,na,hl⟩:=r;obtain⟨mg,fr⟩:=ok.fr;refine e▸list_rangeD (n:=jh a b c) ok.hh fr Fp hl h.1.2 (Ak h.2).symm (ao eY (by decide)) λh' tk ys _ _ hk _ hL hP hC=>⟨⟨⟨h',tk,rfl,hk⟩,?_⟩,_,rfl,lu _⟩
 obtain⟨⟨c',hD⟩,_⟩:=hP;exact jX (nN ok.lo) hD (Ic _ _ _ _ (IntsAre.ofCarried hC))
theorem yW(ok:Ok A F s)(r:bT s.heap F x v)(e:XX x=some d):BL prog w A E F s v d:=by
 refine n7 e (λe=>?_) λe=>?_
 ·obtain⟨y,_,e⟩:=aO e
  exact(bh e).2▸PJ ok (bh e).1.1 (bh e).1.2 (r.r y)
 ·obtain⟨y,_,e⟩:=aO e
  exact(bh e).2▸PH ok (bh e).1 (r.l y)
inductive I2(f:Int->Int->Option D)(d:D):List Value->List Int->Prop
 |mk (a:Int) (t:Tok) (b:Int) (u:Tok) (e:f a b=some d):I2 f d [.int a t,.int b u] [a,b]
theorem BG(r:J4 vs ns)(e:Fo f ns=some d):I2 f d vs ns:=by
 cases r with
 |nil=>exact no e
 |cons a t r=>
  cases r with
  |nil=>exact no e
  |cons b u r=>
   cases r with
   |cons _ _ _=>exact no e
   |nil=>exact⟨a,t,b,u,e⟩
theorem CT(ok:Ok A F s)(e:iD l=some ns)(hl:IsL s.heap a vs.toArray n)(hr:aZ s.heap F l vs)(e2:Fo ah5 ns=some d):BC prog w A E F s (.builtin "sorted") [.ref a] d:=by
 have hI:=mI e hr;cases BG hI e2 with
 |mk i t j u e2=>
  refine sorted_ints hl.isList hI (by show 2<64;decide) λout ns' h1 h2 h3=>?_;obtain⟨e',he'⟩:=sortedAll_at s.heap [.int i t,.int j u] out;refine⟨⟨_,s.toks,rfl,λb o g=>sortedAll_old g⟩,?_⟩;rw[<-ai e2];refine jX (λq=>?_) (vs:=out.toList) he' ?_
  ·obtain⟨o,g⟩:=aA.mp (ok.lo _ q)
   exact fg _ (dn (fN _) (dT g))
  ·rw[Ie h2 h3]at h1
   have:=BE (F:=F) (h:=sortedAll s.heap [.int i t,.int j u] out) h1;by_cases q:i<=j
   ·rw[if_pos q]at this⊢;exact this
   ·rw[if_neg q]at this⊢;exact this
theorem CU(ok:Ok A F s)(r:J4 vs ns)(e:Fo dmI ns=some d):BC prog w A E F s (.builtin "divmod") vs d:=by
 cases BG r e with
 |mk i t j u e=>
  obtain⟨h,e⟩:=bh e;exact e▸divmod_int h.1 ⟨Keeps.E8 _ _,CM (vs:=[_,_]) (nN ok.lo) (IsT.new ..) (.cons jW (.one jW))⟩ (.inl (aaL h.2))
theorem Mh(ok:Ok A F s)(e:(if cO x=true then some (D.int (bX cu x))else none)=some d):BC prog w A E F s (.type "int") [.float x t] d:=by
 obtain⟨h,e⟩:=bh e;exact e▸PySem.Flt.call_int_float3 ok.hh (λq=>(UI h q).elim) (λq=>(UJ h q).elim) λ_=>mO
theorem UK{c:Value}{f:D->Option D}{d:D}(r:aZ s.heap F ds vs)(e:d1 f ds=some d)(k:∀x v,bT s.heap F x v->f x=some d->BC prog w A E F s c [v] d):BC prog w A E F s c vs d:=d1E (P:=λvs=>BC prog w A E F s c vs d) r e k
theorem bFE{c:Value}{f:UInt64->Option D}{d:D}(r:bT s.heap F x v)(e:UE f x=some d)(k:∀y t,f y=some d->BC prog w A E F s c [.float y t] d):BC prog w A E F s c [v] d:=ao8 (P:=λv=>BC prog w A E F s c [v] d) r e λy t _=>k y t
theorem bLE{c:Value}{f:List D->Option D}{d:D}(r:bT s.heap F x v)(e:Ma f x=some d)(k:∀l a vs n,IsL s.heap a vs.toArray n->aZ s.heap F l vs->f l=some d->BC prog w A E F s c [.ref a] d):BC prog w A E F s c [v] d:=aia (P:=λv=>BC prog w A E F s c [v] d) r e k
theorem Ih(ok:Ok A F s)(hl:IsL s.heap a vs.toArray n)(hr:aZ s.heap F l vs)(e:ah6 l=some d):BC prog w A E F s (.builtin "max") [.ref a] d:=by
 obtain⟨ns,e1,e2⟩:=aO e;obtain⟨M,e3,rfl⟩:=dM e2;obtain⟨xs,h3,h4⟩:=Fs e1 hl hr;exact CR ok h3 h4 e3
theorem Ii(ok:Ok A F s)(r1:bT s.heap F x v)(r2:bT s.heap F y v')(e:H6 ah7 x y=some d):BC prog w A E F s (.builtin "min") [v,v'] d:=by
 refine Kt (P:=λv v'=>BC prog w A E F s (.builtin "min") [v,v'] d) (λi j t u e=>?_) r1 r2 e;exact ai e▸min_two_ints ok.hh λh' tk hk=>⟨⟨h',tk,rfl,hk⟩,by split<;>exact jW⟩
theorem PK(ok:Ok A F s)(r:aZ s.heap F ds vs)(e:bY b ds=some d):
 wpAny (model prog w) A (call b.val vs) (iJ F s d) E s:=by
 cases b with
 |len=>exact UK r e λx v r e=>Mb r e
 |range=>
  obtain⟨ns,e1,e2⟩:=aO e;exact Fq ok (mI e1 r) e2
 |max=>exact n7 e (λe=>UK r e λx v r e=>bLE r e λl a vs n h1 h2 e=>Ih ok h1 h2 e) λe=>yV (k:=AE) (λi j l t u v h0 h1 h2=>xq fgt ok h0 h1 h2 (λh=>call_max_three h) λx y t u s Q E h=>AutoFloatOps.gt_0 h) r e
 |min=>exact n7 e (λe=>d2E (P:=λl=>BC prog w A E F s (.builtin "min") l d) r e λx y v v' r1 r2 e=>Ii ok r1 r2 e) λe=>yV (k:=L9) (λi j l t u v h0 h1 h2=>xq PE ok h0 h1 h2 (λh=>call_min_three h) λx y t u s Q E h=>NZ h) r e
 |abs=>
  refine UK r e λx v r e=>bFE r e λy t e=>?_;exact ai e▸PySem.Flt.call_abs_float (yR ok.tk)
 |sum=>
  refine UK r e λx v r e=>bLE r e λl a vs n h1 h2 e=>?_;obtain⟨ns,e1,rfl⟩:=dM e;exact Mc ok e1 h1 h2
 |chr=>exact UK r e λx v r e=>ah9 (P:=λv=>BC prog w A E F s (.builtin "chr") [v] d) r e λy t e=>Md e
 |ord=>exact UK r e λx v r e=>Mg r e
 |list=>exact UK r e λx v r e=>aj (yW ok r e) (λ_ _ q=>q.1) λ_ _ e=>e
 |sorted=>
  refine UK r e λx v r e=>bLE r e λl a vs n h1 h2 e=>?_;obtain⟨ns,e1,e2⟩:=aO e;exact CT ok e1 h1 h2 e2
 |divmod=>
  obtain⟨ns,e1,e2⟩:=aO e;exact CU ok (mI e1 r) e2
 |int=>exact UK r e λx v r e=>bFE r e λy t e=>Mh ok e
end
end
section
open Builtin.Str
def jG(n:Nat)(d:Nat):Option Int->Nat
 |none=>d
 |some i=>(max 0 (min (if i<0 then i+n else i) n)).toNat
def sl(lo hi:Option Int)(l:List α):List α:=
 (l.drop (jG l.length 0 lo)).take (jG l.length l.length hi - jG l.length 0 lo)
theorem PN(h:d<=n)(i:Option Int):jG n d i<=n:=by
 unfold jG;cases i with
 |none=>exact h
 |some i=>exact Int.toNat_le.mpr (Int.max_le.mpr ⟨cg _,Int.min_le_right ..⟩)
theorem Ft(lo hi:Option Int)(n):sliceBounds lo hi none n=(((jG n 0 lo:Nat):Int),((jG n n hi:Nat):Int),(1:Int)):=by
 unfold sliceBounds jG;cases lo<;>cases hi<;>simp only[Cw]<;>simp<;>lia
theorem UL(vs)(lo hi:Option Int):slicePick vs.toArray lo hi none=(sl lo hi vs).toArray:=by
 unfold slicePick;rw[Ft];dsimp only;rw[bg,W9,pick_run];rfl
theorem xr(lo hi:Option Int)(n):strSliceIndices lo hi 1 n=sliceRange (jG n 0 lo:Nat) (jG n n hi:Nat) 1:=by
 unfold strSliceIndices jG;cases lo<;>cases hi<;>simp only[gt_iff_lt,Int.zero_lt_one,if_true]<;>first|rfl|(congr 1<;>simp<;>lia)|skip
theorem Mi(x:Str)(lo hi:Option Int):((strSliceIndices lo hi 1 x.length).filterMap (x.cps[·]?)).toArray=(sl lo hi x.cps.toList).toArray:=by
 rw[xr,W9,pick_run];rfl
def UM(i:Int)(ds:List D):Option D:=(seqIndex? i ds.length).bind λj=>ds[j]?
def itS(i:Int)(x:Str):Option D:=(seqIndex? i x.length).bind λj=>(x.cps.toList[j]?).bind λc=>some (.str ⟨#[c]⟩)
def g8(o:D)(i:Int):Option D:=
 if -(2^62)<=i/\i<2^62 then((qL o).bind λl=>UM i l.1).or (((qT o).bind λl=>UM i l.1).or ((qS o).bind λx=>itS i x.1))else none
def qD(o:D)(lo hi:Option Int):Option D:=((qL o).bind λds=>if ds.1.length<=dC then some (.lst (sl lo hi ds.1))else none).or ((qS o).bind λx=>if x.1.length<=dC then some (.str ⟨(sl lo hi x.1.cps.toList).toArray⟩)else none)
theorem CV{lo hi:Option Int}{ds:List D}:qD (.lst ds) lo hi=if ds.length<=dC then some (.lst (sl lo hi ds))else none:=(anc:(if ds.length<=dC then some (D.lst (sl lo hi ds))else none).or none=_)
theorem Kz(h: -(2^62)<=i/\i<2^62):g8 (.lst ds) i=UM i ds:=(if_pos h).trans (anc:(UM i ds).or none=UM i ds)
theorem UN(h: -(2^62)<=i/\i<2^62):g8 (.str x) i=itS i x:=if_pos h
section
variable{prog:bb}{w:World}{A:aE}{E:Value->ak->Prop}{s:ak}{F:Addr->Prop}
def BH(s:ak)(o:Value):Prop:=∃T id,s.TypeIs o T/\typeLookup (.type T) "__getitem__"=pure (some (.builtin id))
theorem BI:BH s (.str x t):=⟨"str",_,typeIs_str s _ t,PySem.F.slot_str_getitem.lookup⟩
theorem Mj(hl:IsT s.heap a vs n):BH s (.ref a):=⟨"tuple",_,⟨_,hl,rfl⟩,PySem.F.slot_tuple_getitem.lookup⟩
theorem BJ(hl:IsL s.heap a vs n):BH s (.ref a):=⟨"list",_,hl.isList.typeIs,list_getitem_lookup⟩
theorem UO(slice)(o i):∃l,subscripted slice false o i=operate l (getItem o i):=by
 have k:∃l,operate [o,i] (getItem o i)=operate l (getItem o i):=⟨_,rfl⟩
 have k2:∀lo hi st p,∃l,subscripted (.Slice lo hi st p) false o i=operate l (getItem o i):=λlo hi st p=>by cases st<;>exact⟨_,rfl⟩
 exact fj (motive_1:=λslice=>∃l,subscripted slice false o i=operate l (getItem o i)) slice (λ_ _ _=>k) (λ_ _ _=>k) (λ_ _ _ _=>k) (λ_ _ _=>k) (λ_ _ _ _=>k) (λ_ _ _ _=>k) (λ_ _ _=>k) (λ_ _ _=>k) (λ_ _ _ _=>k) (λ_ _ _ _=>k) (λ_ _ _ _ _=>k) (λ_ _ _ _=>k) (λ_ _=>k) (λ_ _=>k) (λ_ _=>k) (λ_ _ _ _=>k) (λ_ _ _ _=>k) (λ_ _ _ _=>k) (λ_ _=>k) (λ_ _ _=>k) (λ_ _ _=>k) (λ_ _ _=>k) (λ_ _=>k) (λ_ _=>k) (λ_ _=>k) (λ_ _ _=>k) k2
theorem BK
(h:wpAny (model prog w) A (eval value env) (λo aQ=>wpAny (model prog w) A (eval slice env) (λi fk=>BH fk o/\wpAny (model prog w) A (getItem o i) Q E fk) E aQ) E s):
 wpAny (model prog w) A (eval (.Subscript value slice pos) env) Q E s:=by
 refine Subscript_ (aj h (λo aQ qE=>aj qE (λi fk yX=>?_) λ_ _ e=>e) λ_ _ e=>e);obtain⟨⟨T,id,hT,hl⟩,hg⟩:=yX;unfold subscriptTail;refine aw ?_;rw[getitemInPython_of_ne hT.not_modules];refine aw (wpAny_specialOf hT hl ?_);have fin:wpAny (model prog w) A (subscripted slice false o i) (λr fJ=>wpAny (model prog w) A (letTemporaryGo value o r >>= λ_=>pure r) Q E fJ) E fk:=by
  have hh:∀l,wpAny (model prog w) A (operate l (getItem o i)) (λr fJ=>wpAny (model prog w) A (letTemporaryGo value o r >>= λ_=>pure r) Q E fJ) E fk:=
   λl=>wpAny_operating (aj hg (λr fJ apa=>aw (wpAny_letTemporaryGo (aM apa))) λ_ _ x=>x)
  obtain⟨l,e⟩:=UO slice o i;rw[e];exact hh l
 first
  |exact aM (aw fin)
  |exact aw (aM (aw fin))
  |exact aw fin
theorem UP(hi: -(2^62)<=i/\i<2^62)(hl:IsL s.heap a vs.toArray n)(hr:aZ s.heap F ds vs)(e:UM i ds=some d):
 wpAny (model prog w) A (getItem (.ref a) (.int i t)) (iJ F s d) E s:=by
 obtain⟨j,e1,e2⟩:=aO e;obtain⟨x,e3,e4⟩:=hr.get' e2;have fin:iJ (F:=F) s d x s:=⟨Keeps.rfl',e4⟩
 have hlen:=hr.length;have e3':vs.toArray[j]? =some x:=gO.trans e3;unfold seqIndex? at e1;dsimp only at e1;by_cases h0:i<0
 ·rw[if_pos h0]at e1
  obtain⟨hc,rfl⟩:=bh e1;obtain⟨c1,c2⟩:=(ay _ _).mp hc;have c1:=of_decide_eq_true c1;have c2:=of_decide_eq_true c2;refine wpAny_getItem_list_neg hl.isList h0 (by rw[bg,hlen];lia) (by lia) ?_ fin;rw[bg,hlen];exact e3'
 ·rw[if_neg h0]at e1
  obtain⟨hc,rfl⟩:=bh e1;exact wpAny_getItem_list hl.isList (by lia) (by lia) e3' fin
theorem UQ(hi: -(2^62)<=i/\i<2^62)(e:itS i x=some d):wpAny (model prog w) A (getItem (.str x u) (.int i t)) (iJ F s d) E s:=by
 obtain⟨j,e1,e2⟩:=aO e;obtain⟨c,e3,e4⟩:=aO e2;exact ai e4▸PySem.P.getItem_str (c:=c) (by simp;lia) (e1▸by simpa using e3) Fc
theorem UR(hi: -(2^62)<=i/\i<2^62)(hl:IsT s.heap a vs.toArray n)(hr:aZ s.heap F ds vs)(e:UM i ds=some d):wpAny (model prog w) A (getItem (.ref a) (.int i t)) (iJ F s d) E s:=by
 obtain⟨j,e1,e2⟩:=aO e;obtain⟨x,e3,e4⟩:=hr.get' e2;exact PySem.P.getItem_tuple hl (by lia) (by lia) (by rw[bg,hr.length];exact e1) (gO.trans e3) ⟨Keeps.rfl',e4⟩
theorem Ij(ra:bT s.heap F o v)(e:g8 o i=some d):
 BH s v/\wpAny (model prog w) A (getItem v (.int i t)) (iJ F s d) E s:=by
 obtain⟨hi,e⟩:=dy e;refine n7 e (λe=>?_) λe=>n7 e (λe=>?_) λe=>?_
 ·obtain⟨l,_,e⟩:=aO e
  obtain⟨a,vs,n,h,na,hl,hr⟩:=ra.l l;exact h▸⟨BJ hl,UP hi hl hr e⟩
 ·obtain⟨l,_,e⟩:=aO e
  obtain⟨a,vs,n,h,na,hl,hr⟩:=ra.t l;exact h▸⟨Mj hl,UR hi hl hr e⟩
 ·obtain⟨x,_,e⟩:=aO e
  obtain⟨u,h⟩:=ra.s x;exact h▸⟨BI,UQ hi e⟩
theorem US(lo hi:Option Int)(r:aZ h F ds vs):aZ h F (sl lo hi ds) (sl lo hi vs):=by
 unfold sl;rw[r.length];exact(r.drop _).take _
theorem aa3{x:Str}{lo hi:Option Int}(h:(jG x.length x.length hi - jG x.length 0 lo)=x.length):(⟨(sl lo hi x.cps.toList).toArray⟩:Str)=x:=by
 have b1:=PN (bD x.length) hi;have hx:x.cps.toList.length=x.length:=rfl;have e1:jG x.length 0 lo=0\/x.length=0:=by lia
 obtain⟨c⟩:=x;congr 1;unfold sl;rw[hx];rcases e1 with e1|e1
 ·rw[e1]at h⊢
  rw[mq,mv (by rw[hx];lia)]
 ·have:c= #[]:=Array.eq_empty_of_size_eq_zero e1
  rw[this];simp
theorem part_of{lo hi:Option Int}{vl vu:Value}(pl:Hm vl lo)(pu:Hm vu hi):∃l u:Option (Int×Tok),vl=partValue l/\vu=partValue u/\l.map (·.1)=lo/\u.map (·.1)=hi:=by
 cases pl<;>cases pu<;>first
  |exact⟨none,none,rfl,rfl,rfl,rfl⟩
  |exact⟨none,some (_,_),rfl,rfl,rfl,rfl⟩
  |exact⟨some (_,_),none,rfl,rfl,rfl,rfl⟩
  |exact⟨some (_,_),some (_,_),rfl,rfl,rfl,rfl⟩
theorem aa4(x:Str)(lo hi:Option Int):(sl lo hi x.cps.toList).toArray.size<=x.length:=by
 rw[bg];unfold sl;have hx:x.cps.toList.length=x.length:=rfl;rw[dU];exact ao (tv ..) (by rw[eJ];exact lN ..)
theorem PO{x:Str}{u:Tok}{lo hi:Option Int}{vl vu:Value}{sa:Addr}(eY:x.length<=dC)(hs:s.heap.IsSliceOf sa vl vu .none)(pl:Hm vl lo)(pu:Hm vu hi):
 wpAny (model prog w) A (getItem (.str x u) (.ref sa)) (iJ F s (.str ⟨(sl lo hi x.cps.toList).toArray⟩)) E s:=by
 obtain⟨l,u',rfl,rfl,rfl,rfl⟩:=part_of pl pu;refine wpAny_getItem_str_slice (l:=l) (u:=u') (st:=none) hs rfl ?_;unfold sliceMade slicePicked;have hp:=Mi x (l.map (·.1)) (u'.map (·.1));split
 ·rename_i hc
  simp only[alN,Cw,ay,beq_iff_eq]at hc;have hc2:=hc.2;rw[xr,W9,ag,cf]at hc2;rw[aa3 hc2];exact⟨Keeps.rfl',yk⟩
 ·simp only[alN,Cw]
  rw[hp];exact⟨ao (aa4 x _ _) (ao eY iQ),Fc⟩
theorem PQ{lo hi:Option Int}{ds:List D}(lw:jy F s.heap)(eY:ds.length<=dC)(hl:IsL s.heap a vs.toArray n)(hr:aZ s.heap F ds vs)(hs:s.heap.IsSliceOf sa vl vu .none)(pl:Hm vl lo)(pu:Hm vu hi):wpAny (model prog w) A (getItem (.ref a) (.ref sa)) (iJ F s (.lst (sl lo hi ds))) E s:=by
 refine wpAny_getItem_list_slice hl.isList hs pl pu .none (by simp) ⟨Keeps.push _,?_⟩ (by rw[bg,hr.length];exact ao eY iQ);rw[UL];exact oz lw (US _ _ hr)
theorem Ik{o d:D}{lo hi:Option Int}{v vl vu:Value}{sa:Addr}(lw:jy F s.heap)(ra:bT s.heap F o v)(hs:s.heap.IsSliceOf sa vl vu .none)(pl:Hm vl lo)(pu:Hm vu hi)(e:qD o lo hi=some d):
 BH s v/\wpAny (model prog w) A (getItem v (.ref sa)) (iJ F s d) E s:=by
 refine n7 e (λe=>?_) λe=>?_
 ·obtain⟨l,_,e⟩:=aO e
  obtain⟨a,vs,n,h,na,hl,hr⟩:=ra.l l;exact h▸(bh e).2▸⟨BJ hl,PQ lw (bh e).1 hl hr hs pl pu⟩
 ·obtain⟨x,_,e⟩:=aO e
  obtain⟨u,h⟩:=ra.s x;exact h▸(bh e).2▸⟨BI,PO (bh e).1 hs pl pu⟩
end
end
end Internal
namespace Internal
section
open Builtin.Str Builtin
def strs?:List D->Option (List Str)
 |[]=>some []
 |d::r=>(qS d).bind λx=>(strs? r).map (x.1::·)
theorem Mk:∀{ys:List Str}{vs:List Value},strs? ds=some ys->aZ h F ds vs->StrsAre vs ys:=by
 induction ds with
 |nil=>intro ns vs e x;exact x.qy▸ai e▸.nil
 |cons d ds ih=>
  intro ns vs e x;obtain⟨y,_,e⟩:=aO e;obtain⟨ms,e1,rfl⟩:=dM e;obtain⟨v,r,rfl,a,b⟩:=x.gk;obtain⟨t,q⟩:=a.s y;exact q▸.cons _ _ (ih e1 b)
theorem qG(l:List (Str×Tok)):aZ h F (l.map λp=>.str p.1) (strValues l):=by
 induction l with
 |nil=>exact .nil
 |cons x l ih=>exact .cons yk ih
inductive Me where
 |index|find|startswith|join|split|lower|count|kM
def d0(x:Option D):List D->Option D
 |[]=>x
 |_::_=>none
def UT(f:Str->Option D)(d:D):Option D:=(qS d).bind λx=>f x.1
def Mn(f:Str->List D->Option D)(d:D)(ds:List D):Option D:=(qS d).bind λx=>f x.1 ds
def aa5(f:List D->List D->Option D)(d:D)(ds:List D):Option D:=(qL d).bind λx=>f x.1 ds
def apb(f:Int->List D->Option D)(d:D)(ds:List D):Option D:=(qI d).bind λx=>f x.1 ds
def aa6:List Nat->Option D
 |i::_=>some (.int i)
 |[]=>none
def ixS(x:Str)(ds:List D):Option D:=d1 (UT λy=>aa6 (occurrences x y 0 x.length 1)) ds
def ixL(l:List D)(ds:List D):Option D:=d1 (Fm λk=>(iD l).bind λns=>if k∈ns/\ns.length<=dC then some (.int (ns.idxOf k:Nat))else none) ds
def XZ(x y:Str):Option D:=some (.int (N0 x y))
def swS(x y:Str):Option D:=some (.bool (mF x y))
def aa7(f:Str->Str->Option D):D->List D->Option D:=Mn λx=>d1 (UT (f x))
def aib(x:Str)(l:List D):Option D:=(strs? l).bind λys=>if(ys.map (·.length)).sum+ys.length*x.length<=16777216 then some (.str (Txt.join x ys))else none
def PR(x:Str):List D->Option D:=d1 (Ma (aib x))
def X0(x:Str):List D->Option D:=d0 (if x.length<=dC/\(spaceWords x (x.length+1)).length<=dC then some (.lst ((Tc x).map .str))else none)
def aa8(x:Str):List D->Option D:=d0 (if x.length<=1000000 then some (.str (asI x))else none)
def apc(l:List D)(k:Int):Option D:=(iD l).map λns=>.int (ns.count k:Nat)
def aa9(l:List D):List D->Option D:=d1 (Fm (apc l))
def jH:Me->D->List D->Option D
 |.index,o,ds=>(aa5 ixL o ds).or (Mn ixS o ds)
 |.find,o,ds=>aa7 XZ o ds
 |.startswith,o,ds=>aa7 swS o ds
 |.join,o,ds=>Mn PR o ds
 |.split,o,ds=>Mn X0 o ds
 |.lower,o,ds=>Mn aa8 o ds
 |.count,o,ds=>aa5 aa9 o ds
 |.kM,o,ds=>apb (λi=>d0 (some (.int (bR i)))) o ds
def Me.str:Me->Str
 |.index=>"index"|.find=>"find"|.startswith=>"startswith"|.join=>"join"|.split=>"split"|.lower=>"lower"|.count=>"count"|.kM=>"bit_length"
def Me.of(n:Str):Option Me:=[Me.index,.find,.startswith,.join,.split,.lower,.count,.kM].find? λm=>m.str==n
theorem Me.abb(h:Me.of n=some m):n=m.str:=by
 unfold Me.of at h;have:=HF h;exact(eq_of_beq this).symm
section
variable{prog:bb}{w:World}{A:aE}{E:Value->ak->Prop}{s:ak}{F:Addr->Prop}
abbrev MF(s:ak)(m:Me)(p:String×String)(v:Value):Prop:=PlainAttrs p.1/\Slot p.1 m.str p.2/\typeOf (.builtin p.2)=pure (.type "method_descriptor")/\s.TypeIs v p.1/\(∀a,v=.ref a->∃ob,s.heap.get? a=some ob/\ob.dict=none)
abbrev MI(s:ak)(m:Me)(v:Value)(id:String):Prop:=∃T,MF s m (T,id) v
theorem UU{m:Me}{id:String}{x:Str}{t:Tok}(a:Slot "str" m.str id)(b:typeOf (.builtin id)=pure (.type "method_descriptor")):MI s m (.str x t) id:=⟨"str",PySem.F.plainAttrs_str,a,b,typeIs_str _ _ _,λ_ e=>nomatch e⟩
theorem apd{m:Me}{id:String}(hl:IsL s.heap a xs n)(u:Slot "list" m.str id)(b:typeOf (.builtin id)=pure (.type "method_descriptor")):MI s m (.ref a) id:=⟨"list",rC,u,b,hl.isList.typeIs,λb e=>mu e▸⟨_,hl,rfl⟩⟩
theorem ape:MI s .kM (.int i t) "int.bit_length":=⟨"int",PySem.F.plainAttrs_int,PySem.F.slot_int_bit_length,PySem.F.type_int_bit_length,typeIs_int _ _ _,λ_ e=>nomatch e⟩
theorem Il(hl:s.heap.IsList l vs.toArray)(hi:J4 vs ns)
(hb:ns.length<=dC)(hk:k∈ns)(h:Q (.int (ns.idxOf k:Nat) s.toks) {s with toks:=s.toks+1}):
 wpAny (model prog w) A (call (.builtin "list.index") [.ref l,.int k t]) Q E s:=by
 obtain⟨⟨cls,dd,data,sl⟩,ho,hc,n,hd⟩:=id hl;simp only at hc hd;subst hc hd;have hlen:=hi.length;have hj:ns.idxOf k<ns.length:=List.idxOf_lt_length_iff.mpr hk;have eY:dC=1048576:=rfl;refine Hl LK ⟨_,ho,rfl⟩ PySem.F.entry_list_index (PySem.F.args_list_index_2 _ _)
  (PySem.SeqAt.list_indexAt l vs.toArray n dd sl (.int k t) (isInt k) (ns.idxOf k) (by simpa [hlen]using hj) (by omega) ?_ ?_) ⟨ho,λy hy=>(eq_isInt k t hi y (by simpa using hy)).at _ _,h⟩
 ·show isInt k vs[ns.idxOf k]=true
  rw[isInt_at k hi _ (by omega) hj];simpa using qf hj
 ·intro j hjs o5
  show isInt k vs[j]=false;rw[isInt_at k hi j (by simpa using hjs) (by omega)];exact ne_of_lt_idxOf o5 _
theorem yY(r:aZ h F ds vs)(e:d0 x ds=some d):vs=[]/\x=some d:=by
 cases ds with
 |nil=>exact⟨r.qy,e⟩
 |cons _ _=>exact no e
abbrev CB(prog:bb)(w:World)(A:aE)(E:Value->ak->Prop)(F:Addr->Prop)(s:ak)(id:String)(d:D)(vs:List Value):Prop:=wpAny (model prog w) A (call (.builtin id) vs) (iJ F s d) E s
abbrev MS(prog:bb)(w:World)(A:aE)(E:Value->ak->Prop)(F:Addr->Prop)(s:ak)(m:Me)(d:D)(ds:List D)(v:Value):Prop:=∃id,MI s m v id/\∀s2 vs,Ok A F s2->bU s.heap s2.heap->aZ s2.heap F ds vs->CB prog w A E F s2 id d (v::vs)
theorem pf(r0:bT s.heap F o v)(e:Mn f o ds=some d)(k:∀x t,f x ds=some d->MS prog w A E F s m d ds (.str x t)):MS prog w A E F s m d ds v:=by
 obtain⟨x,_,e⟩:=aO e;obtain⟨t,q⟩:=r0.s x;exact q▸k _ t e
theorem yZ{m:Me}{id:String}{f:List D->List D->Option D}{o d:D}(r0:bT s.heap F o v)(e:aa5 f o ds=some d)(u:Slot "list" m.str id)(b:typeOf (.builtin id)=pure (.type "method_descriptor"))(k:∀l a lr n s2 vs,IsL s2.heap a lr.toArray n->aZ s2.heap F l lr->aZ s2.heap F ds vs->f l ds=some d->CB prog w A E F s2 id d (.ref a::vs)):MS prog w A E F s m d ds v:=by
 obtain⟨x,_,e⟩:=aO e;obtain⟨a,lr,n,q,_,hl,hr⟩:=r0.l x;exact q▸⟨id,apd hl u b,λs2 vs _ k2 r=>k _ a lr n s2 vs (k2 a _ hl) (hr.keeps k2) r e⟩
theorem aic{P:List Value->Prop}{f:Int->Option D}{d:D}(r:aZ s.heap F ds vs)(e:d1 (Fm f) ds=some d)(k:∀x t,f x=some d->P [.int x t]):P vs:=d1E r e λx v r e=>ah9 (P:=λv=>P [v]) r e k
theorem apf{P:List Value->Prop}{f:Str->Option D}{d:D}(r:aZ s.heap F ds vs)(e:d1 (UT f) ds=some d)(k:∀x t,f x=some d->P [.str x t]):P vs:=d1E r e λx v r e=>by
 obtain⟨x,_,e⟩:=aO e;obtain⟨t,q⟩:=r.s x;exact q▸k _ t e
theorem sM{m:Me}{id:String}{f:Str->Str->Option D}{o d:D}(r0:bT s.heap F o v)(e:aa7 f o ds=some d)(a:Slot "str" m.str id)(b:typeOf (.builtin id)=pure (.type "method_descriptor"))(k:∀x t y u s2,f x y=some d->CB prog w A E F s2 id d [.str x t,.str y u]):MS prog w A E F s m d ds v:=
 pf (f:=λx=>d1 (UT (f x))) r0 e λx t e=>⟨id,UU a b,λs2 vs _ _ r=>apf (P:=λvs=>CB prog w A E F s2 id d (.str x t::vs)) r e λy u e=>k x t y u s2 e⟩
theorem Fu(ok:Ok A F s)(e:(if x.length<=dC/\(spaceWords x (x.length+1)).length<=dC then some (D.lst ((Tc x).map .str))else none)=some d):wpAny (model prog w) A (call (.builtin "str.split") [.str x t]) (iJ F s d) E s:=by
 obtain⟨h,rfl⟩:=bh e;refine Hl N1 (typeIs_str _ _ _) PySem.F.entry_str_split (PySem.F.args_str_split_1 _) (meets_str_split_space x t (ao h.1 iQ) (ao h.2 iQ)) ?_;cases hw:spaceWords x (x.length+1)==[(0,x.length)]
 ·simp only[i0,if_false]
  have hn:(numbered s.toks (avg x)).map (·.1)=Tc x:=(numbered_texts _ _).trans (if_neg (ne_true_of_eq_false hw)).symm;rw[strsFrom_eq,<-hn,cG];exact⟨Keeps.E8 _ _,oz ok.lo (qG (numbered s.toks (avg x)))⟩
 ·simp only[if_true]
  have hn:[x]=Tc x:=(if_pos hw).symm;rw[<-hn];exact⟨Keeps.E8 _ _,oz ok.lo (qG [(x,t)])⟩
theorem Mp{d:D}(hl:IsL s.heap a lr.toArray n)(hr:aZ s.heap F l lr)(r:aZ s.heap F ds vs)(e:ixL l ds=some d):CB prog w A E F s "list.index" d (.ref a::vs):=by
 refine aic (P:=λvs=>CB prog w A E F s "list.index" d (.ref a::vs)) r e λk t e=>?_;obtain⟨ns,e1,e2⟩:=aO e;exact(bh e2).2▸Il hl.isList (mI e1 hr) (bh e2).1.2 (bh e2).1.1 mO
theorem Mq(e:aa6 (occurrences x y 0 x.length 1)=some d):wpAny (model prog w) A (call (.builtin "str.index") [.str x t,.str y u]) (iJ F s d) E s:=by
 cases h:occurrences x y 0 x.length 1 with
 |nil=>rw[h]at e;exact no e
 |cons i r=>rw[h]at e;exact ai e▸SC.index h mO
theorem Im(r:aZ s.heap F ds vs)(e:PR x ds=some d):CB prog w A E F s "str.join" d (.str x t::vs):=by
 refine d1E (P:=λvs=>CB prog w A E F s "str.join" d (.str x t::vs)) r e λy v r1 e=>aia (P:=λv=>CB prog w A E F s "str.join" d [.str x t,v]) r1 e λl a vs n hl hr e=>?_;obtain⟨ys,e1,e2⟩:=aO e;exact(bh e2).2▸join_list hl.isList (Mk e1 hr) (bh e2).1 λ_ _=>Fc
theorem Fv{d:D}(hl:IsL s.heap a lr.toArray n)(hr:aZ s.heap F l lr)(r:aZ s.heap F ds vs)(e:aa9 l ds=some d):CB prog w A E F s "list.count" d (.ref a::vs):=by
 refine aic (P:=λvs=>CB prog w A E F s "list.count" d (.ref a::vs)) r e λk t e=>?_;obtain⟨ns,e1,rfl⟩:=dM e;exact count_list_ints hl.isList (mI e1 hr) mO
theorem Mr(r:aZ s.heap F ds vs)(e:aa8 x ds=some d):CB prog w A E F s "str.lower" d (.str x t::vs):=by
 obtain⟨h,e⟩:=yY r e;exact h▸(bh e).2▸SCL.lower (ao (bh e).1 (by decide)) λ_=>Fc
theorem PT(r0:bT s.heap F o v)(e:jH m o ds=some d):MS prog w A E F s m d ds v:=by
 cases m with
 |index=>exact n7 e (λe=>yZ r0 e LK PySem.F.type_list_index λl a lr n s2 vs hl hr r e=>Mp hl hr r e) λe=>sM (f:=λx y=>aa6 (occurrences x y 0 x.length 1)) r0 e PySem.F.slot_str_index PySem.F.type_str_index λx t y u s2 e=>Mq e
 |find=>exact sM (f:=XZ) r0 e PySem.F.slot_str_find PySem.F.type_str_find λx t y u s2 e=>by exact ai e▸SC.find mO
 |startswith=>exact sM (f:=swS) r0 e PySem.F.slot_str_startswith PySem.F.type_str_startswith λx t y u s2 e=>by exact ai e▸SC.startswith XU
 |join=>exact pf (f:=PR) r0 e λx t e=>⟨_,UU PySem.F.slot_str_join PySem.F.type_str_join,λs2 vs _ _ r=>Im r e⟩
 |split=>exact pf (f:=X0) r0 e λx t e=>⟨_,UU N1 PySem.F.type_str_split,λs2 vs ok _ r=>(yY r e).1▸Fu ok (yY r e).2⟩
 |lower=>exact pf (f:=aa8) r0 e λx t e=>⟨_,UU PySem.F.slot_str_lower PySem.F.type_str_lower,λs2 vs _ _ r=>Mr r e⟩
 |count=>exact yZ (f:=aa9) r0 e PySem.F.slot_list_count PySem.F.type_list_count λl a lr n s2 vs hl hr r e=>Fv hl hr r e
 |kM=>
  obtain⟨x,_,e⟩:=aO e;obtain⟨t,q⟩:=r0.i x;exact q▸⟨_,ape,λs2 vs _ _ r=>(yY r e).1▸ai (yY r e).2▸call_int_bit_length mO⟩
end
end
end Internal
namespace Internal
section
section
variable{prog:bb}{w:World}{A:aE}{E:Value->ak->Prop}{s:ak}{F:Addr->Prop}
abbrev TS(prog:bb)(w:World)(A:aE)(E:Value->ak->Prop)(s:ak)(b:Bool)(v:Value):Prop:=wpAny (model prog w) A (truthy v) (λc s'=>c=b/\Keeps s s') E s
theorem Ms(h:l.length<=dC)(r:RL s.heap F l v):TS prog w A E s (!l.isEmpty) v:=by
 obtain⟨a,vs,n,e,na,hl,hr⟩:=r;have q:vs.toArray.isEmpty=l.isEmpty:=by cases l with
  |nil=>obtain rfl:=hr.qy;rfl
  |cons x l=>obtain⟨v,r,rfl,_⟩:=hr.gk;rfl
 exact e▸wpAny_truthy_list hl.isList (by rw[bg,hr.length];exact PG h) ⟨congrArg _ q,Keeps.Uv _⟩
theorem nO(r:bT s.heap F d v)(e:mh d=some b):TS prog w A E s b v:=by
 refine n7 e (λe=>?_) λe=>n7 e (λe=>?_) λe=>?_
 ·obtain⟨x,_,e⟩:=dM e
  exact(r.b x)▸nD ⟨e,Keeps.rfl'⟩
 ·obtain⟨x,_,e⟩:=dM e
  obtain⟨t,q⟩:=r.i x;exact q▸PyProof.Rows.truthy_int ⟨e,Keeps.rfl'⟩
 ·obtain⟨x,_,e⟩:=aO e
  exact(bh e).2▸Ms (bh e).1 (r.l x)
theorem Io(r:bT s.heap F a v)(e:ahW op a=some d):wpAny (model prog w) A (unaryOp op v) (iJ F s d) E s:=by
 cases op with
 |Not=>
  obtain⟨b,e1,rfl⟩:=dM e;exact PyProof.Rows.not_of (aj (nO r e1) (λc s' h=>⟨h.2,h.1▸qx⟩) λ_ _ x=>x)
 |USub=>
  obtain⟨x,_,rfl⟩:=dM e;obtain⟨t,q⟩:=r.i x;exact q▸PyProof.Rows.neg_int mO
 |Invert=>
  obtain⟨x,_,rfl⟩:=dM e;obtain⟨t,q⟩:=r.i x;exact q▸PyProof.Rows.invert_int mO
 |UAdd=>exact no e
def SQ(d:D)(n:Str):Option Bool:=(qI d).bind λ_=>if n="bool" then some false else if n="int" then some true else none
def CW(n:Str):String:=if n="bool" then "bool" else "int"
theorem Mt(r:bT s.heap F d v)(e:SQ d n=some b):
 wpAny (model prog w) A (call (.builtin "isinstance") [v,.type (CW n)]) (iJ F s (.bool b)) E s:=by
 obtain⟨x,_,e⟩:=aO e;obtain⟨t,q⟩:=r.i x;unfold CW;by_cases hn:n="bool"
 ·rw[if_pos hn]at e⊢
  exact q▸PySem.IsiPair.int_bool (ai e▸XU)
 ·rw[if_neg hn]at e⊢
  exact q▸PySem.IsiPair.int_int (s:=s) ((bh e).2▸⟨Keeps.rfl',qx⟩)
theorem PU{I:Addr}{P:Nat->Value->Prop}{St:Nat->Heap->Prop}{i j:Nat}{v:Value}{Q:Unit->ak->Prop}(no:Fi I P St)(p:P i v)(st:St j s.heap)(h:Q () s):
 wpAny (model prog w) A (letOwnedTupleGo (.Tuple [] default default) (.ref I) v) Q E s:=by
 have k:wpAny (model prog w) A (pure ()) Q E s:=aM h;refine Value.casesOn (motive:=λv=>P i v->wpAny (model prog w) A (letOwnedTupleGo (.Tuple [] default default) (.ref I) v) Q E s) v (λ_=>k) (λ_=>k) (λ_=>k) (λ_ _=>k) (λ_ _ _=>k) (λ_ _ _=>k) (λ_ _ _=>k) (λ_ _ _=>k) (λ_ _=>k) (λ_ _=>k) (λa p=>?_) p;rcases no with no|no
 ·obtain⟨o,T,ho,hc,hT⟩:=no j _ st
  show wpAny _ A (load I >>= _) Q E s;refine aw (wpAny_load ho ?_);obtain⟨cls,dict,data,slots⟩:=o;have hc:cls=.type T:=hc;clear ho no p st h;subst hc;cases data with
  |fields vs=>
   show wpAny _ A (if(_&&_)=true then _ else _) Q E s;rw[hT,Bool.false_and];exact k
  |_=>exact k
 ·exact absurd rfl (no i _ p a)
theorem BM{I:Addr}{P:Nat->Value->Prop}{St:Nat->Heap->Prop}{i j:Nat}{v:Value}{target:ae}{Q:Unit->ak->Prop}(no:Fi I P St)(p:P i v)(st:St j s.heap)(h:Q () s):
 wpAny (model prog w) A (letOwnedTupleGo target (.ref I) v) Q E s:=by
 have k:wpAny (model prog w) A (letOwnedTupleGo (.Tuple [] default default) (.ref I) v) Q E s:=PU no p st h;have k2:wpAny (model prog w) A (pure ()) Q E s:=aM h;exact fj (motive_1:=λtarget=>wpAny (model prog w) A (letOwnedTupleGo target (.ref I) v) Q E s) target (λ_ _ _=>k2) (λ_ _ _=>k2) (λ_ _ _ _=>k2) (λ_ _ _=>k2) (λ_ _ _ _=>k2) (λ_ _ _ _=>k2) (λ_ _ _=>k2) (λ_ _ _=>k2) (λ_ _ _ _=>k2) (λ_ _ _ _=>k2) (λ_ _ _ _ _=>k2) (λ_ _ _ _=>k2) (λ_ _=>k2) (λ_ _=>k2) (λ_ _=>k2) (λ_ _ _ _=>k2) (λ_ _ _ _=>k2) (λ_ _ _ _=>k2) (λ_ _=>k2) (λ_ _ _=>k2) (λ_ _ _=>k2) (λ_ _ _=>k2) (λ_ _=>k2) (λ_ _=>k2) (λ_ _=>k) (λ_ _ _=>k) (λ_ _ _ _=>k2)
theorem Ip{ds:List D}{I:Addr}{fp:List Addr}{P:Nat->Value->Prop}{St:Nat->Heap->Prop}(W:Walks prog w A I fp [I] ds.length P St)(hI:s.heap.get? I=none)
(hP:∀i v h (F':Addr->Prop),P i v->Kept F s.heap h->(∀b,F' b->F b\/s.heap.get? b=none)->∀d,ds[i]? =some d->bT h F' d v):
 ∀(n i:Nat)(aQ:ak)(Q:List Value->ak->Prop),i+n=ds.length->Keeps s aQ->St i aQ.heap->
  (∀vs fk,Keeps s fk->St ds.length fk.heap->vs.length=n->(∀h,bU s.heap h->aZ h F (ds.drop i) vs)->Q vs fk)->
  wpAny (model prog w) A (draw (.ref I) n) Q E aQ:=λn=>by
 induction n with
 |zero=>
  intro i aQ Q hi k st h;show wpAny _ _ (pure []) Q E aQ;have hi':i=ds.length:=by omega
  refine aM (h [] aQ k (hi'▸st) rfl λ_ _=>?_);rw[hi',Ef];exact .nil
 |succ n ih=>
  intro i aQ Q hi k st h;have o5:i<ds.length:=by omega
  show wpAny _ _ (pyNext (.ref I) >>= _) Q E aQ;refine aw (W.item i _ _ _ o5 st λv h' tk p SS hk=>?_);obtain⟨qE,El,rfl,ka⟩:=k;have k2:Keeps s {s with heap:=h',toks:=tk}:=⟨h',tk,rfl,λb o e=>hk b o (λhm=>by rw[aU.mp hm,hI]at e;cases e) (ka b o e)⟩
  refine aw (cq (ih (i+1) _ _ (by omega) k2 SS λvs fk k3 AB hl hr=>aM ?_));refine h (v::vs) fk k3 AB (by simp[hl]) λhh PV=>?_;rw[dZ o5];exact .cons (hP i v hh F p (λb o _ e=>PV b o e) (λ_ q=>.inl q) _ (da o5)) (hr hh PV)
theorem Mu(e:L8 d=some ds):items d=some ds:=by unfold items;rw[e];rfl
theorem PW(r:bT s.heap F d v)(e:L8 d=some ds):∃T id,s.TypeIs v T/\Slot T "__iter__" id:=by
 refine n7 e (λe=>?_) λe=>?_
 ·obtain⟨x,_,_⟩:=dM e
  obtain⟨a,vs,n,q,na,hl,hr⟩:=r.l x;exact⟨"list",_,q▸hl.isList.typeIs,slot_list_iter⟩
 ·obtain⟨x,_,_⟩:=dM e
  obtain⟨a,vs,n,q,na,hl,hr⟩:=r.t x;exact⟨"tuple",_,q▸⟨_,hl,rfl⟩,PySem.F.slot_tuple_iter⟩
theorem nP{d:D}{ds:List D}{v:Value}(hh:A.handled=none)(lo:jy F s.heap)(r:bT s.heap F d v)(e:L8 d=some ds):
 wpAny (model prog w) A (unpackItems v ds.length none) (λvs s'=>Keeps s s'/\aZ s'.heap F ds vs) E s:=by
 have hi:=Mu e;obtain⟨T,id,hT,slot⟩:=PW r e;refine gp λQ hQ=>?_;unfold unpackItems;refine aw ?_;unfold notIterableAtAll;refine aw (wpAny_specialOf hT slot.lookup (aM ?_));show wpAny _ A (holding [v] (pyIter v) >>= _) Q E s;refine aw (cq (aj (o9 hh lo r hi) (λit s' h=>?_) λ_ _ x=>x));cases h.2 with
 |mk I fp P St hx no W st hI hI2 fpF hP=>
 subst hx;refine aw (cq (Ip (F:=F) W hI hP ds.length 0 s' _ (ja _) h.1 st λvs fk k2 N5 hl hr=>?_));rw[if_neg (λz=>fg _ (hl▸z))];refine aw (cq (W.done _ _ _ N5 λyX tk hk=>?_));obtain⟨qE,El,rfl,ka⟩:=k2;have kk:bU s.heap yX:=λb o e=>hk b o (λhm=>nG hI (aU.mp hm▸e)) (ka b o e);exact aM (hQ _ _ ⟨⟨yX,tk,rfl,kk⟩,hr yX kk⟩)
end
end
section
abbrev cw:=List (Str×D)
abbrev bW:=List (Str×iz)
def put(n:Str)(d:D):cw->cw
 |[]=>[(n,d)]
 |(x,e)::r=>if x=n then(x,d)::r else(x,e)::put n d r
def look:cw->Str->Option D
 |[],_=>none
 |(x,d)::r,n=>if x=n then(match d with|.Kr=>none|d=>some d)else look r n
theorem ly:∀{σ:cw},look (put n d σ) n=some e->e=d:=by
 intro zx
 induction zx with
 |nil=>
  rintro h;unfold put look at h;rw[if_pos rfl]at h;split at h<;>cases h;rfl
 |cons zh r ih=>
  obtain⟨x,e'⟩:=zh;rintro h;unfold put at h;split at h
  ·rename_i hx
   unfold look at h;rw[if_pos hx]at h;split at h<;>cases h;rfl
  ·rename_i hx
   unfold look at h;rw[if_neg hx]at h;exact ih h
theorem cZ(hk:k≠n):∀{σ:cw},look (put n d σ) k=look σ k
 |[]=>by
  unfold put look;rw[if_neg (uP hk)];rfl
 |(x,e')::r=>by
  dsimp only[put];split
  ·rename_i hx
   subst hx;dsimp only[look];rw[if_neg (uP hk),if_neg (uP hk)]
  ·rename_i hx
   dsimp only[look];rw[cZ hk]
inductive Upd(X:Addr->Prop)(s s':ak):Prop
 |mk (h:Heap) (tk:Nat) (e:s'={s with heap:=h,toks:=tk}) (k:Kept X s.heap h)
theorem Upd.refl:Upd X s s:=⟨_,_,rfl,λ_ _ _ e=>e⟩
theorem Upd.of(k:Keeps s s'):Upd X s s':=by
 obtain⟨h,t,rfl,k⟩:=k;exact⟨h,t,rfl,λb o _ e=>k b o e⟩
theorem Upd.trans(k:Upd X s s')(k':Upd X s' Uw):Upd X s Uw:=by
 obtain⟨h,t,rfl,k⟩:=k;obtain⟨h',t',rfl,k'⟩:=k';exact⟨h',t',rfl,λb o n e=>k' b o n (k b o n e)⟩
theorem Upd.more(k:Upd X s s')(h:∀a,X a->Y a):Upd Y s s':=by
 obtain⟨h',t,rfl,k⟩:=k;exact⟨h',t,rfl,λb o n e=>k b o (λq=>n (h b q)) e⟩
theorem Upd.kept(k:Upd X s s')(h:∀a,X a->G a):Kept G s.heap s'.heap:=by
 obtain⟨h',t,rfl,k⟩:=k;exactλb o n e=>k b o (λq=>n (h b q)) e
theorem Upd.rep(k:Upd X s s')(h:∀a,X a->G a)(r:bT s.heap G d v):bT s'.heap G d v:=
 bT.kept (k.kept h) (λ_ q=>.inl q) d v r
theorem Upd.Fw(k:Upd X s s')(h:∀a,X a->G a)(r:aZ s.heap G d v):aZ s'.heap G d v:=
 aZ.kept (k.kept h) (λ_ q=>.inl q) d v r
theorem Upd.keeps(k:Upd X s s')(h:∀a,X a->aD.heap.get? a=none)(k0:Keeps aD s):Keeps aD s':=by
 obtain⟨h',t,rfl,k⟩:=k;obtain⟨qE,El,rfl,k0⟩:=k0;exact⟨h',t,rfl,λb o e=>k b o (λq=>by rw[h b q]at e;cases e) (k0 b o e)⟩
def Cl(env:Env)(n:Str):Prop:=env.kindOf n=some .cell\/env.kindOf n=some .free
inductive apg(h:Heap)(G:Addr->Prop)(m:Str->Option Value)(n:Str)(d:D):Prop
 |mk (v:Value) (e:m n=some v) (r:bT h G d v)
inductive aph(env:Env)(h:Heap)(G:Addr->Prop)(n:Str)(d:D):Prop
 |mk (c:Addr) (v:Value) (e:env.cells.lookup n=some c) (i:h.IsCell c (some v)) (r:bT h G d v)
inductive abd(env:Env)(G:Addr->Prop)(σ:cw)(h:Heap):Prop
 |mk (m:Str->Option Value) (ns:h.Ns env.locals m) (f:∀n d,look σ n=some d->(env.kindOf n=some .local->apg h G m n d)/\(Cl env n->aph env h G n d))
structure In(env:Env)(G:Addr->Prop)(σ:cw)(h:Heap):Prop where
 fn:env.scope.kind=.function
 gl:env.globals=mainGlobals
 bi:env.builtins=builtinsNs
 lo:jy G h
 fl:G env.locals
 fc:∀n c,env.cells.lookup n=some c->G c/\c≠env.locals
 inj:∀n n' c,env.cells.lookup n=some c->env.cells.lookup n'=some c->n=n'
 ce:∀n,env.kindOf n=some .cell->∃c v,env.cells.lookup n=some c/\h.IsCell c v
 va:abd env G σ h
theorem In.keeps(x:In env G σ h)(k:bU h h'):In env G σ h':=by
 refine⟨x.fn,x.gl,x.bi,x.lo.keeps k,x.fl,x.fc,x.inj,λn hn=>?_,?_⟩
 ·obtain⟨c,v,h1,h2⟩:=x.ce n hn
  exact⟨c,v,h1,h2.keeps k⟩
 ·obtain⟨m,hm,hv⟩:=x.va
  refine⟨m,hm.keeps k,λn d e=>⟨λhk=>?_,λhk=>?_⟩⟩
  ·obtain⟨v,h1,h2⟩:=(hv n d e).1 hk
   exact⟨v,h1,h2.keeps k⟩
  ·obtain⟨c,v,h1,h2,h3⟩:=(hv n d e).2 hk
   exact⟨c,v,h1,h2.keeps k,h3.keeps k⟩
theorem In.sub(x:In env G σ h)(hs:∀n d,look σ' n=some d->look σ n=some d):In env G σ' h:=by
 refine⟨x.fn,x.gl,x.bi,x.lo,x.fl,x.fc,x.inj,x.ce,?_⟩;obtain⟨m,hm,hv⟩:=x.va;exact⟨m,hm,λn d e=>hv n d (hs n d e)⟩
theorem In.upd(x:In env G σ s.heap)(k:Upd X s s')(hX:∀a,X a->G a)(hlo:jy G s'.heap)(hl:¬X env.locals)(hc:∀n c,env.cells.lookup n=some c->¬X c):
 In env G σ s'.heap:=by
 have kp:Kept X s.heap s'.heap:=k.kept λ_ q=>q;refine⟨x.fn,x.gl,x.bi,hlo,x.fl,x.fc,x.inj,λn hn=>?_,?_⟩
 ·obtain⟨c,v,h1,o,h2,h3⟩:=x.ce n hn
  exact⟨c,v,h1,o,kp _ _ (hc n c h1) h2,h3⟩
 ·obtain⟨m,hm,hv⟩:=x.va
  refine⟨m,hm.at' λo e=>kp _ _ hl e,λn d e=>⟨λhk=>?_,λhk=>?_⟩⟩
  ·obtain⟨v,h1,h2⟩:=(hv n d e).1 hk
   exact⟨v,h1,k.rep hX h2⟩
  ·obtain⟨c,v,h1,⟨o,h2,h2'⟩,h3⟩:=(hv n d e).2 hk
   exact⟨c,v,h1,⟨o,kp _ _ (hc n c h1) h2,h2'⟩,k.rep hX h3⟩
section
variable{prog:bb}{w:World}{A:aE}{E:Value->ak->Prop}{s:ak}{env:Env}{G:Addr->Prop}{σ:cw}
theorem In.name(x:In env G σ s.heap)(hk:env.kindOf n=some .local\/Cl env n)(hl:look σ n=some d)(hd:(n==("__debug__":Str))=false)(y0:env.kindOf n=some .free->(n==("__classdict__":Str))=false):
 wpAny (model prog w) A (eval (.Name n pos) env) (λv s'=>s'=s/\bT s.heap G d v) E s:=by
 obtain⟨m,hm,hv⟩:=x.va;rcases hk with hk|hk
 ·obtain⟨v,h1,h2⟩:=(hv n d hl).1 hk
  exact mG (Bf x.fn hk hm h1 ⟨rfl,h2⟩) hd
 ·obtain⟨c,v,h1,h2,h3⟩:=(hv n d hl).2 hk
  rcases hk with hk|hk
  ·exact mG (qt x.fn hk h1 h2 ⟨rfl,h3⟩) hd
  ·exact mG (DU x.fn hk h1 h2 ⟨rfl,h3⟩ (y0 hk)) hd
theorem In.load(x:In env G σ s.heap)(hk:env.kindOf n=some .local\/env.kindOf n=some .cell)(hl:look σ n=some d):
 wpAny (model prog w) A (loadName env n) (λv s'=>s'=s/\bT s.heap G d v) E s:=by
 obtain⟨m,hm,hv⟩:=x.va;rcases hk with hk|hk
 ·obtain⟨v,h1,h2⟩:=(hv n d hl).1 hk
  exact Bf x.fn hk hm h1 ⟨rfl,h2⟩
 ·obtain⟨c,v,h1,h2,h3⟩:=(hv n d hl).2 (.inl hk)
  exact qt x.fn hk h1 h2 ⟨rfl,h3⟩
theorem jy.sameBut(lo:jy G h)(hs:tB a h h')(ha:(h'.get? a).isSome=true):jy G h':=λb q=>by
 by_cases hb:b=a
 ·subst hb;exact ha
 ·obtain⟨o,e⟩:=aA.mp (lo b q)
  rw[hs.extBut b o hb e];rfl
theorem In.store(x:In env G σ s.heap)(hk:env.kindOf n=some .local\/env.kindOf n=some .cell)(r:bT s.heap G d v):
 wpAny (model prog w) A (storeName env n v) (λ_ s'=>Upd (λa=>a=env.locals\/env.cells.lookup n=some a) s s'/\In env G (put n d σ) s'.heap) E s:=by
 obtain⟨m,hm,hv⟩:=x.va;rcases hk with hk|hk
 ·refine ane hk hm (λh' hn' tA=>?_) (by rw[x.fn];rfl)
  have u:Upd (λa=>a=env.locals) s {s with heap:=h',toks:=s.toks+1}:=⟨h',_,rfl,λb o hb e=>tA.extBut b o hb e⟩
  refine⟨u.more λa q=>.inl q,x.fn,x.gl,x.bi,?_,x.fl,x.fc,x.inj,λk nA=>?_,⟨_,hn',λk e he=>⟨λnA=>?_,λnA=>?_⟩⟩⟩
  ·obtain⟨o,_,_,ho,_⟩:=hn'
   exact x.lo.sameBut tA (by rw[ho];rfl)
  ·obtain⟨c,v',h1,h2⟩:=x.ce k nA
   exact⟨c,v',h1,h2.sameBut tA (x.fc k c h1).2⟩
  ·by_cases kr:k=n
   ·subst kr
    have:=ly he;subst this;exact⟨v,by simp,u.rep (λa q=>q▸x.fl) r⟩
   ·rw[cZ kr]at he
    obtain⟨v',h1,h2⟩:=(hv k e he).1 nA;exact⟨v',by simpa [kr]using h1,u.rep (λa q=>q▸x.fl) h2⟩
  ·have kr:k≠n:=λq=>by subst q;rcases nA with nA|nA<;>(rw[hk]at nA;cases nA)
   rw[cZ kr]at he;obtain⟨c,v',h1,h2,h3⟩:=(hv k e he).2 nA;exact⟨c,v',h1,h2.sameBut tA (x.fc k c h1).2,u.rep (λa q=>q▸x.fl) h3⟩
 ·obtain⟨c,api,hc,Mv⟩:=x.ce n hk
  refine asJ x.fn hk hc Mv λh' Iq tA=>?_;have u:Upd (λa=>a=c) s {s with heap:=h'}:=⟨h',_,rfl,λb o hb e=>tA.extBut b o hb e⟩
  have rH:=(x.fc n c hc).2;have hcG:=(x.fc n c hc).1;refine⟨u.more λa q=>.inr (q▸hc),x.fn,x.gl,x.bi,?_,x.fl,x.fc,x.inj,λk nA=>?_,⟨m,hm.sameBut tA (uP rH),λk e he=>⟨λnA=>?_,λnA=>?_⟩⟩⟩
  ·obtain⟨o,ho,_⟩:=Iq
   exact x.lo.sameBut tA (by rw[ho];rfl)
  ·by_cases kr:k=n
   ·subst kr;exact⟨c,_,hc,Iq⟩
   ·obtain⟨c',v',h1,h2⟩:=x.ce k nA
    exact⟨c',v',h1,h2.sameBut tA λq=>kr (x.inj k n c (q▸h1) hc)⟩
  ·have kr:k≠n:=λq=>by subst q;rw[hk]at nA;cases nA
   rw[cZ kr]at he;obtain⟨v',h1,h2⟩:=(hv k e he).1 nA;exact⟨v',h1,u.rep (λa q=>q▸hcG) h2⟩
  ·by_cases kr:k=n
   ·subst kr
    have:=ly he;subst this;exact⟨c,v,hc,Iq,u.rep (λa q=>q▸hcG) r⟩
   ·rw[cZ kr]at he
    obtain⟨c',v',h1,h2,h3⟩:=(hv k e he).2 nA;exact⟨c',v',h1,h2.sameBut tA (λq=>kr (x.inj k n c (q▸h1) hc)),u.rep (λa q=>q▸hcG) h3⟩
end
end
section
def y6(e:ae):Option Str:=(tE e).map λx=>x.1.1
theorem mQ(h:y6 e=some n):∃p,e=.Name n p:=by
 obtain⟨x,_,rfl⟩:=dM h;exact⟨_,x.2⟩
def bindAll(ok:Str->Bool):List ae->List D->cw->Option cw
 |[],ds,σ=>match ds with
  |[]=>some σ
  |_::_=>none
 |e::es,ds,σ=>match ds with
  |[]=>none
  |d::ds=>(y6 e).bind λn=>if ok n then bindAll ok es ds (put n d σ)else none
def aid(e:ae):Option (List ae):=(Tj e).map λx=>x.1.1
def BN(ok:Str->Bool)(t:ae)(d:D)(σ:cw):Option cw:=
 match y6 t with
 |some n=>if ok n then some (put n d σ)else none
 |none=>(aid t).bind λes=>(L8 d).bind λds=>bindAll ok es ds σ
theorem Mw(h:aid e=some es):∃c p,e=.Tuple es c p:=by
 obtain⟨x,_,rfl⟩:=dM h;exact⟨_,_,x.2⟩
theorem CX(h:bindAll ok (e::es) ds σ=some σ'):∃n p d l,e=.Name n p/\ds=d::l/\ok n=true/\bindAll ok es l (put n d σ)=some σ':=by
 cases ds with
 |nil=>exact no h
 |cons d l=>
  obtain⟨n,h1,h2⟩:=aO h;exact⟨n,(mQ h1).choose,d,l,(mQ h1).choose_spec,rfl,dy h2⟩
theorem xt(h:bindAll ok [] ds σ=some σ'):ds=[]/\σ'=σ:=by
 cases ds with
 |nil=>exact⟨rfl,(ai h).symm⟩
 |cons d l=>exact no h
theorem nQ{ok:Str->Bool}{σ':cw}{P:List ae->List D->cw->Prop}(h0:P [] [] σ')(h1:∀n p d es ds σ,ok n=true->P es ds (put n d σ)->P (.Name n p::es) (d::ds) σ)(es:List ae):∀ds σ,bindAll ok es ds σ=some σ'->P es ds σ:=by
 induction es with
 |nil=>intro ds σ h;rw[(xt h).1,<-(xt h).2];exact h0
 |cons e es ih=>
  intro ds σ h;obtain⟨n,p,d,l,rfl,rfl,h3,h4⟩:=CX h;exact h1 n p d es l σ h3 (ih l _ h4)
theorem y8{ok:Str->Bool}{es:List ae}{ds:List D}{σ σ':cw}(h:bindAll ok es ds σ=some σ'):es.length=ds.length:=
 nQ (P:=λes ds _=>es.length=ds.length) rfl (λ_ _ _ _ _ _ _ ih=>congrArg mE ih) es ds σ h
theorem za{ok:Str->Bool}{env:Env}{es:List ae}{ds:List D}{σ σ':cw}(h:bindAll ok es ds σ=some σ'):(assignEach es env).findIdx? (·.1)=none/\(assignEach es env).length=es.length/\(assignEach es env).map (·.2)=es.map λe=>assign e env:=
 nQ (P:=λes _ _=>(assignEach es env).findIdx? (·.1)=none/\(assignEach es env).length=es.length/\(assignEach es env).map (·.2)=es.map λe=>assign e env) ⟨rfl,rfl,rfl⟩
  (λn p _ es _ _ _ ih=>⟨by
    show List.findIdx? _ ((false,_)::assignEach es env)=none;rw[aeT,ih.1];rfl,congrArg mE ih.2.1,congrArg (assign (.Name n p) env::·) ih.2.2⟩) es ds σ h
section
variable{prog:bb}{w:World}{A:aE}{E:Value->ak->Prop}{env:Env}{G:Addr->Prop}
def WOk(env:Env)(ok:Str->Bool)(X:Addr->Prop):Prop:=
 X env.locals/\∀n,ok n=true->(env.kindOf n=some .local\/env.kindOf n=some .cell)/\∀c,env.cells.lookup n=some c->X c
theorem oC(wo:WOk env ok X)(x:In env G σ s.heap)(hn:ok n=true)(r:bT s.heap G d v):
 wpAny (model prog w) A (assign (.Name n pos) env v) (λ_ s'=>Upd X s s'/\In env G (put n d σ) s'.heap) E s:=
 tC (aj (x.store (wo.2 n hn).1 r) (λ_ s' h=>⟨h.1.more λa q=>by
  rcases q with q|q
  ·exact q▸wo.1
  ·exact(wo.2 n hn).2 a q,h.2⟩) λ_ _ e=>e)
theorem AF{X:Addr->Prop}{ok:Str->Bool}(wo:WOk env ok X)(hX:∀a,X a->G a)(es:List ae)(ds:List D)(vs:List Value)(σ σ':cw)(s:ak)(x:In env G σ s.heap)(r:aZ s.heap G ds vs)(h:bindAll ok es ds σ=some σ'):
 wpAny (model prog w) A (assignInOrder (es.map λe=>assign e env) vs) (λ_ s'=>Upd X s s'/\In env G σ' s'.heap) E s:=
 nQ (P:=λes ds σ=>∀vs s,In env G σ s.heap->aZ s.heap G ds vs->wpAny (model prog w) A (assignInOrder (es.map λe=>assign e env) vs) (λ_ s'=>Upd X s s'/\In env G σ' s'.heap) E s)
  (λvs s x r=>by
    rw[r.qy];exact aM ⟨.refl,x⟩)
  (λn p d es ds σ hn ih vs s x r=>by
    obtain⟨v,vs,rfl,r1,r2⟩:=r.gk;exact aw (cq (aj (oC wo x hn r1) (λ_ aQ qE=>
     aj (ih vs aQ qE.2 (qE.1.Fw hX r2)) (λ_ fk yX=>⟨qE.1.trans yX.1,yX.2⟩) λ_ _ e=>e) λ_ _ e=>e))) es ds σ h vs s x r
theorem Fx(hh:A.handled=none)(wo:WOk env ok X)(hX:∀a,X a->G a)(x:In env G σ s.heap)(r:bT s.heap G d v)(h:BN ok t d σ=some σ'):
 wpAny (model prog w) A (assign t env v) (λ_ s'=>Upd X s s'/\In env G σ' s'.heap) E s:=by
 unfold BN at h;cases e:y6 t with
 |some n=>
  rw[e]at h;obtain⟨p,rfl⟩:=mQ e;obtain⟨hn,rfl⟩:=bh h;exact oC wo x hn r
 |none=>
  rw[e]at h;obtain⟨es,h0,q⟩:=aO h;obtain⟨c,p,rfl⟩:=Mw h0;obtain⟨ds,h1,h2⟩:=aO q;obtain⟨f1,f2,f3⟩:=za (env:=env) h2;rw[arm_assign_Tuple];unfold unpack;rw[f1,f2,f3,y8 h2];exact aw (eH (aw (cq (aj (nP hh x.lo r h1) (λvs aQ qE=>
   aj (AF wo hX es ds vs _ _ aQ (x.keeps (Keeps.all qE.1)) qE.2 h2) (λ_ fk yX=>⟨(Upd.of qE.1).trans yX.1,yX.2⟩) λ_ _ e=>e) λ_ _ e=>e))))
end
end
section
structure dN(A:aE)(La:Heap->Prop)(s:ak):Prop where
 hh:A.handled=none
 nb:jt s.heap
 nl:s.heap.NoLimit
 gl:∃mg,s.heap.Ns mainGlobals mg
 tk:1<=s.toks
 un:A.units+200<cLine
 la:∀h,bU s.heap h->La h
theorem dN.keeps(o:dN A La s)(k:Keeps s s')(t:1<=s'.toks):dN A La s':=
 ⟨o.hh,NoneBooked.keeps o.nb (Keeps.all k),NoLimit.aa0 o.nl (Keeps.all k),by obtain⟨m,x⟩:=o.gl;exact⟨m,x.keeps (Keeps.all k)⟩,t,o.un,λh kh=>o.la h λb ob e=>kh b ob (Keeps.all k b ob e)⟩
theorem dN.ok(o:dN A La s)(lo:jy F s.heap):Ok A F s:=⟨o.hh,o.gl,o.tk,lo⟩
section
variable{prog:bb}{w:World}{A:aE}{E:Value->ak->Prop}
theorem bF(hn:1<=s.toks)(h:wpAny M A t Q E s):wpAny M A t (λa s'=>1<=s'.toks/\Q a s') E s:=
 aj (wpAny_toks_of hn h) (λ_ _ x=>x) λ_ _ x=>x.2
def UW(VB:cw->ae->Option Bool)(σ:cw):List ae->Option Bool
 |[]=>some true
 |c::cs=>(VB σ c).bind λb=>if b=true then UW VB σ cs else some false
theorem UX:∀(ifs:List ae)(s:ak)(Q:Bool->ak->Prop),Q false s->
 wpAny (model prog w) A (forIn ifs false λc r=>if r=true then do let ok<-isTrue c env (eval c env);pure (bP ok)else pure (bP r)) Q E s:=by
 intro zx
 induction zx with
 |nil=>
  rintro s Q h;exact aM h
 |cons c cs ih=>
  rintro s Q h;rw[je];simp only[i0,if_false];exact aw (aM (ih s Q h))
theorem Mx(hV:∀c b s,VB σ c=some b->Keeps aD s->1<=s.toks->wpAny (model prog w) A (isTrue c env (eval c env)) (λb' s'=>b'=b/\Keeps s s') E s):
 ∀(ifs:List ae)(b:Bool)(s:ak),UW VB σ ifs=some b->Keeps aD s->1<=s.toks->
 wpAny (model prog w) A (forIn ifs true λc r=>if r=true then do let ok<-isTrue c env (eval c env);pure (bP ok)else pure (bP r)) (λb' s'=>b'=b/\Keeps s s') E s:=λifs=>by
 induction ifs with
 |nil=>intro b s h _ _;cases h;exact aM ⟨rfl,Keeps.rfl'⟩
 |cons c cs ih=>
  intro b s h k t;unfold UW at h;obtain⟨b1,h1,h2⟩:=aO h;rw[je];simp only[if_true];refine aw (aw (aj (bF t (hV c b1 s h1 k t)) (λb' s' h'=>aM ?_) λ_ _ e=>e));obtain⟨t',rfl,k'⟩:=h';cases b' with
  |true=>
   rw[if_pos rfl]at h2;exact aj (ih b s' h2 (Keeps.trans' k k') t') (λ_ _ q=>⟨q.1,Keeps.trans' k' q.2⟩) λ_ _ e=>e
  |false=>
   rw[if_neg (by decide)]at h2;cases h2;exact UX cs s' _ ⟨rfl,k'⟩
def iL(f:D->Option (List D)):List D->Option (List D)
 |[]=>some []
 |d::ds=>(f d).bind λa=>(iL f ds).bind λb=>some (a++b)
def mR(VB:cw->ae->Option Bool)(ok:Str->Bool)(target:ae)(ifs:List ae)(tN:cw->Option (List D))(σ:cw)(d:D):Option (List D):=
 (BN ok target d σ).bind λxZ=>(UW VB xZ ifs).bind λb=>if b=true then tN xZ else some []
theorem Fy(DZ:∀n,ok n=true->look KA n=none)(h:bindAll ok es ds σ=some σ'):(∀m e,look KA m=some e->look σ m=some e)->∀m e,look KA m=some e->look σ' m=some e:=
 nQ (P:=λ_ _ σ=>(∀m e,look KA m=some e->look σ m=some e)->∀m e,look KA m=some e->look σ' m=some e) id
  (λn _ _ _ _ _ hn ih k=>ih λm e he=>by
    rw[cZ λq=>no ((DZ _ hn).symm.trans (q▸he))];exact k m e he) es ds σ h
theorem My(DZ:∀n,ok n=true->look σ n=none)(h:BN ok t d σ=some σ'):∀m e,look σ m=some e->look σ' m=some e:=by
 unfold BN at h;cases e:y6 t with
 |some n=>
  rw[e]at h;obtain⟨hn,rfl⟩:=bh h;intro m e he;rw[cZ λq=>no ((DZ _ hn).symm.trans (q▸he))];exact he
 |none=>
  rw[e]at h;obtain⟨es,h0,q⟩:=aO h;obtain⟨ds,h1,h2⟩:=aO q;exact Fy DZ h2 λ_ _ q=>q
inductive Acc(G:Addr->Prop)(h:Heap)(a:Addr)(ds:List D):Prop
 |mk (vs:Array Value) (n:Nat) (l:IsL h a vs n) (r:aZ h G ds vs.toList)
theorem Acc.cases(x:Acc G h a ds):∃vs n,IsL h a vs n/\aZ h G ds vs.toList:=by obtain⟨a,b,c,d⟩:=x;exact⟨a,b,c,d⟩
variable{G X:Addr->Prop}{dk:Env}{La:Heap->Prop}{mm:List D}
theorem BO(f:D->Option (List D))(d)(ds):iL f (d::ds)=(f d).bind λa=>(iL f ds).bind λb=>some (a++b):=rfl
theorem xu(f:D->Option (List D)):∀(a b:List D),iL f (a++b)=(iL f a).bind λx=>(iL f b).bind λy=>some (x++y):=by
 intro zx
 induction zx with
 |nil=>
  rintro b;show iL f b=(iL f b).bind λy=>some ([]++y);cases iL f b<;>rfl
 |cons d a ih=>
  rintro b;rw[du,BO,BO,ih b];cases f d with
  |none=>rfl
  |some r=>
   cases iL f a with
   |none=>rfl
   |some x=>
    cases iL f b with
    |none=>rfl
    |some y=>simp
theorem Ir(hi:i<ds.length)(h:iL f ds=some out):
 ∃o1 r rest,iL f (ds.take i)=some o1/\f ds[i]=some r/\out=o1++(r++rest)/\iL f (ds.take (i+1))=some (o1++r):=by
 have e:ds=ds.take i++(ds[i]::ds.drop (i+1)):=by
  rw[<-dZ hi,nk]
 rw[e,xu]at h;obtain⟨o1,h1,h2⟩:=aO h;obtain⟨y,h3,h4⟩:=aO h2;cases h4;unfold iL at h3;obtain⟨r,h5,h6⟩:=aO h3;obtain⟨rest,h7,h8⟩:=aO h6;cases h8;refine⟨o1,r,rest,h1,h5,rfl,?_⟩;rw[List.take_add_one,da hi,xu,h1];simp only[af,Option.toList_some];dsimp only[iL];rw[h5];simp[iL]
theorem Acc.kept(x:Acc G h a ds)(k:Kept Y h h')(hY:∀b,Y b->G b)(ha:¬Y a):Acc G h' a ds:=by
 obtain⟨vs,n,h1,h2⟩:=x;exact⟨vs,n,k a _ ha h1,aZ.kept (λb o nb e=>k b o (λq=>nb (hY b q)) e) (λ_ q=>.inl q) _ _ h2⟩
theorem Acc.keeps(x:Acc G h a ds)(k:bU h h'):Acc G h' a ds:=by
 obtain⟨vs,n,h1,h2⟩:=x;exact⟨vs,n,k a _ h1,h2.keeps k⟩
theorem jy.upd(lo:jy G h)(k:Kept Y h h')(hY:∀b,Y b->(h'.get? b).isSome=true):jy G h':=λb q=>by
 by_cases hb:Y b
 ·exact hY b hb
 ·obtain⟨o,e⟩:=aA.mp (lo b q)
  rw[k b o hb e];rfl
theorem In.less(x:In env G σ h)(h1:∀a,G' a->G a)(h2:∀a,(G a/\(a=env.locals\/∃n,env.cells.lookup n=some a))->G' a):In env G' σ h:=by
 refine⟨x.fn,x.gl,x.bi,λb q=>x.lo b (h1 b q),h2 _ ⟨x.fl,.inl rfl⟩,λn c e=>⟨h2 _ ⟨(x.fc n c e).1,.inr ⟨n,e⟩⟩,(x.fc n c e).2⟩,x.inj,x.ce,?_⟩;obtain⟨m,hm,hv⟩:=x.va;refine⟨m,hm,λn d e=>⟨λhk=>?_,λhk=>?_⟩⟩
 ·obtain⟨v,q1,q2⟩:=(hv n d e).1 hk
  exact⟨v,q1,q2.less λb q=>.inl (h1 b q)⟩
 ·obtain⟨c,v,q1,q2,q3⟩:=(hv n d e).2 hk
  exact⟨c,v,q1,q2,q3.less λb q=>.inl (h1 b q)⟩
theorem BP{I:Addr}{fp:List Addr}{n i:Nat}{P:Nat->Value->Prop}{St:Nat->Heap->Prop}(W:Walks prog w A I fp [I] n P St)(hi:i<n){s:ak}(t:1<=s.toks)(st:St i s.heap){Q:Option Value->ak->Prop}
(h:∀v s',1<=s'.toks->Upd (λa=>a=I) s s'->P i v->St (i+1) s'.heap->Q (some v) s'):wpAny (model prog w) A (pyNext (.ref I)) Q E s:=
 aj (bF t (Q:=λr s'=>1<=s'.toks->Q r s') (W.item i s _ E hi st λv _ _ p SS hk t=>h v _ t ⟨_,_,rfl,λb o nb e=>hk b o (λhm=>nb (aU.mp hm)) e⟩ p SS)) (λ_ _ q=>q.2 q.1) λ_ _ e=>e
theorem BQ{I:Addr}{fp:List Addr}{n:Nat}{P:Nat->Value->Prop}{St:Nat->Heap->Prop}(W:Walks prog w A I fp [I] n P St){s:ak}(t:1<=s.toks)(st:St n s.heap){Q:Option Value->ak->Prop}
(h:∀s',1<=s'.toks->Upd (λa=>a=I) s s'->Q none s'):wpAny (model prog w) A (pyNext (.ref I)) Q E s:=
 aj (bF t (Q:=λr s'=>1<=s'.toks->Q r s') (W.done s _ E st λ_ _ hk t=>h _ t ⟨_,_,rfl,λb o nb e=>hk b o (λhm=>nb (aU.mp hm)) e⟩)) (λ_ _ q=>q.2 q.1) λ_ _ e=>e
theorem PX(J:Nat->ak->Prop)
(turn:∀n s,J n s->∀(Q:DV->ak->Prop)(E:Value->ak->Prop),(∀s',R (.ok .next) s'->Q (.done .next) s')->(∀m s',m<n->J m s'->Q (.again (.compLoop (.ListComp elt gens scope pos) k (.ref I) (.ref acc) dk)) s')->
   wpAny (model prog w) A (compTurn (.ListComp elt gens scope pos) k (.ref I) (.ref acc) dk) Q E s)
(n)(h:J n s):codeAny (model prog w) A (.compLoop (.ListComp elt gens scope pos) k (.ref I) (.ref acc) dk) R s:=
 codeAny_loop rfl J (λn s hJ=>show wpAny _ A ((compTurn (.ListComp elt gens scope pos) k (.ref I) (.ref acc) dk).onRaise (λx=>do noteFrame x dk;theTreesLotGoes x)) _ _ s from
  wpAny_noted (turn n s hJ _ _ (λ_ q=>q) λm _ hm hJ=>⟨rfl,m,hm,hJ⟩)) n h
theorem In.shrink(x:In env G σ s.heap)(u:Upd (λa=>a=C) s s')(hC:G C)(hl:C≠env.locals)(hc:∀n,env.cells.lookup n≠some C):In env (λa=>G a/\a≠C) σ s'.heap:=by
 have kp:Kept (λa=>a=C) s.heap s'.heap:=u.kept λ_ q=>q;refine⟨x.fn,x.gl,x.bi,λb q=>kdS kp q.2 (x.lo b q.1),⟨x.fl,λz=>hl z.symm⟩,λn c e=>⟨⟨(x.fc n c e).1,λz=>hc n (z▸e)⟩,(x.fc n c e).2⟩,x.inj,λn hn=>?_,?_⟩
 ·obtain⟨c,v,q1,o,q2,q3⟩:=x.ce n hn
  exact⟨c,v,q1,o,kp c o (λz=>hc n (z▸q1)) q2,q3⟩
 ·obtain⟨m,hm,hv⟩:=x.va
  refine⟨m,hm.at' λo e=>kp _ o (λz=>hl z.symm) e,λn d e=>⟨λnA=>?_,λnA=>?_⟩⟩
  ·obtain⟨v,q1,q2⟩:=(hv n d e).1 nA
   exact⟨v,q1,(u.rep (G:=G) (λa q=>q▸hC) q2).less λb q=>.inl q.1⟩
  ·obtain⟨c,v,q1,⟨o,q2,q3⟩,q4⟩:=(hv n d e).2 nA
   exact⟨c,v,q1,⟨o,kp c o (λz=>hc n (z▸q1)) q2,q3⟩,(u.rep (G:=G) (λa q=>q▸hC) q4).less λb q=>.inl q.1⟩
theorem Acc.less(x:Acc G h a ds)(hG:∀b,G' b->G b):Acc G' h a ds:=
 by obtain⟨vs,n,h1,h2⟩:=x;exact⟨vs,n,h1,h2.less λb q=>.inl (hG b q)⟩
inductive CI(f:D->Option (List D))(ds:List D)(X:Addr->Prop)(I:Addr)(G:Addr->Prop)(dk:Env)(σ:cw)(St:Nat->Heap->Prop)(acc:Addr)(mm:List D)(s:ak)(n:Nat)(s':ak):Prop
 |mk (i:Nat) (o1:List D) (hi:i<=ds.length) (hn:n=ds.length+1 - i) (h1:iL f (ds.take i)=some o1) (u:Upd (λa=>X a\/a=I) s s') (x:In dk G σ s'.heap) (t:1<=s'.toks) (st:St i s'.heap) (ac:Acc G s'.heap acc (mm++o1))
theorem CY{elt:ae}{gens:List dY}{scope:Scope}{pos:Pos}{k:Nat}{target:ae}{ifs:List ae}{abh:Pos}{acc:Addr}{I:Addr}{Fz:Sem DV}{VB:cw->ae->Option Bool}{ok:Str->Bool}{tN:cw->Option (List D)}{σ:cw}{aD:ak}
{fp:List Addr}{P:Nat->Value->Prop}{St:Nat->Heap->Prop}{ds:List D}{R:Result->ak->Prop}{Xw:Addr->Prop}{s:ak}
(PY:compTurn (.ListComp elt gens scope pos) k (.ref I) (.ref acc) dk=(do
   standAt abh
   match<-pyNext (.ref I)with
   |none=>pure (.done .next)
   |some v=>
    letOwnedTupleGo target (.ref I) v
    assign target dk v
    let mut ok:=true
    for c in ifs do
     if ok then ok<-isTrue c dk (eval c dk)
    if ok then Fz else again (.compLoop (.ListComp elt gens scope pos) k (.ref I) (.ref acc) dk)))
(am:dN A La aD)(wo:WOk dk ok Xw)(hwX:∀a,Xw a->X a)(hwa:¬Xw acc)(Iu:∀a,X a->G a)(hIG:G I)(hIX:¬X I)(hX0:∀a,X a->aD.heap.get? a=none)(X2:aD.heap.get? I=none)(haX:X acc)
(hIl:I≠dk.locals)(hIc:∀n,dk.cells.lookup n≠some I)(DZ:∀n,ok n=true->look σ n=none)
(no:Fi I P St)(W:Walks prog w A I fp [I] ds.length P St)(Ky:∀i h,St i h->(h.get? I).isSome=true)(hfp:∀b∈fp,b=I\/¬X b)
(hP:∀i v h,P i v->Kept (λa=>X a\/a=I) s.heap h->∀d,ds[i]? =some d->bT h G d v)
(hVB:∀E xZ c b s,In dk G xZ s.heap->Keeps aD s->1<=s.toks->VB xZ c=some b->wpAny (model prog w) A (isTrue c dk (eval c dk)) (λb' s'=>b'=b/\Keeps s s') E s)
(hem:∀E (Q:DV->ak->Prop) xZ s xs ys,In dk G xZ s.heap->Keeps aD s->1<=s.toks->Acc G s.heap acc xs->tN xZ=some ys->xs.length+ys.length<=dC->(∀n d,look σ n=some d->look xZ n=some d)->
   (∀s',1<=s'.toks->Upd X s s'->In dk G xZ s'.heap->Acc G s'.heap acc (xs++ys)->Q (.again (.compLoop (.ListComp elt gens scope pos) k (.ref I) (.ref acc) dk)) s')->wpAny (model prog w) A Fz Q E s)
(hR:∀s' xs,Upd (λa=>X a\/a=I) s s'->1<=s'.toks->In dk (λa=>G a/\a≠I) σ s'.heap->Acc (λa=>G a/\a≠I) s'.heap acc (mm++xs)->iL (mR VB ok target ifs tN σ) ds=some xs->R (.ok .next) s')
{out:List D}(zd:iL (mR VB ok target ifs tN σ) ds=some out)(hlen:mm.length+out.length<=dC)
(k0:Upd (λa=>X a\/a=I) aD s)(x:In dk G σ s.heap)(tk:1<=s.toks)(st:St 0 s.heap)(ac:Acc G s.heap acc mm):
 codeAny (model prog w) A (.compLoop (.ListComp elt gens scope pos) k (.ref I) (.ref acc) dk) R s:=by
 have apl:∀a,(X a\/a=I)->aD.heap.get? a=none:=λa q=>q.elim (hX0 a) λz=>z▸X2;have hIa:acc≠I:=λq=>hIX (q▸haX);have hfX:∀(b:Addr),b∈fp->¬X b:=λb hb=>(hfp b hb).elim (λz=>z▸hIX) id;refine PX (CI (mR VB ok target ifs tN σ) ds X I G dk σ St acc mm s) (λn s1 hI Q E' hN hJ=>?_) (ds.length+1) ⟨0,[],dx _,rfl,rfl,.refl,x,tk,st,(dD mm).symm▸ac⟩;cases hI with
 |mk i o1 hi hn ho1 k1 x1 t1 X3 ac1=>
 rw[PY];refine aw (eH (aw ?_));rcases alP hi with o5|Aq
 ·refine BP W o5 t1 X3 λv s2 t2 u1 p SS=>?_
  obtain⟨o1',r,rest,h1,h2,h3,h4⟩:=Ir o5 zd;cases ho1.symm.trans h1;obtain⟨xZ,h5,h6⟩:=aO h2;obtain⟨b,h7,h8⟩:=aO h6;have x2:In dk G σ s2.heap:=x1.upd u1 (λa q=>q▸hIG) (jy.upd x1.lo (u1.kept λ_ q=>q) λb q=>q▸Ky _ _ SS) (λq=>hIl q.symm) (λn c e q=>hIc n (q▸e));have k2:=k1.trans (u1.more λa q=>Or.inr (a:=X a) q);have kk2:=(k0.trans k2).keeps apl Keeps.rfl';have rep:=hP i v s2.heap p (k2.kept λ_ q=>q) _ (da o5);refine aw (BM no p SS (aw (aj (bF t2 (Fx am.hh wo (λa q=>Iu a (hwX a q)) x2 rep h5)) (λ_ s3 SU=>?_) λ_ _ e=>e)));have kk3:=SU.2.1.keeps (λa q=>hX0 a (hwX a q)) kk2;have AB:St (i+1) s3.heap:=W.frame _ _ _ SS λb hb o e=>SU.2.1.kept (G:=Xw) (λ_ q=>q) b o (λz=>hfX b hb (hwX _ z)) e;have ac3:=(ac1.kept (u1.kept λ_ q=>q) (λb q=>q▸hIG) hIa).kept (SU.2.1.kept λ_ q=>q) (λb q=>Iu b (hwX b q)) hwa;refine aw (aj (bF SU.1 (Mx (aD:=s3) (λc b s hv k t=>hVB _ xZ c b s (SU.2.2.keeps (Keeps.all k)) (Keeps.trans' kk3 k) t hv) ifs b s3 h7 Keeps.rfl' SU.1)) (λok4 s4 X4=>?_) λ_ _ e=>e);have abi:=My DZ h5;have x4:=SU.2.2.keeps (Keeps.all X4.2.2);have ON:St (i+1) s4.heap:=W.frame _ _ _ AB λb _ o e=>Keeps.all X4.2.2 b o e;have ac4:=ac3.keeps (Keeps.all X4.2.2);have u4:=(k2.trans (SU.2.1.more λa q=>Or.inl (b:=a=I) (hwX a q))).trans (Upd.of X4.2.2);have hmn:ds.length+1 - (i+1)<n:=hn▸Al (DS o5) (fN i);rw[<-X4.2.1]at h8;cases ok4 with
  |true=>
   have hl1:(mm++o1).length+r.length<=dC:=by
    rw[h3]at hlen;simp only[aC]at hlen⊢;omega
   exact hem _ _ xZ s4 _ r x4 (Keeps.trans' kk3 X4.2.2) X4.1 ac4 h8 hl1 abi λs5 t5 u5 x5 ac5=>hJ _ s5 hmn ⟨i+1,o1++r,o5,rfl,h4,u4.trans (u5.more λa q=>.inl q),x5.sub abi,t5,
    W.frame _ _ _ ON λb hb o e=>u5.kept (G:=X) (λ_ q=>q) b o (hfX b hb) e,(c7 mm o1 r)▸ac5⟩
  |false=>
   rw[<-ai h8]at h4;exact aM (hJ _ s4 hmn ⟨i+1,o1++[],o5,rfl,h4,u4,x4.sub abi,X4.1,ON,(dD o1).symm▸ac4⟩)
 ·refine BQ W t1 (Aq▸X3) λs2 t2 u1=>aM (hN _ (hR _ o1 (k1.trans (u1.more λa q=>.inr q)) t2 (x1.shrink u1 hIG hIl hIc) ((ac1.kept (u1.kept λ_ q=>q) (λb q=>q▸hIG) hIa).less λ_ q=>q.1) ?_))
  rw[Aq,fG]at ho1;exact ho1
end
end
section
def ic(env:Env):List (Str×iz)->List (Str×Addr)->List (Str×Addr)
 |[],acc=>acc
 |(n,k)::r,acc=>if k==.free then ic env r ((n,(env.cells.lookup n).getD 0)::acc)else ic env r acc
theorem KC:∀(names:List (Str×iz))(acc:List (Str×Addr)),(∀n,(n,bG)∈names->(env.cells.lookup n).isSome=true)->
 (forIn names acc (λ(x:Str×iz) cs=>if(x.2==bG)=true then do
   let c<-cellOf env x.1
   pure (bP ((x.1,c)::cs))else pure (bP cs)):Sem (List (Str×Addr)))=pure (ic env names acc):=by
 intro zx
 induction zx with
 |nil=>
  rintro acc _;exact rfl
 |cons zh r ih=>
  obtain⟨n,k⟩:=zh;rintro acc h;rw[je];dsimp only;dsimp only[ic];have hr:∀n,(n,bG)∈r->(env.cells.lookup n).isSome=true:=λn hn=>h n (av _ hn);split
  ·rename_i hk
   have kG:k=.free:=by simpa using hk
   obtain⟨c,hc⟩:=aA.mp (h n (by rw[kG];exact ax));unfold cellOf;rw[hc];exact ih _ hr
  ·exact ih _ hr
theorem PZ:∀(names:List (Str×iz))(acc:List (Str×Addr))(n:Str)(c:Addr),(∀n,(n,bG)∈names->(env.cells.lookup n).isSome=true)->(n,c)∈ic env names acc->(n,c)∈acc\/((n,bG)∈names/\env.cells.lookup n=some c):=by
 intro zx
 induction zx with
 |nil=>
  rintro acc n c _ h;exact .inl h
 |cons zh r ih=>
  obtain⟨x,k⟩:=zh;rintro acc n c hs h;unfold ic at h;have hr:∀n,(n,bG)∈r->(env.cells.lookup n).isSome=true:=λn hn=>hs n (av _ hn);split at h
  ·rename_i hk
   have kG:k=.free:=by simpa using hk
   rcases ih _ n c hr h with q|q
   ·rcases aL.mp q with q|q
    ·obtain⟨c',hc⟩:=aA.mp (hs x (by rw[kG];exact ax))
     rw[hc]at q;cases q;exact .inr ⟨by rw[kG];exact ax,hc⟩
    ·exact .inl q
   ·exact .inr ⟨av _ q.1,q.2⟩
  ·rcases ih _ n c hr h with q|q
   ·exact .inl q
   ·exact .inr ⟨av _ q.1,q.2⟩
theorem P0:∀(names:List (Str×iz))(acc:List (Str×Addr))(n:Str),((n,bG)∈names\/∃c,(n,c)∈acc)->∃c,(n,c)∈ic env names acc:=λnames=>by
 induction names with
 |nil=>exactλacc n h=>h.resolve_left λh=>nomatch h
 |cons zh r ih=>
  obtain⟨x,k⟩:=zh;intro acc n h;dsimp only[ic];split
  ·rename_i hk
   have kG:k=.free:=by simpa using hk
   apply ih;rcases h with h|⟨c,h⟩
   ·rcases aL.mp h with h|h
    ·cases h;exact .inr ⟨_,ax⟩
    ·exact .inl h
   ·exact .inr ⟨c,av _ h⟩
  ·rename_i hk
   apply ih;rcases h with h|h
   ·rcases aL.mp h with h|h
    ·cases h;exact absurd rfl hk
    ·exact .inl h
   ·exact .inr h
theorem mem_lookup:∀{l:List (Str×α)}{n:Str}{k:α},(l.map (·.1)).Nodup->(n,k)∈l->l.lookup n=some k:=λ{l}=>by
 induction l with
 |nil=>exactλ_ h=>nomatch h
 |cons zh r ih=>
  obtain⟨x,j⟩:=zh;intro n k hd h;rw[aH,cJ]at hd;rcases aL.mp h with h'|h'
  ·cases h'
   rw[eL];simp
  ·have:n≠x:=λq=>hd.1 (iZ.mpr ⟨_,h',q⟩)
   rw[eL,show(n==x)=false from by simpa using this];exact ih hd.2 h'
theorem pg:∀{l:List (Str×α)}{n:Str}{c:α},(n,c)∈l->∃c',l.lookup n=some c':=λ{l}=>by
 induction l with
 |nil=>exactλh=>nomatch h
 |cons zh r ih=>
  obtain⟨x,j⟩:=zh;intro n k h;rw[eL];cases hb:n==x with
  |true=>exact⟨_,rfl⟩
  |false=>
   rcases aL.mp h with h|h
   ·cases h;simp at hb
   ·exact ih h
theorem AG:∀(names:List (Str×iz))(n:Nat)(a b:List (Str×Addr)),cellsFrom n names (a++b)=cellsFrom n names a++b:=by
 intro zx
 induction zx with
 |nil=>
  rintro _ _ _;exact rfl
 |cons zh r ih=>
  obtain⟨x,k⟩:=zh;rintro n a b;dsimp only[cellsFrom];split
  ·rw[<-du,ih]
  ·exact ih n a b
theorem ik:∀(names:List (Str×iz))(n:Nat)(a:List (Str×Addr))(x:Str)(c:Addr),(x,c)∈cellsFrom n names a->(x,c)∈a\/(x,qg)∈names:=by
 intro zx
 induction zx with
 |nil=>
  rintro _ _ _ _ h;exact .inl h
 |cons zh r ih=>
  obtain⟨y,k⟩:=zh;rintro n a x c h;unfold cellsFrom at h;split at h
  ·rename_i hk
   have kG:k=.cell:=by simpa using hk
   rcases ih _ _ x c h with q|q
   ·rcases aL.mp q with q|q
    ·cases q;exact .inr (by rw[kG];exact ax)
    ·exact .inl q
   ·exact .inr (av _ q)
  ·rcases ih _ _ x c h with q|q
   ·exact .inl q
   ·exact .inr (av _ q)
theorem oe:∀(names:List (Str×iz))(n:Nat)(a:List (Str×Addr))(x:Str),((x,qg)∈names\/∃c,(x,c)∈a)->∃c,(x,c)∈cellsFrom n names a:=λnames=>by
 induction names with
 |nil=>exactλ_ _ _ h=>h.resolve_left λh=>nomatch h
 |cons zh r ih=>
  obtain⟨y,k⟩:=zh;intro n a x h;dsimp only[cellsFrom];split
  ·rename_i hk
   apply ih;rcases h with h|⟨c,h⟩
   ·rcases aL.mp h with h|h
    ·cases h;exact .inr ⟨_,ax⟩
    ·exact .inl h
   ·exact .inr ⟨c,av _ h⟩
  ·rename_i hk
   apply ih;rcases h with h|h
   ·rcases aL.mp h with h|h
    ·cases h;exact absurd rfl hk
    ·exact .inl h
   ·exact .inr h
def fP(scope:Scope):bW:=scope.names.map λp=>(p.1,if p.2==.free then .cell else p.2)
def mx(σ:cw):List (Str×iz)->cw
 |[]=>[]
 |(n,k)::r=>if k==.free then(n,(look σ n).getD .Kr)::mx σ r else mx σ r
theorem Mz:∀{names:List (Str×iz)}{n:Str}{d:D},look (mx σ names) n=some d->(n,bG)∈names/\look σ n=some d:=λ{names}=>by
 induction names with
 |nil=>intro n d h;cases h
 |cons a r ih=>
  intro n d h;obtain⟨x,k⟩:=a;unfold mx at h;split at h
  ·rename_i hk
   have kG:k=.free:=by simpa using hk
   unfold look at h;split at h
   ·rename_i hx
    subst hx;refine⟨by rw[kG];exact ax,?_⟩;cases hl:look σ x with
    |none=>rw[hl]at h;cases h
    |some e=>
     rw[hl,Option.getD_some]at h;split at h<;>cases h;rfl
   ·exact⟨av _ (ih h).1,(ih h).2⟩
  ·exact⟨av _ (ih h).1,(ih h).2⟩
def ph(ks:bW)(σ:cw):List (Str×iz)->Bool
 |[]=>true
 |(n,k)::r=>(if k==.free then(ks.lookup n==some .cell)&&(look σ n).isSome else true)&&ph ks σ r
theorem Iv:∀{names:List (Str×iz)},ph ks σ names=true->∀n,(n,bG)∈names->ks.lookup n=some .cell/\∃d,look σ n=some d:=λ{names}=>by
 induction names with
 |nil=>exactλ_ _ h=>nomatch h
 |cons zh r ih=>
  obtain⟨x,k⟩:=zh;intro h n hm;unfold ph at h;rw[ay]at h;rcases aL.mp hm with hm|hm
  ·cases hm
   have h1:=h.1;rw[if_pos (by rfl),ay]at h1;exact⟨by simpa using h1.1,aA.mp h1.2⟩
  ·exact ih h.2 n hm
theorem AH(hf:env.scope.kind=.function)(h:∀n,(n,bG)∈scope.names->env.kindOf n=some .cell):(relabel scope env).names=fP scope:=by
 unfold relabel fP;dsimp only;apply iA;rintro⟨n,k⟩ hm;dsimp only;by_cases hk:k=.free
 ·subst hk
  rw[h n hm,hf];rfl
 ·have:(k==bG)=false:=by simpa using hk
  rw[this];simp
theorem AI(hd:(scope.names.map (·.1)).Nodup)(h:(fP scope).lookup n=some k):∃j,(n,j)∈scope.names/\k=if j==.free then .cell else j:=by
 have:=mem_of_lookup h;unfold fP at this;obtain⟨⟨x,j⟩,h1,h2⟩:=jR this;cases h2;exact⟨j,h1,rfl⟩
theorem ze(hd:(scope.names.map (·.1)).Nodup)(h:(n,j)∈scope.names):(fP scope).lookup n=some (if j==.free then .cell else j):=by
 refine mem_lookup ?_ (iZ.mpr ⟨_,h,rfl⟩);rw[fP,cG];exact hd
section
variable{prog:bb}{w:World}{A:aE}{E:Value->ak->Prop}{G:Addr->Prop}{env:Env}{La:Heap->Prop}
theorem FA
(h:Q {scope:=scope,locals:=s.heap.objs.size,globals:=env.globals,cells:=cellsFrom (s.heap.objs.size+1) scope.names cl,qual:=q,func:=none,code:=env.code,frame:=env.frame,builtins:=env.builtins}
   {s with heap:=pushCells (s.heap.push {cls:=.type "dict",data:=.dict #[]}) scope.names}):
 wpAny (model prog w) A (newFunctionEnv scope env.globals cl [] q none .none (some env)) Q E s:=by
 simp only[newFunctionEnv,Option.isSome_some,if_true];refine aw (wpAny_alloc ?_);refine aw (wpAny_layCells _ (λname kind cells=>by cases hkc:kind==qg<;>simp[hkc]) _ _ _ _ ?_);rw[show({s with heap:=s.heap.push {cls:=.type "dict",data:=.dict #[]}}:ak).heap.objs.size=s.heap.objs.size+1 from jM ..];rw[p9];exact aw (aM (aM h))
end
end
section
section
variable{prog:bb}{w:World}{A:aE}{E:Value->ak->Prop}{G:Addr->Prop}{env:Env}{La:Heap->Prop}
abbrev kO(scope:Scope)(env:Env)(C:Addr):List (Str×Addr):=cellsFrom (C+1) scope.names (ic env scope.names [])
abbrev iR(scope:Scope)(h:Heap):Heap:=pushCells (h.push {cls:=.type "dict",data:=.dict #[]}) scope.names
abbrev qH(scope:Scope)(env:Env)(C:Addr):Env:=compEnvC scope (kO scope env C) C env
theorem Iw(hd:(scope.names.map (·.1)).Nodup)(hf:∀n,(n,bG)∈scope.names->(env.cells.lookup n).isSome=true)
(o5:∀n c,(n,bG)∈scope.names->env.cells.lookup n=some c->c<h.objs.size)(apn:∀n n' c,env.cells.lookup n=some c->env.cells.lookup n'=some c->n=n'):
 (∀n c,(kO scope env h.objs.size).lookup n=some c->((n,qg)∈scope.names/\(iR scope h).IsCell c none/\h.objs.size+1<=c)\/((n,bG)∈scope.names/\env.cells.lookup n=some c))/\
 (∀n,(n,qg)∈scope.names->∃c,(kO scope env h.objs.size).lookup n=some c)/\
 (∀n c,(n,bG)∈scope.names->env.cells.lookup n=some c->(kO scope env h.objs.size).lookup n=some c)/\
 (∀n n' c,(kO scope env h.objs.size).lookup n=some c->(kO scope env h.objs.size).lookup n'=some c->n=n'):=by
 have ok0:=cellsFrom_ok scope.names (h.push {cls:=.type "dict",data:=.dict #[]}) (h.objs.size+1) [] ⟨λ_ _ hm=>(nomatch hm),LL⟩ (by rw[jM];exact bD _);rw[jM]at ok0;have e1:∀n,(kO scope env h.objs.size).lookup n=((cellsFrom (h.objs.size+1) scope.names []).lookup n).or ((ic env scope.names []).lookup n):=λn=>by
  show(cellsFrom (h.objs.size+1) scope.names ([]++ic env scope.names [])).lookup n=_;rw[AG,List.lookup_append]
 have e2:∀n,(n,bG)∈scope.names->(cellsFrom (h.objs.size+1) scope.names []).lookup n=none:=λn hn=>by
  cases hl:(cellsFrom (h.objs.size+1) scope.names []).lookup n with
  |none=>rfl
  |some c=>
   rcases ik _ _ _ _ _ (mem_of_lookup hl)with q|q
   ·cases q
   ·have a:=mem_lookup hd hn
    have b:=mem_lookup hd q;rw[a]at b;cases b
 have e3:∀n c,(ic env scope.names []).lookup n=some c->(n,bG)∈scope.names/\env.cells.lookup n=some c:=λn c hl=>by
  rcases PZ _ _ _ _ hf (mem_of_lookup hl)with q|q
  ·cases q
  ·exact q
 refine⟨λn c hl=>?_,λn hn=>?_,λn c hn hc=>?_,λn n' c hl qq=>?_⟩
 ·rw[e1]at hl
  cases ho:(cellsFrom (h.objs.size+1) scope.names []).lookup n with
  |some c'=>
   rw[ho,HG]at hl;cases hl;refine .inl ⟨?_,ok0.empty n c (mem_of_lookup ho)⟩;rcases ik _ _ _ _ _ (mem_of_lookup ho)with q|q
   ·cases q
   ·exact q
  |none=>
   rw[ho,oZ]at hl;exact .inr (e3 n c hl)
 ·obtain⟨c,hm⟩:=oe scope.names (h.objs.size+1) [] n (.inl hn)
  obtain⟨c',hl⟩:=pg hm;exact⟨c',by rw[e1,hl,HG]⟩
 ·obtain⟨c',hm⟩:=P0 (env:=env) scope.names [] n (.inl hn)
  obtain⟨c'',hl⟩:=pg hm;rw[e1,e2 n hn,oZ,hl];have:=(e3 n c'' hl).2;rw[hc]at this;exact this.symm
 ·rw[e1]at hl qq
  have key:∀m,((cellsFrom (h.objs.size+1) scope.names []).lookup m).or ((ic env scope.names []).lookup m)=some c->((m,c)∈cellsFrom (h.objs.size+1) scope.names []/\h.objs.size+1<=c)\/(env.cells.lookup m=some c/\c<h.objs.size):=λm q=>by
   cases ho:(cellsFrom (h.objs.size+1) scope.names []).lookup m with
   |some c'=>rw[ho,HG]at q;cases q;exact .inl ⟨mem_of_lookup ho,(ok0.empty m c (mem_of_lookup ho)).2⟩
   |none=>
    rw[ho,oZ]at q;exact .inr ⟨(e3 m c q).2,o5 m c (e3 m c q).1 (e3 m c q).2⟩
  rcases key n hl with q|q<;>rcases key n' qq with q'|q'
  ·exact name_of_addr ok0.apart q.1 q'.1
  ·exact absurd (bJ q'.2 (rX q.2)) (fg _)
  ·exact absurd (bJ q.2 (rX q'.2)) (fg _)
  ·exact apn n n' c q.1 q'.1
def MA(scope:Scope)(n:Str):Bool:=match scope.names.lookup n with|some .local=>true|some .cell=>true|_=>false
theorem CZ(x:In env G σ aQ.heap)(hk:scope.kind=.function)(hd:(scope.names.map (·.1)).Nodup)(hf:ph env.scope.names σ scope.names=true)(k:Keeps aQ fJ):
 (relabel scope env).names=fP scope/\
 closureFor scope env=pure (ic env scope.names [])/\
 In (qH scope env fJ.heap.objs.size) (λa=>G a\/(aQ.heap.get? a=none/\((iR scope fJ.heap).get? a).isSome=true)) (mx σ scope.names) (iR scope fJ.heap)/\
 WOk (qH scope env fJ.heap.objs.size) (MA scope) (λa=>fJ.heap.objs.size<=a/\((iR scope fJ.heap).get? a).isSome=true)/\
 (∀n c,(qH scope env fJ.heap.objs.size).cells.lookup n=some c->fJ.heap.objs.size+1<=c\/(aQ.heap.get? c).isSome=true):=by
 have p5:=Iv hf;have qJ:∀n,(n,bG)∈scope.names->∃c v d,env.cells.lookup n=some c/\aQ.heap.IsCell c (some v)/\look σ n=some d/\bT aQ.heap G d v:=λn hn=>by
  obtain⟨h1,d,h2⟩:=p5 n hn;obtain⟨m,hm,hv⟩:=x.va;obtain⟨c,v,q1,q2,q3⟩:=(hv n d h2).2 (.inl h1);exact⟨c,v,d,q1,q2,h2,q3⟩
 have X5:∀n,(n,bG)∈scope.names->(env.cells.lookup n).isSome=true:=λn hn=>by
  obtain⟨c,v,d,q1,_⟩:=qJ n hn;rw[q1];rfl
 have XY:bU aQ.heap fJ.heap:=Keeps.all k;have o5:∀n c,(n,bG)∈scope.names->env.cells.lookup n=some c->c<fJ.heap.objs.size:=λn c hn hc=>by
  obtain⟨c',v,d,q1,⟨o,q2,_⟩,_⟩:=qJ n hn;rw[hc]at q1;cases(q1);exact dT (XY c o q2)
 obtain⟨c1,c2,c3,c4⟩:=Iw (env:=env) (scope:=scope) (h:=fJ.heap) hd X5 o5 x.inj;have AJ:=AH x.fn λn hn=>(p5 n hn).1;have hold:∀b o,fJ.heap.get? b=some o->(iR scope fJ.heap).get? b=some o:=λb o e=>yC _ _ b o (bj _ e);have hC:(iR scope fJ.heap).get? fJ.heap.objs.size=some {cls:=.type "dict",data:=.dict #[]}:=yC _ _ _ _ (jm _ _ rfl);have aij:∀a,fJ.heap.objs.size<=a->aQ.heap.get? a=none:=λa ha=>by
  cases e:aQ.heap.get? a with
  |none=>rfl
  |some o=>exact absurd (dT (XY a o e)) (Bg.mpr ha)
 have hG:∀b,(G b\/(aQ.heap.get? b=none/\((iR scope fJ.heap).get? b).isSome=true))->G b\/aQ.heap.get? b=none:=λb q=>q.imp id And.left;have qM:∀n j,(qH scope env fJ.heap.objs.size).kindOf n=some j->∃i,(n,i)∈scope.names/\j=if i==.free then .cell else i:=λn j h=>by
  have h':(relabel scope env).names.lookup n=some j:=h;rw[AJ]at h';exact AI hd h'
 have abl:closureFor scope env=pure (ic env scope.names []):=by
  have:=KC (env:=env) scope.names [] X5;simp only[closureFor];rw[this];rfl
 refine⟨AJ,abl,⟨hk,x.gl,x.bi,?_,.inr ⟨aij _ (bD _),congrArg qr hC⟩,λn c e=>?_,c4,λn hn=>?_,?_⟩,⟨⟨bD _,congrArg qr hC⟩,λn hn=>?_⟩,λn c e=>?_⟩
 ·rintro b (q|q)
  ·exact(x.lo.keeps XY).keeps hold b q
  ·exact q.2
 ·rcases c1 n c e with⟨_,⟨o,q1,_⟩,q2⟩|⟨q1,q2⟩
  ·exact⟨.inr ⟨aij _ (by omega),by rw[q1];rfl⟩,Nat.ne_of_gt q2⟩
  ·exact⟨.inl (x.fc n c q2).1,gG (o5 n c q1 q2)⟩
 ·obtain⟨i,h1,h2⟩:=qM n _ hn
  by_cases hi:i=.free
  ·subst hi
   obtain⟨c,v,d,q1,q2,_⟩:=qJ n h1;exact⟨c,_,c3 n c h1 q1,(q2.keeps XY).keeps hold⟩
  ·have:(i==bG)=false:=by simpa using hi
   rw[this]at h2;simp only[i0,if_false]at h2;subst h2;obtain⟨c,hc⟩:=c2 n h1;rcases c1 n c hc with⟨_,q1,_⟩|⟨q1,_⟩
   ·exact⟨c,_,hc,q1⟩
   ·have a:=mem_lookup hd h1
    have b:=mem_lookup hd q1;rw[a]at b;cases b
 ·refine⟨_,(Heap.Ns.new fJ.heap (.type "dict")).keeps (yC _ _),λn d e=>?_⟩
  obtain⟨h1,h2⟩:=Mz e;obtain⟨c,v,d',q1,q2,q3,q4⟩:=qJ n h1;rw[h2]at q3;cases q3;refine⟨λnA=>?_,λ_=>⟨c,v,c3 n c h1 q1,(q2.keeps XY).keeps hold,bT.kept (F:=G) (λb o _ e=>hold b o (XY b o e)) hG _ _ q4⟩⟩;have h':(relabel scope env).names.lookup n=some .local:=nA;rw[AJ,ze hd h1]at h';cases h'
 ·unfold MA at hn
  have key:∀j,scope.names.lookup n=some j->j≠.free->(qH scope env fJ.heap.objs.size).kindOf n=some j:=λj h hj=>by
   show(relabel scope env).names.lookup n=some j;rw[AJ,ze hd (mem_of_lookup h)];have:(j==bG)=false:=by simpa using hj
   rw[this];rfl
  have fin:∀j,scope.names.lookup n=some j->j≠.free->∀c,(qH scope env fJ.heap.objs.size).cells.lookup n=some c->fJ.heap.objs.size<=c/\((iR scope fJ.heap).get? c).isSome=true:=λj h hj c hc=>by
   rcases c1 n c hc with⟨_,⟨o,q1,_⟩,q2⟩|⟨q1,_⟩
   ·exact⟨by omega,by rw[q1];rfl⟩
   ·have a:=mem_lookup hd (mem_of_lookup h)
    have b:=mem_lookup hd q1;rw[a]at b;cases b;exact absurd rfl hj
  split at hn
  ·rename_i h
   exact⟨.inl (key _ h (by decide)),fin _ h (by decide)⟩
  ·rename_i h
   exact⟨.inr (key _ h (by decide)),fin _ h (by decide)⟩
  ·cases hn
 ·rcases c1 n c e with⟨_,_,q2⟩|⟨q1,q2⟩
  ·exact .inl q2
  ·obtain⟨c',v,d,r1,⟨o,r2,_⟩,_⟩:=qJ n q1
   rw[q2]at r1;cases r1;exact .inr (by rw[r2];rfl)
end
end
section
theorem AK(elt t1 i1)(f1)(t2 i2)(f2)(scope)(pos)(it acc)(env):
 compTurn (.ListComp elt [⟨t1,i1,f1,0⟩,⟨t2,i2,f2,0⟩] scope pos) 0 it acc env=(do
  standAt i1.pos
  match<-pyNext it with
  |none=>pure (.done .next)
  |some v=>
   letOwnedTupleGo t1 it v
   assign t1 env v
   let mut ok:=true
   for c in f1 do
    if ok then ok<-isTrue c env (eval c env)
   if ok then
    (do
      let x<-eval i2 env
      standAt i2.pos
      let x<-foldedSetIterable i2 env x;let it'<-holding [x] (pyIter x);let _<-runOwn (.compStart (.ListComp elt [⟨t1,i1,f1,0⟩,⟨t2,i2,f2,0⟩] scope pos) 1 it' acc env) env
      again (.compLoop (.ListComp elt [⟨t1,i1,f1,0⟩,⟨t2,i2,f2,0⟩] scope pos) 0 it acc env))
   else again (.compLoop (.ListComp elt [⟨t1,i1,f1,0⟩,⟨t2,i2,f2,0⟩] scope pos) 0 it acc env)):=by rfl
theorem C0(elt t1 i1)(f1)(scope)(pos)(it acc)(env):
 compTurn (.ListComp elt [⟨t1,i1,f1,0⟩] scope pos) 0 it acc env=(do
  standAt i1.pos
  match<-pyNext it with
  |none=>pure (.done .next)
  |some v=>
   letOwnedTupleGo t1 it v
   assign t1 env v
   let mut ok:=true
   for c in f1 do
    if ok then ok<-isTrue c env (eval c env)
   if ok then(do
       let _<-(do let _<-call (.builtin "list.append") [acc,<-eval elt env])
       again (.compLoop (.ListComp elt [⟨t1,i1,f1,0⟩] scope pos) 0 it acc env))
   else again (.compLoop (.ListComp elt [⟨t1,i1,f1,0⟩] scope pos) 0 it acc env)):=by rfl
theorem AL(elt t1 i1)(f1)(t2 i2)(f2)(scope)(pos)(it acc)(env):
 compTurn (.ListComp elt [⟨t1,i1,f1,0⟩,⟨t2,i2,f2,0⟩] scope pos) 1 it acc env=(do
  standAt i2.pos
  match<-pyNext it with
  |none=>pure (.done .next)
  |some v=>
   letOwnedTupleGo t2 it v
   assign t2 env v
   let mut ok:=true
   for c in f2 do
    if ok then ok<-isTrue c env (eval c env)
   if ok then(do
       let _<-(do let _<-call (.builtin "list.append") [acc,<-eval elt env])
       again (.compLoop (.ListComp elt [⟨t1,i1,f1,0⟩,⟨t2,i2,f2,0⟩] scope pos) 1 it acc env))
   else again (.compLoop (.ListComp elt [⟨t1,i1,f1,0⟩,⟨t2,i2,f2,0⟩] scope pos) 1 it acc env)):=by rfl
section
variable{prog:bb}{w:World}{A:aE}{E:Value->ak->Prop}{s:ak}{R:Result->ak->Prop}
theorem zf{scope pos it acc env}
(h0:codeAny (model prog w) A (.compLoop (.ListComp elt [⟨t1,i1,f1,0⟩,⟨t2,i2,f2,0⟩] scope pos) 1 it acc env) R s)
(h:wpAny (model prog w) A (pyIter it) (λit' s'=>codeAny (model prog w) A (.compLoop (.ListComp elt [⟨t1,i1,f1,0⟩,⟨t2,i2,f2,0⟩] scope pos) 1 it' acc env) R s')
   (notedBy (model prog w) A env λx s'=>R (.error x) s') s):
 codeAny (model prog w) A (.compStart (.ListComp elt [⟨t1,i1,f1,0⟩,⟨t2,i2,f2,0⟩] scope pos) 1 it acc env) R s:=by
 refine codeAny_of_tree ?_;show wpAny _ _ ((compStart (.ListComp elt [⟨t1,i1,f1,0⟩,⟨t2,i2,f2,0⟩] scope pos) 1 it acc env).onRaise (λx=>do noteFrame x env;standAt theWindowsPlace)) _ _ s;refine wpAny_notedAt ?_;unfold compStart;show wpAny _ _ (ask >>= _) _ _ s;refine aw (wpAny_askSetting (aeS ?_));split
 ·first
   |exact aw (aM (aM (Td rfl h0)))
   |exact aM (Td rfl h0)
 ·first
   |exact aw (oT (aw (eH (aw (aj h (λit' s' h'=>aM (Td rfl h')) λ_ _ x=>x)))))
   |(refine aw (oT ?_);show wpAny _ _ (standAt i2.pos >>= _) _ _ s;exact aw (eH (aw (aj h (λit' s' h'=>aM (Td rfl h')) λ_ _ x=>x))))
variable{G X:Addr->Prop}{dk:Env}{La:Heap->Prop}
theorem FC(x:In dk G xZ s.heap)(haX:X acc)(haG:G acc)(hal:acc≠dk.locals)(hac:∀n,dk.cells.lookup n≠some acc)(ac:Acc G s.heap acc xs)
(hl:xs.length+1<=dC)(h:wpAny (model prog w) A (eval elt dk) (iJ G s d) E s):
 wpAny (model prog w) A (do let _<-call (.builtin "list.append") [.ref acc,<-eval elt dk]) (λ_ s'=>Upd X s s'/\In dk G xZ s'.heap/\Acc G s'.heap acc (xs++[d])) E s:=by
 refine aw (aj h (λv s1 h1=>?_) λ_ _ e=>e);obtain⟨k,r⟩:=h1;obtain⟨vs,n,q1,q2⟩:=ac.keeps (Keeps.all k);have eY:dC=1048576:=rfl;have hsz:vs.size<=sizeLine:=by
  have h1:=q2.length;have h2:=iQ;rw[cT]at h1;exact ao (by rw[h1];omega) h2
 refine aw (aeU (hsz:=hsz) ⟨n,q1⟩ λh' hp hs=>aM ?_);have u:Upd (λa=>a=acc) s1 {s1 with heap:=h'}:=⟨h',_,rfl,λb o hb e=>hs.extBut b o hb e⟩
 obtain⟨n',hp⟩:=hp;refine⟨(Upd.of k).trans (u.more λa q=>q▸haX),?_,?_⟩
 ·refine(x.keeps (Keeps.all k)).upd u (λa q=>q▸haG) ?_ (λq=>hal q.symm) (λn c e q=>hac n (q▸e))
  exact jy.upd (x.lo.keeps (Keeps.all k)) (u.kept (G:=λa=>a=acc) λ_ q=>q) λb q=>by subst q;rw[hp];rfl
 ·refine⟨vs.push v,n',hp,?_⟩
  rw[aeV];exact(u.Fw (λa q=>q▸haG) q2).append (.one (u.rep (λa q=>q▸haG) r))
end
end
section
structure Ev where
 d:bW->cw->ae->Option D
 b:bW->cw->ae->Option Bool
def mS(e:ae):Bool:= !(cy e.ctorIdx 7)
def rZ(scope:Scope)(σ:cw)(n:Str):Bool:=MA scope n&&(look σ n).isNone
def zg:List Str->Bool
 |[]=>true
 |x::xs=> !(xs.contains x)&&zg xs
theorem FD:∀{l:List Str},zg l=true->l.Nodup:=by
 intro zx
 induction zx with
 |nil=>
  rintro _;exact mr
 |cons x xs ih=>
  rintro h;unfold zg at h;simp only[ay,cF]at h;refine cJ.mpr ⟨?_,ih h.2⟩;simpa using h.1
def FE(V:Ev)(scope:Scope)(elt:ae)(σ:cw):Option (List D):=(V.d (fP scope) σ elt).map λd=>[d]
def P4(V:Ev)(scope:Scope)(elt t2 i2:ae)(f2:List ae)(σ:cw):Option (List D):=
 (V.d (fP scope) σ i2).bind λd=>(items d).bind λds=>iL (mR (V.b (fP scope)) (rZ scope σ) t2 f2 (FE V scope elt) σ) ds
def jY(V:Ev)(scope:Scope)(elt:ae):List dY->Option (ae×ae×List ae×(cw->Option (List D)))
 |[]=>none
 |g::r=>match r with
  |[]=>if g.is_async=0/\mS g.iter=true then some (g.target,g.iter,g.ifs,FE V scope elt)else none
  |h::r=>match r with
   |[]=>if(g.is_async=0/\mS g.iter=true)/\h.is_async=0/\mS h.iter=true then some (g.target,g.iter,g.ifs,P4 V scope elt h.target h.iter h.ifs)else none
   |_::_=>none
theorem my(h:jY V scope elt gens=some c):
 ∃i gs,gens=⟨c.1,i,c.2.2.1,0⟩::gs/\c.2.1=i/\mS i=true/\((gs=[]/\c.2.2.2=FE V scope elt)\/∃t2 i2 f2,gs=[⟨t2,i2,f2,0⟩]/\mS i2=true/\c.2.2.2=P4 V scope elt t2 i2 f2):=by
 cases gens with
 |nil=>exact no h
 |cons g r=>
  obtain⟨t,i,f,a⟩:=g;cases r with
  |nil=>
   obtain⟨⟨rfl,q2⟩,rfl⟩:=bh h;exact⟨_,_,rfl,rfl,q2,.inl ⟨rfl,rfl⟩⟩
  |cons k r=>
   obtain⟨t2,i2,f2,a2⟩:=k;cases r with
   |cons _ _=>exact no h
   |nil=>
    obtain⟨⟨⟨rfl,q2⟩,rfl,q4⟩,rfl⟩:=bh h;exact⟨_,_,rfl,rfl,q2,.inr ⟨_,_,_,rfl,q4,rfl⟩⟩
def zi(V:Ev)(ks:bW)(σ:cw)(elt:ae)(gens:List dY)(scope:Scope):Option (List D):=
 if(scope.kind=.function/\zg (scope.names.map (·.1))=true)/\ph ks σ scope.names=true then
  (jY V scope elt gens).bind λc=>(V.d ks σ c.2.1).bind λd=>(items d).bind λds=>
    (iL (mR (V.b (fP scope)) (rZ scope (mx σ scope.names)) c.1 c.2.2.1 c.2.2.2 (mx σ scope.names)) ds).bind λout=>if out.length<=dC then some out else none
 else none
section
variable{prog:bb}{w:World}{A:aE}{E:Value->ak->Prop}{G:Addr->Prop}{env:Env}{La:Heap->Prop}
structure dz(prog:bb)(w:World)(La:Heap->Prop)(Bu:aE->Prop)(V:Ev):Prop where
 d:∀(A:aE)(E:Value->ak->Prop) env G σ s e d,Bu A->dN A La s->In env G σ s.heap->V.d env.scope.names σ e=some d->wpAny (model prog w) A (eval e env) (iJ G s d) E s
 b:∀(A:aE)(E:Value->ak->Prop) env G σ s e b,Bu A->dN A La s->In env G σ s.heap->V.b env.scope.names σ e=some b->wpAny (model prog w) A (isTrue e env (eval e env)) (λb' s'=>b'=b/\Keeps s s') E s
theorem pj(h:mS e=true)(env)(x):foldedSetIterable e env x=pure x:=by
 have k:∀b:Bool,b=true->(pure x:Sem Value)=pure x:=λ_ _=>rfl;exact fj (motive_1:=λe=>mS e=true->foldedSetIterable e env x=pure x) e (λ_ _ _=>k _) (λ_ _ _=>k _) (λ_ _ _ _=>k _) (λ_ _ _=>k _) (λ_ _ _ _=>k _) (λ_ _ _ _=>k _) (λ_ _ _=>k _) (λ_ _ _ h=>nz h) (λ_ _ _ _=>k _) (λ_ _ _ _=>k _) (λ_ _ _ _ _=>k _) (λ_ _ _ _=>k _) (λ_ _=>k _) (λ_ _=>k _) (λ_ _=>k _) (λ_ _ _ _=>k _) (λ_ _ _ _=>k _) (λ_ _ _ _=>k _) (λ_ _=>k _) (λ_ _ _=>k _) (λ_ _ _=>k _) (λ_ _ _=>k _) (λ_ _=>k _) (λ_ _=>k _) (λ_ _=>k _) (λ_ _ _=>k _) (λ_ _ _ _=>k _) h
theorem MB:∀n,rZ scope σ n=true->look σ n=none:=λn h=>by
 unfold rZ at h;rw[ay]at h;simpa using h.2
theorem In.FG{σ:cw}{h h':Heap}{Y:Addr->Prop}(x:In env G σ h)(k:bU h h')(hI:∀a,Y a->h.get? a=none)(hI':∀a,Y a->(h'.get? a).isSome=true):In env (λa=>G a\/Y a) σ h':=by
 have hG:∀b,(G b\/Y b)->G b\/h.get? b=none:=λb q=>Or.imp id (hI b) q;refine⟨x.fn,x.gl,x.bi,λb q=>q.elim (λq=>x.lo.keeps k b q) (hI' b),.inl x.fl,λn c e=>⟨.inl (x.fc n c e).1,(x.fc n c e).2⟩,x.inj,λn hn=>?_,?_⟩
 ·obtain⟨c,v,h1,h2⟩:=x.ce n hn
  exact⟨c,v,h1,h2.keeps k⟩
 ·obtain⟨m,hm,hv⟩:=x.va
  refine⟨m,hm.keeps k,λn d e=>⟨λhk=>?_,λhk=>?_⟩⟩
  ·obtain⟨v,h1,h2⟩:=(hv n d e).1 hk
   exact⟨v,h1,bT.kept (F:=G) (λb o _ e=>k b o e) hG _ _ h2⟩
  ·obtain⟨c,v,h1,h2,h3⟩:=(hv n d e).2 hk
   exact⟨c,v,h1,h2.keeps k,bT.kept (F:=G) (λb o _ e=>k b o e) hG _ _ h3⟩
theorem Upd.abn(u:Upd (λa=>X a\/a=I) aQ s')(k:Keeps s aQ)(hI:s.heap.get? I=none):Upd X s s':=by
 obtain⟨h1,t1,rfl,ka⟩:=k;obtain⟨h2,t2,rfl,kb⟩:=u;exact⟨h2,t2,rfl,λb o nb e=>kb b o (λz=>z.elim nb λz=>nG hI (z▸e)) (ka b o e)⟩
theorem Acc.grow(x:Acc G h a ds)(k:bU h h')(hG:∀b,G' b->G b\/h.get? b=none):Acc G' h' a ds:=
 by obtain⟨vs,n,r1,r2⟩:=x;exact⟨vs,n,k _ _ r1,aZ.kept (F:=G) (λb o _ e=>k b o e) hG _ _ r2⟩
structure LC(A:aE)(La:Heap->Prop)(scope:Scope)(dk:Env)(X Xw:Addr->Prop)(acc:Addr)(aQ:ak):Prop where
 am:dN A La aQ
 wo:WOk dk (MA scope) Xw
 hw:∀a,Xw a->X a
 wa:¬Xw acc
 h0:∀a,X a->aQ.heap.get? a=none
 ha:X acc
 ac:∀n,dk.cells.lookup n≠some acc
 nm:dk.scope.names=fP scope
theorem P5(h:rZ scope σ n=true):MA scope n=true:=((ay _ _).mp h).1
section
variable{V:Ev}{Bu:aE->Prop}{scope:Scope}{dk:Env}{X Xw:Addr->Prop}{acc:Addr}{aQ s:ak}{elt:ae}{gens:List dY}{pos:Pos}{σ:cw}{ds out mm:List D}
theorem C1(VO:dz prog w La Bu V)(bu:Bu A)(c:LC A La scope dk X Xw acc aQ){k:Nat}{target:ae}{ifs:List ae}{abh:Pos}{Fz:Value->Sem DV}{tN:cw->Option (List D)}{Gn:Addr->Prop}{sa sb:ak}{it:Value}{R:Result->ak->Prop}
(PY:∀it,compTurn (.ListComp elt gens scope pos) k it (.ref acc) dk=(do
   standAt abh
   match<-pyNext it with
   |none=>pure (.done .next)
   |some v=>
    letOwnedTupleGo target it v
    assign target dk v
    let mut ok:=true
    for c in ifs do
     if ok then ok<-isTrue c dk (eval c dk)
    if ok then Fz it else again (.compLoop (.ListComp elt gens scope pos) k it (.ref acc) dk)))
(hit:It prog w A G ds sa sb it)(k1:Keeps aQ sa)(kab:Keeps sa sb)(kb:Keeps sb s)
(hX:∀b,X b->(G b\/sa.heap.get? b=none)/\Gn b/\(sa.heap.get? b=none->sb.heap.get? b=none))(hG:∀b,Gn b->G b\/sa.heap.get? b=none)(hI:∀b,sa.heap.get? b=none->(sb.heap.get? b).isSome=true->Gn b)(hc:∀n a,dk.cells.lookup n=some a->X a\/(sa.heap.get? a).isSome=true)
(hem:∀it E (Q:DV->ak->Prop) xZ s xs ys,In dk Gn xZ s.heap->Keeps aQ s->1<=s.toks->Acc Gn s.heap acc xs->tN xZ=some ys->xs.length+ys.length<=dC->(∀n d,look σ n=some d->look xZ n=some d)->
   (∀s',1<=s'.toks->Upd X s s'->In dk Gn xZ s'.heap->Acc Gn s'.heap acc (xs++ys)->Q (.again (.compLoop (.ListComp elt gens scope pos) k it (.ref acc) dk)) s')->wpAny (model prog w) A (Fz it) Q E s)
(hR:∀I s',sa.heap.get? I=none->Upd (λa=>X a\/a=I) s s'->1<=s'.toks->In dk (λa=>Gn a/\a≠I) σ s'.heap->Acc (λa=>Gn a/\a≠I) s'.heap acc (mm++out)->R (.ok .next) s')
(zd:iL (mR (V.b (fP scope)) (rZ scope σ) target ifs tN σ) ds=some out)(hlen:mm.length+out.length<=dC)(x:In dk Gn σ s.heap)(tk:1<=s.toks)(ac:Acc Gn s.heap acc mm):
 codeAny (model prog w) A (.compLoop (.ListComp elt gens scope pos) k it (.ref acc) dk) R s/\∀(Q:Value->ak->Prop)(E:Value->ak->Prop),Q it s->wpAny (model prog w) A (pyIter it) Q E s:=by
 cases hit with
 |mk I fp P St hx no W st X2 Ky hfp hP=>
 subst hx;have hIb:=Ky _ _ st;have nXI:¬X I:=λz=>nS ((hX I z).2.2 X2) hIb;have SS:St 0 s.heap:=W.frame _ _ _ st λb _ o e=>Keeps.all kb b o e;have kas:=Keeps.trans' kab kb;refine⟨CY (X:=X) (Xw:=Xw) (G:=Gn) (mm:=mm) (PY _) c.am ⟨c.wo.1,λn hn=>c.wo.2 n (P5 hn)⟩ c.hw c.wa (λa q=>(hX a q).2.1) (hI I X2 hIb) nXI c.h0 (Us (Keeps.all k1) X2) c.ha (λz=>nXI (z▸c.hw _ c.wo.1)) (λn e=>(hc n I e).elim nXI λq=>nS X2 q) MB
  no W Ky (λb hb=>(hfp b hb).imp id λz q=>(hX b q).1.elim z.1 λq=>nS q z.2) (λi v h p kp d hd=>hP i v h Gn p (λb o nb e=>kp b o (λz=>z.elim (λz=>(hX b z).1.elim nb λq=>nG q e) λz=>nG X2 (z▸e)) (Keeps.all kas b o e)) hG d hd)
  (λE xZ t b s xx kk tt hv=>VO.b A E _ Gn xZ s t b bu (c.am.keeps kk tt) xx (c.nm▸hv)) (hem _) (λs' xs u t x ac hx=>hR I s' X2 u t x (ai (zd.symm.trans hx)▸ac)) zd hlen (Upd.of (Keeps.trans' k1 kas)) x tk SS ac,λQ E q=>W.self 0 s Q E SS q⟩
theorem xw(VO:dz prog w La Bu V)(bu:Bu A)(c:LC A La scope dk X Xw acc aQ)(hD:G acc)(x:In dk G σ s.heap)(kk:Keeps aQ s)(tt:1<=s.toks)(ac:Acc G s.heap acc xs)(he:FE V scope elt σ=some ys)(hl:xs.length+ys.length<=dC)
(hQ:∀s',1<=s'.toks->Upd X s s'->In dk G σ s'.heap->Acc G s'.heap acc (xs++ys)->Q (.again cc) s'):
 wpAny (model prog w) A (do
  let _<-(do let _<-call (.builtin "list.append") [.ref acc,<-eval elt dk])
  again cc) Q E s:=by
 obtain⟨d,h1,rfl⟩:=dM he;exact aw (aj (bF tt (FC x c.ha hD (λz=>c.wa (z▸c.wo.1)) c.ac ac hl (VO.d A _ _ G σ s elt d bu (c.am.keeps kk tt) x (c.nm▸h1)))) (λ_ s' q=>aM (hQ s' q.1 q.2.1 q.2.2.1 q.2.2.2)) λ_ _ e=>e)
theorem FJ(VO:dz prog w La Bu V)(bu:Bu A)(c:LC A La scope dk X Xw acc aQ)(hn:mS i2=true)(Iu:∀a,X a->G a)(x:In dk G σ s.heap)(kk:Keeps aQ s)(tt:1<=s.toks)(ac:Acc G s.heap acc xs)
(he:P4 V scope elt t2 i2 f2 σ=some ys)(hl:xs.length+ys.length<=dC)(hQ:∀s',1<=s'.toks->Upd X s s'->In dk G σ s'.heap->Acc G s'.heap acc (xs++ys)->Q (.again cc) s'):
 wpAny (model prog w) A (do
  let x<-eval i2 dk
  standAt i2.pos
  let x<-foldedSetIterable i2 dk x;let it'<-holding [x] (pyIter x);let _<-runOwn (.compStart (.ListComp elt [⟨t,i,f,0⟩,⟨t2,i2,f2,0⟩] scope pos) 1 it' (.ref acc) dk) dk
  again cc) Q E s:=by
 obtain⟨d,h1,h2⟩:=aO he;obtain⟨ds2,h3,h4⟩:=aO h2;refine aw (aj (bF tt (VO.d A _ _ G σ s i2 d bu (c.am.keeps kk tt) x (c.nm▸h1))) (λv s5 h5=>aw (eH (aw (asK (pj hn _ v) ?_)))) λ_ _ e=>e);have x5:=x.keeps (Keeps.all h5.2.1);refine aw (cq (aj (bF h5.1 (o9 c.am.hh x5.lo h5.2.2 h3)) (λit s6 h6=>aw ?_) λ_ _ e=>e));have k6:=Keeps.all h6.2.1;obtain⟨Gn,oX,hn2,hn3⟩:∃Gn:Addr->Prop,(∀b,G b->Gn b)/\(∀b,Gn b->G b\/(s5.heap.get? b=none/\(s6.heap.get? b).isSome=true))/\(∀b,s5.heap.get? b=none->(s6.heap.get? b).isSome=true->Gn b)/\In dk Gn σ s6.heap:=
  ⟨_,λ_=>.inl,λ_ q=>q,λ_ q r=>.inr ⟨q,r⟩,x5.FG k6 (λ_ q=>q.1) λ_ q=>q.2⟩
 have hn4:∀b,Gn b->G b\/s5.heap.get? b=none:=λb q=>(hn2 b q).imp id And.left;have lo5:∀b,G b->∀I,s5.heap.get? I=none->b≠I:=λb q I hI z=>nS hI (z▸x5.lo b q);have m2:=C1 (R:=λr s'=>match r with
  |.ok _=>wpAny (model prog w) A (again cc) Q E s'
  |.error e=>cameBackBy (model prog w) A dk E e s') (Gn:=Gn) (mm:=xs) VO bu c (λ_=>AL elt t i f t2 i2 f2 scope pos _ _ _) h6.2.2
  (Keeps.trans' kk h5.2.1) h6.2.1 Keeps.rfl' (λb q=>⟨.inl (Iu b q),oX b (Iu b q),λe=>nS e (x5.lo b (Iu b q))⟩) hn4 hn3.1 (λn a e=>.inr (x5.lo a (x5.fc n a e).1)) (λ_ E Q σ2 s xs ys r1 r2 r3 r4 r5 r6 _=>xw VO bu c (oX _ (Iu _ c.ha)) r1 r2 r3 r4 r5 r6)
  (λI s' hI u tt xx ac=>aM (hQ s' tt (u.abn (Keeps.trans' h5.2.1 h6.2.1) (Us (Keeps.all h5.2.1) hI)) (xx.less (λa q=>⟨oX a q,lo5 a q I hI⟩) λa q=>(hn2 a q.1.1).resolve_right λr=>nS r.1 (q.2.elim (λz=>z▸x5.lo _ x5.fl) λ⟨n,z⟩=>x5.lo a (x5.fc n a z).1)) (ac.less λa q=>⟨oX a q,lo5 a q I hI⟩))) h4 hl hn3.2 h6.1
  ((ac.keeps (Keeps.all h5.2.1)).grow k6 hn4)
 exact wpAny_runOwn (h:=none) (zf m2.1 (m2.2 _ _ m2.1))
end
theorem UY{V:Ev}{Bu:aE->Prop}(VO:dz prog w La Bu V)(bu:Bu A){scope:Scope}{σ:cw}{aQ fk FK:ak}{elt:ae}{gens:List dY}{pos:Pos}{c:ae×ae×List ae×(cw->Option (List D))}{it:Value}{ds out:List D}{R:Result->ak->Prop}{dk:Env}{D:Addr}{G' X Xw:Addr->Prop}
(lc:LC A La scope dk X Xw D aQ)(xc:In dk G' σ FK.heap)(hG:∀a,G' a->G a\/aQ.heap.get? a=none)(hX:∀a,X a->G' a/\fk.heap.get? a=none)(hI:∀b,aQ.heap.get? b=none->(fk.heap.get? b).isSome=true->G' b)(rH:∀n c,dk.cells.lookup n=some c->X c\/(aQ.heap.get? c).isSome=true)
(hc:jY V scope elt gens=some c)(KD:Keeps aQ fk)(SV:Keeps fk FK)(tk4:1<=FK.toks)(ac:Acc G' FK.heap D [])(hit:It prog w A G ds aQ fk it)
(zd:iL (mR (V.b (fP scope)) (rZ scope σ) c.1 c.2.2.1 c.2.2.2 σ) ds=some out)(hlen:out.length<=dC)
(hR:∀I s',aQ.heap.get? I=none->Upd (λa=>X a\/a=I) FK s'->1<=s'.toks->In dk (λa=>G' a/\a≠I) σ s'.heap->Acc (λa=>G' a/\a≠I) s'.heap D ([]++out)->R (.ok .next) s'):
 codeAny (model prog w) A (.compStart (.ListComp elt gens scope pos) 0 it (.ref D) dk) R FK:=by
 have hX':∀b,X b->(G b\/aQ.heap.get? b=none)/\G' b/\(aQ.heap.get? b=none->fk.heap.get? b=none):=λb q=>⟨.inr (lc.h0 b q),(hX b q).1,λ_=>(hX b q).2⟩
 obtain⟨t,i,f,em⟩:=c;obtain⟨i',gs,rfl,rfl,Ig,hc⟩:=my hc;rcases hc with⟨rfl,e⟩|⟨t2,i2,f2,rfl,aps,e⟩
 ·have m:=C1 VO bu lc (λ_=>C0 elt t i f scope pos _ _ _) hit Keeps.rfl' KD SV hX' hG hI rH
   (λ_ E Q xZ s xs ys q1 q2 q3 q4 q5 q6 _=>xw VO bu lc (hX _ lc.ha).1 q1 q2 q3 q4 q5 q6) hR (e▸zd) ((ja _).symm▸hlen) xc tk4 ac
  exact alQ m.1 (m.2 _ _ m.1)
 ·have m:=C1 VO bu lc (λ_=>AK elt t i f t2 i2 f2 scope pos _ _ _) hit Keeps.rfl' KD SV hX' hG hI rH
   (λ_ E Q xZ s xs ys q1 q2 q3 q4 q5 q6 _=>FJ VO bu lc aps (λa q=>(hX a q).1) q1 q2 q3 q4 q5 q6) hR (e▸zd) ((ja _).symm▸hlen) xc tk4 ac
  exact alQ m.1 (m.2 _ _ m.1)
theorem P6{V:Ev}{Bu:aE->Prop}(VO:dz prog w La Bu V)(bu:Bu A){scope:Scope}{σ:cw}{aQ fk fJ:ak}{elt:ae}{gens:List dY}{pos:Pos}{c:ae×ae×List ae×(cw->Option (List D))}{it:Value}{ds out:List D}{R:Result->ak->Prop}{D:Addr}
(am:dN A La aQ)(x:In env G σ aQ.heap)(hk:scope.kind=.function)(hd:(scope.names.map (·.1)).Nodup)(hf:ph env.scope.names σ scope.names=true)(hc:jY V scope elt gens=some c)(KD:Keeps aQ fk)(k23:Keeps fk fJ)(tk3:1<=fJ.toks)
(hDs:D=fk.heap.objs.size)(SW: @LT.lt Nat _ D fJ.heap.objs.size)(hD3:fJ.heap.get? D=some {cls:=.type "list",data:=.seq #[]})(hit:It prog w A G ds aQ fk it)
(zd:iL (mR (V.b (fP scope)) (rZ scope (mx σ scope.names)) c.1 c.2.2.1 c.2.2.2 (mx σ scope.names)) ds=some out)(hlen:out.length<=dC)
(hR:∀s',Keeps aQ s'->1<=s'.toks->aQ.heap.get? D=none->aQ.heap.get? fJ.heap.objs.size=none->D≠fJ.heap.objs.size->(∃m,s'.heap.Ns fJ.heap.objs.size m)->Acc (λa=>G a\/a=fJ.heap.objs.size) s'.heap D out->R (.ok .next) s'):
 codeAny (model prog w) A (.compStart (.ListComp elt gens scope pos) 0 it (.ref D) (qH scope env fJ.heap.objs.size)) R {fJ with heap:=iR scope fJ.heap}:=by
 have nw2:∀a:Nat,D<=a->fk.heap.get? a=none:=λa ha=>by
  cases e:fk.heap.get? a with
  |none=>rfl
  |some o=>exact absurd (dT e) (Bg.mpr (hDs▸ha))
 have nw:∀a:Nat,D<=a->aQ.heap.get? a=none:=λa ha=>Us (Keeps.all KD) (nw2 a ha);have ci:=CZ x hk hd hf (Keeps.trans' KD k23);have k34:bU fJ.heap (iR scope fJ.heap):=λb o e=>yC _ _ b o (bj _ e);generalize iR scope fJ.heap=Iy at*;have xl:=x.lo;generalize hce:qH scope env fJ.heap.objs.size=dk at*;have rH:dk.locals=fJ.heap.objs.size:=hce▸rfl;have AJ:dk.scope.names=fP scope:=hce▸ci.1;generalize fJ.heap.objs.size=C at*;generalize mx σ scope.names=σ' at*;obtain⟨_,_,h3,h4,h5⟩:=ci;obtain⟨Xw,w1,w2,w3⟩:∃Xw:Addr->Prop,WOk dk (MA scope) Xw/\(∀a:Nat,Xw a->C<=a/\(Iy.get? a).isSome=true)/\(∀a:Nat,C<=a->(Iy.get? a).isSome=true->Xw a):=⟨_,h4,λ_ q=>q,λ_ q r=>⟨q,r⟩⟩
 obtain⟨G',g1,g2,g3,g4⟩:∃G':Addr->Prop,In dk G' σ' Iy/\(∀a,G' a->G a\/aQ.heap.get? a=none)/\(∀a,aQ.heap.get? a=none->(Iy.get? a).isSome=true->G' a)/\(∀a,G a->G' a):=⟨_,h3,λ_ q=>q.imp id And.left,λ_ q r=>.inr ⟨q,r⟩,λ_=>.inl⟩
 have hD4:=k34 _ _ hD3;have gX:∀a:Nat,(Xw a\/a=D)->D<=a/\(Iy.get? a).isSome=true:=λa q=>q.elim (λz=>⟨ao (bV SW) (w2 a z).1,(w2 a z).2⟩) λz=>⟨W7 z.symm,z▸sS hD4⟩
 have lc:LC A La scope dk (λa=>Xw a\/a=D) Xw D aQ:=⟨am,w1,λ_=>.inl,λz=>fg _ (bJ SW (w2 D z).1),λa q=>nw a (gX a q).1,.inr rfl,
  λn e=>(h5 n D e).elim (λz=>fg _ (dn SW z)) λz=>nS (nw D (bD _)) z,AJ⟩
 have SV:Keeps fk {fJ with heap:=Iy}:=Keeps.trans' k23 ⟨Iy,fJ.toks,rfl,k34⟩;exact UY (X:=λa=>Xw a\/a=D) (Xw:=Xw) (G':=G') VO bu lc g1 g2 (λa q=>⟨g3 a (lc.h0 a q) (gX a q).2,nw2 a (gX a q).1⟩) (λb q r=>g3 b q (kpS (Keeps.all SV) r)) (λn c e=>(h5 n c e).imp (λz=>.inl (w3 c (rX z) (g1.lo c (g1.fc n c e).1))) id) hc KD SV tk3
  ⟨#[],0,hD4,.nil⟩ hit zd hlen λI s' hI u tt xx ac=>hR s' (u.keeps (λa q=>q.elim (lc.h0 a) λz=>z▸hI) (Keeps.trans' KD SV)) tt (nw D (bD _)) (nw C (bV SW)) (gG SW) (by obtain⟨m,hm,_⟩:=xx.va;exact⟨m,rH▸hm⟩)
    (ac.less λb q=>q.elim (λq=>⟨g4 b q,λz=>nS hI (z▸xl b q)⟩) λq=>q▸rH▸xx.fl)
theorem Iz{V:Ev}{Bu:aE->Prop}(VO:dz prog w La Bu V)(bu:Bu A){scope:Scope}{σ:cw}{aQ fk:ak}{elt:ae}{gens:List dY}{pos:Pos}{c:ae×ae×List ae×(cw->Option (List D))}{it:Value}{ds out:List D}{RR:Value->Addr->Result->ak->Prop}
(am:dN A La aQ)(x:In env G σ aQ.heap)(hk:scope.kind=.function)(hd:(scope.names.map (·.1)).Nodup)(hf:ph env.scope.names σ scope.names=true)
(hc:jY V scope elt gens=some c)(KD:Keeps aQ fk)(UZ:1<=fk.toks)(hit:It prog w A G ds aQ fk it)
(zd:iL (mR (V.b (fP scope)) (rZ scope (mx σ scope.names)) c.1 c.2.2.1 c.2.2.2 (mx σ scope.names)) ds=some out)(hlen:out.length<=dC)
(hRR:∀s' D C,Keeps aQ s'->1<=s'.toks->aQ.heap.get? D=none->aQ.heap.get? C=none->D≠C->(∃m,s'.heap.Ns C m)->Acc (λa=>G a\/a=C) s'.heap D out->RR (.ref D) C (.ok .next) s'):
 closureFor scope env=pure (ic env scope.names [])/\
 wpAny (model prog w) A (newList []) (λacc fJ=>wpAny (model prog w) A (newFunctionEnv scope env.globals (ic env scope.names []) [] env.qual none .none (some env)) (λdk FK=>
  codeAny (model prog w) A (.compStart (.ListComp elt gens scope pos) 0 it acc {dk with scope:=relabel scope env}) (RR acc dk.locals) FK) E fJ) E fk:=by
 exact⟨(CZ x hk hd hf (Keeps.rfl' (s:=aQ))).2.1,wpAny_newObj_type (FA (P6 VO bu am x hk hd hf hc KD (Keeps.push _) UZ rfl (by rw[jM];exact fN _) (jm _ _ rfl) hit zd hlen λs'=>hRR s' _ _))⟩
end
end
section
structure fe where
 fn:Str->List D->Option D
 gl:Str->Option D
 get:Str->List D->Option D
 mem:Str->D->Option Bool
def Bi.of(n:Str):Option Bi:=[Bi.len,.range,.max,.min,.abs,.sum,.chr,.ord,.list,.sorted,.divmod,.int].find? λb=>b.name==n
theorem Bi.U0(h:Bi.of n=some b):n=b.name:=by
 have:=HF h;exact(beq_iff_eq.mp this).symm
inductive Gv(h:Heap)(n:Str)(v:Value):Prop
 |mk (mg:Str->Option Value) (a:h.Ns mainGlobals mg) (b:mg n=some v)
inductive Bv(h:Heap)(n:Str)(v:Value):Prop
 |mk (mg mb:Str->Option Value) (a:h.Ns mainGlobals mg) (b:mg n=none) (c:h.Ns builtinsNs mb) (d:mb n=some v)
structure dW(prog:bb)(w:World)(La:Heap->Prop)(Bu:aE->Prop)(T:fe):Prop where
 gl:∀h n d,La h->T.gl n=some d->∃v,Gv h n v/\∀F,bT h F d v
 bi:∀h (b:Bi),La h->Bv h b.name b.val
 SQ:∀h,La h->Bv h "isinstance" (.builtin "isinstance")
 rev:∀h,La h->Bv h "reversed" (.type "reversed")
 ty:∀h (n:Str),La h->(n="bool"\/n="int")->Bv h n (.type (CW n))
 fn:∀h f ds d,La h->T.fn f ds=some d->∃a o fd,Gv h f (.ref a)/\h.get? a=some o/\o.data=.func fd/\
  ∀(A:aE)(E:Value->ak->Prop) F s vs,Bu A->dN A La s->jy F s.heap->bU h s.heap->aZ s.heap F ds vs->wpAny (model prog w) A (call (.ref a) vs) (iJ F s d) E s
 get:∀h g ds d,La h->T.get g ds=some d->∃a o,Gv h g (.ref a)/\h.get? a=some o/\o.cls=.type "dict"/\o.dict=none/\
  ∀(A:aE)(E:Value->ak->Prop) F s vs,Bu A->dN A La s->jy F s.heap->bU h s.heap->aZ s.heap F ds vs->wpAny (model prog w) A (call (.builtin "dict.get") (.ref a::vs)) (iJ F s d) E s
 mem:∀h g x b,La h->T.mem g x=some b->∃a,Gv h g (.ref a)/\
  ∀(A:aE)(E:Value->ak->Prop) F s v,Bu A->dN A La s->bU h s.heap->bT s.heap F x v->wpAny (model prog w) A (compareOp .In v (.ref a)) (λr s'=>r=.bool b/\Keeps s s') E s
def f9(e:ae):Bool:= !(cy e.ctorIdx 22)
def uZ(f:ae->Option D):List ae->Option (List D)
 |[]=>some []
 |e::es=>if f9 e=true then(f e).bind λd=>(uZ f es).bind λds=>some (d::ds)else none
def cst:Const->Option D
 |.none=>some .none|.bool b=>some (.bool b)|.int i=>some (.int i)|.float x=>some (.aR x)|.str s=>some (.str s)|_=>none
def intD:D->Option Int
 |.int i=>some i
 |_=>none
def part(f:ae->Option D):Option ae->Option (Option Int)
 |none=>some none
 |some e=>((f e).bind intD).map some
def oE(e:ae):Bool:=cy e.ctorIdx 23||cy e.ctorIdx 19||cy e.ctorIdx 21
def sN(e:ae):Option Str:=y6 e
theorem qN(h:sN e=some g):∃p,e=.Name g p:=mQ h
def C2(e:ae):Option (Option ae×Option ae×Option ae):=(Ol e).map λx=>x.1.1
theorem C3(h:C2 e=some g):∃p,e=.Slice g.1 g.2.1 g.2.2 p:=by
 obtain⟨x,_,rfl⟩:=dM h;exact⟨_,x.2⟩
def U1(ks:bW)(g:Str):Bool:=decide (ks.lookup g=some .globalImplicit/\(g==("__debug__":Str))=false)
def KG(ks:bW)(op:CmpOp)(r:ae):Option Str:=match op with
 |.In=>match sN r with
  |some g=>bif U1 ks g then some g else none
  |none=>none
 |_=>none
theorem IA(h:KG ks op r=some g):op=.In/\(∃p,r=.Name g p)/\ks.lookup g=some .globalImplicit/\(g==("__debug__":Str))=false:=by
 cases op<;>first|exact no h|skip
 refine⟨rfl,?_⟩;unfold KG at h;cases hn:sN r with
 |none=>rw[hn]at h;exact no h
 |some g'=>
  rw[hn]at h;obtain⟨h1,h2⟩:=Uy h;exact h2▸⟨qN hn,of_decide_eq_true h1⟩
def aim(V:Ev)(T:fe)(ks:bW)(σ:cw)(l:ae)(op:CmpOp)(r:ae):Option Bool:=
 if behindInMarks op r=false then
  match KG ks op r with
  |some g=>(V.d ks σ l).bind (T.mem g)
  |none=>(V.d ks σ l).bind λa=>(V.d ks σ r).bind λb=>cmp op a b
 else none
def U2(V:Ev)(T:fe)(ks:bW)(σ:cw)(l:ae):List CmpOp->List ae->Option Bool
 |[],_=>none
 |op::ops,rs=>match ops with
  |_::_=>none
  |[]=>match rs with
   |[]=>none
   |r::rs=>match rs with
    |_::_=>none
    |[]=>aim V T ks σ l op r
def allB(V:Ev)(ks:bW)(σ:cw)(op:BoolOp):List ae->Option Bool
 |[]=>some (match op with|.And=>true|.Or=>false)
 |e::es=>(V.b ks σ e).bind λb=>match op,b with
  |.And,false=>some false
  |.Or,true=>some true
  |_,_=>allB V ks σ op es
def abo(V:Ev)(ks:bW)(σ:cw)(op:BoolOp):List ae->Option D
 |[]=>none
 |e::es=>match es with
  |[]=>V.d ks σ e
  |_::_=>(V.d ks σ e).bind λd=>(mh d).bind λb=>match op,b with
   |.And,false=>some d
   |.Or,true=>some d
   |_,_=>abo V ks σ op es
def abp(V:Ev)(ks:bW)(σ:cw):List ae->Option D
 |[]=>none
 |e::r=>match r with
  |[]=>none
  |y::z=>match z with
   |_::_=>none
   |[]=>match sN y with
    |none=>none
    |some t=>if(ks.lookup t=some .globalImplicit/\f9 e=true)/\(t==("__debug__":Str))=false then(V.d ks σ e).bind λd=>(SQ d t).map .bool else none
def KH(V:Ev)(T:fe)(ks:bW)(σ:cw)(f:Str)(args:List ae):Option D:=
 if ks.lookup f=some .globalImplicit/\(f==("__debug__":Str))=false then
  if f="isinstance" then abp V ks σ args
  else(uZ (V.d ks σ) args).bind λds=>match Bi.of f with
   |some b=>bY b ds
   |none=>T.fn f ds
 else none
def meD(V:Ev)(ks:bW)(σ:cw)(o:ae)(m:Str)(args:List ae):Option D:=(V.d ks σ o).bind λd=>(uZ (V.d ks σ) args).bind λds=>(Me.of m).bind λk=>jH k d ds
def P7(V:Ev)(T:fe)(ks:bW)(σ:cw)(o:ae)(m:Str)(args:List ae):Option D:=
 match sN o with
 |some g=>if ks.lookup g=some .globalImplicit then(if m="get"/\(g==("__debug__":Str))=false then(uZ (V.d ks σ) args).bind (T.get g)else none)else meD V ks σ o m args
 |none=>meD V ks σ o m args
def ain(T:fe)(σ:cw)(id:Str):iz->Option D
 |.local=>look σ id
 |.cell=>look σ id
 |.free=>if(id==("__classdict__":Str))=false then look σ id else none
 |.globalImplicit=>T.gl id
 |_=>none
def X6(T:fe)(ks:bW)(σ:cw)(id:Str):Option D:=if(id==("__debug__":Str))=false then(match ks.lookup id with
    |some k=>ain T σ id k
    |none=>none)else none
def X7(V:Ev)(ks:bW)(σ:cw)(o:D)(p:Option ae×Option ae×Option ae):Option D:=match p.2.2 with
 |none=>(part (V.d ks σ) p.1).bind λa=>(part (V.d ks σ) p.2.1).bind λb=>qD o a b
 |some _=>none
def P8(V:Ev)(ks:bW)(σ:cw)(sl:ae)(o:D):Option D:=match C2 sl with
 |some p=>X7 V ks σ o p
 |none=>((V.d ks σ sl).bind intD).bind λi=>g8 o i
def P9(V:Ev)(T:fe)(ks:bW)(σ:cw)(pos:Pos)(args:List ae)(f:ae):Option D:=
 match Om f with
 |some a=>if(oE a.1.1=true/\a.1.2.2.endLine=pos.line)/\args.length<20 then P7 V T ks σ a.1.1 a.1.2.1 args else none
 |none=>(tE f).bind λn=>KH V T ks σ n.1.1 args
def Qa(V:Ev)(T:fe)(ks:bW)(σ:cw):ae->Option D:=
 exC none (λop es _=>abo V ks σ op es) (λl op r _=>(V.d ks σ l).bind λa=>(V.d ks σ r).bind λb=>az op a b) (λop x _=>(V.d ks σ x).bind (ahW op))
  (λt a b _=>(V.b ks σ t).bind λc=>if c=true then V.d ks σ a else V.d ks σ b) (λelt gens scope _=>(zi V ks σ elt gens scope).map .lst) (λl ops rs _=>(U2 V T ks σ l ops rs).map .bool)
  (λf args IB pos=>match IB with
    |[]=>P9 V T ks σ pos args f
    |_::_=>none)
  (λc _ _=>cst c) (λv sl _=>(V.d ks σ v).bind λo=>P8 V ks σ sl o) (λid _=>X6 T ks σ id)
  (λes _=>(uZ (V.d ks σ) es).bind λds=>if ds.length<=dC then some (.lst ds)else none) (λes _ _=>(uZ (V.d ks σ) es).bind λds=>if ds.length<=dC then some (.tup ds)else none)
def X8(V:Ev)(T:fe)(ks:bW)(σ:cw):ae->Option Bool:=
 exC none (λop es _=>allB V ks σ op es) (λ_ _ _ _=>none)
  (λop x _=>match op with
    |.Not=>(V.b ks σ x).map not
    |_=>none)
  (λ_ _ _ _=>none) (λ_ _ _ _=>none) (λl ops rs _=>U2 V T ks σ l ops rs) (λf args k p=>(V.d ks σ (.Call f args k p)).bind mh) (λ_ _ _=>none) (λ_ _ _=>none)
  (λid p=>(V.d ks σ (.Name id p)).bind mh) (λ_ _=>none) (λ_ _ _=>none)
def jo(T:fe)(V:Ev):Ev:=⟨Qa V T,X8 V T⟩
def dh(T:fe):Nat->Ev
 |0=>⟨λ_ _ _=>none,λ_ _ _=>none⟩
 |n+1=>jo T (dh T n)
section
variable{prog:bb}{w:World}{A:aE}{E:Value->ak->Prop}{G:Addr->Prop}{env:Env}{La:Heap->Prop}{Bu:aE->Prop}{V:Ev}{T:fe}{σ:cw}{s:ak}
theorem fS(hn:f9 e=true):starEach (e::es) env=(false,eval e env)::starEach es env:=by
 cases e<;>first|rfl|exact Ht hn
theorem kQ:∀{es:List ae}{ds:List D},uZ f es=some ds->(backTo pos (starEach es env)).any (·.1)=false/\(backTo pos (starEach es env)).all (λx=> !x.1)=true/\(backTo pos (starEach es env)).length=es.length:=λ{es}=>by
 induction es with
 |nil=>exactλ_=>⟨rfl,rfl,rfl⟩
 |cons e es ih0=>
  intro ds h;obtain⟨hn,h⟩:=dy h;obtain⟨d,h1,h2⟩:=aO h;obtain⟨xY,h3,h4⟩:=aO h2;have ih:=ih0 h3;rw[fS hn];exact⟨ih.1,ih.2.1,congrArg mE ih.2.2⟩
theorem gf(VO:dz prog w La Bu V)(bu:Bu A)(am:dN A La s)(x:In env G σ s.heap)(h:V.d env.scope.names σ e=some d)
(k:∀v s1,Keeps s s1->dN A La s1->In env G σ s1.heap->bT s1.heap G d v->Q v s1):wpAny (model prog w) A (eval e env) Q E s:=
 aj (bF am.tk (VO.d A E env G σ s e d bu am x h)) (λv s1 q=>k v s1 q.2.1 (am.keeps q.2.1 q.1) (x.keeps (Keeps.all q.2.1)) q.2.2) λ_ _ e=>e
theorem tO(VO:dz prog w La Bu V)(bu:Bu A)(am:dN A La s)(x:In env G σ s.heap)(h:V.b env.scope.names σ e=some b)
(k:∀s1,Keeps s s1->dN A La s1->In env G σ s1.heap->Q b s1):wpAny (model prog w) A (isTrue e env (eval e env)) Q E s:=
 aj (bF am.tk (VO.b A E env G σ s e b bu am x h)) (λv s1 q=>q.2.1.symm▸k s1 q.2.2 (am.keeps q.2.2 q.1) (x.keeps (Keeps.all q.2.2))) λ_ _ e=>e
theorem fV(k:Keeps s s1)(h:wpAny (model prog w) A m (iJ G s1 d) E s1):wpAny (model prog w) A m (iJ G s d) E s1:=
 aj h (λ_ _ q=>⟨Keeps.trans' k q.1,q.2⟩) λ_ _ e=>e
theorem sO(k:Keeps s s1)(h:wpAny (model prog w) A m (λb' s'=>b'=b/\Keeps s1 s') E s1):wpAny (model prog w) A m (λb' s'=>b'=b/\Keeps s s') E s1:=
 aj h (λ_ _ q=>⟨q.1,Keeps.trans' k q.2⟩) λ_ _ e=>e
theorem oF(VO:dz prog w La Bu V)(bu:Bu A):∀{es:List ae}{ds:List D}{s:ak},dN A La s->In env G σ s.heap->uZ (V.d env.scope.names σ) es=some ds->
 wpAny (model prog w) A (spliced (backTo pos (starEach es env))) (λvs s'=>Keeps s s'/\aZ s'.heap G ds vs) E s:=λ{es}=>by
 induction es with
 |nil=>exactλam x h=>ai h▸wpAny_items_nil ⟨Keeps.rfl',.nil⟩
 |cons e es ih=>
  intro ds s am x h;obtain⟨hn,h⟩:=dy h;obtain⟨d,h1,h2⟩:=aO h;obtain⟨xY,h3,h4⟩:=aO h2;refine ai h4▸wpAny_items_cons (gf VO bu am x h1 λv s1 k1 kH x1 r1=>?_) (fS hn);exact aj (ih kH x1 h3) (λvs s2 q=>⟨Keeps.trans' k1 q.1,.cons (r1.keeps (Keeps.all q.1)) q.2⟩) λ_ _ e=>e
theorem oG(VO:dz prog w La Bu V)(bu:Bu A)(am:dN A La s)(x:In env G σ s.heap)(h:uZ (V.d env.scope.names σ) es=some ds)
(k:∀vs s1,Keeps s s1->dN A La s1->In env G σ s1.heap->aZ s1.heap G ds vs->Q vs s1):wpAny (model prog w) A (spliced (backTo pos (starEach es env))) Q E s:=
 aj (bF am.tk (oF VO bu am x h)) (λv s1 q=>k v s1 q.2.1 (am.keeps q.2.1 q.1) (x.keeps (Keeps.all q.2.1)) q.2.2) λ_ _ e=>e
theorem MC(tk:1<=s.toks)(h:cst c=some d):wpAny (model prog w) A (eval (.Constant c k pos) env) (iJ G s d) E s:=by
 cases c<;>first|exact no h|skip
 all_goals first
  |exact ai h▸Constant_none ⟨Keeps.rfl',E7⟩
  |exact ai h▸Constant_bool ⟨Keeps.rfl',qx⟩
  |exact ai h▸wpAny_Constant_int mO
  |exact ai h▸PySem.wpAny_Constant_float (yR tk)
  |exact ai h▸wpAny_Constant_str Fc
theorem qO(x:In env G σ s.heap)(hk:env.scope.names.lookup n=some .globalImplicit)(hd:(n==("__debug__":Str))=false)(g:Gv s.heap n v\/Bv s.heap n v)(h:Q v s):
 wpAny (model prog w) A (eval (.Name n pos) env) Q E s:=by
 refine Calls.Name_function_global x.fn hk ?_ hd;rcases g with⟨mg,h1,h2⟩|⟨mg,mb,h1,h2,h3,h4⟩
 ·exact Calls.loadGlobal_global (by rw[x.gl];exact h1) h2 h
 ·exact Calls.loadGlobal_builtin (by rw[x.gl];exact h1) h2 (by rw[x.bi];exact h3) h4 h
theorem rJ(h:intD d=some i):d=.int i:=by
 cases d<;>first|exact no h|exact congrArg D.int (ai h)
theorem zj(VO:dz prog w La Bu V)(bu:Bu A)(am:dN A La s)(x:In env G σ s.heap)(h:part (V.d env.scope.names σ) e=some i):
 wpAny (model prog w) A (evalPart e env) (λv s'=>Keeps s s'/\Hm v i) E s:=by
 cases e with
 |none=>
  rw[evalPart_none];exact aM ⟨Keeps.rfl',ai h▸.none⟩
 |some e=>
  obtain⟨j,h1,rfl⟩:=dM h;obtain⟨d,h2,h3⟩:=aO h1;obtain rfl:=rJ h3;rw[evalPart_some];exact gf VO bu am x h2 λv s1 k1 _ _ r1=>⟨k1,by obtain⟨t,q⟩:=r1.int;exact q▸.int _ _⟩
end
end
section
section
variable{prog:bb}{w:World}{A:aE}{E:Value->ak->Prop}{G:Addr->Prop}{env:Env}{La:Heap->Prop}{Bu:aE->Prop}{V:Ev}{T:fe}{σ:cw}{s:ak}
theorem eu:∀{l:List (Bool×Sem Value)},l.any (·.1)=false->wpAny M A (spliced l) (λvs s'=>Q ⟨vs,[]⟩ s') E s->wpAny M A (evalArgs f true l []) Q E s:=by
 intro zx
 induction zx with
 |nil=>
  rintro _ h;unfold evalArgs;show wpAny M A (spliced [] >>= _) Q E s;refine aw (aj h (λvs s' h'=>?_) λ_ _ x=>x);refine aw (aM ?_);refine cq ?_;exact aw (aM (aw (aM (aM h'))))
 |cons zh rest ih=>
  obtain⟨b,x⟩:=zh;rintro hp h;have hb:b=false:=by
   rw[List.any_cons,nZ]at hp;exact hp.1
  subst hb;exact Calls.evalArgs_plain h
inductive IC(V:Ev)(ks:bW)(σ:cw)(elt:ae)(gens:List dY)(scope:Scope)(out:List D):Prop
 |mk (c:ae×ae×List ae×(cw->Option (List D))) (d:D) (ds:List D) (hk:scope.kind=.function) (hd:(scope.names.map (·.1)).Nodup) (hf:ph ks σ scope.names=true) (h1:jY V scope elt gens=some c) (h3:V.d ks σ c.2.1=some d) (h5:items d=some ds)
  (h7:iL (mR (V.b (fP scope)) (rZ scope (mx σ scope.names)) c.1 c.2.2.1 c.2.2.2 (mx σ scope.names)) ds=some out) (hl:out.length<=dC)
theorem FL(h:zi V ks σ elt gens scope=some out):IC V ks σ elt gens scope out:=by
 obtain⟨⟨⟨hk,X9⟩,hf⟩,h⟩:=dy h;obtain⟨c,h1,h2⟩:=aO h;obtain⟨d,h3,h4⟩:=aO h2;obtain⟨ds,h5,h6⟩:=aO h4;obtain⟨o,h7,h8⟩:=aO h6;obtain⟨hl,rfl⟩:=bh h8;exact⟨c,d,ds,hk,FD X9,hf,h1,h3,h5,h7,hl⟩
theorem BR(h:IC V ks σ elt gens scope out):∃t i f gs,gens=⟨t,i,f,0⟩::gs:=by
 cases h with
 |mk c d ds hk hd hf h1 h3 h5 h7 hl=>
 obtain⟨i,gs,e,_⟩:=my h1;exact⟨_,_,_,_,e⟩
theorem KI(VO:dz prog w La Bu V)(bu:Bu A)(am:dN A La s)(x:In env G σ s.heap)(h:IC V env.scope.names σ elt (⟨t,i,f,0⟩::gs) scope out)
(hQ:∀s' D C,Keeps s s'->1<=s'.toks->s.heap.get? D=none->s.heap.get? C=none->D≠C->(∃m,s'.heap.Ns C m)->Acc (λa=>G a\/a=C) s'.heap D out->compPost (model prog w) A E use Q (.ref D) C (.ok .next) s'):
 wpAny (model prog w) A (comprehension (.ListComp elt (⟨t,i,f,0⟩::gs) scope pos) scope env cp (newList []) false (eval i env) use) Q E s:=by
 cases h with
 |mk c d ds hk hd hf h1 h3 h5 h7 hl=>
 obtain⟨i',gs',e0,e1,e3,_⟩:=my h1;have e0:i=i':=congrArg Comprehension.iter (d6 e0).1;rw[e1,<-e0]at h3;rw[<-e0]at e3;refine wpAny_comprehension_free (g:=⟨t,i,f,0⟩) (gs:=gs) rfl (λy=>pj e3 env y) (CZ x hk hd hf (Keeps.rfl' (s:=s))).2.1 hk (λy hy hl=>mem_lookup hd (by rw[<-hl];exact hy)) ?_;refine aj (bF am.tk (VO.d A _ env G σ s _ d bu am x h3)) (λv s1 q=>?_) λ_ _ e=>e;have k1:=Keeps.all q.2.1;have x1:=x.keeps k1;refine aj (bF q.1 (o9 am.hh x1.lo q.2.2 h5)) (λit s2 q2=>?_) λ_ _ e=>e;exact(Iz VO bu (am.keeps q.2.1 q.1) x1 hk hd hf h1 q2.2.1 q2.1 q2.2.2 h7 hl λs' D C k t hD hC=>hQ s' D C (Keeps.trans' q.2.1 k) t (Us k1 hD) (Us k1 hC)).2
theorem xy(VO:dz prog w La Bu V)(bu:Bu A)(am:dN A La s)(x:In env G σ s.heap)(h:zi V env.scope.names σ elt gens scope=some out):
 wpAny (model prog w) A (eval (.ListComp elt gens scope pos) env) (λv s'=>iJ G s (.lst out) v s'/\∃a,v=.ref a/\s.heap.get? a=none) E s:=by
 have h:=FL h;obtain⟨t,i,f,gs,rfl⟩:=BR h;rw[eval_ListComp];refine KI VO bu am x h λs' D C k t hD hC SW ⟨m,hm⟩ abq=>⟨m,hm,λh' tA=>⟨⟨?_,?_⟩,D,rfl,hD⟩⟩
 ·obtain⟨qE,aio,rfl,ka⟩:=k
  exact⟨h',aio,rfl,λb o e=>tA.extBut b o (λz=>nG hC (z▸e)) (ka b o e)⟩
 ·obtain⟨vs,n,q1,q2⟩:=abq
  exact jX (vs:=vs.toList) (λq=>nS hD (x.lo D q)) (tA.extBut _ _ SW q1) (aZ.kept (F:=λa=>G a\/a=C) (λb o nb e=>tA.extBut b o (λz=>nb (.inr z)) e) (λb q=>.inl (.inl q)) _ _ q2)
theorem zk(VO:dz prog w La Bu V)(TO:dW prog w La Bu T)(bu:Bu A)(am:dN A La s)(x:In env G σ s.heap)(h:aim V T env.scope.names σ l op r=some b):
 behindInMarks op r=false/\wpAny (model prog w) A (eval l env) (λa aQ=>wpAny (model prog w) A (eval r env) (λc fk=>wpAny (model prog w) A (compareOp op a c) (λv s'=>v=.bool b/\Keeps s s') E fk) E aQ) E s:=by
 obtain⟨hb,h⟩:=dy h;refine⟨hb,?_⟩;cases hm:KG env.scope.names op r with
 |some g=>
  rw[hm]at h;obtain⟨rfl,⟨p,rfl⟩,hg⟩:=IA hm;obtain⟨a,h1,h2⟩:=aO h;refine gf VO bu am x h1 λva s1 k1 kH x1 r1=>?_;obtain⟨ad,hgv,hm⟩:=TO.mem s1.heap g a b (kH.la _ λ_ _ e=>e) h2;exact qO x1 hg.1 hg.2 (.inl hgv) (aj (hm A E G s1 va bu kH (λ_ _ e=>e) r1) (λv s3 q3=>⟨q3.1,Keeps.trans' k1 q3.2⟩) λ_ _ e=>e)
 |none=>
  rw[hm]at h;obtain⟨a,h1,h2⟩:=aO h;obtain⟨c,h3,h4⟩:=aO h2;exact gf VO bu am x h1 λva s1 k1 kH x1 r1=>gf VO bu kH x1 h3 λvc s2 k2 Ar x2 r2=>L6 Ar.nb (dn (Nat.add_lt_add_left (by decide) _) am.un) (r1.keeps (Keeps.all k2)) r2 h4 ⟨rfl,Keeps.trans' k1 k2⟩
theorem ID(VO:dz prog w La Bu V)(TO:dW prog w La Bu T)(bu:Bu A)(am:dN A La s)(x:In env G σ s.heap)(h:U2 V T env.scope.names σ l ops rs=some b):
 ∃op r,ops=[op]/\rs=[r]/\behindInMarks op r=false/\wpAny (model prog w) A (eval l env) (λa aQ=>wpAny (model prog w) A (eval r env) (λc fk=>wpAny (model prog w) A (compareOp op a c) (λv s'=>v=.bool b/\Keeps s s') E fk) E aQ) E s:=by
 cases ops with
 |nil=>exact no h
 |cons op ops=>
  cases ops with
  |cons _ _=>exact no h
  |nil=>
   cases rs with
   |nil=>exact no h
   |cons r rs=>
    cases rs with
    |cons _ _=>exact no h
    |nil=>exact⟨op,r,rfl,rfl,zk VO TO bu am x h⟩
end
end
section
section
variable{prog:bb}{w:World}{A:aE}{E:Value->ak->Prop}{G:Addr->Prop}{env:Env}{La:Heap->Prop}{Bu:aE->Prop}{V:Ev}{T:fe}{σ:cw}{s:ak}
theorem Bi.kind(b:Bi):(∃id,b.val=.builtin id)\/∃id,b.val=.type id:=by cases b<;>first|exact .inl ⟨_,rfl⟩|exact .inr ⟨_,rfl⟩
theorem aip(h:SQ d t=some b):t="bool"\/t="int":=by
 obtain⟨_,_,h⟩:=aO h;by_cases h1:t="bool"
 ·exact .inl h1
 ·rw[if_neg h1]at h
  exact .inr (bh h).1
theorem IE(VO:dz prog w La Bu V)(TO:dW prog w La Bu T)(bu:Bu A)(am:dN A La s)(x:In env G σ s.heap)(hf:env.scope.names.lookup ("isinstance":Str)=some .globalImplicit)(h:abp V env.scope.names σ args=some d):
 wpAny (model prog w) A (eval (.Call (.Name "isinstance" np) args [] pos) env) (iJ G s d) E s:=by
 cases args with
 |nil=>exact no h
 |cons e args=>
  cases args with
  |nil=>exact no h
  |cons y args=>
   cases args with
   |cons _ _=>exact no h
   |nil=>
    unfold abp at h;dsimp only at h;cases hn:sN y with
    |none=>rw[hn]at h;exact no h
    |some t=>
     rw[hn]at h;obtain⟨tp,rfl⟩:=qN hn;obtain⟨⟨⟨ht1,hs⟩,htd⟩,h⟩:=dy h;obtain⟨v,h1,h2⟩:=aO h;obtain⟨b,h3,rfl⟩:=dM h2;show wpAny _ _ (do callWith pos (<-eval (.Name "isinstance" np) env) [] (backTo pos (starEach [e,.Name t tp] env)) []) _ _ _;refine aw (qO x hf (by decide) (.inr (TO.SQ _ (am.la _ λ_ _ e=>e))) ?_);rw[show backTo pos (starEach [e,.Name t tp] env)=[(false,eval e env),(false,eval (.Name t tp) env)]from congrArg (backTo pos) ((fS hs).trans rfl)];exact me rfl (eu rfl (fE (gf VO bu am x h1 λva s1 k1 kH x1 r1=>fE (qO x1 ht1 htd (.inr (TO.ty _ t (kH.la _ λ_ _ e=>e) (aip h3))) (mf (fV k1 (Mt r1 h3)))))))
theorem FQ(VO:dz prog w La Bu V)(TO:dW prog w La Bu T)(bu:Bu A)(am:dN A La s)(x:In env G σ s.heap)(hf:env.scope.names.lookup b.name=some .globalImplicit/\(b.name==("__debug__":Str))=false)
(h1:uZ (V.d env.scope.names σ) args=some ds)(h2:bY b ds=some d):wpAny (model prog w) A (eval (.Call (.Name b.name np) args [] pos) env) (iJ G s d) E s:=by
 have hp:=(kQ (env:=env) (pos:=pos) h1).1;show wpAny _ _ (do callWith pos (<-eval (.Name b.name np) env) [] (backTo pos (starEach args env)) []) _ _ _;refine aw (qO x hf.1 hf.2 (.inr (TO.bi _ b (am.la _ λ_ _ e=>e))) ?_);have core:wpAny (model prog w) A (spliced (backTo pos (starEach args env))) (λvs s'=>wpAny (model prog w) A (call b.val vs) (iJ G s d) E s') E s:=
  oG VO bu am x h1 λvs s1 k1 kH x1 r1=>fV k1 (PK (kH.ok x1.lo) r1 h2)
 rcases b.kind with⟨id,e⟩|⟨id,e⟩
 ·rw[e]at core⊢
  exact me hp (eu hp core)
 ·rw[e]at core⊢
  exact yg hp (eu hp core)
theorem FR(VO:dz prog w La Bu V)(TO:dW prog w La Bu T)(bu:Bu A)(am:dN A La s)(x:In env G σ s.heap)(hf:env.scope.names.lookup f=some .globalImplicit/\(f==("__debug__":Str))=false)
(h1:uZ (V.d env.scope.names σ) args=some ds)(h2:T.fn f ds=some d):wpAny (model prog w) A (eval (.Call (.Name f np) args [] pos) env) (iJ G s d) E s:=by
 obtain⟨a,o,fd,g1,g2,g3,g4⟩:=TO.fn s.heap f ds d (am.la _ λ_ _ e=>e) h2;show wpAny _ _ (do callWith pos (<-eval (.Name f np) env) [] (backTo pos (starEach args env)) []) _ _ _;exact aw (qO x hf.1 hf.2 (.inl g1) (lE (o:=o) (fd:=fd) (eu (kQ h1).1 (oG VO bu am x h1 λvs s1 k1 kH x1 r1=>⟨⟨Keeps.all k1 _ _ g2,g3⟩,fV k1 (g4 A E G s1 vs bu kH x1.lo (Keeps.all k1) r1)⟩))))
theorem FT(VO:dz prog w La Bu V)(TO:dW prog w La Bu T)(bu:Bu A)(am:dN A La s)(x:In env G σ s.heap)(h:KH V T env.scope.names σ f args=some d):
 wpAny (model prog w) A (eval (.Call (.Name f np) args [] pos) env) (iJ G s d) E s:=by
 obtain⟨hf,h0⟩:=dy h;by_cases hi:f="isinstance"
 ·rw[if_pos hi]at h0
  subst hi;exact IE VO TO bu am x hf.1 h0
 ·rw[if_neg hi]at h0
  obtain⟨ds,h1,h2⟩:=aO h0;cases hb:Bi.of f with
  |some b=>
   rw[hb]at h2;obtain rfl:=Bi.U0 hb;exact FQ VO TO bu am x hf h1 h2
  |none=>
   rw[hb]at h2;exact FR VO TO bu am x hf h1 h2
theorem C4(h:oE o=true)(m)(env)(t:Sem Value):attributeBase o m env t=t:=by
 rcases(uE ..).mp h with h|h
 ·rcases(uE ..).mp h with h|h
  ·exact DO (motive_1:=λo=>attributeBase o m env t=t) o (el h) λ_ _=>rfl
  ·exact vQ (motive_1:=λo=>attributeBase o m env t=t) o (el h) λ_ _ _=>rfl
 ·exact uy (motive_1:=λo=>attributeBase o m env t=t) o (el h) λ_ _ _=>rfl
theorem KJ(hb:oE o=true)(hl:ap.endLine=pos.line)(hn:args.length<20)(h3:uZ (V.d env.scope.names σ) args=some ds)
(k:wpAny (model prog w) A (eval o env) (λv s1=>∃T id,PlainAttrs T/\Slot T m id/\typeOf (.builtin id)=pure (.type "method_descriptor")/\s1.TypeIs v T/\(∀a,v=.ref a->∃ob,s1.heap.get? a=some ob/\ob.dict=none)/\
   wpAny (model prog w) A (spliced (backTo pos (starEach args env))) (λvs s2=>wpAny (model prog w) A (call (.builtin id) (v::vs)) Q E s2) E s1) E s):wpAny (model prog w) A (eval (.Call (.Attribute o m ap) args [] pos) env) Q E s:=by
 obtain⟨p1,p2,p3⟩:=kQ (env:=env) (pos:=pos) h3;refine vR (C4 hb _ _ _) ?_ (by simpa using hl) (aj k (λv s1 q=>?_) λ_ _ e=>e)
 ·rw[p2,show decide (args.length+([]:List S9).length+(if([]:List S9).isEmpty then 0 else 1)<30)=true from decide_eq_true (dn hn (by decide))]
  rfl
 ·obtain⟨T,id,m1,m2,m3,m4,m5,m6⟩:=q;exact⟨T,id,m1,m2,m3,m4,m5,me p1 (eu p1 m6)⟩
theorem BU(VO:dz prog w La Bu V)(bu:Bu A)(am:dN A La s)(x:In env G σ s.heap)
(hb:oE o=true)(hl:ap.endLine=pos.line)(hn:args.length<20)(h:meD V env.scope.names σ o m args=some d):wpAny (model prog w) A (eval (.Call (.Attribute o m ap) args [] pos) env) (iJ G s d) E s:=by
 obtain⟨od,h1,h2⟩:=aO h;obtain⟨ds,h3,h4⟩:=aO h2;obtain⟨k,h5,h6⟩:=aO h4;obtain rfl:=Me.abb h5;refine KJ hb hl hn h3 (gf VO bu am x h1 λvo s1 k1 kH x1 r1=>?_);obtain⟨id,⟨T,m1,m2,m3,m4,m5⟩,ms⟩:=PT (prog:=prog) (w:=w) (A:=A) (E:=E) r1 h6;exact⟨T,id,m1,m2,m3,m4,m5,oG VO bu kH x1 h3 λvs s2 k2 Ar x2 r2=>fV (Keeps.trans' k1 k2) (ms s2 vs (Ar.ok x2.lo) (Keeps.all k2) r2)⟩
theorem IF(VO:dz prog w La Bu V)(TO:dW prog w La Bu T)(bu:Bu A){g:Str}{args:List ae}{gp ap pos:Pos}{ds:List D}{d:D}(am:dN A La s)(x:In env G σ s.heap)
(hl:ap.endLine=pos.line)(hn:args.length<20)(hg:env.scope.names.lookup g=some .globalImplicit)(hgd:(g==("__debug__":Str))=false)(h3:uZ (V.d env.scope.names σ) args=some ds)(h4:T.get g ds=some d):
 wpAny (model prog w) A (eval (.Call (.Attribute (.Name g gp) "get" ap) args [] pos) env) (iJ G s d) E s:=by
 obtain⟨a,ob,g1,g2,g3,g4,g5⟩:=TO.get s.heap g ds d (am.la _ λ_ _ e=>e) h4;refine KJ rfl hl hn h3 (qO x hg hgd (.inl g1) ⟨"dict","dict.get",PySem.F.plainAttrs_dict,tw,PySem.F.type_dict_get,⟨_,g2,g3⟩,λb e=>mu e▸⟨_,g2,g4⟩,?_⟩);exact oG VO bu am x h3 λvs s2 k2 Ar x2 r2=>fV k2 (g5 A E G s2 vs bu Ar x2.lo (Keeps.all k2) r2)
theorem FV(VO:dz prog w La Bu V)(TO:dW prog w La Bu T)(bu:Bu A)(am:dN A La s)(x:In env G σ s.heap)
(hb:oE o=true)(hl:ap.endLine=pos.line)(hn:args.length<20)(h:P7 V T env.scope.names σ o m args=some d):
 wpAny (model prog w) A (eval (.Call (.Attribute o m ap) args [] pos) env) (iJ G s d) E s:=by
 unfold P7 at h;cases ho:sN o with
 |none=>rw[ho]at h;exact BU VO bu am x hb hl hn h
 |some g=>
  rw[ho]at h;dsimp only at h;by_cases hg:env.scope.names.lookup g=some .globalImplicit
  ·rw[if_pos hg]at h
   obtain⟨⟨rfl,hgd⟩,h0⟩:=dy h;obtain⟨gp,rfl⟩:=qN ho;obtain⟨ds,h3,h4⟩:=aO h0;exact IF VO TO bu am x hl hn hg hgd h3 h4
  ·rw[if_neg hg]at h
   exact BU VO bu am x hb hl hn h
theorem IG(VO:dz prog w La Bu V)(bu:Bu A):∀{es:List ae}{b:Bool}{s:ak},dN A La s->In env G σ s.heap->allB V env.scope.names σ op es=some b->
 wpAny (model prog w) A (allTrue op es env) (λb' s'=>b'=b/\Keeps s s') E s:=λ{es}=>by
 induction es with
 |nil=>
  intro b s am x h;cases op
  ·exact wpAny_allTrue_And_nil ⟨ai h,Keeps.rfl'⟩
  ·exact asL ⟨ai h,Keeps.rfl'⟩
 |cons e es ih=>
  intro b s am x h;obtain⟨c,h1,h2⟩:=aO h;cases op
  ·refine wpAny_allTrue_And_cons (tO VO bu am x h1 λs1 k1 kH x1=>?_)
   cases c
   ·exact⟨ai h2,k1⟩
   ·exact sO k1 (ih kH x1 h2)
  ·refine Am (tO VO bu am x h1 λs1 k1 kH x1=>?_)
   cases c
   ·exact sO k1 (ih kH x1 h2)
   ·exact⟨ai h2,k1⟩
theorem zl(am:dN A La s)(x:In env G σ s.heap)(r:bT s.heap G d v)(h:mh d=some b)(k:∀s1,Keeps s s1->dN A La s1->In env G σ s1.heap->bT s1.heap G d v->Q b s1):wpAny (model prog w) A (truthy v) Q E s:=
 aj (bF am.tk (nO r h)) (λc s1 q=>q.2.1.symm▸k s1 q.2.2 (am.keeps q.2.2 q.1) (x.keeps (Keeps.all q.2.2)) (r.keeps (Keeps.all q.2.2))) λ_ _ e=>e
theorem II(VO:dz prog w La Bu V)(bu:Bu A):∀{es:List ae}{d:D}{s:ak},dN A La s->In env G σ s.heap->abo V env.scope.names σ op es=some d->
 wpAny (model prog w) A (eval (.BoolOp op es pos) env) (iJ G s d) E s:=λ{es}=>by
 induction es with
 |nil=>intro d s am x h;exact no h
 |cons e es ih=>
  intro d s am x h;cases es with
  |nil=>exact BoolOp_one (VO.d A E env G σ s e d bu am x h)
  |cons e' es=>
   obtain⟨a,h1,h2⟩:=aO h;obtain⟨c,h3,h4⟩:=aO h2;cases op
   ·refine BoolOp_and (gf VO bu am x h1 λv s1 k1 kH x1 r1=>zl kH x1 r1 h3 λs2 k2 Ar x2 r2=>?_)
    cases c
    ·exact⟨Keeps.trans' k1 k2,ai h4▸r2⟩
    ·exact fV (Keeps.trans' k1 k2) (ih Ar x2 h4)
   ·refine BoolOp_or (gf VO bu am x h1 λv s1 k1 kH x1 r1=>zl kH x1 r1 h3 λs2 k2 Ar x2 r2=>?_)
    cases c
    ·exact fV (Keeps.trans' k1 k2) (ih Ar x2 h4)
    ·exact⟨Keeps.trans' k1 k2,ai h4▸r2⟩
end
end
section
section
variable{prog:bb}{w:World}{A:aE}{E:Value->ak->Prop}{G:Addr->Prop}{env:Env}{La:Heap->Prop}{Bu:aE->Prop}{V:Ev}{T:fe}{σ:cw}{s:ak}
theorem FW(TO:dW prog w La Bu T)(am:dN A La s)(x:In env G σ s.heap)(h:X6 T env.scope.names σ n=some d):wpAny (model prog w) A (eval (.Name n pos) env) (iJ G s d) E s:=by
 obtain⟨hd,h⟩:=dy h;have Qb:(env.kindOf n=some .local\/Cl env n)->(env.kindOf n=some .free->(n==("__classdict__":Str))=false)->look σ n=some d->wpAny (model prog w) A (eval (.Name n pos) env) (iJ G s d) E s:=
  λhk y0 hl=>aj (x.name hk hl hd y0) (λv s' q=>q.1.symm▸⟨Keeps.rfl',q.2⟩) λ_ _ e=>e
 cases hk:env.scope.names.lookup n with
 |none=>rw[hk]at h;exact no h
 |some k=>
  have kG:env.kindOf n=some k:=hk;rw[hk]at h;cases k<;>first|exact no h|skip
  ·exact Qb (.inl kG) (λq=>nomatch kG.symm.trans q) h
  ·exact Qb (.inr (.inl kG)) (λq=>nomatch kG.symm.trans q) h
  ·obtain⟨hc,h⟩:=dy h
   exact Qb (.inr (.inr kG)) (λ_=>hc) h
  ·obtain⟨v,g1,g2⟩:=TO.gl s.heap _ d (am.la _ λ_ _ e=>e) h
   exact qO x hk hd (.inl g1) ⟨Keeps.rfl',g2 G⟩
theorem FX(VO:dz prog w La Bu V)(bu:Bu A){v:ae}{lo hi:Option ae}{sp pos:Pos}{o d:D}(am:dN A La s)(x:In env G σ s.heap)(h1:V.d env.scope.names σ v=some o)
(h:X7 V env.scope.names σ o (lo,hi,none)=some d):wpAny (model prog w) A (eval (.Subscript v (.Slice lo hi none sp) pos) env) (iJ G s d) E s:=by
 obtain⟨a,h3,h4⟩:=aO h;obtain⟨b,h5,h6⟩:=aO h4;refine BK (gf VO bu am x h1 λvo s1 k1 kH x1 r1=>wpAny_Slice (aj (bF kH.tk (zj VO bu kH x1 h3)) (λvl s2 q2=>?_) λ_ _ e=>e));have x2:=x1.keeps (Keeps.all q2.2.1);refine aj (zj VO bu (kH.keeps q2.2.1 q2.1) x2 h5) (λvu s3 q3=>?_) λ_ _ e=>e;rw[evalPart_none];have x3:=x2.keeps (Keeps.all q3.1);have k13:=Keeps.trans' q2.2.1 q3.1;refine aM ?_;have key:=Ik (prog:=prog) (w:=w) (A:=A) (E:=E) (s:={s3 with heap:=s3.heap.push {cls:=.type "slice",data:=.fields #[vl,vu,.none]}}) (F:=G) (x3.lo.keeps λ_ _ e=>bj _ e) ((r1.keeps (Keeps.all k13)).keeps λ_ _ e=>bj _ e) ⟨_,jm _ _ rfl,rfl,rfl⟩ q2.2.2 q3.2 h6;exact⟨key.1,fV (Keeps.trans' (Keeps.trans' k1 k13) (Keeps.push _)) key.2⟩
theorem IJ(VO:dz prog w La Bu V)(bu:Bu A){v sl:ae}{pos:Pos}{d:D}(am:dN A La s)(x:In env G σ s.heap)(h:((V.d env.scope.names σ v).bind λo=>P8 V env.scope.names σ sl o)=some d):
 wpAny (model prog w) A (eval (.Subscript v sl pos) env) (iJ G s d) E s:=by
 obtain⟨o,h1,h2⟩:=aO h;unfold P8 at h2;cases hs:C2 sl with
 |some p=>
  rw[hs]at h2;obtain⟨sp,rfl⟩:=C3 hs;obtain⟨lo,hi,st⟩:=p;cases st with
  |some _=>exact no h2
  |none=>exact FX VO bu am x h1 h2
 |none=>
  rw[hs]at h2;obtain⟨i,h3,h4⟩:=aO h2;obtain⟨di,h5,h6⟩:=aO h3;obtain rfl:=rJ h6;refine BK (gf VO bu am x h1 λvo s1 k1 kH x1 r1=>gf VO bu kH x1 h5 λvi s2 k2 Ar x2 r2=>?_);obtain⟨t,rfl⟩:=r2.int;have key:=Ij (prog:=prog) (w:=w) (A:=A) (E:=E) (t:=t) (r1.keeps (Keeps.all k2)) h4;exact⟨key.1,fV (Keeps.trans' k1 k2) key.2⟩
theorem MD(VO:dz prog w La Bu V)(bu:Bu A)(am:dN A La s)(x:In env G σ s.heap)(h:((V.b env.scope.names σ t).bind λc=>if c=true then V.d env.scope.names σ a else V.d env.scope.names σ b)=some d):
 wpAny (model prog w) A (eval (.IfExp t a b pos) env) (iJ G s d) E s:=by
 obtain⟨c,h1,h2⟩:=aO h;refine IfExp_ (tO VO bu am x h1 λs1 k1 kH x1=>?_);cases c
 ·exact fV k1 (VO.d A E env G σ s1 b d bu kH x1 h2)
 ·exact fV k1 (VO.d A E env G σ s1 a d bu kH x1 h2)
theorem IK(VO:dz prog w La Bu V)(bu:Bu A)(am:dN A La s)(x:In env G σ s.heap)(h:((V.d env.scope.names σ l).bind λa=>(V.d env.scope.names σ r).bind λb=>az op a b)=some d):
 wpAny (model prog w) A (eval (.BinOp l op r pos) env) (iJ G s d) E s:=by
 obtain⟨a,h1,h2⟩:=aO h;obtain⟨b,h3,h4⟩:=aO h2;exact Bh (gf VO bu am x h1 λva s1 k1 kH x1 r1=>gf VO bu kH x1 h3 λvc s2 k2 Ar x2 r2=>fV (Keeps.trans' k1 k2) (qA Ar.tk x2.lo (r1.keeps (Keeps.all k2)) r2 h4))
theorem zm(VO:dz prog w La Bu V)(TO:dW prog w La Bu T)(bu:Bu A)(am:dN A La s)(x:In env G σ s.heap)(h:U2 V T env.scope.names σ l ops rs=some b):
 wpAny (model prog w) A (eval (.Compare l ops rs pos) env) (iJ G s (.bool b)) E s/\wpAny (model prog w) A (isTrue (.Compare l ops rs pos) env (eval (.Compare l ops rs pos) env)) (λb' s'=>b'=b/\Keeps s s') E s:=by
 obtain⟨op,r,rfl,rfl,hb,_⟩:=ID (prog:=prog) (w:=w) (A:=A) (E:=E) VO TO bu am x h;have h2:=(zk (prog:=prog) (w:=w) (A:=A) (E:=E) VO TO bu am x h).2;exact⟨wpAny_Compare1 (aj h2 (λa s1 q1=>aj q1 (λc s2 q2=>aj q2 (λv s3 q3=>q3.1.symm▸⟨q3.2,qx⟩) λ_ _ e=>e) λ_ _ e=>e) λ_ _ e=>e) hb,
  wpAny_isTrue_Compare1 (aj h2 (λa s1 q1=>aj q1 (λc s2 q2=>aj q2 (λv s3 q3=>q3.1.symm▸nD ⟨rfl,q3.2⟩) λ_ _ e=>e) λ_ _ e=>e) λ_ _ e=>e) hb⟩
theorem FY(VO:dz prog w La Bu V)(bu:Bu A)(am:dN A La s)(x:In env G σ s.heap)(h:((uZ (V.d env.scope.names σ) es).bind λds=>if ds.length<=dC then some (D.lst ds)else none)=some d):
 wpAny (model prog w) A (eval (.List es pos) env) (iJ G s d) E s:=by
 obtain⟨ds,h1,h2⟩:=aO h;obtain⟨hl,rfl⟩:=bh h2;exact wpAny_List (oG VO bu am x h1 λvs s1 k1 _ x1 r1=>⟨by rw[r1.length];exact ao hl iQ,Keeps.trans' k1 (Keeps.push _),oz x1.lo r1⟩)
theorem FZ(VO:dz prog w La Bu V)(bu:Bu A)(am:dN A La s)(x:In env G σ s.heap)(h:((uZ (V.d env.scope.names σ) es).bind λds=>if ds.length<=dC then some (D.tup ds)else none)=some d):
 wpAny (model prog w) A (eval (.Tuple es k pos) env) (iJ G s d) E s:=by
 obtain⟨ds,h1,h2⟩:=aO h;obtain⟨hl,rfl⟩:=bh h2;exact asM (oG VO bu am x h1 λvs s1 k1 _ x1 r1=>⟨by rw[r1.length];exact ao hl iQ,Keeps.trans' k1 (Keeps.push _),E9 x1.lo r1⟩)
theorem F0(VO:dz prog w La Bu V)(TO:dW prog w La Bu T)(bu:Bu A)(am:dN A La s)(x:In env G σ s.heap)(h:P9 V T env.scope.names σ pos args f=some d):
 wpAny (model prog w) A (eval (.Call f args [] pos) env) (iJ G s d) E s:=by
 unfold P9 at h;cases ha:Om f with
 |some a=>
  rw[ha]at h;obtain⟨hc,h⟩:=dy h;rw[a.2];exact FV VO TO bu am x hc.1.1 hc.1.2 hc.2 h
 |none=>
  rw[ha]at h;obtain⟨n,_,h⟩:=aO h;rw[n.2];exact FT VO TO bu am x h
theorem F1(VO:dz prog w La Bu V)(TO:dW prog w La Bu T)(bu:Bu A)(am:dN A La s)(x:In env G σ s.heap)(h:Qa V T env.scope.names σ e=some d):
 wpAny (model prog w) A (eval e env) (iJ G s d) E s:=by
 refine J7 (P:=λe=>wpAny (model prog w) A (eval e env) (iJ G s d) E s) e (λop es pos h=>II VO bu am x h) (λl op r pos h=>IK VO bu am x h) (λop y pos h=>?_) (λt a b pos h=>MD VO bu am x h) (λelt gens scope pos h=>?_) (λl ops rs pos h=>?_) (λf args IB pos h=>?_)
  (λc k pos h=>MC am.tk h) (λv sl pos h=>IJ VO bu am x h) (λn pos h=>FW TO am x h) (λes pos h=>FY VO bu am x h) (λes k pos h=>FZ VO bu am x h) h
 ·obtain⟨a,h1,h2⟩:=aO h
  exact UnaryOp_ (gf VO bu am x h1 λva s1 k1 _ _ r1=>fV k1 (Io r1 h2))
 ·obtain⟨out,h1,rfl⟩:=dM h
  exact aj (xy VO bu am x h1) (λ_ _ q=>q.1) λ_ _ e=>e
 ·obtain⟨b,h1,rfl⟩:=dM h
  exact(zm VO TO bu am x h1).1
 ·cases IB with
  |cons _ _=>exact no h
  |nil=>exact F0 VO TO bu am x h
theorem tP(VO:dz prog w La Bu V)(bu:Bu A)(am:dN A La s)(x:In env G σ s.heap)(he:isTrue e env (eval e env)=(do let v<-eval e env;standAt e.pos;holding [v] (truthy v)))(h:(V.d env.scope.names σ e).bind mh=some b):
 wpAny (model prog w) A (isTrue e env (eval e env)) (λb' s'=>b'=b/\Keeps s s') E s:=by
 obtain⟨d,h1,h2⟩:=aO h;exact isTrue_plain (gf VO bu am x h1 λv s1 k1 _ _ r1=>sO k1 (nO r1 h2)) he
theorem F2(VO:dz prog w La Bu V)(TO:dW prog w La Bu T)(bu:Bu A)(am:dN A La s)(x:In env G σ s.heap)(h:X8 V T env.scope.names σ e=some b):
 wpAny (model prog w) A (isTrue e env (eval e env)) (λb' s'=>b'=b/\Keeps s s') E s:=by
 refine J7 (P:=λe=>wpAny (model prog w) A (isTrue e env (eval e env)) (λb' s'=>b'=b/\Keeps s s') E s) e (λop es pos h=>avh (IG VO bu am x h)) (λ_ _ _ _ h=>no h) (λop y pos h=>?_) (λ_ _ _ _ h=>no h) (λ_ _ _ _ h=>no h) (λl ops rs pos h=>(zm VO TO bu am x h).2) (λf args k pos h=>tP VO bu am x rfl h)
  (λ_ _ _ h=>no h) (λ_ _ _ h=>no h) (λn pos h=>tP VO bu am x rfl h) (λ_ _ h=>no h) (λ_ _ _ h=>no h) h
 cases op<;>first|exact no h|skip
 obtain⟨c,h1,rfl⟩:=dM h;exact isTrue_not (tO VO bu am x h1 λs1 k1 _ _=>⟨rfl,k1⟩)
theorem mT(VO:dz prog w La Bu V)(TO:dW prog w La Bu T):dz prog w La Bu (jo T V):=
 ⟨λ_ _ _ _ _ _ _ _ bu am x h=>F1 VO TO bu am x h,λ_ _ _ _ _ _ _ _ bu am x h=>F2 VO TO bu am x h⟩
theorem kU(TO:dW prog w La Bu T):∀n,dz prog w La Bu (dh T n):=by
 intro zx
 induction zx with
 |zero=>
  exact⟨λ_ _ _ _ _ _ _ _ _ _ _ h=>(nomatch h),λ_ _ _ _ _ _ _ _ _ _ _ h=>(nomatch h)⟩
 |succ n ih=>
  exact mT (ih) TO
end
end
section
theorem Ns.uniq{h:Heap}{a:Addr}{m m':Str->Option Value}(x:h.Ns a m)(y:h.Ns a m')(n:Str):m n=m' n:=by
 obtain⟨o,es,ep,h1,h2,_,h3⟩:=x;obtain⟨o',Kc,ep',h1',h2',_,SU⟩:=y;rw[h1]at h1';cases h1';rw[h2]at h2';cases h2';rw[<-h3,<-SU]
def KL(env:Env)(h:Heap)(n:Str)(v:Value):Prop:=
 (env.kindOf n=some .local->∃m,h.Ns env.locals m/\m n=some v)/\(env.kindOf n=some .cell->∃c,env.cells.lookup n=some c/\h.IsCell c (some v))
theorem KL.keeps(x:KL env h n v)(k:bU h h'):KL env h' n v:=
 ⟨λhk=>by obtain⟨m,a,b⟩:=x.1 hk;exact⟨m,a.keeps k,b⟩,λhk=>by obtain⟨c,a,b⟩:=x.2 hk;exact⟨c,a,b.keeps k⟩⟩
theorem KL.kept(x:KL env h n v)(k:Kept X h h')(hl:¬X env.locals)(hc:∀n c,env.cells.lookup n=some c->¬X c):KL env h' n v:=
 ⟨λhk=>by obtain⟨m,a,b⟩:=x.1 hk;exact⟨m,a.at' λo e=>k _ o hl e,b⟩,λhk=>by obtain⟨c,a,o,b,b'⟩:=x.2 hk;exact⟨c,a,o,k _ _ (hc n c a) b,b'⟩⟩
theorem Qc(r0:bT h G D0 (.ref a))(d)(v):sizeOf d<sizeOf D0->bT h G d v->bT h (λb=>G b\/b=a) d v:=
 bT.gen (P:=λd=>sizeOf d<sizeOf D0) (λl p d q=>dn (dn (Xb q) (by simp)) p) (λl p d q=>dn (dn (Xb q) (by simp)) p)
  (λd b o p r nb g=>⟨λq=>q.elim nb λz=>fg _ (bT.inj (z▸r) r0▸p:sizeOf D0<sizeOf D0),g⟩) d v
theorem BV(r0:bT h G D0 (.ref a)):∀(vs:List Value),sizeOf ds<sizeOf D0->aZ h G ds vs->aZ h (λb=>G b\/b=a) ds vs:=by
 induction ds with
 |nil=>exactλ_ _ x=>x
 |cons d ds ih=>
  intro vs hs x;obtain⟨v,r,rfl,a,b⟩:=x.gk;have h1:sizeOf d<sizeOf (d::ds):=by simp;omega
  have h2:sizeOf ds<sizeOf (d::ds):=by simp;omega
  exact .cons (Qc r0 d v (dn h1 hs) a) (ih r (dn h2 hs) b)
def kJ(d:D):Bool:=b8 d.ctorIdx 5
theorem mU(hf:kJ d=true)(r:bT h G d v):bT h' G' d v:=by
 cases d with
 |tup l=>cases hf
 |lst l=>cases hf
 |om _ _ _=>cases hf
 |_=>exact r
theorem jI:∀{vs:List Value},ds.all kJ=true->aZ h G ds vs->aZ h' G' ds vs:=by
 induction ds with
 |nil=>exactλ_ r=>r
 |cons d ds ih=>
  intro vs hf r;obtain⟨v,q,rfl,a,b⟩:=r.gk;rw[rW,ay]at hf;exact .cons (mU hf.1 a) (ih hf.2 b)
def bZ(own:List Str)(σ:cw):cw:=σ.filter λp=> !own.contains p.1
theorem fY:∀{σ:cw}{n:Str},look (bZ own σ) n=if own.contains n=true then none else look σ n:=λ{σ}=>by
 induction σ with
 |nil=>
  intro n;show look [] n=_;dsimp only[look];split<;>rfl
 |cons a r ih=>
  intro n;obtain⟨x,d⟩:=a;unfold bZ;rw[cQ];dsimp only;by_cases hx:own.contains x=true
  ·rw[hx]
   simp only[rY,i0,if_false];show look (bZ own r) n=_;rw[ih];by_cases hn:x=n
   ·subst hn;rw[if_pos hx,if_pos hx]
   ·by_cases ho:own.contains n=true
    ·rw[if_pos ho,if_pos ho]
    ·rw[if_neg ho,if_neg ho];unfold look;rw[if_neg hn]
     cases r<;>rfl
  ·have N6:own.contains x=false:=by simpa using hx
   rw[N6];simp only[Bool.not_false,if_true];show look ((x,d)::bZ own r) n=_;dsimp only[look];by_cases hn:x=n
   ·subst hn
    rw[if_pos rfl,if_pos rfl,if_neg hx]
   ·rw[if_neg hn,if_neg hn]
    exact ih
theorem KN:∀{σ:cw}{n:Str}{d:D},look σ n=some d->d≠.Kr:=by
 intro zx
 induction zx with
 |nil=>
  rintro _ _ h;cases h
 |cons zh r ih=>
  obtain⟨x,e⟩:=zh;rintro n d h;unfold look at h;split at h
  ·split at h
   ·cases h
   ·rename_i q
    cases h;exact q
  ·exact ih h
theorem ip:look (put n d σ) n=look (put n d σ') n:=by
 have key:∀σ:cw,look (put n d σ) n=(match d with|.Kr=>none|d=>some d):=by
  intro σ
  induction σ with
  |nil=>dsimp only[put,look];rw[if_pos rfl];all_goals (cases d<;>rfl)
  |cons p r ih=>
   obtain⟨x,e⟩:=p;dsimp only[put];split
   ·rename_i hx
    dsimp only[look];rw[if_pos hx];all_goals (cases d<;>rfl)
   ·rename_i hx
    dsimp only[look];rw[if_neg hx];exact ih
 rw[key,key]
section
variable{prog:bb}{w:World}{A:aE}{E:Value->ak->Prop}{s:ak}{env:Env}{G:Addr->Prop}{σ:cw}
theorem In.abt{n:Str}{d:D}{v:Value}(x:In env G σ s.heap)(hk:env.kindOf n=some .local\/env.kindOf n=some .cell)(r:d≠.Kr->bT s.heap G d v):
 wpAny (model prog w) A (storeName env n v) (λ_ s'=>Upd (λa=>a=env.locals\/env.cells.lookup n=some a) s s'/\In env G (put n d σ) s'.heap/\KL env s'.heap n v/\∀k u,k≠n->KL env s.heap k u->KL env s'.heap k u) E s:=by
 obtain⟨m,hm,hv⟩:=x.va;rcases hk with hk|hk
 ·refine ane hk hm (λh' hn' tA=>?_) (by rw[x.fn];rfl)
  have u:Upd (λa=>a=env.locals) s {s with heap:=h',toks:=s.toks+1}:=⟨h',_,rfl,λb o hb e=>tA.extBut b o hb e⟩
  refine⟨u.more λa q=>.inl q,⟨x.fn,x.gl,x.bi,?_,x.fl,x.fc,x.inj,λk nA=>?_,⟨_,hn',λk e he=>⟨λnA=>?_,λnA=>?_⟩⟩⟩,⟨λ_=>⟨_,hn',by simp⟩,λq=>by rw[hk]at q;cases q⟩,λk u kr Qd=>⟨λq=>?_,λq=>?_⟩⟩
  ·obtain⟨o,_,_,ho,_⟩:=hn'
   exact x.lo.sameBut tA (by rw[ho];rfl)
  ·obtain⟨c,v',h1,h2⟩:=x.ce k nA
   exact⟨c,v',h1,h2.sameBut tA (x.fc k c h1).2⟩
  ·by_cases kr:k=n
   ·subst kr
    have:=ly he;subst this;exact⟨v,by simp,u.rep (λa q=>q▸x.fl) (r (KN he))⟩
   ·rw[cZ kr]at he
    obtain⟨v',h1,h2⟩:=(hv k e he).1 nA;exact⟨v',by simpa [kr]using h1,u.rep (λa q=>q▸x.fl) h2⟩
  ·have kr:k≠n:=λq=>by subst q;rcases nA with nA|nA<;>(rw[hk]at nA;cases nA)
   rw[cZ kr]at he;obtain⟨c,v',h1,h2,h3⟩:=(hv k e he).2 nA;exact⟨c,v',h1,h2.sameBut tA (x.fc k c h1).2,u.rep (λa q=>q▸x.fl) h3⟩
  ·obtain⟨m',h1,h2⟩:=Qd.1 q
   exact⟨_,hn',by rw[if_neg kr,Ns.uniq hm h1];exact h2⟩
  ·obtain⟨c,h1,h2⟩:=Qd.2 q
   exact⟨c,h1,h2.sameBut tA (x.fc k c h1).2⟩
 ·obtain⟨c,api,hc,Mv⟩:=x.ce n hk
  refine asJ x.fn hk hc Mv λh' Iq tA=>?_;have u:Upd (λa=>a=c) s {s with heap:=h'}:=⟨h',_,rfl,λb o hb e=>tA.extBut b o hb e⟩
  have rH:=(x.fc n c hc).2;have hcG:=(x.fc n c hc).1;refine⟨u.more λa q=>.inr (q▸hc),⟨x.fn,x.gl,x.bi,?_,x.fl,x.fc,x.inj,λk nA=>?_,⟨m,hm.sameBut tA (uP rH),λk e he=>⟨λnA=>?_,λnA=>?_⟩⟩⟩,⟨(λq=>by rw[hk]at q;cases q),λ_=>⟨c,hc,Iq⟩⟩,λk u' kr Qd=>⟨λq=>?_,λq=>?_⟩⟩
  ·obtain⟨o,ho,_⟩:=Iq
   exact x.lo.sameBut tA (by rw[ho];rfl)
  ·by_cases kr:k=n
   ·subst kr;exact⟨c,_,hc,Iq⟩
   ·obtain⟨c',v',h1,h2⟩:=x.ce k nA
    exact⟨c',v',h1,h2.sameBut tA λq=>kr (x.inj k n c (q▸h1) hc)⟩
  ·have kr:k≠n:=λq=>by subst q;rw[hk]at nA;cases nA
   rw[cZ kr]at he;obtain⟨v',h1,h2⟩:=(hv k e he).1 nA;exact⟨v',h1,u.rep (λa q=>q▸hcG) h2⟩
  ·by_cases kr:k=n
   ·subst kr
    have:=ly he;subst this;exact⟨c,v,hc,Iq,u.rep (λa q=>q▸hcG) (r (KN he))⟩
   ·rw[cZ kr]at he
    obtain⟨c',v',h1,h2,h3⟩:=(hv k e he).2 nA;exact⟨c',v',h1,h2.sameBut tA (λq=>kr (x.inj k n c (q▸h1) hc)),u.rep (λa q=>q▸hcG) h3⟩
  ·obtain⟨m',h1,h2⟩:=Qd.1 q
   exact⟨m',h1.sameBut tA (uP rH),h2⟩
  ·obtain⟨c',h1,h2⟩:=Qd.2 q
   exact⟨c',h1,h2.sameBut tA λz=>kr (x.inj k n c (z▸h1) hc)⟩
end
end
section
def KO:se->Bool
 |.Add=>true
 |_=>false
theorem Qe(h:KO op=true):op=.Add:=by cases op<;>first|rfl|exact nz h
inductive FrI:ae->Prop
 |lst (es:List ae) (pos:Pos):FrI (.List es pos)
 |comp (elt:ae) (gens:List dY) (scope:Scope) (pos:Pos):FrI (.ListComp elt gens scope pos)
 |bin (l r:ae) (pos:Pos):FrI (.BinOp l .Add r pos)
 |call (args:List ae) (IB:List S9) (fp pos:Pos):FrI (.Call (.Name "list" fp) args IB pos)
def frQ(e):Option (PLift (FrI e)):=
 match ae2 e with
 |some x=>some ⟨x.2▸.lst _ _⟩
 |none=>match Xl e with
  |some x=>some ⟨x.2▸.comp _ _ _ _⟩
  |none=>match ans e with
   |some x=>if h:KO x.1.2.1=true then some ⟨by rw[x.2,Qe h];exact .bin _ _ _⟩else none
   |none=>(Oo e).bind λx=>(tE x.1.1).bind λy=>if h:y.1.1=("list":Str)then some ⟨by rw[x.2,y.2,h];exact .call _ _ _ _⟩else none
def jz(e:ae):Bool:=(frQ e).isSome
theorem frI(h:jz e=true):FrI e:=((frQ e).get h).down
section
variable{prog:bb}{w:World}{A:aE}{E:Value->ak->Prop}{G:Addr->Prop}{env:Env}{La:Heap->Prop}{Bu:aE->Prop}{V:Ev}{T:fe}{σ:cw}{s:ak}
theorem lH.before(k:Keeps s s')(f:lH s' v):lH s v:=by
 obtain⟨a,e,h⟩:=f;refine⟨a,e,?_⟩;cases g:s.heap.get? a with
 |none=>rfl
 |some o=>rw[Keeps.all k a o g]at h;cases h
theorem IL(ok:Ok A G s)(r:aZ s.heap G ds vs)(e:bY .list ds=some d):
 wpAny (model prog w) A (call (.type "list") vs) (λv s'=>iJ G s d v s'/\lH s v) E s:=
 d1E (P:=λvs=>wpAny (model prog w) A (call (.type "list") vs) (λv s'=>iJ G s d v s'/\lH s v) E s) r e λx v r e=>yW ok r e
theorem IM(VO:dz prog w La Bu V)(TO:dW prog w La Bu T)(bu:Bu A)(am:dN A La s)(x:In env G σ s.heap)(h:KH V T env.scope.names σ "list" args=some (.lst ds)):
 wpAny (model prog w) A (eval (.Call (.Name "list" fp) args [] pos) env) (λv s'=>iJ G s (.lst ds) v s'/\lH s v) E s:=by
 unfold KH at h;obtain⟨hk,h⟩:=dy h;rw[if_neg (by decide)]at h;obtain⟨xY,h1,h2⟩:=aO h;rw[show Bi.of (uz "list")=some .list from by rfl']at h2;have hp:=(kQ (env:=env) (pos:=pos) h1).1;show wpAny _ _ (do callWith pos (<-eval (.Name "list" fp) env) [] (backTo pos (starEach args env)) []) _ _ _;refine aw (qO x hk.1 hk.2 (.inr (TO.bi _ .list (am.la _ λ_ _ e=>e))) ?_);refine yg hp (eu hp ?_);refine aj (bF am.tk (oF VO bu am x h1)) (λvs s1 q1=>?_) λ_ _ e=>e;exact aj (IL ((am.keeps q1.2.1 q1.1).ok (x.keeps (Keeps.all q1.2.1)).lo) q1.2.2 h2) (λv s3 q3=>⟨⟨Keeps.trans' q1.2.1 q3.1.1,q3.1.2⟩,lH.before q1.2.1 q3.2⟩) λ_ _ e=>e
theorem xA(VO:dz prog w La Bu V)(TO:dW prog w La Bu T)(bu:Bu A)(am:dN A La s)(x:In env G σ s.heap)(hf:jz e=true)(h:Qa V T env.scope.names σ e=some (.lst ds)):
 wpAny (model prog w) A (eval e env) (λv s'=>iJ G s (.lst ds) v s'/\lH s v) E s:=by
 cases frI hf with
 |lst es pos=>
  obtain⟨xY,h1,h2⟩:=aO h;obtain⟨hl,h2⟩:=bh h2;refine wpAny_List (aj (oF VO bu am x h1) (λvs s1 q1=>⟨?_,?_⟩) λ_ _ e=>e)
  ·rw[q1.2.length];exact ao hl iQ
  ·exact D.lst.inj h2▸⟨⟨Keeps.trans' q1.1 (Keeps.push _),oz (x.keeps (Keeps.all q1.1)).lo q1.2⟩,lH.before q1.1 ⟨_,rfl,lu _⟩⟩
 |comp elt gens scope pos=>
  obtain⟨out,h1,h2⟩:=dM h;exact D.lst.inj h2▸xy VO bu am x h1
 |bin l r pos=>
  obtain⟨a,h1,h2⟩:=aO h;obtain⟨b,h3,h4⟩:=aO h2;refine Bh (aj (bF am.tk (VO.d A E env G σ s l a bu am x h1)) (λva s1 q1=>?_) λ_ _ e=>e);have x1:=x.keeps (Keeps.all q1.2.1);refine aj (bF q1.1 (VO.d A E env G σ s1 r b bu (am.keeps q1.2.1 q1.1) x1 h3)) (λvc s2 q2=>?_) λ_ _ e=>e;exact aj (Bx q2.1 (x1.keeps (Keeps.all q2.2.1)).lo (q1.2.2.keeps (Keeps.all q2.2.1)) q2.2.2 h4) (λv s3 q3=>⟨⟨Keeps.trans' (Keeps.trans' q1.2.1 q2.2.1) q3.1.1,q3.1.2⟩,lH.before (Keeps.trans' q1.2.1 q2.2.1) (q3.2 rfl)⟩) λ_ _ e=>e
 |call args IB fp pos=>
  cases IB with
  |cons _ _=>exact no h
  |nil=>exact IM VO TO bu am x h
end
end
section
def Ow(env:Env)(n:Str):Prop:=env.kindOf n=some .local\/env.kindOf n=some .cell
structure pk(env:Env)(F:Addr->Prop)(aD:ak):Prop where
 hl:aD.heap.get? env.locals=none
 hc:∀n c,Ow env n->env.cells.lookup n=some c->aD.heap.get? c=none
 lo:jy F aD.heap
inductive aiq(env:Env)(h₀:Heap)(σ:cw)(h:Heap)(G:Addr->Prop)(n:Str)(a:Addr):Prop
 |mk (hk:env.kindOf n=some .local\/env.kindOf n=some .cell) (hv:KL env h n (.ref a)) (hg:G a) (hn:h₀.get? a=none) (ds:List D) (hl:look σ n=some (.lst ds)) (ac:Acc G h a ds)
structure SI(env:Env)(F:Addr->Prop)(aD:ak)(σ:cw)(own:List Str)(s:ak)(G:Addr->Prop)(oa:Str->Addr):Prop where
 hF:∀a,F a->G a
 hN:∀a,G a->F a\/aD.heap.get? a=none
 kp:Keeps aD s
 tk:1<=s.toks
 ie:In env G (bZ own σ) s.heap
 ow:∀n,n∈own->aiq env aD.heap σ s.heap G n (oa n)
 od:∀n,n∈own->oa n≠env.locals/\∀k,env.cells.lookup k≠some (oa n)
 oi:∀n n',n∈own->n'∈own->oa n=oa n'->n=n'
def sP(n:Str)(own:List Str):List Str:=own.filter λm=>m != n
theorem iT:m∈sP n own↔m∈own/\m≠n:=by
 unfold sP;rw[dq];simp
section
variable{prog:bb}{w:World}{A:aE}{E:Value->ak->Prop}{G F:Addr->Prop}{env:Env}{aD s s':ak}{σ:cw}{own:List Str}{oa:Str->Addr}
theorem SI.owG(si:SI env F aD σ own s G oa)(hn:n∈own):G (oa n):=by
 obtain⟨_,_,h⟩:=si.ow n hn;exact h
theorem SI.owN(si:SI env F aD σ own s G oa)(hn:n∈own):aD.heap.get? (oa n)=none:=by
 obtain⟨_,_,_,h⟩:=si.ow n hn;exact h
theorem SI.keeps(si:SI env F aD σ own s G oa)(k:Keeps s s')(t:1<=s'.toks):SI env F aD σ own s' G oa:=
 ⟨si.hF,si.hN,Keeps.trans' si.kp k,t,si.ie.keeps (Keeps.all k),λn hn=>by
   obtain⟨h1,h2,h3,h4,ds,h5,h6⟩:=si.ow n hn;exact⟨h1,h2.keeps (Keeps.all k),h3,h4,ds,h5,h6.keeps (Keeps.all k)⟩,si.od,si.oi⟩
theorem SI.weak(si:SI env F aD σ own s G oa):In env (λa=>G a/\∀n,n∈own->a≠oa n) σ s.heap:=by
 have x:=si.ie;have hs:∀a,(G a/\∀n,n∈own->a≠oa n)->G a:=λa q=>q.1;refine⟨x.fn,x.gl,x.bi,λb q=>x.lo b q.1,⟨x.fl,λn hn q=>(si.od n hn).1 q.symm⟩,λn c e=>⟨⟨(x.fc n c e).1,λm hm q=>(si.od m hm).2 n (q▸e)⟩,(x.fc n c e).2⟩,x.inj,x.ce,?_⟩;obtain⟨m,hm,hv⟩:=x.va;refine⟨m,hm,λn d e=>?_⟩;by_cases hn:n∈own
 ·obtain⟨h1,h2,h3,h4,ds,h5,vs,k,h6,h7⟩:=si.ow n hn
  rw[e]at h5;cases h5;have rep:bT s.heap (λa=>G a/\∀n,n∈own->a≠oa n) (.lst ds) (.ref (oa n)):=by
   exact jX (vs:=vs.toList) (λq=>q.2 n hn rfl) h6 (h7.less λb q=>.inl q.1)
  refine⟨λhk=>?_,λhk=>?_⟩
  ·obtain⟨m',q1,q2⟩:=h2.1 hk
   exact⟨_,by rw[Ns.uniq hm q1];exact q2,rep⟩
  ·obtain⟨c,q1,q2⟩:=h2.2 (hk.resolve_right λq=>by rcases h1 with h1|h1<;>(rw[h1]at q;cases q))
   exact⟨c,_,q1,q2,rep⟩
 ·have e':look (bZ own σ) n=some d:=by
   rw[fY,if_neg (by simpa using hn)];exact e
  refine⟨λhk=>?_,λhk=>?_⟩
  ·obtain⟨v,q1,q2⟩:=(hv n d e').1 hk
   exact⟨v,q1,q2.less λb q=>.inl q.1⟩
  ·obtain⟨c,v,q1,q2,q3⟩:=(hv n d e').2 hk
   exact⟨c,v,q1,q2,q3.less λb q=>.inl q.1⟩
theorem SI.FG{Y:Addr->Prop}(si:SI env F aD σ own s G oa)(k:Keeps s s')(t:1<=s'.toks)(h0:∀a,Y a->s.heap.get? a=none)(h1:∀a,Y a->(s'.heap.get? a).isSome=true):SI env F aD σ own s' (λb=>G b\/Y b) oa:=by
 have h00:∀a,Y a->aD.heap.get? a=none:=λa q=>by
  cases e:aD.heap.get? a with
  |none=>rfl
  |some o=>have:=Keeps.all si.kp a o e;rw[h0 a q]at this;cases this
 refine⟨λb q=>.inl (si.hF b q),λb q=>?_,Keeps.trans' si.kp k,t,si.ie.FG (Keeps.all k) h0 h1,λn hn=>?_,si.od,si.oi⟩
 ·rcases q with q|q
  ·exact si.hN b q
  ·exact .inr (h00 b q)
 ·obtain⟨q1,q2,q3,q4,ds,q5,vs,m,q6,q7⟩:=si.ow n hn
  exact⟨q1,q2.keeps (Keeps.all k),.inl q3,q4,ds,q5,vs,m,Keeps.all k _ _ q6,aZ.kept (F:=G) (λb o _ e=>Keeps.all k b o e) (λb q=>Or.imp id (h0 b) q) _ _ q7⟩
theorem SI.grow(si:SI env F aD σ own s G oa)(k:Keeps s s')(t:1<=s'.toks)(h0:s.heap.get? a=none)(h1:(s'.heap.get? a).isSome=true):SI env F aD σ own s' (λb=>G b\/b=a) oa:=
 si.FG k t (λ_ q=>q▸h0) (λ_ q=>q▸h1)
theorem SI.shrink(si:SI env F aD σ own s G oa)(u:Upd (λa=>a=C) s s')(t:1<=s'.toks)(hC:G C)(hCF:¬F C)(h0:aD.heap.get? C=none)(hl:C≠env.locals)(hc:∀n,env.cells.lookup n≠some C)(ho:∀n,n∈own->oa n≠C):
 SI env F aD σ own s' (λa=>G a/\a≠C) oa:=by
 have kp:Kept (λa=>a=C) s.heap s'.heap:=u.kept λ_ q=>q;refine⟨λb q=>⟨si.hF b q,λz=>hCF (z▸q)⟩,λb q=>si.hN b q.1,u.keeps (λa q=>q▸h0) si.kp,t,si.ie.shrink u hC hl hc,λn hn=>?_,si.od,si.oi⟩;obtain⟨q1,q2,q3,q4,ds,q5,vs,m,q6,q7⟩:=si.ow n hn;exact⟨q1,q2.kept kp (λz=>hl z.symm) (λn c e z=>hc n (z▸e)),⟨q3,ho n hn⟩,q4,ds,q5,vs,m,kp _ _ (ho n hn) q6,(u.Fw (G:=G) (λa q=>q▸hC) q7).less λb q=>.inl q.1⟩
theorem pk.apx(fr:pk env F aD)(hk:Ow env n)(h:a=env.locals\/env.cells.lookup n=some a):aD.heap.get? a=none:=by
 rcases h with h|h
 ·exact h▸fr.hl
 ·exact fr.hc n a hk h
theorem SI.bind(si:SI env F aD σ own s G oa)(fr:pk env F aD)(hk:env.kindOf n=some .local\/env.kindOf n=some .cell)(r:d≠.Kr->bT s.heap G d v):
 wpAny (model prog w) A (storeName env n v) (λ_ s'=>1<=s'.toks/\Upd (λa=>a=env.locals\/env.cells.lookup n=some a) s s'/\SI env F aD (put n d σ) (sP n own) s' G oa/\KL env s'.heap n v) E s:=by
 refine aj (bF si.tk (si.ie.abt hk r)) (λ_ s' q=>?_) λ_ _ e=>e;obtain⟨t,u,x,hv,hvs⟩:=q;have Iu:∀a,(a=env.locals\/env.cells.lookup n=some a)->G a:=λa q=>by
  rcases q with q|q
  ·exact q▸si.ie.fl
  ·exact(si.ie.fc n a q).1
 refine⟨t,u,⟨si.hF,si.hN,u.keeps (λa q=>fr.apx hk q) si.kp,t,x.sub λk e he=>?_,λk kG=>?_,λk kG=>si.od k (iT.mp kG).1,λk k' h1 h2=>si.oi k k' (iT.mp h1).1 (iT.mp h2).1⟩,hv⟩
 ·rw[fY]at he
  split at he
  ·cases he
  ·rename_i hc
   by_cases kr:k=n
   ·subst kr
    rw[ip (σ':=σ)];exact he
   ·rw[cZ kr]at he⊢
    rw[fY,if_neg ?_]
    ·exact he
    ·intro q
     exact hc (by simpa using iT.mpr ⟨by simpa using q,kr⟩)
 ·obtain⟨hm,ox⟩:=iT.mp kG
  obtain⟨q1,q2,q3,q4,ds,q5,q6⟩:=si.ow k hm;refine⟨q1,hvs k _ ox q2,q3,q4,ds,by rw[cZ ox];exact q5,q6.kept (u.kept λ_ q=>q) Iu λz=>?_⟩;rcases z with z|z
  ·exact(si.od k hm).1 z
  ·exact(si.od k hm).2 n z
def sd(oa:Str->Addr)(n:Str)(a:Addr):Str->Addr:=λk=>if k=n then a else oa k
theorem SI.Qf(si:SI env F aD σ own s G oa)(fr:pk env F aD)(hk:env.kindOf n=some .local\/env.kindOf n=some .cell)(hG:G a)(h0:aD.heap.get? a=none)(ac:Acc G s.heap a ds)
(hl:a≠env.locals)(hc:∀k,env.cells.lookup k≠some a)(hn:∀k,k∈own->k≠n->oa k≠a):
 wpAny (model prog w) A (storeName env n (.ref a)) (λ_ s'=>1<=s'.toks/\Upd (λa=>a=env.locals\/env.cells.lookup n=some a) s s'/\SI env F aD (put n (.lst ds) σ) (n::sP n own) s' G (sd oa n a)) E s:=by
 refine aj (SI.bind (d:=.Kr) si fr hk (λq=>absurd rfl q)) (λ_ s' q=>?_) λ_ _ e=>e;obtain⟨t,u,ME,hv⟩:=q;have Iu:∀a,(a=env.locals\/env.cells.lookup n=some a)->G a:=λa q=>by
  rcases q with q|q
  ·exact q▸si.ie.fl
  ·exact(si.ie.fc n a q).1
 have ox:∀{k},k∈sP n own->k≠n:=λh=>(iT.mp h).2;refine⟨t,u,⟨ME.hF,ME.hN,ME.kp,t,ME.ie.sub λk e he=>?_,λk kG=>?_,λk kG=>?_,λk k' h1 h2 e=>?_⟩⟩
 ·rw[fY]at he⊢
  split at he
  ·cases he
  ·rename_i hcn
   have kr:k≠n:=λz=>hcn (by subst z;simp);rw[cZ kr]at he;rw[if_neg (λz=>hcn (by simp at z⊢;exact .inr z)),cZ kr];exact he
 ·rcases aL.mp kG with rfl|hm
  ·refine⟨hk,by unfold sd;rw[if_pos rfl];exact hv,by unfold sd;rw[if_pos rfl];exact hG,by unfold sd;rw[if_pos rfl];exact h0,ds,?_,?_⟩
   ·have:∀σ:cw,look (put k (.lst ds) σ) k=some (.lst ds):=λσ=>by
     rw[ip (σ':=[])];dsimp only[put,look];rw[if_pos rfl]
    exact this σ
   ·unfold sd;rw[if_pos rfl]
    refine ac.kept (u.kept λ_ q=>q) Iu λz=>?_;rcases z with z|z
    ·exact hl z
    ·exact hc _ z
  ·obtain⟨q1,q2,q3,q4,xY,q5,q6⟩:=ME.ow k hm
   have kr:=ox hm;have e:sd oa n a k=oa k:=if_neg kr;rw[e];exact⟨q1,q2,q3,q4,xY,by rw[cZ kr]at q5⊢;exact q5,q6⟩
 ·rcases aL.mp kG with rfl|hm
  ·unfold sd;rw[if_pos rfl];exact⟨hl,hc⟩
  ·unfold sd;rw[if_neg (ox hm)];exact ME.od k hm
 ·rcases aL.mp h1 with rfl|hm<;>rcases aL.mp h2 with rfl|hm'
  ·rfl
  ·exfalso
   have e1:sd oa k a k=a:=if_pos rfl;have e2:sd oa k a k'=oa k':=if_neg (ox hm');rw[e1,e2]at e;exact hn k' (iT.mp hm').1 (ox hm') e.symm
  ·exfalso
   have e1:sd oa k' a k'=a:=if_pos rfl;have e2:sd oa k' a k=oa k:=if_neg (ox hm);rw[e1,e2]at e;exact hn k (iT.mp hm).1 (ox hm) e
  ·have e1:sd oa n a k=oa k:=if_neg (ox hm)
   have e2:sd oa n a k'=oa k':=if_neg (ox hm');rw[e1,e2]at e;exact ME.oi k k' hm hm' e
end
end
section
def ey(V:Ev)(ks:bW)(σ:cw)(own:List Str)(e:ae):Option (D×Bool):=
 match V.d ks (bZ own σ) e with
 |some d=>some (d,jz e&&mP d)
 |none=>match V.d ks σ e with
  |some (.lst ds)=>if jz e=true/\ds.all kJ=true then some (.lst ds,true)else none
  |some d=>if kJ d=true then some (d,false)else none
  |none=>none
section
variable{prog:bb}{w:World}{A:aE}{E:Value->ak->Prop}{G F:Addr->Prop}{env:Env}{aD s s':ak}{σ:cw}{own:List Str}{oa:Str->Addr}{La:Heap->Prop}{Bu:aE->Prop}{V0:Ev}{T:fe}
theorem BW(lo:jy G s.heap)(f:lH s v):∃a,v=.ref a/\s.heap.get? a=none/\¬G a:=by
 obtain⟨a,e,h⟩:=f;exact⟨a,e,h,λq=>by
  have:=lo a q;rw[h]at this;cases this⟩
inductive EFI(V:Ev)(ks:bW)(σ:cw)(own:List Str)(e:ae)(d:D)(fl:Bool):Prop
 |own (h1:V.d ks (bZ own σ) e=some d) (h2:fl=(jz e&&mP d))
 |lst (ds:List D) (h1:V.d ks σ e=some (.lst ds)) (h2:jz e=true) (h3:ds.all kJ=true) (hd:d=.lst ds)
 |aR (h1:V.d ks σ e=some d) (h2:kJ d=true) (h3:fl=false)
theorem MG(h:ey V ks σ own e=some (d,fl)):EFI V ks σ own e d fl:=by
 unfold ey at h;cases h1:V.d ks (bZ own σ) e with
 |some d'=>rw[h1]at h;cases h;exact .own h1 rfl
 |none=>
  rw[h1]at h;cases h2:V.d ks σ e with
  |none=>rw[h2]at h;exact no h
  |some d'=>
   rw[h2]at h;clear h1;cases d' with
   |lst ds=>
    obtain⟨q,z⟩:=bh h;cases z;exact .lst ds h2 q.1 q.2 rfl
   |_=>
    obtain⟨q,z⟩:=bh h;cases z;exact .aR h2 q rfl
structure EvF(G:Addr->Prop)(s:ak)(d:D)(fl:Bool)(v:Value)(s':ak):Prop where
 t:1<=s'.toks
 k:Keeps s s'
 r:bT s'.heap G d v
 f:fl=true->lH s v/\mP d=true
theorem gY(VO:dz prog w La Bu V0)(TO:dW prog w La Bu T)(bu:Bu A)(am:dN A La aD)(si:SI env F aD σ own s G oa)(h:ey (jo T V0) env.scope.names σ own e=some (d,fl)):
 wpAny (model prog w) A (eval e env) (EvF G s d fl) E s:=by
 have D6:=am.keeps si.kp si.tk;have VS:=mT VO TO;cases MG h with
 |own hd hf=>
  subst hf;cases hb:jz e&&mP d
  ·exact aj (bF si.tk (VS.d A E env G _ s e d bu D6 si.ie hd)) (λv s1 q=>⟨q.1,q.2.1,q.2.2,Ht⟩) λ_ _ e=>e
  ·obtain⟨h1,h2⟩:=bO.mp hb
   cases d<;>first|exact Ht h2|skip
   exact aj (bF si.tk (xA VO TO bu D6 si.ie h1 hd)) (λv s1 q=>⟨q.1,q.2.1.1,q.2.1.2,λ_=>⟨q.2.2,rfl⟩⟩) λ_ _ e=>e
 |lst ds hd h1 h2 e0=>
  subst e0;refine aj (bF si.tk (xA VO TO bu D6 si.weak h1 hd)) (λv s1 q=>?_) λ_ _ e=>e;obtain⟨t,⟨k,r⟩,fr⟩:=q;refine⟨t,k,?_,λ_=>⟨fr,rfl⟩⟩;obtain⟨a,rfl,h0,nG⟩:=BW si.ie.lo fr;obtain⟨b,vs,n,e1,_,g,rs⟩:=r.lst;cases e1;exact jX nG g (jI h2 rs)
 |aR hd hf e0=>
  subst e0;exact aj (bF si.tk (VS.d A E env _ σ s e d bu D6 si.weak hd)) (λv s1 q=>⟨q.1,q.2.1,mU hf q.2.2,Ht⟩) λ_ _ e=>e
end
end
section
inductive Fl where
 |nx (σ:cw) (own:List Str)
 |rt (d:D)
def FP(env:Env)(F:Addr->Prop)(aD:ak):Fl->Flow->ak->Prop
 |.nx σ own,f,s'=>f=.next/\∃G oa,SI env F aD σ own s' G oa
 |.rt d,f,s'=>∃v,f=.ret v/\Keeps aD s'/\1<=s'.toks/\bT s'.heap F d v
def AO(ks:bW)(n:Str):Bool:=match ks.lookup n with|some .local=>true|some .cell=>true|_=>false
theorem qP{env:Env}{n:Str}(h:AO env.scope.names n=true):env.kindOf n=some .local\/env.kindOf n=some .cell:=by
 unfold AO at h;split at h
 ·rename_i q;exact .inl q
 ·rename_i q;exact .inr q
 ·cases h
def lV(W:List Str)(n:Str)(c:D×Bool)(p:cw×List Str):cw×List Str:=
 (put n c.1 p.1,if(c.2&&W.contains n)=true then n::sP n p.2 else sP n p.2)
def KP(ks:bW)(n:Str)(p:Pos)(s:Scope)(vp:Pos):Bool:=ks.lookup n==some .local&&p.line==vp.line&& !(s.names.any λx=>x.1==n&&(x.2==.local||x.2==.cell))
def p6(ks:bW)(n:Str)(p:Pos)(e:ae):Bool:=
 fj (motive_1:=λ_=>Bool) e (λ_ _ _=>false) (λ_ _ _=>false) (λ_ _ _ _=>false) (λ_ _ _=>false) (λ_ _ _ _=>false) (λ_ _ _ _=>false) (λ_ _ _=>false) (λ_ _ _=>false) (λ_ _ s vp=>KP ks n p s vp) (λ_ _ s vp=>KP ks n p s vp) (λ_ _ _ s vp=>KP ks n p s vp)
  (λ_ _ _ _=>false) (λ_ _=>false) (λ_ _=>false) (λ_ _=>false) (λ_ _ _ _=>false) (λ_ _ _ _=>false) (λ_ _ _ _=>false) (λ_ _=>false) (λ_ _ _=>false) (λ_ _ _=>false) (λ_ _ _=>false) (λ_ _=>false) (λ_ _=>false) (λ_ _=>false) (λ_ _ _=>false) (λ_ _ _ _=>false)
section
variable{prog:bb}{w:World}{A:aE}{E:Value->ak->Prop}{G F:Addr->Prop}{env:Env}{aD s s':ak}{σ:cw}{own W:List Str}{oa:Str->Addr}{La:Heap->Prop}{Bu:aE->Prop}{V0:Ev}{T:fe}
theorem tQ(h:env.scope.kind=.function):env.blockKind=.function:=by
 unfold Env.blockKind;rw[h];rfl
theorem qQ(hf:env.scope.kind=.function)(n:Str)(p:Pos)(e:ae)(l:Nat):swapsWith e (some (.Name n p)) l env=pure (p6 env.scope.names n p e):=by
 have k:(pure false:Sem Bool)=pure false:=rfl;have c:∀(s:Scope)(vp:Pos),(pure (env.blockKind==.function&&env.kindOf n==some .local&&p.line==vp.line&& !(s.names.any λx=>x.1==n&&(x.2==.local||x.2==.cell))):Sem Bool)=pure (KP env.scope.names n p s vp):=λs vp=>by rw[tQ hf];rfl
 exact fj (motive_1:=λe=>swapsWith e (some (.Name n p)) l env=pure (p6 env.scope.names n p e)) e (λ_ _ _=>k) (λ_ _ _=>k) (λ_ _ _ _=>k) (λ_ _ _=>k) (λ_ _ _ _=>k) (λ_ _ _ _=>k) (λ_ _ _=>k) (λ_ _ _=>k) (λ_ _ s vp=>c s vp) (λ_ _ s vp=>c s vp) (λ_ _ _ s vp=>c s vp)
  (λ_ _ _ _=>k) (λ_ _=>k) (λ_ _=>k) (λ_ _=>k) (λ_ _ _ _=>k) (λ_ _ _ _=>k) (λ_ _ _ _=>k) (λ_ _=>k) (λ_ _ _=>k) (λ_ _ _=>k) (λ_ _ _=>k) (λ_ _=>k) (λ_ _=>k) (λ_ _=>k) (λ_ _ _=>k) (λ_ _ _ _=>k)
theorem SI.abu(h:∀a,G a↔G' a)(si:SI env F aD σ own s G oa):SI env F aD σ own s G' oa:=by
 have:G=G':=funext λa=>propext (h a);rwa[<-this]
theorem sQ(fr:pk env F aD)(hk:env.kindOf n=some .local\/env.kindOf n=some .cell)(si:SI env F aD σ own s G oa)(r:bT s.heap G d v)
(KQ:fl=true->mP d=true/\∃a,v=.ref a/\SI env F aD σ own s (λb=>G b\/b=a) oa/\aD.heap.get? a=none/\a≠env.locals/\(∀k,env.cells.lookup k≠some a)/\∀k,k∈own->oa k≠a):
 wpAny (model prog w) A (storeName env n v) (λ_ s'=>1<=s'.toks/\Upd (λa=>a=env.locals\/env.cells.lookup n=some a) s s'/\∃G' F3,SI env F aD (lV W n (d,fl) (σ,own)).1 (lV W n (d,fl) (σ,own)).2 s' G' F3/\(∀b,G b->G' b)/\
  (∀b,G' b->G b\/v=.ref b)/\∀C,(∀k,k∈own->oa k≠C)->v≠.ref C->∀k,k∈(lV W n (d,fl) (σ,own)).2->F3 k≠C) E s:=by
 unfold lV;dsimp only;split
 ·rename_i hw
  rw[ay]at hw;obtain⟨hl,a,rfl,ME,h0,h1,h2,h3⟩:=KQ hw.1;obtain⟨ds,rfl⟩:=uW hl;have ac:Acc (λb=>G b\/b=a) s.heap a ds:=by
   have r':=r;obtain⟨b,vs,k,e,nb,g,rs⟩:=r.lst;cases e;exact⟨vs.toArray,k,g,BV r' vs (by simp) rs⟩
  refine aj (SI.Qf ME fr hk (.inr rfl) h0 ac h1 h2 λk kG _=>h3 k kG) (λ_ s1 q=>?_) λ_ _ e=>e;refine⟨q.1,q.2.1,_,_,q.2.2,λb z=>.inl z,λb z=>Or.imp id (λ(z:b=a)=>z▸rfl) z,λC hC hv k kG=>?_⟩;unfold sd;split
  ·intro z;exact hv (z▸rfl)
  ·rename_i kr
   rcases aL.mp kG with z|z
   ·exact absurd z kr
   ·exact hC k (iT.mp z).1
 ·refine aj (SI.bind si fr hk (λ_=>r)) (λ_ s1 q=>?_) λ_ _ e=>e
  exact⟨q.1,q.2.1,_,_,q.2.2.1,λb z=>z,λb z=>.inl z,λC hC _ k kG=>hC k (iT.mp kG).1⟩
theorem SI.C5(si:SI env F aD σ own s G oa)(k:Keeps s s')(t:1<=s'.toks)(r:bT s'.heap ig d v)(hd:mP d=true)(f:lH s v):
 ∃a,v=.ref a/\s.heap.get? a=none/\(s'.heap.get? a).isSome=true/\SI env F aD σ own s' (λb=>G b\/b=a) oa/\aD.heap.get? a=none/\a≠env.locals/\(∀k,env.cells.lookup k≠some a)/\∀k,k∈own->oa k≠a:=by
 obtain⟨a,rfl,h0,nG⟩:=BW si.ie.lo f;have h1:(s'.heap.get? a).isSome=true:=by
  obtain⟨_,rfl⟩:=uW hd;obtain⟨b,vs,n,e,_,g,_⟩:=r.lst;cases e;rw[show s'.heap.get? a=some _ from g];rfl
 refine⟨a,rfl,h0,h1,si.grow k t h0 h1,?_,λz=>nG (z▸si.ie.fl),λk z=>nG (si.ie.fc k a z).1,λk hk z=>nG (z▸(si.owG hk))⟩;cases e:aD.heap.get? a with
 |none=>rfl
 |some o=>rw[Keeps.all si.kp a o e]at h0;cases h0
theorem AP(VO:dz prog w La Bu V0)(TO:dW prog w La Bu T)(bu:Bu A)(am:dN A La aD)(fr:pk env F aD)(hk:env.kindOf n=some .local\/env.kindOf n=some .cell)
(si:SI env F aD σ own s G oa)(IP:p6 env.scope.names n p e=false)(h:ey (jo T V0) env.scope.names σ own e=some c):
 wpAny (model prog w) A (exec (.Assign [.Name n p] e pos) env) (FP env F aD (.nx (lV W n c (σ,own)).1 (lV W n c (σ,own)).2)) E s:=by
 obtain⟨d,fl⟩:=c;refine tD (aj (gY VO TO bu am si h) (λv s1 q=>?_) λ_ _ e=>e) (by rw[qQ si.ie.fn,IP]);obtain⟨t1,k1,r1,f1⟩:=q;refine aj (sQ (W:=W) (fl:=fl) fr hk (si.keeps k1 t1) r1 λKQ=>?_) (λ_ s2 q=>?_) λ_ _ e=>e
 ·obtain⟨a,q1,_,_,q2⟩:=si.C5 k1 t1 r1 (f1 KQ).2 (f1 KQ).1
  exact⟨(f1 KQ).2,a,q1,q2⟩
 ·obtain⟨_,_,G',F3,q1,_⟩:=q
  exact⟨rfl,G',F3,q1⟩
end
end
section
section
variable{prog:bb}{w:World}{A:aE}{E:Value->ak->Prop}{G F:Addr->Prop}{env:Env}{aD s s':ak}{σ:cw}{own W:List Str}{oa:Str->Addr}{La:Heap->Prop}{Bu:aE->Prop}{V0:Ev}{T:fe}
theorem AQ(VO:dz prog w La Bu V0)(bu:Bu A)(am:dN A La aD)(fr:pk env F aD)
(hk:env.kindOf n=some .local\/env.kindOf n=some .cell)
(si:SI env F aD σ own s G oa)(IP:p6 env.scope.names n p (.ListComp elt gens scope vp)=true)(h:zi V0 env.scope.names (bZ own σ) elt gens scope=some out):
 wpAny (model prog w) A (exec (.Assign [.Name n p] (.ListComp elt gens scope vp) pos) env) (FP env F aD (.nx (lV W n (.lst out,true) (σ,own)).1 (lV W n (.lst out,true) (σ,own)).2)) E s:=by
 refine gp λQ hP=>?_;rw[exec_Assign_Name_used _ _ _ _ (show swapsWith _ (some (.Name n p)) pos.line env=pure true by rw[qQ si.ie.fn,IP])];refine aw (eH (aw ?_));have x:=si.ie;have h:=FL h;obtain⟨t,i,f,gs,rfl⟩:=BR h;refine aw (aj (KI (use:=some (assign (.Name n p) env)) (Q:=λ_ s'=>FP env F aD (.nx (lV W n (.lst out,true) (σ,own)).1 (lV W n (.lst out,true) (σ,own)).2) .next s') VO bu (am.keeps si.kp si.tk) x h
  λs' D C k tk' hD hC SW Ig abq=>?_) (λ_ s' hq=>aM (aM (hP _ _ hq))) λ_ _ e=>e)
 clear hP Q;obtain⟨mC,hmC⟩:=Ig;have n0:∀a,s.heap.get? a=none->aD.heap.get? a=none:=λa q=>Us (Keeps.all si.kp) q;have nG:∀a,s.heap.get? a=none->¬G a:=λa q z=>nS q (x.lo a z);have hCs:(s'.heap.get? C).isSome=true:=by
  obtain⟨o,_,_,e,_⟩:=hmC;exact sS e
 obtain⟨vs,m,q1,q2⟩:=abq;have hDs:(s'.heap.get? D).isSome=true:=sS q1;have siC:SI env F aD σ own s' (λb=>G b\/b=C) oa:=si.grow k tk' hC hCs;have apz:SI env F aD σ own s' (λb=>(G b\/b=C)\/b=D) oa:=(si.FG (Y:=λb=>b=C\/b=D) k tk' (λb q=>q.elim (λz=>z▸hC) λz=>z▸hD) (λb q=>q.elim (λz=>z▸hCs) λz=>z▸hDs)).abu λa=>or_assoc.symm;have lne:∀a,s.heap.get? a=none->a≠env.locals:=λa q z=>nG a q (z▸x.fl);have cne:∀a,s.heap.get? a=none->∀k,env.cells.lookup k≠some a:=λa q k z=>nG a q (x.fc k a z).1;have one:∀a,s.heap.get? a=none->∀k,k∈own->oa k≠a:=λa q k hk z=>nG a q (z▸(si.owG hk));have rD:bT s'.heap (λb=>G b\/b=C) (.lst out) (.ref D):=by
  exact jX (vs:=vs.toList) (λz=>z.elim (nG D hD) SW) q1 q2
 show wpAny _ _ (assign (.Name n p) env (.ref D)) _ _ _;refine tC (aj (sQ (W:=W) (fl:=true) fr hk siC rD λ_=>⟨rfl,D,rfl,apz,n0 D hD,lne D hD,cne D hD,one D hD⟩) (λ_ s3 q=>?_) λ_ _ e=>e);obtain⟨t3,u3,G',F3,uN,g1,g2,g3⟩:=q;exact⟨mC,hmC.at' λo e=>u3.kept (G:=λa=>a=env.locals\/env.cells.lookup n=some a) (λ_ q=>q) C o (λz=>z.elim (lne C hC) (cne C hC n)) e,λh' tA=>⟨rfl,λa=>G' a/\a≠C,F3,
  uN.shrink ⟨h',s3.toks,rfl,λb o hb e=>tA.extBut b o hb e⟩ t3 (g1 C (.inr rfl)) (λz=>nS (n0 C hC) (fr.lo C z)) (n0 C hC) (lne C hC) (cne C hC) (g3 C (one C hC) λz=>SW (mu z))⟩⟩
end
end
section
def lW(V:Ev)(ks:bW)(σ:cw)(own W:List Str):List Str->List ae->Option (List (D×Bool))
 |[],es=>match es with
  |[]=>some []
  |_::_=>none
 |n::ns,es=>match es with
  |[]=>none
  |e::es=>if f9 e=true then(ey V ks σ own e).bind λc=>(lW V ks σ own W ns es).bind λcs=>some ((c.1,c.2&&W.contains n)::cs)else none
theorem zo(h:lW V ks σ own W [] es=some cs):es=[]/\cs=[]:=by
 cases es with
 |nil=>exact⟨rfl,(ai h).symm⟩
 |cons _ _=>exact no h
theorem xB(h:lW V ks σ own W (n::ns) es=some cs):
 ∃e Kc c cs',es=e::Kc/\f9 e=true/\ey V ks σ own e=some c/\lW V ks σ own W ns Kc=some cs'/\cs=(c.1,c.2&&W.contains n)::cs':=by
 cases es with
 |nil=>exact no h
 |cons e es=>
  obtain⟨hn,h⟩:=dy h;obtain⟨c,h1,h2⟩:=aO h;obtain⟨cs',h3,h4⟩:=aO h2;exact⟨e,es,c,cs',rfl,hn,h1,h3,(ai h4).symm⟩
def ait(n:Str)(c:D×Bool)(p:cw×List Str):cw×List Str:=(put n c.1 p.1,if c.2=true then n::sP n p.2 else sP n p.2)
def qU:List Str->List (D×Bool)->cw×List Str->cw×List Str
 |n::ns,c::cs,p=>qU ns cs (ait n c p)
 |_,_,p=>p
def jq(cs:List (D×Bool)):Nat:=(cs.filter (·.2)).length
def CP(ig:Addr->Prop)(h:Heap)(a:Addr):List (D×Bool)->List Value->Prop
 |[],vs=>vs=[]
 |c::cs,vs=>∃v r,vs=v::r/\(if c.2=true then v=.ref a/\∃ds,c.1=.lst ds/\Acc ig h a ds else bT h ig c.1 v)/\CP ig h a cs r
theorem CP.kept(k:Kept X h h')(hX:∀b,X b->ig b)(ha:¬X a):∀{cs:List (D×Bool)}{vs:List Value},CP ig h a cs vs->CP ig h' a cs vs:=λ{cs}=>by
 induction cs with
 |nil=>exactλx=>x
 |cons c cs ih=>
  intro vs x;dsimp only[CP]at x⊢;obtain⟨v,r,e,h1,h2⟩:=x;refine⟨v,r,e,?_,ih h2⟩;split
  ·rename_i hc
   rw[if_pos hc]at h1;obtain⟨q1,ds,q2,q3⟩:=h1;exact⟨q1,ds,q2,q3.kept k hX ha⟩
  ·rename_i hc
   rw[if_neg hc]at h1;exact bT.kept (λb o nb e=>k b o (λq=>nb (hX b q)) e) (λ_ q=>.inl q) _ _ h1
theorem CP.length:∀{cs:List (D×Bool)}{vs:List Value},CP ig h a cs vs->vs.length=cs.length:=by
 intro zx
 induction zx with
 |nil=>
  rintro _ x;unfold CP at x;subst x;rfl
 |cons c cs ih=>
  rintro vs x;unfold CP at x;obtain⟨v,r,rfl,h1,h2⟩:=x;simp[ih h2]
theorem CP.plain(k:Kept ig h h')(hG:∀b,apC b->ig b\/h.get? b=none):∀{cs:List (D×Bool)}{vs:List Value},jq cs=0->CP ig h a cs vs->CP apC h' b cs vs:=λ{cs}=>by
 induction cs with
 |nil=>exactλ_ x=>x
 |cons c cs ih=>
  intro vs hf x;dsimp only[CP]at x⊢;obtain⟨v,r,e,h1,h2⟩:=x;unfold jq at hf;rw[cQ]at hf;split at hf
  ·simp at hf
  ·rename_i hc
   rw[if_neg hc]at h1;exact⟨v,r,e,by rw[if_neg hc];exact bT.kept k hG _ _ h1,ih hf h2⟩
section
variable{prog:bb}{w:World}{A:aE}{E:Value->ak->Prop}{G F:Addr->Prop}{env:Env}{aD s s':ak}{σ:cw}{own W:List Str}{oa:Str->Addr}{La:Heap->Prop}{Bu:aE->Prop}{V0:Ev}{T:fe}
def Sep(env:Env)(aD:ak)(own:List Str)(oa:Str->Addr)(a:Addr):Prop:=
 aD.heap.get? a=none/\a≠env.locals/\(∀k,env.cells.lookup k≠some a)/\∀k,k∈own->oa k≠a
inductive EP(env:Env)(F:Addr->Prop)(aD:ak)(σ:cw)(own:List Str)(oa:Str->Addr)(G:Addr->Prop)(cs:List (D×Bool))(s:ak)(vs:List Value)(s':ak):Prop
 |mk (t:1<=s'.toks) (k:Keeps s s') (ig:Addr->Prop) (a:Addr) (si:SI env F aD σ own s' ig oa) (cp:CP ig s'.heap a cs vs) (alt:(jq cs=0/\ig=G)\/(jq cs≠0/\ig=(λb=>G b\/b=a)/\s.heap.get? a=none/\Sep env aD own oa a))
theorem EP.plain(k1:Keeps s aQ)(r:bT aQ.heap G d v)(x:EP env F aD σ own oa G cs aQ vs s'):EP env F aD σ own oa G ((d,false)::cs) s (v::vs) s':=by
 cases x with
 |mk t k ig a si cp alt=>
 have r2:bT s'.heap ig d v:=by
  rcases alt with⟨_,e⟩|⟨_,e,h0,_⟩
  ·exact e▸r.keeps (Keeps.all k)
  ·exact e▸bT.kept (F:=G) (λb o _ e=>Keeps.all k b o e) (λb q=>Or.imp id (λ(z:b=a)=>z▸h0) q) _ _ r
 exact⟨t,Keeps.trans' k1 k,ig,a,si,⟨v,vs,rfl,r2,cp⟩,alt.imp id λz=>⟨z.1,z.2.1,Us (Keeps.all k1) z.2.2.1,z.2.2.2⟩⟩
theorem EP.apD(k1:Keeps s aQ)(hf:jq cs=0)(ac:Acc (λb=>G b\/b=a) aQ.heap a ds)(h0:s.heap.get? a=none)(sp:Sep env aD own oa a)(x:EP env F aD σ own oa (λb=>G b\/b=a) cs aQ vs s'):
 EP env F aD σ own oa G ((.lst ds,true)::cs) s (.ref a::vs) s':=by
 cases x with
 |mk t k ig a' si cp alt=>
 rcases alt with⟨_,rfl⟩|⟨hz,_⟩
 ·exact⟨t,Keeps.trans' k1 k,_,a,si,⟨.ref a,vs,rfl,⟨rfl,ds,rfl,ac.keeps (Keeps.all k)⟩,CP.plain (λb o _ e=>e) (λb q=>.inl q) hf cp⟩,.inr ⟨Hn _,rfl,h0,sp⟩⟩
 ·exact absurd hf hz
theorem C6(VO:dz prog w La Bu V0)(TO:dW prog w La Bu T)(bu:Bu A)(am:dN A La aD):∀{es:List ae}{cs:List (D×Bool)}{s:ak}{G:Addr->Prop},SI env F aD σ own s G oa->
 lW (jo T V0) env.scope.names σ own W ns es=some cs->jq cs<=1->wpAny (model prog w) A (spliced (backTo pos (starEach es env))) (EP env F aD σ own oa G cs s) E s:=by
 induction ns with
 |nil=>
  intro es cs s G si h _;obtain⟨rfl,rfl⟩:=zo h;exact wpAny_items_nil ⟨si.tk,Keeps.rfl',G,0,si,rfl,.inl ⟨rfl,rfl⟩⟩
 |cons n ns ih=>
  intro es cs s G si h hf;obtain⟨e,es,c,cs',rfl,hn,h1,h3,rfl⟩:=xB h;refine wpAny_items_cons (aj (gY VO TO bu am si h1) (λv s1 q=>?_) λ_ _ e=>e) (fS hn);obtain⟨t1,k1,r1,f1⟩:=q;cases hb:c.2&&W.contains n with
  |false=>
   rw[hb]at hf;exact aj (ih (si.keeps k1 t1) h3 hf) (λvs s2 q=>q.plain k1 r1) λ_ _ e=>e
  |true=>
   rw[hb]at hf;have hf':jq cs'=0:=Nat.le_zero.mp (Xc hf);have f2:=f1 ((ay _ _).mp hb).1;obtain⟨a,rfl,h0,_,tR,sp⟩:=si.C5 k1 t1 r1 f2.2 f2.1;obtain⟨ds,hd⟩:=uW f2.2;rw[hd]at r1⊢;obtain⟨b,us,k,e,nb,g,rs⟩:=r1.lst;cases e;exact aj (ih tR h3 (hf'.symm▸dx 1)) (λvs s2 q=>q.apD k1 hf' ⟨us.toArray,k,g,BV r1 us (by simp) rs⟩ h0 sp) λ_ _ e=>e
end
end
inductive Stores(env:Env):List Str->List (Value->Sem Unit)->Prop
 |nil:Stores env [] []
 |cons {n:Str} {ns:List Str} {f:Value->Sem Unit} {fs:List (Value->Sem Unit)} (h:∀(prog:bb)(w:World)(A:aE)(E:Value->ak->Prop)(Q:Unit->ak->Prop)(s:ak)(v:Value),wpAny (model prog w) A (storeName env n v) Q E s->wpAny (model prog w) A (f v) Q E s) (r:Stores env ns fs):Stores env (n::ns) (f::fs)
def Qg:List ae->Option (List Str)
 |[]=>some []
 |e::es=>(y6 e).bind λn=>(Qg es).map (n::·)
theorem zp:∀{ns:List Str},Qg ts=some ns->(assignEach ts env).findIdx? (·.1)=none/\(assignEach ts env).length=ns.length/\ts.length=ns.length/\Stores env ns ((assignEach ts env).map (·.2)):=by
 induction ts with
 |nil=>intro ns h;rw[<-ai h];exact⟨rfl,rfl,rfl,.nil⟩
 |cons t ts ih=>
  intro ns h;obtain⟨n,h1,h2⟩:=aO h;obtain⟨ns',h3,rfl⟩:=dM h2;obtain⟨p,rfl⟩:=mQ h1;have ih:=ih h3;refine⟨?_,congrArg mE ih.2.1,congrArg mE ih.2.2.1,.cons (λ_ _ _ _ _ _ _ h=>tC h) ih.2.2.2⟩;show List.findIdx? _ ((false,_)::assignEach ts env)=none;rw[aeT,ih.1];rfl
theorem IQ:∀(ns:List Str),Stores env ns (ns.map λn=>bindName env n):=by
 intro zx
 induction zx with
 |nil=>
  exact .nil
 |cons _ ns ih=>
  exact .cons (λ_ _ _ _ _ _ _ h=>wpAny_bindName h) (ih)
def BX(ks:bW)(ts vs:List ae):Option (Option (List Str)):=
 if(!(ts.length==2||ts.length==3)||vs.length != ts.length)=true then some none
 else if(vs.any fun|.Starred .. =>true|_=>false)=true then some none
 else
  let line:=(ts.head?.map (·.pos.line)).getD 0;let names:=ts.filterMap fun
   |.Name id pos=>if(ks.lookup id==some .local&&pos.line==line)=true then some id else none
   |_=>none
  if(names.length != ts.length||names.eraseDups.length != names.length)=true then some none
  else if vs.all (foldedForSure 8)=true then some none
  else if vs.all (constantsAlone 8)=true then none
  else some (some names)
theorem F4(hf:env.scope.kind=.function)(h:BX env.scope.names ts vs=some r):swappedStores [.Tuple ts k p] (.Tuple vs k' p') env=pure r:=by
 unfold BX at h;unfold swappedStores;dsimp only at h⊢;rw[tQ hf];split at h
 ·rename_i h1
  cases h;rw[if_pos (by rw[h1];rfl)]
 ·rename_i h1
  rw[if_neg (by simpa using h1)];split at h
  ·rename_i h2
   cases h;exact if_pos h2
  ·rename_i h2
   refine(if_neg h2).trans ?_;split at h
   ·rename_i h3
    cases h;exact if_pos h3
   ·rename_i h3
    refine(if_neg h3).trans ?_;split at h
    ·rename_i h4
     cases h;exact if_pos h4
    ·rename_i h4
     refine(if_neg h4).trans ?_;split at h
     ·cases h
     ·rename_i h5
      cases h;exact if_neg h5
section
section
variable{prog:bb}{w:World}{A:aE}{E:Value->ak->Prop}{G F ig:Addr->Prop}{env:Env}{aD s s':ak}{σ:cw}{own W:List Str}{oa:Str->Addr}{La:Heap->Prop}{Bu:aE->Prop}{V0:Ev}{T:fe}
theorem pn(fr:pk env F aD)(hs:Stores env ns fs)(hk:ns.all (AO env.scope.names)=true)(hl:ns.length=cs.length)(si:SI env F aD σ own s ig oa)(cp:CP ig s.heap a cs vs)(hf:jq cs<=1)
(zq:jq cs≠0->ig a/\Sep env aD own oa a):
 wpAny (model prog w) A (assignInOrder fs vs) (λ_ s'=>∃F3,SI env F aD (qU ns cs (σ,own)).1 (qU ns cs (σ,own)).2 s' ig F3) E s:=by
 induction hs generalizing cs vs σ own oa s with
 |nil=>
  cases cs with
  |cons _ _=>cases hl
  |nil=>
   unfold CP at cp;rw[cp];exact aM ⟨oa,si⟩
 | @cons n ns f fs DY _ ih=>
   cases cs with
   |nil=>cases hl
   |cons c cs=>
   unfold CP at cp;obtain⟨v,r,rfl,h1,h2⟩:=cp;obtain⟨U3,PV⟩:=(ay _ _).mp hk;have kr:=qP U3;have qq:ns.length=cs.length:=anf hl;have Iu:∀b,(b=env.locals\/env.cells.lookup n=some b)->ig b:=λb q=>q.elim (λq=>q▸si.ie.fl) λq=>(si.ie.fc n b q).1;obtain⟨d,fl⟩:=c;cases fl with
   |true=>
    obtain⟨rfl,ds,e,ac⟩:=(if_pos rfl).mp h1;have e:d=.lst ds:=e;have hf0:jq cs=0:=Nat.le_zero.mp (Xc hf);obtain⟨ga,sp⟩:=zq (Hn _);rw[e];exact aw (cq (DY _ _ _ _ _ _ _ (aj (SI.Qf si fr kr ga sp.1 ac sp.2.1 sp.2.2.1 λk kG _=>sp.2.2.2 k kG) (λ_ s1 q=>
     ih PV qq q.2.2 (CP.plain (q.2.1.kept Iu) (λb q=>.inl q) hf0 h2) (hf0▸dx 1) λz=>absurd hf0 z) λ_ _ e=>e)))
   |false=>
    refine aw (cq (DY _ _ _ _ _ _ _ (aj (SI.bind si fr kr λ_=>(if_neg aJ).mp h1) (λ_ s1 q=>?_) λ_ _ e=>e)));have cp1:CP ig s1.heap a cs r:=by
     by_cases hf0:jq cs=0
     ·exact CP.plain (q.2.1.kept Iu) (λb q=>.inl q) hf0 h2
     ·obtain⟨ga,sp⟩:=zq hf0
      exact CP.kept (q.2.1.kept λ_ q=>q) Iu (λz=>z.elim sp.2.1 (sp.2.2.1 n)) h2
    exact ih PV qq q.2.2.1 cp1 hf λz=>⟨(zq z).1,(zq z).2.1,(zq z).2.2.1,(zq z).2.2.2.1,λk kG=>(zq z).2.2.2.2 k (iT.mp kG).1⟩
theorem CP.reverse:∀{cs:List (D×Bool)}{vs:List Value},CP ig h a cs vs->CP ig h a cs.reverse vs.reverse:=by
 have app:∀{cs ds:List (D×Bool)}{vs ws:List Value},CP ig h a cs vs->CP ig h a ds ws->CP ig h a (cs++ds) (vs++ws):=by
  intro cs
  induction cs with
  |nil=>intro ds vs ws x y;unfold CP at x;subst x;exact y
  |cons c cs ih=>
   intro ds vs ws x y;unfold CP at x;obtain⟨v,r,rfl,h1,h2⟩:=x;exact⟨v,r++ws,rfl,h1,ih h2 y⟩
 intro cs
 induction cs with
 |nil=>intro vs x;unfold CP at x;subst x;rfl
 |cons c cs ih=>
  intro vs x;unfold CP at x;obtain⟨v,r,rfl,h1,h2⟩:=x;rw[gZ,gZ];exact app (ih h2) ⟨v,[],rfl,h1,rfl⟩
def U4(V:Ev)(ks:bW)(W:List Str)(ts es:List ae)(σ:cw)(own:List Str):Option (cw×List Str):=
 (Qg ts).bind λns=>if ns.all (AO ks)=true then
   (lW V ks σ own W ns es).bind λcs=>if jq cs<=1/\es.length<=dC then
     (BX ks ts es).bind λr=>match r with
       |none=>some (qU ns cs (σ,own))
       |some ms=>if ms=ns then some (qU ns.reverse cs.reverse (σ,own))else none
     else none
   else none
theorem AR:∀{es:List ae}{cs:List (D×Bool)},lW V ks σ own W ns es=some cs->ns.length=es.length/\cs.length=es.length:=by
 induction ns with
 |nil=>intro es cs h;obtain⟨rfl,rfl⟩:=zo h;exact⟨rfl,rfl⟩
 |cons n ns ih=>
  intro es cs h;obtain⟨e,Kc,c,cs',rfl,_,_,h3,rfl⟩:=xB h;exact⟨congrArg mE (ih h3).1,congrArg mE (ih h3).2⟩
theorem AS(VO:dz prog w La Bu V0)(TO:dW prog w La Bu T)(bu:Bu A)(am:dN A La aD)(fr:pk env F aD)
(si:SI env F aD σ own s G oa)(h:U4 (jo T V0) env.scope.names W ts es σ own=some r):
 wpAny (model prog w) A (exec (.Assign [.Tuple ts k p] (.Tuple es k' p') pos) env) (FP env F aD (.nx r.1 r.2)) E s:=by
 obtain⟨ns,h1,h2⟩:=aO h;obtain⟨mJ,h2⟩:=dy h2;obtain⟨cs,h3,h4⟩:=aO h2;obtain⟨KQ,h4⟩:=dy h4;obtain⟨sw,h5,h6⟩:=aO h4;obtain⟨f1,f2,f3,f4⟩:=zp (env:=env) h1;obtain⟨l1,l2⟩:=AR h3;refine gp λQ hQ=>?_;show wpAny _ _ (do
  standAt pos
  let v<-eval (.Tuple es k' p') env
  assignStores env v (<-swappedStores [.Tuple ts k p] (.Tuple es k' p') env) [assign (.Tuple ts k p) env]) _ _ _
 refine aw (eH (aw ?_));refine asM (aj (C6 VO TO bu am (pos:=p') si h3 KQ.1) (λvs s1 q=>?_) λ_ _ e=>e);cases q with
 |mk t1 k1 ig a tR cp alt=>
 have lv:=cp.length;refine⟨by rw[lv,l2];exact ao KQ.2 iQ,?_⟩;rw[F4 si.ie.fn h5];refine aw (aM ?_);have zq:jq cs≠0->ig a/\Sep env aD own oa a:=λz=>alt.elim (λq=>absurd q.1 z) λq=>⟨by rw[q.2.1];exact .inr rfl,q.2.2.2⟩
 have ht:({s1 with heap:=s1.heap.push {cls:=.type "tuple",data:=.seq vs.toArray}}:ak).heap.IsTuple s1.heap.objs.size vs.toArray:=⟨_,jm _ _ rfl,rfl,_,rfl⟩
 have go:∀h':Heap,Heap.ExtBut (s1.heap.push {cls:=.type "tuple",data:=.seq vs.toArray}).objs.size (s1.heap.push {cls:=.type "tuple",data:=.seq vs.toArray}) h'->SI env F aD σ own {s1 with heap:=h'} ig oa/\CP ig h' a cs vs:=λh' hx=>by
  have k3:Keeps s1 {s1 with heap:=h'}:=⟨h',s1.toks,rfl,λb o e=>hx b o (gG (dT (bj _ e))) (bj _ e)⟩
  exact⟨tR.keeps k3 t1,CP.kept (X:=λ_=>False) (λb o _ e=>Keeps.all k3 b o e) (λ_ q=>q.elim) (λq=>q) cp⟩
 cases sw with
 |none=>
  rw[<-ai h6]at hQ;show wpAny _ _ (do assignAll (.ref s1.heap.objs.size) [assign (.Tuple ts k p) env];pure Ed) _ _ _;refine aw ?_;show wpAny _ _ (assign (.Tuple ts k p) env (.ref s1.heap.objs.size)) _ _ _;exact wpAny_assign_Tuple am.hh ht (by rw[f2,bg,lv,l2,l1]) f1 λh' hx=>
   aj (pn fr f4 mJ (by rw[l1,l2]) (go h' hx).1 (go h' hx).2 KQ.1 zq) (λ_ s3 q=>aM (hQ _ _ ⟨rfl,ig,q⟩)) λ_ _ e=>e
 |some ms=>
  obtain⟨rfl,h6⟩:=bh h6;rw[<-h6]at hQ;show wpAny _ _ (do
   rule "assign.swapped-stores"
   let items<-unpackItems (.ref s1.heap.objs.size) ms.length none
   assignInOrder (ms.reverse.map λn=>bindName env n) items.reverse
   pure Ed) _ _ _
  refine aw (oT (aw ?_));rw[show ms.length=vs.toArray.size from by rw[bg,lv,l2,l1]];have hfr:jq cs.reverse=jq cs:=by unfold jq;rw[List.filter_reverse,d7]
  rw[<-hfr]at zq;exact wpAny_unpackItems_tuple am.hh ht λh' hx=>aw (aj (pn fr (IQ ms.reverse) (by rw[List.all_reverse];exact mJ) (by rw[d7,d7,l1,l2]) (go h' hx).1 (CP.reverse (go h' hx).2) (hfr▸KQ.1) zq)
   (λ_ s3 q=>aM (hQ _ _ ⟨rfl,ig,q⟩)) λ_ _ e=>e)
end
end
section
theorem F5(h:Heap)(K:Addr->Prop):∃h':Heap,∀a o,h'.get? a=some o↔(K a/\h.get? a=some o):=by
 classical
 refine⟨{h with objs:=h.objs.mapIdx λi o=>if K i then o else{o with data:=.freed}},λa o=>?_⟩;unfold Heap.get?;dsimp only;rw[Array.getElem?_mapIdx];cases e:h.objs[a]? with
 |none=>simp
 |some x=>
  simp only[tq];by_cases hk:K a
  ·rw[if_pos hk]
   simp[hk]
  ·rw[if_neg hk]
   simp[hk]
section
variable{prog:bb}{w:World}{A:aE}{E:Value->ak->Prop}{G F:Addr->Prop}{env:Env}{aD s s':ak}{σ:cw}{own W:List Str}{oa:Str->Addr}{La:Heap->Prop}{Bu:aE->Prop}{V0:Ev}{T:fe}
end
end
section
def de(ks:bW)(t:ae)(d:D)(p:cw×List Str):Option (cw×List Str):=
 match tE t with
 |some x=>if AO ks x.1.1=true then some (ait x.1.1 (d,false) p)else none
 |none=>(Tj t).bind λx=>(L8 d).bind λds=>(Qg x.1.1).bind λns=>if ns.all (AO ks)=true/\ns.length=ds.length then some (qU ns (ds.map λd=>(d,false)) p)else none
abbrev XD:=List Stmt->cw->List Str->Option Fl
def u7(X:XD)(ks:bW)(t:ae)(body:List Stmt):List D->cw->List Str->Option Fl
 |[],σ,own=>some (.nx σ own)
 |d::ds,σ,own=>(de ks t d (σ,own)).bind λp=>(X body p.1 p.2).bind λr=>match r with
  |.nx σ' own'=>u7 X ks t body ds σ' own'
  |.rt d=>some (.rt d)
def lX(X:XD)(V:Ev)(ks:bW)(test:ae)(body:List Stmt):Nat->cw->List Str->Option Fl
 |0,_,_=>none
 |m+1,σ,own=>(V.b ks σ test).bind λc=>if c=true then(X body σ own).bind λr=>match r with
   |.nx σ' own'=>lX X V ks test body m σ' own'
   |.rt d=>some (.rt d)
  else some (.nx σ own)
section
variable{prog:bb}{w:World}{A:aE}{E:Value->ak->Prop}{G F:Addr->Prop}{env:Env}{aD s s':ak}{σ:cw}{own W:List Str}{oa:Str->Addr}{La:Heap->Prop}{Bu:aE->Prop}{V0 V:Ev}{T:fe}{X:XD}
def SX(prog:bb)(w:World)(La:Heap->Prop)(Bu:aE->Prop)(ks:bW)(X:XD):Prop:=
 ∀(A:aE)(E:Value->ak->Prop) env F aD σ own s G oa body r,Bu A->dN A La aD->pk env F aD->SI env F aD σ own s G oa->env.scope.names=ks->X body σ own=some r->
  wpAny (model prog w) A (execs body env) (FP env F aD r) E s
theorem CP.abw:∀{ds:List D}{vs:List Value},aZ h G ds vs->CP G h a (ds.map λd=>(d,false)) vs:=by
 intro zx
 induction zx with
 |nil=>
  rintro vs x;exact x
 |cons d ds ih=>
  rintro vs x;obtain⟨v,r,rfl,h1,h2⟩:=x.gk;exact⟨v,r,rfl,by rw[if_neg (by simp)];exact h1,ih h2⟩
theorem xC:∀(ds:List D),jq (ds.map λd=>(d,false))=0:=by
 intro zx
 induction zx with
 |nil=>
  exact rfl
 |cons d ds ih=>
  have:=ih;unfold jq at this⊢;rw[aH,lO (by simp)];exact this
theorem xD(hh:A.handled=none)(fr:pk env F aD)(si:SI env F aD σ own s G oa)(r:bT s.heap G d v)(h:de env.scope.names t d (σ,own)=some p):
 wpAny (model prog w) A (assign t env v) (λ_ s'=>∃F3,SI env F aD p.1 p.2 s' G F3) E s:=by
 unfold de at h;cases hq:tE t with
 |some x=>
  rw[hq]at h;clear hq;obtain⟨⟨n,np⟩,rfl⟩:=x;obtain⟨hk,rfl⟩:=bh h;exact tC (aj (SI.bind si fr (qP hk) λ_=>r) (λ_ s' q=>⟨oa,q.2.2.1⟩) λ_ _ e=>e)
 |none=>
  rw[hq]at h;clear hq;obtain⟨⟨⟨ts,c,p⟩,rfl⟩,_,h⟩:=aO h;obtain⟨ds,h1,h2⟩:=aO h;obtain⟨ns,h3,h4⟩:=aO h2;obtain⟨hk,rfl⟩:=bh h4;obtain⟨f1,f2,f3,f4⟩:=zp (env:=env) h3;rw[arm_assign_Tuple];refine aw (eH ?_);unfold unpack;rw[f1,f2,hk.2];refine aw (cq (aj (bF si.tk (nP hh si.ie.lo r h1)) (λvs aQ qE=>?_) λ_ _ e=>e));exact pn (a:=0) fr f4 hk.1 (by rw[ag];exact hk.2) (si.keeps qE.2.1 qE.1) (CP.abw qE.2.2) (by rw[xC];omega) λz=>absurd (xC ds) z
theorem SI.apE(si:SI env F aD σ own s G oa)(u:Upd (λa=>a=I) s s')(t:1<=s'.toks)(hG:G I)(h0:aD.heap.get? I=none)(hl:I≠env.locals)(hc:∀n,env.cells.lookup n≠some I)(ho:∀n,n∈own->oa n≠I)(hs:(s'.heap.get? I).isSome=true):
 SI env F aD σ own s' G oa:=by
 have kp:Kept (λa=>a=I) s.heap s'.heap:=u.kept λ_ q=>q;refine⟨si.hF,si.hN,u.keeps (λa q=>q▸h0) si.kp,t,si.ie.upd u (λa q=>q▸hG) (jy.upd si.ie.lo kp λb q=>q▸hs) (λz=>hl z.symm) (λn c e z=>hc n (z▸e)),λn hn=>?_,si.od,si.oi⟩;obtain⟨q1,q2,q3,q4,ds,q5,q6⟩:=si.ow n hn;exact⟨q1,q2.kept kp (λz=>hl z.symm) (λn c e z=>hc n (z▸e)),q3,q4,ds,q5,q6.kept kp (λb q=>q▸hG) (ho n hn)⟩
theorem SI.U5(si:SI env F aD σ own s G oa)(fr:pk env F aD)(hG:G I)(hI:(s.heap.get? I).isSome=true)(hl:I≠env.locals)(hc:∀n,env.cells.lookup n≠some I)(ho:∀n,n∈own->oa n≠I):
 ∃aQ,Keeps aD aQ/\SI env (λa=>F a\/a=I) aQ σ own s G oa/\pk env (λa=>F a\/a=I) aQ/\(∀a o,s.heap.get? a=some o->(¬G a\/a=I)->aQ.heap.get? a=some o)/\1<=aQ.toks:=by
 obtain⟨h',hh⟩:=F5 s.heap (λa=>(¬G a\/F a)\/a=I);obtain⟨h,tk,rfl,kk⟩:=si.kp;have nF:∀a,aD.heap.get? a=none->¬F a:=λa e q=>by
  have:=fr.lo a q;rw[e]at this;cases this
 have U6:∀a,G a->¬F a->a≠I->h'.get? a=none:=λa g nf ni=>by
  cases e:h'.get? a with
  |none=>rfl
  |some o=>rcases((hh a o).mp e).1 with(q|q)|q
           ·exact absurd g q
           ·exact absurd q nf
           ·exact absurd q ni
 have old:∀a o,aD.heap.get? a=some o->h'.get? a=some o:=λa o e=>(hh a o).mpr ⟨.inl (by
  by_cases g:G a
  ·rcases si.hN a g with q|q
   ·exact .inr q
   ·rw[q]at e;cases e
  ·exact .inl g),kk a o e⟩
 have hI':(h'.get? I).isSome=true:=by
  obtain⟨o,e⟩:=aA.mp hI;rw[(hh I o).mpr ⟨.inr rfl,e⟩];rfl
 refine⟨{aD with heap:=h',toks:=tk},⟨h',tk,rfl,old⟩,⟨λa q=>q.elim (si.hF a) λz=>z▸hG,λa g=>?_,⟨h,tk,rfl,λb o e=>((hh b o).mp e).2⟩,si.tk,si.ie,λn hn=>?_,si.od,si.oi⟩,⟨U6 _ si.ie.fl (nF _ fr.hl) (uP hl),λn c how e=>U6 _ (si.ie.fc n c e).1 (nF _ (fr.hc n c how e)) (λz=>hc n (z▸e)),λb q=>?_⟩,λa o e q=>(hh a o).mpr ⟨q.imp .inl id,e⟩,si.tk⟩
 ·by_cases q:F a
  ·exact .inl (.inl q)
  ·by_cases z:a=I
   ·exact .inl (.inr z)
   ·exact .inr (U6 a g q z)
 ·obtain⟨q1,q2,q3,q4,q5,q6,q7⟩:=si.ow n hn
  exact⟨q1,q2,q3,U6 _ q3 (nF _ q4) (ho n hn),q5,q6,q7⟩
 ·rcases q with q|q
  ·obtain⟨o,e⟩:=aA.mp (fr.lo b q)
   rw[old b o e];rfl
  ·exact q▸hI'
theorem SI.U7(si:SI env (λa=>F a\/a=I) aQ σ own s G oa)(k:Keeps aD aQ)(h0:aD.heap.get? I=none):SI env F aD σ own s G oa:=by
 have n0:∀a,aQ.heap.get? a=none->aD.heap.get? a=none:=λa q=>by
  cases e:aD.heap.get? a with
  |none=>rfl
  |some o=>rw[Keeps.all k a o e]at q;cases q
 refine⟨λa q=>si.hF a (.inl q),λa q=>?_,Keeps.trans' k si.kp,si.tk,si.ie,λn hn=>?_,si.od,si.oi⟩
 ·rcases si.hN a q with(z|z)|z
  ·exact .inl z
  ·exact .inr (z▸h0)
  ·exact .inr (n0 a z)
 ·obtain⟨q1,q2,q3,q4,q5,q6,q7⟩:=si.ow n hn
  exact⟨q1,q2,q3,n0 _ q4,q5,q6,q7⟩
inductive apF(env:Env)(F:Addr->Prop)(aD:ak)(X:XD)(V:Ev)(test:ae)(body:List Stmt)(r:Fl)(n:Nat)(s:ak):Prop
 |mk (σ:cw) (own:List Str) (G:Addr->Prop) (oa:Str->Addr) (si:SI env F aD σ own s G oa) (h:lX X V env.scope.names test body n σ own=some r)
theorem F6(XO:SX prog w La Bu env.scope.names X)(VO:dz prog w La Bu V)(bu:Bu A)(am:dN A La aD)(fr:pk env F aD)(si:SI env F aD σ own s G oa)
(h:lX X V env.scope.names test body m σ own=some r):wpAny (model prog w) A (exec (.While test body [] pos) env) (FP env F aD r) E s:=by
 refine wpAny_While (codeAny_whileLoop (apF env F aD X V test body r) (λn s1 hI=>?_) m ⟨σ,own,G,oa,si,h⟩);obtain⟨σ',own',G',F3,tR,h1⟩:=hI;cases n with
 |zero=>cases h1
 |succ n=>
  unfold lX at h1;obtain⟨c,h2,h3⟩:=aO h1;refine aj (bF tR.tk (VO.b A _ env _ σ' s1 test c bu (am.keeps tR.kp tR.tk) tR.weak h2)) (λb s2 q=>?_) λ_ _ e=>e;obtain⟨t2,rfl,k2⟩:=q;have AU:=tR.keeps k2 t2;cases b with
  |false=>
   rw[if_neg (by decide)]at h3;cases h3;exact iq ⟨rfl,G',F3,AU⟩
  |true=>
   rw[if_pos rfl]at h3;obtain⟨r',h4,h5⟩:=aO h3;refine aj (XO A _ env F aD σ' own' s2 G' F3 body r' bu am fr AU rfl h4) (λf s3 q=>?_) λ_ _ e=>e;cases r' with
   |nx σ2 apG=>
    obtain⟨rfl,G2,oa2,uN⟩:=q;exact⟨n,fN _,σ2,apG,G2,oa2,uN,h5⟩
   |rt d=>
    cases h5;obtain⟨v,rfl,q⟩:=q;exact⟨v,rfl,q⟩
end
end
section
section
variable{prog:bb}{w:World}{A:aE}{E:Value->ak->Prop}{G F:Addr->Prop}{env:Env}{aD s s':ak}{σ:cw}{own W:List Str}{oa:Str->Addr}{La:Heap->Prop}{Bu:aE->Prop}{V0 V:Ev}{T:fe}{X:XD}
theorem U8(J:Value->Nat->ak->Prop)(hs:∀x,foldedSetIterable iter env x=pure x)
(hi:wpAny (model prog w) A (eval iter env) (λx s1=>wpAny (model prog w) A (pyIter x) (λi s2=>∃n,J i n s2) E s1) E s)
(turn:∀i n s,J i n s->∀(B:Flow->ak->Prop)(C:Option Value->ak->Prop)(E:Value->ak->Prop),(∀v s',wpAny (model prog w) A (letOwnedTupleGo t i v) (λ_ s1=>wpAny (model prog w) A (assign t env v) (λ_ s2=>wpAny (model prog w) A (execs body env) B E s2) E s1) E s'->C (some v) s')->(∀m s',m<n->J i m s'->B .next s')->(∀v s',Q (.ret v) s'->B (.ret v) s')->(∀s',Q .next s'->C none s')->
   wpAny (model prog w) A (pyNext i) C E s):
 wpAny (model prog w) A (exec (.For t iter body [] pos) env) Q E s:=
 wpAny_For (aj hi (λ_ _ q=>aj q (λi _ ⟨n,hJ⟩=>codeAny_forLoop_any (J i) (λn s hJ=>turn i n s hJ _ _ _ (λ_ _ q=>q) (λm _ hm hJ=>⟨m,hm,hJ⟩) (λ_ _ q=>q) λ_ q=>iq q) n hJ) λ_ _ e=>e) λ_ _ e=>e) hs
inductive FI(prog:bb)(w:World)(A:aE)(X:XD)(env:Env)(t:ae)(body:List Stmt)(ds:List D)(r:Fl)(F:Addr->Prop)(aD:ak)(G:Addr->Prop)(x:Value)(n:Nat)(s:ak):Prop
 |mk (I:Addr) (fp:List Addr) (P:Nat->Value->Prop) (St:Nat->Heap->Prop) (h₀:Heap) (hx:x=.ref I) (no:Fi I P St) (Wk:Walks prog w A I fp [I] ds.length P St) (Ky:∀i h,St i h->(h.get? I).isSome=true)
  (Yb:aD.heap.get? I=none) (hl:I≠env.locals) (hc:∀n,env.cells.lookup n≠some I) (nFI:¬F I) (nI:h₀.get? I=none) (hP:∀i v h (F':Addr->Prop),P i v->Kept G h₀ h->(∀b,F' b->G b\/h₀.get? b=none)->∀d,ds[i]? =some d->bT h F' d v)
  (i:Nat) (σ:cw) (own:List Str) (G':Addr->Prop) (oa:Str->Addr) (hi:i<=ds.length) (hn:n=ds.length+1 - i) (hf:u7 X env.scope.names t body (ds.drop i) σ own=some r) (si:SI env F aD σ own s G' oa) (gI:G' I)
  (ho:∀n,n∈own->oa n≠I) (st:St i s.heap) (hfp:∀b,b∈fp->b=I\/((s.heap.get? b).isSome=true/\¬G' b)) (kg:Kept G h₀ s.heap) (ng:∀b,(h₀.get? b).isSome=true->¬G b->¬G' b)
theorem MH(XO:SX prog w La Bu env.scope.names X)(bu:Bu A)(am:dN A La aD)(fr:pk env F aD)(apI:mS iter=true)(si:SI env F aD σ own s G oa)
(hit:wpAny (model prog w) A (eval iter env) (λx s1=>wpAny (model prog w) A (pyIter x) (λi s2=>1<=s2.toks/\∃sp,Keeps s sp/\Keeps sp s2/\It prog w A G ds sp s2 i) E s1) E s)
(h:u7 X env.scope.names t body ds σ own=some r):wpAny (model prog w) A (exec (.For t iter body [] pos) env) (FP env F aD r) E s:=by
 refine U8 (FI prog w A X env t body ds r F aD G)
  (pj apI env) (aj hit (λx s1 q=>aj q (λi s2 q=>?_) λ_ _ e=>e) λ_ _ e=>e) λx n s3 q B C E' hS hB hR hN=>?_
 ·obtain⟨t2,sp,kp,k2,I,fp,P,St,rfl,no,Wk,st,hI,Ky,hfp,hP⟩:=q
  have nI:=Us (Keeps.all kp) hI;have gI:¬G I:=λz=>nS nI (si.ie.lo I z);have Yb:=Us (Keeps.all si.kp) nI;exact⟨_,I,fp,P,St,sp.heap,rfl,no,Wk,Ky,Yb,λz=>gI (z▸si.ie.fl),λn z=>gI (si.ie.fc n I z).1,λz=>nS Yb (fr.lo I z),hI,hP,0,σ,own,_,oa,dx _,rfl,h,si.grow (Keeps.trans' kp k2) t2 nI (Ky _ _ st),.inr rfl,λn hn z=>gI (z▸(si.owG hn)),st,
   λb hb=>(hfp b hb).imp id λz=>⟨kpS (Keeps.all k2) z.2,λq=>q.elim z.1 λq=>nS hI (q▸z.2)⟩,λb o _ e=>Keeps.all k2 b o e,λb hb nb z=>z.elim nb λq=>nS hI (q▸hb)⟩
 ·cases q with
  |mk I fp P St h₀ hx no Wk Ky Yb hl hc nFI nI hP i σi aws Gi oai hi hn hfd uN gI hoI AB fp3 kg3 ng3=>
  subst hx;rcases alP hi with o5|Aq
  ·refine BP Wk o5 uN.tk AB λv s4 t4 u4 p ON=>hS v s4 (BM no p ON ?_)
   have Yc:=uN.apE u4 t4 gI Yb hl hc hoI (Ky _ _ ON);have k4:Kept (λa=>a=I) s3.heap s4.heap:=u4.kept λ_ q=>q;have kg4:Kept G h₀ s4.heap:=λb o nb e=>k4 b o (λz=>nG nI (z▸e)) (kg3 b o nb e);have rep:=hP i v s4.heap Gi p kg4 (λb gb=>by
    by_cases gg:G b
    ·exact .inl gg
    ·cases e:h₀.get? b with
     |none=>exact .inr rfl
     |some o=>exact absurd gb (ng3 b (sS e) gg)) _ (da o5)
   rw[dZ o5]at hfd;obtain⟨pr,h1,h2⟩:=aO hfd;obtain⟨r',h3,h4⟩:=aO h2;obtain⟨aQ,kb,x7,fr5,hold,tkb⟩:=Yc.U5 fr gI (Ky _ _ ON) hl hc hoI;refine aj (xD am.hh fr5 x7 rep h1) (λ_ s6 ⟨oa6,IS⟩=>?_) λ_ _ e=>e;refine aj (XO A _ env _ aQ pr.1 pr.2 s6 Gi oa6 body r' bu (am.keeps kb tkb) fr5 IS rfl h3) (λf s7 q=>?_) λ_ _ e=>e;cases r' with
   |rt d=>
    obtain⟨v',rfl,q1,q2,q3⟩:=q;exact hR v' s7 (ai h4▸⟨v',rfl,Keeps.trans' kb q1,q2,q3.less λb z=>.inl (.inl z)⟩)
   |nx σ7 apN=>
    obtain⟨rfl,G7,oa7,D7⟩:=q;have old:∀b o,s4.heap.get? b=some o->(¬Gi b\/b=I)->s7.heap.get? b=some o:=λb o e z=>Keeps.all D7.kp b o (hold b o e z);have nG7:∀b,(s4.heap.get? b).isSome=true->¬Gi b->¬G7 b:=λb hb nb z=>by
     obtain⟨o,e⟩:=aA.mp hb;exact(D7.hN b z).elim (λz=>z.elim (λz=>nb (Yc.hF b z)) λz=>nb (z▸gI)) λz=>nG z (hold b o e (.inl nb))
    obtain⟨oI,eI⟩:=aA.mp (Ky _ _ ON);refine hB (ds.length+1 - (i+1)) s7 (by subst hn;exact Al (DS o5) (fN i)) ⟨I,fp,P,St,h₀,rfl,no,Wk,Ky,Yb,hl,hc,nFI,nI,hP,i+1,σ7,apN,G7,oa7,o5,rfl,h4,D7.U7 kb Yb,D7.hF I (.inr rfl),λk hk z=>?_,?_,λb hb=>?_,λb o nb e=>?_,λb hb nb=>?_⟩
    ·exact nG (z▸(D7.owN hk)) (hold I oI eI (.inr rfl))
    ·exact Wk.frame _ _ _ ON λb hb o e=>old b o e ((fp3 b hb).elim .inr λz=>.inl z.2)
    ·refine(fp3 b hb).imp id λz=>?_
     have hb4:=kdS k4 (λq:b=I=>z.2 (q▸gI)) z.1;obtain⟨o,e⟩:=aA.mp hb4;exact⟨sS (old b o e (.inl z.2)),nG7 b hb4 z.2⟩
    ·exact old b o (kg4 b o nb e) (.inl (ng3 b (sS e) nb))
    ·exact nG7 b (kdS kg4 nb hb) (ng3 b hb nb)
  ·rw[Aq,Ef]at hfd
   exact BQ Wk uN.tk (Aq▸AB) λs' t u=>hN s' (ai hfd▸⟨rfl,_,oai,uN.shrink u t gI nFI Yb hl hc hoI⟩)
end
end
section
section
variable{prog:bb}{w:World}{A:aE}{E:Value->ak->Prop}{G F:Addr->Prop}{env:Env}{aD s s':ak}{σ:cw}{own W:List Str}{oa:Str->Addr}{La:Heap->Prop}{Bu:aE->Prop}{V0 V:Ev}{T:fe}{X:XD}
theorem zr:fillsInplaceSlot (.type "list") "add" (Operator.Add==.Add)=pure false:=by
 unfold fillsInplaceSlot;show(typeLookup (.type "list") (dunderI "add") >>= λfi=>pure (fi.isSome&& !isSeqSlot fi))=pure false;rw[sf.lookup];rfl'
theorem AV:seqSlot? (.type "list") (dunderI "add")=pure (some (.builtin "list.__iadd__")):=by
 unfold seqSlot?;rw[sf.lookup];rfl'
theorem MJ{l b:Addr}{items C7:Array Value}{n n2:Nat}{Q:Value->ak->Prop}(hl:IsL s.heap l items n)(hb:IsL s.heap b C7 n2)(hs:items.size+C7.size<=dC)
(h:Q (.ref l) {s with heap:=s.heap.update l (jO λx=>x++C7)}):wpAny (model prog w) A (inplaceOp .Add (.ref l) (.ref b)) Q E s:=by
 have eY:dC=1048576:=rfl;have h1:=iQ;unfold inplaceOp;refine cq ?_;refine aw (wpAny_typeOf hl.isList.typeIs (aw (asK zr ?_)));show wpAny _ A (if false=true then _ else _) Q E s;rw[if_neg aJ];refine aw (wpAny_binaryOp1_none (nm:="add") hl.isList.typeIs hb.isList.typeIs noFill_list_add ?_);refine aw (asK AV ?_);refine aw (oT ?_);exact Hl sf ⟨_,hl,rfl⟩ PySem.F.entry_list_iadd (PySem.F.args_list_iadd_2 _ _) (AutoSeq1.list___iadd___list_list_0 l items n b C7 n2 (by simp[Cv,sizeLine];omega) (by omega) (by omega)) ⟨hl,hb,h⟩
theorem SI.write(si:SI env F aD σ own s G oa)(hn:n∈own)(u:Upd (λa=>a=oa n) s s')(t:1<=s'.toks)(ac:Acc G s'.heap (oa n) ds):SI env F aD (put n (.lst ds) σ) own s' G oa:=by
 have kp:Kept (λa=>a=oa n) s.heap s'.heap:=u.kept λ_ q=>q;obtain⟨w1,w2,w3,w4,ds0,w5,w6⟩:=si.ow n hn;have hs:(s'.heap.get? (oa n)).isSome=true:=by
  obtain⟨vs,m,q1,_⟩:=ac;rw[show s'.heap.get? (oa n)=some _ from q1];rfl
 have hl:=(si.od n hn).1;have hc:=(si.od n hn).2;have apO:∀σ:cw,look (put n (.lst ds) σ) n=some (.lst ds):=λσ=>by
  rw[ip (σ':=[])];dsimp only[put,look];rw[if_pos rfl]
 refine⟨si.hF,si.hN,u.keeps (λa q=>q▸w4) si.kp,t,?_,λk hk=>?_,si.od,si.oi⟩
 ·refine(si.ie.upd u (λa q=>q▸w3) (jy.upd si.ie.lo kp λb q=>q▸hs) (λz=>hl z.symm) (λn c e z=>hc n (z▸e))).sub λk e he=>?_
  rw[fY]at he⊢;split at he
  ·cases he
  ·rename_i hcn
   have kr:k≠n:=λz=>hcn (by subst z;simpa using hn);rw[if_neg hcn];rwa[cZ kr]at he
 ·by_cases kr:k=n
  ·subst kr
   exact⟨w1,w2.kept kp (λz=>hl z.symm) (λn c e z=>hc n (z▸e)),w3,w4,ds,apO _,ac⟩
  ·obtain⟨q1,q2,q3,q4,xY,q5,q6⟩:=si.ow k hk
   exact⟨q1,q2.kept kp (λz=>hl z.symm) (λn c e z=>hc n (z▸e)),q3,q4,xY,by rw[cZ kr];exact q5,q6.kept kp (λb q=>q▸w3) λz=>kr (si.oi k n hk hn z)⟩
theorem SI.yq(si:SI env F aD σ own s G oa)(hn:n∈own)(h:Q (.ref (oa n)) s):wpAny (model prog w) A (loadName env n) Q E s:=by
 obtain⟨hk,hv,_⟩:=si.ow n hn;rcases hk with hk|hk
 ·obtain⟨m,h1,h2⟩:=hv.1 hk
  exact Bf si.ie.fn hk h1 h2 h
 ·obtain⟨c,h1,h2⟩:=hv.2 hk
  exact qt si.ie.fn hk h1 h2 h
theorem jZ(h:env.scope.kind=.function):interactive env=false:=by unfold interactive;rw[h];rfl
theorem Qh(h:f9 e=true)(env):starEach [e] env=[(false,eval e env)]:=fS h
theorem C8(VO:dz prog w La Bu V0)(TO:dW prog w La Bu T)(bu:Bu A)(am:dN A La aD)(si:SI env F aD σ own s G oa)(hn:n∈own)(hd:(n==("__debug__":Str))=false)(hl:ap.endLine=cp.line)(DY:f9 e=true)
(zt:look σ n=some (.lst ds))(hlen:ds.length+1<=dC)(h:ey (jo T V0) env.scope.names σ own e=some c):
 wpAny (model prog w) A (exec (.Expr (.Call (.Attribute (.Name n np) "append" ap) [e] [] cp) pos) env) (FP env F aD (.nx (put n (.lst (ds++[c.1])) σ) own)) E s:=by
 obtain⟨d,fl⟩:=c;have he:starEach [e] env=[(false,eval e env)]:=Qh DY env;have hb:backTo cp (starEach [e] env)=[(false,eval e env)]:=by rw[he];rfl
 refine Ho ?_ (jZ si.ie.fn) rfl;refine vR rfl (by rw[hb];rfl) (by simpa using hl) ?_;refine mG (si.yq hn ?_) hd;obtain⟨w1,w2,w3,w4,ds0,w5,vs,m,q1,q2⟩:=si.ow n hn;rw[zt]at w5;cases w5;refine⟨"list","list.append",rC,PySem.F.slot_list_append,PySem.F.type_list_append,⟨_,q1,rfl⟩,λb e=>by cases e;exact⟨_,q1,rfl⟩,?_⟩;rw[hb];refine me rfl (eu rfl (fE (aj (gY VO TO bu am si h) (λv s1 q=>mf ?_) λ_ _ e=>e)));obtain⟨t1,k1,r1,_⟩:=q;have tR:=si.keeps k1 t1;have eY:dC=1048576:=rfl;have hsz:vs.size<=sizeLine:=by
  have h1:=q2.length;rw[cT]at h1;exact ao (by rw[h1];omega) iQ
 refine aeU (hsz:=hsz) ⟨m,Keeps.all k1 _ _ q1⟩ λh' hp hs=>?_;obtain⟨n',hp⟩:=hp;have u:Upd (λa=>a=oa n) s1 {s1 with heap:=h'}:=⟨h',_,rfl,λb o hb e=>hs.extBut b o hb e⟩
 refine⟨rfl,G,oa,tR.write hn u t1 ⟨_,n',hp,?_⟩⟩;rw[aeV];exact(u.Fw (G:=G) (λa q=>q▸w3) (q2.keeps (Keeps.all k1))).append (.one (u.rep (G:=G) (λa q=>q▸w3) r1))
end
end
section
def apP:D->D->Option D
 |.int a,y=>match y with
  |.int b=>some (.int (a+b))
  |_=>none
 |.str a,y=>match y with
  |.str b=>if a.length+b.length<=dC then some (.str (a++b))else none
  |_=>none
 |_,_=>none
def apQ:D->D->Option D
 |.int a,y=>match y with
  |.int b=>some (.int (a - b))
  |_=>none
 |_,_=>none
def F7:se->D->D->Option D
 |.Add,a,b=>apP a b
 |.Sub,a,b=>apQ a b
 |_,_,_=>none
theorem KR:∀{σ:cw},put n d (put n d' σ)=put n d σ:=by
 intro zx
 induction zx with
 |nil=>
  show put n d [(n,d')]=[(n,d)];rw[put,if_pos rfl]
 |cons zh r ih=>
  obtain⟨x,y⟩:=zh;by_cases hx:x=n
  ·have e1:put n d' ((x,y)::r)=(x,d')::r:=by dsimp only[put];rw[if_pos hx]
   have e2:put n d ((x,y)::r)=(x,d)::r:=by dsimp only[put];rw[if_pos hx]
   rw[e1,e2];dsimp only[put];rw[if_pos hx]
  ·have e1:put n d' ((x,y)::r)=(x,y)::put n d' r:=by rw[put,if_neg hx]
   have e2:put n d ((x,y)::r)=(x,y)::put n d r:=by rw[put,if_neg hx]
   rw[e1,e2,put,if_neg hx,ih]
def zu(e:ae):Bool:=(Tj e).isNone
section
variable{prog:bb}{w:World}{A:aE}{E:Value->ak->Prop}{G F:Addr->Prop}{env:Env}{aD s s':ak}{σ:cw}{own W:List Str}{oa:Str->Addr}{La:Heap->Prop}{Bu:aE->Prop}{V0 V:Ev}{T:fe}{X:XD}
theorem IT(ra:bT s.heap G a va)(rb:bT s.heap G b vb)(e:F7 op a b=some d):wpAny (model prog w) A (inplaceOp op va vb) (iJ G s d) E s:=by
 cases op<;>first|exact no e|skip
 ·cases a<;>first|exact no e|skip
  ·cases b<;>first|exact no e|skip
   obtain⟨t,rfl⟩:=ra.int;obtain⟨u,rfl⟩:=rb.int;exact PySem.P.iadd_int (ai e▸mO)
  ·cases b<;>first|exact no e|skip
   obtain⟨h,e⟩:=bh e;obtain⟨t,rfl⟩:=ra.str;obtain⟨u,rfl⟩:=rb.str;exact PyProof.Rows.iadd_str (λ_ _=>e▸Fc) (ao h iQ)
 ·cases a<;>first|exact no e|skip
  cases b<;>first|exact no e|skip
  obtain⟨t,rfl⟩:=ra.int;obtain⟨u,rfl⟩:=rb.int;exact PySem.P.isub_int (ai e▸mO)
theorem AW(am:dN A La aD)(si:SI env F aD σ own s G oa)(hn:n∈own)(hd:(n==("__debug__":Str))=false)(hl:ap.endLine=cp.line)
(zt:look σ n=some (.lst ds))(hlen:ds.length<=dC):
 wpAny (model prog w) A (exec (.Expr (.Call (.Attribute (.Name n np) "reverse" ap) [] [] cp) pos) env) (FP env F aD (.nx (put n (.lst ds.reverse) σ) own)) E s:=by
 refine Ho ?_ (jZ si.ie.fn) rfl;refine vR rfl rfl (by simpa using hl) ?_;refine mG (si.yq hn ?_) hd;obtain⟨w1,w2,w3,w4,ds0,w5,vs,m,q1,q2⟩:=si.ow n hn;rw[zt]at w5;cases w5;refine⟨"list","list.reverse",rC,PySem.F.slot_list_reverse,PySem.F.type_list_reverse,⟨_,q1,rfl⟩,λb e=>by cases e;exact⟨_,q1,rfl⟩,?_⟩;have hsz:vs.size<=sizeLine:=by
  have h1:=q2.length;rw[cT]at h1;exact ao (by rw[h1];omega) iQ
 refine PySem.P.reverse_list q1 ?_ hsz;have hs:tB (oa n) s.heap (s.heap.update (oa n) (jO λx=>x.reverse)):=mH ..;have u:Upd (λa=>a=oa n) s {s with heap:=s.heap.update (oa n) (jO λx=>x.reverse)}:=⟨_,_,rfl,λb o hb e=>hs.extBut b o hb e⟩
 refine⟨rfl,G,oa,si.write hn u si.tk ⟨_,_,qm q1 _,?_⟩⟩;rw[Array.toList_reverse];exact(u.Fw (G:=G) (λa q=>q▸w3) q2).reverse
theorem IU(VO:dz prog w La Bu V0)(TO:dW prog w La Bu T)(bu:Bu A)(am:dN A La aD)(fr:pk env F aD)(si:SI env F aD σ own s G oa)(hn:n∈own)
(zt:look σ n=some (.lst ds))(hlen:ds.length+es.length<=dC)(h:ey (jo T V0) env.scope.names σ own e=some (.lst es,fl)):
 wpAny (model prog w) A (exec (.AugAssign (.Name n np) .Add e pos) env) (FP env F aD (.nx (put n (.lst (ds++es)) σ) (n::sP n own))) E s:=by
 refine asN (si.yq hn ?_);refine aj (gY VO TO bu am si h) (λv s1 q=>?_) λ_ _ e=>e;obtain⟨t1,k1,r1,_⟩:=q;have tR:=si.keeps k1 t1;obtain⟨w1,w2,w3,w4,ds0,w5,vs,m,q1,q2⟩:=tR.ow n hn;rw[zt]at w5;cases w5;obtain⟨b,us,k,rfl,nb,g,rs⟩:=r1.lst;refine MJ q1 g (by
  have e1:vs.size=ds.length:=by have h0:=q2.length;rwa[cT]at h0
  have e2:us.toArray.size=es.length:=by rw[bg,rs.length]
  rw[e1,e2];exact hlen) ?_
 have hs:tB (oa n) s1.heap (s1.heap.update (oa n) (jO λx=>x++us.toArray)):=mH ..;have u:Upd (λa=>a=oa n) s1 {s1 with heap:=s1.heap.update (oa n) (jO λx=>x++us.toArray)}:=⟨_,_,rfl,λb o hb e=>hs.extBut b o hb e⟩
 have ac:Acc G (s1.heap.update (oa n) (jO λx=>x++us.toArray)) (oa n) (ds++es):=by
  refine⟨_,_,qm q1 _,?_⟩;rw[Array.toList_append];exact(u.Fw (G:=G) (λa q=>q▸w3) q2).append (u.Fw (G:=G) (λa q=>q▸w3) rs)
 have AU:=tR.write hn u t1 ac;obtain⟨hk,_⟩:=AU.ow n hn;refine aj (SI.Qf AU fr hk w3 w4 ac (tR.od n hn).1 (tR.od n hn).2 λk kG ox z=>ox (tR.oi k n kG hn z)) (λ_ s3 q=>?_) λ_ _ e=>e;obtain⟨t3,u3,uN⟩:=q;rw[KR]at uN;exact⟨rfl,G,sd oa n (oa n),uN⟩
theorem IV(VO:dz prog w La Bu V0)(TO:dW prog w La Bu T)(bu:Bu A)(am:dN A La aD)(fr:pk env F aD)(si:SI env F aD σ own s G oa)(hk:env.kindOf n=some .local\/env.kindOf n=some .cell)
(zt:look (bZ own σ) n=some a)(h:ey (jo T V0) env.scope.names σ own e=some c)(hop:F7 op a c.1=some d):
 wpAny (model prog w) A (exec (.AugAssign (.Name n np) op e pos) env) (FP env F aD (.nx (put n d σ) (sP n own))) E s:=by
 obtain⟨c,fl⟩:=c;refine asN (aj (si.ie.load hk zt) (λva s1 q=>?_) λ_ _ e=>e);obtain⟨rfl,ra⟩:=q;refine aj (gY VO TO bu am si h) (λv s1 q=>?_) λ_ _ e=>e;obtain⟨t1,k1,r1,_⟩:=q;refine aj (bF t1 (IT (ra.keeps (Keeps.all k1)) r1 hop)) (λv2 s2 q=>?_) λ_ _ e=>e;obtain⟨t2,k2,r2⟩:=q;refine aj (SI.bind (si.keeps (Keeps.trans' k1 k2) t2) fr hk λ_=>r2) (λ_ s3 q=>?_) λ_ _ e=>e;exact⟨rfl,G,oa,q.2.2.1⟩
theorem C9(VO:dz prog w La Bu V)(bu:Bu A)(am:dN A La aD)(fr:pk env F aD)(si:SI env F aD σ own s G oa)(h:V.d env.scope.names σ e=some d):
 wpAny (model prog w) A (exec (.Return (some e) pos) env) (FP env F aD (.rt d)) E s:=by
 refine nE (aj (bF si.tk (VO.d A E env _ σ s e d bu (am.keeps si.kp si.tk) si.weak h)) (λv s1 q=>?_) λ_ _ e=>e);refine⟨v,rfl,Keeps.trans' si.kp q.2.1,q.1,q.2.2.less λb hb=>.inl ⟨si.hF b hb,λn hn z=>?_⟩⟩;have h0:=(si.owN hn)
 have:=fr.lo b hb;rw[z,h0]at this;cases this
theorem Qi(XO:SX prog w La Bu env.scope.names X)(VO:dz prog w La Bu V)(bu:Bu A)(am:dN A La aD)(fr:pk env F aD)(si:SI env F aD σ own s G oa)
(h:V.b env.scope.names σ t=some c)(h2:(if c=true then X a σ own else X b σ own)=some r):wpAny (model prog w) A (exec (.If t a b pos) env) (FP env F aD r) E s:=by
 refine wpAny_If (aj (bF si.tk (VO.b A _ env _ σ s t c bu (am.keeps si.kp si.tk) si.weak h)) (λc' s2 q=>?_) λ_ _ e=>e);obtain⟨t2,rfl,k2⟩:=q;have AU:=si.keeps k2 t2;cases c'
 ·exact XO A E env F aD σ own s2 G oa b r bu am fr AU rfl h2
 ·exact XO A E env F aD σ own s2 G oa a r bu am fr AU rfl h2
theorem MK(e)(ts)(k)(p)(l)(env):swapsWith e (some (.Tuple ts k p)) l env=pure false:=by cases e<;>exact Eq.refl (pure false)
theorem IW(hnt:zu e=true)(ts)(k')(p)(env):swappedStores [.Tuple ts k' p] e env=pure none:=by
 have k:∀b:Bool,b=true->(pure none:Sem (Option (List Str)))=pure none:=λ_ _=>rfl;exact fj (motive_1:=λe=>zu e=true->swappedStores [.Tuple ts k' p] e env=pure none) e (λ_ _ _=>k _) (λ_ _ _=>k _) (λ_ _ _ _=>k _) (λ_ _ _=>k _) (λ_ _ _ _=>k _) (λ_ _ _ _=>k _) (λ_ _ _=>k _) (λ_ _ _=>k _) (λ_ _ _ _=>k _) (λ_ _ _ _=>k _) (λ_ _ _ _ _=>k _) (λ_ _ _ _=>k _) (λ_ _=>k _) (λ_ _=>k _) (λ_ _=>k _) (λ_ _ _ _=>k _) (λ_ _ _ _=>k _) (λ_ _ _ _=>k _) (λ_ _=>k _) (λ_ _ _=>k _) (λ_ _ _=>k _) (λ_ _ _=>k _) (λ_ _=>k _) (λ_ _=>k _) (λ_ _=>k _) (λ_ _ _ h=>Ht h) (λ_ _ _ _=>k _) hnt
theorem AX(VO:dz prog w La Bu V0)(TO:dW prog w La Bu T)(bu:Bu A)(am:dN A La aD)(fr:pk env F aD)(hnt:zu e=true)(si:SI env F aD σ own s G oa)
(h:ey (jo T V0) env.scope.names σ own e=some c)(h2:de env.scope.names (.Tuple ts k p) c.1 (σ,own)=some r):wpAny (model prog w) A (exec (.Assign [.Tuple ts k p] e pos) env) (FP env F aD (.nx r.1 r.2)) E s:=by
 obtain⟨d,fl⟩:=c;have h1:swapsWith e (some (.Tuple ts k p)) pos.line env=pure false:=MK ..;have h3:swappedStores [.Tuple ts k p] e env=pure none:=IW hnt ..;have hx:exec (.Assign [.Tuple ts k p] e pos) env=(do
  standAt pos
  if<-swapsWith e (some (.Tuple ts k p)) pos.line env then do
   evalThenUse e env λv=>assignAll v [assign (.Tuple ts k p) env]
   pure .next
  else do
   let v<-eval e env
   assignStores env v (<-swappedStores [.Tuple ts k p] e env) [assign (.Tuple ts k p) env]):=rfl
 rw[hx,h1,h3];refine aw (eH (aw (aM ?_)));simp only[i0,if_false];refine aw (aj (gY VO TO bu am si h) (λv s1 q=>?_) λ_ _ e=>e);obtain⟨t1,k1,r1,_⟩:=q;refine aw (aM ?_);show wpAny _ _ (do assignAll v [assign (.Tuple ts k p) env];pure Ed) _ _ _;refine aw ?_;show wpAny _ _ (assign (.Tuple ts k p) env v) _ _ _;exact aj (xD am.hh fr (si.keeps k1 t1) r1 h2) (λ_ s2 q=>aM ⟨rfl,G,q⟩) λ_ _ e=>e
end
end
section
def KS:List ae->List S9->Option ae
 |[],_=>none
 |e::r,IB=>match r with
  |[]=>match IB with
   |[]=>some e
   |_::_=>none
  |_::_=>none
def Qj(e:ae):Option ae:=(Oo e).bind λx=>(tE x.1.1).bind λy=>bif y.1.1==("reversed":Str)then KS x.1.2.1 x.1.2.2.1 else none
theorem Dc(h:KS args IB=some e):args=[e]/\IB=[]:=by
 cases args with
 |nil=>exact no h
 |cons x r=>
  cases r with
  |cons _ _=>exact no h
  |nil=>cases IB with
   |cons _ _=>exact no h
   |nil=>exact⟨ai h▸rfl,rfl⟩
theorem IX(h:Qj it=some e):∃fp pos,it=.Call (.Name "reversed" fp) [e] [] pos:=by
 obtain⟨⟨⟨f,args,IB,pos⟩,rfl⟩,_,h⟩:=aO h;obtain⟨⟨⟨g,fp⟩,hy⟩,_,h⟩:=aO h;have hy:f=.Name g fp:=hy;subst hy;cases hf:g==("reversed":Str)with
 |false=>rw[hf]at h;exact no h
 |true=>
  rw[hf]at h;obtain⟨rfl,rfl⟩:=Dc h;exact⟨fp,pos,eq_of_beq hf▸rfl⟩
def apS:D->Option (List D)
 |.lst l=>some l.reverse
 |_=>none
def sR(V:Ev)(ks:bW)(σ:cw)(own:List Str)(it:ae):Option (List D):=
 match Qj it with
 |some e=>if ks.lookup ("reversed":Str)=some .globalImplicit/\f9 e=true then(V.d ks (bZ own σ) e).bind apS else none
 |none=>if mS it=true then(V.d ks (bZ own σ) it).bind items else none
section
variable{prog:bb}{w:World}{A:aE}{E:Value->ak->Prop}{G F:Addr->Prop}{env:Env}{aD s s':ak}{σ:cw}{own W:List Str}{oa:Str->Addr}{La:Heap->Prop}{Bu:aE->Prop}{V0 V:Ev}{T:fe}{X:XD}
theorem aby(hh:A.handled=none)(t1:1<=s1.toks)(na:¬G a)(hl:IsL s1.heap a vs.toArray n)(hr:aZ s1.heap G l vs)
(k:∀i s2,1<=s2.toks->Keeps s1 s2->It prog w A G l.reverse s1 s2 i->Q i s2):wpAny (model prog w) A (call (.type "reversed") [.ref a]) (λx s'=>wpAny (model prog w) A (pyIter x) Q E s') E s1:=by
 refine PySem.call_reversed_list hl.isList ?_;have Wk:=Walks.listRev (prog:=prog) (w:=w) (A:=A) hh s1.heap.objs.size a (gG (dT hl)) vs.toArray;have hsz:vs.toArray.size=l.reverse.length:=by rw[bg,hr.length,d7]
 have hz:(vs.toArray.size:Int) - 1=((l.reverse.length:Nat):Int) - 1 - ((0:Nat):Int):=by rw[hsz,asH,Int.sub_zero]
 rw[hsz]at Wk;have hrv:(s1.heap.push (revObj a ((vs.toArray.size:Int) - 1))).IsRevIter s1.heap.objs.size a ((vs.toArray.size:Int) - 1):=⟨_,iy _ rfl,rfl,rfl⟩
 refine wpAny_pyIter_revIter hrv (k _ _ t1 (Keeps.push _) ⟨s1.heap.objs.size,_,_,_,rfl,.inl λi h st=>by obtain⟨_,⟨o,e1,e2,_⟩,_⟩:=st;exact⟨o,_,e1,e2,by decide⟩,Wk,⟨dx _,hz▸hrv,hl.isList.push _⟩,lu _,λi h st=>by obtain⟨_,⟨o,e1,_⟩,_⟩:=st;exact e1▸rfl,fp2 na hl,λi u h F' hP k hF' d hd=>?_⟩);have hi:i<l.length:=d7 (as:=l)▸(ki.mp hd).1;rw[List.getElem?_reverse hi]at hd;rw[gO,d7]at hP;exact aaY hr hP k hF' d hd
theorem Dd(VO:dz prog w La Bu V)(TO:dW prog w La Bu T)(bu:Bu A)(am:dN A La aD)(si:SI env F aD σ own s G oa)(h:sR V env.scope.names σ own it=some ds):
 mS it=true/\wpAny (model prog w) A (eval it env) (λx s1=>wpAny (model prog w) A (pyIter x) (λi s2=>1<=s2.toks/\∃sp,Keeps s sp/\Keeps sp s2/\It prog w A G ds sp s2 i) E s1) E s:=by
 have D6:=am.keeps si.kp si.tk;unfold sR at h;cases hr:Qj it with
 |none=>
  rw[hr]at h;obtain⟨hn,h⟩:=dy h;obtain⟨d,h1,h2⟩:=aO h;exact⟨hn,gf VO bu D6 si.ie h1 λv s1 k1 kH x1 r1=>aj (bF kH.tk (o9 am.hh x1.lo r1 h2)) (λi s2 q=>⟨q.1,s1,k1,q.2.1,q.2.2⟩) λ_ _ e=>e⟩
 |some e=>
  rw[hr]at h;obtain⟨fp,pos,rfl⟩:=IX hr;obtain⟨hc,h0⟩:=dy h;obtain⟨d,h1,h2⟩:=aO h0;cases d<;>first|exact no h2|skip
  obtain rfl:=ai h2;refine⟨rfl,?_⟩;show wpAny _ _ (do callWith pos (<-eval (.Name "reversed" fp) env) [] (backTo pos (starEach [e] env)) []) _ _ _;refine aw (qO si.ie hc.1 (by decide) (.inr (TO.rev _ (D6.la _ λ_ _ e=>e))) ?_);rw[show backTo pos (starEach [e] env)=[(false,eval e env)]from congrArg (backTo pos) (fS hc.2)];refine yg rfl (eu rfl (fE (gf VO bu D6 si.ie h1 λv s1 k1 kH x1 r1=>mf ?_)));obtain⟨a,vs,n,rfl,na,hl,hr⟩:=r1.lst;exact aby am.hh kH.tk na hl hr λi s2 t2 k2 it=>⟨t2,s1,k1,k2,it⟩
end
end
section
def zv:D->Option (List D)
 |.lst l=>some l
 |_=>none
theorem mV(h:zv d=some l):d=.lst l:=by
 cases d<;>first|exact no h|exact congrArg D.lst (ai h)
def aiu(n:Str)(c d:D×Bool)(σ:cw)(o:Option D)(i j:D):Option cw:=(o.bind zv).bind λds=>(intD i).bind λi=>(intD j).bind λj=>
 if(kJ c.1=true/\kJ d.1=true/\c.2=false/\d.2=false)/\0<=i/\i<ds.length/\0<=j/\j<ds.length/\ds.length<=dC then some (put n (.lst ((ds.set i.toNat c.1).set j.toNat d.1)) σ)else none
theorem ML(h:aiu n c d σ o i j=some σ'):∃ds k1 k2,o=some (.lst ds)/\i=.int k1/\j=.int k2/\
 ((kJ c.1=true/\kJ d.1=true/\c.2=false/\d.2=false)/\0<=k1/\k1<ds.length/\0<=k2/\k2<ds.length/\ds.length<=dC)/\put n (.lst ((ds.set k1.toNat c.1).set k2.toNat d.1)) σ=σ':=by
 obtain⟨ds,h1,h2⟩:=aO h;obtain⟨k1,h3,h4⟩:=aO h2;obtain⟨k2,h5,h6⟩:=aO h4;obtain⟨x,h7,h8⟩:=aO h1;exact⟨ds,k1,k2,mV h8▸h7,rJ h3,rJ h5,bh h6⟩
def U9(V:Ev)(ks:bW)(n:Str)(i j a b:ae)(σ:cw)(own:List Str):Option cw:=
 if own.contains n=true/\(n==("__debug__":Str))=false/\f9 a=true/\f9 b=true then
  (ey V ks σ own a).bind λc=>(ey V ks σ own b).bind λd=>(V.d ks (bZ own σ) i).bind λi=>(V.d ks (bZ own σ) j).bind λj=>
    aiu n c d σ (look σ n) i j
 else none
section
variable{prog:bb}{w:World}{A:aE}{E:Value->ak->Prop}{G F:Addr->Prop}{env:Env}{aD s s':ak}{σ:cw}{own W:List Str}{oa:Str->Addr}{La:Heap->Prop}{Bu:aE->Prop}{V0 V:Ev}{T:fe}{X:XD}
theorem xE(h:Q () s):wpAny M A (release vs keep) Q E s:=λΓ p hΓ=>by rw[Sem.wp_release];exact h
theorem ve(hn:n∈own)(d):∀σ:cw,bZ own (put n d σ)=bZ own σ:=by
 intro zx
 induction zx with
 |nil=>
  show bZ own [(n,d)]=[]
  unfold bZ;rw[lO (by simpa using hn)];rfl
 |cons zh r ih=>
  obtain⟨x,e⟩:=zh;by_cases hx:x=n
  ·rw[put,if_pos hx]
   unfold bZ;rw[lO (by subst hx;simpa using hn),lO (by subst hx;simpa using hn)]
  ·rw[put,if_neg hx]
   have ih:=ih;unfold bZ at ih⊢;rw[cQ,cQ,ih]
theorem zw(o i)(p)(env)(v):assign (.Subscript o i p) env v=(do
 let ov<-holding [v] (eval o env);let iv<-holding [v,ov] (eval i env)
 standAt p
 holding [v,ov,iv] (setItem ov iv v)
 release (match i with|.Slice _ _ none _=>[iv,v,ov]|_=>[v,ov,iv]) []):=rfl
theorem xF(VO:dz prog w La Bu V)(bu:Bu A)(am:dN A La aD)(si:SI env F aD σ own s G oa)(hn:n∈own)(hd:(n==("__debug__":Str))=false)
(zt:look σ n=some (.lst ds))(hi:V.d env.scope.names (bZ own σ) i=some (.int k))(h0:0<=k)(h1:k<ds.length)(eY:ds.length<=dC)(r:∀h,bT h G d v)(hsl:∀l u q,i≠.Slice l u none q):
 wpAny (model prog w) A (assign (.Subscript (.Name n np) i p) env v) (λ_ s'=>SI env F aD (put n (.lst (ds.set k.toNat d)) σ) own s' G oa) E s:=by
 rw[zw];refine aw (cq (mG (si.yq hn ?_) hd));refine aw (cq (aj (bF si.tk (VO.d A E env G _ s i _ bu (am.keeps si.kp si.tk) si.ie hi)) (λiv s1 q=>?_) λ_ _ e=>e));obtain⟨t1,k1,r1⟩:=q;obtain⟨t,rfl⟩:=r1.int;have tR:=si.keeps k1 t1;obtain⟨w1,w2,w3,w4,ds0,w5,vs,m,q1,q2⟩:=tR.ow n hn;rw[zt]at w5;cases w5;have hsz:vs.size=ds.length:=by have h0:=q2.length;rwa[cT]at h0
 have hl:dC=1048576:=rfl;refine aw (eH (aw (cq (ki_setAt (n:=m) q1 h0 (by omega) (by rw[hsz];exact h1) (xE ?_)))));have hs:tB (oa n) s1.heap (s1.heap.update (oa n) (jO (·.setIfInBounds k.toNat v))):=mH ..;have u:Upd (λa=>a=oa n) s1 {s1 with heap:=s1.heap.update (oa n) (jO (·.setIfInBounds k.toNat v))}:=⟨_,_,rfl,λb o hb e=>hs.extBut b o hb e⟩
 refine tR.write hn u t1 ⟨_,_,qm q1 _,?_⟩;rw[J5];exact(u.Fw (G:=G) (λa q=>q▸w3) q2).set _ (r _)
theorem MM:BX ks [.Subscript o1 i p1,.Subscript o2 j p2] vs=some none:=by
 unfold BX;refine ite_eq_left_iff.mpr λ_=>ite_eq_left_iff.mpr λ_=>?_;exact if_pos rfl
theorem IY(VS:dz prog w La Bu V)(bu:Bu A)(am:dN A La aD){n:Str}{np MN p p' q:Pos}{kk:Nat}{i j:ae}{k1 k2:Int}{ds:List D}{d1 d2:D}{v1 v2:Value}(si:SI env F aD σ own s G oa)(hn:n∈own)(hd:(n==("__debug__":Str))=false)
(hsl:∀l u q,i≠.Slice l u none q)(abz:∀l u q,j≠.Slice l u none q)(zt:look σ n=some (.lst ds))(h5:V.d env.scope.names (bZ own σ) i=some (.int k1))(h7:V.d env.scope.names (bZ own σ) j=some (.int k2))
(b5:0<=k1/\k1<ds.length)(b7:0<=k2/\k2<ds.length)(b9:ds.length<=dC)(r1:∀h,bT h G d1 v1)(r2:∀h,bT h G d2 v2){s1:ak}(k:Keeps s s1)(t1:1<=s1.toks){a:Addr}(ht:s1.heap.IsTuple a [v1,v2].toArray):
 wpAny (model prog w) A (assign (.Tuple [.Subscript (.Name n np) i p,.Subscript (.Name n MN) j p'] kk q) env (.ref a)) (λ_ s'=>SI env F aD (put n (.lst ((ds.set k1.toNat d1).set k2.toNat d2)) σ) own s' G oa) E s1:=by
 refine wpAny_assign_Tuple am.hh ht rfl rfl λh' hx=>?_;have kp:Keeps s {s1 with heap:=h'}:=by
  obtain⟨h1,t',rfl,ka⟩:=k;exact⟨h',t',rfl,λb o e=>hx b o (gG (dT (ka b o e))) (ka b o e)⟩
 show wpAny _ _ (do holding [v2] (assign (.Subscript (.Name n np) i p) env v1);assignInOrder [assign (.Subscript (.Name n MN) j p') env] [v2]) _ _ _;refine aw (cq (aj (xF VS bu am (si.keeps kp t1) hn hd zt h5 b5.1 b5.2 b9 r1 hsl) (λ_ s5 x7=>?_) λ_ _ e=>e));show wpAny _ _ (do holding [] (assign (.Subscript (.Name n MN) j p') env v2);assignInOrder [] []) _ _ _;have apT:look (put n (.lst (ds.set k1.toNat d1)) σ) n=some (.lst (ds.set k1.toNat d1)):=by
  rw[ip (σ':=[])];dsimp only[put,look];rw[if_pos rfl]
 refine aw (cq (aj (xF VS bu am x7 hn hd apT (by rw[ve hn];exact h7) b7.1 (by rw[oq];exact b7.2) (by rw[oq];exact b9) r2 abz) (λ_ s6 IS=>?_) λ_ _ e=>e));rw[KR]at IS;exact aM IS
theorem MO(VO:dz prog w La Bu V0)(TO:dW prog w La Bu T)(bu:Bu A)(am:dN A La aD)(hnn:n'=n)(si:SI env F aD σ own s G oa)(hsl:∀l u q,i≠.Slice l u none q)(abz:∀l u q,j≠.Slice l u none q)
(h:U9 (jo T V0) env.scope.names n i j a b σ own=some σ'):
 wpAny (model prog w) A (exec (.Assign [.Tuple [.Subscript (.Name n np) i p,.Subscript (.Name n' MN) j p'] kk q] (.Tuple [a,b] kk' q') pos) env) (FP env F aD (.nx σ' own)) E s:=by
 subst hnn;obtain⟨⟨Qk,hd,sa,sb⟩,h⟩:=dy h;obtain⟨c1,h1,h2⟩:=aO h;obtain⟨c2,h3,h4⟩:=aO h2;obtain⟨di,h5,h6⟩:=aO h4;obtain⟨dj,h7,h8⟩:=aO h6;obtain⟨ds,k1,k2,zt,rfl,rfl,hb,rfl⟩:=ML h8;have hn:n'∈own:=nq.mp Qk;have IP:swappedStores [.Tuple [.Subscript (.Name n' np) i p,.Subscript (.Name n' MN) j p'] kk q] (.Tuple [a,b] kk' q') env=pure none:=F4 si.ie.fn MM;have hbt:backTo q' (starEach [a,b] env)=[(false,eval a env),(false,eval b env)]:=congrArg (backTo q') ((fS sa).trans (congrArg _ (fS sb)));show wpAny _ _ (do
  standAt pos
  let v<-eval (.Tuple [a,b] kk' q') env
  assignStores env v (<-swappedStores [.Tuple [.Subscript (.Name n' np) i p,.Subscript (.Name n' MN) j p'] kk q] (.Tuple [a,b] kk' q') env) [assign (.Tuple [.Subscript (.Name n' np) i p,.Subscript (.Name n' MN) j p'] kk q) env]) _ _ _
 rw[IP];refine aw (eH (aw (asM ?_)));rw[hbt];refine fE (aj (gY VO TO bu am si h1) (λv1 s1 z1=>fE (aj (gY VO TO bu am (si.keeps z1.k z1.t) h3) (λv2 s2 z2=>mf ⟨by show(2:Nat)<=sizeLine;exact ao (by decide) iQ,?_⟩) λ_ _ e=>e)) λ_ _ e=>e);refine aw (aM (aw (?_:wpAny _ _ (assign (.Tuple [.Subscript (.Name n' np) i p,.Subscript (.Name n' MN) j p'] kk q) env (.ref s2.heap.objs.size)) _ _ _)));exact aj (IY (mT VO TO) bu am si hn hd hsl abz zt h5 h7 ⟨hb.2.1,hb.2.2.1⟩ ⟨hb.2.2.2.1,hb.2.2.2.2.1⟩ hb.2.2.2.2.2 (λh=>mU hb.1.1 z1.r) (λh=>mU hb.1.2.1 z2.r) (Keeps.trans' (Keeps.trans' z1.k z2.k) (Keeps.push _)) z2.t ⟨_,jm _ _ rfl,rfl,_,rfl⟩)
  (λ_ s6 IS=>aM ⟨rfl,G,oa,IS⟩) λ_ _ e=>e
end
end
section
def qV(e:ae):Bool:=(Ol e).isNone
def xG(e:ae):Option (Str×Pos):=(tE e).map (·.1)
theorem pq(h:xG e=some x):e=.Name x.1 x.2:=by
 obtain⟨x,_,rfl⟩:=dM h;exact x.2
def De(e:ae):Option (List ae×Nat×Pos):=(Tj e).map (·.1)
theorem BY(h:De e=some x):e=.Tuple x.1 x.2.1 x.2.2:=by
 obtain⟨x,_,rfl⟩:=dM h;exact x.2
theorem MP(h:De e=none):zu e=true:=by
 unfold zu;rw[sF.mp h];rfl
def qX(e:ae):Option (ae×List dY×Scope×Pos):=(Xl e).map (·.1)
theorem qY(h:qX e=some x):e=.ListComp x.1 x.2.1 x.2.2.1 x.2.2.2:=by
 obtain⟨x,_,rfl⟩:=dM h;exact x.2
def Ql(e:ae):Option (ae×Str×Pos):=(Om e).map (·.1)
theorem F8(h:Ql e=some x):e=.Attribute x.1 x.2.1 x.2.2:=by
 obtain⟨x,_,rfl⟩:=dM h;exact x.2
def Qm:List α->Option α
 |[]=>none
 |x::r=>match r with
  |[]=>some x
  |_::_=>none
theorem BZ{α:Type}{l:List α}{x:α}(h:Qm l=some x):l=[x]:=by
 cases l with
 |nil=>exact no h
 |cons y r=>cases r with
  |nil=>exact ai h▸rfl
  |cons _ _=>exact no h
def Qn:List α->Option (α×α)
 |[]=>none
 |x::r=>(Qm r).map λy=>(x,y)
theorem zy{α:Type}{l:List α}{x:α×α}(h:Qn l=some x):l=[x.1,x.2]:=by
 cases l with
 |nil=>exact no h
 |cons y r=>
  obtain⟨z,h1,rfl⟩:=dM h;exact BZ h1▸rfl
def AY(V:Ev)(ks:bW)(W:List Str)(n:Str)(p:Pos)(e:ae)(σ:cw)(own:List Str):Option Fl:=
 if AO ks n=true then
  if p6 ks n p e=true then
   match qX e with
   |some _=>((V.d ks (bZ own σ) e).bind zv).map λout=>.nx (lV W n (.lst out,true) (σ,own)).1 (lV W n (.lst out,true) (σ,own)).2
   |none=>none
  else(ey V ks σ own e).map λc=>.nx (lV W n c (σ,own)).1 (lV W n c (σ,own)).2
 else none
def Qo(e:ae):Option (Str×ae):=(ae1 e).bind λs=>(xG s.1.1).map λx=>(x.1,s.1.2.1)
theorem zA(h:Qo e=some x):∃np p,e=.Subscript (.Name x.1 np) x.2 p:=by
 obtain⟨s,_,h⟩:=aO h;obtain⟨z,h1,rfl⟩:=dM h;exact⟨z.2,s.1.2.2,by rw[<-pq h1];exact s.2⟩
def MQ(ts es:List ae):Option (Str×ae×ae×ae×ae):=
 (Qn ts).bind λt=>(Qo t.1).bind λx=>(Qo t.2).bind λy=>(Qn es).bind λz=>
   if y.1=x.1/\qV x.2=true/\qV y.2=true then some (x.1,x.2,y.2,z.1,z.2)else none
theorem MR(h:MQ ts es=some r):
 ∃m np p MN p',m=r.1/\ts=[.Subscript (.Name r.1 np) r.2.1 p,.Subscript (.Name m MN) r.2.2.1 p']/\es=[r.2.2.2.1,r.2.2.2.2]/\qV r.2.1=true/\qV r.2.2.1=true:=by
 obtain⟨t,h1,h⟩:=aO h;obtain⟨x,h2,h⟩:=aO h;obtain⟨y,h3,h⟩:=aO h;obtain⟨z,h4,h⟩:=aO h;obtain⟨⟨q1,q2,q3⟩,rfl⟩:=bh h;obtain⟨np,p,e1⟩:=zA h2;obtain⟨MN,p',e2⟩:=zA h3;exact⟨y.1,np,p,MN,p',q1,(zy h1).trans (by rw[e1,e2]),zy h4,q2,q3⟩
def F9(V:Ev)(ks:bW)(W:List Str)(ts es:List ae)(σ:cw)(own:List Str):Option Fl:=
 match MQ ts es with
 |some r=>(U9 V ks r.1 r.2.1 r.2.2.1 r.2.2.2.1 r.2.2.2.2 σ own).map λσ'=>.nx σ' own
 |none=>(U4 V ks W ts es σ own).map λr=>.nx r.1 r.2
def abA(V:Ev)(ks:bW)(W:List Str)(t e:ae)(σ:cw)(own:List Str):Option Fl:=
 match xG t with
 |some x=>AY V ks W x.1 x.2 e σ own
 |none=>match De t with
  |some ts=>match De e with
   |some es=>F9 V ks W ts.1 es.1 σ own
   |none=>(ey V ks σ own e).bind λc=>(de ks t c.1 (σ,own)).map λr=>.nx r.1 r.2
  |none=>none
def IZ(V:Ev)(ks:bW)(n:Str)(op:se)(e:ae)(σ:cw)(own:List Str):Option Fl:=
 if own.contains n=true then
  if KO op=true then((look σ n).bind zv).bind λds=>(ey V ks σ own e).bind λc=>(zv c.1).bind λes=>
   if ds.length+es.length<=dC then some (.nx (put n (.lst (ds++es)) σ) (n::sP n own))else none
  else none
 else if AO ks n=true then(look (bZ own σ) n).bind λa=>(ey V ks σ own e).bind λc=>(F7 op a c.1).map λd=>.nx (put n d σ) (sP n own)
 else none
def meS(V:Ev)(ks:bW)(n m:Str)(ds:List D)(σ:cw)(own:List Str):List ae->Option Fl
 |[]=>if m="reverse"/\ds.length<=dC then some (.nx (put n (.lst ds.reverse) σ) own)else none
 |e::r=>match r with
  |[]=>if(m="append"/\f9 e=true)/\ds.length+1<=dC then(ey V ks σ own e).map λc=>.nx (put n (.lst (ds++[c.1])) σ) own else none
  |_::_=>none
def KU(V:Ev)(ks:bW)(n m:Str)(args:List ae)(σ:cw)(own:List Str):Option Fl:=
 if own.contains n=true/\(n==("__debug__":Str))=false then((look σ n).bind zv).bind λds=>meS V ks n m ds σ own args
 else none
def Qp(f:ae)(args:List ae)(cp:Pos):Option (Str×Str×List ae):=(Ql f).bind λa=>(xG a.1).bind λx=>if a.2.2.endLine=cp.line then some (x.1,a.2.1,args)else none
def sT(e:ae):Option (Str×Str×List ae):=(Oo e).bind λx=>match x.1.2.2.1 with
 |[]=>Qp x.1.1 x.1.2.1 x.1.2.2.2
 |_::_=>none
theorem Ga(h:Qp f args cp=some x):∃np ap,f=.Attribute (.Name x.1 np) x.2.1 ap/\args=x.2.2/\ap.endLine=cp.line:=by
 obtain⟨a,h1,h⟩:=aO h;obtain⟨n,h2,h⟩:=aO h;obtain⟨h3,rfl⟩:=bh h;exact⟨n.2,a.2.2,by rw[F8 h1,pq h2],rfl,h3⟩
theorem Gb(h:sT e=some x):∃np ap cp,e=.Call (.Attribute (.Name x.1 np) x.2.1 ap) x.2.2 [] cp/\ap.endLine=cp.line:=by
 obtain⟨⟨⟨f,args,IB,cp⟩,rfl⟩,_,h⟩:=aO h;cases IB with
 |cons _ _=>exact no h
 |nil=>
  obtain⟨np,ap,rfl,rfl,hl⟩:=Ga h;exact⟨np,ap,cp,rfl,hl⟩
def cY(V:Ev)(ks:bW)(W:List Str)(wf:Nat)(X:XD)(st:Stmt)(σ:cw)(own:List Str):Option Fl:=
 stC none (λ_ _ _ _ _=>none) (λe _=>e.bind λe=>(V.d ks σ e).map .rt) (λts e _=>(Qm ts).bind λt=>abA V ks W t e σ own) (λt op e _=>(xG t).bind λx=>IZ V ks x.1 op e σ own)
  (λt it body orelse _=>match orelse with
    |[]=>(sR V ks σ own it).bind λds=>u7 X ks t body ds σ own
    |_::_=>none)
  (λt body orelse _=>match orelse with
    |[]=>lX X V ks t body wf σ own
    |_::_=>none)
  (λt a b _=>(V.b ks σ t).bind λc=>if c=true then X a σ own else X b σ own) (λe _=>(sT e).bind λx=>KU V ks x.1 x.2.1 x.2.2 σ own) st
def cM(S:Stmt->cw->List Str->Option Fl):XD
 |[],σ,own=>some (.nx σ own)
 |st::rest,σ,own=>(S st σ own).bind λr=>match r with
  |.nx σ' own'=>cM S rest σ' own'
  |.rt d=>some (.rt d)
def AZ(V:Ev)(ks:bW)(W:List Str)(wf:Nat):Nat->XD
 |0=>λ_ _ _=>none
 |n+1=>cM (cY V ks W wf (AZ V ks W wf n))
section
variable{prog:bb}{w:World}{A:aE}{E:Value->ak->Prop}{G F:Addr->Prop}{env:Env}{aD s s':ak}{σ:cw}{own W:List Str}{oa:Str->Addr}{La:Heap->Prop}{Bu:aE->Prop}{V0 V:Ev}{T:fe}{X:XD}
theorem xH(h:qV i=true):∀l u q,i≠.Slice l u none q:=λl u q z=>by subst z;exact Ht h
theorem Df(h:own.contains n=true):n∈own:=nq.mp h
theorem I0(VO:dz prog w La Bu V0)(TO:dW prog w La Bu T)(bu:Bu A)(am:dN A La aD)(fr:pk env F aD)(si:SI env F aD σ own s G oa)
(h:AY (jo T V0) env.scope.names W n p e σ own=some r):wpAny (model prog w) A (exec (.Assign [.Name n p] e pos) env) (FP env F aD r) E s:=by
 obtain⟨hk,h⟩:=dy h;cases IP:p6 env.scope.names n p e with
 |false=>
  rw[IP]at h;obtain⟨c,h1,rfl⟩:=dM h;exact AP VO TO bu am fr (qP hk) si IP h1
 |true=>
  rw[IP,if_pos rfl]at h;cases hc:qX e with
  |none=>rw[hc]at h;exact no h
  |some x=>
   rw[hc]at h;obtain rfl:=qY hc;obtain⟨out,h1,rfl⟩:=dM h;obtain⟨d,h2,h3⟩:=aO h1;obtain rfl:=mV h3;obtain⟨o,h4,h5⟩:=dM (show(zi V0 env.scope.names (bZ own σ) x.1 x.2.1 x.2.2.1).map D.lst=some (.lst out)from h2);exact AQ VO bu am fr (qP hk) si IP (D.lst.inj h5▸h4)
theorem I1(VO:dz prog w La Bu V0)(TO:dW prog w La Bu T)(bu:Bu A)(am:dN A La aD)(fr:pk env F aD)(si:SI env F aD σ own s G oa)
(h:abA (jo T V0) env.scope.names W t e σ own=some r):wpAny (model prog w) A (exec (.Assign [t] e pos) env) (FP env F aD r) E s:=by
 unfold abA at h;cases hn:xG t with
 |some x=>
  rw[hn]at h;obtain rfl:=pq hn;exact I0 VO TO bu am fr si h
 |none=>
  rw[hn]at h;cases ht:De t with
  |none=>rw[ht]at h;exact no h
  |some ts=>
   rw[ht]at h;obtain rfl:=BY ht;cases he:De e with
   |none=>
    rw[he]at h;obtain⟨c,h1,h2⟩:=aO h;obtain⟨r',h3,rfl⟩:=dM h2;exact AX VO TO bu am fr (MP he) si h1 h3
   |some es=>
    rw[he]at h;obtain rfl:=BY he;have h:F9 (jo T V0) env.scope.names W ts.1 es.1 σ own=some r:=h;unfold F9 at h;cases hs:MQ ts.1 es.1 with
    |none=>
     rw[hs]at h;obtain⟨r',h1,rfl⟩:=dM h;exact AS VO TO bu am fr si h1
    |some q=>
     rw[hs]at h;obtain⟨σ',h1,rfl⟩:=dM h;obtain⟨m,np,p,MN,p',q1,q2,q3,q4,q5⟩:=MR hs;rw[q2,q3];exact MO VO TO bu am q1 si (xH q4) (xH q5) h1
theorem I7(VO:dz prog w La Bu V0)(TO:dW prog w La Bu T)(bu:Bu A)(am:dN A La aD)(fr:pk env F aD)(si:SI env F aD σ own s G oa)
(h:IZ (jo T V0) env.scope.names n op e σ own=some r):wpAny (model prog w) A (exec (.AugAssign (.Name n np) op e pos) env) (FP env F aD r) E s:=by
 unfold IZ at h;cases hn:own.contains n with
 |true=>
  rw[hn,if_pos rfl]at h;obtain⟨ho,h⟩:=dy h;cases op<;>first|exact Ht ho|skip
  obtain⟨ds,h1,h⟩:=aO h;obtain⟨c,h2,h⟩:=aO h;obtain⟨es,h3,h⟩:=aO h;obtain⟨hl,rfl⟩:=bh h;obtain⟨d,h4,h5⟩:=aO h1;obtain⟨d',fl⟩:=c;obtain rfl:=mV h5;obtain rfl:=mV h3;exact IU VO TO bu am fr si (Df hn) h4 hl h2
 |false=>
  rw[hn,if_neg aJ]at h;obtain⟨hk,h⟩:=dy h;obtain⟨a,h1,h2⟩:=aO h;obtain⟨c,h3,h4⟩:=aO h2;obtain⟨d,h5,rfl⟩:=dM h4;exact IV VO TO bu am fr si (qP hk) h1 h3 h5
theorem Gd(VO:dz prog w La Bu V0)(TO:dW prog w La Bu T)(bu:Bu A)(am:dN A La aD)(hl:ap.endLine=cp.line)(si:SI env F aD σ own s G oa)
(h:KU (jo T V0) env.scope.names n m args σ own=some r):wpAny (model prog w) A (exec (.Expr (.Call (.Attribute (.Name n np) m ap) args [] cp) pos) env) (FP env F aD r) E s:=by
 obtain⟨hn,h⟩:=dy h;obtain⟨ds,h1,h2⟩:=aO h;obtain⟨d,h4,h5⟩:=aO h1;obtain rfl:=mV h5;cases args with
 |nil=>
  obtain⟨⟨rfl,hlen⟩,rfl⟩:=bh h2;exact AW am si (Df hn.1) hn.2 hl h4 hlen
 |cons e args=>
  cases args with
  |cons _ _=>exact no h2
  |nil=>
   obtain⟨⟨⟨rfl,hs⟩,hlen⟩,h6⟩:=dy h2;obtain⟨c,h7,rfl⟩:=dM h6;exact C8 VO TO bu am si (Df hn.1) hn.2 hl hs h4 hlen h7
theorem Ge(XO:SX prog w La Bu env.scope.names X)(VO:dz prog w La Bu V0)(TO:dW prog w La Bu T)(bu:Bu A)(am:dN A La aD)(fr:pk env F aD){wf:Nat}{st:Stmt}{r:Fl}(si:SI env F aD σ own s G oa)
(h:cY (jo T V0) env.scope.names W wf X st σ own=some r):wpAny (model prog w) A (exec st env) (FP env F aD r) E s:=by
 refine To (P:=λst=>wpAny (model prog w) A (exec st env) (FP env F aD r) E s) st (λe pos h=>?_) (λts e pos h=>?_) (λt op e pos h=>?_) (λt it body orelse pos h=>?_) (λt body orelse pos h=>?_) (λt a b pos h=>?_) (λe pos h=>?_) h
 ·obtain⟨e,rfl,h2⟩:=aO h
  obtain⟨d,h1,rfl⟩:=dM h2;exact C9 (mT VO TO) bu am fr si h1
 ·obtain⟨t,h1,h2⟩:=aO h
  obtain rfl:=BZ h1;exact I1 VO TO bu am fr si h2
 ·obtain⟨x,h1,h2⟩:=aO h
  obtain rfl:=pq h1;exact I7 VO TO bu am fr si h2
 ·cases orelse with
  |nil=>
   obtain⟨ds,h1,h2⟩:=aO h;obtain⟨q1,q2⟩:=Dd (prog:=prog) (w:=w) (A:=A) (E:=E) (mT VO TO) TO bu am si h1;exact MH XO bu am fr q1 si q2 h2
  |cons _ _=>exact no h
 ·cases orelse with
  |nil=>exact F6 XO (mT VO TO) bu am fr si h
  |cons _ _=>exact no h
 ·obtain⟨c,h1,h2⟩:=aO h
  exact Qi XO (mT VO TO) bu am fr si h1 h2
 ·obtain⟨x,h1,h2⟩:=aO h
  obtain⟨np,ap,cp,rfl,hl⟩:=Gb h1;exact Gd VO TO bu am hl si h2
theorem Dg(bu:Bu A)(am:dN A La aD)(fr:pk env F aD)
(hS:∀(E:Value->ak->Prop) σ own s G oa st r,SI env F aD σ own s G oa->S st σ own=some r->wpAny (model prog w) A (exec st env) (FP env F aD r) E s):
 ∀(body:List Stmt)(σ:cw)(own:List Str)(s:ak)(G:Addr->Prop)(oa:Str->Addr)(r:Fl),SI env F aD σ own s G oa->cM S body σ own=some r->wpAny (model prog w) A (execs body env) (FP env F aD r) E s:=λbody=>by
 induction body with
 |nil=>intro σ own s G oa r si h;cases h;exact iq ⟨rfl,G,oa,si⟩
 |cons st rest ih=>
  intro σ own s G oa r si h;unfold cM at h;obtain⟨r',h1,h2⟩:=aO h;refine cz (aj (hS E σ own s G oa st r' si h1) (λf s1 q=>?_) λ_ _ e=>e);cases r' with
  |nx σ' own'=>
   obtain⟨rfl,G',F3,ME⟩:=q;exact ih σ' own' s1 G' F3 r ME h2
  |rt d=>
   cases h2;obtain⟨v,rfl,q⟩:=q;exact⟨v,rfl,q⟩
theorem vg(VO:dz prog w La Bu V0)(TO:dW prog w La Bu T)(ks)(wf):∀n,SX prog w La Bu ks (AZ (jo T V0) ks W wf n)
 |0=>λ_ _ _ _ _ _ _ _ _ _ _ _ _ _ _ _ _ h=>by cases h
 |n+1=>λA E env F aD σ own s G oa body r bu am fr si hk h=>by
  subst hk;exact Dg bu am fr (λE σ own s G oa st r si h=>Ge (vg VO TO _ wf n) VO TO bu am fr si h) body σ own s G oa r si h
end
end
section
theorem zB{kindOf:Str->Option iz}{n:Str}(hk:kindOf n=some .local):∀(fv:List Str)(vs:List Value)(m:Str->Option Value),fv.length=vs.length->fv.Nodup->bindL kindOf (fv.zip vs) m n=((fv.zip vs).lookup n).or (m n)
 |[],_,m,_,_=>by unfold bindL;rfl
 |p::ps,[],_,h,_=>by simp at h
 |p::ps,v::vs,m,h,hd=>by
  rw[qh];dsimp only[bindL];rw[zB hk ps vs _ (by simpa using h) (cJ.mp hd).2,eL];cases hb:n==p with
  |true=>
   have:n=p:=by simpa using hb
   subst this;have hn:(ps.zip vs).lookup n=none:=by
    cases e:(ps.zip vs).lookup n with
    |none=>rfl
    |some u=>exact absurd (lh (mem_of_lookup e)).1 (cJ.mp hd).1
   rw[hn,if_pos hk];simp
  |false=>
   have ox:n≠p:=by simpa using hb
   cases(ps.zip vs).lookup n with
   |some u=>rfl
   |none=>
    simp only[oZ];split
    ·exact if_neg ox
    ·rfl
theorem zC{kindOf:Str->Option iz}{n:Str}(hk:kindOf n=some .cell):∀(fv:List Str)(vs:List Value)(m:Str->Option Value),fv.length=vs.length->fv.Nodup->bindC kindOf (fv.zip vs) m n=((fv.zip vs).lookup n).or (m n)
 |[],_,m,_,_=>by unfold bindC;rfl
 |p::ps,[],_,h,_=>by simp at h
 |p::ps,v::vs,m,h,hd=>by
  rw[qh];dsimp only[bindC];rw[zC hk ps vs _ (by simpa using h) (cJ.mp hd).2,eL];cases hb:n==p with
  |true=>
   have:n=p:=by simpa using hb
   subst this;have hn:(ps.zip vs).lookup n=none:=by
    cases e:(ps.zip vs).lookup n with
    |none=>rfl
    |some u=>exact absurd (lh (mem_of_lookup e)).1 (cJ.mp hd).1
   rw[hn,if_neg (by rw[hk];decide)];simp
  |false=>
   have ox:n≠p:=by simpa using hb
   cases(ps.zip vs).lookup n with
   |some u=>rfl
   |none=>
    simp only[oZ];split
    ·rfl
    ·exact if_neg ox
theorem Vb(h:look [("",d)] ""=some e):d=e:=by
 have h:(if("":Str)="" then _ else none)=some e:=h;rw[if_pos rfl]at h;cases d<;>first|exact no h|exact ai h
theorem tS{fv:List Str}:∀{ds:List D}{vs:List Value},aZ h F ds vs->look (fv.zip ds) n=some d->∃v,(fv.zip vs).lookup n=some v/\bT h F d v:=by
 induction fv with
 |nil=>exactλ_ e=>no e
 |cons p ps ih=>
  intro ds vs r e;cases ds with
  |nil=>exact no e
  |cons d' ds=>
   obtain⟨v,r',rfl,h1,h2⟩:=r.gk;rw[qh,eL];have e:(if p=n then _ else look (ps.zip ds) n)=some d:=e;by_cases hp:p=n
   ·rw[if_pos hp]at e
    rw[hp,beq_self_eq_true];exact⟨v,rfl,Vb ((if_pos rfl).trans e)▸h1⟩
   ·rw[if_neg hp]at e
    rw[beq_eq_false_iff_ne.mpr λz:n=p=>hp z.symm];exact ih h2 e
section
variable{prog:bb}{w:World}{A:aE}{E:Value->ak->Prop}{F:Addr->Prop}{s:ak}{La:Heap->Prop}{Bu:aE->Prop}{V0 V:Ev}{T:fe}
structure Qq(fd:ky)(fv:List Str)(body:List Stmt)(ks:bW):Prop where
 bdy:fd.body=.stmts body
 N7:fd.scope.names=ks
 kind:fd.scope.kind=.function
 gen:fd.scope.isGenerator=false
 co:fd.scope.isCoroutine=false
 clo:fd.closure=[]
 gl:fd.globals=mainGlobals
 bi:fd.builtins=builtinsNs
 bind:∀vs:List Value,vs.length=fv.length->bindArgs fd ⟨vs,[]⟩=pure (fv.zip vs)
 nd:fv.Nodup
 ok:fv.all (AO ks)=true
 kd:(ks.map (·.1)).Nodup
theorem Gf
(zD:A.depth<recursionLimit)(ho:s.heap.get? a=some o)(zE:o.data=.func fd)(eY:s.heap.NoLimit)(y0:s.heap.CodeRec fd.code fd.qualname)(tk:1<=s.toks)
(aiv:fd.body=.stmts body)(aiw:bindArgs fd ⟨vals,[]⟩=pure binds)(abl:fd.closure=[])
(qM:∀x∈binds,fd.scope.names.lookup x.1=some .local\/(fd.scope.names.lookup x.1=some .cell/\((cellsFrom (s.heap.objs.size+1) fd.scope.names []).lookup x.1).isSome=true))
(h:∀aQ,1<=aQ.toks->InCallC s (callEnvC fd s.heap.objs.size a).locals (bindL (callEnvC fd s.heap.objs.size a).kindOf binds λ_=>none) (callEnvC fd s.heap.objs.size a).cells
    (bindC (callEnvC fd s.heap.objs.size a).kindOf binds λ_=>none) aQ->
   wpAny (model prog w) (A.deeper (callEnvC fd s.heap.objs.size a)) (execs body (callEnvC fd s.heap.objs.size a)) (λf s'=>R (.ok (.ret (match f with|.ret v=>v|_=>.none))) s')
    (λe s'=>wpAny (model prog w) (A.deeper (callEnvC fd s.heap.objs.size a)) (leaving (callEnvC fd s.heap.objs.size a) e) (λ_ Uw=>R (.error e) Uw) (λe' Uw=>R (.error e') Uw) s') aQ)
(hco:fd.scope.isCoroutine=false)(abB:fd.scope.isGenerator=false)(hk:fd.scope.kind=.function):
 codeAny (model prog w) A (.call (.ref a) ⟨vals,[]⟩) R s:=by
 refine codeAny_call_function zD ho zE hco abB aiv y0 ?_;rw[aiw,abl];refine aM (aj (wpAny_toks_of (n:=1) tk (wpAny_newFunctionEnv_cells (Q:=λenv s'=>env=newEnv fd.scope s.heap.objs.size fd.globals (cellsFrom (s.heap.objs.size+1) fd.scope.names []) (fd.qualname++".<locals>.") (some a) fd.code none fd.builtins/\InCallC s env.locals (bindL env.kindOf binds λ_=>none) env.cells (bindC env.kindOf binds λ_=>none) s') hk qM λenv he s' x=>⟨he,x⟩)) (λenv s' q=>?_) λ_ _ e=>e.2);obtain⟨t,he,x⟩:=q;subst he;exact⟨eY.keeps x.toInCall.keep,codeAny_func (h s' t x)⟩
theorem tT{Q:Value->ak->Prop}{ks:bW}{a:Addr}{o:Obj}{fd:ky}{fv:List Str}{body:List Stmt}{ds:List D}{vs:List Value}(fi:Qq fd fv body ks)
(zD:A.depth<recursionLimit)(ho:s.heap.get? a=some o)(zE:o.data=.func fd)(y0:s.heap.CodeRec fd.code fd.qualname)(hl:ds.length=fv.length)
(am:dN A La s)(un:A.units+203<cLine)(lo:jy F s.heap)(r:aZ s.heap F ds vs)
(h:∀env aQ G oa,env.scope.names=ks->env=callEnvC fd s.heap.objs.size a->dN (A.deeper env) La s->pk env F s->SI env F s (fv.zip ds) [] aQ G oa->∀E':Value->ak->Prop,wpAny (model prog w) (A.deeper env) (execs body env) (λf s'=>Q (match f with|.ret v=>v|_=>.none) s') E' aQ):
 wpAny (model prog w) A (call (.ref a) vs) Q E s:=by
 have hvl:=r.length;refine wpAny_call ?_;have ok0:=cellsFrom_ok fd.scope.names (s.heap.push {cls:=.type "frame",data:=.dict #[]}) (s.heap.objs.size+1) [] ⟨λ_ _ hm=>(nomatch hm),LL⟩ (by rw[jM];exact bD _);refine Gf zD ho zE am.nl y0 am.tk fi.bdy (fi.bind vs (by rw[hvl,hl])) fi.clo (λx hx=>?_) (λaQ t1 X1=>?_) fi.co fi.gen fi.kind
 ·obtain⟨xn,xv⟩:=x
  have hm:=(lh hx).1;have:=bf.mp fi.ok xn hm;unfold AO at this;rw[fi.N7];split at this
  ·rename_i q;exact .inl q
  ·rename_i q
   refine .inr ⟨q,?_⟩;obtain⟨c,hc⟩:=oe fd.scope.names (s.heap.objs.size+1) [] xn (.inl (by rw[fi.N7];exact mem_of_lookup q));obtain⟨c',Iq⟩:=pg hc;rw[fi.N7]at Iq;rw[Iq];rfl
  ·cases this
 ·generalize mW:callEnvC fd s.heap.objs.size a=env at X1⊢
  have A0:env.locals=s.heap.objs.size:=by rw[<-mW];rfl
  have sU:env.scope=fd.scope:=by rw[<-mW];rfl
  have sV:env.cells=cellsFrom (s.heap.objs.size+1) fd.scope.names []:=by rw[<-mW];rfl
  have qM:∀n,env.kindOf n=ks.lookup n:=λn=>by unfold lQ;rw[sU,fi.N7]
  have nw:∀b,s.heap.objs.size<=b->s.heap.get? b=none:=λb hb=>by
   cases e:s.heap.get? b with
   |none=>rfl
   |some o=>exact absurd (dT e) (Bg.mpr hb)
  have rH:∀n c,env.cells.lookup n=some c->s.heap.objs.size<c:=λn c e=>by
   have:=X1.above n c (mem_of_lookup e);rwa[A0]at this
  let G:Addr->Prop:=λb=>F b\/b=env.locals\/∃n,env.cells.lookup n=some b;have kk:bU s.heap aQ.heap:=X1.toInCall.keep;obtain⟨h1,tk1,e1⟩:=X1.toInCall.same;have hGn:∀b,G b->F b\/s.heap.get? b=none:=λb q=>by
   rcases q with q|q|⟨n,q⟩
   ·exact .inl q
   ·exact .inr (nw b (by rw[q,A0];exact bD _))
   ·exact .inr (nw b (bV (rH n b q)))
  have bl:∀n c,env.cells.lookup n=some c->G c:=λn c e=>.inr (.inr ⟨n,e⟩);have hcs:∀n,env.kindOf n=some .cell->∃c,env.cells.lookup n=some c:=λn hk=>by
   rw[qM]at hk;obtain⟨c,hc⟩:=oe fd.scope.names (s.heap.objs.size+1) [] n (.inl (by rw[fi.N7];exact mem_of_lookup hk));obtain⟨c',Iq⟩:=pg hc;exact⟨c',by rw[sV];exact Iq⟩
  have hGr:∀{d':D}{v:Value},bT s.heap F d' v->bT aQ.heap G d' v:=λr=>bT.kept (F:=F) (λb o _ e=>kk b o e) hGn _ _ r;have fr:pk env F s:=⟨nw _ (by rw[A0];exact bD _),λn c _ e=>nw _ (bV (rH n c e)),lo⟩
  have x1:In env G (fv.zip ds) aQ.heap:=by
   refine⟨by rw[sU];exact fi.kind,by rw[<-mW];exact fi.gl,by rw[<-mW];exact fi.bi,λb q=>?_,.inr (.inl rfl),λn c e=>⟨bl n c e,λz=>?_⟩,λn n' c e e'=>name_of_addr X1.apart (mem_of_lookup e) (mem_of_lookup e'),λn hk=>?_,⟨_,X1.toInCall.ns,λn d' e=>⟨λhk=>?_,λhk=>?_⟩⟩⟩
   ·rcases q with q|q|⟨n,q⟩
    ·exact(lo.keeps kk) b q
    ·obtain⟨o',_,_,e,_⟩:=X1.toInCall.ns
     rw[q,e];rfl
    ·obtain⟨o',e,_⟩:=X1.cell n b q
     rw[e];rfl
   ·have:=rH n c e
    rw[z,A0]at this;exact fg _ this
   ·obtain⟨c,hc⟩:=hcs n hk
    exact⟨c,_,hc,X1.cell n c hc⟩
   ·obtain⟨v,e1,e2⟩:=tS r e
    refine⟨v,?_,hGr e2⟩;rw[zB hk fv vs _ (by rw[hvl,hl]) fi.nd,e1];rfl
   ·obtain⟨v,e1,e2⟩:=tS r e
    have hk:env.kindOf n=some .cell:=hk.resolve_right λq=>by
     have hm:=(lh (mem_of_lookup e1)).1;have:=bf.mp fi.ok n hm;unfold AO at this;rw[<-qM,q]at this;cases this
    obtain⟨c,hc⟩:=hcs n hk;refine⟨c,v,hc,?_,hGr e2⟩;have:=X1.cell n c hc;rw[zC hk fv vs _ (by rw[hvl,hl]) fi.nd,e1]at this;exact this
  have si:SI env F s (fv.zip ds) [] aQ G (λ_=>0):=
   ⟨λb q=>.inl q,hGn,⟨h1,tk1,e1,by rw[e1]at kk;exact kk⟩,t1,x1.sub λn d' e=>by rw[fY]at e;simpa using e,λn hn=>(nomatch hn),λn hn=>(nomatch hn),λn n' hn=>(nomatch hn)⟩
  have am':dN (A.deeper env) La s:=⟨am.hh,am.nb,am.nl,am.gl,am.tk,by rw[jQ];omega,am.la⟩
  exact aj (h env aQ G _ (by rw[sU];exact fi.N7) mW.symm am' fr si _) (λf s' q=>q) λ_ _ e=>e
theorem Qr(XO:SX prog w La Bu ks X)(fi:Qq fd fv body ks)
(zD:A.depth<recursionLimit)(ho:s.heap.get? a=some o)(zE:o.data=.func fd)(y0:s.heap.CodeRec fd.code fd.qualname)(hl:ds.length=fv.length)
(bu:∀env,Bu (A.deeper env))(am:dN A La s)(un:A.units+203<cLine)(lo:jy F s.heap)(r:aZ s.heap F ds vs)(h:X body (fv.zip ds) []=some (.rt d)):
 wpAny (model prog w) A (call (.ref a) vs) (iJ F s d) E s:=by
 refine tT fi zD ho zE y0 hl am un lo r (λenv aQ G oa mJ _ kH fr si E'=>?_);refine aj (XO (A.deeper env) E' env F s (fv.zip ds) [] aQ G oa body (.rt d) (bu env) kH fr si mJ h) (λf s' q=>?_) λ_ _ e=>e;obtain⟨v,rfl,q1,q2,q3⟩:=q;exact⟨q1,q3⟩
end
end
def Bu(k:Nat)(A:aE):Prop:=A.depth+k<=900/\A.units+3*k+203<cLine
theorem Bu.less(h:Bu k A)(hj:j<=k):Bu j A:=⟨by have:=h.1;omega,by have:=h.2;omega⟩
theorem Bu.deeper(h:Bu (k+1) A)(env:Env):Bu k (A.deeper env):=⟨by
 have:=h.1;show A.depth+1+k<=900;omega,by
 have:=h.2;rw[jQ];omega⟩
structure zF where
 fns:Str->Option (List Str×List Stmt×Scope)
 W:Str->List Str
 prim:Str->Option (List D->Option D)
 gl:Str->Option D
 get:Str->List D->Option D
 mem:Str->D->Option Bool
def abC:Option Fl->Option D
 |none=>none
 |some x=>match x with
  |.rt d=>some d
  |_=>none
theorem MT(h:abC o=some d):o=some (.rt d):=by
 cases o with
 |none=>exact no h
 |some x=>cases x<;>first|exact no h|exact ai h▸rfl
def zF.run(P:zF)(m wf n:Nat)(T:fe)(f:Str)(ds:List D):Option D:=
 (P.fns f).bind λx=>if ds.length=x.1.length then abC (AZ (dh T (m+1)) x.2.2.names (P.W f) wf n x.2.1 (x.1.zip ds) [])else none
def zF.fn(P:zF)(m wf n:Nat)(T:fe)(f:Str)(ds:List D):Option D:=match P.prim f with
 |some p=>p ds
 |none=>P.run m wf n T f ds
def zF.tab(P:zF)(m wf n:Nat):Nat->fe
 |0=>⟨λ_ _=>none,P.gl,P.get,P.mem⟩
 |r+1=>⟨P.fn m wf n (P.tab m wf n r),P.gl,P.get,P.mem⟩
structure I8(prog:bb)(w:World)(La:Heap->Prop)(P:zF):Prop where
 gl:∀h n d,La h->P.gl n=some d->∃v,Gv h n v/\∀F,bT h F d v
 bi:∀h (b:Bi),La h->Bv h b.name b.val
 SQ:∀h,La h->Bv h "isinstance" (.builtin "isinstance")
 rev:∀h,La h->Bv h "reversed" (.type "reversed")
 ty:∀h (n:Str),La h->(n="bool"\/n="int")->Bv h n (.type (CW n))
 fn:∀h f ps body sc,La h->P.prim f=none->P.fns f=some (ps,body,sc)->∃a o fd,Gv h f (.ref a)/\h.get? a=some o/\o.data=.func fd/\h.CodeRec fd.code fd.qualname/\Qq fd ps body sc.names
 prim:∀h f p ds d,La h->P.prim f=some p->p ds=some d->∃a o fd,Gv h f (.ref a)/\h.get? a=some o/\o.data=.func fd/\
  ∀(A:aE)(E:Value->ak->Prop) F s vs,Bu 50 A->dN A La s->jy F s.heap->bU h s.heap->aZ s.heap F ds vs->wpAny (model prog w) A (call (.ref a) vs) (iJ F s d) E s
 get:∀h g ds d,La h->P.get g ds=some d->∃a o,Gv h g (.ref a)/\h.get? a=some o/\o.cls=.type "dict"/\o.dict=none/\
  ∀(A:aE)(E:Value->ak->Prop) F s vs,dN A La s->jy F s.heap->bU h s.heap->aZ s.heap F ds vs->wpAny (model prog w) A (call (.builtin "dict.get") (.ref a::vs)) (iJ F s d) E s
 mem:∀h g x b,La h->P.mem g x=some b->∃a,Gv h g (.ref a)/\
  ∀(A:aE)(E:Value->ak->Prop) F s v,dN A La s->bU h s.heap->bT s.heap F x v->wpAny (model prog w) A (compareOp .In v (.ref a)) (λr s'=>r=.bool b/\Keeps s s') E s
theorem Gg{prog:bb}{w:World}{La:Heap->Prop}{Bu:aE->Prop}{P:zF}(L:I8 prog w La P)(h:Heap)(g:Str)(ds:List D)(d:D)(la:La h)(e:P.get g ds=some d):∃a o,Gv h g (.ref a)/\h.get? a=some o/\o.cls=.type "dict"/\o.dict=none/\
 ∀(A:aE)(E:Value->ak->Prop) F s vs,Bu A->dN A La s->jy F s.heap->bU h s.heap->aZ s.heap F ds vs->wpAny (model prog w) A (call (.builtin "dict.get") (.ref a::vs)) (iJ F s d) E s:=by
 obtain⟨a,o,q1,q2,q3,q4,q5⟩:=L.get h g ds d la e;exact⟨a,o,q1,q2,q3,q4,λA E F s vs _=>q5 A E F s vs⟩
theorem Gh{prog:bb}{w:World}{La:Heap->Prop}{Bu:aE->Prop}{P:zF}(L:I8 prog w La P)(h:Heap)(g:Str)(x:D)(b:Bool)(la:La h)(e:P.mem g x=some b):∃a,Gv h g (.ref a)/\
 ∀(A:aE)(E:Value->ak->Prop) F s v,Bu A->dN A La s->bU h s.heap->bT s.heap F x v->wpAny (model prog w) A (compareOp .In v (.ref a)) (λr s'=>r=.bool b/\Keeps s s') E s:=by
 obtain⟨a,q1,q2⟩:=L.mem h g x b la e;exact⟨a,q1,λA E F s v _=>q2 A E F s v⟩
theorem aiA(L:I8 prog w La P)(m wf n:Nat)(TO:dW prog w La (Bu (r+50)) T)(h:Heap)(f:Str)(ds:List D)(d:D)(la:La h)(e:P.fn m wf n T f ds=some d):∃a o fd,Gv h f (.ref a)/\h.get? a=some o/\o.data=.func fd/\
 ∀(A:aE)(E:Value->ak->Prop) F s vs,Bu (r+1+50) A->dN A La s->jy F s.heap->bU h s.heap->aZ s.heap F ds vs->wpAny (model prog w) A (call (.ref a) vs) (iJ F s d) E s:=by
 unfold zF.fn at e;cases hp:P.prim f with
 |some p=>
  rw[hp]at e;obtain⟨a,o,fd,q1,q2,q3,q4⟩:=L.prim h f p ds d la hp e;exact⟨a,o,fd,q1,q2,q3,λA E F s vs bu=>q4 A E F s vs (bu.less (by omega))⟩
 |none=>
  rw[hp]at e;obtain⟨x,hf,e⟩:=aO (show(P.fns f).bind _=some d from e);obtain⟨hl,e⟩:=dy e;obtain⟨a,o,fd,q1,q2,q3,q4,q5⟩:=L.fn h f x.1 x.2.1 x.2.2 la hp hf;refine⟨a,o,fd,q1,q2,q3,λA E F s vs bu am lo kk rs=>?_⟩;have bu':Bu (r+50+1) A:=by rw[alR];exact bu
  exact Qr (vg (W:=P.W f) (kU TO m) TO x.2.2.names wf n) q5 (bx (ao (iM _ _) bu.1) (by decide)) (kk _ _ q2) q3 (q4.keeps kk) hl (λenv=>bu'.deeper env) am (by have:=bu.2;omega) lo rs (MT e)
theorem Qs(L:I8 prog w La P)(m wf n:Nat)(r:Nat):dW prog w La (Bu (r+50)) (P.tab m wf n r):=by
 induction r with
 |zero=>exact⟨L.gl,L.bi,L.SQ,L.rev,L.ty,λ_ _ _ _ _ h=>no h,Gg L,Gh L⟩
 |succ r ih=>exact⟨L.gl,L.bi,L.SQ,L.rev,L.ty,aiA L m wf n ih,Gg L,Gh L⟩
section
section
variable{G F:Addr->Prop}{env:Env}{aD s s':ak}{σ:cw}{own:List Str}{oa:Str->Addr}
inductive aiB(env:Env)(F:Addr->Prop)(aD:ak)(σ:cw)(own:List Str)(s':ak)(G:Addr->Prop)(oa:Str->Addr)(P:Addr):Prop
 |mk (aQ:ak) (si:SI env F aQ σ own s' G oa) (fr:pk env F aQ) (kb:∀a o,aD.heap.get? a=some o->a≠P->aQ.heap.get? a=some o) (kP:∀o,s'.heap.get? P=some o->aQ.heap.get? P=some o) (tk:1<=aQ.toks) (fm:∃h tk,aQ={aD with heap:=h,toks:=tk})
theorem SI.tU(si:SI env F aD σ own s G oa)(fr:pk env F aD)(hF:F P)(hc:∀n,env.cells.lookup n≠some P)(u:Upd (λa=>a=P) s s')(t:1<=s'.toks)(hs:(s'.heap.get? P).isSome=true):
 aiB env F aD σ own s' G oa P:=by
 obtain⟨h',hh⟩:=F5 s'.heap (λa=>¬G a\/F a);have hG:G P:=si.hF P hF;have kp:Kept (λa=>a=P) s.heap s'.heap:=u.kept λ_ q=>q;obtain⟨h,tk,rfl,kk⟩:=si.kp;obtain⟨h2,UZ,rfl,ku⟩:=u;have nF:∀a,aD.heap.get? a=none->¬F a:=λa e q=>by
  have:=fr.lo a q;rw[e]at this;cases this
 have hl:P≠env.locals:=λz=>nF _ fr.hl (z▸hF);have ho:∀n,n∈own->oa n≠P:=λn hn z=>nF _ (si.owN hn) (z▸hF);have U6:∀a,G a->¬F a->h'.get? a=none:=λa g nf=>by
  cases e:h'.get? a with
  |none=>rfl
  |some o=>rcases((hh a o).mp e).1 with q|q
           ·exact absurd g q
           ·exact absurd q nf
 have u':Upd (λa=>a=P) {aD with heap:=h,toks:=tk} {aD with heap:=h2,toks:=UZ}:=⟨h2,UZ,rfl,ku⟩
 have old:∀a o,aD.heap.get? a=some o->a≠P->h'.get? a=some o:=λa o e ne=>(hh a o).mpr ⟨by
  by_cases g:G a
  ·rcases si.hN a g with q|q
   ·exact .inr q
   ·rw[q]at e;cases e
  ·exact .inl g,ku a o ne (kk a o e)⟩
 refine⟨{aD with heap:=h',toks:=UZ},⟨si.hF,λa g=>?_,⟨h2,UZ,rfl,λb o e=>((hh b o).mp e).2⟩,t,si.ie.upd u' (λa q=>q▸hG) (jy.upd si.ie.lo kp λb q=>q▸hs) (λz=>hl z.symm) (λn c e z=>hc n (z▸e)),λn hn=>?_,si.od,si.oi⟩,
  ⟨U6 _ si.ie.fl (nF _ fr.hl),λn c ho e=>U6 _ (si.ie.fc n c e).1 (nF _ (fr.hc n c ho e)),λb q=>?_⟩,old,λo e=>(hh P o).mpr ⟨.inr hF,e⟩,t,⟨h',UZ,rfl⟩⟩
 ·by_cases q:F a
  ·exact .inl q
  ·exact .inr (U6 a g q)
 ·obtain⟨q1,q2,q3,q4,ds,q5,q6⟩:=si.ow n hn
  exact⟨q1,q2.kept kp (λz=>hl z.symm) (λn c e z=>hc n (z▸e)),q3,U6 _ q3 (nF _ q4),ds,q5,q6.kept kp (λb q=>q▸hG) (ho n hn)⟩
 ·by_cases hb:b=P
  ·obtain⟨o,e⟩:=aA.mp hs
   rw[hb,(hh P o).mpr ⟨.inr hF,e⟩];rfl
  ·obtain⟨o,e⟩:=aA.mp (fr.lo b q)
   rw[old b o e hb];rfl
end
end
theorem Gj{vs:List Value}:∀(ns:List Str),ns.length=vs.length->(ns.filter λn=>((ns.zip vs).lookup n).isNone)=[]:=by
 intro ns hl;rw[mn];intro n hn;obtain⟨i,hi,rfl⟩:=aei hn;have hm:(ns[i],vs[i]'(by lia))∈ns.zip vs:=by
  have:(ns.zip vs)[i]'(by simp;lia)=(ns[i],vs[i]'(by lia)):=by simp
  rw[<-this];exact aV _
 have:∀(l:List (Str×Value))(n:Str)(v:Value),(n,v)∈l->(l.lookup n).isSome=true:=by
  intro l
  induction l with
  |nil=>intro n v h;cases h
  |cons x l ih=>
   obtain⟨a,b⟩:=x;intro n v h;rw[eL];cases hb:n==a with
   |true=>rfl
   |false=>
    rcases aL.mp h with h|h
    ·injection h with h1 h2
     subst h1;simp at hb
    ·exact ih n v h
 have h2:=this _ _ _ hm;cases e:(ns.zip vs).lookup ns[i]with
 |none=>rw[e]at h2;cases h2
 |some v=>simp
theorem MU(n:Str)(v:Value)(z:List (Str×Value))(l:List Str)(h:∀m,m∈l->m≠n):l.filterMap (λm=>(((n,v)::z).lookup m).map (m,·))=l.filterMap (λm=>(z.lookup m).map (m,·)):=
 by
 induction l with
 |nil=>rfl
 |cons m l ih=>rw[yD,yD,eL,beq_eq_false_iff_ne.mpr (h m (ax ..)),ih λx hx=>h x (av _ hx)]
theorem A3(ns:List Str):∀(vs:List Value),ns.Nodup->ns.length=vs.length->(ns.filterMap λn=>((ns.zip vs).lookup n).map (n,·))=ns.zip vs:=by
 induction ns with
 |nil=>exactλ_ _ _=>rfl
 |cons n ns ih=>
  intro vs hd hl;cases vs with
  |nil=>cases hl
  |cons v vs=>
   have hd:=cJ.mp hd;rw[qh,yD,eL,beq_self_eq_true];show(n,v)::_=_;rw[MU n v (ns.zip vs) ns λm hm e=>hd.1 (e▸hm),ih vs hd.2 (anf hl)]
theorem pv(h1:fd.params.posonlyargs=[])(h2:fd.params.kwonlyargs=[])(h3:fd.params.vararg=none)(h4:fd.params.kwarg=none)(h5:fd.defaults=.none)
(hd:(fd.params.args.map (·.arg)).Nodup)(hl:vs.length=(fd.params.args.map (·.arg)).length):bindArgs fd ⟨vs,[]⟩=pure ((fd.params.args.map (·.arg)).zip vs):=by
 have f1:=Gj (vs:=vs) (fd.params.args.map (·.arg)) hl.symm;have f2:=A3 (fd.params.args.map (·.arg)) vs hd hl.symm;have g1:¬(decide (vs.length>(fd.params.args.map (·.arg)).length)&&true)=true:=by rw[hl];simp
 obtain⟨a1,a2,⟨po,ar,va,ko,kd,kw⟩,a4,a5,a6,a7,a8,a9,a10,a11,a12⟩:=fd;dsimp only at*;subst h1 h2 h3 h4 h5;refine(if_neg g1).trans ?_;generalize hz:ang _ _=dd;have hz':dd=[]:=hz.symm.trans List.drop_nil;clear hz;subst hz';refine(if_neg ?_).trans ?_
 ·show¬(!((SH (ar.map (·.arg)).length (ar.map (·.arg))).filter λn=>(((ar.map (·.arg)).zip vs).lookup n).isNone).isEmpty)=true
  rw[fG,f1];exact aJ
 ·generalize (ar.map (·.arg))=ns at*
  generalize hz:ang _ _=dd;have hz':dd=[]:=hz.symm.trans (Ef (l:=ns));clear hz;subst hz';show(pure ((ns++[]).filterMap λn=>((ns.zip vs).lookup n).map (n,·)):Sem (List (Str×Value)))=_;rw[dD,f2]
section
theorem vh(h:vInt v=some i):∃t,v=.int i t:=by
 obtain⟨x,_,rfl⟩:=dM h;exact⟨x.1.2,x.2⟩
theorem B0(h:vStr v=some i):∃t,v=.str i t:=by
 obtain⟨x,_,rfl⟩:=dM h;exact⟨x.1.2,x.2⟩
theorem isInt_self(i)(t):Value.isInt i (.int i t)=true:=by simp[Value.isInt]
theorem sW(i)(t):avi i (.str i t)=true:=by simp[avi]
theorem Dh(w)(h:vInt v=some i):(intKind pw w).is i v=true:=by obtain⟨t,e⟩:=vh h;exact e▸isInt_self i t
theorem abD(w)(h:vStr v=some i):(strKind pw w).is i v=true:=by obtain⟨t,e⟩:=B0 h;exact e▸sW i t
section
variable{w:World}{K V:Type}[DecidableEq K](knd:KeyKind pw w K)(kf:Value->Option K)(vf:Value->Option V)
theorem abE(his:∀v k,kf v=some k->knd.is k v=true)(L:List (K×V)):∀(es:List cX),es.map (λe=>(e.hash,kf e.key,vf e.val))=L.map (λx=>(knd.hash x.1,some x.1,some x.2))->
 ∃kx,Pairs knd es kx/\(∀e∈es,∃k,knd.is k e.key=true/\e.hash=knd.hash k)/\kx.map (λkv=>(kv.1,vf kv.2))=L.map (λx=>(x.1,some x.2)):=by
 induction L with
 |nil=>
  intro es h;rw[aej.mp h];exact⟨[],.nil,λe he=>(nomatch he),rfl⟩
 |cons x L ih=>
  intro es h;cases es with
  |nil=>cases h
  |cons e es=>
   obtain⟨h1,h2⟩:=d6 h;obtain⟨kx,p,q,r⟩:=ih es h2;rcases gV h1 with⟨a,h1⟩
   rcases gV h1 with⟨b,c⟩
   refine⟨(x.1,e.val)::kx,.cons (his _ _ b) rfl p,λy hy=>?_,by rw[aH,r,c];rfl⟩;rcases aL.mp hy with rfl|hy
   ·exact⟨x.1,his _ _ b,a⟩
   ·exact q y hy
theorem Gk(L:List (K×V)):∀(kx:List (K×Value)),kx.map (λkv=>(kv.1,vf kv.2))=L.map (λx=>(x.1,some x.2))->∀k,(valueAt kx k).map vf=(L.find? λx=>decide (x.1=k)).map λx=>some x.2:=by
 induction L with
 |nil=>intro kx h k;rw[aej.mp h];rfl
 |cons x L ih=>
  intro kx h k;cases kx with
  |nil=>cases h
  |cons y kx=>
   obtain⟨h1,h2⟩:=d6 h;obtain⟨h0,h1⟩:=gV h1;have ih:=ih kx h2 k;have h0:y.1=x.1:=h0;unfold valueAt at ih⊢;rw[HH,HH,h0];cases decide (x.1=k)with
   |true=>exact congrArg some h1
   |false=>exact ih
end
def floats:List (Str×UInt64):=[("ONE_THIRD",4599676419421066581),("ONE_SIXTH",4595172819793696085),("TWO_THIRD",4604180019048437077)]
def abF(w:World)(h:Heap)(a:Addr):Prop:=∃kx,h.DictOf (intKind pw w) a kx/\kx.map (λkv=>(kv.1,vStr kv.2))=L3.map (λx=>(x.1,some x.2))
def abG(w:World)(h:Heap)(a:Addr):Prop:=∃kx,h.DictOf (strKind pw w) a kx/\kx.map (λkv=>(kv.1,vInt kv.2))=L4.map (λx=>(x.1,some x.2))
inductive YP(w:World)(h:Heap):Prop
 |mk (mg:Str->Option Value) (g:h.Ns mainGlobals mg) (fl:∀x∈floats,∃t,mg x.1=some (.float x.2 t)/\t≠0) (s:∃a,mg "b1_set"=some (.ref a)/\h.SetOf (intKind pw w) a (λk=>n9.contains k) 27)
  (d3:∃a,mg "b3_exceptions"=some (.ref a)/\a≠sysModules/\abF w h a) (d4:∃a,mg "EXACT_TOKEN_TYPES"=some (.ref a)/\a≠sysModules/\abG w h a)
theorem zG(e:OE h n=some o):∃a,h.nsMap mainGlobals n=some (.ref a)/\a≠sysModules/\h.get? a=some o:=by
 obtain⟨v,h1,e⟩:=aO e;obtain⟨a,_,e⟩:=aO e;by_cases q:a.1=sysModules
 ·rw[if_pos q]at e;exact no e
 ·rw[if_neg q]at e;exact⟨a.1,h1.trans (congrArg some a.2),q,e⟩
theorem Vc:(L3.map (·.1)).Nodup:=Bw _ (by rfl')
theorem Vd:(L4.map (·.1)).Nodup:=by decide
theorem I9{m:Str->Option Value}{n:Str}{b:UInt64}(h:(m n).map ae8=some (some b)):∃t,m n=some (.float b t)/\t≠0:=by
 obtain⟨v,h1,h2⟩:=dM h;rw[h1];obtain⟨⟨⟨y,t⟩,rfl⟩,_,h2⟩:=aO h2;have h2:(bif cy t 0 then none else some y)=some b:=h2;cases ht:cy t 0 with
 |true=>rw[ht]at h2;exact no h2
 |false=>
  rw[ht]at h2;exact⟨t,congrArg (λy=>some (Value.float y t)) (ai h2),Nat.ne_of_beq_eq_false ht⟩
theorem Qt{w:World}{h:Heap}{n:Str}{K V:Type}[DecidableEq K](knd:KeyKind pw w K)(kf:Value->Option K)(vf:Value->Option V)(his:∀v k,kf v=some k->knd.is k v=true){L:List (K×V)}(hL:(L.map (·.1)).Nodup)
(e:HY (λe=>(e.hash,kf e.key,vf e.val)) h n=some (true,L.map λx=>(knd.hash x.1,some x.1,some x.2))):∃a,h.nsMap mainGlobals n=some (.ref a)/\a≠sysModules/\∃kx,h.DictOf knd a kx/\kx.map (λkv=>(kv.1,vf kv.2))=L.map (λx=>(x.1,some x.2)):=by
 obtain⟨o,h1,h2⟩:=aO e;obtain⟨a,ha,hs,ho⟩:=zG h1;obtain⟨cls,dict,data,slots⟩:=o;obtain⟨⟨⟨xs,ep⟩,hx⟩,_,h2⟩:=dM h2;have hx:data=.dict xs ep:=hx;subst hx;obtain⟨c,c5⟩:=gV h2;obtain⟨c,c3⟩:=(ay _ _).mp c;obtain⟨c1,c2⟩:=(ay _ _).mp c;obtain⟨kx,p,q,r⟩:=abE knd kf vf his L _ c5;refine⟨a,ha,hs,kx,⟨_,xs,ep,ho,⟨eq_of_beq c1,cV.mp c2,aeW.mp c3⟩,rfl,λe he=>q e (Array.mem_toList_iff.mpr he),p,?_⟩,r⟩;have:=congrArg (List.map Prod.fst) r;rw[cG,cG]at this;exact(show kx.map (·.1)=L.map (·.1)from this)▸hL
theorem Ve:∀k∈n9,hashInt k=k:=by decide
theorem abH(e:OG h "b1_set"=some (true,n9.map λi=>(i,some i))):∃a,h.nsMap mainGlobals "b1_set"=some (.ref a)/\h.SetOf (intKind pw w) a (λk=>n9.contains k) 27:=by
 obtain⟨o,h1,h2⟩:=aO e;obtain⟨a,ha,hs,ho⟩:=zG h1;obtain⟨cls,dict,data,slots⟩:=o;obtain⟨⟨⟨xs,ep,t⟩,hx⟩,_,h2⟩:=dM h2;have hx:data=.set xs ep t:=hx;subst hx;obtain⟨c,c5⟩:=gV h2;obtain⟨c,c3⟩:=(ay _ _).mp c;obtain⟨c1,c2⟩:=(ay _ _).mp c;obtain⟨c3,c4⟩:=(ay _ _).mp c3;have hl:xs.size=27:=by
  have:=congrArg rz c5;rw[ag,ag,cT]at this;exact this
 have mem:∀e∈xs.toList,∃k∈n9,e.1=k/\vInt e.2=some k:=λe he=>by
  obtain⟨k,hk,hke⟩:=jR (c5▸iw (f:=λe:Int×Value=>(e.1,vInt e.2)) he);obtain⟨q1,q2⟩:=gV hke;exact⟨k,hk,q1.symm,q2.symm⟩
 refine⟨a,ha,⟨⟨cls,dict,.set xs ep t,slots⟩,xs,ep,t,ho,⟨eq_of_beq c1,cV.mp c2,aeW.mp c3⟩,rfl,λe he=>?_,λk=>⟨λhk=>?_,λ⟨e,he,hke⟩=>?_⟩,hl▸(by decide),c4,hl⟩⟩
 ·obtain⟨k,hk,h1,h2⟩:=mem e he
  obtain⟨t,h3⟩:=vh h2;exact⟨⟨k,Dh w h2,h1.trans (Ve k hk).symm⟩,h3▸rfl⟩
 ·obtain⟨e,he,hke⟩:=jR (c5.symm▸iw (f:=λi=>(i,some i)) (nq.mp hk))
  exact⟨e,he,Dh w (gV hke).2⟩
 ·obtain⟨k',kG,_,h2⟩:=mem e he
  exact nq.mpr ((intKind pw w).inj _ _ _ hke (Dh w h2)▸kG)
theorem aiD(w:World)(s:ak)(e:(s.heap.isNs mainGlobals,HZ.look s.heap)=(true,Bs w)):YP w s.heap:=by
 obtain⟨e1,e2⟩:=gV e;have e2:OH ["ONE_THIRD","ONE_SIXTH","TWO_THIRD"] "b1_set" "b3_exceptions" "EXACT_TOKEN_TYPES" s.heap=Bs w:=e2;have f:=congrArg Look.fl e2;obtain⟨f1,f⟩:=d6 f;obtain⟨f2,f⟩:=d6 f;refine⟨s.heap.nsMap mainGlobals,.of_isNs e1,λx hx=>?_,abH (congrArg Look.st e2),Qt (intKind pw w) vInt vStr (λ_ _=>Dh w) Vc (congrArg Look.d3 e2),Qt (strKind pw w) vStr vInt (λ_ _=>abD w) Vd (congrArg Look.d4 e2)⟩;rcases aL.mp hx with rfl|hx
 ·exact I9 f1
 ·rcases aL.mp hx with rfl|hx
  ·exact I9 f2
  ·rw[aU.mp hx];exact I9 (d6 f).1
theorem dict_keeps{w:World}{h h':Heap}{a:Addr}{K:Type}[DecidableEq K]{knd:KeyKind pw w K}{kx:List (K×Value)}(k:bU h h')(x:h.DictOf knd a kx):h'.DictOf knd a kx:=by
 obtain⟨o,es,ep,ho,r⟩:=x;exact⟨o,es,ep,k _ _ ho,r⟩
theorem Gl(w:World)(h h':Heap)(y:YP w h)(k:∀b o,h.get? b=some o->h'.get? b=some o):YP w h':=by
 cases y with
 |mk mg g fl s d3 d4=>
 refine⟨mg,g.keeps k,fl,?_,?_,?_⟩
 ·obtain⟨a,a1,o,es,ep,t,a2,a3⟩:=s
  exact⟨a,a1,o,es,ep,t,k _ _ a2,a3⟩
 ·obtain⟨b,b1,b2,kx,b3,b4⟩:=d3
  exact⟨b,b1,b2,kx,dict_keeps k b3,b4⟩
 ·obtain⟨b,b1,b2,kx,b3,b4⟩:=d4
  exact⟨b,b1,b2,kx,dict_keeps k b3,b4⟩
end
section
def px:List N2:=recsOf hZ
structure qk(mg mb:Str->Option Value)(w:World)(h:Heap):Prop where
 g:h.Ns mainGlobals mg
 b:h.Ns builtinsNs mb
 fn:∀d∈px,∃a o pm code doc,mg d.name=some (.ref a)/\h.get? a=some o/\o.data=.func (fO d.name d.params d.body d.scope pm code doc)/\h.CodeRec code d.name
 const:∀x d,valOf hZ x=some d->∃v,mg x=some v/\∀h':Heap,Reads h' v d []
 free:∀x,x∉startupNames->x∉looseW hZ jg->x∉(recsOf hZ).map (·.name)->x∉(litsOf hZ).map (·.1)->x∉(clssOf hZ (looseW hZ jg)).map (·.name)->mg x=none
 builtins:∀x:Str,x≠"__name__"->mb x=bootBuiltins x
 bmain:∃bm ob,mg "__builtins__"=some (.ref bm)/\bm≠builtinsNs/\h.get? bm=some ob/\ob.cls=.type "module"/\ob.dict=some builtinsNs/\ob.data=.plain
 yp:YP w h
def sr(w:World)(h:Heap):Prop:=∃mg mb,qk mg mb w h
theorem qk.keeps(x:qk mg mb w h)(k:∀b o,h.get? b=some o->h'.get? b=some o):qk mg mb w h':=by
 refine⟨x.g.keeps k,x.b.keeps k,λd hd=>?_,x.const,x.free,x.builtins,?_,Gl w h h' x.yp k⟩
 ·obtain⟨a,o,pm,code,doc,h1,h2,h3,h4⟩:=x.fn d hd
  exact⟨a,o,pm,code,doc,h1,k _ _ h2,h3,h4.keeps k⟩
 ·obtain⟨bm,ob,h1,h2,h3,r⟩:=x.bmain
  exact⟨bm,ob,h1,h2,k _ _ h3,r⟩
def Yd(x:Str):Bool:= !startupNames.contains x&&(!(looseW hZ jg).contains x&&(!((recsOf hZ).map (·.name)).contains x&&(!((litsOf hZ).map (·.1)).contains x&& !((clssOf hZ (looseW hZ jg)).map (·.name)).contains x)))
theorem qk.bv(x:qk mg mb w h)(f:Yd n=true)(hn:n≠"__name__")(hv:bootBuiltins n=some v):Bv h n v:=by
 unfold Yd at f;simp only[ay,cF,List.contains_eq_mem,decide_eq_false_iff_not]at f;obtain⟨f1,f2,f3,f4,f5⟩:=f;exact⟨mg,mb,x.g,x.free n f1 f2 f3 f4 f5,x.b,(x.builtins n hn).trans hv⟩
def glL:List (Str×Int):=([("_DIV_LIMIT",4000),("ENDMARKER",0),("LPAR",7),("RPAR",8),("LSQB",9),("RSQB",10),("COLON",11),("COMMA",12),("SEMI",13),("PLUS",14),("MINUS",15),("STAR",16),("SLASH",17),("VBAR",18),("AMPER",19),("LESS",20),("GREATER",21),("EQUAL",22),("DOT",23),("PERCENT",24),("LBRACE",25),("RBRACE",26),("EQEQUAL",27),("NOTEQUAL",28),("LESSEQUAL",29),("GREATEREQUAL",30),("TILDE",31),("CIRCUMFLEX",32),("LEFTSHIFT",33),("RIGHTSHIFT",34),("DOUBLESTAR",35),("PLUSEQUAL",36),("MINEQUAL",37),("STAREQUAL",38),("SLASHEQUAL",39),("PERCENTEQUAL",40),("AMPEREQUAL",41),("VBAREQUAL",42),("CIRCUMFLEXEQUAL",43),("LEFTSHIFTEQUAL",44),("RIGHTSHIFTEQUAL",45),("DOUBLESTAREQUAL",46),("DOUBLESLASH",47),("DOUBLESLASHEQUAL",48),("AT",49),("ATEQUAL",50),("RARROW",51),("ELLIPSIS",52),("COLONEQUAL",53),("EXCLAMATION",54),("NT_OFFSET",256)]:List (String×Int)).map λx=>(uz x.1,x.2)
theorem abI:glL.map (λx=>valOf hZ x.1)=glL.map (λx=>some (.int x.2)):=by rfl'
structure aiE(p:oQ)(s:Scope):Prop where
 k1:p.posonlyargs=[]
 k2:p.kwonlyargs=[]
 k3:p.vararg=none
 k4:p.kwarg=none
 k5:(p.args.map (·.arg)).Nodup
 k6:s.kind=.function
 k7:s.isGenerator=false
 k8:s.isCoroutine=false
 k9:(p.args.map (·.arg)).all (AO s.names)=true
 Vf:(s.names.map (·.1)).Nodup
def Ja(p:oQ)(s:Scope):Bool:=p.posonlyargs.isEmpty&&(p.kwonlyargs.isEmpty&&(p.vararg.isNone&&(p.kwarg.isNone&&(decide ((p.args.map (·.arg)).Nodup)&&(s.kind==.function&&(!s.isGenerator&&(!s.isCoroutine&&((p.args.map (·.arg)).all (AO s.names)&&decide ((s.names.map (·.1)).Nodup)))))))))
theorem Jb(h:Ja p s=true):aiE p s:=by
 obtain⟨k1,h⟩:=(ay _ _).mp h;obtain⟨k2,h⟩:=(ay _ _).mp h;obtain⟨k3,h⟩:=(ay _ _).mp h;obtain⟨k4,h⟩:=(ay _ _).mp h;obtain⟨k5,h⟩:=(ay _ _).mp h;obtain⟨k6,h⟩:=(ay _ _).mp h;obtain⟨k7,h⟩:=(ay _ _).mp h;obtain⟨k8,h⟩:=(ay _ _).mp h;obtain⟨k9,Vf⟩:=(ay _ _).mp h;exact⟨iI.mp k1,iI.mp k2,cV.mp k3,cV.mp k4,of_decide_eq_true k5,eq_of_beq k6,cF _▸k7,cF _▸k8,k9,of_decide_eq_true Vf⟩
theorem KV:(px.all λd=>Ja d.params d.scope)=true:=by rfl'
def Wof(f:Str):List Str:=
 if f="_divmod_pos" then["q_digits"]else if f="_law_page" then["row"]else if f="_law_read" then["row"]else if f="_law_ways" then["row"]else if f="_law_joined" then["ends"]
 else if f="_law_even" then["ties"]else[]
def KW:D->Option Int
 |.int k=>some k
 |_=>none
def Qu:D->Option Str
 |.str k=>some k
 |_=>none
def abJ:List D->Option D
 |d::r=>if r.isEmpty then some d else none
 |[]=>none
def aiF:List D->Option (D×D)
 |d::r=>(abJ r).map λe=>(d,e)
 |[]=>none
def Jc(g:Str)(ds:List D):Option D:=
 if g="b3_exceptions" then((abJ ds).bind KW).map λk=>match L3.lookup k with|some x=>.str x|none=>.none
 else if g="EXACT_TOKEN_TYPES" then(aiF ds).bind λp=>(Qu p.1).bind λk=>(KW p.2).map λd=>.int ((L4.lookup k).getD d)
 else none
def Jd(g:Str)(x:D):Option Bool:=
 if g="b1_set" then(KW x).map λi=>n9.contains i
 else if g="EXACT_TOKEN_TYPES" then(Qu x).map λk=>(L4.lookup k).isSome
 else none
def Vg(n:Str):Option D:=match floats.lookup n with
 |some x=>some (.aR x)
 |none=>(glL.lookup n).map .int
def Ye(prim:Str->Option (List D->Option D)):zF where
 fns f:=(px.find? (λd=>d.name==f)).map λd=>(d.params.args.map (·.arg),d.body,d.scope)
 W:=Wof
 prim:=prim
 gl:=Vg
 get:=Jc
 mem:=Jd
theorem sX(h:KW d=some i):d=.int i:=by
 cases d<;>first|exact no h|exact congrArg D.int (ai h)
theorem zH(h:Qu d=some i):d=.str i:=by
 cases d<;>first|exact no h|exact congrArg D.str (ai h)
theorem B1(h:abJ ds=some d):ds=[d]:=by
 cases ds with
 |nil=>exact no h
 |cons e r=>
  obtain⟨h1,h2⟩:=bh h;rw[iI.mp h1,h2]
theorem MV(h:aiF ds=some p):ds=[p.1,p.2]:=by
 cases ds with
 |nil=>exact no h
 |cons e r=>
  obtain⟨d,h1,rfl⟩:=dM h;rw[B1 h1]
theorem xI{K V:Type}[BEq K][LawfulBEq K][DecidableEq K](k:K)(L:List (K×V)):((L.find? λx=>decide (x.1=k)).map λx=>some x.2)=(L.lookup k).map some:=by
 induction L with
 |nil=>rfl
 |cons x L ih=>
  rw[HH,eL];by_cases h:x.1=k
  ·rw[decide_eq_true h,h,beq_self_eq_true];rfl
  ·rw[decide_eq_false h,beq_eq_false_iff_ne.mpr (uP h)];exact ih
theorem Qv(kx:List (Int×Value))(h:kx.map (λkv=>(kv.1,vStr kv.2))=L3.map (λx=>(x.1,some x.2)))(k:Int):(valueAt kx k).map vStr=(L3.lookup k).map some:=(Gk vStr L3 kx h k).trans (xI k L3)
theorem Gm(kx:List (Str×Value))(h:kx.map (λkv=>(kv.1,vInt kv.2))=L4.map (λx=>(x.1,some x.2)))(k:Str):(valueAt kx k).map vInt=(L4.lookup k).map some:=(Gk vInt L4 kx h k).trans (xI k L4)
theorem aiG(x:qk mg mb w h)(e:((px.find? (λd=>d.name==f)).map λd=>(d.params.args.map (·.arg),d.body,d.scope))=some (ps,body,sc)):
 ∃a o fd,Gv h f (.ref a)/\h.get? a=some o/\o.data=.func fd/\h.CodeRec fd.code fd.qualname/\Qq fd ps body sc.names:=by
 obtain⟨d,hd,e⟩:=dM e;simp only[qn]at e;obtain⟨rfl,rfl,rfl⟩:=e;have hm:=gW hd;have hn:d.name=f:=by simpa using HF hd
 obtain⟨a,o,pm,code,doc,h1,h2,h3,h4⟩:=x.fn d hm;have k:=Jb (bf.mp KV d hm);exact⟨a,o,_,⟨mg,x.g,hn▸h1⟩,h2,h3,h4,⟨rfl,rfl,k.k6,k.k7,k.k8,rfl,rfl,rfl,λvs hl=>pv (fd:=fO d.name d.params d.body d.scope pm code doc) k.k1 k.k2 k.k3 k.k4 rfl k.k5 hl,k.k5,k.k9,k.Vf⟩⟩
section
variable{w:World}{h:Heap}{mg mb:Str->Option Value}{La:Heap->Prop}
theorem aiH(x:qk mg mb w h)(e:Vg n=some d):∃v,Gv h n v/\∀F:Addr->Prop,bT h F d v:=by
 unfold Vg at e;cases hf:floats.lookup n with
 |some b=>
  rw[hf]at e;cases x.yp with
  |mk SY g' fl _ _ _=>
  obtain⟨t,ht,ht0⟩:=fl (n,b) (mem_of_lookup hf);rw[<-ai e];exact⟨_,⟨SY,g',ht⟩,λF=>CL ht0⟩
 |none=>
  rw[hf]at e;obtain⟨i,hi,rfl⟩:=dM e;obtain⟨v,hv,hr⟩:=x.const n _ (List.map_inj_left.mp abI (n,i) (mem_of_lookup hi));cases hr h;exact⟨_,⟨mg,x.g,hv⟩,λF=>jW⟩
theorem Gp{K:Type}[DecidableEq K]{knd:KeyKind pw w K}{a:Addr}{kx:List (K×Value)}(t:h.DictOf knd a kx):∃o,h.get? a=some o/\o.cls=.type "dict"/\o.dict=none:=by
 obtain⟨o,es,ep,ho,hx,r⟩:=t;exact⟨o,ho,hx.1,hx.2.1⟩
theorem Qw(t3:s.heap.DictOf (intKind pw w) a kx)(s3:a≠sysModules)(l3:kx.map (λkv=>(kv.1,vStr kv.2))=L3.map (λx=>(x.1,some x.2)))(rs:aZ s.heap F [.int k] vs):
 wpAny (model pw w) A (call (.builtin "dict.get") (.ref a::vs)) (iJ F s (match L3.lookup k with|some x=>.str x|none=>.none)) E s:=by
 obtain⟨v,rfl,r1⟩:=PF rs;obtain⟨t,rfl⟩:=r1.int;refine call_meetsIn tw t3.typeIs N3 (PySem.F.args_dict_get_2 _ _) (meets_dict_get (intKind pw w) (k:=k) a (isInt_self k t) (beq_eq_false_iff_ne.mpr s3)) ⟨_,t3.mapOf,Keeps.Uv _,?_⟩;have hv:=Qv kx l3 k;cases hl:L3.lookup k with
 |none=>
  rw[hl]at hv;rw[sF.mp hv];exact E7
 |some y=>
  rw[hl]at hv;obtain⟨u,hu,hy⟩:=dM hv;rw[hu];exact B0 hy
theorem Qx(t4:s.heap.DictOf (strKind pw w) a kx)(s4:a≠sysModules)(l4:kx.map (λkv=>(kv.1,vInt kv.2))=L4.map (λx=>(x.1,some x.2)))(rs:aZ s.heap F [.str k,.int i] vs):
 wpAny (model pw w) A (call (.builtin "dict.get") (.ref a::vs)) (iJ F s (.int ((L4.lookup k).getD i))) E s:=by
 obtain⟨v,_,rfl,r1,r⟩:=rs.gk;obtain⟨u,rfl,r2⟩:=PF r;obtain⟨t,rfl⟩:=r1.str;obtain⟨t2,rfl⟩:=r2.int;refine call_meetsIn tw t4.typeIs N3 (PySem.F.args_dict_get_3 _ _ _) (meets_dict_get_default (strKind pw w) (k:=k) a (show(strKind pw w).is k (.str k t)=true from sW k t) (beq_eq_false_iff_ne.mpr s4) _) ⟨_,t4.mapOf,Keeps.Uv _,?_⟩;have hv:=Gm kx l4 k;cases hl:L4.lookup k with
 |none=>
  rw[hl]at hv;rw[sF.mp hv];exact jW
 |some y=>
  rw[hl]at hv;obtain⟨u,hu,hy⟩:=dM hv;rw[hu];exact vh hy
def aiI(w:World)(La:Heap->Prop)(h:Heap)(g:Str)(ds:List D)(d:D):Prop:=∃a o,Gv h g (.ref a)/\h.get? a=some o/\o.cls=.type "dict"/\o.dict=none/\
    ∀(A:aE)(E:Value->ak->Prop) F s vs,dN A La s->jy F s.heap->bU h s.heap->aZ s.heap F ds vs->wpAny (model pw w) A (call (.builtin "dict.get") (.ref a::vs)) (iJ F s d) E s
theorem abK(x:qk mg mb w h){g:Str}{ds:List D}{d:D}(e:Jc g ds=some d):aiI w La h g ds d:=by
 unfold Jc at e;cases x.yp with
 |mk SY g' _ _ d3 d4=>
 by_cases hg:g="b3_exceptions"
 ·rw[if_pos hg]at e
  obtain⟨k,hk,rfl⟩:=dM e;obtain⟨y,h1,h2⟩:=aO hk;obtain⟨a,m,s3,kx,t,l⟩:=d3;obtain⟨o,ho,hc,hd⟩:=Gp t;rw[B1 h1,sX h2];exact⟨a,o,⟨SY,g',hg▸m⟩,ho,hc,hd,λA E F s vs _ _ kk rs=>Qw (dict_keeps kk t) s3 l rs⟩
 ·rw[if_neg hg]at e
  obtain⟨hg,e⟩:=dy e;obtain⟨p,h1,e⟩:=aO e;obtain⟨k,h2,e⟩:=aO e;obtain⟨i,h3,rfl⟩:=dM e;obtain⟨a,m,s4,kx,t,l⟩:=d4;obtain⟨o,ho,hc,hd⟩:=Gp t;rw[MV h1,zH h2,sX h3];exact⟨a,o,⟨SY,g',hg▸m⟩,ho,hc,hd,λA E F s vs _ _ kk rs=>Qx (dict_keeps kk t) s4 l rs⟩
def aiJ(w:World)(La:Heap->Prop)(h:Heap)(g:Str)(y:D)(b:Bool):Prop:=∃a,Gv h g (.ref a)/\
    ∀(A:aE)(E:Value->ak->Prop) F s v,dN A La s->bU h s.heap->bT s.heap F y v->wpAny (model pw w) A (compareOp .In v (.ref a)) (λr s'=>r=.bool b/\Keeps s s') E s
theorem abL(x:qk mg mb w h)(e:Jd g y=some b):aiJ w La h g y b:=by
 unfold Jd at e;cases x.yp with
 |mk SY g' _ st _ d4=>
 by_cases hg:g="b1_set"
 ·rw[if_pos hg]at e
  obtain⟨i,hk,rfl⟩:=dM e;obtain⟨a,m,o,es,ep,t,ho,r⟩:=st;rw[sX hk];refine⟨a,⟨SY,g',hg▸m⟩,λA E F s v am kk r0=>?_⟩;obtain⟨t',rfl⟩:=r0.int;exact wpAny_inSet_of (knd:=intKind pw w) (k:=i) (isInt_self i t') rfl ⟨o,es,ep,t,kk _ _ ho,r⟩ ⟨rfl,Keeps.Uv _⟩
 ·rw[if_neg hg]at e
  obtain⟨hg,e⟩:=dy e;obtain⟨k,hk,rfl⟩:=dM e;obtain⟨a,m,s4,kx,t4,l4⟩:=d4;rw[zH hk];refine⟨a,⟨SY,g',hg▸m⟩,λA E F s v am kk r0=>?_⟩;obtain⟨t',rfl⟩:=r0.str;have hb:=congrArg qr (Gm kx l4 k);rw[aek,aek]at hb;exact wpAny_in_of (knd:=strKind pw w) (k:=k) (sW k t') (beq_eq_false_iff_ne.mpr s4) (dict_keeps kk t4).mapOf ⟨hb▸rfl,Keeps.Uv _⟩
end
theorem abM(w:World)(La:Heap->Prop)(prim:Str->Option (List D->Option D))(N8:∀h,La h->∃mg mb,qk mg mb w h)
(aiK:∀h f p ds d,La h->prim f=some p->p ds=some d->∃a o fd,Gv h f (.ref a)/\h.get? a=some o/\o.data=.func fd/\
 ∀(A:aE)(E:Value->ak->Prop) F s vs,Bu 50 A->dN A La s->jy F s.heap->bU h s.heap->aZ s.heap F ds vs->wpAny (model pw w) A (call (.ref a) vs) (iJ F s d) E s):I8 pw w La (Ye prim) where
 gl:=λh n d la e=>by
  obtain⟨mg,mb,x⟩:=N8 h la;exact aiH x e
 bi:=λh b la=>by
  obtain⟨mg,mb,x⟩:=N8 h la;cases b<;>exact x.bv (by rfl') (by decide) (by rfl')
 SQ:=λh la=>by
  obtain⟨mg,mb,x⟩:=N8 h la;exact x.bv (by rfl') (by decide) (by rfl')
 rev:=λh la=>by
  obtain⟨mg,mb,x⟩:=N8 h la;exact x.bv (by rfl') (by decide) (by rfl')
 ty:=λh n la hn=>by
  obtain⟨mg,mb,x⟩:=N8 h la;rcases hn with rfl|rfl
  ·exact x.bv (by rfl') (by decide) (by rfl')
  ·exact x.bv (by rfl') (by decide) (by rfl')
 fn:=λh f ps body sc la _ e=>by
  obtain⟨mg,mb,x⟩:=N8 h la;exact aiG x e
 prim:=λh f p ds d la=>aiK h f p ds d la
 get:=λh g ds d la e=>by
  obtain⟨mg,mb,x⟩:=N8 h la;exact abK x e
 mem:=λh g y b la e=>by
  obtain⟨mg,mb,x⟩:=N8 h la;exact abL x e
end
section
section
variable{prog:bb}{w:World}{A:aE}{E:Value->ak->Prop}{F:Addr->Prop}{s:ak}{La:Heap->Prop}
structure Qy(fd:ky)(fv:List Str)(body:List Stmt)(ks:bW)(cl:List (Str×Addr)):Prop where
 bdy:fd.body=.stmts body
 N7:fd.scope.names=ks
 kind:fd.scope.kind=.function
 gen:fd.scope.isGenerator=false
 co:fd.scope.isCoroutine=false
 clo:fd.closure=cl
 gl:fd.globals=mainGlobals
 bi:fd.builtins=builtinsNs
 bind:∀vs:List Value,vs.length=fv.length->bindArgs fd ⟨vs,[]⟩=pure (fv.zip vs)
 nd:fv.Nodup
 loc:∀p∈fv,ks.lookup p=some .local
 noc:∀x∈ks,x.2≠.cell
 fre:∀n c,cl.lookup n=some c->ks.lookup n=some .free
 inj:∀n n' c,cl.lookup n=some c->cl.lookup n'=some c->n=n'
theorem xJ:∀(a b:cw),look (a++b) n=some d->look a n=some d\/look b n=some d:=by
 intro zx
 induction zx with
 |nil=>
  rintro b h;exact .inr h
 |cons zh a ih=>
  obtain⟨m,e⟩:=zh;rintro b h;rw[du]at h;unfold look at h;by_cases hm:m=n
  ·rw[if_pos hm]at h
   left;dsimp only[look];rw[if_pos hm];exact h
  ·rw[if_neg hm]at h
   rcases ih b h with q|q
   ·left;dsimp only[look];rw[if_neg hm];exact q
   ·exact .inr q
theorem B2(fi:Qy fd fv body ks cl)
(zD:A.depth<recursionLimit)(ho:s.heap.get? a=some o)(zE:o.data=.func fd)(y0:s.heap.CodeRec fd.code fd.qualname)(hl:ds.length=fv.length)
(am:dN A La s)(un:A.units+203<cLine)(lo:jy F s.heap)(r:aZ s.heap F ds vs)
(hF:∀n c,cl.lookup n=some c->F c)
(hc:∀n d,look σc n=some d->ks.lookup n=some .free/\∃c v,cl.lookup n=some c/\s.heap.IsCell c (some v)/\bT s.heap F d v)
(h:∀env aQ G oa,env.scope.names=ks->env.cells=cl->dN (A.deeper env) La aQ->pk env F s->SI env F s (fv.zip ds++σc) [] aQ G oa->(∀E':Value->ak->Prop,wpAny (model prog w) (A.deeper env) (execs body env) (λf s'=>Q (match f with|.ret v=>v|_=>.none) s') E' aQ)):
 wpAny (model prog w) A (call (.ref a) vs) Q E s:=by
 have hvl:=r.length;refine wpAny_call ?_;have kr:∀n,(callEnv fd s.heap.objs.size a).kindOf n=ks.lookup n:=λn=>by
  show fd.scope.names.lookup n=_;rw[fi.N7]
 have hzl:(fv.zip vs).map (·.1)=fv:=List.map_fst_zip (by omega);refine codeAny_call_def (binds:=fv.zip vs) zD ho zE am.nl y0 fi.bdy (λM A' Q' E' hq=>by rw[fi.bind vs (by omega)];exact aM hq) (by rw[fi.N7];exact fi.noc) (λx hx=>by
  rw[fi.N7];exact fi.loc _ (lh hx).1) (λh₀ Ig hk=>?_) fi.co fi.gen fi.kind
 generalize mW:callEnv fd s.heap.objs.size a=env;have A0:env.locals=s.heap.objs.size:=by rw[<-mW];rfl
 have sU:env.scope=fd.scope:=by rw[<-mW];rfl
 have sV:env.cells=cl:=by rw[<-mW,<-fi.clo];rfl
 have qM:∀n,env.kindOf n=ks.lookup n:=λn=>by unfold lQ;rw[sU,fi.N7]
 have nw:∀b,s.heap.objs.size<=b->s.heap.get? b=none:=λb hb=>by
  cases e:s.heap.get? b with
  |none=>rfl
  |some o=>exact absurd (dT e) (Bg.mpr hb)
 have old:∀b,F b->b≠env.locals:=λb q z=>by
  have:=lo b q;rw[z,A0,nw _ (bD _)]at this;cases this
 let G:Addr->Prop:=λb=>F b\/b=env.locals;have hGn:∀b,G b->F b\/s.heap.get? b=none:=λb q=>q.imp id λz=>by rw[z,A0];exact nw _ (bD _)
 have hGr:∀{d':D}{v:Value},bT s.heap F d' v->bT h₀ G d' v:=λr=>bT.kept (F:=F) (λb o _ e=>hk b o e) hGn _ _ r;have fr:pk env F s:=⟨nw _ (by rw[A0];exact bD _),λn c how e=>by
  rw[sV]at e;have q:=fi.fre n c e;rcases how with how|how<;>(rw[qM,q]at how;cases how),lo⟩
 have X9:((fv.zip vs).reverse.map (·.1)).Nodup:=by
  rw[Eg,hzl];unfold List.Nodup;rw[List.pairwise_reverse];exact List.Pairwise.imp uP fi.nd
 have x1:In env G (fv.zip ds++σc) h₀:=by
  refine⟨by rw[sU];exact fi.kind,by rw[<-mW];exact fi.gl,by rw[<-mW];exact fi.bi,λb q=>?_,.inr rfl,λn c e=>?_,λn n' c e e'=>?_,λn kG=>?_,⟨_,by rw[A0];exact Ig,λn d' e=>⟨λkG=>?_,λkG=>?_⟩⟩⟩
  ·rcases q with q|q
   ·obtain⟨o',e⟩:=aA.mp (lo b q)
    rw[hk _ _ e];rfl
   ·obtain⟨o',_,_,e,_⟩:=Ig
    rw[q,A0,e];rfl
  ·rw[sV]at e
   exact⟨.inl (hF n c e),old c (hF n c e)⟩
  ·rw[sV]at e e'
   exact fi.inj n n' c e e'
  ·rw[qM]at kG
   exact absurd rfl (fi.noc _ (mem_of_lookup kG))
  ·rcases xJ _ _ e with q|q
   ·obtain⟨v,e1,e2⟩:=tS r q
    refine⟨v,?_,hGr e2⟩;exact mem_lookup X9 (sG.mpr (mem_of_lookup e1))
   ·have:=(hc n d' q).1
    rw[qM,this]at kG;cases kG
  ·rcases xJ _ _ e with q|q
   ·obtain⟨v,e1,_⟩:=tS r q
    have hm:=fi.loc _ (lh (mem_of_lookup e1)).1;rcases kG with kG|kG<;>(rw[qM,hm]at kG;cases kG)
   ·obtain⟨_,c,v,e1,e2,e3⟩:=hc n d' q
    exact⟨c,v,by rw[sV];exact e1,e2.keeps hk,hGr e3⟩
 have kp:Keeps s {s with heap:=h₀,toks:=s.toks+(fv.zip vs).length}:=⟨h₀,_,rfl,hk⟩
 have tk1:1<=s.toks+(fv.zip vs).length:=by have:=am.tk;omega
 have si:SI env F s (fv.zip ds++σc) [] {s with heap:=h₀,toks:=s.toks+(fv.zip vs).length} G (λ_=>0):=
  ⟨λb q=>.inl q,hGn,kp,tk1,x1.sub λn d' e=>by rw[fY]at e;simpa using e,λn hn=>(nomatch hn),λn hn=>(nomatch hn),λn n' hn=>(nomatch hn)⟩
 have am0:=am.keeps kp tk1;have am':dN (A.deeper env) La {s with heap:=h₀,toks:=s.toks+(fv.zip vs).length}:=⟨am0.hh,am0.nb,am0.nl,am0.gl,tk1,by rw[jQ];omega,am0.la⟩
 exact aj (h env _ G _ (by rw[sU];exact fi.N7) sV am' fr si _) (λf s' q=>q) λ_ _ e=>e
end
end
section
def stK:Stmt->List ae×List Stmt×List Stmt×se×Pos:=stC ([],[],[],.Add,default) (λ_ _ _ _ p=>([],[],[],.Add,p)) (λe p=>([e.getD default],[],[],.Add,p)) (λts e p=>(e::ts,[],[],.Add,p)) (λt o e p=>([e,t],[],[],o,p)) (λx e a b p=>([e,x],a,b,.Add,p)) (λt a b p=>([t],a,b,.Add,p)) (λt a b p=>([t],a,b,.Add,p)) (λe p=>([e],[],[],.Add,p))
def br(st:Stmt):ae:=(stK st).1.headD default
def eA(st:Stmt):ae:=br st
def aS(st:Stmt):List Stmt:=(stK st).2.1
def gT(st:Stmt):List Stmt:=(stK st).2.2.1
def cx(st:Stmt):Pos:=(stK st).2.2.2.2
def vk(st:Stmt):ae:=(Qm (stK st).1.tail).getD default
def lJ(st:Stmt):Pos:=((xG (vk st)).getD ("",default)).2
def aq(i:Nat)(b:List Stmt):Stmt:=b.getD i default
section
variable{V:Ev}{ks:bW}{W:List Str}{wf:Nat}{X:XD}{σ:cw}{own:List Str}{rest:List Stmt}
theorem rL(h:V.d ks (bZ own σ) e=some d)(hk:AO ks n=true)(hs:p6 ks n p e=false):
 cM (cY V ks W wf X) (.Assign [.Name n p] e q::rest) σ own=cM (cY V ks W wf X) rest (lV W n (d,jz e&&mP d) (σ,own)).1 (lV W n (d,jz e&&mP d) (σ,own)).2:=by
 show(DW (AY V ks W n p e σ own) _)=_;unfold AY;rw[if_pos hk,hs,if_neg aJ];unfold ey;rw[h];rfl
theorem Qz(h:V.b ks σ t=some c):
 cM (cY V ks W wf X) (.If t a b q::rest) σ own=(if c=true then X a σ own else X b σ own).bind λr=>match r with
  |.nx σ' own'=>cM (cY V ks W wf X) rest σ' own'
  |.rt d=>some (.rt d):=by
 show(DW (DW (V.b ks σ t) _) _)=_;rw[h];rfl
theorem Vh(h:V.d ks σ e=some d):cM (cY V ks W wf X) (.Return (some e) q::rest) σ own=some (.rt d):=by
 show(DW (Option.map _ (V.d ks σ e)) _)=_;rw[h];rfl
theorem yr:AZ V ks W wf (n+1) b σ own=cM (cY V ks W wf (AZ V ks W wf n)) b σ own:=rfl
end
end
section
section
variable{prog:bb}{w:World}{A:aE}{E:Value->ak->Prop}{G F:Addr->Prop}{env:Env}{La:Heap->Prop}{QA:aE->Prop}{V:Ev}{T:fe}{σ:cw}{s:ak}
theorem Di(b):∀(a:List Stmt),execs (a++b) env=(execs a env >>= λf=>match f with
 |.next=>execs b env
 |f=>pure f):=by
 intro zx
 induction zx with
 |nil=>
  exact rfl
 |cons st a ih=>
  rw[du,execs_cons,execs_cons,bind_assoc];congr 1;funext f;cases f with
  |next=>exact ih
  |brk=>rfl
  |cont=>rfl
  |ret v=>rfl
theorem vm(h:wpAny (model prog w) A (execs a env) (λf s'=>match f with
 |.next=>wpAny (model prog w) A (execs b env) Q E s'
 |f=>Q f s') E s):wpAny (model prog w) A (execs (a++b) env) Q E s:=by
 rw[Di];exact aw (aj h (λf s' q=>by cases f<;>first|exact q|exact aM q) λ_ _ e=>e)
theorem B3(VO:dz prog w La QA V)(bu:QA A)(am:dN A La s)(x:In env G σ s.heap)(hk:Cl env f)(hd1:(f==("__debug__":Str))=false)
(hd2:(f==("__classdict__":Str))=false)(hc:env.cells.lookup f=some c)(hv:s.heap.IsCell c (some (.ref fa)))(ho:s.heap.get? fa=some o)(abN:o.data=.func fd)(h1:uZ (V.d env.scope.names σ) args=some ds)
(k:∀s1 vs,Keeps s s1->1<=s1.toks->aZ s1.heap G ds vs->wpAny (model prog w) A (call (.ref fa) vs) Q E s1):wpAny (model prog w) A (eval (.Call (.Name f np) args [] pos) env) Q E s:=by
 have hp:=(kQ (env:=env) (pos:=pos) h1).1;show wpAny _ _ (do callWith pos (<-eval (.Name f np) env) [] (backTo pos (starEach args env)) []) _ _ _;refine aw ?_;have core:wpAny (model prog w) A (callWith pos (.ref fa) [] (backTo pos (starEach args env)) []) Q E s:=by
  refine lE (o:=o) (fd:=fd) (eu hp ?_);refine aj (bF am.tk (oF VO bu am x h1)) (λvs s1 q1=>?_) λ_ _ e=>e;obtain⟨t1,k1,r1⟩:=q1;exact⟨⟨Keeps.all k1 _ _ ho,abN⟩,k s1 vs k1 t1 r1⟩
 rcases hk with hk|hk
 ·exact mG (qt x.fn hk hc hv core) hd1
 ·exact mG (DU x.fn hk hc hv core hd2) hd1
end
def Dj(n:Str):List Stmt->List Stmt
 |s::r=>match fdS s with
  |some x=>if x.1=n then x.2.2.1 else Dj n r
  |none=>Dj n r
 |[]=>[]
def dB:List Stmt:=Dj "_digits2int" pw.main.body
def dI:Stmt:=aq 0 dB
def iB:List Stmt:=CF dI
def iK:bW:=(o6 dI).names
def exK:ae->List ae:=exC [] (λ_ es _=>es) (λl _ r _=>[l,r]) (λ_ x _=>[x]) (λt b e _=>[b,e,t]) (λ_ _ _ _=>[]) (λl _ _ _=>[l]) (λf args _ _=>f::args) (λ_ _ _=>[]) (λv i _=>[v,i]) (λ_ _=>[]) (λ_ _=>[]) (λ_ _ _=>[])
def QB(i:Nat)(e:ae):ae:=(exK e).getD i default
def qZ(e:ae):ae:=QB 0 e
def Je(e:ae):ae:=QB 1 e
def rM(i:Nat)(e:ae):ae:=QB (i+1) e
def exT(e:ae):ae:=QB 2 e
def iE:ae:=br (aq 3 iB)
theorem aiN:iB=[.If (eA (aq 0 iB)) (aS (aq 0 iB)) [] (cx (aq 0 iB)),.Assign [.Name "mid" (lJ (aq 1 iB))] (br (aq 1 iB)) (cx (aq 1 iB)),.Assign [.Name "shift" (lJ (aq 2 iB))] (br (aq 2 iB)) (cx (aq 2 iB))]++[.Return (some iE) (cx (aq 3 iB))]:=by rfl'
theorem aiO:iE=.BinOp (.BinOp (.Call (.Name "inner" (qZ (qZ (qZ iE))).pos) [.Name "mid" (rM 0 (qZ (qZ iE))).pos,.Name "R" (rM 1 (qZ (qZ iE))).pos] [] (qZ (qZ iE)).pos) .LShift (.Name "shift" (Je (qZ iE)).pos) (qZ iE).pos) .Add
 (.Call (.Name "inner" (qZ (Je iE)).pos) [.Name "L" (rM 0 (Je iE)).pos,.Name "mid" (rM 1 (Je iE)).pos] [] (Je iE).pos) iE.pos:=by rfl'
def Jf(L R n:Int)(xs:List D):cw:=[("L",.int L),("R",.int R),("digits",.lst xs),("n",.int n)]
section
variable{T:fe}
abbrev V6(T:fe):Ev:=jo T (dh T 6)
theorem QC(L R n)(xs):(V6 T).b iK (Jf L R n xs) (eA (aq 0 iB))=some (L+1==R):=by rfl'
theorem MW:aS (aq 0 iB)=[.Return (some (br (aq 0 (aS (aq 0 iB))))) (cx (aq 0 (aS (aq 0 iB))))]:=by rfl'
theorem aiP(L R n)(xs):(V6 T).d iK (Jf L R n xs) (br (aq 0 (aS (aq 0 iB))))=g8 (.lst xs) L:=by rfl'
theorem aiQ(L R n)(xs):(V6 T).d iK (Jf L R n xs) (br (aq 1 iB))=some (.int ((L+R).fdiv (2^(1:Int).toNat))):=by rfl'
def aiR(L R n m:Int)(xs:List D):cw:=[("L",.int L),("R",.int R),("digits",.lst xs),("n",.int n),("mid",.int m)]
theorem Vi(L R n m)(xs):(V6 T).d iK (aiR L R n m xs) (br (aq 2 iB))=az .Mult (.int (m - L)) (.int n):=by rfl'
def kW(n:Nat):List Int->Int
 |[]=>0
 |x::r=>x+2^n*kW n r
theorem QD(n):∀(a b:List Int),kW n (a++b)=kW n a+2^(n*a.length)*kW n b:=by
 intro zx
 induction zx with
 |nil=>
  rintro b;simp[kW]
 |cons x a ih=>
  rintro b;rw[du];show x+2^n*kW n (a++b)=(x+2^n*kW n a)+2^(n*(x::a).length)*kW n b;rw[ih b,aG,HI,HJ,lS];rw[lT,<-sj,Int.add_assoc,p0 (2^(n*a.length)) (2^n)]
theorem Jg(n):∀(a:List Int),(∀x∈a,0<=x/\x<2^n)->0<=kW n a/\kW n a<2^(n*a.length):=by
 intro zx
 induction zx with
 |nil=>
  rintro _;simp[kW]
 |cons x a ih=>
  rintro h;have ih:=ih λy hy=>h y (av _ hy);have hx:=h x (ax ..);have hp:(0:Int)<2^n:=Int.pow_pos (by decide);dsimp only[kW];refine⟨Int.add_nonneg hx.1 (Int.mul_nonneg (DT hp) ih.1),?_⟩;rw[aG,HI,HJ,lS];have h1:kW n a+1<=2^(n*a.length):=ih.2;have h2:2^n*(kW n a+1)<=2^n*2^(n*a.length):=Int.mul_le_mul_of_nonneg_left h1 (DT hp);rw[p0 (2^(n*a.length))];rw[lT,Int.mul_one]at h2;omega
theorem QE(h0:0<=x)(h:x<2^m)(hm:m<=990):sm x=true:=by
 unfold sm;have h1:x<2^1000:=alS h (by
  have:(2:Nat)^m<=2^1000:=aW (by decide) (by omega)
  exact_mod_cast this)
 have:(x.natAbs:Int)<2^1000:=by rw[Int.natAbs_of_nonneg h0];exact h1
 exact decide_eq_true (by exact_mod_cast this)
def Bq(k:Nat)(A:aE):Prop:=A.depth+k<=990/\A.units+3*k+203<cLine
theorem Bq.deeper(h:Bq (k+1) A)(env:Env):Bq k (A.deeper env):=⟨by
 have:=h.1;show A.depth+1+k<=990;omega,by
 have:=h.2;rw[jQ];omega⟩
theorem Bq.dep(h:Bq k A):A.depth<recursionLimit:=bx (ao (iM _ k) h.1) (by decide)
theorem Bq.un(h:Bq k A):A.units+203<cLine:=bx (fW (iM _ (3*k)) 203) h.2
theorem Bq.un2(h:Bq k A):A.units+200<cLine:=bx (gv (by decide) _) h.un
theorem Bq.le(h:Bq k A)(hj:j<=k):Bq j A:=⟨ao (gv hj _) h.1,bx (fW (gv (cE 3 hj) _) 203) h.2⟩
theorem abO(hn:n*c<=b)(h:1<=n):c<=b:=ao (uF c h) hn
theorem aiS(hn:n*c<=b)(h:1<=c):n<=b:=ao (Te n h) hn
theorem yt(hm:m=(L+R)/2)(h1:L<R)(h:¬L+1=R):L<m/\m<R:=by subst hm;omega
theorem aiT(hm:m=a/2):m+m<=a/\a<m+m+2:=by subst hm;omega
theorem Gq(hm:m=(L+R)/2)(hk:R - L<=2^(j+1)):m - L<=2^j/\R - m<=2^j:=by
 rw[uG,Nat.mul_two]at hk;obtain⟨h1,h2⟩:=aiT hm;generalize 2^j=p at*;have h3:=vT.mp hk;clear hm hk;exact⟨vT.mpr (by omega),vT.mpr (by omega)⟩
theorem aiU{L R:Nat}(h:L+1=R):((L:Int)+1==(R:Int))=true:=by rw[beq_iff_eq,<-h];rfl
theorem aiV{L R:Nat}(h:¬L+1=R):((L:Int)+1==(R:Int))=false:=by
 rw[beq_eq_false_iff_ne];exactλq=>h (Int.ofNat_inj.mp (show((L+1:Nat):Int)=(R:Int)from q))
theorem smI{x:Nat}(h:x<=100000):sm (x:Int)=true:=Pl (jb (by decide) (cg x)) (jb (gD.mpr h) (by decide))
structure lz(h:Heap)(F:Addr->Prop)(f:Addr)(xs:List Int)(n:Nat)(o:Obj)(fd:ky)(cl:List (Str×Addr))(cd ci cn:Addr):Prop where
 ho:h.get? f=some o
 hd:o.data=.func fd
 fi:Qy fd ["L","R"] iB iK cl
 rc:h.CodeRec fd.code fd.qualname
 ld:cl.lookup ("digits":Str)=some cd
 li:cl.lookup ("inner":Str)=some ci
 ln:cl.lookup ("n":Str)=some cn
 hF:∀m c,cl.lookup m=some c->F c
 vd:∃v,h.IsCell cd (some v)/\bT h F (.lst (xs.map .int)) v
 vi:h.IsCell ci (some (.ref f))
 vn:∃v,h.IsCell cn (some v)/\bT h F (.int n) v
theorem lz.keeps(I:lz h F f xs n o fd cl cd ci cn)(k:bU h h'):lz h' F f xs n o fd cl cd ci cn:=
 ⟨k _ _ I.ho,I.hd,I.fi,I.rc.keeps k,I.ld,I.li,I.ln,I.hF,by obtain⟨v,a,b⟩:=I.vd;exact⟨v,a.keeps k,b.keeps k⟩,I.vi.keeps k,by obtain⟨v,a,b⟩:=I.vn;exact⟨v,a.keeps k,b.keeps k⟩⟩
theorem lz.into(I:lz h F f xs n o fd cl cd ci cn)(hF:∀a,F a->G a)(x:In env G σ h)
(mJ:env.scope.names=iK)(rH:env.cells=cl)(l1:look σ "digits"=some (.lst (xs.map .int)))(l2:look σ "n"=some (.int n)):lz h G f xs n o fd cl cd ci cn:=by
 obtain⟨m,hm,hv⟩:=x.va;have fr:∀(nm:Str),iK.lookup nm=some .free->Cl env nm:=λnm e=>.inr (by unfold lQ;rw[mJ];exact e);refine⟨I.ho,I.hd,I.fi,I.rc,I.ld,I.li,I.ln,λm c e=>hF c (I.hF m c e),?_,I.vi,?_⟩
 ·obtain⟨c,v,e1,e2,e3⟩:=(hv _ _ l1).2 (fr _ (by decide))
  rw[rH,I.ld]at e1;cases e1;exact⟨v,e2,e3⟩
 ·obtain⟨c,v,e1,e2,e3⟩:=(hv _ _ l2).2 (fr _ (by decide))
  rw[rH,I.ln]at e1;cases e1;exact⟨v,e2,e3⟩
theorem QF{xs:List Int}{L:Nat}(h:L<xs.length)(hb:xs.length<2^60):g8 (.lst (xs.map .int)) (L:Int)=some (.int (xs[L]'h)):=by
 rw[Kz (by omega)];unfold UM seqIndex?;rw[ag];have e1:¬((L:Int)<0):=by omega
 simp only[e1,if_false];rw[if_pos (by simp;omega)];simp[h]
def Gr(w:World)(La:Heap->Prop)(f:Addr)(xs:List Int)(n:Nat)(o:Obj)(fd:ky)(cl:List (Str×Addr))(cd ci cn:Addr)(k:Nat):Prop:=
 ∀(L R:Nat),L<R->R<=xs.length->R - L<=2^k->∀(A:aE)(E:Value->ak->Prop)(s:ak)(F:Addr->Prop)(vs:List Value),Bq (k+1) A->dN A La s->jy F s.heap->
    lz s.heap F f xs n o fd cl cd ci cn->aZ s.heap F [.int L,.int R] vs->wpAny (model pw w) A (call (.ref f) vs) (iJ F s (.int (kW n ((xs.drop L).take (R - L))))) E s
theorem QG(L R:Nat):((L:Int)+R).fdiv (2^(1:Int).toNat)=(((L+R)/2:Nat):Int):=by
 rw[bp _ (by decide)];have:(2:Int)^(1:Int).toNat=2:=by decide
 rw[this];omega
def QH(L R n m t:Int)(xs:List D):cw:=[("L",.int L),("R",.int R),("digits",.lst xs),("n",.int n),("mid",.int m),("shift",.int t)]
def Vj:List Stmt:=iB.take 3
theorem Vk:Vj=[.If (eA (aq 0 iB)) (aS (aq 0 iB)) [] (cx (aq 0 iB)),.Assign [.Name "mid" (lJ (aq 1 iB))] (br (aq 1 iB)) (cx (aq 1 iB)),.Assign [.Name "shift" (lJ (aq 2 iB))] (br (aq 2 iB)) (cx (aq 2 iB))]:=by rfl'
theorem abP:iB=Vj++[.Return (some iE) (cx (aq 3 iB))]:=by rfl'
theorem vq(ha:sm a=true)(hb:sm b=true):az .Mult (.int a) (.int b)=some (.int (a*b)):=by
 show ec (if(sm a&&sm b)=true then some (D.int (a*b))else none) _=_;rw[ha,hb];rfl
theorem Jh(ha:sm a=true)(h0:0<=n)(h1:n<=100000):az .LShift (.int a) (.int n)=some (.int (a*2^n.toNat)):=by
 show(if sm a=true/\0<=n/\n<=100000 then some (D.int (a*2^n.toNat))else none)=_;rw[if_pos ⟨ha,h0,h1⟩]
section
variable{T:fe}
theorem Vl(L R n m t)(xs)(p q):uZ ((V6 T).d iK (QH L R n m t xs)) [.Name "mid" p,.Name "R" q]=some [.int m,.int R]:=by rfl'
theorem Vm(L R n m t)(xs)(p q):uZ ((V6 T).d iK (QH L R n m t xs)) [.Name "L" p,.Name "mid" q]=some [.int L,.int m]:=by rfl'
theorem ap2(L R n m t)(xs)(p):(V6 T).d iK (QH L R n m t xs) (.Name "shift" p)=some (.int t):=by rfl'
end
theorem Gs(xs:List α)(L m R)(h1:L<=m)(h2:m<=R):(xs.drop L).take (R - L)=(xs.drop L).take (m - L)++(xs.drop m).take (R - m):=by
 rw[<-uH h2 h1,fR,Oi,LJ,An h1]
theorem abQ{m L n t:Nat}(h:L<=m)(hm:m<=100000)(hn:n<=100000)(ht:t=(m - L)*n):az .Mult (.int ((m:Int) - L)) (.int n)=some (.int t):=by
 rw[<-SJ h,vq (smI (ao (lN ..) hm)) (smI hn),ht,lF]
theorem MX{xs:List Int}{L R:Nat}(h:L+1=R)(hL:L<xs.length):(xs.drop L).take (R - L)=[xs[L]'hL]:=by
 subst h;rw[Tf,dZ hL];rfl
theorem MY{α:Type}{xs:List α}{L m:Nat}(h:m<=xs.length):((xs.drop L).take (m - L)).length=m - L:=by
 rw[dU,eJ];exact oU (Nat.sub_le_sub_right h L)
theorem zI{w:World}{La:Heap->Prop}{T:fe}(TO:dW pw w La (λ_=>True) T){f:Addr}{xs:List Int}{n:Nat}{o:Obj}{fd:ky}{cl:List (Str×Addr)}{cd ci cn:Addr}
(hn:n*xs.length<=900)(oX:1<=n)(hx:∀x∈xs,0<=x/\x<2^n)(L R:Nat)(h1:L<R)(h2:R<=xs.length)(A:aE)(E:Value->ak->Prop)(s:ak)(F:Addr->Prop)(vs:List Value)(k:Nat)(bq:Bq (k+1) A)(am:dN A La s)(lo:jy F s.heap)
(I:lz s.heap F f xs n o fd cl cd ci cn)(rs:aZ s.heap F [.int L,.int R] vs)(ih:L+1=R\/∃j,k=j+1/\R - L<=2^k/\Gr w La f xs n o fd cl cd ci cn j):
 wpAny (model pw w) A (call (.ref f) vs) (iJ F s (.int (kW n ((xs.drop L).take (R - L))))) E s:=by
 have hlen:=abO hn oX;have hn9:=aiS hn (ao (ao (iN (dx L)) h1) h2);have VO:dz pw w La (λ_=>True) (V6 T):=kU TO 7;have XO:SX pw w La (λ_=>True) iK (AZ (V6 T) iK [] 10 3):=vg (W:=[]) (kU TO 6) TO iK 10 3;refine B2 (σc:=[("digits",.lst (xs.map .int)),("n",.int n)]) I.fi bq.dep I.ho I.hd I.rc rfl am bq.un lo rs I.hF (λm d e=>?_) (λenv aQ G oa mJ rH kH fr si E'=>?_)
 ·unfold look at e
  split at e
  ·rename_i hm
   subst hm;cases e;obtain⟨v,a,b⟩:=I.vd;exact⟨by decide,cd,v,I.ld,a,b⟩
  ·unfold look at e
   split at e
   ·rename_i hm
    subst hm;cases e;obtain⟨v,a,b⟩:=I.vn;exact⟨by decide,cn,v,I.ln,a,b⟩
   ·unfold look at e;cases e
 have si:SI env F s (Jf L R n (xs.map .int)) [] aQ G oa:=si;have D6:dN (A.deeper env) La s:=⟨am.hh,am.nb,am.nl,am.gl,am.tk,(bq.deeper env).un2,am.la⟩
 refine gp λQ hQ=>?_;by_cases N9:L+1=R
 ·have hL:L<xs.length:=bJ h1 h2
  have hX:AZ (V6 T) iK [] 10 3 iB (Jf L R n (xs.map .int)) []=some (.rt (.int (xs[L]'hL))):=by
   rw[aiN,yr];rw[du,Qz (QC _ _ _ _),MW,yr,Vh ((aiP _ _ _ _).trans (QF hL (bx hlen (by decide))))];rw[aiU N9];rfl
  refine aj (XO (A.deeper env) E' env F s _ [] aQ G oa iB _ trivial D6 fr si mJ hX) (λg s' q=>?_) λ_ _ e=>e;obtain⟨v,rfl,q1,q2,q3⟩:=q;refine hQ _ _ ⟨q1,?_⟩;rw[MX N9 hL];show bT s'.heap F (.int (xs[L]+2^n*0)) v;rw[Xd,W8];exact q3
 ·obtain⟨j,rfl,hk,ct⟩:=ih.resolve_left N9
  obtain⟨m,hm⟩:∃m,m=(L+R)/2:=⟨_,rfl⟩;obtain⟨QI,A4⟩:=yt hm h1 N9;obtain⟨U3,PV⟩:=Gq hm hk;have Vn:m<=xs.length:=ao (bV A4) h2;obtain⟨t,ht⟩:∃t:Nat,t=(m - L)*n:=⟨_,rfl⟩;have ht9:t<=900:=by
   rw[ht,hU];exact ao (cE _ (ao (lN ..) Vn)) hn
  have hX:AZ (V6 T) iK [] 10 3 Vj (Jf L R n (xs.map .int)) []=some (.nx (QH L R n m t (xs.map .int)) []):=by
   rw[Vk,yr,Qz (QC _ _ _ _)];rw[aiV N9];show cM (cY (V6 T) iK [] 10 (AZ (V6 T) iK [] 10 2)) _ (Jf L R n (xs.map .int)) []=_;rw[rL (d:=.int m) ((aiQ _ _ _ _).trans (by rw[QG,<-hm])) (by rfl') (by rfl')];show cM (cY (V6 T) iK [] 10 (AZ (V6 T) iK [] 10 2)) _ (aiR L R n m (xs.map .int)) []=_;rw[rL (d:=.int t) ((Vi _ _ _ _ _).trans (abQ (bV QI) (ao Vn (ao hlen (by decide))) (ao hn9 (by decide)) ht)) (by rfl') (by rfl')];rfl
  rw[abP];refine vm (aj (XO (A.deeper env) E' env F s _ [] aQ G oa Vj _ trivial D6 fr si mJ hX) (λg s2 q=>?_) λ_ _ e=>e);obtain⟨rfl,G2,oa2,AU⟩:=q;have x2:In env G2 (QH L R n m t (xs.map .int)) s2.heap:=AU.ie;have I2:lz s2.heap G2 f xs n o fd cl cd ci cn:=(I.keeps (Keeps.all AU.kp)).into AU.hF x2 mJ rH (by rfl') (by rfl');have Ar:dN (A.deeper env) La s2:=D6.keeps AU.kp AU.tk;have p5:Cl env "inner":=.inr (by unfold lQ;rw[mJ];decide);have QJ:env.cells.lookup ("inner":Str)=some ci:=by rw[rH];exact I.li
  have hhi:=Jg n ((xs.drop m).take (R - m)) λx h=>hx x (List.mem_of_mem_drop (List.mem_of_mem_take h));have hhl:n*((xs.drop m).take (R - m)).length<=900:=by
   have:((xs.drop m).take (R - m)).length<=xs.length:=by rw[dU,eJ];exact ao (tv ..) (lN ..)
   exact ao (cE _ this) hn
  refine cz (nE ?_);rw[aiO];refine Bh (Bh (B3 VO trivial Ar x2 p5 (by decide) (by decide) QJ I2.vi I2.ho I2.hd (by rw[mJ];exact Vl _ _ _ _ _ _ _ _) (λs3 vs3 k3 t3 r3=>?_)));refine aj (bF t3 (ct m R A4 h2 PV (A.deeper env) E' s3 G2 vs3 (bq.deeper env) (Ar.keeps k3 t3) (x2.keeps (Keeps.all k3)).lo (I2.keeps (Keeps.all k3)) r3)) (λv1 s4 q4=>?_) λ_ _ e=>e;obtain⟨t4,k4,r4⟩:=q4;have SV:=Keeps.trans' k3 k4;have Oa:=Ar.keeps SV t4;have x4:=x2.keeps (Keeps.all SV);refine aj (bF t4 (VO.d (A.deeper env) E' env G2 _ s4 _ _ trivial Oa x4 (by rw[mJ];exact ap2 _ _ _ _ _ _ _))) (λv5 s5 q5=>?_) λ_ _ e=>e;obtain⟨t5,k5,r5⟩:=q5;refine aj (bF t5 (qA t5 (x4.keeps (Keeps.all k5)).lo (r4.keeps (Keeps.all k5)) r5 (Jh (QE hhi.1 hhi.2 (ao hhl (by decide))) (cg t) (gD.mpr (ao ht9 (by decide)))))) (λv6 s6 q6=>?_) λ_ _ e=>e;obtain⟨t6,k6,r6⟩:=q6;have k26:=Keeps.trans' SV (Keeps.trans' k5 k6);have am6:=Ar.keeps k26 t6;have x6:=x2.keeps (Keeps.all k26);have I6:=I2.keeps (Keeps.all k26);refine B3 VO trivial am6 x6 p5 (by decide) (by decide) QJ I6.vi I6.ho I6.hd (by rw[mJ];exact Vm _ _ _ _ _ _ _ _) (λs7 vs7 k7 t7 r7=>?_);refine aj (bF t7 (ct L m QI Vn U3 (A.deeper env) E' s7 G2 vs7 (bq.deeper env) (am6.keeps k7 t7) (x6.keeps (Keeps.all k7)).lo (I6.keeps (Keeps.all k7)) r7)) (λv8 s8 q8=>?_) λ_ _ e=>e;obtain⟨t8,k8,r8⟩:=q8;have k68:=Keeps.trans' k7 k8;refine aj (qA (op:=.Add) (d:=.int (kW n ((xs.drop m).take (R - m))*2^(t:Int).toNat+kW n ((xs.drop L).take (m - L)))) t8 (x6.keeps (Keeps.all k68)).lo (r6.keeps (Keeps.all k68)) r8 rfl) (λv9 s9 q9=>?_) λ_ _ e=>e;refine hQ _ _ ⟨Keeps.trans' (Keeps.trans' AU.kp k26) (Keeps.trans' k68 q9.1),?_⟩;have e1:kW n ((xs.drop L).take (R - L))=kW n ((xs.drop m).take (R - m))*2^(t:Int).toNat+kW n ((xs.drop L).take (m - L)):=by
   rw[Gs xs L m R (bV QI) (bV A4),QD,MY Vn,show(t:Int).toNat=n*(m - L)by rw[aY,ht,hU],p0,DR]
  rw[e1];exact q9.2
theorem QK(TO:dW pw w La (λ_=>True) T)
(hn:n*xs.length<=900)(oX:1<=n)(hx:∀x∈xs,0<=x/\x<2^n):∀k,Gr w La f xs n o fd cl cd ci cn k:=by
 intro zx
 induction zx with
 |zero=>
  exactλL R h1 h2 h3 A E s F vs bq am lo I rs=>zI TO hn oX hx L R h1 h2 A E s F vs 0 bq am lo I rs (.inl (by simp at h3;omega))
 |succ k ih=>
  exactλL R h1 h2 h3 A E s F vs bq am lo I rs=>zI TO hn oX hx L R h1 h2 A E s F vs (k+1) bq am lo I rs (.inr ⟨k,rfl,h3,ih⟩)
end
end
section
def bE(P:Addr)(h h':Heap):Prop:=∀b o,h.get? b=some o->b≠P->h'.get? b=some o
inductive TabAt(h:Heap)(P:Addr):Prop
 |mk (ps:Array Value) (h1:h.get? P=some (tabObj ps)) (h2:aeX ps.toList)
theorem TabAt.Yg(t:TabAt h P)(x:h.Ns a m):a≠P:=λe=>by
 obtain⟨ps,h1,_⟩:=t;obtain⟨o,es,ep,h2,h3,_⟩:=x;rw[e,h1]at h2;cases h2;cases h3
theorem Ns.but(t:TabAt h P)(k:bE P h h')(x:h.Ns a m):h'.Ns a m:=
 x.at' λo e=>k a o e (t.Yg x)
theorem Gu(h:aeX l)(e:l[1]? =some (.str q tk)):False:=by
 cases l with
 |nil=>cases e
 |cons x l=>
  cases l with
  |nil=>cases e
  |cons y l=>
   have e:y=.str q tk:=ai e;rw[e]at h;cases x<;>exact h
theorem sY(t:TabAt h P)(x:h.CodeRec (.ref c) q):c≠P:=λz=>by
 obtain⟨c0,o,vs,tk,e,g,d,v⟩:=x;obtain⟨ps,h1,h2⟩:=t;rw[<-mu e,z,h1]at g;rw[<-ai g]at d;rw[<-Aj d]at v;exact Gu h2 ((uC ..).trans v)
theorem CodeRec.but(t:TabAt h P)(k:bE P h h')(x:h.CodeRec cd q):h'.CodeRec cd q:=by
 obtain⟨c,o,vs,tk,rfl,g,d,v⟩:=x;exact⟨c,o,vs,tk,rfl,k c o g (sY t ⟨c,o,vs,tk,rfl,g,d,v⟩),d,v⟩
theorem dN.but(t:TabAt s.heap P)(k:bE P s.heap s'.heap)(am:dN A La s)(tk:1<=s'.toks)(N8:∀h h',La h->TabAt h P->bE P h h'->La h'):dN A La s':=by
 obtain⟨mc,n1,n2⟩:=am.nb;obtain⟨mc',l1,l2⟩:=am.nl;obtain⟨mg,g1⟩:=am.gl;exact⟨am.hh,⟨mc,Ns.but t k n1,n2⟩,⟨mc',Ns.but t k l1,l2⟩,⟨mg,Ns.but t k g1⟩,tk,am.un,λh kh=>N8 s.heap h (am.la _ λ_ _ e=>e) t λb o e ne=>kh b o (k b o e ne)⟩
theorem TabAt.ne(t:TabAt h P)(k:bE P h h')(e:h.get? b=some o)(hd:∀vs,o.data≠.fields vs):h'.get? b=some o:=k b o e λz=>by
 obtain⟨ps,hP,_⟩:=t;rw[z,hP]at e;exact hd ps (ai e▸rfl)
theorem Gw{w:World}{h h':Heap}{P a:Addr}{K:Type}[DecidableEq K]{knd:KeyKind pw w K}{kx:List (K×Value)}(t:TabAt h P)(k:bE P h h')(x:h.DictOf knd a kx):h'.DictOf knd a kx:=by
 obtain⟨o,es,ep,ho,hx,hd,r⟩:=x;exact⟨o,es,ep,t.ne k ho (λvs e=>nomatch hd.symm.trans e),hx,hd,r⟩
theorem YP.but(t:TabAt h P)(k:bE P h h')(x:YP w h):YP w h':=by
 cases x with
 |mk mg g fl s d3 d4=>
 refine⟨mg,Ns.but t k g,fl,?_,?_,?_⟩
 ·obtain⟨a,a1,o,es,ep,tt,a2,a3,a4,a5⟩:=s
  exact⟨a,a1,o,es,ep,tt,t.ne k a2 (λvs e=>nomatch a4.symm.trans e),a3,a4,a5⟩
 ·obtain⟨b,b1,b2,kx,b3,b4⟩:=d3
  exact⟨b,b1,b2,kx,Gw t k b3,b4⟩
 ·obtain⟨b,b1,b2,kx,b3,b4⟩:=d4
  exact⟨b,b1,b2,kx,Gw t k b3,b4⟩
theorem qk.but(x:qk mg mb w h)(t:TabAt h P)(k:bE P h h'):qk mg mb w h':=by
 refine⟨Ns.but t k x.g,Ns.but t k x.b,λd hd=>?_,x.const,x.free,x.builtins,?_,x.yp.but t k⟩
 ·obtain⟨a,o,pm,code,doc,h1,h2,h3,h4⟩:=x.fn d hd
  exact⟨a,o,pm,code,doc,h1,t.ne k h2 (λvs e=>nomatch h3.symm.trans e),h3,CodeRec.but t k h4⟩
 ·obtain⟨bm,ob,h1,h2,h3,h4,h5,h6⟩:=x.bmain
  exact⟨bm,ob,h1,h2,t.ne k h3 (λvs e=>nomatch h6.symm.trans e),h4,h5,h6⟩
theorem qk.bat(x:qk mg mb w h)(t:TabAt h P):h.BuiltinsAt mg P:=by
 obtain⟨bm,ob,h1,h2,h3,h4,h5,h6⟩:=x.bmain;obtain⟨ps,hP,_⟩:=t;refine⟨bm,ob,h1,h2,λz=>?_,λz=>?_,h3,h4,h5,h6⟩
 ·obtain⟨o,es,ep,e,d,_⟩:=x.g
  rw[z,e]at h3;cases h3;rw[d]at h6;cases h6
 ·rw[z,hP]at h3
  cases h3;cases h6
theorem sr.but:∀h h',sr w h->TabAt h P->bE P h h'->sr w h':=λh h' ⟨mg,mb,x⟩ t k=>⟨mg,mb,x.but t k⟩
section
variable{prog:bb}{w:World}{A:aE}{E:Value->ak->Prop}{G F:Addr->Prop}{env:Env}{La:Heap->Prop}{aD s:ak}{σ:cw}{own:List Str}{oa:Str->Addr}
theorem sv(h:∀n,(n,bG)∈scope.names->(env.cells.lookup n).isSome=true):closureFor scope env=pure (ic env scope.names []):=by
 have:=KC (env:=env) scope.names [] h;show(forIn scope.names [] _ >>= pure)=_;rw[bind_pure];exact this
inductive PlT(h:Heap)(P:Addr)(pos:Pos)(qual:Str):Prop
 |mk (ps:Array Value) (h1:h.get? P=some (tabObj ps)) (h2:aeX ps.toList) (h3:codeAmong pos ps.toList=none\/∃c',codeAmong pos ps.toList=some (.ref c')/\h.CodeRec (.ref c') qual)
inductive WmT(h:Heap)(P:Addr)(pos:Pos)(qual:Str):Prop
 |mk (ps:Array Value) (c':Addr) (h1:h.get? P=some (tabObj ps)) (h2:aeX ps.toList) (h3:codeAmong pos ps.toList=some (.ref c')) (h4:h.CodeRec (.ref c') qual)
structure Place(h:Heap)(c P:Addr)(pos:Pos)(qual:Str):Prop where
 hd:Xe h c P
 tab:PlT h P pos qual
theorem Place.tabAt(x:Place h c P pos qual):TabAt h P:=by obtain⟨ps,a,b,_⟩:=x.tab;exact⟨ps,a,b⟩
structure kX(h:Heap)(c P:Addr)(pos:Pos)(qual:Str):Prop where
 hd:Xe h c P
 tab:WmT h P pos qual
inductive NM(s:ak)(c P:Addr)(pos:Pos)(name qual:Str)(params:oQ)(body:List Stmt)(scope:Scope)(cl:List (Str×Addr))(pm:Value)(v:Value)(s':ak):Prop
 |mk (fa c':Addr) (yu doc:Value) (hv:v=.ref fa) (hn:s.heap.get? fa=none) (kb:bE P s.heap s'.heap) (fm:∃h tk,s'={s with heap:=h,toks:=tk}) (wm:kX s'.heap c P pos qual) (rc:s'.heap.CodeRec (.ref c') qual)
  (fo:s'.heap.get? fa=some (fnMade name qual params body scope cl doc pm c' yu)) (ka:(∃ps c',s.heap.get? P=some (tabObj ps)/\codeAmong pos ps.toList=some (.ref c'))->bU s.heap s'.heap)
theorem aiW(x:Xe h c P):c≠P:=by
 obtain⟨_,_,_,_,_,_,_,_,_,_,r⟩:=x;obtain⟨_,_,_,_,_,_,_,_,r⟩:=r;exact r
theorem rN(x:Xe h c P)(k:∀o vs,h.get? c=some o->o.data=.fields vs->h'.get? c=some o):Xe h' c P:=by
 obtain⟨o,vs,file,tf,jq,tg,inF,text,tt,e,e2,d,r⟩:=x;exact⟨o,vs,file,tf,jq,tg,inF,text,tt,k o vs e d,e2,d,r⟩
theorem MZ(pl:Place s.heap c P pos qual)(hge:env.globals=mainGlobals)(hg:s.heap.Ns mainGlobals mg)(KX:env.code=.ref c)(hb:s.heap.BuiltinsAt mg P)
(rH:∀n,(n,bG)∈scope.names->(env.cells.lookup n).isSome=true):
 wpAny (model prog w) A (makeFunction name qual params (.stmts body) scope env [] [] [] pos ln) (NM s c P pos name qual params body scope (ic env scope.names []) ((mg "__name__").getD .none)) E s:=by
 obtain⟨ps,hP,ht,hh⟩:=pl.tab;have nw:∀b:Nat,s.heap.objs.size<=b->s.heap.get? b=none:=λb hb=>by
  cases e:s.heap.get? b with
  |none=>rfl
  |some o=>exact absurd (dT e) (Bg.mpr hb)
 rcases hh with hnf|⟨c',hf,hrc⟩
 ·refine makeFunction_K (sv rH) hge hg KX pl.hd hP ht hnf (pl.tabAt.Yg hg) hb (λc' yu doc h' tk hx hsz o5 aiY ap7=>?_)
  have hk:bE P s.heap (h'.push (fnMade name qual params body scope (ic env scope.names []) doc ((mg "__name__").getD .none) c' yu)):=λb o e ne=>bj _ (hx b o ne e);refine⟨_,c',yu,doc,rfl,nw _ (bV (bx hsz o5)),hk,⟨_,_,rfl⟩,⟨rN pl.hd λo _ e _=>hk c o e (aiW pl.hd),_,c',bj _ ap7,?_,?_,aiY.push _⟩,aiY.push _,iy _ rfl,λ⟨ps',c2,e1,e2⟩=>?_⟩
  ·have:=TriplesOk_snoc pos.line pos.col (.ref c') ps.toList ht
   simpa using this
  ·have:=codeAmong_snoc (pos:=pos) (c:=.ref c') ps.toList ht hnf
   simpa using this
  ·rw[hP]at e1
   cases e1;exact no (hnf.symm.trans e2)
 ·refine makeFunction_hit (sv rH) hge hg KX pl.hd hP ht hf hb (λyu doc h' tk hk hsz=>?_)
  have kG:bU s.heap (h'.push {cls:=.type "function",data:=.func (fnX name qual params body scope (ic env scope.names []) .none .none doc ((mg "__name__").getD .none) none (.ref c') yu)}):=λb o e=>bj _ (hk b o e);exact⟨_,c',yu,doc,rfl,nw _ hsz,λb o e _=>kG b o e,⟨_,_,rfl⟩,⟨pl.hd.keeps kG,ps,c',kG _ _ hP,ht,hf,hrc.keeps kG⟩,hrc.keeps kG,iy _ rfl,λ_=>kG⟩
end
end
section
section
variable{w:World}{A:aE}{E:Value->ak->Prop}{G F:Addr->Prop}{env:Env}{aD s:ak}{σ:cw}{oa:Str->Addr}
theorem Gx(am:dN A (sr w) aD)(fr:pk env F aD)(si:SI env F aD σ [] s G oa)(hF:F P)(pl:Place aD.heap c P pos qual)
(KX:env.code=.ref c)(hq:qualnameIn env nm nm=qual)(hd0:params.defaults=[])(hk0:params.kw_defaults=[])(ha:annTrees params none env=[])(AJ:env.kindOf nm=some .cell)
(rH:∀n,(n,bG)∈scope.names->(env.cells.lookup n).isSome=true)(Yh:∀n,env.cells.lookup n≠some P)
(k:∀(sb s3:ak)(ci fa c':Addr)(yu doc pm:Value),SI env F sb (put nm .Kr σ) [] s3 G oa->pk env F sb->dN A (sr w) sb->bE P aD.heap sb.heap->((∃ps c',aD.heap.get? P=some (tabObj ps)/\codeAmong pos ps.toList=some (.ref c'))->bU aD.heap sb.heap)->
   (∃h tk,sb={aD with heap:=h,toks:=tk})->kX s3.heap c P pos qual->env.cells.lookup nm=some ci->s3.heap.IsCell ci (some (.ref fa))->s3.heap.get? fa=some (fnMade nm qual params body scope (ic env scope.names []) doc pm c' yu)->s3.heap.CodeRec (.ref c') qual->
   (∀b o,s.heap.get? b=some o->b≠P->b≠env.locals->env.cells.lookup nm≠some b->s3.heap.get? b=some o)->wpAny (model pw w) A (execs rest env) Q E s3):
 wpAny (model pw w) A (execs (.FunctionDef nm params body [] none [] scope none nm pos::rest) env) Q E s:=by
 have kk:=Keeps.all si.kp;have pl1:Place s.heap c P pos qual:=⟨pl.hd.keeps kk,by obtain⟨ps,a,b,d⟩:=pl.tab;exact⟨ps,kk _ _ a,b,d.imp id λ⟨c',e,r⟩=>⟨c',e,r.keeps kk⟩⟩⟩
 obtain⟨mg,mb,la⟩:=am.la s.heap kk;have t1:=pl1.tabAt;refine cz (nestDef_K hd0 hk0 ha ?_);rw[hq];refine aj (bF si.tk (MZ pl1 si.ie.gl la.g KX (la.bat t1) rH)) (λv s2 q=>?_) λ_ _ e=>e;obtain⟨UZ,fa,c',yu,doc,rfl,hn,kb,fm,wm,rc,hfo,ka⟩:=q;obtain⟨h2,aiZ,rfl⟩:=fm;have u:Upd (λa=>a=P) s {s with heap:=h2,toks:=aiZ}:=⟨h2,aiZ,rfl,λb o ne e=>kb b o e ne⟩
 obtain⟨ps2,c2,hP2,hT2,hA2,hR2⟩:=wm.tab;obtain⟨sb,sib,QL,kbb,kPb,tkb,fmb⟩:=si.tU fr hF Yh u UZ (by rw[hP2];rfl);refine aj (SI.bind (d:=.Kr) sib QL (.inr AJ) (λq=>absurd rfl q)) (λ_ s3 q=>?_) λ_ _ e=>e;obtain⟨tk3,u3,uN,hv⟩:=q;obtain⟨ci,hlc,hvc⟩:=hv.2 AJ;have kp3:∀b o,h2.get? b=some o->b≠env.locals->(env.cells.lookup nm≠some b)->s3.heap.get? b=some o:=λb o e n1 n2=>(u3.kept (G:=λa=>a=env.locals\/env.cells.lookup nm=some a) λ_ q=>q) b o (λq=>q.elim n1 n2) e;have xb:=sib.ie;obtain⟨ml,hml,_⟩:=xb.va;have ai0:∀{b:Addr}{o:Obj},h2.get? b=some o->(∀es ep,o.data≠.dict es ep)->b≠env.locals:=λ{b o} e hd z=>by
  obtain⟨o',es,ep,e',d',_⟩:=hml;rw[<-z]at e';have:some o=some o':=e.symm.trans e';cases this;exact hd es ep d'
 have ai1:∀{b:Addr}{o:Obj},h2.get? b=some o->(∀v,o.data≠.cell v)->env.cells.lookup nm≠some b:=λ{b o} e hd z=>by
  obtain⟨c0,v0,l0,o',e',d'⟩:=xb.ce nm AJ;rw[z]at l0;cases l0;have:some o=some o':=e.symm.trans e';cases this;exact hd v0 d'
 have zJ:∀{b:Addr}{o:Obj}{vs:Array Value},h2.get? b=some o->o.data=.fields vs->s3.heap.get? b=some o:=λ{b o vs} e d=>kp3 b o e (ai0 e λes ep q=>by rw[d]at q;cases q) (ai1 e λv q=>by rw[d]at q;cases q);have rcK:∀{cd:Value}{q:Str},h2.CodeRec cd q->s3.heap.CodeRec cd q:=λ{cd q} x=>by obtain⟨c0,o,vs,t,e,g,d,r⟩:=x;exact⟨c0,o,vs,t,e,zJ g d,d,r⟩
 have tb:TabAt aD.heap P:=pl.tabAt;have M0:bE P aD.heap sb.heap:=λb o e ne=>kbb b o e ne;refine k sb s3 ci fa c' yu doc _ uN QL (dN.but tb M0 am tkb sr.but) M0 (λhw b o e=>?_) fmb ?_ hlc hvc (kp3 fa _ hfo (ai0 hfo λes ep q=>by cases q) (ai1 hfo λv q=>by cases q)) (rcK rc) λb o e ne n1 n2=>kp3 b o (kb b o e ne) n1 n2
 ·obtain⟨ps,c3,e1,e2⟩:=hw
  by_cases hb:b=P
  ·subst hb
   exact kPb o (ka ⟨ps,c3,kk _ _ e1,e2⟩ b o (kk _ _ e))
  ·exact M0 b o e hb
 ·exact⟨rN wm.hd λ_ _ e d=>zJ e d,ps2,c2,zJ hP2 rfl,hT2,hA2,rcK hR2⟩
end
end
section
theorem zK{d:N2}{pm code doc:Value}(hm:d∈px):Qq (fO d.name d.params d.body d.scope pm code doc) (d.params.args.map (·.arg)) d.body d.scope.names:=by
 have ok:=bf.mp KV d hm;unfold Ja at ok;simp only[ay,iI,cV,decide_eq_true_eq,beq_iff_eq,cF]at ok;obtain⟨k1,k2,k3,k4,k5,k6,k7,k8,k9,Vf⟩:=ok;exact⟨rfl,rfl,k6,k7,k8,rfl,rfl,rfl,λvs hl=>pv (fd:=fO d.name d.params d.body d.scope pm code doc) k1 k2 k3 k4 rfl k5 hl,k5,k9,Vf⟩
def T00:fe:=⟨λ_ _=>none,Vg,Jc,Jd⟩
theorem vr(w):dW pw w (sr w) (λ_=>True) T00:=by
 have L:=abM w (sr w) (λ_=>none) (λ_ x=>x) (λh f p ds d _ e=>by cases e);exact⟨L.gl,L.bi,L.SQ,L.rev,L.ty,λ_ _ _ _ _ h=>(nomatch h),λh g ds d la e=>by
  obtain⟨a,o,q1,q2,q3,q4,q5⟩:=L.get h g ds d la e;exact⟨a,o,q1,q2,q3,q4,λA E F s vs _=>q5 A E F s vs⟩,λh g x b la e=>by
  obtain⟨a,q1,q2⟩:=L.mem h g x b la e;exact⟨a,q1,λA E F s v _=>q2 A E F s v⟩⟩
def lL:N2:=(px.find? (λd=>d.name==("_digits2int":Str))).getD ⟨("":Str),default,[],default,default⟩
theorem Gy:lL∈px:=by
 have:(px.find? (λd=>d.name==("_digits2int":Str))).isSome=true:=by rfl'
 obtain⟨d,hd⟩:=aA.mp this;have e:lL=d:=by unfold lL;rw[hd];rfl
 rw[e];exact gW hd
theorem M1:lL.params.args.map (·.arg)=(["digits","n"]:List Str):=by rfl'
theorem vt:lL.name=("_digits2int":Str):=by rfl'
def dK:bW:=lL.scope.names
def D8:oQ:=yJ dI
def As:Scope:=o6 dI
def dE:ae:=br (aq 1 dB)
theorem QM:lL.body=[.FunctionDef "inner" D8 iB [] none [] As none "inner" (cx dI),.Return (some dE) (cx (aq 1 dB))]:=by rfl'
theorem ai2:dE=.IfExp (exT dE) (.Call (.Name "inner" (qZ (qZ dE)).pos) [rM 0 (qZ dE),rM 1 (qZ dE)] [] (qZ dE).pos) (Je dE) dE.pos:=by rfl'
def dQ:Str:=(("_digits2int":Str)++(".<locals>.":Str))++("inner":Str)
theorem QN:(As.names.all λx=>x.2 != .free||dK.lookup x.1==some .cell)=true:=by rfl'
def QO(xs:List D)(n:Int):cw:=[("digits",.lst xs),("n",.int n),("inner",.Kr)]
section
variable{T:fe}
theorem QP(xs)(n):(V6 T).b dK (QO xs n) (exT dE)=mh (.lst xs):=by rfl'
theorem abS(xs)(n):(V6 T).d dK (QO xs n) (Je dE)=some (.int 0):=by rfl'
theorem aqc(xs)(n):(V6 T).d dK (QO xs n) (rM 0 (qZ dE))=some (.int 0):=by rfl'
theorem aqd(xs)(n):(V6 T).d dK (QO xs n) (rM 1 (qZ dE))=bY .len [.lst xs]:=by rfl'
theorem aqe(ha:f a=some x)(hb:f b=some y)(na:f9 a=true)(nb:f9 b=true):uZ f [a,b]=some [x,y]:=by
 unfold uZ;rw[if_pos na,ha];unfold uZ;rw[if_pos nb,hb];rfl
end
theorem pz:As.names=iK/\As.kind=.function/\As.isGenerator=false/\As.isCoroutine=false:=⟨rfl,by rfl',by rfl',by rfl'⟩
theorem i8:D8.posonlyargs=[]/\D8.kwonlyargs=[]/\D8.vararg=none/\D8.kwarg=none/\D8.args.map (·.arg)=(["L","R"]:List Str)/\D8.defaults=[]/\D8.kw_defaults=[]:=⟨by rfl',by rfl',by rfl',by rfl',by rfl',by rfl',by rfl'⟩
theorem ai3(env):annTrees D8 none env=[]:=by rfl'
theorem abT:∀x∈iK,x.2≠.cell:=by
 have h:(iK.all λx=>x.2 != .cell)=true:=by rfl'
 intro x hx;have:=bf.mp h x hx;simpa using this
theorem Vo(env):ic env iK []=([("n",(env.cells.lookup ("n":Str)).getD 0),("inner",(env.cells.lookup ("inner":Str)).getD 0),("digits",(env.cells.lookup ("digits":Str)).getD 0)]:List (Str×Addr)):=by rfl'
theorem abU(e:([("n",l1),("inner",l2),("digits",l3)]:List (Str×Addr)).lookup n=some c):(n=("n":Str)/\c=l1)\/(n=("inner":Str)/\c=l2)\/(n=("digits":Str)/\c=l3):=by
 have:=mem_of_lookup e;simp only[aL,fH,or_false,qn]at this;exact this
structure DP(P c:Addr)(pos:Pos)(q:Str)(F:Addr->Prop)(s:ak)(d:D)(v:Value)(s':ak):Prop where
 fm:∃h tk,s'={s with heap:=h,toks:=tk}
 kb:bE P s.heap s'.heap
 ka:(∃ps c',s.heap.get? P=some (tabObj ps)/\codeAmong pos ps.toList=some (.ref c'))->bU s.heap s'.heap
 wm:kX s'.heap c P pos q
 r:bT s'.heap F d v
theorem Gz{w:World}{A:aE}{E:Value->ak->Prop}{F:Addr->Prop}{s:ak}{a c P:Addr}{o:Obj}{pm doc:Value}{xs:List Int}{n:Nat}{vs:List Value}(ho:s.heap.get? a=some o)(hd:o.data=.func (fO lL.name lL.params lL.body lL.scope pm (.ref c) doc))
(rc:s.heap.CodeRec (.ref c) lL.name)(pl:Place s.heap c P (cx dI) dQ)(hF:F P)(bq:Bq 45 A)(am:dN A (sr w) s)(lo:jy F s.heap)(rs:aZ s.heap F [.lst (xs.map .int),.int n] vs)
(hn:n*xs.length<=900)(oX:1<=n)(hx:∀x∈xs,0<=x/\x<2^n):
 wpAny (model pw w) A (call (.ref a) vs) (DP P c (cx dI) dQ F s (.int (kW n xs))) E s:=by
 have fi:=zK (d:=lL) (pm:=pm) (code:=.ref c) (doc:=doc) Gy;rw[M1,QM]at fi;have hlen:xs.length<=900:=by
  have:1*xs.length<=n*xs.length:=ael _ oX;omega
 refine tT (fv:=(["digits","n"]:List Str)) fi (by have:=bq.1;show A.depth<1000;omega) ho hd rc rfl am (by have:=bq.2;omega) lo rs (λenv aQ G oa mJ mW kH fr si E'=>?_);have si:SI env F s [("digits",.lst (xs.map .int)),("n",.int n)] [] aQ G oa:=si;have hk:∀m,env.kindOf m=dK.lookup m:=λm=>by unfold lQ;rw[mJ];rfl
 have QQ:env.code=.ref c:=by rw[mW];rfl
 have qJ:∀m,dK.lookup m=some .cell->∃c v,env.cells.lookup m=some c/\aQ.heap.IsCell c v:=λm e=>si.ie.ce m (by rw[hk];exact e);have Yh:∀m,env.cells.lookup m≠some P:=λm e=>by
  have hm:(m,P)∈cellsFrom (s.heap.objs.size+1) lL.scope.names []:=by
   have:=mem_of_lookup e;rw[mW]at this;exact this
  have A4:=ik _ _ _ _ _ hm;simp only[fH,false_or]at A4;have:=fr.hc m P (.inr (by rw[hk];exact mem_lookup fi.kd A4)) e;obtain⟨ps,h1,_⟩:=pl.tab;rw[h1]at this;cases this
 have p5:∀m,(m,bG)∈As.names->dK.lookup m=some .cell:=λm hm=>by
  have:=bf.mp QN _ hm;simpa using this
 refine Gx (qual:=dQ) kH fr si hF pl QQ (by rw[mW];rfl') i8.2.2.2.2.2.1 i8.2.2.2.2.2.2 (ai3 env) (by rw[hk];decide) (λm hm=>?_) Yh (λsb s3 ci fa c' yu x8 Ob Oc Mfr Mam Mkb Mka Mfm Mwm Mlc Mvc Mfo Mrc Mkq=>?_)
 ·obtain⟨c0,_,e,_⟩:=qJ m (p5 m hm)
  rw[e];rfl
 have VO:dz pw w (sr w) (λ_=>True) (V6 T00):=kU (vr w) 7;have x3:In env G (QO (xs.map .int) n) s3.heap:=Oc.ie;have tk3:=Oc.tk;have S0:dN (A.deeper env) (sr w) s3:=Mam.keeps Oc.kp Oc.tk;have fin:∀v s',Keeps s3 s'->bT s'.heap F (.int (kW n xs)) v->DP P c (cx dI) dQ F s (.int (kW n xs)) v s':=λv s' k r=>by
  have kk:=Keeps.trans' Oc.kp k;obtain⟨h1,t1,e1⟩:=Mfm;obtain⟨h2,t2,e2,k2⟩:=kk;have k3:=Keeps.all k;refine⟨⟨h2,t2,by rw[e2,e1]⟩,λb o e ne=>?_,λhw b o e=>?_,?_,r⟩
  ·rw[e2];exact k2 _ _ (Mkb b o e ne)
  ·rw[e2];exact k2 _ _ (Mka hw b o e)
  ·obtain⟨ps,c2,h1,h2,h3,h4⟩:=Mwm.tab
   exact⟨Mwm.hd.keeps k3,ps,c2,k3 _ _ h1,h2,h3,h4.keeps k3⟩
 refine gp λQ hQ=>?_;refine cz (nE ?_);rw[ai2];cases hxs:xs with
 |nil=>
  subst hxs;refine IfExp_ (aj (bF tk3 (VO.b (A.deeper env) E' env G _ s3 _ false trivial S0 x3 (by rw[mJ];exact QP _ _))) (λb s4 q=>?_) λ_ _ e=>e);obtain⟨t4,rfl,k4⟩:=q;refine aj (VO.d (A.deeper env) E' env G _ s4 _ _ trivial (S0.keeps k4 t4) (x3.keeps (Keeps.all k4)) (by rw[mJ];exact abS _ _)) (λv s5 q=>?_) λ_ _ e=>e;refine hQ _ _ (fin v s5 (Keeps.trans' k4 q.1) ?_);exact q.2
 |cons y ys=>
  have htr:mh (.lst (xs.map .int))=some true:=by
   show(if(xs.map D.int).length<=dC then some (!(xs.map D.int).isEmpty)else none)=_;rw[if_pos (by rw[ag];have:dC=1048576:=rfl;omega),hxs];rfl
  refine IfExp_ (aj (bF tk3 (VO.b (A.deeper env) E' env G _ s3 _ true trivial S0 x3 (by rw[mJ];exact(QP _ _).trans htr))) (λb s4 q=>?_) λ_ _ e=>e);obtain⟨t4,rfl,k4⟩:=q;have Oa:=S0.keeps k4 t4;have x4:=x3.keeps (Keeps.all k4);have abV:Cl env "inner":=.inl (by rw[hk];decide);have hl:bY .len [.lst (xs.map .int)]=some (.int xs.length):=by
   show ec (if(xs.map D.int).length<=dC then some (D.int (xs.map D.int).length)else none) _=_;rw[ag,if_pos (by have:dC=1048576:=rfl;omega)];rfl
  refine B3 VO trivial Oa x4 abV (by decide) (by decide) Mlc (Mvc.keeps (Keeps.all k4)) (Keeps.all k4 _ _ Mfo) rfl (by rw[mJ];exact aqe (aqc _ _) ((aqd _ _).trans hl) (by rfl') (by rfl')) (λs5 vs5 k5 t5 r5=>?_);have am5:=Oa.keeps k5 t5;have x5:=x4.keeps (Keeps.all k5);have k35:=Keeps.trans' k4 k5;have QR:=Keeps.all k35;have zt:∀m:Str,dK.lookup m=some .cell->env.cells.lookup m=some ((env.cells.lookup m).getD 0):=λm e=>by
   obtain⟨c0,_,e0,_⟩:=qJ m e;rw[e0];rfl
  have hl1:=zt "n" (by decide);have hl2:=zt "inner" (by decide);have hl3:=zt "digits" (by decide);have QJ:(env.cells.lookup ("inner":Str)).getD 0=ci:=by rw[Mlc];rfl
  have Dk:ic env As.names []=([("n",(env.cells.lookup ("n":Str)).getD 0),("inner",(env.cells.lookup ("inner":Str)).getD 0),("digits",(env.cells.lookup ("digits":Str)).getD 0)]:List (Str×Addr)):=Vo env;have sx:∀m c0,(ic env As.names []).lookup m=some c0->env.cells.lookup m=some c0/\iK.lookup m=some .free:=λm c0 e=>by
   rw[Dk]at e;rcases abU e with⟨rfl,rfl⟩|⟨rfl,rfl⟩|⟨rfl,rfl⟩
   ·exact⟨hl1,by decide⟩
   ·exact⟨hl2,by decide⟩
   ·exact⟨hl3,by decide⟩
  obtain⟨ml,hml,Vp⟩:=x5.va;have I:lz s5.heap G fa xs n (fnMade "inner" dQ D8 iB As (ic env As.names []) x8 Ob c' yu) (fnX "inner" dQ D8 iB As (ic env As.names []) .none .none x8 Ob none (.ref c') yu) (ic env As.names [])
   ((env.cells.lookup ("digits":Str)).getD 0) ci ((env.cells.lookup ("n":Str)).getD 0):=by
   refine⟨QR _ _ Mfo,rfl,⟨rfl,rfl,pz.2.1,pz.2.2.1,pz.2.2.2,rfl,rfl,rfl,λvs hl=>?_,by decide,λp hp=>?_,abT,λm c0 e=>(sx m c0 e).2,λm m' c0 e e'=>x5.inj m m' c0 (sx m c0 e).1 (sx m' c0 e').1⟩,Mrc.keeps QR,by rw[Dk];rfl,by rw[Dk,QJ];rfl,by rw[Dk];rfl,λm c0 e=>(x5.fc m c0 (sx m c0 e).1).1,?_,Mvc.keeps QR,?_⟩
   ·have:=pv (fd:=fnX "inner" dQ D8 iB As (ic env As.names []) .none .none x8 Ob none (.ref c') yu) (vs:=vs) i8.1 i8.2.1 i8.2.2.1 i8.2.2.2.1 rfl (by rw[show(fnX "inner" dQ D8 iB As (ic env As.names []) .none .none x8 Ob none (.ref c') yu).params=D8 from rfl,i8.2.2.2.2.1];decide) (by rw[show(fnX "inner" dQ D8 iB As (ic env As.names []) .none .none x8 Ob none (.ref c') yu).params=D8 from rfl,i8.2.2.2.2.1];exact hl)
    rw[show(fnX "inner" dQ D8 iB As (ic env As.names []) .none .none x8 Ob none (.ref c') yu).params=D8 from rfl,i8.2.2.2.2.1]at this;exact this
   ·simp only[aL,fH,or_false]at hp
    rcases hp with rfl|rfl<;>decide
   ·obtain⟨c0,v0,e1,e2,e3⟩:=(Vp "digits" (.lst (xs.map .int)) (by rfl')).2 (.inl (by rw[hk];decide))
    rw[hl3]at e1;cases e1;exact⟨v0,e2,e3⟩
   ·obtain⟨c0,v0,e1,e2,e3⟩:=(Vp "n" (.int n) (by rfl')).2 (.inl (by rw[hk];decide))
    rw[hl1]at e1;cases e1;exact⟨v0,e2,e3⟩
  have M3:0<xs.length:=by rw[hxs];simp
  have h10:xs.length<=2^10:=ao hlen (by decide);refine aj (QK (vr w) hn oX hx 10 0 xs.length M3 (bD _) (by rw[hW];exact h10) (A.deeper env) E' s5 G vs5 ⟨by have:=bq.1;show A.depth+1+11<=990;omega,by have:=bq.2;rw[jQ];omega⟩ am5 x5.lo I r5) (λv s6 q=>?_) λ_ _ e=>e;refine hQ _ _ (fin v s6 (Keeps.trans' k35 q.1) ?_);have:=q.2;rw[hW,mq,fG]at this;exact this
end
end Internal
namespace Internal.Q
inductive Ji(mg:Str->Option Value)(h:Heap)(n:Str)(c P:Addr):Prop
 |mk (a:Addr) (o:Obj) (fd:ky) (h1:mg n=some (.ref a)) (h2:h.get? a=some o) (h3:o.data=.func fd) (h4:fd.code=.ref c) (h5:Xe h c P) (h6:h.get? P=some (tabObj #[]))
inductive abW(h:Heap)(n:Str)(c P:Addr):Prop
 |mk (a:Addr) (o:Obj) (fd:ky) (oc:Obj) (vs:Array Value) (h1:h.nsMap mainGlobals n=some (.ref a)) (h2:h.get? a=some o) (h3:o.data=.func fd) (h4:fd.code=.ref c) (h5:h.get? c=some oc) (h6:oc.data=.fields vs) (h7:gJ vs.toList 11 jD=.ref P)
theorem GA(e:codeOf h n=some (c,P)):abW h n c P:=by
 obtain⟨v,h1,e⟩:=aO e;obtain⟨a,_,e⟩:=aO e;obtain⟨o,h2,e⟩:=aO e;obtain⟨fd,_,e⟩:=aO e;obtain⟨c',_,e⟩:=aO e;obtain⟨oc,h3,e⟩:=aO e;obtain⟨vs,_,e⟩:=aO e;obtain⟨P',_,e⟩:=dM e;obtain⟨rfl,rfl⟩:=gV e;exact⟨_,_,_,_,_,a.2▸h1,h2,fd.2,c'.2,h3,vs.2,P'.2⟩
theorem vw(h:(o.map f).getD false=true):∃x,o=some x/\f x=true:=by
 cases o with
 |none=>exact Ht h
 |some x=>exact⟨x,rfl,h⟩
theorem oH{α β:Type}{o:Option α}{f:α->Option β}{g:Option β->Bool}(h:g (o.bind f)=true)(hn:g none=false):∃x,o=some x/\g (f x)=true:=by
 cases o with
 |none=>exact Ht (hn.symm.trans h)
 |some x=>exact⟨x,rfl,h⟩
theorem tV{α:Type}{p:α->Prop}{o:Option {x:α // p x}}(h:o.isSome=true):∃x,p x:=by
 cases o with
 |none=>exact Ht h
 |some x=>exact⟨x.1,x.2⟩
theorem ai9{h:Heap}{c P:Addr}{oc:Obj}{vs:Array Value}(h5:h.get? c=some oc)(h6:oc.data=.fields vs)(h7:gJ vs.toList 11 jD=.ref P)(b:hdB h c=true)(ox:c≠P):Xe h c P:=by
 obtain⟨o',e1,b⟩:=oH (g:=λo=>o.getD false) b rfl;cases h5.symm.trans e1;obtain⟨v',_,b⟩:=oH (g:=λo=>o.getD false) b rfl;cases Aj (h6.symm.trans v'.2);obtain⟨n,_,b⟩:=vw b;simp only[ay]at b;obtain⟨c1,c2,c3,c4,c5⟩:=b;have gd:∀i,v'.1.getD i jD=gJ v'.1.toList i jD:=λi=>by
  rw[HK,qi,uC]
 rw[<-gd]at h7 c2 c3 c4 c5;obtain⟨_,q1⟩:=tV c2;obtain⟨_,q2⟩:=tV c3;obtain⟨_,q3⟩:=tV c4;obtain⟨_,q4⟩:=tV c5;refine⟨oc,_,_,_,_,_,_,_,_,h5,by rw[n.2,eq_of_beq c1],h6,?_,h7,q1,q2,q3,q4,ox⟩;rw[HK]at h7;cases hv:v'.1[11]? with
 |none=>rw[hv]at h7;cases h7
 |some v=>rw[hv]at h7;exact congrArg some h7
theorem QS{h:Heap}{P:Addr}(b:H5 h P=true):h.get? P=some (tabObj #[]):=by
 obtain⟨o,e1,b⟩:=oH (g:=λo=>o.getD false) b rfl;obtain⟨ps,_,b⟩:=oH (g:=λo=>o.getD false) b rfl;obtain⟨n,_,b⟩:=vw b;simp only[ay,iI,cV]at b;obtain⟨c2,c3,c4⟩:=b;have h1:=ps.2;have h2:=n.2;rw[Oj.mp c2]at h1;rw[e1];obtain⟨cls,dict,data,slots⟩:=o;dsimp only at*;rw[h1,h2,c3,Oj.mp c4]
theorem KY(e:codeOf h n=some (c,P))(b:Ur h n=true):Ji (h.nsMap mainGlobals) h n c P:=by
 obtain⟨a,o,fd,oc,vs,h1,h2,h3,h4,h5,h6,h7⟩:=GA e;unfold Ur at b;rw[e]at b;have b:(!(cy c P)&&(hdB h c&&H5 h P))=true:=b;simp only[ay,cF]at b;obtain⟨b1,b2,b3⟩:=b;exact⟨a,o,fd,h1,h2,h3,h4,ai9 h5 h6 h7 b2 (λz=>by rw[z,uI]at b1;cases b1),QS b3⟩
end Internal.Q
namespace Internal
section
theorem oB(h:x=some a)(k:f a=r):x.bind f=r:=by rw[h];exact k
theorem oM(h:x=some a):x.map f=some (f a):=by rw[h];rfl
theorem zL:∀{xs:List α},(∀x∈xs,f (φ x)=some (g x))->iL f (xs.map φ)=some (xs.flatMap g)
 |[],_=>rfl
 |d::ds,h=>by
  rw[aH];dsimp only[iL];rw[h d (ax ..)];show(iL f (ds.map φ)).bind _=_;rw[zL (xs:=ds) λx hx=>h x (av _ hx)];rfl
def tW(e:ae):ae×List dY×Scope×Pos:=(qX e).getD (default,[],default,default)
abbrev lY(e:ae):Scope:=(tW e).2.2.1
def Jj:List dY->ae
 |g::_=>g.iter
 |[]=>default
def kK(e:ae):ae:=Jj (tW e).2.1
def KZ(ks:bW)(σ:cw)(e:ae):Bool:=match qX e with
 |some x=>(decide (x.2.2.1.kind=.function/\zg (x.2.2.1.names.map (·.1))=true)&&ph ks σ x.2.2.1.names)&&(jY (dh ⟨λ_ _=>none,λ_=>none,λ_ _=>none,λ_ _=>none⟩ 0) x.2.2.1 x.1 x.2.1).isSome
 |none=>false
def ff(V:Ev)(σ:cw)(e:ae)(d:D):Option (List D):=(jY V (lY e) (tW e).1 (tW e).2.1).bind λc=>mR (V.b (fP (lY e))) (rZ (lY e) (mx σ (lY e).names)) c.1 c.2.2.1 c.2.2.2 (mx σ (lY e).names) d
def vx(V:Ev)(σ:cw)(e:ae):D->Option (List D):=match(tW e).2.1 with
 |[_,g]=>mR (V.b (fP (lY e))) (rZ (lY e) σ) g.target g.ifs (FE V (lY e) (tW e).1) σ
 |_=>λ_=>none
def gq(σ:cw)(d:D)(e:ae):cw:=match(tW e).2.1 with
 |g::_=>(BN (rZ (lY e) (mx σ (lY e).names)) g.target d (mx σ (lY e).names)).getD []
 |_=>[]
theorem GB(h:(jY V' scope elt gens).isSome=true):∃c,jY V scope elt gens=some c/\c.2.1=Jj gens:=by
 obtain⟨c,hc⟩:=aA.mp h;obtain⟨i,gs,rfl,-,h2,h3⟩:=my hc;rcases h3 with⟨rfl,-⟩|⟨t2,i2,f2,rfl,h4,-⟩
 ·exact⟨_,if_pos ⟨rfl,h2⟩,rfl⟩
 ·exact⟨_,if_pos ⟨⟨rfl,h2⟩,rfl,h4⟩,rfl⟩
theorem zM(DZ:KZ ks σ e=true)(hi:V.d ks σ (kK e)=some d)(hit:items d=some ds)
(hF:iL (ff V σ e) ds=some out)(hl:out.length<=dC):(jo T V).d ks σ e=some (.lst out):=by
 unfold KZ at DZ;cases hx:qX e with
 |none=>rw[hx]at DZ;exact Ht DZ
 |some x=>
  rw[hx]at DZ;obtain⟨h1,h2⟩:=bO.mp DZ;obtain⟨h3,h4⟩:=bO.mp h1;obtain⟨c,hc,QJ⟩:=GB (V:=V) h2;obtain rfl:=qY hx;have hF:iL (λd=>(jY V x.2.2.1 x.1 x.2.1).bind λc=>mR (V.b (fP x.2.2.1)) (rZ x.2.2.1 (mx σ x.2.2.1.names)) c.1 c.2.2.1 c.2.2.2 (mx σ x.2.2.1.names) d) ds=some out:=hF;rw[hc]at hF;show(zi V ks σ x.1 x.2.1 x.2.2.1).map _=_;unfold zi;rw[if_pos ⟨of_decide_eq_true h3,h4⟩,hc];show((V.d ks σ c.2.1).bind _).map _=_;rw[QJ,show V.d ks σ (Jj x.2.1)=some d from hi];show((items d).bind _).map _=_;rw[hit];show((iL (mR (V.b (fP x.2.2.1)) (rZ x.2.2.1 (mx σ x.2.2.1.names)) c.1 c.2.2.1 c.2.2.2 (mx σ x.2.2.1.names)) ds).bind _).map _=_;rw[show iL (mR (V.b (fP x.2.2.1)) (rZ x.2.2.1 (mx σ x.2.2.1.names)) c.1 c.2.2.1 c.2.2.2 (mx σ x.2.2.1.names)) ds=some out from hF,af,if_pos hl];rfl
theorem dF{α:Type}{T:fe}{V:Ev}{ks:bW}{σ:cw}{e:ae}{d:D}{φ:α->D}{xs:List α}{g:α->List D}(DZ:KZ ks σ e=true)(hi:V.d ks σ (kK e)=some d)(hit:items d=some (xs.map φ))
(hF:∀x∈xs,ff V σ e (φ x)=some (g x))(hl:(xs.flatMap g).length<=dC):(jo T V).d ks σ e=some (.lst (xs.flatMap g)):=
 zM DZ hi hit (zL hF) hl
theorem tr(h2:b=c)(h1:autoParam (a=b) Mxx.ka):a=c:=h1.trans h2
def Dl(st:Stmt):ae:=br st
def tX(e:ae):List ae×Nat×Pos:=(De e).getD ([],0,default)
def tY(st:Stmt):List ae:=(tX (vk st)).1
def x9(st:Stmt):List ae:=(tX (Dl st)).1
def fw(st:Stmt):ae:=vk st
def K0(ks:bW)(ts es:List ae)(ns:List Str)(cs:List (D×Bool))(σ:cw)(own:List Str):Option (cw×List Str):=
 if jq cs<=1/\es.length<=dC then
     (BX ks ts es).bind λr=>match r with
       |none=>some (qU ns cs (σ,own))
       |some ms=>if ms=ns then some (qU ns.reverse cs.reverse (σ,own))else none
     else none
def Od(st:Stmt):Str×ae×ae×ae×ae:=(MQ (tY st) (x9 st)).getD ("",default,default,default,default)
def abX(st:Stmt):se:=(stK st).2.2.2.1
def Yi(st:Stmt):ae:=br st
def M4(st:Stmt):Str×Str×List ae:=(sT (Yi st)).getD ("","",[])
def kY(st:Stmt):Str:=(M4 st).1
def B4(st:Stmt):ae:=(Qm (M4 st).2.2).getD default
def eV(st:Stmt):Str:=((xG (vk st)).getD ("",default)).1
abbrev g1(o:Option (cw×List Str)):cw:=(o.getD ([],[])).1
abbrev g2(o:Option (cw×List Str)):List Str:=(o.getD ([],[])).2
section
variable{V:Ev}{ks:bW}{W:List Str}{wf:Nat}{X:XD}{σ σ':cw}{own own':List Str}{rest:List Stmt}{st:Stmt}{r:Option Fl}
theorem d8(h:cY V ks W wf X st σ own=some (.nx σ' own'))(k:cM (cY V ks W wf X) rest σ' own'=r):cM (cY V ks W wf X) (st::rest) σ own=r:=by
 dsimp only[cM];rw[h];exact k
theorem c9(h:cY V ks W wf X st σ own=some (.rt d)):cM (cY V ks W wf X) (st::rest) σ own=some (.rt d):=by
 dsimp only[cM];rw[h];rfl
theorem bC(d)(h:V.d ks (bZ own σ) (br st)=some d)(hs:autoParam (st=.Assign [.Name (eV st) (lJ st)] (br st) (cx st)) Mxx.ka)(hk:autoParam ((AO ks (eV st)&& !p6 ks (eV st) (lJ st) (br st))=true) Mxx.ka):
 cY V ks W wf X st σ own=some (.nx (lV W (eV st) (d,jz (br st)&&mP d) (σ,own)).1 (lV W (eV st) (d,jz (br st)&&mP d) (σ,own)).2):=by
 rw[ay,cF]at hk;generalize eV st=n at*;rw[hs];show AY V ks W n (lJ st) (br st) σ own=_;unfold AY;rw[if_pos hk.1,hk.2,if_neg aJ];unfold ey;rw[h];rfl
theorem Vq(c:D×Bool)(h:ey V ks σ own (br st)=some c)(hs:autoParam (st=.Assign [.Name (eV st) (lJ st)] (br st) (cx st)) Mxx.ka)(hk:autoParam ((AO ks (eV st)&& !p6 ks (eV st) (lJ st) (br st))=true) Mxx.ka):
 cY V ks W wf X st σ own=some (.nx (lV W (eV st) c (σ,own)).1 (lV W (eV st) c (σ,own)).2):=by
 rw[ay,cF]at hk;generalize eV st=n at*;rw[hs];show AY V ks W n (lJ st) (br st) σ own=_;unfold AY;rw[if_pos hk.1,hk.2,if_neg aJ,h];rfl
theorem Dm(out)(h:V.d ks (bZ own σ) (br st)=some (.lst out))(hs:autoParam (st=.Assign [.Name (eV st) (lJ st)] (br st) (cx st)) Mxx.ka)(hk:autoParam ((AO ks (eV st)&&p6 ks (eV st) (lJ st) (br st)&&(qX (br st)).isSome)=true) Mxx.ka):
 cY V ks W wf X st σ own=some (.nx (lV W (eV st) (.lst out,true) (σ,own)).1 (lV W (eV st) (.lst out,true) (σ,own)).2):=by
 obtain⟨U3,PV⟩:=bO.mp hk;obtain⟨hk3,hk4⟩:=bO.mp U3;obtain⟨x,hx⟩:=aA.mp PV;generalize eV st=n at*;rw[hs];show AY V ks W n (lJ st) (br st) σ own=_;unfold AY;rw[if_pos hk3,if_pos hk4,hx];show((V.d ks (bZ own σ) (br st)).bind zv).map _=_;rw[h];rfl
theorem lZ(h:V.d ks (bZ own σ) e=some d):ey V ks σ own e=some (d,jz e&&mP d):=by
 unfold ey;rw[h]
theorem abY(h:V.d ks σ e=some d)(hf:autoParam (kJ d=true) Mxx.ka)(h0:autoParam (V.d ks (bZ own σ) e=none) Mxx.ka):ey V ks σ own e=some (d,false):=by
 unfold ey;rw[h0,h];cases d<;>first|(cases hf;done)|rfl
theorem l5:lW V ks σ own W [] []=some []:=rfl
theorem dm(h:ey V ks σ own e=some c)(hr:lW V ks σ own W ns es=some cs)(hn:autoParam (f9 e=true) Mxx.ka):
 lW V ks σ own W (n::ns) (e::es)=some ((c.1,c.2&&W.contains n)::cs):=by
 show(if f9 e=true then(ey V ks σ own e).bind _ else none)=_;rw[if_pos hn,h];show(lW V ks σ own W ns es).bind _=_;rw[hr];rfl
theorem l6(ns)(es)(h:lW V ks σ own W ns es=some cs)(he:autoParam (x9 st=es) Mxx.ka)
(hs:autoParam (st=.Assign [.Tuple (tY st) (tX (vk st)).2.1 (tX (vk st)).2.2] (.Tuple (x9 st) (tX (Dl st)).2.1 (tX (Dl st)).2.2) (cx st)) Mxx.ka)(hn:autoParam ((MQ (tY st) (x9 st)).isNone=true) Mxx.ka)(h1:autoParam (Qg (tY st)=some ns) Mxx.ka)(h2:autoParam (ns.all (AO ks)=true) Mxx.ka)
(hσ:autoParam ((K0 ks (tY st) (x9 st) ns cs σ own).isSome=true) Mxx.ka):cY V ks W wf X st σ own=some (.nx (g1 (K0 ks (tY st) (x9 st) ns cs σ own)) (g2 (K0 ks (tY st) (x9 st) ns cs σ own))):=by
 subst he;obtain⟨r,hr⟩:=aA.mp hσ;rw[hr];generalize tY st=ts at*;generalize x9 st=es at*;rw[hs];show F9 V ks W ts es σ own=_;unfold F9;rw[cV.mp hn];show(U4 V ks W ts es σ own).map _=_;unfold U4;rw[h1];show(if ns.all (AO ks)=true then _ else none).map _=_;rw[if_pos h2,h];show(K0 ks ts es ns cs σ own).map _=_;rw[hr];rfl
theorem Yj(h:(!b)=true):b=false:=by cases b<;>first|rfl|exact Ht h
theorem abZ
(ha:ey V ks σ own (Od st).2.2.2.1=some (c,false))(hb:ey V ks σ own (Od st).2.2.2.2=some (d,false))(hi:V.d ks (bZ own σ) (Od st).2.1=some (.int i))(hj:V.d ks (bZ own σ) (Od st).2.2.1=some (.int j))
(h1:0<=i/\i<ds.length)(h2:0<=j/\j<ds.length)(h3:ds.length<=dC)(hl:autoParam (look σ (Od st).1=some (.lst ds)) Mxx.ka)(hf:autoParam ((kJ c&&kJ d)=true) Mxx.ka)
(hs:autoParam (st=.Assign [.Tuple (tY st) (tX (vk st)).2.1 (tX (vk st)).2.2] (.Tuple (x9 st) (tX (Dl st)).2.1 (tX (Dl st)).2.2) (cx st)) Mxx.ka)(hn:autoParam ((MQ (tY st) (x9 st)).isSome=true) Mxx.ka)
(ho:autoParam ((own.contains (Od st).1&&(!((Od st).1==("__debug__":Str))&&(f9 (Od st).2.2.2.1&&f9 (Od st).2.2.2.2)))=true) Mxx.ka):
 cY V ks W wf X st σ own=some (.nx (put (Od st).1 (.lst ((ds.set i.toNat c).set j.toNat d)) σ) own):=by
 obtain⟨r,hr⟩:=aA.mp hn;have qz:Od st=r:=by unfold Od;rw[hr];rfl
 rw[qz]at ha hb hi hj hl ho⊢;obtain⟨o1,ho⟩:=bO.mp ho;obtain⟨o2,ho⟩:=bO.mp ho;obtain⟨o3,o4⟩:=bO.mp ho;obtain⟨f1,f2⟩:=bO.mp hf;generalize tY st=ts at*;generalize x9 st=es at*;rw[hs];show F9 V ks W ts es σ own=_;unfold F9;rw[hr];show(U9 V ks r.1 r.2.1 r.2.2.1 r.2.2.2.1 r.2.2.2.2 σ own).map _=_;unfold U9;rw[if_pos ⟨o1,Yj o2,o3,o4⟩,ha,af,hb,af,hi,af,hj,af,hl];show(if _ then _ else none:Option cw).map _=_;rw[if_pos ⟨⟨f1,f2,rfl,rfl⟩,h1.1,h1.2,h2.1,h2.2,h3⟩];rfl
theorem l7(c:D×Bool)(h:ey V ks σ own (Dl st)=some c)(h1:autoParam ((de ks (fw st) c.1 (σ,own)).isSome=true) Mxx.ka)
(hs:autoParam (st=.Assign [.Tuple (tY st) (tX (vk st)).2.1 (tX (vk st)).2.2] (Dl st) (cx st)) Mxx.ka)(ht:autoParam (fw st=.Tuple (tY st) (tX (vk st)).2.1 (tX (vk st)).2.2) Mxx.ka)(hn:autoParam ((De (Dl st)).isNone=true) Mxx.ka):
 cY V ks W wf X st σ own=some (.nx (g1 (de ks (fw st) c.1 (σ,own))) (g2 (de ks (fw st) c.1 (σ,own)))):=by
 obtain⟨r,hr⟩:=aA.mp h1;rw[hr];rw[ht]at hr;generalize tY st=ts at*;generalize Dl st=e at*;rw[hs];show(match De e with
                                                                                                  |some es=>F9 V ks W ts es.1 σ own
                                                                                                  |none=>(ey V ks σ own e).bind λc=>(de ks (.Tuple ts _ _) c.1 (σ,own)).map λ(r:cw×List Str)=>Fl.nx r.1 r.2)=_
 rw[cV.mp hn];show(ey V ks σ own e).bind _=_;rw[h,af,hr];rfl
theorem Jk(d)(h:ey V ks σ own (br st)=some c)(hd:autoParam (F7 (abX st) a c.1=some d) Mxx.ka)(ha:autoParam (look (bZ own σ) (eV st)=some a) Mxx.ka)
(hs:autoParam (st=.AugAssign (.Name (eV st) (lJ st)) (abX st) (br st) (cx st)) Mxx.ka)(ho:autoParam ((!own.contains (eV st)&&AO ks (eV st))=true) Mxx.ka):
 cY V ks W wf X st σ own=some (.nx (put (eV st) d σ) (sP (eV st) own)):=by
 rw[ay,cF]at ho;generalize eV st=n at*;rw[hs];show IZ V ks n (abX st) (br st) σ own=_;unfold IZ;rw[ho.1,if_neg aJ,if_pos ho.2,ha];show(ey V ks σ own (br st)).bind _=_;rw[h];show(F7 _ _ _).map _=_;rw[hd];rfl
theorem Vr(h:ey V ks σ own (br st)=some (.lst es,fl))(hl:ds.length+es.length<=dC)(ha:autoParam (look σ (eV st)=some (.lst ds)) Mxx.ka)
(hs:autoParam (st=.AugAssign (.Name (eV st) (lJ st)) .Add (br st) (cx st)) Mxx.ka)(ho:autoParam (own.contains (eV st)=true) Mxx.ka):
 cY V ks W wf X st σ own=some (.nx (put (eV st) (.lst (ds++es)) σ) (eV st::sP (eV st) own)):=by
 generalize eV st=n at*;rw[hs];show IZ V ks n .Add (br st) σ own=_;unfold IZ;rw[if_pos ho,if_pos (show KO .Add=true from rfl),ha];show(ey V ks σ own (br st)).bind _=_;rw[h];show(if ds.length+es.length<=dC then _ else none)=_;rw[if_pos hl]
theorem tZ(c)(h:V.b ks σ (eA st)=some c)(hs:autoParam (st=.If (eA st) (aS st) (gT st) (cx st)) Mxx.ka):cY V ks W wf X st σ own=if c=true then X (aS st) σ own else X (gT st) σ own:=by
 rw[hs];show(V.b ks σ (eA st)).bind _=_;rw[h];rfl
theorem l8(h:V.b ks σ (eA st)=some true)(hx:X b σ own=some (.nx σ' own'))(k:cM (cY V ks W wf X) rest σ' own'=r)(hb:autoParam (aS st=b) Mxx.ka)(hs:autoParam (st=.If (eA st) (aS st) (gT st) (cx st)) Mxx.ka):
 cM (cY V ks W wf X) (st::rest) σ own=r:=
 d8 (by rw[tZ true h hs,if_pos rfl,hb];exact hx) k
theorem gU(h:V.b ks σ (eA st)=some true)(hx:X b σ own=some (.rt d))(hb:autoParam (aS st=b) Mxx.ka)(hs:autoParam (st=.If (eA st) (aS st) (gT st) (cx st)) Mxx.ka):
 cM (cY V ks W wf X) (st::rest) σ own=some (.rt d):=
 c9 (by rw[tZ true h hs,if_pos rfl,hb];exact hx)
theorem cS(h:V.b ks σ (eA st)=some false)(hx:X b σ own=some (.nx σ' own'))(k:cM (cY V ks W wf X) rest σ' own'=r)(hb:autoParam (gT st=b) Mxx.ka)(hs:autoParam (st=.If (eA st) (aS st) (gT st) (cx st)) Mxx.ka):
 cM (cY V ks W wf X) (st::rest) σ own=r:=
 d8 (by rw[tZ false h hs,if_neg aJ,hb];exact hx) k
theorem vy{ds:List D}{r:Fl}(h:sR V ks σ own (br st)=some ds)(hf:u7 X ks (fw st) (aS st) ds σ own=some r)(hs:autoParam (st=.For (fw st) (br st) (aS st) [] (cx st)) Mxx.ka):cY V ks W wf X st σ own=some r:=by
 rw[hs];show(sR V ks σ own (br st)).bind _=_;rw[h];exact hf
theorem GC{r:Fl}(hf:lX X V ks (eA st) (aS st) wf σ own=some r)(hs:autoParam (st=.While (eA st) (aS st) [] (cx st)) Mxx.ka):cY V ks W wf X st σ own=some r:=by
 rw[hs];exact hf
theorem dJ(d)(h:V.d ks σ (br st)=some d)(hs:autoParam (st=.Return (some (br st)) (cx st)) Mxx.ka):cY V ks W wf X st σ own=some (.rt d):=by
 rw[hs];show(V.d ks σ (br st)).map _=_;rw[h];rfl
theorem K1(hs:autoParam (sT (Yi st)=some (M4 st)) Mxx.ka)(hx:autoParam (st=.Expr (Yi st) (cx st)) Mxx.ka)(ho:autoParam ((own.contains (kY st)&& !(kY st==("__debug__":Str)))=true) Mxx.ka)(ha:autoParam (look σ (kY st)=some (.lst ds)) Mxx.ka)
(h:meS V ks (kY st) (M4 st).2.1 ds σ own (M4 st).2.2=r):cY V ks W wf X st σ own=r:=by
 obtain⟨h1,h2⟩:=bO.mp ho;rw[hx];show(sT (Yi st)).bind _=_;rw[hs];show KU V ks (kY st) (M4 st).2.1 (M4 st).2.2 σ own=_;unfold KU;rw[if_pos ⟨h1,Yj h2⟩,ha];exact h
theorem zN(h:ey V ks σ own (B4 st)=some c)(hl:ds.length+1<=dC)(ha:autoParam (look σ (kY st)=some (.lst ds)) Mxx.ka)(hs:autoParam (sT (Yi st)=some (M4 st)) Mxx.ka)(hx:autoParam (st=.Expr (Yi st) (cx st)) Mxx.ka)
(hm:autoParam ((M4 st).2.1="append") Mxx.ka)(hg:autoParam ((M4 st).2.2=[B4 st]) Mxx.ka)(hn:autoParam (f9 (B4 st)=true) Mxx.ka)(ho:autoParam ((own.contains (kY st)&& !(kY st==("__debug__":Str)))=true) Mxx.ka):
 cY V ks W wf X st σ own=some (.nx (put (kY st) (.lst (ds++[c.1])) σ) own):=by
 refine K1 hs hx ho ha ?_;rw[hg,hm];show(if _ then(ey V ks σ own (B4 st)).map _ else none)=_;rw[if_pos ⟨⟨rfl,hn⟩,hl⟩,h];rfl
theorem fX(h:cM (cY V ks W wf (AZ V ks W wf n)) bs σ own=r)(hb:autoParam (b=bs) Mxx.ka):AZ V ks W wf (n+1) b σ own=r:=by
 subst hb;exact h
theorem Dn:∀(ds:List D)(f:Nat->cw×List Str)(p:Nat->cw×List Str),(∀i (h:i<ds.length),de ks t ds[i] (f i)=some (p i)/\X body (p i).1 (p i).2=some (.nx (f (i+1)).1 (f (i+1)).2))->
 u7 X ks t body ds (f 0).1 (f 0).2=some (.nx (f ds.length).1 (f ds.length).2):=by
 intro zx
 induction zx with
 |nil=>
  rintro f p _;exact rfl
 |cons d ds ih=>
  rintro f p h;dsimp only[u7];obtain⟨h1,h2⟩:=h 0 (by simp);rw[show de ks t d (f 0)=some (p 0)from h1];show(X body (p 0).1 (p 0).2).bind _=_;rw[h2];exact ih (λi=>f (i+1)) (λi=>p (i+1)) λi hi=>h (i+1) (by simpa using hi)
theorem Vs:u7 X ks t body [] σ own=some (.nx σ own):=rfl
theorem ua(h:X body (g1 (de ks t d (σ,own))) (g2 (de ks t d (σ,own)))=some (.nx σ' own'))(k:u7 X ks t body ds σ' own'=r)(hb:autoParam ((de ks t d (σ,own)).isSome=true) Mxx.ka):
 u7 X ks t body (d::ds) σ own=r:=by
 dsimp only[u7];obtain⟨p,hp⟩:=aA.mp hb;rw[hp]at h⊢;show(X body p.1 p.2).bind _=_;rw[show X body p.1 p.2=_ from h];exact k
end
end
section
def QT(n:Str):List Stmt->Stmt
 |[]=>default
 |st::r=>match st with
  |.FunctionDef name .. =>if name=n then st else QT n r
  |_=>QT n r
def bo(n:Str):List Stmt:=CF (QT n pw.main.body)
def vz(n:Str):bW:=(o6 (QT n pw.main.body)).names
abbrev Va(T:fe):Ev:=dh T 31
abbrev Xa(T:fe)(ks:bW)(W:List Str)(n:Nat):XD:=AZ (dh T 31) ks W 60 n
def ub(i:Nat)(st:Stmt):ae:=(x9 st).getD i default
def di(n:Nat):D:=.int n
theorem cN{α:Type}{l:List α}{i:Nat}{d:α}(h:i<l.length):l.getD i d=l[i]:=by simp[gJ,h]
theorem zO{l:List D}{a:Nat}(h:a<l.length)(hb:l.length<2^60):g8 (.lst l) a=some (l[a]'h):=by
 rw[Kz (by omega)];unfold UM seqIndex?;have e1:¬((a:Int)<0):=by omega
 simp only[e1,if_false];rw[if_pos (by simp;omega)];simp[h]
theorem mX{l:List Nat}{a:Nat}(h:a<l.length)(hb:l.length<2^60):g8 (.lst (l.map di)) a=some (di (l[a]'h)):=by
 rw[zO (by simpa using h) (by simpa using hb)];simp
section
variable{T:fe}
def jK:bW:=vz "_law_joined"
def jB:List Stmt:=bo "_law_joined"
def jF:Stmt:=aq 1 jB
def jS(gj:List D)(rings:Int)(P:D):cw:=[("ends",.lst gj),("rings",.int rings),("pairs",P)]
def jT(x:Option (D×D×D×D))(gj:List D)(rings:Int)(P:D):cw:=jS gj rings P++(match x with|none=>[]|some (a,b,c,d)=>[("one",a),("other",b),("second",c),("first",d)])
def eW(e:List Nat)(a b:Nat):List Nat:=(e.set (e.getD a 0) (e.getD b 0)).set (e.getD b 0) (e.getD a 0)
def j0(e:List Nat)(a b:Nat):Nat:=if e.getD a 0=b then 1 else 0
theorem rO(e:List Nat)(a b:Nat):(eW e a b).length=e.length:=by unfold eW;rw[oq,oq]
theorem Vt(o:Option (D×D×D×D))(l l2)(r r2 a b x y)(P)(h1:g8 (.lst l) a=some (.int x))(h2:g8 (.lst l) b=some (.int y))(hx:0<=x/\x<l.length)(hy:0<=y/\y<l.length)(hl:l.length<=dC)
(hs:(l.set x.toNat (.int y)).set y.toNat (.int x)=l2)(hr:(if(x==b)=true then some (D.int 1)else some (.int 0))=some (.int (r2 - r)))(n):
 Xa T jK ["ends"] (n+1) (aS jF) (g1 (de jK (fw jF) (.tup [.int a,.int b]) (jT o l r P,["ends"]))) (g2 (de jK (fw jF) (.tup [.int a,.int b]) (jT o l r P,["ends"])))
  =some (.nx (jT (some (.int a,.int b,.int y,.int x)) l2 r2 P) ["ends"]):=by
 rcases o with _|⟨x1,x2,x3,x4⟩
 all_goals
  refine fX (bs:=[aq 0 (aS jF),aq 1 (aS jF),aq 2 (aS jF)]) ?_;refine d8 (l6 ["first","second"] [ub 0 (aq 0 (aS jF)),ub 1 (aq 0 (aS jF))] (dm (abY (tr h1)) (dm (abY (tr h2)) l5))) ?_;refine d8 (abZ (ds:=l) (i:=x) (j:=y) (c:=.int y) (d:=.int x) (lZ (by rfl')) (lZ (by rfl')) (by rfl') (by rfl') hx hy hl) ?_;rw[hs];refine d8 (Jk (a:=.int r) (.int r2) (lZ (tr hr)) ?_) (by rfl');show some (D.int (_+_))=_;rw[DR,alT]
theorem QU(x:Option (D×D×D×D))(e:List Nat)(r a b:Nat)(P:D)(he:e.length<2^20)(ha:a<e.length)(hb:b<e.length)(hca:e[a]<e.length)(hcb:e[b]<e.length)(n:Nat):
 Xa T jK ["ends"] (n+1) (aS jF) (g1 (de jK (fw jF) (.tup [di a,di b]) (jT x (e.map di) r P,["ends"]))) (g2 (de jK (fw jF) (.tup [di a,di b]) (jT x (e.map di) r P,["ends"])))
  =some (.nx (jT (some (di a,di b,di e[b],di e[a])) ((eW e a b).map di) (r+j0 e a b:Nat) P) ["ends"]):=by
 have eY:dC=1048576:=rfl;refine Vt x (e.map di) ((eW e a b).map di) r (r+j0 e a b:Nat) a b e[a] e[b] P (mX ha (by omega)) (mX hb (by omega)) ⟨by omega,by rw[ag];omega⟩ ⟨by omega,by rw[ag];omega⟩ (by rw[ag];omega) ?_ ?_ n
 ·unfold eW
  rw[Tg,Tg,cN ha,cN hb];rfl
 ·unfold j0
  rw[cN ha];by_cases h:e[a]=b
  ·rw[if_pos (by rw[beq_iff_eq];exact_mod_cast h),if_pos h];congr 2;omega
  ·rw[if_neg (by rw[beq_iff_eq];exact_mod_cast h),if_neg h];congr 2;omega
def prs(a b c d:Nat):D:=.lst [.tup [di a,di b],.tup [di c,di d]]
theorem aja(e:List Nat)(r a b c d:Nat)(he:e.length<2^20)(ha:a<e.length)(hb:b<e.length)(hc:c<e.length)(hd:d<e.length)(hx:∀x∈e,x<e.length):
 Xa T jK ["ends"] 20 jB (jS (e.map di) r (prs a b c d)) []=some (.rt (.tup [.lst ((eW (eW e a b) c d).map di),.int ((r+j0 e a b)+j0 (eW e a b) c d:Nat)])):=by
 have eY:dC=1048576:=rfl;have hE:∀(i:Nat)(h:i<(eW e a b).length),(eW e a b)[i]<(eW e a b).length:=by
  intro i h;have hm:(eW e a b)[i]∈eW e a b:=aV h;rw[rO];unfold eW at hm;rcases kj hm with h1|h1
  ·rcases kj h1 with h2|h2
   ·exact hx _ h2
   ·rw[show(eW e a b)[i]=_ from h2,cN hb];exact hx _ (aV hb)
  ·rw[show(eW e a b)[i]=_ from h1,cN ha];exact hx _ (aV ha)
 have hl:=rO e a b;refine fX (bs:=[aq 0 jB,aq 1 jB,aq 2 jB]) ?_;refine d8 (bC (.lst (e.map di)) (tr (b:=if(e.map di).length<=dC then some (.lst (e.map di))else none) (if_pos (by rw[ag];omega)))) ?_;refine d8 (vy (ds:=[.tup [di a,di b],.tup [di c,di d]]) (r:=.nx (jT (some (di c,di d,di ((eW e a b)[d]),di ((eW e a b)[c]))) ((eW (eW e a b) c d).map di) ((r+j0 e a b)+j0 (eW e a b) c d:Nat) (prs a b c d)) ["ends"]) (by rfl') ?_) ?_
 ·refine ua (σ':=jT (some (di a,di b,di e[b],di e[a])) ((eW e a b).map di) (r+j0 e a b:Nat) (prs a b c d)) (own':=["ends"]) ?_ (ua ?_ Vs)
  ·exact QU none e r a b (prs a b c d) he ha hb (hx _ (aV ha)) (hx _ (aV hb)) 18
  ·exact QU _ (eW e a b) (r+j0 e a b) c d (prs a b c d) (by omega) (by omega) (by omega) (hE _ _) (hE _ _) 18
 ·exact c9 (dJ _ (by rfl'))
end
end
section
section
variable{T:fe}
def rK:bW:=vz "_law_rings"
def rB:List Stmt:=bo "_law_rings"
def rF:Stmt:=aq 2 rB
def rFB:List Stmt:=aS rF
def rS(o:Option (D×D×D×D))(row al iU:List D)(size:Int):cw:=([("row",.lst row),("allowed",.lst al),("size",.int size),("states",.lst iU)]:cw)++(match o with|none=>[]|some (a,b,c,d)=>[("one",a),("first",b),("second",c),("ways",d)])
def Yk(a b c d:Int):D:=D.lst [D.tup [D.int a,D.int b],D.tup [D.int c,D.int d]]
def Vu(f s:Int):D:=D.lst [Yk f (f+1) s (s+1),Yk f (s+1) s (f+1),Yk f s (f+1) (s+1)]
def rC1:ae:=br (aq 0 rFB)
def Hu:ae:=br (aq 2 rFB)
abbrev rQ(o:Option (D×D×D×D))(row al iU:List D)(size one:Int):cw:=put "one" (.int one) (rS o row al iU size)
theorem aqn(o:Option (D×D×D×D))(row al iU)(size one p):ff (dh T 30) (rQ o row al iU size one) rC1 (.int p)=
 ((((g8 (.lst row) p).bind λd=>cmp .Eq d (.int one)).bind λb=>if b=true then some true else some false).bind λb=>if b=true then(az .Mult (.int 2) (.int p)).map λd=>[d]else some []):=by
 rcases o with _|⟨x1,x2,x3,x4⟩<;>rfl'
abbrev S2(row al iU:List D)(size one f s:Int):cw:=rS (some (.int one,.int f,.int s,Vu f s)) row al iU size
theorem ajb(row al iU l ws)(size one f s r)(h:g8 (.lst al) one=some (.lst ws)):ff (dh T 30) (S2 row al iU size one f s) Hu (.tup [.lst l,.int r])=
 iL (vx (dh T 30) (gq (S2 row al iU size one f s) (.tup [.lst l,.int r]) Hu) Hu) ws:=
 tr (b:=(g8 (.lst al) one).bind λd=>(items d).bind λds=>iL (vx (dh T 30) (gq (S2 row al iU size one f s) (.tup [.lst l,.int r]) Hu) Hu) ds) (by rw[h];rfl)
theorem ajc(row al iU l)(size one f s r):vx (dh T 30) (gq (S2 row al iU size one f s) (.tup [.lst l,.int r]) Hu) Hu (.int 0)=(T.fn "_law_joined" [.lst l,.int r,Yk f (f+1) s (s+1)]).map λd=>[d]:=by rfl'
theorem ajd(row al iU l)(size one f s r):vx (dh T 30) (gq (S2 row al iU size one f s) (.tup [.lst l,.int r]) Hu) Hu (.int 1)=(T.fn "_law_joined" [.lst l,.int r,Yk f (s+1) s (f+1)]).map λd=>[d]:=by rfl'
theorem aje(row al iU l)(size one f s r):vx (dh T 30) (gq (S2 row al iU size one f s) (.tup [.lst l,.int r]) Hu) Hu (.int 2)=(T.fn "_law_joined" [.lst l,.int r,Yk f s (f+1) (s+1)]).map λd=>[d]:=by rfl'
theorem Vv(o:Option (D×D×D×D))(row al iU ab2)(size one f s)(n)(h1:(dh T 31).d rK (rQ o row al iU size one) rC1=some (.lst [.int f,.int s]))(h2:(dh T 31).d rK (S2 row al iU size one f s) Hu=some (.lst ab2)):
 Xa T rK [] (n+1) rFB (g1 (de rK (fw rF) (.int one) (rS o row al iU size,[]))) (g2 (de rK (fw rF) (.int one) (rS o row al iU size,[])))=some (.nx (rS (some (.int one,.int f,.int s,Vu f s)) row al ab2 size) []):=by
 rcases o with _|⟨x1,x2,x3,x4⟩
 all_goals
  refine fX (bs:=[aq 0 rFB,aq 1 rFB,aq 2 rFB]) ?_;refine d8 (l7 (.lst [.int f,.int s],true) (lZ (d:=.lst [.int f,.int s]) (tr h1))) ?_;refine d8 (bC (Vu f s) (by rfl')) ?_;refine d8 (Dm ab2 (tr h2)) (by rfl')
end
end
section
theorem dO:dC=1048576:=rfl
theorem QV:∀(n a:Nat),mj a 1 n=(xU a n).map di:=by
 intro zx
 induction zx with
 |zero=>
  rintro _;exact rfl
 |succ n ih=>
  rintro a;rw[sE,aH,<-ih (a+1)];rfl
theorem Jl(a b):fu a b 1=if a<b then b - a else 0:=by
 unfold fu;rw[if_pos (by decide)];split
 ·rw[Int.ediv_one];omega
 ·rfl
theorem M5(a b)(h:a<=b)(hb:b<=dC):items (.om a b 1)=some ((xU a (b - a)).map di):=by
 have hl:=dO;have hs:fu a b 1=((b - a:Nat):Int):=by
  rw[Jl];split<;>omega
 have DZ:lx a b 1=true:=by
  unfold lx HE Builtin.Range.rangeFitsLong;rw[hs];simp;omega
 rw[Fh,if_pos DZ];unfold jh;rw[hs,aY,QV]
theorem iV(b)(hb:b<=dC):items (.om 0 b 1)=some ((a0 b).map di):=by
 have:=M5 0 b (dx _) hb;rw[hW,<-nY]at this;exact this
theorem mz(h:l.length<=dC):bY .len [.lst l]=some (.int l.length):=by
 show ec (if l.length<=dC then some (D.int l.length)else none) _=_;rw[if_pos h];rfl
theorem cL:∀(xs:List α),(xs.flatMap λx=>if p x=true then[f x]else[])=(xs.filter p).map f:=by
 intro zx
 induction zx with
 |nil=>
  exact rfl
 |cons x xs ih=>
  rw[dH,cQ,ih];cases p x<;>simp
theorem cH:∀(xs:List α),(xs.flatMap λx=>[f x])=xs.map f:=by
 intro zx
 induction zx with
 |nil=>
  exact rfl
 |cons x xs ih=>
  rw[dH,ih];rfl
theorem turn_if:(((some b).bind λb=>if b=true then some true else some false).bind λb=>if b=true then e else some [])=if b=true then e else some []:=by cases b<;>rfl
theorem iW(h1: -1048576<=x)(h2:x<=1048576):sm x=true:=Pl (jb (by decide) h1) (jb h2 (by decide))
def fA(row:List Nat)(k:Nat):List Nat:=(a0 row.length).filter λp=>row.getD p 0==k
section
variable{T:fe}
theorem Vw(o:Option (D×D×D×D))(row:List Nat)(al iU:List D)(k:Nat)(hl:row.length<=2^19):(dh T 31).d rK (rQ o (row.map di) al iU row.length k) rC1=some (.lst ((fA row k).map λp=>di (2*p))):=by
 have e:=dF (T:=T) (V:=dh T 30) (ks:=rK) (σ:=rQ o (row.map di) al iU row.length k) (e:=rC1) (d:=.om 0 row.length 1) (φ:=di) (xs:=a0 row.length) (g:=λp=>if(row.getD p 0==k)=true then[di (2*p)]else[])
  (by rcases o with _|⟨x1,x2,x3,x4⟩<;>rfl') (by rcases o with _|⟨x1,x2,x3,x4⟩<;>rfl') (iV _ (by rw[dO];omega)) (λp hp=>?_) ?_
 ·rw[cL]at e
  exact e
 ·rw[bH]at hp
  rw[show di p=.int p from rfl,aqn,mX hp (by omega)];have hc:cmp .Eq (di row[p]) (.int k)=some (row.getD p 0==k):=by
   show some ((row[p]:Int)==(k:Int))=_;rw[cN hp];congr 1;rw[fq,beq_iff_eq,beq_iff_eq];omega
  rw[af,hc,turn_if,vq (iW (by omega) (by omega)) (iW (by omega) (by omega))];cases(row.getD p 0==k)
  ·rfl
  ·show some [D.int (2*(p:Int))]=some [D.int ((2*p:Nat):Int)]
   rw[lF];rfl
 ·rw[cL,ag]
  refine ao (nr ..) ?_;rw[cf,dO];omega
end
end
end Internal
namespace Internal.Z
section
abbrev St:=List Nat×Nat
def uO(st:St):D:=.tup [.lst (st.1.map di),.int st.2]
def sy(a b c d:Nat)(st:St):St:=(eW (eW st.1 a b) c d,(st.2+j0 st.1 a b)+j0 (eW st.1 a b) c d)
def mY(p q w:Nat)(st:St):St:=match w with
 |0=>sy (2*p) (2*p+1) (2*q) (2*q+1) st
 |1=>sy (2*p) (2*q+1) (2*q) (2*p+1) st
 |_=>sy (2*p) (2*q) (2*p+1) (2*q+1) st
def jJ(row:List Nat)(k:Nat)(ws:List Nat)(iU:List St):List St:=iU.flatMap λst=>ws.map λw=>mY ((fA row k).getD 0 0) ((fA row k).getD 1 0) w st
def mZ(N:Nat)(st:St):Prop:=st.1.length=N/\∀x∈st.1,x<N
def zP(T:fe):Prop:=∀(e:List Nat)(r a b c d:Nat),e.length<2^20->a<e.length->b<e.length->c<e.length->d<e.length->(∀x∈e,x<e.length)->T.fn "_law_joined" [.lst (e.map di),.int r,prs a b c d]=some (uO (sy a b c d (e,r)))
theorem pA(hl:e.length=N)(h:∀x∈e,x<N)(ha:a<N)(hb:b<N):(eW e a b).length=N/\∀x∈eW e a b,x<N:=by
 refine⟨by rw[rO,hl],λx hm=>?_⟩;unfold eW at hm;rw[cN (by lia:a<e.length),cN (by lia:b<e.length)]at hm;rcases kj hm with h1|h1
 ·rcases kj h1 with h2|h2
  ·exact h _ h2
  ·rw[h2];exact h _ (aV _)
 ·rw[h1];exact h _ (aV _)
theorem zQ{N:Nat}{st:St}{a b c d:Nat}(g:mZ N st)(ha:a<N)(hb:b<N)(hc:c<N)(hd:d<N):mZ N (sy a b c d st):=by
 obtain⟨h1,h2⟩:=pA g.1 g.2 ha hb;exact pA h1 h2 hc hd
theorem zR{N:Nat}{st:St}{p q w:Nat}(g:mZ N st)(hp:2*p+1<N)(hq:2*q+1<N):mZ N (mY p q w st):=by
 unfold mY;split<;>exact zQ g (by lia) (by lia) (by lia) (by lia)
theorem Jm(g:∀st∈iU,mZ N st)(hN:N=2*row.length)(h0:(fA row k).length=2):∀st∈jJ row k ws iU,mZ N st:=by
 intro st DY;unfold jJ at DY;obtain⟨s0,h1,h2⟩:=Eh.mp DY;obtain⟨w,h3,rfl⟩:=jR h2;have hm:∀i (h:i<(fA row k).length),(fA row k)[i]<row.length:=λi h=>by
  have:(fA row k)[i]∈fA row k:=aV h;unfold fA at this;exact bH.mp (dq.mp this).1
 refine zR (g s0 h1) ?_ ?_
 ·rw[cN (by lia)];have:=hm 0 (by lia);lia
 ·rw[cN (by lia)];have:=hm 1 (by lia);lia
theorem B5:(jJ row k ws iU).length=iU.length*ws.length:=by
 unfold jJ;induction iU with
 |nil=>simp
 |cons s iU ih=>
  rw[dH,aC,ih,ag,aG,yh,yi,fR]
section
variable{T:fe}
theorem QW(hT:zP T)(row:List Nat)(al:List (List Nat))(iU:List St)(k:Nat)(hN:N=2*row.length)(hN2:N<2^19)(h0:(fA row k).length=2)(hk:k<al.length)(hal:al.length<2^19)(hw:∀w∈al[k],w<3)(g:∀st∈iU,mZ N st)
(hsz:iU.length*al[k].length<=dC):
 (dh T 31).d rK (S2 (row.map di) (al.map λws=>.lst (ws.map di)) (iU.map uO) row.length k (2*(fA row k).getD 0 0:Nat) (2*(fA row k).getD 1 0:Nat)) Hu=some (.lst ((jJ row k al[k] iU).map uO)):=by
 have hp:∀i (h:i<2),2*((fA row k).getD i 0)+1<N:=λi h=>by
  have:(fA row k).getD i 0∈fA row k:=by rw[cN (by lia)];exact aV _
  unfold fA at this;have:=bH.mp (dq.mp this).1;unfold fA;lia
 have hp0:=hp 0 (by lia);have hp1:=hp 1 (by lia);generalize hP:(fA row k).getD 0 0=p at hp0;generalize hQ:(fA row k).getD 1 0=q at hp1;have hg:g8 (.lst (al.map λws=>.lst (ws.map di))) k=some (.lst (al[k].map di)):=by
  rw[zO (by simpa using hk) (by rw[ag];lia)];simp
 have e:=dF (T:=T) (V:=dh T 30) (ks:=rK) (σ:=S2 (row.map di) (al.map λws=>.lst (ws.map di)) (iU.map uO) row.length k (2*p:Nat) (2*q:Nat)) (e:=Hu) (d:=.lst (iU.map uO)) (φ:=uO) (xs:=iU) (g:=λst=>al[k].map λw=>uO (mY p q w st))
  (by rfl') (by rfl') rfl (λst DY=>?_) ?_
 ·have e2:(iU.flatMap λst=>al[k].map λw=>uO (mY p q w st))=(jJ row k al[k] iU).map uO:=by
   unfold jJ;rw[hP,hQ];simp only[List.map_flatMap,cG,Function.comp_def]
  rw[e2]at e;exact e
 ·rw[show uO st=.tup [.lst (st.1.map di),.int st.2]from rfl,ajb _ _ _ _ (al[k].map di) _ _ _ _ _ hg]
  have c1:((2*p:Nat):Int)+1=((2*p+1:Nat):Int):=by lia
  have c2:((2*q:Nat):Int)+1=((2*q+1:Nat):Int):=by lia
  obtain⟨gl,gx⟩:=g st DY;have hj:∀a b c d:Nat,a<N->b<N->c<N->d<N->(T.fn "_law_joined" [.lst (st.1.map di),.int st.2,Yk a b c d]).map (λd=>[d])=some [uO (sy a b c d st)]:=λa b c d ha hb hc hd=>by
   rw[show Yk a b c d=prs a b c d from rfl,hT st.1 st.2 a b c d (by lia) (by lia) (by lia) (by lia) (by lia) (λx hx=>by rw[gl];exact gx x hx)];rfl
  have:=zL (φ:=di) (xs:=al[k]) (g:=λw=>[uO (mY p q w st)]) (f:=vx (dh T 30) (gq (S2 (row.map di) (al.map λws=>.lst (ws.map di)) (iU.map uO) row.length k (2*p:Nat) (2*q:Nat)) (.tup [.lst (st.1.map di),.int st.2]) Hu) Hu) (λw hwm=>?_)
  ·rw[this,cH]
  ·have h3:=hw w hwm
   match w,h3 with
   |0,_=>exact(ajc _ _ _ _ _ _ _ _ _).trans (by rw[c1,c2];exact hj _ _ _ _ (by lia) (by lia) (by lia) (by lia))
   |1,_=>exact(ajd _ _ _ _ _ _ _ _ _).trans (by rw[c1,c2];exact hj _ _ _ _ (by lia) (by lia) (by lia) (by lia))
   |2,_=>exact(aje _ _ _ _ _ _ _ _ _).trans (by rw[c1,c2];exact hj _ _ _ _ (by lia) (by lia) (by lia) (by lia))
 ·have:(iU.flatMap λst=>al[k].map λw=>uO (mY p q w st)).length=iU.length*al[k].length:=by
   clear hsz g;induction iU with
   |nil=>simp
   |cons s iU ih=>rw[dH,aC,ih,ag,aG,yh,yi,fR]
  rw[this];exact hsz
end
end
section
def aqo(f:Str):Scope:=o6 (QT f pw.main.body)
abbrev Tn(prim:Str->Option (List D->Option D))(r:Nat):fe:=(Ye prim).tab 30 60 20 r
theorem eZ(ps)(hp:prim f=none)(h:Xa (Tn prim r) (vz f) (Wof f) 20 (bo f) (ps.zip ds) []=some (.rt d))(hl:(ds.length==ps.length)=true:=by rfl)
(hf:autoParam (((px.find? (λd=>d.name==f)).map λd=>(d.params.args.map (·.arg),d.body,d.scope))=some (ps,bo f,aqo f)) Mxx.ka):
 (Tn prim (r+1)).fn f ds=some d:=by
 show(match(Ye prim).prim f with
  |some p=>p ds
  |none=>(Ye prim).run 30 60 20 (Tn prim r) f ds)=_
 rw[show(Ye prim).prim f=none from hp];refine oB (show(Ye prim).fns f=_ from hf) ?_;show(if ds.length=ps.length then abC (Xa (Tn prim r) (vz f) (Wof f) 20 (bo f) (ps.zip ds) [])else none)=some d;rw[if_pos (by simpa using hl),h];rfl
theorem QX(hp:prim "_law_joined"=none):zP (Tn prim (r+1)):=λe r a b c d he ha hb hc hd hx=>
 eZ (["ends","rings","pairs"]:List Str) hp (aja e r a b c d he ha hb hc hd hx)
def iX(n:Nat):List Nat:=(a0 (2*n)).map λe=>2*((e/2+2*(e%2)+n - 1)%n)+1 - e%2
def ek(row:List Nat)(al:List (List Nat)):Nat->List St
 |0=>[(iX row.length,0)]
 |i+1=>jJ row i (al.getD i []) (ek row al i)
theorem rf(n)(hn:0<n):mZ (2*n) (iX n,0):=by
 refine⟨by unfold iX;simp,λx hx=>?_⟩;unfold iX at hx;obtain⟨e,_,rfl⟩:=jR hx;have:=dA (e/2+2*(e%2)+n - 1) hn;exact bx (lN ..) (ao (fN _) (cE 2 this))
theorem sZ(h1:0<row.length)(hk:∀k<al.length,(fA row k).length=2):∀i,i<=al.length->∀st∈ek row al i,mZ (2*row.length) st:=by
 intro zx
 induction zx with
 |zero=>
  rintro _ st h;rw[aU.mp h];exact rf _ h1
 |succ i ih=>
  rintro h st DY;exact Jm (ih (by omega)) rfl (hk i (by omega)) st DY
theorem B6(hw:∀ws∈al,ws.length<=3/\∀w∈ws,w<3):∀i,i<=al.length->(ek row al i).length<=3^i:=by
 intro zx
 induction zx with
 |zero=>
  rintro _;exact bD _
 |succ i ih=>
  rintro h;show(jJ _ _ _ _).length<=_;rw[B5,uG,cN (by omega)];exact qo (ih (by omega)) (hw _ (aV _)).1
section
variable{T:fe}
abbrev rI(row al:D):cw:=[("row",row),("allowed",al)]
theorem Vx(row:List D)(al:D)(n:Nat)(h:n=6\/n=8\/n=10):(Va T).d rK [("row",.lst row),("allowed",al),("size",.int n)] (br (aq 1 rB))=some (.lst [uO (iX n,0)]):=by
 rcases h with rfl|rfl|rfl<;>rfl'
theorem ab3(row al iU)(size):sR (Va T) rK (rS none row al iU size) [] (br rF)=(((bY .len [.lst al]).bind λd=>some [d]).bind λds=>bY .range ds).bind items:=by rfl'
theorem M6(h:al.length<=dC):((((bY .len [.lst al]).bind λd=>some [d]).bind λds=>bY .range ds).bind items)=some ((a0 al.length).map di):=by
 rw[mz h,af,af,show bY .range [D.int al.length]=some (.om 0 al.length 1)from rfl,af,iV _ h]
def rC3:ae:=br (aq 3 rB)
theorem aqq(o:Option (D×D×D×D))(row al iU l)(size r):ff (dh T 30) (rS o row al iU size) rC3 (.tup [.lst l,.int r])=some [.int r]:=by
 rcases o with _|⟨x1,x2,x3,x4⟩<;>rfl'
theorem ajf(o:Option (D×D×D×D))(row al)(iU:List St)(size)(h:iU.length<=dC):(Va T).d rK (rS o row al (iU.map uO) size) rC3=some (.lst (iU.map λst=>.int st.2)):=by
 have e:=dF (T:=T) (V:=dh T 30) (ks:=rK) (σ:=rS o row al (iU.map uO) size) (e:=rC3) (d:=.lst (iU.map uO)) (φ:=uO) (xs:=iU) (g:=λst=>[.int st.2])
  (by rcases o with _|⟨x1,x2,x3,x4⟩<;>rfl') (by rcases o with _|⟨x1,x2,x3,x4⟩<;>rfl') rfl (λst DY=>aqq o row al _ _ size st.2) (by rw[cH,ag];exact h)
 rw[cH]at e;exact e
theorem ab4(o:Option (D×D×D×D))(row al iU)(size one):de rK (fw rF) (.int one) (rS o row al iU size,[])=some (g1 (de rK (fw rF) (.int one) (rS o row al iU size,[])),g2 (de rK (fw rF) (.int one) (rS o row al iU size,[]))):=by
 rcases o with _|⟨x1,x2,x3,x4⟩<;>rfl'
theorem QY(h:l.length=2):l=[l.getD 0 0,l.getD 1 0]:=by
 match l,h with
 |[a,b],_=>rfl
theorem ajg(hT:zP T)(row:List Nat)(al:List (List Nat))(hs:row.length=6\/row.length=8\/row.length=10)(hk:∀k<al.length,(fA row k).length=2)(hal:al.length<=5)(hw:∀ws∈al,ws.length<=3/\∀w∈ws,w<3):
 Xa T rK [] 20 rB (rI (.lst (row.map di)) (.lst (al.map λws=>.lst (ws.map di)))) []=some (.rt (.lst ((ek row al al.length).map λst=>.int st.2))):=by
 have hl:=dO;have h35:(3:Nat)^5=243:=rfl;have h3:∀i,i<=al.length->(ek row al i).length<=243:=λi hi=>ao (B6 hw i hi) (h35▸aW (by decide) (by omega));have e1:(row.map di).length=row.length:=ag ..;obtain⟨Oe,ab5⟩:∃Oe:List D,Oe=al.map λws=>.lst (ws.map di):=⟨_,rfl⟩
 have e2:Oe.length=al.length:=by rw[ab5,ag]
 obtain⟨o,ho⟩:∃o:Nat->Option (D×D×D×D),o=λi=>match i with|0=>none|i+1=>some (.int i,.int (2*(fA row i).getD 0 0:Nat),.int (2*(fA row i).getD 1 0:Nat),Vu (2*(fA row i).getD 0 0:Nat) (2*(fA row i).getD 1 0:Nat)):=⟨_,rfl⟩
 have hf:=Dn (X:=Xa T rK [] 19) (ks:=rK) (t:=fw rF) (body:=rFB) ((a0 al.length).map di) (λi=>(rS (o i) (row.map di) Oe ((ek row al i).map uO) row.length,[]))
  (λi=>(g1 (de rK (fw rF) (.int i) (rS (o i) (row.map di) Oe ((ek row al i).map uO) row.length,[])),g2 (de rK (fw rF) (.int i) (rS (o i) (row.map di) Oe ((ek row al i).map uO) row.length,[])))) (λi hi=>?_)
 ·rw[ag,cf]at hf
  rw[<-ab5];refine fX (bs:=[aq 0 rB,aq 1 rB,aq 2 rB,aq 3 rB]) ?_;refine d8 (bC (.int row.length) (tr (b:=bY .len [.lst (row.map di)]) ((by rw[mz (l:=row.map di) (by omega),e1])))) ?_;refine d8 (bC (.lst [uO (iX row.length,0)]) (tr (Vx (T:=T) (row.map di) (.lst Oe) row.length hs))) ?_;refine d8 (vy (ds:=(a0 al.length).map di) (r:=.nx (rS (o al.length) (row.map di) Oe ((ek row al al.length).map uO) row.length) []) (tr ((ab3 (T:=T) (row.map di) Oe [uO (iX row.length,0)] row.length).trans (by rw[M6 (al:=Oe) (by omega),e2]))) (tr hf (by rw[ho];rfl'))) ?_;exact c9 (dJ _ (ajf (o al.length) _ _ _ _ (by have:=h3 al.length (bD _);omega)))
 ·rw[ag,cf]at hi
  have hsz:0<row.length:=by omega
  rw[show((a0 al.length).map di)[i]'(by rw[ag,cf];exact hi)=.int i from by simp[di]];refine⟨ab4 _ _ _ _ _ _,?_⟩;have hp:=hk i hi;have q1:=Vw (T:=T) (o i) row Oe ((ek row al i).map uO) i (by omega);have q2:=QY hp;rw[q2]at q1;have q3:=QW hT (N:=2*row.length) row al (ek row al i) i rfl (by omega) hp hi (by omega) (hw _ (aV hi)).2 (sZ hsz hk i (by omega)) (by
   have:=B6 hw (row:=row) i (by omega);have h4:=(hw _ (aV hi)).1;have h5:=h3 i (by omega);have:(ek row al i).length*al[i].length<=243*3:=qo h5 h4;omega)
  rw[<-ab5]at q3;have q4:=Vv (o i) (row.map di) Oe ((ek row al i).map uO) ((jJ row i al[i] (ek row al i)).map uO) row.length i _ _ 18 q1 q3;refine q4.trans ?_;have e3:ek row al (i+1)=jJ row i al[i] (ek row al i):=by
   show jJ row i (al.getD i []) (ek row al i)=_;rw[cN hi]
  rw[e3,ho]
end
end
section
structure nR(T:fe):Prop where
 mem:T.mem=Jd
 get:T.get=Jc
 gl:T.gl=Vg
theorem uc(prim:Str->Option (List D->Option D))(r):nR (Tn prim r):=by
 cases r<;>exact⟨rfl,rfl,rfl⟩
def ch(c:Nat):Str:=⟨#[c]⟩
def og(c:Nat):Str:=match L3.lookup (c:Int)with
 |some x=>x
 |none=>asI (ch c)
section
variable{T:fe}
theorem ajh(h:nR T)(c):Xa T (vz "in_table_b1") [] 20 (bo "in_table_b1") [("code",.str (ch c))] []=some (.rt (.bool (n9.contains (c:Int)))):=by
 refine fX (bs:=[aq 0 (bo "in_table_b1")]) (c9 (dJ _ (tr (b:=(T.mem "b1_set" (.int c)).map .bool) ?_)));rw[h.mem];rfl
theorem ab6(h:nR T)(c:Nat):Xa T (vz "map_table_b3") [] 20 (bo "map_table_b3") [("code",.str (ch c))] []=some (.rt (.str (og c))):=by
 obtain⟨B,hB⟩:∃B,B=bo "map_table_b3":=⟨_,rfl⟩;refine fX (bs:=[aq 0 (bo "map_table_b3"),aq 1 (bo "map_table_b3"),aq 2 (bo "map_table_b3")]) ?_;unfold og;cases hl:L3.lookup (c:Int)with
 |some x=>
  refine d8 (bC (.str x) (tr (b:=T.get "b3_exceptions" [.int c]) (by rw[h.get];show some (match L3.lookup (c:Int)with|some x=>D.str x|none=>.none)=_;rw[hl]))) ?_;exact gU (b:=[aq 0 (aS (aq 1 (bo "map_table_b3")))]) (by rfl') (fX (bs:=[aq 0 (aS (aq 1 (bo "map_table_b3")))]) (c9 (dJ _ (by rfl'))))
 |none=>
  refine d8 (bC .none (tr (b:=T.get "b3_exceptions" [.int c]) (by rw[h.get];show some (match L3.lookup (c:Int)with|some x=>D.str x|none=>.none)=_;rw[hl]))) ?_;refine cS (b:=[]) (by rfl') (fX (bs:=[]) rfl) ?_;refine c9 (dJ _ (tr (b:=jH .lower (.str (ch c)) []) ?_));show(if(ch c).length<=1000000 then some (D.str (asI (ch c)))else none)=_;rw[if_pos (by show(1:Nat)<=1000000;decide)]
theorem aqr(h:nR T)(x):Xa T (vz "ISTERMINAL") [] 20 (bo "ISTERMINAL") [("x",.int x)] []=some (.rt (.bool (decide (x<256)))):=by
 refine fX (bs:=[aq 0 (bo "ISTERMINAL")]) (c9 (dJ _ (tr (b:=((T.gl "NT_OFFSET").bind λd=>cmp .Lt (.int x) d).map .bool) ?_)));rw[h.gl];rfl'
theorem aji(h:nR T)(x):Xa T (vz "ISNONTERMINAL") [] 20 (bo "ISNONTERMINAL") [("x",.int x)] []=some (.rt (.bool (decide (256<=x)))):=by
 refine fX (bs:=[aq 0 (bo "ISNONTERMINAL")]) (c9 (dJ _ (tr (b:=((T.gl "NT_OFFSET").bind λd=>cmp .GtE (.int x) d).map .bool) ?_)));rw[h.gl];rfl'
theorem aqs(h:nR T)(x):Xa T (vz "ISEOF") [] 20 (bo "ISEOF") [("x",.int x)] []=some (.rt (.bool (x==0))):=by
 refine fX (bs:=[aq 0 (bo "ISEOF")]) (c9 (dJ _ (tr (b:=((T.gl "ENDMARKER").bind λd=>cmp .Eq (.int x) d).map .bool) ?_)));rw[h.gl];rfl'
end
structure S1(T:fe):Prop where
 b1:∀c:Nat,T.fn "in_table_b1" [.str (ch c)]=some (.bool (n9.contains (c:Int)))
 b3:∀c:Nat,T.fn "map_table_b3" [.str (ch c)]=some (.str (og c))
 tm:∀x:Int,T.fn "ISTERMINAL" [.int x]=some (.bool (decide (x<256)))
 nt:∀x:Int,T.fn "ISNONTERMINAL" [.int x]=some (.bool (decide (256<=x)))
 eo:∀x:Int,T.fn "ISEOF" [.int x]=some (.bool (x==0))
theorem Yl(hp:∀f,(f==("_int2digits":Str))=false->(f==("_digits2int":Str))=false->prim f=none)(r):S1 (Tn prim (r+1)):=
 ⟨λc=>eZ (["code"]:List Str) (hp _ (by decide) (by decide)) (ajh (uc prim r) c),λc=>eZ (["code"]:List Str) (hp _ (by decide) (by decide)) (ab6 (uc prim r) c),
  λx=>eZ (["x"]:List Str) (hp _ (by decide) (by decide)) (aqr (uc prim r) x),λx=>eZ (["x"]:List Str) (hp _ (by decide) (by decide)) (aji (uc prim r) x),λx=>eZ (["x"]:List Str) (hp _ (by decide) (by decide)) (aqs (uc prim r) x)⟩
end
section
def cIf(e:ae):ae:=(((tW e).2.1.headD ⟨default,default,[],0⟩).ifs).headD default
def ajj(e:ae):ae:=(tW e).1
def vA(e:ae):bW:=fP (lY e)
def dl(l:List Nat):D:=.lst (l.map di)
section
variable{T:fe}
def eK:bW:=vz "_law_even"
def eB:List Stmt:=bo "_law_even"
def eF:Stmt:=aq 2 eB
def S3:List Stmt:=aS eF
def eS(o:Option (D×D×D×D))(row aF left sets cU:List D):cw:=([("row",.lst row),("ways",.lst aF),("left",.lst left),("sets",.lst sets),("ties",.lst cU)]:cw)++(match o with|none=>[]|some (a,b,c,d)=>[("one",a),("first",b),("second",c),("inner",d)])
abbrev eQ(o:Option (D×D×D×D))(row aF left sets cU:List D)(one:Int):cw:=put "one" (.int one) (eS o row aF left sets cU)
def eC1:ae:=br (aq 0 S3)
def eC2:ae:=B4 (aq 2 S3)
def eC3:ae:=Je (br (aq 3 S3))
abbrev eP(row aF left sets cU inner:List D)(one f s:Int):cw:=eS (some (.int one,.int f,.int s,.lst inner)) row aF left sets cU
theorem aqu(o:Option (D×D×D×D))(row aF left sets cU)(one p):ff (dh T 30) (bZ ["ties"] (eQ o row aF left sets cU one)) eC1 (.int p)=
 ((((g8 (.lst row) p).bind λd=>cmp .Eq d (.int one)).bind λb=>if b=true then some true else some false).bind λb=>if b=true then some [.int p]else some []):=by
 rcases o with _|⟨x1,x2,x3,x4⟩<;>rfl'
theorem ajl(o:Option (D×D×D×D))(row aF left sets cU)(one):(dh T 30).d eK (bZ ["ties"] (eQ o row aF left sets cU one)) (kK eC1)=((bY .len [.lst row]).bind λd=>some [d]).bind λds=>bY .range ds:=by
 rcases o with _|⟨x1,x2,x3,x4⟩<;>rfl'
theorem ajm(o:Option (D×D×D×D))(row aF left sets cU)(one):KZ eK (bZ ["ties"] (eQ o row aF left sets cU one)) eC1=true:=by
 rcases o with _|⟨x1,x2,x3,x4⟩<;>rfl'
theorem aqv(row aF left sets cU inner)(one f s p):ff (dh T 30) (bZ ["ties"] (eP row aF left sets cU inner one f s)) eC2 (.int p)=
 ((((jH .count (.lst inner) [.int p]).bind λd=>cmp .Eq d (.int 1)).bind λb=>if b=true then some true else some false).bind λb=>if b=true then some [.int p]else some []):=by rfl'
theorem aqw(row aF left sets cU inner l)(one f s):ff (dh T 29) (bZ ["ties"] (eP row aF left sets cU inner one f s)) eC3 (.lst l)=(az .Add (.lst l) (.lst [.int one])).map λd=>[d]:=by rfl'
theorem Vy(o:Option (D×D×D×D))(row aF left sets QZ more cU inner)(A5)(one f s)(n)(h1:(dh T 31).d eK (bZ ["ties"] (eQ o row aF left sets cU one)) eC1=some (.lst [.int f,.int s]))
(h2:((qD (.lst row) (some (f+1)) (some s)).bind λa=>(((g8 (.lst aF) one).bind λw=>az .FloorDiv w (.int 2)).bind λn=>az .Mult (.lst [.int one]) n).bind λb=>az .Add a b)=some (.lst inner))
(h3:(dh T 31).d eK (bZ ["ties"] (eP row aF left sets cU inner one f s)) eC2=some A5)(h4:(dh T 30).d eK (bZ ["ties"] (eP row aF left sets (cU++[A5]) inner one f s)) eC3=some (.lst more))(h5:az .Add (.lst sets) (.lst more)=some (.lst QZ))(hl:cU.length+1<=dC):
 Xa T eK ["ties"] (n+1) S3 (g1 (de eK (fw eF) (.int one) (eS o row aF left sets cU,["ties"]))) (g2 (de eK (fw eF) (.int one) (eS o row aF left sets cU,["ties"])))=some (.nx (eP row aF left QZ (cU++[A5]) inner one f s) ["ties"]):=by
 rcases o with _|⟨x1,x2,x3,x4⟩
 all_goals
  refine fX (bs:=[aq 0 S3,aq 1 S3,aq 2 S3,aq 3 S3]) ?_;refine d8 (l7 (.lst [.int f,.int s],true) (lZ (d:=.lst [.int f,.int s]) (tr h1))) ?_;refine d8 (bC (.lst inner) (tr h2)) ?_;refine d8 (zN (ds:=cU) (c:=(A5,jz (B4 (aq 2 S3))&&mP A5)) (lZ (tr h3)) hl) ?_;refine d8 (bC (.lst QZ) (tr (b:=((dh T 30).d eK (bZ ["ties"] (eP row aF left sets (cU++[A5]) inner one f s)) eC3).bind λb=>az .Add (.lst sets) b) (by rw[h4];exact h5))) (by rfl')
end
end
section
def eD(aF:List Nat):List Nat:=(a0 aF.length).filter λk=>aF.getD k 0 != 0
def c8(row:List Nat)(k:Nat):Nat:=(fA row k).getD 0 0
def fL(row:List Nat)(k:Nat):Nat:=(fA row k).getD 1 0
def eO(row aF:List Nat)(k:Nat):List Nat:=(row.drop (c8 row k+1)).take (fL row k - (c8 row k+1))++bz (aF.getD k 0/2) k
def j3(row aF:List Nat)(k:Nat):List Nat:=(eD aF).filter λo=>(eO row aF k).count o==1
def g9(ss:List (List Nat))(k:Nat):List (List Nat):=ss++ss.map λl=>l++[k]
def dX(l:List Nat):List (List Nat):=l.foldl g9 [[]]
def rh(line A5:List Nat):Bool:=(line.filter λx=>decide (x∈A5)).length%2==1
def iY(row aF:List Nat):Nat:=((dX (eD aF)).filter λline=>(((eD aF).map (j3 row aF)).filter λA5=>rh line A5).isEmpty).length
theorem Vz(h:(fA row k).length=2):c8 row k<row.length/\fL row k<row.length:=by
 have:∀i,i<2->(fA row k).getD i 0<row.length:=λi hi=>by
  have hm:(fA row k).getD i 0∈fA row k:=by rw[cN (by omega)];exact aV _
  unfold fA at hm;exact bH.mp (dq.mp hm).1
 exact⟨this 0 (by omega),this 1 (by omega)⟩
theorem ab7(f:α->β)(lo hi:Option Int)(l:List α):sl lo hi (l.map f)=(sl lo hi l).map f:=by
 unfold sl;rw[ag,List.map_take,List.map_drop]
theorem rm(n d i:Nat):jG n d (some (i:Int))=min i n:=by
 show(max 0 (min (if(i:Int)<0 then(i:Int)+n else i) n)).toNat=_;rw[if_neg (Int.not_lt.mpr (cg _)),show min (i:Int) n=((min i n:Nat):Int)from(Nat.le_total i n).elim (λh=>by rw[oU h,avj (gD.mpr h)]) λh=>by rw[asP h,asQ (gD.mpr h)],Int.max_eq_right (cg _)];rfl
theorem B7(h:i<=n):jG n d (some (i:Int))=i:=by
 rw[rm,oU h]
theorem Q0{l:List Nat}{a b:Nat}(ha:a<=l.length)(hb:b<=l.length)(hl:l.length<=dC):qD (.lst (l.map di)) (some (a:Int)) (some (b:Int))=some (dl ((l.drop a).take (b - a))):=by
 rw[CV];rw[if_pos (by rw[ag];exact hl),ab7];unfold sl dl;rw[B7 ha,B7 hb]
theorem nT(a b:Nat):cmp .Eq (di a) (.int b)=some (a==b):=by
 show some ((a:Int)==(b:Int))=_;congr 1;rw[fq,beq_iff_eq,beq_iff_eq];omega
theorem ints_map:∀(l:List Nat),iD (l.map di)=some (l.map eR):=by
 intro zx
 induction zx with
 |nil=>
  exact rfl
 |cons a l ih=>
  show(iD (l.map di)).map (λr=>(a:Int)::r)=_;rw[ih];rfl
theorem M7(l:List Nat)(k:Nat):jH .count (.lst (l.map di)) [.int k]=some (di (l.count k)):=by
 show(iD (l.map di)).map (λns=>D.int (ns.count (k:Int):Nat))=_;rw[ints_map];show some (D.int _)=some (D.int _);congr 3
 induction l with
 |nil=>rfl
 |cons a l ih=>
  rw[aH,lj,lj,ih];congr 1;have:(eR a==(k:Int))=(a==k):=by
   rw[fq,beq_iff_eq,beq_iff_eq];show(a:Int)=k↔_;omega
  rw[this]
theorem jv(h:a.length+b.length<=dC):az .Add (.lst a) (.lst b)=some (.lst (a++b)):=by
 show ec (if a.length+b.length<=dC then some (D.lst (a++b))else none) _=_;rw[if_pos h];rfl
theorem M8(x:Nat):∀(l:List Nat),tK (di x) (l.map di)=some (decide (x∈l)):=by
 intro zx
 induction zx with
 |nil=>
  exact rfl
 |cons a l ih=>
  have h1:rG 40 (di a) (di x)=some (a==x):=nT a x;show((rG 40 (di a) (di x)).bind λa=>(tK (di x) (l.map di)).map λb=>a||b)=_;rw[h1,ih];refine congrArg some ?_;rw[fq,uE,beq_iff_eq,decide_eq_true_eq,decide_eq_true_eq,aL];exact or_congr ⟨Eq.symm,Eq.symm⟩ Iff.rfl
theorem vC(a):cmp .Eq (.lst a) (.lst [])=some a.isEmpty:=by
 show ec (if a.length=([]:List D).length then tJ (rG 39) a []else some false) _=_;cases a with
 |nil=>rfl
 |cons x a=>rw[if_neg (by simp)];rfl
theorem j4:(((some b).bind λb=>if b=true then some true else some false).bind λb=>if b=true then some [x]else some [])=some (if b=true then[x]else[]):=by cases b<;>rfl
theorem Dp(h:l.length<=dC):(((bY .len [.lst l]).bind λd=>some [d]).bind λds=>bY .range ds)=some (.om 0 l.length 1):=by
 rw[mz h];rfl
theorem GD(ss)(k):(g9 ss k).length=2*ss.length:=by unfold g9;rw[aC,ag];omega
theorem M9:∀(l:List Nat)(ss:List (List Nat)),(l.foldl g9 ss).length=2^l.length*ss.length:=by
 intro zx
 induction zx with
 |nil=>
  rintro ss;simp
 |cons k l ih=>
  rintro ss;rw[jf,ih,GD,aG,uG,SK]
theorem Na:∀(l:List Nat)(ss:List (List Nat))(N:Nat),(∀x∈ss,x.length<=N)->∀x∈l.foldl g9 ss,x.length<=N+l.length:=by
 intro zx
 induction zx with
 |nil=>
  rintro ss N h x hx;simpa using h x hx
 |cons k l ih=>
  rintro ss N h x hx;have:=ih (g9 ss k) (N+1) (λy hy=>by
   unfold g9 at hy;rcases cC.mp hy with h1|h1
   ·exact Nat.le_succ_of_le (h y h1)
   ·obtain⟨z,hz,rfl⟩:=jR h1
    rw[aC];exact fW (h z hz) 1) x hx
  rw[aG];omega
theorem d5(p:α->Bool)(n)(l:List α)(h:l.length<=n):(l.filter p).length<=n:=ao (nr ..) h
theorem ab8(w)(hw:w<3)(z):(az .FloorDiv (di w) (.int 2)).bind (λn=>az .Mult (.lst [.int z]) n)=some (.lst (bz (w/2) (.int z))):=by
 match w,hw with
 |0,_=>rfl'
 |1,_=>rfl'
 |2,_=>rfl'
section
variable{T:fe}
theorem VA(o:Option (D×D×D×D))(row:List Nat)(aF left sets cU:List D)(k:Nat)(hl:row.length<=2^19)(h2:(fA row k).length=2):(dh T 31).d eK (bZ ["ties"] (eQ o (row.map di) aF left sets cU k)) eC1=some (.lst [di (c8 row k),di (fL row k)]):=by
 have eY:=dO;have e:=dF (T:=T) (V:=dh T 30) (ks:=eK) (σ:=bZ ["ties"] (eQ o (row.map di) aF left sets cU k)) (e:=eC1) (d:=.om 0 row.length 1) (φ:=di) (xs:=a0 row.length) (g:=λp=>if(row.getD p 0==k)=true then[di p]else[])
  (ajm ..) ((ajl ..).trans (by rw[Dp (by rw[ag];omega),ag])) (iV _ (by omega)) (λp hp=>?_) ?_
 ·rw[cL]at e
  refine Ei e ?_;show some (D.lst ((fA row k).map di))=_;rw[QY h2];rfl
 ·rw[bH]at hp
  rw[show di p=.int p from rfl,aqu,mX hp (by omega),af,nT,j4,cN hp]
 ·rw[cL,ag]
  exact d5 _ _ _ (by rw[cf];omega)
theorem VC(row aF:List Nat)(k:Nat)(hl:row.length<=2^10)(h2:(fA row k).length=2)(hk:k<aF.length)(hw:aF.getD k 0<3)(Au:aF.length<=2^10):
 ((qD (.lst (row.map di)) (some ((c8 row k:Int)+1)) (some (fL row k:Int))).bind λa=>(((g8 (.lst (aF.map di)) k).bind λw=>az .FloorDiv w (.int 2)).bind λn=>az .Mult (.lst [.int k]) n).bind λb=>az .Add a b)=some (.lst ((eO row aF k).map di)):=by
 have eY:=dO;have hp:=Vz h2;rw[show(c8 row k:Int)+1=((c8 row k+1:Nat):Int)by omega,Q0 (by omega) (by omega) (by omega),af,mX hk (by omega),af];rw[cN hk]at hw;have h3:(az .FloorDiv (di aF[k]) (.int 2)).bind (λn=>az .Mult (.lst [.int k]) n)=some (dl (bz (aF[k]/2) k)):=by
  generalize aF[k]=w at hw;rw[ab8 w hw k];unfold dl;rw[Az];rfl
 rw[h3,af];unfold dl;rw[jv ?_,<-aX]
 ·unfold eO
  rw[cN hk]
 ·rw[ag,ag,nu,dU,eJ]
  exact ao (Nat.add_le_add (ao (tv ..) (ao (lN ..) hl)) (ao (avk ..) (bV hw))) (by rw[eY];decide)
theorem ajn(L:List Nat)(Q5 GF sets cU:List D)(inner:List Nat)(k:Nat)(f s:Int)(hl:L.length<=dC):
 (dh T 31).d eK (bZ ["ties"] (eP Q5 GF (L.map di) sets cU (inner.map di) k f s)) eC2=some (dl (L.filter λo=>inner.count o==1)):=by
 have e:=dF (T:=T) (V:=dh T 30) (ks:=eK) (σ:=bZ ["ties"] (eP Q5 GF (L.map di) sets cU (inner.map di) k f s)) (e:=eC2) (d:=.lst (L.map di)) (φ:=di) (xs:=L) (g:=λo=>if(inner.count o==1)=true then[di o]else[])
  (by rfl') (by rfl') rfl (λp hp=>?_) ?_
 ·rw[cL]at e
  exact e
 ·rw[show di p=.int p from rfl,aqv,M7,af]
  have:=nT (inner.count p) 1;rw[show((1:Nat):Int)=1 from rfl]at this;rw[this,j4]
 ·rw[cL,ag]
  exact d5 _ _ _ hl
theorem ab9(Q5 GF left cU inner:List D)(sets:List (List Nat))(k:Nat)(f s:Int)(hl:sets.length<=dC)(h1:∀x∈sets,x.length<=100):
 (dh T 30).d eK (bZ ["ties"] (eP Q5 GF left (sets.map dl) cU inner k f s)) eC3=some (.lst ((sets.map λl=>l++[k]).map dl)):=by
 have eY:=dO
 have e:=dF (T:=T) (V:=dh T 29) (ks:=eK) (σ:=bZ ["ties"] (eP Q5 GF left (sets.map dl) cU inner k f s)) (e:=eC3) (d:=.lst (sets.map dl)) (φ:=dl) (xs:=sets) (g:=λl=>[dl (l++[k])])
  (by rfl') (by rfl') rfl (λl hl=>?_) ?_
 ·rw [cH] at e
  rw [cG];exact e
 ·rw [show dl l=.lst (l.map di) from rfl,aqw,jv (by rw [ag];have:=h1 l hl;simp;omega)]
  unfold dl;rw [aX];rfl
 ·rw [cH,ag];exact hl
end
end
section
section
variable{T:fe}
def vD:ae:=rM 0 (br (aq 3 eB))
def A6:ae:=qZ (cIf vD)
def eR2:ae:=rM 0 (qZ (qZ (cIf A6)))
abbrev Av(row aF left sets cU:List D)(o:Option (D×D×D×D)):cw:=eS o row aF left sets cU
theorem aqx(row aF left sets cU l t)(o:Option (D×D×D×D))(x):ff (dh T 23) (gq (gq (Av row aF left sets cU o) (.lst l) vD) (.lst t) A6) eR2 (.int x)=
 ((((gL (.int x) (.lst t))).bind λb=>if b=true then some true else some false).bind λb=>if b=true then some [.int x]else some []):=by
 rcases o with _|⟨x1,x2,x3,x4⟩<;>rfl'
theorem ajo(row aF left sets cU l t)(o:Option (D×D×D×D)):KZ (vA A6) (gq (gq (Av row aF left sets cU o) (.lst l) vD) (.lst t) A6) eR2=true:=by
 rcases o with _|⟨x1,x2,x3,x4⟩<;>rfl'
theorem ajp(row aF left sets cU l t)(o:Option (D×D×D×D)):(dh T 23).d (vA A6) (gq (gq (Av row aF left sets cU o) (.lst l) vD) (.lst t) A6) (kK eR2)=some (.lst l):=by
 rcases o with _|⟨x1,x2,x3,x4⟩<;>rfl'
theorem aqy(row aF left sets cU l t)(o:Option (D×D×D×D)):ff (dh T 27) (gq (Av row aF left sets cU o) (.lst l) vD) A6 (.lst t)=
 (((((((dh T 24).d (vA A6) (gq (gq (Av row aF left sets cU o) (.lst l) vD) (.lst t) A6) eR2).bind λd=>some [d]).bind λds=>bY .len ds).bind λd=>az .Mod d (.int 2)).bind λd=>cmp .Eq d (.int 1)).bind λb=>if b=true then some true else some false).bind λb=>if b=true then some [.lst t]else some []:=by
 rcases o with _|⟨x1,x2,x3,x4⟩<;>rfl'
theorem ajq(row aF left sets cU l)(o:Option (D×D×D×D)):KZ (vA vD) (gq (Av row aF left sets cU o) (.lst l) vD) A6=true:=by
 rcases o with _|⟨x1,x2,x3,x4⟩<;>rfl'
theorem ajr(row aF left sets cU l)(o:Option (D×D×D×D)):(dh T 27).d (vA vD) (gq (Av row aF left sets cU o) (.lst l) vD) (kK A6)=some (.lst cU):=by
 rcases o with _|⟨x1,x2,x3,x4⟩<;>rfl'
theorem aqz(row aF left sets cU l)(o:Option (D×D×D×D)):ff (dh T 29) (Av row aF left sets cU o) vD (.lst l)=
 ((((dh T 28).d (vA vD) (gq (Av row aF left sets cU o) (.lst l) vD) A6).bind λd=>cmp .Eq d (.lst [])).bind λb=>if b=true then some true else some false).bind λb=>if b=true then some [.lst l]else some []:=by
 rcases o with _|⟨x1,x2,x3,x4⟩<;>rfl'
theorem ajs(row aF left sets cU)(o:Option (D×D×D×D)):KZ eK (Av row aF left sets cU o) vD=true:=by
 rcases o with _|⟨x1,x2,x3,x4⟩<;>rfl'
theorem ajt(row aF left sets cU)(o:Option (D×D×D×D)):(dh T 29).d eK (Av row aF left sets cU o) (kK vD)=some (.lst sets):=by
 rcases o with _|⟨x1,x2,x3,x4⟩<;>rfl'
theorem aqA(row aF left sets cU)(o:Option (D×D×D×D)):(dh T 31).d eK (Av row aF left sets cU o) (br (aq 3 eB))=(((dh T 30).d eK (Av row aF left sets cU o) vD).bind λd=>some [d]).bind λds=>bY .len ds:=by
 rcases o with _|⟨x1,x2,x3,x4⟩<;>rfl'
theorem aqB(row aF left sets cU)(l t)(o:Option (D×D×D×D))(hl:l.length<=dC):(dh T 24).d (vA A6) (gq (gq (Av row aF left sets cU o) (dl l) vD) (dl t) A6) eR2=some (dl (l.filter λx=>decide (x∈t))):=by
 have e:=dF (T:=T) (V:=dh T 23) (ks:=vA A6) (σ:=gq (gq (Av row aF left sets cU o) (dl l) vD) (dl t) A6) (e:=eR2) (d:=dl l) (φ:=di) (xs:=l) (g:=λx=>if(decide (x∈t))=true then[di x]else[])
  (ajo ..) (ajp ..) rfl (λx hx=>?_) ?_
 ·rw[cL]at e
  exact e
 ·refine(aqx row aF left sets cU (l.map di) (t.map di) o x).trans ?_
  rw[show gL (.int x) (.lst (t.map di))=some (decide (x∈t))from M8 x t,j4];rfl
 ·rw[cL,ag];exact d5 _ _ _ hl
theorem aqC(row aF left sets:List D)(cU:List (List Nat))(l:List Nat)(o:Option (D×D×D×D))(hl:l.length<=100)(ht:cU.length<=dC):(dh T 28).d (vA vD) (gq (Av row aF left sets (cU.map dl) o) (dl l) vD) A6=some (.lst ((cU.filter λA5=>rh l A5).map dl)):=by
 have eY:=dO;have e:=dF (T:=T) (V:=dh T 27) (ks:=vA vD) (σ:=gq (Av row aF left sets (cU.map dl) o) (dl l) vD) (e:=A6) (d:=.lst (cU.map dl)) (φ:=dl) (xs:=cU) (g:=λA5=>if(rh l A5)=true then[dl A5]else[])
  (ajq ..) (ajr ..) rfl (λt hx=>?_) ?_
 ·rw[cL]at e
  exact e
 ·refine(aqy row aF left sets (cU.map dl) (l.map di) (t.map di) o).trans ?_
  have q:=aqB (T:=T) row aF left sets (cU.map dl) l t o (by omega);rw[show(dh T 24).d (vA A6) (gq (gq (Av row aF left sets (cU.map dl) o) (.lst (l.map di)) vD) (.lst (t.map di)) A6) eR2=_ from q,af,af];unfold dl;rw[mz (by rw[ag];exact d5 _ _ _ (by omega)),ag];have q2:(az .Mod (.int ((l.filter λx=>decide (x∈t)).length:Nat)) (.int 2)).bind (λd=>cmp .Eq d (.int 1))=some (rh l t):=by
   show some (Int.fmod (((l.filter λx=>decide (x∈t)).length:Nat):Int) 2==(1:Int))=_;unfold rh;congr 1;rw[fq,beq_iff_eq,beq_iff_eq,bM _ (by decide)];omega
  rw[af,q2,j4]
 ·rw[cL,ag];exact d5 _ _ _ ht
theorem aqD(row aF left:List D)(sets cU:List (List Nat))(o:Option (D×D×D×D))(hs:sets.length<=dC)(hl:∀l∈sets,l.length<=100)(ht:cU.length<=dC):(dh T 31).d eK (Av row aF left (sets.map dl) (cU.map dl) o) (br (aq 3 eB))=some (di (sets.filter λl=>(cU.filter λA5=>rh l A5).isEmpty).length):=by
 have e:=dF (T:=T) (V:=dh T 29) (ks:=eK) (σ:=Av row aF left (sets.map dl) (cU.map dl) o) (e:=vD) (d:=.lst (sets.map dl)) (φ:=dl) (xs:=sets) (g:=λl=>if ((cU.filter λA5=>rh l A5).isEmpty)=true then [dl l] else [])
  (ajs ..) (ajt ..) rfl (λl hx=>?_) ?_
 ·rw [cL] at e
  refine (aqA ..).trans ?_;rw [show (dh T 30).d eK (Av row aF left (sets.map dl) (cU.map dl) o) vD=_ from e,af,af,mz (by rw [ag];exact d5 _ _ _ hs),ag];rfl
 ·refine (aqz row aF left (sets.map dl) (cU.map dl) (l.map di) o).trans ?_
  have q:=aqC (T:=T) row aF left (sets.map dl) cU l o (hl l hx) ht
  rw [show (dh T 28).d (vA vD) (gq (Av row aF left (sets.map dl) (cU.map dl) o) (.lst (l.map di)) vD) A6=_ from q,af,vC,j4,sH];rfl
 ·rw [cL,ag];exact d5 _ _ _ hs
end
end
section
section
variable{T:fe}
theorem acb(o:Option (D×D×D×D))(row aF left sets cU)(one):de eK (fw eF) (.int one) (eS o row aF left sets cU,["ties"])=some (g1 (de eK (fw eF) (.int one) (eS o row aF left sets cU,["ties"])),g2 (de eK (fw eF) (.int one) (eS o row aF left sets cU,["ties"]))):=by
 rcases o with _|⟨x1,x2,x3,x4⟩<;>rfl'
def eC0:ae:=br (aq 0 eB)
abbrev eI(row aF:D):cw:=[("row",row),("ways",aF)]
theorem aqE(row aF)(p):ff (dh T 30) (eI (.lst row) (.lst aF)) eC0 (.int p)=
 ((((g8 (.lst aF) p).bind λd=>cmp .NotEq d (.int 0)).bind λb=>if b=true then some true else some false).bind λb=>if b=true then some [.int p]else some []):=by rfl'
theorem aju(row aF):(dh T 30).d eK (eI (.lst row) (.lst aF)) (kK eC0)=((bY .len [.lst aF]).bind λd=>some [d]).bind λds=>bY .range ds:=by rfl'
theorem acd(a b:Nat):cmp .NotEq (di a) (.int b)=some (a != b):=by
 show(some ((a:Int)==(b:Int))).map (λx=> !x)=_;have:=nT a b;have h2:((a:Int)==(b:Int))=(a==b):=by
  rw[fq,beq_iff_eq,beq_iff_eq];omega
 rw[h2];rfl
theorem ace(row:D)(aF:List Nat)(hl:aF.length<=dC)(hr:∃r,row=.lst r):(dh T 31).d eK (eI row (dl aF)) eC0=some (dl (eD aF)):=by
 have eY:=dO;obtain⟨r,rfl⟩:=hr;have e:=dF (T:=T) (V:=dh T 30) (ks:=eK) (σ:=eI (.lst r) (dl aF)) (e:=eC0) (d:=.om 0 aF.length 1) (φ:=di) (xs:=a0 aF.length) (g:=λp=>if(aF.getD p 0 != 0)=true then[di p]else[])
  (by rfl') ((aju r (aF.map di)).trans (by rw[Dp (by rw[ag];omega),ag])) (iV _ (by omega)) (λp hp=>?_) ?_
 ·rw[cL]at e
  exact e
 ·rw[bH]at hp
  refine(aqE r (aF.map di) p).trans ?_;have:=acd aF[p] 0;rw[show((0:Nat):Int)=0 from rfl]at this;rw[mX hp (by omega),af,this,j4,cN hp];rfl
 ·rw[cL,ag]
  exact d5 _ _ _ (by rw[cf];omega)
theorem Jn(l:List Nat)(i:Nat)(h:i<l.length):dX (l.take (i+1))=g9 (dX (l.take i)) l[i]:=by
 unfold dX;rw[mw h,eh];rfl
theorem ajv(row aF:List Nat)(hr:row.length<=2^10)(hw:aF.length<=10)(hk:∀k<aF.length,(fA row k).length=2)(Ym:∀w∈aF,w<3):
 Xa T eK ["ties"] 20 eB (eI (dl row) (dl aF)) []=some (.rt (di (iY row aF))):=by
 have eY:=dO;have e1:(row.map di).length=row.length:=ag ..;have hll:(eD aF).length<=10:=d5 _ _ _ (by rw[cf];exact hw);have hlw:∀k∈eD aF,k<aF.length:=λk hk=>bH.mp (dq.mp hk).1;obtain⟨L,hL⟩:∃L,L=eD aF:=⟨_,rfl⟩;have hs:∀i,i<=L.length->(dX (L.take i)).length<=1024:=λi hi=>by
  have:=M9 (L.take i) [[]];unfold dX;rw[this,dU];have h10:(2:Nat)^10=1024:=rfl;rw[<-hL]at hll;have:(2:Nat)^(min i L.length)<=2^10:=aW (by decide) (by omega);simp;omega
 have hm:∀i,∀x∈dX (L.take i),x.length<=100:=λi x hx=>by
  have:=Na (L.take i) [[]] 0 (by simp) x hx;rw[dU]at this;rw[<-hL]at hll;omega
 obtain⟨o,ho⟩:∃o:Nat->Option (D×D×D×D),o=λi=>match i with|0=>none|i+1=>some (di (L.getD i 0),di (c8 row (L.getD i 0)),di (fL row (L.getD i 0)),.lst ((eO row aF (L.getD i 0)).map di)):=⟨_,rfl⟩
 have hf:=Dn (X:=Xa T eK ["ties"] 19) (ks:=eK) (t:=fw eF) (body:=S3) (L.map di) (λi=>(eS (o i) (row.map di) (aF.map di) (L.map di) ((dX (L.take i)).map dl) (((L.take i).map (j3 row aF)).map dl),["ties"]))
  (λi=>(g1 (de eK (fw eF) (di (L.getD i 0)) (eS (o i) (row.map di) (aF.map di) (L.map di) ((dX (L.take i)).map dl) (((L.take i).map (j3 row aF)).map dl),["ties"])),g2 (de eK (fw eF) (di (L.getD i 0)) (eS (o i) (row.map di) (aF.map di) (L.map di) ((dX (L.take i)).map dl) (((L.take i).map (j3 row aF)).map dl),["ties"])))) (λi hi=>?_)
 ·rw[ag,fG]at hf
  refine fX (bs:=[aq 0 eB,aq 1 eB,aq 2 eB,aq 3 eB]) ?_;have q0:=ace (T:=T) (dl row) aF (by omega) ⟨_,rfl⟩;rw[<-hL]at q0;refine d8 (Dm (L.map di) (tr q0)) ?_;refine d8 (l6 ["sets","ties"] [ub 0 (aq 1 eB),ub 1 (aq 1 eB)] (dm (lZ (d:=.lst [.lst []]) (by rfl')) (dm (lZ (d:=.lst []) (by rfl')) l5))) ?_;refine d8 (vy (ds:=L.map di) (r:=.nx (eS (o L.length) (row.map di) (aF.map di) (L.map di) ((dX L).map dl) ((L.map (j3 row aF)).map dl)) ["ties"]) (by rfl') (tr hf (by rw[ho];rfl'))) ?_;have q1:=aqD (T:=T) (row.map di) (aF.map di) (L.map di) (dX L) (L.map (j3 row aF)) (o L.length) (by have:=hs L.length (bD _);rw[fG]at this;omega) (by have:=hm L.length;rw[fG]at this;exact this) (by rw[ag];rw[<-hL]at hll;omega);refine c9 (dJ _ (q1.trans ?_));rw[hL];rfl
 ·rw[ag]at hi
  have hkm:L[i]∈eD aF:=by rw[<-hL];exact aV hi
  have Yn:=hlw _ hkm;have hp:=hk _ Yn;have eg:L.getD i 0=L[i]:=cN hi;rw[show(L.map di)[i]'(by rw[ag];exact hi)=di (L.getD i 0)from by rw[eg];simp];refine⟨acb _ _ _ _ _ _ _,?_⟩;rw[eg];have q1:=VA (T:=T) (o i) row (aF.map di) (L.map di) ((dX (L.take i)).map dl) (((L.take i).map (j3 row aF)).map dl) L[i] (by omega) hp;have q2:=VC row aF L[i] hr hp Yn (by rw[cN Yn];exact Ym _ (aV _)) (by omega);have q3:=ajn (T:=T) L (row.map di) (aF.map di) ((dX (L.take i)).map dl) (((L.take i).map (j3 row aF)).map dl) (eO row aF L[i]) L[i] (c8 row L[i]) (fL row L[i]) (by rw[<-hL]at hll;omega);have q3':(L.filter λo=>(eO row aF L[i]).count o==1)=j3 row aF L[i]:=by unfold j3;rw[<-hL]
  rw[q3']at q3;have q4:=ab9 (T:=T) (row.map di) (aF.map di) (L.map di) ((((L.take i).map (j3 row aF)).map dl)++[dl (j3 row aF L[i])]) ((eO row aF L[i]).map di) (dX (L.take i)) L[i] (c8 row L[i]) (fL row L[i]) (by have:=hs i (by omega);omega) (hm i);have q5:az .Add (.lst ((dX (L.take i)).map dl)) (.lst (((dX (L.take i)).map λl=>l++[L[i]]).map dl))=some (.lst ((dX (L.take (i+1))).map dl)):=by
   rw[jv (by rw[ag,ag,ag];have:=hs i (by omega);omega),<-aX,Jn L i hi];rfl
  have q6:=Vy (o i) (row.map di) (aF.map di) (L.map di) ((dX (L.take i)).map dl) ((dX (L.take (i+1))).map dl) _ (((L.take i).map (j3 row aF)).map dl) ((eO row aF L[i]).map di) (dl (j3 row aF L[i])) L[i] (c8 row L[i]) (fL row L[i]) 18 q1 q2 q3 q4 q5 (by
   rw[ag,ag,dU];rw[<-hL]at hll;omega)
  refine q6.trans ?_;have e3:(((L.take (i+1)).map (j3 row aF)).map dl)=(((L.take i).map (j3 row aF)).map dl)++[dl (j3 row aF L[i])]:=by
   rw[mw hi,aX,aX];rfl
  rw[e3,ho];dsimp only;rw[eg];rfl
end
end
section
def orB(a:Option Bool)(k:Option Bool):Option Bool:=a.bind λb=>match BoolOp.Or,b with|.And,false=>some false|.Or,true=>some true|_,_=>k
def A7(a:Option Bool)(k:Option Bool):Option Bool:=a.bind λb=>match HL,b with|.And,false=>some false|.Or,true=>some true|_,_=>k
structure WS where
 names:List Int
 row:List Nat
 aF:List Int
 last:Int
def fZ(s:WS)(x:Int):WS:=
 if 255<x then
  if x∈s.names then⟨s.names,s.row++[s.names.idxOf x],s.aF,x⟩
  else⟨s.names++[x],s.row++[(s.names++[x]).idxOf x],s.aF++[s.last.fmod 3],x⟩
 else⟨s.names,s.row,s.aF,x⟩
section
variable{T:fe}
def wK:bW:=vz "_law_ways"
def wB:List Stmt:=bo "_law_ways"
def wF:Stmt:=aq 1 wB
def xK:List Stmt:=aS wF
def Q6(o:Option D)(S names row aF last:D):cw:=([("symbols",S),("names",names),("row",row),("ways",aF),("last",last)]:cw)++(match o with|none=>[]|some a=>[("symbol",a)])
theorem Q7(hT:S1 T)(o:Option D)(S names row aF last)(x):(dh T 31).b wK (put "symbol" (.int x) (Q6 o S names row aF last)) (eA (aq 0 xK))=some false:=by
 have h1:cmp .IsNot (.bool (decide (x<256))) (.bool (decide (x<256)))=some false:=by
  show(some (_==_)).map (λx=> !x)=_;simp
 have h2:cmp .IsNot (.bool (decide (256<=x))) (.bool (decide (255<x)))=some false:=by
  show(some (_==_)).map (λx=> !x)=_;have:decide (256<=x)=decide (255<x):=by
   rw[fq,decide_eq_true_eq,decide_eq_true_eq];omega
  rw[this];simp
 have h3:cmp .IsNot (.bool (x==0)) (.bool (x==0))=some false:=by
  show(some (_==_)).map (λx=> !x)=_;simp
 refine tr (b:=orB ((T.fn "ISTERMINAL" [.int x]).bind λa=>cmp .IsNot a (.bool (decide (x<256)))) (orB ((T.fn "ISNONTERMINAL" [.int x]).bind λa=>cmp .IsNot a (.bool (decide (255<x)))) (orB ((T.fn "ISEOF" [.int x]).bind λa=>cmp .IsNot a (.bool (x==0))) (some false)))) ?_ ?_
 ·rw[hT.tm,hT.nt,hT.eo,af,af,af,h1,h2,h3];rfl
 ·rcases o with _|o<;>rfl'
theorem VD(hT:S1 T)(o:Option D)(S)(names row aF)(last)(x)(n)(hx:¬255<x):
 Xa T wK ["row"] (n+2) xK (g1 (de wK (fw wF) (.int x) (Q6 o S (.lst names) (.lst row) (.lst aF) last,["row"]))) (g2 (de wK (fw wF) (.int x) (Q6 o S (.lst names) (.lst row) (.lst aF) last,["row"])))=
  some (.nx (Q6 (some (.int x)) S (.lst names) (.lst row) (.lst aF) (.int x)) ["row"]):=by
 have N6:(some (decide (255<x)):Option Bool)=some false:=by rw[decide_eq_false hx]
 have hw:=Q7 hT o S (.lst names) (.lst row) (.lst aF) last x;rcases o with _|o
 all_goals
  refine fX (bs:=[aq 0 xK,aq 1 xK,aq 2 xK,aq 3 xK]) ?_;refine cS (b:=[]) (tr hw) (fX (bs:=[]) rfl) ?_;refine cS (b:=[]) (tr (b:=A7 (some (decide (255<x))) (A7 ((gL (.int x) (.lst names)).map λx=> !x) (some true))) (by rw[N6];rfl)) (fX (bs:=[]) rfl) ?_;refine cS (b:=[]) (tr N6) (fX (bs:=[]) rfl) ?_;exact d8 (bC (.int x) (by rfl')) (by rfl')
theorem VE(hT:S1 T)(o:Option D)(S)(names row aF)(last x)(k)(n)(hx:255<x)(Aq:gL (.int x) (.lst names)=some false)
(h1:az .Add (.lst names) (.lst [.int x])=some (.lst (names++[.int x])))(h2:az .Add (.lst aF) (.lst [.int (last.fmod 3)])=some (.lst (aF++[.int (last.fmod 3)])))(h3:jH .index (.lst (names++[.int x])) [.int x]=some k)(hl:row.length+1<=dC):
 Xa T wK ["row"] (n+2) xK (g1 (de wK (fw wF) (.int x) (Q6 o S (.lst names) (.lst row) (.lst aF) (.int last),["row"]))) (g2 (de wK (fw wF) (.int x) (Q6 o S (.lst names) (.lst row) (.lst aF) (.int last),["row"])))=
  some (.nx (Q6 (some (.int x)) S (.lst (names++[.int x])) (.lst (row++[k])) (.lst (aF++[.int (last.fmod 3)])) (.int x)) ["row"]):=by
 have N6:(some (decide (255<x)):Option Bool)=some true:=by rw[decide_eq_true hx]
 have hw:=Q7 hT o S (.lst names) (.lst row) (.lst aF) (.int last) x;rcases o with _|o
 all_goals
  refine fX (bs:=[aq 0 xK,aq 1 xK,aq 2 xK,aq 3 xK]) ?_;refine cS (b:=[]) (tr hw) (fX (bs:=[]) rfl) ?_;refine l8 (b:=[aq 0 (aS (aq 1 xK))]) (tr (b:=A7 (some (decide (255<x))) (A7 ((gL (.int x) (.lst names)).map λx=> !x) (some true))) (by rw[N6,Aq];rfl)) (fX (bs:=[aq 0 (aS (aq 1 xK))])
   (d8 (l6 ["names","ways"] [ub 0 (aq 0 (aS (aq 1 xK))),ub 1 (aq 0 (aS (aq 1 xK)))] (dm (lZ (tr h1)) (dm (lZ (tr h2)) l5))) rfl)) ?_
  refine l8 (b:=[aq 0 (aS (aq 2 xK))]) (tr N6) (fX (bs:=[aq 0 (aS (aq 2 xK))]) (d8 (zN (ds:=row) (lZ (tr h3)) hl) rfl)) ?_;exact d8 (bC (.int x) (by rfl')) (by rfl')
theorem VF(hT:S1 T)(o:Option D)(S)(names row aF)(last)(x)(k)(n)(hx:255<x)(Aq:gL (.int x) (.lst names)=some true)(h3:jH .index (.lst names) [.int x]=some k)(hl:row.length+1<=dC):
 Xa T wK ["row"] (n+2) xK (g1 (de wK (fw wF) (.int x) (Q6 o S (.lst names) (.lst row) (.lst aF) last,["row"]))) (g2 (de wK (fw wF) (.int x) (Q6 o S (.lst names) (.lst row) (.lst aF) last,["row"])))=
  some (.nx (Q6 (some (.int x)) S (.lst names) (.lst (row++[k])) (.lst aF) (.int x)) ["row"]):=by
 have N6:(some (decide (255<x)):Option Bool)=some true:=by rw[decide_eq_true hx]
 have hw:=Q7 hT o S (.lst names) (.lst row) (.lst aF) last x;rcases o with _|o
 all_goals
  refine fX (bs:=[aq 0 xK,aq 1 xK,aq 2 xK,aq 3 xK]) ?_;refine cS (b:=[]) (tr hw) (fX (bs:=[]) rfl) ?_;refine cS (b:=[]) (tr (b:=A7 (some (decide (255<x))) (A7 ((gL (.int x) (.lst names)).map λx=> !x) (some true))) (by rw[N6,Aq];rfl)) (fX (bs:=[]) rfl) ?_;refine l8 (b:=[aq 0 (aS (aq 2 xK))]) (tr N6) (fX (bs:=[aq 0 (aS (aq 2 xK))]) (d8 (zN (ds:=row) (lZ (tr h3)) hl) rfl)) ?_;exact d8 (bC (.int x) (by rfl')) (by rfl')
theorem B8(x):∀(l:List Int),tK (.int x) (l.map .int)=some (decide (x∈l)):=by
 intro zx
 induction zx with
 |nil=>
  exact rfl
 |cons a l ih=>
  have h1:rG 40 (.int a) (.int x)=some (a==x):=rfl;show((rG 40 (.int a) (.int x)).bind λa=>(tK (.int x) (l.map .int)).map λb=>a||b)=_;rw[h1,ih];refine congrArg some ?_;rw[fq,uE,beq_iff_eq,decide_eq_true_eq,decide_eq_true_eq,aL];exact or_congr ⟨Eq.symm,Eq.symm⟩ Iff.rfl
theorem GH:∀(l:List Int),iD (l.map .int)=some l:=by
 intro zx
 induction zx with
 |nil=>
  exact rfl
 |cons a l ih=>
  show(iD (l.map .int)).map (λr=>a::r)=_;rw[ih];rfl
theorem B9{l:List Int}{x:Int}(h:x∈l)(hl:l.length<=dC):jH .index (.lst (l.map .int)) [.int x]=some (di (l.idxOf x)):=by
 show ec ((iD (l.map .int)).bind λns=>if x∈ns/\ns.length<=dC then some (D.int (ns.idxOf x:Nat))else none) _=_;rw[GH,af,if_pos ⟨h,hl⟩];rfl
def wD(o:Option D)(S:D)(s:WS):cw:=Q6 o S (.lst (s.names.map .int)) (.lst (s.row.map di)) (.lst (s.aF.map .int)) (.int s.last)
theorem ach(hT:S1 T)(o:Option D)(S:D)(s:WS)(x:Int)(n:Nat)(h1:s.names.length<=1000)(h2:s.row.length<=1000)(h3:s.aF.length<=1000):
 Xa T wK ["row"] (n+2) xK (g1 (de wK (fw wF) (.int x) (wD o S s,["row"]))) (g2 (de wK (fw wF) (.int x) (wD o S s,["row"])))=some (.nx (wD (some (.int x)) S (fZ s x)) ["row"]):=by
 have eY:=dO;unfold fZ;split
 ·rename_i hx
  split
  ·rename_i hm
   have:=VF hT o S (s.names.map .int) (s.row.map di) (s.aF.map .int) (.int s.last) x (di (s.names.idxOf x)) n hx (by rw[show gL (.int x) (.lst (s.names.map .int))=_ from B8 x _,decide_eq_true hm]) (B9 hm (by omega)) (by rw[ag];omega);refine Ei this ?_;unfold wD;dsimp only;rw[aX];rfl
  ·rename_i hm
   have:=VE hT o S (s.names.map .int) (s.row.map di) (s.aF.map .int) s.last x (di ((s.names++[x]).idxOf x)) n hx (by rw[show gL (.int x) (.lst (s.names.map .int))=_ from B8 x _,decide_eq_false hm])
    (jv (by rw[ag];simp;omega)) (jv (by rw[ag];simp;omega)) (by
      have q:=B9 (l:=s.names++[x]) (x:=x) (by simp) (by simp;omega);rw[aX]at q;exact q) (by rw[ag];omega)
   refine Ei this ?_;unfold wD;dsimp only;rw[aX,aX,aX];rfl
 ·rename_i hx
  exact VD hT o S (s.names.map .int) (s.row.map di) (s.aF.map .int) (.int s.last) x n hx
theorem Nb(s:WS)(x)(N)(h1:s.names.length<=N)(h2:s.row.length<=N)(h3:s.aF.length<=N):(fZ s x).names.length<=N+1/\(fZ s x).row.length<=N+1/\(fZ s x).aF.length<=N+1:=by
 unfold fZ;split
 ·split
  ·dsimp only;rw[aC];simp;omega
  ·dsimp only;rw[aC,aC,aC];simp;omega
 ·dsimp only;omega
theorem aci(hT:S1 T)(S)(n):∀(xs:List Int)(o:Option D)(s:WS)(N:Nat),s.names.length<=N->s.row.length<=N->s.aF.length<=N->N+xs.length<=1000->
 ∃o',u7 (Xa T wK ["row"] (n+2)) wK (fw wF) xK (xs.map .int) (wD o S s) ["row"]=some (.nx (wD o' S (xs.foldl fZ s)) ["row"]):=by
 intro zx
 induction zx with
 |nil=>
  rintro o s N _ _ _ _;exact⟨o,rfl⟩
 |cons x xs ih=>
  rintro o s N h1 h2 h3 h4;rw[aG]at h4;obtain⟨q1,q2,q3⟩:=Nb s x N h1 h2 h3;obtain⟨o',ho⟩:=ih (some (.int x)) (fZ s x) (N+1) q1 q2 q3 (by omega);exact⟨o',ua (ach hT o S s x n (by omega) (by omega) (by omega)) ho (by rcases o with _|o<;>rfl')⟩
theorem w_all(hT:S1 T)(xs:List Int)(h:xs.length<=1000):Xa T wK ["row"] 20 wB [("symbols",.lst (xs.map .int))] []=some (.rt (.tup [dl (xs.foldl fZ ⟨[],[],[],0⟩).row,.lst ((xs.foldl fZ ⟨[],[],[],0⟩).aF.map .int)])):=by
 obtain⟨o',ho⟩:=aci hT (.lst (xs.map .int)) 17 xs none ⟨[],[],[],0⟩ 0 (by simp) (by simp) (by simp) (by omega);refine fX (bs:=[aq 0 wB,aq 1 wB,aq 2 wB]) ?_;refine d8 (l6 ["names","row","ways","last"] [ub 0 (aq 0 wB),ub 1 (aq 0 wB),ub 2 (aq 0 wB),ub 3 (aq 0 wB)] (dm (lZ (d:=.lst []) (by rfl')) (dm (lZ (d:=.lst []) (by rfl')) (dm (lZ (d:=.lst []) (by rfl')) (dm (lZ (d:=.int 0) (by rfl')) l5))))) ?_;refine d8 (vy (ds:=xs.map .int) (by rfl') (tr ho)) ?_;generalize xs.foldl fZ ⟨[],[],[],0⟩=s;refine c9 (dJ _ ?_);rcases o' with _|o'<;>rfl'
end
end
section
def mk(l:List Nat):Str:=⟨l.toArray⟩
theorem m7(l:List Nat):(mk l).length=l.length:=by show l.toArray.size=_;simp
theorem mA(l:List Nat):(mk l).cps.toList=l:=by simp[mk]
theorem Q8(x:Str):mk x.cps.toList=x:=by simp[mk]
theorem Jo(a b:List Nat):mk a++mk b=mk (a++b):=by
 show(⟨a.toArray++b.toArray⟩:Str)=⟨(a++b).toArray⟩
 simp
theorem zS:∀ys:List Str,Str.join (mk []) ys=mk (ys.flatMap λy=>y.cps.toList)
 |[]=>rfl
 |[x]=>by
  show x=_;rw[dH,List.flatMap_nil,dD,Q8]
 |x::y::r=>by
  show x++mk []++Str.join (mk []) (y::r)=_;have h:x++mk []=x:=by
   show(⟨x.cps++ #[]⟩:Str)=x;simp
  rw[zS (y::r),h];show _=mk (x.cps.toList++(y::r).flatMap λy=>y.cps.toList);rw[<-Jo,Q8]
theorem Q9(ys:List Str):Txt.join (mk []) ys=mk (ys.flatMap λy=>y.cps.toList):=by
 rw[<-zS];exact StrLaws.glued_eq_join _ _
theorem strs_map:∀ys:List Str,strs? (ys.map .str)=some ys:=by
 intro zx
 induction zx with
 |nil=>
  exact rfl
 |cons y ys ih=>
  show(strs? (ys.map .str)).map (λr=>y::r)=_;rw[ih];rfl
theorem GI{ys:List Str}(h:(ys.map (·.length)).sum<=16777216):jH .join (.str (mk [])) [.lst (ys.map .str)]=some (.str (mk (ys.flatMap λy=>y.cps.toList))):=by
 show(strs? (ys.map .str)).bind (λys=>if(ys.map (·.length)).sum+ys.length*(mk []).length<=16777216 then some (D.str (Txt.join (mk []) ys))else none)=_;rw[strs_map,af,show(mk []).length=0 from rfl,DQ,W4,if_pos h,Q9]
def Hv(p:List Nat)(m:Nat):Bool:=(L4.lookup (mk (p.take m))).isSome
def lM(p:List Nat):Nat:=if Hv p 3=true then 3 else if Hv p 2=true then 2 else 1
def nU:Str:="filst"
def Jp(p:List Nat):Int:=(L4.lookup (mk (p.take (lM p)))).getD (256+N0 nU (mk (p.take (lM p))))
section
variable{T:fe}
def qK:bW:=vz "_law_read"
def qB:List Stmt:=bo "_law_read"
def qW:Stmt:=aq 3 qB
def Yo:List Stmt:=aS qW
def qS(o:Option D)(text told plain row:D):cw:=([("text",text),("told",told),("plain",plain),("row",row)]:cw)++(match o with|none=>[]|some a=>[("size",a)])
def qC:ae:=Je (rM 0 (br (aq 0 Yo)))
def eX:Str:="EXACT_TOKEN_TYPES"
theorem q_c(o:Option D)(text told row)(p)(m):ff (dh T 28) (bZ ["row"] (qS o text told (.str p) row)) qC (.int m)=
 ((((qD (.str p) none (some m)).bind λd=>T.mem eX d).bind λb=>if b=true then some true else some false).bind λb=>if b=true then some [.int m]else some []):=by
 rcases o with _|o<;>rfl'
theorem aqG(o:Option D)(text told row)(p):KZ qK (bZ ["row"] (qS o text told (.str p) row)) qC=true:=by
 rcases o with _|o<;>rfl'
theorem aqH(o:Option D)(text told row)(p):(dh T 28).d qK (bZ ["row"] (qS o text told (.str p) row)) (kK qC)=some (.tup [.int 2,.int 3]):=by
 rcases o with _|o<;>rfl'
theorem VG(o:Option D)(text told)(row)(p p2)(z)(k)(more)(n)(h1:(dh T 29).d qK (bZ ["row"] (qS o text told (.str p) (.lst row))) qC=some (.lst more))
(h2:(((az .Add (.lst [.int 1]) (.lst more)).bind λd=>some [d]).bind λds=>bY .max ds)=some (.int z))
(h3:(((qD (.str p) none (some z)).bind λd=>(((((qD (.str p) none (some z)).bind λd=>some [d]).bind λds=>jH .find (.str nU) ds).bind λb=>az .Add (.int 256) b).bind λd2=>some [d2]).bind λds=>some (d::ds)).bind λds=>T.get eX ds)=some k)
(h4:qD (.str p) (some z) none=some (.str p2))(hl:row.length+1<=dC):
 Xa T qK ["row"] (n+1) Yo (qS o text told (.str p) (.lst row)) ["row"]=some (.nx (qS (some (.int z)) text told (.str p2) (.lst (row++[k]))) ["row"]):=by
 rcases o with _|o
 all_goals
  refine fX (bs:=[aq 0 Yo,aq 1 Yo,aq 2 Yo]) ?_;refine d8 (bC (.int z) (tr (b:=((((dh T 29).d qK (bZ ["row"] (qS _ text told (.str p) (.lst row))) qC).bind λd=>az .Add (.lst [.int 1]) d).bind λd=>some [d]).bind λds=>bY .max ds) (by rw[h1];exact h2))) ?_;refine d8 (zN (ds:=row) (lZ (d:=k) (tr h3)) hl) ?_;exact d8 (bC (.str p2) (tr h4)) (by rfl')
end
end
section
def m8(c:Nat):Bool:=n9.contains (c:Int)
def hO(cs:List Nat):List Nat:=(cs.filter λc=> !m8 c).flatMap λc=>(og c).cps.toList
inductive Jq:List Nat->List Int->Prop
 |nil:Jq [] []
 |cons {p:List Nat} {v:Int} {vs:List Int}:p≠[]->Jp p=v->Jq (p.drop (lM p)) vs->Jq p (v::vs)
theorem ajw(s):Jd eX (.str s)=some (L4.lookup s).isSome:=by
 unfold Jd;rw[if_neg (by decide),if_pos (show eX=uz "EXACT_TOKEN_TYPES" from rfl)];rfl
theorem ajx(s)(d):Jc eX [.str s,.int d]=some (.int ((L4.lookup s).getD d)):=by
 unfold Jc;rw[if_neg (by decide),if_pos (show eX=uz "EXACT_TOKEN_TYPES" from rfl)];rfl
theorem Ca(p:List Nat)(m:Nat)(h:p.length<=dC):qD (.str (mk p)) none (some (m:Int))=some (.str (mk (p.take m))):=by
 show(if(mk p).length<=dC then some (D.str ⟨(sl none (some (m:Int)) (mk p).cps.toList).toArray⟩)else none)=_;rw[m7,if_pos h,mA];unfold sl;congr 2;show mk _=mk _;congr 1;rw[show jG p.length 0 none=0 from rfl,mq,hW];rw[rm];exact Xf.symm
theorem Cb(p:List Nat)(m:Nat)(h:p.length<=dC):qD (.str (mk p)) (some (m:Int)) none=some (.str (mk (p.drop m))):=by
 show(if(mk p).length<=dC then some (D.str ⟨(sl (some (m:Int)) none (mk p).cps.toList).toArray⟩)else none)=_;rw[m7,if_pos h,mA];unfold sl;congr 2;show mk _=mk _;congr 1;rw[show jG p.length p.length none=p.length from rfl];rw[rm,<-Xg,mv (by rw[eJ];exact aeY (J6 ..) _)]
theorem rR(l:List α)(d:α)(F:α->List β):(a0 l.length).flatMap (λi=>F (l.getD i d))=l.flatMap F:=by
 have:(a0 l.length).map (λi=>l.getD i d)=l:=by
  apply anh
  ·simp
  ·intro i h1 h2
   simp at h1;simp[h1]
 conv=>rhs;rw[<-this]
 rw[Ej]
section
variable{T:fe}
theorem acj(hT:nR T)(o:Option D)(text told row)(p)(hp:p.length<=dC):(dh T 29).d qK (bZ ["row"] (qS o text told (.str (mk p)) row)) qC=some (.lst ((if Hv p 2=true then[.int 2]else[])++(if Hv p 3=true then[.int 3]else[]))):=by
 have h:∀m:Nat,ff (dh T 28) (bZ ["row"] (qS o text told (.str (mk p)) row)) qC (.int m)=some (if Hv p m=true then[.int m]else[]):=λm=>by
  rw[q_c,Ca p m hp,af,hT.mem,ajw,show(L4.lookup (mk (p.take m))).isSome=Hv p m from rfl,j4]
 have h2:=h 2;have h3:=h 3;rw[show((2:Nat):Int)=2 from rfl]at h2;rw[show((3:Nat):Int)=3 from rfl]at h3;refine zM (aqG ..) (aqH ..) rfl ?_ ?_
 ·show((ff _ _ qC (.int 2)).bind λa=>((ff _ _ qC (.int 3)).bind λb=>(some []).bind λc=>some (b++c)).bind λb=>some (a++b))=_
  rw[h2,h3];simp
 ·rw[dO]
  cases Hv p 2<;>cases Hv p 3<;>decide
theorem ack(hT:nR T)(o:Option D)(text told)(row)(p)(n)(hp:p.length<=dC)(hl:row.length+1<=dC):
 Xa T qK ["row"] (n+1) Yo (qS o text told (.str (mk p)) (.lst (row.map .int))) ["row"]=some (.nx (qS (some (.int (lM p))) text told (.str (mk (p.drop (lM p)))) (.lst ((row++[Jp p]).map .int))) ["row"]):=by
 have h:=VG (T:=T) o text told (row.map .int) (mk p) (mk (p.drop (lM p))) (lM p) (.int (Jp p)) _ n (acj hT o text told (.lst (row.map .int)) p hp) ?_ ?_ (Cb p _ hp) (by rw[ag];exact hl)
 ·rw[aX];exact h
 ·unfold lM
  cases Hv p 2<;>cases Hv p 3<;>rfl
 ·rw[Ca p _ hp]
  show T.get eX [.str (mk (p.take (lM p))),.int (256+N0 nU (mk (p.take (lM p))))]=_;rw[hT.get,ajx];rfl
theorem acm(o:Option D)(text told row)(p):(dh T 31).b qK (qS o text told (.str p) row) (eA qW)=(some (p==mk [])).map λx=> !x:=by
 rcases o with _|o<;>rfl'
theorem K2(o:Option D)(text told row)(p):(dh T 31).b qK (qS o text told (.str (mk p)) row) (eA qW)=some (!p.isEmpty):=by
 rw[acm];show some (!(mk p==mk []))=_;cases p with
 |nil=>rfl
 |cons a p=>
  have:(mk (a::p)==mk [])=false:=by
   rw[beq_eq_false_iff_ne];intro h;have:=congrArg (λx=>x.cps.toList) h;simp[mk]at this
  rw[this];rfl
theorem acn(hT:nR T)(text told)(n):∀(m:Nat)(vs:List Int)(o:Option D)(p:List Nat)(row:List Int),Jq p vs->vs.length<m->p.length<=dC->row.length+vs.length<=1000->
 ∃o',lX (Xa T qK ["row"] (n+1)) (dh T 31) qK (eA qW) Yo m (qS o text told (.str (mk p)) (.lst (row.map .int))) ["row"]=some (.nx (qS o' text told (.str (mk [])) (.lst ((row++vs).map .int))) ["row"]):=λm=>by
 induction m with
 |zero=>intro vs o p row _ h _ _;exact absurd h (J3 _)
 |succ m ih=>
  intro vs o p row t h hp hr;cases t with
  |nil=>
   refine⟨o,?_⟩;dsimp only[lX];rw[K2,dD];rfl
  |cons h1 h2 h3=>
   rename_i v vs;rw[aG]at h hr;have eY:=dO;obtain⟨o',ho⟩:=ih vs (some (.int (lM p))) (p.drop (lM p)) (row++[v]) h3 (by omega) (by rw[eJ];omega) (by rw[aC];simp;omega);refine⟨o',?_⟩;dsimp only[lX];rw[K2,show p.isEmpty=false from by cases p<;>simp_all];show(Xa T qK ["row"] (n+1) Yo _ _).bind _=_;rw[ack hT o text told row p n hp (by omega),h2];rw[c7]at ho;exact ho
end
end
end Internal.Z
namespace Internal
section
section
variable{V:Ev}{ks:bW}{W:List Str}{wf:Nat}{X:XD}{σ:cw}{own:List Str}{st:Stmt}
theorem zT(out)(h:V.d ks (bZ own σ) (br st)=some (.lst out))(hs:autoParam (st=.Assign [.Name (eV st) (lJ st)] (br st) (cx st)) Mxx.ka)(hk:autoParam ((AO ks (eV st)&&(qX (br st)).isSome)=true) Mxx.ka):
 cY V ks W wf X st σ own=some (.nx (lV W (eV st) (.lst out,true) (σ,own)).1 (lV W (eV st) (.lst out,true) (σ,own)).2):=by
 obtain⟨h1,h2⟩:=bO.mp hk;cases IP:p6 ks (eV st) (lJ st) (br st)with
 |true=>exact Dm out h hs (by rw[h1,h2,IP];rfl)
 |false=>
  have:=bC (W:=W) (wf:=wf) (X:=X) (.lst out) h hs (by rw[h1,IP];rfl);obtain⟨x,hx⟩:=aA.mp h2;rw[show(jz (br st)&&mP (.lst out))=true from qY hx▸rfl]at this;exact this
end
end
end Internal
namespace Internal.Z
section
def S4(c:Nat):D:=.str (ch c)
def p7(c:Nat):D:=.bool (m8 c)
theorem ud:∀l:List α,(l.flatMap λ_=>([]:List β))=[]:=by
 intro zx
 induction zx with
 |nil=>
  exact rfl
 |cons a l ih=>
  rw[dH,ih];rfl
def b3D(c:Nat):List D:=if(!m8 c)=true then[.str (og c)]else[]
theorem Ra(cs:List Nat):cs.flatMap b3D=((cs.filter λc=> !m8 c).map og).map .str:=by
 rw[cG];exact cL (p:=λc=> !m8 c) (f:=λc=>D.str (og c)) cs
section
variable{T:fe}
def qC0:ae:=br (aq 0 qB)
def qC1:ae:=rM 0 (br (aq 1 qB))
def qC2:ae:=br (aq 2 qB)
abbrev qS0(text:D):cw:=[("text",text)]
abbrev qS1(text told:D):cw:=[("text",text),("told",told)]
abbrev qS2(text told plain:D):cw:=[("text",text),("told",told),("plain",plain)]
theorem aqL(text)(s):ff (dh T 30) (qS0 text) qC0 (.str s)=(T.fn "in_table_b1" [.str s]).map λd=>[d]:=by rfl'
theorem aqM(text)(told)(i):ff (dh T 29) (qS1 (.str text) (.lst told)) qC1 (.int i)=
 ((((g8 (.lst told) i).bind λd=>cmp .Is d (.bool false)).bind λb=>if b=true then some true else some false).bind λb=>if b=true then(((g8 (.str text) i).bind λd=>some [d]).bind λds=>T.fn "map_table_b3" ds).map λd=>[d]else some []):=by rfl'
theorem ajB(text)(told):(dh T 29).d qK (qS1 (.str text) told) (kK qC1)=((bY .len [.str text]).bind λd=>some [d]).bind λds=>bY .range ds:=by rfl'
theorem aqN(text told plain)(b):ff (dh T 30) (qS2 text told plain) qC2 (.bool b)=some []:=by cases b<;>rfl'
theorem getI_str{l:List Nat}{i:Nat}(h:i<l.length)(hb:l.length<2^60):g8 (.str (mk l)) i=some (S4 l[i]):=by
 rw[UN (by omega)];unfold itS seqIndex?;rw[m7];have e1:¬((i:Int)<0):=by omega
 simp only[e1,if_false];rw[if_pos (by simp;omega),mA];simp[h,S4,ch]
theorem oJ{α:Type}{l:List α}{f:α->D}{i:Nat}(h:i<l.length)(hb:l.length<2^60):g8 (.lst (l.map f)) i=some (f l[i]):=by
 rw[zO (by simpa using h) (by simpa using hb)];simp
theorem aco(hT:S1 T)(cs)(h:cs.length<=dC):(dh T 31).d qK (qS0 (.str (mk cs))) qC0=some (.lst (cs.map p7)):=by
 have e:=dF (T:=T) (V:=dh T 30) (ks:=qK) (σ:=qS0 (.str (mk cs))) (e:=qC0) (d:=.str (mk cs)) (φ:=S4) (xs:=cs) (g:=λc=>[p7 c])
  (by rfl') (by rfl') (by show some (tM (mk cs))=_;unfold tM;rw[mA];rfl) (λc hc=>by rw[show S4 c=.str (ch c)from rfl,aqL,hT.b1];rfl) (by rw[cH,ag];exact h)
 rw[cH]at e;exact e
theorem VH(hT:S1 T)(cs:List Nat)(h:cs.length<=1000):(dh T 30).d qK (qS1 (.str (mk cs)) (.lst (cs.map p7))) qC1=some (.lst (((cs.filter λc=> !m8 c).map og).map .str)):=by
 have eY:=dO;have e:=dF (T:=T) (V:=dh T 29) (ks:=qK) (σ:=qS1 (.str (mk cs)) (.lst (cs.map p7))) (e:=qC1) (d:=.om 0 cs.length 1) (φ:=di) (xs:=a0 cs.length) (g:=λi=>b3D (cs.getD i 0))
  (by rfl') ((ajB ..).trans (by
    rw[show bY .len [.str (mk cs)]=some (.int cs.length)from by show(if(mk cs).length<=dC then some (D.int (mk cs).length)else none)=_;rw[m7,if_pos (by omega)]];rfl)) (iV _ (by omega)) (λi hi=>?_) ?_
 ·rw[rR cs 0 b3D,Ra]at e
  exact e
 ·rw[bH]at hi
  rw[show di i=.int i from rfl,aqM];rewrite[oJ hi (by omega),getI_str hi (by omega)];rw[cN hi];have h1:cmp .Is (p7 cs[i]) (.bool false)=some (!m8 cs[i]):=by
   show some (m8 cs[i]==false)=_;cases m8 cs[i]<;>rfl
  rw[af,h1,turn_if,af,af,show S4 cs[i]=.str (ch cs[i])from rfl,hT.b3];unfold b3D;cases m8 cs[i]<;>rfl
 ·rw[rR cs 0 b3D,Ra,ag,ag]
  exact d5 _ _ _ (by omega)
theorem ajC(text plain:D)(cs:List Nat):(dh T 31).d qK (qS2 text (.lst (cs.map p7)) plain) qC2=some (.lst []):=by
 have e:=dF (T:=T) (V:=dh T 30) (ks:=qK) (σ:=qS2 text (.lst (cs.map p7)) plain) (e:=qC2) (d:=.lst (cs.map p7)) (φ:=p7) (xs:=cs) (g:=λ_=>[])
  (by rfl') (by rfl') rfl (λc hc=>aqN ..) (by rw[ud];exact dx _)
 rw[ud]at e;exact e
theorem ajD(hT:S1 T)(hI:nR T)(cs:List Nat)(vs:List Int)(h:cs.length<=1000)(hb:∀c∈cs,m8 c=false->(og c).length<=100)(t:Jq (hO cs) vs)(hv:vs.length<60):
 Xa T qK ["row"] 20 qB (qS0 (.str (mk cs))) []=some (.rt (.lst ((vs++[0]).map .int))):=by
 have eY:=dO;have aqO:∀l:List Nat,(∀c∈l,(og c).length<=100)->((l.map og).map (·.length)).sum<=100*l.length:=λl=>by
  induction l with
  |nil=>intro _;simp
  |cons a l ih=>
   intro hh;have:=ih λc hc=>hh c (av _ hc);have h1:=hh a (ax ..);rw[aH,aH,dR,aG];omega
 have hf:∀c∈cs.filter (λc=> !m8 c),(og c).length<=100:=λc hc=>hb c (dq.mp hc).1 (by simpa using(dq.mp hc).2);have hs:=aqO _ hf;have KQ:=d5 (λc=> !m8 c) 1000 cs h;have hpl:(hO cs).length<=dC:=by
  unfold hO;have:∀l:List Nat,(l.flatMap λc=>(og c).cps.toList).length=((l.map og).map (·.length)).sum:=λl=>by
   induction l with
   |nil=>rfl
   |cons a l ih=>rw[dH,aC,ih,aH,aH,dR];congr 1
  rw[this];omega
 obtain⟨o',ho⟩:=acn (T:=T) hI (.str (mk cs)) (.lst (cs.map p7)) 18 60 vs none (hO cs) [] t hv hpl (by simp;omega);refine fX (bs:=[aq 0 qB,aq 1 qB,aq 2 qB,aq 3 qB,aq 4 qB]) ?_;refine d8 (zT (cs.map p7) (tr (aco hT cs (by omega)))) ?_;refine d8 (bC (.str (mk (hO cs))) (tr (b:=(((dh T 30).d qK (qS1 (.str (mk cs)) (.lst (cs.map p7))) qC1).bind λd=>some [d]).bind λds=>jH .join (.str (mk [])) ds) ?_)) ?_
 ·rw[VH hT cs h,af,af,GI (by omega)]
  unfold hO;rw[Ej]
 refine d8 (zT [] (tr (ajC (T:=T) (.str (mk cs)) (.str (mk (hO cs))) cs))) ?_;refine d8 (GC (tr ho)) ?_;refine c9 (dJ _ (tr (b:=az .Add (.lst (vs.map .int)) (.lst [.int 0])) ?_ ?_))
 ·rw[jv (by rw[ag];simp;omega),aX];rfl
 ·rcases o' with _|o'<;>rfl'
end
end
section
theorem rT:∀{a b:List Stmt},cM S a σ own=some (.nx σ' own')->cM S b σ' own'=r->cM S (a++b) σ own=r:=by
 intro a b h k
 induction a generalizing σ own with
 |nil=>cases h;exact k
 |cons st a ih=>
  rw[du];dsimp only[cM]at h⊢;obtain⟨r',h1,h2⟩:=aO h;rw[h1];cases r' with
  |nx xZ aw2=>exact ih h2
  |rt d=>cases h2
theorem aqP(h:V.d ks σ e=some (.lst ds))(hf:ds.all kJ=true)(hr:autoParam (jz e=true) Mxx.ka)(h0:autoParam (V.d ks (bZ own σ) e=none) Mxx.ka):ey V ks σ own e=some (.lst ds,true):=by
 unfold ey;rw[h0,h];dsimp only;rw[if_pos ⟨hr,hf⟩]
def ajE:D->List Str
 |.lst l=>(strs? l).getD []
 |_=>[]
def K3:D->List Int
 |.lst l=>(iD l).getD []
 |_=>[]
def pK:bW:=vz "_law_page"
def pB:List Stmt:=bo "_law_page"
def pW:Stmt:=aq 5 pB
def oY:List Stmt:=aS pW
def pV(i:Nat):D:=((dh T00 31).d pK [] (br (aq i pB))).getD .none
def zU:D:=pV 0
def Nc:D:=pV 1
def zV:D:=pV 2
def Nd:D:=pV 3
section
variable{T:fe}
def pS0(nm ty ma text row known place:D):cw:=[("names",nm),("typing",ty),("marks",ma),("signs",zU),("several",Nc),("great",zV),("hidden",Nd),("text",text),("row",row),("known",known),("place",place)]
def pS2(o:Option (D×D×D))(nm ty ma text row known place w wh:D):cw:=pS0 nm ty ma text row known place++([("word",w),("which",wh)]:cw)++(match o with|none=>[]|some (a,b,c)=>[("draw",a),("fits",b),("code",c)])
def pS(o:Option (D×D×D×D×D))(nm ty ma text row known place:D):cw:=match o with
 |none=>pS0 nm ty ma text row known place
 |some (w,wh,x)=>pS2 (some x) nm ty ma text row known place w wh
theorem Rb:oY=[aq 0 oY,aq 1 oY]++[aq 2 oY,aq 3 oY,aq 4 oY,aq 5 oY,aq 6 oY,aq 7 oY,aq 8 oY]:=by rfl'
theorem aqQ(o:Option (D×D×D×D×D))(nm text Rc known Jr wd)(row VI)(ty ma place wh)(n)(h1:g8 (.str nm) place=some (.str wd))(h2:gL (.str wd) (.str known)=some false)
(h3:(((bY .len [.str known]).bind λd=>az .Pow (.int 48) d).bind λd=>az .FloorDiv (.int ma) d).bind (λd=>az .Mod d (.int 48))=some (.int wh))(h4:(g8 zU wh).bind (λb=>az .Add (.str text) b)=some (.str Rc))
(h5:az .Add (.lst row) (.lst [.int (7+wh)])=some (.lst VI))(hf:VI.all kJ=true)(h6:az .Add (.str known) (.str wd)=some (.str Jr)):
 cM (cY (Va T) pK ["row"] 60 (Xa T pK ["row"] (n+1))) [aq 0 oY,aq 1 oY] (pS o (.str nm) (.int ty) (.int ma) (.str text) (.lst row) (.str known) (.int place)) ["row"]=
  some (.nx (pS2 (o.map λx=>x.2.2) (.str nm) (.int ty) (.int ma) (.str Rc) (.lst VI) (.str Jr) (.int place) (.str wd) (.int wh)) ["row"]):=by
 have hb:(gL (.str wd) (.str known)).map (λx=> !x)=some true:=by rw[h2];rfl
 rcases o with _|⟨x1,x2,x3,x4,x5⟩
 all_goals
  refine d8 (bC (.str wd) (tr h1)) ?_;refine l8 (b:=[aq 0 (aS (aq 1 oY)),aq 1 (aS (aq 1 oY))]) (σ':=pS2 _ (.str nm) (.int ty) (.int ma) (.str Rc) (.lst VI) (.str Jr) (.int place) (.str wd) (.int wh)) (own':=["row"]) (tr hb) ?_ rfl;refine fX (bs:=[aq 0 (aS (aq 1 oY)),aq 1 (aS (aq 1 oY))]) ?_;refine d8 (bC (.int wh) (tr h3)) ?_;exact d8 (l6 ["text","row","known"] [ub 0 (aq 1 (aS (aq 1 oY))),ub 1 (aq 1 (aS (aq 1 oY))),ub 2 (aq 1 (aS (aq 1 oY)))] (dm (lZ (tr h4)) (dm (aqP (tr h5) hf) (dm (lZ (tr h6)) l5)))) (by rfl')
theorem aqR(x:D×D×D×D×D)(nm text known wd)(row)(ty ma place)(n)(h1:g8 (.str nm) place=some (.str wd))(h2:gL (.str wd) (.str known)=some true):
 cM (cY (Va T) pK ["row"] 60 (Xa T pK ["row"] (n+1))) [aq 0 oY,aq 1 oY] (pS (some x) (.str nm) (.int ty) (.int ma) (.str text) (.lst row) (.str known) (.int place)) ["row"]=
  some (.nx (pS2 (some x.2.2) (.str nm) (.int ty) (.int ma) (.str text) (.lst row) (.str known) (.int place) (.str wd) x.2.1) ["row"]):=by
 have hb:(gL (.str wd) (.str known)).map (λx=> !x)=some false:=by rw[h2];rfl
 obtain⟨x1,x2,x3,x4,x5⟩:=x;refine d8 (bC (.str wd) (tr h1)) ?_;exact cS (b:=[]) (tr hb) (fX (bs:=[]) rfl) (by rfl')
end
end
section
section
variable{T:fe}
abbrev pP(o:Option (D×D×D))(nm text known wd:Str)(row:List D)(ty ma place:Int)(wh:D):cw:=pS2 o (.str nm) (.int ty) (.int ma) (.str text) (.lst row) (.str known) (.int place) (.str wd) wh
def D9:ae:=br (aq 3 oY)
def K4:D:=.lst [.int 8497,.int 8464,.int 8466,.int 383,.int 120139]
theorem aqS(o:Option (D×D×D))(nm text known wd)(row fits)(ty ma place dr c0)(wh)(n)
(h1:((az .Pow (.int 728) (.int place)).bind λd=>az .FloorDiv (.int ty) d).bind (λd=>az .Mod d (.int 728))=some (.int dr))
(h2:(dh T 31).d pK (bZ ["row"] (put "draw" (.int dr) (pP o nm text known wd row ty ma place wh))) D9=some (.lst fits))
(h3:((jH .index (.str nU) [.str wd]).bind intD).bind (λi=>g8 K4 i)=some (.int c0)):
 cM (cY (Va T) pK ["row"] 60 (Xa T pK ["row"] n)) [aq 2 oY,aq 3 oY,aq 4 oY] (pP o nm text known wd row ty ma place wh) ["row"]=some (.nx (pP (some (.int dr,.lst fits,.int c0)) nm text known wd row ty ma place wh) ["row"]):=by
 rcases o with _|⟨x1,x2,x3⟩
 all_goals
  refine d8 (bC (.int dr) (tr h1)) ?_;refine d8 (zT fits (tr h2)) ?_;exact d8 (bC (.int c0) (tr h3)) (by rfl')
abbrev pIf:Stmt:=aq 5 oY
def pT1(dr:Int)(fits:List D):Option Bool:=A7 ((az .Mod (.int dr) (.int 2)).bind λd=>cmp .Eq d (.int 0)) (A7 (cmp .NotEq (.lst fits) (.lst [])) (some true))
def pT2(dr:Int):Option Bool:=((az .FloorDiv (.int dr) (.int 2)).bind λd=>az .Mod d (.int 13)).bind λd=>cmp .Lt d (.int 12)
theorem aqT(nm text known wd wd2)(row fits)(ty ma place dr c0 cd)(wh)(n)(h1:pT1 dr fits=some true)
(h2:((((az .FloorDiv (.int dr) (.int 2)).bind λa=>((bY .len [.lst fits]).bind λb=>az .Mod a b))).bind intD).bind (λi=>g8 (.lst fits) i)=some (.tup [.int cd,.str wd2])):
 cM (cY (Va T) pK ["row"] 60 (Xa T pK ["row"] (n+2))) [pIf] (pP (some (.int dr,.lst fits,.int c0)) nm text known wd row ty ma place wh) ["row"]=some (.nx (pP (some (.int dr,.lst fits,.int cd)) nm text known wd2 row ty ma place wh) ["row"]):=by
 refine l8 (b:=[aq 0 (aS pIf)]) (σ':=pP (some (.int dr,.lst fits,.int cd)) nm text known wd2 row ty ma place wh) (own':=["row"]) (tr h1) ?_ rfl;refine fX (bs:=[aq 0 (aS pIf)]) ?_;exact d8 (l7 (.tup [.int cd,.str wd2],false) (lZ (d:=.tup [.int cd,.str wd2]) (tr h2))) (by rfl')
abbrev Nf:Stmt:=aq 0 (gT pIf)
theorem aqU(nm text known wd)(row fits)(ty ma place dr c0 cd)(wh)(n)(h1:pT1 dr fits=some false)(h2:pT2 dr=some true)
(h3:(((((((az .FloorDiv (.int dr) (.int 2)).bind λd=>az .Mod d (.int 13)).bind intD).bind λi=>g8 zV i).bind λa=>((bY .ord [.str wd]).bind λb=>az .Add a b)))).bind (λa=>az .Sub a (.int 97))=some (.int cd)):
 cM (cY (Va T) pK ["row"] 60 (Xa T pK ["row"] (n+2))) [pIf] (pP (some (.int dr,.lst fits,.int c0)) nm text known wd row ty ma place wh) ["row"]=some (.nx (pP (some (.int dr,.lst fits,.int cd)) nm text known wd row ty ma place wh) ["row"]):=by
 refine cS (b:=[Nf]) (σ':=pP (some (.int dr,.lst fits,.int cd)) nm text known wd row ty ma place wh) (own':=["row"]) (tr h1) ?_ rfl;refine fX (bs:=[Nf]) ?_;refine l8 (b:=[aq 0 (aS Nf)]) (σ':=pP (some (.int dr,.lst fits,.int cd)) nm text known wd row ty ma place wh) (own':=["row"]) (tr h2) ?_ rfl;refine fX (bs:=[aq 0 (aS Nf)]) ?_;exact d8 (bC (.int cd) (tr h3)) (by rfl')
theorem aqV(nm text known wd)(row fits)(ty ma place dr c0)(wh)(n)(h1:pT1 dr fits=some false)(h2:pT2 dr=some false):
 cM (cY (Va T) pK ["row"] 60 (Xa T pK ["row"] (n+2))) [pIf] (pP (some (.int dr,.lst fits,.int c0)) nm text known wd row ty ma place wh) ["row"]=some (.nx (pP (some (.int dr,.lst fits,.int c0)) nm text known wd row ty ma place wh) ["row"]):=by
 refine cS (b:=[Nf]) (σ':=pP (some (.int dr,.lst fits,.int c0)) nm text known wd row ty ma place wh) (own':=["row"]) (tr h1) ?_ rfl;refine fX (bs:=[Nf]) ?_;refine cS (b:=[]) (σ':=pP (some (.int dr,.lst fits,.int c0)) nm text known wd row ty ma place wh) (own':=["row"]) (tr h2) ?_ rfl;exact fX (bs:=[]) rfl
def pC2:ae:=br (aq 7 oY)
theorem aqW(nm text text2 add known wd)(row)(fits)(more)(ty ma place Js dr cd len)(wh)(n)
(h1:((((az .FloorDiv (.int dr) (.int 26)).bind λd=>cmp .Eq d (.int 0)).bind λc=>if c=true then some (.str (mk []))else(((((az .FloorDiv (.int dr) (.int 26)).bind λd=>az .Sub d (.int 1)).bind intD).bind λi=>g8 Nd i).bind λd=>some [d]).bind λds=>bY .chr ds).bind λa=>(bY .chr [.int cd]).bind λb=>az .Add a b)=some (.str add))
(h2:F7 .Add (.str text) (.str add)=some (.str text2))(h3:(dh T 31).d pK (bZ ["row"] (pP (some (.int dr,fits,.int cd)) nm text2 known wd row ty ma place wh)) pC2=some (.lst more))(hl:row.length+more.length<=dC)
(h4:bY .len [.str wd]=some (.int len))(h5:F7 .Add (.int place) (.int len)=some (.int Js)):
 cM (cY (Va T) pK ["row"] 60 (Xa T pK ["row"] n)) [aq 6 oY,aq 7 oY,aq 8 oY] (pP (some (.int dr,fits,.int cd)) nm text known wd row ty ma place wh) ["row"]=some (.nx (pP (some (.int dr,fits,.int cd)) nm text2 known wd (row++more) ty ma Js wh) ["row"]):=by
 refine d8 (Jk (a:=.str text) (.str text2) (lZ (d:=.str add) (tr h1)) h2) ?_;refine d8 (Vr (ds:=row) (lZ (d:=.lst more) (tr h3)) hl) ?_;exact d8 (Jk (a:=.int place) (.int Js) (lZ (d:=.int len) (tr h4)) h5) (by rfl')
end
end
def bA:List Nat:=nU.cps.toList
def rn(l:Nat):Nat:=bA.idxOf l
def zW:List (List Nat):=(ajE zU).map λx=>x.cps.toList
def ya:List (Nat×List Nat):=match Nc with
 |.lst l=>l.filterMap λd=>match d with
  |.tup [.int c,.str w]=>some (c.toNat,w.cps.toList)
  |_=>none
 |_=>[]
def Rd:List Nat:=(K3 zV).map yE
def Ng:List Nat:=(K3 Nd).map yE
def Jt:List Nat:=(K3 K4).map yE
def Hw(x:Nat×List Nat):D:=.tup [di x.1,.str (mk x.2)]
theorem Rf:zU=.lst (zW.map λx=>.str (mk x)):=by rfl'
theorem acr:Nc=.lst (ya.map Hw):=by rfl'
theorem acs:zV=.lst (Rd.map di):=by rfl'
theorem acu:Nd=.lst (Ng.map di):=by rfl'
theorem acv:K4=.lst (Jt.map di):=by rfl'
theorem K5:zW.length=48:=by rfl'
theorem K6:Rd.length=12:=by rfl'
theorem K7:Ng.length=27:=by rfl'
def K8(c:Nat)(w:List Nat):Bool:= !m8 c&&((og c).cps.toList==w&&b8 c 1114111)
theorem acw:(ya.all λx=>K8 x.1 x.2&&(!x.2.isEmpty&&(x.2.all bA.contains&&b8 x.2.length 3)))=true:=by rfl'
theorem acx:(Rd.all λg=>bA.all λl=>K8 (g+l - 97) [l]&&b8 97 (g+l))=true:=by rfl'
theorem Rg:(bA.all λl=>match Jt[rn l]? with|some c=>K8 c [l]|none=>false)=true:=by rfl'
theorem acy:(Ng.all λc=>m8 c&&b8 c 1114111)=true:=by rfl'
theorem acz:(zW.all λo=>o.all (λc=>K8 c [c]&& !bA.contains c)&&(!o.isEmpty&&b8 o.length 3))=true:=by rfl'
theorem VJ:((a0 48).all λi=>L4.lookup (mk (zW.getD i []))==some ((7+i:Nat):Int))=true:=by rfl'
theorem ajI:(L4.all λx=>x.1.cps.toList.all λc=> !bA.contains c)=true:=by rfl'
theorem Dq:(bA.all λl=>N0 nU (mk [l])==(rn l:Int))=true:=by rfl'
theorem vE(hl:l∈bA)(hm:l∈s):L4.lookup (mk s)=none:=by
 cases h:L4.lookup (mk s)with
 |none=>rfl
 |some v=>
  have:=bf.mp ajI _ (mem_of_lookup h);dsimp only at this;rw[mA]at this;have:=bf.mp this l hm;simp[hl]at this
theorem zX(hl:l∈bA)(m)(h:0<m):Hv (l::p) m=false:=by
 unfold Hv;obtain⟨m,rfl⟩:∃k,m=k+1:=⟨m - 1,by omega⟩
 rw[yF,vE hl (ax ..)];rfl
theorem xM(hl:l∈bA):lM (l::p)=1:=by
 unfold lM;rw[zX hl 3 (by omega),zX hl 2 (by omega)];rfl
theorem Ju(hl:l∈bA):Jp (l::p)=256+(rn l:Int):=by
 unfold Jp;rw[xM hl];show(L4.lookup (mk [l])).getD (256+N0 nU (mk [l]))=_;rw[vE hl (ax ..)];have:=bf.mp Dq l hl;rw[eq_of_beq this];rfl
theorem vG(h:i<48):∃o,zW[i]? =some o/\L4.lookup (mk o)=some ((7+i:Nat):Int)/\o≠[]/\o.length<=3/\∀c∈o,K8 c [c]=true/\c∉bA:=by
 have hi:i<zW.length:=by rw[K5];exact h
 refine⟨zW[i],by simp[hi],?_,?_⟩
 ·have:=bf.mp VJ i (bH.mpr h)
  rw[cN hi]at this;exact eq_of_beq this
 ·have:=bf.mp acz _ (aV hi)
  simp only[ay,cF,bf]at this;obtain⟨h1,h2,h3⟩:=this;refine⟨λe=>by rw[e]at h2;simp at h2,cA h3,λc hc=>?_⟩;have:=h1 c hc;exact⟨this.1,by simpa using this.2⟩
theorem Jv(hl:l∈bA)(h:o.length<m):Hv (o++l::p) m=false:=by
 unfold Hv;rw[List.take_append,vE hl]
 ·rfl
 ·rw[cC]
  right;obtain⟨k,hk⟩:∃k,m - o.length=k+1:=⟨m - o.length - 1,by omega⟩
  rw[hk,yF];exact ax ..
theorem VK(hi:i<48)(ho:zW[i]? =some o)(hl:l∈bA):lM (o++l::p)=o.length/\Jp (o++l::p)=((7+i:Nat):Int):=by
 obtain⟨o',h1,h2,h3,h4,h5⟩:=vG hi;rw[ho]at h1;cases(h1);have ht:Hv (o++l::p) o.length=true:=by
  unfold Hv;rw[avl,h2];rfl
 have h0:o.length≠0:=λe=>h3 (Hp e);have hs:lM (o++l::p)=o.length:=by
  unfold lM;match hn:o.length,h0,h4 with
  |1,_,_=>rw[Jv hl (by omega),Jv hl (by omega)];rfl
  |2,_,_=>rw[hn]at ht;rw[Jv hl (by omega),ht];rfl
  |3,_,_=>rw[hn]at ht;rw[ht];rfl
 refine⟨hs,?_⟩;unfold Jp;rw[hs,avl,h2];rfl
inductive Seg:List Nat->List Int->Prop
 |nil:Seg [] []
 |let{l:Nat} {p:List Nat} {vs:List Int}:l∈bA->Seg p vs->Seg (l::p) ((256+(rn l:Int))::vs)
 |op {i:Nat} {o:List Nat} {l:Nat} {p:List Nat} {vs:List Int}:i<48->zW[i]? =some o->l∈bA->Seg (l::p) vs->Seg (o++l::p) (((7+i:Nat):Int)::vs)
theorem Seg.app(h:Seg p vs)(k:Seg q ws):Seg (p++q) (vs++ws):=by
 induction h with
 |nil=>exact k
 |«let» hl _ ih=>exact .let hl ih
 |op hi ho hl _ ih=>
  rw[c7,du,du];exact .op hi ho hl ih
theorem Seg.toks(h:Seg p vs):Jq p vs:=by
 induction h with
 |nil=>exact .nil
 | @«let» l p vs hl _ ih=>
   refine .cons (by simp) (Ju hl) ?_;rw[xM hl];exact ih
 | @op i o l p vs hi ho hl _ ih=>
   obtain⟨h1,h2⟩:=VK (p:=p) hi ho hl;refine .cons (by simp) h2 ?_;rw[h1,List.drop_left];exact ih
theorem Seg.lets:∀{w:List Nat},(∀l∈w,l∈bA)->Seg w (w.map λl=>256+(rn l:Int)):=by
 intro zx
 induction zx with
 |nil=>
  rintro _
  exact .nil
 |cons l w ih=>
  rintro h
  exact .let (h l (ax ..)) (ih λx hx=>h x (av _ hx))
section
theorem GJ:ya.length=8:=by rfl'
section
variable{T:fe}
def Nh:ae:=qZ (Je (cIf D9))
theorem aqX(o:Option (D×D×D))(nm text known wd w)(row)(ty ma place dr c)(wh):ff (dh T 30) (bZ ["row"] (put "draw" (.int dr) (pP o nm text known wd row ty ma place wh))) D9 (.tup [.int c,.str w])=
 ((A7 (((qD (.str nm) (some place) none).bind λd=>jH .startswith d [.str w]).bind mh) (A7 (((dh T 28).d (vA D9) (gq (bZ ["row"] (put "draw" (.int dr) (pP o nm text known wd row ty ma place wh))) (.tup [.int c,.str w]) D9) Nh).bind λd=>cmp .Eq d (.lst [])) (some true))).bind λb=>if b=true then some true else some false).bind λb=>if b=true then some [.tup [.int c,.str w]]else some []:=by
 rcases o with _|⟨x1,x2,x3⟩<;>rfl'
theorem ajJ(o:Option (D×D×D))(nm text known wd)(row)(ty ma place dr)(wh):KZ pK (bZ ["row"] (put "draw" (.int dr) (pP o nm text known wd row ty ma place wh))) D9=true:=by
 rcases o with _|⟨x1,x2,x3⟩<;>rfl'
theorem ajK(o:Option (D×D×D))(nm text known wd)(row)(ty ma place dr)(wh):(dh T 30).d pK (bZ ["row"] (put "draw" (.int dr) (pP o nm text known wd row ty ma place wh))) (kK D9)=some Nc:=by
 rcases o with _|⟨x1,x2,x3⟩<;>rfl'
theorem aqY(o:Option (D×D×D))(nm text known wd w s)(row)(ty ma place dr c)(wh):ff (dh T 27) (gq (bZ ["row"] (put "draw" (.int dr) (pP o nm text known wd row ty ma place wh))) (.tup [.int c,.str w]) D9) Nh (.str s)=
 ((((gL (.str s) (.str known)).map λx=> !x).bind λb=>if b=true then some true else some false).bind λb=>if b=true then some [.str s]else some []):=by
 rcases o with _|⟨x1,x2,x3⟩<;>rfl'
theorem ajL(o:Option (D×D×D))(nm text known wd w)(row)(ty ma place dr c)(wh):KZ (vA D9) (gq (bZ ["row"] (put "draw" (.int dr) (pP o nm text known wd row ty ma place wh))) (.tup [.int c,.str w]) D9) Nh=true:=by
 rcases o with _|⟨x1,x2,x3⟩<;>rfl'
theorem ajM(o:Option (D×D×D))(nm text known wd w)(row)(ty ma place dr c)(wh):(dh T 27).d (vA D9) (gq (bZ ["row"] (put "draw" (.int dr) (pP o nm text known wd row ty ma place wh))) (.tup [.int c,.str w]) D9) (kK Nh)=some (.str w):=by
 rcases o with _|⟨x1,x2,x3⟩<;>rfl'
theorem Cc(c)(k):gL (.str (ch c)) (.str (mk k))=some (decide (c∈k)):=by
 show some (!(Ee (mk k) (ch c) 0 (mk k).length 1).isEmpty)=_;rw[show ch c=⟨#[c]⟩from rfl,StrLaws.found_one,mA]
theorem GK(w):items (.str (mk w))=some (w.map S4):=by
 show some (tM (mk w))=_;unfold tM;rw[mA];rfl
def K9(k w:List Nat):List Nat:=w.filter λc=> !decide (c∈k)
theorem VL(o:Option (D×D×D))(nm text wd:Str)(k w:List Nat)(row:List D)(ty ma place dr c:Int)(wh:D)(hw:w.length<=dC):
 (dh T 28).d (vA D9) (gq (bZ ["row"] (put "draw" (.int dr) (pP o nm text (mk k) wd row ty ma place wh))) (.tup [.int c,.str (mk w)]) D9) Nh=some (.lst ((K9 k w).map S4)):=by
 have e:=dF (T:=T) (V:=dh T 27) (ks:=vA D9) (σ:=gq (bZ ["row"] (put "draw" (.int dr) (pP o nm text (mk k) wd row ty ma place wh))) (.tup [.int c,.str (mk w)]) D9) (e:=Nh) (d:=.str (mk w)) (φ:=S4) (xs:=w) (g:=λc=>if(!decide (c∈k))=true then[S4 c]else[])
  (ajL ..) (ajM ..) (GK w) (λc hc=>?_) ?_
 ·rw[cL]at e
  exact e
 ·refine(aqY o nm text (mk k) wd (mk w) (ch c) row ty ma place dr _ wh).trans ?_
  rw[Cc,tq,j4];rfl
 ·rw[cL,ag];exact d5 _ _ _ hw
def A8(nm k:List Nat)(place:Nat)(x:Nat×List Nat):Bool:=mF (mk (nm.drop place)) (mk x.2)&&(K9 k x.2).isEmpty
theorem Lb:∀x∈ya,x.2≠[]/\(∀l∈x.2,l∈bA)/\x.2.length<=3/\K8 x.1 x.2=true:=λx hx=>by
 have:=bf.mp acw x hx;simp only[ay,cF,bf]at this;obtain⟨h1,h2,h3,h4⟩:=this;exact⟨λe=>by rw[e]at h2;simp at h2,λl hl=>by simpa using h3 l hl,cA h4,h1⟩
theorem acA(o:Option (D×D×D))(text wd:Str)(nm k:List Nat)(row:List D)(ty ma:Int)(place:Nat)(dr:Int)(wh:D)(hn:nm.length<=dC):
 (dh T 31).d pK (bZ ["row"] (put "draw" (.int dr) (pP o (mk nm) text (mk k) wd row ty ma place wh))) D9=some (.lst ((ya.filter (A8 nm k place)).map Hw)):=by
 have eY:=dO;have e:=dF (T:=T) (V:=dh T 30) (ks:=pK) (σ:=bZ ["row"] (put "draw" (.int dr) (pP o (mk nm) text (mk k) wd row ty ma place wh))) (e:=D9) (d:=Nc) (φ:=Hw) (xs:=ya) (g:=λx=>if(A8 nm k place x)=true then[Hw x]else[])
  (ajJ ..) (ajK ..) (by rw[acr];rfl) (λx hx=>?_) ?_
 ·rw[cL]at e
  exact e
 ·obtain⟨h1,h2,h3,h4⟩:=Lb x hx
  refine(aqX o (mk nm) text (mk k) wd (mk x.2) row ty ma place dr x.1 wh).trans ?_;rw[VL o (mk nm) text wd k x.2 row ty ma place dr x.1 wh (by omega),Cb nm place hn,af,af,vC,sH];have h5:(jH .startswith (.str (mk (nm.drop place))) [.str (mk x.2)]).bind mh=some (mF (mk (nm.drop place)) (mk x.2)):=rfl;rw[h5];unfold A8;cases mF (mk (nm.drop place)) (mk x.2)<;>cases(K9 k x.2).isEmpty<;>rfl
 ·rw[cL,ag];exact d5 _ _ _ (by rw[eY,GJ];decide)
theorem Jw(h:mF (mk a) (mk b)=true):a.take b.length=b:=by
 unfold mF at h;rw[ay,StrLaws.subAt_eq,m7,mA,mA,mq]at h;exact eq_of_beq h.2
theorem aqZ(o:Option (D×D×D))(nm text known wd s)(row)(ty ma place)(wh):ff (dh T 30) (bZ ["row"] (pP o nm text known wd row ty ma place wh)) pC2 (.str s)=
 ((jH .index (.str nU) [.str s]).bind λd=>az .Add (.int 256) d).map λd=>[d]:=by
 rcases o with _|⟨x1,x2,x3⟩<;>rfl'
end
end
section
theorem uf{a n:Nat}(ha:a<1000000)(hn:n<=100000):az .Pow (.int a) (.int n)=some (.int (a^n:Nat)):=by
 show(if(a:Int).natAbs<18446744073709551616/\(0:Int)<=n/\(n:Int)<=100000 then some (D.int ((a:Int)^(n:Int).toNat))else none)=_;rw[if_pos (by omega),aY,g0]
theorem jr{a b:Nat}(hb:0<b)(hs:sm b=true):az .FloorDiv (.int a) (.int b)=some (.int (a/b:Nat)):=by
 show(if(b:Int)≠0/\sm b=true then some (D.int ((a:Int).fdiv b))else none)=_;rw[if_pos ⟨by omega,hs⟩,bp _ (by omega)];rfl
theorem lA{a b:Nat}(hb:0<b):az .Mod (.int a) (.int b)=some (.int (a%b:Nat)):=by
 show ec (if(b:Int)≠0 then some (D.int ((a:Int).fmod b))else none) _=_;rw[if_pos (by omega),bM _ (by omega)];rfl
theorem pC{x n:Nat}(h:x<=2^n)(hn:n<1000):sm x=true:=by
 unfold sm;refine decide_eq_true ?_;rw[jc];exact bx h (jN (by decide) hn)
theorem yv{b k n:Nat}(hb:b<=2^n)(h:n*k<1000):sm ((b^k:Nat):Int)=true:=
 pC (n:=n*k) (by rw[Nat.pow_mul];exact Nat.pow_le_pow_left hb k) h
theorem acB:(bA.all λl=>match jH .index (.str nU) [.str (ch l)]with|some (.int i)=>i==(rn l:Int)|_=>false)=true:=by rfl'
theorem Lc(h:l∈bA):jH .index (.str nU) [.str (ch l)]=some (di (rn l)):=by
 have:=bf.mp acB l h;split at this
 ·rename_i i he
  rw[he,eq_of_beq this];rfl
 ·cases this
theorem ug(i):intD (.int i)=some i:=rfl
theorem Ld(c):ch c=mk [c]:=rfl
theorem Dr{α:Type}{l:List α}{f:α->D}{i:Nat}{x:α}(h:l[i]? =some x)(hb:l.length<2^60):g8 (.lst (l.map f)) i=some (f x):=by
 obtain⟨h1,h2⟩:=ki.mp h;rw[oJ h1 hb,h2]
theorem Le{c:Nat}(h:c<=1114111):bY .chr [.int c]=some (.str (ch c)):=by
 show(if(0:Int)<=c/\(c:Int)<=0x10FFFF then some (D.str ⟨#[(c:Int).toNat]⟩)else none)=_;rw[if_pos (by omega),aY];rfl
theorem add_str(h:a.length+b.length<=dC):az .Add (.str (mk a)) (.str (mk b))=some (.str (mk (a++b))):=by
 show ec (if(mk a).length+(mk b).length<=dC then some (D.str (mk a++mk b))else none) _=_;rw[m7,m7,if_pos h,Jo];rfl
theorem VM(h:a.length+b.length<=dC):F7 .Add (.str (mk a)) (.str (mk b))=some (.str (mk (a++b))):=by
 show(if(mk a).length+(mk b).length<=dC then some (D.str (mk a++mk b))else none)=_;rw[m7,m7,if_pos h,Jo]
theorem len_str(h:a.length<=dC):bY .len [.str (mk a)]=some (.int a.length):=by
 show(if(mk a).length<=dC then some (D.int (mk a).length)else none)=_;rw[m7,if_pos h]
theorem zY(h:K8 c w=true):m8 c=false/\(og c).cps.toList=w/\c<=1114111:=by
 unfold K8 at h;simp only[ay,cF]at h;exact⟨h.1,eq_of_beq h.2.1,cA h.2.2⟩
theorem Lf(h:K8 c w=true)(hw:w.length<=3):(og c).length<=100:=by
 have:=congrArg rz (zY h).2.1;have e:(og c).cps.toList.length=(og c).length:=by simp[Str.length]
 omega
theorem GL(h:K8 c w=true):hO [c]=w:=by
 obtain⟨h1,h2,_⟩:=zY h;unfold hO;rw[cQ,h1];simpa using h2
theorem rU(a b):hO (a++b)=hO a++hO b:=by
 unfold hO;rw[lG,yG]
theorem Ni(h:m8 c=true):hO [c]=[]:=by
 unfold hO;rw[cQ,h];rfl
section
variable{T:fe}
theorem acC(o:Option (D×D×D))(nm text known)(w)(row)(ty ma place)(wh)(hw:∀l∈w,l∈bA)(hl:w.length<=dC):
 (dh T 31).d pK (bZ ["row"] (pP o nm text known (mk w) row ty ma place wh)) pC2=some (.lst ((w.map λl=>256+(rn l:Int)).map .int)):=by
 have e:=dF (T:=T) (V:=dh T 30) (ks:=pK) (σ:=bZ ["row"] (pP o nm text known (mk w) row ty ma place wh)) (e:=pC2) (d:=.str (mk w)) (φ:=S4) (xs:=w) (g:=λl=>[.int (256+(rn l:Int))])
  (by rcases o with _|⟨x1,x2,x3⟩<;>rfl') (by rcases o with _|⟨x1,x2,x3⟩<;>rfl') (GK w) (λl hl=>?_) (by rw[cH,ag];exact hl)
 ·rw[cH]at e
  rw[cG];exact e
 ·refine(aqZ o nm text known (mk w) (ch l) row ty ma place wh).trans ?_
  rw[Lc (hw l hl)];rfl
structure acD(nm k:List Nat)(p:Nat)(cd:Nat)(w:List Nat):Prop where
 ne:w≠[]
 pre:(nm.drop p).take w.length=w
 kn:∀l∈w,l∈k
 le:∀l∈w,l∈bA
 ln:w.length<=3
 ok:K8 cd w=true
theorem aq0(nm text k:List Nat)(wd:Str)(row:List D)(ty ma:Int)(p dr c0 l:Nat)(wh:D)(n:Nat)(Yp:wd=mk [l])(hl:l∈bA)(zt:l∈k)(hp:p<nm.length)(hpl:nm[p]=l)(Mv:Jt[rn l]? =some c0):
 ∃cd w,acD nm k p cd w/\cM (cY (Va T) pK ["row"] 60 (Xa T pK ["row"] (n+2))) [pIf] (pP (some (.int dr,.lst ((ya.filter (A8 nm k p)).map Hw),.int c0)) (mk nm) (mk text) (mk k) wd row ty ma p wh) ["row"]=
  some (.nx (pP (some (.int dr,.lst ((ya.filter (A8 nm k p)).map Hw),.int cd)) (mk nm) (mk text) (mk k) (mk w) row ty ma p wh) ["row"]):=by
 have eY:=dO;have ajN:∀cd,K8 cd [l]=true->acD nm k p cd [l]:=λcd ok=>⟨by simp,by rw[dZ hp,hpl];rfl,by simpa using zt,by simpa using hl,by simp,ok⟩
 obtain⟨F,hF⟩:∃F,F=ya.filter (A8 nm k p):=⟨_,rfl⟩;rw[<-hF];have hFl:F.length<=8:=by rw[hF];exact d5 _ _ _ (by rw[GJ];exact bD _)
 have hT1:pT1 dr (F.map Hw)=some ((dr%2==0)&& !F.isEmpty):=by
  unfold pT1;have h1:(az .Mod (.int dr) (.int 2)).bind (λd=>cmp .Eq d (.int 0))=some (dr%2==0):=by
   have:=lA (a:=dr) (b:=2) (by omega);rw[show((2:Nat):Int)=2 from rfl]at this;rw[this,af];exact nT (dr%2) 0
  have h2:cmp .NotEq (.lst (F.map Hw)) (.lst [])=some (!F.isEmpty):=by
   have:=vC (F.map Hw);rw[sH]at this;show(cmp .Eq (.lst (F.map Hw)) (.lst [])).map (λx=> !x)=_;rw[this];rfl
  rw[h1,h2];cases(dr%2==0)<;>cases F.isEmpty<;>rfl
 cases hb:(dr%2==0)&& !F.isEmpty with
 |true=>
  rw[hb]at hT1;rw[ay,cF]at hb;have M3:0<F.length:=by
   cases F with
   |nil=>simp at hb
   |cons a b=>simp
  have hi:dr/2%F.length<F.length:=dA _ M3;obtain⟨x,hx⟩:∃x,x=F[dr/2%F.length]:=⟨_,rfl⟩;have hxm:x∈F:=by rw[hx];exact aV hi
  rw[hF]at hxm;obtain⟨hm,VN⟩:=dq.mp hxm;obtain⟨s1,s2,s3,s4⟩:=Lb x hm;unfold A8 at VN;rw[ay]at VN;refine⟨x.1,x.2,⟨s1,Jw VN.1,λl hl=>?_,s2,s3,s4⟩,aqT (mk nm) (mk text) (mk k) wd (mk x.2) row (F.map Hw) ty ma p dr c0 x.1 wh n hT1 ?_⟩
  ·have:=VN.2
   unfold K9 at this;rw[iI,mn]at this;simpa using this l hl
  ·have h1:=jr (a:=dr) (b:=2) (by omega) (pC (n:=1) (by decide) (by decide))
   rw[show((2:Nat):Int)=2 from rfl]at h1;rw[h1,af,mz (by rw[ag];omega),af,ag,lA M3,af,ug,af,oJ hi (by omega),<-hx];rfl
 |false=>
  rw[hb]at hT1;have h2:pT2 dr=some (decide (dr/2%13<12)):=by
   unfold pT2;have h1:=jr (a:=dr) (b:=2) (by omega) (pC (n:=1) (by decide) (by decide));have h3:=lA (a:=dr/2) (b:=13) (by omega);rw[show((2:Nat):Int)=2 from rfl]at h1;rw[show((13:Nat):Int)=13 from rfl]at h3;rw[h1,af,h3,af];show some (decide (((dr/2%13:Nat):Int)<12))=_;congr 1;rw[fq,decide_eq_true_eq,decide_eq_true_eq];omega
  by_cases hj:dr/2%13<12
  ·rw[decide_eq_true hj]at h2
   have VP:dr/2%13<Rd.length:=by rw[K6];exact hj
   obtain⟨g,hg⟩:∃g,g=Rd[dr/2%13]:=⟨_,rfl⟩;have:=bf.mp (bf.mp acx g (by rw[hg];exact aV VP)) l hl;rw[ay]at this;refine⟨g+l - 97,[l],ajN _ this.1,?_⟩;have hge:=cA this.2;rw[<-Yp];refine aqU (mk nm) (mk text) (mk k) wd row (F.map Hw) ty ma p dr c0 _ wh n hT1 h2 ?_;have h1:=jr (a:=dr) (b:=2) (by omega) (pC (n:=1) (by decide) (by decide));have h3:=lA (a:=dr/2) (b:=13) (by omega);rw[show((2:Nat):Int)=2 from rfl]at h1;rw[show((13:Nat):Int)=13 from rfl]at h3;have h5:bY .ord [.str (mk [l])]=some (di l):=rfl;rw[h1,af,h3,af,acs,ug,af,oJ VP (by rw[K6];decide),<-hg,af,Yp,h5,af];show some (D.int ((g:Int)+(l:Int) - 97))=_;congr 2;omega
  ·rw[decide_eq_false hj]at h2
   have:=bf.mp Rg l hl;rw[Mv]at this;refine⟨c0,[l],ajN _ this,?_⟩;rw[<-Yp];exact aqV (mk nm) (mk text) (mk k) wd row (F.map Hw) ty ma p dr c0 wh n hT1 h2
end
end
section
def vL(l:Nat):Int:=256+(rn l:Int)
def A9(ma:Nat)(k:List Nat):Nat:=ma/48^k.length%48
def Ea(ma:Nat)(s:List Int×List Nat)(l:Nat):List Int×List Nat:=
 if l∈s.2 then(s.1++[vL l],s.2)else(s.1++[((7+A9 ma s.2:Nat):Int),vL l],s.2++[l])
theorem Ce(ma:Nat):∀(w:List Nat)(s:List Int×List Nat),(∀l∈w,l∈s.2)->w.foldl (Ea ma) s=(s.1++w.map vL,s.2):=by
 intro zx
 induction zx with
 |nil=>
  rintro s _;simp
 |cons l w ih=>
  rintro s h;rw[jf];have:Ea ma s l=(s.1++[vL l],s.2):=by unfold Ea;rw[if_pos (h l (ax ..))]
  rw[this,ih (s.1++[vL l],s.2) λx hx=>h x (av _ hx)];simp
theorem Rh:∀l:List Int,((l.map D.int).all kJ)=true:=by
 intro zx
 induction zx with
 |nil=>
  exact rfl
 |cons _ l ih=>
  rw[aH,rW,ih];rfl
theorem Ri(h:∀c∈o,K8 c [c]=true):hO o=o:=by
 induction o with
 |nil=>rfl
 |cons c o ih=>
  rw[show c::o=[c]++o from rfl,rU,GL (h c (ax ..)),ih λx hx=>h x (av _ hx)]
structure PI(nm:List Nat)(ma:Nat)(p:Nat)(t:List Nat)(r:List Int)(k:List Nat):Prop where
 le:p<=nm.length
 rk:(nm.take p).foldl (Ea ma) ([],[])=(r,k)
 sg:Seg (hO t) r
 tl:t.length<=5*p
 b3:∀c∈t,m8 c=false->(og c).length<=100
 kl:k.length<=p
 rl:r.length<=2*p
theorem PI.next(h:PI nm ma p t r k)(hp:p<nm.length)(S:acD nm k1 p cd w)
(hop:(nm[p]∈k/\op=[]/\ro=[]/\k1=k)\/(nm[p]∉k/\zW[A9 ma k]? =some op/\ro=[((7+A9 ma k:Nat):Int)]/\k1=k++[nm[p]]))(Rj:add=pre++[cd])(GN:pre=[]\/∃c,m8 c=true/\pre=[c]):
 PI nm ma (p+w.length) (t++op++add) (r++ro++w.map vL) k1:=by
 have hlw:0<w.length:=aem.mpr S.ne;obtain⟨l,w',hw⟩:∃l w',w=l::w':=by
  cases w with
  |nil=>exact absurd rfl S.ne
  |cons a b=>exact⟨a,b,rfl⟩
 have hlen:p+w.length<=nm.length:=by
  have:=congrArg rz S.pre;rw[dU,eJ]at this;omega
 have hl:nm[p]=l:=by
  have:=S.pre;rw[dZ hp,hw,aG,yF]at this;exact(d6 this).1
 have htk:nm.take (p+w.length)=nm.take p++w:=by rw[Oi,S.pre]
 have hll:l∈bA:=S.le l (by rw[hw];exact ax ..);have ajP:op.length<=3/\(∀c∈op,K8 c [c]=true)/\ro.length<=1/\k1.length<=k.length+1:=by
  rcases hop with⟨_,rfl,rfl,rfl⟩|⟨_,h2,rfl,rfl⟩
  ·simp
  ·have hwh:A9 ma k<48:=dA _ (by decide)
   obtain⟨o,e1,_,_,e2,e3⟩:=vG hwh;rw[h2]at e1;cases e1;exact⟨e2,λc hc=>(e3 c hc).1,by simp,by simp⟩
 have Yq:pre.length<=1/\hO pre=[]/\∀c∈pre,m8 c=true:=by
  rcases GN with rfl|⟨c,h1,rfl⟩
  ·exact⟨by simp,rfl,by simp⟩
  ·exact⟨by simp,Ni h1,by simpa using h1⟩
 refine⟨hlen,?_,?_,?_,?_,?_,?_⟩
 ·rw[htk,eh,h.rk]
  rcases hop with⟨h1,_,rfl,rfl⟩|⟨h1,_,rfl,rfl⟩
  ·rw[Ce ma w (r,k1) S.kn];simp
  ·rw[hw,jf]
   have:Ea ma (r,k) l=(r++[((7+A9 ma k:Nat):Int),vL l],k++[l]):=by
    unfold Ea;rw[if_neg (by rw[hl]at h1;exact h1)]
   rw[this,Ce ma w' _ (λx hx=>by rw[<-hl];exact S.kn x (by rw[hw];exact av _ hx)),hl];simp
 ·rw[c7,rU,c7]
  refine h.sg.app ?_;rw[rU,Ri ajP.2.1,Rj,rU,Yq.2.1,oo,GL S.ok];have Rk:=Seg.lets S.le;rcases hop with⟨_,rfl,rfl,_⟩|⟨_,h2,rfl,_⟩
  ·exact Rk
  ·rw[hw]at Rk⊢
   exact .op (dA _ (by decide)) h2 hll Rk
 ·have:=h.tl
  rw[aC,aC,Rj,aC];simp;omega
 ·intro c hc hb
  rw[cC,cC]at hc;rcases hc with(hc|hc)|hc
  ·exact h.b3 c hc hb
  ·exact Lf (ajP.2.1 c hc) (by simp)
  ·rw[Rj,cC]at hc
   rcases hc with hc|hc
   ·rw[Yq.2.2 c hc]at hb;cases hb
   ·rw[aU.mp hc];exact Lf S.ok S.ln
 ·have:=h.kl;omega
 ·have:=h.rl
  rw[aC,aC,ag];omega
section
variable{T:fe}
theorem Nj(h:j<27):∃c,Ng[j]? =some c/\m8 c=true/\c<=1114111:=by
 have hj:j<Ng.length:=by rw[K7];exact h
 have:=bf.mp acy _ (aV hj);rw[ay]at this;exact⟨Ng[j],by simp[hj],this.1,cA this.2⟩
theorem Rl:Jt.length=5:=by rfl'
theorem Nk(h:l∈bA):∃c,Jt[rn l]? =some c:=by
 have:=bf.mp Rg l h;split at this
 ·rename_i c hc;exact⟨c,hc⟩
 ·cases this
theorem ajQ{dr cd:Nat}(hdr:dr<728)(y0:cd<=1114111):∃pre,(pre=[]\/∃c,m8 c=true/\pre=[c])/\
 ((((az .FloorDiv (.int dr) (.int 26)).bind λd=>cmp .Eq d (.int 0)).bind λc=>if c=true then some (.str (mk []))else(((((az .FloorDiv (.int dr) (.int 26)).bind λd=>az .Sub d (.int 1)).bind intD).bind λi=>g8 Nd i).bind λd=>some [d]).bind λds=>bY .chr ds).bind λa=>(bY .chr [.int cd]).bind λb=>az .Add a b)=some (.str (mk (pre++[cd]))):=by
 have eY:=dO;have h1:=jr (a:=dr) (b:=26) (by omega) (pC (n:=10) (by decide) (by decide));rw[show((26:Nat):Int)=26 from rfl]at h1;have h2:cmp .Eq (.int ((dr/26:Nat):Int)) (.int 0)=some (dr/26==0):=nT (dr/26) 0;rw[h1,af,h2,af,Le y0];by_cases h0:dr/26=0
 ·refine⟨[],.inl rfl,?_⟩
  rw[if_pos (by rw[h0];rfl),af,af,Ld,add_str (by simp;omega)]
 ·obtain⟨c,Qk,hc2,hc3⟩:=Nj (j:=dr/26 - 1) (by omega)
  refine⟨[c],.inr ⟨c,hc2,rfl⟩,?_⟩;have h3:az .Sub (.int ((dr/26:Nat):Int)) (.int 1)=some (.int ((dr/26 - 1:Nat):Int)):=by
   show some (D.int (((dr/26:Nat):Int) - 1))=_;congr 2;omega
  rw[if_neg (by rw[beq_iff_eq];exact h0),af,h3,af,ug,af,acu,Dr Qk (by rw[K7];decide),af,af,show di c=.int c from rfl,Le hc3,af,af,Ld,Ld,add_str (by simp;omega)]
inductive Yr(nm:List Nat)(ty ma p:Nat)(x:Option Fl):Prop
 |mk (o':D×D×D×D×D) (p':Nat) (t':List Nat) (r':List Int) (k':List Nat) (h1:p<p') (I:PI nm ma p' t' r' k') (h:x=some (.nx (pS (some o') (.str (mk nm)) (.int ty) (.int ma) (.str (mk t')) (.lst (r'.map .int)) (.str (mk k')) (.int p')) ["row"]))
theorem acE{ty p:Nat}(hp:p<=10):((az .Pow (.int 728) (.int (p:Int))).bind λd=>az .FloorDiv (.int (ty:Int)) d).bind (λd=>az .Mod d (.int 728))=some (.int ((ty/728^p%728:Nat):Int)):=
 oB (oB (uf (a:=728) (by decide) (ao hp (by decide))) (jr (ei (by decide)) (yv (n:=10) (by decide) (bx (cE 10 hp) (by decide))))) (lA (b:=728) (by decide))
theorem acF(hl:l∈bA)(Mv:Jt[rn l]? =some c0):((jH .index (.str nU) [.str (mk [l])]).bind intD).bind (λi=>g8 K4 i)=some (.int (c0:Int)):=by
 rw[<-Ld,Lc hl,af,show intD (di (rn l))=some ((rn l:Nat):Int)from rfl,af,acv,Dr Mv (by rw[Rl];decide)];rfl
theorem ajR{ma:Nat}{k:List Nat}(hk:k.length<=30):(((bY .len [.str (mk k)]).bind λd=>az .Pow (.int 48) d).bind λd=>az .FloorDiv (.int (ma:Int)) d).bind (λd=>az .Mod d (.int 48))=some (.int ((A9 ma k:Nat):Int)):=
 oB (oB (oB (len_str (ao hk (by decide))) (uf (a:=48) (by decide) (ao hk (by decide)))) (jr (ei (by decide)) (yv (n:=6) (by decide) (bx (cE 6 hk) (by decide))))) (lA (b:=48) (by decide))
theorem Rm{nm:List Nat}{ty ma p dr c0 n:Nat}{t:List Nat}{r:List Int}{k:List Nat}(VQ:p<=10)(AJ:nm.length<=10)(hp:p<nm.length)(hl:nm[p]∈bA)(ajS:dr=ty/728^p%728)(Mv:Jt[rn nm[p]]? =some c0)(I:PI nm ma p t r k)
(o2:Option (D×D×D))(t1:List Nat)(r1:List Int)(k1:List Nat)(wh:D)(op:List Nat)(ro:List Int)(ht1:t1=t++op)(hr1:r1=r++ro)(U3:nm[p]∈k1)
(hop:(nm[p]∈k/\op=[]/\ro=[]/\k1=k)\/(nm[p]∉k/\zW[A9 ma k]? =some op/\ro=[((7+A9 ma k:Nat):Int)]/\k1=k++[nm[p]]))(aw5:r1.length<=30)(aw6:t1.length<=60)(aw7:k1.length<=30):
 Yr nm ty ma p (cM (cY (Va T) pK ["row"] 60 (Xa T pK ["row"] (n+2))) [aq 2 oY,aq 3 oY,aq 4 oY,aq 5 oY,aq 6 oY,aq 7 oY,aq 8 oY] (pP o2 (mk nm) (mk t1) (mk k1) (mk [nm[p]]) (r1.map .int) ty ma p wh) ["row"]):=by
 have eY:=dO;have hdr:dr<728:=ajS▸dA _ (by decide);obtain⟨cd,w,S,hif⟩:=aq0 (T:=T) nm t1 k1 (mk [nm[p]]) (r1.map .int) ty ma p dr c0 nm[p] wh n rfl hl U3 hp rfl Mv;obtain⟨_,_,y0⟩:=zY S.ok;obtain⟨pre,GN,Rj⟩:=ajQ (dr:=dr) (cd:=cd) (by omega) y0;have hpl:pre.length<=1:=by rcases GN with rfl|⟨c,_,rfl⟩<;>simp
 have Au:=S.ln;refine⟨(.str (mk w),wh,.int dr,.lst ((ya.filter (A8 nm k1 p)).map Hw),.int cd),p+w.length,t++op++(pre++[cd]),r++ro++w.map vL,k1,?_,I.next hp S hop rfl GN,?_⟩
 ·have:=aem.mpr S.ne;omega
 ·have q1:=aqS (T:=T) o2 (mk nm) (mk t1) (mk k1) (mk [nm[p]]) (r1.map .int) ((ya.filter (A8 nm k1 p)).map Hw) ty ma p dr c0 wh (n+2) (ajS▸acE VQ) (acA o2 (mk t1) (mk [nm[p]]) nm k1 (r1.map .int) ty ma p dr wh (by omega)) (acF hl Mv)
  have q2:=aqW (T:=T) (mk nm) (mk t1) (mk (t1++(pre++[cd]))) (mk (pre++[cd])) (mk k1) (mk w) (r1.map .int) (.lst ((ya.filter (A8 nm k1 p)).map Hw)) ((w.map vL).map .int) ty ma p ((p+w.length:Nat):Int) dr cd w.length wh (n+2) Rj
   (VM (by rw[aC];simp;omega)) (acC _ _ _ _ w _ _ _ _ _ S.le (by omega)) (by rw[ag,ag,ag];omega) (len_str (by omega)) (by
     show some (D.int ((p:Int)+(w.length:Int)))=_;rw[lD])
  have:=rT q1 (rT hif q2);rw[<-aX,hr1,ht1]at this;rw[hr1,ht1];exact this
theorem acG(o:Option (D×D×D×D×D))(nm:List Nat)(ty ma p:Nat)(t:List Nat)(r:List Int)(k:List Nat)(n:Nat)(AJ:nm.length<=10)(hle:∀l∈nm,l∈bA)(hp:p<nm.length)(I:PI nm ma p t r k)(ho:o=none->k=[]):
 Yr nm ty ma p (Xa T pK ["row"] (n+3) oY (pS o (.str (mk nm)) (.int ty) (.int ma) (.str (mk t)) (.lst (r.map .int)) (.str (mk k)) (.int p)) ["row"]):=by
 have eY:=dO;have hl:nm[p]∈bA:=hle _ (aV hp);have htl:=I.tl;have Yn:=I.kl;have hrl:=I.rl;have VQ:p<=10:=ao (bV hp) AJ;have Yp:g8 (.str (mk nm)) (p:Int)=some (.str (mk [nm[p]])):=getI_str hp (by omega);have Aq:=Cc nm[p] k;obtain⟨c0,Mv⟩:=Nk hl;by_cases hk:nm[p]∈k
 ·rw[decide_eq_true hk]at Aq
  obtain⟨x,rfl⟩:∃x,o=some x:=by
   cases o with
   |none=>rw[ho rfl]at hk;cases hk
   |some x=>exact⟨x,rfl⟩
  have q0:=aqR (T:=T) x (mk nm) (mk t) (mk k) (mk [nm[p]]) (r.map .int) ty ma p (n+1) Yp Aq;obtain⟨o',p',t',r',k',h1,h2,h3⟩:=Rm VQ AJ hp hl rfl Mv I (some x.2.2) t r k x.2.1 [] [] (by simp) (by simp) hk (.inl ⟨hk,rfl,rfl,rfl⟩) (by omega) (by omega) (by omega);exact⟨o',p',t',r',k',h1,h2,fX (rT q0 h3) Rb⟩
 ·rw[decide_eq_false hk]at Aq
  have hwh:A9 ma k<48:=dA _ (by decide);obtain⟨op,e1,_,_,e2,e3⟩:=vG hwh;have q0:=aqQ (T:=T) o (mk nm) (mk t) (mk (t++op)) (mk k) (mk (k++[nm[p]])) (mk [nm[p]]) (r.map .int) ((r++[((7+A9 ma k:Nat):Int)]).map .int) ty ma p (A9 ma k) (n+1) Yp Aq ?_ ?_ ?_ (Rh _) (add_str (by simp;omega))
  ·obtain⟨o',p',t',r',k',h1,h2,h3⟩:=Rm VQ AJ hp hl rfl Mv I (o.map λx=>x.2.2) (t++op) (r++[((7+A9 ma k:Nat):Int)]) (k++[nm[p]]) (.int (A9 ma k)) op [((7+A9 ma k:Nat):Int)] rfl rfl (by simp) (.inr ⟨hk,e1,rfl,rfl⟩) (by simp;omega) (by simp;omega) (by simp;omega)
   exact⟨o',p',t',r',k',h1,h2,fX (rT q0 h3) Rb⟩
  ·exact ajR (by omega)
  ·rw[Rf,Dr e1 (by rw[K5];decide),af,add_str (by omega)]
  ·rw[jv (by rw[ag];simp;omega),aX]
   rw[lD];rfl
end
end
section
section
variable{T:fe}
theorem acH(o:Option (D×D×D×D×D))(nm text known)(row)(ty ma p):(dh T 31).b pK (pS o (.str nm) (.int ty) (.int ma) (.str text) (.lst row) (.str known) (.int p)) (eA pW)=(bY .len [.str nm]).bind λd=>cmp .Lt (.int p) d:=by
 rcases o with _|⟨x1,x2,x3,x4,x5⟩<;>rfl'
theorem Lg(o:Option (D×D×D×D×D))(nm:List Nat)(text known:Str)(row:List D)(ty ma:Int)(p:Nat)(h:nm.length<=dC):(dh T 31).b pK (pS o (.str (mk nm)) (.int ty) (.int ma) (.str text) (.lst row) (.str known) (.int p)) (eA pW)=some (decide (p<nm.length)):=by
 rw[acH,len_str h];show some (decide ((p:Int)<(nm.length:Int)))=_;congr 1;rw[fq,decide_eq_true_eq,decide_eq_true_eq];omega
theorem acI(nm:List Nat)(ty ma:Nat)(n:Nat)(AJ:nm.length<=10)(hle:∀l∈nm,l∈bA):∀(m p:Nat)(o:Option (D×D×D×D×D))(t:List Nat)(r:List Int)(k:List Nat),nm.length - p<m->PI nm ma p t r k->(o=none->k=[])->
 ∃o' t' r' k',PI nm ma nm.length t' r' k'/\lX (Xa T pK ["row"] (n+3)) (dh T 31) pK (eA pW) oY m (pS o (.str (mk nm)) (.int ty) (.int ma) (.str (mk t)) (.lst (r.map .int)) (.str (mk k)) (.int p)) ["row"]=
  some (.nx (pS o' (.str (mk nm)) (.int ty) (.int ma) (.str (mk t')) (.lst (r'.map .int)) (.str (mk k')) (.int (nm.length:Int))) ["row"]):=λm=>by
 induction m with
 |zero=>intro p o t r k h _ _;exact absurd h (J3 _)
 |succ m ih=>
  intro p o t r k h I ho;have eY:=dO;have axa:=I.le;by_cases hp:p<nm.length
  ·obtain⟨o',p',t',r',k',h1,h2,h3⟩:=acG (T:=T) o nm ty ma p t r k n AJ hle hp I ho
   obtain⟨o2,t2,r2,k2,i1,i2⟩:=ih p' (some o') t' r' k' (bJ (Al hp h1) (ani h)) h2 (λe=>by cases e);refine⟨o2,t2,r2,k2,i1,?_⟩;dsimp only[lX];rw[Lg _ _ _ _ _ _ _ _ (by omega),decide_eq_true hp];show(Xa T pK ["row"] (n+3) oY _ _).bind _=_;rw[h3];exact i2
  ·have hp2:p=nm.length:=by omega
   subst hp2;refine⟨o,t,r,k,I,?_⟩;dsimp only[lX];rw[Lg _ _ _ _ _ _ _ _ (by omega),decide_eq_false hp];rfl
theorem aq3(o:Option (D×D×D×D×D))(nm ty ma known p)(text)(row):(dh T 31).d pK (pS o nm ty ma (.str text) (.lst row) known p) (br (aq 6 pB))=(((az .Add (.lst row) (.lst [.int 0])).bind λd=>some [d]).bind λds=>some (.str text::ds)).bind λds=>if ds.length<=dC then some (.tup ds)else none:=by
 rcases o with _|⟨x1,x2,x3,x4,x5⟩<;>rfl'
theorem ajT(nm:List Nat)(ty ma:Nat)(AJ:nm.length<=10)(hle:∀l∈nm,l∈bA):∃t r k,PI nm ma nm.length t r k/\
 Xa T pK ["row"] 20 pB [("names",.str (mk nm)),("typing",.int ty),("marks",.int ma)] []=some (.rt (.tup [.str (mk t),.lst ((r++[0]).map .int)])):=by
 have eY:=dO;obtain⟨o',t,r,k,I,hw⟩:=acI (T:=T) nm ty ma 16 AJ hle 60 0 none [] [] [] (by omega) ⟨dx _,rfl,.nil,by simp,by simp,by simp,by simp⟩ (λ_=>rfl);refine⟨t,r,k,I,?_⟩;refine fX (bs:=[aq 0 pB,aq 1 pB,aq 2 pB,aq 3 pB,aq 4 pB,aq 5 pB,aq 6 pB]) ?_;refine d8 (bC zU (by rfl')) ?_;refine d8 (bC Nc (by rfl')) ?_;refine d8 (bC zV (by rfl')) ?_;refine d8 (bC Nd (by rfl')) ?_;refine d8 (l6 ["text","row","known","place"] [ub 0 (aq 4 pB),ub 1 (aq 4 pB),ub 2 (aq 4 pB),ub 3 (aq 4 pB)] (dm (lZ (d:=.str (mk [])) (by rfl')) (dm (lZ (d:=.lst []) (by rfl')) (dm (lZ (d:=.str (mk [])) (by rfl')) (dm (lZ (d:=.int 0) (by rfl')) l5))))) ?_;refine d8 (GC (tr hw)) ?_;have hrl:=I.rl;refine c9 (dJ _ ((aq3 o' _ _ _ _ _ _ _).trans ?_));rw[jv (by rw[ag];simp;omega),af,af,af,if_pos (by simp;omega),aX];rfl
end
end
section
def m9(s:List Nat×Nat)(one:Nat):List Nat×Nat:=(s.1.take (s.2%(one+1))++[one/2]++s.1.drop (s.2%(one+1)),s.2/(one+1))
def gu(heap:Nat)(i:Nat):List Nat×Nat:=(a0 i).foldl m9 ([],heap/3)
def ji(heap:Nat):List Nat:=let s:=gu heap (2*(3+heap%3));s.1.map λx=>bA.getD ((x+s.2)%5) 0
theorem rp(heap i):gu heap (i+1)=m9 (gu heap i) i:=by
 unfold gu;rw[ot,eh];rfl
theorem tc(heap):∀i,(gu heap i).1.length=i:=by
 intro zx
 induction zx with
 |zero=>
  exact rfl
 |succ i ih=>
  rw[rp];unfold m9;rw[aC,aC,alR,<-aC,nk,ih];rfl
theorem GO(heap):∀i,(gu heap i).1.Perm ((a0 i).map (·/2)):=by
 intro zx
 induction zx with
 |zero=>
  exact .nil
 |succ i ih=>
  rw[rp,ot,aX];unfold m9;generalize (gu heap i).2%(i+1)=m;have:=ih;refine List.Perm.trans ?_ (this.append_right _);rw[c7];refine(List.Perm.append_left _ nv).trans ?_;rw[<-c7,nk];exact aen _
theorem Jx(p:List D)(m:Nat)(h:p.length<=dC):qD (.lst p) none (some (m:Int))=some (.lst (p.take m)):=by
 rw[CV];rw[if_pos h];unfold sl;rw[show jG p.length 0 none=0 from rfl,mq,hW];rw[rm,<-Xf]
theorem Jy(p:List D)(m:Nat)(h:p.length<=dC):qD (.lst p) (some (m:Int)) none=some (.lst (p.drop m)):=by
 rw[CV];rw[if_pos h];unfold sl;rw[show jG p.length p.length none=p.length from rfl];rw[rm,<-Xg,mv (by rw[eJ];exact aeY (J6 ..) _)]
def gK:bW:=vz "_law_ring"
def gB:List Stmt:=bo "_law_ring"
def gF:Stmt:=aq 1 gB
def gFB:List Stmt:=aS gF
section
variable{T:fe}
def gS(o:Option D)(heap rest:Int)(row:List D):cw:=([("heap",.int heap),("row",.lst row),("rest",.int rest)]:cw)++(match o with|none=>[]|some a=>[("one",a)])
theorem VR(o:Option D)(heap rest Ys one)(row ajU)(n)
(h1:((((((az .Mod (.int rest) (.int (one+1))).bind intD).map some).bind λb=>qD (.lst row) none b).bind λx=>az .Add x (.lst [.int (one.fdiv 2)])).bind λy=>((((az .Mod (.int rest) (.int (one+1))).bind intD).map some).bind λa=>qD (.lst row) a none).bind λz=>az .Add y z)=some (.lst ajU))
(h2:az .FloorDiv (.int rest) (.int (one+1))=some (.int Ys)):
 Xa T gK [] (n+1) gFB (g1 (de gK (fw gF) (.int one) (gS o heap rest row,[]))) (g2 (de gK (fw gF) (.int one) (gS o heap rest row,[])))=some (.nx (gS (some (.int one)) heap Ys ajU) []):=by
 rcases o with _|o
 all_goals
  refine fX (bs:=[aq 0 gFB]) ?_;exact d8 (l6 ["row","rest"] [ub 0 (aq 0 gFB),ub 1 (aq 0 gFB)] (dm (lZ (tr h1)) (dm (lZ (tr h2)) l5))) (by rfl')
theorem acJ(o:Option D)(heap:Int)(rest one:Nat)(row:List Nat)(n:Nat)(hl:row.length<=1000)(ho:one<=1000):
 Xa T gK [] (n+1) gFB (g1 (de gK (fw gF) (di one) (gS o heap rest (row.map di),[]))) (g2 (de gK (fw gF) (di one) (gS o heap rest (row.map di),[])))=some (.nx (gS (some (di one)) heap (m9 (row,rest) one).2 ((m9 (row,rest) one).1.map di)) []):=by
 have eY:=dO;have hc:(one:Int)+1=((one+1:Nat):Int):=by omega
 have hm:=lA (a:=rest) (b:=one+1) (by omega);have hd:(one:Int).fdiv 2=((one/2:Nat):Int):=by rw[bp _ (by decide)];omega
 refine VR o heap rest _ one (row.map di) _ n ?_ ?_
 ·rw[hc,hm,af,ug,tq,af,af,Jx _ _ (by rw[ag];omega),Jy _ _ (by rw[ag];omega),af,hd]
  rw[jv (by simp;omega),af,af,jv (by simp;omega)];unfold m9;rw[aX,aX,List.map_take,List.map_drop];rfl
 ·rw[hc,jr (by omega) (pC (n:=20) (by omega) (by decide))]
  rfl
theorem acK(o:Option D)(heap rest one)(row):de gK (fw gF) (.int one) (gS o heap rest row,[])=some (g1 (de gK (fw gF) (.int one) (gS o heap rest row,[])),g2 (de gK (fw gF) (.int one) (gS o heap rest row,[]))):=by
 rcases o with _|o<;>rfl'
def gC:ae:=rM 0 (br (aq 2 gB))
theorem g_c(o:Option D)(heap rest x)(row):ff (dh T 29) (gS o heap rest row) gC (.int x)=(g8 (.str nU) ((x+rest).fmod 5)).map λd=>[d]:=by
 rcases o with _|o<;>rfl'
theorem acL(o:Option D)(heap rest)(row):(dh T 31).d gK (gS o heap rest row) (br (aq 2 gB))=(((dh T 30).d gK (gS o heap rest row) gC).bind λd=>some [d]).bind λds=>jH .join (.str (mk [])) ds:=by
 rcases o with _|o<;>rfl'
theorem oK:bA.length=5:=by rfl'
theorem acM(o:Option D)(heap:Int)(rest:Nat)(row:List Nat)(hl:row.length<=1000):(dh T 30).d gK (gS o heap rest (row.map di)) gC=some (.lst ((row.map λx=>mk [bA.getD ((x+rest)%5) 0]).map .str)):=by
 have eY:=dO;have e:=dF (T:=T) (V:=dh T 29) (ks:=gK) (σ:=gS o heap rest (row.map di)) (e:=gC) (d:=.lst (row.map di)) (φ:=di) (xs:=row) (g:=λx=>[.str (mk [bA.getD ((x+rest)%5) 0])])
  (by rcases o with _|o<;>rfl') (by rcases o with _|o<;>rfl') rfl (λx hx=>?_) (by rw[cH,ag];omega)
 ·rw[cH]at e
  rw[cG];exact e
 ·refine(g_c o heap rest x (row.map di)).trans ?_
  have h5:(x+rest)%5<bA.length:=by rw[oK];exact dA _ (by decide)
  have:((x:Int)+(rest:Int)).fmod 5=(((x+rest)%5:Nat):Int):=by
   rw[bM _ (by decide)];omega
  have hg:=getI_str (l:=bA) h5 (by rw[oK];decide);rw[this,cN h5];rw[show mk bA=nU from Q8 nU]at hg;rw[hg];rfl
theorem acN(heap)(row)(rest):sR (Va T) gK (gS none heap rest row) [] (br gF)=(((((az .Mod (.int heap) (.int 3)).bind λd=>az .Add (.int 3) d).bind λd=>az .Mult (.int 2) d).bind λd=>some [d]).bind (λds=>bY .range ds)).bind items:=by rfl'
theorem ajV(heap:Nat):Xa T gK [] 20 gB [("heap",.int heap)] []=some (.rt (.str (mk (ji heap)))):=by
 have eY:=dO;obtain⟨N,hN⟩:∃N,N=2*(3+heap%3):=⟨_,rfl⟩;obtain⟨o,ho⟩:∃o:Nat->Option D,o=λi=>match i with|0=>none|i+1=>some (di i):=⟨_,rfl⟩
 have hf:=Dn (X:=Xa T gK [] 19) (ks:=gK) (t:=fw gF) (body:=gFB) ((a0 N).map di) (λi=>(gS (o i) heap (gu heap i).2 ((gu heap i).1.map di),[]))
  (λi=>(g1 (de gK (fw gF) (di i) (gS (o i) heap (gu heap i).2 ((gu heap i).1.map di),[])),g2 (de gK (fw gF) (di i) (gS (o i) heap (gu heap i).2 ((gu heap i).1.map di),[])))) (λi hi=>?_)
 ·rw[ag,cf]at hf
  refine fX (bs:=[aq 0 gB,aq 1 gB,aq 2 gB]) ?_;have h3:=jr (a:=heap) (b:=3) (by omega) (pC (n:=2) (by decide) (by decide));rw[show((3:Nat):Int)=3 from rfl]at h3;refine d8 (l6 ["row","rest"] [ub 0 (aq 0 gB),ub 1 (aq 0 gB)] (dm (lZ (d:=.lst []) (by rfl')) (dm (lZ (tr h3)) l5))) ?_;have hit:=acN (T:=T) heap [] ((heap/3:Nat):Int);have hm:=lA (a:=heap) (b:=3) (by omega);rw[show((3:Nat):Int)=3 from rfl]at hm;have hmu:az .Mult (.int 2) (.int (3+((heap%3:Nat):Int)))=some (.int (N:Int)):=by
   rw[vq (iW (by omega) (by omega)) (iW (by omega) (by omega))];congr 2;omega
  rw[hm,af,show az .Add (.int 3) (.int ((heap%3:Nat):Int))=some (.int (3+((heap%3:Nat):Int)))from rfl,af,hmu,af,af,
   show bY .range [.int (N:Int)]=some (.om 0 N 1)from rfl,af,iV _ (by omega)]at hit
  refine d8 (vy (ds:=(a0 N).map di) (r:=.nx (gS (o N) heap (gu heap N).2 ((gu heap N).1.map di)) []) (tr hit) (tr hf (by rw[ho];rfl'))) ?_;refine c9 (dJ _ ((acL ..).trans ?_));have hl:=tc heap N;rw[acM _ _ _ _ (by omega),af,af,GI ?_]
  ·unfold ji
   rw[<-hN,Ej];have:∀l:List Nat,(l.flatMap λa=>(mk [bA.getD ((a+(gu heap N).2)%5) 0]).cps.toList)=l.map λx=>bA.getD ((x+(gu heap N).2)%5) 0:=λl=>by
    induction l with
    |nil=>rfl
    |cons a l ih=>rw[dH,ih];rfl
   rw[this]
  ·have:∀l:List Nat,((l.map λx=>mk [bA.getD ((x+(gu heap N).2)%5) 0]).map (·.length)).sum=l.length:=λl=>by
    induction l with
    |nil=>rfl
    |cons a l ih=>rw[aH,aH,dR,ih,m7,aG];simp;omega
   rw[this];omega
 ·rw[ag,cf]at hi
  rw[show((a0 N).map di)[i]'(by rw[ag,cf];exact hi)=di i from by simp];refine⟨acK _ _ _ _ _,?_⟩;have hl:=tc heap i;refine(acJ (o i) heap (gu heap i).2 i (gu heap i).1 18 (by omega) (by omega)).trans ?_;dsimp only;rw[rp,ho]
end
end
section
theorem acO{V:Ev}{ks:bW}{W:List Str}{wf:Nat}{X:XD}{σ:cw}{own:List Str}{st:Stmt}{ds:List D}(hl:ds.length<=dC)(ha:autoParam (look σ (kY st)=some (.lst ds)) Mxx.ka)(hs:autoParam (sT (Yi st)=some (M4 st)) Mxx.ka)(hx:autoParam (st=.Expr (Yi st) (cx st)) Mxx.ka)
(hm:autoParam ((M4 st).2.1="reverse") Mxx.ka)(hg:autoParam ((M4 st).2.2=[]) Mxx.ka)(ho:autoParam ((own.contains (kY st)&& !(kY st==("__debug__":Str)))=true) Mxx.ka):cY V ks W wf X st σ own=some (.nx (put (kY st) (.lst ds.reverse) σ) own):=by
 refine K1 hs hx ho ha ?_;rw[hg,hm];exact if_pos ⟨rfl,hl⟩
section
variable{T:fe}
def nK:bW:=vz "_div2n1n"
def nB:List Stmt:=bo "_div2n1n"
theorem ajW(hI:nR T)(a b n:Int)(h1:bR a - n<=4000)(hb:b≠0)(hs:sm b=true):Xa T nK [] 20 nB [("a",.int a),("b",.int b),("n",.int n)] []=some (.rt (.tup [.int (a.fdiv b),.int (a.fmod b)])):=by
 obtain⟨rest,hr⟩:∃rest,rest=nB.drop 1:=⟨_,rfl⟩;refine fX (b:=nB) (bs:=aq 0 nB::rest) ?_ (by rw[hr];rfl');refine gU (b:=[aq 0 (aS (aq 0 nB))]) (tr (b:=(T.gl "_DIV_LIMIT").bind λd=>cmp .LtE (.int (bR a - n)) d) ?_) (fX (bs:=[aq 0 (aS (aq 0 nB))]) (c9 (dJ _ (tr (b:=bY .divmod [.int a,.int b]) ?_))))
 ·rw[hI.gl]
  have:Vg "_DIV_LIMIT"=some (.int 4000):=by rfl'
  rw[this];show some (decide (bR a - n<=4000))=_;rw[decide_eq_true h1]
 ·show(if b≠0/\sm b=true then some (D.tup [.int (a.fdiv b),.int (a.fmod b)])else none)=_
  rw[if_pos ⟨hb,hs⟩]
def vK:bW:=vz "_divmod_pos"
def vB:List Stmt:=bo "_divmod_pos"
def vF:Stmt:=aq 4 vB
def vFB:List Stmt:=aS vF
def vS(o:Option (D×D))(a b n ad r:D)(qs:List D):cw:=([("a",a),("b",b),("n",n),("a_digits",ad),("r",r),("q_digits",.lst qs)]:cw)++(match o with|none=>[]|some (x,y)=>[("a_digit",x),("q_digit",y)])
theorem VT(o:Option (D×D))(a ad)(b n r d q r2)(qs)(m)(h1:((((az .LShift (.int r) (.int n)).bind λx=>az .Add x (.int d)).bind λx=>some [x,.int b,.int n]).bind λds=>T.fn "_div2n1n" ds)=some (.tup [.int q,.int r2]))(hl:qs.length+1<=dC):
 Xa T vK ["q_digits"] (m+1) vFB (g1 (de vK (fw vF) (.int d) (vS o a (.int b) (.int n) ad (.int r) qs,["q_digits"]))) (g2 (de vK (fw vF) (.int d) (vS o a (.int b) (.int n) ad (.int r) qs,["q_digits"])))=
  some (.nx (vS (some (.int d,.int q)) a (.int b) (.int n) ad (.int r2) (qs++[.int q])) ["q_digits"]):=by
 rcases o with _|⟨x,y⟩
 all_goals
  refine fX (bs:=[aq 0 vFB,aq 1 vFB]) ?_;refine d8 (l7 (.tup [.int q,.int r2],false) (lZ (d:=.tup [.int q,.int r2]) (tr h1))) ?_;exact d8 (zN (ds:=qs) (lZ (d:=.int q) (by rfl')) hl) (by rfl')
theorem acP(o:Option (D×D))(a ad b n r d)(qs):de vK (fw vF) d (vS o a b n ad r qs,["q_digits"])=some (g1 (de vK (fw vF) d (vS o a b n ad r qs,["q_digits"])),g2 (de vK (fw vF) d (vS o a b n ad r qs,["q_digits"]))):=by
 rcases o with _|⟨x,y⟩<;>rfl'
end
end
def df(n:Nat):Nat->Nat->List Nat
 |0,_=>[]
 |c+1,x=>x%2^n::df n c (x/2^n)
def rq(n:Nat):List Nat->Nat
 |[]=>0
 |x::r=>x+2^n*rq n r
theorem fT(n):∀c x,(df n c x).length=c:=by
 intro zx
 induction zx with
 |zero=>
  rintro _;exact rfl
 |succ c ih=>
  rintro x;rw[df,aG,ih]
theorem td(n):∀c x,∀d∈df n c x,d<2^n:=by
 intro zx
 induction zx with
 |zero=>
  rintro _ d h;cases h
 |succ c ih=>
  rintro x d h;rw[df]at h;rcases aL.mp h with rfl|h
  ·exact dA _ (ei (by decide))
  ·exact ih _ d h
theorem xN(n):∀c x,x<2^(n*c)->rq n (df n c x)=x:=by
 intro zx
 induction zx with
 |zero=>
  rintro x h;rw[DQ,Nat.pow_zero]at h;have:x=0:=by omega
  subst this;rfl
 |succ c ih=>
  rintro x h;rw[df,rq,ih]
  ·exact Nat.mod_add_div x (2^n)
  ·rw[uJ,i7]at h
   exact oj (by rw[hU];exact h)
theorem rr(n):∀l:List Nat,kW n (l.map eR)=(rq n l:Int):=by
 intro zx
 induction zx with
 |nil=>
  exact rfl
 |cons x l ih=>
  rw[aH,rq];show(x:Int)+2^n*kW n (l.map eR)=_;rw[ih];push_cast;rfl
theorem Jz(n):∀(l:List Nat),(∀d∈l,d<2^n)->df n l.length (rq n l)=l:=by
 intro zx
 induction zx with
 |nil=>
  rintro _;exact rfl
 |cons x l ih=>
  rintro h;have hx:=h x (ax ..);have hp:0<2^n:=ei (by decide);rw[aG,df,rq,Nat.add_mul_mod_self_left,nH hx,Nat.add_mul_div_left _ _ hp,asS hx,ja,ih λd hd=>h d (av _ hd)]
theorem Ro(n):∀(l:List Nat),(∀d∈l,d<2^n)->rq n l<2^(n*l.length):=by
 intro zx
 induction zx with
 |nil=>
  rintro _;simp[rq]
 |cons x l ih=>
  rintro h;have hx:=h x (ax ..);have ih:=ih λd hd=>h d (av _ hd);rw[aG,uJ,fR,i7,rq];have:2^n*(rq n l+1)<=2^n*2^(n*l.length):=cE _ ih;rw[HI,HJ]at this;omega
def uh(n b:Nat)(s:Nat×List Nat)(d:Nat):Nat×List Nat:=((s.1*2^n+d)%b,s.2++[(s.1*2^n+d)/b])
def vH(n:Nat)(l:List Nat):Nat:=l.foldl (λv d=>v*2^n+d) 0
theorem vI(n:Nat)(l:List Nat)(d:Nat):vH n (l++[d])=vH n l*2^n+d:=by unfold vH;rw[eh];rfl
theorem GP(n:Nat):∀l:List Nat,vH n l.reverse=rq n l:=by
 intro zx
 induction zx with
 |nil=>
  exact rfl
 |cons x l ih=>
  rw[gZ,vI,ih,rq,hU,fR]
theorem zZ{α:Type}{P:List α->Prop}(h0:P [])(h1:∀l a,P l->P (l++[a]))(l:List α):P l:=by
 have:∀l:List α,P l.reverse:=λl=>by
  induction l with
  |nil=>exact h0
  |cons a l ih=>rw[gZ];exact h1 _ _ ih
 have:=this l.reverse;rwa[xW]at this
theorem Rp(n b:Nat)(hb:0<b)(l:List Nat)(hl:∀d∈l,d<2^n):(l.foldl (uh n b) (0,[])).1=vH n l%b/\vH n (l.foldl (uh n b) (0,[])).2=vH n l/b/\(∀q∈(l.foldl (uh n b) (0,[])).2,q<2^n)/\(l.foldl (uh n b) (0,[])).2.length=l.length:=by
 induction l using zZ with
 |h0=>exact⟨by simp[vH],by simp[vH],by simp,rfl⟩
 |h1 l a ih=>
  obtain⟨i1,i2,i3,i4⟩:=ih λd hd=>hl d (eM _ hd);have ha:a<2^n:=hl a (by simp);rw[eh];generalize l.foldl (uh n b) (0,[])=s at i1 i2 i3 i4;show(s.1*2^n+a)%b=_/\vH n (s.2++[(s.1*2^n+a)/b])=_/\(∀q∈s.2++[(s.1*2^n+a)/b],q<2^n)/\(s.2++[(s.1*2^n+a)/b]).length=_;have hr:s.1<b:=by rw[i1];exact dA _ hb
  have key:vH n (l++[a])=b*(vH n l/b*2^n)+(s.1*2^n+a):=by
   rw[vI,i1];have:=oW (vH n l) b
   conv=>lhs;rw[<-this]
   rw[yh,SK,SG]
  refine⟨?_,?_,λq hq=>?_,?_⟩
  ·rw[key,Nat.mul_add_mod]
  ·rw[vI,i2,key,avm hb]
  ·rcases cC.mp hq with h|h
   ·exact i3 q h
   ·rw[aU.mp h]
    refine oj ?_;have:(s.1+1)*2^n<=b*2^n:=ael _ hr;rw[yh,yi]at this;omega
  ·rw[aC,aC,i4];rfl
def jL(x:Nat):Nat:=if x=0 then 0 else x.log2+1
theorem yw(x:Nat):bR (x:Int)=jL x:=by
 unfold bR jL;by_cases h:x=0
 ·subst h;rfl
 ·rw[if_neg h]
  have:((x:Int)==0)=false:=by rw[beq_eq_false_iff_ne];omega
  simp[this,h]
theorem Ds(x):x<2^jL x:=by
 unfold jL;split
 ·subst_vars;decide
 ·exact asU
theorem kZ(h:x<2^k):jL x<=k:=by
 unfold jL;split
 ·exact dx _
 ·rename_i h0
  exact(aef h0).mpr h
def ql(n x:Nat):Nat:=(jL x+n - 1)/n
def gm(n x:Nat):List Nat:=df n (ql n x) x
theorem z3(hn:0<n):jL x<=n*ql n x/\n*ql n x<=jL x+n - 1:=by
 unfold ql;have h1:=oW (jL x+n - 1) n;have h2:=dA (jL x+n - 1) hn;exact⟨by omega,Nat.mul_div_le ..⟩
theorem Nl(hn:0<n):rq n (gm n x)=x:=by
 refine xN n _ x (bJ (Ds x) (aW (by decide) (z3 hn).1))
end Internal.Z
namespace Internal
open Internal.Z (df fT td xN)
theorem vJ(a):cR (cR (a:Int))=a:=by unfold cR;omega
theorem JA(a b:Nat):oS (a:Int) (b:Int)=((a ||| b:Nat):Int) - ((a &&& b:Nat):Int):=by
 have h1:uL (a:Int) (b:Int)=((a &&& b:Nat):Int):=by
  unfold uL;rw[decide_eq_true (by omega),decide_eq_true (by omega)];rfl
 have h2:anj (a:Int) (b:Int)=((a ||| b:Nat):Int):=by
  unfold anj;have n1:¬(0<=cR (a:Int)):=by unfold cR;omega
  have n2:¬(0<=cR (b:Int)):=by unfold cR;omega
  have h3:uL (cR (a:Int)) (cR (b:Int))=cR (((a ||| b:Nat)):Int):=by
   unfold uL;rw[decide_eq_false n1,decide_eq_false n2];dsimp only;rw[vJ,vJ,aY,aY]
  rw[h3,vJ]
 unfold oS;rw[h1,h2]
theorem VU(x s:Nat):oS (x:Int) ((x/2^s*2^s:Nat):Int)=((x%2^s:Nat):Int):=by
 have hb:∀i,(x/2^s*2^s).testBit i=(decide (s<=i)&&x.testBit i):=λi=>by
  rw[hU,Nat.testBit_two_pow_mul];by_cases h:s<=i
  ·rw[Nat.testBit_div_two_pow];simp[h]
  ·simp[h]
 have h1:x ||| (x/2^s*2^s)=x:=by
  apply aeo;intro i;rw[Nat.testBit_or,hb];cases x.testBit i<;>simp
 have h2:x &&& (x/2^s*2^s)=x/2^s*2^s:=by
  apply aeo;intro i;rw[Nat.testBit_and,hb];cases x.testBit i<;>simp
 rw[JA,h1,h2];have:=oW x (2^s);rw[hU]at this;omega
theorem GQ(n):∀(a b x:Nat),df n (a+b) x=df n a (x%2^(n*a))++df n b (x/2^(n*a)):=by
 intro zx
 induction zx with
 |zero=>
  rintro b x;simp[df]
 |succ a ih=>
  rintro b x;rw[show a+1+b=(a+b)+1 by omega,df,df,ih b,du];have e:2^(n*(a+1))=2^n*2^(n*a):=by rw[uJ,fR,i7]
  rw[e];congr 1
  ·rw[Nat.mod_mul_right_mod]
  ·rw[qp,Nat.div_div_eq_div_mul]
theorem GR(n x)(h:x<2^n):df n 1 x=[x]:=by
 show[x%2^n]=_;rw[nH h]
theorem bE.trans(a:bE P h1 h2)(b:bE P h2 h3):bE P h1 h3:=λx o e ne=>b x o (a x o e ne) ne
theorem bE.of(a:bU h1 h2):bE P h1 h2:=λx o e _=>a x o e
theorem Nn(t:IsL h P it k)(x:h.Ns a m):a≠P:=λe=>by
 obtain⟨o,es,ep,h2,h3,_⟩:=x;have h1:h.get? P=some _:=t;rw[e,h1]at h2;cases h2;cases h3
theorem JB(t:IsL h P it j)(k:bE P h h')(x:h.Ns a m):h'.Ns a m:=x.at' λo e=>k a o e (Nn t x)
theorem dN.acQ(t:IsL s.heap P it j)(k:bE P s.heap s'.heap)(am:dN A La s)(tk:1<=s'.toks)(N8:∀h',bE P s.heap h'->La h'):dN A La s':=by
 obtain⟨mc,n1,n2⟩:=am.nb;obtain⟨mc',l1,l2⟩:=am.nl;obtain⟨mg,g1⟩:=am.gl;exact⟨am.hh,⟨mc,JB t k n1,n2⟩,⟨mc',JB t k l1,l2⟩,⟨mg,JB t k g1⟩,tk,am.un,λh kh=>N8 h (bE.trans k (bE.of kh))⟩
end Internal
namespace Internal.I
section
def eB:List Stmt:=Dj "_int2digits" pw.main.body
def eI:Stmt:=aq 1 eB
def jB:List Stmt:=CF eI
def jK:bW:=(o6 eI).names
def jC(i:Nat):ae:=br (aq i jB)
def asT(st:Stmt):ae:=vk st
def aq5(e:ae):ae:=Je e
def aq6(e:ae):ae:=qZ e
def jT:List Stmt:=aS (aq 0 jB)
def VV:List Stmt:=[.Assign [.Name "mid" (lJ (aq 1 jB))] (br (aq 1 jB)) (cx (aq 1 jB)),.Assign [.Name "shift" (lJ (aq 2 jB))] (br (aq 2 jB)) (cx (aq 2 jB)),.Assign [.Name "upper" (lJ (aq 3 jB))] (br (aq 3 jB)) (cx (aq 3 jB)),.Assign [.Name "lower" (lJ (aq 4 jB))] (br (aq 4 jB)) (cx (aq 4 jB))]
theorem jC5:jC 5=.Call (.Name "inner" (qZ (jC 5)).pos) [.Name "lower" (rM 0 (jC 5)).pos,.Name "L" (rM 1 (jC 5)).pos,.Name "mid" (rM 2 (jC 5)).pos] [] (jC 5).pos:=by rfl'
theorem jC6:jC 6=.Call (.Name "inner" (qZ (jC 6)).pos) [.Name "upper" (rM 0 (jC 6)).pos,.Name "mid" (rM 1 (jC 6)).pos,.Name "R" (rM 2 (jC 6)).pos] [] (jC 6).pos:=by rfl'
theorem ajX:jB=.If (eA (aq 0 jB)) jT [] (cx (aq 0 jB))::(VV++[.Expr (jC 5) (cx (aq 5 jB)),.Expr (jC 6) (cx (aq 6 jB))]):=by rfl'
theorem ajY:jT=[.Assign [.Subscript (.Name "a_digits" (aq6 (asT (aq 0 jT))).pos) (.Name "L" (aq5 (asT (aq 0 jT))).pos) (asT (aq 0 jT)).pos] (.Name "x" (br (aq 0 jT)).pos) (cx (aq 0 jT)),.Return none (cx (aq 1 jT))]:=by rfl'
abbrev JC(x L R n:Int):cw:=[("x",.int x),("L",.int L),("R",.int R),("n",.int n)]
abbrev jS1(x L R n m t u l:Int):cw:=JC x L R n++([("mid",.int m),("shift",.int t),("upper",.int u),("lower",.int l)]:cw)
section
variable{T:fe}
theorem acR(x L R n):(V6 T).b jK (JC x L R n) (eA (aq 0 jB))=some (L+1==R):=by rfl'
theorem j_x(x L R n)(p):(V6 T).d jK (JC x L R n) (.Name "x" p)=some (.int x):=by rfl'
theorem j_L(x L R n)(p):(V6 T).d jK (JC x L R n) (.Name "L" p)=some (.int L):=by rfl'
theorem aj0(x L R n):(V6 T).d jK (JC x L R n) (br (aq 1 jB))=some (.int ((L+R).fdiv (2^(1:Int).toNat))):=by rfl'
theorem aq7(x L R n m):(V6 T).d jK (JC x L R n++([("mid",.int m)]:cw)) (br (aq 2 jB))=az .Mult (.int (m - L)) (.int n):=by rfl'
theorem aq8(x L R n m t):(V6 T).d jK (JC x L R n++([("mid",.int m),("shift",.int t)]:cw)) (br (aq 3 jB))=az .RShift (.int x) (.int t):=by rfl'
theorem aq9(x L R n m t u):(V6 T).d jK (JC x L R n++([("mid",.int m),("shift",.int t),("upper",.int u)]:cw)) (br (aq 4 jB))=(az .LShift (.int u) (.int t)).bind λd=>az .BitXor (.int x) d:=by rfl'
theorem ara(x L R n m t u l)(p q r):uZ ((V6 T).d jK (jS1 x L R n m t u l)) [.Name "lower" p,.Name "L" q,.Name "mid" r]=some [.int l,.int L,.int m]:=by rfl'
theorem arb(x L R n m t u l)(p q r):uZ ((V6 T).d jK (jS1 x L R n m t u l)) [.Name "upper" p,.Name "mid" q,.Name "R" r]=some [.int u,.int m,.int R]:=by rfl'
end
structure j7(h:Heap)(F:Addr->Prop)(f:Addr)(n:Nat)(o:Obj)(fd:ky)(cl:List (Str×Addr))(cd ci cn al:Addr):Prop where
 ho:h.get? f=some o
 hd:o.data=.func fd
 fi:Qy fd ["x","L","R"] jB jK cl
 rc:h.CodeRec fd.code fd.qualname
 ld:cl.lookup ("a_digits":Str)=some cd
 li:cl.lookup ("inner":Str)=some ci
 ln:cl.lookup ("n":Str)=some cn
 hF:∀m c,cl.lookup m=some c->F c
 fa:F al
 na:∀m c,cl.lookup m=some c->c≠al
 vd:h.IsCell cd (some (.ref al))
 vi:h.IsCell ci (some (.ref f))
 vn:∃v,h.IsCell cn (some v)/\bT h F (.int n) v
end
end Internal.I
namespace Internal.I
section
open Internal.Z (df fT)
section
variable{prog:bb}{w:World}{A:aE}{E:Value->ak->Prop}{G F:Addr->Prop}{env:Env}{La:Heap->Prop}{T:fe}
theorem j7.but(I:j7 h F f n o fd cl cd ci cn al)(t:IsL h al it j)(k:bE al h h'):j7 h' F f n o fd cl cd ci cn al:=by
 have t:h.get? al=some _:=t;have ne:∀{b:Addr}{o:Obj},h.get? b=some o->(∀x y,o.data≠.seq x y)->h'.get? b=some o:=λ{b o} e hd=>k b o e λz=>by
  rw[z,t]at e;cases e;exact hd _ _ rfl
 have cell:∀{c:Addr}{v:Option Value},h.IsCell c v->h'.IsCell c v:=λ{c v} ⟨o,e,d⟩=>⟨o,ne e (λx y q=>by rw[d]at q;cases q),d⟩
 have rc:h'.CodeRec fd.code fd.qualname:=by
  obtain⟨c,o,vs,tk,e,g,d,v⟩:=I.rc;exact⟨c,o,vs,tk,e,ne g (λx y q=>by rw[d]at q;cases q),d,v⟩
 obtain⟨v,a,b⟩:=I.vn;refine⟨ne I.ho (λx y q=>by rw[I.hd]at q;cases q),I.hd,I.fi,rc,I.ld,I.li,I.ln,I.hF,I.fa,I.na,cell I.vd,cell I.vi,v,cell a,?_⟩;exact mU (d:=.int n) rfl b
theorem j7.mono(I:j7 h F f n o fd cl cd ci cn al)(hF:∀a,F a->G a):j7 h G f n o fd cl cd ci cn al:=by
 obtain⟨v,a,b⟩:=I.vn;exact⟨I.ho,I.hd,I.fi,I.rc,I.ld,I.li,I.ln,λm c e=>hF c (I.hF m c e),hF _ I.fa,I.na,I.vd,I.vi,v,a,mU (d:=.int n) rfl b⟩
theorem allFlat(ds:List Nat):(ds.map di).all kJ=true:=by
 induction ds with
 |nil=>rfl
 |cons d ds ih=>rw[aH,rW,ih];rfl
theorem Acc.any{h h':Heap}{F G:Addr->Prop}{al:Addr}{ds:List Nat}(a:Acc F h al (ds.map di))(k:h.get? al=h'.get? al\/bU h h'):Acc G h' al (ds.map di):=by
 obtain⟨vs,n,q1,q2⟩:=a;have q1:h.get? al=some _:=q1;refine⟨vs,n,?_,jI (allFlat ds) q2⟩;rcases k with k|k
 ·show h'.get? al=_
  rw[<-k];exact q1
 ·exact k _ _ q1
def xO(s:ak)(F:Addr->Prop)(al:Addr)(ds:List Nat)(v:Value)(s':ak):Prop:=v=.none/\1<=s'.toks/\(∃h tk,s'={s with heap:=h,toks:=tk})/\bE al s.heap s'.heap/\Acc F s'.heap al (ds.map di)
def Cf(w:World)(La:Heap->Prop)(f:Addr)(n:Nat)(o:Obj)(fd:ky)(cl:List (Str×Addr))(cd ci cn al:Addr)(cnt:Nat)(k:Nat):Prop:=
 ∀(x L R:Nat),L<R->R<=cnt->R - L<=2^k->x<2^(n*(R - L))->∀(A:aE)(E:Value->ak->Prop)(s:ak)(F:Addr->Prop)(vs:List Value)(ds:List Nat),Bq (k+1) A->dN A La s->jy F s.heap->
  j7 s.heap F f n o fd cl cd ci cn al->Acc F s.heap al (ds.map di)->ds.length=cnt->(∀h',bE al s.heap h'->La h')->aZ s.heap F [.int x,.int L,.int R] vs->
   wpAny (model pw w) A (call (.ref f) vs) (xO s F al (ds.take L++df n (R - L) x++ds.drop R)) E s
theorem Nq(ds:List Nat)(L x:Nat)(h:L<ds.length):ds.set L x=ds.take L++[x]++ds.drop (L+1):=by
 rw[List.set_eq_take_append_cons_drop,if_pos h];simp
theorem Rq{s:ak}{σ:cw}{L x:Int}{ds:List Nat}{al cd:Addr}{V:Ev}{QA:aE->Prop}{np lp p xp pos:Pos}{Q:Flow->ak->Prop}(VO:dz prog w La QA V)(bu:QA A)(am:dN A La s)(y:In env G σ s.heap)(hk:env.kindOf "a_digits"=some .free)(hc:env.cells.lookup ("a_digits":Str)=some cd)(hv:s.heap.IsCell cd (some (.ref al)))
(ac:Acc G s.heap al (ds.map di))(hx:V.d env.scope.names σ (.Name "x" xp)=some (.int x))(hL:V.d env.scope.names σ (.Name "L" lp)=some (.int L))(h0:0<=L)(h1:L<ds.length)(eY:ds.length<=dC)(hx0:0<=x)
(k:∀h tk,1<=tk->bE al s.heap h->Acc G h al ((ds.set L.toNat x.toNat).map di)->Q .next {s with heap:=h,toks:=tk}):
 wpAny (model prog w) A (exec (.Assign [.Subscript (.Name "a_digits" np) (.Name "L" lp) p] (.Name "x" xp) pos) env) Q E s:=by
 have N6:exec (.Assign [.Subscript (.Name "a_digits" np) (.Name "L" lp) p] (.Name "x" xp) pos) env=(do
  standAt pos
  let v<-eval (.Name "x" xp) env
  assignStores env v none [assign (.Subscript (.Name "a_digits" np) (.Name "L" lp) p) env]):=rfl
 rw[N6];refine aw (eH (aw (aj (bF am.tk (VO.d A E env G σ s _ _ bu am y hx)) (λv s1 q=>?_) λ_ _ e=>e)));obtain⟨t1,k1,r1⟩:=q;show wpAny _ _ (do assignAll v [assign (.Subscript (.Name "a_digits" np) (.Name "L" lp) p) env];pure Ed) _ _ _;refine aw ?_;show wpAny _ _ (assign (.Subscript (.Name "a_digits" np) (.Name "L" lp) p) env v) _ _ _;rw[zw];have y1:=y.keeps (Keeps.all k1);have kH:=am.keeps k1 t1;refine aw (cq (mG (DU y.fn hk hc (hv.keeps (Keeps.all k1)) ?_ (by decide)) (by decide)));refine aw (cq (aj (bF t1 (VO.d A E env G σ s1 _ _ bu kH y1 hL)) (λiv s2 q=>?_) λ_ _ e=>e));obtain⟨t2,k2,r2⟩:=q;obtain⟨t,rfl⟩:=r2.int;have KD:=Keeps.trans' k1 k2;obtain⟨vs,m,q1,q2⟩:=ac;have q1':IsL s2.heap al vs m:=Keeps.all KD _ _ q1;have hsz:vs.size=ds.length:=by have h0:=q2.length;rw[cT,ag]at h0;exact h0
 have hl:dC=1048576:=rfl;refine aw (eH (aw (cq (ki_setAt (n:=m) q1' h0 (by omega) (by rw[hsz];exact h1) (xE ?_)))));have hs:tB al s2.heap (s2.heap.update al (jO (·.setIfInBounds L.toNat v))):=mH ..;obtain⟨hh,tt,rfl,kk⟩:=KD;refine aM (k _ _ t2 (λb o e ne=>hs.extBut b o ne (kk b o e)) ⟨_,_,qm q1' _,?_⟩);rw[J5];have e1:(ds.set L.toNat x.toNat).map di=(ds.map di).set L.toNat (.int x):=by
  rw[Tg];congr 1;show D.int _=_;congr 1;omega
 rw[e1];exact(jI (h':=(hh.update al (jO (·.setIfInBounds L.toNat v)))) (G':=G) (allFlat ds) q2).set _ (mU (d:=.int x) rfl r1)
end
end
end Internal.I
end
section
open PySem PySem.W PyProof.Rows
set_option exponentiation.threshold 2000
namespace Internal.I
open Internal.Z (df fT)
theorem ard:∃a b c d e,jC 5=.Call (.Name "inner" a) [.Name "lower" b,.Name "L" c,.Name "mid" d] [] e:=⟨_,_,_,_,_,jC5⟩
theorem arf:∃a b c d e,jC 6=.Call (.Name "inner" a) [.Name "upper" b,.Name "mid" c,.Name "R" d] [] e:=⟨_,_,_,_,_,jC6⟩
theorem JD(ds A1 A2:List Nat)(L m R:Nat)(h1:L<=m)(h2:m<=R)(h3:R<=ds.length)(hA:A1.length=m - L)(hB:A2.length=R - m):
 ((ds.take L++A1++ds.drop m).take m++A2++(ds.take L++A1++ds.drop m).drop R)=ds.take L++(A1++A2)++ds.drop R:=by
 have hl:(ds.take L++A1).length=m:=by rw[aC,dU,hA];omega
 have e1:(ds.take L++A1++ds.drop m).take m=ds.take L++A1:=by rw[List.take_append_of_le_length (by omega),mv (by omega)]
 have e2:(ds.take L++A1++ds.drop m).drop R=ds.drop R:=by
  rw[List.drop_append,Ti (by omega),oo,hl,LJ];congr 1;omega
 rw[e1,e2];simp
theorem Rr(x L R n m t u l:Nat)(hm:m=(L+R)/2)(ht:((m:Int) - L)*n=(t:Int))(hml:m<=100000)(hLm:L<=m)(hn:n<=100000)(ht9:t<=900)(hu:u=x/2^t)(hl:l=x%2^t)(hx:x<2^990):
 AZ (V6 T) jK [] 10 3 VV (JC x L R n) []=some (.nx (jS1 x L R n m t u l) []):=by
 have acS:(100000:Int)<=10^100:=by decide
 have hsm:∀x:Int,0<=x->x<=100000->sm x=true:=λx h0 h1=>Pl (jb (by decide) h0) (jb h1 acS);have at1:u<2^990:=by rw[hu];exact bx (avk ..) hx
 have h2t:(2:Int)^(t:Int).toNat=((2^t:Nat):Int):=by rw[aY,g0];rfl
 show AZ (V6 T) jK [] 10 3 [_,_,_,_] _ _=_;rw[yr,rL (d:=.int m) ((aj0 _ _ _ _).trans (by rw[QG,<-hm])) (by rfl') (by rfl')];show cM (cY (V6 T) jK [] 10 (AZ (V6 T) jK [] 10 2)) _ (JC x L R n++([("mid",.int m)]:cw)) []=_;rw[rL (d:=.int t) ((aq7 _ _ _ _ _).trans (by rw[vq (hsm _ (by omega) (by omega)) (hsm _ (by omega) (by omega)),ht])) (by rfl') (by rfl')];show cM (cY (V6 T) jK [] 10 (AZ (V6 T) jK [] 10 2)) _ (JC x L R n++([("mid",.int m),("shift",.int t)]:cw)) []=_;rw[rL (d:=.int u) ((aq8 _ _ _ _ _ _).trans (by
  show(if(0:Int)<=(t:Int)then some (D.int ((x:Int).fdiv (2^(t:Int).toNat)))else none)=_;rw[if_pos (by omega),h2t,bp _ (by omega),hu];rfl)) (by rfl') (by rfl')]
 show cM (cY (V6 T) jK [] 10 (AZ (V6 T) jK [] 10 2)) _ (JC x L R n++([("mid",.int m),("shift",.int t),("upper",.int u)]:cw)) []=_;rw[rL (d:=.int l) ((aq9 _ _ _ _ _ _ _).trans (by
  rw[Jh (QE (m:=990) (by omega) (by
   have h3:((2^990:Nat):Int)=2^990:=g0 2 990;omega) (by omega)) (by omega) (by omega),af,h2t]
  show some (D.int (oS (x:Int) ((u:Int)*((2^t:Nat):Int))))=_;rw[<-lF,hu,VU,<-hl])) (by rfl') (by rfl')]
 rfl
end Internal.I
namespace Internal.I
open Internal.Z (df fT)
theorem xO.start(k:Keeps s s')(p:xO s' G al ds v Uw):xO s F al ds v Uw:=by
 obtain⟨h1,h2,⟨h,tk,h3⟩,h4,h5⟩:=p;obtain⟨h0,t0,rfl,kk⟩:=k;exact⟨h1,h2,⟨h,tk,h3⟩,bE.trans (bE.of kk) h4,Acc.any h5 (.inl rfl)⟩
theorem j7.Rt(I:j7 h F f n o fd cl cd ci cn al)(k:bU h h'):j7 h' F f n o fd cl cd ci cn al:=by
 obtain⟨v,a,b⟩:=I.vn;exact⟨k _ _ I.ho,I.hd,I.fi,I.rc.keeps k,I.ld,I.li,I.ln,I.hF,I.fa,I.na,I.vd.keeps k,I.vi.keeps k,v,a.keeps k,b.keeps k⟩
theorem JE(h:L+1=R)(hx:x<2^(n*(R - L))):df n (R - L) x=[x]:=by
 subst h;rw[Tf]at hx⊢;rw[HJ]at hx;exact Internal.GR n x hx
theorem VW{ds A:List Nat}{L m c:Nat}(h:m<=ds.length)(h1:L<=m)(hA:A.length=m - L)(hl:ds.length=c):(ds.take L++A++ds.drop m).length=c:=by
 rw[aC,aC,dU,eJ,hA,oU (ao h1 h),An h1,An h,hl]
theorem xP{w:World}{La:Heap->Prop}{T:fe}(TO:dW pw w La (λ_=>True) T){f:Addr}{n:Nat}{o:Obj}{fd:ky}{cl:List (Str×Addr)}{cd ci cn al:Addr}{cnt:Nat}
(hn:n*cnt<=900)(oX:1<=n)(x L R:Nat)(h1:L<R)(h2:R<=cnt)(hx:x<2^(n*(R - L)))(A:aE)(E:Value->ak->Prop)(s:ak)(F:Addr->Prop)(vs:List Value)(ds:List Nat)(k:Nat)(bq:Bq (k+1) A)(am:dN A La s)(lo:jy F s.heap)
(I:j7 s.heap F f n o fd cl cd ci cn al)(ac:Acc F s.heap al (ds.map di))(hl:ds.length=cnt)(hla:∀h',bE al s.heap h'->La h')(rs:aZ s.heap F [.int x,.int L,.int R] vs)(ih:L+1=R\/∃j,k=j+1/\R - L<=2^k/\Cf w La f n o fd cl cd ci cn al cnt j):
 wpAny (model pw w) A (call (.ref f) vs) (xO s F al (ds.take L++df n (R - L) x++ds.drop R)) E s:=by
 have hlen:=abO hn oX;have hn9:=aiS hn (ao (ao (iN (dx L)) h1) h2);have arh:n*(R - L)<=900:=ao (cE _ (ao (lN ..) h2)) hn;have aj2:x<2^990:=bJ hx (aW (by decide) (ao arh (by decide)));have VO:dz pw w La (λ_=>True) (V6 T):=kU TO 7;have XO:SX pw w La (λ_=>True) jK (AZ (V6 T) jK [] 10 3):=vg (W:=[]) (kU TO 6) TO jK 10 3;refine B2 (σc:=[("n",.int n)]) I.fi bq.dep I.ho I.hd I.rc rfl am bq.un lo rs I.hF (λm d e=>?_) (λenv aQ G oa mJ rH kH fr si E'=>?_)
 ·unfold look at e
  split at e
  ·rename_i hm
   subst hm;cases e;obtain⟨v,a,b⟩:=I.vn;exact⟨by decide,cn,v,I.ln,a,b⟩
  ·unfold look at e;cases e
 have si:SI env F s (JC x L R n) [] aQ G oa:=si;have D6:dN (A.deeper env) La s:=⟨am.hh,am.nb,am.nl,am.gl,am.tk,(bq.deeper env).un2,am.la⟩
 have hkd:env.kindOf "a_digits"=some .free:=by unfold lQ;rw[mJ];decide
 have p5:Cl env "inner":=.inr (by unfold lQ;rw[mJ];decide);have QJ:env.cells.lookup ("inner":Str)=some ci:=by rw[rH];exact I.li
 have y0:env.cells.lookup ("a_digits":Str)=some cd:=by rw[rH];exact I.ld
 have Yh:∀m,env.cells.lookup m≠some al:=λm e=>I.na m al (by rw[<-rH];exact e) rfl;rw[ajX];have y1:In env G (JC x L R n) aQ.heap:=si.ie;refine cz (wpAny_If (aj (bF si.tk (VO.b (A.deeper env) E' env G _ aQ _ _ trivial kH y1 (by rw[mJ];exact acR _ _ _ _))) (λb s2 q=>?_) λ_ _ e=>e));obtain⟨t2,rfl,k2⟩:=q;have AU:=si.keeps k2 t2;have y2:In env G (JC x L R n) s2.heap:=AU.ie;have Ar:=kH.keeps k2 t2;have k02:=AU.kp;by_cases N9:L+1=R
 ·have hL:L<ds.length:=hl▸bJ h1 h2
  rw[if_pos (aiU N9),ajY];refine cz (Rq (al:=al) (cd:=cd) (ds:=ds) VO trivial Ar y2 hkd y0 (I.vd.keeps (Keeps.all k02)) (Acc.any ac (.inr (Keeps.all k02))) (by rw[mJ];exact j_x _ _ _ _ _) (by rw[mJ];exact j_L _ _ _ _ _) (cg L) (pZ.mpr hL) (ao (hl▸hlen) (by decide)) (cg x) (λh tk htk kb acc=>?_));refine cz (wpAny_Return_none ?_);show xO s F al _ .none _;rw[aY,aY,Nq ds L x hL]at acc;rw[JE N9 hx,<-N9];exact xO.start (G:=G) k02 ⟨rfl,htk,⟨h,tk,rfl⟩,kb,acc⟩
 ·obtain⟨j,rfl,hk,ct⟩:=ih.resolve_left N9
  rw[if_neg (by rw[aiV N9];exact aJ)];obtain⟨m,hm⟩:∃m,m=(L+R)/2:=⟨_,rfl⟩;obtain⟨QI,A4⟩:=yt hm h1 N9;obtain⟨U3,PV⟩:=Gq hm hk;have Vn:m<=cnt:=ao (bV A4) h2;obtain⟨t,ht⟩:∃t:Nat,t=n*(m - L):=⟨_,rfl⟩;have htI:((m:Int) - L)*n=(t:Int):=by
   rw[ht,lF,SJ (bV QI),p0]
  have ht9:t<=900:=by
   rw[ht];exact ao (cE _ (ao (lN ..) Vn)) hn
  have hX:=Rr (T:=T) x L R n m t (x/2^t) (x%2^t) hm htI (ao Vn (ao hlen (by decide))) (bV QI) (ao hn9 (by decide)) ht9 rfl rfl aj2;have acT:n*(R - L)=t+n*(R - m):=by rw[ht,<-HI,fR,uH (bV A4) (bV QI)]
  have hxl:x%2^t<2^(n*(m - L)):=by rw[<-ht];exact dA _ (ei (by decide))
  have hxu:x/2^t<2^(n*(R - m)):=by
   rw[acT,i7]at hx;exact oj hx
  refine iq ?_;show wpAny (model pw w) (A.deeper env) (execs (VV++[.Expr (jC 5) (cx (aq 5 jB)),.Expr (jC 6) (cx (aq 6 jB))]) env) _ _ _;refine vm (aj (XO (A.deeper env) E' env F s _ [] s2 G oa VV _ trivial D6 fr AU mJ hX) (λg s3 q=>?_) λ_ _ e=>e);obtain⟨rfl,G2,oa2,uN⟩:=q;generalize hu:x/2^t=u at*;generalize hlo:x%2^t=l at*;have y3:In env G2 (jS1 x L R n m t u l) s3.heap:=uN.ie;have I3:j7 s3.heap G2 f n o fd cl cd ci cn al:=(I.but ac.cases.choose_spec.choose_spec.1 (bE.of (Keeps.all uN.kp))).mono uN.hF;have S0:dN (A.deeper env) La s3:=D6.keeps uN.kp uN.tk;have fn3:=jZ y3.fn;obtain⟨pa,pb,pc,pd,pe,j5⟩:=ard;obtain⟨qa,qb,qc,qd,qe,j6⟩:=arf;rw[j5,j6];refine cz (Ho ?_ fn3 rfl);refine B3 VO trivial S0 y3 p5 (by decide) (by decide) QJ I3.vi I3.ho I3.hd (by rw[mJ];exact ara _ _ _ _ _ _ _ _ _ _ _) (λs4 vs4 k4 t4 r4=>?_);have k04:=Keeps.trans' uN.kp k4;have ac4:Acc G2 s4.heap al (ds.map di):=Acc.any ac (.inr (Keeps.all k04));obtain⟨it4,n4,il4,_⟩:=id ac4;have I4:j7 s4.heap G2 f n o fd cl cd ci cn al:=I3.Rt (Keeps.all k4);have acU:∀h',bE al s4.heap h'->La h':=λh' q=>hla h' (bE.trans (bE.of (Keeps.all k04)) q);have Oa:=S0.keeps k4 t4;have y4:=y3.keeps (Keeps.all k4);refine aj (ct l L m QI Vn U3 hxl (A.deeper env) _ s4 G2 vs4 ds (bq.deeper env) Oa y4.lo I4 ac4 hl acU r4) (λv s5 q=>?_) λ_ _ e=>e;obtain⟨rfl,t5,⟨h5,tk5,hs5⟩,kb5,ac5⟩:=q;have Yc:=uN.keeps k4 t4;have u5:Upd (λa=>a=al) s4 s5:=⟨h5,tk5,hs5,by rw[hs5]at kb5;exactλb o ne e=>kb5 b o e ne⟩
  obtain⟨it5,n5,il5,_⟩:=id ac5;obtain⟨sb,x7,fr5,kbb,kPb,tkb,⟨hb,tb,hsb⟩⟩:=Yc.tU fr I.fa Yh u5 t5 (by rw[show s5.heap.get? al=some _ from il5];rfl);have am5:dN (A.deeper env) La s5:=dN.acQ il4 kb5 Oa t5 acU;have y5:In env G2 (jS1 x L R n m t u l) s5.heap:=x7.ie;have I5:=I4.but il4 kb5;refine cz (Ho ?_ fn3 rfl);refine B3 VO trivial am5 y5 p5 (by decide) (by decide) QJ I5.vi I5.ho I5.hd (by rw[mJ];exact arb _ _ _ _ _ _ _ _ _ _ _) (λs6 vs6 k6 t6 r6=>?_);have ac6:=Acc.any (G:=G2) ac5 (.inr (Keeps.all k6));have arl:∀h',bE al s6.heap h'->La h':=λh' q=>acU h' (bE.trans kb5 (bE.trans (bE.of (Keeps.all k6)) q));have hlA:(df n (m - L) l).length=m - L:=fT ..;refine aj (ct u m R A4 h2 PV hxu (A.deeper env) _ s6 G2 vs6 _ (bq.deeper env) (am5.keeps k6 t6) (y5.keeps (Keeps.all k6)).lo (I5.Rt (Keeps.all k6)) ac6 (VW (by rw[hl];exact Vn) (bV QI) hlA hl) arl r6) (λv s7 q=>?_) λ_ _ e=>e;obtain⟨rfl,t7,⟨h7,tk7,hs7⟩,kb7,ac7⟩:=q;refine iq ?_;show xO s F al _ .none s7;rw[JD ds _ _ L m R (bV QI) (bV A4) (hl▸h2) hlA (fT ..)]at ac7;have e1:df n (R - L) x=df n (m - L) l++df n (R - m) u:=by
   rw[<-uH (bV A4) (bV QI),fR (R - m),Internal.GQ,<-ht,hu,hlo]
  rw[e1];refine⟨rfl,t7,?_,bE.trans (bE.of (Keeps.all k04)) (bE.trans kb5 (bE.trans (bE.of (Keeps.all k6)) kb7)),Acc.any ac7 (.inl rfl)⟩;obtain⟨ha,ta,rfl,_⟩:=k04;obtain⟨hc6,tc6,h6e,_⟩:=k6;exact⟨h7,tk7,by rw[hs7,h6e,hs5]⟩
theorem Nr{w:World}{La:Heap->Prop}{T:fe}(TO:dW pw w La (λ_=>True) T){f:Addr}{n:Nat}{o:Obj}{fd:ky}{cl:List (Str×Addr)}{cd ci cn al:Addr}{cnt:Nat}
(hn:n*cnt<=900)(oX:1<=n):∀k,Cf w La f n o fd cl cd ci cn al cnt k:=by
 intro zx
 induction zx with
 |zero=>
  exactλx L R h1 h2 h3 hx A E s F vs ds bq am lo I ac hl hla rs=>xP TO hn oX x L R h1 h2 hx A E s F vs ds 0 bq am lo I ac hl hla rs (.inl (by simp at h3;omega))
 |succ k ih=>
  exactλx L R h1 h2 h3 hx A E s F vs ds bq am lo I ac hl hla rs=>xP TO hn oX x L R h1 h2 hx A E s F vs ds (k+1) bq am lo I ac hl hla rs (.inr ⟨k,rfl,h3,ih⟩)
end Internal.I
namespace Internal.I
section
open Internal.Z (df fT)
def nC:N2:=(px.find? (λd=>d.name==("_int2digits":Str))).getD ⟨("":Str),default,[],default,default⟩
theorem ru:nC∈px:=by
 have:(px.find? (λd=>d.name==("_int2digits":Str))).isSome=true:=by rfl'
 obtain⟨d,hd⟩:=aA.mp this;have e:nC=d:=by unfold nC;rw[hd];rfl
 rw[e];exact gW hd
theorem Nt:nC.params.args.map (·.arg)=(["a","n"]:List Str):=by rfl'
theorem lb:nC.name=("_int2digits":Str):=by rfl'
def eK:bW:=nC.scope.names
def Hx:oQ:=yJ eI
def Eb:Scope:=o6 eI
def eC:ae:=br (aq 0 (aS (aq 2 eB)))
theorem Ru:nC.body=[aq 0 eB]++[.FunctionDef "inner" Hx jB [] none [] Eb none "inner" (cx eI),.If (eA (aq 2 eB)) [.Expr eC (cx (aq 0 (aS (aq 2 eB))))] [] (cx (aq 2 eB)),aq 3 eB]:=by rfl'
theorem aj3:eC=.Call (.Name "inner" (qZ eC).pos) [rM 0 eC,rM 1 eC,rM 2 eC] [] eC.pos:=by rfl'
def eQ:Str:=(("_int2digits":Str)++(".<locals>.":Str))++("inner":Str)
theorem Rv:(Eb.names.all λx=>x.2 != .free||eK.lookup x.1==some .cell)=true:=by rfl'
abbrev sB(a n:Int):cw:=[("a",.int a),("n",.int n),("inner",.Kr)]
abbrev sC(a n:Int)(zs:List D):cw:=[("a",.int a),("n",.int n),("inner",.Kr),("a_digits",.lst zs)]
section
variable{T:fe}
theorem e_l(a n):(V6 T).d eK [("a",.int a),("n",.int n)] (qZ (br (aq 0 eB)))=some (.lst [.int 0]):=by rfl'
theorem e_r(a n):(V6 T).d eK [("a",.int a),("n",.int n)] (Je (br (aq 0 eB)))=az .FloorDiv (.int (bR a+n - 1)) (.int n):=by rfl'
theorem aj4:aq 0 eB=.Assign [.Name "a_digits" (lJ (aq 0 eB))] (.BinOp (qZ (br (aq 0 eB))) .Mult (Je (br (aq 0 eB))) (br (aq 0 eB)).pos) (cx (aq 0 eB)):=by rfl'
theorem acV(a n):(V6 T).b eK (sB a n) (eA (aq 2 eB))=mh (.int a):=by rfl'
theorem acW(a n)(zs):uZ ((V6 T).d eK (sC a n zs)) [rM 0 eC,rM 1 eC,rM 2 eC]=(((bY .len [.lst zs]).bind λd=>some [d]).bind λds=>some (.int 0::ds)).bind λds=>some (.int a::ds):=by rfl'
end
theorem pE:Eb.names=jK/\Eb.kind=.function/\Eb.isGenerator=false/\Eb.isCoroutine=false:=⟨rfl,by rfl',by rfl',by rfl'⟩
theorem lg:Hx.posonlyargs=[]/\Hx.kwonlyargs=[]/\Hx.vararg=none/\Hx.kwarg=none/\Hx.args.map (·.arg)=(["x","L","R"]:List Str)/\Hx.defaults=[]/\Hx.kw_defaults=[]:=⟨by rfl',by rfl',by rfl',by rfl',by rfl',by rfl',by rfl'⟩
theorem aj5(env):annTrees Hx none env=[]:=by rfl'
theorem acX:∀x∈jK,x.2≠.cell:=by
 have h:(jK.all λx=>x.2 != .cell)=true:=by rfl'
 intro x hx;have:=bf.mp h x hx;simpa using this
theorem VX(env):ic env jK []=([("n",(env.cells.lookup ("n":Str)).getD 0),("inner",(env.cells.lookup ("inner":Str)).getD 0),("a_digits",(env.cells.lookup ("a_digits":Str)).getD 0)]:List (Str×Addr)):=by rfl'
theorem abU(e:([("n",l1),("inner",l2),("a_digits",l3)]:List (Str×Addr)).lookup n=some c):(n=("n":Str)/\c=l1)\/(n=("inner":Str)/\c=l2)\/(n=("a_digits":Str)/\c=l3):=by
 have:=mem_of_lookup e;simp only[aL,fH,or_false,qn]at this;exact this
end
end Internal.I
namespace Internal.I
section
section
variable{prog:bb}{w:World}{A:aE}{E:Value->ak->Prop}{G F:Addr->Prop}{env:Env}{aD s s':ak}{σ:cw}{own:List Str}{oa:Str->Addr}{La:Heap->Prop}{Bu:aE->Prop}{V:Ev}
theorem Nu(lo:jy G s.heap)(ra:bT s.heap G (.lst (a::as)) va)(rb:bT s.heap G (.int n) vb)(e:az .Mult (.lst (a::as)) (.int n)=some (.lst ds)):
 wpAny (model prog w) A (binaryOp .Mult va vb) (λv s'=>iJ G s (.lst ds) v s'/\lH s v) E s:=by
 have e:(if 0<=n/\n<=65536/\(a::as).length*n.toNat<=dC then some (D.lst (rep n.toNat (a::as)))else none)=some (.lst ds):=e;split at e<;>cases e;rename_i h;obtain⟨l,vs,n,rfl,hn,hl,hr⟩:=ra.lst;obtain⟨u,rfl⟩:=rb.int;have e1:=hr.length;refine ahU hl (by omega) (by omega) (by rw[bg,e1];exact ao h.2.2 (by decide)) ?_;rw[foldl_rep,if_neg (by cases vs<;>simp at e1⊢)];simp only[pY,List.toList_toArray];exact⟨aaM lo (hr.rep _),_,rfl,lu _⟩
theorem VY(VO:dz prog w La Bu V)(bu:Bu A)(am:dN A La aD)(fr:pk env F aD)(hk:env.kindOf n=some .local\/env.kindOf n=some .cell)
(si:SI env F aD σ [] s G oa)(h1:V.d env.scope.names σ l=some (.lst (a::as)))(h2:V.d env.scope.names σ r=some (.int i))(h3:az .Mult (.lst (a::as)) (.int i)=some (.lst ds)):
 wpAny (model prog w) A (exec (.Assign [.Name n p] (.BinOp l .Mult r q) pos) env) (FP env F aD (.nx (put n (.lst ds) σ) [n])) E s:=by
 have D6:=am.keeps si.kp si.tk;have x:In env G σ s.heap:=si.ie.sub λm d e=>by rw[fY];simpa using e
 refine tD (Bh (aj (bF si.tk (VO.d A _ env G σ s l _ bu D6 x h1)) (λva s1 q1=>?_) λ_ _ e=>e)) (by rw[qQ si.ie.fn];rfl);obtain⟨t1,k1,r1⟩:=q1;refine aj (bF t1 (VO.d A _ env G σ s1 r _ bu (D6.keeps k1 t1) (x.keeps (Keeps.all k1)) h2)) (λvb s2 q2=>?_) λ_ _ e=>e;obtain⟨t2,k2,r2⟩:=q2;refine aj (bF t2 (Nu ((x.keeps (Keeps.all k1)).keeps (Keeps.all k2)).lo (r1.keeps (Keeps.all k2)) r2 h3)) (λv s3 q3=>?_) λ_ _ e=>e;obtain⟨t3,⟨k3,r3⟩,f3⟩:=q3;have kk:=Keeps.trans' (Keeps.trans' k1 k2) k3;have f:=lH.before (Keeps.trans' k1 k2) f3;refine aj (sQ (W:=[n]) (fl:=true) fr hk (si.keeps kk t3) r3 λ_=>?_) (λ_ s4 q4=>?_) λ_ _ e=>e
 ·obtain⟨a,q1,_,_,q2⟩:=si.C5 kk t3 r3 rfl f
  exact⟨rfl,a,q1,q2⟩
 ·obtain⟨_,_,G',F3,q1,_⟩:=q4
  refine⟨rfl,G',F3,?_⟩;unfold lV at q1;rw[if_pos (by simp)]at q1;exact q1
theorem SI.aj6(si:SI env F aD (put n (.lst ds) σ) [n] s G oa):SI env F aD (bZ [n] σ) [] s G oa/\KL env s.heap n (.ref (oa n))/\G (oa n)/\aD.heap.get? (oa n)=none/\Acc G s.heap (oa n) ds/\oa n≠env.locals/\∀k,env.cells.lookup k≠some (oa n):=by
 obtain⟨h1,h2,h3,h4,xY,h5,h6⟩:=si.ow n (aU.mpr rfl);have hd:=si.od n (aU.mpr rfl);have e:look (put n (.lst ds) σ) n=some (.lst ds):=by
  rw[ip (σ':=[])];dsimp only[put,look];rw[if_pos rfl]
 rw[e]at h5;cases h5;refine⟨⟨si.hF,si.hN,si.kp,si.tk,?_,λm hm=>(nomatch hm),λm hm=>(nomatch hm),λm m' hm=>(nomatch hm)⟩,h2,h3,h4,h6,hd.1,hd.2⟩;have:=si.ie;rw[ve (aU.mpr rfl)]at this;exact this.sub λm d e=>by
  rw[fY]at e;simpa using e
theorem SI.again(si:SI env F aD σ [] s G oa)(hk:env.kindOf n=some .local\/env.kindOf n=some .cell)(hv:KL env s.heap n (.ref al))(hG:G al)(h0:aD.heap.get? al=none)(ac:Acc G s.heap al ds)(hl:al≠env.locals)(hc:∀k,env.cells.lookup k≠some al):
 SI env F aD (put n (.lst ds) σ) [n] s G (λ_=>al):=by
 have hs:∀{m:Str},m∈[n]->m=n:=λh=>aU.mp h;refine⟨si.hF,si.hN,si.kp,si.tk,?_,λm hm=>?_,λm hm=>⟨hl,hc⟩,λm m' h1 h2 _=>(hs h1).trans (hs h2).symm⟩
 ·rw[ve (aU.mpr rfl)]
  exact si.ie.sub λm d e=>by
   rw[fY]at e⊢;split at e
   ·cases e
   ·simpa using e
 ·cases hs hm
  refine⟨hk,hv,hG,h0,ds,?_,ac⟩;rw[ip (σ':=[])];dsimp only[put,look];rw[if_pos rfl]
end
end
end Internal.I
namespace Internal.I
open Internal.Z (df fT gm ql jL yw kZ Ds z3)
theorem kX.acQ(x:kX h c P pos q)(t:IsL h al it j)(k:bE al h h'):kX h' c P pos q:=by
 have t:h.get? al=some _:=t;have zJ:∀{b:Addr}{o:Obj}{vs:Array Value},h.get? b=some o->o.data=.fields vs->h'.get? b=some o:=λ{b o vs} e d=>k b o e λz=>by
  rw[z,t]at e;cases e;cases d
 obtain⟨ps,c',h1,h2,h3,h4⟩:=x.tab;refine⟨rN x.hd λ_ _ e d=>zJ e d,ps,c',zJ h1 rfl,h2,h3,?_⟩;obtain⟨c0,o,vs,t,e,g,d,r⟩:=h4;exact⟨c0,o,vs,t,e,zJ g d,d,r⟩
theorem _root_.Internal.kX.Dt(x:kX h c P pos q)(k:bU h h'):kX h' c P pos q:=by
 obtain⟨ps,c2,h1,h2,h3,h4⟩:=x.tab;exact⟨x.hd.keeps k,ps,c2,k _ _ h1,h2,h3,h4.keeps k⟩
theorem aj7:aq 3 eB=.Return (some (br (aq 3 eB))) (cx (aq 3 eB)):=by rfl'
theorem aj8(a n)(zs):(V6 T).d eK (sC a n zs) (br (aq 3 eB))=some (.lst zs):=by rfl'
theorem Rw(cnt):(bz cnt 0).map di=bz cnt (.int 0):=by rw[Az];rfl
theorem Rx(m):rep m [D.int 0]=bz m (D.int 0):=by
 induction m with
 |zero=>rfl
 |succ m ih=>rw[rep,ih,yB];rfl
theorem acY(hx:x<2^600)(oX:1<=n)(hn:n<=300):n*ql n x<=900:=by
 have hb:=kZ hx;obtain⟨_,h2⟩:=z3 (n:=n) (x:=x) oX;omega
theorem VZ{x n:Nat}(hx:x<2^600)(oX:1<=n)(hn:n<=300):az .FloorDiv (.int (bR (x:Int)+n - 1)) (.int n)=some (.int (ql n x:Nat)):=by
 rw[yw];show(if(n:Int)≠0/\sm n=true then some (D.int (((jL x:Int)+n - 1).fdiv n))else none)=_;rw[if_pos ⟨(λz=>by rw[Int.ofNat_inj.mp z]at oX;cases oX),smI (ao hn (by decide))⟩,bp _ (cg n)];unfold ql;congr 2;rw[Int.natCast_ediv];congr 1;omega
theorem V1{cnt:Nat}(h:cnt<=900):az .Mult (.lst [.int 0]) (.int (cnt:Int))=some (.lst ((bz cnt 0).map di)):=by
 show(if 0<=(cnt:Int)/\(cnt:Int)<=65536/\[D.int 0].length*(cnt:Int).toNat<=dC then some (D.lst (rep (cnt:Int).toNat [.int 0]))else none)=_;rw[aY,if_pos ⟨cg _,gD.mpr (ao h (by decide)),ao (cE 1 h) (by decide)⟩,Rx,Rw]
theorem Ry(oX:1<=n):ql n 0=0:=asS (show 0+n - 1<n by omega)
theorem V2(oX:1<=n)(h0:x≠0):0<ql n x:=by
 unfold ql jL;rw[if_neg h0];exact aep (by omega) oX
theorem acZ(hl:vs.length=(["x","L","R"]:List Str).length):
 bindArgs (fnX "inner" eQ Hx jB Eb cl .none .none x8 Ob none (.ref c') yu) ⟨vs,[]⟩=pure ((["x","L","R"]:List Str).zip vs):=by
 have h:=pv (fd:=fnX "inner" eQ Hx jB Eb cl .none .none x8 Ob none (.ref c') yu) (vs:=vs) lg.1 lg.2.1 lg.2.2.1 lg.2.2.2.1 rfl;rw[show(fnX "inner" eQ Hx jB Eb cl .none .none x8 Ob none (.ref c') yu).params=Hx from rfl,lg.2.2.2.2.1]at h;exact h (by decide) hl
theorem GS{w:World}{A:aE}{E:Value->ak->Prop}{F:Addr->Prop}{s:ak}{a c P:Addr}{o:Obj}{pm doc:Value}{x n:Nat}{vs:List Value}(ho:s.heap.get? a=some o)(hd:o.data=.func (fO nC.name nC.params nC.body nC.scope pm (.ref c) doc))
(rc:s.heap.CodeRec (.ref c) nC.name)(pl:Place s.heap c P (cx eI) eQ)(hF:F P)(bq:Bq 45 A)(am:dN A (sr w) s)(lo:jy F s.heap)(rs:aZ s.heap F [.int x,.int n] vs)
(hx:x<2^600)(oX:1<=n)(hn:n<=300):
 wpAny (model pw w) A (call (.ref a) vs) (DP P c (cx eI) eQ F s (.lst ((gm n x).map di))) E s:=by
 have fi:=zK (d:=nC) (pm:=pm) (code:=.ref c) (doc:=doc) ru;rw[Nt,Ru]at fi;obtain⟨cnt,Du⟩:∃cnt,cnt=ql n x:=⟨_,rfl⟩;have Rz:=acY hx oX hn;have hdiv:=VZ hx oX hn;obtain⟨Qk,_⟩:=z3 (n:=n) (x:=x) oX;rw[<-Du]at Rz hdiv Qk;have RA:=abO Rz oX;refine tT (fv:=(["a","n"]:List Str)) fi bq.dep ho hd rc rfl am bq.un lo rs (λenv aQ G oa mJ mW kH fr si E'=>?_);refine gp λQ hQ=>?_;have si:SI env F s [("a",.int x),("n",.int n)] [] aQ G oa:=si;have hk:∀m,env.kindOf m=eK.lookup m:=λm=>by unfold lQ;rw[mJ];rfl
 have Ba:env.scope.names=eK:=mJ;have QQ:env.code=.ref c:=by rw[mW];rfl
 have qJ:∀m,eK.lookup m=some .cell->∃c v,env.cells.lookup m=some c/\aQ.heap.IsCell c v:=λm e=>si.ie.ce m (by rw[hk];exact e);have Yh:∀m,env.cells.lookup m≠some P:=λm e=>by
  have hm:(m,P)∈cellsFrom (s.heap.objs.size+1) nC.scope.names []:=by
   have:=mem_of_lookup e;rw[mW]at this;exact this
  have A4:=ik _ _ _ _ _ hm;simp only[fH,false_or]at A4;have:=fr.hc m P (.inr (by rw[hk];exact mem_lookup fi.kd A4)) e;obtain⟨ps,h1,_⟩:=pl.tab;rw[h1]at this;cases this
 have p5:∀m,(m,bG)∈Eb.names->eK.lookup m=some .cell:=λm hm=>by
  have:=bf.mp Rv _ hm;simpa using this
 have VO:dz pw w (sr w) (λ_=>True) (V6 T00):=kU (vr w) 7;have XO:SX pw w (sr w) (λ_=>True) eK (AZ (V6 T00) eK ["a_digits"] 10 3):=vg (W:=["a_digits"]) (kU (vr w) 6) (vr w) eK 10 3;have hkA:env.kindOf "a_digits"=some .cell:=by rw[hk];decide
 show wpAny (model pw w) (A.deeper env) (execs (aq 0 eB::[.FunctionDef "inner" Hx jB [] none [] Eb none "inner" (cx eI),.If (eA (aq 2 eB)) [.Expr eC (cx (aq 0 (aS (aq 2 eB))))] [] (cx (aq 2 eB)),aq 3 eB]) env) _ _ _;rw[aj4];refine cz (aj (VY VO trivial kH fr (.inr hkA) si (by rw[mJ];exact e_l _ _) (by rw[mJ];exact(e_r _ _).trans hdiv) (V1 RA)) (λg s2 q=>?_) λ_ _ e=>e);obtain⟨rfl,G2,oa2,AU⟩:=q;obtain⟨uN,hv,V3,V4,aka,hnl,hnc⟩:=SI.aj6 AU;generalize oa2 "a_digits"=al at hv V3 V4 aka hnl hnc;have uN:SI env F s [("a",.int x),("n",.int n)] [] s2 G2 oa2:=by
  have e:bZ ["a_digits"] [("a",.int x),("n",.int n)]=([("a",.int x),("n",.int n)]:cw):=by rfl'
  rw[e]at uN;exact uN
 have haP:al≠P:=λz=>by
  obtain⟨ps,h1,_⟩:=pl.tab;rw[z,h1]at V4;cases V4
 show wpAny (model pw w) (A.deeper env) (execs _ env) _ _ _;refine Gx (qual:=eQ) kH fr uN hF pl QQ (by rw[mW];rfl') lg.2.2.2.2.2.1 lg.2.2.2.2.2.2 (aj5 env) (by rw[hk];decide) (λm hm=>?_) Yh (λsb s3 ci fa c' yu x8 Ob Oc Mfr Mam Mkb Mka Mfm Mwm Mlc Mvc Mfo Mrc Mkq=>?_)
 ·obtain⟨c0,_,e,_⟩:=qJ m (p5 m hm)
  rw[e];rfl
 have x3:In env G2 (sB x n) s3.heap:=Oc.ie;have akb:sb.heap.get? al=none:=by
  rcases Oc.hN al V3 with q|q
  ·have:=lo al q
   rw[V4]at this;cases this
  ·exact q
 have ac3:Acc G2 s3.heap al ((bz cnt 0).map di):=by
  obtain⟨it,j,q1,q2⟩:=aka;exact⟨it,j,Mkq al _ q1 haP hnl (hnc _),jI (allFlat _) q2⟩
 have hv3:KL env s3.heap "a_digits" (.ref al):=by
  refine⟨λq=>(by rw[hkA]at q;cases q),λ_=>?_⟩;obtain⟨cc,e1,ob,e2,e3⟩:=hv.2 hkA;refine⟨cc,e1,ob,Mkq cc _ e2 (λz=>Yh _ (z▸e1)) (uN.ie.fc _ _ e1).2 (λz=>?_),e3⟩;have:=uN.ie.inj _ _ _ e1 z;exact absurd this (by decide)
 have Yc:SI env F sb (sC x n ((bz cnt 0).map di)) ["a_digits"] s3 G2 (λ_=>al):=SI.again Oc (.inr hkA) hv3 V3 akb ac3 hnl hnc;have S0:dN (A.deeper env) (sr w) s3:=Mam.keeps Oc.kp Oc.tk;have fin:∀(zs:List D)(s4:ak)(oa4:Str->Addr),SI env F sb (sC x n zs) ["a_digits"] s4 G2 oa4->bE al s3.heap s4.heap->zs=(gm n x).map di->wpAny (model pw w) (A.deeper env) (execs [aq 3 eB] env)
  Q E' s4:=λzs s4 oa4 x7 kb hz=>by
  subst hz;obtain⟨it,j,il,_⟩:=ac3;have wm4:kX s4.heap c P (cx eI) eQ:=kX.acQ Mwm il kb;have Oa:dN (A.deeper env) (sr w) s4:=Mam.keeps x7.kp x7.tk;rw[aj7];refine cz (nE (aj (bF x7.tk (VO.d (A.deeper env) E' env _ _ s4 _ _ trivial Oa x7.weak (by rw[mJ];exact aj8 _ _ _))) (λv s5 q=>?_) λ_ _ e=>e));obtain⟨t5,k5,r5⟩:=q;obtain⟨h0,t0,eb⟩:=Mfm;obtain⟨h1,t1,e1,kk1⟩:=Keeps.trans' x7.kp k5;refine hQ _ _ ⟨⟨h1,t1,by rw[e1,eb]⟩,λb o e ne=>?_,λhw b o e=>?_,wm4.Dt (Keeps.all k5),r5.less λb q=>.inl ⟨x7.hF b q,λm hm z=>?_⟩⟩
  ·rw[e1];exact kk1 _ _ (Mkb b o e ne)
  ·rw[e1];exact kk1 _ _ (Mka hw b o e)
  ·have h9:=Mfr.lo b q
   rw[z,(x7.owN hm)]at h9;cases h9
 have hT:(V6 T00).b eK (sB x n) (eA (aq 2 eB))=some (decide (x≠0)):=(acV _ _).trans (by
  show some ((x:Int) != 0)=some (decide (x≠0));congr 1;by_cases h:x=0<;>simp[h])
 refine cz (wpAny_If (aj (bF Oc.tk (VO.b (A.deeper env) E' env G2 _ s3 _ (decide (x≠0)) trivial S0 x3 (by rw[mJ];exact hT))) (λb s4 q=>?_) λ_ _ e=>e));obtain⟨t4,rfl,k4⟩:=q;have x7:=Yc.keeps k4 t4;by_cases h0:x=0
 ·rw[if_neg (by simpa using h0)]
  refine iq ?_;refine fin _ s4 _ x7 (bE.of (Keeps.all k4)) ?_;have hz:cnt=0:=by rw[Du,h0];exact Ry oX
  have hz2:gm n x=[]:=by unfold gm;rw[<-Du,hz];rfl
  rw[hz,hz2];rfl
 ·rw[if_pos (by simpa using h0),aj3]
  have M3:0<cnt:=Du▸V2 oX h0;have abV:Cl env "inner":=.inl (by rw[hk];decide);have hl:bY .len [.lst ((bz cnt 0).map di)]=some (.int cnt):=by
   show ec (if((bz cnt 0).map di).length<=dC then some (D.int ((bz cnt 0).map di).length)else none) none=_;rw[ag,nu,if_pos (ao RA (by decide))];rfl
  have Oa:=S0.keeps k4 t4;refine cz (Ho ?_ (jZ x3.fn) rfl);refine B3 VO trivial Oa x7.weak abV (by decide) (by decide) Mlc (Mvc.keeps (Keeps.all k4)) (Keeps.all k4 _ _ Mfo) rfl (by rw[mJ];exact(acW _ _ _).trans (by rw[hl];rfl)) (λs5 vs5 k5 t5 r5=>?_);have k35:=Keeps.trans' k4 k5;have QR:=Keeps.all k35;have am5:=Oa.keeps k5 t5;have IS:=x7.keeps k5 t5;have x5:=x3.keeps QR;have ac5:Acc G2 s5.heap al ((bz cnt 0).map di):=Acc.any ac3 (.inr QR);have zt:∀m:Str,eK.lookup m=some .cell->env.cells.lookup m=some ((env.cells.lookup m).getD 0):=λm e=>by
   obtain⟨c0,_,e0,_⟩:=qJ m e;rw[e0];rfl
  have hl1:=zt "n" (by decide);have hl2:=zt "inner" (by decide);have hl3:=zt "a_digits" (by decide);have QJ:(env.cells.lookup ("inner":Str)).getD 0=ci:=by rw[Mlc];rfl
  have Dk:ic env Eb.names []=([("n",(env.cells.lookup ("n":Str)).getD 0),("inner",(env.cells.lookup ("inner":Str)).getD 0),("a_digits",(env.cells.lookup ("a_digits":Str)).getD 0)]:List (Str×Addr)):=VX env;have sx:∀m c0,(ic env Eb.names []).lookup m=some c0->env.cells.lookup m=some c0/\jK.lookup m=some .free:=λm c0 e=>by
   rw[Dk]at e;rcases abU e with⟨rfl,rfl⟩|⟨rfl,rfl⟩|⟨rfl,rfl⟩
   ·exact⟨hl1,by decide⟩
   ·exact⟨hl2,by decide⟩
   ·exact⟨hl3,by decide⟩
  obtain⟨ml,hml,Vp⟩:=x5.va;have I:j7 s5.heap G2 fa n (fnMade "inner" eQ Hx jB Eb (ic env Eb.names []) x8 Ob c' yu) (fnX "inner" eQ Hx jB Eb (ic env Eb.names []) .none .none x8 Ob none (.ref c') yu) (ic env Eb.names [])
   ((env.cells.lookup ("a_digits":Str)).getD 0) ci ((env.cells.lookup ("n":Str)).getD 0) al:=by
   refine⟨QR _ _ Mfo,rfl,⟨rfl,rfl,pE.2.1,pE.2.2.1,pE.2.2.2,rfl,rfl,rfl,λvs hl=>acZ hl,by decide,λp hp=>?_,acX,λm c0 e=>(sx m c0 e).2,λm m' c0 e e'=>x5.inj m m' c0 (sx m c0 e).1 (sx m' c0 e').1⟩,Mrc.keeps QR,by rw[Dk];rfl,by rw[Dk,QJ];rfl,by rw[Dk];rfl,λm c0 e=>(x5.fc m c0 (sx m c0 e).1).1,V3,λm c0 e z=>hnc m (z▸(sx m c0 e).1),?_,Mvc.keeps QR,?_⟩
   ·simp only[aL,fH,or_false]at hp
    rcases hp with rfl|rfl|rfl<;>decide
   ·obtain⟨cc,e1,e2⟩:=hv3.2 hkA
    rw[hl3]at e1;cases e1;exact e2.keeps QR
   ·obtain⟨c0,v0,e1,e2,e3⟩:=(Vp "n" (.int n) (by rfl')).2 (.inl (by rw[hk];decide))
    rw[hl1]at e1;cases e1;exact⟨v0,e2,e3⟩
  have aro:∀h',bE al s5.heap h'->sr w h':=λh' q=>Mam.la h' λb o e=>q b o (Keeps.all IS.kp b o e) λz=>by rw[z,akb]at e;cases e
  have h10:cnt<=2^10:=ao RA (by decide);obtain⟨it5,j5,il5,_⟩:=id ac5;refine aj (Nr (vr w) Rz oX 10 x 0 cnt M3 (bD _) (by rw[hW];exact h10) (by rw[hW];exact bJ (Ds x) (aW (by decide) Qk)) (A.deeper env) _ s5 G2 vs5 (bz cnt 0) ((bq.deeper env).le (by decide)) am5 x5.lo I ac5 nu aro (jI (by rfl) r5)) (λv s6 q=>?_) λ_ _ e=>e;obtain⟨rfl,t6,⟨h6,tk6,hs6⟩,kb6,ac6⟩:=q;have e6:(bz cnt 0).take 0++df n (cnt - 0) x++(bz cnt 0).drop cnt=gm n x:=by
   unfold gm;rw[<-Du,avn,oo,hW,Ti (by rw[nu];exact bD _),dD]
  rw[e6]at ac6;have u6:Upd (λa=>a=al) s5 s6:=⟨h6,tk6,hs6,by rw[hs6]at kb6;exactλb o ne e=>kb6 b o e ne⟩
  have D7:=IS.write (aU.mpr rfl) u6 t6 ac6;refine iq ?_;exact fin _ s6 _ (by
   have e:put "a_digits" (.lst ((gm n x).map di)) (sC x n ((bz cnt 0).map di))=sC x n ((gm n x).map di):=by rfl'
   rw[e]at D7;exact D7) (bE.trans (bE.of QR) kb6) rfl
end Internal.I
namespace Internal.Z
section
structure PS(T:fe):Prop where
 i2d:∀a n:Nat,1<=n->n<=300->a<2^600->T.fn "_int2digits" [di a,di n]=some (dl (gm n a))
 d2i:∀(l:List Nat)(n:Nat),1<=n->n*l.length<=900->(∀d∈l,d<2^n)->T.fn "_digits2int" [dl l,di n]=some (di (rq n l))
def D1(T:fe):Prop:=∀x b n:Nat,x<2^2000->0<b->b<2^900->T.fn "_div2n1n" [di x,di b,di n]=some (.tup [di (x/b),di (x%b)])
def D2(T:fe):Prop:=∀a b:Nat,a<2^550->0<b->b<2^100->T.fn "_divmod_pos" [di a,di b]=some (.tup [di (a/b),di (a%b)])
theorem smN{x:Nat}(h:x<2^990):sm (x:Int)=true:=pC (bV h) (by decide)
theorem Yt{prim:Str->Option (List D->Option D)}(hp:prim "_div2n1n"=none)(r:Nat):D1 (Tn prim (r+1)):=λx b n hx hb Hy=>by
 have h:=ajW (T:=Tn prim r) (uc prim r) x b n (by
  rw[yw];have:=kZ hx;omega) (by omega) (smN (bJ Hy (aW (by decide) (by decide))))
 rw[bp _ (by omega),bM _ (by omega)]at h;exact eZ (["a","b","n"]:List Str) hp h
section
variable{T:fe}
theorem V5{a n:Nat}(ha:a<2^990)(hn:n<=100000):az .LShift (.int a) (.int n)=some (di (a*2^n)):=by
 rw[Jh (smN ha) (by omega) (by omega),aY];show some (D.int _)=some (D.int _);congr 2
theorem ac0(h1:D1 T)(a ad:D)(b n:Nat)(m:Nat)(hb:0<b)(Hy:b<2^100)(hn:n<=100):∀(ds:List Nat)(o:Option (D×D))(s:Nat×List Nat),(∀d∈ds,d<2^n)->s.1<b->s.2.length+ds.length<=1000->
 ∃o',u7 (Xa T vK ["q_digits"] (m+1)) vK (fw vF) vFB (ds.map di) (vS o a (di b) (di n) ad (di s.1) (s.2.map di)) ["q_digits"]=some (.nx (vS o' a (di b) (di n) ad (di (ds.foldl (uh n b) s).1) ((ds.foldl (uh n b) s).2.map di)) ["q_digits"]):=λds=>by
 induction ds with
 |nil=>intro o s _ _ _;exact⟨o,rfl⟩
 |cons d ds ih=>
  intro o s hd hs hl;have eY:=dO;rw[aG]at hl;have hdn:=hd d (ax ..);have acS:(2:Nat)^n<=2^100:=aW (by decide) hn;have hx:s.1*2^n+d<2^2000:=by
   have e1:(s.1+1)*2^n<=2^100*2^100:=qo (by omega) acS;rw[yh,yi]at e1;have e2:(2:Nat)^100*2^100<=2^2000:=by rw[<-i7];exact aW (by decide) (by decide)
   omega
  obtain⟨o',ho⟩:=ih (some (di d,di ((s.1*2^n+d)/b))) (uh n b s d) (λx hx=>hd x (av _ hx)) (dA _ hb) (by
   show(s.2++[_]).length+_<=_;rw[aC];simp;omega)
  refine⟨o',?_⟩;rw[aH];refine ua ?_ ho (by rw[show di d=.int d from rfl];exact aA.mpr ⟨_,acP o a ad (di b) (di n) (di s.1) (.int d) (s.2.map di)⟩);have h2:=h1 (s.1*2^n+d) b n hx hb (bJ Hy (aW (by decide) (by decide)));have h3:=VT (T:=T) o a ad b n s.1 d ((s.1*2^n+d)/b:Nat) ((s.1*2^n+d)%b:Nat) (s.2.map di) m (by
   rw[V5 (dn hs (dn Hy (jN (by decide) (by decide)))) (by omega),af];have:az .Add (di (s.1*2^n)) (.int d)=some (di (s.1*2^n+d)):=by
    show some (D.int _)=some (D.int _);rw[lD]
   rw[this,af,af];exact h2) (by rw[ag];omega)
  refine h3.trans ?_;show some (Fl.nx (vS _ a _ _ ad _ (s.2.map di++[di ((s.1*2^n+d)/b)])) _)=some (Fl.nx (vS _ a _ _ ad _ ((s.2++[(s.1*2^n+d)/b]).map di)) _);rw[aX];rfl
theorem v_all(hP:PS T)(h1:D1 T)(a b:Nat)(ha:a<2^550)(hb:0<b)(Hy:b<2^100):Xa T vK ["q_digits"] 20 vB [("a",di a),("b",di b)] []=some (.rt (.tup [di (a/b),di (a%b)])):=by
 have eY:=dO;obtain⟨n,hn⟩:∃n,n=jL b:=⟨_,rfl⟩;have oX:1<=n:=by rw[hn];unfold jL;rw[if_neg (by omega)];omega
 have hn2:n<=100:=by rw[hn];exact kZ Hy
 have hc:=z3 (n:=n) (x:=a) oX;have hba:=kZ ha;have hdl:(gm n a).length=ql n a:=fT _ _ _;have rH:ql n a<=n*ql n a:=uF _ oX;obtain⟨s,hs⟩:∃s,s=(gm n a).reverse.foldl (uh n b) (0,[]):=⟨_,rfl⟩;obtain⟨k1,k2,k3,k4⟩:=Rp n b hb (gm n a).reverse (λd hd=>td n _ _ d (sG.mp hd));rw[<-hs,GP,Nl oX]at k1 k2;rw[<-hs]at k3 k4;rw[d7]at k4;obtain⟨o',ho⟩:=ac0 (T:=T) h1 (di a) (dl (gm n a)) b n 18 hb Hy hn2 (gm n a).reverse none (0,[]) (λd hd=>td n _ _ d (sG.mp hd)) hb (by rw[d7];simp;omega);rw[<-hs]at ho;refine fX (bs:=[aq 0 vB,aq 1 vB,aq 2 vB,aq 3 vB,aq 4 vB,aq 5 vB,aq 6 vB,aq 7 vB]) ?_;refine d8 (bC (di n) (tr (b:=jH .kM (di b) []) (by show some (D.int (bR (b:Int)))=_;rw[yw,<-hn];rfl))) ?_;refine d8 (bC (dl (gm n a)) (tr (b:=T.fn "_int2digits" [di a,di n]) (hP.i2d a n oX (by omega) (bJ ha (aW (by decide) (by decide)))))) ?_;refine d8 (bC (.int 0) (by rfl')) ?_;refine d8 (bC (.lst []) (by rfl')) ?_;refine d8 (vy (ds:=(gm n a).reverse.map di) (tr (b:=some ((gm n a).map di).reverse) (by rw[Eg])) (tr ho)) ?_;refine d8 (acO (ds:=s.2.map di) (by rw[ag];omega) (by rcases o' with _|⟨x,y⟩<;>rfl') (by rfl') (by rfl')) ?_;have hq:T.fn "_digits2int" [.lst (s.2.map di).reverse,di n]=some (di (a/b)):=by
  rw[<-Eg];have:=hP.d2i s.2.reverse n oX (by rw[d7,k4,hdl];omega) (λd hd=>k3 d (sG.mp hd));rw[<-GP,xW,k2]at this;exact this
 refine d8 (Vq (di (a/b),false) (abY (tr hq (by rcases o' with _|⟨x,y⟩<;>rfl')) rfl (by rcases o' with _|⟨x,y⟩<;>rfl'))) ?_;rw[<-k1];exact c9 (dJ _ (by rcases o' with _|⟨x,y⟩<;>rfl'))
end
end
section
theorem akc(hp:prim "_divmod_pos"=none)(r)(hP:PS (Tn prim r))(h1:D1 (Tn prim r)):D2 (Tn prim (r+1)):=λa b ha hb Hy=>
 eZ (["a","b"]:List Str) hp (v_all hP h1 a b ha hb Hy)
def Yu(a b:Int):D:=.tup [.int (a.fdiv b),.int (a.fmod b)]
def D3(T:fe):Prop:=∀a b:Int,0<=a->a<2^550->0<b->b<2^100->T.fn "int_divmod" [.int a,.int b]=some (Yu a b)
def D4(T:fe):Prop:=∀a b:Int,-(2^540)<a->a<2^540->0<b->b<2^100->T.fn "int_divmod" [.int a,.int b]=some (Yu a b)
def D5(T:fe):Prop:=∀a b:Int,-(2^530)<a->a<2^530->b≠0->-(2^100)<b->b<2^100->T.fn "int_divmod" [.int a,.int b]=some (Yu a b)
section
variable{T:fe}
def iK2:bW:=vz "int_divmod"
def iB2:List Stmt:=bo "int_divmod"
abbrev iI1:Stmt:=aq 0 iB2
abbrev Yv:Stmt:=aq 0 (gT iI1)
abbrev iI3:Stmt:=aq 0 (gT Yv)
abbrev iS(a b:Int):cw:=[("a",.int a),("b",.int b)]
theorem Dv(a):cR a= -a - 1:=by
 unfold cR;lia
theorem ac8(a b)(q)(e1:(b==0)=false)(e2:decide (b<0)=false)(e3:decide (a<0)=false)(h:T.fn "_divmod_pos" [.int a,.int b]=some q):Xa T iK2 [] 20 iB2 (iS a b) []=some (.rt q):=by
 have e1:(some (b==0):Option Bool)=some false:=by rw[e1]
 have e2:(some (decide (b<0)):Option Bool)=some false:=by rw[e2]
 have e3:(some (decide (a<0)):Option Bool)=some false:=by rw[e3]
 refine fX (bs:=[iI1]) (c9 ?_);rw[tZ false (tr e1),if_neg aJ];refine fX (bs:=[Yv]) (c9 ?_);rw[tZ false (tr e2),if_neg aJ];refine fX (bs:=[iI3]) (c9 ?_);rw[tZ false (tr e3),if_neg aJ];exact fX (bs:=[aq 0 (gT iI3)]) (c9 (dJ _ (tr h)))
theorem V7(a b q r)(e1:(b==0)=false)(e2:decide (b<0)=false)(e3:decide (a<0)=true)(h:T.fn "int_divmod" [.int (cR a),.int b]=some (.tup [.int q,.int r])):Xa T iK2 [] 20 iB2 (iS a b) []=some (.rt (.tup [.int (cR q),.int (b+cR r)])):=by
 have e1:(some (b==0):Option Bool)=some false:=by rw[e1]
 have e2:(some (decide (b<0)):Option Bool)=some false:=by rw[e2]
 have e3:(some (decide (a<0)):Option Bool)=some true:=by rw[e3]
 refine fX (bs:=[iI1]) (c9 ?_);rw[tZ false (tr e1),if_neg aJ];refine fX (bs:=[Yv]) (c9 ?_);rw[tZ false (tr e2),if_neg aJ];refine fX (bs:=[iI3]) ?_;refine gU (b:=[aq 0 (aS iI3),aq 1 (aS iI3)]) (tr e3) ?_;refine fX (bs:=[aq 0 (aS iI3),aq 1 (aS iI3)]) ?_;refine d8 (l7 (.tup [.int q,.int r],false) (lZ (d:=.tup [.int q,.int r]) (tr h))) ?_;exact c9 (dJ _ (by rfl'))
theorem V8(a b q r)(e1:(b==0)=false)(e2:decide (b<0)=true)(h:T.fn "int_divmod" [.int (-a),.int (-b)]=some (.tup [.int q,.int r])):Xa T iK2 [] 20 iB2 (iS a b) []=some (.rt (.tup [.int q,.int (-r)])):=by
 have e1:(some (b==0):Option Bool)=some false:=by rw[e1]
 have e2:(some (decide (b<0)):Option Bool)=some true:=by rw[e2]
 refine fX (bs:=[iI1]) (c9 ?_);rw[tZ false (tr e1),if_neg aJ];refine fX (bs:=[Yv]) ?_;refine gU (b:=[aq 0 (aS Yv),aq 1 (aS Yv)]) (tr e2) ?_;refine fX (bs:=[aq 0 (aS Yv),aq 1 (aS Yv)]) ?_;refine d8 (l7 (.tup [.int q,.int r],false) (lZ (d:=.tup [.int q,.int r]) (tr h))) ?_;exact c9 (dJ _ (by rfl'))
end
theorem akd(hp:prim "int_divmod"=none)(r:Nat)(h:D2 (Tn prim r)):D3 (Tn prim (r+1)):=λa b ha ha2 hb Hy=>by
 obtain⟨x,rfl⟩:=iO ha;obtain⟨y,rfl⟩:=iO (DT hb);have hq:=h x y (by exact_mod_cast ha2) (by lia) (by exact_mod_cast Hy);have hr:Yu (x:Int) (y:Int)=.tup [di (x/y),di (x%y)]:=by
  unfold Yu;rw[bp _ (by lia),bM _ (by lia)];rfl
 rw[hr];exact eZ (["a","b"]:List Str) hp (ac8 x y _ (beq_eq_false_iff_ne.mpr (by lia)) (decide_eq_false (by lia)) (decide_eq_false (by lia)) hq)
theorem akf(hp:prim "int_divmod"=none)(r:Nat)(h2:D3 (Tn prim (r+1)))(h:D3 (Tn prim r)):D4 (Tn prim (r+1)):=λa b ha ha2 hb Hy=>by
 have aru:(2:Int)^540<2^550:=by decide
 by_cases h0:0<=a
 ·exact h2 a b h0 (by lia) hb Hy
 ·have hn:cR a= -a - 1:=Dv a
  have hq:=h (-a - 1) b (by lia) (by lia) hb Hy;rw[<-hn]at hq;have:=eZ (prim:=prim) (r:=r) (ds:=[.int a,.int b]) (["a","b"]:List Str) hp (V7 a b _ _ (beq_eq_false_iff_ne.mpr (by lia)) (decide_eq_false (by lia)) (decide_eq_true (by lia)) hq);refine this.trans ?_;unfold Yu;rw[hn,Dv,Dv,bp _ (by lia),bM _ (by lia),bp _ (by lia),bM _ (by lia)];have e1:=Int.mul_ediv_add_emod (-a - 1) b;have e2:=Int.emod_nonneg (-a - 1) (Int.ne_of_gt hb);have e3:=Int.emod_lt_of_pos (-a - 1) hb;have e4:a=b*(-((-a - 1)/b) - 1)+(b+(-((-a - 1)%b) - 1)):=by
   rw[Int.mul_sub,HM];lia
  have e5:a/b= -((-a - 1)/b) - 1:=by
   have:=jP hb (a:=a) (r:=b+(-((-a - 1)%b) - 1)) (q:= -((-a - 1)/b) - 1);exact(this.mpr ⟨by lia,by lia,by lia⟩).1
  have e6:a%b=b+(-((-a - 1)%b) - 1):=by
   have:=jP hb (a:=a) (r:=b+(-((-a - 1)%b) - 1)) (q:= -((-a - 1)/b) - 1);exact(this.mpr ⟨by lia,by lia,by lia⟩).2
  rw[e5,e6]
theorem akg(hp:prim "int_divmod"=none)(r:Nat)(h2:D4 (Tn prim (r+1)))(h:D4 (Tn prim r)):D5 (Tn prim (r+1)):=λa b ha ha2 hb hb1 Hy=>by
 have aru:(2:Int)^530<2^540:=by decide
 by_cases h0:0<b
 ·exact h2 a b (by lia) (by lia) h0 Hy
 ·have hq:=h (-a) (-b) (by lia) (by lia) (by lia) (by lia)
  have:=eZ (prim:=prim) (r:=r) (ds:=[.int a,.int b]) (["a","b"]:List Str) hp (V8 a b _ _ (beq_eq_false_iff_ne.mpr (by lia)) (decide_eq_true (by lia)) hq);refine this.trans ?_;unfold Yu;rw[Hq,Hr,aeq]
end
section
structure PL(T:fe):Prop where
 tup:∀l:List Int,l.length<=1000->T.fn "_law_plain" [.tup (l.map .int),.tup (l.map .int)]=some (.bool true)
 lst:∀l:List Int,l.length<=1000->T.fn "_law_plain" [.lst (l.map .int),.lst (l.map .int)]=some (.bool true)
def fK:bW:=vz "_law_plain"
def fB:List Stmt:=bo "_law_plain"
def fC:ae:=qZ (Je (br (aq 0 fB)))
section
variable{T:fe}
theorem z4(n):∀l:List Int,tJ (rG n) (l.map .int) (l.map .int)=some true:=by
 intro zx
 induction zx with
 |nil=>
  exact rfl
 |cons x l ih=>
  rw[aH];have h1:rG n (.int x) (.int x)=some true:=by
   cases n<;>(show some (x==x)=some true;rw[beq_self_eq_true])
  show((rG n (.int x) (.int x)).bind λx=>(tJ (rG n) (l.map .int) (l.map .int)).map λy=>x&&y)=_;rw[h1,ih];rfl
theorem f_c(told due)(x):ff (dh T 28) [("told",told),("due",due)] fC (.int x)=some []:=by rfl'
theorem RB(told due:D)(l:List Int)(hi:(dh T 28).d fK [("told",told),("due",due)] (kK fC)=some told)(ht:items told=some (l.map .int)):(dh T 29).d fK [("told",told),("due",due)] fC=some (.lst []):=by
 have e:=dF (T:=T) (V:=dh T 28) (ks:=fK) (σ:=[("told",told),("due",due)]) (e:=fC) (d:=told) (φ:=D.int) (xs:=l) (g:=λ_=>[]) (by rfl') hi ht (λx hx=>f_c ..) (by rw[ud];exact dx _);rw[ud]at e;exact e
theorem f_tup(l l2):(dh T 31).d fK [("told",.tup l),("due",.tup l2)] (br (aq 0 fB))=((cmp .Eq (.tup l) (.tup l2)).map D.bool).bind λd=>(mh d).bind λb=>match HL,b with|.And,false=>some d|.Or,true=>some d|_,_=>(((dh T 29).d fK [("told",.tup l),("due",.tup l2)] fC).bind λd=>cmp .Eq d (.lst [])).map D.bool:=by rfl'
theorem akh(l l2):(dh T 31).d fK [("told",.lst l),("due",.lst l2)] (br (aq 0 fB))=((cmp .Eq (.lst l) (.lst l2)).map D.bool).bind λd=>(mh d).bind λb=>match HL,b with|.And,false=>some d|.Or,true=>some d|_,_=>(((dh T 29).d fK [("told",.lst l),("due",.lst l2)] fC).bind λd=>cmp .Eq d (.lst [])).map D.bool:=by rfl'
theorem ada(l:List Int):Xa T fK [] 20 fB [("told",.tup (l.map .int)),("due",.tup (l.map .int))] []=some (.rt (.bool true)):=by
 refine fX (bs:=[aq 0 fB]) (c9 (dJ _ ((f_tup _ _).trans ?_)));have h1:cmp .Eq (.tup (l.map .int)) (.tup (l.map .int))=some true:=by
  show(if(l.map D.int).length=(l.map D.int).length then tJ (rG 39) (l.map .int) (l.map .int)else none)=_;rw[if_pos rfl,z4]
 rw[h1,RB _ _ l (by rfl') rfl,af,vC];rfl
theorem adb(l:List Int):Xa T fK [] 20 fB [("told",.lst (l.map .int)),("due",.lst (l.map .int))] []=some (.rt (.bool true)):=by
 refine fX (bs:=[aq 0 fB]) (c9 (dJ _ ((akh _ _).trans ?_)));have h1:cmp .Eq (.lst (l.map .int)) (.lst (l.map .int))=some true:=by
  show ec (if(l.map D.int).length=(l.map D.int).length then tJ (rG 39) (l.map .int) (l.map .int)else some false) _=_;rw[if_pos rfl,z4];rfl
 rw[h1,RB _ _ l (by rfl') rfl,af,vC];rfl
end
theorem Yw(hp:prim "_law_plain"=none)(r:Nat):PL (Tn prim (r+1)):=
 ⟨λl _=>eZ (["told","due"]:List Str) hp (ada l),λl _=>eZ (["told","due"]:List Str) hp (adb l)⟩
def FF(T:fe):Prop:=∀number ui GU rest:Int,-(2^520)<number->number<2^520->0<ui->ui<2^100->number=ui*GU+rest->0<=rest->rest<ui->T.fn "_law_fourfold" [.int number,.int ui,.int GU,.int rest]=some (.bool true)
section
variable{T:fe}
def uK:bW:=vz "_law_fourfold"
def uB:List Stmt:=bo "_law_fourfold"
abbrev uS(n d q r:Int):cw:=[("number",.int n),("divisor",.int d),("quotient",.int q),("rest",.int r)]
theorem ade(n d q r less left)(t1 t2)(h0:(if decide (0<r)=true then some (D.tup [.int (-q - 1),.int (d - r)])else some (.tup [.int (-q),.int 0]))=some (.tup [.int less,.int left]))
(h1:((T.fn "int_divmod" [.int n,.int d]).bind λa=>(T.fn "int_divmod" [.int (-n),.int (-d)]).bind λb=>az .Add a b)=some t1)(h2:T.fn "_law_plain" [t1,.tup [.int q,.int r,.int q,.int (-r)]]=some (.bool true))
(h3:((T.fn "int_divmod" [.int (-n),.int d]).bind λa=>(T.fn "int_divmod" [.int n,.int (-d)]).bind λb=>az .Add a b)=some t2)(h4:T.fn "_law_plain" [t2,.tup [.int less,.int left,.int less,.int (-left)]]=some (.bool true)):
 Xa T uK [] 20 uB (uS n d q r) []=some (.rt (.bool true)):=by
 refine fX (bs:=[aq 0 uB,aq 1 uB,aq 2 uB]) ?_;refine d8 (l7 (.tup [.int less,.int left],false) (lZ (d:=.tup [.int less,.int left]) (tr h0))) ?_;refine d8 (bC (.bool true) (tr (b:=(((T.fn "int_divmod" [.int n,.int d]).bind λa=>(T.fn "int_divmod" [.int (-n),.int (-d)]).bind λb=>az .Add a b).bind λt=>some [t,.tup [.int q,.int r,.int q,.int (-r)]]).bind λds=>T.fn "_law_plain" ds) (by rw[h1];exact h2))) ?_;exact c9 (dJ _ (tr (b:=(((T.fn "int_divmod" [.int (-n),.int d]).bind λa=>(T.fn "int_divmod" [.int n,.int (-d)]).bind λb=>az .Add a b).bind λt=>some [t,.tup [.int less,.int left,.int less,.int (-left)]]).bind λds=>T.fn "_law_plain" ds) (by rw[h3];exact h4)))
end
theorem aki(hp:prim "_law_fourfold"=none)(r:Nat)(hP:PL (Tn prim r))(hD:D5 (Tn prim r)):FF (Tn prim (r+1)):=λn d q s oX hn2 hd hd2 e hr1 hr2=>by
 have axz:(2:Int)^520<2^530:=by decide
 have q1:n.fdiv d=q/\n.fmod d=s:=by
  rw[bp _ (by lia),bM _ (by lia)];exact(jP hd).mpr ⟨by lia,hr1,hr2⟩
 obtain⟨less,left,h0,q2⟩:∃less left:Int,(if decide (0<s)=true then some (D.tup [.int (-q - 1),.int (d - s)])else some (.tup [.int (-q),.int 0]))=some (.tup [.int less,.int left])/\(-n).fdiv d=less/\(-n).fmod d=left:=by
  by_cases h:0<s
  ·refine⟨-q - 1,d - s,by rw[if_pos (decide_eq_true h)],?_⟩
   rw[bp _ (by lia),bM _ (by lia)];exact(jP hd).mpr ⟨by rw[e,Int.mul_sub,HM];lia,by lia,by lia⟩
  ·refine⟨-q,0,by rw[if_neg (by simpa using h)],?_⟩
   rw[bp _ (by lia),bM _ (by lia)];exact(jP hd).mpr ⟨by rw[e,HM];lia,by lia,by lia⟩
 have a1:=hD n d (by lia) (by lia) (by lia) (by lia) hd2;have a2:=hD (-n) (-d) (by lia) (by lia) (by lia) (by lia) (by lia);have a3:=hD (-n) d (by lia) (by lia) (by lia) (by lia) hd2;have a4:=hD n (-d) (by lia) (by lia) (by lia) (by lia) (by lia);have f2:n.fdiv (-d)=(-n).fdiv d/\n.fmod (-d)= -((-n).fmod d):=by
  have e1:=Hq (a:= -n) (b:=d);have e2:=Hr (a:= -n) (b:=d);rw[aeq]at e1 e2;exact⟨e1,e2⟩
 unfold Yu at a1 a2 a3 a4;rw[Hq,Hr,q1.1,q1.2]at a2;rw[q1.1,q1.2]at a1;rw[q2.1,q2.2]at a3;rw[f2.1,f2.2,q2.1,q2.2]at a4;refine eZ (ds:=[.int n,.int d,.int q,.int s]) (["number","divisor","quotient","rest"]:List Str) hp (ade n d q s less left _ _ h0 (by rw[a1,a2];rfl) (hP.tup [q,s,q,-s] (by simp)) (by rw[a3,a4];rfl) (hP.tup [less,left,less,-left] (by simp)))
end
end Internal.Z
end
section
open PySem PySem.W PyProof.Rows
set_option exponentiation.threshold 3000
namespace Internal.Z
def nV(k:Nat->Nat)(n:Nat):Nat:=Nat.rec (k 0) (λm _=>k (mE m)) n
theorem gM(k:Nat->Nat)(n:Nat):nV k n=k n:=by cases n<;>rfl
def Og(s:Nat)(c:Nat)(k:Nat->Nat)(n:Nat):Nat:=cond (b8 c n) (eG s (nV k (LM n c))) (k n)
def lg0(n:Nat):Nat:=cond (b8 2 n) 1 0
def lg1:Nat->Nat:=Og 2 4 lg0
def lg2:Nat->Nat:=Og 4 16 lg1
def lg3:Nat->Nat:=Og 8 256 lg2
def lg4:Nat->Nat:=Og 16 65536 lg3
def lg5:Nat->Nat:=Og 32 4294967296 lg4
def lg6:Nat->Nat:=Og 64 18446744073709551616 lg5
def V9:Nat->Nat:=Og 128 340282366920938463463374607431768211456 lg6
theorem GV(h:2^s<=n):eT n=s+eT (n/2^s):=by
 have hn:n≠0:=by have:=ei (a:=2) (n:=s) (by decide);omega
 have hq:n/2^s≠0:=by
  have:=aep h (ei (by decide));omega
 rw[avo hn];have h1:=Nat.log2_self_le hq;have h2:n/2^s<2^(eT (n/2^s)+1):=asU;have hp:0<2^s:=ei (by decide);constructor
 ·rw[i7]
  have:=cE (2^s) h1;exact ao this (Nat.mul_div_le _ _)
 ·rw[SG,i7,hU]
  exact(Zb hp).mp h2
theorem oh(h:∀n,0<n->n<2^s->k n=eT n):∀n,0<n->n<2^(2*s)->Og s (2^s) k n=eT n:=λn h0 hn=>by
 unfold Og;rw[gM];by_cases hb:2^s<=n
 ·rw[gR hb]
  show s+k (n/2^s)=_;rw[h _ (aep hb (ei (by decide))),<-GV hb];rw[Nat.two_mul,i7]at hn;exact oj hn
 ·have:b8 (2^s) n=false:=by
   cases e:b8 (2^s) n with
   |false=>rfl
   |true=>exact absurd (cA e) hb
  rw[this];exact h n h0 (by omega)
theorem adf:∀n,0<n->n<2^2->lg0 n=eT n:=λn h0 hn=>
 (by decide:∀n,n<4->0<n->lg0 n=eT n) n hn h0
theorem vM:∀n,0<n->n<2^256->V9 n=eT n:=
 oh (s:=128) (oh (s:=64) (oh (s:=32) (oh (s:=16) (oh (s:=8) (oh (s:=4) (oh (s:=2) adf))))))
theorem yd(h:a≠b):cy a b=false:=by
 cases e:cy a b with
 |false=>rfl
 |true=>exact absurd (el e) h
theorem akj(h:¬a<=b):b8 a b=false:=by
 cases e:b8 a b with
 |false=>rfl
 |true=>exact absurd (cA e) h
theorem eE(a b):b8 a b=decide (a<=b):=by
 by_cases h:a<=b
 ·rw[gR h,decide_eq_true h]
 ·rw[akj h,decide_eq_false h]
def he2(d q r2:Nat):Nat:=cond (b8 r2 d) (cond (cy r2 d) (eG q (uM q 2)) q) (mE q)
def he1(n d q:Nat):Nat:=nV (he2 d q) (jx 2 (uM n d))
def heN(d n:Nat):Nat:=nV (he1 n d) (LM n d)
def heM(n d:Nat):Nat:=nV (he1 n d) (LM n d)
def rm4(n d E:Nat):Nat:=cond (b8 E 1074) (nV (heN d) (jx n (km 2 (gh 1074 E)))) (nV (heM n) (jx d (km 2 (gh E 1074))))
def rmM(r:Nat):Nat:=cond (b8 r 9218868437227405312) r 9218868437227405312
def rm3(n d E:Nat):Nat:=nV rmM (eG (jx E 4503599627370496) (rm4 n d E))
def rmB(n d L K:Nat):Bool:=cond (b8 K L) (b8 (jx d (km 2 (gh L K))) n) (b8 d (jx n (km 2 (gh K L))))
def rm2(n d L K:Nat):Nat:=nV (rm3 n d) (gh (eG L (cond (rmB n d L K) 1022 1021)) K)
theorem Yx(n d:Nat):he1 n d (n/d)=Bj n d:=by
 unfold he1;rw[gM];unfold he2 Bj;show cond (b8 (2*(n%d)) d) (cond (cy (2*(n%d)) d) (n/d+(n/d)%2) (n/d)) (n/d+1)=if(decide (2*(n%d)>d)||(2*(n%d)==d&&n/d%2==1))=true then n/d+1 else n/d;rcases Nat.lt_trichotomy (2*(n%d)) d with h|h|h
 ·rw[gR (bV h)]
  have h2:cy (2*(n%d)) d=false:=yd (gG h);have h3:(2*(n%d)==d)=false:=beq_eq_false_iff_ne.mpr (gG h);rw[h2,h3];simp;omega
 ·rw[h,gR (bD _)]
  simp;have:=fh (n/d);rcases this with h0|h0<;>simp[h0]
 ·have h1:b8 (2*(n%d)) d=false:=by
   cases e:b8 (2*(n%d)) d with
   |false=>rfl
   |true=>have:=cA e;omega
  rw[h1];simp[h]
theorem z5{n d:Nat}{k:Int}{j:Nat}(h:k=j):eU n d k=(n*2^j,d):=by
 unfold eU;rw[if_pos (by omega),h,aY]
theorem uj{n d:Nat}{k:Int}{j:Nat}(h:k= -(j:Int)):eU n d k=(n,d*2^j):=by
 unfold eU;by_cases hj:j=0
 ·subst hj
  rw[if_pos (by omega),h];simp
 ·rw[if_neg (by omega),h,aeq,aY]
theorem Yy(n d:Nat)(hn:0<n)(h1:eT d<=eT n+1021):Bk n d=rm2 n d (eT n) (eT d):=by
 generalize hL:eT n=L at h1;generalize hK:eT d=K at h1;unfold Bk;rw[if_neg (by simpa using(by omega:n≠0)),hL,hK];obtain⟨E,hE⟩:∃E,E=L+(cond (rmB n d L K) 1022 1021) - K:=⟨_,rfl⟩;have hB:(if(eU n d (-((L:Int) - (K:Int)))).1>=(eU n d (-((L:Int) - (K:Int)))).2 then((L:Int) - K) - 52 else((L:Int) - K) - 53)=((E:Nat):Int) - 1074:=by
  rw[hE];unfold rmB;by_cases hk:K<=L
  ·rw[gR hk,uj (j:=L - K) (by omega)]
   show(if n>=d*2^(L - K)then _ else _)=((L+(cond (b8 (d*2^(L - K)) n) 1022 1021) - K:Nat):Int) - 1074;rw[eE];by_cases hb:d*2^(L - K)<=n
   ·rw[if_pos hb,decide_eq_true hb,cond_true];omega
   ·rw[if_neg hb,decide_eq_false hb,cond_false];omega
  ·rw[akj hk,z5 (j:=K - L) (by omega)]
   show(if n*2^(K - L)>=d then _ else _)=((L+(cond (b8 d (n*2^(K - L))) 1022 1021) - K:Nat):Int) - 1074;rw[eE];by_cases hb:d<=n*2^(K - L)
   ·rw[if_pos hb,decide_eq_true hb,cond_true];omega
   ·rw[if_neg hb,decide_eq_false hb,cond_false];omega
 have hm:max (((E:Nat):Int) - 1074) (-1074)=((E:Nat):Int) - 1074:=Int.max_eq_left (by omega);have hr:rm2 n d L K=rm3 n d E:=by
  unfold rm2;rw[gM,hE];rfl
 have hmm:∀r,rmM r=min alU r:=λr=>by
  unfold rmM;rw[eE,show alU=9218868437227405312 from by decide];by_cases h:r<=9218868437227405312
  ·rw[decide_eq_true h,cond_true];exact(asP h).symm
  ·rw[decide_eq_false h,cond_false];exact(oU (bV (Nat.lt_of_not_le h))).symm
 have h4:rm4 n d E=Bj (eU n d (-(((E:Nat):Int) - 1074))).1 (eU n d (-(((E:Nat):Int) - 1074))).2:=by
  unfold rm4 heN heM;simp only[gM];rw[eE];by_cases h:E<=1074
  ·rw[decide_eq_true h,cond_true,z5 (j:=1074 - E) (by omega)]
   exact Yx _ _
  ·rw[decide_eq_false h,cond_false,uj (j:=E - 1074) (by omega)]
   exact Yx _ _
 rw[hr];unfold rm3;rw[gM,hmm,h4];dsimp only;rw[hB,hm];rw[alT,aY];rfl
def lg8:Nat->Nat:=Og 256 (2^256) V9
def lg9:Nat->Nat:=Og 512 (2^512) lg8
def lgA:Nat->Nat:=Og 1024 (2^1024) lg9
theorem adg:∀n,0<n->n<2^2048->lgA n=eT n:=
 oh (s:=1024) (oh (s:=512) (oh (s:=256) vM))
open Float64 in
def bk (n:Nat):UInt64:=n.toUInt64
theorem js(x:UInt64):bk x.toNat=x:=by
 show avp x.toNat=x;exact UInt64.ofNat_toNat
theorem rV(n:Nat):(bk n).toNat=n%2^64:=by
 show(avp n).toNat=_;exact UInt64.toNat_ofNat'
def S5(neg:Bool)(m:Nat):Nat:=cond neg (eG 9223372036854775808 m) m
theorem uk(neg:Bool)(m:Nat):Ao neg m=bk (S5 neg m):=by
 unfold Ao S5 bk;cases neg
 ·show(0+m).toUInt64=_;rw[ja];rfl
 ·rfl
def RC(x:Nat):Nat:=uM (LM x 4503599627370496) 2048
def frB(x:Nat):Nat:=uM x 4503599627370496
def Cg(x:Nat):Bool:=cy (uM (LM x 9223372036854775808) 2) 1
def gH(x:Nat):Nat:=cond (cy (RC x) 0) 1 (RC x)
def mB(x:Nat):Nat:=cond (cy (RC x) 0) (frB x) (eG 4503599627370496 (frB x))
def gy(x:Nat):Bool:=not (cy (RC x) 2047)
theorem Yz(x):x%2^64/2^52%2048=RC x:=by
 show x%2^64/2^52%2048=x/4503599627370496%2048;exact(congrArg (·%2048) (qp x (2^52) 4096)).trans (alV _ ⟨2,rfl⟩)
theorem YA(x):x%2^64%2^52=frB x:=by
 show x%2^64%2^52=x%4503599627370496;exact alV _ ⟨4096,rfl⟩
theorem YB(x):(x%2^64/2^63==1)=Cg x:=by
 have h64:(2:Nat)^64=18446744073709551616:=rfl;have h63:(2:Nat)^63=9223372036854775808:=rfl;rw[h64,h63];show(x%18446744073709551616/9223372036854775808==1)=cy (x/9223372036854775808%2) 1;rw[show x%18446744073709551616/9223372036854775808=x/9223372036854775808%2 from qp x 9223372036854775808 2];rcases fh (x/9223372036854775808)with h|h<;>rw[h]<;>rfl
theorem gQ(h:gy x=true):Hs (bk x)=.fin (Cg x) (mB x) ((gH x:Int) - 1075):=by
 unfold Hs;rw[rV,Yz,YA,YB];unfold gy at h;have h1:(RC x==2047)=false:=by
  cases e:(RC x==2047)with
  |false=>rfl
  |true=>
   rw[eq_of_beq e]at h;cases h
 dsimp only;rw[h1,if_neg aJ];unfold mB gH;by_cases h0:RC x=0
 ·rw[h0];rfl
 ·rw[if_neg (by simpa using h0),yd h0];rfl
theorem YC(x):mB x<2^53:=by
 have hf:frB x<4503599627370496:=dA _ (by decide);have h53:(2:Nat)^53=9007199254740992:=rfl;rw[h53];unfold mB;cases cy (RC x) 0
 ·show 4503599627370496+frB x<_;lia
 ·show frB x<_;lia
theorem GW(j):eT (2^j)=j:=by
 rw[avo (by have:=ei (a:=2) (n:=j) (by decide);lia)];exact⟨bD _,jN (by decide) (by lia)⟩
theorem GX(j)(h:0<m):eT (m*2^j)=eT m+j:=by
 have hp:0<2^j:=ei (by decide);have:=GV (n:=m*2^j) (s:=j) (uF _ h);rw[this,Nat.mul_div_cancel _ hp,fR]
def ob2(neg:Bool)(m j L:Nat):Nat:=cond (b8 j (eG L 1021)) (S5 neg (nV (λd=>rm2 m d L j) (km 2 j))) (kq neg m (-(j:Int))).toNat
def ob1(neg:Bool)(m j:Nat):Nat:=cond (b8 m 115792089237316195423570985008687907853269984665640564039457584007913129639935) (nV (ob2 neg m j) (V9 m)) (cond (Nat.blt m (2^2048)) (nV (ob2 neg m j) (lgA m)) (kq neg m (-(j:Int))).toNat)
def Wa(neg:Bool)(j m:Nat):Nat:=cond (cy m 0) (S5 neg 0) (ob1 neg m j)
theorem GY(neg:Bool)(m j:Nat):kq neg m (-(j:Int))=Ao neg (Bk m (2^j)):=by
 unfold kq;rw[uj (j:=j) rfl,yi];show fM neg m (2^j)=_;unfold fM;rfl
theorem RD(neg:Bool)(j m:Nat)(h0:m≠0):kq neg m (-(j:Int))=bk (ob2 neg m j (eT m)):=by
 unfold ob2;rw[eE];by_cases h2:j<=eG (eT m) 1021
 ·rw[decide_eq_true h2,cond_true,gM,GY,Yy m (2^j) (by lia) (by rw[GW];exact h2),GW,uk]
  rfl
 ·rw[decide_eq_false h2,cond_false,js]
theorem xQ(neg:Bool)(j m:Nat):kq neg m (-(j:Int))=bk (Wa neg j m):=by
 unfold Wa;by_cases h0:m=0
 ·subst h0
  rw[GY];show Ao neg 0=_;exact uk neg 0
 ·rw[yd h0,cond_false]
  unfold ob1;rw[eE];by_cases h1:m<=115792089237316195423570985008687907853269984665640564039457584007913129639935
  ·rw[decide_eq_true h1,cond_true,gM]
   have hm:m<2^256:=by
    have:(2:Nat)^256=115792089237316195423570985008687907853269984665640564039457584007913129639936:=by decide
    lia
   rw[vM m (by lia) hm];exact RD neg j m h0
  ·rw[decide_eq_false h1,cond_false]
   cases hb:Nat.blt m (2^2048)with
   |true=>
    have hm:m<2^2048:=cA hb;rw[cond_true,gM,adg m (by lia) hm];exact RD neg j m h0
   |false=>rw[cond_false,js]
def Lh(x y:Nat):Nat:=(iF (bk x) (bk y)).toNat
def ad4(a b:Bool)(j p q:Nat):Nat:=cond (n6 a b) (cond (b8 q p) (cond (cy p q) 0 (nV (Wa a j) (gh p q))) (nV (Wa b j) (gh q p))) (nV (Wa a j) (eG p q))
def ad3(a b:Bool)(k f g p:Nat):Nat:=nV (λq=>nV (λj=>ad4 a b j p q) (gh 1075 g)) (jx k (km 2 (gh f g)))
def ad2(a b:Bool)(m e k f g:Nat):Nat:=nV (ad3 a b k f g) (jx m (km 2 (gh e g)))
def ad1(x y:Nat)(a b:Bool)(m e k f:Nat):Nat:=cond (b8 e f) (cond (b8 e 1075) (ad2 a b m e k f e) (Lh x y)) (cond (b8 f 1075) (ad2 a b m e k f f) (Lh x y))
def dc2(k:Bool->Bool->Nat->Nat->Nat->Nat->Nat)(x y:Nat):Nat:=
 nV (λm=>nV (λe=>nV (λn=>nV (λf=>k (Cg x) (Cg y) m e n f) (gH y)) (mB y)) (gH x)) (mB x)
theorem z6(k:Bool->Bool->Nat->Nat->Nat->Nat->Nat)(x y):dc2 k x y=k (Cg x) (Cg y) (mB x) (gH x) (mB y) (gH y):=by
 unfold dc2;simp only[gM]
def JF(x y:Nat):Nat:=cond (and (gy x) (gy y)) (dc2 (ad1 x y) x y) (Lh x y)
theorem RE(a b:Bool)(j p q:Nat):(if(bQ a p+bQ b q==0)=true then lR (a&&b)else kq (decide (bQ a p+bQ b q<0)) (bQ a p+bQ b q).natAbs (-(j:Int)))=bk (ad4 a b j p q):=by
 unfold ad4;simp only[gM];have hz:∀c:Bool,lR c=bk (Wa c j 0):=λc=>(uk c 0).trans (congrArg bk (show S5 c 0=Wa c j 0 from rfl));have h00:lR false=bk 0:=(uk false 0).trans (congrArg bk (show S5 false 0=0 from rfl));cases a<;>cases b
 ·have e:bQ false p+bQ false q=((p+q:Nat):Int):=by show(p:Int)+q=_;lia
  rw[e,show n6 false false=false from rfl,cond_false,show eG p q=p+q from rfl];by_cases h:p+q=0
  ·rw[if_pos (by rw[h];rfl),h];exact hz false
  ·rw[if_neg (by rw[beq_iff_eq];lia),decide_eq_false (by lia),jc,xQ]
 ·have e:bQ false p+bQ true q=(p:Int) - q:=by show(p:Int)+ -(q:Int)=_;lia
  rw[e,show n6 false true=true from rfl,cond_true,eE];by_cases h:q<=p
  ·rw[decide_eq_true h,cond_true]
   by_cases h2:p=q
   ·subst h2
    rw[if_pos (by rw[beq_iff_eq];lia)];have:cy p p=true:=uI p;rw[this,cond_true];exact h00
   ·rw[yd h2,cond_false,if_neg (by rw[beq_iff_eq];lia),decide_eq_false (by lia),<-xQ]
    congr 1;show _=p - q;lia
  ·rw[decide_eq_false h,cond_false,if_neg (by rw[beq_iff_eq];lia),decide_eq_true (by lia),<-xQ]
   congr 1;show _=q - p;lia
 ·have e:bQ true p+bQ false q=(q:Int) - p:=by show -(p:Int)+(q:Int)=_;lia
  rw[e,show n6 true false=true from rfl,cond_true,eE];by_cases h:q<=p
  ·rw[decide_eq_true h,cond_true]
   by_cases h2:p=q
   ·subst h2
    rw[if_pos (by rw[beq_iff_eq];lia)];have:cy p p=true:=uI p;rw[this,cond_true];exact h00
   ·rw[yd h2,cond_false,if_neg (by rw[beq_iff_eq];lia),decide_eq_true (by lia),<-xQ]
    congr 1;show _=p - q;lia
  ·rw[decide_eq_false h,cond_false,if_neg (by rw[beq_iff_eq];lia),decide_eq_false (by lia),<-xQ]
   congr 1;show _=q - p;lia
 ·have e:bQ true p+bQ true q= -((p+q:Nat):Int):=by show -(p:Int)+ -(q:Int)=_;lia
  rw[e,show n6 true true=false from rfl,cond_false,show eG p q=p+q from rfl];by_cases h:p+q=0
  ·rw[if_pos (by rw[h];rfl),h];exact hz true
  ·rw[if_neg (by rw[beq_iff_eq];lia),decide_eq_true (by lia),Int.natAbs_neg,jc,xQ]
theorem z7(a:Bool)(m:Nat)(b:Bool)(k e f g:Nat)(h:(g=e/\e<=f)\/(g=f/\f<=e)):
 ank a m ((e:Int) - 1075) b k ((f:Int) - 1075)=(bQ a (m*2^(e - g)),bQ b (k*2^(f - g)),(g:Int) - 1075):=by
 unfold ank;have hg:min ((e:Int) - 1075) ((f:Int) - 1075)=(g:Int) - 1075:=by
  rcases h with⟨rfl,h⟩|⟨rfl,h⟩
  ·exact avj (aer (gD.mpr h) _)
  ·exact asQ (aer (gD.mpr h) _)
 rw[hg];have hc (e:Nat):((e:Int) - 1075 - ((g:Int) - 1075)).toNat=e - g:=by rw[show(e:Int) - 1075 - ((g:Int) - 1075)=e - g by lia];exact Int.toNat_sub ..
 have h1:=hc e;have h2:=hc f;dsimp only;rw[h1,h2]
theorem Dw(x y:Nat):iF (bk x) (bk y)=bk (JF x y):=by
 unfold JF;have hs:iF (bk x) (bk y)=bk (Lh x y):=(js _).symm;cases hx:gy x
 ·exact hs
 ·cases hy:gy y
  ·exact hs
  ·rw[jk,cond_true,z6]
   have key:∀g,(g=gH x/\gH x<=gH y)\/(g=gH y/\gH y<=gH x)->g<=1075->iF (bk x) (bk y)=bk (ad2 (Cg x) (Cg y) (mB x) (gH x) (mB y) (gH y) g):=λg hg h75=>by
    unfold iF;rw[gQ hx,gQ hy];dsimp only;rw[z7 _ _ _ _ _ _ g hg];unfold ad2 ad3;simp only[gM];have:=RE (Cg x) (Cg y) (1075 - g) (mB x*2^(gH x - g)) (mB y*2^(gH y - g));rw[show -((1075 - g:Nat):Int)=(g:Int) - 1075 by lia]at this;exact this
   unfold ad1;rw[eE,eE,eE];by_cases h:gH x<=gH y
   ·rw[decide_eq_true h,cond_true]
    by_cases h2:gH x<=1075
    ·rw[decide_eq_true h2,cond_true];exact key _ (.inl ⟨rfl,h⟩) h2
    ·rw[decide_eq_false h2,cond_false];exact hs
   ·rw[decide_eq_false h,cond_false]
    by_cases h2:gH y<=1075
    ·rw[decide_eq_true h2,cond_true];exact key _ (.inr ⟨rfl,by lia⟩) h2
    ·rw[decide_eq_false h2,cond_false];exact hs
end Internal.Z
namespace Internal.Z
theorem RF(a b):(a != b)=n6 a b:=by cases a<;>cases b<;>rfl
def RG(x y:Nat):Nat:=(iH (bk x) (bk y)).toNat
def mu1(x y:Nat)(a b:Bool)(m e k f:Nat):Nat:=cond (b8 (eG e f) 2150) (nV (λj=>nV (Wa (n6 a b) j) (jx m k)) (gh 2150 (eG e f))) (RG x y)
def Wb(x y:Nat):Nat:=cond (and (gy x) (gy y)) (dc2 (mu1 x y) x y) (RG x y)
theorem Wc(x y):iH (bk x) (bk y)=bk (Wb x y):=by
 unfold Wb;have hs:iH (bk x) (bk y)=bk (RG x y):=(js _).symm;cases hx:gy x
 ·exact hs
 ·cases hy:gy y
  ·exact hs
  ·rw[jk,cond_true,z6]
   unfold mu1;simp only[gM];rw[eE];by_cases h:eG (gH x) (gH y)<=2150
   ·rw[decide_eq_true h,cond_true,<-xQ]
    unfold iH;rw[gQ hx,gQ hy];dsimp only;have h':gH x+gH y<=2150:=h;rw[RF,show((gH x:Int) - 1075)+((gH y:Int) - 1075)= -((gh 2150 (eG (gH x) (gH y)):Nat):Int)by
     show _= -((2150 - (gH x+gH y):Nat):Int);omega]
    rfl
   ·rw[decide_eq_false h,cond_false];exact hs
def YD(neg:Bool)(n d:Nat):Nat:=(fM neg n d).toNat
def fr2(neg:Bool)(n d K L:Nat):Nat:=cond (b8 K (eG L 1021)) (S5 neg (rm2 n d L K)) (YD neg n d)
theorem JG(neg:Bool){n d K L:Nat}(hn:0<n)(hL:L=eT n)(hK:K=eT d):fM neg n d=bk (fr2 neg n d K L):=by
 unfold fr2;rw[eE];by_cases h:K<=eG L 1021
 ·rw[decide_eq_true h,cond_true,<-uk]
  unfold fM;rw[Yy n d hn (by rw[<-hK,<-hL];exact h),<-hL,<-hK]
 ·rw[decide_eq_false h,cond_false]
  exact(js _).symm
theorem Li(neg)(d):fM neg 0 d=bk (S5 neg 0):=by
 rw[<-uk];unfold fM;rfl
def RH(x y:Nat):Nat:=(kL (bk x) (bk y)).toNat
def dv2(neg:Bool)(m e k f:Nat):Nat:=cond (b8 f e)
 (nV (λj=>nV (λn=>nV (λK=>nV (fr2 neg n k K) (eG (V9 m) j)) (V9 k)) (jx m (km 2 j))) (gh e f))
 (nV (λj=>nV (λd=>nV (λK=>nV (fr2 neg m d K) (V9 m)) (eG (V9 k) j)) (jx k (km 2 j))) (gh f e))
def dv1(x y:Nat)(a b:Bool)(m e k f:Nat):Nat:=cond (cy k 0) (RH x y) (cond (cy m 0) (S5 (n6 a b) 0) (dv2 (n6 a b) m e k f))
def Wd(x y:Nat):Nat:=cond (and (gy x) (gy y)) (dc2 (dv1 x y) x y) (RH x y)
theorem um(h:m<2^53):m<2^256:=bJ h (aW (by decide) (by decide))
theorem Wf(x y:Nat):kL (bk x) (bk y)=bk (Wd x y):=by
 unfold Wd;have hs:kL (bk x) (bk y)=bk (RH x y):=(js _).symm;cases hx:gy x
 ·exact hs
 ·cases hy:gy y
  ·exact hs
  ·rw[jk,cond_true,z6]
   unfold dv1;by_cases hk:mB y=0
   ·rw[hk];exact hs
   ·rw[yd hk,cond_false]
    have hd:kL (bk x) (bk y)=fM (n6 (Cg x) (Cg y)) (eU (mB x) (mB y) (((gH x:Int) - 1075) - ((gH y:Int) - 1075))).1 (eU (mB x) (mB y) (((gH x:Int) - 1075) - ((gH y:Int) - 1075))).2:=by
     unfold kL;rw[gQ hx,gQ hy];dsimp only;rw[if_neg (by simpa using hk),RF]
    by_cases hm:mB x=0
    ·rw[hm]at hd⊢
     rw[hd];have:(eU 0 (mB y) (((gH x:Int) - 1075) - ((gH y:Int) - 1075))).1=0:=by
      unfold eU;split<;>simp
     rw[this,Li];rfl
    ·rw[yd hm,cond_false]
     unfold dv2;simp only[gM];have hx2:=um (YC x);have hy2:=um (YC y);rw[vM _ (by omega) hx2,vM _ (by omega) hy2,eE];by_cases h:gH y<=gH x
     ·rw[decide_eq_true h,cond_true,hd,z5 (j:=gH x - gH y) (by omega)]
      exact JG _ (Nat.mul_pos (by omega) (ei (by decide))) (GX _ (by omega)).symm rfl
     ·rw[decide_eq_false h,cond_false,hd,uj (j:=gH y - gH x) (by omega)]
      exact JG _ (by omega) rfl (GX _ (by omega)).symm
def Hz(n d:Nat):Nat:=cond (cy n 0) 0 (cond (and (b8 n 9007199254740991) (and (b8 d 9007199254740991) (b8 1 d))) (nV (λK=>nV (fr2 false n d K) (V9 n)) (V9 d)) (YD false n d))
theorem YE(n d:Nat):fM false n d=bk (Hz n d):=by
 unfold Hz;by_cases h0:n=0
 ·subst h0
  exact Li false d
 ·rw[yd h0,cond_false,eE,eE,eE]
  by_cases h:n<=9007199254740991/\d<=9007199254740991/\1<=d
  ·rw[decide_eq_true h.1,decide_eq_true h.2.1,decide_eq_true h.2.2,jk,jk,cond_true]
   simp only[gM];have h53:(2:Nat)^53=9007199254740992:=rfl;rw[vM n (by omega) (um (by omega)),vM d (by omega) (um (by omega))];exact JG _ (by omega) rfl rfl
  ·have:(and (decide (n<=9007199254740991)) (and (decide (d<=9007199254740991)) (decide (1<=d))))=false:=by
    rw[Bool.eq_false_iff];intro hh;simp only[ay,decide_eq_true_eq]at hh;exact h hh
   rw[this,cond_false];exact(js _).symm
theorem RI(n:Nat):gn (n:Int)=bk (Hz n 1):=by
 rw[<-YE];unfold gn;rw[decide_eq_false (by omega),jc]
theorem Dx(n d:Nat):o7 (n:Int) (d:Int)=bk (Hz n d):=by
 rw[<-YE];unfold o7;rw[decide_eq_false (by omega),decide_eq_false (by omega),jc,jc];rfl
theorem Lj(h:gy x=true):xV (bk x)=false:=by
 unfold xV;rw[gQ h]
def adi(x:Nat):Nat:=cond (gy x) (Nat.xor x 9223372036854775808) (SM (bk x)).toNat
theorem Wg(x):SM (bk x)=bk (adi x):=by
 unfold adi;cases h:gy x
 ·exact(js _).symm
 ·rw[cond_true]
  unfold SM;rw[Lj h,if_neg aJ,uk];apply UInt64.toNat.inj;rw[UInt64.toNat_xor,rV,rV,rV];show _=(x ^^^ 9223372036854775808)%2^64;rw[Nat.xor_mod_two_pow];rfl
def Nv(x y:Nat):Nat:=nV (JF x) (adi y)
theorem Lk(x y):iG (bk x) (bk y)=bk (Nv x y):=by
 unfold iG Nv;rw[Wg,Dw,gM]
def Wh(x:Nat):Nat:=cond (gy x) (uM x 9223372036854775808) (uD (bk x)).toNat
theorem Wi(x):uD (bk x)=bk (Wh x):=by
 unfold Wh;cases h:gy x
 ·exact(js _).symm
 ·rw[cond_true]
  unfold uD;rw[Lj h,if_neg aJ,uk,rV];refine congrArg bk ?_;show x%2^64%2^63=x%9223372036854775808;have h64:(2:Nat)^64=18446744073709551616:=rfl;have h63:(2:Nat)^63=9223372036854775808:=rfl;rw[h64,h63];omega
def nW:Option Ordering->Nat
 |some .lt=>0|some .eq=>1|some .gt=>2|none=>3
theorem Dy(o:Option Ordering):(o==some .lt)=cy (nW o) 0:=by
 match o with
 |some .lt=>rfl|some .eq=>rfl|some .gt=>rfl|none=>rfl
theorem Dz(o:Option Ordering):(o==some .eq)=cy (nW o) 1:=by
 match o with
 |some .lt=>rfl|some .eq=>rfl|some .gt=>rfl|none=>rfl
theorem Ll(o:Option Ordering):(o==some .gt)=cy (nW o) 2:=by
 match o with
 |some .lt=>rfl|some .eq=>rfl|some .gt=>rfl|none=>rfl
def Wj(p q:Nat):Nat:=cond (b8 p q) (cond (cy p q) 1 0) 2
def c4(a b:Bool)(p q:Nat):Nat:=cond a (cond b (Wj q p) (cond (cy (eG p q) 0) 1 0)) (cond b (cond (cy (eG p q) 0) 1 2) (Wj p q))
theorem Wl(P Q:Int):nW (some (compare P Q))=if P<Q then 0 else if P=Q then 1 else 2:=by
 show nW (some (compareOfLessAndEq P Q))=_;unfold compareOfLessAndEq;split
 ·rfl
 ·split<;>rfl
theorem Lm(p q):Wj p q=if p<q then 0 else if p=q then 1 else 2:=by
 unfold Wj;rw[eE];by_cases h:p<=q
 ·rw[decide_eq_true h,cond_true]
  by_cases h2:p=q
  ·subst h2;rw[uI,cond_true,if_neg (by lia),if_pos rfl]
  ·rw[yd h2,cond_false,if_pos (by lia)]
 ·rw[decide_eq_false h,cond_false,if_neg (by lia),if_neg (by lia)]
theorem YF(a b:Bool)(p q:Nat):nW (some (compare (bQ a p) (bQ b q)))=c4 a b p q:=by
 rw[Wl];unfold c4;cases a<;>cases b
 ·rw[show bQ false p=(p:Int)from rfl,show bQ false q=(q:Int)from rfl,cond_false,cond_false,Lm]
  by_cases h:p<q
  ·rw[if_pos (by lia),if_pos h]
  ·rw[if_neg (by lia),if_neg h]
   by_cases h2:p=q
   ·rw[if_pos (by lia),if_pos h2]
   ·rw[if_neg (by lia),if_neg h2]
 ·rw[show bQ false p=(p:Int)from rfl,show bQ true q= -(q:Int)from rfl,cond_false,cond_true,if_neg (by lia)]
  by_cases h:p+q=0
  ·rw[if_pos (by lia),show eG p q=0 from h];rfl
  ·rw[if_neg (by lia),yd (show eG p q≠0 from h),cond_false]
 ·rw[show bQ true p= -(p:Int)from rfl,show bQ false q=(q:Int)from rfl,cond_true,cond_false]
  by_cases h:p+q=0
  ·rw[if_neg (by lia),if_pos (by lia),show eG p q=0 from h];rfl
  ·rw[if_pos (by lia),yd (show eG p q≠0 from h),cond_false]
 ·rw[show bQ true p= -(p:Int)from rfl,show bQ true q= -(q:Int)from rfl,cond_true,cond_true,Lm]
  by_cases h:q<p
  ·rw[if_pos (by lia),if_pos h]
  ·rw[if_neg (by lia),if_neg h]
   by_cases h2:q=p
   ·rw[if_pos (by lia),if_pos h2]
   ·rw[if_neg (by lia),if_neg h2]
def akn(x y:Nat):Nat:=nW (ck (bk x) (bk y))
def c2(a b:Bool)(m e k f g:Nat):Nat:=nV (λp=>nV (c4 a b p) (jx k (km 2 (gh f g)))) (jx m (km 2 (gh e g)))
def c1(a b:Bool)(m e k f:Nat):Nat:=cond (b8 e f) (c2 a b m e k f e) (c2 a b m e k f f)
def cmN(x y:Nat):Nat:=cond (and (gy x) (gy y)) (dc2 c1 x y) (akn x y)
theorem YG(x y):nW (ck (bk x) (bk y))=cmN x y:=by
 unfold cmN;cases hx:gy x
 ·rfl
 ·cases hy:gy y
  ·rfl
  ·rw[jk,cond_true,z6]
   have key:∀g,(g=gH x/\gH x<=gH y)\/(g=gH y/\gH y<=gH x)->nW (ck (bk x) (bk y))=c2 (Cg x) (Cg y) (mB x) (gH x) (mB y) (gH y) g:=λg hg=>by
    unfold ck;rw[gQ hx,gQ hy];dsimp only;rw[z7 _ _ _ _ _ _ g hg];unfold c2;simp only[gM];exact YF _ _ _ _
   unfold c1;rw[eE];by_cases h:gH x<=gH y
   ·rw[decide_eq_true h,cond_true];exact key _ (.inl ⟨rfl,h⟩)
   ·rw[decide_eq_false h,cond_false];exact key _ (.inr ⟨rfl,by lia⟩)
def Nw(x:Nat):Bool:=and (gy x) (cy (mB x) 0)
theorem RJ(x):ij (bk x)=Nw x:=by
 unfold Nw;cases hx:gy x
 ·unfold ij Hs
  rw[rV,Yz,YA,YB];unfold gy at hx;have h1:RC x=2047:=by
   have:cy (RC x) 2047=true:=by simpa using hx
   exact el this
  dsimp only;rw[h1,if_pos (show((2047:Nat)==2047)=true from rfl)];split
  ·rename_i hq;split at hq<;>cases hq
  ·rfl
 ·unfold ij
  rw[gQ hx];cases h:mB x with
  |zero=>rfl
  |succ n=>rfl
def z8(x y:Nat):Nat:=(sk (bk x) (bk y)).toNat
def fm2(a:Bool)(m e k f g:Nat):Nat:=nV (λq=>nV (λj=>nV (Wa a j) (uM (jx m (km 2 (gh e g))) q)) (gh 1075 g)) (jx k (km 2 (gh f g)))
def fm1(x y:Nat)(a _b:Bool)(m e k f:Nat):Nat:=cond (cy k 0) (z8 x y) (cond (b8 e f) (cond (b8 e 1075) (fm2 a m e k f e) (z8 x y)) (cond (b8 f 1075) (fm2 a m e k f f) (z8 x y)))
def fmN(x y:Nat):Nat:=cond (and (gy x) (gy y)) (dc2 (fm1 x y) x y) (z8 x y)
theorem ako(x y:Nat):sk (bk x) (bk y)=bk (fmN x y):=by
 unfold fmN;have hs:sk (bk x) (bk y)=bk (z8 x y):=(js _).symm;cases hx:gy x
 ·exact hs
 ·cases hy:gy y
  ·exact hs
  ·rw[jk,cond_true,z6]
   unfold fm1;by_cases hk:mB y=0
   ·rw[hk];exact hs
   ·rw[yd hk,cond_false]
    have key:∀g,(g=gH x/\gH x<=gH y)\/(g=gH y/\gH y<=gH x)->g<=1075->sk (bk x) (bk y)=bk (fm2 (Cg x) (mB x) (gH x) (mB y) (gH y) g):=λg hg h75=>by
     unfold sk;rw[gQ hx,gQ hy];dsimp only;rw[if_neg (by simpa using hk),z7 _ _ _ _ _ _ g hg];unfold fm2;simp only[gM];rw[<-xQ,show bQ false (mB x*2^(gH x - g))=((mB x*2^(gH x - g):Nat):Int)from rfl,show bQ false (mB y*2^(gH y - g))=((mB y*2^(gH y - g):Nat):Int)from rfl];rw[aY,aY,show -((gh 1075 g:Nat):Int)=(g:Int) - 1075 by show -((1075 - g:Nat):Int)=_;lia];rfl
    rw[eE,eE,eE];by_cases h:gH x<=gH y
    ·rw[decide_eq_true h,cond_true]
     by_cases h2:gH x<=1075
     ·rw[decide_eq_true h2,cond_true];exact key _ (.inl ⟨rfl,h⟩) h2
     ·rw[decide_eq_false h2,cond_false];exact hs
    ·rw[decide_eq_false h,cond_false]
     by_cases h2:gH y<=1075
     ·rw[decide_eq_true h2,cond_true];exact key _ (.inr ⟨rfl,by lia⟩) h2
     ·rw[decide_eq_false h2,cond_false];exact hs
def md2(m:Nat):Nat:=cond (Nw m) 0 (cond (cy (cmN m 0) 0) (JF m 4607182418800017408) m)
def mdN(x:Nat):Nat:=nV md2 (fmN x 4607182418800017408)
theorem adk:(4607182418800017408:UInt64)=bk 4607182418800017408:=rfl
theorem akp(x):(uA (bk x) 4607182418800017408).2=bk (mdN x):=by
 rw[adk];unfold mdN;rw[gM];unfold uA md2;dsimp only;rw[ako];generalize fmN x 4607182418800017408=m;rw[RJ];have h0:lR false=bk 0:=(uk false 0).trans (congrArg bk (show S5 false 0=0 from rfl));have h1:Xh (bk 4607182418800017408) (lR false)=false:=by decide
 have h2:Float64.copysign (lR false) (bk 4607182418800017408)=bk 0:=by decide
 have h3:Xh (bk m) (lR false)=cy (cmN m 0) 0:=by
  unfold Xh;rw[h0,Dy,YG]
 rw[h1,h2,h3];cases Nw m
 ·cases cy (cmN m 0) 0
  ·rfl
  ·exact Dw m 4607182418800017408
 ·rfl
def trN(x:Nat):Nat:=LM (mB x) (km 2 (gh 1075 (gH x)))
theorem akq(x)(h:gy x=true)(hs:Cg x=false)(he:b8 (gH x) 1075=true):bX cu (bk x)=(trN x:Int):=by
 have he:=cA he;unfold bX;rw[gQ h,hs];show aeZ false (mB x) ((gH x:Int) - 1075)=_;unfold aeZ trN;by_cases h0:gH x=1075
 ·rw[if_pos (by lia),h0]
  show((mB x:Nat):Int)*2^((1075:Nat) - 1075:Int).toNat=((mB x/2^(1075 - 1075):Nat):Int)
  simp
 ·rw[if_neg (by lia)]
  have e:(-((gH x:Int) - 1075)).toNat=1075 - gH x:=by lia
  rw[e,show bQ false (mB x)=((mB x:Nat):Int)from rfl,bp _ (by exact_mod_cast dx _)];show((mB x:Nat):Int)/2^(1075 - gH x)=((mB x/2^(1075 - gH x):Nat):Int)
  push_cast;rfl
def ciN(x i:Nat):Nat:=cond (and (gy x) (b8 (gH x) 1074)) (c4 (Cg x) false (mB x) (jx i (km 2 (gh 1075 (gH x))))) (nW (gE (bk x) (i:Int)))
theorem akr(x i:Nat):nW (gE (bk x) (i:Int))=ciN x i:=by
 unfold ciN;cases hx:gy x
 ·rfl
 ·rw[eE]
  by_cases h:gH x<=1074
  ·rw[decide_eq_true h,jk,cond_true]
   unfold gE;rw[gQ hx];dsimp only;rw[if_neg (by lia)];have e:(-((gH x:Int) - 1075)).toNat=1075 - gH x:=by lia
   rw[e];have:=YF (Cg x) false (mB x) (i*2^(1075 - gH x));rw[show bQ false (i*2^(1075 - gH x))=((i*2^(1075 - gH x):Nat):Int)from rfl]at this;rw[show((i*2^(1075 - gH x):Nat):Int)=(i:Int)*2^(1075 - gH x)by push_cast;rfl]at this;exact this
  ·rw[decide_eq_false h];rfl
theorem adl(h:gy x=true):cO (bk x)=true:=by
 unfold cO;rw[gQ h]
end Internal.Z
end
section
open PySem PySem.W PyProof.Rows
namespace Internal.Z
section
structure FO(α:Type) where
 add:α->α->α
 sub:α->α->α
 mul:α->α->α
 dv:α->α->α
 md:α->α
 cm:α->α->Nat
 ci:α->Nat->Nat
 Ci:α->Bool
 fin:α->Bool
 ab:α->α
 k:Nat->α
 i:Nat->α
 q:Nat->Nat->α
 tr:α->Nat
 Bb:α->Bool
 fc:{β:Type}->α->(α->β)->β
def HA(n:Nat)(k:Nat->β):β:=Nat.rec (k 0) (λm _=>k (mE m)) n
theorem th(n)(k:Nat->β):HA n k=k n:=by cases n<;>rfl
def FU:FO UInt64 where
 add:=iF
 sub:=iG
 mul:=iH
 dv:=kL
 md x:=(uA x 4607182418800017408).2
 cm x y:=nW (ck x y)
 ci x n:=nW (gE x n)
 Ci:=ij
 fin x:=cO x
 ab:=uD
 k:=bk
 i n:=gn n
 q n d:=o7 n d
 tr x:=(bX cu x).toNat
 Bb x:=cO x&&(decide (0<=bX cu x)&&decide (bX cu x<=1000000))
 fc x k:=k x
def X3(f:Nat->Nat)(x:Nat):Nat:=nV f x
def N5(f:Nat->Nat->Nat)(x y:Nat):Nat:=nV (λx=>nV (f x) y) x
def stB(f:Nat->Bool)(x:Nat):Bool:=HA x f
theorem JH(f)(x):X3 f x=f x:=gM f x
theorem rv(f:Nat->Nat->Nat)(x y):N5 f x y=f x y:=by unfold N5;rw[gM,gM]
theorem RK(f:Nat->Bool)(x):stB f x=f x:=th x f
def YH(x:Nat):Bool:=and (gy x) (and (not (Cg x)) (and (b8 (gH x) 1075) (b8 (trN x) 1000000)))
def FN:FO Nat where
 add:=N5 JF
 sub:=N5 Nv
 mul:=N5 Wb
 dv:=N5 Wd
 md:=X3 mdN
 cm:=N5 cmN
 ci:=N5 ciN
 Ci:=stB Nw
 fin:=stB gy
 ab:=X3 Wh
 k x:=x
 i n:=N5 Hz n 1
 q:=N5 Hz
 tr:=X3 trN
 Bb:=stB YH
 fc:=HA
section
variable{α:Type}(o:FO α)
def oGt(a b:α):Bool:=cy (o.cm a b) 2
def JI(a b:α):Bool:=cy (o.cm a b) 0
def sz(a b:α):Bool:=cy (o.cm a b) 1
def ye(a b c:α):α:=o.fc (cond (oGt o b a) b a) λm=>cond (oGt o c m) c m
def Bc(a b c:α):α:=o.fc (cond (JI o b a) b a) λm=>cond (JI o c m) c m
abbrev Aw:Nat:=4602678819172646912
abbrev DA:Nat:=4607182418800017408
abbrev yx:Nat:=4611686018427387904
abbrev c40:Nat:=4616189618054758400
abbrev Ec:Nat:=4618441417868443648
abbrev Wn:Nat:=4599676419421066581
abbrev c16:Nat:=4595172819793696085
abbrev YI:Nat:=4604180019048437077
def GZ(M R r g b:α):α:=
 o.fc (o.dv (o.sub M r) R) λrc=>o.fc (o.dv (o.sub M g) R) λgc=>o.fc (o.dv (o.sub M b) R) λbc=>
 o.fc (cond (sz o r M) (o.sub bc gc) (cond (sz o g M) (o.sub (o.add (o.k yx) rc) bc) (o.sub (o.add (o.k c40) gc) rc))) λh=>o.md (o.dv h (o.k Ec))
def DB(r g b:α):Option (α×α×α):=
 o.fc (ye o r g b) λM=>o.fc (Bc o r g b) λm=>cond (sz o m M) (some (o.k 0,o.k 0,M))<|
 o.fc (o.sub M m) λR=>cond (or (o.Ci M) (o.Ci R)) none<|o.fc (GZ o M R r g b) λh=>o.fc (o.dv R M) λs=>some (h,s,M)
def YJ(a b:α):Bool:=or (JI o a b) (sz o a b)
def DC(r g b:α):Option (α×α×α):=
 o.fc (ye o r g b) λM=>o.fc (Bc o r g b) λm=>o.fc (o.add M m) λS=>o.fc (o.dv S (o.k yx)) λl=>cond (sz o m M) (some (o.k 0,l,o.k 0))<|
 o.fc (o.sub M m) λR=>o.fc (cond (YJ o l (o.k Aw)) S (o.sub (o.sub (o.k yx) M) m)) λd=>cond (or (o.Ci d) (o.Ci R)) none<|o.fc (GZ o M R r g b) λh=>o.fc (o.dv R d) λs=>some (h,l,s)
def Cj(v p q t:α):Nat->α×α×α
 |0=>(v,t,p)|1=>(q,v,p)|2=>(p,v,t)|3=>(p,q,v)|4=>(t,p,v)|_=>(v,p,q)
def G0(h s v:α):Option (α×α×α):=
 cond (sz o s (o.k 0)) (some (v,v,v))<|
 o.fc (o.mul h (o.k Ec)) λx=>cond (not (o.Bb x)) none<|
 o.fc (o.sub x (o.i (o.tr x))) λf=>o.fc (o.mul v (o.sub (o.k DA) s)) λp=>o.fc (o.mul v (o.sub (o.k DA) (o.mul s f))) λq=>o.fc (o.mul v (o.sub (o.k DA) (o.mul s (o.sub (o.k DA) f)))) λt=>
 some (Cj v p q t (o.tr x%6))
def oV(m1 m2 hue:α):α:=
 o.fc (o.md hue) λu=>cond (JI o u (o.k c16)) (o.add m1 (o.mul (o.mul (o.sub m2 m1) u) (o.k Ec)))<|
 cond (JI o u (o.k Aw)) m2<|cond (JI o u (o.k YI)) (o.add m1 (o.mul (o.mul (o.sub m2 m1) (o.sub (o.k YI) u)) (o.k Ec))) m1
def DD(h l s:α):α×α×α:=
 cond (sz o s (o.k 0)) (l,l,l)<|
 o.fc (cond (YJ o l (o.k Aw)) (o.mul l (o.add (o.k DA) s)) (o.sub (o.add l s) (o.mul l s))) λm2=>o.fc (o.sub (o.mul (o.k yx) l) m2) λm1=>
 o.fc (oV o m1 m2 (o.add h (o.k Wn))) λa=>o.fc (oV o m1 m2 h) λb=>o.fc (oV o m1 m2 (o.sub h (o.k Wn))) λc=>(a,b,c)
end
def up3(x:Nat×Nat×Nat):UInt64×UInt64×UInt64:=(bk x.1,bk x.2.1,bk x.2.2)
theorem G3(x y):FU.add (bk x) (bk y)=bk (FN.add x y):=(Dw x y).trans (congrArg bk (rv JF x y).symm)
theorem xR(x y):FU.sub (bk x) (bk y)=bk (FN.sub x y):=(Lk x y).trans (congrArg bk (rv Nv x y).symm)
theorem Ck(x y):FU.mul (bk x) (bk y)=bk (FN.mul x y):=(Wc x y).trans (congrArg bk (rv Wb x y).symm)
theorem adp(x y):FU.dv (bk x) (bk y)=bk (FN.dv x y):=(Wf x y).trans (congrArg bk (rv Wd x y).symm)
theorem aku(x):FU.md (bk x)=bk (FN.md x):=(akp x).trans (congrArg bk (JH mdN x).symm)
theorem adq(x y):FU.cm (bk x) (bk y)=FN.cm x y:=(YG x y).trans (rv cmN x y).symm
theorem arD(x n):FU.ci (bk x) n=FN.ci x n:=(akr x n).trans (rv ciN x n).symm
theorem YK(x):FU.Ci (bk x)=FN.Ci x:=(RJ x).trans (RK Nw x).symm
theorem arE(x):FU.ab (bk x)=bk (FN.ab x):=(Wi x).trans (congrArg bk (JH Wh x).symm)
theorem h_k(x):FU.k x=bk (FN.k x):=rfl
theorem h_i(x):FU.i x=bk (FN.i x):=(RI x).trans (congrArg bk (rv Hz x 1).symm)
theorem h_q(x y):FU.q x y=bk (FN.q x y):=(Dx x y).trans (congrArg bk (rv Hz x y).symm)
theorem j8(x)(k:UInt64->β):FU.fc x k=k x:=rfl
theorem uo(x)(k:Nat->β):FN.fc x k=k x:=th x k
theorem vN(b)(x y):cond b (bk x) (bk y)=bk (cond b x y):=by cases b<;>rfl
theorem arH(x y):oGt FU (bk x) (bk y)=oGt FN x y:=by unfold oGt;rw[adq]
theorem ads(x y):JI FU (bk x) (bk y)=JI FN x y:=by unfold JI;rw[adq]
theorem DE(x y):sz FU (bk x) (bk y)=sz FN x y:=by unfold sz;rw[adq]
theorem akv(x y):YJ FU (bk x) (bk y)=YJ FN x y:=by unfold YJ;rw[ads,DE]
theorem RM(x y z):ye FU (bk x) (bk y) (bk z)=bk (ye FN x y z):=by
 unfold ye;simp only[j8,uo,arH,vN]
theorem YL(x y z):Bc FU (bk x) (bk y) (bk z)=bk (Bc FN x y z):=by
 unfold Bc;simp only[j8,uo,ads,vN]
theorem YM(M R r g b):GZ FU (bk M) (bk R) (bk r) (bk g) (bk b)=bk (GZ FN M R r g b):=by
 unfold GZ;simp only[j8,uo,xR,adp,DE,h_k,G3,vN,aku]
theorem akw(r g b):DB FU (bk r) (bk g) (bk b)=(DB FN r g b).map up3:=by
 unfold DB;simp only[j8,uo,RM,YL,DE,xR,YK,YM,adp,h_k];cases sz FN (Bc FN r g b) (ye FN r g b)
 ·cases(FN.Ci (ye FN r g b)||FN.Ci (FN.sub (ye FN r g b) (Bc FN r g b)))<;>rfl
 ·rfl
theorem akx(r g b):DC FU (bk r) (bk g) (bk b)=(DC FN r g b).map up3:=by
 unfold DC;simp only[j8,uo,RM,YL,DE,xR,YK,YM,adp,h_k,G3,akv,vN];cases sz FN (Bc FN r g b) (ye FN r g b)
 ·simp only[cond_false]
  generalize (FN.Ci _||FN.Ci _)=z;cases z<;>rfl
 ·rfl
theorem aky(h:FN.Bb x=true):FU.Bb (bk x)=true/\FU.tr (bk x)=FN.tr x:=by
 have h:(gy x&&(!(Cg x)&&(b8 (gH x) 1075&&b8 (trN x) 1000000)))=true:=(RK YH x).symm.trans h;simp only[ay,cF]at h;have e:=akq x h.1 h.2.1 h.2.2.1;have hb:=cA h.2.2.2;constructor
 ·show(cO (bk x)&&(decide (0<=bX cu (bk x))&&decide (bX cu (bk x)<=1000000)))=true
  rw[adl h.1,e,decide_eq_true (by omega),decide_eq_true (by omega)];rfl
 ·show(bX cu (bk x)).toNat=X3 trN x
  rw[e,aY,JH]
theorem adt(v p q t):∀k,Cj (bk v) (bk p) (bk q) (bk t) k=up3 (Cj v p q t k)
 |0=>rfl|1=>rfl|2=>rfl|3=>rfl|4=>rfl|_+5=>rfl
theorem YN(e:G0 FN h s v=some r):G0 FU (bk h) (bk s) (bk v)=some (up3 r):=by
 unfold G0 at e⊢;simp only[j8,uo,DE,h_k,Ck,xR]at e⊢;cases h0:sz FN s (FN.k 0)with
 |true=>rw[h0]at e;cases e;rfl
 |false=>
  rw[h0]at e;simp only[cond_false]at e⊢;cases h1:FN.Bb (FN.mul h (FN.k Ec))with
  |false=>rw[h1]at e;cases e
  |true=>
   obtain⟨t1,t2⟩:=aky h1;rw[h1]at e;rw[t1,t2];simp only[rY,cond_false,h_i,xR,Ck]at e⊢;rw[adt,<-ai e]
theorem h_v(a b c):oV FU (bk a) (bk b) (bk c)=bk (oV FN a b c):=by
 unfold oV;simp only[j8,uo,aku,ads,h_k,G3,Ck,xR,vN]
theorem akz(h l s):DD FU (bk h) (bk l) (bk s)=up3 (DD FN h l s):=by
 unfold DD;simp only[j8,uo,DE,akv,h_k,G3,Ck,xR,vN,h_v];cases sz FN s (FN.k 0)<;>rfl
end
section
theorem gN(a b):uX a b=sz FU a b:=Dz _
theorem G4(a b):(ck a b==some .lt)=JI FU a b:=Dy _
theorem Ln(a b):(ck a b==some .lt||ck a b==some .eq)=YJ FU a b:=by
 rw[G4,Dz];rfl
theorem DF(a b c):AE a b c=ye FU a b c:=by
 unfold AE fgt ye;simp only[j8,Ll];rfl
theorem Lo(a b c):L9 a b c=Bc FU a b c:=by
 unfold L9 PE Bc;simp only[j8,Dy];rfl
theorem uq(h:FU.Ci b=false):az .Div (.aR a) (.aR b)=some (.aR (FU.dv a b)):=by
 show(if ij b=true then none else some (D.aR (kL a b)))=_;rw[show ij b=false from h];rfl
section
variable{T:fe}
def aK:bW:=vz "rgb_to_hsv"
def aB:List Stmt:=bo "rgb_to_hsv"
abbrev aI:Stmt:=aq 9 aB
abbrev YO:Stmt:=aq 0 (gT aI)
abbrev aSh(r g b M m R v s rc gc bc h:UInt64):cw:=[("r",.aR r),("g",.aR g),("b",.aR b),("maxc",.aR M),("minc",.aR m),("rangec",.aR R),("v",.aR v),("s",.aR s),("rc",.aR rc),("gc",.aR gc),("bc",.aR bc),("h",.aR h)]
theorem JJ(r g b M m R v s rc gc bc h)(n):cM (cY (Va T) aK [] 60 (Xa T aK [] n)) [aq 10 aB,aq 11 aB] (aSh r g b M m R v s rc gc bc h) []=some (.rt (.tup [.aR (FU.md (FU.dv h (bk Ec))),.aR s,.aR v])):=by
 refine d8 (bC (.aR (FU.md (FU.dv h (bk Ec)))) (by rfl')) ?_;exact c9 (dJ _ (by rfl'))
theorem akA(r g b)(x:UInt64×UInt64×UInt64)(e:DB FU r g b=some x):Xa T aK [] 20 aB [("r",.aR r),("g",.aR g),("b",.aR b)] []=some (.rt (.tup [.aR x.1,.aR x.2.1,.aR x.2.2])):=by
 unfold DB at e;simp only[j8]at e;rw[<-DF,<-Lo]at e;obtain⟨M,hM⟩:∃M,M=AE r g b:=⟨_,rfl⟩;obtain⟨m,hm⟩:∃m,m=L9 r g b:=⟨_,rfl⟩;rw[<-hM,<-hm]at e;refine fX (bs:=[aq 0 aB,aq 1 aB,aq 2 aB,aq 3 aB,aq 4 aB,aq 5 aB,aq 6 aB,aq 7 aB,aq 8 aB,aq 9 aB,aq 10 aB,aq 11 aB]) ?_;refine d8 (bC (.aR M) (tr (b:=bY .max [.aR r,.aR g,.aR b]) (by rw[hM];rfl))) ?_;refine d8 (bC (.aR m) (tr (b:=bY .min [.aR r,.aR g,.aR b]) (by rw[hm];rfl))) ?_;clear hM hm;refine d8 (bC (.aR (FU.sub M m)) (by rfl')) ?_;refine d8 (bC (.aR M) (by rfl')) ?_;generalize hR:FU.sub M m=R at e⊢;cases h0:sz FU m M with
 |true=>
  rw[h0]at e;cases e;refine gU (b:=[aq 0 (aS (aq 4 aB))]) (tr (b:=some (uX m M)) (by rw[gN,h0])) (fX (bs:=[aq 0 (aS (aq 4 aB))]) (c9 (dJ _ (by rfl'))))
 |false=>
  rw[h0,cond_false]at e;cases hz:(FU.Ci M||FU.Ci R)with
  |true=>rw[hz]at e;cases e
  |false=>
   rw[hz,cond_false]at e;cases e;rw[nZ]at hz;refine cS (b:=[]) (tr (b:=some (uX m M)) (by rw[gN,h0])) (fX (bs:=[]) rfl) ?_;refine d8 (bC (.aR (FU.dv R M)) (tr (uq hz.1))) ?_;refine d8 (bC (.aR (FU.dv (FU.sub M r) R)) (tr (uq (a:=FU.sub M r) hz.2))) ?_;refine d8 (bC (.aR (FU.dv (FU.sub M g) R)) (tr (uq (a:=FU.sub M g) hz.2))) ?_;refine d8 (bC (.aR (FU.dv (FU.sub M b) R)) (tr (uq (a:=FU.sub M b) hz.2))) ?_;unfold GZ;simp only[j8];generalize FU.dv R M=s;generalize FU.dv (FU.sub M r) R=rc;generalize FU.dv (FU.sub M g) R=gc;generalize FU.dv (FU.sub M b) R=bc;cases h1:sz FU r M with
   |true=>
    refine l8 (b:=[aq 0 (aS aI)]) (σ':=aSh r g b M m R M s rc gc bc (FU.sub bc gc)) (own':=[]) (tr (b:=some (uX r M)) (by rw[gN,h1])) ?_ (JJ ..);exact fX (bs:=[aq 0 (aS aI)]) (d8 (bC (.aR (FU.sub bc gc)) (by rfl')) (by rfl'))
   |false=>
    cases h2:sz FU g M with
    |true=>
     refine cS (b:=[YO]) (σ':=aSh r g b M m R M s rc gc bc (FU.sub (FU.add (bk yx) rc) bc)) (own':=[]) (tr (b:=some (uX r M)) (by rw[gN,h1])) ?_ (JJ ..);refine fX (bs:=[YO]) (l8 (b:=[aq 0 (aS YO)]) (σ':=aSh r g b M m R M s rc gc bc (FU.sub (FU.add (bk yx) rc) bc)) (own':=[]) (tr (b:=some (uX g M)) (by rw[gN,h2])) ?_ rfl);exact fX (bs:=[aq 0 (aS YO)]) (d8 (bC (.aR (FU.sub (FU.add (bk yx) rc) bc)) (by rfl')) (by rfl'))
    |false=>
     refine cS (b:=[YO]) (σ':=aSh r g b M m R M s rc gc bc (FU.sub (FU.add (bk c40) gc) rc)) (own':=[]) (tr (b:=some (uX r M)) (by rw[gN,h1])) ?_ (JJ ..);refine fX (bs:=[YO]) (cS (b:=[aq 0 (gT YO)]) (σ':=aSh r g b M m R M s rc gc bc (FU.sub (FU.add (bk c40) gc) rc)) (own':=[]) (tr (b:=some (uX g M)) (by rw[gN,h2])) ?_ rfl);exact fX (bs:=[aq 0 (gT YO)]) (d8 (bC (.aR (FU.sub (FU.add (bk c40) gc) rc)) (by rfl')) (by rfl'))
end
end
section
section
variable{T:fe}
def bK:bW:=vz "rgb_to_hls"
def bB:List Stmt:=bo "rgb_to_hls"
abbrev bI:Stmt:=aq 10 bB
abbrev YQ:Stmt:=aq 0 (gT bI)
abbrev bL:Stmt:=aq 6 bB
abbrev bS(r g b M m S R l s:UInt64):cw:=[("r",.aR r),("g",.aR g),("b",.aR b),("maxc",.aR M),("minc",.aR m),("sumc",.aR S),("rangec",.aR R),("l",.aR l),("s",.aR s)]
abbrev bSh(r g b M m S R l s rc gc bc h:UInt64):cw:=[("r",.aR r),("g",.aR g),("b",.aR b),("maxc",.aR M),("minc",.aR m),("sumc",.aR S),("rangec",.aR R),("l",.aR l),("s",.aR s),("rc",.aR rc),("gc",.aR gc),("bc",.aR bc),("h",.aR h)]
theorem JK(r g b M m S R l s rc gc bc h)(n):cM (cY (Va T) bK [] 60 (Xa T bK [] n)) [aq 11 bB,aq 12 bB] (bSh r g b M m S R l s rc gc bc h) []=some (.rt (.tup [.aR (FU.md (FU.dv h (bk Ec))),.aR l,.aR s])):=by
 refine d8 (bC (.aR (FU.md (FU.dv h (bk Ec)))) (by rfl')) ?_;exact c9 (dJ _ (by rfl'))
theorem YR(r g b M m S R l s)(n)(hz:FU.Ci R=false):cM (cY (Va T) bK [] 60 (Xa T bK [] (n+2))) [aq 7 bB,aq 8 bB,aq 9 bB,aq 10 bB,aq 11 bB,aq 12 bB] (bS r g b M m S R l s) []=some (.rt (.tup [.aR (GZ FU M R r g b),.aR l,.aR s])):=by
 refine d8 (bC (.aR (FU.dv (FU.sub M r) R)) (tr (uq (a:=FU.sub M r) hz))) ?_;refine d8 (bC (.aR (FU.dv (FU.sub M g) R)) (tr (uq (a:=FU.sub M g) hz))) ?_;refine d8 (bC (.aR (FU.dv (FU.sub M b) R)) (tr (uq (a:=FU.sub M b) hz))) ?_;unfold GZ;simp only[j8];generalize FU.dv (FU.sub M r) R=rc;generalize FU.dv (FU.sub M g) R=gc;generalize FU.dv (FU.sub M b) R=bc;cases h1:sz FU r M with
 |true=>
  refine l8 (b:=[aq 0 (aS bI)]) (σ':=bSh r g b M m S R l s rc gc bc (FU.sub bc gc)) (own':=[]) (tr (b:=some (uX r M)) (by rw[gN,h1])) ?_ (JK ..);exact fX (bs:=[aq 0 (aS bI)]) (d8 (bC (.aR (FU.sub bc gc)) (by rfl')) (by rfl'))
 |false=>
  cases h2:sz FU g M with
  |true=>
   refine cS (b:=[YQ]) (σ':=bSh r g b M m S R l s rc gc bc (FU.sub (FU.add (bk yx) rc) bc)) (own':=[]) (tr (b:=some (uX r M)) (by rw[gN,h1])) ?_ (JK ..);refine fX (bs:=[YQ]) (l8 (b:=[aq 0 (aS YQ)]) (σ':=bSh r g b M m S R l s rc gc bc (FU.sub (FU.add (bk yx) rc) bc)) (own':=[]) (tr (b:=some (uX g M)) (by rw[gN,h2])) ?_ rfl);exact fX (bs:=[aq 0 (aS YQ)]) (d8 (bC (.aR (FU.sub (FU.add (bk yx) rc) bc)) (by rfl')) (by rfl'))
  |false=>
   refine cS (b:=[YQ]) (σ':=bSh r g b M m S R l s rc gc bc (FU.sub (FU.add (bk c40) gc) rc)) (own':=[]) (tr (b:=some (uX r M)) (by rw[gN,h1])) ?_ (JK ..);refine fX (bs:=[YQ]) (cS (b:=[aq 0 (gT YQ)]) (σ':=bSh r g b M m S R l s rc gc bc (FU.sub (FU.add (bk c40) gc) rc)) (own':=[]) (tr (b:=some (uX g M)) (by rw[gN,h2])) ?_ rfl);exact fX (bs:=[aq 0 (gT YQ)]) (d8 (bC (.aR (FU.sub (FU.add (bk c40) gc) rc)) (by rfl')) (by rfl'))
theorem akB(r g b)(x:UInt64×UInt64×UInt64)(e:DC FU r g b=some x):Xa T bK [] 20 bB [("r",.aR r),("g",.aR g),("b",.aR b)] []=some (.rt (.tup [.aR x.1,.aR x.2.1,.aR x.2.2])):=by
 unfold DC at e;simp only[j8]at e;rw[<-DF,<-Lo]at e;obtain⟨M,hM⟩:∃M,M=AE r g b:=⟨_,rfl⟩;obtain⟨m,hm⟩:∃m,m=L9 r g b:=⟨_,rfl⟩;rw[<-hM,<-hm]at e;refine fX (bs:=[aq 0 bB,aq 1 bB,aq 2 bB,aq 3 bB,aq 4 bB,aq 5 bB,aq 6 bB,aq 7 bB,aq 8 bB,aq 9 bB,aq 10 bB,aq 11 bB,aq 12 bB]) ?_;refine d8 (bC (.aR M) (tr (b:=bY .max [.aR r,.aR g,.aR b]) (by rw[hM];rfl))) ?_;refine d8 (bC (.aR m) (tr (b:=bY .min [.aR r,.aR g,.aR b]) (by rw[hm];rfl))) ?_;clear hM hm;refine d8 (bC (.aR (FU.add M m)) (by rfl')) ?_;refine d8 (bC (.aR (FU.sub M m)) (by rfl')) ?_;refine d8 (bC (.aR (FU.dv (FU.add M m) (bk yx))) (by rfl')) ?_;generalize hR:FU.sub M m=R at e⊢;generalize hS:FU.add M m=S at e⊢;rw[show FU.k yx=bk yx from rfl]at e;generalize hl:FU.dv S (bk yx)=l at e⊢;cases h0:sz FU m M with
 |true=>
  rw[h0]at e;cases e;refine gU (b:=[aq 0 (aS (aq 5 bB))]) (tr (b:=some (uX m M)) (by rw[gN,h0])) (fX (bs:=[aq 0 (aS (aq 5 bB))]) (c9 (dJ _ (by rfl'))))
 |false=>
  rw[h0,cond_false]at e;refine cS (b:=[]) (tr (b:=some (uX m M)) (by rw[gN,h0])) (fX (bs:=[]) rfl) ?_;rw[show FU.k Aw=bk Aw from rfl]at e;cases h1:YJ FU l (bk Aw)with
  |true=>
   rw[h1,cond_true]at e;cases hz:(FU.Ci S||FU.Ci R)with
   |true=>rw[hz]at e;cases e
   |false=>
    rw[hz,cond_false]at e;cases e;rw[nZ]at hz;refine l8 (b:=[aq 0 (aS bL)]) (σ':=bS r g b M m S R l (FU.dv R S)) (own':=[]) (tr (b:=some (ck l (bk Aw)==some .lt||ck l (bk Aw)==some .eq)) (by rw[Ln,h1])) ?_ (YR _ _ _ _ _ _ _ _ _ 17 hz.2);exact fX (bs:=[aq 0 (aS bL)]) (d8 (bC (.aR (FU.dv R S)) (tr (uq hz.1))) (by rfl'))
  |false=>
   rw[h1,cond_false]at e;cases hz:(FU.Ci (FU.sub (FU.sub (bk yx) M) m)||FU.Ci R)with
   |true=>rw[hz]at e;cases e
   |false=>
    rw[hz,cond_false]at e;cases e;rw[nZ]at hz;refine cS (b:=[aq 0 (gT bL)]) (σ':=bS r g b M m S R l (FU.dv R (FU.sub (FU.sub (bk yx) M) m))) (own':=[]) (tr (b:=some (ck l (bk Aw)==some .lt||ck l (bk Aw)==some .eq)) (by rw[Ln,h1])) ?_ (YR _ _ _ _ _ _ _ _ _ 17 hz.2);exact fX (bs:=[aq 0 (gT bL)]) (d8 (bC (.aR (FU.dv R (FU.sub (FU.sub (bk yx) M) m))) (tr (uq hz.1))) (by rfl'))
end
end
section
theorem G5{a b:Nat}(hb:0<b):az .Mod (.int a) (.int b)=some (.int (a%b:Nat)):=by
 show ec (if(b:Int)≠0 then some (D.int ((a:Int).fmod b))else none) _=_;rw[if_pos (by omega),bM _ (by omega)];rfl
section
variable{T:fe}
def hK:bW:=vz "hsv_to_rgb"
def hB:List Stmt:=bo "hsv_to_rgb"
abbrev hS(h s v:UInt64)(i:Int)(f p q t:UInt64):cw:=[("h",.aR h),("s",.aR s),("v",.aR v),("i",.int i),("f",.aR f),("p",.aR p),("q",.aR q),("t",.aR t)]
theorem six{P:Nat->Prop}(h0:P 0)(h1:P 1)(h2:P 2)(h3:P 3)(h4:P 4)(h5:P 5):∀k,k<6->P k
 |0,_=>h0|1,_=>h1|2,_=>h2|3,_=>h3|4,_=>h4|5,_=>h5
theorem adu(h s v:UInt64)(f p q t:UInt64)(n:Nat):∀(k:Nat),k<6->cM (cY (Va T) hK [] 60 (Xa T hK [] (n+1))) [aq 7 hB,aq 8 hB,aq 9 hB,aq 10 hB,aq 11 hB,aq 12 hB] (hS h s v k f p q t) []=some (.rt (.tup [.aR (Cj v p q t k).1,.aR (Cj v p q t k).2.1,.aR (Cj v p q t k).2.2])):=
 six (by rfl') (by rfl') (by rfl') (by rfl') (by rfl') (by rfl')
theorem akC(h s v)(r:UInt64×UInt64×UInt64)(e:G0 FU h s v=some r):Xa T hK [] 20 hB [("h",.aR h),("s",.aR s),("v",.aR v)] []=some (.rt (.tup [.aR r.1,.aR r.2.1,.aR r.2.2])):=by
 unfold G0 at e;simp only[j8]at e;refine fX (bs:=[aq 0 hB,aq 1 hB,aq 2 hB,aq 3 hB,aq 4 hB,aq 5 hB,aq 6 hB,aq 7 hB,aq 8 hB,aq 9 hB,aq 10 hB,aq 11 hB,aq 12 hB]) ?_;rw[show FU.k 0=bk 0 from rfl,show FU.k Ec=bk Ec from rfl,show FU.k DA=bk DA from rfl]at e;cases h0:sz FU s (bk 0)with
 |true=>
  rw[h0]at e;cases e;exact gU (b:=[aq 0 (aS (aq 0 hB))]) (tr (b:=some (uX s (bk 0))) (by rw[gN,h0])) (fX (bs:=[aq 0 (aS (aq 0 hB))]) (c9 (dJ _ (by rfl'))))
 |false=>
  rw[h0,cond_false]at e;refine cS (b:=[]) (tr (b:=some (uX s (bk 0))) (by rw[gN,h0])) (fX (bs:=[]) rfl) ?_;generalize hx:FU.mul h (bk Ec)=x at e;cases h1:FU.Bb x with
  |false=>rw[h1]at e;cases e
  |true=>
   rw[h1,rY,cond_false]at e;have h1:(cO x&&(decide (0<=bX cu x)&&decide (bX cu x<=1000000)))=true:=h1;simp only[ay,decide_eq_true_eq]at h1;have hi:bX cu x=((FU.tr x:Nat):Int):=by
    show _=(((bX cu x).toNat:Nat):Int)
    omega
   generalize hm:FU.tr x=i at e hi;have hil:i<=1000000:=by omega
   have hx2:bY .int [.aR x]=some (.int (i:Int)):=by
    show(if cO x=true then some (D.int (bX cu x))else none)=_;rw[if_pos h1.1,hi]
   refine d8 (bC (.int (i:Int)) (tr (b:=bY .int [.aR (FU.mul h (bk Ec))]) (by rw[hx];exact hx2))) ?_;have hs:az .Sub (.aR (FU.mul h (bk Ec))) (.int (i:Int))=some (.aR (FU.sub x (FU.i i))):=by
    show(if sm (i:Int)=true then some (D.aR (iG (FU.mul h (bk Ec)) (gn (i:Int))))else none)=_;rw[if_pos (iW (by omega) (by omega)),hx];rfl
   refine d8 (bC (.aR (FU.sub x (FU.i i))) (tr hs)) ?_;generalize FU.sub x (FU.i i)=f at e⊢;refine d8 (bC (.aR (FU.mul v (FU.sub (bk DA) s))) (by rfl')) ?_;refine d8 (bC (.aR (FU.mul v (FU.sub (bk DA) (FU.mul s f)))) (by rfl')) ?_;refine d8 (bC (.aR (FU.mul v (FU.sub (bk DA) (FU.mul s (FU.sub (bk DA) f))))) (by rfl')) ?_;generalize FU.mul v (FU.sub (bk DA) s)=p at e⊢;generalize FU.mul v (FU.sub (bk DA) (FU.mul s f))=q at e⊢;generalize FU.mul v (FU.sub (bk DA) (FU.mul s (FU.sub (bk DA) f)))=t at e⊢;have h6:az .Mod (.int (i:Int)) (.int 6)=some (.int ((i%6:Nat):Int)):=by
    have:=G5 (a:=i) (b:=6) (by omega);exact this
   have hk:i%6<6:=dA _ (by decide);generalize i%6=k at e h6 hk;refine d8 (bC (.int (k:Int)) (tr h6)) ?_;have:=adu (T:=T) h s v f p q t 18 k hk;refine Ei (b:=cM (cY (Va T) hK [] 60 (Xa T hK [] 19)) [aq 7 hB,aq 8 hB,aq 9 hB,aq 10 hB,aq 11 hB,aq 12 hB] (hS h s v k f p q t) []) (by rfl') (this.trans ?_);rw[ai e]
end
end
section
theorem arJ:Vg "ONE_THIRD"=some (.aR (bk Wn)):=by rfl'
theorem arK:Vg "ONE_SIXTH"=some (.aR (bk c16)):=by rfl'
theorem akD:Vg "TWO_THIRD"=some (.aR (bk YI)):=by rfl'
section
variable{T:fe}
def cK:bW:=vz "_v"
def cB:List Stmt:=bo "_v"
theorem akE(hI:nR T)(m1 m2 u0):Xa T cK [] 20 cB [("m1",.aR m1),("m2",.aR m2),("hue",.aR u0)] []=some (.rt (.aR (oV FU m1 m2 u0))):=by
 unfold oV;rw[j8];refine fX (bs:=[aq 0 cB,aq 1 cB,aq 2 cB,aq 3 cB,aq 4 cB]) ?_;refine d8 (bC (.aR (FU.md u0)) (by rfl')) ?_;generalize FU.md u0=u;rw[show FU.k Ec=bk Ec from rfl,show FU.k c16=bk c16 from rfl,show FU.k Aw=bk Aw from rfl,show FU.k YI=bk YI from rfl];have t1:(T.gl "ONE_SIXTH").bind (λd=>cmp .Lt (.aR u) d)=some (JI FU u (bk c16)):=by
  rw[hI.gl,arK];show some (ck u (bk c16)==some .lt)=_;rw[G4]
 have t3:(T.gl "TWO_THIRD").bind (λd=>cmp .Lt (.aR u) d)=some (JI FU u (bk YI)):=by
  rw[hI.gl,akD];show some (ck u (bk YI)==some .lt)=_;rw[G4]
 cases h1:JI FU u (bk c16)with
 |true=>
  rw[h1]at t1;exact gU (b:=[aq 0 (aS (aq 1 cB))]) (tr t1) (fX (bs:=[aq 0 (aS (aq 1 cB))]) (c9 (dJ _ (by rfl'))))
 |false=>
  rw[h1]at t1;refine cS (b:=[]) (tr t1) (fX (bs:=[]) rfl) ?_;cases h2:JI FU u (bk Aw)with
  |true=>exact gU (b:=[aq 0 (aS (aq 2 cB))]) (tr (b:=some (ck u (bk Aw)==some .lt)) (by rw[G4,h2])) (fX (bs:=[aq 0 (aS (aq 2 cB))]) (c9 (dJ _ (by rfl'))))
  |false=>
   refine cS (b:=[]) (tr (b:=some (ck u (bk Aw)==some .lt)) (by rw[G4,h2])) (fX (bs:=[]) rfl) ?_;cases h3:JI FU u (bk YI)with
   |true=>
    rw[h3]at t3;refine gU (b:=[aq 0 (aS (aq 3 cB))]) (tr t3) (fX (bs:=[aq 0 (aS (aq 3 cB))]) (c9 (dJ _ (tr (b:=(((T.gl "TWO_THIRD").bind λd=>az .Sub d (.aR u)).bind λd=>az .Mult (.aR (FU.sub m2 m1)) d).bind (λd=>az .Mult d (.aR (bk Ec))) |>.bind λd=>az .Add (.aR m1) d) ?_))));rw[hI.gl,akD];rfl
   |false=>
    rw[h3]at t3;refine cS (b:=[]) (tr t3) (fX (bs:=[]) rfl) ?_;exact c9 (dJ _ (by rfl'))
def dK2:bW:=vz "hls_to_rgb"
def S6:List Stmt:=bo "hls_to_rgb"
abbrev dI3:Stmt:=aq 1 S6
def VS(T:fe):Prop:=∀a b c:UInt64,T.fn "_v" [.aR a,.aR b,.aR c]=some (.aR (oV FU a b c))
theorem RN(hI:nR T)(hV:VS T)(h l s m2:UInt64)(n:Nat):cM (cY (Va T) dK2 [] 60 (Xa T dK2 [] n)) [aq 2 S6,aq 3 S6] [("h",.aR h),("l",.aR l),("s",.aR s),("m2",.aR m2)] []=
 some (.rt (.tup [.aR (oV FU (FU.sub (FU.mul (bk yx) l) m2) m2 (FU.add h (bk Wn))),.aR (oV FU (FU.sub (FU.mul (bk yx) l) m2) m2 h),.aR (oV FU (FU.sub (FU.mul (bk yx) l) m2) m2 (FU.sub h (bk Wn)))])):=by
 refine d8 (bC (.aR (FU.sub (FU.mul (bk yx) l) m2)) (by rfl')) ?_;generalize FU.sub (FU.mul (bk yx) l) m2=m1;refine c9 (dJ _ (tr (b:=((((((((T.gl "ONE_THIRD").bind λd=>az .Add (.aR h) d).bind λd=>some [d]).bind λds=>some (.aR m2::ds)).bind λds=>some (.aR m1::ds)).bind λds=>T.fn "_v" ds).bind λa=>((T.fn "_v" [.aR m1,.aR m2,.aR h]).bind λb=>(((((((T.gl "ONE_THIRD").bind λd=>az .Sub (.aR h) d).bind λd=>some [d]).bind λds=>some (.aR m2::ds)).bind λds=>some (.aR m1::ds)).bind λds=>T.fn "_v" ds).bind λc=>some [c]).bind λds=>some (b::ds)).bind λds=>some (a::ds)).bind λds=>if ds.length<=dC then some (.tup ds)else none)) ?_));rw[hI.gl,arJ];show(((T.fn "_v" [.aR m1,.aR m2,.aR (FU.add h (bk Wn))]).bind λa=>((T.fn "_v" [.aR m1,.aR m2,.aR h]).bind λb=>((T.fn "_v" [.aR m1,.aR m2,.aR (FU.sub h (bk Wn))]).bind λc=>some [c]).bind λds=>some (b::ds)).bind λds=>some (a::ds)).bind λds=>if ds.length<=dC then some (D.tup ds)else none)=_;rw[hV,hV,hV,af,af,af,af,af,af,if_pos (by rw[dO];show(3:Nat)<=1048576;decide)]
theorem akF(hI:nR T)(hV:VS T)(h l s:UInt64):Xa T dK2 [] 20 S6 [("h",.aR h),("l",.aR l),("s",.aR s)] []=some (.rt (.tup [.aR (DD FU h l s).1,.aR (DD FU h l s).2.1,.aR (DD FU h l s).2.2])):=by
 unfold DD;simp only[j8];rw[show FU.k 0=bk 0 from rfl,show FU.k yx=bk yx from rfl,show FU.k Aw=bk Aw from rfl,show FU.k DA=bk DA from rfl,show FU.k Wn=bk Wn from rfl];refine fX (bs:=[aq 0 S6,aq 1 S6,aq 2 S6,aq 3 S6]) ?_;cases h0:sz FU s (bk 0)with
 |true=>exact gU (b:=[aq 0 (aS (aq 0 S6))]) (tr (b:=some (uX s (bk 0))) (by rw[gN,h0])) (fX (bs:=[aq 0 (aS (aq 0 S6))]) (c9 (dJ _ (by rfl'))))
 |false=>
  refine cS (b:=[]) (tr (b:=some (uX s (bk 0))) (by rw[gN,h0])) (fX (bs:=[]) rfl) ?_;cases h1:YJ FU l (bk Aw)with
  |true=>
   refine l8 (b:=[aq 0 (aS dI3)]) (σ':=[("h",.aR h),("l",.aR l),("s",.aR s),("m2",.aR (FU.mul l (FU.add (bk DA) s)))]) (own':=[]) (tr (b:=some (ck l (bk Aw)==some .lt||ck l (bk Aw)==some .eq)) (by rw[Ln,h1])) ?_ (RN hI hV _ _ _ _ _);exact fX (bs:=[aq 0 (aS dI3)]) (d8 (bC (.aR (FU.mul l (FU.add (bk DA) s))) (by rfl')) (by rfl'))
  |false=>
   refine cS (b:=[aq 0 (gT dI3)]) (σ':=[("h",.aR h),("l",.aR l),("s",.aR s),("m2",.aR (FU.sub (FU.add l s) (FU.mul l s)))]) (own':=[]) (tr (b:=some (ck l (bk Aw)==some .lt||ck l (bk Aw)==some .eq)) (by rw[Ln,h1])) ?_ (RN hI hV _ _ _ _ _);exact fX (bs:=[aq 0 (gT dI3)]) (d8 (bC (.aR (FU.sub (FU.add l s) (FU.mul l s))) (by rfl')) (by rfl'))
end
def t3(x:UInt64×UInt64×UInt64):D:=.tup [.aR x.1,.aR x.2.1,.aR x.2.2]
structure CS(T:fe):Prop where
 hsv:∀r g b x,DB FU r g b=some x->T.fn "rgb_to_hsv" [.aR r,.aR g,.aR b]=some (t3 x)
 hls:∀r g b x,DC FU r g b=some x->T.fn "rgb_to_hls" [.aR r,.aR g,.aR b]=some (t3 x)
 rgb:∀h s v x,G0 FU h s v=some x->T.fn "hsv_to_rgb" [.aR h,.aR s,.aR v]=some (t3 x)
 rgl:∀h l s,T.fn "hls_to_rgb" [.aR h,.aR l,.aR s]=some (t3 (DD FU h l s))
theorem akG(hp:∀f,(f==("_int2digits":Str))=false->(f==("_digits2int":Str))=false->prim f=none)(r:Nat):CS (Tn prim (r+2)):=
 ⟨λr g b x e=>eZ (["r","g","b"]:List Str) (hp _ (by decide) (by decide)) (akA r g b x e),λr g b x e=>eZ (["r","g","b"]:List Str) (hp _ (by decide) (by decide)) (akB r g b x e),
  λh s v x e=>eZ (["h","s","v"]:List Str) (hp _ (by decide) (by decide)) (akC h s v x e),
  λh l s=>eZ (["h","l","s"]:List Str) (hp _ (by decide) (by decide)) (akF (uc prim _) (λa b c=>eZ (["m1","m2","hue"]:List Str) (hp _ (by decide) (by decide)) (akE (uc prim r) a b c)) h l s)⟩
end
section
section
variable{α:Type}(o:FO α)
def xS(c:α×α×α)(d:α×α):Option Nat:=
 o.fc (o.mul (o.i 192) c.1) λx=>o.fc (o.add x (o.q 1 2)) λy=>cond (not (o.Bb y)) none<|
 o.fc (o.ab (o.sub x (o.i (o.tr y)))) λe1=>o.fc (o.ab (o.sub c.2.1 d.1)) λe2=>o.fc (o.ab (o.sub c.2.2 d.2)) λe3=>
 o.fc (o.mul (ye o e1 e2 e3) (o.i 1048576)) λz=>cond (cy (o.ci z 1) 0) (some (o.tr y%192)) none
end
theorem RO(h:xS FN (a,b,c) (d,e)=some n):xS FU (bk a,bk b,bk c) (bk d,bk e)=some n:=by
 unfold xS at h⊢;simp only[j8,uo,h_i,Ck,h_q,G3]at h⊢;cases h1:FN.Bb (FN.add (FN.mul (FN.i 192) a) (FN.q 1 2))with
 |false=>rw[h1]at h;cases h
 |true=>
  obtain⟨t1,t2⟩:=aky h1;rw[h1]at h;rw[t1,t2];simp only[rY,cond_false,h_i,xR,arE,RM,Ck,arD]at h⊢;exact h
section
variable{T:fe}
def uK3:bW:=vz "_law_turned"
def uB3:List Stmt:=bo "_law_turned"
def pr(x y:UInt64):D:=.tup [.aR x,.aR y]
theorem akH(a b c d e)(n)(h:xS FU (a,b,c) (d,e)=some n):Xa T uK3 [] 20 uB3 [("colour",t3 (a,b,c)),("due",pr d e)] []=some (.rt (.int n)):=by
 unfold xS at h;simp only[j8]at h;generalize hx:FU.mul (FU.i 192) a=x at h;generalize hy:FU.add x (FU.q 1 2)=y at h;cases h1:FU.Bb y with
 |false=>rw[h1]at h;cases h
 |true=>
  rw[h1,rY,cond_false]at h;have h1:(cO y&&(decide (0<=bX cu y)&&decide (bX cu y<=1000000)))=true:=h1;simp only[ay,decide_eq_true_eq]at h1;have hi:bX cu y=((FU.tr y:Nat):Int):=by
   show _=(((bX cu y).toNat:Nat):Int)
   omega
  generalize FU.tr y=i at h hi;have hil:i<=1000000:=by omega
  have hx2:bY .int [.aR y]=some (.int (i:Int)):=by
   show(if cO y=true then some (D.int (bX cu y))else none)=_;rw[if_pos h1.1,hi]
  have hs:az .Sub (.aR x) (.int (i:Int))=some (.aR (FU.sub x (FU.i i))):=by
   show(if sm (i:Int)=true then some (D.aR (iG x (gn (i:Int))))else none)=_;rw[if_pos (iW (by omega) (by omega))];rfl
  rw[<-DF]at h;generalize FU.sub x (FU.i i)=w at h hs;cases hz:cy (FU.ci (FU.mul (AE (FU.ab w) (FU.ab (FU.sub b d)) (FU.ab (FU.sub c e))) (FU.i 1048576)) 1) 0 with
  |false=>rw[hz]at h;cases h
  |true=>
   rw[hz,cond_true]at h;cases h;have hge:cmp .GtE (.aR (FU.mul (AE (FU.ab w) (FU.ab (FU.sub b d)) (FU.ab (FU.sub c e))) (FU.i 1048576))) (.int 1)=some false:=by
    show some (gE _ 1==some .gt||gE _ 1==some .eq)=_;have hq:nW (gE (FU.mul (AE (FU.ab w) (FU.ab (FU.sub b d)) (FU.ab (FU.sub c e))) (FU.i 1048576)) 1)=0:=el hz;rw[Ll,Dz,hq];rfl
   have hm:az .Mod (.int (i:Int)) (.int 192)=some (.int ((i%192:Nat):Int)):=by
    have:=G5 (a:=i) (b:=192) (by omega);exact this
   refine fX (bs:=[aq 0 uB3,aq 1 uB3]) ?_;refine d8 (bC (.int (i:Int)) (tr (b:=bY .int [.aR (FU.add (FU.mul (FU.i 192) a) (FU.q 1 2))]) (by rw[hx,hy];exact hx2))) ?_;refine c9 (dJ _ (tr (b:=((((((az .Sub (.aR (FU.mul (FU.i 192) a)) (.int (i:Int))).bind λd=>some [d]).bind λds=>bY .abs ds).bind λd1=>some [d1,.aR (FU.ab (FU.sub b d)),.aR (FU.ab (FU.sub c e))]).bind λds=>bY .max ds).bind λm=>az .Mult m (.int 1048576)).bind (λz=>cmp .GtE z (.int 1)) |>.bind λc=>if c=true then some (.int (-1))else az .Mod (.int (i:Int)) (.int 192)) ?_));have hmul:∀m:UInt64,az .Mult (.aR m) (.int 1048576)=some (.aR (FU.mul m (FU.i 1048576))):=λm=>by
    show ec (if sm 1048576=true then some (D.aR (iH m (gn 1048576)))else none) _=_;rw[if_pos (iW (by decide) (by decide))];rfl
   rw[hx,hs,hm,af,af,show bY .abs [.aR w]=some (.aR (FU.ab w))from rfl,af,af,
    show bY .max [.aR (FU.ab w),.aR (FU.ab (FU.sub b d)),.aR (FU.ab (FU.sub c e))]=some (.aR (AE (FU.ab w) (FU.ab (FU.sub b d)) (FU.ab (FU.sub c e))))from rfl,af,hmul,af,hge]
   rfl
end
end
section
def Wo(x y:Option D):Option D:=(x.bind λa=>(y.bind λb=>some [b]).bind λds=>some (a::ds)).bind λds=>if ds.length<=dC then some (.tup ds)else none
def Wq(x:Option D):Option D:=(x.bind λa=>some [a]).bind λds=>if ds.length<=dC then some (.tup ds)else none
def akI(x y:Option D):Option D:=(x.bind λa=>(y.bind λb=>some [b]).bind λds=>some (a::ds)).bind λds=>if ds.length<=dC then some (.lst ds)else none
section
variable{T:fe}
def wK3:bW:=vz "_law_others"
def G6:List Stmt:=bo "_law_others"
def Cm(T:fe)(f:Str)(a:Option D)(b c:D):Option D:=(a.bind λa=>some [a,b,c]).bind λds=>T.fn f ds
def Lq(T:fe)(f:Str)(r g b:D)(due:D):Option D:=((T.fn f [r,g,b]).bind λa=>some [a,due]).bind λds=>T.fn "_law_turned" ds
theorem akJ(way fU st sh va li ah be w:Int)(s1 v1 l1 t1 h0:UInt64)(r g b r2 g2 b2 r3 g3 b3:UInt64)
(e0:(((az .Mult (.int 64) (.int way)).bind λd=>az .Add d (.int 2)).bind λd=>az .FloorDiv d (.int 3)).bind (λa=>az .Add a (.int ((fU.fdiv 16).fmod 21)))=some (.int st))(e1:1+fU.fmod 4=sh)(e2:1+(fU.fdiv 4).fmod 4=va)
(e3:az .Mult (.int va) (.int (8 - sh))=some (.int li))(e4:az .Div (.int sh) (.int 4)=some (.aR s1))(e5:az .Div (.int va) (.int 4)=some (.aR v1))(e6:az .Div (.int li) (.int 32)=some (.aR l1))
(e7:(az .Mult (.int sh) (.int va)).bind (λa=>(bY .min [.int li,.int (32 - li)]).bind λb=>az .Div a b)=some (.aR t1))(e8:az .Div (.int st) (.int 64)=some (.aR h0))
(f1:T.fn "hsv_to_rgb" [.aR h0,.aR s1,.aR v1]=some (t3 (r,g,b)))(f2:∃x,T.fn "rgb_to_hsv" [.aR r,.aR g,.aR b]=some x/\cmp .NotEq x (.tup [.aR h0,.aR s1,.aR v1])=some false)(f3:∃x,T.fn "rgb_to_hls" [.aR r,.aR g,.aR b]=some x/\cmp .NotEq x (.tup [.aR h0,.aR l1,.aR t1])=some false)
(f4:T.fn "hsv_to_rgb" [.aR (iF h0 (o7 1 3)),.aR s1,.aR v1]=some (t3 (r2,g2,b2)))(f5:Lq T "rgb_to_hls" (.aR r2) (.aR g2) (.aR b2) (pr l1 t1)=some (.int ah))
(f6:T.fn "hls_to_rgb" [.aR (iG h0 (o7 1 3)),.aR l1,.aR t1]=some (t3 (r3,g3,b3)))(f7:Lq T "rgb_to_hsv" (.aR r3) (.aR g3) (.aR b3) (pr s1 v1)=some (.int be))
(e9:az .Mult (.int 3) (.int st)=some (.int w))(ea:ah=(w+64).fmod 192)(eb:be=(w+128).fmod 192):
 Xa T wK3 [] 20 G6 [("way",.int way),("tints",.int fU)] []=some (.rt (.lst (if ah.fdiv 64<=be.fdiv 64 then[.int (ah.fdiv 64),.int (be.fdiv 64)]else[.int (be.fdiv 64),.int (ah.fdiv 64)]))):=by
 have eY:=dO;refine fX (bs:=[aq 0 G6,aq 1 G6,aq 2 G6,aq 3 G6,aq 4 G6,aq 5 G6,aq 6 G6,aq 7 G6,aq 8 G6,aq 9 G6]) ?_;refine d8 (l6 ["step","share","value"] [ub 0 (aq 0 G6),ub 1 (aq 0 G6),ub 2 (aq 0 G6)] (dm (lZ (d:=.int st) (tr e0)) (dm (lZ (d:=.int sh) (tr (b:=some (.int (1+fU.fmod 4))) (by rw[e1]))) (dm (lZ (d:=.int va) (tr (b:=some (.int (1+(fU.fdiv 4).fmod 4))) (by rw[e2]))) l5)))) ?_;clear e0 e1 e2;refine d8 (bC (.int li) (tr e3)) ?_;refine d8 (l6 ["first","second"] [ub 0 (aq 2 G6),ub 1 (aq 2 G6)] (dm (lZ (d:=pr s1 v1) (tr (b:=Wo (az .Div (.int sh) (.int 4)) (az .Div (.int va) (.int 4))) ?_)) (dm (lZ (d:=pr l1 t1) (tr (b:=Wo (az .Div (.int li) (.int 32)) ((az .Mult (.int sh) (.int va)).bind λa=>(bY .min [.int li,.int (32 - li)]).bind λb=>az .Div a b)) ?_)) l5))) ?_
 ·rw[e4,e5];unfold Wo;rw[af,af,af,af,if_pos (by rw[eY];show(2:Nat)<=1048576;decide)];rfl
 ·rw[e6,e7];unfold Wo;rw[af,af,af,af,if_pos (by rw[eY];show(2:Nat)<=1048576;decide)];rfl
 refine d8 (l7 (t3 (r,g,b),false) (lZ (d:=t3 (r,g,b)) (tr (b:=Cm T "hsv_to_rgb" (az .Div (.int st) (.int 64)) (.aR s1) (.aR v1)) ?_))) ?_
 ·unfold Cm;rw[e8,af,af,f1]
 obtain⟨x2,g2a,g2b⟩:=f2;obtain⟨x3,g3a,g3b⟩:=f3;have ht1:Wq (some (.aR h0))=some (.tup [.aR h0]):=by unfold Wq;rw[af,af,if_pos (by rw[eY];show(1:Nat)<=1048576;decide)]
 have ha1:az .Add (.tup [.aR h0]) (pr s1 v1)=some (.tup [.aR h0,.aR s1,.aR v1]):=by
  show(if([D.aR h0]:List D).length+([D.aR s1,D.aR v1]:List D).length<=dC then some (D.tup ([D.aR h0]++[.aR s1,.aR v1]))else none)=_;rw[if_pos (by rw[eY];show(3:Nat)<=1048576;decide)];rfl
 have ha2:az .Add (.tup [.aR h0]) (pr l1 t1)=some (.tup [.aR h0,.aR l1,.aR t1]):=by
  show(if([D.aR h0]:List D).length+([D.aR l1,D.aR t1]:List D).length<=dC then some (D.tup ([D.aR h0]++[.aR l1,.aR t1]))else none)=_;rw[if_pos (by rw[eY];show(3:Nat)<=1048576;decide)];rfl
 refine cS (b:=[]) (tr (b:=orB ((T.fn "rgb_to_hsv" [.aR r,.aR g,.aR b]).bind λa=>((Wq (az .Div (.int st) (.int 64))).bind λx=>az .Add x (pr s1 v1)).bind λy=>cmp .NotEq a y)
  (orB ((T.fn "rgb_to_hls" [.aR r,.aR g,.aR b]).bind λa=>((Wq (az .Div (.int st) (.int 64))).bind λx=>az .Add x (pr l1 t1)).bind λy=>cmp .NotEq a y) (some false))) ?_) (fX (bs:=[]) rfl) ?_
 ·rw[g2a,g3a,e8,ht1,af,af,af,af,ha1,ha2,af,af,g2b,g3b];rfl
 refine d8 (l7 (t3 (r2,g2,b2),false) (lZ (d:=t3 (r2,g2,b2)) (tr (b:=Cm T "hsv_to_rgb" ((az .Div (.int st) (.int 64)).bind λa=>az .Add a (.aR (o7 1 3))) (.aR s1) (.aR v1)) ?_))) ?_
 ·unfold Cm
  rw[e8,af,show az .Add (.aR h0) (.aR (o7 1 3))=some (.aR (iF h0 (o7 1 3)))from rfl,af,af,f4]
 refine d8 (bC (.int ah) (tr f5)) ?_;refine d8 (l7 (t3 (r3,g3,b3),false) (lZ (d:=t3 (r3,g3,b3)) (tr (b:=Cm T "hls_to_rgb" ((az .Div (.int st) (.int 64)).bind λa=>az .Sub a (.aR (o7 1 3))) (.aR l1) (.aR t1)) ?_))) ?_
 ·unfold Cm
  rw[e8,af,show az .Sub (.aR h0) (.aR (o7 1 3))=some (.aR (iG h0 (o7 1 3)))from rfl,af,af,f6]
 refine d8 (bC (.int be) (tr f7)) ?_;refine c9 (dJ _ (tr (b:=((akI (((az .Mult (.int 3) (.int st)).bind λd=>az .Add d (.int 64)).bind λd=>az .Mod d (.int 192)) (((az .Mult (.int 3) (.int st)).bind λd=>az .Add d (.int 128)).bind λd=>az .Mod d (.int 192))).bind λy=>cmp .Eq (.lst [.int ah,.int be]) y).bind λc=>if c=true then bY .sorted [.lst [.int (ah.fdiv 64),.int (be.fdiv 64)]]else some (.lst [])) ?_));have hl:akI (((az .Mult (.int 3) (.int st)).bind λd=>az .Add d (.int 64)).bind λd=>az .Mod d (.int 192)) (((az .Mult (.int 3) (.int st)).bind λd=>az .Add d (.int 128)).bind λd=>az .Mod d (.int 192))=some (.lst [.int ah,.int be]):=by
  rw[e9,ea,eb];show(if 2<=dC then some (D.lst [.int ((w+64).fmod 192),.int ((w+128).fmod 192)])else none)=_;rw[if_pos (by rw[eY];decide)]
 rw[hl,af];have hq:cmp .Eq (.lst [.int ah,.int be]) (.lst [.int ah,.int be])=some true:=by
  show some ((ah==ah)&&((be==be)&&true))=_;simp
 rw[hq];rfl
end
end
def fc3(x:Nat×Nat×Nat)(k:Nat->Nat->Nat->β):β:=HA x.1 λa=>HA x.2.1 λb=>HA x.2.2 λc=>k a b c
def YS(x:Option (Nat×Nat×Nat))(k:Nat->Nat->Nat->Bool):Bool:=match x with
 |some y=>fc3 y k
 |none=>false
def onN(x:Option Nat)(n:Nat):Bool:=match x with
 |some y=>cy y n
 |none=>false
def third:Nat:=4599676419421066581
def ckA(h0 s1 v1 l1 t1:Nat):Bool:=YS (G0 FN h0 s1 v1) λr g b=>
 and (YS (DB FN r g b) λx y z=>and (sz FN x h0) (and (sz FN y s1) (sz FN z v1))) (YS (DC FN r g b) λx y z=>and (sz FN x h0) (and (sz FN y l1) (sz FN z t1)))
def ckB(h0 s1 v1 l1 t1 w:Nat):Bool:=HA (JF h0 third) λh=>YS (G0 FN h s1 v1) λr g b=>YS (DC FN r g b) λx y z=>onN (xS FN (x,y,z) (l1,t1)) (uM (eG w 64) 192)
def ckC(h0 s1 v1 l1 t1 w:Nat):Bool:=HA (Nv h0 third) λh=>fc3 (DD FN h l1 t1) λr g b=>YS (DB FN r g b) λx y z=>onN (xS FN (x,y,z) (s1,v1)) (uM (eG w 128) 192)
def ck1(h0 s1 v1 l1 t1 w:Nat):Bool:=and (and (gy h0) (and (and (gy s1) (gy v1)) (and (gy l1) (gy t1)))) (and (ckA h0 s1 v1 l1 t1) (and (ckB h0 s1 v1 l1 t1 w) (ckC h0 s1 v1 l1 t1 w)))
def ck0(st sh va:Nat):Bool:=HA (va*(8 - sh)) λli=>HA (Hz st 64) λh0=>HA (Hz sh 4) λs1=>HA (Hz va 4) λv1=>HA (Hz li 32) λl1=>HA (Hz (sh*va) (min li (32 - li))) λt1=>HA (3*st) λw=>ck1 h0 s1 v1 l1 t1 w
def ckS(st:Nat):Bool:=[1,2,3,4].all λsh=>[1,2,3,4].all λva=>ck0 st sh va
theorem arQ:Hz 1 3=third:=by rfl'
def ckR(lo:Nat):Bool:=(a0 21).all λa=>HA (lo+a) ckS
theorem arR:ckR 0=true:=by rfl'
theorem arU:ckR 22=true:=by rfl'
theorem arV:ckR 43=true:=by rfl'
section
theorem oL(h:YS x k=true):∃a b c,x=some (a,b,c)/\k a b c=true:=by
 unfold YS at h;split at h
 ·rename_i y
  obtain⟨a,b,c⟩:=y;unfold fc3 at h;simp only[th]at h;exact⟨a,b,c,rfl,h⟩
 ·cases h
theorem G8(h:onN x n=true):x=some n:=by
 unfold onN at h;split at h
 ·rw[el h]
 ·cases h
theorem YT(h1:sz FN x a=true)(h2:sz FN y b=true)(h3:sz FN z c=true):cmp .NotEq (t3 (bk x,bk y,bk z)) (.tup [.aR (bk a),.aR (bk b),.aR (bk c)])=some false:=by
 have e1:rG 39 (.aR (bk x)) (.aR (bk a))=some true:=by
  show ec (if uX (bk x) (bk a)=true then some true else none) _=_;rw[gN,DE,h1];rfl
 have e2:rG 39 (.aR (bk y)) (.aR (bk b))=some true:=by
  show ec (if uX (bk y) (bk b)=true then some true else none) _=_;rw[gN,DE,h2];rfl
 have e3:rG 39 (.aR (bk z)) (.aR (bk c))=some true:=by
  show ec (if uX (bk z) (bk c)=true then some true else none) _=_;rw[gN,DE,h3];rfl
 have e:tJ (rG 39) [.aR (bk x),.aR (bk y),.aR (bk z)] [.aR (bk a),.aR (bk b),.aR (bk c)]=some true:=by
  show((rG 39 (.aR (bk x)) (.aR (bk a))).bind λp=>(((rG 39 (.aR (bk y)) (.aR (bk b))).bind λp=>(((rG 39 (.aR (bk z)) (.aR (bk c))).bind λp=>(some true).map λq=>p&&q)).map λq=>p&&q)).map λq=>p&&q)=_;rw[e1,e2,e3];rfl
 show(if 3=3 then tJ (rG 39) [.aR (bk x),.aR (bk y),.aR (bk z)] [.aR (bk a),.aR (bk b),.aR (bk c)]else none).map (λx=> !x)=_;rw[if_pos rfl,e];rfl
theorem akM(h:gy n=true):mL (bk n)=false:=by
 unfold mL;rw[gQ h]
theorem RP(hb:0<b)(h:gy (Hz a b)=true):az .Div (.int (a:Int)) (.int (b:Int))=some (.aR (bk (Hz a b))):=by
 show ec (if(b:Int)≠0/\mL (o7 (a:Int) (b:Int))=false then some (D.aR (o7 (a:Int) (b:Int)))else none) _=_;rw[Dx,if_pos ⟨by omega,akM h⟩];rfl
def TS(T:fe):Prop:=∀(a b c d e:UInt64)(n:Nat),xS FU (a,b,c) (d,e)=some n->T.fn "_law_turned" [t3 (a,b,c),pr d e]=some (di n)
theorem akN(hp:prim "_law_turned"=none)(r:Nat):TS (Tn prim (r+1)):=λa b c d e n h=>
 eZ (["colour","due"]:List Str) hp (akH a b c d e n h)
theorem G9:o7 1 3=bk third:=by
 have:=Dx 1 3;rw[arQ]at this;exact this
theorem akO{a b:Nat}(hb:0<b)(hs:sm b=true):az .FloorDiv (.int a) (.int b)=some (.int (a/b:Nat)):=by
 show(if(b:Int)≠0/\sm b=true then some (D.int ((a:Int).fdiv b))else none)=_;rw[if_pos ⟨by omega,hs⟩,bp _ (by omega)];rfl
section
variable{T:fe}
inductive OF(T:fe)(h0 s1 v1 l1 t1:UInt64)(p q:Nat):Prop
 |mk (r g b r2 g2 b2 r3 g3 b3:UInt64) (f1:T.fn "hsv_to_rgb" [.aR h0,.aR s1,.aR v1]=some (t3 (r,g,b))) (f2:∃x,T.fn "rgb_to_hsv" [.aR r,.aR g,.aR b]=some x/\cmp .NotEq x (.tup [.aR h0,.aR s1,.aR v1])=some false) (f3:∃x,T.fn "rgb_to_hls" [.aR r,.aR g,.aR b]=some x/\cmp .NotEq x (.tup [.aR h0,.aR l1,.aR t1])=some false)
  (f4:T.fn "hsv_to_rgb" [.aR (iF h0 (o7 1 3)),.aR s1,.aR v1]=some (t3 (r2,g2,b2))) (f5:Lq T "rgb_to_hls" (.aR r2) (.aR g2) (.aR b2) (pr l1 t1)=some (di p))
  (f6:T.fn "hls_to_rgb" [.aR (iG h0 (o7 1 3)),.aR l1,.aR t1]=some (t3 (r3,g3,b3))) (f7:Lq T "rgb_to_hsv" (.aR r3) (.aR g3) (.aR b3) (pr s1 v1)=some (di q))
theorem RQ(hC:CS T)(h:DB FN r g b=some (x,y,z)):T.fn "rgb_to_hsv" [.aR (bk r),.aR (bk g),.aR (bk b)]=some (t3 (bk x,bk y,bk z)):=hC.hsv _ _ _ _ ((akw r g b).trans (by rw[h];rfl))
theorem RS(hC:CS T)(h:DC FN r g b=some (x,y,z)):T.fn "rgb_to_hls" [.aR (bk r),.aR (bk g),.aR (bk b)]=some (t3 (bk x,bk y,bk z)):=hC.hls _ _ _ _ ((akx r g b).trans (by rw[h];rfl))
theorem akP(hC:CS T)(hT:TS T)(kA:ckA h0 s1 v1 l1 t1=true)(kB:ckB h0 s1 v1 l1 t1 w=true)(kC:ckC h0 s1 v1 l1 t1 w=true):OF T (bk h0) (bk s1) (bk v1) (bk l1) (bk t1) ((w+64)%192) ((w+128)%192):=by
 obtain⟨r,g,b,a1,a2⟩:=oL kA;obtain⟨a3,a4⟩:=bO.mp a2;obtain⟨x,y,z,a5,a6⟩:=oL a3;obtain⟨x',y',z',a7,a8⟩:=oL a4;simp only[ay]at a6 a8;unfold ckB at kB;rw[th]at kB;obtain⟨r2,g2,b2,b3,b4⟩:=oL kB;obtain⟨xb,yb,zb,b5,b6⟩:=oL b4;have f4:=hC.rgb _ _ _ _ (YN b3);rw[<-Dw,<-G9]at f4;unfold ckC fc3 at kC;simp only[th]at kC;obtain⟨xc,yc,zc,c5,c6⟩:=oL kC;have f6:=hC.rgl (bk (Nv h0 third)) (bk l1) (bk t1);rw[akz,<-Lk,<-G9]at f6;exact⟨_,_,_,_,_,_,_,_,_,hC.rgb _ _ _ _ (YN a1),⟨_,RQ hC a5,YT a6.1 a6.2.1 a6.2.2⟩,⟨_,RS hC a7,YT a8.1 a8.2.1 a8.2.2⟩,f4,oB (oB (RS hC b5) rfl) (hT _ _ _ _ _ _ (RO (G8 b6))),f6,oB (oB (RQ hC c5) rfl) (hT _ _ _ _ _ _ (RO (G8 c6)))⟩
theorem smS{n:Nat}(h:n<=1000):sm (n:Int)=true:=iW (jb (by decide) (cg n)) (jb (gD.mpr h) (by decide))
theorem Lr{a b:Nat}(ha:a<=1000)(hb:b<=1000):az .Mult (.int a) (.int b)=some (.int (a*b:Nat)):=by rw[vq (smS ha) (smS hb),lF]
theorem akQ{x n k:Nat}(h:1+x%n=k):1+(x:Int).fmod n=(k:Int):=by
 rw[bM _ (cg n),<-h];rfl
theorem fd1(x n:Nat):(x:Int).fdiv n=((x/n:Nat):Int):=bp _ (cg n)
theorem fm0(x n:Nat):(x:Int).fmod n=((x%n:Nat):Int):=bM _ (cg n)
theorem arX{way fU st:Nat}(adv:way<3)(hw:(64*way+2)/3+fU/16%21=st):
 (((az .Mult (.int 64) (.int (way:Int))).bind λd=>az .Add d (.int 2)).bind λd=>az .FloorDiv d (.int 3)).bind (λa=>az .Add a (.int (((fU:Int).fdiv 16).fmod 21)))=some (.int (st:Int)):=by
 rw[show(fU:Int).fdiv 16=_ from fd1 fU 16,show((fU/16:Nat):Int).fmod 21=_ from fm0 (fU/16) 21,<-hw];exact oB (oB (oB (Lr (a:=64) (by decide) (ao (bV adv) (by decide))) rfl) (akO (a:=64*way+2) (b:=3) (by decide) (by decide))) rfl
theorem arY{va sh:Nat}(hs:sh<=4)(hv:va<=4):az .Mult (.int va) (.int (8 - (sh:Int)))=some (.int (va*(8 - sh):Nat)):=by
 rw[show(8 - (sh:Int))=((8 - sh:Nat):Int)from(SJ (ao hs (by decide))).symm];exact Lr (ao hv (by decide)) (ao (lN _ _) (by decide))
theorem adw:∀li,li<33->(if(32:Int) - (li:Nat)<(li:Nat)then(32:Int) - (li:Nat)else(li:Nat))=((min li (32 - li):Nat):Int):=by decide
theorem akR{li:Nat}(h:li<=32):bY .min [.int (li:Int),.int (32 - (li:Int))]=some (.int (min li (32 - li):Nat)):=congrArg (λz=>some (D.int z)) (adw li (gi h))
theorem akS:∀sh,sh<5->∀va,va<5->1<=sh->1<=va->va*(8 - sh)<=32/\1<=min (va*(8 - sh)) (32 - va*(8 - sh)):=by decide
theorem adx(hC:CS T)(hT:TS T)(way fU st sh va:Nat)(DY:st<=100)(hsh:1<=sh/\sh<=4)(Vp:1<=va/\va<=4)(hw:(64*way+2)/3+fU/16%21=st)(h1:1+fU%4=sh)(h2:1+fU/4%4=va)(adv:way<3)(hck:ck0 st sh va=true):
 Xa T wK3 [] 20 G6 [("way",di way),("tints",di fU)] []=some (.rt (.lst (if(((3*st+64)%192/64:Nat):Int)<=(((3*st+128)%192/64:Nat):Int)then[di ((3*st+64)%192/64),di ((3*st+128)%192/64)]else[di ((3*st+128)%192/64),di ((3*st+64)%192/64)]))):=by
 have h3:=akS sh (gi hsh.2) va (gi Vp.2) hsh.1 Vp.1;have e3:=arY hsh.2 Vp.2;unfold ck0 at hck;simp only[th]at hck;generalize va*(8 - sh)=li at*;unfold ck1 at hck;simp only[ay]at hck;obtain⟨⟨n1,⟨n2,n3⟩,n4,n5⟩,kA,kB,kC⟩:=hck;obtain⟨r,g,b,r2,g2,b2,r3,g3,b3,f1,f2,f3,f4,f5,f6,f7⟩:=akP hC hT kA kB kC;refine(akJ (T:=T) way fU st sh va li _ _ (3*st:Nat) _ _ _ _ _ r g b r2 g2 b2 r3 g3 b3 (arX adv hw) (akQ h1) (by rw[show(fU:Int).fdiv 4=_ from fd1 fU 4];exact akQ h2) e3 (RP (b:=4) (by decide) n2) (RP (b:=4) (by decide) n3) (RP (b:=32) (by decide) n4)
  (oB (Lr (ao hsh.2 (by decide)) (ao Vp.2 (by decide))) (oB (akR h3.1) (RP h3.2 n5))) (RP (b:=64) (by decide) n1) f1 f2 f3 f4 f5 f6 f7 (Lr (a:=3) (by decide) (ao DY (by decide))) (fm0 (3*st+64) 192).symm (fm0 (3*st+128) 192).symm).trans ?_
 rw[show(((3*st+64)%192:Nat):Int).fdiv 64=_ from fd1 _ 64,show(((3*st+128)%192:Nat):Int).fdiv 64=_ from fd1 _ 64];rfl
end
end
def Ls(way:Nat):List Nat:=match way with|0=>[1,2]|1=>[0,2]|_=>[0,1]
def OS(T:fe):Prop:=∀way fU:Nat,way<3->T.fn "_law_others" [di way,di fU]=some (dl (Ls way))
theorem in4:∀n,n<5->1<=n->n∈[1,2,3,4]:=by decide
theorem RU{st sh va:Nat}(h:ckS st=true)(h1:1<=sh/\sh<=4)(h2:1<=va/\va<=4):ck0 st sh va=true:=
 bf.mp (bf.mp h sh (in4 sh (gi h1.2) h1.1)) va (in4 va (gi h2.2) h2.1)
theorem z9{lo a:Nat}(h:ckR lo=true)(ha:a<21):ckS (lo+a)=true:=by
 unfold ckR at h;have:=bf.mp h a (bH.mpr ha);rwa[th]at this
theorem three{P:Nat->Prop}(h0:P 0)(h1:P 1)(h2:P 2):∀k,k<3->P k
 |0,_=>h0|1,_=>h1|2,_=>h2
theorem Wr(x y:Nat):D.lst (if(x:Int)<=(y:Int)then[di x,di y]else[di y,di x])=dl (if x<=y then[x,y]else[y,x]):=by
 by_cases h:x<=y
 ·rw[if_pos h,if_pos (gD.mpr h)];rfl
 ·rw[if_neg h,if_neg λq=>h (gD.mp q)];rfl
theorem Ws:∀way,way<3->∀a,a<21->(if(3*((64*way+2)/3+a)+64)%192/64<=(3*((64*way+2)/3+a)+128)%192/64 then[(3*((64*way+2)/3+a)+64)%192/64,(3*((64*way+2)/3+a)+128)%192/64]else[(3*((64*way+2)/3+a)+128)%192/64,(3*((64*way+2)/3+a)+64)%192/64])=Ls way:=by decide
theorem m4(x):1<=1+x%4/\1+x%4<=4:=⟨iM _ _,gv (ani (dA x (by decide))) 1⟩
theorem akT:∀way,way<3->∀a,a<21->(64*way+2)/3+a<=100:=by decide
theorem akU{prim:Str->Option (List D->Option D)}(hp:∀f,(f==("_int2digits":Str))=false->(f==("_digits2int":Str))=false->prim f=none)(r:Nat):OS (Tn prim (r+3)):=λway fU hw=>by
 have hC:CS (Tn prim (r+2)):=akG hp r;have hT:TS (Tn prim (r+2)):=akN (hp _ (by decide) (by decide)) (r+1);have ha:fU/16%21<21:=dA _ (by decide);have hck:ckS ((64*way+2)/3+fU/16%21)=true:=three (P:=λway=>ckS ((64*way+2)/3+fU/16%21)=true) (z9 arR ha) (z9 arU ha) (z9 arV ha) way hw;have q:=adx hC hT way fU ((64*way+2)/3+fU/16%21) (1+fU%4) (1+fU/4%4) (akT way hw _ ha) (m4 _) (m4 _) rfl rfl rfl hw (RU hck (m4 _) (m4 _));rw[<-Ws way hw _ ha,<-Wr];exact eZ (ds:=[di way,di fU]) (["way","tints"]:List Str) (hp _ (by decide) (by decide)) q
end Internal.Z
end
section
namespace Internal.C
section
abbrev Fn:=Nat->Nat
def jn(f:Fn)(a b:Nat):Fn:=λx=>if x=f b then f a else if x=f a then f b else f x
def rg(f:Fn)(a b:Nat):Nat:=if f a=b then 1 else 0
def R:Fn->List (Nat×Nat)->Nat
 |_,[]=>0
 |f,(a,b)::ps=>rg f a b+R (jn f a b) ps
def run:Fn->List (Nat×Nat)->Fn
 |f,[]=>f
 |f,(a,b)::ps=>run (jn f a b) ps
structure M(f:Fn)(S:Nat->Prop):Prop where
 to:∀x,S x->S (f x)
 inv:∀x,S x->f (f x)=x
 ne:∀x,S x->f x≠x
def less(S:Nat->Prop)(a b:Nat):Nat->Prop:=λx=>S x/\x≠a/\x≠b
theorem M.inj(m:M f S)(hx:S x)(hy:S y)(h:f x=f y):x=y:=by
 have:=congrArg f h;rwa[m.inv x hx,m.inv y hy]at this
theorem M.join(m:M f S)(ha:S a)(hb:S b)(tI:a≠b):M (jn f a b) (less S a b):=by
 have faS:=m.to a ha;have fbS:=m.to b hb;have ia:=m.inv a ha;have ib:=m.inv b hb;have key:∀x,less S a b x->(x=f b/\f a≠b/\jn f a b x=f a)\/(x≠f b/\x=f a/\f a≠b/\jn f a b x=f b)\/(x≠f b/\x≠f a/\jn f a b x=f x/\f x≠a/\f x≠b):=λx hx=>by
  by_cases h1:x=f b
  ·left
   refine⟨h1,λh=>?_,?_⟩
   ·have:f b=a:=by rw[<-h,ia]
    exact hx.2.1 (h1.trans this)
   ·unfold jn;rw[if_pos h1]
  ·right
   by_cases h2:x=f a
   ·left
    refine⟨h1,h2,λh=>hx.2.2 (h2.trans h),?_⟩;unfold jn;rw[if_neg h1,if_pos h2]
   ·right
    refine⟨h1,h2,?_,λh=>?_,λh=>?_⟩
    ·unfold jn;rw[if_neg h1,if_neg h2]
    ·exact h2 (by rw[<-h,m.inv x hx.1])
    ·exact h1 (by rw[<-h,m.inv x hx.1])
 have na:f a≠a:=m.ne a ha;have nb:f b≠b:=m.ne b hb;have nba:f a≠b->f b≠a:=λh h'=>h (by rw[<-h',ib]);refine⟨λx hx=>?_,λx hx=>?_,λx hx=>?_⟩
 ·rcases key x hx with⟨h1,h2,h3⟩|⟨h1,h2,h3,h4⟩|⟨h1,h2,h3,h4,h5⟩
  ·rw[h3];exact⟨faS,na,h2⟩
  ·rw[h4];exact⟨fbS,nba h3,nb⟩
  ·rw[h3];exact⟨m.to x hx.1,h4,h5⟩
 ·rcases key x hx with⟨h1,h2,h3⟩|⟨h1,h2,h3,h4⟩|⟨h1,h2,h3,h4,h5⟩
  ·rw[h3]
   have ox:f a≠f b:=λh=>tI (m.inj ha hb h);unfold jn;rw[if_neg ox,if_pos rfl,h1]
  ·rw[h4]
   unfold jn;rw[if_pos rfl,h2]
  ·rw[h3]
   have e1:f x≠f b:=λh=>hx.2.2 (m.inj hx.1 hb h);have e2:f x≠f a:=λh=>hx.2.1 (m.inj hx.1 ha h);unfold jn;rw[if_neg e1,if_neg e2,m.inv x hx.1]
 ·rcases key x hx with⟨h1,h2,h3⟩|⟨h1,h2,h3,h4⟩|⟨h1,h2,h3,h4,h5⟩
  ·rw[h3,h1];exactλh=>tI (m.inj ha hb h)
  ·rw[h4,h2];exactλh=>tI (m.inj hb ha h).symm
  ·rw[h3];exact m.ne x hx.1
def Eqv(f g:Fn)(S:Nat->Prop):Prop:=∀x,S x->f x=g x
theorem Eqv.join(e:Eqv f g S)(ha:S a)(hb:S b):Eqv (jn f a b) (jn g a b) (less S a b):=λx hx=>by
 unfold jn;rw[e a ha,e b hb,e x hx.1]
def gj:List (Nat×Nat)->List Nat
 |[]=>[]
 |(a,b)::ps=>a::b::gj ps
def Ok(S:Nat->Prop)(ps:List (Nat×Nat)):Prop:=(gj ps).Nodup/\∀x∈gj ps,S x
theorem Ok.head(h:Ok S ((a,b)::ps)):S a/\S b/\a≠b/\Ok (less S a b) ps:=by
 obtain⟨h1,h2⟩:=h;have h1':(a::b::gj ps).Nodup:=h1;rw[cJ,cJ]at h1';obtain⟨n1,n2,n3⟩:=h1';refine⟨h2 a (ax ..),h2 b (av _ (ax ..)),λe=>n1 (by rw[e];exact ax ..),n3,λx hx=>⟨h2 x (av _ (av _ hx)),λe=>?_,λe=>?_⟩⟩
 ·exact n1 (by rw[<-e];exact av _ hx)
 ·exact n2 (by rw[<-e];exact hx)
theorem YU:∀(ps:List (Nat×Nat)){f g:Fn}{S:Nat->Prop},Eqv f g S->Ok S ps->R f ps=R g ps
 |[],_,_,_,_,_=>rfl
 |(a,b)::ps,f,g,S,e,o=>by
  obtain⟨ha,hb,tI,o'⟩:=o.head;dsimp only[R];rw[YU ps (e.join ha hb) o'];unfold rg;rw[e a ha]
section
variable{f:Fn}{S:Nat->Prop}{a b c d x:Nat}
theorem adz:jn f a b (f b)=f a:=if_pos rfl
theorem Nx(h:f a≠f b):jn f a b (f a)=f b:=(if_neg h).trans (if_pos rfl)
theorem ti(h1:x≠f b)(h2:x≠f a):jn f a b x=f x:=(if_neg h1).trans (if_neg h2)
theorem yy(h:f a≠f b):jn f a b=jn f b a:=by
 funext x;unfold jn;by_cases h1:x=f b
 ·rw[if_pos h1,if_neg λz=>h (z.symm.trans h1),if_pos h1]
 ·rw[if_neg h1]
  by_cases h2:x=f a
  ·rw[if_pos h2,if_pos h2]
  ·rw[if_neg h2,if_neg h2,if_neg h1]
theorem adA:jn f a b x=f a\/jn f a b x=f b\/jn f a b x=f x:=by
 by_cases h:x=f b
 ·exact .inl (if_pos h)
 ·by_cases h2:x=f a
  ·exact .inr (.inl ((if_neg h).trans (if_pos h2)))
  ·exact .inr (.inr (ti h h2))
theorem JL[Decidable p][Decidable q](h:p↔q):(if p then 1 else 0:Nat)=if q then 1 else 0:=by
 by_cases hq:q
 ·rw[if_pos hq,if_pos (h.mpr hq)]
 ·rw[if_neg hq,if_neg λz=>hq (h.mp z)]
theorem M.sym(m:M f S)(ha:S a)(h:f a=b):f b=a:=h▸m.inv a ha
theorem DG(m:M f S)(ha:S a)(hb:S b)(hc:S c)(hd:S d)(h1:a≠b)(h2:a≠c)(h3:a≠d)(h4:b≠c)(h5:b≠d)(h6:c≠d)(n1:f b≠c)(n2:f b≠d):jn (jn f a b) c d (f b)=jn (jn f c d) a b (f b):=by
 have jbd:f b≠f d:=λh=>h5 (m.inj hb hd h);have jbc:f b≠f c:=λh=>h4 (m.inj hb hc h);have hB:jn f c d b=f b:=ti (λz=>n2 (m.sym hd z.symm)) λz=>n1 (m.sym hc z.symm);have r:jn (jn f c d) a b (f b)=jn f c d a:=if_pos hB.symm;rw[r];by_cases e1:f a=d
 ·have gd:jn f a b d=f b:=by rw[<-e1];exact Nx λh=>h1 (m.inj ha hb h)
  have gc:jn f a b c=f c:=ti n1.symm λz=>h6 (z.trans e1);have ea:jn f c d a=f c:=if_pos (m.sym ha e1).symm;rw[ea];exact(if_pos gd.symm).trans gc
 ·have gd:jn f a b d=f d:=ti n2.symm λz=>e1 z.symm
  have na:a≠f d:=λz=>e1 (m.sym hd z.symm);by_cases e2:f a=c
  ·have gc:jn f a b c=f b:=by rw[<-e2];exact Nx λh=>h1 (m.inj ha hb h)
   have ea:jn f c d a=f d:=(if_neg na).trans (if_pos (m.sym ha e2).symm);rw[ea];exact(if_neg (gd.symm▸jbd)).trans ((if_pos gc.symm).trans gd)
  ·have gc:jn f a b c=f c:=ti n1.symm λz=>e2 z.symm
   have ea:jn f c d a=f a:=ti na λz=>e2 (m.sym hc z.symm);rw[ea];exact(if_neg (gd.symm▸jbd)).trans ((if_neg (gc.symm▸jbc)).trans adz)
theorem Wt(m:M f S)(ha:S a)(hb:S b)(hc:S c)(hd:S d)(h1:a≠b)(h2:a≠c)(h3:a≠d)(h4:b≠c)(h5:b≠d)(h6:c≠d):rg f a b+rg (jn f a b) c d=rg f c d+rg (jn f c d) a b:=by
 unfold rg;by_cases e1:f b=c
 ·have g:jn f a b c=f a:=by rw[<-e1];exact adz
  have e:f c=b:=m.sym hb e1;have na:f a≠b:=λz=>h2 ((m.sym ha z).symm.trans e1);have nc:f c≠d:=λz=>h5 (e.symm.trans z);have k:(jn f c d a=b)↔f a=d:=by
   by_cases e2:f a=d
   ·rw[show jn f c d a=f c from if_pos (m.sym ha e2).symm]
    exact⟨λ_=>e2,λ_=>e⟩
   ·rw[ti (f:=f) (a:=c) (b:=d) (λz=>e2 (m.sym hd z.symm)) λz=>h1 (z.trans e)]
    exact⟨λz=>absurd z na,λz=>absurd z e2⟩
  rw[g,if_neg na,if_neg nc];exact congrArg _ (JL k.symm)
 ·have n1:c≠f b:=λz=>e1 z.symm
  by_cases e2:f a=c
  ·have g:jn f a b c=f b:=by rw[<-e2];exact Nx λh=>h1 (m.inj ha hb h)
   have e:f c=a:=m.sym ha e2;have k:(jn f c d a=b)↔f b=d:=by
    rw[<-e,Nx (λh=>h6 (m.inj hc hd h))];exact⟨λz=>m.sym hd z,λz=>m.sym hb z⟩
   rw[g,if_neg (λz:f a=b=>h4 (z.symm.trans e2)),if_neg (λz:f c=d=>h3 (e.symm.trans z))];exact congrArg _ (JL k.symm)
  ·rw[ti (f:=f) (a:=a) (b:=b) n1 λz=>e2 z.symm,fR]
   refine congrArg _ (JL ?_);by_cases e3:f a=d
   ·rw[show jn f c d a=f c from if_pos (m.sym ha e3).symm]
    exact⟨λz=>absurd (e3.symm.trans z) h5.symm,λz=>absurd (m.sym hc z) e1⟩
   ·rw[ti (f:=f) (a:=c) (b:=d) (λz=>e3 (m.sym hd z.symm)) λz=>e2 (m.sym hc z.symm)]
theorem swap(m:M f S)(ha:S a)(hb:S b)(hc:S c)(hd:S d)(h1:a≠b)(h2:a≠c)(h3:a≠d)(h4:b≠c)(h5:b≠d)(h6:c≠d):
 rg f a b+rg (jn f a b) c d=rg f c d+rg (jn f c d) a b/\Eqv (jn (jn f a b) c d) (jn (jn f c d) a b) (less (less S a b) c d):=by
 refine⟨Wt m ha hb hc hd h1 h2 h3 h4 h5 h6,λx hx=>?_⟩;obtain⟨⟨_,xa,xb⟩,xc,xd⟩:=hx;have jab:f a≠f b:=λh=>h1 (m.inj ha hb h);have jcd:f c≠f d:=λh=>h6 (m.inj hc hd h);by_cases e1:x=f b
 ·rw[e1]at xc xd⊢
  exact DG m ha hb hc hd h1 h2 h3 h4 h5 h6 xc xd
 by_cases e2:x=f a
 ·rw[e2]at xc xd⊢
  have jj:jn f c d a≠jn f c d b:=λz=>h1 ((m.join hc hd h6).inj ⟨ha,h2,h3⟩ ⟨hb,h4,h5⟩ z);rw[yy jab,yy jj];exact DG m hb ha hc hd h1.symm h4 h5 h2 h3 h6 xc xd
 by_cases e3:x=f d
 ·rw[e3]at xa xb⊢
  exact(DG m hc hd ha hb h6 h2.symm h4.symm h3.symm h5.symm h1 xa xb).symm
 by_cases e4:x=f c
 ·rw[e4]at xa xb⊢
  have jj:jn f a b c≠jn f a b d:=λz=>h6 ((m.join ha hb h1).inj ⟨hc,h2.symm,h4.symm⟩ ⟨hd,h3.symm,h5.symm⟩ z);rw[yy jcd,yy jj];exact(DG m hd hc ha hb h6.symm h3.symm h5.symm h2.symm h4.symm h1 xa xb).symm
 have out:∀{p q r:Nat},x≠f p->x≠f q->x≠f r->x≠jn f p q r:=λn1 n2 n3 z=>by
  rcases adA (f:=f)with q|q|q
  ·exact n1 (z.trans q)
  ·exact n2 (z.trans q)
  ·exact n3 (z.trans q)
 rw[ti (out e2 e1 e3) (out e2 e1 e4),ti e1 e2,ti (out e4 e3 e1) (out e4 e3 e2),ti e3 e4]
end
end
theorem gA:∀ps qs:List (Nat×Nat),gj (ps++qs)=gj ps++gj qs
 |[],_=>rfl
 |(a,b)::ps,qs=>by rw[du,gj,gA ps qs];rfl
theorem Cn(h:ps.Perm qs):(gj ps).Perm (gj qs):=by
 induction h with
 |nil=>exact .nil
 |cons x _ ih=>obtain⟨a,b⟩:=x;exact(ih.cons b).cons a
 |swap x y l=>
  obtain⟨a,b⟩:=x;obtain⟨c,d⟩:=y;show(c::d::a::b::gj l).Perm (a::b::c::d::gj l);exact(nv (l₁:=[c,d]) (l₂:=[a,b])).append_right (gj l)
 |trans _ _ h1 h2=>exact h1.trans h2
theorem Ok.perm(h:ps.Perm qs)(o:Ok S ps):Ok S qs:=
 ⟨(Cn h).nodup_iff.mp o.1,λx hx=>o.2 x ((Cn h).mem_iff.mpr hx)⟩
theorem adB(h:ps.Perm qs):∀{f:Fn}{S:Nat->Prop},M f S->Ok S ps->R f ps=R f qs:=by
 induction h with
 |nil=>intros;rfl
 |cons x _ ih=>
  intro f S m o;obtain⟨a,b⟩:=x;obtain⟨ha,hb,tI,o'⟩:=o.head;dsimp only[R];rw[ih (m.join ha hb tI) o']
 |swap x y l=>
  intro f S m o;obtain⟨a,b⟩:=x;obtain⟨c,d⟩:=y;obtain⟨hc,hd,y0,o1⟩:=o.head;obtain⟨ha,hb,tI,o2⟩:=o1.head;obtain⟨e1,e2⟩:=swap m hc hd ha.1 hb.1 y0 (λe=>ha.2.1 e.symm) (λe=>hb.2.1 e.symm) (λe=>ha.2.2 e.symm) (λe=>hb.2.2 e.symm) tI;show rg f c d+(rg (jn f c d) a b+R (jn (jn f c d) a b) l)=rg f a b+(rg (jn f a b) c d+R (jn (jn f a b) c d) l);rw[YU l e2 o2];omega
 |trans h1 _ ih1 ih2=>
  intro f S m o;rw[ih1 m o,ih2 m (o.perm h1)]
theorem Lu:∀(ps qs:List (Nat×Nat))(f:Fn),R f (ps++qs)=R f ps+R (run f ps) qs
 |[],qs,f=>by simp[R,run]
 |(a,b)::ps,qs,f=>by
  show rg f a b+R (jn f a b) (ps++qs)=rg f a b+R (jn f a b) ps+R (run (jn f a b) ps) qs;rw[Lu ps qs];omega
def Aa(S:Nat->Prop):List (Nat×Nat)->Nat->Prop
 |[]=>S
 |(a,b)::ps=>Aa (less S a b) ps
theorem adC:∀(ps:List (Nat×Nat))(f:Fn)(S:Nat->Prop),M f S->Ok S ps->M (run f ps) (Aa S ps)
 |[],_,_,m,_=>m
 |(a,b)::ps,f,S,m,o=>by
  obtain⟨ha,hb,tI,o'⟩:=o.head;exact adC ps (jn f a b) (less S a b) (m.join ha hb tI) o'
theorem vO:∀{ps:List (Nat×Nat)}{S:Nat->Prop}{x:Nat},Aa S ps x↔S x/\x∉gj ps
 |[],S,x=>by simp[Aa,gj]
 |(a,b)::ps,S,x=>by
  show Aa (less S a b) ps x↔_;rw[vO];show((S x/\x≠a/\x≠b)/\x∉gj ps)↔(S x/\x∉a::b::gj ps);simp only[aL,not_or];exact⟨λh=>⟨h.1.1,h.1.2.1,h.1.2.2,h.2⟩,λh=>⟨⟨h.1,h.2.1,h.2.2.1⟩,h.2.2.2⟩⟩
def dw(p q:Nat):Nat->List (Nat×Nat)
 |0=>[(2*p,2*p+1),(2*q,2*q+1)]
 |1=>[(2*p,2*q+1),(2*q,2*p+1)]
 |_=>[(2*p,2*q),(2*p+1,2*q+1)]
theorem R2(f:Fn)(x y z w)(h1:f x=p)(h2:f y=q)(h3:f z=r):R f [(x,y),(z,w)]=(if p=y then 1 else 0)+((if(if z=q then p else if z=p then q else r)=w then 1 else 0)+0):=by
 rw[<-h1,<-h2,<-h3];rfl
theorem ra(fx:f x=y)(fy:f y=x)(fz:f z=w)(n1:z≠x)(n2:z≠y):R f [(x,y),(z,w)]=2:=by rw[R2 f x y z w fx fy fz,if_pos rfl,if_neg n1,if_neg n2,if_pos rfl]
theorem rb(fx:f x=w)(fy:f y=z)(n:w≠y):R f [(x,y),(z,w)]=1:=by rw[R2 f x y z w fx fy rfl,if_neg n,if_pos rfl,if_pos rfl]
theorem rc(fx:f x=z)(fy:f y=w)(n:z≠y)(n2:z≠w):R f [(x,y),(z,w)]=1:=by rw[R2 f x y z w fx fy rfl,if_neg n,if_neg n2,if_pos rfl,if_pos rfl]
theorem arZ(f:Fn)(S:Nat->Prop)(m:M f S)(a b c d)(hS:∀x,S x↔x=a\/x=b\/x=c\/x=d)(h1:a≠b)(h2:a≠c)(h3:a≠d)(h4:b≠c)(h5:b≠d)(h6:c≠d):
 ((-2:Int))^R f [(a,b),(c,d)]+(-2)^R f [(a,d),(c,b)]+(-2)^R f [(a,c),(b,d)]=0:=by
 have ha:=(hS a).mpr (.inl rfl);have hb:=(hS b).mpr (.inr (.inl rfl));have hc:=(hS c).mpr (.inr (.inr (.inl rfl)));have hd:=(hS d).mpr (.inr (.inr (.inr rfl)));have inv:∀{x y:Nat},S x->f x=y->f y=x:=λhx e=>e▸m.inv _ hx;have last:∀{x y p q:Nat},S x->S p->(∀z,S z->z=p\/z=q\/z=x\/z=y)->f x=y->f p≠x->f p≠y->f p=q:=λhx hp hz e n1 n2=>by
  rcases hz _ (m.to _ hp)with e1|e1|e1|e1
  ·exact absurd e1 (m.ne _ hp)
  ·exact e1
  ·exact absurd e1 n1
  ·exact absurd e1 n2
 have ne:∀{x p y:Nat},S x->S p->f x=y->p≠x->p≠y->f p≠x/\f p≠y:=λhx hp e n1 n2=>⟨λq=>n2 ((inv hp q).symm.trans e),λq=>n1 (m.inj hp hx (q.trans e.symm))⟩
 rcases(hS _).mp (m.to a ha)with fa|fa|fa|fa
 ·exact absurd fa (m.ne a ha)
 ·have fb:=inv ha fa
  have n:=ne ha hc fa h2.symm h4.symm;have fc:f c=d:=last ha hc (λz hz=>by rcases(hS z).mp hz with e|e|e|e<;>simp[e]) fa n.1 n.2;have fd:=inv hc fc;rw[ra fa fb fc h2.symm h4.symm,rb fa fd h5,rc fa fc h4 h5];decide
 ·have fc:=inv ha fa
  have n:=ne ha hb fa h1.symm h4;have fb:f b=d:=last ha hb (λz hz=>by rcases(hS z).mp hz with e|e|e|e<;>simp[e]) fa n.1 n.2;have fd:=inv hb fb;rw[rc fa fb h4.symm h6,rc fa fd h6 h4.symm,ra fa fc fb h1.symm h4];decide
 ·have fd:=inv ha fa
  have n:=ne ha hb fa h1.symm h5;have fb:f b=c:=last ha hb (λz hz=>by rcases(hS z).mp hz with e|e|e|e<;>simp[e]) fa n.1 n.2;have fc:=inv hb fb;rw[rb fa fb h5.symm,ra fa fd fc h2.symm h6,rb fa fc h6.symm];decide
theorem nh(p q i):(gj (dw p q i)).Perm [2*p,2*p+1,2*q,2*q+1]:=by
 unfold dw;split
 ·exact aen _
 ·show[2*p,2*q+1,2*q,2*p+1].Perm _
  exact((nv (l₁:=[2*q+1,2*q]) (l₂:=[2*p+1])).trans (List.Perm.cons _ (.swap ..))).cons _
 ·show[2*p,2*q,2*p+1,2*q+1].Perm _
  exact(aeh ..).cons _
theorem DH:x∈gj (dw p q i)↔x=2*p\/x=2*p+1\/x=2*q\/x=2*q+1:=by
 rw[(nh p q i).mem_iff];simp
theorem adD(m:M f S)(o:Ok S (dw p q 0++rest))(hS:∀x,S x↔x∈gj (dw p q 0++rest)):
 ((-2:Int))^R f (dw p q 0++rest)+(-2)^R f (dw p q 1++rest)+(-2)^R f (dw p q 2++rest)=0:=by
 have ow:∀i,Ok S (dw p q i++rest):=λi=>by
  have hp:(gj (dw p q 0++rest)).Perm (gj (dw p q i++rest)):=by
   rw[gA,gA];exact((nh p q 0).trans (nh p q i).symm).append_right _
  exact⟨hp.nodup_iff.mp o.1,λx hx=>o.2 x (hp.mem_iff.mpr hx)⟩
 have or:Ok S rest:=⟨by
  have:=o.1;rw[gA]at this;exact(dG.mp this).2.1,λx hx=>o.2 x (by rw[gA];exact ny _ hx)⟩
 have e:∀i,R f (dw p q i++rest)=R f rest+R (run f rest) (dw p q i):=λi=>by
  rw[adB nv m (ow i),Lu]
 have m':=adC rest f S m or;have hn:=o.1;rw[gA]at hn;obtain⟨n1,n2,n3⟩:=dG.mp hn;have n1':=((nh p q 0).nodup_iff).mp n1;have hS':∀x,Aa S rest x↔x=2*p\/x=2*p+1\/x=2*q\/x=2*q+1:=λx=>by
  rw[vO,hS,gA,cC,DH];constructor
  ·rintro⟨h|h,h2⟩
   ·exact h
   ·exact absurd h h2
  ·intro h
   exact⟨.inl h,λh2=>n3 x (DH.mpr h) x h2 rfl⟩
 have hpq:p≠q:=λh=>by subst h;simp at n1'
 have:=arZ (run f rest) _ m' (2*p) (2*p+1) (2*q) (2*q+1) hS' (by omega) (by omega) (by omega) (by omega) (by omega) (by omega);rw[e 0,e 1,e 2,lS,lS,lS,<-lT,<-lT];have t:(-2:Int)^R (run f rest) (dw p q 0)+(-2)^R (run f rest) (dw p q 1)+(-2)^R (run f rest) (dw p q 2)=0:=this;rw[t,Xd]
def i9(w:Nat):List Nat:=match w with|0=>[1,2]|1=>[0,2]|_=>[0,1]
abbrev Let:=Nat×Nat×Nat
def d9(ls:List Let):List (Nat×Nat):=ls.flatMap λl=>dw l.1 l.2.1 l.2.2
def Z:Fn->List Let->Int
 |_,[]=>1
 |f,l::ls=>((i9 l.2.2).map λi=>(-2)^R f (dw l.1 l.2.1 i)*Z (run f (dw l.1 l.2.1 i)) ls).sum
theorem Wu(hw:w<3)(h:g 0+g 1+g 2=0):((i9 w).map g).sum= -g w:=by
 match w,hw with
 |0,_=>show g 1+(g 2+0)=_;omega
 |1,_=>show g 0+(g 2+0)=_;omega
 |2,_=>show g 0+(g 1+0)=_;omega
theorem ar0:∀(ls:List Let)(f:Fn)(S:Nat->Prop),M f S->Ok S (d9 ls)->(∀x,S x↔x∈gj (d9 ls))->(∀l∈ls,l.2.2<3)->Z f ls=(-1)^ls.length*(-2)^R f (d9 ls):=λls=>by
 induction ls with
 |nil=>intro f S _ _ _ _;simp[Z,d9,R]
 |cons l ls IH=>
  obtain⟨p,q,w⟩:=l;intro f S m o hS hw;have e0:d9 ((p,q,w)::ls)=dw p q w++d9 ls:=by unfold d9;rw[dH]
  rw[e0]at o hS⊢;have RV:∀i,(gj (dw p q w++d9 ls)).Perm (gj (dw p q i++d9 ls)):=λi=>by
   rw[gA,gA];exact((nh p q w).trans (nh p q i).symm).append_right _
  have ow:∀i,Ok S (dw p q i++d9 ls):=λi=>⟨(RV i).nodup_iff.mp o.1,λx hx=>o.2 x ((RV i).mem_iff.mpr hx)⟩
  have hSi:∀i x,S x↔x∈gj (dw p q i++d9 ls):=λi x=>by rw[hS,(RV i).mem_iff]
  have ih:∀i,(-2:Int)^R f (dw p q i)*Z (run f (dw p q i)) ls=(-1)^ls.length*(-2)^R f (dw p q i++d9 ls):=λi=>by
   have hn:=(ow i).1;rw[gA]at hn;obtain⟨n1,n2,n3⟩:=dG.mp hn;have o1:Ok S (dw p q i):=⟨n1,λx hx=>(ow i).2 x (by rw[gA];exact eM _ hx)⟩
   have hL:∀x,Aa S (dw p q i) x↔x∈gj (d9 ls):=λx=>by
    rw[vO,hSi i,gA,cC];constructor
    ·rintro⟨h|h,h2⟩
     ·exact absurd h h2
     ·exact h
    ·intro h
     exact⟨.inr h,λh2=>n3 x h2 x h rfl⟩
   rw[IH _ _ (adC _ _ _ m o1) ⟨n2,λx hx=>(hL x).mpr hx⟩ hL λl hl=>hw l (av _ hl),Lu,lS];rw[<-sj,<-sj,p0 ((-2)^_) ((-1)^_)]
  have l3:=adD m (ow 0) (hSi 0);show((i9 w).map λi=>(-2)^R f (dw p q i)*Z (run f (dw p q i)) ls).sum=_;rw[show(λi=>(-2:Int)^R f (dw p q i)*Z (run f (dw p q i)) ls)=λi=>(-1)^ls.length*(-2)^R f (dw p q i++d9 ls)from funext ih,Wu (hw _ (ax ..)) (by rw[<-lT,<-lT,l3,Xd]),aG,Xi,Int.mul_neg_one,Int.neg_mul]
section
abbrev HB:=Nat->Bool
def JM(P:HB->Prop)(k:Nat):Prop:=∃l:List HB,l.Nodup/\(∀c,c∈l↔P c)/\l.length=k
theorem RW(l:List α):∀(m:List α),l.Nodup->(∀x∈l,x∈m)->l.length<=m.length:=by
 induction l with
 |nil=>exactλm _ _=>dx _
 |cons a l ih=>
  intro m hn h;obtain⟨s,t,rfl⟩:=List.append_of_mem (h a (ax ..));have hn:=cJ.mp hn;have q:=ih (s++t) hn.2 λx hx=>by
   rcases cC.mp (h x (av _ hx))with h1|h1
   ·exact eM _ h1
   ·rcases aL.mp h1 with h1|h1
    ·exact absurd hx (h1▸hn.1)
    ·exact ny _ h1
  rw[aC]at q⊢;exact iN q
theorem JM.uniq(h1:JM P k)(h2:JM P j):k=j:=by
 obtain⟨l,n1,m1,rfl⟩:=h1;obtain⟨l',n2,m2,rfl⟩:=h2;exact Nat.le_antisymm (RW l l' n1 λx hx=>(m2 x).mpr ((m1 x).mp hx)) (RW l' l n2 λx hx=>(m1 x).mpr ((m2 x).mp hx))
theorem oN{α β:Type}{f:α->β}:∀{l:List α},l.Nodup->(∀x∈l,∀y∈l,f x=f y->x=y)->(l.map f).Nodup
 |[],_,_=>mr
 |a::l,hn,h=>by
  have hn:=cJ.mp hn;rw[aH,cJ];refine⟨λhm=>?_,oN hn.2 λx hx y hy=>h x (av _ hx) y (av _ hy)⟩;obtain⟨b,hb,e⟩:=jR hm;have:=h b (av _ hb) a (ax ..) e;exact hn.1 (this▸hb)
theorem JM.img(c:JM Q k)(G F:HB->HB)(h1:∀d,Q d->P (G d))(h2:∀c,P c->Q (F c)/\G (F c)=c)(h3:∀d,Q d->F (G d)=d):JM P k:=by
 obtain⟨l,n,m,rfl⟩:=c;refine⟨l.map G,oN n λx hx y hy e=>?_,λc=>?_,ag ..⟩
 ·rw[<-h3 x ((m x).mp hx),e,h3 y ((m y).mp hy)]
 ·rw[iZ]
  constructor
  ·rintro⟨d,hd,rfl⟩;exact h1 d ((m d).mp hd)
  ·intro hc;exact⟨F c,(m _).mpr (h2 c hc).1,(h2 c hc).2⟩
theorem JM.two{γ:Type}{P:HB->Prop}(l:List γ)(n:l.Nodup)(G:Bool->γ->HB)(F:HB->γ)(a:Nat)(h1:∀β,∀d∈l,P (G β d)/\G β d a=β)(h2:∀c,P c->F c∈l/\G (c a) (F c)=c)(h3:∀β,∀d∈l,F (G β d)=d):JM P (2*l.length):=by
 refine⟨l.map (G false)++l.map (G true),dG.mpr ⟨oN n λx hx y hy e=>?_,oN n λx hx y hy e=>?_,λc hc c' Iq e=>?_⟩,λc=>?_,by rw[aC,ag,ag];omega⟩
 ·rw[<-h3 false x hx,e,h3 false y hy]
 ·rw[<-h3 true x hx,e,h3 true y hy]
 ·obtain⟨d,hd,rfl⟩:=jR hc
  obtain⟨d',hd',rfl⟩:=jR Iq;have e1:=(h1 false d hd).2;have e2:=(h1 true d' hd').2;rw[e,e2]at e1;cases e1
 ·rw[cC,iZ,iZ]
  constructor
  ·rintro(⟨d,hd,rfl⟩|⟨d,hd,rfl⟩)
   ·exact(h1 false d hd).1
   ·exact(h1 true d hd).1
  ·intro hc
   obtain⟨q1,q2⟩:=h2 c hc;cases hb:c a with
   |false=>left;exact⟨F c,q1,by rw[<-hb];exact q2⟩
   |true=>right;exact⟨F c,q1,by rw[<-hb];exact q2⟩
structure CP(S:Nat->Prop)(f:Fn)(ps:List (Nat×Nat))(c:HB):Prop where
 out:∀x,¬S x->c x=false
 S7:∀x,S x->c (f x)=c x
 par:∀p∈ps,c p.1=c p.2
def ov(a b:Nat)(v:Bool)(d:HB):HB:=λx=>if x=a\/x=b then v else d x
section
variable{a b x:Nat}{v w:Bool}{d:HB}
theorem ry(h:x=a\/x=b):ov a b v d x=v:=if_pos h
theorem jA(h1:x≠a)(h2:x≠b):ov a b v d x=d x:=if_neg λh=>h.elim h1 h2
theorem Lv(h1:d a=v)(h2:d b=v):ov a b v (ov a b w d)=d:=by
 funext x;by_cases h:x=a\/x=b
 ·rw[ry h];rcases h with h|h<;>rw[h]<;>(first|exact h1.symm|exact h2.symm)
 ·have k:=not_or.mp h
  rw[jA k.1 k.2,jA k.1 k.2]
end
section
variable{f:Fn}{S:Nat->Prop}{a b:Nat}{ps:List (Nat×Nat)}{c d:HB}(m:M f S)(ha:S a)(hb:S b)(tI:a≠b)
include m ha hb tI
theorem YV(yf:∀p∈ps,p.1≠a/\p.1≠b/\p.2≠a/\p.2≠b)(h:CP (less S a b) (jn f a b) ps d)(hv:f a=b\/(f a≠b/\d (f a)=v)):CP S f ((a,b)::ps) (ov a b v d):=by
 refine⟨λx hx=>?_,λx hx=>?_,λp hp=>?_⟩
 ·rw[jA (λz:x=a=>hx (z▸ha)) λz:x=b=>hx (z▸hb)]
  exact h.out x λq=>hx q.1
 ·have akW:ov a b v d (f a)=v:=hv.elim (λz=>ry (.inr z)) λz=>(jA (m.ne a ha) z.1).trans z.2
  have akX:ov a b v d (f b)=v:=hv.elim (λz=>ry (.inl (m.sym ha z))) λz=>by
   have n:f b≠a:=λq=>z.1 (m.sym hb q);rw[jA n (m.ne b hb),<-z.2,<-h.S7 (f a) ⟨m.to a ha,m.ne a ha,z.1⟩,Nx λq=>tI (m.inj ha hb q)]
  by_cases h1:x=a
  ·rw[h1,akW,ry (.inl rfl)]
  by_cases h2:x=b
  ·rw[h2,akX,ry (.inr rfl)]
  by_cases h3:x=f a
  ·rw[h3,m.inv a ha,akW,ry (.inl rfl)]
  by_cases h4:x=f b
  ·rw[h4,m.inv b hb,akX,ry (.inr rfl)]
  rw[jA (λq=>h3 (m.sym hx q).symm) λq=>h4 (m.sym hx q).symm,jA h1 h2,<-ti (f:=f) h4 h3];exact h.S7 x ⟨hx,h1,h2⟩
 ·rcases aL.mp hp with rfl|hp
  ·rw[ry (.inl rfl),ry (.inr rfl)]
  ·obtain⟨p1,p2,p3,p4⟩:=yf p hp
   rw[jA p1 p2,jA p3 p4];exact h.par p hp
theorem Lw(yf:∀p∈ps,p.1≠a/\p.1≠b/\p.2≠a/\p.2≠b)(h:CP S f ((a,b)::ps) c):CP (less S a b) (jn f a b) ps (ov a b false c):=by
 have cab:c a=c b:=h.par (a,b) (ax ..);refine⟨λx hx=>?_,λx hx=>?_,λp hp=>?_⟩
 ·by_cases h1:x=a\/x=b
  ·exact ry h1
  ·have k:=not_or.mp h1
   rw[jA k.1 k.2];exact h.out x λq=>hx ⟨q,k⟩
 ·have h0:=(m.join ha hb tI).to x hx
  rw[jA h0.2.1 h0.2.2,jA hx.2.1 hx.2.2];by_cases h3:x=f a
  ·rw[h3,Nx λq=>tI (m.inj ha hb q),h.S7 a ha,h.S7 b hb,cab]
  ·by_cases h4:x=f b
   ·rw[h4,adz,h.S7 a ha,h.S7 b hb,cab]
   ·rw[ti h4 h3];exact h.S7 x hx.1
 ·obtain⟨p1,p2,p3,p4⟩:=yf p hp
  rw[jA p1 p2,jA p3 p4];exact h.par p (av _ hp)
end
theorem Ha(ps:List (Nat×Nat)):∀p∈ps,p.1∈gj ps/\p.2∈gj ps:=by
 induction ps with
 |nil=>intro p hp;cases hp
 |cons q ps ih=>
  intro p hp;rcases aL.mp hp with rfl|hp
  ·exact⟨ax ..,av _ (ax ..)⟩
  ·exact⟨av _ (av _ (ih p hp).1),av _ (av _ (ih p hp).2)⟩
theorem RX(ps:List (Nat×Nat)):∀(f:Fn)(S:Nat->Prop),M f S->Ok S ps->(∀x,S x↔x∈gj ps)->JM (CP S f ps) (2^R f ps):=by
 induction ps with
 |nil=>
  intro f S m o hS;have hS:∀x,¬S x:=λx h=>nomatch (hS x).mp h;refine⟨[λ_=>false],cJ.mpr ⟨fH,mr⟩,λc=>?_,rfl⟩;rw[aU];exact⟨λe=>e▸⟨λ_ _=>rfl,λx h=>absurd h (hS x),λp h=>nomatch h⟩,λh=>funext λx=>h.out x (hS x)⟩
 |cons p ps IH=>
  intro f S m o hS;obtain⟨a,b⟩:=p;obtain⟨ha,hb,tI,o'⟩:=o.head;have hn:(a::b::gj ps).Nodup:=o.1;rw[cJ,cJ]at hn;have hS':∀x,less S a b x↔x∈gj ps:=λx=>by
   unfold less;rw[hS];show(x∈a::b::gj ps/\x≠a/\x≠b)↔x∈gj ps;rw[aL,aL];exact⟨λh=>(h.1.resolve_left h.2.1).resolve_left h.2.2,λh=>⟨.inr (.inr h),λe=>hn.1 (e▸av _ h),λe=>hn.2.1 (e▸h)⟩⟩
  have ih:=IH (jn f a b) (less S a b) (m.join ha hb tI) o' hS';have yf:∀p∈ps,p.1≠a/\p.1≠b/\p.2≠a/\p.2≠b:=λp hp=>by
   have h1:=(hS' _).mpr (Ha ps p hp).1;have h2:=(hS' _).mpr (Ha ps p hp).2;exact⟨h1.2.1,h1.2.2,h2.2.1,h2.2.2⟩
  have nla:¬less S a b a:=λq=>q.2.1 rfl;have nlb:¬less S a b b:=λq=>q.2.2 rfl;show JM _ (2^(rg f a b+R (jn f a b) ps));by_cases hf:f a=b
  ·rw[show rg f a b=1 from if_pos hf,i7,Nat.pow_one]
   obtain⟨l,ln,lm,ll⟩:=ih;rw[<-ll];exact JM.two l ln (ov a b) (ov a b false) a (λβ d hd=>⟨YV m ha hb tI yf ((lm d).mp hd) (.inl hf),ry (.inl rfl)⟩) (λc hc=>⟨(lm _).mpr (Lw m ha hb tI yf hc),Lv rfl (hc.par (a,b) (ax ..)).symm⟩)
    λβ d hd=>Lv (((lm d).mp hd).out a nla) (((lm d).mp hd).out b nlb)
  ·rw[show rg f a b=0 from if_neg hf,ja]
   exact JM.img ih (λd=>ov a b (d (f a)) d) (ov a b false) (λd hd=>YV m ha hb tI yf hd (.inr ⟨hf,rfl⟩)) (λc hc=>⟨Lw m ha hb tI yf hc,by
    show ov a b (ov a b false c (f a)) (ov a b false c)=c;rw[jA (m.ne a ha) hf];exact Lv (hc.S7 a ha).symm ((hc.par (a,b) (ax ..)).symm.trans (hc.S7 a ha).symm)⟩) λd hd=>Lv (hd.out a nla) (hd.out b nlb)
end
end Internal.C
namespace Internal.C
open Internal.Z (c8 fL eD eO j3 dX g9 rh iY iX)
structure Row(row:List Nat)(n:Nat):Prop where
 len:row.length=2*n
 two:∀k,k<n->(fA row k).length=2
 lt:∀x∈row,x<n
theorem Ny(l):(a0 l.length).map (λi=>l.getD i 0)=l:=by
 apply anh
 ·simp
 ·intro i h1 h2
  simp at h1;simp[h1]
theorem Ab(row)(k):(fA row k).length=row.count k:=by
 have h:=congrArg (List.count k) (Ny row);rw[<-h];unfold fA List.count;rw[List.countP_map,HN];rfl
theorem RY:p∈fA row k↔p<row.length/\row.getD p 0=k:=by
 unfold fA;rw[dq,bH,beq_iff_eq]
theorem Hb(row)(k):(fA row k).Pairwise (·<·):=by
 unfold fA;exact(List.pairwise_lt_range).filter _
structure At(row:List Nat)(k i j:Nat):Prop where
 hi:c8 row k=i
 hj:fL row k=j
 lt:i<j
 jl:j<row.length
 ri:row.getD i 0=k
 rj:row.getD j 0=k
 only:∀p,p<row.length->row.getD p 0=k->p=i\/p=j
theorem akY(h:(fA row k).length=2):At row k (c8 row k) (fL row k):=by
 have hs:=Hb row k;have hm:∀p,p∈fA row k↔p<row.length/\row.getD p 0=k:=λp=>RY;unfold c8 fL;generalize hP:fA row k=P at h hs hm;match P,h with
 |[i,j],_=>
  have h1:=(hm i).mp (by simp);have h2:=(hm j).mp (by simp);have h3:i<j:=by
   rw[List.pairwise_cons]at hs;exact hs.1 j (by simp)
  refine⟨?_,?_,h3,h2.1,h1.2,h2.2,λp hp e=>?_⟩
  ·unfold c8;rw[hP]
  ·unfold fL;rw[hP]
  ·have:=(hm p).mpr ⟨hp,e⟩
   simpa using this
theorem RZ(hx:x∉line):∀l:List Nat,(l.filter λy=>decide (y∈x::line)).length=l.count x+(l.filter λy=>decide (y∈line)).length:=λl=>by
 induction l with
 |nil=>rfl
 |cons a l ih=>
  rw[cQ,cQ,lj];by_cases h1:a=x
  ·subst h1
   have e1:decide (a∈a::line)=true:=by simp
   have e2:decide (a∈line)=false:=by simpa using hx
   simp only[e1,e2,if_true,i0,if_false,beq_self_eq_true,aG,ih];omega
  ·have e3:(a==x)=false:=by simpa using h1
   rw[e3,if_neg aJ];by_cases h2:a∈line
   ·rw[if_pos (by simp[h2]),if_pos (by simp[h2]),aG,aG,ih];omega
   ·rw[if_neg (by simp[h1,h2]),if_neg (by simp[h2]),ih];omega
theorem DI:∀{line:List Nat}(_:line.Nodup)(l:List Nat),(l.filter λy=>decide (y∈line)).length=(line.map λx=>l.count x).sum:=by
 intro zx
 induction zx with
 |nil=>
  rintro _ l;simp
 |cons x line ih=>
  rintro hn l;have hn:=cJ.mp hn;rw[RZ hn.1,ih hn.2,aH,dR]
def par(line l:List Nat):Bool:=(l.filter λy=>decide (y∈line)).length%2==1
theorem DJ(line a b:List Nat):par line (a++b)=(par line a != par line b):=by
 unfold par;rw[lG,aC];generalize (a.filter _).length=x;generalize (b.filter _).length=y;rcases fh x with h1|h1<;>rcases fh y with h2|h2<;>(rw[aes,h1,h2];rfl)
theorem Lx(line:List Nat)(k:Nat):par line [k]=decide (k∈line):=by
 unfold par;rw[cQ];by_cases h:k∈line
 ·rw[if_pos (by simpa using h)];simp[h]
 ·rw[if_neg (by simpa using h)];simp[h]
theorem Wv(line:List Nat):par line []=false:=rfl
theorem adF(hn:line.Nodup)(hl:∀x∈line,x∈eD aF)(hc:∀x∈line,(eO row aF k).count x<=2):rh line (j3 row aF k)=par line (eO row aF k):=by
 unfold rh par;rw[DI hn];have:∀l:List Nat,(∀x∈l,x∈eD aF)->(∀x∈l,(eO row aF k).count x<=2)->(l.filter λx=>decide (x∈j3 row aF k)).length%2=(l.map λx=>(eO row aF k).count x).sum%2:=λl=>by
  induction l with
  |nil=>intro _ _;rfl
  |cons a l ih=>
   intro h1 h2;have ih:=ih (λx hx=>h1 x (av _ hx)) λx hx=>h2 x (av _ hx);have ha:=h2 a (ax ..);have hal:=h1 a (ax ..);have ht:a∈j3 row aF k↔(eO row aF k).count a=1:=by
    unfold j3;rw[dq,beq_iff_eq];exact⟨λh=>h.2,λh=>⟨hal,h⟩⟩
   rw[cQ,aH,dR];by_cases Qk:(eO row aF k).count a=1
   ·rw[if_pos (by simpa using ht.mpr Qk),aG,Qk,fR 1,aes,ih,<-aes]
   ·rw[if_neg (by simpa usingλh=>Qk (ht.mp h))]
    have h0:(eO row aF k).count a=0\/(eO row aF k).count a=2:=by omega
    rcases h0 with h0|h0<;>rw[h0]
    ·rw[ja];exact ih
    ·exact ih.trans (Nat.add_mod_left ..).symm
 rw[this line hl hc]
theorem ar1{α:Type}{P:List α->Prop}(h0:P [])(h1:∀l a,P l->P (l++[a]))(l:List α):P l:=by
 have:∀l:List α,P l.reverse:=λl=>by
  induction l with
  |nil=>exact h0
  |cons a l ih=>rw[gZ];exact h1 _ _ ih
 have:=this l.reverse;rwa[xW]at this
theorem JN(l)(k):dX (l++[k])=dX l++(dX l).map λd=>d++[k]:=by
 unfold dX;rw[eh];rfl
theorem Nz(l:List Nat)(hn:l.Nodup):(dX l).Nodup/\(∀d∈dX l,(∀x∈d,x∈l)/\(l.filter λx=>decide (x∈d))=d)/\∀p:Nat->Bool,l.filter p∈dX l:=by
 induction l using ar1 with
 |h0=>
  refine⟨by simp[dX],λd hd=>?_,λp=>by simp[dX]⟩;have:d=[]:=by simpa [dX]using hd
  subst this;simp
 |h1 l k ih=>
  rw[dG]at hn;obtain⟨h1,h2,h3⟩:=hn;have hk:k∉l:=λh=>h3 k h k (by simp) rfl;obtain⟨i1,i2,i3⟩:=ih h1;have hkd:∀d∈dX l,k∉d:=λd hd h=>hk ((i2 d hd).1 k h);rw[JN];refine⟨dG.mpr ⟨i1,oN i1 λx _ y _ e=>List.append_cancel_right e,λa ha b hb e=>?_⟩,λd hd=>?_,λp=>?_⟩
  ·obtain⟨c,hc,rfl⟩:=jR hb
   exact hkd a ha (by rw[e];simp)
  ·rcases cC.mp hd with h|h
   ·refine⟨λx hx=>eM _ ((i2 d h).1 x hx),?_⟩
    rw[lG,(i2 d h).2];have:([k].filter λx=>decide (x∈d))=[]:=by
     rw[cQ,if_neg (by simpa using hkd d h)];rfl
    rw[this,dD]
   ·obtain⟨c,hc,rfl⟩:=jR h
    refine⟨λx hx=>?_,?_⟩
    ·rcases cC.mp hx with h|h
     ·exact eM _ ((i2 c hc).1 x h)
     ·exact ny _ h
    ·rw[lG]
     have e1:(l.filter λx=>decide (x∈c++[k]))=l.filter λx=>decide (x∈c):=by
      apply alW;intro x hx;have:x≠k:=λe=>hk (e▸hx);simp[this]
     have e2:([k].filter λx=>decide (x∈c++[k]))=[k]:=by
      rw[cQ,if_pos (by simp)];rfl
     rw[e1,e2,(i2 c hc).2]
  ·rw[lG]
   cases hp:p k with
   |true=>
    have:[k].filter p=[k]:=by rw[cQ,if_pos hp];rfl
    rw[this];exact ny _ (iw (i3 p))
   |false=>
    have:[k].filter p=[]:=by rw[cQ,if_neg (by rw[hp];exact aJ)];rfl
    rw[this,dD];exact eM _ (i3 p)
end Internal.C
namespace Internal.C
section
open Internal.Z (c8 fL eD eO j3 dX g9 rh iY iX)
def fQ(L:Nat):Fn:=λx=>(iX L).getD x 0
theorem Co(h:x<2*L):fQ L x=2*((x/2+2*(x%2)+L - 1)%L)+1 - x%2:=by
 unfold fQ iX;rw[qi,rA,aee h];rfl
theorem pF(h:p<L):fQ L (2*p)=if p=0 then 2*(L - 1)+1 else 2*(p - 1)+1:=by
 rw[Co (by omega)];have e1:2*p/2=p:=by omega
 have e2:2*p%2=0:=by omega
 rw[e1,e2];by_cases h0:p=0
 ·rw[if_pos h0,h0,show 0+2*0+L - 1=L - 1 by omega,nH (by omega)];omega
 ·rw[if_neg h0,show p+2*0+L - 1=(p - 1)+L from Nat.sub_add_comm (Nat.pos_of_ne_zero h0),DX,nH (by omega)];omega
theorem oO(h:p<L):fQ L (2*p+1)=if p+1=L then 0 else 2*(p+1):=by
 rw[Co (by omega)];have e1:(2*p+1)/2=p:=by omega
 have e2:(2*p+1)%2=1:=by omega
 rw[e1,e2];by_cases h0:p+1=L
 ·rw[if_pos h0,show p+2*1+L - 1=L+L by omega,DX,Nat.mod_self]
 ·rw[if_neg h0,show p+2*1+L - 1=(p+1)+L by omega,DX,nH (by omega)];omega
theorem adG(x):(∃p,x=2*p)\/∃p,x=2*p+1:=by
 rcases fh x with h|h
 ·exact .inl ⟨x/2,by omega⟩
 ·exact .inr ⟨x/2,by omega⟩
theorem Ly(hL:2<=L):M (fQ L) (λx=>x<2*L):=by
 have ev:∀{p},p<L->∃q,q<L/\fQ L (2*p)=2*q+1/\fQ L (2*q+1)=2*p:=λ{p} h=>by
  rw[pF h];split
  ·exact⟨L - 1,by omega,rfl,by rw[oO (by omega),if_pos (by omega)];omega⟩
  ·exact⟨p - 1,by omega,rfl,by rw[oO (by omega),if_neg (by omega)];omega⟩
 have od:∀{p},p<L->∃q,q<L/\fQ L (2*p+1)=2*q/\fQ L (2*q)=2*p+1:=λ{p} h=>by
  rw[oO h];split
  ·exact⟨0,by omega,rfl,by rw[pF (by omega),if_pos rfl];omega⟩
  ·exact⟨p+1,by omega,rfl,by rw[pF (by omega),if_neg (Hn _)];rfl⟩
 have all:∀x,x<2*L->∃y,y<2*L/\fQ L x=y/\fQ L y=x/\y≠x:=λx hx=>by
  rcases adG x with⟨p,rfl⟩|⟨p,rfl⟩
  ·obtain⟨q,h1,h2,h3⟩:=ev (p:=p) (by omega)
   exact⟨2*q+1,by omega,h2,h3,by omega⟩
  ·obtain⟨q,h1,h2,h3⟩:=od (p:=p) (by omega)
   exact⟨2*q,by omega,h2,h3,by omega⟩
 exact⟨λx hx=>by obtain⟨_,h1,h2,_⟩:=all x hx;exact h2▸h1,λx hx=>by obtain⟨_,_,h2,h3,_⟩:=all x hx;exact h2▸h3,λx hx=>by obtain⟨_,_,h2,_,h4⟩:=all x hx;exact h2▸h4⟩
def j9(row w:List Nat)(n:Nat):List Let:=(a0 n).map λk=>(c8 row k,fL row k,w.getD k 0)
section
variable{row w:List Nat}{n:Nat}
theorem Row.at(H:Row row n)(hk:k<n):At row k (c8 row k) (fL row k):=akY (H.two k hk)
theorem Hc(ls:List Let):x∈gj (d9 ls)↔∃l∈ls,x∈gj (dw l.1 l.2.1 l.2.2):=by
 induction ls with
 |nil=>simp[d9,gj]
 |cons l ls ih=>
  rw[show d9 (l::ls)=dw l.1 l.2.1 l.2.2++d9 ls from dH ..,gA,cC,ih];simp
theorem Row.letter(H:Row row n)(hp:p<row.length):row.getD p 0<n:=by
 have:row.getD p 0∈row:=by simp[gJ,hp]
 exact H.lt _ this
theorem Ac:x∈gj (dw p q i)↔x/2=p\/x/2=q:=by
 have e (p:Nat):x/2=p↔x=2*p\/x=2*p+1:=by
  constructor
  ·intro h
   exact(fh x).imp (λr=>by rw[<-h];exact(oW x 2).symm.trans (by rw[r];rfl)) λr=>by rw[<-h];exact(oW x 2).symm.trans (by rw[r])
  ·rintro(rfl|rfl)
   ·exact Nat.mul_div_cancel_left _ (by decide)
   ·rw[avm (by decide)];rfl
 rw[DH,e,e,or_assoc]
theorem yt:x<2*L↔x/2<L:=by rw[Zb (by decide),hU]
theorem Cp(hp:row.getD p 0=m)(hq:row.getD q 0=m)(h:x∈gj (dw p q i)):row.getD (x/2) 0=m:=(Ac.mp h).elim (λe=>e▸hp) λe=>e▸hq
theorem DK(H:Row row n)(x:Nat):x<2*row.length↔x∈gj (d9 (j9 row w n)):=by
 rw [Hc,yt];constructor
 ·intro hp
  have hk:=H.letter hp
  exact ⟨(c8 row (row.getD (x/2) 0),fL row (row.getD (x/2) 0),w.getD (row.getD (x/2) 0) 0),iZ.mpr ⟨_,bH.mpr hk,rfl⟩,Ac.mpr ((H.at hk).only (x/2) hp rfl)⟩
 ·rintro ⟨l,hl,hx⟩
  obtain ⟨k,hk,rfl⟩:=jR hl;have A:=H.at (bH.mp hk)
  exact (Ac.mp hx).elim (λe=>e▸dn A.lt A.jl) λe=>e▸A.jl
theorem JO(h:p<q):[2*p,2*p+1,2*q,2*q+1].Nodup:=by simp;omega
theorem NA(H:Row row n):(gj (d9 (j9 row w n))).Nodup:=by
 have key:∀m,m<=n->(gj (d9 (j9 row w m))).Nodup:=λm=>by
  induction m with
  |zero=>intro _;exact mr
  |succ m ih=>
   intro hm
   have A:=H.at hm
   have e2:d9 (j9 row w (m+1))=d9 (j9 row w m)++dw (c8 row m) (fL row m) (w.getD m 0):=by
    unfold j9 d9;rw [ot,aX,yG];exact congrArg _ (dD _)
   rw [e2,gA];refine dG.mpr ⟨ih (rX hm),(nh _ _ _).nodup_iff.mpr (JO A.lt),λx hx y hy e=>?_⟩
   obtain ⟨l,hl,hx⟩:=(Hc _).mp hx;obtain ⟨k,hk,rfl⟩:=jR hl;have hk:=bH.mp hk
   have B:=H.at (dn hk hm)
   exact gG hk ((Cp B.ri B.rj hx).symm.trans (e▸Cp A.ri A.rj hy))
 exact key n (bD _)
theorem R0(H:Row row n):Ok (λx=>x<2*row.length) (d9 (j9 row w n)):=⟨NA H,λx hx=>(DK H x).mpr hx⟩
end
end
end Internal.C
namespace Internal.C
section
open Internal.Z (c8 fL eD eO j3 dX g9 rh iY iX)
section
variable{row w:List Nat}{n:Nat}
def zz(row line:List Nat)(β:Bool)(p:Nat):Bool:=β != par line (row.take p)
def GG(row line:List Nat)(β:Bool):HB:=λx=>if x<2*row.length then zz row line β (x/2+x%2)else false
theorem ur(line:List Nat)(β:Bool)(hp:p<row.length):zz row line β (p+1)=(zz row line β p != decide (row.getD p 0∈line)):=by
 unfold zz;rw[mw hp,DJ,Lx];have:row.getD p 0=row[p]:=by simp[gJ,hp]
 rw[this];cases β<;>cases par line (SH p row)<;>cases decide (row[p]∈line)<;>rfl
theorem yz(line:List Nat)(β:Bool):zz row line β 0=β:=by unfold zz;rw[avn,Wv];cases β<;>rfl
theorem nX(line:List Nat)(β:Bool)(h:p<row.length):GG row line β (2*p)=zz row line β p:=by
 unfold GG;rw[if_pos (by lia)];congr 1;lia
theorem tj(line:List Nat)(β:Bool)(h:p<row.length):GG row line β (2*p+1)=zz row line β (p+1):=by
 unfold GG;rw[if_pos (by lia)];congr 1;lia
theorem Cq(H:Row row n)(hk:k<n):row.count k=2:=by rw[<-Ab];exact H.two k hk
theorem Ww(H:Row row n)(hn:line.Nodup)(hl:∀x∈line,x<n):par line row=false:=by
 unfold par;rw[DI hn];have:(line.map λx=>row.count x).sum=2*line.length:=by
  clear hn;induction line with
  |nil=>rfl
  |cons a l ih=>
   rw[aH,dR,ih λx hx=>hl x (av _ hx),Cq H (hl a (ax ..)),aG];lia
 rw[this];have:2*line.length%2=0:=by lia
 rw[this];rfl
theorem Lz(H:Row row n)(hn:line.Nodup)(hl:∀x∈line,x<n)(β:Bool):zz row line β row.length=β:=by
 unfold zz;rw[fG,Ww H hn hl];cases β<;>rfl
def mid(row:List Nat)(k:Nat):List Nat:=(row.drop (c8 row k+1)).take (fL row k - (c8 row k+1))
theorem JP(A:At row k (c8 row k) (fL row k))(line:List Nat)(β:Bool):zz row line β (fL row k)=(zz row line β (c8 row k+1) != par line (mid row k)):=by
 unfold zz mid;have o5:=A.lt;have:row.take (fL row k)=row.take (c8 row k+1)++(row.drop (c8 row k+1)).take (fL row k - (c8 row k+1)):=by
  conv=>lhs;rw[show fL row k=(c8 row k+1)+(fL row k - (c8 row k+1))by lia]
  rw[Oi]
 rw[this,DJ];cases β<;>cases par line (SH (c8 row k+1) row)<;>cases par line (SH (fL row k - (c8 row k+1)) (ang (c8 row k+1) row))<;>rfl
theorem NB(H:Row row n)(A:At row k (c8 row k) (fL row k))(hx:x<n):(mid row k).count x<=2/\(mid row k).count k=0:=by
 constructor
 ·have h1:(mid row k).Sublist row:=(List.take_sublist _ _).trans (List.drop_sublist _ _)
  have:=h1.count_le x;rw[Cq H hx]at this;exact this
 ·rw[List.count_eq_zero]
  intro hm;obtain⟨i,hi,he⟩:=aei hm;unfold mid at hi he;rw[dU,eJ]at hi;rw[List.getElem_take,List.getElem_drop]at he;have h1:=Zc (bJ hi (tv ..));have h2:=Zc (bJ hi (J6 ..));have:row.getD (c8 row k+1+i) 0=k:=by
   rw[Internal.cN h1];exact he
  rcases A.only _ h1 this with h|h
  ·exact absurd h (Nat.ne_of_gt (bJ (fN _) (iM ..)))
  ·exact fg _ (h▸h2)
theorem NC(H:Row row n)(hk:k<n)(hkw:k<w.length)(hw:w.getD k 0<3)(line:List Nat):par line (eO row w k)=(par line (mid row k) != (decide (w.getD k 0=2)&&decide (k∈line))):=by
 unfold eO;rw[DJ];show(par line (mid row k) != par line (bz (w.getD k 0/2) k))=_;congr 1
 match h:w.getD k 0,hw with
 |0,_=>rfl
 |1,_=>rfl
 |2,_=>exact(Lx line k).trans (by simp)
theorem Hd(H:Row row n)(hk:k<n)(hx:x<n)(hw:w.getD k 0<3):(eO row w k).count x<=2:=by
 have A:=H.at hk;obtain⟨m1,m2⟩:=NB H A hx;unfold eO;rw[List.count_append];show(mid row k).count x+(bz (w.getD k 0/2) k).count x<=2;rw[List.count_replicate];by_cases e:k=x
 ·subst e
  rw[m2];split<;>lia
 ·rw[if_neg (by simpa using e)];lia
theorem LA{c:HB}{p q i:Nat}:(∀x∈dw p q i,c x.1=c x.2)↔(match i with
 |0=>c (2*p)=c (2*p+1)/\c (2*q)=c (2*q+1)
 |1=>c (2*p)=c (2*q+1)/\c (2*q)=c (2*p+1)
 |_=>c (2*p)=c (2*q)/\c (2*p+1)=c (2*q+1)):=by
 unfold dw;split<;>simp
theorem DL{c:HB}(ls:List Let):(∀x∈d9 ls,c x.1=c x.2)↔∀l∈ls,∀x∈dw l.1 l.2.1 l.2.2,c x.1=c x.2:=by
 unfold d9;simp only[Eh];exact⟨λh l hl x hx=>h x ⟨l,hl,hx⟩,λh x ⟨l,hl,hx⟩=>h l hl x hx⟩
theorem Ad(H:Row row n){k:Nat}(hk:k<n)(hkw:k<w.length)(hw:w.getD k 0<3)(line:List Nat)(h0:w.getD k 0=0->k∉line)(β:Bool):
 (∀x∈dw (c8 row k) (fL row k) (w.getD k 0),GG row line β x.1=GG row line β x.2)↔(w.getD k 0≠0->par line (eO row w k)=false):=by
 have A:=H.at hk;have o5:=A.lt;have VP:=A.jl;rw[LA,NC H hk hkw hw,nX _ _ (by lia),nX _ _ VP,tj _ _ (by lia),tj _ _ VP,ur _ _ VP,JP A];have hi:zz row line β (c8 row k+1)=(zz row line β (c8 row k) != decide (k∈line)):=by
  rw[ur _ _ (by lia),A.ri]
 rw[hi,A.rj];match h:w.getD k 0,hw with
 |0,_=>
  have:decide (k∈line)=false:=decide_eq_false (h0 h);rw[this];cases zz row line β (c8 row k)<;>cases par line (mid row k)<;>simp
 |1,_=>cases zz row line β (c8 row k)<;>cases par line (mid row k)<;>cases decide (k∈line)<;>simp
 |2,_=>cases zz row line β (c8 row k)<;>cases par line (mid row k)<;>cases decide (k∈line)<;>simp
theorem YW(H:Row row n)(hL:2<=row.length)(Au:w.length=n)(hw:∀x∈w,x<3){line:List Nat}(hn:line.Nodup)(hl:∀x∈line,x∈eD w)(β:Bool):
 CP (λx=>x<2*row.length) (fQ row.length) (d9 (j9 row w n)) (GG row line β)↔∀k∈eD w,par line (eO row w k)=false:=by
 have hwk:∀k,k<n->w.getD k 0<3:=λk hk=>by
  have:w.getD k 0∈w:=by simp[gJ,show k<w.length by lia]
  exact hw _ this
 have uu:∀k,k∈eD w↔k<n/\w.getD k 0≠0:=λk=>by
  unfold eD;rw[dq,bH,Au];simp
 have hln:∀x∈line,x<n:=λx hx=>((uu x).mp (hl x hx)).1;have h0:∀k,w.getD k 0=0->k∉line:=λk e hk=>((uu k).mp (hl k hk)).2 e;constructor
 ·intro h k hk
  obtain⟨k1,k2⟩:=(uu k).mp hk;have:=(DL _).mp h.par (c8 row k,fL row k,w.getD k 0) (iZ.mpr ⟨k,bH.mpr k1,rfl⟩);exact(Ad H k1 (by lia) (hwk k k1) line (h0 k) β).mp this k2
 ·intro h
  refine⟨λx hx=>by unfold GG;rw[if_neg hx],λx hx=>?_,(DL _).mpr λl hl=>?_⟩
  ·rcases adG x with⟨p,rfl⟩|⟨p,rfl⟩
   ·rw[pF (by lia),nX _ _ (by lia)]
    by_cases hp:p=0
    ·rw[if_pos hp,tj _ _ (by lia),show row.length - 1+1=row.length by lia,Lz H hn hln,hp,yz]
    ·rw[if_neg hp,tj _ _ (by lia),show p - 1+1=p by lia]
   ·rw[oO (by lia),tj _ _ (by lia)]
    by_cases hp:p+1=row.length
    ·rw[if_pos hp,show(0:Nat)=2*0 from rfl,nX _ _ (by lia),hp,Lz H hn hln,yz]
    ·rw[if_neg hp,nX _ _ (by lia)]
  ·obtain⟨k,hk,rfl⟩:=jR hl
   have hk:=bH.mp hk;exact(Ad H hk (by lia) (hwk k hk) line (h0 k) β).mpr λox=>h k ((uu k).mpr ⟨hk,ox⟩)
end
end
end Internal.C
namespace Internal.C
section
open Internal.Z (c8 fL eD eO j3 dX g9 rh iY iX)
section
variable{row w:List Nat}{n:Nat}
def FF(row w:List Nat)(c:HB):List Nat:=(eD w).filter λv=>c (2*c8 row v) != c (2*c8 row v+1)
def DM(row w:List Nat):List (List Nat):=(dX (eD w)).filter λline=>(((eD w).map (j3 row w)).filter λA5=>rh line A5).isEmpty
theorem Ae:(eD w).Nodup:=by
 unfold eD;exact List.nodup_range.filter _
theorem vP:line∈DM row w↔line∈dX (eD w)/\∀k∈eD w,rh line (j3 row w k)=false:=by
 unfold DM;rw[dq,iI,mn];constructor
 ·rintro⟨h1,h2⟩
  refine⟨h1,λk hk=>?_⟩;have:=h2 _ (iw hk);simpa using this
 ·rintro⟨h1,h2⟩
  refine⟨h1,λt ht=>?_⟩;obtain⟨k,hk,rfl⟩:=jR ht;rw[h2 k hk];exact aJ
theorem JQ(H:Row row n)(hL:2<=row.length)(Au:w.length=n)(hw:∀x∈w,x<3):2*iY row w=2^R (fQ row.length) (d9 (j9 row w n)):=by
 have hwk:∀k,k<n->w.getD k 0<3:=λk hk=>by
  have:w.getD k 0∈w:=by simp [gJ,show k<w.length by lia]
  exact hw _ this
 have uu:∀k,k∈eD w↔k<n/\w.getD k 0≠0:=λk=>by
  unfold eD;rw [dq,bH,Au];simp
 obtain ⟨s1,s2,s3⟩:=Nz (eD w) Ae;have X9:∀d∈dX (eD w),d.Nodup:=λd hd=>by
  rw [<-(s2 d hd).2];exact Ae.filter _
 have ak0:∀d,d.Nodup->(∀x∈d,x∈eD w)->∀k∈eD w,rh d (j3 row w k)=par d (eO row w k):=λd hn hl k hk=>by
  obtain ⟨k1,k2⟩:=(uu k).mp hk;exact adF hn hl λx hx=>Hd H k1 ((uu x).mp (hl x hx)).1 (hwk k k1)
 have h1:=RX (d9 (j9 row w n)) (fQ row.length) _ (Ly hL) (R0 H) (DK H)
 refine JM.uniq (P:=CP (λx=>x<2*row.length) (fQ row.length) (d9 (j9 row w n))) ?_ h1
 show JM _ (2*(DM row w).length)
 refine JM.two (DM row w) (s1.filter _) (λβ d=>GG row d β) (FF row w) 0 (λβ d hd=>?_) (λc hc=>?_) (λβ d hd=>?_)
 ·obtain ⟨d1,d2⟩:=vP.mp hd
  refine ⟨(YW H hL Au hw (X9 d d1) (s2 d d1).1 β).mpr λk hk=>?_,?_⟩
  ·rw [<-ak0 d (X9 d d1) (s2 d d1).1 k hk];exact d2 k hk
  ·exact (nX (p:=0) d β (by lia)).trans (yz d β)
 ·have He:FF row w c∈dX (eD w):=s3 _
  have ar2:∀k,k∈FF row w c↔k∈eD w/\c (2*c8 row k)≠c (2*c8 row k+1):=λk=>by
   unfold FF;rw [dq,bne_iff_ne]
  have YX:∀p,p<row.length->c (2*p+1)=(c (2*p) != decide (row.getD p 0∈FF row w c)):=λp hp=>by
   have hk:=H.letter hp
   generalize nA:row.getD p 0=k at hk;have A:=H.at hk
   have yf:=(DL _).mp hc.par (c8 row k,fL row k,w.getD k 0) (iZ.mpr ⟨k,bH.mpr hk,rfl⟩)
   have yf:=LA.mp yf
   have Ym:=hwk k hk
   have hl:=uu k
   have hm:=ar2 k
   rcases A.only p hp nA with e|e
   ·rw [e]
    match h:w.getD k 0,Ym with
    |0,_=>
     rw [h] at yf;have:k∉FF row w c:=λq=>(hl.mp (hm.mp q).1).2 h
     rw [decide_eq_false this,yf.1];simp
    |1,_=>
     have Aq:k∈eD w:=hl.mpr ⟨hk,by rw [h];decide⟩
     by_cases q:c (2*c8 row k)=c (2*c8 row k+1)
     ·rw [decide_eq_false (λz=>(hm.mp z).2 q),q];simp
     ·rw [decide_eq_true (hm.mpr ⟨Aq,q⟩)]
      cases h1:c (2*c8 row k)<;>cases h2:c (2*c8 row k+1)<;>simp_all
    |2,_=>
     have Aq:k∈eD w:=hl.mpr ⟨hk,by rw [h];decide⟩
     by_cases q:c (2*c8 row k)=c (2*c8 row k+1)
     ·rw [decide_eq_false (λz=>(hm.mp z).2 q),q];simp
     ·rw [decide_eq_true (hm.mpr ⟨Aq,q⟩)]
      cases h1:c (2*c8 row k)<;>cases h2:c (2*c8 row k+1)<;>simp_all
   ·rw [e]
    match h:w.getD k 0,Ym with
    |0,_=>
     rw [h] at yf;have:k∉FF row w c:=λq=>(hl.mp (hm.mp q).1).2 h
     rw [decide_eq_false this,yf.2];simp
    |1,_=>
     rw [h] at yf;have yf:c (2*c8 row k)=c (2*fL row k+1)/\c (2*fL row k)=c (2*c8 row k+1):=yf
     have Aq:k∈eD w:=hl.mpr ⟨hk,by rw [h];decide⟩
     rw [<-yf.1,yf.2];by_cases q:c (2*c8 row k)=c (2*c8 row k+1)
     ·rw [decide_eq_false (λz=>(hm.mp z).2 q),q];simp
     ·rw [decide_eq_true (hm.mpr ⟨Aq,q⟩)]
      cases h1:c (2*c8 row k)<;>cases h2:c (2*c8 row k+1)<;>simp_all
    |2,_=>
     rw [h] at yf;have yf:c (2*c8 row k)=c (2*fL row k)/\c (2*c8 row k+1)=c (2*fL row k+1):=yf
     have Aq:k∈eD w:=hl.mpr ⟨hk,by rw [h];decide⟩
     rw [<-yf.1,<-yf.2];by_cases q:c (2*c8 row k)=c (2*c8 row k+1)
     ·rw [decide_eq_false (λz=>(hm.mp z).2 q),q];simp
     ·rw [decide_eq_true (hm.mpr ⟨Aq,q⟩)]
      cases h1:c (2*c8 row k)<;>cases h2:c (2*c8 row k+1)<;>simp_all
  have hz:∀p,p<row.length->c (2*p)=zz row (FF row w c) (c 0) p:=λp=>by
   induction p with
   |zero=>intro _;exact (yz _ _).symm
   |succ p ih=>
    intro hp
    have ih:=ih (by lia)
    have ha:=hc.S7 (2*p+1) (show 2*p+1<2*row.length by lia)
    rw [oO (by lia),if_neg (by lia)] at ha
    rw [ha,YX p (by lia),ih,<-ur _ _ (by lia)]
  have hG:GG row (FF row w c) (c 0)=c:=by
   funext x
   by_cases hx:x<2*row.length
   ·rcases adG x with ⟨p,rfl⟩|⟨p,rfl⟩
    ·rw [nX _ _ (by lia),hz p (by lia)]
    ·rw [tj _ _ (by lia),ur _ _ (by lia),<-hz p (by lia),<-YX p (by lia)]
   ·rw [hc.out x hx]
    unfold GG;rw [if_neg hx]
  refine ⟨vP.mpr ⟨He,λk hk=>?_⟩,hG⟩
  rw [ak0 _ (X9 _ He) (s2 _ He).1 k hk];exact (YW H hL Au hw (X9 _ He) (s2 _ He).1 (c 0)).mp (by rw [hG];exact hc) k hk
 ·obtain ⟨d1,d2⟩:=vP.mp hd
  refine Ei ?_ (s2 d d1).2;unfold FF;apply alW
  intro k hk
  have A:=H.at ((uu k).mp hk).1
  have o5:=A.lt
  have VP:=A.jl
  rw [nX _ _ (by lia),tj _ _ (by lia),ur _ _ (by lia),A.ri]
  cases zz row d β (c8 row k)<;>cases decide (k∈d)<;>rfl
end
end
end Internal.C
namespace Internal.C
section
open Internal (eW j0 cN rO fA)
open Internal.Z (c8 fL eD eO j3 dX g9 rh iY iX sy mY jJ ek mZ pA zQ sZ rf)
abbrev St:=List Nat×Nat
def Ax(e:List Nat):Fn:=λx=>e.getD x 0
theorem LB(hl:e.length=N)(h:∀x∈e,x<N)(ha:a<N)(hb:b<N):Ax (eW e a b)=jn (Ax e) a b:=by
 have hea:e.getD a 0<e.length:=by rw[cN (by lia)];have:=h _ (aV (l:=e) (n:=a) (by lia));lia
 have heb:e.getD b 0<e.length:=by rw[cN (by lia)];have:=h _ (aV (l:=e) (n:=b) (by lia));lia
 funext x;unfold Ax jn eW;rw[qi,alX];by_cases h1:e.getD b 0=x
 ·rw[if_pos h1,if_pos (by rw[oq];exact heb),if_pos h1.symm];rfl
 ·rw[if_neg h1,if_neg (λz=>h1 z.symm),alX]
  by_cases h2:e.getD a 0=x
  ·rw[if_pos h2,if_pos hea,if_pos h2.symm];rfl
  ·rw[if_neg h2,if_neg (λz=>h2 z.symm)];rfl
theorem LD(e:List Nat)(a b:Nat):j0 e a b=rg (Ax e) a b:=rfl
theorem Af(g:mZ N st)(ha:a<N)(hb:b<N)(hc:c<N)(hd:d<N):Ax (sy a b c d st).1=run (Ax st.1) [(a,b),(c,d)]/\(sy a b c d st).2=st.2+R (Ax st.1) [(a,b),(c,d)]:=by
 obtain⟨h1,h2⟩:=pA g.1 g.2 ha hb;have e1:=LB g.1 g.2 ha hb;have e2:=LB h1 h2 hc hd;refine⟨?_,?_⟩
 ·show Ax (eW (eW st.1 a b) c d)=jn (jn (Ax st.1) a b) c d
  rw[e2,e1]
 ·show(st.2+j0 st.1 a b)+j0 (eW st.1 a b) c d=st.2+(rg (Ax st.1) a b+(rg (jn (Ax st.1) a b) c d+0))
  rw[LD,LD,e1];lia
theorem Hf(g:mZ N st)(hp:2*p+1<N)(hq:2*q+1<N):Ax (mY p q i st).1=run (Ax st.1) (dw p q i)/\(mY p q i st).2=st.2+R (Ax st.1) (dw p q i):=by
 match i with
 |0=>exact Af (a:=2*p) (b:=2*p+1) (c:=2*q) (d:=2*q+1) g (by lia) (by lia) (by lia) (by lia)
 |1=>exact Af (a:=2*p) (b:=2*q+1) (c:=2*q) (d:=2*p+1) g (by lia) (by lia) (by lia) (by lia)
 |i+2=>exact Af (a:=2*p) (b:=2*q) (c:=2*p+1) (d:=2*q+1) g (by lia) (by lia) (by lia) (by lia)
section
variable{row w:List Nat}{n:Nat}
def lC(row w:List Nat)(n k:Nat):List Let:=(xU k (n - k)).map λk=>(c8 row k,fL row k,w.getD k 0)
def Bd(row w:List Nat)(n k:Nat)(iU:List St):Int:=(iU.map λst=>(-2)^st.2*Z (Ax st.1) (lC row w n k)).sum
theorem Wx(a b:List Int):(a++b).sum=a.sum+b.sum:=by
 induction a with
 |nil=>simp
 |cons x a ih=>rw[du,dR,dR,ih];lia
theorem Wy(c:Int)(l:List Int):(l.map λx=>c*x).sum=c*l.sum:=by
 induction l with
 |nil=>simp
 |cons x l ih=>rw[aH,dR,dR,ih,lT]
theorem ND(H:Row row n)(hk:k<n)(iU:List St)(g:∀st∈iU,mZ (2*row.length) st):Bd row w n (k+1) (jJ row k (i9 (w.getD k 0)) iU)=Bd row w n k iU:=by
 have A:=H.at hk;have o5:=A.lt;have VP:=A.jl;have e:lC row w n k=(c8 row k,fL row k,w.getD k 0)::lC row w n (k+1):=by
  unfold lC;rw[show n - k=(n - (k+1))+1 by lia,sE,aH]
 unfold Bd jJ;induction iU with
 |nil=>rfl
 |cons st iU ih=>
  have ih:=ih λs hs=>g s (av _ hs);have gs:=g st (ax ..);rw[dH,aX,Wx,ih,aH,dR];congr 1;rw[cG,e];show _=(-2)^st.2*((i9 (w.getD k 0)).map λi=>(-2)^R (Ax st.1) (dw (c8 row k) (fL row k) i)*Z (run (Ax st.1) (dw (c8 row k) (fL row k) i)) (lC row w n (k+1))).sum;rw[<-Wy,cG];congr 1;apply iA;intro i _;obtain⟨j1,j2⟩:=Hf (p:=c8 row k) (q:=fL row k) (i:=i) gs (by lia) (by lia);show(-2)^(mY (c8 row k) (fL row k) i st).2*Z (Ax (mY (c8 row k) (fL row k) i st).1) (lC row w n (k+1))=(-2)^st.2*((-2)^R (Ax st.1) (dw (c8 row k) (fL row k) i)*Z (run (Ax st.1) (dw (c8 row k) (fL row k) i)) (lC row w n (k+1)));rw[j1,j2,lS,sj]
theorem NF(H:Row row n)(hL:2<=row.length)(Au:w.length=n)(hw:∀x∈w,x<3):((ek row (w.map i9) n).map λst=>(-2:Int)^st.2).sum=(-1)^n*(-2)^R (fQ row.length) (d9 (j9 row w n)):=by
 have hal:(w.map i9).length=n:=by rw[ag,Au]
 have good:∀i,i<=n->∀st∈ek row (w.map i9) i,mZ (2*row.length) st:=λi hi=>sZ (by lia) (λk hk=>H.two k (by lia)) i (by lia);have step:∀i,i<=n->Bd row w n i (ek row (w.map i9) i)=Bd row w n 0 [(iX row.length,0)]:=λi=>by
  induction i with
  |zero=>intro _;rfl
  |succ i ih=>
   intro hi;rw[<-ih (by lia)];show Bd row w n (i+1) (jJ row i ((w.map i9).getD i []) (ek row (w.map i9) i))=_;have:(w.map i9).getD i []=i9 (w.getD i 0):=by
    rw[cN (by lia),cN (by lia)];simp
   rw[this];exact ND H (by lia) _ (good i (by lia))
 have h0:=step n (bD _);have e1:Bd row w n n (ek row (w.map i9) n)=((ek row (w.map i9) n).map λst=>(-2:Int)^st.2).sum:=by
  unfold Bd lC;rw[Nat.sub_self];congr 1;apply iA;intro st _;show(-2)^st.2*1=_;rw[Int.mul_one]
 have e2:lC row w n 0=j9 row w n:=by
  unfold lC j9;rw[hW,nY]
 have e3:Bd row w n 0 [(iX row.length,0)]=Z (fQ row.length) (j9 row w n):=by
  unfold Bd;rw[e2];show(-2)^0*Z (Ax (iX row.length)) (j9 row w n)+0=_;rw[Int.pow_zero,Int.one_mul,W8];rfl
 have hz:=ar0 (j9 row w n) (fQ row.length) _ (Ly hL) (R0 H) (DK H) (λl hl=>by
  obtain⟨k,hk,rfl⟩:=jR hl;have hk:=bH.mp hk;have:w.getD k 0∈w:=by simp[gJ,show k<w.length by lia]
  exact hw _ this)
 rw[<-e1,h0,e3,hz];congr 2;unfold j9;simp
theorem NG(H:Row row n)(hL:2<=row.length)(Au:w.length=n):(ek row (w.map λx=>[x]) n).map (·.2)=[R (fQ row.length) (d9 (j9 row w n))]:=by
 have key:∀i,i<=n->∃st,ek row (w.map λx=>[x]) i=[st]/\mZ (2*row.length) st/\Ax st.1=run (fQ row.length) (d9 (j9 row w i))/\st.2=R (fQ row.length) (d9 (j9 row w i)):=λi=>by
  induction i with
  |zero=>intro _;exact ⟨_,rfl,rf _ (by lia),rfl,rfl⟩
  |succ i ih=>
   intro hi
   obtain ⟨st,s1,s2,s3,s4⟩:=ih (by lia)
   have A:=H.at (show i<n by lia)
   have o5:=A.lt
   have VP:=A.jl
   have e:j9 row w (i+1)=j9 row w i++[(c8 row i,fL row i,w.getD i 0)]:=by
    unfold j9;rw [ot,aX];rfl
   have e2:d9 (j9 row w (i+1))=d9 (j9 row w i)++dw (c8 row i) (fL row i) (w.getD i 0):=by
    rw [e];unfold d9;rw [yG];simp
   have ak1:ek row (w.map λx=>[x]) (i+1)=[mY (c8 row i) (fL row i) (w.getD i 0) st]:=by
    show jJ row i ((w.map λx=>[x]).getD i []) (ek row (w.map λx=>[x]) i)=_
    have:(w.map λx=>[x]).getD i []=[w.getD i 0]:=by
     rw [cN (by rw [ag];lia),cN (by lia)];simp
    rw [this,s1];rfl
   obtain ⟨j1,j2⟩:=Hf (p:=c8 row i) (q:=fL row i) (i:=w.getD i 0) s2 (by lia) (by lia)
   have adH:∀(ps qs:List (Nat×Nat))(f:Fn),run f (ps++qs)=run (run f ps) qs:=λps=>by
    induction ps with
    |nil=>intro qs f;rfl
    |cons a ps ih=>intro qs f;exact ih qs _
   refine ⟨_,ak1,Internal.Z.zR s2 (by lia) (by lia),?_,?_⟩
   ·rw [j1,s3,e2,adH]
   ·rw [j2,s3,s4,e2,Lu]
 obtain ⟨st,s1,_,_,s4⟩:=key n (bD _);rw [s1];show [st.2]=_
 rw [s4]
end
end
end Internal.C
end
section
open PySem PySem.W PyProof.Rows
namespace Internal.Z
section
def lK:bW:=vz "law"
def lB:List Stmt:=bo "law"
section
variable{T:fe}
def Cr:D:=((dh T00 31).d lK [] (br (aq 0 lB))).getD .none
def p8:List Int:=K3 Cr
theorem Wz:Cr=.lst (p8.map .int):=by rfl'
theorem Hg:p8.length=4:=by rfl'
theorem WA:p8.all (λx=>decide (0<=x))=true:=by rfl'
abbrev kS(cW:List D)(Ag:D):cw:=[("script",.lst cW),("owns",Ag)]
def Ay:ae:=br (aq 1 lB)
def JR:ae:=rM 0 (Je (ajj Ay))
abbrev Cs:Int:=1000000000000000000000000000000
theorem k_in(cW Ag)(p t):ff (dh T 27) (gq (kS cW (.lst Ag)) (.int p) Ay) JR (.int t)=((g8 (.lst cW) t).bind λd=>az .Mod d (.int Cs)).map λd=>[d]:=by rfl'
theorem ak2(cW Ag)(p):KZ (vA Ay) (gq (kS cW (.lst Ag)) (.int p) Ay) JR=true:=by rfl'
theorem ak3(cW Ag)(p):(dh T 27).d (vA Ay) (gq (kS cW (.lst Ag)) (.int p) Ay) (kK JR)=
 ((((((bY .len [.lst cW]).bind λd=>some [d]).bind λds=>some (.int 60::ds)).bind λds=>bY .min ds).bind λm=>some [m,.int 4]).bind λds=>some (.int p::ds)).bind λds=>bY .range ds:=by rfl'
theorem ak4(cW Ag)(p):ff (dh T 30) (kS cW (.lst Ag)) Ay (.int p)=
 ((g8 (.lst Ag) p).bind λa=>((((dh T 28).d (vA Ay) (gq (kS cW (.lst Ag)) (.int p) Ay) JR).bind λd=>some [d]).bind λds=>bY .sum ds).bind λb=>az .Add a b).map λd=>[d]:=by rfl'
theorem uY(c):∀(n:Nat)(a:Int),mj a c n=(a0 n).map λi=>D.int (a+c*(i:Nat)):=by
 intro zx
 induction zx with
 |zero=>
  rintro _;exact rfl
 |succ n ih=>
  rintro a;rw[mj,ih,Tb,aH,cG];congr 1
  ·simp
  ·apply iA
   intro i _;show D.int (a+c+c*(i:Int))=D.int (a+c*((i+1:Nat):Int));congr 1;push_cast;rw[lT];omega
theorem WB(p m:Nat)(hp:p<=3)(hm:m<=60):∃N,items (.om p m 4)=some ((a0 N).map λi=>D.int ((p:Int)+4*(i:Nat)))/\N<=60/\∀i,i<N->p+4*i<m:=by
 have all:∀p:Nat,p<4->∀m:Nat,m<61->lx p m 4=true/\jh p m 4<=60/\∀i:Nat,i<jh p m 4->p+4*i<m:=by decide
 obtain⟨DZ,h1,h2⟩:=all p (gi hp) m (gi hm);refine⟨jh p m 4,?_,h1,h2⟩;rw[Fh,if_pos DZ,uY]
theorem adI(a b):bY .range [.int a,.int b,.int 4]=some (.om a b 4):=by
 show(if(4:Int)≠0/\sm 4=true then some (D.om a b 4)else none)=_;rw[if_pos ⟨by decide,iW (by decide) (by decide)⟩]
theorem ar3(a b):bY .min [.int a,.int b]=some (.int (if b<a then b else a)):=rfl
theorem WC{l:List Int}:bY .sum [.lst (l.map .int)]=some (.int l.sum):=by
 show(iD (l.map .int)).map (λns=>D.int ns.sum)=_;rw[GH];rfl
theorem k_one(cW:List Int)(hl:cW.length<=63)(p:Nat)(hp:p<=3):∃h:Nat,ff (dh T 30) (kS (cW.map .int) (.lst (p8.map .int))) Ay (.int p)=some [di h]:=by
 have eY:=dO;have hpl:p<p8.length:=by rw[Hg];omega
 obtain⟨m,hm⟩:∃m,m=min 60 cW.length:=⟨_,rfl⟩;obtain⟨N,hN,aya,hNi⟩:=WB p m hp (by omega);have ak5:(dh T 27).d (vA Ay) (gq (kS (cW.map .int) (.lst (p8.map .int))) (.int p) Ay) (kK JR)=some (.om p m 4):=by
  rw[ak3,mz (by rw[ag];omega),af,af,af,ag];have:bY .min [.int 60,.int (cW.length:Int)]=some (.int (m:Int)):=by
   have h2:(if(cW.length:Int)<60 then(cW.length:Int)else 60)=(m:Int):=by split<;>omega
   rw[ar3,h2]
  rw[this,af,af,af,adI]
 have e:=dF (T:=T) (V:=dh T 27) (ks:=vA Ay) (σ:=gq (kS (cW.map .int) (.lst (p8.map .int))) (.int p) Ay) (e:=JR) (d:=.om p m 4) (φ:=λi:Nat=>D.int ((p:Int)+4*(i:Nat))) (xs:=a0 N) (g:=λi=>[D.int ((cW.getD (p+4*i) 0).fmod Cs)])
  (ak2 ..) ak5 hN (λi hi=>?_) (by rw[cH,ag,cf];omega)
 ·rw[cH]at e
  obtain⟨ns,Ig⟩:∃ns,ns=(a0 N).map λi=>(cW.getD (p+4*i) 0).fmod Cs:=⟨_,rfl⟩
  have e2:((a0 N).map λi=>D.int ((cW.getD (p+4*i) 0).fmod Cs))=ns.map .int:=by rw[Ig,cG];rfl
  rw[e2]at e;have hnn:0<=ns.sum:=by
   have:∀x∈ns,0<=x:=λx hx=>by
    rw[Ig]at hx;obtain⟨i,_,rfl⟩:=jR hx;exact Xj _ (by decide)
   clear e2 e Ig;induction ns with
   |nil=>simp
   |cons a l ih=>
    rw[dR];have h1:=this a (ax ..);have h2:=ih λx hx=>this x (av _ hx);omega
  have ho:0<=p8[p]:=by
   have:=bf.mp WA _ (aV hpl);simpa using this
  refine⟨(p8[p]+ns.sum).toNat,?_⟩;rw[ak4,oJ hpl (by rw[Hg];decide),af];rw[show(dh T 28).d (vA Ay) (gq (kS (cW.map .int) (.lst (p8.map .int))) (.int p) Ay) JR=some (.lst (ns.map .int))from e,af,af,WC,af];show some [D.int (p8[p]+ns.sum)]=some [D.int (((p8[p]+ns.sum).toNat:Nat):Int)];rw[Ak (by omega)]
 ·have hi:=hNi i (bH.mp hi)
  rw[k_in,show(p:Int)+4*(i:Int)=((p+4*i:Nat):Int)by push_cast;rfl,oJ (by omega) (by omega),af];show(ec (if Cs≠0 then some (D.int (cW[p+4*i].fmod Cs))else none) none).map _=_;rw[if_pos (by decide),cN (by omega)];rfl
theorem WD(cW:List Int)(hl:cW.length<=63):∃h0 h1 h2 h3:Nat,(dh T 31).d lK (kS (cW.map .int) Cr) Ay=some (dl [h0,h1,h2,h3]):=by
 have eY:=dO;obtain⟨h0,e0⟩:=k_one (T:=T) cW hl 0 (by decide);obtain⟨h1,e1⟩:=k_one (T:=T) cW hl 1 (by decide);obtain⟨h2,e2⟩:=k_one (T:=T) cW hl 2 (by decide);obtain⟨h3,e3⟩:=k_one (T:=T) cW hl 3 (by decide);refine⟨h0,h1,h2,h3,?_⟩;rw[Wz];refine zM (d:=.om 0 4 1) (ds:=[.int 0,.int 1,.int 2,.int 3]) (by rfl') (by rfl') (by rfl') ?_ (by rw[eY];show(4:Nat)<=1048576;decide);show((ff _ _ Ay (.int ((0:Nat):Int))).bind λa=>((ff _ _ Ay (.int ((1:Nat):Int))).bind λb=>((ff _ _ Ay (.int ((2:Nat):Int))).bind λc=>((ff _ _ Ay (.int ((3:Nat):Int))).bind λd=>(some []).bind λe=>some (d++e)).bind λx=>some (c++x)).bind λx=>some (b++x)).bind λx=>some (a++x))=_;rw[e0,e1,e2,e3];rfl
end
end
theorem sA{α β:Type}[BEq α][LawfulBEq α][BEq β][LawfulBEq β]{f:α->β}{x:α}(l:List α)(h:∀y∈l,f y=f x->y=x):(l.map f).count (f x)=l.count x:=by
 induction l with
 |nil=>rfl
 |cons a l ih=>
  rw[aH,lj,lj,ih λy hy=>h y (av _ hy)];congr 1;by_cases e:a=x
  ·subst e;simp
  ·have e2:f a≠f x:=λq=>e (h a (ax ..) q)
   rw[if_neg (by simpa using e2),if_neg (by simpa using e)]
theorem sD{α β:Type}[BEq α][LawfulBEq α][BEq β][LawfulBEq β]{f:α->β}{x:α}(l:List α)(h:∀y∈l,f y=f x->y=x):(l.map f).idxOf (f x)=l.idxOf x:=by
 induction l with
 |nil=>rfl
 |cons a l ih=>
  rw[aH,asV,asV,ih λy hy=>h y (av _ hy)];by_cases e:a=x
  ·subst e;simp
  ·have e2:f a≠f x:=λq=>e (h a (ax ..) q)
   have h1:(f a==f x)=false:=by simpa using e2
   have h2:(a==x)=false:=by simpa using e
   rw[h1,h2]
theorem JS(ha:a∈bA)(h:vL a=vL b)(hb:b∈bA):a=b:=by
 unfold vL rn at h;have h:bA.idxOf a=bA.idxOf b:=by omega
 have e1:bA[bA.idxOf a]'(ju ha)=a:=qf _;have e2:bA[bA.idxOf b]'(ju hb)=b:=qf _;rw[<-e1,<-e2];congr 1
structure WI(nm:List Nat)(k:List Nat)(s:WS):Prop where
 names:s.names=k.map vL
 row:s.row=nm.map λl=>k.idxOf l
 wl:s.aF.length=k.length
 w3:∀x∈s.aF,0<=x/\x<3
 nd:k.Nodup
 mem:∀l,l∈k↔l∈nm
theorem R1(ma:Nat)(nm:List Nat)(hle:∀l∈nm,l∈bA):WI nm (nm.foldl (Ea ma) ([],[])).2 ((nm.foldl (Ea ma) ([],[])).1.foldl fZ ⟨[],[],[],0⟩):=by
 induction nm using zZ with
 |h0=>exact⟨rfl,rfl,rfl,by simp,mr,by simp⟩
 |h1 nm l ih=>
  have ih:=ih λx hx=>hle x (eM _ hx);have hl:l∈bA:=hle l (by simp);rw[eh];generalize nm.foldl (Ea ma) ([],[])=rk at ih;obtain⟨r,k⟩:=rk;dsimp only at ih;obtain⟨i1,i2,i3,i4,i5,i6⟩:=ih;have Yn:∀y∈k,y∈bA:=λy hy=>hle y (eM _ ((i6 y).mp hy));have ak6:(255:Int)<vL l:=by unfold vL;omega
  show WI (nm++[l]) (Ea ma (r,k) l).2 ((Ea ma (r,k) l).1.foldl fZ ⟨[],[],[],0⟩);by_cases hk:l∈k
  ·have e:Ea ma (r,k) l=(r++[vL l],k):=by unfold Ea;rw[if_pos hk]
   rw[e,eh];generalize r.foldl fZ ⟨[],[],[],0⟩=s at i1 i2 i3 i4;have hm:vL l∈s.names:=by rw[i1];exact iw hk
   have e2:[vL l].foldl fZ s=⟨s.names,s.row++[s.names.idxOf (vL l)],s.aF,vL l⟩:=by
    show fZ s (vL l)=_;unfold fZ;rw[if_pos ak6,if_pos hm]
   rw[e2];refine⟨i1,?_,i3,i4,i5,λx=>?_⟩
   ·show s.row++[s.names.idxOf (vL l)]=_
    rw[i2,i1,aX,sD k λy hy q=>JS (Yn y hy) q hl];rfl
   ·rw[cC,<-i6]
    constructor
    ·exact .inl
    ·rintro(h|h)
     ·exact h
     ·rw[aU.mp h];exact hk
  ·have e:Ea ma (r,k) l=(r++[((7+A9 ma k:Nat):Int),vL l],k++[l]):=by unfold Ea;rw[if_neg hk]
   rw[e,eh];generalize r.foldl fZ ⟨[],[],[],0⟩=s at i1 i2 i3 i4;have hwh:A9 ma k<48:=dA _ (by decide);have AJ:vL l∉s.names:=by
    rw[i1];intro q;obtain⟨y,hy,e⟩:=jR q;exact hk (JS (Yn y hy) e hl▸hy)
   have e2:[((7+A9 ma k:Nat):Int),vL l].foldl fZ s=⟨s.names++[vL l],s.row++[(s.names++[vL l]).idxOf (vL l)],s.aF++[((7+A9 ma k:Nat):Int).fmod 3],vL l⟩:=by
    show fZ (fZ s ((7+A9 ma k:Nat):Int)) (vL l)=_;have:fZ s ((7+A9 ma k:Nat):Int)=⟨s.names,s.row,s.aF,((7+A9 ma k:Nat):Int)⟩:=by unfold fZ;rw[if_neg (by omega)]
    rw[this];unfold fZ;rw[if_pos ak6,if_neg AJ]
   rw[e2];refine⟨?_,?_,?_,λx hx=>?_,?_,λx=>?_⟩
   ·show s.names++[vL l]=(k++[l]).map vL
    rw[i1,aX];rfl
   ·show s.row++[(s.names++[vL l]).idxOf (vL l)]=_
    have e3:s.names++[vL l]=(k++[l]).map vL:=by rw[i1,aX];rfl
    rw[e3,sD (k++[l]) (λy hy q=>?_),i2,aX]
    ·congr 1
     apply iA;intro y hy;rw[List.idxOf_append,if_pos ((i6 y).mpr hy)]
    ·rcases cC.mp hy with h|h
     ·exact JS (Yn y h) q hl
     ·exact aU.mp h
   ·show(s.aF++[_]).length=(k++[l]).length
    rw[aC,aC,i3];rfl
   ·rcases cC.mp hx with h|h
    ·exact i4 x h
    ·rw[aU.mp h]
     exact⟨Xj _ (by decide),Int.fmod_lt_of_pos _ (by decide)⟩
   ·exact dG.mpr ⟨i5,by simp,λa ha b hb e=>hk (by rw[aU.mp hb]at e;exact e▸ha)⟩
   ·rw[cC,cC,i6]
theorem Ct(s:WS):(([0,255,-1]:List Int).foldl fZ s).row=s.row/\(([0,255,-1]:List Int).foldl fZ s).aF=s.aF:=⟨rfl,rfl⟩
theorem uv(heap):∀l∈ji heap,l∈bA:=λl hl=>by
 unfold ji at hl;obtain⟨x,_,rfl⟩:=jR hl;have h5:(x+(gu heap (2*(3+heap%3))).2)%5<bA.length:=by rw[oK];exact dA _ (by decide)
 rw[cN h5];exact aV h5
theorem Be:bA.Nodup:=by decide
theorem Hh(heap):(ji heap).length=2*(3+heap%3):=by
 unfold ji;rw[ag,tc]
theorem JT(N x)(hN:N=3\/N=4\/N=5)(hx:x<N):((a0 (2*N)).map (·/2)).count x=2:=by
 have:∀N∈[3,4,5],∀x∈a0 N,((a0 (2*N)).map (·/2)).count x=2:=by decide
 exact this N (by simpa using hN) x (bH.mpr hx)
theorem JU(heap l:Nat)(hl:l∈ji heap):(ji heap).count l=2:=by
 unfold ji at hl⊢;have hp:=GO heap (2*(3+heap%3));obtain⟨s,hs⟩:∃s,s=gu heap (2*(3+heap%3)):=⟨_,rfl⟩;rw[<-hs]at hl hp⊢;obtain⟨x,hx,rfl⟩:=jR hl;have o5:∀y∈s.1,y<3+heap%3:=λy hy=>by
  have:=hp.mem_iff.mp hy;obtain⟨i,hi,rfl⟩:=jR this;have:=bH.mp hi;omega
 have hxl:=o5 x hx;rw[sA (f:=λx=>bA.getD ((x+s.2)%5) 0) s.1 λy hy e=>?_,hp.count_eq]
 ·exact JT _ x (by omega) hxl
 ·have hyl:=o5 y hy
  have a1:(y+s.2)%5<bA.length:=by rw[oK];exact dA _ (by decide)
  have a2:(x+s.2)%5<bA.length:=by rw[oK];exact dA _ (by decide)
  rw[cN a1,cN a2]at e;have:=(List.getElem_inj Be).mp e;omega
theorem NH(k:List Nat)(f:Nat->Nat)(h:∀x∈k,f x=2):(k.map f).sum=2*k.length:=by
 induction k with
 |nil=>rfl
 |cons a k ih=>rw[aH,dR,ih λx hx=>h x (av _ hx),h a (ax ..),aG];omega
theorem R3(heap ma:Nat):∃(row w:List Nat),Internal.C.Row row (3+heap%3)/\w.length=3+heap%3/\(∀x∈w,x<3)/\
 ((((ji heap).foldl (Ea ma) ([],[])).1++[0,255,-1]).foldl fZ ⟨[],[],[],0⟩).row=row/\((((ji heap).foldl (Ea ma) ([],[])).1++[0,255,-1]).foldl fZ ⟨[],[],[],0⟩).aF=w.map eR:=by
 have I:=R1 ma (ji heap) (uv heap);rw[eh,(Ct _).1,(Ct _).2];generalize (ji heap).foldl (Ea ma) ([],[])=rk at I;obtain⟨r,k⟩:=rk;dsimp only at I⊢;generalize r.foldl fZ ⟨[],[],[],0⟩=s at I;have hlen:=Hh heap;have Du:=JU heap;generalize ji heap=nm at I hlen Du;generalize 3+heap%3=n at hlen;have kr:k.length=n:=by
  have h1:=Internal.C.DI I.nd nm;have h2:(nm.filter λy=>decide (y∈k))=nm:=by
   rw[List.filter_eq_self];intro y hy;exact decide_eq_true ((I.mem y).mpr hy)
  rw[h2,NH k _ λx hx=>Du x ((I.mem x).mp hx)]at h1;omega
 have hw:s.aF=(s.aF.map yE).map eR:=by
  rw[cG];have:∀l:List Int,(∀x∈l,0<=x/\x<3)->l=l.map (eR∘yE):=λl=>by
   induction l with
   |nil=>intro _;rfl
   |cons a l ih=>
    intro h;rw[aH,<-ih λx hx=>h x (av _ hx)];have:=h a (ax ..);congr 1;show a=((a.toNat:Nat):Int)
    omega
  exact this _ I.w3
 refine⟨s.row,s.aF.map yE,⟨?_,λj hj=>?_,λx hx=>?_⟩,by rw[ag,I.wl,kr],λx hx=>?_,rfl,hw⟩
 ·rw[I.row,ag,hlen]
 ·rw[Internal.C.Ab,I.row]
  have hj':j<k.length:=by omega
  have e:j=k.idxOf k[j]:=(I.nd.idxOf_getElem j hj').symm
  conv=>lhs;rw[e]
  have hkm:k[j]∈nm:=(I.mem _).mp (aV hj');rw[sA (f:=λl=>k.idxOf l) nm λy hy q=>?_]
  ·exact Du _ hkm
  ·have hyk:=(I.mem y).mpr hy
   have q:k.idxOf y=k.idxOf k[j]:=q;have e1:k[k.idxOf y]'(ju hyk)=y:=qf _;rw[<-e1];congr 1;rw[q,<-e]
 ·rw[I.row]at hx
  obtain⟨l,hl,rfl⟩:=jR hx;rw[<-kr];exact ju ((I.mem l).mpr hl)
 ·obtain⟨y,hy,rfl⟩:=jR hx
  have:=I.w3 y hy;omega
section
set_option genSizeOfSpec false in
set_option genInjectivity false in
structure Lp where
 (sc rd row aF al rings digits:List D) (a b c e made even width base:Int) (tx:Str)
section
variable{T:fe}(p:Lp)
abbrev hpD(a b c e:Int):D:=.lst [.int a,.int b,.int c,.int e]
abbrev WE:cw:=[("script",.lst p.sc),("owns",Cr),("heaps",hpD p.a p.b p.c p.e),("text",.str p.tx),("meant",.lst p.rd),("read",.lst p.rd),("row",.lst p.row),("ways",.lst p.aF)]
abbrev YZ:cw:=WE p++([("allowed",.lst p.al)]:cw)
abbrev l8S:cw:=WE p++([("allowed",.lst p.al),("rings",.lst p.rings),("made",.int p.made),("even",.int p.even)]:cw)
abbrev S8:cw:=l8S p++([("width",.int p.width)]:cw)
abbrev Y0:cw:=l8S p++([("width",.int p.width),("digits",.lst p.digits),("base",.int p.base)]:cw)
def lC6:ae:=br (aq 6 lB)
theorem ar5(i):ff (dh T 30) (WE p) lC6 (.int i)=
 (((g8 (.lst p.aF) i).bind λd=>((((az .Pow (.int 336) (.int i)).bind λq=>az .FloorDiv (.int p.e) q).bind λd2=>some [d2]).bind λds=>some (d::ds))).bind λds=>T.fn "_law_others" ds).map λd=>[d]:=by rfl'
theorem ak7:(dh T 30).d lK (WE p) (kK lC6)=((bY .len [.lst p.aF]).bind λd=>some [d]).bind λds=>bY .range ds:=by rfl'
theorem ak8:KZ lK (WE p) lC6=true:=by rfl'
def lE8(i:Nat):ae:=ub i (aq 8 lB)
def lC8:ae:=rM 1 (qZ (lE8 1))
def HC:ae:=ub 1 (aq 10 lB)
theorem l_b(n)(h1:(dh T 31).d lK (kS p.sc Cr) Ay=some (hpD p.a p.b p.c p.e))(h2:T.fn "_law_ring" [.int p.a]=some (.str nm))(h3:T.fn "_law_page" [.str nm,.int p.b,.int p.c]=some (.tup [.str p.tx,.lst p.rd]))
(h4:T.fn "_law_read" [.str p.tx]=some (.lst p.rd))(h5:cmp .NotEq (.lst p.rd) (.lst p.rd)=some false)(h6:az .Add (.lst p.rd) (.lst [.int 255,.int (-1)])=some (.lst rd2))(h7:T.fn "_law_ways" [.lst rd2]=some (.tup [.lst p.row,.lst p.aF]))
(h8:(dh T 31).d lK (WE p) lC6=some (.lst p.al))
(g1:cmp .Eq (.lst p.row) (.lst [])=some false)(g2:gL (.lst []) (.lst p.al)=some false)
(g3:T.fn "_law_rings" [.lst p.row,.lst p.al]=some (.lst p.rings))(g4:(dh T 29).d lK (YZ p) lC8=some (.lst ones))(g5:T.fn "_law_rings" [.lst p.row,.lst ones]=some (.lst ak9))(g6:g8 (.lst ak9) 0=some (.int p.made))(g7:T.fn "_law_even" [.lst p.row,.lst p.aF]=some (.int p.even))
(k1:((((az .Pow (.int 336) (.int 5)).bind λq=>az .FloorDiv (.int p.e) q).bind λd=>az .Mod d (.int 23)).bind λd=>az .Add (.int 8) d)=some (.int p.width))(k2:az .Pow (.int 2) (.int p.width)=some (.int p.base))
(k3:(dh T 31).d lK (S8 p) HC=some (.lst p.digits)):
 cM (cY (Va T) lK [] 60 (Xa T lK [] (n+1))) ([aq 0 lB,aq 1 lB,aq 2 lB,aq 3 lB,aq 4 lB,aq 5 lB,aq 6 lB]++([aq 7 lB,aq 8 lB]++[aq 9 lB,aq 10 lB])) [("script",.lst p.sc)] []=some (.nx (Y0 p) []):=by
 refine rT (σ':=YZ p) (own':=[]) ?_ (rT (σ':=l8S p) (own':=[]) ?_ ?_)
 ·refine d8 (bC Cr (by rfl')) ?_
  refine d8 (zT [.int p.a,.int p.b,.int p.c,.int p.e] (tr h1)) ?_;refine d8 (l7 (.tup [.str p.tx,.lst p.rd],false) (lZ (d:=.tup [.str p.tx,.lst p.rd]) (tr (b:=((T.fn "_law_ring" [.int p.a]).bind λd=>some [d,.int p.b,.int p.c]).bind λds=>T.fn "_law_page" ds) (oB (oB h2 rfl) h3)))) ?_;refine d8 (bC (.lst p.rd) (tr h4)) ?_;refine cS (b:=[]) (tr h5) (fX (bs:=[]) rfl) ?_;refine d8 (l7 (.tup [.lst p.row,.lst p.aF],false) (lZ (d:=.tup [.lst p.row,.lst p.aF]) (tr (b:=((az .Add (.lst p.rd) (.lst [.int 255,.int (-1)])).bind λd=>some [d]).bind λds=>T.fn "_law_ways" ds) (oB (oB h6 rfl) h7)))) ?_;exact d8 (zT p.al (tr h8)) (by rfl')
 ·refine cS (b:=[]) (tr (b:=orB (cmp .Eq (.lst p.row) (.lst [])) (orB (gL (.lst []) (.lst p.al)) (some false))) (by rw[g1,g2];rfl)) (fX (bs:=[]) rfl) ?_
  exact d8 (l6 ["rings","made","even"] [lE8 0,lE8 1,lE8 2] (dm (lZ (tr g3)) (dm (lZ (tr (b:=(((((dh T 29).d lK (YZ p) lC8).bind λd=>some [d]).bind λds=>some (.lst p.row::ds)).bind λds=>T.fn "_law_rings" ds).bind λd=>g8 d 0) (oB (oB (oB (oB g4 rfl) rfl) g5) g6))) (dm (lZ (tr g7)) l5)))) (by rfl')
 ·refine d8 (bC (.int p.width) (tr k1)) ?_
  exact d8 (l6 ["base","digits"] [ub 0 (aq 10 lB),HC] (dm (lZ (tr k2)) (dm (lZ (tr k3)) l5))) (by rfl')
end
end
section
structure LS(T:fe):Prop where
 ring:∀heap:Nat,T.fn "_law_ring" [di heap]=some (.str (mk (ji heap)))
 ala:∀(nm:List Nat)(ty ma:Nat),nm.length<=10->(∀l∈nm,l∈bA)->∃t r k,PI nm ma nm.length t r k/\T.fn "_law_page" [.str (mk nm),di ty,di ma]=some (.tup [.str (mk t),.lst ((r++[0]).map .int)])
 read:∀(cs:List Nat)(vs:List Int),cs.length<=1000->(∀c∈cs,m8 c=false->(og c).length<=100)->Jq (hO cs) vs->vs.length<60->T.fn "_law_read" [.str (mk cs)]=some (.lst ((vs++[0]).map .int))
 aF:∀xs:List Int,xs.length<=1000->T.fn "_law_ways" [.lst (xs.map .int)]=some (.tup [dl (xs.foldl fZ ⟨[],[],[],0⟩).row,.lst ((xs.foldl fZ ⟨[],[],[],0⟩).aF.map .int)])
 oth:OS T
 rings:∀(row:List Nat)(al:List (List Nat)),(row.length=6\/row.length=8\/row.length=10)->(∀k<al.length,(fA row k).length=2)->al.length<=5->(∀ws∈al,ws.length<=3/\∀w∈ws,w<3)->T.fn "_law_rings" [dl row,.lst (al.map dl)]=some (dl ((ek row al al.length).map (·.2)))
 even:∀row aF:List Nat,row.length<=2^10->aF.length<=10->(∀k<aF.length,(fA row k).length=2)->(∀w∈aF,w<3)->T.fn "_law_even" [dl row,dl aF]=some (di (iY row aF))
theorem alb(hp:∀f,(f==("_int2digits":Str))=false->(f==("_digits2int":Str))=false->prim f=none)(r):LS (Tn prim (r+4)) where
 ring heap:=eZ (["heap"]:List Str) (hp _ (by decide) (by decide)) (ajV heap)
 ala nm ty ma h1 h2:=by
  obtain⟨t,r',k,I,h⟩:=ajT (T:=Tn prim (r+3)) nm ty ma h1 h2;exact⟨t,r',k,I,eZ (["names","typing","marks"]:List Str) (hp _ (by decide) (by decide)) h⟩
 read cs vs h1 h2 h3 h4:=eZ (["text"]:List Str) (hp _ (by decide) (by decide)) (ajD (Yl hp (r+2)) (uc prim _) cs vs h1 h2 h3 h4)
 aF xs h:=eZ (["symbols"]:List Str) (hp _ (by decide) (by decide)) (w_all (Yl hp (r+2)) xs h)
 oth:=akU hp (r+1)
 rings row al h1 h2 h3 h4:=by
  have h:=ajg (T:=Tn prim (r+3)) (QX (r:=r+2) (hp _ (by decide) (by decide))) row al h1 h2 h3 h4;rw[show((ek row al al.length).map λst=>D.int st.2)=((ek row al al.length).map (·.2)).map di from by rw[cG];rfl]at h;exact eZ (["row","allowed"]:List Str) (hp _ (by decide) (by decide)) h
 even row aF h1 h2 h3 h4:=eZ (["row","ways"]:List Str) (hp _ (by decide) (by decide)) (ajv row aF h1 h2 h3 h4)
theorem CR:∀(r:Nat)(rs:List Nat),∃M,M∈r::rs/\(∀x∈r::rs,x<=M)/\bY .max [dl (r::rs)]=some (di M):=λr rs=>by
 have key:∀(rs:List Nat)(r:Nat),∃M,M∈r::rs/\(∀x∈r::rs,x<=M)/\(rs.map eR).foldl max (r:Int)=(M:Int):=λrs=>by
  induction rs with
  |nil=>intro r;exact⟨r,by simp,by simp,rfl⟩
  |cons a rs ih=>
   intro r;obtain⟨M,h1,h2,h3⟩:=ih (max r a);refine⟨M,?_,λx hx=>?_,?_⟩
   ·rcases aL.mp h1 with h|h
    ·rw[h]
     by_cases q:r<=a
     ·rw[Nat.max_eq_right q];simp
     ·rw[Nat.max_eq_left (by omega)];simp
    ·exact av _ (av _ h)
   ·have hm:=h2 (max r a) (ax ..)
    rcases aL.mp hx with rfl|hx
    ·omega
    ·rcases aL.mp hx with rfl|hx
     ·omega
     ·exact h2 x (av _ hx)
   ·rw[aH,jf,<-h3]
    congr 1;show max (r:Int) (a:Int)=((max r a:Nat):Int)
    omega
 obtain⟨M,h1,h2,h3⟩:=key rs r;refine⟨M,h1,h2,?_⟩;show ec ((iD ((r::rs).map di)).bind (λns=>(aa1 ns).map D.int)) none=_;rw[ints_map];show some (D.int ((rs.map eR).foldl max (r:Int)))=_;rw[h3];rfl
section
variable{T:fe}(p:Lp)
def R4:ae:=rM 0 (ajj HC)
theorem ar6(m):ff (dh T 30) (S8 p) HC (.int m)=((((dh T 29).d (vA HC) (gq (S8 p) (.int m) HC) R4).bind λd=>some [d]).bind λds=>bY .len ds).map λd=>[d]:=by rfl'
theorem alc(m x):ff (dh T 28) (gq (S8 p) (.int m) HC) R4 (.int x)=(((cmp .Eq (.int x) (.int m)).bind λb=>if b=true then some true else some false).bind λb=>if b=true then some [.int x]else some []):=by rfl'
theorem ald(m):KZ (vA HC) (gq (S8 p) (.int m) HC) R4=true:=by rfl'
theorem ale(m):(dh T 28).d (vA HC) (gq (S8 p) (.int m) HC) (kK R4)=some (.lst p.rings):=by rfl'
theorem alf:(dh T 30).d lK (S8 p) (kK HC)=(((bY .max [.lst p.rings]).bind λd=>az .Add d (.int 1)).bind λd=>some [d]).bind λds=>bY .range ds:=by rfl'
theorem R5(hp:p.rings=rs.map di)(M)(hM:bY .max [dl rs]=some (di M))(hl:rs.length<=1000)(hM2:M<=1000):
 (dh T 31).d lK (S8 p) HC=some (dl ((a0 (M+1)).map λm=>rs.count m)):=by
 have eY:=dO;have e0:=dF (T:=T) (V:=dh T 30) (ks:=lK) (σ:=S8 p) (e:=HC) (d:=.om 0 (M+1:Nat) 1) (φ:=di) (xs:=a0 (M+1)) (g:=λm=>[di (rs.count m)])
  (by rfl') ((alf p).trans (oB (oB (oB (by rw[hp];exact hM) rfl) rfl) rfl)) (iV _ (ao (iN hM2) (by decide))) (λm hm=>?_) (by rw[cH,ag,cf];exact ao (iN hM2) (by decide))
 ·rw[cH]at e0
  refine Ei e0 ?_;unfold dl;rw[cG];rfl
 ·have KQ:=d5 (λx=>x==m) dC rs (ao hl (by decide))
  have e1:=dF (T:=T) (V:=dh T 28) (ks:=vA HC) (σ:=gq (S8 p) (.int m) HC) (e:=R4) (d:=dl rs) (φ:=di) (xs:=rs) (g:=λx=>if(x==m)=true then[di x]else[])
   (ald ..) ((ale ..).trans (by rw[hp];rfl)) rfl (λx hx=>(alc p m x).trans (by rw[show cmp .Eq (.int (x:Int)) (.int (m:Int))=some (x==m)from nT x m,j4];rfl)) (by rw[cL,ag];exact KQ)
  rw[cL]at e1;refine(ar6 p m).trans (oM (oB (oB e1 rfl) ((mz (by rw[ag];exact KQ)).trans ?_)));rw[ag,<-HN];rfl
end
end
section
theorem Hi(e)(a b):j0 e a b<=1:=by unfold j0;split<;>omega
theorem R6(p q i)(st):(mY p q i st).2<=st.2+2:=by
 have key:∀a b c d,(sy a b c d st).2<=st.2+2:=λa b c d=>by
  show(st.2+j0 st.1 a b)+j0 (eW st.1 a b) c d<=st.2+2;have h1:=Hi st.1 a b;have h2:=Hi (eW st.1 a b) c d;omega
 unfold mY;split<;>exact key _ _ _ _
theorem adL(row)(al):∀i,∀st∈ek row al i,st.2<=2*i:=by
 intro zx
 induction zx with
 |zero=>
  rintro st h;rw[aU.mp h];exact dx _
 |succ i ih=>
  rintro st h;have h:st∈jJ row i (al.getD i []) (ek row al i):=h;unfold jJ at h;obtain⟨s0,h1,h2⟩:=Eh.mp h;obtain⟨w,_,rfl⟩:=jR h2;have:=ih s0 h1;have:=R6 ((fA row i).getD 0 0) ((fA row i).getD 1 0) w s0;omega
theorem LF(row)(al)(h:∀ws∈al,ws.length=2):∀i,i<=al.length->(ek row al i).length=2^i:=by
 intro zx
 induction zx with
 |zero=>
  rintro _;exact rfl
 |succ i ih=>
  rintro hi;show(jJ _ _ _ _).length=_;rw[B5,ih (by omega),cN (by omega),h _ (aV _),uG]
set_option genSizeOfSpec false in
set_option genInjectivity false in
structure Np where
 (row w rs digits:List Nat) (n made M width:Nat)
structure xT(p:Lp)(m:Np):Prop where
 H:Internal.C.Row m.row m.n
 hn:3<=m.n/\m.n<=5
 wl:m.w.length=m.n
 w3:∀x∈m.w,x<3
 rse:m.rs=(ek m.row (m.w.map Internal.C.i9) m.n).map (·.2)
 mde:m.made=Internal.C.R (Internal.C.fQ m.row.length) (Internal.C.d9 (Internal.C.j9 m.row m.w m.n))
 Mm:m.M∈m.rs
 Ml:∀x∈m.rs,x<=m.M
 M10:m.M<=10
 dg:m.digits=(a0 (m.M+1)).map λk=>m.rs.count k
 wd:8<=m.width/\m.width<=30
 ew:p.aF=m.w.map di
 em:p.made=m.made
 ee:p.even=iY m.row m.w
 ez:p.width=m.width
 eb:p.base=(2^m.width:Nat)
 ed:p.digits=m.digits.map di
section
variable{T:fe}(p:Lp)
theorem WG(n:Nat)(l:List Int):cmp .NotEq (.lst (l.map .int)) (.lst (l.map .int))=some false:=by
 show(ec (if(l.map D.int).length=(l.map D.int).length then tJ (rG 39) (l.map .int) (l.map .int)else some false) _).map (λx=> !x)=_;rw[if_pos rfl,z4];rfl
theorem alg(al:List (List Nat))(h:∀ws∈al,ws≠[]):gL (.lst []) (.lst (al.map dl))=some false:=by
 show tK (.lst []) (al.map dl)=some false
 induction al with
 |nil=>rfl
 |cons a al ih=>
  rw[aH];have h1:rG 40 (dl a) (.lst [])=some false:=by
   show ec (if(a.map di).length=([]:List D).length then tJ (rG 39) (a.map di) []else some false) _=_;rw[if_neg (by rw[ag];have:=h a (ax ..);intro q;exact this (Hp q))];rfl
  show((rG 40 (dl a) (.lst [])).bind λa=>(tK (.lst []) (al.map dl)).map λb=>a||b)=_;rw[h1,ih λws hw=>h ws (av _ hw)];rfl
theorem ar7(x):ff (dh T 28) (YZ p) lC8 (.int x)=some [.lst [.int x]]:=by rfl'
theorem alh:(dh T 28).d lK (YZ p) (kK lC8)=some (.lst p.aF):=by rfl'
theorem ali:KZ lK (YZ p) lC8=true:=by rfl'
theorem adM{w:List Nat}(hp:p.aF=w.map di)(h:w.length<=dC):(dh T 29).d lK (YZ p) lC8=some (.lst ((w.map λx=>[x]).map dl)):=by
 have e0:=dF (T:=T) (V:=dh T 28) (ks:=lK) (σ:=YZ p) (e:=lC8) (d:=.lst (w.map di)) (φ:=di) (xs:=w) (g:=λx=>[dl [x]])
  (ali p) ((alh p).trans (by rw[hp])) rfl (λx hx=>ar7 p x) (by rw[cH,ag];exact h)
 rw[cH]at e0;rw[cG];exact e0
theorem alj(hT:LS T){e:Nat}(he:p.e=e){w:List Nat}(hp:p.aF=w.map di)(hw:w.length<=10)(h3:∀x∈w,x<3)(i:Nat)(hi:i<w.length):ff (dh T 30) (WE p) lC6 (di i)=some [dl (Internal.C.i9 (w.getD i 0))]:=by
 have alk:=bJ hi hw;refine(ar5 p i).trans (oM (oB (oB (by rw[hp];exact mX hi (bx hw (by decide))) (oB (oB (oB (uf (a:=336) (n:=i) (by decide) (ao (bV alk) (by decide))) ((congrArg (λz=>az .FloorDiv (.int z) _) he).trans (jr (ei (by decide)) (yv (n:=9) (by decide) (dn (Nat.mul_lt_mul_of_pos_left alk (by decide)) (by decide)))))) rfl) rfl)) ?_));rw[cN hi];exact hT.oth w[i] (e/336^i) (h3 _ (aV hi))
theorem ar8(hT:LS T){e:Nat}(he:p.e=e){w:List Nat}(hp:p.aF=w.map di)(hw:w.length<=10)(h3:∀x∈w,x<3):(dh T 31).d lK (WE p) lC6=some (.lst ((w.map Internal.C.i9).map dl)):=by
 have eY:w.length<=dC:=ao hw (by decide);have e0:=dF (T:=T) (V:=dh T 30) (ks:=lK) (σ:=WE p) (e:=lC6) (d:=.om 0 w.length 1) (φ:=di) (xs:=a0 w.length) (g:=λi=>(λx=>[dl (Internal.C.i9 x)]) (w.getD i 0))
  (ak8 p) ((ak7 p).trans (by rw[hp,Dp (by rw[ag];exact eY),ag])) (iV _ eY) (λi hi=>alj p hT he hp hw h3 i (bH.mp hi)) (by rw[rR w 0 (λx=>[dl (Internal.C.i9 x)]),cH,ag];exact eY)
 rw[rR w 0 (λx=>[dl (Internal.C.i9 x)]),cH]at e0;rw[cG];exact e0
theorem DN(w):(Internal.C.i9 w).length=2/\∀x∈Internal.C.i9 w,x<3:=by
 unfold Internal.C.i9;split<;>simp
theorem LG{w:List Nat}:∀ws∈w.map Internal.C.i9,ws.length=2/\∀x∈ws,x<3:=aet.mpr λx _=>DN x
theorem R7(hT:LS T)(H:Internal.C.Row row n)(hn:3<=n/\n<=5)(hw:w.length=n)(h3:∀x∈w,x<3):
 T.fn "_law_rings" [dl row,.lst ((w.map Internal.C.i9).map dl)]=some (dl ((ek row (w.map Internal.C.i9) n).map (·.2)))/\
 T.fn "_law_rings" [dl row,.lst ((w.map λx=>[x]).map dl)]=some (dl [Internal.C.R (Internal.C.fQ row.length) (Internal.C.d9 (Internal.C.j9 row w n))])/\T.fn "_law_even" [dl row,dl w]=some (di (iY row w)):=by
 have hl:=H.len;have h5:row.length=6\/row.length=8\/row.length=10:=by omega
 have key:∀(f:Nat->List Nat),(∀x∈w,(f x).length<=3/\∀y∈f x,y<3)->T.fn "_law_rings" [dl row,.lst ((w.map f).map dl)]=some (dl ((ek row (w.map f) n).map (·.2))):=λf hf=>by
  have h:=hT.rings row (w.map f) h5 (by rw[ag,hw];exact H.two) (by rw[ag,hw];exact hn.2) (aet.mpr hf);rwa[ag,hw]at h
 refine⟨key _ λx _=>⟨by rw[(DN x).1];decide,(DN x).2⟩,?_,hT.even row w (by omega) (by omega) (by rw[hw];exact H.two) h3⟩;rw[key (λx=>[x]) λx hx=>⟨show 1<=3 by decide,λy hy=>by rw[aU.mp hy];exact h3 x hx⟩,Internal.C.NG H (by omega) hw]
theorem NI{row w:List Nat}{n:Nat}(hn:n<=5)(hw:w.length=n):∃rs M,rs=(ek row (w.map Internal.C.i9) n).map (·.2)/\rs.length<=1000/\M∈rs/\(∀x∈rs,x<=M)/\M<=10/\bY .max [dl rs]=some (di M):=by
 have hlen:(ek row (w.map Internal.C.i9) n).length=2^n:=LF row _ (λws hws=>(LG ws hws).1) n (by rw[ag,hw];exact bD _);have hle:=adL row (w.map Internal.C.i9) n;have h2:2^n<=2^5:=aW (by decide) hn;have h0:0<2^n:=ei (by decide);rw[<-hlen]at h2 h0;generalize ek row (w.map Internal.C.i9) n=ss at*;cases ss with
 |nil=>exact absurd h0 (by decide)
 |cons s ss=>
  obtain⟨M,m1,m2,m3⟩:=CR s.2 (ss.map (·.2));refine⟨_,M,rfl,by rw[ag];exact ao h2 (by decide),m1,m2,?_,m3⟩;obtain⟨st,DY,rfl⟩:=jR (show M∈(s::ss).map (·.2)from m1);exact ao (hle st DY) (cE 2 hn)
theorem WH{n:Nat}(h:n<=30):az .Pow (.int 2) (.int n)=some (.int (2^n:Nat)):=uf (a:=2) (by decide) (ao h (by decide))
theorem adN(h:0<l.length):cmp .Eq (dl l) (.lst [])=some false:=by
 unfold dl;rw[vC,sH];cases l with
 |nil=>cases h
 |cons x xs=>rfl
theorem R8(e:Nat):((((az .Pow (.int 336) (.int 5)).bind λq=>az .FloorDiv (.int e) q).bind λd=>az .Mod d (.int 23)).bind λd=>az .Add (.int 8) d)=some (.int (8+e/336^5%23:Nat)):=
 oB (oB (oB (uf (a:=336) (n:=5) (by decide) (by decide)) (jr (a:=e) (b:=336^5) (ei (by decide)) (yv (n:=9) (by decide) (by decide)))) (lA (b:=23) (by decide))) (by rw[lD];rfl)
set_option maxHeartbeats 0 in
theorem NJ (hT:LS T) (cW:List Int) (hl:cW.length<=63) (n0:Nat):∃p m,xT p m/\
 cM (cY (Va T) lK [] 60 (Xa T lK [] (n0+1))) ([aq 0 lB,aq 1 lB,aq 2 lB,aq 3 lB,aq 4 lB,aq 5 lB,aq 6 lB]++([aq 7 lB,aq 8 lB]++[aq 9 lB,aq 10 lB])) [("script",.lst (cW.map .int))] []=some (.nx (Y0 p) []):=by
 obtain⟨a,b,c,e,hh⟩:=WD (T:=T) cW hl;have hrl:=Hh a;obtain⟨t,r,k,I,aln⟩:=hT.ala (ji a) b c (by omega) (uv a);have htl:=I.tl;have hrr:=I.rl;have alo:=hT.read t r (by omega) I.b3 I.sg.toks (by omega);obtain⟨row,w,H,Au,Ym,e1,e2⟩:=R3 a c;have hrk:=I.rk;rw[fG]at hrk;rw[hrk]at e1 e2;have hn:3<=3+a%3/\3+a%3<=5:=by omega
 generalize 3+a%3=n at H Au hn;have ar9:(r++[0,255,-1]).length<=1000:=by rw[aC];exact ao (fW (show r.length<=900 by omega) 3) (by decide)
 have Y1:=hT.aF (r++[0,255,-1]) ar9;rw[e1,e2,cG]at Y1;obtain⟨r1,r2,r3⟩:=R7 hT H hn Au Ym;obtain⟨rs,M,hrs,hr1,m1,m2,m10,m3⟩:=NI (row:=row) hn.2 Au;rw[<-hrs]at r1;have alp:w.length<=10:=by omega
 have W:=R8 e;obtain⟨width,Yp⟩:∃k,k=8+e/336^5%23:=⟨_,rfl⟩;have hwb:8<=width/\width<=30:=by
  have hd2:=dA (e/336^5) (show 0<23 by decide);omega
 rw[<-Yp]at W;obtain⟨made,Y2⟩:∃k,k=Internal.C.R (Internal.C.fQ row.length) (Internal.C.d9 (Internal.C.j9 row w n)):=⟨_,rfl⟩;rw[<-Y2]at r2;have h6:az .Add (.lst ((r++[0]).map .int)) (.lst [.int 255,.int (-1)])=some (.lst ((r++[0,255,-1]).map .int)):=by
  rw[jv (by rw[ag,aC];exact ao (fW (show r.length+1<=900 by omega) 2) (by decide)),aX,aX,c7];rfl
 have ox:∀ws∈w.map Internal.C.i9,ws≠[]:=λws hws q=>by
  have h:=(LG ws hws).1;rw[q]at h;cases h
 have asa:0<row.length:=by have:=H.len;omega
 refine⟨_,⟨row,w,rs,_,n,made,M,width⟩,⟨H,hn,Au,Ym,hrs,Y2,m1,m2,m10,rfl,hwb,rfl,rfl,rfl,rfl,rfl,rfl⟩,
  l_b ⟨cW.map D.int,_,row.map di,w.map di,(w.map Internal.C.i9).map dl,rs.map di,((a0 (M+1)).map λk=>rs.count k).map di,a,b,c,e,made,iY row w,width,(2^width:Nat),mk t⟩ n0 hh (hT.ring a) aln alo (WG 0 _) h6 Y1 (ar8 _ hT rfl rfl alp Ym) (adN asa) (alg _ ox) r1 (adM _ rfl (ao alp (by decide))) r2 rfl r3 W (WH hwb.2) (R5 _ rfl M m3 hr1 (ao m10 (by decide)))⟩
end
end
end Internal.Z
end
section
set_option exponentiation.threshold 2000
namespace Internal.Z
def hz(z:Int):List Nat->Int
 |[]=>0
 |x::l=>x+z*hz z l
theorem adO(n):∀l:List Nat,(rq n l:Int)=hz ((2^n:Nat):Int) l:=by
 intro zx
 induction zx with
 |nil=>
  exact rfl
 |cons x l ih=>
  rw[rq,hz,<-ih,lD,lF]
theorem adP(z y):∀l:List Nat,(z - y) ∣ hz z l - hz y l:=by
 intro zx
 induction zx with
 |nil=>
  exact⟨0,by simp[hz]⟩
 |cons x l ih=>
  obtain⟨c,hc⟩:=ih;refine⟨z*c+hz y l,?_⟩;have e:hz z l=hz y l+(z - y)*c:=by omega
  rw[hz,hz,e];grind
theorem adQ(z)(f g):∀l:List Nat,hz z (l.map λm=>f m+g m)=hz z (l.map f)+hz z (l.map g):=by
 intro zx
 induction zx with
 |nil=>
  exact rfl
 |cons x l ih=>
  rw[aH,aH,aH,hz,hz,hz,ih];grind
theorem adR(z)(a):∀c k:Nat,hz z ((xU k c).map λm=>if m=a then 1 else 0)=if k<=a/\a<k+c then z^(a - k)else 0:=by
 intro zx
 induction zx with
 |zero=>
  rintro k;rw[if_neg (by omega)];rfl
 |succ c ih=>
  rintro k;rw[sE,aH,hz,ih (k+1)];by_cases h1:k=a
  ·subst h1
   rw[if_pos rfl,if_neg (by omega),if_pos (by omega),Nat.sub_self];simp
  ·rw[if_neg h1]
   by_cases h2:k+1<=a/\a<k+1+c
   ·rw[if_pos h2,if_pos (by omega),show a - k=(a - (k+1))+1 from(Nat.succ_pred_eq_of_pos (Nat.sub_pos_of_lt h2.1)).symm,Xi]
    grind
   ·rw[if_neg h2,if_neg (by omega)];simp
theorem WJ(z):∀l:List Nat,hz z (l.map λ_=>0)=0:=by
 intro zx
 induction zx with
 |nil=>
  exact rfl
 |cons x l ih=>
  rw[aH,hz,ih];simp
theorem R9(z)(M):∀rs:List Nat,(∀r∈rs,r<=M)->hz z ((a0 (M+1)).map λm=>rs.count m)=(rs.map λr=>z^r).sum:=by
 intro zx
 induction zx with
 |nil=>
  rintro _;show hz z ((a0 (M+1)).map λ_=>0)=0;exact WJ z _
 |cons r rs ih=>
  rintro h;have ih:=ih λx hx=>h x (av _ hx);have hr:=h r (ax ..);have e:((a0 (M+1)).map λm=>(r::rs).count m)=(a0 (M+1)).map λm=>rs.count m+(if m=r then 1 else 0):=by
   apply iA;intro m _;rw[lj];by_cases q:m=r
   ·subst q;simp
   ·rw[if_neg q,if_neg (by simp;exactλz=>q z.symm)]
  rw[e,adQ z (λm=>rs.count m) (λm=>if m=r then 1 else 0),ih,nY,adR,if_pos (by omega),aH,dR,hW,DR]
theorem adS(n)(x):∀l:List Nat,2^(n*l.length)*x<=rq n (l++[x]):=by
 intro zx
 induction zx with
 |nil=>
  simp[rq]
 |cons y l ih=>
  have ih:=ih;rw[du,rq,aG,uJ,fR (n*l.length) n,i7,SK];have:=cE (2^n) ih;omega
theorem WK(h:2^k<=x):k+1<=jL x:=by
 unfold jL;have:x≠0:=by have:=ei (a:=2) (n:=k) (by decide);omega
 rw[if_neg this];have:=(Nat.le_log2 this).mpr h;omega
theorem WL(hn:0<n)(l)(x)(hx:0<x)(h:∀d∈l++[x],d<2^n):gm n (rq n (l++[x]))=l++[x]:=by
 have h1:=Ro n (l++[x]) h;have h2:2^(n*l.length)<=rq n (l++[x]):=ao (Te _ hx) (adS n x l);have b1:=kZ h1;have b2:=WK h2;have hl:(l++[x]).length=l.length+1:=by simp
 have hc:ql n (rq n (l++[x]))=(l++[x]).length:=by
  unfold ql;rw[hl]at b1⊢;rw[uJ]at b1;generalize jL (rq n (l++[x]))=b at b1 b2;exact Nat.div_eq_of_lt_le (by rw[Xk,hU];omega) (by rw[Xk,Xk,hU];omega)
 unfold gm;rw[hc];exact Jz n _ h
theorem Sb:∀m:Nat,m<=6->gm 1 (2^m)=bz m 0++[1]:=by
 intro m h;have all:∀m:Nat,m<7->gm 1 (2^m)=bz m 0++[1]:=by decide
 exact all m (gi h)
theorem Sd(l):(dX l).length<=2^l.length:=by
 have key:∀(l:List Nat)(ss:List (List Nat)),(l.foldl g9 ss).length=ss.length*2^l.length:=λl=>by
  induction l with
  |nil=>intro ss;simp
  |cons k l ih=>
   intro ss;rw[jf,ih,g9,aC,ag,aG,uG];grind
 unfold dX;rw[key];simp
theorem LH(row w):iY row w<=2^w.length:=by
 unfold iY;refine ao (nr ..) (ao (Sd _) (aW (by decide) ?_));unfold eD;refine ao (nr ..) ?_;rw[cf];exact bD _
theorem NK(n made:Nat)(e:Nat)(h:2*e=2^made):((-1:Int)^n*(-2)^made)=if(n+made)%2=0 then 2*(e:Int)else -(2*(e:Int)):=by
 have h2:(2*(e:Int))=2^made:=by
  have:=congrArg (eR) h;simpa using this
 have m1:∀k:Nat,(-1:Int)^k=if k%2=0 then 1 else -1:=λk=>by
  induction k with
  |zero=>rfl
  |succ k ih=>
   rw[Xi,ih];by_cases q:k%2=0
   ·rw[if_pos q,if_neg (by omega)];rfl
   ·rw[if_neg q,if_pos (by omega)];rfl
 have e2:(-2:Int)^made=(-1)^made*2^made:=by rw[<-Int.mul_pow];rfl
 rw[e2,<-sj,<-lS,m1,h2];split<;>simp
structure WM(m:Np)(whole:Nat)(side q:Int):Prop where
 dlt:∀d∈m.digits,d<2^m.width
 wle:whole<2^330
 wh:whole=rq m.width m.digits
 dg:gm m.width whole=m.digits
 e2:2*iY m.row m.w=2^m.made
 m6:m.made<=6
 sde:side=if(m.n+m.made)%2=0 then(whole:Int)else -(whole:Int)
 eqn:side=(2^m.width+2)*q+2*(iY m.row m.w:Int)
 qis:q=(side - 2*(iY m.row m.w:Int)).fdiv (2^m.width+2)
 lt:2*iY m.row m.w<2^m.width+2
theorem WN(F:xT p m):∃side q,WM m (rq m.width m.digits) side q:=by
 obtain⟨row,w,rs,digits,n,made,M,width⟩:=m;obtain⟨FH,Fhn,Fwl,Fw3,alq,alr,FMm,FMl,asb,Fdg,Fwd,_⟩:=F;dsimp only at*;have hL:2<=row.length:=by have:=FH.len;have:=Fhn;omega
 have e2:2*iY row w=2^made:=by rw[alr];exact Internal.C.JQ FH hL Fwl Fw3
 have hs:(rs.map λr=>(-2:Int)^r).sum=(-1)^n*(-2)^made:=by
  rw[alr,alq,cG];exact Internal.C.NF FH hL Fwl Fw3
 have hn:=Fhn;have hrl:rs.length<=32:=by
  rw[alq,ag,LF row _ (λws hws=>by
   obtain⟨x,_,rfl⟩:=jR hws;unfold Internal.C.i9;split<;>rfl) n (by rw[ag,Fwl];exact bD _)]
  exact aW (n:=2) (j:=5) (by decide) (by omega)
 have hw:=Fwd;have h8:2^8<=2^width:=aW (by decide) hw.1;have hev:iY row w<=2^5:=ao (LH row w) (aW (by decide) (by rw[Fwl];omega));have hdl:digits.length=M+1:=by rw[Fdg,ag,cf]
 have adT:∀d∈digits,d<2^width:=λd hd=>by
  rw[Fdg]at hd;obtain⟨m,_,rfl⟩:=jR hd;have:=List.count_le_length (a:=m) (l:=rs);omega
 have hm6:made<=6:=by
  refine Nat.le_of_not_lt λq=>?_;have:2^7<=2^made:=aW (by decide) q;omega
 have Au:rq width digits<2^330:=by
  refine bJ (Ro width digits adT) (aW (by decide) ?_);rw[hdl];have:=asb;exact ao (qo hw.2 (show M+1<=11 by omega)) (by decide)
 have hdg:gm width (rq width digits)=digits:=by
  have e:digits=((a0 M).map λm=>rs.count m)++[rs.count M]:=by rw[Fdg,ot,aX];rfl
  rw[e];exact WL (by omega) _ _ (List.count_pos_iff.mpr FMm) (by rw[<-e];exact adT)
 have Y3:((2^width:Int)+2) ∣ (rq width digits:Int) - (-1)^n*(-2)^made:=by
  have:=adP ((2^width:Nat):Int) (-2) digits;rw[<-adO]at this;have h3:hz (-2) digits=(-1)^n*(-2)^made:=by rw[Fdg,R9 (-2) M rs FMl,hs]
  rw[h3]at this;have e:((2^width:Nat):Int) - -2=2^width+2:=by push_cast;omega
  rwa[e]at this
 rw[NK n made _ e2]at Y3;generalize abB:rq width digits=whole at hdg Au Y3;generalize hE:iY row w=E at e2 hev Y3;generalize hB:(2^width:Int)=B at Y3;have hBn:B=((2^width:Nat):Int):=by rw[<-hB];push_cast;rfl
 have hB0:B+2≠0:=by omega
 obtain⟨side,Y4⟩:∃side:Int,side=if(n+made)%2=0 then(whole:Int)else -(whole:Int):=⟨_,rfl⟩
 have asd:(B+2) ∣ side - 2*(E:Int):=by
  rw[Y4];by_cases q:(n+made)%2=0
  ·rw[if_pos q]at Y3⊢;exact Y3
  ·rw[if_neg q]at Y3⊢
   obtain⟨c,hc⟩:=Y3;exact⟨-c,by rw[HM,<-hc];omega⟩
 obtain⟨c,hc⟩:=asd;have hq:(side - 2*(E:Int)).fdiv (B+2)=c:=by rw[hc,p0,Int.mul_fdiv_cancel _ hB0]
 subst hE;refine⟨side,c,adT,Au,abB.symm,hdg,e2,hm6,Y4,?_,?_,?_⟩<;>dsimp only
 ·rw[hB,<-hc];omega
 ·rw[hB];exact hq.symm
 ·omega
end Internal.Z
end
section
open PySem PySem.W PyProof.Rows
set_option exponentiation.threshold 2000
namespace Internal.Z
section
def JV(X:Option D)(k:Option D):Option D:=X.bind λd=>(mh d).bind λb=>match HL,b with
 |.And,false=>some d
 |.Or,true=>some d
 |_,_=>k
theorem aT(h:X=some (.bool true))(hk:k=r):JV X k=r:=by rw[h];exact hk
def Y5(i:Nat):ae:=QB i (eA (aq 14 lB))
section
variable{T:fe}(p:Lp)(whole side q:Int)
abbrev WO:cw:=Y0 p++([("whole",.int whole)]:cw)
abbrev lSS:cw:=WO p whole++([("side",.int side)]:cw)
abbrev Se:cw:=WO p whole++([("side",.int side),("quotient",.int q)]:cw)
theorem als:(dh T 31).d lK (WO p whole) (br (aq 12 lB))=
 ((((bY .len [.lst p.aF]).bind λd=>az .Add d (.int p.made)).bind λd=>az .Mod d (.int 2)).bind λd=>cmp .Eq d (.int 0)).bind λc=>if c=true then some (D.int whole)else some (.int (-whole)):=by rfl'
theorem alu:(dh T 31).d lK (lSS p whole side) (br (aq 13 lB))=
 ((az .Mult (.int 2) (.int p.even)).bind λd=>az .Sub (.int side) d).bind λd=>(az .Add (.int p.base) (.int 2)).bind λd2=>az .FloorDiv d d2:=by rfl'
theorem ase:(dh T 31).b lK (Se p whole side q) (Y5 1)=
 (((((((az .Mult (.int 2) (.int p.even)).bind λd=>some [d,.int 1]).bind λds=>T.fn "_int2digits" ds).bind λd=>(((az .Mult (.lst [.int 0]) (.int p.made)).bind λx=>az .Add x (.lst [.int 1])).bind λy=>some [y]).bind λds=>some (d::ds))).bind λds=>T.fn "_law_plain" ds).bind mh).map not:=by rfl'
theorem asf:(dh T 31).d lK (Se p whole side q) (br (aq 15 lB))=
 JV ((((((az .Mult (.int 2) (.int p.even)).bind λd=>some [d]).bind λds=>some (.int q::ds)).bind λds=>some (.int (p.base+2)::ds)).bind λds=>some (.int side::ds)).bind λds=>T.fn "_law_fourfold" ds)
 (JV ((((az .Mult (.int 2) (.int p.even)).bind λm=>az .Sub (.int side) m).bind λd=>some [d,.int (p.base+2),.int q,.int 0]).bind λds=>T.fn "_law_fourfold" ds)
 (JV (((az .Mult (.int 2) (.int p.even)).bind λd=>((((az .Mult (.int 2) (.int p.even)).bind λd=>some [d]).bind λds=>some (.int 0::ds)).bind λds=>some (.int (p.base+2)::ds)).bind λds=>some (d::ds)).bind λds=>T.fn "_law_fourfold" ds)
 (T.fn "_law_fourfold" [.int 0,.int (p.base+2),.int 0,.int 0]))):=by rfl'
end
end
section
section
variable{T:fe}
theorem WQ(m):rep m [D.int 0]=bz m (D.int 0):=by
 induction m with
 |zero=>rfl
 |succ m ih=>rw[rep,ih,yB];rfl
theorem adU{e:Nat}(h:e<=32):az .Mult (.int 2) (.int (e:Int))=some (.int (2*(e:Int))):=vq (iW (by decide) (by decide)) (iW (by omega) (by omega))
theorem Sf{ws:List D}{made:Nat}{whole side:Int}(hn:ws.length<=dC)(hs:side=if(ws.length+made)%2=0 then whole else -whole):
 (((((bY .len [.lst ws]).bind λd=>az .Add d (.int made)).bind λd=>az .Mod d (.int 2)).bind λd=>cmp .Eq d (.int 0)).bind λc=>if c=true then some (D.int whole)else some (.int (-whole)))=some (.int side):=by
 refine oB (oB (oB (oB (mz hn) rfl) (lA (a:=ws.length+made) (b:=2) (by decide))) (nT _ 0)) ?_;rw[hs];generalize (ws.length+made)%2=k;cases k<;>rfl
theorem Sg{side q:Int}{B e:Nat}(he:e<=32)(hs:sm (B+2:Int)=true)(hq:q=(side - 2*(e:Int)).fdiv (B+2)):
 (((az .Mult (.int 2) (.int e)).bind λd=>az .Sub (.int side) d).bind λd=>(az .Add (.int B) (.int 2)).bind λd2=>az .FloorDiv d d2)=some (.int q):=by
 refine oB (oB (adU he) rfl) (oB rfl ?_);show(if((B:Int)+2)≠0/\sm ((B:Int)+2)=true then some (D.int ((side - 2*(e:Int)).fdiv ((B:Int)+2)))else none)=_;rw[if_pos ⟨by omega,hs⟩,<-hq]
theorem NL{made:Nat}(hm:made<=6):((az .Mult (.lst [.int 0]) (.int made)).bind λx=>az .Add x (.lst [.int 1]))=some (dl (bz made 0++[1])):=by
 have eY:=dO;refine oB (a:=.lst (bz made (.int 0))) ?_ ?_
 ·show(if 0<=(made:Int)/\(made:Int)<=65536/\[D.int 0].length*(made:Int).toNat<=dC then some (D.lst (rep (made:Int).toNat [.int 0]))else none)=_
  rw[if_pos ⟨by omega,by omega,by simp;omega⟩,aY,WQ]
 ·rw[jv (by simp;omega)]
  unfold dl;rw[aX,Az];rfl
theorem Sh(hP:PS T)(hL:PL T){E made:Nat}(he:E<=32)(h2:2*E=2^made)(hm:made<=6):
 ((((((az .Mult (.int 2) (.int E)).bind λd=>some [d,.int 1]).bind λds=>T.fn "_int2digits" ds).bind λd=>(((az .Mult (.lst [.int 0]) (.int made)).bind λx=>az .Add x (.lst [.int 1])).bind λy=>some [y]).bind λds=>some (d::ds))).bind λds=>T.fn "_law_plain" ds)=some (.bool true):=by
 have h1:=hP.i2d (2*E) 1 (by decide) (by decide) (by rw[h2];exact bx (aW (by decide) hm) (by decide));rw[h2,Sb made hm,<-h2]at h1;have h4:=hL.lst ((bz made 0++[1]:List Nat).map eR) (by simp;omega);rw[cG]at h4;exact oB (oB (oB (oB (adU he) rfl) h1) (oB (oB (NL hm) rfl) rfl)) h4
theorem Si(hF:FF T){side q:Int}{B E:Nat}(he:E<=32)(hB:B<2^40)(hs: -(2^519)<side/\side<2^519)(eq:side=(B+2:Int)*q+2*(E:Int))(lt:2*E<B+2):
 JV ((((((az .Mult (.int 2) (.int E)).bind λd=>some [d]).bind λds=>some (.int q::ds)).bind λds=>some (.int (B+2:Int)::ds)).bind λds=>some (.int side::ds)).bind λds=>T.fn "_law_fourfold" ds)
 (JV ((((az .Mult (.int 2) (.int E)).bind λm=>az .Sub (.int side) m).bind λd=>some [d,.int (B+2:Int),.int q,.int 0]).bind λds=>T.fn "_law_fourfold" ds)
 (JV (((az .Mult (.int 2) (.int E)).bind λd=>((((az .Mult (.int 2) (.int E)).bind λd=>some [d]).bind λds=>some (.int 0::ds)).bind λds=>some (.int (B+2:Int)::ds)).bind λds=>some (d::ds)).bind λds=>T.fn "_law_fourfold" ds)
 (T.fn "_law_fourfold" [.int 0,.int (B+2:Int),.int 0,.int 0])))=some (.bool true):=by
 have hm:=adU he;have h5:(2:Int)^519+100<2^520:=by decide
 have h6:(2:Int)^40+2<2^100:=by decide
 have hB:(B:Int)<2^40:=by omega
 have e2:2*(E:Int)<B+2:=by omega
 have e0:0<=2*(E:Int):=by omega
 have e4:2*(E:Int)<=64:=by omega
 have b0:(0:Int)<B+2:=by omega
 have b1:(B:Int)+2<2^100:=by omega
 generalize 2*(E:Int)=t at*;generalize (B:Int)+2=b at*;have s1: -(2^520)<side/\side<2^520:=by omega
 have s2: -(2^520)<side - t/\side - t<2^520:=by omega
 have z0: -(2^520)<(0:Int):=by decide
 exact aT (oB (oB (oB (oB (oB hm rfl) rfl) rfl) rfl) (hF side b q t s1.1 s1.2 b0 b1 eq e0 e2))
  (aT (oB (oB (oB hm rfl) rfl) (hF (side - t) b q 0 s2.1 s2.2 b0 b1 (by omega) (Int.le_refl _) b0))
  (aT (oB (oB hm (oB (oB (oB (oB hm rfl) rfl) rfl) rfl)) (hF t b 0 t (alS z0 e0) (by omega) b0 b1 (by omega) e0 e2)) (hF 0 b 0 0 z0 (by decide) b0 b1 (by omega) (Int.le_refl _) b0)))
theorem Sj{T1:fe}(hP:PS T)(hL:PL T)(hF:FF T){p:Lp}{m:Np}{whole:Nat}{side q:Int}(F:xT p m)(N:WM m whole side q):
 (dh T1 31).d lK (WO p whole) (br (aq 12 lB))=some (.int side)/\(dh T1 31).d lK (lSS p whole side) (br (aq 13 lB))=some (.int q)/\
 (dh T 31).b lK (Se p whole side q) (Y5 1)=some false/\(dh T 31).d lK (Se p whole side q) (br (aq 15 lB))=some (.bool true):=by
 have hE:iY m.row m.w<=32:=ao (LH m.row m.w) (aW (n:=2) (j:=5) (by decide) (by rw[F.wl];exact F.hn.2));have hB:2^m.width<=2^30:=aW (by decide) F.wd.2;have hpw:(2^m.width:Int)=((2^m.width:Nat):Int):=by push_cast;rfl
 have heq:=N.eqn;have alv:=N.qis;rw[hpw]at heq alv;have hsd:=N.sde;have hs: -(2^519)<side/\side<2^519:=by
  have h1:=N.wle;have h2:(2:Nat)^330<2^519:=by decide
  have h3:((2^519:Nat):Int)=2^519:=g0 2 519;rw[hsd];split<;>omega
 have hlen:(m.w.map di).length=m.n:=by rw[ag,F.wl]
 rw[als,alu,ase,asf,F.ee,F.eb,F.em,F.ew];exact⟨Sf (by rw[hlen];exact ao F.hn.2 (by decide)) (by rw[hlen];exact hsd),Sg hE (pC (x:=2^m.width+2) (n:=31) (by omega) (by decide)) alv,oM (f:=not) (a:=true) (oB (Sh hP hL hE N.e2 N.m6) rfl),Si hF hE (by omega) hs heq N.lt⟩
end
end
end Internal.Z
namespace Internal.I
open Internal.Z (df fT gm ql jL rq rr)
def adV:List D->Option (D×D)
 |[]=>none
 |a::l=>match l with
  |[]=>none
  |b::l=>match l with
   |[]=>some (a,b)
   |_::_=>none
theorem Cu(h:adV ds=some x):ds=[x.1,x.2]:=by
 cases ds with
 |nil=>exact no h
 |cons a l=>cases l with
  |nil=>exact no h
  |cons b l=>cases l with
   |nil=>exact ai h▸rfl
   |cons=>exact no h
def LI:D->Option Int
 |.int a=>some a
 |_=>none
theorem tn(h:LI d=some a):d=.int a:=by
 cases d<;>first|exact no h|exact ai h▸rfl
def Y6:D->Option (List D)
 |.lst a=>some a
 |_=>none
theorem JW(h:Y6 d=some a):d=.lst a:=by
 cases d<;>first|exact no h|exact ai h▸rfl
def pI(ds:List D):Option D:=(adV ds).bind λx=>(LI x.1).bind λa=>(LI x.2).bind λn=>if 0<=a/\a<2^600/\1<=n/\n<=300 then some (.lst ((gm n.toNat a.toNat).map di))else none
def pD(ds:List D):Option D:=(adV ds).bind λx=>(Y6 x.1).bind λxs=>(iD xs).bind λns=>(LI x.2).bind λn=>if 1<=n/\n.toNat*ns.length<=900/\(∀x∈ns,0<=x/\x<2^n.toNat)then some (.int (kW n.toNat ns))else none
def kc(f:Str):Option (List D->Option D):=if f=("_int2digits":Str)then some pI else if f=("_digits2int":Str)then some pD else none
theorem Ah:∀f,(f==("_int2digits":Str))=false->(f==("_digits2int":Str))=false->kc f=none:=λf h1 h2=>by
 unfold kc;rw[if_neg (by simpa using h1),if_neg (by simpa using h2)]
inductive Wm(h:Heap)(d:N2)(pos:Pos)(qual:Str)(P:Addr):Prop
 |mk (a:Addr) (o:Obj) (pm:Value) (c:Addr) (doc:Value) (g:Gv h d.name (.ref a)) (ho:h.get? a=some o) (hd:o.data=.func (fO d.name d.params d.body d.scope pm (.ref c) doc)) (rc:h.CodeRec (.ref c) d.name) (wm:kX h c P pos qual)
def WR(w:World)(h:Heap):Prop:=sr w h/\(∃P,Wm h nC (cx eI) eQ P)/\∃P,Wm h lL (cx dI) dQ P
theorem fnI(r)(ds):(Internal.Z.Tn kc (r+1)).fn "_int2digits" ds=pI ds:=by rfl'
theorem fnD(r)(ds):(Internal.Z.Tn kc (r+1)).fn "_digits2int" ds=pD ds:=by rfl'
theorem alw(a n:Nat)(h1:1<=n)(h2:n<=300)(h3:a<2^600):pI [.int a,.int n]=some (.lst ((gm n a).map di)):=by
 have h4:(a:Int)<2^600:=by
  have e:((2^600:Nat):Int)=2^600:=g0 2 600;rw[<-e];exact pZ.mpr h3
 refine oB (a:=(.int a,.int n)) rfl (oB (a:=(a:Int)) rfl (oB (a:=(n:Int)) rfl ?_));rw[if_pos ⟨cg _,h4,by omega,by omega⟩,aY,aY]
theorem Sk(r:Nat):Internal.Z.PS (Internal.Z.Tn kc (r+1)) where
 i2d a n h1 h2 h3:=by
  rw[fnI];exact alw a n h1 h2 h3
 d2i l n h1 h2 h3:=by
  rw[fnD];refine oB (a:=(.lst (l.map di),.int n)) rfl (oB (a:=l.map di) rfl (oB (Internal.Z.ints_map l) (oB (a:=(n:Int)) rfl ?_)));have hb:∀x∈l.map eR,0<=x/\x<2^(n:Int).toNat:=λx hx=>by
   obtain⟨y,hy,rfl⟩:=jR hx;have:=h3 y hy;rw[aY];refine⟨cg _,?_⟩;have e:((2^n:Nat):Int)=2^n:=g0 2 n;rw[<-e];exact pZ.mpr this
  rw[if_pos ⟨by omega,by rw[aY,ag];exact h2,hb⟩,aY,rr];rfl
theorem dN.Sl(am:dN A La s)(h:∀h,La h->La' h):dN A La' s:=⟨am.hh,am.nb,am.nl,am.gl,am.tk,am.un,λx k=>h x (am.la x k)⟩
theorem kX.place(x:kX h c P pos q):Place h c P pos q/\∃ps c',h.get? P=some (tabObj ps)/\codeAmong pos ps.toList=some (.ref c'):=by
 obtain⟨ps,c',h1,h2,h3,h4⟩:=x.tab;exact⟨⟨x.hd,ps,h1,h2,.inr ⟨c',h3,h4⟩⟩,ps,c',h1,h3⟩
theorem jy.orP(lo:jy F h)(e:h.get? P=some o):jy (λa=>F a\/a=P) h:=λa q=>by
 rcases q with q|q
 ·exact lo a q
 ·rw[q,e];rfl
theorem alx(h)(ds)(d)(la:WR w h)(e:pI ds=some d):∃a o fd,Gv h "_int2digits" (.ref a)/\h.get? a=some o/\o.data=.func fd/\
 ∀(A:aE)(E:Value->ak->Prop) F s vs,Bu 50 A->dN A (WR w) s->jy F s.heap->bU h s.heap->aZ s.heap F ds vs->wpAny (model pw w) A (call (.ref a) vs) (iJ F s d) E s:=by
 obtain⟨_,⟨P,a,o,pm,c,doc,g1,g2,g3,g4,g5⟩,_⟩:=la;rw[lb]at g1;refine⟨a,o,_,g1,g2,g3,λA E F s vs bu am lo kh rs=>?_⟩;obtain⟨z,e1,e⟩:=aO e;obtain⟨x,e2,e⟩:=aO e;obtain⟨n,e3,e⟩:=aO e;obtain⟨hc,e⟩:=bh e;rw[Cu e1,tn e2,tn e3]at rs;subst e;obtain⟨x,rfl⟩:=iO hc.1;obtain⟨n,rfl⟩:=iO (show 0<=n by omega);have w5:=g5.Dt kh;obtain⟨pl,ps,c',p1,p2⟩:=kX.place w5;have hx:x<2^600:=by
  have e:((2^600:Nat):Int)=2^600:=g0 2 600;have:=hc.2.1;rw[<-e]at this;exact pZ.mp this
 refine aj (bF am.tk (GS (F:=λa=>F a\/a=P) (kh _ _ g2) g3 (g4.keeps kh) pl (.inr rfl) ⟨by have:=bu.1;omega,by have:=bu.2;omega⟩ (dN.Sl am λ_ q=>q.1) (jy.orP lo p1) (jI (ds:=[.int x,.int n]) rfl rs) hx (by omega) (by omega))) (λv s' q=>?_) λ_ _ e=>e;obtain⟨t,⟨h2,tk,rfl⟩,_,ka,_,r⟩:=q;rw[aY,aY];exact⟨⟨h2,tk,rfl,ka ⟨ps,c',p1,p2⟩⟩,r.less λb q=>.inl (.inl q)⟩
end Internal.I
namespace Internal.I
theorem Sm:∀{ds:List D}{ns:List Int},iD ds=some ns->ds=ns.map .int:=by
 intro zx
 induction zx with
 |nil=>
  rintro ns h;cases h;rfl
 |cons d ds ih=>
  rintro ns h;cases d<;>first|(cases h;done)|skip
  rename_i i;have h:(iD ds).map (i::·)=some ns:=h;obtain⟨ms,h1,rfl⟩:=dM h;rw[ih h1];rfl
theorem Sn(ns:List Int):(ns.map D.int).all kJ=true:=by
 induction ns with
 |nil=>rfl
 |cons d ds ih=>rw[aH,rW,ih];rfl
theorem aly(h:Heap)(ds:List D)(d:D)(la:WR w h)(e:pD ds=some d):∃a o fd,Gv h "_digits2int" (.ref a)/\h.get? a=some o/\o.data=.func fd/\
 ∀(A:aE)(E:Value->ak->Prop) F s vs,Bu 50 A->dN A (WR w) s->jy F s.heap->bU h s.heap->aZ s.heap F ds vs->wpAny (model pw w) A (call (.ref a) vs) (iJ F s d) E s:=by
 obtain⟨_,_,P,a,o,pm,c,doc,g1,g2,g3,g4,g5⟩:=la;rw[vt]at g1;refine⟨a,o,_,g1,g2,g3,λA E F s vs bu am lo kh rs=>?_⟩;obtain⟨z,e1,e⟩:=aO e;obtain⟨xs,e2,e⟩:=aO e;obtain⟨ns,Ig,e⟩:=aO e;obtain⟨n,e3,e⟩:=aO e;obtain⟨hc,e⟩:=bh e;rw[Cu e1,JW e2,tn e3]at rs;subst e;cases Sm Ig;obtain⟨n,rfl⟩:=iO (show 0<=n by lia);rw[aY]at hc⊢;have w5:=g5.Dt kh;obtain⟨pl,ps,c',p1,p2⟩:=kX.place w5;have rs':aZ s.heap (λa=>F a\/a=P) [.lst (ns.map .int),.int n] vs:=by
  obtain⟨v,r,rfl,r1,r2⟩:=rs.gk;refine .cons ?_ (jI (ds:=[.int n]) rfl r2);obtain⟨b,vs,m,e,nb,g,q⟩:=r1.lst;refine e▸jX (λz=>?_) g (jI (Sn ns) q);rcases z with z|z
  ·exact nb z
  ·rw[z]at g
   have g:s.heap.get? P=some _:=g;rw[p1]at g;cases g
 refine aj (bF am.tk (Gz (F:=λa=>F a\/a=P) (kh _ _ g2) g3 (g4.keeps kh) pl (.inr rfl) ⟨by have:=bu.1;lia,by have:=bu.2;lia⟩ (dN.Sl am λ_ q=>q.1) (jy.orP lo p1) rs' hc.2.1 (by lia) hc.2.2)) (λv s' q=>?_) λ_ _ e=>e;obtain⟨t,⟨h2,tk,rfl⟩,_,ka,_,r⟩:=q;exact⟨⟨h2,tk,rfl,ka ⟨ps,c',p1,p2⟩⟩,r.less λb q=>.inl (.inl q)⟩
theorem adW(w):I8 pw w (WR w) (Ye kc):=abM w (WR w) kc (λh q=>q.1) (λh f p ds d la hp e=>by
 unfold kc at hp;split at hp
 ·rename_i hf
  cases hp;subst hf;exact alx h ds d la e
 ·split at hp
  ·rename_i hf
   cases hp;subst hf;exact aly h ds d la e
  ·cases hp)
theorem alz(w)(r):dW pw w (WR w) (Bu (r+50)) (Internal.Z.Tn kc r):=Qs (adW w) 30 60 20 r
theorem adX(w):I8 pw w (sr w) (Ye λ_=>none):=abM w (sr w) (λ_=>none) (λ_ x=>x) (λh f p ds d _ e=>by cases e)
theorem So(w)(r):dW pw w (sr w) (Bu (r+50)) (Internal.Z.Tn (λ_=>none) r):=Qs (adX w) 30 60 20 r
end Internal.I
namespace Internal.I
section
open Internal.Z (lB lK Y5)
section
variable{prog:bb}{w:World}{A:aE}{E:Value->ak->Prop}{G F:Addr->Prop}{env:Env}{La:Heap->Prop}{QA:aE->Prop}{V:Ev}{T:fe}{σ:cw}{s:ak}
theorem Y7(VO:dz prog w La QA V)(bu:QA A)(am:dN A La s)(x:In env G σ s.heap)(hk:env.scope.names.lookup f=some .globalImplicit)(hd1:(f==("__debug__":Str))=false)
(hg:Gv s.heap f (.ref fa))(ho:s.heap.get? fa=some o)(abN:o.data=.func fd)(h1:uZ (V.d env.scope.names σ) args=some ds)
(k:∀s1 vs,Keeps s s1->1<=s1.toks->aZ s1.heap G ds vs->wpAny (model prog w) A (call (.ref fa) vs) Q E s1):wpAny (model prog w) A (eval (.Call (.Name f np) args [] pos) env) Q E s:=by
 have hp:=(kQ (env:=env) (pos:=pos) h1).1;show wpAny _ _ (do callWith pos (<-eval (.Name f np) env) [] (backTo pos (starEach args env)) []) _ _ _;refine aw (qO x hk hd1 (.inl hg) ?_);refine lE (o:=o) (fd:=fd) (eu hp ?_);refine aj (bF am.tk (oF VO bu am x h1)) (λvs s1 q1=>?_) λ_ _ e=>e;obtain⟨t1,k1,r1⟩:=q1;exact⟨⟨Keeps.all k1 _ _ ho,abN⟩,k s1 vs k1 t1 r1⟩
end
def l9:N2:=(px.find? (λd=>d.name==("law":Str))).getD ⟨("":Str),default,[],default,default⟩
theorem Hj:l9∈px:=by
 have:(px.find? (λd=>d.name==("law":Str))).isSome=true:=by rfl'
 obtain⟨d,hd⟩:=aA.mp this;have e:l9=d:=by unfold l9;rw[hd];rfl
 rw[e];exact gW hd
theorem NN:l9.params.args.map (·.arg)=(["script"]:List Str):=by rfl'
theorem NO:l9.name=("law":Str):=by rfl'
theorem yA:l9.scope.names=lK:=by rfl'
def l11:ae:=br (aq 11 lB)
def lP:ae:=qZ (Y5 0)
def lI:ae:=rM 0 lP
theorem Sp:l9.body=([aq 0 lB,aq 1 lB,aq 2 lB,aq 3 lB,aq 4 lB,aq 5 lB,aq 6 lB]++([aq 7 lB,aq 8 lB]++[aq 9 lB,aq 10 lB]))++(.Assign [.Name "whole" (lJ (aq 11 lB))] l11 (cx (aq 11 lB))::([aq 12 lB,aq 13 lB]++
 [.If (.BoolOp .Or [.UnaryOp .Not lP (Y5 0).pos,Y5 1] (eA (aq 14 lB)).pos) (aS (aq 14 lB)) [] (cx (aq 14 lB)),.Return (some (br (aq 15 lB))) (cx (aq 15 lB))])):=by rfl'
theorem adZ:∃a b c d,l11=.Call (.Name "_digits2int" a) [.Name "digits" b,.Name "width" c] [] d:=by
 refine⟨(qZ l11).pos,(rM 0 l11).pos,(rM 1 l11).pos,l11.pos,?_⟩;rfl'
theorem alA:∃a b c,lP=.Call (.Name "_law_plain" a) [lI,.Name "digits" b] [] c:=by
 refine⟨(qZ lP).pos,(rM 1 lP).pos,lP.pos,?_⟩;rfl'
theorem alB:∃a b c d,lI=.Call (.Name "_int2digits" a) [.Name "whole" b,.Name "width" c] [] d:=by
 refine⟨(qZ lI).pos,(rM 0 lI).pos,(rM 1 lI).pos,lI.pos,?_⟩;rfl'
end
end Internal.I
namespace Internal.I
section
open Internal.Z (lB lK Y5 Y0 WO lSS Se rq gm rr iY Lp Np xT WM)
inductive Cd(h:Heap)(d:N2)(pos:Pos)(qual:Str)(P:Addr):Prop
 |mk (a:Addr) (o:Obj) (pm:Value) (c:Addr) (doc:Value) (g:Gv h d.name (.ref a)) (ho:h.get? a=some o) (hd:o.data=.func (fO d.name d.params d.body d.scope pm (.ref c) doc)) (rc:h.CodeRec (.ref c) d.name) (pl:Place h c P pos qual)
theorem Gv.keeps(g:Gv h n v)(k:bU h h'):Gv h' n v:=by obtain⟨mg,a,b⟩:=g;exact⟨mg,a.keeps k,b⟩
theorem Place.keepsP(x:Place h c P pos q)(k:bU h h'):Place h' c P pos q:=
 ⟨x.hd.keeps k,by obtain⟨ps,a,b,d⟩:=x.tab;exact⟨ps,k _ _ a,b,d.imp id λ⟨c',e,r⟩=>⟨c',e,r.keeps k⟩⟩⟩
theorem Cd.keeps(x:Cd h d pos qual P)(k:bU h h'):Cd h' d pos qual P:=
 by obtain⟨a,o,pm,c,doc,h1,h2,h3,h4,h5⟩:=x;exact⟨a,o,pm,c,doc,Gv.keeps h1 k,k _ _ h2,h3,h4.keeps k,Place.keepsP h5 k⟩
theorem Wm.keeps(x:Wm h d pos qual P)(k:bU h h'):Wm h' d pos qual P:=
 by obtain⟨a,o,pm,c,doc,h1,h2,h3,h4,h5⟩:=x;exact⟨a,o,pm,c,doc,Gv.keeps h1 k,k _ _ h2,h3,h4.keeps k,h5.Dt k⟩
theorem Sq(x)(p q):uZ ((dh T 31).d lK (Y0 x)) [.Name "digits" p,.Name "width" q]=some [.lst x.digits,.int x.width]:=by rfl'
theorem WT(x)(whole side WU)(p q):uZ ((dh T 31).d lK (Se x whole side WU)) [.Name "whole" p,.Name "width" q]=some [.int whole,.int x.width]:=by rfl'
theorem ad0(x)(whole side WU)(p):(dh T 31).d lK (Se x whole side WU) (.Name "digits" p)=some (.lst x.digits):=by rfl'
theorem Sr(l:List Nat):l.map di=(l.map eR).map D.int:=by rw[cG];rfl
def pG(h h':Heap):Prop:=∀b o,h.get? b=some o->(∀es ep,o.data≠.dict es ep)->(∀v,o.data≠.cell v)->h'.get? b=some o
section
variable{prog:bb}{w:World}{A:aE}{E:Value->ak->Prop}{G F:Addr->Prop}{env:Env}{aD s s':ak}{σ:cw}{oa:Str->Addr}{La:Heap->Prop}{QA:aE->Prop}{V:Ev}
theorem Y8(si:SI env F aD σ [] s G oa)(fr:pk env F aD)(hk:env.kindOf n=some .local)(rH:∀a,env.cells.lookup n≠some a)(r:bT s.heap G d v):
 wpAny (model prog w) A (storeName env n v) (λ_ s'=>SI env F aD (put n d σ) [] s' G oa/\pG s.heap s'.heap) E s:=by
 obtain⟨ml,hml,_⟩:=si.ie.va;refine aj (SI.bind (d:=d) si fr (.inl hk) (λ_=>r)) (λ_ s' q=>?_) λ_ _ e=>e;obtain⟨_,u,ME,_⟩:=q;refine⟨ME,λb o e n1 n2=>u.kept (G:=λa=>a=env.locals\/env.cells.lookup n=some a) (λ_ q=>q) b o (λq=>?_) e⟩;rcases q with q|q
 ·obtain⟨o',es,ep,e',d',_⟩:=hml
  rw[<-q,e]at e';cases e';exact n1 es ep d'
 ·exact rH b q
theorem alC(VO:dz prog w La QA V)(bu:QA A)(am:dN A La s)(fr:pk env F aD)(hk:env.kindOf n=some .local)(rH:∀a,env.cells.lookup n≠some a)(si:SI env F aD σ [] s G oa)(h:V.d env.scope.names σ e=some d)(IP:p6 env.scope.names n p e=false):
 wpAny (model prog w) A (exec (.Assign [.Name n p] e pos) env) (λf s'=>f=.next/\SI env F aD (put n d σ) [] s' G oa/\pG s.heap s'.heap) E s:=by
 have x:In env G σ s.heap:=si.ie.sub λm d e=>by rw[fY];simpa using e
 refine tD (aj (bF am.tk (VO.d A _ env G σ s e _ bu am x h)) (λv s1 q=>?_) λ_ _ e=>e) (by rw[qQ si.ie.fn,IP]);obtain⟨t1,k1,r1⟩:=q;refine aj (Y8 (si.keeps k1 t1) fr hk rH r1) (λ_ s2 q=>?_) λ_ _ e=>e;exact⟨rfl,q.1,λb o e n1 n2=>q.2 b o (Keeps.all k1 b o e) n1 n2⟩
end
theorem pG.trans(a:pG h1 h2)(b:pG h2 h3):pG h1 h3:=λx o e n1 n2=>b x o (a x o e n1 n2) n1 n2
theorem CodeRec.dc(x:h.CodeRec cd q)(k:pG h h'):h'.CodeRec cd q:=by
 obtain⟨c0,o,vs,t,e,g,d,r⟩:=x;exact⟨c0,o,vs,t,e,k _ _ g (λ_ _ q=>by rw[d]at q;cases q) (λ_ q=>by rw[d]at q;cases q),d,r⟩
theorem kX.dc(x:kX h c P pos q)(k:pG h h'):kX h' c P pos q:=by
 obtain⟨ps,c',h1,h2,h3,h4⟩:=x.tab;exact⟨rN x.hd λ_ _ e d=>k _ _ e (λ_ _ q=>nomatch d.symm.trans q) (λ_ q=>nomatch d.symm.trans q),ps,c',k _ _ h1 (λ_ _ q=>nomatch q) (λ_ q=>nomatch q),h2,h3,CodeRec.dc h4 k⟩
theorem kX.but(x:kX h c P pos q)(t:TabAt h P2)(k:bE P2 h h')(ox:P≠P2)(hc:h.CodeRec (.ref c) nm):kX h' c P pos q:=by
 obtain⟨ps,c',h1,h2,h3,h4⟩:=x.tab;exact⟨rN x.hd λ_ _ e _=>k _ _ e (sY t hc),ps,c',k _ _ h1 ox,h2,h3,CodeRec.but t k h4⟩
end
end Internal.I
namespace Internal.I
section
open Internal.Z (lB lK Y5 Y0 WO lSS Se rq gm rr iY Lp Np xT WM)
theorem ad5:aq 12 lB=.Assign [.Name "side" (lJ (aq 12 lB))] (br (aq 12 lB)) (cx (aq 12 lB)):=by rfl'
theorem ad6:aq 13 lB=.Assign [.Name "quotient" (lJ (aq 13 lB))] (br (aq 13 lB)) (cx (aq 13 lB)):=by rfl'
theorem Gv.but(t:TabAt h P)(k:bE P h h')(g:Gv h n v):Gv h' n v:=by obtain⟨mg,a,b⟩:=g;exact⟨mg,Ns.but t k a,b⟩
theorem Gv.uniq(g:Gv h n v)(g':Gv h n v'):v=v':=by
 obtain⟨m,a,b⟩:=g;obtain⟨m',a',b'⟩:=g';have:=Ns.uniq a a' n;rw[b,b']at this;exact ai this
theorem Ai(t:TabAt h P)(e:h.get? a=some o)(d:o.data=.func fd):a≠P:=λz=>by
 obtain⟨ps,h1,_⟩:=t;rw[z,h1]at e;cases e;cases d
theorem Cd.but(x:Cd h d pos qual P)(t:TabAt h P2)(k:bE P2 h h')(ox:P≠P2):Cd h' d pos qual P:=by
 obtain⟨a,o,pm,c,doc,h1,h2,h3,h4,h5⟩:=x;refine⟨a,o,pm,c,doc,Gv.but t k h1,k _ _ h2 (Ai t h2 h3),h3,CodeRec.but t k h4,?_,?_⟩
 ·exact rN h5.hd λ_ _ e _=>k _ _ e (sY t h4)
 ·obtain⟨ps,e1,e2,e3⟩:=h5.tab
  exact⟨ps,k _ _ e1 ox,e2,e3.imp id λ⟨c',e,r⟩=>⟨c',e,CodeRec.but t k r⟩⟩
theorem Cd.at(x:Cd h d pos qual P):TabAt h P:=by
 obtain⟨_,_,_,_,_,_,_,_,_,p⟩:=x;exact p.tabAt
def uw:N2:=(px.find? (λd=>d.name==("_law_plain":Str))).getD ⟨("":Str),default,[],default,default⟩
theorem NP:uw∈px:=by
 have:(px.find? (λd=>d.name==("_law_plain":Str))).isSome=true:=by rfl'
 obtain⟨d,hd⟩:=aA.mp this;have e:uw=d:=by unfold uw;rw[hd];rfl
 rw[e];exact gW hd
theorem JX:uw.name=("_law_plain":Str):=by rfl'
theorem ash:Internal.Z.FF (Internal.Z.Tn kc 12):=by
 have nn:∀f:Str,(f==("_int2digits":Str))=false->(f==("_digits2int":Str))=false->kc f=none:=Ah;have h1:Internal.Z.D1 (Internal.Z.Tn kc 1):=Internal.Z.Yt (nn _ (by decide) (by decide)) 0;have h2:∀r,Internal.Z.D2 (Internal.Z.Tn kc (r+1+1)):=λr=>Internal.Z.akc (nn _ (by decide) (by decide)) (r+1) (Sk r) (Internal.Z.Yt (nn _ (by decide) (by decide)) r);have h3:∀r,Internal.Z.D3 (Internal.Z.Tn kc (r+1+1+1)):=λr=>Internal.Z.akd (nn _ (by decide) (by decide)) (r+1+1) (h2 r);have h4:∀r,Internal.Z.D4 (Internal.Z.Tn kc (r+1+1+1+1)):=λr=>Internal.Z.akf (nn _ (by decide) (by decide)) (r+1+1+1) (h3 (r+1)) (h3 r);have h5:∀r,Internal.Z.D5 (Internal.Z.Tn kc (r+1+1+1+1+1)):=λr=>Internal.Z.akg (nn _ (by decide) (by decide)) (r+1+1+1+1) (h4 (r+1)) (h4 r);exact Internal.Z.aki (nn _ (by decide) (by decide)) 11 (Internal.Z.Yw (nn _ (by decide) (by decide)) 10) (h5 6)
theorem WV(h:Bu k A)(hj:j<=k):Bq j A:=⟨ao (gv hj _) (ao h.1 (by decide)),bx (fW (gv (cE 3 hj) _) 203) h.2⟩
theorem ad7(Fr:xT p m):m.width*(m.digits.map eR).length<=900:=by
 rw[ag,Fr.dg,ag,cf];exact ao (qo Fr.wd.2 (iN Fr.M10)) (by decide)
theorem WW(Fr:xT p m):(m.digits.map eR).length<=1000:=by
 rw[ag,Fr.dg,ag,cf];exact ao (iN Fr.M10) (by decide)
theorem ad8{m:Np}(h:∀d∈m.digits,d<2^m.width):∀x∈m.digits.map eR,0<=x/\x<2^m.width:=λx hx=>by
 obtain⟨y,hy,rfl⟩:=jR hx;refine⟨cg _,?_⟩;have e:((2^m.width:Nat):Int)=2^m.width:=g0 2 m.width;rw[<-e];exact pZ.mpr (h y hy)
inductive SD(w:World)(env:Env)(F:Addr->Prop)(A:aE)(s sb s':ak)(G:Addr->Prop)(oa:Str->Addr)(p:Lp)(whole:Nat)(P:Addr):Prop
 |mk (si:SI env F sb (WO p whole) [] s' G oa) (fr:pk env F sb) (kb:bE P s.heap sb.heap) (am:dN A (sr w) sb) (fm:∃h tk,sb={s with heap:=h,toks:=tk}) (a:Addr) (o:Obj) (pm:Value) (c:Addr) (doc:Value)
  (g:Gv sb.heap lL.name (.ref a)) (ho:sb.heap.get? a=some o) (hd:o.data=.func (fO lL.name lL.params lL.body lL.scope pm (.ref c) doc)) (rc:sb.heap.CodeRec (.ref c) lL.name) (wm:kX s'.heap c P (cx dI) dQ)
section
variable{w:World}{A:aE}{E:Value->ak->Prop}{F G:Addr->Prop}{env:Env}{s sb s':ak}{oa:Str->Addr}{p:Lp}{m:Np}{whole:Nat}{side WU:Int}{PD:Addr}{Q:Flow->ak->Prop}{rest:List Stmt}
theorem whole_run(mJ:env.scope.names=lK)(hcD:∀m,env.cells.lookup m≠some PD)(lw1:env.kindOf "whole"=some .local)(lw2:∀b,env.cells.lookup ("whole":Str)≠some b)(bu:Bu 79 A)(kH:dN A (sr w) s)(fr:pk env F s)(cD:Cd s.heap lL (cx dI) dQ PD)(hFD:F PD)
(Fr:xT p m)(o5:∀d∈m.digits,d<2^m.width)(hw:whole=rq m.width m.digits)(tR:SI env F s (Y0 p) [] s' G oa)(k:∀sb s5,SD w env F A s sb s5 G oa p whole PD->wpAny (model pw w) A (execs rest env) Q E s5):
 wpAny (model pw w) A (execs (.Assign [.Name "whole" (lJ (aq 11 lB))] l11 (cx (aq 11 lB))::rest) env) Q E s':=by
 obtain⟨p1,p2,p3,p4,e11⟩:=adZ;have JY:TabAt s.heap PD:=cD.at;obtain⟨fD,oD,pmD,cD',ad9,D1,D2,D3,D4,D5⟩:=cD;have kdD:=Keeps.all tR.kp;have d1:=Gv.keeps D1 kdD;have d2:=kdD _ _ D2;have y1:In env G (Y0 p) s'.heap:=tR.ie;rw[vt]at d1;have Ar:=kH.keeps tR.kp tR.tk;refine cz (tD ?_ (by rw[e11,qQ y1.fn];rfl));rw[e11];refine Y7 (kU (So w 5) 31) (bu.less (by decide)) Ar y1 (by rw[mJ];decide) (by decide) d1 d2 D3 (by rw[mJ];exact Sq _ _ _) (λs3 vs3 k3 t3 r3=>?_);have kd3:=Keeps.all k3;rw[Fr.ed,Fr.ez,Sr]at r3;refine aj (bF t3 (Gz (F:=G) (kd3 _ _ d2) D3 ((D4.keeps kdD).keeps kd3) (Place.keepsP (Place.keepsP D5 kdD) kd3) (tR.hF _ hFD) (WV bu (by decide)) (Ar.keeps k3 t3) (y1.keeps kd3).lo r3 (ad7 Fr) (ao (by decide) Fr.wd.1) (ad8 o5))) (λv s4 q=>?_) λ_ _ e=>e;obtain⟨t4,⟨h4,tk4,hs4⟩,kb4,_,wm4,r4⟩:=q;rw[rr,<-hw]at r4;have u4:Upd (λa=>a=PD) s3 s4:=⟨h4,tk4,hs4,by rw[hs4]at kb4;exactλb o ne e=>kb4 b o e ne⟩
 have asn:(s4.heap.get? PD).isSome=true:=by
  obtain⟨ps,c',h1,_⟩:=wm4.tab;rw[h1];rfl
 obtain⟨sb,Yc,QL,kbb,kPb,tkb,fm⟩:=(tR.keeps k3 t3).tU fr hFD hcD u4 t4 asn;have M0:bE PD s.heap sb.heap:=λb o e ne=>kbb b o e ne;refine aj (Y8 (d:=.int whole) Yc QL lw1 lw2 r4) (λ_ s5 q=>?_) λ_ _ e=>e;obtain⟨x7,kd5⟩:=q;exact k sb s5 ⟨x7,QL,M0,dN.but JY M0 kH tkb sr.but,fm,fD,oD,pmD,cD',ad9,Gv.but JY M0 D1,M0 _ _ D2 (Ai JY D2 D3),D3,CodeRec.but JY M0 D4,kX.dc wm4 kd5⟩
theorem Ss(mJ:env.scope.names=lK)(ls1:env.kindOf "side"=some .local)(ls2:∀b,env.cells.lookup ("side":Str)≠some b)(lq1:env.kindOf "quotient"=some .local)(lq2:∀b,env.cells.lookup ("quotient":Str)≠some b)(bu:Bu 79 A)(amb:dN A (sr w) sb)(QL:pk env F sb)
(m1:(dh (Internal.Z.Tn (λ_=>none) 5) 31).d lK (WO p whole) (br (aq 12 lB))=some (.int side))(m2:(dh (Internal.Z.Tn (λ_=>none) 5) 31).d lK (lSS p whole side) (br (aq 13 lB))=some (.int WU))(x7:SI env F sb (WO p whole) [] s' G oa)
(k:∀s7,SI env F sb (Se p whole side WU) [] s7 G oa->pG s'.heap s7.heap->wpAny (model pw w) A (execs rest env) Q E s7):wpAny (model pw w) A (execs (aq 12 lB::aq 13 lB::rest) env) Q E s':=by
 have VO1:dz pw w (sr w) (Bu 55) (dh (Internal.Z.Tn (λ_=>none) 5) 31):=kU (So w 5) 31;rw[ad5,ad6];refine cz (aj (alC VO1 (bu.less (by decide)) (amb.keeps x7.kp x7.tk) QL ls1 ls2 x7 (by rw[mJ];exact m1) (by rw[mJ];rfl')) (λg s6 q=>?_) λ_ _ e=>e);obtain⟨rfl,IS,kd6⟩:=q;have IS:SI env F sb (lSS p whole side) [] s6 G oa:=IS;refine cz (aj (alC VO1 (bu.less (by decide)) (amb.keeps IS.kp IS.tk) QL lq1 lq2 IS (by rw[mJ];exact m2) (by rw[mJ];rfl')) (λg s7 q=>?_) λ_ _ e=>e);obtain⟨rfl,D7,kd7⟩:=q;exact k s7 D7 (kd6.trans kd7)
end
theorem Sv{w:World}{A:aE}{E:Value->ak->Prop}{F:Addr->Prop}{s:ak}{a:Addr}{o:Obj}{pm cv doc:Value}{cW:List Int}{vs:List Value}{PI PD:Addr}(ho:s.heap.get? a=some o)(hd:o.data=.func (fO l9.name l9.params l9.body l9.scope pm cv doc))
(rc:s.heap.CodeRec cv l9.name)(cI:Cd s.heap nC (cx eI) eQ PI)(cD:Cd s.heap lL (cx dI) dQ PD)(ox:PI≠PD)(hFI:F PI)(hFD:F PD)(bu:Bu 80 A)(am:dN A (sr w) s)(lo:jy F s.heap)(rs:aZ s.heap F [.lst (cW.map .int)] vs)(hl:cW.length<=63):
 wpAny (model pw w) A (call (.ref a) vs) (λv s'=>v=.bool true/\(∃h tk,s'={s with heap:=h,toks:=tk})/\(∀b o,s.heap.get? b=some o->b≠PI->b≠PD->s'.heap.get? b=some o)/\(∃ps,s'.heap.get? PI=some (tabObj ps))/\∃ps,s'.heap.get? PD=some (tabObj ps)) E s:=by
 have fi:=zK (d:=l9) (pm:=pm) (code:=cv) (doc:=doc) Hj;rw[NN,Sp]at fi;refine tT (fv:=(["script"]:List Str)) fi (WV bu (bD _)).dep ho hd rc rfl am (WV bu (bD _)).un lo rs (λenv aQ G oa mJ mW kH fr si E'=>?_);refine gp λQ hQ=>?_;have si:SI env F s [("script",.lst (cW.map .int))] [] aQ G oa:=si;have hk:∀m,env.kindOf m=lK.lookup m:=λm=>by unfold lQ;rw[mJ,yA]
 have Ba:env.scope.names=lK:=by rw[mJ,yA]
 have WX:Bu 79 (A.deeper env):=bu.deeper env;have hcT:∀{P:Addr},(∃ps,s.heap.get? P=some (tabObj ps))->∀m,env.cells.lookup m≠some P:=λ{P} ht m e=>by
  have hm:(m,P)∈cellsFrom (s.heap.objs.size+1) l9.scope.names []:=by
   have:=mem_of_lookup e;rw[mW]at this;exact this
  have A4:=ik _ _ _ _ _ hm;simp only[fH,false_or]at A4;have:=fr.hc m P (.inr (by rw[hk,<-yA];exact mem_lookup fi.kd A4)) e;obtain⟨ps,h1⟩:=ht;rw[h1]at this;cases this
 have hcD:∀m,env.cells.lookup m≠some PD:=hcT (by obtain⟨ps,e,_⟩:=cD.at;exact⟨ps,e⟩);have hcI:∀m,env.cells.lookup m≠some PI:=hcT (by obtain⟨ps,e,_⟩:=cI.at;exact⟨ps,e⟩);have TO1:=So w 5;have VO1:dz pw w (sr w) (Bu 55) (dh (Internal.Z.Tn (λ_=>none) 5) 31):=kU TO1 31;have XO1:SX pw w (sr w) (Bu 55) lK (AZ (dh (Internal.Z.Tn (λ_=>none) 5) 31) lK [] 60 2):=vg (W:=[]) (kU TO1 30) TO1 lK 60 2;obtain⟨p,m,Fr,hB⟩:=Internal.Z.NJ (T:=Internal.Z.Tn (λ_=>none) 5) (Internal.Z.alb (prim:=λ_=>none) (λ_ _ _=>rfl) 1) cW hl 0;obtain⟨side,WU,Nm⟩:=Internal.Z.WN Fr;obtain⟨whole,hw⟩:∃whole,whole=rq m.width m.digits:=⟨_,rfl⟩;rw[<-hw]at Nm;refine vm (aj (XO1 (A.deeper env) E' env F s _ [] aQ G oa _ _ (WX.less (by decide)) kH fr si Ba hB) (λg s2 q=>?_) λ_ _ e=>e);obtain⟨rfl,G1,oa1,tR⟩:=q;have loc:∀m,lK.lookup m=some .local->env.kindOf m=some .local/\∀b,env.cells.lookup m≠some b:=λm e=>by
  refine⟨by rw[hk];exact e,λb e2=>?_⟩;have hm:(m,b)∈cellsFrom (s.heap.objs.size+1) l9.scope.names []:=by
   have:=mem_of_lookup e2;rw[mW]at this;exact this
  have A4:=ik _ _ _ _ _ hm;simp only[fH,false_or]at A4;have:=mem_lookup fi.kd A4;rw[yA,e]at this;cases this
 obtain⟨lw1,lw2⟩:=loc "whole" (by decide);have JY:TabAt s.heap PD:=cD.at;refine whole_run Ba hcD lw1 lw2 WX kH fr cD hFD Fr Nm.dlt hw tR λsb s5 q=>?_;obtain⟨x7,QL,M0,amb,⟨hb1,tb1,hsb⟩,fD,oD,pmD,cD',ad9,D1,D2,D3,D4,wm5⟩:=q;have PLs:Internal.Z.PL (Internal.Z.Tn kc 12):=Internal.Z.Yw (Ah _ (by decide) (by decide)) 11;obtain⟨m1,m2,tb,tr⟩:=Internal.Z.Sj (T1:=Internal.Z.Tn (λ_=>none) 5) (T:=Internal.Z.Tn kc 12) (Sk 11) PLs ash Fr Nm;show wpAny (model pw w) (A.deeper env) (execs (aq 12 lB::aq 13 lB::_) env) _ _ _;obtain⟨ls1,ls2⟩:=loc "side" (by decide);obtain⟨lq1,lq2⟩:=loc "quotient" (by decide);refine Ss Ba ls1 ls2 lq1 lq2 WX amb QL m1 m2 x7 λs7 D7 kdc=>?_;have y7:In env G1 (Se p whole side WU) s7.heap:=D7.ie;have am7:=amb.keeps D7.kp D7.tk;have wm7:kX s7.heap cD' PD (cx dI) dQ:=kX.dc wm5 kdc;obtain⟨q1,q2,q3,eP⟩:=alA;obtain⟨i1,i2,i3,i4,eI'⟩:=alB;obtain⟨mg,mb,L7⟩:=am7.la s7.heap λ_ _ e=>e;refine cz (wpAny_If (avh (Am (isTrue_not ?_))));rw[eP];refine isTrue_plain ?_ rfl;obtain⟨aP,oP,pmP,cP,asw,g1,g2,g3,g4⟩:=L7.fn uw NP;rw[JX]at g1;have gP:Gv s7.heap "_law_plain" (.ref aP):=⟨mg,L7.g,g1⟩
 have aea:=(kQ (env:=env) (pos:=q3) (f:=λ_=>some D.none) (es:=[lI,.Name "digits" q2]) (ds:=[.none,.none]) (by rw[eI'];rfl)).1;show wpAny _ _ (do callWith q3 (<-eval (.Name "_law_plain" q1) env) [] (backTo q3 (starEach [lI,.Name "digits" q2] env)) []) _ _ _;refine aw (qO y7 (by rw[Ba];decide) (by decide) (.inl gP) ?_);refine lE (o:=oP) (fd:=fO uw.name uw.params uw.body uw.scope pmP cP asw) (eu aea ?_);rw[show backTo q3 (starEach [lI,.Name "digits" q2] env)=[(false,eval lI env),(false,eval (.Name "digits" q2) env)]from by rw[eI'];rfl];refine fE ?_;rw[eI'];have cI7:Cd s7.heap nC (cx eI) eQ PI:=(Cd.but cI JY M0 ox).keeps (Keeps.all D7.kp);obtain⟨fI,oI,pmI,cI',asx,f1,f2,f3,f4,f5⟩:=id cI7;rw[lb]at f1;refine Y7 VO1 (WX.less (by decide)) am7 y7 (by rw[Ba];decide) (by decide) f1 f2 f3 (by rw[Ba];exact WT _ _ _ _ _ _) (λs8 vs8 k8 t8 r8=>?_);rw[Fr.ez]at r8;have NQ:=Keeps.all k8;refine aj (bF t8 (GS (F:=G1) (NQ _ _ f2) f3 (f4.keeps NQ) (Place.keepsP f5 NQ) (D7.hF _ hFI) (WV WX (by decide)) (am7.keeps k8 t8) (y7.keeps NQ).lo r8 (dn Nm.wle (jN (by decide) (by decide))) (ao (by decide) Fr.wd.1) (ao Fr.wd.2 (by decide)))) (λv s9 q=>?_) λ_ _ e=>e;obtain⟨t9,⟨h9,tk9,hs9⟩,Sw,_,wm9,r9⟩:=q;rw[Nm.dg]at r9;have ux:TabAt s8.heap PI:=(Place.keepsP f5 NQ).tabAt;have alD:TabAt sb.heap PI:=(Cd.but cI JY M0 ox).at;have si8:=D7.keeps k8 t8;have u9:Upd (λa=>a=PI) s8 s9:=⟨h9,tk9,hs9,by rw[hs9]at Sw;exactλb o ne e=>Sw b o e ne⟩
 have asy:(s9.heap.get? PI).isSome=true:=by
  obtain⟨ps,c',h1,_⟩:=wm9.tab;rw[h1];rfl
 obtain⟨sc,si9,frc,kbc,kPc,tkc,⟨Qk,tc1,hsc⟩⟩:=si8.tU QL hFI hcI u9 t9 asy;have alE:bE PI sb.heap sc.heap:=λb o e ne=>kbc b o e ne;have asz:dN (A.deeper env) (sr w) sc:=dN.but alD alE amb tkc sr.but;have am9:=asz.keeps si9.kp si9.tk;have wI9:Wm s9.heap nC (cx eI) eQ PI:=⟨fI,oI,pmI,cI',asx,by rw[lb];exact Gv.but ux Sw (Gv.keeps f1 NQ),Sw _ _ (NQ _ _ f2) (Ai ux (NQ _ _ f2) f3),f3,CodeRec.but ux Sw (f4.keeps NQ),wm9⟩
 have ks7:=Keeps.all D7.kp;have wD7:Wm s7.heap lL (cx dI) dQ PD:=⟨fD,oD,pmD,cD',ad9,Gv.keeps D1 ks7,ks7 _ _ D2,D3,D4.keeps ks7,wm7⟩
 have wD9:Wm s9.heap lL (cx dI) dQ PD:=by
  obtain⟨a1,o1,pm1,c1,asB,w1,w2,w3,w4,w5⟩:=Wm.keeps wD7 NQ;exact⟨a1,o1,pm1,c1,asB,Gv.but ux Sw w1,Sw _ _ w2 (Ai ux w2 w3),w3,CodeRec.but ux Sw w4,kX.but w5 ux Sw (λz=>ox z.symm) w4⟩
 have WY:dN (A.deeper env) (WR w) s9:=⟨am9.hh,am9.nb,am9.nl,am9.gl,am9.tk,am9.un,λh k=>⟨am9.la h k,⟨PI,Wm.keeps wI9 k⟩,PD,Wm.keeps wD9 k⟩⟩
 have y9:In env G1 (Se p whole side WU) s9.heap:=si9.ie;have TO2:=alz w 12;have VO2:dz pw w (WR w) (Bu 62) (dh (Internal.Z.Tn kc 12) 31):=kU TO2 31;have gP9:Gv s9.heap "_law_plain" (.ref aP):=Gv.but ux Sw (Gv.keeps gP NQ);have oP9:s9.heap.get? aP=some oP:=Sw _ _ (NQ _ _ g2) (Ai ux (NQ _ _ g2) g3);refine fE (aj (bF t9 (VO2.d (A.deeper env) E' env G1 _ s9 _ _ (WX.less (by decide)) WY y9 (by rw[Ba];exact ad0 _ _ _ _ _))) (λv2 s10 q=>mf ?_) λ_ _ e=>e);obtain⟨t10,Vf,r10⟩:=q;rw[Fr.ed]at r10;have Sy:=Keeps.all Vf;refine⟨⟨Sy _ _ oP9,g3⟩,?_⟩;obtain⟨aP',oP',ayP,u1,u2,u3,u4⟩:=TO2.fn s10.heap "_law_plain" _ _ ((WY.la _ Sy)) (PLs.lst (m.digits.map eR) (WW Fr));have eaP:=Gv.uniq (Gv.keeps gP9 Sy) u1;cases eaP;have rP:aZ s10.heap G1 [.lst ((m.digits.map eR).map .int),.lst ((m.digits.map eR).map .int)] [v,v2]:=by
  rw[<-Sr];exact .cons (r9.keeps Sy) (.one r10)
 refine aj (bF t10 (u4 (A.deeper env) _ G1 s10 [v,v2] (WX.less (by decide)) (WY.keeps Vf t10) (y9.keeps Sy).lo (λ_ _ e=>e) rP)) (λv3 s11 q=>?_) λ_ _ e=>e;obtain⟨t11,k11,r11⟩:=q;refine aj (bF t11 (nO (b:=true) r11 rfl)) (λcc s12 q=>?_) λ_ _ e=>e;obtain⟨t12,rfl,KD⟩:=q;rw[if_neg (by decide)];have k9:=Keeps.trans' (Keeps.trans' Vf k11) KD;have alF:=WY.keeps k9 t12;have y12:=y9.keeps (Keeps.all k9);refine Am (aj (bF t12 (VO2.b (A.deeper env) E' env G1 _ s12 _ _ (WX.less (by decide)) alF y12 (by rw[Ba];exact tb))) (λc2 s13 q=>?_) λ_ _ e=>e);obtain⟨t13,rfl,k13⟩:=q;rw[if_neg (by decide)];refine asL ?_;rw[if_neg (by decide)];refine iq ?_;refine cz (nE (aj (VO2.d (A.deeper env) E' env G1 _ s13 _ _ (WX.less (by decide)) (alF.keeps k13 t13) (y12.keeps (Keeps.all k13)) (by rw[Ba];exact tr)) (λv4 s14 q=>?_) λ_ _ e=>e));have kf:=Keeps.trans' si9.kp (Keeps.trans' (Keeps.trans' k9 k13) q.1);have r14:=q.2;have r14:=r14.bool;obtain⟨hf,tf,ef,kkf⟩:=kf;have ke:=Keeps.all (Keeps.trans' (Keeps.trans' k9 k13) q.1);refine hQ _ _ ⟨r14,⟨hf,tf,by rw[ef,hsc,hsb]⟩,λb o e n1 n2=>?_,?_,?_⟩
 ·rw[ef]
  exact kkf _ _ (alE _ _ (M0 _ _ e n2) n1)
 ·obtain⟨_,_,_,_,_,_,_,_,_,w5⟩:=Wm.keeps wI9 ke
  obtain⟨ps,_,h1,_⟩:=w5.tab;exact⟨ps,h1⟩
 ·obtain⟨_,_,_,_,_,_,_,_,_,w5⟩:=Wm.keeps wD9 ke
  obtain⟨ps,_,h1,_⟩:=w5.tab;exact⟨ps,h1⟩
end
end Internal.I
end
section
open PySem PySem.W PyProof.Rows
namespace Internal.Q
open Internal.I (Cd nC eI eQ lb ru)
inductive YP2(w:World)(h:Heap):Prop
 |mk (y:YP w h) (mg:Str->Option Value) (g:h.Ns mainGlobals mg) (c1 P1 c2 P2:Addr) (t1:Ji mg h "_int2digits" c1 P1) (t2:Ji mg h "_digits2int" c2 P2) (ne:P1≠P2)
theorem Ji.keeps(x:Ji mg h n c P)(k:∀b o,h.get? b=some o->h'.get? b=some o):Ji mg h' n c P:=
 by obtain⟨a,o,fd,h1,h2,h3,h4,h5,h6⟩:=x;exact⟨a,o,fd,h1,k _ _ h2,h3,h4,h5.keeps k,k _ _ h6⟩
theorem NR(w)(h h')(x:YP2 w h)(k:∀b o,h.get? b=some o->h'.get? b=some o):YP2 w h':=
 by obtain⟨y,mg,g,c1,P1,c2,P2,t1,t2,ne⟩:=x;exact⟨Gl w h h' y k,mg,g.keeps k,c1,P1,c2,P2,t1.keeps k,t2.keeps k,ne⟩
theorem aec(w:World)(s:ak)(e:(s.heap.isNs mainGlobals,HZ.look s.heap,E6 s.heap)=(true,Bs w,true)):YP2 w s.heap:=by
 obtain⟨e1,e2⟩:=gV e;obtain⟨e2,e3⟩:=gV e2;unfold E6 at e3;simp only[ay]at e3;obtain⟨b1,b2,b3⟩:=e3;obtain⟨x,h1,b3⟩:=oH (g:=λo=>o.getD false) b3 rfl;obtain⟨y,h2,b3⟩:=vw b3;exact⟨aiD w s (by rw[e1,e2]),s.heap.nsMap mainGlobals,.of_isNs e1,x.1,x.2,y.1,y.2,KY h1 b1,KY h2 b2,λz=>by rw[z,uI]at b3;cases b3⟩
theorem Y9(L:qk mg mb w h)(hd:d∈px)(g':h.Ns mainGlobals SY)(t:Ji SY h d.name c P):Cd h d pos qual P:=by
 obtain⟨a,o,pm,code,doc,h1,h2,h3,h4⟩:=L.fn d hd;obtain⟨a',o',fd,t1,t2,t3,t4,t5,t6⟩:=t;have e:=Ns.uniq L.g g' d.name;rw[h1,t1]at e;cases(e);rw[h2]at t2;cases(t2);rw[h3]at t3;cases(t3);cases t4;exact⟨a,o,pm,c,doc,⟨mg,L.g,h1⟩,h2,h3,h4,t5,#[],t6,trivial,.inl rfl⟩
end Internal.Q
namespace Internal.J
theorem JZ:∀{xs:List WData},Ek R xs .int=true->∃l:List Int,xs=l.map fF:=by
 intro zx
 induction zx with
 |nil=>
  rintro _;exact⟨[],rfl⟩
 |cons x xs ih=>
  rintro h;unfold Ek at h;rw[ay]at h;obtain⟨l,rfl⟩:=ih h.2;cases x<;>first|exact⟨_::l,rfl⟩|exact nz (show false=true from h.1)
theorem Sz:∀{x:WData},WShape.has R x (.list .int)=true->∃l:List Int,x=.list (l.map fF):=λ{x} h=>by
 cases x<;>first|exact nz (show false=true from h)|skip
 rename_i xs;have h:(Ek R xs .int||false)=true:=h;rw[Bool.or_false]at h;obtain⟨l,rfl⟩:=JZ h;exact⟨l,rfl⟩
theorem NS(h:LN R args [.list .int]=true):∃l:List Int,args=[.list (l.map fF)]:=by
 cases args with
 |nil=>cases h
 |cons x r=>
  unfold LN at h;rw[ay]at h;obtain⟨l,rfl⟩:=Sz h.1;cases r with
  |nil=>exact⟨l,rfl⟩
  |cons _ _=>have:=h.2;unfold LN at this;cases this
theorem less_int(a b):less? (.int a) (.int b)=some (decide (a<b)):=by rfl
theorem WZ(l:List Int):(WTm.not (.lt (.lit (.int 63)) (.len (.arg 0)))).value [] {args:=[.list (l.map fF)]}=some (.bool !decide ((63:Int)<(l.length:Nat))):=by
 have e:(WTm.lt (.lit (.int 63)) (.len (.arg 0))).value [] {args:=[.list (l.map fF)]}=some (.bool (decide ((63:Int)<((l.map fF).length:Nat)))):=by
  show(less? (.int 63) (.int ((l.map fF).length:Nat))).map Ap=_;rw[less_int];rfl
 show(match(WTm.lt (.lit (.int 63)) (.len (.arg 0))).value [] {args:=[.list (l.map fF)]}with|some (.bool b)=>some (Ap (!b))|_=>none)=_;rw[e,ag]
theorem NT{r:OpenLaw}{args:List WData}(hb:r.bound=none)(hm:r.most=some 63)(h:r.row.toRowW.claim.pre args=true):∃l:List Int,args=[.list (l.map fF)]/\l.length<=63:=by
 obtain⟨h1,h2⟩:=pre_splitW h;obtain⟨l,rfl⟩:=NS (R:=[]) h1;refine⟨l,rfl,?_⟩;have h2:(avq r).holds [] {args:=[.list (l.map fF)]}=true:=h2;unfold avq at h2;rw[hb,hm]at h2;have h2:(match(match(WTm.not (.lt (.lit (.int 63)) (.len (.arg 0)))).value [] {args:=[.list (l.map fF)]}with
                      |some (.bool false)=>some (Ap false)
                      |some (.bool true)=>(some (Ap true))
                      |_=>none)with|some (.bool true)=>true|_=>false)=true:=h2
 rw[WZ]at h2;by_cases q:(63:Int)<(l.length:Nat)
 ·rw[decide_eq_true q]at h2
  cases h2
 ·omega
end Internal.J
namespace Internal.Q
open Internal.I (Cd nC eI eQ lb ru)
def Hk(s:ak):Bool:=b8 1 s.toks&&(s.heap.isNs cStatics&&(s.heap.nsMap cStatics sharingNotToldKey).isNone)
abbrev Yfs(s:ak):=(s.heap.isNs mainGlobals,HZ.look s.heap,E6 s.heap,Hk s)
abbrev Yas(w):=(true,Bs w,true,true)
theorem alG:LeftO pw hZ jg (λ_=>true) Yfs Yas 4000000:=by
 refine LeftO.of_pieces (H₀:=gw) (H₁:=iC) (gs₀:= #[]) (gs₁:= #[]) (d₀:=mD) (d₁:=mD) (k₀:=aeQ) (k₁:=mN) (m₀:=11) (ann:=qj) (M:=ahE) ?_ ?_ (λw os=>Uq w os) (by rfl') ?_
 ·exact boot_open (by rfl') (by rfl') (λs=>rfl)
 ·intro w;rfl'
 ·intro w
  funext os;have h1:(staticsOk (importedModules pw.main.body) (gw w.params) (iC w.params)&&namesBound pw (iC w.params)&&gensDone ⟨iC w.params,#[],mD,mN,os⟩&&laidKept (gw w.params) (iC w.params))=true:=aht w os;have h2:openSeen hZ jg (importedModules pw.main.body) (λ_=>true) true ⟨iC w.params,#[],mD,mN,os⟩=openGood hZ jg:=by
   have:=ahv w os;rw[ahz]at this;exact this
  have h3:HZ.look (iC w.params)=Bs w:=ahu w os;rw[h1,h2];have h4:(iC w.params).isNs mainGlobals=true:=by rfl'
  have h5:Hk ⟨iC w.params,#[],mD,mN,os⟩=true:=by rfl'
  show(true,openGood hZ jg,(iC w.params).isNs mainGlobals,HZ.look (iC w.params),E6 (iC w.params),Hk ⟨iC w.params,#[],mD,mN,os⟩)=_;rw[h3,h4,ahH,h5]
theorem SA:∀{l:List Int}{s:ak}{r:List Value×ak},layAllW R cl P ord (l.map fF) s=some r->s.toks<=r.2.toks:=by
 intro zx
 induction zx with
 |nil=>
  rintro s r h;have h:some ([],s)=some r:=h;cases h;exact bD _
 |cons x l ih=>
  rintro s r h;have h:(match layAllW R cl P ord (l.map fF) {s with toks:=s.toks+1}with|some q=>some (Value.int x s.toks::q.1,q.2)|none=>none)=some r:=h;split at h
  ·rename_i q hq
   cases h;have:=ih hq;exact ao (Nat.le_succ _) this
  ·cases h
theorem NU{R:WRecords}{cl:Str->Option Addr}{P:W5}{ord:List cX->List cX}{l:List Int}{s:ak}{r:List Value×ak}(h:layAllW R cl P ord [.list (l.map fF)] s=some r):s.toks<=r.2.toks:=by
 have h:(match(match layAllW R cl P ord (l.map fF) s with
  |some q=>some (ix q.2.heap.objs.size,{q.2 with heap:=q.2.heap.push {cls:=.type "list",data:=.seq q.1.toArray}})
  |none=>none)with|some a=>some ([a.1],a.2)|none=>none)=some r:=h
 cases hq:layAllW R cl P ord (l.map fF) s with
 |none=>rw[hq]at h;cases h
 |some q=>
  rw[hq]at h;cases h;have:=SA hq;exact this
theorem NV{P:W5}{h:Heap}{F:Addr->Prop}{l:List Int}{vals:List Value}(x:WellAll P h vals [.list (l.map fF)])(nF:∀a o,h.get? a=some o->o.cls=.type "list"->¬F a):aZ h F [.lst (l.map D.int)] vals:=by
 obtain⟨v,vs,rfl,x1,x2⟩:=wellAll_cons_inv x;cases x2;cases x1 with
 |list e r=>
  rename_i a vs;refine .one ?_;refine jX (nF _ _ e rfl) e ?_;clear e nF x;induction l generalizing vs with
  |nil=>cases r;exact .nil
  |cons i l ih=>
   cases r with
   |cons r1 r2=>
    refine .cons ?_ (ih r2);cases r1;exact jW
end Internal.Q
namespace Internal.Q
open Internal.I (Cd nC eI eQ lb ru l9 Hj NO)
abbrev W0:RowW:=ft.row.toRowW
theorem W2(G:Ground hZ jg [] (λ_ _=>True) w aD mg mb h)(y:YP w h):qk mg mb w h:=
 ⟨G.T.g,G.T.b,G.T.fn,G.T.const,G.T.free,G.T.builtins,G.T.bmain,y⟩
theorem NW:Bu 80 callerA:=by
 refine⟨?_,?_⟩<;>decide
theorem W3:defOf hZ "law"=some (l9,[]):=by rfl'
theorem NX:l9.params.defaults=[]:=by rfl'
theorem has_bool:WShape.has [] (.bool true) .bool=true:=rfl
theorem NY:W0.claim.post args (.bool true) args=true:=by
 refine postC_of (X:=true) has_bool ?_ rfl;show some (Ap (PySem.W.same (.bool true) (.bool true)))=_;rw[same_self]
theorem walk(G:Ground hZ jg [] (λ_ _=>True) w aD mg mb aQ.heap)(Y:Yfs aD=Yas w)(ho:aQ.heap.get? a=some o)
(hd:o.data=.func {fO l9.name l9.params l9.body l9.scope pm cd doc with defaults:=dV,kwdefaults:=kV})(y0:aQ.heap.CodeRec cd l9.name)(hD:Dflts mg aQ.heap l9.params [] dV kV)(alH:aQ.gens= #[])(L:Laid [] w aD aQ args vals as)(GN:W0.claim.pre args=true)(Au:WellAll w.params aQ.heap vals args):
 wpAny (model pw w) callerA (call (.ref a) vals) (λv s'=>GoodWG W0.claim (classAt aD.heap) (anl aD.heap) args aQ (.ok (.ret v)) s')
  (λe s'=>GoodWG W0.claim (classAt aD.heap) (anl aD.heap) args aQ (.error e) s') aQ:=by
 have hdV:dV=.none:=by
  rcases hD.pos with⟨_,q⟩|⟨q,_⟩
  ·exact q
  ·exact absurd NX q
 have hkV:kV=.none:=by
  rcases hD.kw with⟨_,q⟩|⟨q,_⟩
  ·exact q
  ·exact absurd rfl q
 subst hdV hkV;obtain⟨l,rfl,hl⟩:=Internal.J.NT (r:=ft) rfl rfl GN;have YY:YP2 w aD.heap:=aec w aD (by
  have:=Y;simp only[qn]at this⊢;exact⟨this.1,this.2.1,this.2.2.1⟩)
 have hm:Hk aD=true:=by
  have:=Y;simp only[qn]at this;exact this.2.2.2
 obtain⟨y,SY,g',c1,P1,c2,P2,t1,t2,ox⟩:=NR w _ _ YY L.keeps;have la:=W2 G y;unfold Hk at hm;simp only[ay,Nat.ble_eq,cV]at hm;obtain⟨m1,m2,m3⟩:=hm;obtain⟨ord,ay0,alI⟩:=L.laid;have tk:1<=aQ.toks:=ao m1 (NU alI);have cI:Cd aQ.heap nC (cx eI) eQ P1:=Y9 la ru g' (by rw[lb];exact t1);have cD:Cd aQ.heap lL (cx dI) dQ P2:=Y9 la Gy g' (by rw[vt];exact t2);have e1:aQ.heap.get? P1=some (tabObj #[]):=by obtain⟨_,_,_,_,_,_,_,_,h⟩:=t1;exact h
 have e2:aQ.heap.get? P2=some (tabObj #[]):=by obtain⟨_,_,_,_,_,_,_,_,h⟩:=t2;exact h
 have am:dN callerA (sr w) aQ:=⟨rfl,⟨_,(Heap.Ns.of_isNs m2).keeps L.keeps,m3⟩,G.T.nolimit,⟨mg,G.T.g⟩,tk,by decide,λh k=>⟨mg,mb,la.keeps k⟩⟩
 have lo:jy (λb=>b=P1\/b=P2) aQ.heap:=λb q=>by
  rcases q with rfl|rfl
  ·rw[e1];rfl
  ·rw[e2];rfl
 have rs:aZ aQ.heap (λb=>b=P1\/b=P2) [.lst (l.map D.int)] vals:=NV Au (λb o e c q=>by
  rcases q with rfl|rfl
  ·rw[e1]at e;cases e;cases c
  ·rw[e2]at e;cases e;cases c)
 refine aj (Internal.I.Sv ho hd y0 cI cD ox (.inl rfl) (.inr rfl) NW am lo rs hl) (λv s' q=>?_) λ_ _ e=>e;obtain⟨rfl,⟨h',tk',rfl⟩,kept,⟨ps1,f1⟩,ps2,f2⟩:=q;have tb1:isCodeTable aQ.heap P1:=by
  obtain⟨_,_,_,_,_,_,_,⟨o,vs,_,_,_,_,_,_,_,b1,b2,b3,b4,_⟩,_⟩:=t1;exact⟨c1,o,vs,b1,b2,b3,b4⟩
 have tb2:isCodeTable aQ.heap P2:=by
  obtain⟨_,_,_,_,_,_,_,⟨o,vs,_,_,_,_,_,_,_,b1,b2,b3,b4,_⟩,_⟩:=t2;exact⟨c2,o,vs,b1,b2,b3,b4⟩
 refine⟨.inl ⟨.bool true,.bool true,[],rfl,λ_=>rfl,.bool true,NY,λ_=>⟨.nil,λ_ h=>nomatch h⟩⟩,⟨λb o e=>?_,λb o e=>?_⟩,rfl,AllBare.of_eq alH⟩
 ·by_cases h1:b=P1
  ·subst h1
   rw[e1]at e;cases e;exact .inr (.inl ⟨tb1,rfl,#[],ps1,rfl,by rw[pY];exact f1⟩)
  ·by_cases h2:b=P2
   ·subst h2
    rw[e2]at e;cases e;exact .inr (.inl ⟨tb2,rfl,#[],ps2,rfl,by rw[pY];exact f2⟩)
   ·exact .inl (kept b o e h1 h2)
 ·by_cases h1:b=P1
  ·subst h1;exact⟨_,f1⟩
  ·by_cases h2:b=P2
   ·subst h2;exact⟨_,f2⟩
   ·exact⟨o,kept b o e h1 h2⟩
end Internal.Q
end
open PySem PySem.W PyProof.Rows
namespace Internal.Q
theorem whole:ft.Holds:=by
 w_on
 refine holds_law anm λ_=>?_;refine holds_openX (q:=hZ) (loose:=jg) (Xt:=λ_=>true) (XP:=λ_ _=>True) (Yf:=Yfs) (Ya:=Yas) (N:=4000000) (d:=Internal.I.l9) (kwd:=[]) alG (λ_ _=>trivial) (λ_ _ _ _ _=>trivial) W3 (by rfl') (by rfl') (λs _=>recFacts_nil (by rfl)) (by rfl) (by first|assumption|decide) (by decide) ⟨rfl,rfl,rfl,rfl,rfl,by decide⟩ ?hw ?hc
 case hw=>w_witness2
 intro w aD aQ mg mb G Y a o pm cd doc dV kV ho hd y0 hD hmg hg args vals as L GN ay3 hrd Au hlo;exact walk G Y ho hd y0 hD hg L GN Au
end Internal.Q
theorem PySem.Challenge.cw_ta0129_01_holds : PySem.Challenge.rw_ta0129_01.Holds := by
 exact Internal.Q.whole
