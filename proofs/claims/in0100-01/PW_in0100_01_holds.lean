import PyProof.Rows.All
import Wide.All
import OpenK.AllK
import Wide.FinOn
import Lean
import PySem.Challenge.RW_in0100_01
open PySem PySem.W PySem.Calls PySem.Spec PyProof.Rows
set_option Elab.async false
set_option maxRecDepth 100000
set_option linter.unusedVariables false
set_option compiler.extract_closed false
open _root_.And renaming intro→m7
open _root_.Array renaming length_toList→bM,getElem?_eq_none→g7,getElem?_eq_getElem→jP
open _root_.Bool renaming and_eq_true→b9,eq_iff_iff→eN,false_ne_true→f4,false_eq_true→jI
open _root_.Classical renaming byContradiction→mD
open _root_.Eq renaming symm→b7
open _root_.ForInStep renaming yield→pE
open _root_.Int renaming natCast_nonneg→cD,lt_of_le_of_lt→e9,fmod_nonneg_of_pos→fA,toNat_natCast→iT,fmod_lt_of_pos→jJ,toNat_of_nonneg→nN
open _root_.List renaming mem_cons_of_mem→aC,mem_cons_self→aF,mem_append_right→aJ,mem_append_left→aL,length_map→aQ,map_append→bB,getElem?_eq_getElem→bC,range→bI,mem_cons→bL,mem_map_of_mem→bQ,not_mem_nil→bR,map_cons→bT,map_map→bW,length_append→b4,mem_append→b8,map_congr_left→cF,getElem?_map→cQ,nodup_append→cZ,filter_append→dP,length_cons→d6,mem_of_mem_take→eW,mem_singleton→eY,append_nil→fC,length_singleton→fI,length_take→f8,getElem_mem→f9,flatMap_cons→gG,length_filter_le→gI,nodup_cons→gK,range_succ→iA,drop_eq_getElem_cons→iF,map_singleton→iJ,flatMap_append→i4,take_length→jC,getElem?_append_left→jQ,size_toArray→jY,mem_of_getElem?→jZ,length_range→j0,take_append_of_le_length→kU,take_of_length_le→k9,map_nil→lA,mem_filter→lK,dropWhile_suffix→lO,take_add_one→l6,foldl_append→l7,mem_range→mR,filter→mS,exists_cons_of_ne_nil→mT,flatMap_map→mX,filter_cons→mY,cons_append→mZ,extract_eq_drop_take→m5,map_id→oB,lt_irrefl→oJ,getElem?_eq_none→pC,cons_lt_cons_iff→pD,nil_append→qD,forIn_cons→qE,foldl_cons→qF,dropWhile_cons→qX,idxOf_lt_length_of_mem→q0,append_of_mem→rL
open _root_.Nat renaming le_trans→aD,lt_of_lt_of_le→aO,lt_of_le_of_lt→aR,le_of_eq→aU,le_of_lt→bA,le_add_right→bN,le_refl→bO,zero_le→bX,le_of_lt_succ→cG,lt_succ_self→cI,lt_trans→cK,add_le_add→cY,le_antisymm→c9,lt_or_ge→eM,ne_of_lt→eZ,add_le_add_left→gF,le_succ→gT,mul_le_mul_left→i6,ne_of_gt→jA,succ_le_succ→jE,min_le_right→jF,min_eq_left→jX,succ_add_eq_add_succ→j9,mul_le_mul→kK,lt_of_not_le→kL,lt_add_of_pos_right→kM,le_of_not_lt→kN,succ_le_of_lt→mB,add_sub_of_le→mC,sub_succ_lt_self→mU,add_le_add_right→mW,min_le_left→nW,lt_of_le_of_ne→oA,exists_eq_add_of_le→oD,add_comm→oS,le_sub_one_of_lt→p0,add_sub_cancel_left→s8
open _root_.Ne renaming symm→eH
open _root_.Option renaming getD_some→mP,bind_some→mQ,map_eq_some_iff→oC
open _root_.Option.some renaming inj→a9
open _root_.Or renaming imp→eK
open _root_.PyProof.Rows renaming wpS_bind→eV,wpS_pure→iL,callWith_type→kZ,SortedToK→nT,Call_→pF,Subscript_→qZ
open _root_.PyProof.Rows.KeyOrd renaming kle_refl→lB
open _root_.PySem renaming wpAny_bind→aB,wpAny_pure→aE,Value→aG,Shared→aH,PyData→aY,wpAny_holding→a8,wpAny_mono→bD,wpAny_of_eq→bE,wpAny_ite_false→bP,sizeLine_eq→bV,wpAt_of_wpAny→cL,codeAny_call_builtin→cM,World→cN,Keeps→cO,wpAny_loadName_local→cT,wpAny_newObj_type→c8,wpAny_call_entry→dB,wpAt→dC,wpAny_standAt→dF,wpAny_ite_true→dN,wpAny_execs_cons→dQ,wpAny_call→dR,builtinLookup_eq_fast→dX,wpAny_callSpecial?_slot→dZ,wpAny_loadPart'→eB,wpAny_assign_Name→eF,DictEntry→fD,wpAny_execs_nil→fJ,Program→fL,wpAt_bind→fM,wpAny_rule→fT,wpAny_dictEntries→fV,wpAny_field→gJ,wpAny_storeName_local→gN,typeLookup_type→gR,codeAny_builtin→gS,entryFor_of_tree→gZ,wpAny_attempt→iB,wpAny_Name→iE,Result→iR,wpAny_comprehension_free→iS,isSubtype_type→iY,wpAny_Assign_Name→i7,fastTable_eq_tree→i8,wpAny_dictEpoch→i9,Around→jK,plainId_quiet→jL,wpAny_setField_rec→jW,wpAny_Return_some→kE,wpAny_typeNameOfWhole_itemiter→lE,wpAny_loadPart→lF,wpAny_list_append_plain→lH,wpAny_typeNameOfWhole_valiter→lM,wpAny_typeNameOfWhole_keyiter→lN,ks_wpAt_mono→l5,wpAny_updateSeq→mM,wpAny_newList→mO,wpAny_storeName_cell→nG,wpAny_seqItems→nH,wpAny_point→nI,wpAny_load→nJ,wpAny_letTemporaryGo→nK,builtinType_eq_fast→n9,codeAny_of_tree→oI,wpAny_Constant_int→oR,IsItemIter→oU,wpAny_truthy_bool→pN,wpAny_pyIter_slot→pO,wpAny_newTuple→pP,wpAny_fieldsOf→pQ,exec_Assign_Name_used→qC,wpAny_isInstance→qW,Comprehension→q7,wpAny_specialOf→rT,slot_listiter_next→sS,arm_eval_Attribute→sT
open _root_.PySem.Around renaming under_plainId→d7,under_of_weight→i5
open _root_.PySem.Builtin.Dict renaming notOrdered→q8
open _root_.PySem.Builtin.Dict_items renaming ownedTupleFields→rU
open _root_.PySem.Builtin.List renaming listUpdate→dD,listItems→j2,listSameRef→mE
open _root_.PySem.Builtin.SmallTypes renaming nextOf→oK
open _root_.PySem.Builtin.Str renaming strSub→iZ,strKind→l9,occurrences→rB
open _root_.PySem.Calls renaming Name_function_global→dH,loadGlobal_builtin→eJ,spliced_cons→eR,spliced_nil→fK,spliced_cons→fW,callWith_builtin→f6,evalArgs_plain→gP,evalArgs_plain→iM,spliced_nil→iW,Constant_str→rA
open _root_.PySem.Code renaming quiet_builtin→jH
open _root_.PySem.Const renaming str→bH
open _root_.PySem.F renaming slot_dict_valueiterator_next→kW,slot_dict_itemiterator_next→lL,slot_dict_keyiterator_next→l8,plain_extend_loop→nU,plainAttrs_list→sG
open _root_.PySem.Heap renaming get?_push_of_some→aP,get?_push_size→aW,SameBut→bY,get?_update_self→cW,lt_size→eL,size_push→fZ,get?_update_other→gA
open _root_.PySem.Heap.SameBut renaming update→cU
open _root_.PySem.Manifest renaming signature?→pT
open _root_.PySem.NameKind renaming globalImplicit→aZ,cell→dL
open _root_.PySem.NumText renaming digitsVal→gX
open _root_.PySem.Obj renaming mapSeq→eO
open _root_.PySem.PyData renaming eqv→bU,int→cB,canLayAll0→cC,str→iH,canLay0→jB,list→mA,eqvAll→pB
open _root_.PySem.ScopeKind renaming function→b6
open _root_.PySem.SeqAt renaming shaped→cP,canLay_of_shaped→g6
open _root_.PySem.Str renaming ofString→aA
open _root_.PySem.Unicode renaming isSpace→pS
open _root_.PySem.Value renaming ref→cR,none→dY
open _root_.PySem.Value.ref renaming inj→fN
open _root_.PySem.W renaming of_hideAll→a6,hideAll_get→b5,Looks→dT,looks_findIn→dW,mg_none_of→kJ,check_slot→nL,handedOut_of→pR
open _root_.PySem.W.KIN renaming signs_num→kB
open _root_.PySem.W.Looks renaming of_peek→cH,of_pure→gH,ld→nM
open _root_.PySem.W.S renaming canonicalZ_eq→eP
namespace Mine.Internal
theorem gE{p q:Prop}{P:Prop}(h:p∧q)(k:p→q→P):P:=k h.1 h.2
theorem bK{α:Type}{p:α→Prop}{P:Prop}(h:∃a,p a)(k:∀a,p a→P):P:=h.elim fun a h=>k a h
theorem jM{p q r:Prop}{P:Prop}(h:p∧q∧r)(k:p→q→r→P):P:=k h.1 h.2.1 h.2.2
theorem bG{α:Type}{p q:α→Prop}{P:Prop}(h:∃a,p a∧q a)(k:∀a,p a→q a→P):P:=h.elim fun a h=>k a h.1 h.2
theorem oL{α β:Type}{p:α→β→Prop}{P:Prop}(h:∃a b,p a b)(k:∀a b,p a b→P):P:=h.elim fun a h=>h.elim fun b h=>k a b h
theorem A7{p q r s:Prop}{P:Prop}(h:p∧q∧r∧s)(k:p→q→r→s→P):P:=k h.1 h.2.1 h.2.2.1 h.2.2.2
theorem nY{α:Type}{p q r:α→Prop}{P:Prop}(h:∃a,p a∧q a∧r a)(k:∀a,p a→q a→r a→P):P:=h.elim fun a h=>k a h.1 h.2.1 h.2.2
theorem fO{α β:Type}{p q:α→β→Prop}{P:Prop}(h:∃a b,p a b∧q a b)(k:∀a b,p a b→q a b→P):P:=h.elim fun a h=>h.elim fun b h=>k a b h.1 h.2
theorem xN{p q r s t:Prop}{P:Prop}(h:p∧q∧r∧s∧t)(k:p→q→r→s→t→P):P:=k h.1 h.2.1 h.2.2.1 h.2.2.2.1 h.2.2.2.2
theorem Ln{α:Type}{p q r s:α→Prop}{P:Prop}(h:∃a,p a∧q a∧r a∧s a)(k:∀a,p a→q a→r a→s a→P):P:=h.elim fun a h=>k a h.1 h.2.1 h.2.2.1 h.2.2.2
theorem mF{α β:Type}{p q r:α→β→Prop}{P:Prop}(h:∃a b,p a b∧q a b∧r a b)(k:∀a b,p a b→q a b→r a b→P):P:=h.elim fun a h=>h.elim fun b h=>k a b h.1 h.2.1 h.2.2
theorem s9{α β γ:Type}{p q:α→β→γ→Prop}{P:Prop}(h:∃a b c,p a b c∧q a b c)(k:∀a b c,p a b c→q a b c→P):P:=h.elim fun a h=>h.elim fun b h=>h.elim fun c h=>k a b c h.1 h.2
theorem Jv{p q r s t u:Prop}{P:Prop}(h:p∧q∧r∧s∧t∧u)(k:p→q→r→s→t→u→P):P:=k h.1 h.2.1 h.2.2.1 h.2.2.2.1 h.2.2.2.2.1 h.2.2.2.2.2
theorem oX{α β:Type}{p q r s:α→β→Prop}{P:Prop}(h:∃a b,p a b∧q a b∧r a b∧s a b)(k:∀a b,p a b→q a b→r a b→s a b→P):P:=h.elim fun a h=>h.elim fun b h=>k a b h.1 h.2.1 h.2.2.1 h.2.2.2
theorem pG{α β γ:Type}{p q r:α→β→γ→Prop}{P:Prop}(h:∃a b c,p a b c∧q a b c∧r a b c)(k:∀a b c,p a b c→q a b c→r a b c→P):P:=h.elim fun a h=>h.elim fun b h=>h.elim fun c h=>k a b c h.1 h.2.1 h.2.2
theorem LA{α β γ δ:Type}{p q:α→β→γ→δ→Prop}{P:Prop}(h:∃a b c d,p a b c d∧q a b c d)(k:∀a b c d,p a b c d→q a b c d→P):P:=h.elim fun a h=>h.elim fun b h=>h.elim fun c h=>h.elim fun d h=>k a b c d h.1 h.2
theorem IJ{p q r s t u v:Prop}{P:Prop}(h:p∧q∧r∧s∧t∧u∧v)(k:p→q→r→s→t→u→v→P):P:=k h.1 h.2.1 h.2.2.1 h.2.2.2.1 h.2.2.2.2.1 h.2.2.2.2.2.1 h.2.2.2.2.2.2
theorem uK{α β γ:Type}{p q r s:α→β→γ→Prop}{P:Prop}(h:∃a b c,p a b c∧q a b c∧r a b c∧s a b c)(k:∀a b c,p a b c→q a b c→r a b c→s a b c→P):P:=h.elim fun a h=>h.elim fun b h=>h.elim fun c h=>k a b c h.1 h.2.1 h.2.2.1 h.2.2.2
theorem B4{α β γ δ:Type}{p q r:α→β→γ→δ→Prop}{P:Prop}(h:∃a b c d,p a b c d∧q a b c d∧r a b c d)(k:∀a b c d,p a b c d→q a b c d→r a b c d→P):P:=h.elim fun a h=>h.elim fun b h=>h.elim fun c h=>h.elim fun d h=>k a b c d h.1 h.2.1 h.2.2
theorem Kz{α β γ δ ε ζ:Type}{p:α→β→γ→δ→ε→ζ→Prop}{P:Prop}(h:∃a b c d e f,p a b c d e f)(k:∀a b c d e f,p a b c d e f→P):P:=h.elim fun a h=>h.elim fun b h=>h.elim fun c h=>h.elim fun d h=>h.elim fun e h=>h.elim fun f h=>k a b c d e f h
theorem LC{α β:Type}{p q r s t u:α→β→Prop}{P:Prop}(h:∃a b,p a b∧q a b∧r a b∧s a b∧t a b∧u a b)(k:∀a b,p a b→q a b→r a b→s a b→t a b→u a b→P):P:=h.elim fun a h=>h.elim fun b h=>k a b h.1 h.2.1 h.2.2.1 h.2.2.2.1 h.2.2.2.2.1 h.2.2.2.2.2
theorem B5{α β γ:Type}{p q r s t:α→β→γ→Prop}{P:Prop}(h:∃a b c,p a b c∧q a b c∧r a b c∧s a b c∧t a b c)(k:∀a b c,p a b c→q a b c→r a b c→s a b c→t a b c→P):P:=h.elim fun a h=>h.elim fun b h=>h.elim fun c h=>k a b c h.1 h.2.1 h.2.2.1 h.2.2.2.1 h.2.2.2.2
theorem II{α β γ δ:Type}{p q r s:α→β→γ→δ→Prop}{P:Prop}(h:∃a b c d,p a b c d∧q a b c d∧r a b c d∧s a b c d)(k:∀a b c d,p a b c d→q a b c d→r a b c d→s a b c d→P):P:=h.elim fun a h=>h.elim fun b h=>h.elim fun c h=>h.elim fun d h=>k a b c d h.1 h.2.1 h.2.2.1 h.2.2.2
theorem Ll{α β γ δ ε:Type}{p q r:α→β→γ→δ→ε→Prop}{P:Prop}(h:∃a b c d e,p a b c d e∧q a b c d e∧r a b c d e)(k:∀a b c d e,p a b c d e→q a b c d e→r a b c d e→P):P:=h.elim fun a h=>h.elim fun b h=>h.elim fun c h=>h.elim fun d h=>h.elim fun e h=>k a b c d e h.1 h.2.1 h.2.2
theorem Ju{α β:Type}{p q r s t u v:α→β→Prop}{P:Prop}(h:∃a b,p a b∧q a b∧r a b∧s a b∧t a b∧u a b∧v a b)(k:∀a b,p a b→q a b→r a b→s a b→t a b→u a b→v a b→P):P:=h.elim fun a h=>h.elim fun b h=>k a b h.1 h.2.1 h.2.2.1 h.2.2.2.1 h.2.2.2.2.1 h.2.2.2.2.2.1 h.2.2.2.2.2.2
theorem Lm{α β γ:Type}{p q r s t u:α→β→γ→Prop}{P:Prop}(h:∃a b c,p a b c∧q a b c∧r a b c∧s a b c∧t a b c∧u a b c)(k:∀a b c,p a b c→q a b c→r a b c→s a b c→t a b c→u a b c→P):P:=h.elim fun a h=>h.elim fun b h=>h.elim fun c h=>k a b c h.1 h.2.1 h.2.2.1 h.2.2.2.1 h.2.2.2.2.1 h.2.2.2.2.2
theorem Jt{α β γ δ:Type}{p q r s t:α→β→γ→δ→Prop}{P:Prop}(h:∃a b c d,p a b c d∧q a b c d∧r a b c d∧s a b c d∧t a b c d)(k:∀a b c d,p a b c d→q a b c d→r a b c d→s a b c d→t a b c d→P):P:=h.elim fun a h=>h.elim fun b h=>h.elim fun c h=>h.elim fun d h=>k a b c d h.1 h.2.1 h.2.2.1 h.2.2.2.1 h.2.2.2.2
theorem LB{α β γ:Type}{p q r s t u v:α→β→γ→Prop}{P:Prop}(h:∃a b c,p a b c∧q a b c∧r a b c∧s a b c∧t a b c∧u a b c∧v a b c)(k:∀a b c,p a b c→q a b c→r a b c→s a b c→t a b c→u a b c→v a b c→P):P:=h.elim fun a h=>h.elim fun b h=>h.elim fun c h=>k a b c h.1 h.2.1 h.2.2.1 h.2.2.2.1 h.2.2.2.2.1 h.2.2.2.2.2.1 h.2.2.2.2.2.2
theorem Js{α β γ δ:Type}{p q r s t u:α→β→γ→δ→Prop}{P:Prop}(h:∃a b c d,p a b c d∧q a b c d∧r a b c d∧s a b c d∧t a b c d∧u a b c d)(k:∀a b c d,p a b c d→q a b c d→r a b c d→s a b c d→t a b c d→u a b c d→P):P:=h.elim fun a h=>h.elim fun b h=>h.elim fun c h=>h.elim fun d h=>k a b c d h.1 h.2.1 h.2.2.1 h.2.2.2.1 h.2.2.2.2.1 h.2.2.2.2.2
@[elab_as_elim] theorem aM{α:Sort _}{a b:α}{p:α→Prop}(e:a=b)(h:p b):p a:=e▸h
@[elab_as_elim] theorem gU{α:Sort _}{a b:α}{p:α→Prop}(e:a=b)(h:p a):p b:=e▸h
@[elab_as_elim] theorem K5{P:Nat→Prop}{n j:Nat}(h:j<n+1)(b:P n)(a:∀j,j<n→P j):P j:=(Nat.lt_or_eq_of_le (cG h)).elim (a j) fun e=>e▸b
@[elab_as_elim] theorem Ls{P:Nat→Prop}{j:Nat}(h:j<2)(a:P 0)(b:P 1):P j:=K5 h b fun j h=>K5 h a fun j h=>absurd h (Nat.not_lt_zero j)
@[elab_as_elim] theorem Lr{P:Nat→Prop}{j:Nat}(h:j<3)(a:P 0)(b:P 1)(c:P 2):P j:=K5 h c fun j h=>Ls h a b
@[elab_as_elim] theorem Lq{P:Nat→Prop}{j:Nat}(h:j<4)(a:P 0)(b:P 1)(c:P 2)(d:P 3):P j:=K5 h d fun j h=>Lr h a b c
theorem yG{l r:Nat}(h:l<r):(l+r)/2<r:=Nat.div_lt_of_lt_mul (by rw[Nat.two_mul];exact Nat.add_lt_add_right h r)
theorem D0{l r:Nat}(h:l<r):l≤(l+r)/2:=(Nat.le_div_iff_mul_le (by decide)).mpr (by rw[Nat.mul_two];exact gF (bA h) l)
theorem LU:∀{n:Nat},0<n→(-1+(n:Int)).toNat=n-1
 |n+1,_=>congrArg Int.toNat (show(-1+((n+1:Nat):Int))=(n:Int)from by rw[Int.natCast_add,Int.add_comm];exact Int.add_sub_cancel (n:Int) 1)
theorem Jd:∀{n:Nat},0<n→ -(n:Int)≤ -1
 |n+1,_=>Int.neg_le_neg (Int.ofNat_le.mpr (jE (bX n)))
theorem IR{n s e f:Nat}(h:n-s+1≤f+1)(g:s<e)(k:e≤n):n-e+1≤f:=aD (Nat.sub_lt_sub_left (aO g k) g) (Nat.le_of_succ_le_succ h)
theorem eq2:∀k<3,k≠1→k≠0→k=2:=by decide
theorem shL{α:Sort _}{l k i:Nat}{a b c:α}(h:i<l):(if i=l then a else if l<i∧i≤k then b else c)=c:=by rw[if_neg (eZ h),if_neg fun q=>Nat.lt_asymm h q.1]
theorem Li{α:Sort _}{l k i:Nat}{a b c:α}(h:l<i)(g:i≤k):(if i=l then a else if l<i∧i≤k then b else c)=b:=by rw[if_neg (jA h),if_pos ⟨h,g⟩]
theorem DP{i j k:Nat}(h:i<j)(g:j<k+1):j-1<k:=Nat.sub_one_lt_of_le (aR (bX i) h) (cG g)
theorem Ix{x k l r:Nat}(hx:x<k)(g:l<r)(h:r-l≤k-x):(l+r)/2-l≤k-(x+1):=
 cG (aO (Nat.sub_lt_sub_right (D0 g) (yG g)) (aD h (aU (by rw[←Nat.sub_sub,Nat.succ_eq_add_one,Nat.sub_add_cancel (Nat.sub_pos_of_lt hx)]))))
theorem Gt{x k l r:Nat}(hx:x<k)(g:l<r)(h:r-l≤k-x):r-((l+r)/2+1)≤k-(x+1):=
 cG (aO (Nat.sub_lt_sub_left g (Nat.lt_succ_of_le (D0 g))) (aD h (aU (by rw[←Nat.sub_sub,Nat.succ_eq_add_one,Nat.sub_add_cancel (Nat.sub_pos_of_lt hx)]))))
theorem Iy{i j ok n:Nat}(q:i<j)(h:j<min (max ok 1) n):j<ok:=by
 have h':=aO h (nW _ _)
 rcases Nat.le_total ok 1 with g|g
 ·rw[Nat.max_eq_right g]at h';exact absurd (aR (bX i) q) (Nat.not_lt.mpr (cG h'))
 ·rwa[Nat.max_eq_left g]at h'
theorem m2{α:Type}{a x y:α}(h:a∈[x,y]):a=x∨a=y:=by simpa using h
theorem m3{α:Type}{a x y z:α}(h:a∈[x,y,z]):a=x∨a=y∨a=z:=by simpa using h
theorem m4{α:Type}{a x y z w:α}(h:a∈[x,y,z,w]):a=x∨a=y∨a=z∨a=w:=by simpa using h
theorem J0{α:Type}{a b c d:α}(h:#[a,b]=#[c,d]):a=c∧b=d:=by simpa using h
theorem Lo{α:Type}{a D L:α}{w:List α}(h:a∈D::(w++[L])):a=D∨a∈w∨a=L:=by simpa using h
theorem nR{α:Type}{a b:α}{l:List α}(h:a∈b::l):a=b∨a∈l:=List.mem_cons.mp h
theorem r4{α:Type}{a b:α}{l:List α}(h:a∈b::l):b=a∨a∈l:=(List.mem_cons.mp h).imp b7 id
theorem kQ{α:Type}{a b:α}(h:a∈[b]):a=b:=List.mem_singleton.mp h
theorem LV{α:Type}{a b:α}(h:a∈[b]):b=a:=(List.mem_singleton.mp h).symm
theorem eX{α:Type}{a:α}{l m:List α}(h:a∈l++m):a∈l∨a∈m:=List.mem_append.mp h
theorem n5{α β:Type}{f:α→β}{b:β}{l:List α}(h:b∈l.map f):∃a,a∈l∧f a=b:=List.mem_map.mp h
theorem D1{α:Type}{p:α→Bool}{a:α}{l:List α}(h:a∈l.filter p):a∈l∧p a=true:=List.mem_filter.mp h
theorem JX{k m:Nat}(h:k<m)(hm:m≤9223372036854775808):(k:Int)<2^63:=Int.ofNat_lt.mpr (aO h hm)
def rf:Lean.Syntax:=Lean.Unhygienic.run `(tacticSeq|(intros;rfl))
def dk:Lean.Syntax:=Lean.Unhygienic.run `(tacticSeq|decide+kernel)
def rn:Lean.Syntax:=Lean.Unhygienic.run `(tacticSeq|nofun)
variable {V X X' X'':List Addr} {h h':Heap} {α β:Type} {prog:fL} {w:cN} {A:jK} {s s' g u s'' s₀:aH} {env:Env} {x y nm:Str} {pos px py tp:Pos} {m mg mb cm:Str→Option aG} {n tk k1 k2 ep e1:Nat} {elt iter:Expr} {ifs:List Expr} {scope:Scope} {cl:List (Str×Addr)} {f:Nat→aY} {cls:String} {p:Nat→Bool} {K:Frag} {Q:Flow→aH→Prop} {E:aG→aH→Prop} {es:Array fD} {fr:List Env} {M':Model} {L dd it:Addr} {ox o:Obj} {od:Option Obj} {t:Tok} {fz:Option aG} {fac rv kv tv:aG} {i:Int} {evs:List Int}
structure rW(V:List Addr)(h:Heap):Prop where
 lim:h.NoLimit
 two:2∈V
 al:∀a∈V,∃o,h.get? a=some o∧(a≠2→∀vs,o.data≠.fields vs)
theorem rW.keeps{h h':Heap}(x:rW V h)(k:∀b o,h.get? b=some o→h'.get? b=some o):rW V h':=⟨x.lim.keeps k,x.two,fun a ha=>let⟨o,e,r⟩:=x.al a ha;⟨o,k _ _ e,r⟩⟩
theorem rW.at{h h':Heap}(x:rW V h)(k:∀a∈V,∀o,h.get? a=some o→h'.get? a=some o):rW V h':=⟨x.lim.at (k 2 x.two),x.two,fun a ha=>let⟨o,e,r⟩:=x.al a ha;⟨o,k a ha _ e,r⟩⟩
theorem rW.ne{h:Heap}(x:rW V h){a:Addr}(e:h.get? a=none):a∉V:=fun q=>by refine bG (x.al a q) fun o e' z=>?_;replace e':=e▸e';cases e'
theorem rW.ne2{h:Heap}(x:rW V h){a:Addr}(e:h.get? a=none):a≠2:=fun q=>x.ne e (q▸x.two)
structure Kp(V:List Addr)(h h':Heap):Prop where
 old:∀b o,b∉V→h.get? b=some o→h'.get? b=some o
 two:rW V h→rW V h'
 ns:∀L∈V,L≠2→∀m,h.Ns L m→h'.Ns L m
 o2:2∈V→∀o,h.get? 2=some o→h'.get? 2=some o
theorem Kp.all{h h':Heap}(k:∀b o,h.get? b=some o→h'.get? b=some o):Kp V h h':=⟨fun b o z=>k b o,fun t=>t.keeps k,fun L z z m n=>n.keeps k,fun z o=>k 2 o⟩
theorem Kp.trans{a b c:Heap}(x:Kp V a b)(y:Kp V b c):Kp V a c:=⟨fun b o hb e=>y.old b o hb (x.old b o hb e),fun t=>y.two (x.two t),fun L hL h2 m n=>y.ns L hL h2 m (x.ns L hL h2 m n),fun m o e=>y.o2 m o (x.o2 m o e)⟩
noncomputable def Keeps(V:List Addr)(s s':aH):Prop:=∃h' tk,s'={s with heap:=h',toks:=tk}∧Kp V s.heap h'
theorem cE(s:aH):Keeps V s s:=⟨s.heap,s.toks,rfl,.all fun z z e=>e⟩
theorem aN{a b c:aH}(h1:Keeps V a b)(h2:Keeps V b c):Keeps V a c:=by
 (refine fO h1 fun h' tk e_0=>?_;subst e_0;refine fun k1=>?_)
 (refine fO h2 fun h'' tk' e_0=>?_;subst e_0;refine fun k2=>?_)
 exact⟨h'',tk',rfl,k1.trans k2⟩
theorem dA{s s':aH}(h:Keeps V s s'):Kp V s.heap s'.heap:=by
 (refine fO h fun h' tk e_0=>?_;subst e_0;refine fun k=>?_);exact k
theorem a7{s s':aH}(h:Keeps V s s'):∀b o,b∉V→s.heap.get? b=some o→s'.heap.get? b=some o:=(dA h).old
theorem gL{s s':aH}(h:Keeps V s s')(t:rW V s.heap):rW V s'.heap:=(dA h).two t
theorem Kp.Ns{h h':Heap}(k:Kp V h h'){L:Addr}{m:Str→Option aG}(h2:L≠2)(n:h.Ns L m):h'.Ns L m:=by
 by_cases hL:L∈V
 ·exact k.ns L hL h2 m n
 ·exact n.at' fun o e=>k.old L o hL e
theorem keeps_ns{s s':aH}(h:Keeps V s s'){L:Addr}{m:Str→Option aG}(h2:L≠2)(n:s.heap.Ns L m):s'.heap.Ns L m:=(dA h).Ns h2 n
theorem lU{s:aH}{h':Heap}{tk:Nat}(k:∀b o,s.heap.get? b=some o→h'.get? b=some o):Keeps V s {s with heap:=h',toks:=tk}:=⟨h',tk,rfl,.all k⟩
theorem gW{s:aH}{h':Heap}(k:∀b o,s.heap.get? b=some o→h'.get? b=some o):Keeps V s {s with heap:=h'}:=⟨h',s.toks,rfl,.all k⟩
theorem h9{s s':aH}(k:cO s s'):Keeps V s s':=by obtain⟨h',tk,rfl,k⟩:=k;exact lU k
theorem d9(s:aH)(tk:Nat):Keeps V s {s with toks:=tk}:=⟨s.heap,tk,rfl,.all fun z z e=>e⟩
theorem fF(s:aH)(o:Obj):Keeps V s {s with heap:=s.heap.push o}:=gW fun z z e=>aP _ e
theorem dG(h:Heap):h.get? h.objs.size=none:=by
 cases e:h.get? h.objs.size with
 |none=>rfl
 |some o=>exact absurd (eL e) (Nat.lt_irrefl _)
theorem fQ{s s':aH}(h:Keeps V s s')(t:rW V s.heap){b:Addr}(e:s'.heap.get? b=none):s.heap.get? b=none:=by
 have hb:=(gL h t).ne e
 cases q:s.heap.get? b with
 |none=>rfl
 |some o=>replace e:=(a7 h b o hb q)▸e;cases e
structure Bd(V:List Addr)(X:List Addr)(s:aH):Prop where
 al:∀a∈X,∃o,s.heap.get? a=some o
 two:rW V s.heap
theorem Bd.keeps{X:List Addr}{s s':aH}(h:Bd V X s)(k:Keeps V s s'):Bd V X s':=⟨fun a ha=>by
 by_cases hV:a∈V
 ·refine bG ((gL k h.two).al a hV) fun o e z=>?_;exact⟨o,e⟩
 ·refine bK (h.al a ha) fun o e=>?_;exact⟨o,a7 k a o hV e⟩,gL k h.two⟩
theorem Bd.fresh{X:List Addr}{s:aH}(h:Bd V X s):s.heap.objs.size∉V++X:=fun hm=>by
 rcases eX hm with hm|hm
 ·exact h.two.ne (dG _) hm
 ·refine bK (h.al _ hm) fun o e=>?_;exact absurd (eL e) (Nat.lt_irrefl _)
theorem Bd.cons{X:List Addr}{s:aH}{a:Addr}{o:Obj}(h:Bd V X s)(e:s.heap.get? a=some o):Bd V (a::X) s:=⟨fun b hb=>by
 rcases nR hb with rfl|hb
 ·exact⟨o,e⟩
 ·exact h.al b hb,h.two⟩
theorem Bd.less{X X':List Addr}{s:aH}(h:Bd V X s)(i:∀a∈X',a∈X):Bd V X' s:=⟨fun a ha=>h.al a (i a ha),h.two⟩
structure gM(V:List Addr)(X:List Addr)(s:aH)(X':List Addr)(s':aH):Prop where
 keeps:Keeps V s s'
 inc:∀a∈X,a∈X'
 new:∀a∈X',a∉V→a∈X∨s.heap.get? a=none
theorem gM.refl(X:List Addr)(s:aH):gM V X s X s:=⟨cE s,fun z h=>h,fun z h z=>.inl h⟩
theorem gM.trans{X Y Z:List Addr}{a b c:aH}(h1:gM V X a Y b)(h2:gM V Y b Z c):gM V X a Z c:=
 ⟨aN h1.keeps h2.keeps,fun x hx=>h2.inc x (h1.inc x hx),fun x hx h2'=>by
  rcases h2.new x hx h2' with h|h
  ·exact h1.new x h h2'
  ·refine .inr ?_
   cases e:a.heap.get? x with
   |none=>rfl
   |some o=>replace h:=(a7 h1.keeps x o h2' e)▸h;cases h⟩
theorem gM.of_keeps{X:List Addr}{s s':aH}(k:Keeps V s s'):gM V X s X s':=⟨k,fun z h=>h,fun z h z=>.inl h⟩
structure Nx(V:List Addr)(X:List Addr)(s:aH)(X':List Addr)(s':aH):Prop where
 st:∃h' tk,s'={s with heap:=h',toks:=tk}
 keep:∀b o,b∉V++X→s.heap.get? b=some o→s'.heap.get? b=some o
 new:∀a∈X',a∉V→a∈X∨s.heap.get? a=none
 two:rW V s.heap→rW V s'.heap
theorem gM.nx{X X':List Addr}{s s':aH}(h:gM V X s X' s'):Nx V X s X' s':=⟨let⟨h',tk,e,_⟩:=h.keeps;⟨h',tk,e⟩,fun b o hb e=>a7 h.keeps b o (fun q=>hb (aL _ q)) e,h.new,gL h.keeps⟩
theorem Nx.refl(X:List Addr)(s:aH):Nx V X s X s:=(gM.refl X s).nx
theorem Nx.trans{X Y Z:List Addr}{a b c:aH}(h1:Nx V X a Y b)(h2:Nx V Y b Z c):Nx V X a Z c:=by
 refine⟨?_,fun x o hx e=>h2.keep x o (fun hy=>?_) (h1.keep x o hx e),fun x hx hx2=>?_,fun t=>h2.two (h1.two t)⟩
 ·(refine oL h1.st fun h' tk e_0=>?_;subst e_0)
  (refine oL h2.st fun h'' tk' e_0=>?_;subst e_0)
  exact⟨_,_,rfl⟩
 ·rcases eX hy with q|hy
  ·exact hx (aL _ q)
  ·rcases h1.new x hy (fun q=>hx (aL _ q))with h|h
   ·exact hx (aJ _ h)
   ·replace e:=h▸e;cases e
 ·rcases h2.new x hx hx2 with h|h
  ·exact h1.new x h hx2
  ·by_cases hX:x∈X
   ·exact .inl hX
   ·refine .inr ?_
    cases e:a.heap.get? x with
    |none=>rfl
    |some o=>replace h:=(h1.keep x o (fun q=>(eX q).elim hx2 hX) e)▸h;cases h
noncomputable def Is(V X:List Addr)(h:Heap)(v:aG)(d:aY):Prop:=∃as,Reads (hideAll h (V++X)) v d as
noncomputable def cA(V X:List Addr)(h:Heap)(vs:List aG)(ds:List aY):Prop:=∃as,ReadsAll (hideAll h (V++X)) vs ds as
theorem bZ{X:List Addr}{h:Heap}{b:Addr}{o:Obj}(e:(hideAll h X).get? b=some o):b∉X:=fun hb=>by
 replace e:=(hideAll_none _ hb)▸e;cases e
theorem cS{X X':List Addr}{s s':aH}(n:Nx V X s X' s'):∀b o,(hideAll s.heap (V++X)).get? b=some o→(hideAll s'.heap (V++X')).get? b=some o:=fun b o e=>by
 have hb:=bZ e
 have e':=a6 _ e
 refine b5 _ (n.keep b o hb e') fun hb'=>?_
 rcases eX hb' with q|hb'
 ·exact hb (aL _ q)
 ·rcases n.new b hb' (fun q=>hb (aL _ q))with h|h
  ·exact hb (aJ _ h)
  ·replace e':=h▸e';cases e'
theorem Is.nx{X X':List Addr}{s s':aH}{v:aG}{d:aY}(x:Is V X s.heap v d)(n:Nx V X s X' s'):Is V X' s'.heap v d:=let⟨as,r⟩:=x;⟨as,Reads.keeps (cS n) r⟩
theorem cA.nx{X X':List Addr}{s s':aH}{vs:List aG}{ds:List aY}(x:cA V X s.heap vs ds)(n:Nx V X s X' s'):cA V X' s'.heap vs ds:=let⟨as,r⟩:=x;⟨as,ReadsAll.keeps (cS n) r⟩
theorem wA{X:List Addr}{h h':Heap}(k:∀b o,b∉V→h.get? b=some o→h'.get? b=some o):∀b o,(hideAll h (V++X)).get? b=some o→(hideAll h' (V++X)).get? b=some o:=
 fun b o e=>b5 _ (k b o (fun q=>bZ e (aL _ q)) (a6 _ e)) (bZ e)
theorem Is.keep{X:List Addr}{h h':Heap}{v:aG}{d:aY}(x:Is V X h v d)(k:∀b o,b∉V→h.get? b=some o→h'.get? b=some o):Is V X h' v d:=let⟨as,r⟩:=x;⟨as,Reads.keeps (wA k) r⟩
theorem cA.keep{X:List Addr}{h h':Heap}{vs:List aG}{ds:List aY}(x:cA V X h vs ds)(k:∀b o,b∉V→h.get? b=some o→h'.get? b=some o):cA V X h' vs ds:=let⟨as,r⟩:=x;⟨as,ReadsAll.keeps (wA k) r⟩
theorem mJ{X X':List Addr}{h:Heap}(i:∀a∈X,a∈X'):∀b o,(hideAll h (V++X')).get? b=some o→(hideAll h (V++X)).get? b=some o:=
 fun z z e=>b5 _ (a6 _ e) fun hb=>bZ e ((eX hb).elim (fun q=>aL _ q) fun h=>aJ _ (i _ h))
theorem Is.less{X X':List Addr}{h:Heap}{v:aG}{d:aY}(x:Is V X' h v d)(i:∀a∈X,a∈X'):Is V X h v d:=let⟨as,r⟩:=x;⟨as,Reads.keeps (mJ i) r⟩
theorem cA.less{X X':List Addr}{h:Heap}{vs:List aG}{ds:List aY}(x:cA V X' h vs ds)(i:∀a∈X,a∈X'):cA V X h vs ds:=let⟨as,r⟩:=x;⟨as,ReadsAll.keeps (mJ i) r⟩
theorem Is.reads{X:List Addr}{h:Heap}{v:aG}{d:aY}(x:Is V X h v d):∃as,Reads h v d as:=let⟨as,r⟩:=x;⟨as,Reads.keeps (fun z z e=>a6 _ e) r⟩
theorem cA.reads{X:List Addr}{h:Heap}{vs:List aG}{ds:List aY}(x:cA V X h vs ds):∃as,ReadsAll h vs ds as:=let⟨as,r⟩:=x;⟨as,ReadsAll.keeps (fun z z e=>a6 _ e) r⟩
theorem Is.none:Is V X h .none .none:=⟨[],.none⟩
theorem Is.bool(b:Bool):Is V X h (.bool b) (.bool b):=⟨[],.bool b⟩
theorem Is.int(i:Int)(t:Tok):Is V X h (.int i t) (.int i):=⟨[],.int i t⟩
theorem Is.str(x:Str)(t:Tok):Is V X h (.str x t) (.str x):=⟨[],.str x t⟩
theorem Is.of_bool{v:aG}{b:Bool}(x:Is V X h v (.bool b)):v= .bool b:=by refine bK x fun as r=>?_;cases r;rfl
theorem Is.of_int{v:aG}{i:Int}(x:Is V X h v (.int i)):∃t,v= .int i t:=by refine bK x fun as r=>?_;cases r;exact⟨_,rfl⟩
theorem Is.of_str{v:aG}{y:Str}(x:Is V X h v (.str y)):∃t,v= .str y t:=by refine bK x fun as r=>?_;cases r;exact⟨_,rfl⟩
theorem cA.nil:cA V X h [] []:=⟨[],.nil⟩
theorem cA.cons{v vs d ds}(x:Is V X h v d)(y:cA V X h vs ds):cA V X h (v::vs) (d::ds):=let⟨_,r⟩:=x;let⟨_,r'⟩:=y;⟨_,.cons r r'⟩
theorem cA.of_nil{vs}(x:cA V X h vs []):vs=[]:=by refine bK x fun as r=>?_;cases r;rfl
theorem cA.of_cons{vs d ds}(x:cA V X h vs (d::ds)):∃v vs',vs=v::vs'∧Is V X h v d∧cA V X h vs' ds:=by
 refine bK x fun as r=>?_
 cases r with
 |cons r r'=>exact⟨_,_,rfl,⟨_,r⟩,⟨_,r'⟩⟩
theorem cA.length:∀{ds:List aY} {vs:List aG},cA V X h vs ds→vs.length=ds.length
 |[],vs,x=>by refine aM x.of_nil ?_;rfl
 |d::ds,vs,x=>by
  (refine mF x.of_cons fun v vs' e_0=>?_;subst e_0;refine fun z x'=>?_)
  exact aM d6 (aM d6 (aM (cA.length x') rfl))
theorem cA.append:∀{ds es:List aY} {vs us:List aG},cA V X h vs ds→cA V X h us es→cA V X h (vs++us) (ds++es)
 |[],_,vs,_,x,y=>by refine aM x.of_nil ?_;exact y
 |d::ds,_,vs,_,x,y=>by
  (refine mF x.of_cons fun v vs' e_0=>?_;subst e_0;refine fun xv x'=>?_)
  exact(cA.append x' y|>cA.cons xv)
theorem cA.at:∀{ds:List aY} {vs:List aG},cA V X h vs ds→∀{i:Nat} {d:aY},ds[i]?=some d→∃v,vs[i]?=some v∧Is V X h v d
 |[],_,_,_,_,e=>by simp at e
 |d::ds,vs,x,0,_,e=>by
  (refine mF x.of_cons fun v vs' e_0=>?_;subst e_0;refine fun xv x'=>?_)
  replace e:=a9 e;subst e
  exact⟨v,rfl,xv⟩
 |d::ds,vs,x,i+1,_,e=>by
  (refine mF x.of_cons fun v vs' e_0=>?_;subst e_0;refine fun xv x'=>?_)
  exact cA.at x' e
theorem cA.of_append:∀{ds es:List aY} {vs:List aG},cA V X h vs (ds++es)→∃us ws,vs=us++ws∧cA V X h us ds∧cA V X h ws es
 |[],_,vs,x=>⟨[],vs,rfl,.nil,x⟩
 |d::ds,es,vs,x=>by
  (refine mF (cA.of_cons x) fun v vs' e_0=>?_;subst e_0;refine fun xv x'=>?_)
  (refine mF (cA.of_append x') fun us ws e_0=>?_;subst e_0;refine fun y z=>?_)
  exact⟨v::us,ws,rfl,.cons xv y,z⟩
theorem Is.list{a:Addr}{o:Obj}{vs:Array aG}{n:Nat}{ds:List aY}(hn:a∉V++X)(e:h.get? a=some o)(hc:o.cls= .type "list")(hd:o.data= .seq vs n)(x:cA V X h vs.toList ds):Is V X h (.ref a) (.list ds):=
 let⟨_,r⟩:=x;⟨_,.list (b5 _ e hn) hc hd r⟩
theorem Is.of_list{v:aG}{ds:List aY}(x:Is V X h v (.list ds)):∃a o vs n,v= .ref a∧a∉V++X∧h.get? a=some o∧o.cls= .type "list"∧o.data= .seq vs n∧cA V X h vs.toList ds:=by
 refine bK x fun as r=>?_
 cases r with
 |list e hc hd r=>exact⟨_,_,_,_,rfl,bZ e,a6 _ e,hc,hd,⟨_,r⟩⟩
theorem Is.of_list'{v:aG}{ds:List aY}(x:Is V X h v (.list ds)):∃a vs,v= .ref a∧a∉V++X∧h.IsList a vs.toArray∧cA V X h vs ds:=by
 (refine Js x.of_list fun a o vs n e_0=>?_;subst e_0;refine fun hn e hc hd r=>?_)
 exact⟨a,vs.toList,rfl,hn,⟨o,e,hc,n,aM hd rfl⟩,r⟩
structure Hp(V:List Addr)(α:Type) where
 p:List Addr→Heap→α→Prop
 mono:∀{X:List Addr} {h h':Heap} {a:α},(∀b o,b∉V→h.get? b=some o→h'.get? b=some o)→p X h a→p X h' a
noncomputable def Dt(d:aY):Hp V aG:=⟨fun X h v=>Is V X h v d,fun k x=>x.keep k⟩
noncomputable def Ex{α:Type}(a:α):Hp V α:=⟨fun z z b=>b=a,fun z x=>x⟩
structure Pu(V:List Addr){α:Type}(prog:fL)(w:cN)(A:jK)(X₀:List Addr)(s₀:aH)(t:Sem α)(P:Hp V α):Prop where
 go:∀X s,gM V X₀ s₀ X s→Bd V X s→∀(Q:α→aH→Prop) (E:aG→aH→Prop),(∀a s',Keeps V s s'→P.p X s'.heap a→Q a s')→wpAny (model prog w) A t Q E s
theorem Pu.lift{t:Sem α}{P:Hp V α}(x:Pu V prog w A X s t P)(h:gM V X s X' s'):Pu V prog w A X' s' t P:=.mk fun Y u hu=>x.go Y u (h.trans hu)
theorem Pu.run{t:Sem α}{P:Hp V α}(x:Pu V prog w A X s t P)(hb:Bd V X s){Q:α→aH→Prop}{E:aG→aH→Prop}(q:∀a s',Keeps V s s'→P.p X s'.heap a→Q a s'):wpAny (model prog w) A t Q E s:=
 x.go X s (.refl X s) hb Q E q
theorem Pu.weak{t:Sem α}{P R:Hp V α}(x:Pu V prog w A X s t P)(y:∀a Y u,gM V X s Y u→P.p Y u.heap a→R.p Y u.heap a):Pu V prog w A X s t R:=
 .mk fun Y u hu hb Q E q=>x.go Y u hu hb Q E fun a u' k pa=>q a u' k (y a Y u' (hu.trans (.of_keeps k)) pa)
structure dK(A:jK)(n:Nat):Prop where
 depth:A.depth+n≤900
 units:A.units+100*n≤9000
 handled:A.handled=none
 frames:∃l,A.frames=some l
 guards:A.guards=some []
theorem dK.less{A:jK}{n m:Nat}(r:dK A n)(h:m≤n):dK A m:=⟨by have:=r.depth;exact aD (gF h _) this,by have:=r.units;exact aD (gF (i6 100 h) _) this,r.handled,r.frames,r.guards⟩
theorem dK.in1{A:jK}{n:Nat}(r:dK A (n+1)):dK A.in1 n:=⟨by have:=r.depth;simp;exact bA (by assumption),by have:=r.units;simp;exact aD (mW (gF (by decide:1≤100) _) _) (aD (aU (by rw[Nat.add_assoc,oS 100,Nat.mul_succ])) this),r.handled,r.frames,r.guards⟩
theorem dK.deeper{A:jK}{n:Nat}(r:dK A (n+1))(env:Env):dK (A.deeper env) n:=
 ⟨by have:=r.depth;exact aD (aU (j9 _ _)) this,by have:=r.units;exact aD (mW (gF (by decide:3≤100) _) _) (aD (aU (by rw[Nat.add_assoc,oS 100,Nat.mul_succ])) this),r.handled,let⟨l,e⟩:=r.frames;⟨env::l,by simp only[Around.deeper,e];rfl⟩,r.guards⟩
theorem dK.c{A:jK}{n:Nat}(r:dK A n):A.units<cLine:=by have:=r.units;exact aR (aD (bN _ _) this) (by decide)
theorem dK.c64{A:jK}{n:Nat}(r:dK A n):A.units+64<cLine:=by have:=r.units;exact aR (cY (aD (bN _ _) this) (bO _)) (by decide)
theorem dK.d{A:jK}{n:Nat}(r:dK A n):A.depth<recursionLimit:=by have:=r.depth;exact aR (aD (bN _ _) this) (by decide)
theorem eE(i:Int){k:Nat}{pos:Pos}:Pu V prog w A X s (eval (.Constant (.int i) k pos) env) (Dt (.int i)):=.mk fun z u z z z z q=>oR (q _ _ (d9 u _) (Is.int _ _))
theorem gO(x:Str){k:Nat}{pos:Pos}:Pu V prog w A X s (eval (.Constant (.str x) k pos) env) (Dt (.str x)):=.mk fun z u z z z z q=>rA (q _ _ (d9 u _) (Is.str _ _))
theorem I7{k:Nat}{pos:Pos}:Pu V prog w A X s (eval (.Constant .none k pos) env) (Dt .none):=.mk fun z u z z z z q=>PyProof.Rows.Constant_none (q _ _ (cE u) Is.none)
theorem tL{s s':aH}{a:Addr}{m:Str→Option aG}(n:s.heap.Ns a m)(k:Keeps V s s')(h2:a≠2):s'.heap.Ns a m:=Internal.keeps_ns k h2 n
theorem xK{h h':Heap}{c:Addr}{v:Option aG}(x:h.IsCell c v)(k:∀o,h.get? c=some o→h'.get? c=some o):h'.IsCell c v:=let⟨o,e,r⟩:=x;⟨o,k o e,r⟩
section
variable {v:aG} {P:Hp V aG} {c:Addr}
theorem G6(h2:env.locals≠2)(hn:s.heap.Ns env.locals m)(hv:m x=some v)(hp:P.p X s.heap v)(hst:∀Y u,gM V X s Y u→P.p Y u.heap v)(hk:autoParam (env.scope.kind= .function) rf)(hl:autoParam (env.kindOf x=some .local) rf)(hd:autoParam ((x==("__debug__":Str))=false) dk):
  Pu V prog w A X s (eval (.Name x pos) env) P:=.mk fun Y u hu z z z q=>iE (cT hk hl (tL hn hu.keeps h2) hv (q _ _ (cE u) (hst Y u hu))) hd
theorem Ib(h2:c∉V)(hc:env.cells.lookup x=some c)(hv:s.heap.IsCell c (some v))(hst:∀Y u,gM V X s Y u→P.p Y u.heap v)(hk:env.scope.kind= .function)(hl:env.kindOf x=some .cell)(hd:(x==("__debug__":Str))=false):
  Pu V prog w A X s (eval (.Name x pos) env) P:=.mk fun Y u hu z z z q=>iE (wpAny_loadName_cell hk hl hc (xK hv fun o e=>a7 hu.keeps c o h2 e) (q _ _ (cE u) (hst Y u hu))) hd
theorem I9(h2:c∉V)(hc:env.cells.lookup x=some c)(hv:s.heap.IsCell c (some v))(hst:∀Y u,gM V X s Y u→P.p Y u.heap v)(hk:env.scope.kind= .function)(hl:env.kindOf x=some .free)(hd:(x==("__debug__":Str))=false)(hcd:(x==("__classdict__":Str))=false):
  Pu V prog w A X s (eval (.Name x pos) env) P:=.mk fun Y u hu z z z q=>iE (wpAny_loadName_free hk hl hc (xK hv fun o e=>a7 hu.keeps c o h2 e) (q _ _ (cE u) (hst Y u hu)) hcd) hd
end
inductive fR (V:List Addr) (env:Env) (h:Heap) (x:Str) (v:aG):Prop where
 |loc {m:Str→Option aG} (h2:env.locals≠2) (hn:h.Ns env.locals m) (hv:m x=some v) (hl:env.kindOf x=some .local)
 |cell {c:Addr} (h2:c∉V) (hc:env.cells.lookup x=some c) (hv:h.IsCell c (some v)) (hl:env.kindOf x=some .cell)
 |free {c:Addr} (h2:c∉V) (hc:env.cells.lookup x=some c) (hv:h.IsCell c (some v)) (hl:env.kindOf x=some .free)
theorem fR.keep{h h':Heap}{x:Str}{v:aG}(n:fR V env h x v)(k:Kp V h h'):fR V env h' x v:=by
 cases n with
 |loc h2 hn hv hl=>exact .loc h2 (k.Ns h2 hn) hv hl
 |cell h2 hc hv hl=>exact .cell h2 hc (xK hv fun o e=>k.old _ o h2 e) hl
 |free h2 hc hv hl=>exact .free h2 hc (xK hv fun o e=>k.old _ o h2 e) hl
noncomputable def Am(x:Str):Bool:=!(x==("__debug__":Str))&&!(x==("__classdict__":Str))
theorem Aj{x:Str}{pos:Pos}{v:aG}{P:Hp V aG}(n:fR V env s.heap x v)(hst:∀Y u,gM V X s Y u→P.p Y u.heap v)(hk:env.scope.kind= .function)(ho:Am x=true):Pu V prog w A X s (eval (.Name x pos) env) P:=by
 unfold Am at ho
 simp only[b9,Bool.not_eq_true']at ho
 cases n with
 |loc h2 hn hv hl=>exact G6 h2 hn hv (hst X s (.refl X s)) hst hk hl ho.1
 |cell h2 hc hv hl=>exact Ib h2 hc hv hst hk hl ho.1
 |free h2 hc hv hl=>exact I9 h2 hc hv hst hk hl ho.1 ho.2
theorem aX{x:Str}{pos:Pos}{v:aG}{d:aY}(n:fR V env s.heap x v)(hd:Is V X s.heap v d)(hk:autoParam (env.scope.kind= .function) rf)(ho:autoParam (Am x=true) dk):Pu V prog w A X s (eval (.Name x pos) env) (Dt d):=
 Aj n (fun z z h=>hd.nx h.nx) hk ho
theorem eQ{x:Str}{pos:Pos}{v:aG}(n:fR V env s.heap x v)(hk:autoParam (env.scope.kind= .function) rf)(ho:autoParam (Am x=true) dk):Pu V prog w A X s (eval (.Name x pos) env) (Ex v):=
 Aj n (fun z z z=>rfl) hk ho
theorem tH{op:Operator}{l r:Expr}{pos:Pos}{P₁ P₂ R:Hp V aG}(hl:Pu V prog w A X s (eval l env) P₁)(hr:Pu V prog w A X s (eval r env) P₂)
  (hop:∀Y u a b,gM V X s Y u→Bd V Y u→P₁.p Y u.heap a→P₂.p Y u.heap b→Pu V prog w A Y u (binaryOp op a b) R):Pu V prog w A X s (eval (.BinOp l op r pos) env) R:=
 .mk fun Y u hu hb Q E q=>wpAny_BinOp (hl.go Y u hu hb _ E fun a u₁ k₁ pa=>hr.go Y u₁ (hu.trans (.of_keeps k₁)) (hb.keeps k₁) _ E fun b u₂ k₂ pb=>
  (hop Y u₂ a b (hu.trans (.of_keeps (aN k₁ k₂))) (hb.keeps (aN k₁ k₂)) (P₁.mono (a7 k₂) pa) pb).run (hb.keeps (aN k₁ k₂)) fun c u₃ k₃ pc=>q c u₃ (aN k₁ (aN k₂ k₃)) pc)
theorem uS{op:CmpOp}{l r:Expr}{pos:Pos}{P₁ P₂ R:Hp V aG}(hl:Pu V prog w A X s (eval l env) P₁)(hr:Pu V prog w A X s (eval r env) P₂)
  (hop:∀Y u a b,gM V X s Y u→Bd V Y u→P₁.p Y u.heap a→P₂.p Y u.heap b→Pu V prog w A Y u (compareOp op a b) R)(hm:autoParam (behindInMarks op r=false) rf):Pu V prog w A X s (eval (.Compare l [op] [r] pos) env) R:=
 .mk fun Y u hu hb Q E q=>wpAny_Compare1 (hm:=hm) (hl.go Y u hu hb _ E fun a u₁ k₁ pa=>hr.go Y u₁ (hu.trans (.of_keeps k₁)) (hb.keeps k₁) _ E fun b u₂ k₂ pb=>
  (hop Y u₂ a b (hu.trans (.of_keeps (aN k₁ k₂))) (hb.keeps (aN k₁ k₂)) (P₁.mono (a7 k₂) pa) pb).run (hb.keeps (aN k₁ k₂)) fun c u₃ k₃ pc=>q c u₃ (aN k₁ (aN k₂ k₃)) pc)
theorem iO{op:CmpOp}{l r:Expr}{pos:Pos}{whole:Sem aG}{P₁ P₂:Hp V aG}{b:Bool}(hl:Pu V prog w A X s (eval l env) P₁)(hr:Pu V prog w A X s (eval r env) P₂)
  (hop:∀Y u a b',gM V X s Y u→Bd V Y u→P₁.p Y u.heap a→P₂.p Y u.heap b'→Pu V prog w A Y u (compareOp op a b') (Ex (.bool b)))(hm:autoParam (behindInMarks op r=false) rf):Pu V prog w A X s (isTrue (.Compare l [op] [r] pos) env whole) (Ex b):=
 .mk fun Y u hu hb Q E q=>wpAny_isTrue_Compare1 (hm:=hm) (hl.go Y u hu hb _ E fun a u₁ k₁ pa=>hr.go Y u₁ (hu.trans (.of_keeps k₁)) (hb.keeps k₁) _ E fun b' u₂ k₂ pb=>
  (hop Y u₂ a b' (hu.trans (.of_keeps (aN k₁ k₂))) (hb.keeps (aN k₁ k₂)) (P₁.mono (a7 k₂) pa) pb).run (hb.keeps (aN k₁ k₂)) fun c u₃ k₃ pc=>by
   cases (pc:c= .bool b)
   exact pN (q b u₃ (aN k₁ (aN k₂ k₃)) rfl))
theorem Ge{e:Expr}{b:Bool}(h:Pu V prog w A X s (eval e env) (Dt (.bool b)))(he:autoParam (isTrue e env (eval e env)=(do let v←eval e env;standAt e.pos;holding [v] (truthy v))) rf):Pu V prog w A X s (isTrue e env (eval e env)) (Ex b):=
 .mk fun Y u hu hb Q E q=>PyProof.Rows.isTrue_plain (h.go Y u hu hb _ E fun v u₁ k₁ pv=>by
  cases (Is.of_bool pv)
  exact pN (q b u₁ k₁ rfl)) he
theorem uU{pos:Pos}{whole:Sem aG}:Pu V prog w A X s (isTrue (.BoolOp .And [] pos) env whole) (Ex true):=.mk fun Y u hu hb Q E q=>PyProof.Rows.isTrue_and_nil (q true u (cE u) rfl)
theorem uV{e:Expr}{rest:List Expr}{pos:Pos}{whole:Sem aG}{b c:Bool}(he:Pu V prog w A X s (isTrue e env (eval e env)) (Ex b))
  (hr:b=true→Pu V prog w A X s (isTrue (.BoolOp .And rest pos) env (eval (.BoolOp .And rest pos) env)) (Ex c)):Pu V prog w A X s (isTrue (.BoolOp .And (e::rest) pos) env whole) (Ex (b&&c)):=
 .mk fun Y u hu hb Q E q=>PyProof.Rows.isTrue_and (he.go Y u hu hb _ E fun b' u₁ k₁ pb=>by
  cases (pb:b'=b)
  cases b with
  |false=>exact q false u₁ k₁ rfl
  |true=>
   refine(hr rfl).go Y u₁ (hu.trans (.of_keeps k₁)) (hb.keeps k₁) Q E (fun c' u₂ k₂ pc=>?_)
   cases (pc:c'=c)
   exact q c u₂ (aN k₁ k₂) rfl)
theorem tG{t a b:Expr}{pos:Pos}{c:Bool}{P:Hp V aG}(ht:Pu V prog w A X s (isTrue t env (eval t env)) (Ex c))(ha:c=true→Pu V prog w A X s (eval a env) P)(hb:c=false→Pu V prog w A X s (eval b env) P):
  Pu V prog w A X s (eval (.IfExp t a b pos) env) P:=
 .mk fun Y u hu hbd Q E q=>PyProof.Rows.IfExp_ (ht.go Y u hu hbd _ E fun c' u₁ k₁ pc=>by
  cases (pc:c'=c)
  cases c with
  |true=>exact(ha rfl).go Y u₁ (hu.trans (.of_keeps k₁)) (hbd.keeps k₁) _ E fun v u₂ k₂ pv=>q v u₂ (aN k₁ k₂) pv
  |false=>exact(hb rfl).go Y u₁ (hu.trans (.of_keeps k₁)) (hbd.keeps k₁) _ E fun v u₂ k₂ pv=>q v u₂ (aN k₁ k₂) pv)
theorem n4{v i:Expr}{pos:Pos}{P₁ P₂ R:Hp V aG}(hv:Pu V prog w A X s (eval v env) P₁)(hi:Pu V prog w A X s (eval i env) P₂)
  (hop:∀Y u a b,gM V X s Y u→Bd V Y u→P₁.p Y u.heap a→P₂.p Y u.heap b→Pu V prog w A Y u (subscriptTail v i a b) R):Pu V prog w A X s (eval (.Subscript v i pos) env) R:=
 .mk fun Y u hu hb Q E q=>qZ (hv.go Y u hu hb _ E fun a u₁ k₁ pa=>hi.go Y u₁ (hu.trans (.of_keeps k₁)) (hb.keeps k₁) _ E fun b u₂ k₂ pb=>
  (hop Y u₂ a b (hu.trans (.of_keeps (aN k₁ k₂))) (hb.keeps (aN k₁ k₂)) (P₁.mono (a7 k₂) pa) pb).run (hb.keeps (aN k₁ k₂)) fun c u₃ k₃ pc=>q c u₃ (aN k₁ (aN k₂ k₃)) pc)
noncomputable def tQ(X:List Addr)(h:Heap):List (Hp V aG)→List aG→Prop
 |[],[]=>True
 |P::Ps,v::vs=>P.p X h v∧tQ X h Ps vs
 |_,_=>False
theorem y0{X:List Addr}{h h':Heap}(k:∀b o,b∉V→h.get? b=some o→h'.get? b=some o):∀{Ps:List (Hp V aG)} {vs:List aG},tQ X h Ps vs→tQ X h' Ps vs
 |[],[],_=>trivial
 |P::_,_::_,⟨a,b⟩=>⟨P.mono k a,y0 k b⟩
 |[],_::_,x=>x.elim
 |_::_,[],x=>x.elim
noncomputable def w0(Ps:List (Hp V aG)):Hp V (List aG):=⟨fun X h vs=>tQ X h Ps vs,fun k x=>y0 k x⟩
theorem L9{X h}:∀{vs:List aG},tQ X h ([]:List (Hp V aG)) vs→vs=[]
 |[],_=>rfl
theorem H2{X h}{P:Hp V aG}{Ps:List (Hp V aG)}:∀{vs:List aG},tQ X h (P::Ps) vs→∃v r,vs=v::r∧P.p X h v∧tQ X h Ps r
 |v::r,e=>⟨v,r,rfl,e⟩
theorem mN{X h}{P:Hp V aG}{vs:List aG}(e:(w0 [P]).p X h vs):∃v,vs=[v]∧P.p X h v:=by
 exact mF (H2 e) fun v r e a b=>⟨v,e.trans (congrArg _ (L9 b)),a⟩
theorem Ch{X h}{P P':Hp V aG}{vs:List aG}(e:(w0 [P,P']).p X h vs):∃v v',vs=[v,v']∧P.p X h v∧P'.p X h v':=by
 exact mF (H2 e) fun v r e a b=>bG (mN b) fun v' e' b=>⟨v,v',e.trans (congrArg _ e'),a,b⟩
theorem Jl{X h}{P P' P'':Hp V aG}{vs:List aG}(e:(w0 [P,P',P'']).p X h vs):∃v v' v'',vs=[v,v',v'']∧P.p X h v∧P'.p X h v'∧P''.p X h v'':=by
 exact mF (H2 e) fun v r e a b=>mF (Ch b) fun v' v'' e' b c=>⟨v,v',v'',e.trans (congrArg _ e'),a,b,c⟩
theorem Cg{X h}:∀{ds:List aY} {vs:List aG},(w0 (V:=V) (ds.map Dt)).p X h vs→cA V X h vs ds
 |[],[],_=>.nil
 |_::_,_::_,⟨a,b⟩=>.cons a (Cg b)
 |[],_::_,x=>x.elim
 |_::_,[],x=>x.elim
theorem bF{pos:Pos}:Pu V prog w A X s (spliced (backTo pos (starEach [] env))) (w0 []):=.mk fun Y u hu hb Q E q=>fK (q [] u (cE u) trivial)
theorem aT{e:Expr}{rest:List Expr}{pos:Pos}{P:Hp V aG}{Ps:List (Hp V aG)}(he:Pu V prog w A X s (eval e env) P)(hr:Pu V prog w A X s (spliced (backTo pos (starEach rest env))) (w0 Ps))
  (hs:autoParam (starEach (e::rest) env=(false,eval e env)::starEach rest env) rf):Pu V prog w A X s (spliced (backTo pos (starEach (e::rest) env))) (w0 (P::Ps)):=by
 refine aM hs ?_
 exact .mk fun Y u hu hb Q E q=>fW (he.go Y u hu hb _ E fun v u₁ k₁ pv=>hr.go Y u₁ (hu.trans (.of_keeps k₁)) (hb.keeps k₁) _ E fun vs u₂ k₂ pvs=>q _ u₂ (aN k₁ k₂) ⟨P.mono (a7 k₂) pv,pvs⟩)
theorem fG{elts:List Expr}{pos:Pos}{Ps:List (Hp V aG)}{ds:List aY}(h:Pu V prog w A X s (spliced (backTo pos (starEach elts env))) (w0 Ps))(hp:Ps=ds.map Dt)(hz:ds.length≤sizeLine):
  Pu V prog w A X s (eval (.List elts pos) env) (Dt (.list ds)):=
 .mk fun Y u hu hb Q E q=>PyProof.Rows.List_ (h.go Y u hu hb _ E fun vs u₁ k₁ pvs=>by
  subst hp
  have x:=Cg pvs
  refine mO (hsz:=by refine aM x.length ?_;exact hz) (q _ _ (aN k₁ (fF u₁ _)) ?_)
  exact Is.list (hb.keeps k₁).fresh (aW _ rfl) rfl rfl (x.keep fun z z z e=>aP _ e))
theorem sU{func e:Expr}{rest:List Expr}{pos:Pos}{id:String}{Ps:List (Hp V aG)}{R:Hp V aG}(hf:Pu V prog w A X s (eval func env) (Ex (.builtin id)))(ha:Pu V prog w A X s (spliced (backTo pos (starEach (e::rest) env))) (w0 Ps))
  (hc:∀Y u vs,gM V X s Y u→Bd V Y u→tQ Y u.heap Ps vs→Pu V prog w A Y u (call (.builtin id) vs) R)
  (h1:autoParam (eval (.Call func (e::rest) [] pos) env=(do callWith pos (←eval func env) [] (backTo pos (starEach (e::rest) env)) (backToKw pos (keywordEach [] env)))) rf)
  (h2:autoParam (starEach (e::rest) env=(false,eval e env)::starEach rest env) rf)(h3:autoParam ((backTo pos (starEach rest env)).any (·.1)=false) rf):Pu V prog w A X s (eval (.Call func (e::rest) [] pos) env) R:=
 .mk fun Y u hu hb Q E q=>pF (he:=h1) (hf.go Y u hu hb _ E fun f u₁ k₁ pf=>by
  cases (pf:f= .builtin id)
  refine PyProof.Rows.callWith_builtin1 (he:=h2) (hplain:=h3) (ha.go Y u₁ (hu.trans (.of_keeps k₁)) (hb.keeps k₁) _ E fun vs u₂ k₂ pvs=>?_)
  exact(hc Y u₂ vs (hu.trans (.of_keeps (aN k₁ k₂))) (hb.keeps (aN k₁ k₂)) pvs).run (hb.keeps (aN k₁ k₂)) fun c u₃ k₃ pc=>q c u₃ (aN k₁ (aN k₂ k₃)) pc)
theorem f5{func e:Expr}{rest:List Expr}{pos:Pos}{T:String}{Ps:List (Hp V aG)}{R:Hp V aG}(hf:Pu V prog w A X s (eval func env) (Ex (.type T)))(ha:Pu V prog w A X s (spliced (backTo pos (starEach (e::rest) env))) (w0 Ps))
  (hc:∀Y u vs,gM V X s Y u→Bd V Y u→tQ Y u.heap Ps vs→Pu V prog w A Y u (call (.type T) vs) R)
  (h1:autoParam (eval (.Call func (e::rest) [] pos) env=(do callWith pos (←eval func env) [] (backTo pos (starEach (e::rest) env)) (backToKw pos (keywordEach [] env)))) rf)
  (h2:autoParam (starEach (e::rest) env=(false,eval e env)::starEach rest env) rf)(h3:autoParam ((backTo pos (starEach rest env)).any (·.1)=false) rf):Pu V prog w A X s (eval (.Call func (e::rest) [] pos) env) R:=
 .mk fun Y u hu hb Q E q=>pF (he:=h1) (hf.go Y u hu hb _ E fun f u₁ k₁ pf=>by
  cases (pf:f= .type T)
  rw[h2]at ha⊢
  refine kZ (by refine aM h3 ?_;rfl) (iM (ha.go Y u₁ (hu.trans (.of_keeps k₁)) (hb.keeps k₁) _ E fun vs u₂ k₂ pvs=>?_))
  exact(hc Y u₂ vs (hu.trans (.of_keeps (aN k₁ k₂))) (hb.keeps (aN k₁ k₂)) pvs).run (hb.keeps (aN k₁ k₂)) fun c u₃ k₃ pc=>q c u₃ (aN k₁ (aN k₂ k₃)) pc)
theorem lQ{func e:Expr}{rest:List Expr}{pos:Pos}{a:Addr}{o:Obj}{fd:FuncData}{Ps:List (Hp V aG)}{R:Hp V aG}(hf:Pu V prog w A X s (eval func env) (Ex (.ref a)))(ha2:a∉V)(ho:s.heap.get? a=some o)(hd:o.data= .func fd)(ha:Pu V prog w A X s (spliced (backTo pos (starEach (e::rest) env))) (w0 Ps))
  (hc:∀Y u vs,gM V X s Y u→Bd V Y u→tQ Y u.heap Ps vs→Pu V prog w A Y u (call (.ref a) vs) R)
  (h1:autoParam (eval (.Call func (e::rest) [] pos) env=(do callWith pos (←eval func env) [] (backTo pos (starEach (e::rest) env)) (backToKw pos (keywordEach [] env)))) rf)
  (h2:autoParam (starEach (e::rest) env=(false,eval e env)::starEach rest env) rf):Pu V prog w A X s (eval (.Call func (e::rest) [] pos) env) R:=
 .mk fun Y u hu hb Q E q=>pF (he:=h1) (hf.go Y u hu hb _ E fun f u₁ k₁ pf=>by
  cases (pf:f= .ref a)
  rw[h2]at ha⊢
  refine Calls.callWith_function (o:=o) (fd:=fd) (iM (ha.go Y u₁ (hu.trans (.of_keeps k₁)) (hb.keeps k₁) _ E fun vs u₂ k₂ pvs=>⟨⟨a7 (aN hu.keeps (aN k₁ k₂)) _ _ ha2 ho,hd⟩,?_⟩))
  exact(hc Y u₂ vs (hu.trans (.of_keeps (aN k₁ k₂))) (hb.keeps (aN k₁ k₂)) pvs).run (hb.keeps (aN k₁ k₂)) fun c u₃ k₃ pc=>q c u₃ (aN k₁ (aN k₂ k₃)) pc)
theorem DX{x y:Str}{t u:Tok}(h:x.length+y.length≤sizeLine):Pu V prog w A X s (binaryOp .Add (.str x t) (.str y u)) (Dt (.str (x++y))):=
 .mk fun Y s' hu hb Q E q=>SB.add (fun t' k=>q _ _ (d9 s' k) (Is.str _ _)) h
theorem CJ{a b:Int}{t u:Tok}(hb0:b≠0)(hb1:b.natAbs<1073741824):Pu V prog w A X s (binaryOp .FloorDiv (.int a t) (.int b u)) (Dt (.int (a.fdiv b))):=
 .mk fun Y s' hu hb Q E q=>floordiv_int hb0 (q _ _ (d9 s' _) (Is.int _ _)) (Or.inl (PyProof.noPylong_small hb1))
theorem KX{a b:Int}{t u:Tok}(hb0:b≠0):Pu V prog w A X s (binaryOp .Mod (.int a t) (.int b u)) (Dt (.int (a.fmod b))):=
 .mk fun Y s' hu hb Q E q=>mod_int' hb0 (q _ _ (d9 s' _) (Is.int _ _))
theorem KU{a n:Int}{t u:Tok}(h0:0≤n)(h1:n≤1000000)(h2:a.natAbs<2^64):Pu V prog w A X s (binaryOp .Pow (.int a t) (.int n u)) (Dt (.int (a^n.toNat))):=
 .mk fun Y s' hu hb Q E q=>pow_int_small h0 h1 h2 (q _ _ (d9 s' _) (Is.int _ _))
theorem CK{a b:aG}{ds es:List aY}(ha:Is V X s.heap a (.list ds))(hb:Is V X s.heap b (.list es))(h:ds.length+es.length≤sizeLine):Pu V prog w A X s (binaryOp .Add a b) (Dt (.list (ds++es))):=by
 refine .mk fun Y s' hu hbd Q E q=>?_
 (refine oX ((ha.nx hu.nx).of_list') fun l vs e_0=>?_;subst e_0;refine fun hl hlist hall=>?_)
 (refine oX ((hb.nx hu.nx).of_list') fun m us e_0=>?_;subst e_0;refine fun hm hlist2 hall2=>?_)
 obtain⟨⟨cls,dd,data,sl⟩,ho,hc,n,hd⟩:=id hlist
 obtain⟨⟨cls2,dd2,data2,sl2⟩,ho2,hc2,n2,hd2⟩:=id hlist2
 simp only at hc hd hc2 hd2
 subst hc hd hc2 hd2
 refine concat_meets ⟨_,ho,rfl⟩ ⟨_,ho2,rfl⟩ noFill_list_add seq_list_add PySem.F.slot_list_add PySem.F.entry_list_add (PySem.F.args_list_add_2 _ _)
  (list_addW l m vs.toArray us.toArray n n2 dd dd2 sl sl2 (by simp only[jY];refine aM hall.length (aM hall2.length ?_);exact h)) ⟨ho,ho2,?_⟩
 refine q _ _ (fF s' _) (Is.list hbd.fresh (aW _ rfl) rfl rfl ?_)
 have:=(hall.append hall2).keep (h':=s'.heap.push {cls:=Value.type "list",data:=Data.seq (vs.toArray++us.toArray)}) fun z z z e=>aP _ e
 simpa using this
theorem Jc{a b:aG}{d e:aY}{n:Nat}(r:dK A n)(ha:Is V X s.heap a d)(hb:Is V X s.heap b e)(hd:cP d=true)(he:cP e=true):Pu V prog w A X s (compareOp .Eq a b) (Ex (.bool (bU d e))):=by
 refine .mk fun Y s' hu hbd Q E q=>?_
 refine bK ((ha.nx hu.nx).reads) fun as ra=>?_
 refine bK ((hb.nx hu.nx).reads) fun bs rb=>?_
 exact SeqAt.compareEq_shaped ra rb hd he r.c64 (q _ _ (cE s') rfl)
theorem LQ{a b:aG}{d e:aY}{n:Nat}(r:dK A n)(ha:Is V X s.heap a d)(hb:Is V X s.heap b e)(hd:cP d=true)(he:cP e=true):Pu V prog w A X s (compareOp .NotEq a b) (Ex (.bool (!PyData.eqv d e))):=by
 refine .mk fun Y s' hu hbd Q E q=>?_
 refine bK ((ha.nx hu.nx).reads) fun as ra=>?_
 refine bK ((hb.nx hu.nx).reads) fun bs rb=>?_
 exact SeqAt.compareNe_shaped ra rb hd he r.c64 (q _ _ (cE s') rfl)
theorem Ag{n:Nat}(r:dK A n){d e:Nat}(h:e≤64):A.units+1+min d e<cLine:=by
 have:=r.units;have:=jF d e;exact aR (cY (cY (aD (bN _ _) (by assumption)) (bO _)) (aD this h)) (by decide)
theorem LR{a b:aG}{d:aY}{es:List aY}{n:Nat}(r:dK A n)(ha:Is V X s.heap a d)(hb:Is V X s.heap b (.list es))(hd:cP d=true)(he:cC es=true):
  Pu V prog w A X s (compareOp .In a b) (Ex (.bool (es.any fun y=>bU y d))):=by
 refine .mk fun Y s' hu hbd Q E q=>?_
 refine bK ((ha.nx hu.nx).reads) fun as ra=>?_
 refine bK ((hb.nx hu.nx).reads) fun bs rb=>?_
 exact SeqAt.in_list_reads rb ra he (g6 hd) (Ag r (SeqAt.depth_of_shaped hd)) (q _ _ (cE s') rfl)
theorem Gj{a b:aG}{d:aY}{es:List aY}{n:Nat}(r:dK A n)(ha:Is V X s.heap a d)(hb:Is V X s.heap b (.list es))(hd:cP d=true)(he:cC es=true):
  Pu V prog w A X s (compareOp .NotIn a b) (Ex (.bool (!es.any fun y=>bU y d))):=by
 refine .mk fun Y s' hu hbd Q E q=>?_
 refine bK ((ha.nx hu.nx).reads) fun as ra=>?_
 refine bK ((hb.nx hu.nx).reads) fun bs rb=>?_
 exact SeqAt.notIn_list_reads rb ra he (g6 hd) (Ag r (SeqAt.depth_of_shaped hd)) (q _ _ (cE s') rfl)
theorem Al{a:aG}{l:Addr}{us:List aG}{d:aY}{es:List aY}{n:Nat}(r:dK A n)(ha:Is V X s.heap a d)(h2:l∉V)(hl:s.heap.IsList l us.toArray)(hb:cA V X s.heap us es)(hd:cP d=true)(he:cC es=true):
  Pu V prog w A X s (compareOp .NotIn a (.ref l)) (Ex (.bool (!es.any fun y=>bU y d))):=by
 refine .mk fun Y s' hu hbd Q E q=>?_
 refine bK ((ha.nx hu.nx).reads) fun as ra=>?_
 refine bK ((hb.nx hu.nx).reads) fun bs rb=>?_
 obtain⟨o,ho,hc,ne,hdd⟩:=hl
 exact SeqAt.notIn_list_reads (.list (a7 hu.keeps _ _ h2 ho) hc hdd (rb)) ra he (g6 hd) (Ag r (SeqAt.depth_of_shaped hd)) (q _ _ (cE s') rfl)
theorem Gk{x y:Str}{t u:Tok}:Pu V prog w A X s (compareOp .In (.str y u) (.str x t)) (Ex (.bool (Txt.contains x y))):=.mk fun Y s' hu hb Q E q=>SB.contains (q _ _ (cE s') rfl)
theorem CI{x y:Str}{t u:Tok}:Pu V prog w A X s (compareOp .NotIn (.str y u) (.str x t)) (Ex (.bool (!Txt.contains x y))):=.mk fun Y s' hu hb Q E q=>SB.notContains (q _ _ (cE s') rfl)
theorem AM{a b:Int}{t u:Tok}:Pu V prog w A X s (compareOp .Lt (.int a t) (.int b u)) (Ex (.bool (decide (a<b)))):=.mk fun Y s' hu hb Q E q=>P.lt_int (q _ _ (cE s') rfl)
theorem FV{a b:Int}{t u:Tok}:Pu V prog w A X s (compareOp .Eq (.int a t) (.int b u)) (Ex (.bool (a==b))):=.mk fun Y s' hu hb Q E q=>P.eq_int (q _ _ (cE s') rfl)
theorem FU{x y:Str}{t u:Tok}:Pu V prog w A X s (compareOp .Eq (.str x t) (.str y u)) (Ex (.bool (x.cps.toList==y.cps.toList))):=.mk fun Y s' hu hb Q E q=>P.eq_str (q _ _ (cE s') rfl)
theorem FT{x y:Str}{t u:Tok}:Pu V prog w A X s (compareOp .NotEq (.str x t) (.str y u)) (Ex (.bool (x.cps.toList !=y.cps.toList))):=.mk fun Y s' hu hb Q E q=>P.ne_str (q _ _ (cE s') rfl)
theorem Il{v i:Expr}{a:aG}{ds:List aY}{k:Int}{u:Tok}{d:aY}(ha:Is V X s.heap a (.list ds))(h0:0≤k)(hk:k<2^63)(hd:ds[k.toNat]?=some d)
  (hs:∀l,subscripted i false (.ref l) (.int k u)=operate [.ref l,.int k u] (getItem (.ref l) (.int k u))):Pu V prog w A X s (subscriptTail v i a (.int k u)) (Dt d):=by
 refine .mk fun Y s' hu hbd Q E q=>?_
 (refine oX ((ha.nx hu.nx).of_list') fun l vs e_0=>?_;subst e_0;refine fun hl hlist hall=>?_)
 refine bG (hall.at hd) fun x hx hxd=>?_
 exact tail_any hlist.typeIs slot_list_getitem.lookup (wpAny_getItem_list hlist h0 hk (by simpa using hx) (q _ _ (cE s') hxd)) (hs l)
theorem DW{v i:Expr}{x:Str}{t u:Tok}{k:Int}(hr:fitsSsize k=true)(hin:(Txt.charAt x k).isSome=true)
  (hs:subscripted i false (.str x t) (.int k u)=operate [.str x t,.int k u] (getItem (.str x t) (.int k u))):Pu V prog w A X s (subscriptTail v i (.str x t) (.int k u)) (Dt (.str (Txt.item x k))):=by
 refine .mk fun Y s' hu hbd Q E q=>?_
 exact tail_any (typeIs_str _ _ _) F.slot_str_getitem.lookup (SB.getItem hr hin (q _ _ (d9 s' _) (Is.str _ _))) hs
theorem BE{h h':Heap}{a:Addr}{l u st:aG}(h2:a∉V)(x:h.IsSliceOf a l u st)(k:∀b o,b∉V→h.get? b=some o→h'.get? b=some o):h'.IsSliceOf a l u st:=bG x fun o e r=>⟨o,k _ _ h2 e,r⟩
noncomputable def Sl(lo hi st:Option Int):Hp V aG:=⟨fun z h v=>∃a l u t,v= .ref a∧a∉V∧h.IsSliceOf a l u t∧IsPart l lo∧IsPart u hi∧IsPart t st,fun k x=>II x fun a l u t e h2 x r=>⟨a,l,u,t,e,h2,BE h2 x k,r⟩⟩
noncomputable def Ct(o:Option Int):Hp V aG:=⟨fun z z v=>IsPart v o,fun z x=>x⟩
theorem iU:Pu V prog w A X s (evalPart none env) (Ct none):=.mk fun Y u hu hb Q E q=>aE (q _ u (cE u) .none)
theorem mG{e:Expr}{i:Int}(h:Pu V prog w A X s (eval e env) (Dt (.int i))):Pu V prog w A X s (evalPart (some e) env) (Ct (some i)):=
 .mk fun Y u hu hb Q E q=>h.go Y u hu hb Q E fun v u' k p=>q v u' k (by(refine bK (Is.of_int p) fun t e_0=>?_;subst e_0);exact .int _ _)
theorem Bt{lo hi st:Option Expr}{p:Pos}{a b c:Option Int}(h1:Pu V prog w A X s (evalPart lo env) (Ct a))(h2:Pu V prog w A X s (evalPart hi env) (Ct b))(h3:Pu V prog w A X s (evalPart st env) (Ct c)):
  Pu V prog w A X s (eval (.Slice lo hi st p) env) (Sl a b c):=
 .mk fun Y u hu hb Q E q=>wpAny_Slice (h1.go Y u hu hb _ E fun v1 u₁ k₁ p1=>h2.go Y u₁ (hu.trans (.of_keeps k₁)) (hb.keeps k₁) _ E fun v2 u₂ k₂ p2=>h3.go Y u₂ (hu.trans (.of_keeps (aN k₁ k₂))) (hb.keeps (aN k₁ k₂)) _ E fun v3 u₃ k₃ p3=>
  q _ _ (aN k₁ (aN k₂ (aN k₃ (fF u₃ _)))) ⟨_,_,_,_,rfl,fun q=>((hb.keeps k₁).keeps k₂|>.keeps k₃).fresh (by simp[q]),Heap.IsSliceOf.new ..,p1,p2,p3⟩)
noncomputable def t5{α:Type}(items:List α)(lo hi st:Option Int):List α:=(sliceRange (sliceBounds lo hi st items.length).1 (sliceBounds lo hi st items.length).2.1 (sliceBounds lo hi st items.length).2.2).filterMap (items[·]?)
theorem CD{ds:List aY}{vs:List aG}{h:Heap}(x:cA V X h vs ds):∀ix:List Nat,cA V X h (ix.filterMap (vs[·]?)) (ix.filterMap (ds[·]?))
 |[]=>.nil
 |i::r=>by
  have ih:=CD x r
  cases e:ds[i]? with
  |none=>
   have:vs[i]?=none:=by
    rw[List.getElem?_eq_none_iff]at e⊢;refine aM x.length ?_;exact e
   simp only[List.filterMap_cons,e,this];exact ih
  |some d=>
   refine bG (x.at e) fun v hv xv=>?_
   simp only[List.filterMap_cons,e,hv];exact .cons xv ih
theorem CH{v i:Expr}{a b:aG}{ds:List aY}{lo hi st:Option Int}(ha:Is V X s.heap a (.list ds))(hb:(Sl (V:=V) lo hi st).p X s.heap b)(h0:st≠some 0)(hz:ds.length≤sizeLine)
  (hs:∀l m,∃ops,subscripted i false (.ref l) (.ref m)=operate ops (getItem (.ref l) (.ref m))):Pu V prog w A X s (subscriptTail v i a b) (Dt (.list (t5 ds lo hi st))):=by
 refine .mk fun Y s' hu hbd Q E q=>?_
 (refine oX ((ha.nx hu.nx).of_list') fun l vs e_0=>?_;subst e_0;refine fun hl hlist hall=>?_)
 (refine Js ((Sl lo hi st).mono (a7 hu.keeps) (X:=X) hb) fun sl x y z e_0=>?_;subst e_0;refine fun j hsl p1 p2 p3=>?_)
 refine bK (hs l sl) fun ops ho=>?_
 refine tail_any hlist.typeIs slot_list_getitem.lookup (wpAny_getItem_list_slice hlist hsl p1 p2 p3 h0 ?_ (by simpa[hall.length]using hz)) ho
 refine q _ _ (fF s' _) (Is.list hbd.fresh (aW _ rfl) rfl rfl ?_)
 have e:(slicePick vs.toArray lo hi st).toList=(sliceRange (sliceBounds lo hi st ds.length).1 (sliceBounds lo hi st ds.length).2.1 (sliceBounds lo hi st ds.length).2.2).filterMap (vs[·]?):=by
  unfold slicePick
  simp[hall.length]
 refine aM e ?_
 exact(CD hall _).keep fun j j j e=>aP _ e
theorem u8{v:Expr}{lo hi st:Option Expr}{p pos:Pos}{ds:List aY}{a b c:Option Int}(hv:Pu V prog w A X s (eval v env) (Dt (.list ds)))(h1:Pu V prog w A X s (evalPart lo env) (Ct a))(h2:Pu V prog w A X s (evalPart hi env) (Ct b))(h3:Pu V prog w A X s (evalPart st env) (Ct c))
  (h0:c≠some 0)(hz:ds.length≤sizeLine):Pu V prog w A X s (eval (.Subscript v (.Slice lo hi st p) pos) env) (Dt (.list (t5 ds a b c))):=
 n4 hv (Bt h1 h2 h3) fun Y u x y hu hb px py=>CH px py h0 hz fun l m=>by
  cases st with
  |none=>exact⟨_,rfl⟩
  |some e=>exact⟨_,rfl⟩
theorem lI{v i:Expr}{pos:Pos}{ds:List aY}{k:Int}{d:aY}(hv:Pu V prog w A X s (eval v env) (Dt (.list ds)))(hi:Pu V prog w A X s (eval i env) (Dt (.int k)))(h0:0≤k)(hk:k<2^63)(hd:ds[k.toNat]?=some d)
  (hs:autoParam (∀l u,subscripted i false (.ref l) (.int k u)=operate [.ref l,.int k u] (getItem (.ref l) (.int k u))) rf):Pu V prog w A X s (eval (.Subscript v i pos) env) (Dt d):=
 n4 hv hi fun Y u x y hu hb px py=>by
  (refine bK (Is.of_int py) fun t e_0=>?_;subst e_0)
  exact Il px h0 hk hd fun l=>hs l t
theorem x6{v i:Expr}{pos:Pos}{x:Str}{k:Int}(hv:Pu V prog w A X s (eval v env) (Dt (.str x)))(hi:Pu V prog w A X s (eval i env) (Dt (.int k)))(hr:fitsSsize k=true)(hin:(Txt.charAt x k).isSome=true)
  (hs:autoParam (∀t u,subscripted i false (.str x t) (.int k u)=operate [.str x t,.int k u] (getItem (.str x t) (.int k u))) rf):Pu V prog w A X s (eval (.Subscript v i pos) env) (Dt (.str (Txt.item x k))):=
 n4 hv hi fun Y u a b hu hb px py=>by
  (refine bK (Is.of_str px) fun t e_0=>?_;subst e_0)
  (refine bK (Is.of_int py) fun t' e_0=>?_;subst e_0)
  exact DW hr hin (hs t t')
theorem x8{l r:Expr}{pos:Pos}{x y:Str}(hl:Pu V prog w A X s (eval l env) (Dt (.str x)))(hr:Pu V prog w A X s (eval r env) (Dt (.str y)))(h:x.length+y.length≤sizeLine):Pu V prog w A X s (eval (.BinOp l .Add r pos) env) (Dt (.str (x++y))):=
 tH hl hr fun Y u a b hu hb pa pb=>by(refine bK (Is.of_str pa) fun t e_0=>?_;subst e_0);(refine bK (Is.of_str pb) fun t' e_0=>?_;subst e_0);exact DX h
theorem oY{l r:Expr}{pos:Pos}{ds es:List aY}(hl:Pu V prog w A X s (eval l env) (Dt (.list ds)))(hr:Pu V prog w A X s (eval r env) (Dt (.list es)))(h:ds.length+es.length≤sizeLine):Pu V prog w A X s (eval (.BinOp l .Add r pos) env) (Dt (.list (ds++es))):=
 tH hl hr fun Y u a b hu hb pa pb=>CK pa pb h
theorem tF{l r:Expr}{pos:Pos}{a b:Int}(hl:Pu V prog w A X s (eval l env) (Dt (.int a)))(hr:Pu V prog w A X s (eval r env) (Dt (.int b)))(h0:b≠0)(h1:b.natAbs<1073741824):Pu V prog w A X s (eval (.BinOp l .FloorDiv r pos) env) (Dt (.int (a.fdiv b))):=
 tH hl hr fun Y u x y hu hb pa pb=>by(refine bK (Is.of_int pa) fun t e_0=>?_;subst e_0);(refine bK (Is.of_int pb) fun t' e_0=>?_;subst e_0);exact CJ h0 h1
theorem uR{l r:Expr}{pos:Pos}{a b:Int}(hl:Pu V prog w A X s (eval l env) (Dt (.int a)))(hr:Pu V prog w A X s (eval r env) (Dt (.int b)))(h0:b≠0):Pu V prog w A X s (eval (.BinOp l .Mod r pos) env) (Dt (.int (a.fmod b))):=
 tH hl hr fun Y u x y hu hb pa pb=>by(refine bK (Is.of_int pa) fun t e_0=>?_;subst e_0);(refine bK (Is.of_int pb) fun t' e_0=>?_;subst e_0);exact KX h0
theorem KJ{l r:Expr}{pos:Pos}{a b:Int}(hl:Pu V prog w A X s (eval l env) (Dt (.int a)))(hr:Pu V prog w A X s (eval r env) (Dt (.int b)))(h0:0≤b)(h1:b≤1000000)(h2:a.natAbs<2^64):Pu V prog w A X s (eval (.BinOp l .Pow r pos) env) (Dt (.int (a^b.toNat))):=
 tH hl hr fun Y u x y hu hb pa pb=>by(refine bK (Is.of_int pa) fun t e_0=>?_;subst e_0);(refine bK (Is.of_int pb) fun t' e_0=>?_;subst e_0);exact KU h0 h1 h2
section
variable {l r:Expr} {whole:Sem aG}
theorem yA{d e:aY}(R:dK A n)(hl:Pu V prog w A X s (eval l env) (Dt d))(hr:Pu V prog w A X s (eval r env) (Dt e))(hd:cP d=true)(he:cP e=true)(hm:autoParam (behindInMarks .Eq r=false) rf):Pu V prog w A X s (isTrue (.Compare l [.Eq] [r] pos) env whole) (Ex (bU d e)):=
 iO hl hr (fun Y u a b hu hb pa pb=>Jc R pa pb hd he) hm
theorem CG{d e:aY}(R:dK A n)(hl:Pu V prog w A X s (eval l env) (Dt d))(hr:Pu V prog w A X s (eval r env) (Dt e))(hd:cP d=true)(he:cP e=true)(hm:autoParam (behindInMarks .NotEq r=false) rf):Pu V prog w A X s (isTrue (.Compare l [.NotEq] [r] pos) env whole) (Ex (!PyData.eqv d e)):=
 iO hl hr (fun Y u a b hu hb pa pb=>LQ R pa pb hd he) hm
theorem Jb{d:aY}{es:List aY}(R:dK A n)(hl:Pu V prog w A X s (eval l env) (Dt d))(hr:Pu V prog w A X s (eval r env) (Dt (.list es)))(hd:cP d=true)(he:cC es=true)(hm:autoParam (behindInMarks .In r=false) rf):
  Pu V prog w A X s (isTrue (.Compare l [.In] [r] pos) env whole) (Ex (es.any fun y=>bU y d)):=
 iO hl hr (fun Y u a b hu hb pa pb=>LR R pa pb hd he) hm
theorem Gf{d:aY}{es:List aY}(R:dK A n)(hl:Pu V prog w A X s (eval l env) (Dt d))(hr:Pu V prog w A X s (eval r env) (Dt (.list es)))(hd:cP d=true)(he:cC es=true)(hm:autoParam (behindInMarks .NotIn r=false) rf):
  Pu V prog w A X s (isTrue (.Compare l [.NotIn] [r] pos) env whole) (Ex (!es.any fun y=>bU y d)):=
 iO hl hr (fun Y u a b hu hb pa pb=>Gj R pa pb hd he) hm
theorem vA{d:aY}{m:Addr}{us:List aG}{es:List aY}(R:dK A n)(hl:Pu V prog w A X s (eval l env) (Dt d))(hr:Pu V prog w A X s (eval r env) (Ex (.ref m)))(h2:m∉V)(hm:s.heap.IsList m us.toArray)(ha:cA V X s.heap us es)(hd:cP d=true)(he:cC es=true)
  (hb:autoParam (behindInMarks .NotIn r=false) rf):Pu V prog w A X s (isTrue (.Compare l [.NotIn] [r] pos) env whole) (Ex (!es.any fun y=>bU y d)):=
 iO hl hr (fun Y u a b hu hbd pa pb=>by
  cases (pb:b= .ref m)
  refine bG hm fun o ho hc=>?_
  exact Al R pa h2 ⟨o,a7 hu.keeps _ _ h2 ho,hc⟩ (ha.nx hu.nx) hd he) hb
theorem x9{x y:Str}(hl:Pu V prog w A X s (eval l env) (Dt (.str y)))(hr:Pu V prog w A X s (eval r env) (Dt (.str x)))(hm:autoParam (behindInMarks .In r=false) rf):Pu V prog w A X s (isTrue (.Compare l [.In] [r] pos) env whole) (Ex (Txt.contains x y)):=
 iO hl hr (fun Y u a b hu hb pa pb=>by(refine bK (Is.of_str pa) fun t e_0=>?_;subst e_0);(refine bK (Is.of_str pb) fun t' e_0=>?_;subst e_0);exact Gk) hm
theorem CE{x y:Str}(hl:Pu V prog w A X s (eval l env) (Dt (.str y)))(hr:Pu V prog w A X s (eval r env) (Dt (.str x)))(hm:autoParam (behindInMarks .NotIn r=false) rf):Pu V prog w A X s (isTrue (.Compare l [.NotIn] [r] pos) env whole) (Ex (!Txt.contains x y)):=
 iO hl hr (fun Y u a b hu hb pa pb=>by(refine bK (Is.of_str pa) fun t e_0=>?_;subst e_0);(refine bK (Is.of_str pb) fun t' e_0=>?_;subst e_0);exact CI) hm
theorem FQ{a b:Int}(hl:Pu V prog w A X s (eval l env) (Dt (.int a)))(hr:Pu V prog w A X s (eval r env) (Dt (.int b)))(hm:autoParam (behindInMarks .Lt r=false) rf):Pu V prog w A X s (isTrue (.Compare l [.Lt] [r] pos) env whole) (Ex (decide (a<b))):=
 iO hl hr (fun Y u x y hu hb pa pb=>by(refine bK (Is.of_int pa) fun t e_0=>?_;subst e_0);(refine bK (Is.of_int pb) fun t' e_0=>?_;subst e_0);exact AM) hm
theorem FH{a b:Int}(hl:Pu V prog w A X s (eval l env) (Dt (.int a)))(hr:Pu V prog w A X s (eval r env) (Dt (.int b)))(hm:autoParam (behindInMarks .Lt r=false) rf):Pu V prog w A X s (eval (.Compare l [.Lt] [r] pos) env) (Ex (.bool (decide (a<b)))):=
 uS hl hr (fun Y u x y hu hb pa pb=>by(refine bK (Is.of_int pa) fun t e_0=>?_;subst e_0);(refine bK (Is.of_int pb) fun t' e_0=>?_;subst e_0);exact AM) hm
theorem AL{a b:Int}(hl:Pu V prog w A X s (eval l env) (Dt (.int a)))(hr:Pu V prog w A X s (eval r env) (Dt (.int b)))(hm:autoParam (behindInMarks .Eq r=false) rf):Pu V prog w A X s (isTrue (.Compare l [.Eq] [r] pos) env whole) (Ex (a==b)):=
 iO hl hr (fun Y u x y hu hb pa pb=>by(refine bK (Is.of_int pa) fun t e_0=>?_;subst e_0);(refine bK (Is.of_int pb) fun t' e_0=>?_;subst e_0);exact FV) hm
theorem FR{x y:Str}(hl:Pu V prog w A X s (eval l env) (Dt (.str x)))(hr:Pu V prog w A X s (eval r env) (Dt (.str y)))(hm:autoParam (behindInMarks .Eq r=false) rf):Pu V prog w A X s (isTrue (.Compare l [.Eq] [r] pos) env whole) (Ex (x.cps.toList==y.cps.toList)):=
 iO hl hr (fun Y u a b hu hb pa pb=>by(refine bK (Is.of_str pa) fun t e_0=>?_;subst e_0);(refine bK (Is.of_str pb) fun t' e_0=>?_;subst e_0);exact FU) hm
theorem AK{x y:Str}(hl:Pu V prog w A X s (eval l env) (Dt (.str x)))(hr:Pu V prog w A X s (eval r env) (Dt (.str y)))(hm:autoParam (behindInMarks .NotEq r=false) rf):Pu V prog w A X s (isTrue (.Compare l [.NotEq] [r] pos) env whole) (Ex (x.cps.toList !=y.cps.toList)):=
 iO hl hr (fun Y u a b hu hb pa pb=>by(refine bK (Is.of_str pa) fun t e_0=>?_;subst e_0);(refine bK (Is.of_str pb) fun t' e_0=>?_;subst e_0);exact FT) hm
end
theorem Kg{a:aG}{ds:List aY}(ha:Is V X s.heap a (.list ds))(h:(ds.length:Int)<2^63):Pu V prog w A X s (call (.builtin "len") [a]) (Dt (.int ds.length)):=by
 refine .mk fun Y s' hu hbd Q E q=>?_
 (refine oX ((ha.nx hu.nx).of_list') fun l vs e_0=>?_;subst e_0;refine fun hl hlist hall=>?_)
 have e:(vs.toArray.size:Int)=ds.length:=by simp[hall.length]
 exact call_len_list hlist (by refine aM e ?_;exact h) (q _ _ (d9 s' _) (by refine aM e ?_;exact Is.int _ _))
theorem Kf{a b:Int}{t u:Tok}(hh:A.handled=none):Pu V prog w A X s (call (.builtin "min") [.int a t,.int b u]) (Dt (.int (if b<a then b else a))):=by
 refine .mk fun Y s' hu hbd Q E q=>?_
 refine min_two_ints hh fun h' tk k=>q _ _ (lU k) ?_
 split<;>exact Is.int _ _
structure BX(V M:List Addr)(h h':Heap):Prop where
 old:∀b o,b∉V→b∉M→h.get? b=some o→h'.get? b=some o
 two:rW V h→rW V h'
 ns:∀L∈V,L≠2→L∉M→∀m,h.Ns L m→h'.Ns L m
 o2:2∈V→∀o,h.get? 2=some o→h'.get? 2=some o
noncomputable def Mu(V M:List Addr)(s s':aH):Prop:=∃h' tk,s'={s with heap:=h',toks:=tk}∧BX V M s.heap h'
theorem Kp.mu{M:List Addr}{h h':Heap}(k:Kp V h h'):BX V M h h':=⟨fun b o hb z=>k.old b o hb,k.two,fun L hL h2 z=>k.ns L hL h2,k.o2⟩
theorem BX.trans{M:List Addr}{a b c:Heap}(x:BX V M a b)(y:BX V M b c):BX V M a c:=
 ⟨fun b o hb hm e=>y.old b o hb hm (x.old b o hb hm e),fun t=>y.two (x.two t),fun L hL h2 hm m n=>y.ns L hL h2 hm m (x.ns L hL h2 hm m n),fun m o e=>y.o2 m o (x.o2 m o e)⟩
theorem BX.more{M M':List Addr}{h h':Heap}(x:BX V M h h')(i:∀a∈M,a∈M'):BX V M' h h':=⟨fun b o hb hm=>x.old b o hb fun q=>hm (i b q),x.two,fun L hL h2 hm=>x.ns L hL h2 fun q=>hm (i L q),x.o2⟩
theorem BX.keep{M:List Addr}{h h':Heap}(k:∀b o,b∉M→h.get? b=some o→h'.get? b=some o)(hV:∀b∈M,b∉V):BX V M h h':=
 ⟨fun b o z=>k b o,fun t=>t.at fun a ha o e=>k a o (fun q=>hV a q ha) e,fun L z z hm m n=>n.at' fun o e=>k L o hm e,fun m o=>k 2 o fun q=>hV 2 q m⟩
theorem Mu.refl(M:List Addr)(s:aH):Mu V M s s:=⟨s.heap,s.toks,rfl,(Kp.all fun z z e=>e).mu⟩
theorem Mu.trans{M:List Addr}{a b c:aH}(h1:Mu V M a b)(h2:Mu V M b c):Mu V M a c:=by
 (refine fO h1 fun h' tk e_0=>?_;subst e_0;refine fun k1=>?_)
 (refine fO h2 fun h'' tk' e_0=>?_;subst e_0;refine fun k2=>?_)
 exact⟨h'',tk',rfl,k1.trans k2⟩
theorem Mu.mk'{M:List Addr}{s:aH}{h':Heap}{tk:Nat}(k:∀b o,b∉M→s.heap.get? b=some o→h'.get? b=some o)(hV:∀b∈M,b∉V):Mu V M s {s with heap:=h',toks:=tk}:=⟨h',tk,rfl,.keep k hV⟩
theorem Mu.k{M:List Addr}{s s':aH}(h:Mu V M s s'):BX V M s.heap s'.heap:=by(refine fO h fun h' tk e_0=>?_;subst e_0;refine fun k=>?_);exact k
theorem Mu.more{M M':List Addr}{s s':aH}(h:Mu V M s s')(i:∀a∈M,a∈M'):Mu V M' s s':=let⟨h',tk,e,k⟩:=h;⟨h',tk,e,k.more i⟩
theorem Mu.of_keeps{M:List Addr}{s s':aH}(h:Keeps V s s'):Mu V M s s':=let⟨h',tk,e,k⟩:=h;⟨h',tk,e,k.mu⟩
theorem Mu.get{M:List Addr}{s s':aH}(h:Mu V M s s'){b:Addr}{o:Obj}(hb:b∉M)(hv:b∉V)(e:s.heap.get? b=some o):s'.heap.get? b=some o:=h.k.old b o hv hb e
theorem Mu.two{M:List Addr}{s s':aH}(h:Mu V M s s')(t:rW V s.heap):rW V s'.heap:=h.k.two t
theorem BX.Ns{M:List Addr}{h h':Heap}(k:BX V M h h'){L:Addr}{m:Str→Option aG}(h2:L≠2)(hm:L∉M)(n:h.Ns L m):h'.Ns L m:=by
 by_cases hL:L∈V
 ·exact k.ns L hL h2 hm m n
 ·exact n.at' fun o e=>k.old L o hL hm e
theorem Mu.ns{M:List Addr}{s s':aH}(h:Mu V M s s'){L:Addr}{m:Str→Option aG}(h2:L≠2)(hm:L∉M)(n:s.heap.Ns L m):s'.heap.Ns L m:=h.k.Ns h2 hm n
theorem vE{h:Heap}{a:Addr}{m:Str→Option aG}(n:h.Ns a m):∃o,h.get? a=some o∧∀vs,o.data≠.fields vs:=by
 refine pG n fun o es ep e d z=>?_
 exact⟨o,e,fun vs q=>by replace q:=d▸q;cases q⟩
theorem Mu.keeps{M:List Addr}{s₀ s s':aH}(h:Mu V M s s')(k:Keeps V s₀ s)(f:∀b∈M,s₀.heap.get? b=none):Keeps V s₀ s':=by
 (refine fO h fun h' tk e_0=>?_;subst e_0;refine fun k'=>?_)
 (refine fO k fun h₁ tk₁ e_0=>?_;subst e_0;refine fun k₁=>?_)
 refine⟨h',tk,rfl,fun b o hb e=>k'.old b o hb (fun hm=>by replace e:=(f b hm)▸e;cases e) (k₁.old b o hb e),fun t=>k'.two (k₁.two t),fun L hL h2 m n=>k'.ns L hL h2 (fun hm=>?_) m (k₁.ns L hL h2 m n),fun m o e=>k'.o2 m o (k₁.o2 m o e)⟩
 refine bG (vE n) fun o e z=>?_
 replace e:=(f L hm)▸e;cases e
theorem Mu.nx{M X:List Addr}{s s':aH}(h:Mu V M s s')(i:∀a∈M,a∈X):Nx V X s X s':=by
 (refine fO h fun h' tk e_0=>?_;subst e_0;refine fun k=>?_)
 exact⟨⟨h',tk,rfl⟩,fun b o hb e=>k.old b o (fun q=>hb (aL _ q)) (fun hm=>hb (aJ _ (i b hm))) e,fun z ha z=>.inl ha,k.two⟩
theorem Iq{a:Addr}{s:aH}{h':Heap}{tk:Nat}(ha:a∉V)(h:bY a s.heap h'):Mu V [a] s {s with heap:=h',toks:=tk}:=.mk' (fun b o hb e=>h.extBut b o (by with_reducible exact mt List.mem_singleton.mpr hb) e) (by simpa using ha)
theorem iK{a:Addr}{s:aH}{h':Heap}(ha:a∉V)(h:bY a s.heap h'):Mu V [a] s {s with heap:=h'}:=Iq (tk:=s.toks) ha h
theorem AR{a:Addr}{m:Str→Option aG}{s:aH}{h':Heap}{tk:Nat}(h2:a≠2)(n:h'.Ns a m)(h:bY a s.heap h'):Mu V [a] s {s with heap:=h',toks:=tk}:=
 ⟨h',tk,rfl,fun b o z hb e=>h.extBut b o (by with_reducible exact mt List.mem_singleton.mpr hb) e,fun t=>⟨t.lim.sameBut h (eH h2),t.two,fun b hb=>by
  by_cases hba:b=a
  ·subst hba;refine bG (vE n) fun o e d=>?_;exact⟨o,e,fun z=>d⟩
  ·refine bG (t.al b hb) fun o e d=>?_;exact⟨o,h.extBut b o hba e,d⟩⟩,fun L z z hm m n=>n.sameBut h (by with_reducible exact mt List.mem_singleton.mpr hm),fun z o e=>h.extBut 2 o (eH h2) e⟩
structure Sk(V sup:List Addr)(h h':Heap):Prop where
 old:∀b∈sup,b∉V→∀o,h.get? b=some o→h'.get? b=some o
 ns:∀L∈sup,L≠2→∀m,h.Ns L m→h'.Ns L m
theorem Kp.sk{sup:List Addr}{h h':Heap}(k:Kp V h h'):Sk V sup h h':=⟨fun b z hb o=>k.old b o hb,fun L z h2 m=>k.Ns h2⟩
theorem BX.sk{M sup:List Addr}{h h':Heap}(k:BX V M h h')(d:∀b∈sup,b∉M):Sk V sup h h':=⟨fun b hs hb o=>k.old b o hb (d b hs),fun L hs h2 m=>k.Ns h2 (d L hs)⟩
theorem Sk.all{sup:List Addr}{h h':Heap}(k:∀b∈sup,∀o,h.get? b=some o→h'.get? b=some o):Sk V sup h h':=⟨fun b hb z=>k b hb,fun L hL z m n=>n.at' fun o e=>k L hL o e⟩
theorem Sk.less{sup sup':List Addr}{h h':Heap}(k:Sk V sup h h')(i:∀b∈sup',b∈sup):Sk V sup' h h':=⟨fun b hb=>k.old b (i b hb),fun L hL=>k.ns L (i L hL)⟩
noncomputable abbrev j1(ifs:List Expr)(env:Env):Sem Bool:=forIn ifs true fun c r=>if r=true then do let ok←isTrue c env (eval c env);pure (pE ok)else pure (pE r)
theorem eU{X:List Addr}{s:aH}{env:Env}:Pu V prog w A X s (j1 [] env) (Ex true):=.mk fun Y u hu hb Q E q=>wpAny_tests_nil (q true u (cE u) rfl)
theorem iV{X:List Addr}{s:aH}{env:Env}{c:Expr}{b:Bool}(h:Pu V prog w A X s (isTrue c env (eval c env)) (Ex b)):Pu V prog w A X s (j1 [c] env) (Ex b):=.mk fun Y u hu hb Q E q=>wpAny_tests_one (h.go Y u hu hb Q E q)
noncomputable def gQ(p:Nat→Bool)(add:Nat→List aY)(i:Nat):List aY:=(bI i).flatMap fun j=>if p j then add j else[]
theorem sQ(p:Nat→Bool)(add:Nat→List aY)(i:Nat):gQ p add (i+1)=gQ p add i++if p i then add i else[]:=by
 unfold gQ;refine aM iA (aM i4 ?_);simp
structure BY(V:List Addr)(prog:fL)(w:cN)(A:jK)(s₀:aH)(target:Expr)(cenv:Env)(I:Addr)(M sup:List Addr)(J B:Nat→Heap→Prop)(F:Heap→Prop)(n:Nat):Prop where
 jf:∀i h h',J i h→Sk V sup h h'→J i h'
 bf:∀i h h',B i h→Sk V sup h h'→B i h'
 al:∀i h,J i h→∀b∈M,∃o,h.get? b=some o
 sub:∀b∈M,b∈sup
 next:∀i s (Q:Unit→aH→Prop) (E:aG→aH→Prop),i<n→Keeps V s₀ s→J i s.heap→(∀s',Mu V M s s'→J (i+1) s'.heap→B i s'.heap→Q () s')→
  wpAny (model prog w) A (pyNext (.ref I)) (fun r s₁=>∃v,r=some v∧wpAny (model prog w) A (letOwnedTupleGo target (.ref I) v) (fun z s₂=>wpAny (model prog w) A (assign target cenv v) Q E s₂) E s₁) E s
 stop:∀s (Q:Option aG→aH→Prop) (E:aG→aH→Prop),J n s.heap→(∀s',Mu V M s s'→F s'.heap→Q none s')→wpAny (model prog w) A (pyNext (.ref I)) Q E s
theorem FZ{I:Addr}{target:Expr}{cenv:Env}{z k:Sem Fin}{Q:Fin→aH→Prop}{E:aG→aH→Prop}{s:aH}
  (h:wpAny (model prog w) A (pyNext (.ref I)) (fun r s₁=>∃v,r=some v∧wpAny (model prog w) A (letOwnedTupleGo target (.ref I) v) (fun j s₂=>wpAny (model prog w) A (assign target cenv v) (fun j s₃=>wpAny (model prog w) A k Q E s₃) E s₂) E s₁) E s):
  wpAny (model prog w) A (pyNext (.ref I)>>=fun r=>match r with
   |none=>z
   |some v=>letOwnedTupleGo target (.ref I) v>>=fun j=>assign target cenv v>>=fun j=>k) Q E s:=
 aB (bD h (fun r s₁ h₁=>by
  obtain⟨v,rfl,h₁⟩:=h₁
  exact aB (bD h₁ (fun j s₂ h₂=>aB h₂) fun j j y=>y)) fun j j y=>y)
theorem FA{I:Addr}{f:aG→Sem Fin}{z:Sem Fin}{Q:Fin→aH→Prop}{E:aG→aH→Prop}{s:aH}
  (h:wpAny (model prog w) A (pyNext (.ref I)) (fun r s₁=>r=none∧wpAny (model prog w) A z Q E s₁) E s):
  wpAny (model prog w) A (pyNext (.ref I)>>=fun r=>match r with
   |none=>z
   |some v=>f v) Q E s:=
 aB (bD h (fun r s₁ h₁=>by
  obtain⟨rfl,h₁⟩:=h₁
  exact h₁) fun j j y=>y)
theorem A1{e target:Expr}{depth:Nat}{ifs:List Expr}{body:Sem Unit}{cenv:Env}{I D:Addr}{M sup X Z:List Addr}{J B:Nat→Heap→Prop}{F:Heap→Prop}{n:Nat}{s₀ s₁:aH}{tp:Pos}{R:iR→aH→Prop}
  {p:Nat→Bool}{add:Nat→List aY}{pre:List aY}{ys₀:Array aG}(L:BY V prog w A s₀ target cenv I M sup J B F n)
  (hq:(Code.compLoop e depth (.ref I) (.ref D) cenv).quiet=true)(hu:A.under (.compLoop e depth (.ref I) (.ref D) cenv)=A)
  (hden:(model prog w).den (.compLoop e depth (.ref I) (.ref D) cenv)=(compTurn e depth (.ref I) (.ref D) cenv).onRaise (fun x=>do noteFrame x cenv;theTreesLotGoes x))
  (tree:compTurn e depth (.ref I) (.ref D) cenv=(standAt tp>>=fun z=>pyNext (.ref I)>>=fun r=>match r with
   |none=>pure (.done .next)
   |some v=>letOwnedTupleGo target (.ref I) v>>=fun z=>assign target cenv v>>=fun z=>j1 ifs cenv>>=fun ok=>if ok=true then body>>=fun z=>again (.compLoop e depth (.ref I) (.ref D) cenv)else again (.compLoop e depth (.ref I) (.ref D) cenv)))
  (hD:D∉sup)(hDV:D∉V)(hfr:∀b∈D::M,s₀.heap.get? b=none)(hX:Bd V X s₀)(hZ:∀b∈Z,s₀.heap.get? b=none∧b∉D::M∧∃o,s₁.heap.get? b=some o)(k₁:Keeps V s₀ s₁)(hJ:J 0 s₁.heap)(hacc:s₁.heap.PlainList D ys₀)(hpre:cA V (D::M++(Z++X)) s₁.heap ys₀.toList pre)
  (hlen:∀i,i≤n→(pre++gQ p add i).length≤sizeLine)
  (htest:∀i u,i<n→gM V X s₀ (D::M++(Z++X)) u→Bd V (D::M++(Z++X)) u→J (i+1) u.heap→B i u.heap→Pu V prog w A (D::M++(Z++X)) u (j1 ifs cenv) (Ex (p i)))
  (hbody:∀i s ys (Q:Unit→aH→Prop) (E:aG→aH→Prop),i<n→p i=true→Mu V (D::M) s₁ s→gM V X s₀ (D::M++(Z++X)) s→Bd V (D::M++(Z++X)) s→J (i+1) s.heap→B i s.heap→s.heap.PlainList D ys→
   cA V (D::M++(Z++X)) s.heap ys.toList (pre++gQ p add i)→(∀s' ys',Mu V (D::M) s s'→J (i+1) s'.heap→s'.heap.PlainList D ys'→cA V (D::M++(Z++X)) s'.heap ys'.toList (pre++gQ p add i++add i)→Q () s')→wpAny (model prog w) A body Q E s)
  (hR:∀s' ys,Keeps V s₀ s'→Mu V (D::M) s₁ s'→s'.heap.PlainList D ys→cA V (D::M++(Z++X)) s'.heap ys.toList (pre++gQ p add n)→F s'.heap→R (.ok .next) s'):
  codeAny (model prog w) A (.compLoop e depth (.ref I) (.ref D) cenv) R s₁:=by
 have hDM:D∉M:=fun h=>hD (L.sub D h)
 have wle:∀{s:aH},Keeps V s₀ s→gM V X s₀ (D::M++(Z++X)) s:=fun k=>⟨k,fun a ha=>aJ _ (aJ _ ha),fun a ha z=>by
  rcases eX ha with h|h
  ·exact .inr (hfr a h)
  ·rcases eX h with h|h
   ·exact .inr (hZ a h).1
   ·exact .inl h⟩
 have bd:∀{i:Nat} {s:aH} {ys:Array aG},Keeps V s₀ s→Mu V (D::M) s₁ s→J i s.heap→s.heap.PlainList D ys→Bd V (D::M++(Z++X)) s:=fun k mm hj hp=>⟨fun a ha=>by
  rcases eX ha with h|h
  ·rcases r4 h with rfl|h
   ·refine bK hp fun z e=>?_;exact⟨_,e⟩
   ·exact L.al _ _ hj a h
  ·rcases eX h with h|h
   ·refine bK ((hZ a h).2.2) fun o e=>?_
    by_cases hV:a∈V
    ·refine bG ((gL k hX.two).al a hV) fun o e z=>?_;exact⟨o,e⟩
    ·exact⟨o,mm.get (hZ a h).2.1 hV e⟩
   ·exact(hX.keeps k).al a h,gL k hX.two⟩
 refine codeAny_loop hq (fun m s=>∃i ys,m=n-i∧i≤n∧Keeps V s₀ s∧Mu V (D::M) s₁ s∧J i s.heap∧s.heap.PlainList D ys∧cA V (D::M++(Z++X)) s.heap ys.toList (pre++gQ p add i)) ?_ n
  ⟨0,ys₀,rfl,bX _,k₁,Mu.refl _ _,hJ,hacc,by simpa[gQ]using hpre⟩
 (intro m s q_1;refine Ju q_1 fun i ys e_0 hi ks ms hj hp ha=>?_;subst e_0)
 refine aM hu (aM hden ?_)
 refine wpAny_noted ?_
 refine aM tree ?_
 refine aB (dF ?_)
 have ini:∀b∈M,b∈D::M:=fun b hb=>aC _ hb
 have mux:∀{a b:aH},Mu V M a b→Nx V (D::M++(Z++X)) a (D::M++(Z++X)) b:=fun h=>h.nx fun b hb=>aL _ (ini b hb)
 by_cases hlt:i<n
 ·refine FZ (L.next i s _ _ hlt ks hj fun s₃ m₃ hj₃ hb₃=>?_)
  have k₃:Keeps V s₀ s₃:=m₃.keeps ks fun b hb=>hfr b (ini b hb)
  have hp₃:s₃.heap.PlainList D ys:=hp.at fun o e=>m₃.get hDM hDV e
  have ha₃:=ha.nx (mux m₃)
  have ms₃:Mu V (D::M) s₁ s₃:=ms.trans (m₃.more ini)
  refine aB ((htest i s₃ hlt (wle k₃) (bd k₃ ms₃ hj₃ hp₃) hj₃ hb₃).run (bd k₃ ms₃ hj₃ hp₃) fun ok s₄ k₄ hok=>?_)
  cases (hok:ok=p i)
  have hj₄:=L.jf _ _ _ hj₃ (dA k₄).sk
  have hb₄:=L.bf _ _ _ hb₃ (dA k₄).sk
  have hp₄:s₄.heap.PlainList D ys:=hp₃.at fun o e=>a7 k₄ D o hDV e
  have ha₄:=ha₃.keep (a7 k₄)
  have ms₄:Mu V (D::M) s₁ s₄:=(ms.trans (m₃.more ini)).trans (.of_keeps k₄)
  cases hpi:p i with
  |false=>
   refine aE ⟨rfl,n-(i+1),mU _ _ hlt,i+1,ys,rfl,hlt,aN k₃ k₄,ms₄,hj₄,hp₄,?_⟩
   (rewrite[sQ];refine aM hpi ?_);simpa using ha₄
  |true=>
   refine aB (hbody i s₄ ys _ _ hlt hpi ms₄ (wle (aN k₃ k₄)) (bd (aN k₃ k₄) ms₄ hj₄ hp₄) hj₄ hb₄ hp₄ ha₄ fun s₅ ys' m₅ hj₅ hp₅ ha₅=>aE ⟨rfl,n-(i+1),mU _ _ hlt,i+1,ys',rfl,hlt,?_,?_,?_,hp₅,?_⟩)
   ·exact m₅.keeps (aN k₃ k₄) hfr
   ·exact ms₄.trans m₅
   ·exact hj₅
   ·(rewrite[sQ];refine aM hpi ?_);simpa[List.append_assoc]using ha₅
 ·have:i=n:=c9 hi (kN hlt)
  obtain rfl:=this.symm
  refine FA (L.stop s _ _ hj fun s₃ m₃ f₃=>⟨rfl,aE ?_⟩)
  exact hR s₃ ys (m₃.keeps ks fun b hb=>hfr b (ini b hb)) (ms.trans (m₃.more ini)) (hp.at fun o e=>m₃.get hDM hDV e) (ha.nx (mux m₃)) f₃
structure CF(V:List Addr)(cenv:Env)(own:Option Addr)(h:Heap):Prop where
 ns:∃m,h.Ns cenv.locals m
 cell:∀c,own=some c→∃v,h.IsCell c v
 n2:cenv.locals≠2
 cV:∀c,own=some c→c∉V
noncomputable abbrev qY(cenv:Env)(own:Option Addr):List Addr:=cenv.locals::own.toList
theorem gY{h h':Heap}{c:Addr}{v:Option aG}(x:h.IsCell c v)(k:∀o,h.get? c=some o→h'.get? c=some o):h'.IsCell c v:=let⟨o,e,r⟩:=x;⟨o,k o e,r⟩
theorem CF.at{cenv:Env}{own:Option Addr}{h h':Heap}(f:CF V cenv own h)(k:Sk V (qY cenv own) h h'):CF V cenv own h':=
 ⟨let⟨m,n⟩:=f.ns;⟨m,k.ns _ aF f.n2 m n⟩,fun c hc=>let⟨v,x⟩:=f.cell c hc;⟨v,gY x fun o e=>k.old c (by simp[hc]) (f.cV c hc) o e⟩,f.n2,f.cV⟩
theorem CF.al{cenv:Env}{own:Option Addr}{h:Heap}(f:CF V cenv own h):∀b∈qY cenv own,∃o,h.get? b=some o:=fun b hb=>by
 rcases nR hb with rfl|hb
 ·refine LA f.ns fun m o es ep e z=>?_;exact⟨o,e⟩
 ·cases own with
  |none=>simp at hb
  |some c=>replace hb:=kQ hb;subst hb;refine fO (f.cell b rfl) fun v o e z=>?_;exact⟨o,e⟩
noncomputable def Bn(V:List Addr)(cenv:Env)(own:Option Addr)(h:Heap)(x:Str)(v:aG):Prop:=
 (∃m,cenv.locals≠2∧h.Ns cenv.locals m∧m x=some v∧cenv.kindOf x=some .local)∨(∃c,c∉V∧own=some c∧cenv.cells.lookup x=some c∧h.IsCell c (some v)∧cenv.kindOf x=some .cell)
theorem Bn.name{cenv:Env}{own:Option Addr}{h:Heap}{x:Str}{v:aG}(b:Bn V cenv own h x v):fR V cenv h x v:=by
 rcases b with ⟨m,h2,n,e,k⟩|⟨c,hV,_,l,e,k⟩
 ·exact .loc h2 n e k
 ·exact .cell hV l e k
theorem Bn.at{cenv:Env}{own:Option Addr}{h h':Heap}{x:Str}{v:aG}(b:Bn V cenv own h x v)(k:Sk V (qY cenv own) h h'):Bn V cenv own h' x v:=by
 rcases b with ⟨m,h2,n,e,kk⟩|⟨c,hV,ho,l,e,kk⟩
 ·exact .inl ⟨m,h2,k.ns _ aF h2 m n,e,kk⟩
 ·exact .inr ⟨c,hV,ho,l,gY e fun o e=>k.old c (by simp[ho]) hV o e,kk⟩
noncomputable def qL(cenv:Env)(own:Option Addr)(x:Str):Prop:=cenv.kindOf x=some .local∨(cenv.kindOf x=some .cell∧∃c,own=some c∧cenv.cells.lookup x=some c)
theorem qI{cenv:Env}{own:Option Addr}{x:Str}{v:aG}{s:aH}{Q:Unit→aH→Prop}{E:aG→aH→Prop}(hk:cenv.scope.kind= .function)(hx:qL cenv own x)(hne:∀c,own=some c→c≠cenv.locals)
  (cf:CF V cenv own s.heap)(q:∀s',Mu V (qY cenv own) s s'→CF V cenv own s'.heap→Bn V cenv own s'.heap x v→(∀y u,y≠x→cenv.kindOf y=some .local→Bn V cenv own s.heap y u→Bn V cenv own s'.heap y u)→Q () s'):wpAny (model prog w) A (storeName cenv x v) Q E s:=by
 refine bK cf.ns fun m hn=>?_
 rcases hx with hl|⟨hl,c,hc,hlk⟩
 ·refine gN hl hn (fun h' hn' hs=>?_) (by refine aM hk ?_;rfl)
  refine q _ ((AR cf.n2 hn' hs).more fun a ha=>by replace ha:=kQ ha;simp[ha]) ⟨⟨_,hn'⟩,fun c hc=>?_,cf.n2,cf.cV⟩ (.inl ⟨_,cf.n2,hn',by simp,hl⟩) fun y u hy hyl hb=>?_
  ·refine bK (cf.cell c hc) fun v' e=>?_
   exact⟨v',e.sameBut hs (hne c hc)⟩
  ·rcases hb with ⟨m',h2,hn2,e,kk⟩|⟨c',hV,ho,l,e,kk⟩
   ·refine .inl ⟨_,h2,hn',?_,kk⟩
    have:m' y=m y:=by
     refine uK hn2 fun o1 es1 ep1 g1 d1 z f1=>?_
     refine uK hn fun o2 es2 ep2 g2 d2 z f2=>?_
     rw[g1]at g2;obtain rfl:=a9 g2
     replace d2:=d1▸d2;cases d2
     rw[←f1,←f2]
    simp only[hy,if_false];refine gU this ?_;exact e
   ·exact .inr ⟨c',hV,ho,l,e.sameBut hs (hne c' ho),kk⟩
 ·refine bK (cf.cell c hc) fun v₀ hc₀=>?_
  refine nG hk hl hlk hc₀ fun h' hc' hs=>?_
  refine q _ ((iK (cf.cV c hc) hs).more fun a ha=>by simp[ha,hc]) ⟨⟨m,hn.sameBut hs (eH (hne c hc))⟩,fun c2 hc2=>?_,cf.n2,cf.cV⟩ (.inr ⟨c,cf.cV c hc,hc,hlk,hc',hl⟩) fun y u hy hyl hb=>?_
  ·replace hc2:=hc▸hc2;obtain rfl:=a9 hc2;exact⟨_,hc'⟩
  ·rcases hb with ⟨m',h2,hn2,e,kk⟩|⟨c',hV,ho,l,e,kk⟩
   ·exact .inl ⟨m',h2,hn2.sameBut hs (eH (hne c hc)),e,kk⟩
   ·replace kk:=hyl▸kk;nomatch kk
theorem Hv{cenv:Env}{own:Option Addr}{x:Str}{px:Pos}{v:aG}{s:aH}{Q:Unit→aH→Prop}{E:aG→aH→Prop}(hk:cenv.scope.kind= .function)(hx:qL cenv own x)(hne:∀c,own=some c→c≠cenv.locals)
  (cf:CF V cenv own s.heap)(q:∀s',Mu V (qY cenv own) s s'→CF V cenv own s'.heap→Bn V cenv own s'.heap x v→Q () s'):wpAny (model prog w) A (assign (.Name x px) cenv v) Q E s:=
 eF (qI hk hx hne cf fun s' m c b z=>q s' m c b)
theorem vU(x:PySem.Str)(px:Pos)(rest:List PySem.Expr)(env:PySem.Env):assignEach (.Name x px::rest) env=(false,assign (.Name x px) env)::assignEach rest env:=by rfl
theorem DC(v:aG)(f g:aG→Sem Unit):unpack v [(false,f),(false,g)]=(holding [v] (unpackItems v 2 none)>>=fun vs=>assignInOrder [f,g] vs):=rfl
theorem tN(f g:aG→Sem Unit)(v u:aG):assignInOrder [f,g] [v,u]=(holding [u] (f v)>>=fun z=>holding [] (g u)>>=fun z=>pure ()):=by
 rfl
theorem Eo{cenv:Env}{own:Option Addr}{x y:Str}{px py pos:Pos}{k:Nat}{a:Addr}{v u:aG}{s:aH}{Q:Unit→aH→Prop}{E:aG→aH→Prop}(hh:A.handled=none)(hk:cenv.scope.kind= .function)
  (hx:cenv.kindOf x=some .local)(hy:qL cenv own y)(hxy:x≠y)(hne:∀c,own=some c→c≠cenv.locals)(cf:CF V cenv own s.heap)(hl:s.heap.IsList a #[v,u])
  (q:∀s',Mu V (qY cenv own) s s'→CF V cenv own s'.heap→Bn V cenv own s'.heap x v→Bn V cenv own s'.heap y u→Q () s'):wpAny (model prog w) A (assign (.Tuple [.Name x px,.Name y py] k pos) cenv (.ref a)) Q E s:=by
 rw[PySem.arm_assign_Tuple,vU,vU,PySem.arm_assignEach_nil]
 refine aB (dF ?_)
 rw[DC]
 refine aB (a8 (kun_itemsOf (l:=a) (items:=#[v,u]) hh hl fun h' he=>?_))
 have kp:Keeps V s {s with heap:=h'}:=gW fun b o e=>he b o (fun hb=>by rw[hb,dG]at e;nomatch e) e
 have cf':CF V cenv own h':=cf.at (dA kp).sk
 rw[tN]
 refine aB (a8 (eF (qI hk (.inl hx) hne cf' fun s₁ m₁ cf₁ b₁ z=>?_)))
 refine aB (a8 (eF (qI hk hy hne cf₁ fun s₂ m₂ cf₂ b₂ o₂=>?_)))
 exact aE (q s₂ ((Mu.of_keeps kp).trans (m₁.trans m₂)) cf₂ (o₂ x v hxy hx b₁) b₂)
theorem vZ{cenv:Env}{own:Option Addr}{x:Str}{px:Pos}{I:Addr}{fp wr:List Addr}{n:Nat}{P:Nat→aG→Prop}{St:Nat→Heap→Prop}{s₀:aH}(W:Walks prog w A I fp wr n P St)(hal:∀i h,St i h→∀b∈wr,∃o,h.get? b=some o)
  (hk:cenv.scope.kind= .function)(hx:qL cenv own x)(hne:∀c,own=some c→c≠cenv.locals)(hfr:∀b∈qY cenv own,b∉fp)(hfV:∀b∈fp,b∉V):
  BY V prog w A s₀ (.Name x px) cenv I (wr++qY cenv own) (fp++qY cenv own) (fun i h=>St i h∧CF V cenv own h) (fun i h=>∃v,P i v∧Bn V cenv own h x v) (CF V cenv own) n where
 jf:=fun i h h' j k=>⟨W.frame i h h' j.1 fun b hb=>k.old b (aL _ hb) (hfV b hb),j.2.at (k.less fun b hb=>aJ _ hb)⟩
 bf:=fun i h h' ⟨v,p,b⟩ k=>⟨v,p,b.at (k.less fun b hb=>aJ _ hb)⟩
 al:=fun i h j b hb=>by
  rcases eX hb with hb|hb
  ·exact hal i h j.1 b hb
  ·exact j.2.al b hb
 sub:=fun b hb=>by
  rcases eX hb with hb|hb
  ·exact aL _ (W.sub b hb)
  ·exact aJ _ hb
 next:=fun i s Q E hi z j q=>W.item i s _ E hi j.1 fun v h' tk hp hst hkeep=>⟨v,rfl,aE (Hv hk hx hne (j.2.at (.all fun b hb o e=>hkeep b o (fun hw=>hfr b hb (W.sub b hw)) e)) fun s' m cf b=>
  q s' ((Mu.mk' hkeep fun b hb=>hfV b (W.sub b hb)).more (fun a ha=>aL _ ha)|>.trans (m.more fun a ha=>aJ _ ha))
   ⟨W.frame _ _ _ hst fun b hb o e=>m.get (fun hm=>hfr b hm hb) (hfV b hb) e,cf⟩ ⟨v,hp,b⟩)⟩
 stop:=fun s Q E j q=>W.done s _ E j.1 fun h' tk hkeep=>q _ ((Mu.mk' hkeep fun b hb=>hfV b (W.sub b hb)).more (fun a ha=>aL _ ha)) (j.2.at (.all fun b hb o e=>hkeep b o (fun hw=>hfr b hb (W.sub b hw)) e))
theorem uW{elts:List Expr}{k:Nat}{pos:Pos}{I a:Addr}{s:aH}{Q:Unit→aH→Prop}{E:aG→aH→Prop}(h:∃o,s.heap.get? I=some o∧o.cls= .type "list_iterator")(q:Q () s):
  wpAny (model prog w) A (letOwnedTupleGo (.Tuple elts k pos) (.ref I) (.ref a)) Q E s:=by
 obtain⟨⟨c,d,dt,sl⟩,ho,hc⟩:=h
 subst hc
 refine aB (nJ ho ?_)
 cases dt with
 |fields vs=>exact aE q
 |_=>exact aE q
theorem CW{cenv:Env}{own:Option Addr}{x y:Str}{px py pos:Pos}{k:Nat}{I:Addr}{fp wr:List Addr}{n:Nat}{P:Nat→aG→Prop}{St:Nat→Heap→Prop}{s₀:aH}(hh:A.handled=none)(W:Walks prog w A I fp wr n P St)(hal:∀i h,St i h→∀b∈wr,∃o,h.get? b=some o)
  (hcls:∀i h,St i h→∃o,h.get? I=some o∧o.cls= .type "list_iterator")(hk:cenv.scope.kind= .function)(hx:cenv.kindOf x=some .local)(hy:qL cenv own y)(hxy:x≠y)(hne:∀c,own=some c→c≠cenv.locals)(hfr:∀b∈qY cenv own,b∉fp)(hfV:∀b∈fp,b∉V)
  (hp:∀i v,P i v→∃a v1 v2,v= .ref a∧a∉V∧s₀.heap.IsList a #[v1,v2])(hwr:∀b∈wr,s₀.heap.get? b=none):
  BY V prog w A s₀ (.Tuple [.Name x px,.Name y py] k pos) cenv I (wr++qY cenv own) (fp++qY cenv own) (fun i h=>St i h∧CF V cenv own h)
   (fun i h=>∃a v1 v2,P i (.ref a)∧s₀.heap.IsList a #[v1,v2]∧Bn V cenv own h x v1∧Bn V cenv own h y v2) (CF V cenv own) n where
 jf:=fun i h h' j k=>⟨W.frame i h h' j.1 fun b hb=>k.old b (aL _ hb) (hfV b hb),j.2.at (k.less fun b hb=>aJ _ hb)⟩
 bf:=fun i h h' q k=>uK q fun a v1 v2 p l b c=>⟨a,v1,v2,p,l,b.at (k.less fun b hb=>aJ _ hb),c.at (k.less fun b hb=>aJ _ hb)⟩
 al:=fun i h j b hb=>by
  rcases eX hb with hb|hb
  ·exact hal i h j.1 b hb
  ·exact j.2.al b hb
 sub:=fun b hb=>by
  rcases eX hb with hb|hb
  ·exact aL _ (W.sub b hb)
  ·exact aJ _ hb
 next:=fun i s Q E hi ks j q=>W.item i s _ E hi j.1 fun v h' tk hpv hst hkeep=>by
  (refine pG (hp i v hpv) fun a v1 v2 e_0=>?_;subst e_0;refine fun haV hl=>?_)
  refine⟨_,rfl,uW (hcls _ _ hst) ?_⟩
  have hM:Mu V (wr++qY cenv own) s {s with heap:=h',toks:=tk}:=(Mu.mk' hkeep fun b hb=>hfV b (W.sub b hb)).more fun a ha=>aL _ ha
  refine bG hl fun o ho hc=>?_
  have hl':h'.IsList a #[v1,v2]:=⟨o,hkeep a o (fun hm=>by replace ho:=(hwr a hm)▸ho;cases ho) (a7 ks a o haV ho),hc⟩
  refine Eo hh hk hx hy hxy hne (j.2.at (.all fun b hb o e=>hkeep b o (fun hw=>hfr b hb (W.sub b hw)) e)) hl' fun s' m cf b c=>?_
  exact q s' (hM.trans (m.more fun a ha=>aJ _ ha)) ⟨W.frame _ _ _ hst fun b hb o e=>m.get (fun hm=>hfr b hm hb) (hfV b hb) e,cf⟩ ⟨a,v1,v2,hpv,⟨o,ho,hc⟩,b,c⟩
 stop:=fun s Q E j q=>W.done s _ E j.1 fun h' tk hkeep=>q _ ((Mu.mk' hkeep fun b hb=>hfV b (W.sub b hb)).more (fun a ha=>aL _ ha)) (j.2.at (.all fun b hb o e=>hkeep b o (fun hw=>hfr b hb (W.sub b hw)) e))
noncomputable def qO(own:Option Str)(h:Heap):Heap:=match own with
 |none=>h
 |some _=>h.push {cls:=.type "cell",data:=.cell none}
noncomputable def bJ(own:Option Str)(c:Addr)(cl:List (Str×Addr)):List (Str×Addr):=match own with
 |none=>cl
 |some x=>(x,c)::cl
theorem rO{scope:Scope}{globals:Addr}{cl:List (Str×Addr)}{qual:Str}{outer:Env}{own:Option Str}{s:aH}{Q:Env→aH→Prop}{E:aG→aH→Prop}
  (hlay:∀h,pushCells h scope.names=qO own h)(hcl:∀n,cellsFrom n scope.names cl=bJ own n cl)
  (h:Q {scope:=scope,locals:=s.heap.objs.size,globals:=globals,cells:=bJ own (s.heap.objs.size+1) cl,qual:=qual,func:=none,code:=outer.code,frame:=outer.frame,builtins:=outer.builtins}
   {s with heap:=qO own (s.heap.push {cls:=.type "dict",data:=.dict #[]})}):
  wpAny (model prog w) A (newFunctionEnv scope globals cl [] qual none .none (some outer)) Q E s:=by
 refine aB (wpAny_alloc ?_)
 refine aB (wpAny_layCells _ (fun name kind cells=>by cases hkc:kind==dL<;>simp[hkc]) _ _ _ _ ?_)
 rw[hlay,hcl]
 refine aM (show({s with heap:=s.heap.push {cls:=.type "dict",data:=.dict #[]}}:aH).heap.objs.size=s.heap.objs.size+1 from fZ ..) ?_
 refine aB ?_
 refine aM List.forIn_nil ?_
 exact aE (aE h)
theorem o4(own:Option Str)(h:Heap):∀b o,h.get? b=some o→(qO own h).get? b=some o:=fun b o e=>by
 cases own with
 |none=>exact e
 |some x=>exact aP _ e
theorem AT{own:Option Str}{h:Heap}{o₁:Obj}(hf:o₁.isFreed=false):
  (qO own (h.push o₁)).get? h.objs.size=some o₁∧(∀c,(own.map fun z=>h.objs.size+1)=some c→(qO own (h.push o₁)).IsCell c none∧c=h.objs.size+1):=by
 refine⟨o4 own _ _ _ (aW _ hf),fun c hc=>?_⟩
 cases own with
 |none=>cases hc
 |some x=>
  obtain rfl:=a9 hc
  refine⟨⟨({cls:=.type "cell",data:=.cell none}:Obj),?_,rfl⟩,rfl⟩
  have e:(h.push o₁).objs.size=h.objs.size+1:=fZ ..
  have:=aW (h.push o₁) (o:=({cls:=.type "cell",data:=.cell none}:Obj)) rfl
  rw[e]at this
  exact this
theorem gB{h:Heap}{b:Addr}(hb:h.objs.size≤b):h.get? b=none:=by
 cases e:h.get? b with
 |none=>rfl
 |some o=>exact absurd (eL e) (Nat.not_lt.mpr hb)
theorem y3(elt target iter:Expr)(ifs:List Expr)(scope:Scope)(pos:Pos)(it acc:aG)(env:Env):
  compTurn (.ListComp elt [⟨target,iter,ifs,0⟩] scope pos) 0 it acc env=(standAt iter.pos>>=fun z=>pyNext it>>=fun r=>match r with
   |none=>pure (.done .next)
   |some v=>letOwnedTupleGo target it v>>=fun z=>assign target env v>>=fun z=>j1 ifs env>>=fun ok=>if ok=true then(eval elt env>>=fun x=>call (.builtin "list.append") [acc,x]>>=fun z=>pure ())>>=fun z=>again (.compLoop (.ListComp elt [⟨target,iter,ifs,0⟩] scope pos) 0 it acc env)
     else again (.compLoop (.ListComp elt [⟨target,iter,ifs,0⟩] scope pos) 0 it acc env)):=by rfl
theorem BU(p:Nat→Bool)(g:Nat→aY)(i:Nat):(gQ p (fun i=>[g i]) i).length≤i:=by
 induction i with
 |zero=>simp[gQ]
 |succ i ih=>(rewrite[sQ];refine aM b4 ?_);split<;>simp<;>(first|exact ih|exact Nat.le_succ_of_le ih)
theorem J1(p:Nat→Bool)(g:Nat→aY)(n:Nat):gQ p (fun i=>[g i]) n=((bI n).filter p).map g:=by
 induction n with
 |zero=>simp[gQ]
 |succ i ih=>(rewrite[sQ];refine aM ih (aM iA ?_);rewrite[dP];refine aM bB ?_);cases hp:p i<;>simp[hp]
theorem tU{elt target iter:Expr}{ifs:List Expr}{rest:List q7}{scope:Scope}{cl:List (Str×Addr)}{pos:Pos}{env:Env}{own:Option Str}{I:Addr}{fp wr:List Addr}{n:Nat}{St:Nat→Heap→Prop}{B':Env→Option Addr→Nat→Heap→Prop}
  {X:List Addr}{s₀ u:aH}{p:Nat→Bool}{add:Nat→List aY}{E:aG→aH→Prop}{RR:aG→Addr→iR→aH→Prop}(body:Env→Addr→Sem Unit)
  (htree:∀(D:Addr) (cenv:Env),compTurn (.ListComp elt (⟨target,iter,ifs,0⟩::rest) scope pos) 0 (.ref I) (.ref D) cenv=(standAt iter.pos>>=fun z=>pyNext (.ref I)>>=fun r=>match r with
   |none=>pure (.done .next)
   |some v=>letOwnedTupleGo target (.ref I) v>>=fun z=>assign target cenv v>>=fun z=>j1 ifs cenv>>=fun ok=>if ok=true then body cenv D>>=fun z=>again (.compLoop (.ListComp elt (⟨target,iter,ifs,0⟩::rest) scope pos) 0 (.ref I) (.ref D) cenv)
     else again (.compLoop (.ListComp elt (⟨target,iter,ifs,0⟩::rest) scope pos) 0 (.ref I) (.ref D) cenv)))
  (k₀:Keeps V s₀ u)(hX:Bd V X s₀)(hst:St 0 u.heap)(hfr:∀i h h',St i h→(∀b∈fp,∀o,h.get? b=some o→h'.get? b=some o)→St i h')
  (hfp:∀b∈fp,∃o,u.heap.get? b=some o)(hfV:∀b∈fp,b∉V)(hwr:∀b∈wr,s₀.heap.get? b=none)(hsub:∀b∈wr,b∈fp)(hlen:∀i,i≤n→(gQ p add i).length≤sizeLine)
  (hlay:∀h,pushCells h scope.names=qO own h)(hcl:∀n,cellsFrom n scope.names cl=bJ own n cl)
  (hself:∀s (Q:aG→aH→Prop) (E:aG→aH→Prop),St 0 s.heap→Q (.ref I) s→wpAny (model prog w) A (pyIter (.ref I)) Q E s)
  (mk:∀L c,L≠c→L∉fp→(∀d,(own.map fun z=>c)=some d→d∉fp)→BY V prog w A s₀ target (compEnvC scope (bJ own c cl) L env) I (wr++qY (compEnvC scope (bJ own c cl) L env) (own.map fun z=>c)) (fp++qY (compEnvC scope (bJ own c cl) L env) (own.map fun z=>c))
   (fun i h=>St i h∧CF V (compEnvC scope (bJ own c cl) L env) (own.map fun z=>c) h) (B' (compEnvC scope (bJ own c cl) L env) (own.map fun z=>c)) (CF V (compEnvC scope (bJ own c cl) L env) (own.map fun z=>c)) n)
  (htest:∀L c i Y v,i<n→gM V X s₀ Y v→Bd V Y v→B' (compEnvC scope (bJ own c cl) L env) (own.map fun z=>c) i v.heap→Pu V prog w A Y v (j1 ifs (compEnvC scope (bJ own c cl) L env)) (Ex (p i)))
  (hbody:∀L c D i v ys (Q:Unit→aH→Prop) (E:aG→aH→Prop),i<n→p i=true→L≠c→D∉V→D∉fp→D∉qY (compEnvC scope (bJ own c cl) L env) (own.map fun z=>c)→(∀b∈fp,∃o,v.heap.get? b=some o)→(∀b∈D::qY (compEnvC scope (bJ own c cl) L env) (own.map fun z=>c),s₀.heap.get? b=none∧b∉fp)→
   gM V X s₀ (D::(wr++qY (compEnvC scope (bJ own c cl) L env) (own.map fun z=>c))++X) v→Bd V (D::(wr++qY (compEnvC scope (bJ own c cl) L env) (own.map fun z=>c))++X) v→St (i+1) v.heap→CF V (compEnvC scope (bJ own c cl) L env) (own.map fun z=>c) v.heap→B' (compEnvC scope (bJ own c cl) L env) (own.map fun z=>c) i v.heap→
   v.heap.PlainList D ys→cA V (D::(wr++qY (compEnvC scope (bJ own c cl) L env) (own.map fun z=>c))++X) v.heap ys.toList (gQ p add i)→
   (∀s' ys',Mu V (D::(wr++qY (compEnvC scope (bJ own c cl) L env) (own.map fun z=>c))) v s'→St (i+1) s'.heap→CF V (compEnvC scope (bJ own c cl) L env) (own.map fun z=>c) s'.heap→s'.heap.PlainList D ys'→
    cA V (D::(wr++qY (compEnvC scope (bJ own c cl) L env) (own.map fun z=>c))++X) s'.heap ys'.toList (gQ p add i++add i)→Q () s')→wpAny (model prog w) A (body (compEnvC scope (bJ own c cl) L env) D) Q E v)
  (hR:∀D L s',Keeps V s₀ s'→s₀.heap.get? L=none→(∃m,s'.heap.Ns L m)→(∃ys,s'.heap.PlainList D ys)→Is V (L::X) s'.heap (.ref D) (.list (gQ p add n))→RR (.ref D) L (.ok .next) s'):
  wpAny (model prog w) A (newList []) (fun acc s₃=>wpAny (model prog w) A (newFunctionEnv scope env.globals cl [] env.qual none .none (some env)) (fun cenv s₄=>
   codeAny (model prog w) A (.compStart (.ListComp elt (⟨target,iter,ifs,0⟩::rest) scope pos) 0 (.ref I) acc {cenv with scope:=relabel scope env}) (RR acc cenv.locals) s₄) E s₃) E u:=by
 refine c8 (rO hlay hcl ?_)
 generalize hH:u.heap.push {cls:=.type "list",data:=.seq ([]:List aG).toArray}=H
 have hHs:H.objs.size=u.heap.objs.size+1:=by(refine gU hH ?_;rw[fZ])
 generalize hD:u.heap.objs.size=D at*
 generalize hLe:H.objs.size=L at*
 have hLD:L=D+1:=hHs
 refine gE (AT (own:=own) (h:=H) (o₁:=({cls:=.type "dict",data:=.dict #[]}:Obj)) rfl) fun l1 l2=>?_
 rw[hLe]at l1 l2
 generalize hG:qO own (H.push {cls:=.type "dict",data:=.dict #[]})=G at*
 have up:∀b o,u.heap.get? b=some o→G.get? b=some o:=fun b o e=>hG▸o4 _ _ _ _ (aP _ (hH▸aP _ e))
 have hacc:G.PlainList D #[]:=⟨0,hG▸o4 _ _ _ _ (aP _ (by refine gU hH (gU hD ?_);exact aW _ rfl))⟩
 have hLn:u.heap.get? L=none:=gB (by refine aM hD ?_;exact aD (bN _ _) (aU hLD.symm))
 have hcn:u.heap.get? (L+1)=none:=gB (by refine aM hD ?_;exact aD (aD (bN _ _) (aU hLD.symm)) (bN _ _))
 have hDn:u.heap.get? D=none:=gB (by refine aM hD ?_;exact bO _)
 have nofp:∀b,u.heap.get? b=none→b∉fp:=fun b hb hm=>by refine bK (hfp b hm) fun o e=>?_;replace e:=hb▸e;cases e
 have no0:∀b,u.heap.get? b=none→s₀.heap.get? b=none:=fun b hb=>by
  exact fQ k₀ hX.two hb
 have two:=gL k₀ hX.two
 have hown:∀d,(own.map fun z=>L+1)=some d→d=L+1:=fun d hd=>(l2 d hd).2
 have Lp:=mk L (L+1) (eZ (cI L)) (nofp L hLn) (fun d hd=>by refine aM (hown d hd) ?_;exact nofp _ hcn)
 have hst':St 0 G:=hfr 0 _ _ hst fun b z o e=>up b o e
 have hns:G.Ns L fun z=>none:=⟨_,#[],0,l1,rfl,fun z he=>by simp at he,fun z=>rfl⟩
 have frmem:∀b∈qY (compEnvC scope (bJ own (L+1) cl) L env) (own.map fun z=>L+1),b=L∨b=L+1:=fun b hb=>by
  rcases r4 hb with rfl|hb
  ·exact .inl rfl
  ·exact .inr (hown b (by simpa using hb))
 have hDL:D≠L:=by refine aM hLD ?_;exact eZ (cI D)
 have hDL1:D≠L+1:=by refine aM hLD ?_;exact eZ (Nat.lt_succ_of_lt (cI D))
 have hDfr:D∉qY (compEnvC scope (bJ own (L+1) cl) L env) (own.map fun z=>L+1):=fun hm=>by
  rcases frmem D hm with h|h
  ·exact hDL h
  ·exact hDL1 h
 have hDsup:D∉fp++qY (compEnvC scope (bJ own (L+1) cl) L env) (own.map fun z=>L+1):=fun hm=>by
  rcases eX hm with hm|hm
  ·exact nofp D hDn hm
  ·exact hDfr hm
 have loop:codeAny (model prog w) A (.compLoop (.ListComp elt (⟨target,iter,ifs,0⟩::rest) scope pos) 0 (.ref I) (.ref D) (compEnvC scope (bJ own (L+1) cl) L env)) (RR (.ref D) L) {u with heap:=G}:=by
  refine A1 (s₀:=s₀) (X:=X) (Z:=[]) (p:=p) (add:=add) (pre:=[]) (ys₀:=#[]) (tp:=iter.pos) (ifs:=ifs)
   (body:=body (compEnvC scope (bJ own (L+1) cl) L env) D) Lp rfl (i5 rfl rfl) rfl (htree D _) hDsup (two.ne hDn) ?_ hX (fun b hb=>by nomatch hb) (aN k₀ (gW up)) ⟨hst',⟨_,hns⟩,fun c hc=>⟨_,(l2 c hc).1⟩,two.ne2 hLn,fun c hc=>by refine aM ((l2 c hc).2) ?_;exact two.ne hcn⟩ hacc .nil ?_ ?_ ?_ ?_
  ·intro b hb
   rcases r4 hb with rfl|hb
   ·exact no0 _ hDn
   ·rcases eX hb with hb|hb
    ·exact hwr b hb
    ·rcases(eK b7 b7) (frmem b hb)with rfl|rfl
     ·exact no0 _ hLn
     ·exact no0 _ hcn
  ·intro i hi
   exact hlen i hi
  ·intro i v hi hw hb hj hB
   exact htest L (L+1) i _ v hi hw hb hB
  ·intro i v ys Q E' hi hpi mm hw hb' hj hB hp ha q
   exact hbody L (L+1) D i v ys Q E' hi hpi (eZ (cI L)) (two.ne hDn) (nofp D hDn) hDfr (fun b hb=>by
    by_cases hm:b∈D::(wr++qY (compEnvC scope (bJ own (L+1) cl) L env) (own.map fun z=>L+1))
    ·exact hb'.al b (aL _ hm)
    ·refine bK (hfp b hb) fun o e=>?_;exact⟨o,mm.get hm (hfV b hb) (up b o e)⟩) (fun b hb=>by
    rcases r4 hb with rfl|hb
    ·exact⟨no0 _ hDn,nofp _ hDn⟩
    ·rcases(eK b7 b7) (frmem b hb)with rfl|rfl
     ·exact⟨no0 _ hLn,nofp _ hLn⟩
     ·exact⟨no0 _ hcn,nofp _ hcn⟩) hw hb' hj.1 hj.2 hB hp (ha) fun s' ys' mu st cf hp' ha'=>q s' ys' mu ⟨st,cf⟩ hp' (ha')
  ·intro s' ys ks ms hp ha hj
   have hcf:CF V (compEnvC scope (bJ own (L+1) cl) L env) (own.map fun z=>L+1) s'.heap:=hj
   refine hR D L s' ks (no0 _ hLn) hcf.ns ⟨_,hp⟩ ?_
   have:cA V (L::X) s'.heap ys.toList (gQ p add n):=by
    refine(cA.less (X:=L::X) (by simpa using ha) fun a h=>?_)
    rcases r4 h with rfl|h
    ·simp[compEnvC]
    ·simp[h]
   refine bK hp fun nn ho=>?_
   refine Is.list ?_ ho rfl rfl this
   intro hm
   rcases eX hm with hm|hm
   ·exact two.ne hDn hm
   rcases nR hm with hm|hm
   ·exact hDL hm
   ·refine bK (hX.al D hm) fun o e=>?_
    replace e:=(no0 D hDn)▸e;cases e
 exact codeAny_compStart_list loop (hself _ _ _ hst' loop)
theorem sX{elt target iter:Expr}{ifs:List Expr}{scope:Scope}{cl:List (Str×Addr)}{pos:Pos}{env:Env}{own:Option Str}{I:Addr}{fp wr:List Addr}{n:Nat}{St:Nat→Heap→Prop}{B':Env→Option Addr→Nat→Heap→Prop}
  {X:List Addr}{s₀ u:aH}{p:Nat→Bool}{g:Nat→aY}{E:aG→aH→Prop}{RR:aG→Addr→iR→aH→Prop}(k₀:Keeps V s₀ u)(hX:Bd V X s₀)(hst:St 0 u.heap)(hfr:∀i h h',St i h→(∀b∈fp,∀o,h.get? b=some o→h'.get? b=some o)→St i h')
  (hfp:∀b∈fp,∃o,u.heap.get? b=some o)(hfV:∀b∈fp,b∉V)(hwr:∀b∈wr,s₀.heap.get? b=none)(hsub:∀b∈wr,b∈fp)(hn:n≤sizeLine)
  (hlay:∀h,pushCells h scope.names=qO own h)(hcl:∀n,cellsFrom n scope.names cl=bJ own n cl)
  (hself:∀s (Q:aG→aH→Prop) (E:aG→aH→Prop),St 0 s.heap→Q (.ref I) s→wpAny (model prog w) A (pyIter (.ref I)) Q E s)
  (mk:∀L c,L≠c→L∉fp→(∀d,(own.map fun z=>c)=some d→d∉fp)→BY V prog w A s₀ target (compEnvC scope (bJ own c cl) L env) I (wr++qY (compEnvC scope (bJ own c cl) L env) (own.map fun z=>c)) (fp++qY (compEnvC scope (bJ own c cl) L env) (own.map fun z=>c))
   (fun i h=>St i h∧CF V (compEnvC scope (bJ own c cl) L env) (own.map fun z=>c) h) (B' (compEnvC scope (bJ own c cl) L env) (own.map fun z=>c)) (CF V (compEnvC scope (bJ own c cl) L env) (own.map fun z=>c)) n)
  (htest:∀L c i Y v,i<n→gM V X s₀ Y v→Bd V Y v→B' (compEnvC scope (bJ own c cl) L env) (own.map fun z=>c) i v.heap→Pu V prog w A Y v (j1 ifs (compEnvC scope (bJ own c cl) L env)) (Ex (p i)))
  (helt:∀L c i Y v,i<n→p i=true→gM V X s₀ Y v→Bd V Y v→B' (compEnvC scope (bJ own c cl) L env) (own.map fun z=>c) i v.heap→Pu V prog w A Y v (eval elt (compEnvC scope (bJ own c cl) L env)) (Dt (g i)))
  (hR:∀D L s',Keeps V s₀ s'→s₀.heap.get? L=none→(∃m,s'.heap.Ns L m)→(∃ys,s'.heap.PlainList D ys)→Is V (L::X) s'.heap (.ref D) (.list (((bI n).filter p).map g))→RR (.ref D) L (.ok .next) s'):
  wpAny (model prog w) A (newList []) (fun acc s₃=>wpAny (model prog w) A (newFunctionEnv scope env.globals cl [] env.qual none .none (some env)) (fun cenv s₄=>
   codeAny (model prog w) A (.compStart (.ListComp elt [⟨target,iter,ifs,0⟩] scope pos) 0 (.ref I) acc {cenv with scope:=relabel scope env}) (RR acc cenv.locals) s₄) E s₃) E u:=by
 refine tU (p:=p) (add:=fun i=>[g i]) (body:=fun cenv D=>eval elt cenv>>=fun x=>call (.builtin "list.append") [.ref D,x]>>=fun z=>pure ()) (fun D cenv=>y3 ..) k₀ hX hst hfr hfp hfV hwr hsub (fun i hi=>aD (BU p g i) (aD hi hn)) hlay hcl hself mk htest ?_ (fun D L s' a b c d e=>hR D L s' a b c d (by rw[J1]at e;exact e))
 intro L c D i v ys Q E' hi hpi hLc hDV hDfp hDfr hfal hfresh hw hb hst1 hcf hB hp ha q
 refine aB ((helt L c i _ v hi hpi hw hb hB).run hb fun x v₁ k₁ hx=>aB (lH (hp.at fun o e=>a7 k₁ _ _ hDV e) (fun h' hp' hs=>aE ?_) ?_))
 ·have mu:Mu V [D] v₁ {v₁ with heap:=h'}:=iK hDV hs
  refine q _ _ (((Mu.of_keeps k₁).trans mu).more fun a ha=>by simp at ha;simp[ha]) (hfr _ _ _ hst1 fun b hb o e=>mu.get (fun hm=>hDfp (by replace hm:=kQ hm;exact hm▸hb)) (hfV b hb) (a7 k₁ b o (hfV b hb) e)) ((hcf.at (dA k₁).sk).at (mu.k.sk fun b hb hm=>hDfr (by replace hm:=kQ hm;exact hm▸hb))) hp' ?_
  have nx:=mu.nx (X:=D::(wr++qY (compEnvC scope (bJ own c cl) L env) (own.map fun z=>c))++X) fun a ha=>by simp at ha;simp[ha]
  simpa using ((ha.keep (a7 k₁)).append (cA.cons hx .nil)).nx nx
 ·have:=ha.length
  rw[bM]at this
  refine aM this ?_
  exact aD (BU p g i) (bA (aO hi hn))
theorem BX.fresh{M N:List Addr}{h h':Heap}(x:BX V (M++N) h h')(f:∀b∈N,h.get? b=none):BX V M h h':=
 ⟨fun b o hb hm e=>x.old b o hb (fun q=>(eX q).elim hm fun q=>by replace e:=(f b q)▸e;cases e) e,x.two,fun L hL h2 hm m n=>x.ns L hL h2 (fun q=>(eX q).elim hm fun q=>by refine bG (vE n) fun o e z=>?_;replace e:=(f L q)▸e;cases e) m n,x.o2⟩
theorem Mu.less{M N:List Addr}{s s':aH}(x:Mu V (M++N) s s')(f:∀b∈N,s.heap.get? b=none):Mu V M s s':=let⟨h',tk,e,k⟩:=x;⟨h',tk,e,k.fresh f⟩
noncomputable def Jo(prog:fL)(w:cN)(A:jK)(P:Hp V aG)(n:Nat)(f:Nat→aY)(cls:String):Prop:=
 ∀x Y u,P.p Y u.heap x→Bd V Y u→∀(Q:aG→aH→Prop) (E:aG→aH→Prop),
  (∀I fp wr P' St u',Keeps V u u'→Walks prog w A I fp wr n P' St→St 0 u'.heap→(∀b∈fp,(∃o,u'.heap.get? b=some o)∧b∉V++Y)→(∀b∈wr,u.heap.get? b=none)→(∀i h,St i h→∀b∈wr,∃o,h.get? b=some o)→
   (∀i h,St i h→∃o,h.get? I=some o∧o.cls= .type cls)→(∀i v,P' i v→i<n∧Is V Y u.heap v (f i))→Q (.ref I) u')→wpAny (model prog w) A (pyIter x) Q E u
theorem hW{ds:List aY}(hh:A.handled=none):Jo (V:=V) prog w A (Dt (.list ds)) ds.length (fun i=>ds[i]?.getD .none) "list_iterator":=by
 intro x Y u hx hb0 Q E q
 (refine oX (Is.of_list' hx) fun l vs e_0=>?_;subst e_0;refine fun hl hlist hall=>?_)
 refine wpAny_pyIter_list hlist ?_
 have k:Keeps V u {u with heap:=u.heap.push {cls:=.type "list_iterator",data:=.fields #[.ref l,.int 0 0]}}:=fF u _
 have hlt:l<u.heap.objs.size:=by refine bG hlist fun o e z=>?_;exact eL e
 have hne:l≠u.heap.objs.size:=eZ hlt
 have e:vs.toArray.size=ds.length:=by simp[hall.length]
 have W:=Walks.list (prog:=prog) (w:=w) hh u.heap.objs.size l hne vs.toArray
 rw[e]at W
 have hit:(u.heap.push {cls:=.type "list_iterator",data:=.fields #[.ref l,.int 0 0]}).get? u.heap.objs.size=some {cls:=.type "list_iterator",data:=.fields #[.ref l,.int 0 0]}:=aW _ rfl
 refine q _ _ _ _ _ _ k W ⟨⟨_,hit,rfl,rfl⟩,?_⟩ ?_ ?_ ?_ ?_ ?_
 ·refine bG hlist fun o e r=>?_;exact⟨o,aP _ e,r⟩
 ·intro b hb
  replace hb:=m2 hb
  rcases(eK b7 b7) hb with rfl|rfl
  ·exact⟨⟨_,hit⟩,hb0.fresh⟩
  ·refine bG hlist fun o e r=>?_;exact⟨⟨o,aP _ e⟩,hl⟩
 ·intro b hb;replace hb:=(LV hb);subst hb;exact dG _
 ·intro i h st b hb;replace hb:=kQ hb;subst hb;refine bG st.1 fun o e z=>?_;exact⟨o,e⟩
 ·intro i h st;refine nY st.1 fun o e hc z=>?_;exact⟨o,e,hc⟩
 ·intro i v hv
  have hi:i<ds.length:=by
   have:i<vs.toArray.size:=by
    rcases eM i vs.toArray.size with h|h
    ·exact h
    ·replace hv:=(g7 h)▸hv;cases hv
   exact aO this (aU e)
  refine bG (hall.at (i:=i) (d:=ds[i]) (by simp[hi])) fun v' hv' hd=>?_
  have:v'=v:=by simp at hv;rw[hv']at hv;exact a9 hv
  subst this
  exact⟨hi,by simpa[hi]using hd⟩
noncomputable def J3(n:Int):Hp V aG:=⟨fun X h v=>∃r t u v',v= .ref r∧r∉V++X∧IsRange h r 0 n 1 t u v',fun k x=>B4 x fun r t u v' e hn x=>⟨r,t,u,v',e,hn,k _ _ (fun q=>hn (aL _ q)) x⟩⟩
theorem oM{n:Nat}(hh:A.handled=none)(hz:n<2^62):Jo (V:=V) prog w A (J3 n) n (fun i=>.int i) "range_iterator":=by
 (intro x Y u q_1 hb Q E q;refine B4 q_1 fun r t u1 v1 e_0 hr hx=>?_;subst e_0)
 have hz':(n:Int)<2^62:=by exact_mod_cast hz
 refine wpAny_pyIter_range hx (small_one (by decide) (by decide) (by exact Int.le_trans (by decide) (cD _)) hz') ?_
 rw[rangeSize_one]
 have e:(if(0:Int)<n then(n:Int)-0 else 0)=n:=by split<;>lia
 refine aM e ?_
 have k:Keeps V u {u with heap:=u.heap.push {cls:=.type "range_iterator",data:=.fields #[rawInt 0,rawInt n,rawInt 1]}}:=fF u _
 have hit:(u.heap.push {cls:=.type "range_iterator",data:=.fields #[rawInt 0,rawInt n,rawInt 1]}).get? u.heap.objs.size=some {cls:=.type "range_iterator",data:=.fields #[rawInt 0,rawInt n,rawInt 1]}:=aW _ rfl
 have W:=(LCg.range_walks (prog:=prog) (w:=w) (I:=u.heap.objs.size) hh 0 n).bound
 refine q _ _ _ _ _ _ k W ?_ ?_ ?_ ?_ ?_ ?_
 ·exact hit
 ·intro b hb';simp at hb';subst hb';exact⟨⟨_,hit⟩,hb.fresh⟩
 ·intro b hb;simp at hb;subst hb;exact dG _
 ·intro i h st b hb;replace hb:=kQ hb;subst hb;exact⟨_,st⟩
 ·intro i h st;exact⟨_,st,rfl⟩
 ·rintro i v ⟨hi,t,rfl⟩;exact⟨hi,by simpa using Is.int (V:=V) (X:=Y) (h:=u.heap) (i:Int) t⟩
theorem qS{X:List Addr}{s:aH}{a:aG}{n:Int}(ha:Is V X s.heap a (.int n)):Pu V prog w A X s (call (.type "range") [a]) (J3 n):=by
 refine .mk fun Y s' hu hbd Q E q=>?_
 (refine bK (Is.of_int ha) fun t e_0=>?_;subst e_0)
 refine call_range_1 (q _ _ ?_ ?_)
 ·exact lU fun z z e=>aP _ e
 ·exact⟨_,_,_,_,rfl,hbd.fresh,aW _ rfl⟩
theorem BB{elt iter target:Expr}{ifs:List Expr}{scope:Scope}{pos:Pos}{cl:List (Str×Addr)}{own:Option Str}{n:Nat}{f:Nat→aY}{cls:String}{p:Nat→Bool}{g:Nat→aY}{P:Hp V aG}{RR:aG→Addr→iR→aH→Prop}{E:aG→aH→Prop}
  {B':Heap→List Addr→(Nat→aG→Prop)→Env→Option Addr→Nat→Heap→Prop}{x:aG}
  (hb:Bd V X s)(hx:P.p X s.heap x)(hsrc:Jo prog w A P n f cls)(hn:n≤sizeLine)
  (hlay:∀h,pushCells h scope.names=qO own h)(hcl:∀n,cellsFrom n scope.names cl=bJ own n cl)
  (mk:∀I fp wr P' St L c,Walks prog w A I fp wr n P' St→L≠c→L∉fp→(∀b∈fp,b∉V)→(∀d,(own.map fun z=>c)=some d→d∉fp)→(∀i h,St i h→∀b∈wr,∃o,h.get? b=some o)→(∀b∈wr,s.heap.get? b=none)→
   (∀i h,St i h→∃o,h.get? I=some o∧o.cls= .type cls)→(∀i v,P' i v→i<n∧Is V X s.heap v (f i))→
   BY V prog w A s target (compEnvC scope (bJ own c cl) L env) I (wr++qY (compEnvC scope (bJ own c cl) L env) (own.map fun z=>c)) (fp++qY (compEnvC scope (bJ own c cl) L env) (own.map fun z=>c))
   (fun i h=>St i h∧CF V (compEnvC scope (bJ own c cl) L env) (own.map fun z=>c) h) (B' s.heap X P' (compEnvC scope (bJ own c cl) L env) (own.map fun z=>c)) (CF V (compEnvC scope (bJ own c cl) L env) (own.map fun z=>c)) n)
  (htest:∀L c P' i Y v,(∀i v,P' i v→i<n∧Is V X s.heap v (f i))→i<n→gM V X s Y v→Bd V Y v→B' s.heap X P' (compEnvC scope (bJ own c cl) L env) (own.map fun z=>c) i v.heap→Pu V prog w A Y v (j1 ifs (compEnvC scope (bJ own c cl) L env)) (Ex (p i)))
  (helt:∀L c P' i Y v,(∀i v,P' i v→i<n∧Is V X s.heap v (f i))→i<n→p i=true→gM V X s Y v→Bd V Y v→B' s.heap X P' (compEnvC scope (bJ own c cl) L env) (own.map fun z=>c) i v.heap→Pu V prog w A Y v (eval elt (compEnvC scope (bJ own c cl) L env)) (Dt (g i)))
  (hR:∀D L s',Keeps V s s'→s.heap.get? L=none→(∃m,s'.heap.Ns L m)→(∃ys,s'.heap.PlainList D ys)→Is V (L::X) s'.heap (.ref D) (.list (((bI n).filter p).map g))→RR (.ref D) L (.ok .next) s'):
  wpAny (model prog w) A (pyIter x) (fun it s₂=>wpAny (model prog w) A (newList []) (fun acc s₃=>wpAny (model prog w) A (newFunctionEnv scope env.globals cl [] env.qual none .none (some env)) (fun cenv s₄=>
   codeAny (model prog w) A (.compStart (.ListComp elt [⟨target,iter,ifs,0⟩] scope pos) 0 it acc {cenv with scope:=relabel scope env}) (RR acc cenv.locals) s₄) E s₃) E s₂) E s:=
 hsrc x X s hx hb _ E fun I fp wr P' St u' k W hst hfp hwr hal hcls hF=>
  sX (s₀:=s) (X:=X) (p:=p) (g:=g) (B':=B' s.heap X P') k hb hst W.frame (fun b hb=>(hfp b hb).1) (fun b hb hv=>(hfp b hb).2 (aL _ hv)) hwr W.sub hn hlay hcl (fun s Q E h q=>W.self 0 s Q E h q)
   (fun L c hLc hL hc=>mk I fp wr P' St L c W hLc hL (fun b hb hv=>(hfp b hb).2 (aL _ hv)) hc hal hwr hcls hF) (fun L c i Y v hi hw hbd hB=>htest L c P' i Y v hF hi hw hbd hB) (fun L c i Y v hi hp hw hbd hB=>helt L c P' i Y v hF hi hp hw hbd hB) hR
noncomputable abbrev B1(V:List Addr)(x:Str)(_:Heap)(_:List Addr)(P':Nat→aG→Prop)(cenv:Env)(own:Option Addr)(i:Nat)(h:Heap):Prop:=∃v,P' i v∧Bn V cenv own h x v
noncomputable abbrev B2(V:List Addr)(x y:Str)(h₀:Heap)(_:List Addr)(P':Nat→aG→Prop)(cenv:Env)(own:Option Addr)(i:Nat)(h:Heap):Prop:=∃a v1 v2,P' i (.ref a)∧h₀.IsList a #[v1,v2]∧Bn V cenv own h x v1∧Bn V cenv own h y v2
theorem oV{Q:aG→aH→Prop}{E:aG→aH→Prop}{D L:Addr}{s s':aH}{d:aY}(t:rW V s.heap)(k:Keeps V s s')(hL:s.heap.get? L=none)(hm:∃m,s'.heap.Ns L m)(hI:Is V (L::X) s'.heap (.ref D) d)(q:∀v s',Keeps V s s'→Is V X s'.heap v d→Q v s'):
  compPost (model prog w) A E none Q (.ref D) L (.ok .next) s':=by
 obtain⟨m,hm⟩:=hm
 refine⟨m,hm,fun h' hs=>?_⟩
 have mu:Mu V [L] s' {s' with heap:=h'}:=iK (t.ne hL) hs
 refine q _ _ (mu.keeps k fun b hb=>by simp at hb;obtain rfl:=hb.symm;exact hL) ?_
 exact(hI.nx (mu.nx fun a ha=>by simp at ha;simp[ha])).less fun a ha=>aC _ ha
theorem sK{Q:Flow→aH→Prop}{E:aG→aH→Prop}{D L:Addr}{s s':aH}{d:aY}{y:Str}{py:Pos}{m₀:Str→Option aG}(t:rW V s.heap)(k:Keeps V s s')(hL:s.heap.get? L=none)(hm:∃m,s'.heap.Ns L m)(hI:Is V (L::X) s'.heap (.ref D) d)
  (h2:env.locals≠2)(hn:s.heap.Ns env.locals m₀)(hk:env.scope.kind= .function)(hy:env.kindOf y=some .local)(hX:env.locals∈X)
  (q:∀v s',Mu V [env.locals] s s'→Is V X s'.heap v d→s'.heap.Ns env.locals (fun z=>if z=y then some v else m₀ z)→Q .next s'):
  compPost (model prog w) A E (some (assign (.Name y py) env)) (fun j s'=>Q .next s') (.ref D) L (.ok .next) s':=by
 obtain⟨m,hm⟩:=hm
 have hne:env.locals≠L:=by rintro rfl;refine s9 hn fun o j j ho j=>?_;replace ho:=hL▸ho;cases ho
 have hn':=tL hn k h2
 refine eF (gN hy hn' (fun h₂ hn₂ hs₂=>?_) (by refine aM hk ?_;rfl))
 refine⟨m,hm.sameBut hs₂ (eH hne),fun h' hs=>?_⟩
 have mu1:Mu V [env.locals] s' {s' with heap:=h₂,toks:=s'.toks+1}:=AR h2 hn₂ hs₂
 have mu2:Mu V [L] {s' with heap:=h₂,toks:=s'.toks+1} {s' with heap:=h',toks:=s'.toks+1}:=iK (s:={s' with heap:=h₂,toks:=s'.toks+1}) (t.ne hL) hs
 refine q _ _ ?_ ?_ (hn₂.sameBut hs hne)
 ·refine Mu.less (N:=[L]) (((Mu.of_keeps k).trans (mu1.more fun a ha=>aL _ ha)).trans (mu2.more fun a ha=>aJ _ ha)) fun b hb=>?_
  simp at hb;obtain rfl:=hb.symm;exact hL
 ·exact((hI.nx (mu1.nx fun a ha=>by replace ha:=kQ ha;subst ha;simp[hX])).nx (mu2.nx fun a ha=>by simp at ha;simp[ha])).less fun a ha=>aC _ ha
section
variable {own:Option Str} {g:Nat→aY} {P:Hp V aG}
structure Lg(prog:fL)(w:cN)(A:jK)(X:List Addr)(s:aH)(env:Env)(elt iter:Expr)(x:Str)(px:Pos)(ifs:List Expr)(scope:Scope)(pos:Pos)(cl:List (Str×Addr))(own:Option Str)(n:Nat)(f:Nat→aY)(p:Nat→Bool)(g:Nat→aY)(P:Hp V aG)(cls:String):Prop where
 hiter:Pu V prog w A X s (eval iter env) P
 src:Jo prog w A P n f cls
 hn:n≤sizeLine
 test:∀L c i Y v val,i<n→gM V X s Y v→Bd V Y v→fR V (compEnvC scope (bJ own c cl) L env) v.heap x val→Is V Y v.heap val (f i)→Pu V prog w A Y v (j1 ifs (compEnvC scope (bJ own c cl) L env)) (Ex (p i))
 helt:∀L c i Y v val,i<n→p i=true→gM V X s Y v→Bd V Y v→fR V (compEnvC scope (bJ own c cl) L env) v.heap x val→Is V Y v.heap val (f i)→Pu V prog w A Y v (eval elt (compEnvC scope (bJ own c cl) L env)) (Dt (g i))
 clos:autoParam (closureFor scope env=pure cl) rf
 kind:autoParam (scope.kind= .function) rf
 names:autoParam (∀y∈scope.names,y.2= .local→scope.names.lookup y.1=some .local) dk
 lay:autoParam (∀h,pushCells h scope.names=qO own h) rf
 cells:autoParam (∀n,cellsFrom n scope.names cl=bJ own n cl) rf
 bind:∀L c,qL (compEnvC scope (bJ own c cl) L env) (own.map fun z=>c) x
 fold:autoParam (∀v,foldedSetIterable iter env v=pure v) rf
theorem CY{RR:aG→Addr→iR→aH→Prop}{E:aG→aH→Prop}{xv:aG}{Z:List Addr}{u:aH}(h:Lg prog w A X s env elt iter x px ifs scope pos cl own n f p g P cls)(hu:gM V X s Z u)(hb:Bd V Z u)(hx:P.p Z u.heap xv)
  (hR:∀D L s',Keeps V u s'→u.heap.get? L=none→(∃m,s'.heap.Ns L m)→(∃ys,s'.heap.PlainList D ys)→Is V (L::Z) s'.heap (.ref D) (.list (((bI n).filter p).map g))→RR (.ref D) L (.ok .next) s'):
  wpAny (model prog w) A (pyIter xv) (fun it s₂=>wpAny (model prog w) A (newList []) (fun acc s₃=>wpAny (model prog w) A (newFunctionEnv scope env.globals cl [] env.qual none .none (some env)) (fun cenv s₄=>
   codeAny (model prog w) A (.compStart (.ListComp elt [⟨.Name x px,iter,ifs,0⟩] scope pos) 0 it acc {cenv with scope:=relabel scope env}) (RR acc cenv.locals) s₄) E s₃) E s₂) E u:=
 BB (B':=B1 V x) hb hx h.src h.hn h.lay h.cells
  (fun I fp wr P' St L c W hLc hL hfV hc hal hwr hcls hF=>vZ W hal (by simp[compEnvC,relabel,h.kind]) (h.bind L c) (fun d hd=>by simp at hd;obtain⟨_,_,rfl⟩:=hd;exact eH hLc)
   (fun b hb=>by
    rcases r4 hb with rfl|hb
    ·exact hL
    ·exact hc b (by simpa using hb)) hfV)
  (fun L c P' i Y v hF hi hw hbd hB=>by
   refine bG hB fun val hp hbn=>?_
   exact h.test L c i Y v val hi (hu.trans hw) hbd hbn.name ((hF i val hp).2.nx hw.nx))
  (fun L c P' i Y v hF hi hpi hw hbd hB=>by
   refine bG hB fun val hp hbn=>?_
   exact h.helt L c i Y v val hi hpi (hu.trans hw) hbd hbn.name ((hF i val hp).2.nx hw.nx)) hR
theorem DO(h:Lg prog w A X s env elt iter x px ifs scope pos cl own n f p g P cls):Pu V prog w A X s (eval (.ListComp elt [⟨.Name x px,iter,ifs,0⟩] scope pos) env) (Dt (.list (((bI n).filter p).map g))):=by
 refine .mk fun Y u hu hb Q E q=>?_
 rw[eval_ListComp]
 refine iS (use:=none) rfl h.fold h.clos h.kind h.names (h.hiter.go Y u hu hb _ E fun xv u₁ k₁ hx=>?_)
 refine CY (RR:=fun acc C=>compPost (model prog w) A E none Q acc C) h (hu.trans (.of_keeps k₁)) (hb.keeps k₁) hx fun D L s' k hL hm hpl hI=>?_
 exact oV (hb.keeps k₁).two k hL hm hI fun v s' k' hd=>q v s' (aN k₁ k') hd
noncomputable def Ky(ds:List aY):Hp V aG:=⟨fun X h v=>Is V X h v (.list ds)∧∃D ys,v= .ref D∧D∉V++X∧h.PlainList D ys,fun k x=>mF x.2 fun D ys e hn p=>⟨x.1.keep k,D,ys,e,hn,p.at fun o e=>k _ o (fun q=>hn (aL _ q)) e⟩⟩
theorem EA{ds:List aY}{X X':List Addr}{s s':aH}{v:aG}(n:Nx V X s X' s')(x:(Ky (V:=V) ds).p X s.heap v):(Ky (V:=V) ds).p X' s'.heap v:=by
 obtain⟨x,D,ys,e,hn,nn,p⟩:=x
 refine⟨x.nx n,D,ys,e,fun hm=>?_,nn,n.keep _ _ hn p⟩
 rcases eX hm with hm|hm
 ·exact hn (aL _ hm)
 rcases n.new D hm (fun q=>hn (aL _ q))with h|h
 ·exact hn (aJ _ h)
 ·replace p:=h▸p;cases p
theorem Ic(h:Lg prog w A X s env elt iter x px ifs scope pos cl own n f p g P cls):Pu V prog w A X s (eval (.ListComp elt [⟨.Name x px,iter,ifs,0⟩] scope pos) env) (Ky (((bI n).filter p).map g)):=by
 refine .mk fun Y u hu hb Q E q=>?_
 rw[eval_ListComp]
 refine iS (use:=none) rfl h.fold h.clos h.kind h.names (h.hiter.go Y u hu hb _ E fun xv u₁ k₁ hx=>?_)
 refine CY (RR:=fun acc C=>compPost (model prog w) A E none Q acc C) h (hu.trans (.of_keeps k₁)) (hb.keeps k₁) hx fun D L s' k hL hm hpl hI=>?_
 obtain⟨m,hm⟩:=hm
 refine⟨m,hm,fun h' hs=>?_⟩
 have mu:Mu V [L] s' {s' with heap:=h'}:=iK ((hb.keeps k₁).two.ne hL) hs
 have hDL:D≠L:=by
  rintro rfl
  refine oL hpl fun ys nn e=>?_
  refine pG hm fun o es ep e' d z=>?_
  rw[e]at e';obtain rfl:=a9 e';cases d
 have hI':Is V Y h' (.ref D) _:=(hI.nx (s':={s' with heap:=h'}) (mu.nx fun a ha=>by replace ha:=kQ ha;simp[ha])).less fun a ha=>aC _ ha
 refine q _ _ (aN k₁ (mu.keeps k fun b hb=>by replace hb:=kQ hb;obtain rfl:=hb.symm;exact hL)) ⟨hI',?_⟩
 (refine bK hpl fun ys hpl=>?_)
 refine B4 hI'.of_list fun D' o vs n' e hn z=>?_
 obtain rfl:=fN e
 exact⟨D,ys,rfl,hn,hpl.at fun o e=>mu.get (by with_reducible exact mt kQ hDL) (fun q=>hn (aL _ q)) e⟩
structure Lw(V:List Addr)(prog:fL)(w:cN)(A:jK)(X:List Addr)(s:aH)(env:Env)(elt iter:Expr)(x y:Str)(px py tp:Pos)(tk:Nat)(ifs:List Expr)(scope:Scope)(pos:Pos)(cl:List (Str×Addr))(own:Option Str)(ds:List aY)(f₁ f₂:Nat→aY)(p:Nat→Bool)(g:Nat→aY):Prop where
 hiter:Pu V prog w A X s (eval iter env) (Dt (.list ds))
 hh:A.handled=none
 hd:∀i,i<ds.length→ds[i]?=some (.list [f₁ i,f₂ i])
 hn:ds.length≤sizeLine
 test:∀L c i Y v v1 v2,i<ds.length→gM V X s Y v→Bd V Y v→fR V (compEnvC scope (bJ own c cl) L env) v.heap x v1→Is V Y v.heap v1 (f₁ i)→fR V (compEnvC scope (bJ own c cl) L env) v.heap y v2→Is V Y v.heap v2 (f₂ i)→Pu V prog w A Y v (j1 ifs (compEnvC scope (bJ own c cl) L env)) (Ex (p i))
 helt:∀L c i Y v v1 v2,i<ds.length→p i=true→gM V X s Y v→Bd V Y v→fR V (compEnvC scope (bJ own c cl) L env) v.heap x v1→Is V Y v.heap v1 (f₁ i)→fR V (compEnvC scope (bJ own c cl) L env) v.heap y v2→Is V Y v.heap v2 (f₂ i)→Pu V prog w A Y v (eval elt (compEnvC scope (bJ own c cl) L env)) (Dt (g i))
 clos:autoParam (closureFor scope env=pure cl) rf
 kind:autoParam (scope.kind= .function) rf
 names:autoParam (∀y∈scope.names,y.2= .local→scope.names.lookup y.1=some .local) dk
 lay:autoParam (∀h,pushCells h scope.names=qO own h) rf
 cells:autoParam (∀n,cellsFrom n scope.names cl=bJ own n cl) rf
 bindx:autoParam (∀L c,(compEnvC scope (bJ own c cl) L env).kindOf x=some .local) rf
 bindy:∀L c,qL (compEnvC scope (bJ own c cl) L env) (own.map fun z=>c) y
 xy:autoParam (x≠y) dk
 fold:autoParam (∀v,foldedSetIterable iter env v=pure v) rf
theorem DE{X:List Addr}{h:Heap}{a:aG}{d e:aY}(x:Is V X h a (.list [d,e])):∃l v1 v2,a= .ref l∧l∉V∧h.IsList l #[v1,v2]∧Is V X h v1 d∧Is V X h v2 e:=by
 (refine oX x.of_list' fun l vs e_0=>?_;subst e_0;refine fun hn hl ha=>?_)
 (refine mF ha.of_cons fun v1 vs e_0=>?_;subst e_0;refine fun h1 ha=>?_)
 (refine mF ha.of_cons fun v2 vs e_0=>?_;subst e_0;refine fun h2 ha=>?_)
 replace hl:=ha.of_nil▸hl
 exact⟨l,v1,v2,rfl,fun q=>hn (aL _ q),hl,h1,h2⟩
theorem nD{h:Heap}{a:Addr}{x y:Array aG}(p:h.IsList a x)(q:h.IsList a y):x=y:=by
 obtain⟨o,e,_,n,d⟩:=p
 obtain⟨o',e',_,n',d'⟩:=q
 rw[e]at e';obtain rfl:=a9 e'
 replace d':=d▸d';cases d';rfl
theorem HC{ds:List aY}{f₁ f₂:Nat→aY}{RR:aG→Addr→iR→aH→Prop}{E:aG→aH→Prop}{xv:aG}{Z:List Addr}{u:aH}(h:Lw V prog w A X s env elt iter x y px py tp tk ifs scope pos cl own ds f₁ f₂ p g)(hu:gM V X s Z u)(hb:Bd V Z u)(hx:Is V Z u.heap xv (.list ds))
  (hR:∀D L s',Keeps V u s'→u.heap.get? L=none→(∃m,s'.heap.Ns L m)→(∃ys,s'.heap.PlainList D ys)→Is V (L::Z) s'.heap (.ref D) (.list (((bI ds.length).filter p).map g))→RR (.ref D) L (.ok .next) s'):
  wpAny (model prog w) A (pyIter xv) (fun it s₂=>wpAny (model prog w) A (newList []) (fun acc s₃=>wpAny (model prog w) A (newFunctionEnv scope env.globals cl [] env.qual none .none (some env)) (fun cenv s₄=>
   codeAny (model prog w) A (.compStart (.ListComp elt [⟨.Tuple [.Name x px,.Name y py] tk tp,iter,ifs,0⟩] scope pos) 0 it acc {cenv with scope:=relabel scope env}) (RR acc cenv.locals) s₄) E s₃) E s₂) E u:=by
 have key:∀i v,i<ds.length→Is V Z u.heap v (ds[i]?.getD .none)→∃l v1 v2,v= .ref l∧l∉V∧u.heap.IsList l #[v1,v2]∧Is V Z u.heap v1 (f₁ i)∧Is V Z u.heap v2 (f₂ i):=fun i v hi hv=>by
  rw[h.hd i hi]at hv;exact DE hv
 have src:Jo (V:=V) prog w A (Dt (.list ds)) ds.length (fun i=>ds[i]?.getD .none) "list_iterator":=hW h.hh
 refine BB (P:=Dt (.list ds)) (B':=B2 V x y) hb hx src h.hn h.lay h.cells ?_ ?_ ?_ hR
 ·intro I fp wr P' St L c W hLc hL hfV hc hal hwr hcls hF
  refine CW h.hh W hal hcls (by simp[compEnvC,relabel,h.kind]) (h.bindx L c) (h.bindy L c) h.xy (fun d hd=>by simp at hd;obtain⟨_,_,rfl⟩:=hd;exact eH hLc) (fun b hb=>?_) hfV (fun i v hp=>?_) hwr
  ·rcases r4 hb with rfl|hb
   ·exact hL
   ·exact hc b (by simpa using hb)
  ·refine uK (key i v (hF i v hp).1 (hF i v hp).2) fun l v1 v2 e hV hl z=>?_
   exact⟨l,v1,v2,e,hV,hl⟩
 ·(intro L c P' i Y v hF hi hw hbd q_2;refine uK q_2 fun a v1 v2 hp hl b1 b2=>?_)
  refine B5 (key i _ hi (hF i _ hp).2) fun l w1 w2 e z hl' h1 h2=>?_
  obtain rfl:=fN e
  have:=nD hl hl'
  replace this:=J0 this
  (refine gE this fun e_0=>?_;subst e_0;refine fun e_0=>?_;subst e_0)
  exact h.test L c i Y v v1 v2 hi (hu.trans hw) hbd b1.name (h1.nx hw.nx) b2.name (h2.nx hw.nx)
 ·(intro L c P' i Y v hF hi hpi hw hbd q_4;refine uK q_4 fun a v1 v2 hp hl b1 b2=>?_)
  refine B5 (key i _ hi (hF i _ hp).2) fun l w1 w2 e z hl' h1 h2=>?_
  obtain rfl:=(fN e).symm
  have:=nD hl hl'
  replace this:=J0 this
  (refine gE this fun e_0=>?_;subst e_0;refine fun e_0=>?_;subst e_0)
  exact h.helt L c i Y v v1 v2 hi hpi (hu.trans hw) hbd b1.name (h1.nx hw.nx) b2.name (h2.nx hw.nx)
theorem KN{ds:List aY}{f₁ f₂:Nat→aY}(h:Lw V prog w A X s env elt iter x y px py tp tk ifs scope pos cl own ds f₁ f₂ p g):Pu V prog w A X s (eval (.ListComp elt [⟨.Tuple [.Name x px,.Name y py] tk tp,iter,ifs,0⟩] scope pos) env) (Dt (.list (((bI ds.length).filter p).map g))):=by
 refine .mk fun Y u hu hb Q E q=>?_
 rw[eval_ListComp]
 refine iS (use:=none) rfl h.fold h.clos h.kind h.names (h.hiter.go Y u hu hb _ E fun xv u₁ k₁ hx=>?_)
 refine HC (RR:=fun acc C=>compPost (model prog w) A E none Q acc C) h (hu.trans (.of_keeps k₁)) (hb.keeps k₁) hx fun D L s' k hL hm hpl hI=>?_
 exact oV (hb.keeps k₁).two k hL hm hI fun v s' k' hd=>q v s' (aN k₁ k') hd
end
structure KW V(K:Frag)(mg mb:Str→Option aG)(X:List Addr)(h:Heap):Prop where
 k:K.In (hideAll h (V++X))
 g:(hideAll h (V++X)).Ns mainGlobals mg
 b:(hideAll h (V++X)).Ns builtinsNs mb
 bi:∀x:Str,x≠("__name__":Str)→mb x=bootBuiltins x
theorem KW.nx{K:Frag}{mg mb:Str→Option aG}{X X':List Addr}{s s':aH}(x:KW V K mg mb X s.heap)(n:Nx V X s X' s'):KW V K mg mb X' s'.heap:=
 ⟨x.k.keeps (cS n),x.g.keeps (cS n),x.b.keeps (cS n),x.bi⟩
theorem KW.less{K:Frag}{mg mb:Str→Option aG}{X X':List Addr}{h:Heap}(x:KW V K mg mb X h)(i:∀a∈X',a∈X):KW V K mg mb X' h:=
 ⟨x.k.keeps (mJ i),x.g.keeps (mJ i),x.b.keeps (mJ i),x.bi⟩
theorem KW.get{K:Frag}{mg mb:Str→Option aG}{X:List Addr}{h:Heap}(x:KW V K mg mb X h){a:Addr}{o:Obj}(e:K.lookup a=some o):h.get? a=some o:=a6 _ (x.k a o e)
theorem KW.nin{K:Frag}{mg mb:Str→Option aG}{X:List Addr}{h:Heap}(x:KW V K mg mb X h){a:Addr}{o:Obj}(e:K.lookup a=some o):a∉V++X:=bZ (x.k a o e)
theorem KW.nV{K:Frag}{mg mb:Str→Option aG}{X:List Addr}{h:Heap}(x:KW V K mg mb X h){a:Addr}{o:Obj}(e:K.lookup a=some o):a∉V:=fun q=>x.nin e (aL _ q)
theorem kH{x:Str}{pos:Pos}{v:aG}(kw:KW V K mg mb X s.heap)(e:autoParam (nsIn K mainGlobals x=some (some v)) rf)(hg:autoParam (env.globals=mainGlobals) rf)(hk:autoParam (env.scope.kind= .function) rf)(hx:autoParam (env.kindOf x=some .globalImplicit) rf)(hd:autoParam ((x==("__debug__":Str))=false) dk):
  Pu V prog w A X s (eval (.Name x pos) env) (Ex v):=.mk fun Y u hu hb Q E q=>by
 have kw':=kw.nx hu.nx
 refine dH hk hx (loadGlobal_global (mg:=mg) (hg▸kw'.g.keeps fun z z e=>a6 _ e) (mg_of kw'.k kw'.g e) (q _ _ (cE u) rfl)) hd
theorem kF{x:Str}{pos:Pos}{v:aG}(kw:KW V K mg mb X s.heap)(hv:autoParam (bootBuiltins x=some v) rf)(e:autoParam (nsIn K mainGlobals x=some none) rf)(hg:autoParam (env.globals=mainGlobals) rf)(hb:autoParam (env.builtins=builtinsNs) rf)(hk:autoParam (env.scope.kind= .function) rf)(hx:autoParam (env.kindOf x=some .globalImplicit) rf)(hd:autoParam ((x==("__debug__":Str))=false) dk)(hn:autoParam (x≠("__name__":Str)) dk):
  Pu V prog w A X s (eval (.Name x pos) env) (Ex v):=.mk fun Y u hu hbd Q E q=>by
 have kw':=kw.nx hu.nx
 exact dH hk hx (eJ (mg:=mg) (mb:=mb) (hg▸kw'.g.keeps fun z z e=>a6 _ e) (kJ kw'.k kw'.g e) (hb▸kw'.b.keeps fun z z e=>a6 _ e) ((kw'.bi x hn).trans hv) (q _ _ (cE u) rfl)) hd
structure WP{α:Type}(prog:fL)(w:cN)(A:jK)(t:Sem α)(Q:α→aH→Prop)(E:aG→aH→Prop)(s:aH):Prop where
 out:wpAny (model prog w) A t Q E s
noncomputable def pY(env:Env):List Addr:=(env.cells.map (·.1)).filterMap fun n=>env.cells.lookup n
theorem fP{env:Env}{n:Str}{c:Addr}(h:env.cells.lookup n=some c):c∈pY env:=by
 unfold pY
 rw[List.mem_filterMap]
 exact⟨n,List.mem_map.mpr ⟨_,mem_of_lookup h,rfl⟩,h⟩
theorem iP{env:Env}{c:Addr}(h:c∈pY env):∃n,env.cells.lookup n=some c:=by
 unfold pY at h
 rw[List.mem_filterMap]at h
 refine bG h fun n z e=>?_
 exact⟨n,e⟩
noncomputable abbrev nB(env:Env):List Addr:=env.locals::pY env
structure fU V(u:aH)(env:Env)(X:List Addr)(s:aH)(m cm:Str→Option aG):Prop where
 keeps:Keeps V u s
 bd:Bd V X s
 l2:env.locals≠2
 cV:∀n c,env.cells.lookup n=some c→c∉V
 ns:s.heap.Ns env.locals m
 cell:∀n c,env.cells.lookup n=some c→s.heap.IsCell c (cm n)
 apart:env.cells.Pairwise fun x y=>x.2≠y.2
 lx:env.locals∈X
 lf:u.heap.get? env.locals=none
 cx:∀n c,env.cells.lookup n=some c→c∈X
 cf:∀n c,env.cells.lookup n=some c→u.heap.get? c=none
theorem fU.loc(F:fU V u env X s m cm){x:Str}{v:aG}(hv:m x=some v)(hl:autoParam (env.kindOf x=some .local) rf):fR V env s.heap x v:=.loc F.l2 F.ns hv hl
theorem fU.cel(F:fU V u env X s m cm){x:Str}{v:aG}{c:Addr}(hc:env.cells.lookup x=some c)(hv:cm x=some v)(hl:autoParam (env.kindOf x=some .cell) rf):fR V env s.heap x v:=.cell (F.cV x c hc) hc (by refine gU hv ?_;exact F.cell x c hc) hl
theorem fU.less(F:fU V u env X s m cm){X':List Addr}(i:∀a∈X',a∈X)(h:∀a∈nB env,a∈X'):fU V u env X' s m cm:=
 ⟨F.keeps,F.bd.less i,F.l2,F.cV,F.ns,F.cell,F.apart,h _ aF,F.lf,fun n c e=>h _ (aC _ (fP e)),F.cf⟩
theorem fU.inner(F:fU V u env X s m cm){cenv:Env}{x:Str}{v:aG}{c:Addr}{Y:List Addr}{t:aH}(hc:env.cells.lookup x=some c)(hv:cm x=some v)(hw:gM V X s Y t)(hc':autoParam (cenv.cells.lookup x=some c) rf)(hl:autoParam (cenv.kindOf x=some .cell) rf):fR V cenv t.heap x v:=
 .cell (F.cV x c hc) hc' (by refine gU hv ?_;exact gY (F.cell x c hc) fun o e=>a7 hw.keeps c o (F.cV x c hc) e) hl
theorem fU.keep(F:fU V u env X s m cm){s':aH}(k:Keeps V s s'):fU V u env X s' m cm:=
 ⟨aN F.keeps k,F.bd.keeps k,F.l2,F.cV,keeps_ns k F.l2 F.ns,fun n c e=>gY (F.cell n c e) fun o eo=>a7 k c o (F.cV n c e) eo,F.apart,F.lx,F.lf,F.cx,F.cf⟩
theorem A4{l:Addr}{s':aH}(hb:Bd V X s)(k:Mu V [l] s s')(hl:∃o,s'.heap.get? l=some o):Bd V X s':=⟨fun a ha=>by
 by_cases h:a=l
 ·obtain rfl:=h.symm;exact hl
 ·by_cases hV:a∈V
  ·refine bG ((k.two hb.two).al a hV) fun o e z=>?_;exact⟨o,e⟩
  ·refine bK (hb.al a ha) fun o e=>?_;exact⟨o,k.get (by with_reducible exact mt kQ h) hV e⟩,k.two hb.two⟩
theorem fU.mu(F:fU V u env X s m cm){s':aH}{l:Addr}(k:Mu V [l] s s')(hf:u.heap.get? l=none)(ho:∃o,s.heap.get? l=some o∧(∀es ep,o.data≠.dict es ep)∧∀v,o.data≠.cell v)(hl:∃o,s'.heap.get? l=some o):fU V u env X s' m cm:=by
 (refine nY ho fun o ho hd hc=>?_)
 have h1:env.locals≠l:=by
  rintro rfl
  refine pG F.ns fun o' es ep e e' z=>?_
  rw[ho]at e;obtain rfl:=a9 e
  exact hd _ _ e'
 have h2:∀n c,env.cells.lookup n=some c→c≠l:=by
  rintro n c e rfl
  refine bG (F.cell n c e) fun o' e1 e2=>?_
  rw[ho]at e1;obtain rfl:=a9 e1
  exact hc _ e2
 exact⟨k.keeps F.keeps (by simpa using hf),A4 F.bd k hl,F.l2,F.cV,k.ns F.l2 (by with_reducible exact mt kQ h1) F.ns,fun n c e=>gY (F.cell n c e) fun o eo=>k.get (by with_reducible exact mt kQ (h2 n c e)) (F.cV n c e) eo,F.apart,F.lx,F.lf,F.cx,F.cf⟩
theorem fU.inA(F:fU V u env X s m cm):∀a∈nB env,a∈X:=fun a ha=>by
 rcases nR ha with rfl|ha
 ·exact F.lx
 ·refine bK (iP ha) fun n e=>?_;exact F.cx n a e
theorem fU.nx(F:fU V u env X s m cm){s':aH}(mu:Mu V (nB env) s s'):Nx V X s X s':=mu.nx F.inA
theorem vY{s':aH}(mu:Mu V [env.locals] s s'):Mu V (nB env) s s':=mu.more fun a ha=>by replace ha:=kQ ha;simp[ha]
theorem fU.setL(F:fU V u env X s m cm){s':aH}{x:Str}{v:aG}(mu:Mu V [env.locals] s s')(hn:s'.heap.Ns env.locals (fun z=>if z=x then some v else m z)):fU V u env X s' (fun z=>if z=x then some v else m z) cm:=by
 have hl:∃o,s'.heap.get? env.locals=some o:=by refine s9 hn fun o j j e j=>?_;exact⟨o,e⟩
 refine⟨mu.keeps F.keeps (by simpa using F.lf),A4 F.bd mu hl,F.l2,F.cV,hn,fun n c e=>gY (F.cell n c e) fun o eo=>mu.get ?_ (F.cV n c e) eo,F.apart,F.lx,F.lf,F.cx,F.cf⟩
 intro hm
 replace hm:=kQ hm
 refine bG (F.cell n c e) fun o' e1 e2=>?_
 refine pG F.ns fun o2 es ep e3 e4 j=>?_
 rw[hm]at e1
 rw[e1]at e3;obtain rfl:=a9 e3;replace e4:=e2▸e4;cases e4
theorem oW{x:Str}{px pos:Pos}{e:Expr}{d:aY}{Q:Flow→aH→Prop}{E:aG→aH→Prop}(F:fU V u env X s m cm)(h:Pu V prog w A X s (eval e env) (Dt d))
  (q:∀v s',fU V u env X s' (fun z=>if z=x then some v else m z) cm→Mu V (nB env) s s'→Is V X s'.heap v d→Q .next s')
  (hs:autoParam (swapsWith e (some (.Name x px)) pos.line env=pure false) rf)(hk:autoParam (env.scope.kind= .function) rf)(hx:autoParam (env.kindOf x=some .local) rf):WP prog w A (exec (.Assign [.Name x px] e pos) env) Q E s:=
 .mk<|i7 (h.run F.bd fun v s₁ k₁ hv=>gN hx (keeps_ns k₁ F.l2 F.ns) (fun h' hn' hs'=>by
  have mu:Mu V [env.locals] s₁ {s₁ with heap:=h',toks:=s₁.toks+1}:=AR F.l2 hn' hs'
  have nx:Nx V X s₁ X {s₁ with heap:=h',toks:=s₁.toks+1}:=mu.nx fun a ha=>by replace ha:=kQ ha;subst ha;exact F.lx
  exact q v _ ((F.keep k₁).setL mu hn') ((Mu.of_keeps k₁).trans (vY mu)) (hv.nx nx)) (by refine aM hk ?_;rfl)) hs
theorem sO{x:Str}{px pos:Pos}{e:Expr}{d:aY}{c:Addr}{Q:Flow→aH→Prop}{E:aG→aH→Prop}(F:fU V u env X s m cm)(hc:env.cells.lookup x=some c)(h:Pu V prog w A X s (eval e env) (Dt d))
  (q:∀v s',fU V u env X s' m (fun z=>if z=x then some v else cm z)→Mu V (nB env) s s'→Is V X s'.heap v d→Q .next s')
  (hs:autoParam (swapsWith e (some (.Name x px)) pos.line env=pure false) rf)(hk:autoParam (env.scope.kind= .function) rf)(hx:autoParam (env.kindOf x=some .cell) rf):WP prog w A (exec (.Assign [.Name x px] e pos) env) Q E s:=
 .mk<|i7 (h.run F.bd fun v s₁ k₁ hv=>nG hk hx hc ((F.keep k₁).cell x c hc) fun h' hc' hs'=>by
  have F₁:=F.keep k₁
  have mu:Mu V [c] s₁ {s₁ with heap:=h'}:=iK (F.cV _ _ hc) hs'
  have cin:=mem_of_lookup hc
  have nx:Nx V X s₁ X {s₁ with heap:=h'}:=mu.nx fun a ha=>by replace ha:=kQ ha;obtain rfl:=ha.symm;exact F.cx _ _ hc
  have hne:env.locals≠c:=by
   intro hm
   refine bG (F₁.cell x c hc) fun o' e1 e2=>?_
   refine pG F₁.ns fun o2 es ep e3 e4 j=>?_
   rw[hm]at e3
   rw[e1]at e3;obtain rfl:=a9 e3;replace e4:=e2▸e4;cases e4
  refine q v _ ⟨mu.keeps F₁.keeps (by simpa using F.cf _ _ hc),A4 F₁.bd mu (let⟨o,e,_⟩:=hc';⟨o,e⟩),F.l2,F.cV,F₁.ns.sameBut hs' hne,fun n c' e=>?_,F.apart,F.lx,F.lf,F.cx,F.cf⟩ ((Mu.of_keeps k₁).trans (mu.more fun a ha=>by replace ha:=kQ ha;obtain rfl:=ha.symm;exact aC _ (fP hc))) (hv.nx nx)
  by_cases hnx:n=x
  ·obtain rfl:=hnx.symm
   rw[hc]at e;obtain rfl:=a9 e
   simpa using hc'
  ·have hcc:c'≠c:=by
    rintro rfl
    exact hnx (name_of_addr F.apart (mem_of_lookup e) cin)
   simp only[hnx,if_false]
   exact(F₁.cell n c' e).sameBut hs' hcc) hs
theorem Hx{x:Str}{px pos:Pos}{e:Expr}{P:Hp V aG}{c:Addr}{Q:Flow→aH→Prop}{E:aG→aH→Prop}(F:fU V u env X s m cm)(hc:env.cells.lookup x=some c)(h:Pu V prog w A X s (eval e env) P)(hP:∀{X X':List Addr} {s s':aH} {v:aG},Nx V X s X' s'→P.p X s.heap v→P.p X' s'.heap v)
  (q:∀v s',fU V u env X s' m (fun z=>if z=x then some v else cm z)→Mu V (nB env) s s'→P.p X s'.heap v→Q .next s')
  (hs:autoParam (swapsWith e (some (.Name x px)) pos.line env=pure false) rf)(hk:autoParam (env.scope.kind= .function) rf)(hx:autoParam (env.kindOf x=some .cell) rf):WP prog w A (exec (.Assign [.Name x px] e pos) env) Q E s:=
 .mk<|i7 (h.run F.bd fun v s₁ k₁ hv=>nG hk hx hc ((F.keep k₁).cell x c hc) fun h' hc' hs'=>by
  have F₁:=F.keep k₁
  have mu:Mu V [c] s₁ {s₁ with heap:=h'}:=iK (F.cV _ _ hc) hs'
  have cin:=mem_of_lookup hc
  have nx:Nx V X s₁ X {s₁ with heap:=h'}:=mu.nx fun a ha=>by replace ha:=kQ ha;obtain rfl:=ha.symm;exact F.cx _ _ hc
  have hne:env.locals≠c:=by
   intro hm
   refine bG (F₁.cell x c hc) fun o' e1 e2=>?_
   refine pG F₁.ns fun o2 es ep e3 e4 j=>?_
   rw[hm]at e3
   rw[e1]at e3;obtain rfl:=a9 e3;replace e4:=e2▸e4;cases e4
  refine q v _ ⟨mu.keeps F₁.keeps (by simpa using F.cf _ _ hc),A4 F₁.bd mu (let⟨o,e,_⟩:=hc';⟨o,e⟩),F.l2,F.cV,F₁.ns.sameBut hs' hne,fun n c' e=>?_,F.apart,F.lx,F.lf,F.cx,F.cf⟩ ((Mu.of_keeps k₁).trans (mu.more fun a ha=>by replace ha:=kQ ha;obtain rfl:=ha.symm;exact aC _ (fP hc))) (hP nx hv)
  by_cases hnx:n=x
  ·obtain rfl:=hnx.symm
   rw[hc]at e;obtain rfl:=a9 e
   simpa using hc'
  ·have hcc:c'≠c:=by
    rintro rfl
    exact hnx (name_of_addr F.apart (mem_of_lookup e) cin)
   simp only[hnx,if_false]
   exact(F₁.cell n c' e).sameBut hs' hcc) hs
section
variable {yy:Str} {ypos spos:Pos} {own:Option Str} {g:Nat→aY} {P:Hp V aG}
end
theorem eS{st:Stmt}{rest:List Stmt}{Q:Flow→aH→Prop}{E:aG→aH→Prop}(h:WP prog w A (exec st env) (fun f s'=>f= .next∧WP prog w A (execs rest env) Q E s') E s):WP prog w A (execs (st::rest) env) Q E s:=
 .mk<|dQ (bD h.out (fun f s' ⟨e,h'⟩=>by subst e;exact h'.out) fun z z e=>e)
theorem qK{e:Expr}{pos:Pos}{rest:List Stmt}{d:aY}{Q:Flow→aH→Prop}{E:aG→aH→Prop}(F:fU V u env X s m cm)(h:Pu V prog w A X s (eval e env) (Dt d))(q:∀v s',fU V u env X s' m cm→Mu V (nB env) s s'→Is V X s'.heap v d→Q (.ret v) s'):
  WP prog w A (execs (.Return (some e) pos::rest) env) Q E s:=
 .mk<|dQ (kE (h.run F.bd fun v s' k hv=>q v s' (F.keep k) (Mu.of_keeps k) hv))
theorem xS{t:Expr}{a b:List Stmt}{pos:Pos}{c:Bool}{Q:Flow→aH→Prop}{E:aG→aH→Prop}(F:fU V u env X s m cm)(h:Pu V prog w A X s (isTrue t env (eval t env)) (Ex c))
  (q:∀s',fU V u env X s' m cm→Keeps V s s'→WP prog w A (execs (if c then a else b) env) Q E s'):WP prog w A (exec (.If t a b pos) env) Q E s:=
 .mk<|wpAny_If (h.run F.bd fun c' s' k hc=>by
  cases (hc:c'=c)
  have:=(q s' (F.keep k) k).out
  cases c<;>exact this)
noncomputable abbrev kD(env:Env)(Y:List Addr):List Addr:=env.locals::pY env++Y
theorem x7{f:Addr}{vals:List aG}{oc:aG}{od:Option Addr}{osl:Array (Option aG)}{fd:FuncData}{body:List Stmt}{binds:List (Str×aG)}{R:Hp V aG}{n:Nat}(env:Addr→Env)(kw:KW V K mg mb X s.heap)(r:dK A (n+1))
  (ho:K.lookup f=some ⟨oc,od,.func fd,osl⟩)(hcd:codeIn K fd.code fd.qualname=true)(hbody:fd.body= .stmts body)(hbind:bindArgs fd ⟨vals,[]⟩=pure binds)(hclo:fd.closure=[])
  (hkind:∀L,∀x∈binds,fd.scope.names.lookup x.1=some .local∨(fd.scope.names.lookup x.1=some .cell∧((cellsFrom L fd.scope.names []).lookup x.1).isSome=true))
  (henv:∀L,callEnvC fd L f=env L)
  (h:∀L Y u s₁ (Q:Flow→aH→Prop) (E:aG→aH→Prop),gM V X s Y u→Nx V X s (kD (env L) Y) s₁→fU V u (env L) (kD (env L) Y) s₁ (bindL (env L).kindOf binds fun z=>none) (bindC (env L).kindOf binds fun z=>none)→
   (∀v s',Keeps V u s'→R.p Y s'.heap v→Q (.ret v) s')→WP prog w (A.deeper (env L)) (execs body (env L)) Q E s₁)
  (hco:autoParam (fd.scope.isCoroutine=false) rf)(hgen:autoParam (fd.scope.isGenerator=false) rf)(hk:autoParam (fd.scope.kind= .function) rf):Pu V prog w A X s (call (.ref f) vals) R:=by
 refine .mk fun Y u hu hb Q E q=>?_
 have kw':=kw.nx hu.nx
 simp only[←henv]at h
 have hrec:u.heap.CodeRec fd.code fd.qualname:=codeRec_of (kw'.k.keeps fun z z e=>a6 _ e) hcd
 refine wpAny_runValue (codeAny_call_cells r.d (kw'.get ho) rfl hb.two.lim hrec hbody hbind hclo (hkind _) (fun s₁ I=>?_) hco hgen hk)
 have k₁:Keeps V u s₁:=by(refine fO I.done fun h' tk e_0=>?_;subst e_0;refine fun k=>?_);exact lU k
 have hLf:u.heap.get? (callEnvC fd u.heap.objs.size f).locals=none:=gB I.toInCall.fresh
 have hcf:∀n c,(callEnvC fd u.heap.objs.size f).cells.lookup n=some c→u.heap.get? c=none:=fun n c hm=>gB (bA (aR I.toInCall.fresh (I.above n c (mem_of_lookup hm))))
 have hw:gM V Y u (kD (callEnvC fd u.heap.objs.size f) Y) s₁:=⟨k₁,fun a ha=>aJ _ ha,fun a ha z=>by
  rcases eX ha with h|h
  ·rcases nR h with rfl|h
   ·exact .inr hLf
   ·refine bK (iP h) fun n e=>?_;exact .inr (hcf n a e)
  ·exact .inl h⟩
 have hbd:Bd V (kD (callEnvC fd u.heap.objs.size f) Y) s₁:=⟨fun a ha=>by
  rcases eX ha with h|h
  ·rcases nR h with rfl|h
   ·refine s9 I.toInCall.ns fun o z z e z=>?_;exact⟨o,e⟩
   ·refine bK (iP h) fun n e=>?_
    refine bG (I.cell n a e) fun o e z=>?_
    exact⟨o,e⟩
  ·exact(hb.keeps k₁).al a h,gL k₁ hb.two⟩
 refine(h _ Y u s₁ _ _ hu (hu.trans hw).nx ⟨k₁,hbd,hb.two.ne2 hLf,fun n c e=>hb.two.ne (hcf n c e),I.toInCall.ns,I.cell,I.apart,aF,hLf,fun n c e=>?_,hcf⟩ fun v s' k hv=>q v s' k hv).out
 exact aL _ (aC _ (fP e))
theorem ER{X:List Addr}{h:Heap}:∀{texts:List Str} {vs:List aG},cA V X h vs (texts.map .str)→∃l:List (Str×Tok),vs=strValues l∧l.map (·.1)=texts
 |[],vs,x=>⟨[],by refine aM x.of_nil ?_;rfl,rfl⟩
 |y::r,vs,x=>by
  (refine mF (cA.of_cons x) fun v vs' e_0=>?_;subst e_0;refine fun xv x'=>?_)
  (refine bK (Is.of_str xv) fun t e_0=>?_;subst e_0)
  (refine bG (ER x') fun l e_0=>?_;subst e_0;refine fun e=>?_)
  exact⟨(y,t)::l,rfl,by simp[e]⟩
theorem Ak{o e:Expr}{apos pos:Pos}{sep:Str}{texts:List Str}(ho:Pu V prog w A X s (eval o env) (Dt (.str sep)))(he:Pu V prog w A X s (eval e env) (Dt (.list (texts.map .str))))(hok:JoinOk sep texts=true)
  (hbase:autoParam (attributeBase o ("join":Str) env (eval o env)=eval o env) rf)(hs:autoParam (starEach [e] env=[(false,eval e env)]) rf)(hline:autoParam ((apos.endLine==pos.line)=true) rf):Pu V prog w A X s (eval (.Call (.Attribute o ("join":Str) apos) [e] [] pos) env) (Dt (.str (Txt.join sep texts))):=
 .mk fun Y u hu hb Q E q=>Call_method1 hbase hs hline (ho.go Y u hu hb _ E fun v u₁ k₁ hv=>by
  (refine bK (Is.of_str hv) fun t e_0=>?_;subst e_0)
  refine SB.join (he.go Y u₁ (hu.trans (.of_keeps k₁)) (hb.keeps k₁) _ E fun v u₂ k₂ hv=>?_)
  (refine oX (Is.of_list' hv) fun l vs e_0=>?_;subst e_0;refine fun z hl ha=>?_)
  (refine bG (ER ha) fun ls e_0=>?_;subst e_0;refine fun e=>?_)
  exact⟨l,ls,rfl,hl,texts,e,hok,fun t' k=>q _ _ (aN k₁ (aN k₂ (d9 u₂ k))) (Is.str _ _)⟩)
theorem G3{o e:Expr}{apos pos:Pos}{x y:Str}(ho:Pu V prog w A X s (eval o env) (Dt (.str x)))(he:Pu V prog w A X s (eval e env) (Dt (.str y)))(hx:x.length≤sizeLine)
  (hbase:autoParam (attributeBase o ("strip":Str) env (eval o env)=eval o env) rf)(hs:autoParam (starEach [e] env=[(false,eval e env)]) rf)(hline:autoParam ((apos.endLine==pos.line)=true) rf):Pu V prog w A X s (eval (.Call (.Attribute o ("strip":Str) apos) [e] [] pos) env) (Dt (.str (Txt.stripChars x y))):=
 .mk fun Y u hu hb Q E q=>Call_method1 hbase hs hline (ho.go Y u hu hb _ E fun v u₁ k₁ hv=>by
  (refine bK (Is.of_str hv) fun t e_0=>?_;subst e_0)
  refine SB.stripChars (hsz:=hx) (he.go Y u₁ (hu.trans (.of_keeps k₁)) (hb.keeps k₁) _ E fun v u₂ k₂ hv=>?_)
  (refine bK (Is.of_str hv) fun t' e_0=>?_;subst e_0)
  exact⟨y,t',rfl,fun t' k=>q _ _ (aN k₁ (aN k₂ (d9 u₂ k))) (Is.str _ _)⟩)
noncomputable def Lu(V:List Addr)(prog:fL)(w:cN)(A:jK)(x:Str):Prop:=∃cls,Jo (V:=V) prog w A (Dt (.str x)) x.cps.size (fun i=>.str ⟨#[(x.cps[i]?).getD 0]⟩) cls
theorem IZ{x:Str}(hh:A.handled=none):Lu V prog w A x:=by
 cases ha:x.cps.all (·<128)
 ·refine⟨"str_iterator",?_⟩
  intro y Y u hx hb Q E q
  (refine bK (Is.of_str hx) fun t e_0=>?_;subst e_0)
  refine wpAny_pyIter_wide ha ?_
  have hit:(u.heap.push {cls:=.type "str_iterator",data:=.fields #[.str x t,rawInt 0]}).get? u.heap.objs.size=some {cls:=.type "str_iterator",data:=.fields #[.str x t,rawInt 0]}:=aW _ rfl
  refine q _ _ _ _ _ _ (fF u _) (Walks.strWide hh _ x t) ⟨_,hit,rfl,rfl⟩ ?_ ?_ ?_ ?_ ?_
  ·intro b hb';simp at hb';subst hb';exact⟨⟨_,hit⟩,hb.fresh⟩
  ·intro b hb';simp at hb';subst hb';exact dG _
  ·intro i h st b hb';simp at hb';subst hb';refine bG st fun o e z=>?_;exact⟨o,e⟩
  ·intro i h st;refine nY st fun o e hc z=>?_;exact⟨o,e,hc⟩
  ·rintro i v ⟨c,t',hc,rfl⟩
   have:i<x.cps.size:=by
    rcases eM i x.cps.size with h|h
    ·exact h
    ·rw[g7 h]at hc;cases hc
   exact⟨this,by dsimp only;refine aM hc ?_;exact Is.str _ _⟩
 ·refine⟨"str_ascii_iterator",?_⟩
  intro y Y u hx hb Q E q
  (refine bK (Is.of_str hx) fun t e_0=>?_;subst e_0)
  refine wpAny_pyIter_ascii ha ?_
  have hit:(u.heap.push {cls:=.type "str_ascii_iterator",data:=.fields #[.str x t,rawInt 0]}).get? u.heap.objs.size=some {cls:=.type "str_ascii_iterator",data:=.fields #[.str x t,rawInt 0]}:=aW _ rfl
  refine q _ _ _ _ _ _ (fF u _) (Walks.strAscii hh _ x t) ⟨_,hit,rfl,rfl⟩ ?_ ?_ ?_ ?_ ?_
  ·intro b hb';simp at hb';subst hb';exact⟨⟨_,hit⟩,hb.fresh⟩
  ·intro b hb';simp at hb';subst hb';exact dG _
  ·intro i h st b hb';simp at hb';subst hb';refine bG st fun o e z=>?_;exact⟨o,e⟩
  ·intro i h st;refine nY st fun o e hc z=>?_;exact⟨o,e,hc⟩
  ·rintro i v ⟨c,t',hc,rfl⟩
   have:i<x.cps.size:=by
    rcases eM i x.cps.size with h|h
    ·exact h
    ·rw[g7 h]at hc;cases hc
   exact⟨this,by dsimp only;refine aM hc ?_;exact Is.str _ _⟩
noncomputable def tK(env:Env)(x:Str):Prop:=env.kindOf x=some .local∨(env.kindOf x=some .cell∧(env.cells.lookup x).isSome=true)
noncomputable def q9(env:Env)(x:Str)(v:aG)(m:Str→Option aG):Str→Option aG:=if env.kindOf x=some .local then fun z=>if z=x then some v else m z else m
noncomputable def sI(env:Env)(x:Str)(v:aG)(cm:Str→Option aG):Str→Option aG:=if env.kindOf x=some .local then cm else fun z=>if z=x then some v else cm z
theorem fU.store(F:fU V u env X s m cm){x:Str}{v:aG}{Q:Unit→aH→Prop}{E:aG→aH→Prop}(hk:env.scope.kind= .function)(hx:tK env x)
  (q:∀s',fU V u env X s' (q9 env x v m) (sI env x v cm)→Mu V (nB env) s s'→Q () s'):wpAny (model prog w) A (storeName env x v) Q E s:=by
 rcases hx with hl|⟨hl,hc⟩
 ·refine gN hl F.ns (fun h' hn' hs'=>?_) (by refine aM hk ?_;rfl)
  have mu:Mu V [env.locals] s {s with heap:=h',toks:=s.toks+1}:=AR F.l2 hn' hs'
  refine q _ ?_ (vY mu)
  simp only[q9,sI,hl,if_true]
  exact F.setL mu hn'
 ·refine bK (Option.isSome_iff_exists.mp hc) fun c hc=>?_
  refine nG hk hl hc (F.cell x c hc) fun h' hc' hs'=>?_
  have mu:Mu V [c] s {s with heap:=h'}:=iK (F.cV _ _ hc) hs'
  have cin:=mem_of_lookup hc
  have hne:env.locals≠c:=by
   intro hm
   refine bG (F.cell x c hc) fun o' e1 e2=>?_
   refine pG F.ns fun o2 es ep e3 e4 z=>?_
   rw[hm]at e3
   rw[e1]at e3;obtain rfl:=a9 e3;replace e4:=e2▸e4;cases e4
  refine q _ ?_ (mu.more fun a ha=>by replace ha:=kQ ha;obtain rfl:=ha.symm;exact aC _ (fP hc))
  simp only[q9,sI,hl]
  refine⟨mu.keeps F.keeps (by simpa using F.cf _ _ hc),A4 F.bd mu (let⟨o,e,_⟩:=hc';⟨o,e⟩),F.l2,F.cV,F.ns.sameBut hs' hne,fun n c' e=>?_,F.apart,F.lx,F.lf,F.cx,F.cf⟩
  by_cases hnx:n=x
  ·obtain rfl:=hnx.symm
   rw[hc]at e;obtain rfl:=a9 e
   simpa using hc'
  ·have hcc:c'≠c:=by
    rintro rfl
    exact hnx (name_of_addr F.apart (mem_of_lookup e) cin)
   simp[hnx]
   exact(F.cell n c' e).sameBut hs' hcc
structure iI(V X:List Addr)(u s:aH)(l:Addr)(ds:List aY):Prop where
 ys:∃ys:Array aG,s.heap.PlainList l ys∧cA V X s.heap ys.toList ds
 lx:l∈X
 lf:u.heap.get? l=none
 lV:l∉V
theorem iI.mu(o:iI V X u s l ds){s':aH}(n:Nx V X s X s')(k:∀ob,s.heap.get? l=some ob→s'.heap.get? l=some ob):iI V X u s' l ds:=
 let⟨ys,p,a⟩:=o.ys;⟨⟨ys,p.at k,a.nx n⟩,o.lx,o.lf,o.lV⟩
theorem iI.nx{X':List Addr}{l:Addr}{ds:List aY}(o:iI V X u s l ds){s':aH}(n:Nx V X s X' s')(hl:l∈X')(k:∀ob,s.heap.get? l=some ob→s'.heap.get? l=some ob):iI V X' u s' l ds:=
 let⟨ys,p,a⟩:=o.ys;⟨⟨ys,p.at k,a.nx n⟩,hl,o.lf,o.lV⟩
theorem iI.keep{l:Addr}{ds:List aY}(o:iI V X u s l ds){s':aH}(k:Keeps V s s'):iI V X u s' l ds:=
 let⟨ys,p,a⟩:=o.ys;⟨⟨ys,p.at fun ob e=>a7 k _ ob o.lV e,a.keep (a7 k)⟩,o.lx,o.lf,o.lV⟩
theorem iI.notA{l:Addr}{ds:List aY}(o:iI V X u s l ds)(F:fU V u env X s m cm):l∉nB env:=by
 (refine bG o.ys fun ys q_3 a=>?_;refine bK q_3 fun n e=>?_)
 intro hm
 rcases nR hm with rfl|hm
 ·refine pG F.ns fun o2 es ep e3 e4 z=>?_
  rw[e]at e3;obtain rfl:=a9 e3;cases e4
 ·refine bK (iP hm) fun n ec=>?_
  refine bG (F.cell n l ec) fun o' e1 e2=>?_
  rw[e]at e1;obtain rfl:=a9 e1;cases e2
theorem iI.muA{l:Addr}{ds:List aY}(o:iI V X u s l ds)(F:fU V u env X s m cm){s':aH}(k:Mu V (nB env) s s'):iI V X u s' l ds:=
 o.mu (F.nx k) fun ob e=>k.get (o.notA F) o.lV e
theorem iI.fra{l:Addr}{ds ds':List aY}(o:iI V X u s l ds)(F:fU V u env X s m cm){s':aH}(k:Mu V [l] s s')(o':iI V X u s' l ds'):fU V u env X s' m cm:=by
 (refine bG o.ys fun ys q_4 a=>?_;refine bK q_4 fun n e=>?_)
 (refine bG o'.ys fun ys' q_5 a'=>?_;refine bK q_5 fun n' e'=>?_)
 exact F.mu k o.lf ⟨_,e,(fun z z h=>by cases h),(fun z h=>by cases h)⟩ ⟨_,e'⟩
theorem iI.is{l:Addr}{ds:List aY}{X':List Addr}(o:iI V X u s l ds)(i:∀a∈X',a∈X)(hl:l∉X'):Is V X' s.heap (.ref l) (.list ds):=by
 (refine bG o.ys fun ys q_6 a=>?_;refine bK q_6 fun n e=>?_)
 exact Is.list (fun q=>(eX q).elim o.lV hl) e rfl rfl (a.less i)
theorem iI.len{l:Addr}{ds:List aY}(o:iI V X u s l ds):∃ys:Array aG,s.heap.PlainList l ys∧cA V X s.heap ys.toList ds∧ys.size=ds.length:=by
 refine bG o.ys fun ys p a=>?_
 exact⟨ys,p,a,by have:=a.length;exact this⟩
theorem rY{l:Addr}{ds:List aY}{d:aY}{o e:Expr}{apos cpos pos:Pos}{Q:Flow→aH→Prop}{E:aG→aH→Prop}(F:fU V u env X s m cm)(W:iI V X u s l ds)(hl:Pu V prog w A X s (eval o env) (Ex (.ref l)))(he:Pu V prog w A X s (eval e env) (Dt d))(hz:ds.length≤sizeLine)
  (q:∀s',fU V u env X s' m cm→Mu V [l] s s'→iI V X u s' l (ds++[d])→Q .next s')
  (hbase:autoParam (attributeBase o ("append":Str) env (eval o env)=eval o env) rf)(hs:autoParam (starEach [e] env=[(false,eval e env)]) rf)(hline:autoParam ((apos.endLine==cpos.line)=true) rf)(hi:autoParam (interactive env=false) rf)
  (hsw:autoParam (swapsWith (.Call (.Attribute o ("append":Str) apos) [e] [] cpos) none pos.line env=pure false) rf):
  WP prog w A (exec (.Expr (.Call (.Attribute o ("append":Str) apos) [e] [] cpos) pos) env) Q E s:=by
 refine .mk<|wpAny_Expr (hi:=hi) (hs:=hsw) (Call_method1 hbase hs hline (hl.run F.bd fun v s₁ k₁ hv=>?_))
 cases (hv:v= .ref l)
 have W₁:=W.keep k₁
 (refine bG W₁.ys fun ys q_7 a=>?_;refine bK q_7 fun n e1=>?_)
 refine⟨"list","list.append",sG,slot_list_append,PySem.F.type_list_append,⟨_,e1,rfl⟩,fun a' ha'=>(by obtain rfl:=fN ha';exact⟨_,e1,rfl⟩),?_⟩
 refine f6 rfl (iM (fW (he.go X s₁ (.of_keeps k₁) (F.bd.keeps k₁) _ _ fun v s₂ k₂ hv=>fK ?_)))
 have W₂:=W₁.keep k₂
 refine nY W₂.len fun ys p a hys=>?_
 refine lH p (fun h' hp' hs'=>?_) (by refine aM hys ?_;exact hz)
 have mu:Mu V [l] s₂ {s₂ with heap:=h'}:=iK W.lV hs'
 have nx:Nx V X s₂ X {s₂ with heap:=h'}:=mu.nx fun a ha=>by replace ha:=kQ ha;obtain rfl:=ha.symm;exact W.lx
 have W₃:iI V X u {s₂ with heap:=h'} l (ds++[d]):=⟨⟨_,hp',by simpa using (a.append (cA.cons hv .nil)).nx nx⟩,W.lx,W.lf,W.lV⟩
 have F₂:=(F.keep k₁).keep k₂
 exact q _ (W₂.fra F₂ mu W₃) ((Mu.of_keeps (aN k₁ k₂)).trans mu) W₃
theorem I0{l:Addr}{items:Array aG}{t:Tok}{v:aG}{Q:Unit→aH→Prop}{E:aG→aH→Prop}(hl:s.heap.PlainList l items)(h0:0<items.size)
  (hQ:∀h',h'.PlainList l (items.setIfInBounds (items.size-1) v)→bY l s.heap h'→Q () {s with heap:=h'}):wpAny (model prog w) A (setItem (.ref l) (.int (-1) t) v) Q E s:=by
 have hl':=hl.isList
 refine bK hl fun ne ho=>?_
 unfold setItem
 try with_reducible refine a8 ?_
 first|refine aB (aE ?_)|skip
 refine aB (wpAny_sequenceKey hl'.typeIs (by decide) ?_)
 refine aB (dZ (name:=aA "__setitem__") hl'.typeIs slot_list_setitem
  (dB slot_list_setitem hl'.typeIs entry_list_setitem ?_ (args_list_setitem _ _ _)))
 show wpAny _ _ (Builtin.List.listSubscript? (.int (-1) t)>>=_) _ _ s
 refine aB (wpAny_listSubscript_int (fitsIndex_neg (by decide) (by decide)) ?_)
 have hidx:seqIndex? (-1) items.size=some (items.size-1):=by
  refine aM (seqIndex_neg (by decide) (Jd h0)) ?_
  exact congrArg some (LU h0)
 refine aB (aB ?_)
 refine aB (nH ho rfl (aE (aE ?_)))
 have hx:items[items.size-1]?=some items[items.size-1]:=jP (by omega)
 refine aM hidx ?_
 simp only[mQ,hx,Option.map_some]
 have key:∃n',eO (·.setIfInBounds (items.size-1) v) {cls:=.type "list",data:=.seq items ne}=({cls:=.type "list",data:=.seq (items.setIfInBounds (items.size-1) v) n'}:Obj):=by
  refine⟨_,rfl⟩
 (refine bK key fun n' key=>?_)
 have hfin:(s.heap.update l (eO (·.setIfInBounds (items.size-1) v))).PlainList l (items.setIfInBounds (items.size-1) v):=
  ⟨n',by rw[cW _ ho (by refine aM key ?_;rfl),key]⟩
 refine aB (wpAny_setSeqItemAt ho rfl ?_)
 first
  |exact aB (aE (aE ⟨.none,rfl,aE (hQ _ hfin (cU ..))⟩))
  |exact aE ⟨.none,rfl,aE (hQ _ hfin (cU ..))⟩
theorem Ik{v i:Expr}{l:Addr}{ds:List aY}{t:Tok}{d:aY}(o:iI V X u s l ds)(hd:ds.getLast?=some d)
  (hs:∀l,subscripted i false (.ref l) (.int (-1) t)=operate [.ref l,.int (-1) t] (getItem (.ref l) (.int (-1) t))):Pu V prog w A X s (subscriptTail v i (.ref l) (.int (-1) t)) (Dt d):=by
 refine .mk fun Y s' hu hbd Q E q=>?_
 refine nY o.len fun ys p a hys=>?_
 have p':s'.heap.PlainList l ys:=p.at fun ob e=>a7 hu.keeps _ ob o.lV e
 have h0:ds≠[]:=by rintro rfl;cases hd
 have hlen:0<ds.length:=List.length_pos_iff.mpr h0
 have hys':0<ys.size:=hys.symm▸hlen
 have hd':ds[ds.length-1]?=some d:=by rw[←List.getLast?_eq_getElem?];exact hd
 refine bG ((a.nx hu.nx).at hd') fun x hx hxd=>?_
 refine tail_any p'.isList.typeIs slot_list_getitem.lookup (wpAny_getItem_list_neg p'.isList (by decide) (Jd hys') (by decide) (x:=x) ?_ (q _ _ (cE s') hxd)) (hs l)
 have:(-1+(ys.size:Int)).toNat=ds.length-1:=hys▸LU hys'
 refine aM this ?_
 simpa using hx
theorem I8{v:Expr}{pos p1 p2:Pos}{k:Nat}{l:Addr}{ds:List aY}{d:aY}(o:iI V X u s l ds)(hv:Pu V prog w A X s (eval v env) (Ex (.ref l)))(hd:ds.getLast?=some d):Pu V prog w A X s (eval (.Subscript v (.UnaryOp .USub (.Constant (.int 1) k p1) p2) pos) env) (Dt d):=
 n4 (P₂:=Dt (.int (-1))) hv (.mk fun Y u hu hb Q E q=>UnaryOp_ (oR (neg_int (q _ _ (aN (d9 u _) (d9 _ _)) (Is.int _ _))))) fun Y u' x y hu hb px py=>by
  cases (px:x= .ref l)
  (refine bK (Is.of_int py) fun t e_0=>?_;subst e_0)
  have o':iI V Y u u' l ds:=let⟨ys,p,a⟩:=o.ys;⟨⟨ys,p.at fun ob e=>a7 hu.keeps _ ob o.lV e,a.nx hu.nx⟩,hu.inc _ o.lx,o.lf,o.lV⟩
  exact Ik o' hd fun l=>rfl
theorem Dj{X:List Addr}{h:Heap}{vs:List aG}{ds:List aY}{d e:aY}{v:aG}(a:cA V X h vs (ds++[e]))(x:Is V X h v d):cA V X h (vs.set (vs.length-1) v) (ds++[d]):=by
 (refine mF a.of_append fun us ws e_0=>?_;subst e_0;refine fun a1 a2=>?_)
 (refine mF a2.of_cons fun w r e_0=>?_;subst e_0;refine fun z a3=>?_)
 refine aM a3.of_nil ?_
 have:(us++[w]).set ((us++[w]).length-1) v=us++[v]:=by simp
 refine aM this ?_
 exact a1.append (.cons x .nil)
theorem DJ{l:Addr}{ds:List aY}{d e:aY}{o ex:Expr}{p1 p2 p3 pos:Pos}{k:Nat}{Q:Flow→aH→Prop}{E:aG→aH→Prop}(F:fU V u env X s m cm)(W:iI V X u s l (ds++[e]))(he:Pu V prog w A X s (eval ex env) (Dt d))(hl:Pu V prog w A X s (eval o env) (Ex (.ref l)))
  (q:∀s',fU V u env X s' m cm→Mu V [l] s s'→iI V X u s' l (ds++[d])→Q .next s')
  (hsw:autoParam (swapsWith ex (some (.Subscript o (.UnaryOp .USub (.Constant (.int 1) k p1) p2) p3)) pos.line env=pure false) rf):
  WP prog w A (exec (.Assign [.Subscript o (.UnaryOp .USub (.Constant (.int 1) k p1) p2) p3] ex pos) env) Q E s:=by
 refine .mk<|wpAny_Assign_Subscript (he.run F.bd fun v s₁ k₁ hv=>hl.go X s₁ (.of_keeps k₁) (F.bd.keeps k₁) _ _ fun lv s₂ k₂ hlv=>UnaryOp_ (oR (neg_int ?_))) hsw
 cases (hlv:lv= .ref l)
 have k₃:Keeps V s₂ {s₂ with toks:=s₂.toks+1+1}:=d9 s₂ _
 have kk:=aN k₁ (aN k₂ k₃)
 have W₂:=W.keep kk
 refine nY W₂.len fun ys p a hys=>?_
 refine I0 p (by refine aM hys ?_;simp) fun h' hp' hs'=>?_
 have mu:Mu V [l] {s₂ with toks:=s₂.toks+1+1} {s₂ with heap:=h',toks:=s₂.toks+1+1}:=iK (s:={s₂ with toks:=s₂.toks+1+1}) W.lV hs'
 have nx:Nx V X {s₂ with toks:=s₂.toks+1+1} X {s₂ with heap:=h',toks:=s₂.toks+1+1}:=mu.nx fun a ha=>by replace ha:=kQ ha;obtain rfl:=ha.symm;exact W.lx
 have hv':=(Is.keep hv (a7 (aN k₂ k₃)))
 have W₃:iI V X u {s₂ with heap:=h',toks:=s₂.toks+1+1} l (ds++[d]):=⟨⟨_,hp',by
  have:=(Dj a hv').nx nx
  simpa using this⟩,W.lx,W.lf,W.lV⟩
 exact q _ (W₂.fra (F.keep kk) mu W₃) ((Mu.of_keeps kk).trans mu) W₃
theorem fU.more(F:fU V u env X s m cm){X':List Addr}(i:∀a∈X,a∈X')(b:Bd V X' s):fU V u env X' s m cm:=⟨F.keeps,b,F.l2,F.cV,F.ns,F.cell,F.apart,i _ F.lx,F.lf,fun n c e=>i _ (F.cx n c e),F.cf⟩
theorem xT{target iter:Expr}{body:List Stmt}{pos:Pos}{P:Hp V aG}{n:Nat}{f:Nat→aY}{cls:String}{Q:Flow→aH→Prop}{E:aG→aH→Prop}(F:fU V u env X s m cm)
  (hiter:Pu V prog w A X s (eval iter env) P)(src:Jo prog w A P n f cls)
  (Mb:List Addr)(hMb:∀b∈Mb,b∈X)(hA:∀b∈nB env,b∈Mb)
  (J:List Addr→Nat→(Str→Option aG)→(Str→Option aG)→aH→Prop)
  (Bnd:Nat→List Addr→aH→(Str→Option aG)→(Str→Option aG)→(Str→Option aG)→(Str→Option aG)→Prop)
  (hbind:∀I i X' s' m' cm' v (QQ:Unit→aH→Prop) (E:aG→aH→Prop),i<n→fU V u env X' s' m' cm'→Is V X' s'.heap v (f i)→(∃o,s'.heap.get? I=some o∧o.cls= .type cls)→
   (∀s'' m'' cm'',fU V u env X' s'' m'' cm''→Mu V (nB env) s' s''→Bnd i X' s'' m' cm' m'' cm''→QQ () s'')→wpAny (model prog w) A (letOwnedTupleGo target (.ref I) v) (fun z s=>wpAny (model prog w) A (assign target env v) QQ E s) E s')
  (hst:∀X' X'' i m cm s₁ s₂,(∀a∈X,a∈X')→(∀a∈X,a∈X'')→Nx V X' s₁ X'' s₂→(∀b o,b∈X→b∉V→b∉nB env→s₁.heap.get? b=some o→s₂.heap.get? b=some o)→J X' i m cm s₁→J X'' i m cm s₂)
  (h0:∀X' s',gM V X s X' s'→J X' 0 m cm s')
  (turn:∀i X' s' m₀ cm₀ m' cm' (Q':Flow→aH→Prop) (E':aG→aH→Prop),i<n→(∀a∈X,a∈X')→Nx V X s X' s'→fU V u env X' s' m' cm'→Bnd i X' s' m₀ cm₀ m' cm'→J X' i m₀ cm₀ s'→
   (∀s'' m'' cm'',fU V u env X' s'' m'' cm''→Mu V Mb s' s''→J X' (i+1) m'' cm'' s''→Q' .next s'')→(∀v s'',Q (.ret v) s''→Q' (.ret v) s'')→WP prog w A (execs body env) Q' E' s')
  (after:∀s' m' cm',Nx V X s X s'→Mu V Mb s s'→fU V u env X s' m' cm'→J X n m' cm' s'→Q .next s')
  (hs:autoParam (∀x,foldedSetIterable iter env x=pure x) rf):
  WP prog w A (exec (.For target iter body [] pos) env) Q E s:=by
 refine .mk<|wpAny_For (hiter.run F.bd fun xv s₁ k₁ hx=>src xv X s₁ hx (F.bd.keeps k₁) _ _ fun I fp wr P' St s₂ k₂ W hst0 hfp hwr hal hcls hF=>?_) hs
 have k₁₂:=aN k₁ k₂
 have hwr':∀b∈wr,s.heap.get? b=none:=fun b hb=>fQ k₁ F.bd.two (hwr b hb)
 let X':=wr++X
 have inX:∀a∈X,a∈X':=fun a ha=>aJ _ ha
 have w₂:gM V X s X' s₂:=⟨k₁₂,inX,fun a ha z=>by
  rcases eX ha with h|h
  ·exact .inr (hwr' a h)
  ·exact .inl h⟩
 have fpX:∀b∈fp,b∉X:=fun b hb q=>(hfp b hb).2 (aJ _ q)
 have fpV:∀b∈fp,b∉V:=fun b hb q=>(hfp b hb).2 (aL _ q)
 have wrX:∀b∈wr,b∉X:=fun b hb=>fpX b (W.sub b hb)
 have wrV:∀b∈wr,b∉V:=fun b hb=>fpV b (W.sub b hb)
 have bd₂:Bd V X' s₂:=⟨fun a ha=>by
  rcases eX ha with h|h
  ·exact hal 0 _ hst0 a h
  ·exact(F.bd.keeps k₁₂).al a h,gL k₁₂ F.bd.two⟩
 have w₁₂:gM V X s₁ X' s₂:=⟨k₂,inX,fun a ha z=>by
  rcases eX ha with h|h
  ·exact .inr (hwr a h)
  ·exact .inl h⟩
 have nu:∀b∈wr,u.heap.get? b=none:=fun b hb=>by
  cases e:u.heap.get? b with
  |none=>rfl
  |some o=>have:=a7 F.keeps b o (wrV b hb) e;replace this:=(hwr' b hb)▸this;cases this
 have bdW:∀{t t':aH} {Y Y':List Addr},Mu V wr t t'→(∀b∈wr,∃o,t'.heap.get? b=some o)→Bd V Y t→(∀a∈Y',a∉wr→a∈Y)→Bd V Y' t':=fun{t t' Y Y'} mu al b i=>⟨fun a ha=>by
  by_cases hw:a∈wr
  ·exact al a hw
  ·by_cases hV:a∈V
   ·refine bG ((mu.two b.two).al a hV) fun o e z=>?_;exact⟨o,e⟩
   ·refine bK (b.al a (i a ha hw)) fun o e=>?_;exact⟨o,mu.get hw hV e⟩,mu.two b.two⟩
 have step:∀{t t':aH} {m' cm'},Mu V wr t t'→(∀b∈wr,∃o,t'.heap.get? b=some o)→fU V u env X' t m' cm'→fU V u env X' t' m' cm':=fun{t t' m' cm'} mu al FF=>by
  have nA:∀b∈nB env,b∉wr:=fun b hb hw=>wrX b hw (hMb b (hA b hb))
  exact⟨mu.keeps FF.keeps fun b hb=>nu b hb,bdW mu al FF.bd fun a ha z=>ha,FF.l2,FF.cV,mu.ns FF.l2 (nA _ aF) FF.ns,fun n c e=>gY (FF.cell n c e) fun o eo=>mu.get (nA _ (aC _ (fP e))) (FF.cV n c e) eo,FF.apart,FF.lx,FF.lf,FF.cx,FF.cf⟩
 have hA':∀a∈nB env,a∈X':=fun a ha=>inX a (hMb a (hA a ha))
 refine codeAny_forLoop_any (fun k s'=>∃i m' cm',k=n-i∧i≤n∧Nx V X' s₂ X' s'∧Mu V (wr++Mb) s₂ s'∧fU V u env X' s' m' cm'∧St i s'.heap∧J X' i m' cm' s') ?_ n
  ⟨0,m,cm,rfl,bX _,Nx.refl _ _,Mu.refl _ _,(F.keep k₁₂).more inX bd₂,hst0,h0 X' s₂ w₂⟩
 (intro k s' q_1;refine LB q_1 fun i m' cm' e_0 hi nx' mu' F' st' j'=>?_;obtain rfl:=e_0.symm)
 have inL:∀a∈wr,a∈wr++Mb:=fun a h=>aL _ h
 have inR:∀a∈Mb,a∈wr++Mb:=fun a h=>aJ _ h
 by_cases hlt:i<n
 ·refine W.item i s' _ _ hlt st' fun v h' tk hpv hst₁ hkeep=>?_
  have mu₁:Mu V wr s' {s' with heap:=h',toks:=tk}:=Mu.mk' hkeep wrV
  have al₁:∀b∈wr,∃o,h'.get? b=some o:=hal _ _ hst₁
  have F₁:=step mu₁ al₁ F'
  have n₁:Nx V X' s' X' {s' with heap:=h',toks:=tk}:=mu₁.nx fun a ha=>aL _ ha
  have j₁:=hst X' X' i m' cm' _ _ inX inX n₁ (fun b o hb z z e=>hkeep b o (fun hw=>wrX b hw hb) e) j'
  have hd:Is V X' h' v (f i):=((hF i v hpv).2.nx w₁₂.nx).nx (nx'.trans n₁)
  refine hbind I i X' _ m' cm' v _ _ hlt F₁ hd (hcls _ _ hst₁) fun s₃ m₃ cm₃ F₃ mu₃ b₃=>?_
  have n₃:Nx V X' {s' with heap:=h',toks:=tk} X' s₃:=mu₃.nx hA'
  have j₃:=hst X' X' i m' cm' _ _ inX inX n₃ (fun b o hb hbV hbA e=>mu₃.get hbA hbV e) j₁
  have st₃:St (i+1) s₃.heap:=W.frame _ _ _ hst₁ fun b hb o e=>mu₃.get (fun hm=>fpX b hb (hMb b (hA b hm))) (fpV b hb) e
  refine WP.out (turn i X' s₃ m' cm' m₃ cm₃ _ _ hlt inX (w₂.nx.trans (nx'.trans (n₁.trans n₃))) F₃ b₃ j₃ (fun s₄ m₄ cm₄ F₄ mu₄ j₄=>?_) fun v s₄ hq=>hq)
  exact⟨n-(i+1),mU _ _ hlt,i+1,m₄,cm₄,rfl,hlt,(nx'.trans (n₁.trans n₃)).trans (mu₄.nx fun a ha=>inX a (hMb a ha)),mu'.trans ((mu₁.more inL).trans ((mu₃.more fun a h=>inR a (hA a h)).trans (mu₄.more inR))),F₄,W.frame _ _ _ st₃ fun b hb o e=>mu₄.get (fun hm=>fpX b hb (hMb b hm)) (fpV b hb) e,j₄⟩
 ·obtain rfl:n=i:=b7 (c9 hi (kN hlt))
  refine W.done s' _ _ st' fun h' tk hkeep=>fJ ?_
  have mu₁:Mu V wr s' {s' with heap:=h',toks:=tk}:=Mu.mk' hkeep wrV
  have n₁:Nx V X' s' X {s' with heap:=h',toks:=tk}:=⟨⟨_,_,rfl⟩,fun b o hb e=>mu₁.get (fun hw=>hb (aJ _ (aL _ hw))) (fun hv=>hb (aL _ hv)) e,fun a ha z=>.inl (inX a ha),mu₁.two⟩
  have nA:∀b∈nB env,b∉wr:=fun b hb hw=>wrX b hw (hMb b (hA b hb))
  have muA:Mu V Mb s {s' with heap:=h',toks:=tk}:=
   Mu.less (N:=wr) ((Mu.of_keeps k₁₂).trans ((mu'.trans (mu₁.more inL)).more fun a ha=>(eX ha).elim (fun q=>aJ _ q) fun q=>aL _ q)) hwr'
  have bdE:Bd V X {s' with heap:=h',toks:=tk}:=⟨fun a ha=>by
   by_cases hV:a∈V
   ·refine bG ((mu₁.two F'.bd.two).al a hV) fun o e z=>?_;exact⟨o,e⟩
   ·refine bK (F'.bd.al a (inX a ha)) fun o e=>?_;exact⟨o,mu₁.get (fun hw=>wrX a hw ha) hV e⟩,mu₁.two F'.bd.two⟩
  exact after _ m' cm' (w₂.nx.trans (nx'.trans n₁)) muA ⟨mu₁.keeps F'.keeps fun b hb=>nu b hb,bdE,F'.l2,F'.cV,mu₁.ns F'.l2 (nA _ aF) F'.ns,fun n c e=>gY (F'.cell n c e) fun o eo=>mu₁.get (nA _ (aC _ (fP e))) (F'.cV n c e) eo,F'.apart,F.lx,F'.lf,F.cx,F'.cf⟩
   (hst X' X n m' cm' _ _ inX (fun a h=>h) n₁ (fun b o hb hbV z e=>mu₁.get (fun hw=>wrX b hw hb) hbV e) j')
theorem FW{cls:String}{x:Str}{px:Pos}{I:Addr}{v:aG}{QQ:Unit→aH→Prop}{E:aG→aH→Prop}(hk:env.scope.kind= .function)(hx:tK env x)(F:fU V u env X s m cm)
  (q:∀s',fU V u env X s' (q9 env x v m) (sI env x v cm)→Mu V (nB env) s s'→QQ () s'):wpAny (model prog w) A (letOwnedTupleGo (.Name x px) (.ref I) v) (fun z s=>wpAny (model prog w) A (assign (.Name x px) env v) QQ E s) E s:=
 aE (eF (F.store hk hx q))
noncomputable abbrev IE(V:List Addr)(env:Env)(x:Str)(f:Nat→aY)(i:Nat)(X':List Addr)(s:aH)(m cm m' cm':Str→Option aG):Prop:=∃v,m'=q9 env x v m∧cm'=sI env x v cm∧Is V X' s.heap v (f i)
theorem t8{cls:String}{x:Str}{px:Pos}{n:Nat}{f:Nat→aY}(hk:env.scope.kind= .function)(hx:tK env x):∀I i X' s' m' cm' v (QQ:Unit→aH→Prop) (E:aG→aH→Prop),i<n→fU V u env X' s' m' cm'→Is V X' s'.heap v (f i)→(∃o,s'.heap.get? I=some o∧o.cls= .type cls)→
   (∀s'' m'' cm'',fU V u env X' s'' m'' cm''→Mu V (nB env) s' s''→IE V env x f i X' s'' m' cm' m'' cm''→QQ () s'')→wpAny (model prog w) A (letOwnedTupleGo (.Name x px) (.ref I) v) (fun z s=>wpAny (model prog w) A (assign (.Name x px) env v) QQ E s) E s':=
 fun I i X' s' m' cm' v QQ E hi F hd hc q=>FW (cls:=cls) hk hx F fun s'' F' mu=>q s'' _ _ F' mu ⟨v,rfl,rfl,hd.nx (F.nx mu)⟩
theorem fU.noU(F:fU V u env X s m cm){b:Addr}(h:s.heap.get? b=none):u.heap.get? b=none:=by
 cases e:u.heap.get? b with
 |none=>rfl
 |some o=>have:=a7 F.keeps _ o (F.bd.two.ne h) e;replace this:=h▸this;cases this
theorem Pu.exb{α:Type}{t:Sem α}{b b':α}(x:Pu V prog w A X s t (Ex b'))(e:b'=b):Pu V prog w A X s t (Ex b):=e▸x
theorem Pu.dt{t:Sem aG}{d d':aY}(x:Pu V prog w A X s t (Dt d'))(e:d'=d):Pu V prog w A X s t (Dt d):=e▸x
theorem ES{st:Stmt}{rest:List Stmt}{Q:Flow→aH→Prop}{E:aG→aH→Prop}(h:WP prog w A (exec st env) (fun f s'=>(f= .next∧WP prog w A (execs rest env) Q E s')∨∃v,f= .ret v∧Q (.ret v) s') E s):WP prog w A (execs (st::rest) env) Q E s:=
 .mk<|dQ (bD h.out (fun f s' h'=>by
  rcases h' with ⟨rfl,h'⟩|⟨v,rfl,h'⟩
  ·exact h'.out
  ·exact h') fun z z e=>e)
theorem IU{st:Stmt}{rest:List Stmt}{Q:Flow→aH→Prop}{E:aG→aH→Prop}(F:fU V u env X s m cm)(R:aH→Prop)(h:WP prog w A (exec st env) (fun f s'=>f= .next∧fU V u env X s' m cm∧R s') E s)(k:∀s',fU V u env X s' m cm→R s'→WP prog w A (execs rest env) Q E s'):WP prog w A (execs (st::rest) env) Q E s:=
 eS ⟨bD h.out (fun f s' ⟨e,h',h''⟩=>⟨e,k s' h' h''⟩) fun z z e=>e⟩
theorem lP{Q:Flow→aH→Prop}{E:aG→aH→Prop}(h:Q .next s):WP prog w A (execs [] env) Q E s:=⟨fJ h⟩
theorem Ab(v:aG)(f g h:aG→Sem Unit):unpack v [(false,f),(false,g),(false,h)]=(holding [v] (unpackItems v 3 none)>>=fun vs=>assignInOrder [f,g,h] vs):=rfl
theorem z0(f g h:aG→Sem Unit)(a b c:aG):assignInOrder [f,g,h] [a,b,c]=(holding [b,c] (f a)>>=fun z=>holding [c] (g b)>>=fun z=>holding [] (h c)>>=fun z=>pure ()):=by
 simp only[assignInOrder]
theorem fU.asg3(F:fU V u env X s m cm){x y z:Str}{px py pz pos:Pos}{k:Nat}{a:Addr}{v1 v2 v3:aG}{Q:Unit→aH→Prop}{E:aG→aH→Prop}(hh:A.handled=none)(hk:env.scope.kind= .function)(hx:tK env x)(hy:tK env y)(hz:tK env z)
  (hl:s.heap.IsList a #[v1,v2,v3])
  (q:∀s',fU V u env X s' (q9 env z v3 (q9 env y v2 (q9 env x v1 m))) (sI env z v3 (sI env y v2 (sI env x v1 cm)))→Mu V (nB env) s s'→Q () s'):wpAny (model prog w) A (assign (.Tuple [.Name x px,.Name y py,.Name z pz] k pos) env (.ref a)) Q E s:=by
 rw[PySem.arm_assign_Tuple,vU,vU,vU,PySem.arm_assignEach_nil]
 refine aB (dF ?_)
 rw[Ab]
 refine aB (a8 (kun_itemsOf (l:=a) (items:=#[v1,v2,v3]) hh hl fun h' he=>?_))
 have kp:Keeps V s {s with heap:=h'}:=gW fun b o e=>he b o (fun hb=>by rw[hb,dG]at e;nomatch e) e
 rw[z0]
 refine aB (a8 (eF ((F.keep kp).store hk hx fun s₁ F₁ m₁=>?_)))
 refine aB (a8 (eF (F₁.store hk hy fun s₂ F₂ m₂=>?_)))
 refine aB (a8 (eF (F₂.store hk hz fun s₃ F₃ m₃=>?_)))
 exact aE (q s₃ F₃ ((Mu.of_keeps kp).trans (m₁.trans (m₂.trans m₃))))
theorem B9{X:List Addr}{h:Heap}{a:aG}{d e f:aY}(x:Is V X h a (.list [d,e,f])):∃l v1 v2 v3,a= .ref l∧h.IsList l #[v1,v2,v3]∧Is V X h v1 d∧Is V X h v2 e∧Is V X h v3 f:=by
 (refine oX x.of_list' fun l vs e_0=>?_;subst e_0;refine fun hn hl ha=>?_)
 (refine mF ha.of_cons fun v1 vs e_0=>?_;subst e_0;refine fun h1 ha=>?_)
 (refine mF ha.of_cons fun v2 vs e_0=>?_;subst e_0;refine fun h2 ha=>?_)
 (refine mF ha.of_cons fun v3 vs e_0=>?_;subst e_0;refine fun h3 ha=>?_)
 replace hl:=ha.of_nil▸hl
 exact⟨l,v1,v2,v3,rfl,hl,h1,h2,h3⟩
noncomputable abbrev Kr(V:List Addr)(env:Env)(x y z:Str)(f₁ f₂ f₃:Nat→aY)(i:Nat)(X':List Addr)(s:aH)(m cm m' cm':Str→Option aG):Prop:=
 ∃v1 v2 v3,m'=q9 env z v3 (q9 env y v2 (q9 env x v1 m))∧cm'=sI env z v3 (sI env y v2 (sI env x v1 cm))∧Is V X' s.heap v1 (f₁ i)∧Is V X' s.heap v2 (f₂ i)∧Is V X' s.heap v3 (f₃ i)
theorem zA{x y z:Str}{px py pz pos:Pos}{k n:Nat}{f f₁ f₂ f₃:Nat→aY}(hh:A.handled=none)(hk:env.scope.kind= .function)(hx:tK env x)(hy:tK env y)(hz:tK env z)(hf:∀i,i<n→f i= .list [f₁ i,f₂ i,f₃ i]):
  ∀I i X' s' m' cm' v (QQ:Unit→aH→Prop) (E:aG→aH→Prop),i<n→fU V u env X' s' m' cm'→Is V X' s'.heap v (f i)→(∃o,s'.heap.get? I=some o∧o.cls= .type "list_iterator")→
   (∀s'' m'' cm'',fU V u env X' s'' m'' cm''→Mu V (nB env) s' s''→Kr V env x y z f₁ f₂ f₃ i X' s'' m' cm' m'' cm''→QQ () s'')→wpAny (model prog w) A (letOwnedTupleGo (.Tuple [.Name x px,.Name y py,.Name z pz] k pos) (.ref I) v) (fun j s=>wpAny (model prog w) A (assign (.Tuple [.Name x px,.Name y py,.Name z pz] k pos) env v) QQ E s) E s':=by
 intro I i X' s' m' cm' v QQ E hi F hd hc q
 replace hd:=(hf i hi)▸hd
 (refine Jt (B9 hd) fun l v1 v2 v3 e_0=>?_;subst e_0;refine fun hl h1 h2 h3=>?_)
 refine uW hc (F.asg3 hh hk hx hy hz hl fun s'' F' mu=>q s'' _ _ F' mu ⟨v1,v2,v3,rfl,rfl,h1.nx (F.nx mu),h2.nx (F.nx mu),h3.nx (F.nx mu)⟩)
theorem IY{x y z:Str}{px py pz p2 pos:Pos}{k:Nat}{e:Expr}{d1 d2 d3:aY}{Q:Flow→aH→Prop}{E:aG→aH→Prop}(F:fU V u env X s m cm)(he:Pu V prog w A X s (eval e env) (Dt (.list [d1,d2,d3])))(hh:A.handled=none)
  (q:∀s' v1 v2 v3,fU V u env X s' (q9 env z v3 (q9 env y v2 (q9 env x v1 m))) (sI env z v3 (sI env y v2 (sI env x v1 cm)))→Mu V (nB env) s s'→Is V X s'.heap v1 d1→Is V X s'.heap v2 d2→Is V X s'.heap v3 d3→Q .next s')
  (hx:tK env x)(hy:tK env y)(hz:tK env z)(hk:autoParam (env.scope.kind= .function) rf)
  (hs:autoParam (swapsWithSole [.Tuple [.Name x px,.Name y py,.Name z pz] k p2] e pos.line env=pure false) rf)
  (hw:autoParam (swappedStores [.Tuple [.Name x px,.Name y py,.Name z pz] k p2] e env=pure none) rf):WP prog w A (exec (.Assign [.Tuple [.Name x px,.Name y py,.Name z pz] k p2] e pos) env) Q E s:=by
 refine .mk<|Assign_Tuple (he.run F.bd fun v s₁ k₁ hv=>?_) hs hw
 (refine Jt (B9 hv) fun l v1 v2 v3 e_0=>?_;subst e_0;refine fun hl h1 h2 h3=>?_)
 refine(F.keep k₁).asg3 hh hk hx hy hz hl fun s'' F' mu=>?_
 have nx:=(F.keep k₁).nx mu
 exact q s'' v1 v2 v3 F' ((Mu.of_keeps k₁).trans mu) (h1.nx nx) (h2.nx nx) (h3.nx nx)
theorem GQ{x:Str}{px pl pos:Pos}{Q:Flow→aH→Prop}{E:aG→aH→Prop}(F:fU V u env X s m cm)
  (q:∀s' l,fU V u env (l::X) s' (q9 env x (.ref l) m) (sI env x (.ref l) cm)→Nx V X s (l::X) s'→Mu V (nB env) s s'→l∉X→s.heap.get? l=none→iI V (l::X) u s' l []→Q .next s')
  (hx:tK env x)(hk:autoParam (env.scope.kind= .function) rf)(hs:autoParam (swapsWith (.List [] pl) (some (.Name x px)) pos.line env=pure false) rf):WP prog w A (exec (.Assign [.Name x px] (.List [] pl) pos) env) Q E s:=by
 refine .mk<|i7 (List_ (fK (mO ?_))) hs
 have k:Keeps V s {s with heap:=s.heap.push {cls:=.type "list",data:=.seq ([]:List aG).toArray}}:=fF s _
 have hp:(s.heap.push {cls:=.type "list",data:=.seq ([]:List aG).toArray}).PlainList s.heap.objs.size #[]:=⟨_,aW _ rfl⟩
 have hl:s.heap.objs.size∉X:=fun q=>F.bd.fresh (aJ _ q)
 have hn:=dG s.heap
 have F₁:=(F.keep k).more (X':=s.heap.objs.size::X) (fun a h=>aC _ h) ((F.bd.keeps k).cons (aW _ rfl))
 have O₁:iI V (s.heap.objs.size::X) u {s with heap:=s.heap.push {cls:=.type "list",data:=.seq ([]:List aG).toArray}} s.heap.objs.size []:=⟨⟨#[],hp,.nil⟩,aF,F.noU hn,F.bd.two.ne hn⟩
 generalize s.heap.objs.size=l at*
 refine F₁.store hk hx fun s' F' mu=>?_
 have w1:gM V X s (l::X) {s with heap:=s.heap.push {cls:=.type "list",data:=.seq ([]:List aG).toArray}}:=⟨k,fun a h=>aC _ h,fun a h z=>by
  rcases r4 h with rfl|h
  ·exact .inr hn
  ·exact .inl h⟩
 exact q s' l F' (w1.nx.trans (F₁.nx mu)) ((Mu.of_keeps k).trans mu) hl hn (O₁.muA F₁ mu)
theorem Bb{x y:Str}{px py pl pt p2 pos:Pos}{k k2:Nat}{e:Expr}{d:aY}{Q:Flow→aH→Prop}{E:aG→aH→Prop}(F:fU V u env X s m cm)(hh:A.handled=none)(he:∀X' s',gM V X s X' s'→Pu V prog w A X' s' (eval e env) (Dt d))
  (q:∀s' l v,fU V u env (l::X) s' (q9 env x (.ref l) (q9 env y v m)) (sI env x (.ref l) (sI env y v cm))→Nx V X s (l::X) s'→l∉X→iI V (l::X) u s' l []→Is V (l::X) s'.heap v d→Q .next s')
  (hx:tK env x)(hy:tK env y)(hse:autoParam (starEach [.List [] pl,e] env=[(false,eval (.List [] pl) env),(false,eval e env)]) rf)(hk:autoParam (env.scope.kind= .function) rf)
  (hs:autoParam (swapsWithSole [.Tuple [.Name x px,.Name y py] k p2] (.Tuple [.List [] pl,e] k2 pt) pos.line env=pure false) rf)
  (hw:autoParam (swappedStores [.Tuple [.Name x px,.Name y py] k p2] (.Tuple [.List [] pl,e] k2 pt) env=pure (some [x,y])) rf):WP prog w A (exec (.Assign [.Tuple [.Name x px,.Name y py] k p2] (.Tuple [.List [] pl,e] k2 pt) pos) env) Q E s:=by
 refine .mk<|Assign_Tuple_swapped (Tuple_ ?_) hs hw
 refine aM hse ?_
 refine fW (List_ (fK (mO ?_)))
 have kk:Keeps V s {s with heap:=s.heap.push {cls:=.type "list",data:=.seq ([]:List aG).toArray}}:=fF s _
 have hp:(s.heap.push {cls:=.type "list",data:=.seq ([]:List aG).toArray}).PlainList s.heap.objs.size #[]:=⟨_,aW _ rfl⟩
 have hl:s.heap.objs.size∉X:=fun q=>F.bd.fresh (aJ _ q)
 have hn:=dG s.heap
 have F₁:=(F.keep kk).more (X':=s.heap.objs.size::X) (fun a h=>aC _ h) ((F.bd.keeps kk).cons (aW _ rfl))
 have O₁:iI V (s.heap.objs.size::X) u {s with heap:=s.heap.push {cls:=.type "list",data:=.seq ([]:List aG).toArray}} s.heap.objs.size []:=⟨⟨#[],hp,.nil⟩,aF,F.noU hn,F.bd.two.ne hn⟩
 generalize s.heap.objs.size=l at*
 have w1:gM V X s (l::X) {s with heap:=s.heap.push {cls:=.type "list",data:=.seq ([]:List aG).toArray}}:=⟨kk,fun a h=>aC _ h,fun a h z=>by
  rcases r4 h with rfl|h
  ·exact .inr hn
  ·exact .inl h⟩
 refine fW ((he _ _ w1).run F₁.bd fun v s₂ k₂ hv=>fK (pP ?_))
 have k₃:Keeps V s₂ {s₂ with heap:=s₂.heap.push {cls:=.type "tuple",data:=.seq [cR l,v].toArray}}:=fF s₂ _
 have ht:IsTup (s₂.heap.push {cls:=.type "tuple",data:=.seq [cR l,v].toArray}) s₂.heap.objs.size #[.ref l,v]:=⟨_,aW _ rfl,rfl,_,rfl⟩
 refine unpackItems_tuple (items:=#[.ref l,v]) hh ht fun h' he'=>?_
 have k₄:Keeps V {s₂ with heap:=s₂.heap.push {cls:=.type "tuple",data:=.seq [cR l,v].toArray}} {s₂ with heap:=h'}:=lU (fun b o e=>he' b o (fun hb=>by rw[hb,dG]at e;nomatch e) e)
 have k₅:=aN k₂ (aN k₃ k₄)
 have F₂:=F₁.keep k₅
 have O₂:=O₁.keep k₅
 have hv₂:Is V (l::X) h' v d:=Is.keep hv (a7 (aN k₃ k₄))
 refine(?_:wpAny (model prog w) A (assignInOrder [fun v=>bindName env y v,fun v=>bindName env x v] [v,.ref l]) _ E _)
 rw[tN]
 refine aB (a8 (bindName_ (F₂.store hk hy fun s₃ F₃ m₃=>?_)))
 refine aB (a8 (bindName_ (F₃.store hk hx fun s₄ F₄ m₄=>?_)))
 have nn:=(F₂.nx m₃).trans (F₃.nx m₄)
 exact aE (q s₄ l v F₄ (w1.nx.trans ((gM.of_keeps k₅).nx.trans nn)) hl ((O₂.muA F₂ m₃).muA F₃ m₄) (hv₂.nx nn))
theorem iI.less{X':List Addr}{l:Addr}{ds:List aY}(o:iI V X u s l ds)(i:∀a∈X',a∈X)(hl:l∈X'):iI V X' u s l ds:=let⟨ys,p,a⟩:=o.ys;⟨⟨ys,p,a.less i⟩,hl,o.lf,o.lV⟩
theorem Mu.fresh{M:List Addr}{l:Addr}{s s':aH}(h:Mu V (l::M) s s')(hl:s.heap.get? l=none):Mu V M s s':=
 Mu.less (N:=[l]) (h.more fun a ha=>(nR ha).elim (fun q=>aJ _ (by simp[q])) fun q=>aL _ q) fun b hb=>by replace hb:=kQ hb;obtain rfl:=hb.symm;exact hl
theorem DK{x y:Str}{px py pl pl2 pt p2 pos:Pos}{k k2:Nat}{Q:Flow→aH→Prop}{E:aG→aH→Prop}(F:fU V u env X s m cm)(hh:A.handled=none)
  (q:∀s' l l2,fU V u env (l2::l::X) s' (q9 env x (.ref l) (q9 env y (.ref l2) m)) (sI env x (.ref l) (sI env y (.ref l2) cm))→Nx V X s (l2::l::X) s'→l∉X→l2∉X→l≠l2→iI V (l2::l::X) u s' l []→iI V (l2::l::X) u s' l2 []→Q .next s')
  (hx:tK env x)(hy:tK env y)(hse:autoParam (starEach [.List [] pl,.List [] pl2] env=[(false,eval (.List [] pl) env),(false,eval (.List [] pl2) env)]) rf)(hk:autoParam (env.scope.kind= .function) rf)
  (hs:autoParam (swapsWithSole [.Tuple [.Name x px,.Name y py] k p2] (.Tuple [.List [] pl,.List [] pl2] k2 pt) pos.line env=pure false) rf)
  (hw:autoParam (swappedStores [.Tuple [.Name x px,.Name y py] k p2] (.Tuple [.List [] pl,.List [] pl2] k2 pt) env=pure (some [x,y])) rf):WP prog w A (exec (.Assign [.Tuple [.Name x px,.Name y py] k p2] (.Tuple [.List [] pl,.List [] pl2] k2 pt) pos) env) Q E s:=by
 refine .mk<|Assign_Tuple_swapped (Tuple_ ?_) hs hw
 refine aM hse ?_
 refine fW (List_ (fK (mO ?_)))
 have kk:Keeps V s {s with heap:=s.heap.push {cls:=.type "list",data:=.seq ([]:List aG).toArray}}:=fF s _
 have hp:(s.heap.push {cls:=.type "list",data:=.seq ([]:List aG).toArray}).PlainList s.heap.objs.size #[]:=⟨_,aW _ rfl⟩
 have hl:s.heap.objs.size∉X:=fun q=>F.bd.fresh (aJ _ q)
 have hn:=dG s.heap
 have hsz:(s.heap.push {cls:=.type "list",data:=.seq ([]:List aG).toArray}).objs.size=s.heap.objs.size+1:=fZ ..
 generalize hs1:({s with heap:=s.heap.push {cls:=.type "list",data:=.seq ([]:List aG).toArray}}:aH)=s₁ at kk⊢
 have hp1:s₁.heap.PlainList s.heap.objs.size #[]:=by refine gU hs1 ?_;exact hp
 have hsz1:s₁.heap.objs.size=s.heap.objs.size+1:=by refine gU hs1 ?_;exact hsz
 refine fW (List_ (fK (mO (fK (pP ?_)))))
 have k2':Keeps V s₁ {s₁ with heap:=s₁.heap.push {cls:=.type "list",data:=.seq ([]:List aG).toArray}}:=fF s₁ _
 have hp2:(s₁.heap.push {cls:=.type "list",data:=.seq ([]:List aG).toArray}).PlainList s₁.heap.objs.size #[]:=⟨_,aW _ rfl⟩
 have hn2:s.heap.get? s₁.heap.objs.size=none:=gB (by refine aM hsz1 ?_;exact gT _)
 have hl2:s₁.heap.objs.size∉X:=fun h=>by refine bK (F.bd.al _ h) fun o e=>?_;replace e:=hn2▸e;nomatch e
 have hne:s.heap.objs.size≠s₁.heap.objs.size:=by refine aM hsz1 ?_;exact eZ (cI _)
 generalize hs2:({s₁ with heap:=s₁.heap.push {cls:=.type "list",data:=.seq ([]:List aG).toArray}}:aH)=s₂ at k2'⊢
 have hp2':s₂.heap.PlainList s₁.heap.objs.size #[]:=by refine gU hs2 ?_;exact hp2
 have hp1':s₂.heap.PlainList s.heap.objs.size #[]:=hp1.at fun o e=>a7 k2' _ o (F.bd.two.ne hn) e
 have kk2:=aN kk k2'
 generalize s.heap.objs.size=l at*
 generalize s₁.heap.objs.size=l2 at*
 have bd2:Bd V (l2::l::X) s₂:=by
  refine bK hp1' fun n1 e1=>?_;refine bK hp2' fun n2 e2=>?_
  exact((F.bd.keeps kk2).cons e1).cons e2
 have inX:∀a∈X,a∈l2::l::X:=fun a h=>aC _ (aC _ h)
 have F₁:=(F.keep kk2).more inX bd2
 have O1:iI V (l2::l::X) u s₂ l []:=⟨⟨#[],hp1',.nil⟩,aC _ aF,F.noU hn,F.bd.two.ne hn⟩
 have O2:iI V (l2::l::X) u s₂ l2 []:=⟨⟨#[],hp2',.nil⟩,aF,F.noU hn2,F.bd.two.ne hn2⟩
 have w1:gM V X s (l2::l::X) s₂:=⟨kk2,inX,fun a h z=>by
  rcases r4 h with rfl|h
  ·exact .inr hn2
  ·rcases r4 h with rfl|h
   ·exact .inr hn
   ·exact .inl h⟩
 have k₃:Keeps V s₂ {s₂ with heap:=s₂.heap.push {cls:=.type "tuple",data:=.seq [cR l,.ref l2].toArray}}:=fF s₂ _
 have ht:IsTup (s₂.heap.push {cls:=.type "tuple",data:=.seq [cR l,.ref l2].toArray}) s₂.heap.objs.size #[.ref l,.ref l2]:=⟨_,aW _ rfl,rfl,_,rfl⟩
 refine unpackItems_tuple (items:=#[.ref l,.ref l2]) hh ht fun h' he'=>?_
 have k₄:Keeps V {s₂ with heap:=s₂.heap.push {cls:=.type "tuple",data:=.seq [cR l,.ref l2].toArray}} {s₂ with heap:=h'}:=lU (fun b o e=>he' b o (fun hb=>by rw[hb,dG]at e;nomatch e) e)
 have k₅:=aN k₃ k₄
 have F₂:=F₁.keep k₅
 have O1':=O1.keep k₅
 have O2':=O2.keep k₅
 refine(?_:wpAny (model prog w) A (assignInOrder [fun v=>bindName env y v,fun v=>bindName env x v] [.ref l2,.ref l]) _ E _)
 rw[tN]
 refine aB (a8 (bindName_ (F₂.store hk hy fun s₃ F₃ m₃=>?_)))
 refine aB (a8 (bindName_ (F₃.store hk hx fun s₄ F₄ m₄=>?_)))
 have nn:=(F₂.nx m₃).trans (F₃.nx m₄)
 exact aE (q s₄ l l2 F₄ (w1.nx.trans ((gM.of_keeps k₅).nx.trans nn)) hl hl2 hne ((O1'.muA F₂ m₃).muA F₃ m₄) ((O2'.muA F₂ m₃).muA F₃ m₄))
theorem fR.inn{env cenv:Env}{h h':Heap}{x:Str}{v:aG}{c:Addr}(n:fR V env h x v)(k:Kp V h h')(e1:env.cells.lookup x=some c)(e2:env.kindOf x=some .cell)(e3:cenv.cells.lookup x=some c)(e4:cenv.kindOf x=some .cell):fR V cenv h' x v:=by
 cases n with
 |loc _ hn hv hl=>replace hl:=e2▸hl;cases hl
 |cell h2 hc hv hl=>rw[e1]at hc;obtain rfl:=a9 hc;exact .cell h2 e3 (gY hv fun o e=>k.old _ o h2 e) e4
 |free _ hc hv hl=>replace hl:=e2▸hl;cases hl
theorem mH{elt iter:Expr}{x:Str}{px:Pos}{ifs:List Expr}{scope:Scope}{pos:Pos}{cl:List (Str×Addr)}{own:Option Str}{n:Nat}{f:Nat→aY}{cls:String}{p:Nat→Bool}{g:Nat→aY}{P:Hp V aG}{ds:List aY}(h:Lg prog w A X s env elt iter x px ifs scope pos cl own n f p g P cls)(e:((bI n).filter p).map g=ds):
  Pu V prog w A X s (eval (.ListComp elt [⟨.Name x px,iter,ifs,0⟩] scope pos) env) (Dt (.list ds)):=(DO h).dt (aM e rfl)
theorem G9{elt iter:Expr}{x:Str}{px:Pos}{ifs:List Expr}{scope:Scope}{pos:Pos}{cl:List (Str×Addr)}{own:Option Str}{n:Nat}{f:Nat→aY}{cls:String}{p:Nat→Bool}{g:Nat→aY}{P:Hp V aG}{ds:List aY}(h:Lg prog w A X s env elt iter x px ifs scope pos cl own n f p g P cls)(e:((bI n).filter p).map g=ds):
  Pu V prog w A X s (eval (.ListComp elt [⟨.Name x px,iter,ifs,0⟩] scope pos) env) (Ky ds):=e▸Ic h
theorem xG{elt iter:Expr}{x y:Str}{px py tp:Pos}{tk:Nat}{ifs:List Expr}{scope:Scope}{pos:Pos}{cl:List (Str×Addr)}{own:Option Str}{ds es:List aY}{f₁ f₂:Nat→aY}{p:Nat→Bool}{g:Nat→aY}(h:Lw V prog w A X s env elt iter x y px py tp tk ifs scope pos cl own ds f₁ f₂ p g)(e:((bI ds.length).filter p).map g=es):
  Pu V prog w A X s (eval (.ListComp elt [⟨.Tuple [.Name x px,.Name y py] tk tp,iter,ifs,0⟩] scope pos) env) (Dt (.list es)):=(KN h).dt (aM e rfl)
theorem z5(elt t1 i1 t2 i2:Expr)(f1 f2:List Expr)(scope:Scope)(pos:Pos)(it acc:aG)(env:Env):
  compTurn (.ListComp elt [⟨t1,i1,f1,0⟩,⟨t2,i2,f2,0⟩] scope pos) 0 it acc env=(standAt i1.pos>>=fun z=>pyNext it>>=fun r=>match r with
   |none=>pure (.done .next)
   |some v=>letOwnedTupleGo t1 it v>>=fun z=>assign t1 env v>>=fun z=>j1 f1 env>>=fun ok=>if ok=true then(eval i2 env>>=fun x=>standAt i2.pos>>=fun z=>foldedSetIterable i2 env x>>=fun x=>holding [x] (pyIter x)>>=fun it2=>runOwn (.compStart (.ListComp elt [⟨t1,i1,f1,0⟩,⟨t2,i2,f2,0⟩] scope pos) 1 it2 acc env) env>>=fun z=>pure ())>>=fun z=>again (.compLoop (.ListComp elt [⟨t1,i1,f1,0⟩,⟨t2,i2,f2,0⟩] scope pos) 0 it acc env)
     else again (.compLoop (.ListComp elt [⟨t1,i1,f1,0⟩,⟨t2,i2,f2,0⟩] scope pos) 0 it acc env)):=by
 have e:compTurn (.ListComp elt [⟨t1,i1,f1,0⟩,⟨t2,i2,f2,0⟩] scope pos) 0 it acc env=(standAt i1.pos>>=fun z=>pyNext it>>=fun r=>match r with
   |none=>pure (.done .next)
   |some v=>letOwnedTupleGo t1 it v>>=fun z=>assign t1 env v>>=fun z=>j1 f1 env>>=fun ok=>if ok=true then(eval i2 env>>=fun x=>standAt i2.pos>>=fun z=>foldedSetIterable i2 env x>>=fun x=>holding [x] (pyIter x)>>=fun it2=>runOwn (.compStart (.ListComp elt [⟨t1,i1,f1,0⟩,⟨t2,i2,f2,0⟩] scope pos) 1 it2 acc env) env>>=fun z=>again (.compLoop (.ListComp elt [⟨t1,i1,f1,0⟩,⟨t2,i2,f2,0⟩] scope pos) 0 it acc env))
     else again (.compLoop (.ListComp elt [⟨t1,i1,f1,0⟩,⟨t2,i2,f2,0⟩] scope pos) 0 it acc env)):=by rfl
 refine aM e ?_
 congr 1
 funext _
 congr 1
 funext r
 cases r with
 |none=>rfl
 |some v=>
  simp only[bind_assoc,pure_bind]
theorem y4(elt t1 i1 t2 i2:Expr)(f1 f2:List Expr)(scope:Scope)(pos:Pos)(it acc:aG)(env:Env):
  compTurn (.ListComp elt [⟨t1,i1,f1,0⟩,⟨t2,i2,f2,0⟩] scope pos) 1 it acc env=(standAt i2.pos>>=fun z=>pyNext it>>=fun r=>match r with
   |none=>pure (.done .next)
   |some v=>letOwnedTupleGo t2 it v>>=fun z=>assign t2 env v>>=fun z=>j1 f2 env>>=fun ok=>if ok=true then(eval elt env>>=fun x=>call (.builtin "list.append") [acc,x]>>=fun z=>pure ())>>=fun z=>again (.compLoop (.ListComp elt [⟨t1,i1,f1,0⟩,⟨t2,i2,f2,0⟩] scope pos) 1 it acc env)
     else again (.compLoop (.ListComp elt [⟨t1,i1,f1,0⟩,⟨t2,i2,f2,0⟩] scope pos) 1 it acc env)):=by rfl
theorem z6{elt t1 i1 t2 i2:Expr}{f1 f2:List Expr}{scope:Scope}{pos:Pos}{it acc:aG}{env:Env}{R:iR→aH→Prop}
  (h0:codeAny (model prog w) A (.compLoop (.ListComp elt [⟨t1,i1,f1,0⟩,⟨t2,i2,f2,0⟩] scope pos) 1 it acc env) R s)
  (h:wpAny (model prog w) A (pyIter it) (fun it' s'=>codeAny (model prog w) A (.compLoop (.ListComp elt [⟨t1,i1,f1,0⟩,⟨t2,i2,f2,0⟩] scope pos) 1 it' acc env) R s')
   (notedBy (model prog w) A env fun x s'=>R (.error x) s') s):
  codeAny (model prog w) A (.compStart (.ListComp elt [⟨t1,i1,f1,0⟩,⟨t2,i2,f2,0⟩] scope pos) 1 it acc env) R s:=by
 refine oI ?_
 refine wpAny_notedAt ?_
 refine aB (wpAny_askSetting (wpAny_ite ?_))
 split
 ·first
   |exact aB (aE (aE (m7 rfl h0)))
   |exact aE (m7 rfl h0)
 ·first
   |exact aB (fT (aB (dF (aB (bD h (fun it' s' h'=>aE (m7 rfl h')) fun z z x=>x)))))
   |(refine aB (fT ?_);exact aB (dF (aB (bD h (fun it' s' h'=>aE (m7 rfl h')) fun z z x=>x))))
theorem F2{cenv:Env}{own:Option Addr}{x y:Str}{px py pos:Pos}{k:Nat}{I:Addr}{fp wr R:List Addr}{n:Nat}{P:Nat→aG→Prop}{St:Nat→Heap→Prop}{s₀:aH}{b₀:Heap}(hh:A.handled=none)(W:Walks prog w A I fp wr n P St)(hal:∀i h,St i h→∀b∈wr,∃o,h.get? b=some o)
  (hcls:∀i h,St i h→∃o,h.get? I=some o∧o.cls= .type "list_iterator")(hk:cenv.scope.kind= .function)(hx:cenv.kindOf x=some .local)(hy:qL cenv own y)(hxy:x≠y)(hne:∀c,own=some c→c≠cenv.locals)(hfr:∀b∈qY cenv own,b∉fp)(hfV:∀b∈fp,b∉V)
  (hp:∀i v,P i v→∃a v1 v2,v= .ref a∧a∈R∧b₀.IsList a #[v1,v2])(hR:∀a∈R,a∉wr∧a∉qY cenv own∧a∉V):
  BY V prog w A s₀ (.Tuple [.Name x px,.Name y py] k pos) cenv I (wr++qY cenv own) (fp++qY cenv own++R) (fun i h=>St i h∧CF V cenv own h∧∀a∈R,∀o,b₀.get? a=some o→h.get? a=some o)
   (fun i h=>∃a v1 v2,P i (.ref a)∧b₀.IsList a #[v1,v2]∧Bn V cenv own h x v1∧Bn V cenv own h y v2) (CF V cenv own) n where
 jf:=fun i h h' j k=>⟨W.frame i h h' j.1 fun b hb=>k.old b (by simp[hb]) (hfV b hb),j.2.1.at (k.less fun b hb=>aL _ (aJ _ hb)),fun a ha o e=>k.old a (aJ _ ha) (hR a ha).2.2 o (j.2.2 a ha o e)⟩
 bf:=fun i h h' q k=>uK q fun a v1 v2 p l b c=>⟨a,v1,v2,p,l,b.at (k.less fun b hb=>aL _ (aJ _ hb)),c.at (k.less fun b hb=>aL _ (aJ _ hb))⟩
 al:=fun i h j b hb=>by
  rcases eX hb with hb|hb
  ·exact hal i h j.1 b hb
  ·exact j.2.1.al b hb
 sub:=fun b hb=>by
  rcases eX hb with hb|hb
  ·exact aL _ (aL _ (W.sub b hb))
  ·exact aL _ (aJ _ hb)
 next:=fun i s Q E hi ks j q=>W.item i s _ E hi j.1 fun v h' tk hpv hst hkeep=>by
  (refine pG (hp i v hpv) fun a v1 v2 e_0=>?_;subst e_0;refine fun haR hl=>?_)
  refine⟨_,rfl,uW (hcls _ _ hst) ?_⟩
  have hM:Mu V (wr++qY cenv own) s {s with heap:=h',toks:=tk}:=(Mu.mk' hkeep fun b hb=>hfV b (W.sub b hb)).more fun a ha=>aL _ ha
  refine bG hl fun o ho hc=>?_
  have hl':h'.IsList a #[v1,v2]:=⟨o,hkeep a o (hR a haR).1 (j.2.2 a haR o ho),hc⟩
  refine Eo hh hk hx hy hxy hne (j.2.1.at (.all fun b hb o e=>hkeep b o (fun hw=>hfr b hb (W.sub b hw)) e)) hl' fun s' m cf b c=>?_
  exact q s' (hM.trans (m.more fun a ha=>aJ _ ha)) ⟨W.frame _ _ _ hst fun b hb o e=>m.get (fun hm=>hfr b hm hb) (hfV b hb) e,cf,fun a' ha' o' e'=>m.get (hR a' ha').2.1 (hR a' ha').2.2 (hkeep a' o' (hR a' ha').1 (j.2.2 a' ha' o' e'))⟩ ⟨a,v1,v2,hpv,⟨o,ho,hc⟩,b,c⟩
 stop:=fun s Q E j q=>W.done s _ E j.1 fun h' tk hkeep=>q _ ((Mu.mk' hkeep fun b hb=>hfV b (W.sub b hb)).more (fun a ha=>aL _ ha)) (j.2.1.at (.all fun b hb o e=>hkeep b o (fun hw=>hfr b hb (W.sub b hw)) e))
structure Lf(V:List Addr)(prog:fL)(w:cN)(A:jK)(X:List Addr)(s:aH)(env:Env)(elt i1 i2:Expr)(x1 y1 x2 y2:Str)(q1 q2 q3 q4 q5 q6:Pos)(k1 k2:Nat)(f1 f2:List Expr)(scope:Scope)(pos:Pos)(cl:List (Str×Addr))(ds:List aY)(a₁ a₂:Nat→aY)(p:Nat→Bool)(es:Nat→List aY)(b₁ b₂:Nat→Nat→aY)(p2:Nat→Nat→Bool)(g:Nat→Nat→aY):Prop where
 hiter:Pu V prog w A X s (eval i1 env) (Dt (.list ds))
 hh:A.handled=none
 hd:∀i,i<ds.length→ds[i]?=some (.list [a₁ i,a₂ i])
 hd2:∀i j,j<(es i).length→(es i)[j]?=some (.list [b₁ i j,b₂ i j])
 hn:∀i,i≤ds.length→(gQ p (fun i=>gQ (p2 i) (fun j=>[g i j]) (es i).length) i).length+(es i).length≤sizeLine
 test:∀L i Y v v1 v2,i<ds.length→gM V X s Y v→Bd V Y v→fR V (compEnvC scope cl L env) v.heap x1 v1→Is V Y v.heap v1 (a₁ i)→fR V (compEnvC scope cl L env) v.heap y1 v2→Is V Y v.heap v2 (a₂ i)→Pu V prog w A Y v (j1 f1 (compEnvC scope cl L env)) (Ex (p i))
 iter2:∀L i Y v v1 v2,i<ds.length→p i=true→gM V X s Y v→Bd V Y v→fR V (compEnvC scope cl L env) v.heap x1 v1→Is V Y v.heap v1 (a₁ i)→fR V (compEnvC scope cl L env) v.heap y1 v2→Is V Y v.heap v2 (a₂ i)→Pu V prog w A Y v (eval i2 (compEnvC scope cl L env)) (Dt (.list (es i)))
 test2:∀L i j Y v v1 v2,i<ds.length→j<(es i).length→gM V X s Y v→Bd V Y v→fR V (compEnvC scope cl L env) v.heap x2 v1→Is V Y v.heap v1 (b₁ i j)→fR V (compEnvC scope cl L env) v.heap y2 v2→Is V Y v.heap v2 (b₂ i j)→Pu V prog w A Y v (j1 f2 (compEnvC scope cl L env)) (Ex (p2 i j))
 helt:∀L i j Y v v1 v2,i<ds.length→j<(es i).length→p2 i j=true→gM V X s Y v→Bd V Y v→fR V (compEnvC scope cl L env) v.heap x2 v1→Is V Y v.heap v1 (b₁ i j)→fR V (compEnvC scope cl L env) v.heap y2 v2→Is V Y v.heap v2 (b₂ i j)→Pu V prog w A Y v (eval elt (compEnvC scope cl L env)) (Dt (g i j))
 clos:autoParam (closureFor scope env=pure cl) rf
 kind:autoParam (scope.kind= .function) rf
 names:autoParam (∀y∈scope.names,y.2= .local→scope.names.lookup y.1=some .local) dk
 lay:autoParam (∀h,pushCells h scope.names=h) rf
 cells:autoParam (∀n,cellsFrom n scope.names cl=cl) rf
 bx1:autoParam (∀L,(compEnvC scope cl L env).kindOf x1=some .local) rf
 by1:autoParam (∀L,(compEnvC scope cl L env).kindOf y1=some .local) rf
 bx2:autoParam (∀L,(compEnvC scope cl L env).kindOf x2=some .local) rf
 by2:autoParam (∀L,(compEnvC scope cl L env).kindOf y2=some .local) rf
 xy1:autoParam (x1≠y1) dk
 xy2:autoParam (x2≠y2) dk
 fold:autoParam (∀v,foldedSetIterable i1 env v=pure v) rf
 fold2:autoParam (∀L v,foldedSetIterable i2 (compEnvC scope cl L env) v=pure v) rf
section
variable {i1 i2:Expr} {x1 y1 x2 y2:Str} {q1 q2 q3 q4 q5 q6:Pos} {f1 f2:List Expr} {ds:List aY} {a₁ a₂:Nat→aY} {es:Nat→List aY} {b₁ b₂:Nat→Nat→aY} {p2:Nat→Nat→Bool} {g:Nat→Nat→aY}
theorem F6{RR:aG→Addr→iR→aH→Prop}{E:aG→aH→Prop}{xv:aG}{Z:List Addr}{u:aH}(h:Lf V prog w A X s env elt i1 i2 x1 y1 x2 y2 q1 q2 q3 q4 q5 q6 k1 k2 f1 f2 scope pos cl ds a₁ a₂ p es b₁ b₂ p2 g)(hu:gM V X s Z u)(hb:Bd V Z u)(hx:Is V Z u.heap xv (.list ds))
  (hR:∀D L s',Keeps V u s'→u.heap.get? L=none→(∃m,s'.heap.Ns L m)→(∃ys,s'.heap.PlainList D ys)→Is V (L::Z) s'.heap (.ref D) (.list (gQ p (fun i=>gQ (p2 i) (fun j=>[g i j]) (es i).length) ds.length))→RR (.ref D) L (.ok .next) s'):
  wpAny (model prog w) A (pyIter xv) (fun it s₂=>wpAny (model prog w) A (newList []) (fun acc s₃=>wpAny (model prog w) A (newFunctionEnv scope env.globals cl [] env.qual none .none (some env)) (fun cenv s₄=>
   codeAny (model prog w) A (.compStart (.ListComp elt [⟨.Tuple [.Name x1 q1,.Name y1 q2] k1 q3,i1,f1,0⟩,⟨.Tuple [.Name x2 q4,.Name y2 q5] k2 q6,i2,f2,0⟩] scope pos) 0 it acc {cenv with scope:=relabel scope env}) (RR acc cenv.locals) s₄) E s₃) E s₂) E u:=by
 have key:∀i v,i<ds.length→Is V Z u.heap v (ds[i]?.getD .none)→∃l v1 v2,v= .ref l∧l∉V∧u.heap.IsList l #[v1,v2]∧Is V Z u.heap v1 (a₁ i)∧Is V Z u.heap v2 (a₂ i):=fun i v hi hv=>by
  rw[h.hd i hi]at hv;exact DE hv
 refine hW (ds:=ds) h.hh xv Z u hx hb _ E fun I fp wr P' St u₁ k W hst hfp hwr hal hcls hF=>?_
 refine tU (own:=none) (s₀:=u) (X:=Z) (p:=p) (add:=fun i=>gQ (p2 i) (fun j=>[g i j]) (es i).length) (B':=B2 V x1 y1 u.heap Z P')
  (fun cenv D=>eval i2 cenv>>=fun x=>standAt i2.pos>>=fun z=>foldedSetIterable i2 cenv x>>=fun x=>holding [x] (pyIter x)>>=fun it2=>runOwn (.compStart (.ListComp elt [⟨.Tuple [.Name x1 q1,.Name y1 q2] k1 q3,i1,f1,0⟩,⟨.Tuple [.Name x2 q4,.Name y2 q5] k2 q6,i2,f2,0⟩] scope pos) 1 it2 (.ref D) cenv) cenv>>=fun z=>pure ())
  (fun D cenv=>z5 ..) k hb hst W.frame (fun b hb=>(hfp b hb).1) (fun b hb hv=>(hfp b hb).2 (aL _ hv)) hwr W.sub (fun i hi=>aD (bN _ _) (h.hn i hi)) h.lay h.cells (fun s Q E h q=>W.self 0 s Q E h q) ?_ ?_ ?_ hR
 ·intro L c hLc hL hc
  refine CW h.hh W hal hcls (by simp[compEnvC,relabel,h.kind]) (h.bx1 L) (.inl (h.by1 L)) h.xy1 (fun d hd=>by cases hd) (fun b hb=>?_) (fun b hb hv=>(hfp b hb).2 (aL _ hv)) (fun i v hp=>?_) hwr
  ·rcases(eK b7 id) (nR hb)with rfl|hb
   ·exact hL
   ·cases hb
  ·refine uK (key i v (hF i v hp).1 (hF i v hp).2) fun l v1 v2 e hlV hl z=>?_
   exact⟨l,v1,v2,e,hlV,hl⟩
 ·(intro L c i Y v hi hw hbd q_1;refine uK q_1 fun a v1 v2 hp hl c1 c2=>?_)
  refine B5 (key i _ hi (hF i _ hp).2) fun l w1 w2 e z hl' h1 h2=>?_
  obtain rfl:=fN e
  have:=nD hl hl'
  replace this:=J0 this
  (refine gE this fun e_0=>?_;subst e_0;refine fun e_0=>?_;subst e_0)
  exact h.test L i Y v v1 v2 hi (hu.trans hw) hbd c1.name (h1.nx hw.nx) c2.name (h2.nx hw.nx)
 ·(intro L c D i v ys Q E' hi hpi hLc hDnV hDfp hDfr hfal hfresh hw hbd st1 cf q_2 hpl ha q;refine uK q_2 fun a v1 v2 hp hl c1 c2=>?_)
  refine B5 (key i _ hi (hF i _ hp).2) fun l w1 w2 e z hl' h1 h2=>?_
  obtain rfl:=fN e
  have:=nD hl hl'
  replace this:=J0 this
  (refine gE this fun e_0=>?_;subst e_0;refine fun e_0=>?_;subst e_0)
  have fr1:qY (compEnvC scope (bJ none c cl) L env) (Option.map (fun z=>c) (none:Option Str))=[L]:=rfl
  refine aB ((h.iter2 L i _ v v1 v2 hi hpi (hu.trans hw) hbd c1.name (h1.nx hw.nx) c2.name (h2.nx hw.nx)).run hbd fun x v₁ k₁ hx2=>aB (dF (aB (bE (h.fold2 L x) ?_))))
  refine aB (a8 (hW (ds:=es i) h.hh x _ v₁ hx2 (hbd.keeps k₁) _ _ fun I2 fp2 wr2 P2 St2 v₂ k₂ W2 hst2 hfp2 hwr2 hal2 hcls2 hF2=>?_))
  have k₁₂:=aN k₁ k₂
  have kuv:=hw.keeps
  have kuv1:=aN kuv k₁
  have kuv2:=aN kuv k₁₂
  obtain⟨TT,hT⟩:∃TT,TT=D::(wr++qY (compEnvC scope (bJ none c cl) L env) (Option.map (fun z=>c) (none:Option Str)))++Z:=⟨_,rfl⟩
  have hT':TT=D::(wr++[L])++Z:=hT
  have DT:D∈TT:=by refine aM hT' ?_;exact aF
  have LT:L∈TT:=by refine aM hT' ?_;simp
  have wrT:∀b∈wr,b∈TT:=fun b hb=>by refine aM hT' ?_;simp[hb]
  have ZT:∀b∈Z,b∈TT:=fun b hb=>by refine aM hT' ?_;simp[hb]
  rw[←hT]at hbd ha hx2 hfp2 hF2 q hw
  have hDL:D≠L:=fun e=>hDfr (by refine aM fr1 (aM e ?_);exact aF)
  have hfresh:∀b∈D::[L],u.heap.get? b=none∧b∉fp:=hfresh
  have hwr2u:∀b∈wr2,u.heap.get? b=none:=fun b hb'=>fQ kuv1 hb.two (hwr2 b hb')
  have fp2V:∀b∈fp2,b∉V:=fun b hb hv=>(hfp2 b hb).2 (aL _ hv)
  have fp2T:∀b∈fp2,b∉TT:=fun b hb hv=>(hfp2 b hb).2 (aJ _ hv)
  have fpV:∀b∈fp,b∉V:=fun b hb hv=>(hfp b hb).2 (aL _ hv)
  obtain⟨R,hRd⟩:∃R,R=(bI v₁.heap.objs.size).filter (fun a=>(v₁.heap.get? a).isSome&&decide (a∉V++TT)):=⟨_,rfl⟩
  have inR:∀a o,v₁.heap.get? a=some o→a∉V++TT→a∈R:=fun a o e hn=>by
   (refine aM hRd ?_;rewrite[lK,mR];refine aM e ?_)
   exact⟨eL e,by simp[hn]⟩
  have ofR:∀a∈R,(∃o,v₁.heap.get? a=some o)∧a∉V++TT:=fun a h=>by
   rw[hRd,lK,b9,decide_eq_true_iff,Option.isSome_iff_exists]at h
   exact h.2
  have key2:∀j v,P2 j v→∃l v1 v2,v= .ref l∧l∈R∧v₁.heap.IsList l #[v1,v2]∧Is V TT v₁.heap v1 (b₁ i j)∧Is V TT v₁.heap v2 (b₂ i j):=fun j v hv=>by
   refine gE (hF2 j v hv) fun hj hd=>?_
   dsimp only at hd
   replace hd:=(h.hd2 i j hj)▸hd
   refine II (Is.of_list hd) fun l o z z e hn eo z=>?_
   refine B5 (DE hd) fun l' v1 v2 e' z hl x1 x2=>?_
   rw[e]at e';obtain rfl:=fN e'
   exact⟨l,v1,v2,e,inR l o eo hn,hl,x1,x2⟩
  have Lp2:=F2 (s₀:=u) (b₀:=v₁.heap) (R:=R) (cenv:=compEnvC scope cl L env) (own:=none) (x:=x2) (y:=y2) (px:=q4) (py:=q5) (pos:=q6) (k:=k2) h.hh W2 hal2 hcls2 (by simp[compEnvC,relabel,h.kind]) (h.bx2 L) (.inl (h.by2 L)) h.xy2 (fun c hc=>by cases hc) (fun b hb=>by
    have:b=L:=by simpa[compEnvC]using hb
    obtain rfl:=this.symm
    exact fun hm=>fp2T _ hm LT) fp2V (fun j v hv=>by
    refine uK (key2 j v hv) fun l v1 v2 e hr hl z=>?_
    exact⟨l,v1,v2,e,hr,hl⟩) (fun a ha'=>by
    (refine gE (ofR a ha') fun q_3 hn=>?_;refine bK q_3 fun o e=>?_)
    refine⟨fun hm=>(by replace e:=(hwr2 a hm)▸e;cases e),fun hm=>?_,fun q=>hn (aL _ q)⟩
    have:a=L:=by simpa[compEnvC]using hm
    exact hn (aJ _ (this▸LT)))
  have nx2:∀v':aH,Keeps V u v'→(∀a∈R,∀o,v₁.heap.get? a=some o→v'.heap.get? a=some o)→Nx V TT v₁ (D::(wr2++[L])++(wr++Z)) v':=fun v' kk hr=>by
   refine⟨?_,fun b o hb e=>hr b (inR b o e hb) o e,fun a ha' z=>?_,fun z=>gL kk hb.two⟩
   ·refine fO kuv1 fun h1 t1 e1 z=>?_
    refine fO kk fun h2 t2 e2 z=>?_
    exact⟨h2,t2,by exact aM e2 (aM e1 rfl)⟩
   ·simp only[mZ,bL,b8,eY,bR,or_false]at ha'
    rcases(eK b7 (eK (eK id b7) id)) ha' with rfl|((hm|rfl)|hm|hm)
    ·exact .inl DT
    ·exact .inr (hwr2 a hm)
    ·exact .inl LT
    ·exact .inl (wrT a hm)
    ·exact .inl (ZT a hm)
  have fr2:qY (compEnvC scope cl L env) (none:Option Addr)=[L]:=rfl
  replace Lp2:=fr2▸Lp2
  have nx12:Nx V TT v₁ (D::(wr2++[L])++(wr++Z)) v₂:=nx2 v₂ kuv2 fun a ha o e=>a7 k₂ a o (fun q=>(ofR a ha).2 (aL _ q)) e
  have hacc2:v₂.heap.PlainList D ys:=hpl.at fun o e=>a7 k₁₂ _ o hDnV e
  have ha2:cA V (D::(wr2++[L])++(wr++Z)) v₂.heap ys.toList (gQ p (fun i=>gQ (p2 i) (fun j=>[g i j]) (es i).length) i):=(ha.keep (a7 k₁)).nx nx12
  have hlen2:∀j,j≤(es i).length→(gQ p (fun i=>gQ (p2 i) (fun j=>[g i j]) (es i).length) i++gQ (p2 i) (fun j=>[g i j]) j).length≤sizeLine:=fun j hj=>by
   have h1:=h.hn i (bA hi)
   have h2:=BU (p2 i) (g i) j
   refine aM b4 ?_;exact aD (gF (aD h2 hj) _) h1
  have fin:∀(RQ:iR→aH→Prop),(∀s',Mu V (D::(wr++[L])) v s'→St (i+1) s'.heap→CF V (compEnvC scope cl L env) none s'.heap→∀ys',s'.heap.PlainList D ys'→cA V TT s'.heap ys'.toList (gQ p (fun i=>gQ (p2 i) (fun j=>[g i j]) (es i).length) i++gQ (p2 i) (fun j=>[g i j]) (es i).length)→RQ (.ok .next) s')→
    codeAny (model prog w) A (.compLoop (.ListComp elt [⟨.Tuple [.Name x1 q1,.Name y1 q2] k1 q3,i1,f1,0⟩,⟨.Tuple [.Name x2 q4,.Name y2 q5] k2 q6,i2,f2,0⟩] scope pos) 1 (.ref I2) (.ref D) (compEnvC scope cl L env)) RQ v₂:=by
   intro RQ hRQ
   refine A1 (s₀:=u) (X:=Z) (Z:=wr) (p:=p2 i) (add:=fun j=>[g i j]) (pre:=gQ p (fun i=>gQ (p2 i) (fun j=>[g i j]) (es i).length) i) (ys₀:=ys) (tp:=i2.pos) (ifs:=f2)
    (body:=eval elt (compEnvC scope cl L env)>>=fun x=>call (.builtin "list.append") [.ref D,x]>>=fun z=>pure ()) Lp2 rfl (i5 rfl rfl) rfl (y4 ..) ?_ hDnV ?_ hb ?_ kuv2 ⟨hst2,cf.at (dA k₁₂).sk,fun a ha o e=>a7 k₂ a o (fun q=>(ofR a ha).2 (aL _ q)) e⟩ hacc2 ha2 hlen2 ?_ ?_ ?_
   ·intro hm
    simp only[b8,eY,bR,or_false]at hm
    rcases hm with (hm|hm)|hm
    ·exact fp2T D hm DT
    ·exact hDL hm
    ·exact(ofR D hm).2 (aJ _ DT)
   ·intro b hb'
    replace hb':=Lo hb'
    rcases hb' with e|hm|e
    ·exact e▸(hfresh D (.head _)).1
    ·exact hwr2u b hm
    ·exact e▸(hfresh L (.tail _ (.head _))).1
   ·intro b hb'
    refine bK (hfal b (W.sub b hb')) fun o e=>?_
    refine⟨hwr b hb',fun hm=>?_,o,a7 k₁₂ b o (fpV b (W.sub b hb')) e⟩
    simp only[bL,b8,eY,bR,or_false]at hm
    rcases hm with q|hm|q
    ·exact hDfp (W.sub _ (q▸hb'))
    ·have:=a7 k₁ b o (fpV b (W.sub b hb')) e;replace this:=(hwr2 b hm)▸this;cases this
    ·exact(hfresh L (.tail _ (.head _))).2 (W.sub _ (q▸hb'))
   ·(intro j v' hj hw' hbd' q_4 q_5;refine jM q_4 fun st' cf' r'=>?_;refine uK q_5 fun a' u1 u2 hp' hl' e1 e2=>?_)
    refine B5 (key2 j _ hp') fun l w1 w2 e hr hl2 x1 x2=>?_
    cases e
    have:=nD hl2 hl'
    simp at this
    (refine gE this fun e_0=>?_;subst e_0;refine fun e_0=>?_;subst e_0)
    have nn:=nx2 v' hw'.keeps r'
    exact h.test2 L i j _ v' w1 w2 hi hj (hu.trans hw') hbd' e1.name (x1.nx nn) e2.name (x2.nx nn)
   ·(intro j v' ys' Q2 E2 hj hpj mm hw' hbd' q_6 q_7 hpl' ha' q';refine jM q_6 fun st' cf' r'=>?_;refine uK q_7 fun a' u1 u2 hp' hl' e1 e2=>?_)
    refine B5 (key2 j _ hp') fun l w1 w2 e hr hl2 x1 x2=>?_
    cases e
    have:=nD hl2 hl'
    simp at this
    (refine gE this fun e_0=>?_;subst e_0;refine fun e_0=>?_;subst e_0)
    have nn:=nx2 v' hw'.keeps r'
    refine aB ((h.helt L i j _ v' w1 w2 hi hj hpj (hu.trans hw') hbd' e1.name (x1.nx nn) e2.name (x2.nx nn)).run hbd' fun x v₃ k₃ hx3=>aB (lH (hpl'.at fun o e=>a7 k₃ _ _ hDnV e) (fun h' hp'' hs=>aE ?_) ?_))
    ·have mu:Mu V [D] v₃ {v₃ with heap:=h'}:=iK hDnV hs
     refine q' _ _ (((Mu.of_keeps k₃).trans mu).more fun a ha=>by simp at ha;simp[ha]) (Lp2.jf _ _ _ (Lp2.jf _ _ _ ⟨st',cf',r'⟩ (dA k₃).sk) (mu.k.sk fun b hb hm=>?_)) hp'' ?_
     ·replace hm:=kQ hm;obtain rfl:=hm.symm
      simp only[b8,eY,bR,or_false]at hb
      rcases hb with (hm|hm)|hm
      ·exact fp2T _ hm DT
      ·exact hDL hm
      ·exact(ofR _ hm).2 (aJ _ DT)
     ·have nx:=mu.nx (X:=D::(wr2++[L])++(wr++Z)) fun a ha=>by simp at ha;simp[ha]
      simpa[List.append_assoc]using ((ha'.keep (a7 k₃)).append (cA.cons hx3 .nil)).nx nx
    ·have:=ha'.length
     rw[bM]at this
     refine aM this ?_
     exact hlen2 j (bA hj)
   ·intro s' ys' ks ms hp' ha' hcf'
    have muT:Mu V (D::(wr++[L])) v s':=by
     refine Mu.less (N:=wr2) (((Mu.of_keeps (M:=D::(wr2++[L])) k₁₂).trans ms).more fun a hm=>?_) fun b hb'=>fQ k₁ hbd.two (hwr2 b hb')
     simp only[bL,b8,eY,bR,or_false]at hm⊢
     rcases(eK b7 (eK id b7)) hm with rfl|hm|rfl
     ·exact .inl (.inl rfl)
     ·exact .inr hm
     ·exact .inl (.inr (.inr rfl))
    refine hRQ s' muT (W.frame _ _ _ st1 fun b hb' o e=>?_) hcf' ys' hp' (ha'.less fun a h'=>?_)
    ·refine ms.get (fun hm=>?_) (fpV b hb') (a7 k₁₂ b o (fpV b hb') e)
     simp only[bL,b8,eY,bR,or_false]at hm
     rcases hm with q|hm|q
     ·exact hDfp (q▸hb')
     ·have:=a7 k₁ b o (fpV b hb') e;replace this:=(hwr2 b hm)▸this;cases this
     ·exact(hfresh L (.tail _ (.head _))).2 (q▸hb')
    ·rw[hT']at h'
     simp only[mZ,bL,b8,eY,bR,or_false]at h'⊢
     rcases h' with h'|((h'|h')|h')
     ·exact .inl h'
     ·exact .inr (.inr (.inl h'))
     ·exact .inr (.inl (.inr h'))
     ·exact .inr (.inr (.inr h'))
  refine aB (wpAny_runOwn (z6 (fin _ ?_) (W2.self 0 _ _ _ hst2 (fin _ ?_))))
  ·intro s' mu st' cf' ys' hp' ha'
   exact aE (q s' ys' mu st' cf' hp' ha')
  ·intro s' mu st' cf' ys' hp' ha'
   exact aE (q s' ys' mu st' cf' hp' ha')
theorem Lb{yy:Str}{ypos spos:Pos}{Q:Flow→aH→Prop}{E:aG→aH→Prop}(F:fU V u env X s m cm)(h:Lf V prog w A X s env elt i1 i2 x1 y1 x2 y2 q1 q2 q3 q4 q5 q6 k1 k2 f1 f2 scope pos cl ds a₁ a₂ p es b₁ b₂ p2 g)
  (q:∀v s',fU V u env X s' (fun z=>if z=yy then some v else m z) cm→Mu V (nB env) s s'→Is V X s'.heap v (.list (gQ p (fun i=>gQ (p2 i) (fun j=>[g i j]) (es i).length) ds.length))→Q .next s')
  (hsw:autoParam (swapsWith (.ListComp elt [⟨.Tuple [.Name x1 q1,.Name y1 q2] k1 q3,i1,f1,0⟩,⟨.Tuple [.Name x2 q4,.Name y2 q5] k2 q6,i2,f2,0⟩] scope pos) (some (.Name yy ypos)) spos.line env=pure true) rf)(hk:autoParam (env.scope.kind= .function) rf)(hy:autoParam (env.kindOf yy=some .local) rf):
  WP prog w A (exec (.Assign [.Name yy ypos] (.ListComp elt [⟨.Tuple [.Name x1 q1,.Name y1 q2] k1 q3,i1,f1,0⟩,⟨.Tuple [.Name x2 q4,.Name y2 q5] k2 q6,i2,f2,0⟩] scope pos) spos) env) Q E s:=by
 refine .mk ?_
 refine aM (qC _ _ _ _ hsw) ?_
 refine aB (dF (aB ?_))
 refine aB (bD (iS (use:=some (assign (.Name yy ypos) env)) (Q:=fun y s'=>Q .next s') rfl h.fold h.clos h.kind h.names (h.hiter.go X s (.refl X s) F.bd _ E fun xv u₁ k₁ hx=>?_)) (fun y s' hq=>aE (aE hq)) fun y y e=>e)
 refine F6 (RR:=fun acc C=>compPost (model prog w) A E (some (assign (.Name yy ypos) env)) (fun y s'=>Q .next s') acc C) h (.of_keeps k₁) (F.bd.keeps k₁) hx fun D L s' k hL hm hpl hI=>?_
 exact sK (F.bd.keeps k₁).two k hL hm hI F.l2 (tL F.ns k₁ F.l2) hk hy F.lx fun v s' mu hd hns=>q v s' (F.setL ((Mu.of_keeps k₁).trans mu) hns) (vY ((Mu.of_keeps k₁).trans mu)) hd
end
noncomputable def BZ(Γ:PySem.Ctx):Prop:=Γ.code.isCaller=true∨∃x∈Γ.below,x.1.isCaller=true
noncomputable def xM(Γ:PySem.Ctx):Prop:=∃x∈Γ.below,x.1.isCaller=true
theorem xM.called{Γ:PySem.Ctx}(h:xM Γ):BZ Γ:=.inr h
theorem BZ.enter{Γ:PySem.Ctx}(h:BZ Γ)(c:Code)(hd:Option aG)(p:Pos):xM (Γ.enter c hd p):=by
 rcases h with h|⟨x,hx,h⟩
 ·exact⟨(Γ.code,p),aF,h⟩
 ·exact⟨x,aC _ hx,h⟩
structure WC{α:Type}(prog:fL)(w:cN)(A:jK)(t:Sem α)(Q:α→aH→Prop)(E:aG→aH→Prop)(s:aH):Prop where
 out:∀Γ p,Γ.In A→BZ Γ→Sem.wp (model prog w) Γ t (fun a z s'=>Q a s') (fun e z s'=>E e s') p s
structure CC(prog:fL)(w:cN)(A:jK)(c:Code)(R:iR→aH→Prop)(s:aH):Prop where
 out:∀Γ p,Γ.code=c→Γ.Below A→xM Γ→wpCode (model prog w) Γ R p s
theorem WC.any{t:Sem α}{Q:α→aH→Prop}(h:wpAny (model prog w) A t Q E s):WC prog w A t Q E s:=⟨fun Γ p hΓ z=>h Γ p hΓ⟩
theorem WC.mono{t:Sem α}{Q Q':α→aH→Prop}{E':aG→aH→Prop}(h:WC prog w A t Q E s)(hQ:∀a s,Q a s→Q' a s)(hE:∀e s,E e s→E' e s):WC prog w A t Q' E' s:=
 ⟨fun Γ p hΓ hc=>Sem.wp_mono (model prog w) Γ t (fun a z s=>hQ a s) (fun e z s=>hE e s) p s (h.out Γ p hΓ hc)⟩
theorem WC.monoQ{t:Sem α}{Q Q':α→aH→Prop}(h:WC prog w A t Q E s)(hQ:∀a s,Q a s→Q' a s):WC prog w A t Q' E s:=h.mono hQ fun z z e=>e
theorem WC.pure{a:α}{Q:α→aH→Prop}(h:Q a s):WC prog w A (Pure.pure a) Q E s:=.any (aE h)
theorem WC.bind{m:Sem α}{f:α→Sem β}{Q:β→aH→Prop}(h:WC prog w A m (fun a s'=>WC prog w A (f a) Q E s') E s):WC prog w A (m>>=f) Q E s:=⟨fun Γ p hΓ hc=>by
 rw[Sem.wp_bind']
 exact Sem.wp_mono (model prog w) Γ m (fun a p' s' h'=>h'.out Γ p' hΓ hc) (fun z z z h'=>h') p s (h.out Γ p hΓ hc)⟩
theorem WC.seq{m:Sem α}{f:α→Sem β}{Q:β→aH→Prop}(h:wpAny (model prog w) A m (fun a s'=>WC prog w A (f a) Q E s') E s):WC prog w A (m>>=f) Q E s:=.bind (.any h)
theorem WC.holding{vs:List aG}{m:Sem α}{Q:α→aH→Prop}(h:WC prog w A m Q E s):WC prog w A (holding vs m) Q E s:=⟨fun Γ p hΓ hc=>by rw[Sem.wp_holding];exact h.out Γ p hΓ hc⟩
theorem WC.attempt{m:Sem α}{Q:Except aG α→aH→Prop}(h:WC prog w A m (fun a=>Q (.ok a)) (fun e=>Q (.error e)) s):WC prog w A m.attempt Q E s:=⟨fun Γ p hΓ hc=>by rw[Sem.wp_attempt];exact h.out Γ p hΓ hc⟩
theorem WC.onRaise{m:Sem α}{k:aG→Sem Unit}{Q:α→aH→Prop}(h:WC prog w A m Q (fun e s'=>wpAny (model prog w) A (k e) (fun z s''=>E e s'') E s') s):WC prog w A (m.onRaise k) Q E s:=⟨fun Γ p hΓ hc=>by
 rw[Sem.wp_onRaise]
 exact Sem.wp_mono (model prog w) Γ m (fun z z z h'=>h') (fun e p' s' h'=>h' Γ p' hΓ) p s (h.out Γ p hΓ hc)⟩
theorem WC.standAt{pos:Pos}{t:Sem β}{Q:β→aH→Prop}(h:WC prog w A t Q E s):WC prog w A (standAt pos>>=fun z=>t) Q E s:=.seq (dF h)
theorem WC.eq{t t':Sem α}{Q:α→aH→Prop}(e:t=t')(h:WC prog w A t' Q E s):WC prog w A t Q E s:=e▸h
theorem WC.keep{vs:List aG}{m:Sem α}{Q:α→aH→Prop}(h:WC prog w A m Q E s):WC prog w A (m.keep vs) Q E s:=⟨fun Γ p hΓ hc=>by rw[Sem.wp_keep];exact h.out Γ p hΓ hc⟩
theorem WC.stack{Q:List (Code×Pos)→aH→Prop}(h:∀st:List (Code×Pos),(st.map (·.1)).any Code.isCaller=true→Q st s):WC prog w A PySem.stack Q E s:=⟨fun Γ p hΓ hc=>by
 refine h _ ?_
 (refine aM bT (aM List.any_cons ?_);rw[Bool.or_eq_true,List.any_eq_true])
 rcases hc with hc|⟨x,hx,hc⟩
 ·exact .inl hc
 ·exact .inr ⟨x.1,bQ hx,hc⟩⟩
theorem CC.any{c:Code}{R:iR→aH→Prop}(h:codeAny (model prog w) A c R s):CC prog w A c R s:=⟨fun Γ p hc hΓ z=>h Γ p hc hΓ⟩
theorem CC.mono{c:Code}{R R':iR→aH→Prop}(h:CC prog w A c R s)(hR:∀r s,R r s→R' r s):CC prog w A c R' s:=⟨fun Γ p hc hΓ hb=>wpCode_mono hR (h.out Γ p hc hΓ hb)⟩
theorem CC.tree{c:Code}{R:iR→aH→Prop}
  (h:WC prog w (A.under c) ((model prog w).den c) (fun fin s'=>match fin with| .done f=>R (.ok f) s'| .again c'=>c'.quiet=true∧CC prog w A c' R s') (fun e s'=>R (.error e) s') s):CC prog w A c R s:=⟨fun Γ p hc hΓ hb=>by
 (rewrite[wpCode_iff_wp];refine aM hc ?_)
 refine Sem.wp_mono (model prog w) Γ _ (fun fin p' s' h'=>?_) (fun z z z h'=>h') p s (h.out Γ p (hc▸hΓ.in) hb.called)
 cases fin with
 |done f=>exact h'
 |again c'=>exact⟨h'.1,h'.2.out (Γ.goto c') p' rfl (hΓ.goto c') hb⟩⟩
theorem CC.loop{c:Code}{R:iR→aH→Prop}(hq:c.quiet=true)(I:Nat→aH→Prop)
  (turn:∀n s,I n s→WC prog w (A.under c) ((model prog w).den c)
   (fun fin s'=>match fin with| .done f=>R (.ok f) s'| .again c'=>(c'=c∧∃m,m<n∧I m s')∨(c'.quiet=true∧CC prog w A c' R s')) (fun e s'=>R (.error e) s') s)
  (n:Nat)(h:I n s):CC prog w A c R s:=by
 induction n using Nat.strongRecOn generalizing s with
 |ind n ih=>
  refine .tree ((turn n s h).monoQ fun fin s' hf=>?_)
  cases fin with
  |done f=>exact hf
  |again c'=>
   rcases hf with ⟨rfl,m,hm,hI⟩|hf
   ·exact⟨hq,ih m hm hI⟩
   ·exact hf
theorem WC.run{c:Code}{h:Option aG}{Q:Flow→aH→Prop}(hc:CC prog w (A.mark h) c (fun r s'=>match r with| .ok f=>Q f s'| .error e=>E e s') s)(hnb:autoParam (h≠some byPass) rn):WC prog w A (PySem.run c h) Q E s:=
 ⟨fun Γ p hΓ hb=>by rw[Sem.wp_run];exact hc.out _ p rfl (hΓ.enter c h p hnb) (hb.enter c h p)⟩
theorem WC.runValue{c:Code}{Q:aG→aH→Prop}(hc:CC prog w A c (fun r s'=>match r with| .ok (.ret v)=>Q v s'| .ok _=>False| .error e=>E e s') s):WC prog w A (PySem.runValue c) Q E s:=
 ⟨fun Γ p hΓ hb=>by rw[Sem.wp_runValue];exact hc.out _ p rfl (hΓ.enter c none p (by intro x;cases x)) (hb.enter c none p)⟩
theorem WC.call{f:aG}{pos:List aG}{kw:List (Str×aG)}{Q:aG→aH→Prop}
  (hc:CC prog w A (.call f ⟨pos,kw⟩) (fun r s'=>match r with| .ok (.ret v)=>Q v s'| .ok _=>False| .error e=>E e s') s):WC prog w A (PySem.call f pos kw) Q E s:=.runValue hc
theorem WC.noted{m:Sem α}{Q:α→aH→Prop}(h:WC prog w A m Q (notedBy (model prog w) A env E) s):WC prog w A (m.onRaise fun x=>do noteFrame x env;theTreesLotGoes x) Q E s:=
 .onRaise (h.mono (fun z z q=>q) fun z z hx=>aB (bD hx (fun z z e=>wpAny_theTreesLotGoes e) fun z z e=>e))
theorem jN{Q:Flow→aH→Prop}(h:Q .next s):WC prog w A (execs [] env) Q E s:=.any (fJ h)
theorem jR{st:Stmt}{rest:List Stmt}{Q:Flow→aH→Prop}(h:WC prog w A (exec st env) (fun f s'=>match f with| .next=>WC prog w A (execs rest env) Q E s'|f=>Q f s') E s):WC prog w A (execs (st::rest) env) Q E s:=by
 rw[execs_cons]
 refine .bind (h.monoQ fun f s' h'=>?_)
 cases f with
 |next=>exact h'
 |cont=>exact .pure h'
 |brk=>exact .pure h'
 |ret v=>exact .pure h'
theorem m8{st:Stmt}{rest:List Stmt}{Q:Flow→aH→Prop}(h:WP prog w A (exec st env) (fun f s'=>f= .next∧WC prog w A (execs rest env) Q E s') E s):WC prog w A (execs (st::rest) env) Q E s:=
 jR ((WC.any h.out).monoQ fun f s' h'=>by obtain⟨rfl,h'⟩:=h';exact h')
theorem qH{st:Stmt}{rest:List Stmt}{Q:Flow→aH→Prop}(h:WC prog w A (exec st env) (fun f s'=>f= .next∧WC prog w A (execs rest env) Q E s') E s):WC prog w A (execs (st::rest) env) Q E s:=
 jR (h.monoQ fun f s' h'=>by obtain⟨rfl,h'⟩:=h';exact h')
theorem EO{st:Stmt}{Q:Flow→aH→Prop}(h:WP prog w A (exec st env) Q E s):WC prog w A (execs [st] env) Q E s:=
 jR ((WC.any h.out).monoQ fun f s' h'=>by
  cases f with
  |next=>exact jN h'
  |cont=>exact h'
  |brk=>exact h'
  |ret v=>exact h')
theorem EP{test:Expr}{body orelse:List Stmt}{pos:Pos}{Q:Flow→aH→Prop}
  (h:wpAny (model prog w) A (isTrue test env (eval test env)) (fun b s'=>(b=true→WC prog w A (execs body env) Q E s')∧(b=false→WC prog w A (execs orelse env) Q E s')) E s):WC prog w A (exec (.If test body orelse pos) env) Q E s:=by
 rw[arm_exec_If]
 refine .standAt (.seq (bD h (fun b s' h'=>?_) fun z z e=>e))
 cases b with
 |true=>exact h'.1 rfl
 |false=>exact h'.2 rfl
theorem GC{body orelse:List Stmt}{h₀:ExceptHandler}{hs:List ExceptHandler}{pos:Pos}{Q:Flow→aH→Prop}
  (h:WC prog w A (execs body env) (fun f s₁=>match f with| .next=>wpAny (model prog w) A (execs orelse env) Q E s₁|f=>Q f s₁)
   (fun e s₁=>wpAny (model prog w) A (noteFrame e env) (fun z s₂=>wpAny (model prog w) A (setFlight e none) (fun z s₃=>wpAny (model prog w) A (handleBy e env (h₀::hs)) Q E s₃) E s₂) E s₁) s):
  WC prog w A (exec (.Try body (h₀::hs) orelse [] pos) env) Q E s:=by
 rw[arm_exec_Try]
 refine .standAt ?_
 refine .bind (.attempt (h.mono (fun f s₁ h₁=>?_) fun e s₁ h₁=>?_))
 ·cases f with
  |next=>exact .any h₁
  |cont=>exact .pure h₁
  |brk=>exact .pure h₁
  |ret v=>exact .pure h₁
 ·exact .any (aB (bD h₁ (fun z z h₂=>aB h₂) fun z z x=>x))
theorem AE{x:Str}{px pos:Pos}{e:Expr}{Q:Flow→aH→Prop}
  (h:WC prog w A (eval e env) (fun v s₁=>wpAny (model prog w) A (storeName env x v) (fun z s₂=>Q .next s₂) E s₁) E s)(hs:autoParam (swapsWith e (some (.Name x px)) pos.line env=pure false) rf):WC prog w A (exec (.Assign [.Name x px] e pos) env) Q E s:=by
 refine aM (exec_Assign_Name _ _ _ _ _ hs) ?_
 exact .standAt (.bind (h.monoQ fun v s₁ h₁=>.any (aB (dF (aB (wpAny_bindName (bD h₁ (fun z z q=>aE q) fun z z e=>e)))))))
theorem Dz{prog:fL}{w:cN}{t:Sem Fin}{s:aH}{R:iR→aH→Prop}(hreg:s.asleep)
  (h:WC prog w callerA t (fun fin s'=>∃f,fin= .done f∧(R (.ok f) s'∧leftWithCleanup s'.gens=false)) (fun e s'=>R (.error e) s'∧leftWithCleanup s'.gens=false) s):
  ∃n r s' s'',runN (denote table) prog w n s ⟨t,.builtin "claim.caller" {},default,[]⟩= .halted (outcomeOf r) s'∧
   schedN (denote table) prog w n (.single s ⟨t,.builtin "claim.caller" {},default,[]⟩)= .halted (outcomeOf r) s'∧s'.forget=s''.forget∧R r s'':=by
 have h1:Sem.wp (model prog w) ⟨.builtin "claim.caller" {},none,none,[],none⟩ t (Sem.finPost (model prog w) ⟨.builtin "claim.caller" {},none,none,[],none⟩ fun r s'=>R r s'∧leftWithCleanup s'.gens=false) (fun e z s'=>R (.error e) s'∧leftWithCleanup s'.gens=false) default s:=
  Sem.wp_mono _ _ t (fun fin p' s' h'=>by(refine bG h' fun f e_0=>?_;subst e_0;refine fun hf=>?_);exact hf) (fun z z z h'=>h') default s (h.out _ _ caller_in (.inl rfl))
 refine II (wp_halts_full (M:=model prog w) (R:=R) hreg h1) fun n r s₁ s₂ hs hn hfo hR=>?_
 exact⟨n,r,s₂,s₁,hn,hs,hfo,hR⟩
theorem Fz{c:ClaimW}{tree:List aG→Sem Fin}{w:cN}{s:aH}{free:Addr→Prop}{gens:Prop}{kept:Heap→Prop}(hz:s.asleep)(hgens:s.gens=#[])
  (hspec:∀args,c.pre args=true→WData.layableAll args=true→∀ord:List fD→List fD,(∀l,(ord l).Perm l)→
   ∃vs s₁,layAllW c.records (classAt s.heap) w.params ord args s=some (vs,s₁)∧
    WC c.prog w callerA (tree vs) (fun fin s'=>∃f,fin= .done f∧(c.Ends s args vs s₁ (.ok f) s'∧s'.os=s.os∧AllBare s'.gens∧kept s'.heap)) (fun e s'=>c.Ends s args vs s₁ (.error e) s'∧s'.os=s.os∧AllBare s'.gens∧kept s'.heap) s₁):
  c.CallFrom (fun vs=>⟨tree vs,.builtin "claim.caller" {},default,[]⟩) w free gens kept s:=by
 intro args hpre hlay ord hord
 refine fO (hspec args hpre hlay ord hord) fun vs s₁ hlaid hcode=>?_
 have hal:=layAllW_rest _ _ _ hlaid
 refine Js (Dz (prog:=c.prog) (w:=w) (t:=tree vs) (s:=s₁) (R:=fun r s'=>c.Ends s args vs s₁ r s'∧s'.os=s.os∧kept s'.heap) (Shared.asleep_of_life hal.2.2.2 hz)
  (hcode.mono (fun fin s' ⟨f,e,h1,h2,h3,h4⟩=>⟨f,e,⟨h1,h2,h4⟩,leftWithCleanup_false_of_bare h3⟩) fun e s' ⟨h1,h2,h3,h4⟩=>⟨⟨h1,h2,h4⟩,leftWithCleanup_false_of_bare h3⟩)) fun k r s' s'' hrun hsched hfo hcase hos hkp=>?_
 refine xN (Shared.forget_eq hfo) fun eh z z eo z=>?_
 have hcase:=hcase.congr eh
 rw[←eh]at hkp
 rw[←eo]at hos
 have hlife:s'.heap.life=s.heap.life:=(runN_life _ _ _ hrun).trans hal.2.2.2
 refine⟨vs,s₁,hlaid,k,_,s',hsched,?_,(fun z i x hx=>by rw[hgens]at hx;simp at hx),hkp,aM hlife rfl,Shared.rest_eq hos⟩
 rcases hcase with ⟨v,rfl,d1,d2,d3,d4,d5⟩|⟨e,ob,cls,rfl,d1,d2,d3,d4,d5⟩
 ·exact .inl ⟨v,rfl,d1,d2,d3,fun b o y z=>d4 b o y,d5⟩
 ·exact .inr ⟨e,ob,cls,rfl,d1,d2,d3,d4,fun b o y z=>d5 b o y⟩
noncomputable abbrev Jn(q:fL)(loose:List Str)(XP:(Str→Option aG)→Heap→Prop)(YP:cN→Heap→Prop)(r:RowW)(d:DefRec)(kwd:List (Str×Expr)):Prop:=
 ∀(w:cN) (s₀ s₁:aH) (mg mb:Str→Option aG),Ground q loose r.records XP w s₀ mg mb s₁.heap→YP w s₁.heap→sysModules<s₀.heap.objs.size→∀(a:Addr) (o:Obj) (pm cd doc dV kV:aG),s₁.heap.get? a=some o→
  o.data= .func {docDef d.name d.params d.body d.scope pm cd doc with defaults:=dV,kwdefaults:=kV}→mg d.name=some (.ref a)→s₁.gens=#[]→
  ∀(args:List WData) (vals:List aG) (as:List Addr),r.claim.pre args=true→ReadsAllW r.records (classAt s₀.heap) s₁.heap vals args as→(∀a∈as,(a==sysModules)=false)→
   WC r.prog w callerA (PySem.call (.ref a) vals) (fun v s'=>GoodWG r.claim (classAt s₀.heap) (ExcName.means s₀.heap) args s₁ (.ok (.ret v)) s') (fun e s'=>GoodWG r.claim (classAt s₀.heap) (ExcName.means s₀.heap) args s₁ (.error e) s') s₁
theorem PySem.W.holds_open{r:OpenRow}{q:fL}{loose:List Str}{Xt:aH→Bool}{XP:(Str→Option aG)→Heap→Prop}{α:Type}{Yf:aH→α}{Ya:cN→α}{YP:cN→Heap→Prop}{d:DefRec}{kwd:List (Str×Expr)}{N:Nat}
  (left:LeftO r.prog q loose Xt Yf Ya N)(hY:∀w s,Yf s=Ya w→YP w s.heap)(hYk:∀w h h',YP w h→(∀b o,h.get? b=some o→h'.get? b=some o)→YP w h')
  (hX:∀s,Xt s=true→XP (s.heap.nsMap mainGlobals) s.heap)(hXk:∀mg h h',XP mg h→(∀b o,h.get? b=some o→h'.get? b=some o)→XP mg h')
  (hdef:defOf q r.name=some (d,kwd))(hp:r.prog.theDef r.name=some (d.params,d.body,d.scope))(hk:kwWritten? d.params.kwonlyargs d.params.kw_defaults=some kwd)(hRf:∀s,Xt s=true→RecFacts r.records s.heap)(hwr:(!r.writes||r.records.isEmpty)=true)
  (k1:r.wellSaid=true)(ok:(chainsOk q&&opensWell r.prog&&(frees r.toRowW&&r.within.isEmpty))=true)(hb:r.prog.bare)(hw:r.toRowW.promised)
  (call:Jn q loose XP YP r.toRowW d kwd):r.Holds:=by
 refine⟨k1,hw,?_⟩
 refine gE (Bool.and_eq_true_iff.mp ok) fun ok k5=>?_
 refine gE (Bool.and_eq_true_iff.mp ok) fun hch o1=>?_
 refine gE (Bool.and_eq_true_iff.mp k5) fun k5 k6=>?_
 refine xN (frees_parts k5) fun hsame hu ha hap hm=>?_
 refine⟨⟨hb,o1,by refine(?_:r.makers.map _=[]);refine aM hm ?_;rfl⟩,hw.witness,fun w=>⟨(left.behind hX hch w).1,fun s' hs'=>?_⟩⟩
 obtain⟨s₀,hf,hg0,s,hT,hz,hgens,hg,G00,y⟩:=(left.behind (XP:=fun mg h=>XP mg h∧RecFacts r.records h) (fun s hs=>⟨hX s hs,hRf s hs⟩) hch w).2 s' hs'
 have G0:Ground q loose [] XP w s (s.heap.nsMap mainGlobals) (s.heap.nsMap builtinsNs) s.heap:=⟨G00.T,G00.B,G00.D,G00.TE,G00.TD,G00.W,G00.X.1,G00.cls,G00.has,G00.apart,G00.once,G00.K⟩
 have RF:=G00.X.2
 have hT':=hT
 refine⟨s₀,hf,hg0,s,hT,fun n hn=>?_,RF.1,RF.2.1,?_⟩
 ·obtain rfl:n=r.name:=by split at hn<;>simp_all
  exact pinned_of_view hg G0 hdef hp hk
 have hgens:s.gens=#[]:=Array.eq_empty_of_size_eq_zero (beq_iff_eq.mp hgens)
 have G:Ground q loose r.records XP w s _ _ s.heap:=RF.ground G0
 refine Fz (c:=r.toRowW.claim) hz hgens fun args hpre hlay ord hord=>?_
 obtain⟨⟨vs,s₁⟩,hlaid⟩:=Option.isSome_iff_exists.mp (layAllW_isSome (P:=w.params) (ord:=ord) G.has args r.args s (pre_splitW hpre).1)
 have keeps:=layAllW_keeps _ _ _ hlaid
 have hal:=layAllW_rest _ _ _ hlaid
 refine nY (reads_layAllW hord _ _ _ hlaid hlay s₁.heap (fun j j e=>e)) fun as hrd hin hold=>?_
 have L:Laid r.records w s s₁ args vs as:=⟨⟨ord,hord,hlaid⟩,hrd,hin,hold,keeps,hal.1.trans hgens,hal.2.2.1⟩
 have G₁:=G.keeps hXk keeps
 obtain⟨a,o,pm,cd,doc,dV,kV,h1,h2,h3,h4,h5⟩:=G₁.fn hdef
 have h:=call w s s₁ _ _ G₁ (hYk _ _ _ (hY w s y) keeps) G.low a o pm cd doc dV kV h2 h3 (defOf_name hdef▸h1) L.gens args vs as hpre L.reads (L.low G.low)
 have hi:=ident_freeW hu ha hap
 have hwi:r.toRowW.claim.within=[]:=List.isEmpty_iff.mp k6
 refine⟨vs,s₁,hlaid,?_⟩
 refine WC.seq (wpAny_nsGet G₁.T.g ?_)
 refine aM h1 ?_
 exact .bind (h.mono (fun v s' g=>.pure ⟨_,rfl,have z:=g.laid (c:=r.toRowW.claim) hsame hwi hi L;⟨z.1,z.2.1,z.2.2,fun q=>⟨namesKept_of hT' hg _ keeps g.2.1.old,noTable hwr q⟩⟩⟩) fun e s' g=>have z:=g.laid (c:=r.toRowW.claim) hsame hwi hi L;⟨z.1,z.2.1,z.2.2,fun q=>⟨namesKept_of hT' hg _ keeps g.2.1.old,noTable hwr q⟩⟩)
theorem C4{R:WRecords}:∀{xs:List WData},WShape.hasItems R xs .int=true→∃ns:List Int,xs=ns.map WData.int
 |[],_=>⟨[],rfl⟩
 |d::r,h=>by
  simp only[WShape.hasItems,b9]at h
  (refine bK (hasW_int h.1) fun i e_0=>?_;subst e_0)
  (refine bK (C4 h.2) fun ns e_0=>?_;subst e_0)
  exact⟨i::ns,rfl⟩
theorem yN{R:WRecords}{cl:Str→Option Addr}{h h':Heap}:∀{ns:List Int} {vs:List aG} {as:List Addr},ReadsAllW R cl h vs (ns.map WData.int) as→ReadsAll h' vs (ns.map cB) []
 |[],_,_,r=>by cases r;exact .nil
 |n::ns,_,_,r=>by
  cases r with
  |cons r1 r2=>
   cases r1 with
   |int i t=>exact .cons (.int _ _) (yN r2)
theorem HE{cl:Str→Option Addr}{h:Heap}{args:List WData}{vals:List aG}{as:List Addr}(hpre:PySem.Challenge.rw_in0100_01.row.toRowW.claim.pre args=true)
  (hrd:ReadsAllW PySem.Challenge.rw_in0100_01.row.toRowW.records cl h vals args as):
  ∃(ns:List Int) (a:Addr) (o:Obj) (vs:Array aG) (n:Nat),vals=[.ref a]∧ns.length≤63∧h.get? a=some o∧o.cls= .type "list"∧o.data= .seq vs n∧∀h':Heap,ReadsAll h' vs.toList (ns.map cB) []:=by
 refine gE (pre_splitW hpre) fun h1 h2=>?_
 (refine mF (hasAllW_cons h1) fun d r e_0=>?_;subst e_0;refine fun hd hr=>?_)
 obtain rfl:=hasAllW_nil hr
 (refine bG (hasW_list hd) fun xs e_0=>?_;subst e_0;refine fun hi=>?_)
 (refine bK (C4 hi) fun ns e_0=>?_;subst e_0)
 have hl:ns.length≤63:=by
  have h3:WTm.holds [] (.not (.lt (.lit (.int 63)) (.len (.arg 0)))) {args:=[.list (ns.map WData.int)]}=true:=(holds_andW h2).1
  by_cases hlt:(63:Int)<ns.length
  ·simp[WTm.holds,WTm.value,W.less?,Num.less?,hlt]at h3
  ·exact Int.ofNat_le.mp (Int.not_lt.mp (by assumption))
 cases hrd with
 |cons r1 r2=>
  cases r2
  cases r1 with
  |list e1 e2 e3 e4=>exact⟨ns,_,_,_,_,rfl,hl,e1,e2,e3,fun h'=>yN e4⟩
section
theorem keep_law(h:PySem.Challenge.rw_in0100_01.row.Holds):PySem.Challenge.rw_in0100_01.Holds:=holds_law (by
 have hr:=h.1
 rw[Fast.te17960256430627541270]at hr
 rw[Fast.te9446332074065402090]
 unfold Fast.tw9446332074065402090
 refine aM hr ?_
 decide+kernel) fun z=>h
theorem keep_hook{α:Sort _}{P:Prop}(H:α)(hw:PySem.Challenge.rw_in0100_01.row.toRowW.promised)(h:P):P:=h
local macro_rules | `(tactic| o_law) => `(tactic| refine keep_law ?_)
local macro_rules | `(tactic| o_head $H) => `(tactic| refine keep_hook $H ?hw ?hc)
set_option maxHeartbeats 8000000 in
open_top hk for PySem.Challenge.rw_in0100_01
end
noncomputable abbrev hookM:Hook:=kmHook hk.heap_1 [2,3,38,40,41,43,44,48,49,50,51,53,54,56,57,65,67,68,70,71,72,73,75,76,78,79,80,82,83,85,86,87,89,90,92,93,94,95,96,97,98,101,104,109,110,112,113,115,116,117,119,120,122,123,124,125,126,127,128,131,134,139,140,141,142,144,145,147,148,149,151,152,154,155,156,157,158,159,160,162,163,165,166,167,169,170,172,173,174,176,177,179,180,181,183,184,186,187,188,189,190,192,193,195,197,198,199,202,209,211,212,214,215,216,217,218,219,220,221,222,225,228,229,230,233,234,235,238,239,240,243,244,245,247,248,250,251,252,255,256,257,260,261,262,265,266,267,270,271] (fun z=>by kernel_rfl) [118,268]
noncomputable def kz(w:cN):Frag:=(hk.heap_1 w.params).tail
theorem K7(w:cN):(kz w).lookup 2=none:=by rfl
theorem Jf{w:cN}{h:Heap}(k:(hk.heap_1 w.params).In h):(kz w).In h:=fun a o e=>k a o (by
 unfold kz at e
 cases hK:hk.heap_1 w.params with
 |nil=>rw[hK]at e;cases e
 |cons x r=>
  rw[hK]at e
  have h2:x.1=2:=by have:(hk.heap_1 w.params).head?.map (·.1)=some 2:=rfl;rw[hK]at this;simpa using this
  by_cases ha:a=2
  ·subst ha;have:=K7 w;unfold kz at this;rw[hK]at this;rw[this]at e;cases e
  ·obtain⟨b,ob⟩:=x
   simp only at h2
   subst h2
   show List.lookup a ((2,ob)::r)=some o
   have hne:(a==2)=false:=by simpa using ha
   rw[List.lookup_cons,hne];exact e)
noncomputable def oF(L:Addr):Env:={scope:={kind:=b6,names:=[(aA "version",NameKind.local),(aA "component_re",NameKind.local),(aA "result",NameKind.local),(aA "v",NameKind.local),(aA "t",NameKind.local),(aA "_twin_re_1",aZ),(aA "int",aZ),(aA "ValueError",aZ),(aA "_ver_stages",aZ)],isGenerator:=false,isCoroutine:=false},locals:=L,globals:=mainGlobals,cells:=[],qual:=aA "_comparable_version"++".<locals>.",func:=some 57,code:=.ref 56,frame:=some L,builtins:=builtinsNs}
noncomputable def tP(L:Addr):Env:={scope:={kind:=b6,names:=[(aA "self",dL)],isGenerator:=false,isCoroutine:=false},locals:=L,globals:=mainGlobals,cells:=[(aA "self",L+1)],qual:=aA "FreezableDefaultDict.freeze"++".<locals>.",func:=some 123,code:=.ref 122,frame:=some L,builtins:=builtinsNs}
noncomputable def AY(L:Addr):Env:={scope:={kind:=b6,names:=[(aA "_cls",NameKind.local),(aA "name",NameKind.local),(aA "value",NameKind.local),(aA "tuple",aZ)],isGenerator:=false,isCoroutine:=false},locals:=L,globals:=mainGlobals,cells:=[],qual:=aA "Pair.__new__"++".<locals>.",func:=some 148,code:=.ref 147,frame:=some L,builtins:=builtinsNs}
noncomputable def uJ(L:Addr):Env:={scope:={kind:=b6,names:=[(aA "cls",NameKind.local),(aA "text",NameKind.local),(aA "map",aZ),(aA "str",aZ)],isGenerator:=false,isCoroutine:=false},locals:=L,globals:=mainGlobals,cells:=[],qual:=aA "Pair.parse"++".<locals>.",func:=some 215,code:=.ref 214,frame:=some L,builtins:=builtinsNs}
noncomputable def Jj(L:Addr):Env:={scope:={kind:=b6,names:=[(aA "x",dL),(aA "pieces",dL)],isGenerator:=false,isCoroutine:=false,more:=[(aA "fast",bH (aA "x")),(aA "fast",bH (aA "pieces")),(aA "fast",bH (aA "k"))]},locals:=L,globals:=mainGlobals,cells:=[(aA "pieces",L+2),(aA "x",L+1)],qual:=aA "_law_version"++".<locals>.",func:=some 229,code:=.ref 228,frame:=some L,builtins:=builtinsNs}
noncomputable def dU(L:Addr):Env:={scope:={kind:=b6,names:=[(aA "index",NameKind.local),(aA "place",NameKind.local),(aA "x",NameKind.local),(aA "pair",NameKind.local),(aA "things",NameKind.local),(aA "shelf",NameKind.local),(aA "told",NameKind.local),(aA "Pair",aZ),(aA "_law_version",aZ),(aA "_comparable_version",aZ),(aA "list",aZ)],isGenerator:=false,isCoroutine:=false,more:=[(aA "fast",bH (aA "index")),(aA "fast",bH (aA "place")),(aA "fast",bH (aA "x")),(aA "fast",bH (aA "pair")),(aA "fast",bH (aA "things")),(aA "fast",bH (aA "thing")),(aA "fast",bH (aA "shelf")),(aA "fast",bH (aA "told"))]},locals:=L,globals:=mainGlobals,cells:=[],qual:=aA "_law_deed"++".<locals>.",func:=some 234,code:=.ref 233,frame:=some L,builtins:=builtinsNs}
noncomputable def wS(L:Addr):Env:={scope:={kind:=b6,names:=[(aA "text",NameKind.local),(aA "runs",NameKind.local),(aA "last",NameKind.local),(aA "sign",NameKind.local),(aA "kind",NameKind.local)],isGenerator:=false,isCoroutine:=false,more:=[(aA "fast",bH (aA "text")),(aA "fast",bH (aA "runs")),(aA "fast",bH (aA "last")),(aA "fast",bH (aA "sign")),(aA "fast",bH (aA "kind")),(aA "fast",bH (aA "run"))]},locals:=L,globals:=mainGlobals,cells:=[],qual:=aA "_law_runs"++".<locals>.",func:=some 239,code:=.ref 238,frame:=some L,builtins:=builtinsNs}
noncomputable def L8(L:Addr):Env:={scope:={kind:=b6,names:=[(aA "run",dL),(aA "stages",dL),(aA "type",aZ),(aA "int",aZ),(aA "range",aZ)],isGenerator:=false,isCoroutine:=false,more:=[(aA "fast",bH (aA "run")),(aA "fast",bH (aA "stages")),(aA "fast",bH (aA "k"))]},locals:=L,globals:=mainGlobals,cells:=[(aA "stages",L+2),(aA "run",L+1)],qual:=aA "_law_rank"++".<locals>.",func:=some 244,code:=.ref 243,frame:=some L,builtins:=builtinsNs}
noncomputable def sA(L:Addr):Env:={scope:={kind:=b6,names:=[(aA "one",NameKind.local),(aA "two",NameKind.local),(aA "k",NameKind.local),(aA "range",aZ),(aA "min",aZ),(aA "len",aZ)],isGenerator:=false,isCoroutine:=false},locals:=L,globals:=mainGlobals,cells:=[],qual:=aA "_law_less"++".<locals>.",func:=some 251,code:=.ref 250,frame:=some L,builtins:=builtinsNs}
noncomputable def Ji(L:Addr):Env:={scope:={kind:=b6,names:=[(aA "shelves",dL),(aA "ranked",dL),(aA "less",dL),(aA "range",aZ),(aA "len",aZ)],isGenerator:=false,isCoroutine:=false,more:=[(aA "fast",bH (aA "shelves")),(aA "fast",bH (aA "runs")),(aA "fast",bH (aA "places")),(aA "fast",bH (aA "run")),(aA "fast",bH (aA "ranked")),(aA "fast",bH (aA "one")),(aA "fast",bH (aA "other")),(aA "fast",bH (aA "less")),(aA "fast",bH (aA "k"))]},locals:=L,globals:=mainGlobals,cells:=[(aA "less",L+3),(aA "ranked",L+2),(aA "shelves",L+1)],qual:=aA "_law_ordered"++".<locals>.",func:=some 256,code:=.ref 255,frame:=some L,builtins:=builtinsNs}
noncomputable def oH(L:Addr):Env:={scope:={kind:=b6,names:=[(aA "rows",dL),(aA "end",NameKind.local),(aA "shut",NameKind.local),(aA "names",NameKind.local),(aA "kept",NameKind.local),(aA "deed",NameKind.local),(aA "name",dL),(aA "runs",NameKind.local),(aA "cut",NameKind.local),(aA "held",NameKind.local),(aA "one",NameKind.local),(aA "lines",dL),(aA "len",aZ),(aA "range",aZ)],isGenerator:=false,isCoroutine:=false,more:=[(aA "fast",bH (aA "rows")),(aA "fast",bH (aA "end")),(aA "fast",bH (aA "k")),(aA "fast",bH (aA "shut")),(aA "fast",bH (aA "names")),(aA "fast",bH (aA "kept")),(aA "fast",bH (aA "deed")),(aA "fast",bH (aA "name")),(aA "fast",bH (aA "runs")),(aA "fast",bH (aA "cut")),(aA "fast",bH (aA "held")),(aA "fast",bH (aA "one")),(aA "fast",bH (aA "lines"))]},locals:=L,globals:=mainGlobals,cells:=[(aA "lines",L+3),(aA "name",L+2),(aA "rows",L+1)],qual:=aA "_law_kept"++".<locals>.",func:=some 261,code:=.ref 260,frame:=some L,builtins:=builtinsNs}
noncomputable def H1(L:Addr):Env:={scope:={kind:=b6,names:=[(aA "rows",NameKind.local),(aA "kept",NameKind.local),(aA "k",dL),(aA "deed",NameKind.local),(aA "name",dL),(aA "runs",dL),(aA "lists",NameKind.local)],isGenerator:=false,isCoroutine:=false,more:=[(aA "fast",bH (aA "rows")),(aA "fast",bH (aA "kept")),(aA "fast",bH (aA "k")),(aA "fast",bH (aA "deed")),(aA "fast",bH (aA "name")),(aA "fast",bH (aA "runs")),(aA "fast",bH (aA "one")),(aA "fast",bH (aA "shelves")),(aA "fast",bH (aA "other")),(aA "fast",bH (aA "places")),(aA "fast",bH (aA "lists")),(aA "fast",bH (aA "place"))]},locals:=L,globals:=mainGlobals,cells:=[(aA "runs",L+3),(aA "name",L+2),(aA "k",L+1)],qual:=aA "_law_seen"++".<locals>.",func:=some 266,code:=.ref 265,frame:=some L,builtins:=builtinsNs}
noncomputable def cJ(L:Addr):Env:={scope:={kind:=b6,names:=[(aA "script",NameKind.local),(aA "events",NameKind.local),(aA "index",dL),(aA "told",NameKind.local),(aA "rows",dL),(aA "kept",dL),(aA "stand",NameKind.local),(aA "order",NameKind.local),(aA "FreezableDefaultDict",aZ),(aA "enumerate",aZ),(aA "_law_kept",aZ),(aA "range",aZ),(aA "len",aZ)],isGenerator:=false,isCoroutine:=false,more:=[(aA "fast",bH (aA "script")),(aA "fast",bH (aA "events")),(aA "fast",bH (aA "index")),(aA "fast",bH (aA "place")),(aA "fast",bH (aA "x")),(aA "fast",bH (aA "told")),(aA "fast",bH (aA "rows")),(aA "fast",bH (aA "kept")),(aA "fast",bH (aA "k")),(aA "fast",bH (aA "name")),(aA "fast",bH (aA "book")),(aA "fast",bH (aA "key")),(aA "fast",bH (aA "shelf")),(aA "fast",bH (aA "stand")),(aA "fast",bH (aA "shelves")),(aA "fast",bH (aA "runs")),(aA "fast",bH (aA "places")),(aA "fast",bH (aA "run")),(aA "fast",bH (aA "order"))]},locals:=L,globals:=mainGlobals,cells:=[(aA "kept",L+3),(aA "rows",L+2),(aA "index",L+1)],qual:=aA "law"++".<locals>.",func:=some 271,code:=.ref 270,frame:=some L,builtins:=builtinsNs}
noncomputable def wD(L:Addr):Env:={scope:={kind:=b6,names:=[(aA "self",NameKind.local),(aA "obj",NameKind.local),(aA "objtype",NameKind.local),(aA "issubclass",aZ),(aA "type",aZ),(aA "tuple",aZ),(aA "_wall",aZ)],isGenerator:=false,isCoroutine:=false},locals:=L,globals:=mainGlobals,cells:=[],qual:=aA "_tuplegetter.__get__"++".<locals>.",func:=some 79,code:=.ref 78,frame:=some L,builtins:=builtinsNs}
theorem pV{α:Type}{P:List α→Prop}(h0:P [])(h1:∀l a,P l→P (l++[a])):∀l,P l:=by
 intro l
 have:∀n (l:List α),l.length=n→P l:=by
  intro n
  induction n with
  |zero=>intro l hl;refine aM (List.length_eq_zero_iff.mp hl) ?_;exact h0
  |succ n ih=>
   intro l hl
   have hne:l≠[]:=by intro e;replace hl:=e▸hl;cases hl
   refine gU (List.dropLast_concat_getLast hne) ?_
   exact h1 _ _ (ih _ (by refine aM List.length_dropLast ?_;exact by(refine aM hl ?_;rw[Nat.add_sub_cancel])))
 exact this _ l rfl
noncomputable def kd(c:Nat):Nat:=if c=46∨c=95∨c=43∨c=45 then 0 else if 48≤c∧c≤57 then 1 else 2
noncomputable def kS:Nat→Str
 |0=>aA "."
 |1=>aA "0"
 |_=>aA "x"
noncomputable def sP(rs:List (List Nat))(c:Nat):List (List Nat):=rs.dropLast++[(rs.getLast?.getD [])++[c]]
noncomputable def jG(st:List (List Nat)×Nat)(c:Nat):List (List Nat)×Nat:=
 (if kd c≠0∧kd c=st.2 then sP st.1 c else if kd c≠0 then st.1++[[c]]else st.1,kd c)
noncomputable def i0(cs:List Nat):List (List Nat)×Nat:=cs.foldl jG ([],0)
inductive fB
 |num (n:Nat)
 |txt (cs:List Nat)
 deriving DecidableEq
noncomputable def fB.data:fB→aY
 | .num n=>.int n
 | .txt cs=>.str ⟨cs.toArray⟩
noncomputable def nZ(r:List Nat):fB:=if kd (r.headD 0)=1 then .num (gX r)else .txt r
noncomputable def fE(cs:List Nat):List fB:=(i0 cs).1.map nZ
noncomputable def sZ(r:List Nat):aY:=.str ⟨r.toArray⟩
structure Er(r:List Nat):Prop where
 ne:r≠[]
 k:kd (r.headD 0)≠0
 all:∀c∈r,kd c=kd (r.headD 0)
theorem x5(cs:List Nat)(c:Nat):i0 (cs++[c])=jG (i0 cs) c:=by unfold i0;refine aM l7 ?_;rfl
theorem oN:∀cs:List Nat,(∀r∈(i0 cs).1,Er r∧(∀c∈r,c∈cs)∧r.length≤cs.length)∧((i0 cs).2≠0→∃rs r,(i0 cs).1=rs++[r]∧kd (r.headD 0)=(i0 cs).2)∧(i0 cs).1.length≤cs.length:=by
 intro cs
 refine pV (P:=fun cs=>(∀r∈(i0 cs).1,Er r∧(∀c∈r,c∈cs)∧r.length≤cs.length)∧((i0 cs).2≠0→∃rs r,(i0 cs).1=rs++[r]∧kd (r.headD 0)=(i0 cs).2)∧(i0 cs).1.length≤cs.length) ?_ ?_ cs
 ·exact⟨fun r h=>by simp[i0]at h,fun h=>absurd rfl h,bO _⟩
 ·intro cs c ih
  refine jM ih fun h1 h2 h3=>?_
  rw[x5]
  unfold jG
  by_cases hk:kd c≠0∧kd c=(i0 cs).2
  ·refine aM (if_pos hk) ?_
   refine fO (h2 (hk.2▸hk.1)) fun rs r e er=>?_
   have hr:=h1 r (by refine aM e ?_;simp)
   have e2:sP (i0 cs).1 c=rs++[r++[c]]:=by unfold sP;refine aM e ?_;simp
   have hh:(r++[c]).headD 0=r.headD 0:=by
    cases r with
    |nil=>exact absurd rfl hr.1.ne
    |cons a t=>rfl
   refine⟨fun q hq=>?_,fun z=>⟨rs,r++[c],e2,aM hh (aM er (gU hk.2 rfl))⟩,?_⟩
   ·simp only[e2]at hq
    rcases eX hq with hq|hq
    ·refine jM (h1 q (by refine aM e ?_;simp[hq])) fun a b d=>?_
     exact⟨a,fun x hx=>by simp[b x hx],by simp;lia⟩
    ·replace hq:=kQ hq;subst hq
     refine⟨⟨by simp,by refine aM hh ?_;exact hr.1.k,fun x hx=>?_⟩,fun x hx=>?_,by simp;exact hr.2.2⟩
     ·refine aM hh ?_
      rcases eX hx with hx|hx
      ·exact hr.1.all x hx
      ·simp at hx;obtain rfl:=hx.symm;refine aM er ?_;exact hk.2
     ·rcases eX hx with hx|hx
      ·simp[hr.2.1 x hx]
      ·simp[hx]
   ·have:(i0 cs).1.length=rs.length+1:=by refine aM e ?_;simp
    refine(?_:(sP (i0 cs).1 c).length≤_)
    refine aM e2 ?_;simp;exact aD (aD (bN _ _) (aU this.symm)) h3
  ·refine aM (if_neg hk) ?_
   by_cases hk0:kd c≠0
   ·refine aM (if_pos hk0) ?_
    refine⟨fun q hq=>?_,fun z=>⟨(i0 cs).1,[c],rfl,rfl⟩,by simp;exact h3⟩
    rcases eX hq with hq|hq
    ·refine jM (h1 q hq) fun a b d=>?_
     exact⟨a,fun x hx=>by simp[b x hx],by simp;lia⟩
    ·simp at hq;obtain rfl:=hq.symm
     exact⟨⟨by simp,hk0,fun x hx=>by simp at hx;obtain rfl:=hx.symm;rfl⟩,fun x hx=>by simp[hx],by simp⟩
   ·refine aM (if_neg hk0) ?_
    refine⟨fun q hq=>?_,fun h=>absurd h (hk0),by simp;exact Nat.le_succ_of_le (by assumption)⟩
    refine jM (h1 q hq) fun a b d=>?_
    exact⟨a,fun x hx=>by simp[b x hx],by simp;lia⟩
theorem u5:∀c<128,Txt.contains (aA "._+-") ⟨#[c]⟩=(kd c==0):=by decide+kernel
theorem vO:∀c<128,Txt.contains (aA "0123456789") ⟨#[c]⟩=(kd c==1):=by decide+kernel
theorem HJ:∀k<3,((kS k).cps.toList !=(aA ".").cps.toList)=(k !=0):=by decide+kernel
theorem L5:∀k<3,∀l<3,((kS k).cps.toList==(kS l).cps.toList)=(k==l):=by decide+kernel
theorem C1(c:Nat):kd c<3:=by
 unfold kd;split
 ·decide
 ·split<;>decide
theorem HI{c:Nat}(h:kd c=1):48≤c∧c≤57:=by
 unfold kd at h
 split at h
 ·omega
 ·split at h
  ·assumption
  ·lia
theorem n6{α:Type}(F:α→aY)(d:α)(l:List α):(bI l.length).map (fun i=>F (l[i]?.getD d))=l.map F:=by
 apply List.ext_getElem?
 intro i
 rw[cQ,cQ]
 rcases eM i l.length with h|h
 ·rw[List.getElem?_range h,bC h];simp[h]
 ·rw[pC (by simpa using h),pC h];rfl
theorem AX{α:Type}(l:List α):l.filter (fun z=>true)=l:=by simp
theorem qN{α:Type}(F:α→aY)(d:α)(l:List α):((bI l.length).filter fun z=>true).map (fun i=>F (l[i]?.getD d))=l.map F:=by rw[AX,n6]
theorem j6{α:Type}(F:α→aY)(d:α)(e:aY)(l:List α){i:Nat}(h:i<l.length):(l.map F)[i]?.getD e=F (l[i]?.getD d):=by simp[h]
theorem fH{α:Type}(d:α)(l:List α){i:Nat}(h:i<l.length):l[i]?.getD d∈l:=by simp[h]
theorem fX{n:Nat}(h:n≤1000000):n≤sizeLine:=by refine aM bV ?_;exact aD (by assumption) (by decide)
theorem Br{X:List Addr}{s:aH}{v:aG}{x:Str}{n:Int}(hx:Is V X s.heap v (.str x))(hn:PySem.intText? x=some n)(hl:x.length≤640):Pu V prog w A X s (call (.type "int") [v]) (Dt (.int n)):=
 .mk fun Y s' hu hb Q E q=>by
  (refine bK (Is.of_str hx) fun t e_0=>?_;subst e_0)
  exact KIN.call_text hn hl (q _ _ (d9 s' _) (Is.int _ _))
theorem GK(a:List Nat)(c:Nat):(⟨a.toArray⟩:Str)++(⟨#[c]⟩:Str)=⟨(a++[c]).toArray⟩:=by
 refine(?_:Str.mk (a.toArray++#[c])=_)
 simp
theorem JL{x:aG}{n:Nat}{t:Str}(kw:KW V (kz w) mg mb X s.heap)(r:dK A (n+2))(hx:Is V X s.heap x (.str t))(ha:∀c∈t.cps.toList,c<128)(hz:t.length≤100):
  Pu V prog w A X s (call (.ref 239) [x]) (Dt (.list ((fE t.cps.toList).map fB.data))):=by
 refine x7 wS kw r (ho:=rfl) (by rfl) (by rfl) (binds:=[("text",x)]) (by rfl) (by rfl) ?_ (fun L=>rfl) ?_
 ·intro L y hy;replace hy:=kQ hy;subst hy;exact .inl rfl
 ·intro L Y u s₁ Q E hu nx F q
  have hx₁:=hx.nx nx
  have kw₁:=kw.nx nx
  refine eS (Bb (d:=.str (kS 0)) F r.handled (fun X' s' h=>gO _) (fun s₂ l v F₂ n₂ hl O₂ hv₂=>⟨rfl,?_⟩) (.inl rfl) (.inl rfl))
  have hx₂:=hx₁.nx n₂
  obtain⟨cls,src⟩:=IZ (prog:=prog) (w:=w) (A:=A.deeper (wS L)) (x:=t) r.handled
  refine eS (xT F₂ (P:=Dt (.str t)) (aX (F₂.loc rfl) hx₂) src (l::nB (wS L)) ?_ (fun b hb=>aC _ hb)
   (fun X' i m' cm' s'=>iI V X' u s' l (((i0 (t.cps.toList.take i)).1).map sZ)∧m' (aA "runs")=some (.ref l)∧∃v,m' (aA "last")=some v∧Is V X' s'.heap v (.str (kS (i0 (t.cps.toList.take i)).2)))
   (IE V (wS L) (aA "sign") _) (t8 rfl (.inl rfl)) ?_ ?_ ?_ ?_)
  ·intro b hb
   rcases r4 hb with rfl|hb
   ·exact O₂.lx
   ·exact F₂.inA b hb
  ·rintro X' X'' i m' cm' t₁ t₂ i1 i2 nn kk ⟨O,h1,v,h2,h3⟩
   exact⟨O.nx nn (i2 _ O₂.lx) fun ob e=>kk l ob O₂.lx O₂.lV (O₂.notA F₂) e,h1,v,h2,h3.nx nn⟩
  ·intro X' s' hw
   exact⟨O₂.nx hw.nx (hw.inc _ O₂.lx) fun ob e=>a7 hw.keeps _ ob O₂.lV e,rfl,v,rfl,hv₂.nx hw.nx⟩
  ·rintro i X' s₃ m₀ cm₀ m' cm' Q' E' hi inX nn F₃ ⟨vs,rfl,rfl,hs⟩ ⟨O₃,h1,vl,h2,h3⟩ q1 q2
   obtain⟨c,hc⟩:∃c,(t.cps[i]?).getD 0=c:=⟨_,rfl⟩
   have hc':t.cps.toList[i]?=some c:=by
    refine gU hc ?_;simp[hi]
   have hc2:c<128:=ha c (jZ hc')
   have hsn:t.cps.toList.take (i+1)=t.cps.toList.take i++[c]:=by refine aM l6 (aM hc' ?_);rfl
   have hk3:=C1 c
   refine jM (oN (t.cps.toList.take i)) fun I1 I2 I3=>?_
   have hlk:(i0 (t.cps.toList.take i)).2<3:=by
    rcases Nat.eq_zero_or_pos (i0 (t.cps.toList.take i)).2 with h|h
    ·exact aR (aU h) (by decide)
    ·refine fO (I2 (jA h)) fun rs r o er=>?_
     refine gU er ?_;exact C1 _
   have hti:(t.cps.toList.take i).length≤100:=by
    refine aM f8 ?_
    have:t.cps.toList.length=t.length:=bM
    exact aD (aD (jF _ _) (aU this)) hz
   generalize hst:i0 (t.cps.toList.take i)=st at O₃ h3 I1 I2 I3 hlk
   have e1:i0 (t.cps.toList.take (i+1))=jG st c:=by(refine aM hsn ?_;rewrite[x5];exact aM hst rfl)
   have hsD:Is V X' s₃.heap vs (.str ⟨#[c]⟩):=by refine gU hc ?_;exact hs
   refine eS (oW (d:=.str (kS (kd c))) F₃ ?_ fun vk s₄ F₄ mu₄ hvk=>⟨rfl,?_⟩)
   ·refine tG (c:=kd c==0) ?_ (fun h=>?_) (fun h=>tG (c:=kd c==1) ?_ (fun h=>?_) (fun h'=>?_))
    ·refine gU (u5 c hc2) ?_
     exact x9 (aX (F₃.loc rfl) hsD) (gO _)
    ·refine aM (beq_iff_eq.mp h) ?_;exact gO _
    ·refine gU (vO c hc2) ?_
     exact x9 (aX (F₃.loc rfl) hsD) (gO _)
    ·refine aM (beq_iff_eq.mp h) ?_;exact gO _
    ·have:kd c=2:=by
      have h1:kd c≠0:=by simpa using h
      have h2:kd c≠1:=by with_reducible exact beq_eq_false_iff_ne.mp h'
      exact eq2 _ (C1 _) (beq_eq_false_iff_ne.mp (by assumption)) (beq_eq_false_iff_ne.mp (by assumption))
     refine aM this ?_;exact gO _
   have n₄:=F₃.nx mu₄
   have O₄:=O₃.muA F₃ mu₄
   have hs₄:=hsD.nx n₄
   have h3₄:=h3.nx n₄
   refine IU F₄ (fun s₅=>Mu V (l::nB (wS L)) s₄ s₅∧iI V X' u s₅ l (((i0 (t.cps.toList.take (i+1))).1).map sZ)) (xS (c:=(kd c !=0)&&((kd c==st.2)&&true)) F₄ (uV ?_ fun h=>uV ?_ fun h'=>uU) fun s₅ F₅ k₅=>?_) ?_
   ·exact(AK (x:=kS (kd c)) (y:=aA ".") (aX (F₄.loc rfl) hvk) (gO _)).exb (HJ _ hk3)
   ·exact(FR (x:=kS (kd c)) (y:=kS st.2) (aX (F₄.loc rfl) hvk) (aX (F₄.loc (x:=aA "last") (v:=vl) h2) h3₄)).exb (L5 _ hk3 _ hlk)
   ·have O₅:=O₄.keep k₅
    have hs₅:Is V X' s₅.heap vs _:=hs₄.keep (a7 k₅)
    refine aM e1 ?_
    by_cases hcase:kd c≠0∧kd c=st.2
    ·have hb:((kd c !=0)&&((kd c==st.2)&&true))=true:=by simp[hcase.1,hcase.2.symm]
     refine aM hb ?_
     refine fO (I2 (hcase.2▸hcase.1)) fun rs rr er ek=>?_
     have hlr:=(I1 rr (by refine aM er ?_;simp)).2.2
     have e2:(jG st c).1.map sZ=rs.map sZ++[sZ (rr++[c])]:=by
      unfold jG;refine aM (if_pos hcase) ?_;unfold sP;refine aM er ?_;simp
     rw[er,bB]at O₅
     refine eS (DJ (d:=sZ (rr++[c])) (e:=sZ rr) F₅ O₅ ?_ (eQ (F₅.loc (x:=aA "runs") (v:=.ref l) h1)) fun s₆ F₆ mu₆ O₆=>⟨rfl,lP ⟨rfl,F₆,?_,?_⟩⟩)
     ·exact(x8 (x:=⟨rr.toArray⟩) (y:=⟨#[c]⟩) (I8 O₅ (eQ (F₅.loc (x:=aA "runs") (v:=.ref l) h1)) (by simp;rfl)) (aX (F₅.loc rfl) hs₅) (by simp[Str.length,bV];exact bA (aR (aD hlr hti) (by decide)))).dt (by rw[GK];rfl)
     ·exact(Mu.of_keeps k₅).trans (mu₆.more fun a h=>by simp at h;simp[h])
     ·refine aM e2 ?_;exact O₆
    ·have hb:((kd c !=0)&&((kd c==st.2)&&true))=false:=by
      cases h1:(kd c !=0)<;>cases h2:(kd c==st.2)<;>simp_all
     refine aM hb ?_
     refine eS (xS (c:=kd c !=0) F₅ ?_ fun s₆ F₆ k₆=>?_)
     ·exact(AK (x:=kS (kd c)) (y:=aA ".") (aX (F₅.loc rfl) (hvk.keep (a7 k₅))) (gO _)).exb (HJ _ hk3)
     ·have O₆:=O₅.keep k₆
      by_cases hk0:kd c≠0
      ·have hb2:(kd c !=0)=true:=by simp[hk0]
       refine aM hb2 ?_
       refine eS (rY (d:=sZ [c]) F₆ O₆ (eQ (F₆.loc (x:=aA "runs") (v:=.ref l) h1)) (aX (F₆.loc rfl) (hs₅.keep (a7 k₆))) (by simp[bV];exact bA (aR (aD I3 hti) (by decide))) fun s₇ F₇ mu₇ O₇=>⟨rfl,lP ⟨rfl,lP ⟨rfl,F₇,?_,?_⟩⟩⟩)
       ·exact(Mu.of_keeps (aN k₅ k₆)).trans (mu₇.more fun a h=>by simp at h;simp[h])
       ·have:(jG st c).1.map sZ=st.1.map sZ++[sZ [c]]:=by
         unfold jG;refine aM (if_neg hcase) (aM (if_pos hk0) ?_);simp
        refine aM this ?_;exact O₇
      ·have hb2:(kd c !=0)=false:=by simpa using hk0
       refine aM hb2 ?_
       refine lP ⟨rfl,lP ⟨rfl,F₆,.of_keeps (aN k₅ k₆),?_⟩⟩
       have:(jG st c).1.map sZ=st.1.map sZ:=by
        unfold jG;exact aM (if_neg hcase) (aM (if_neg hk0) rfl)
       refine aM this ?_;exact O₆
   ·rintro s₅ F₅ ⟨mu₅,O₅⟩
    have n₅:Nx V X' s₄ X' s₅:=mu₅.nx fun a ha=>by
     rcases r4 ha with rfl|ha
     ·exact O₃.lx
     ·exact F₃.inA a ha
    refine eS (oW (d:=.str (kS (kd c))) F₅ (aX (F₅.loc rfl) (hvk.nx n₅)) fun v6 s₆ F₆ mu₆ h6=>⟨rfl,lP (q1 s₆ _ _ F₆ ?_ ⟨O₅.muA F₅ mu₆,h1,v6,rfl,?_⟩)⟩)
    ·exact(mu₄.more fun a h=>aC _ h).trans (mu₅.trans (mu₆.more fun a h=>aC _ h))
    ·refine aM e1 ?_;exact h6
  ·rintro s₃ m' cm' nn _ F₃ ⟨O₃,h1,vl,h2,h3⟩
   have hcs:t.cps.toList.take t.cps.size=t.cps.toList:=by
    exact gU bM (aM jC rfl)
   rw[hcs]at O₃
   refine jM (oN t.cps.toList) fun I1 o I3=>?_
   have htl:t.cps.toList.length≤100:=by
    have:t.cps.toList.length=t.length:=bM
    exact aD (aU this) hz
   refine⟨rfl,?_⟩
   unfold fE at q
   generalize (i0 t.cps.toList).1=rs at O₃ I1 I3 q
   have F₄:=F₃.less (X':=kD (wS L) Y) (fun a h=>aC _ h) fun a h=>aL _ h
   have kw₃:=kw₁.nx (n₂.trans nn)
   have kw₄:KW V (kz w) mg mb (kD (wS L) Y) s₃.heap:=kw₃.less fun a h=>aC _ h
   have hrs:Is V (kD (wS L) Y) s₃.heap (.ref l) (.list (rs.map sZ)):=O₃.is (fun a h=>aC _ h) hl
   refine qK (d:=.list ((rs.map nZ).map fB.data)) F₄ ?_ fun v s₄ F₅ n₅ hv=>q v s₄ F₅.keeps (hv.less fun a ha=>aJ _ ha)
   refine mH (x:="run") (own:=none) (n:=(rs.map sZ).length) (f:=fun i=>(rs.map sZ)[i]?.getD .none) (p:=fun o=>true) (g:=fun i=>fB.data (nZ (rs[i]?.getD []))) (P:=Dt (.list (rs.map sZ))) (cls:="list_iterator")
    ⟨aX (F₄.loc (x:=aA "runs") (v:=.ref l) h1) hrs,hW r.handled,by refine aM bV ?_;simp;exact bA (aR (aD I3 htl) (by decide)),fun L' c j Y' v' val hj hw hb hn hval=>eU,?_,rfl,rfl,by decide+kernel,fun o=>rfl,fun o=>rfl,fun o o=>.inl rfl,fun o=>rfl⟩ ?_
   ·intro L' c j Y' v' val hj _ hw hb hn hval
    have hj':j<rs.length:=by simpa using hj
    replace hval:=(j6 sZ [] _ _ hj')▸hval
    refine jM (I1 _ (fH [] rs hj')) fun ok hin hle=>?_
    generalize rs[j]?.getD []=rr at hval ok hin hle
    have hrl:rr.length≤100:=aD hle htl
    obtain⟨c0,tl,rfl⟩:∃c0 tl,rr=c0::tl:=by
     cases rr with
     |nil=>exact absurd rfl ok.ne
     |cons a b=>exact⟨a,b,rfl⟩
    have hca:Txt.charAt ⟨(c0::tl).toArray⟩ 0=some c0:=by
     unfold Txt.charAt
     refine aM (seqIndex_of (Int.le_refl 0) (by simp[Str.length])) ?_
     rfl
    refine tG (c:=kd c0==1) ?_ (fun h=>?_) (fun h=>?_)
    ·refine(x9 (y:=⟨#[c0]⟩) ((x6 (x:=⟨(c0::tl).toArray⟩) (aX hn hval) (eE 0) (by decide) (by refine aM hca ?_;rfl)).dt ?_) (gO _)).exb (vO c0 (ha c0 (hin c0 aF)))
     unfold Txt.item;refine aM hca ?_;rfl
    ·have hk:kd c0=1:=by simpa using h
     have hdig:NumText.AllDigits (c0::tl):=fun c hc=>HI (by refine aM (ok.all c hc) ?_;exact hk)
     refine(f5 (kF (kw₄.nx hw.nx)) (aT (aX hn hval) bF) fun Z z vs hz hbz hvs=>?_)
     (refine bG (mN hvs) fun v1 e_0=>?_;subst e_0;refine fun h1'=>?_)
     refine(Br h1' (n:=(gX (c0::tl):Nat)) (intText_digits (hdig) (by simp) (aD (by assumption) (by decide))) (aD (by assumption) (by decide))).dt ?_
     unfold nZ
     refine aM List.headD_cons (aM (if_pos hk) ?_);rfl
    ·have hk:kd c0≠1:=by simpa using h
     refine(aX hn hval).dt ?_
     unfold nZ
     refine aM List.headD_cons (aM (if_neg hk) ?_);rfl
   ·(refine aM bW ?_;rw[aQ])
    exact qN (fun r=>fB.data (nZ r)) [] rs
mutual
noncomputable def j4:aY→Bool
 | .none| .int _| .str _=>true
 | .bool _| .dict _=>false
 | .list xs| .tuple xs=>lR xs
noncomputable def lR:List aY→Bool
 |[]=>true
 |x::xs=>j4 x&&lR xs
end
mutual
theorem qA:∀d e:aY,j4 d=true→j4 e=true→(bU d e=true↔d=e)
 | .none,e,_,h=>by cases e<;>simp[bU]
 | .int i,e,_,h=>by cases e<;>simp[bU,j4]at h⊢
 | .str x,e,_,h=>by cases e<;>simp[bU]
 | .list xs,e,h1,h=>by
  cases e with
  |list ys=>simp only[bU,PyData.list.injEq];exact sM xs ys (by simpa[j4]using h1) (by simpa[j4]using h)
  |_=>simp[bU]
 | .tuple xs,e,h1,h=>by
  cases e with
  |tuple ys=>simp only[bU,PyData.tuple.injEq];exact sM xs ys (by simpa[j4]using h1) (by simpa[j4]using h)
  |_=>simp[bU]
 | .bool _,_,h,_=>by simp[j4]at h
 | .dict _,_,h,_=>by simp[j4]at h
theorem sM:∀xs ys:List aY,lR xs=true→lR ys=true→(pB xs ys=true↔xs=ys)
 |[],[],_,_=>by simp[pB]
 |[],_::_,_,_=>by simp[pB]
 |_::_,[],_,_=>by simp[pB]
 |x::xs,y::ys,h1,h2=>by
  simp only[lR,b9]at h1 h2
  simp only[pB,b9,List.cons.injEq]
  rw[qA x y h1.1 h2.1,sM xs ys h1.2 h2.2]
end
theorem JT(a b:Int):bU (.int a) (.int b)=(a==b):=by simp[bU]
theorem r3(r:fB):j4 r.data=true:=by cases r<;>simp[fB.data,j4]
theorem xB{r r':fB}(h:r.data=r'.data):r=r':=by
 cases r<;>cases r'<;>simp[fB.data]at h
 ·have:(_:Nat)=_:=Int.ofNat.inj h
  exact aM this rfl
 ·exact aM h rfl
noncomputable def fB.ok:fB→Prop
 | .num _=>True
 | .txt cs=>∀c∈cs,c<128
theorem xX{r:fB}(h:r.ok):cP r.data=true:=by
 cases r with
 |num n=>rfl
 |txt cs=>
  unfold cP
  have:jB (.str ⟨cs.toArray⟩)=true:=by
   unfold jB PyData.strOk
   (refine gU Array.all_toList ?_;rw[List.all_eq_true])
   intro c hc
   have:=h c (hc)
   exact decide_eq_true (aO (by assumption) (by decide))
  (rewrite[fB.data];refine aM this ?_);rfl
theorem Ae{r:fB}(h:r.ok):jB r.data=true:=g6 (xX h)
noncomputable def qQ:fB→Bool
 | .num _=>true
 | .txt _=>false
noncomputable def sD(x:String):aY:=.str (aA x)
noncomputable def tC(r:fB):List (List aY):=[[sD "dev"],[sD "alpha",sD "a"],[sD "beta",sD "b"],[sD "c"],[sD "RC",sD "rc"],if qQ r then[r.data]else[],[sD "pl",sD "p"]]
noncomputable def s0(r:fB)(k:Nat):Bool:=((tC r)[k]?.getD []).any fun y=>bU y r.data
noncomputable def oE(r:fB):Int:=((((bI 7).filter (s0 r)).map fun(k:Nat)=>(k:Int))++[-1]).headD 0
noncomputable def g8(r:fB):aY:=.list [.int (oE r),r.data]
theorem Ca{r:fB}{v:aG}(hv:Is V X s.heap v r.data):Pu V prog w A X s (call (.type "type") [v]) (Ex (.type (if qQ r then"int" else"str"))):=.mk fun Y s' hu hb Q E q=>by
 cases r with
 |num n=>
  (refine bK (Is.of_int hv) fun t e_0=>?_;subst e_0)
  exact call_type_of (typeIs_int _ _ _) (by decide) (q _ _ (cE s') rfl)
 |txt cs=>
  (refine bK (Is.of_str hv) fun t e_0=>?_;subst e_0)
  exact call_type_of (typeIs_str _ _ _) (by decide) (q _ _ (cE s') rfl)
theorem KL{pos p1:Pos}{k:Nat}{i:Int}:Pu V prog w A X s (eval (.UnaryOp .USub (.Constant (.int i) k p1) pos) env) (Dt (.int (-i))):=.mk fun Y u hu hb Q E q=>
 UnaryOp_ (oR (neg_int (q _ _ (aN (d9 u _) (d9 _ _)) (Is.int _ _))))
theorem JM{x:aG}{n:Nat}{r:fB}(kw:KW V (kz w) mg mb X s.heap)(R:dK A (n+2))(hx:Is V X s.heap x r.data)(hr:r.ok):
  Pu V prog w A X s (call (.ref 244) [x]) (Dt (g8 r)):=by
 refine x7 L8 kw R (ho:=rfl) (by rfl) (by rfl) (binds:=[("run",x)]) (by rfl) (by rfl) ?_ (fun L=>rfl) ?_
 ·intro L y hy;replace hy:=kQ hy;subst hy;exact .inr ⟨rfl,rfl⟩
 ·intro L Y u s₁ Q E hu nx F q
  have hx₁:=hx.nx nx
  have kw₁:=kw.nx nx
  refine eS (sO (c:=L+2) (d:=.list ((tC r).map .list)) F rfl (fG (ds:=(tC r).map .list) ?_ rfl (fX (by refine(?_:7≤1000000);decide))) fun v s₂ F₂ mu₂ hv=>⟨rfl,?_⟩)
  ·refine aT (fG (ds:=[sD "dev"]) (aT (gO _) bF) rfl (by decide+kernel)) ?_
   refine aT (fG (ds:=[sD "alpha",sD "a"]) (aT (gO _) (aT (gO _) bF)) rfl (by decide+kernel)) ?_
   refine aT (fG (ds:=[sD "beta",sD "b"]) (aT (gO _) (aT (gO _) bF)) rfl (by decide+kernel)) ?_
   refine aT (fG (ds:=[sD "c"]) (aT (gO _) bF) rfl (by decide+kernel)) ?_
   refine aT (fG (ds:=[sD "RC",sD "rc"]) (aT (gO _) (aT (gO _) bF)) rfl (by decide+kernel)) ?_
   refine aT (P:=Dt (.list (if qQ r then[r.data]else[]))) (tG (c:=qQ r) ?_ (fun h=>?_) (fun h=>?_)) ?_
   ·refine iO (P₁:=Ex (.type (if qQ r then"int" else"str"))) (P₂:=Ex (.type "int")) (f5 (kF kw₁) (aT (aX (F.cel (c:=L+1) rfl rfl) hx₁) bF) fun Z z vs hz hbz hvs=>?_) (kF (v:=.type "int") kw₁) fun Z z a b hz hbz ha hb=>?_
    ·(refine bG (mN hvs) fun v1 e_0=>?_;subst e_0;refine fun h1=>?_)
     exact Ca h1
    ·cases (ha:a=_);cases (hb:b=_)
     refine .mk fun Z' z' hz' hbz' Q' E' q'=>?_
     cases r with
     |num n=>exact wpAny_is_plain rfl (q' _ _ (cE _) (show Value.bool (Value.type "int"==Value.type "int")=Value.bool true by rw[beq_self_eq_true]))
     |txt cs=>exact wpAny_is_plain rfl (q' _ _ (cE _) (show Value.bool (Value.type "str"==Value.type "int")=Value.bool false by congr 1))
   ·refine aM h ?_
    exact fG (ds:=[r.data]) (aT (aX (F.cel (c:=L+1) rfl rfl) hx₁) bF) rfl (fX (by refine(?_:1≤1000000);decide))
   ·refine aM h ?_
    exact fG (ds:=[]) bF rfl (by decide+kernel)
   ·exact aT (fG (ds:=[sD "pl",sD "p"]) (aT (gO _) (aT (gO _) bF)) rfl (by decide+kernel)) bF
  have hx₂:=hx₁.nx (F.nx mu₂)
  have kw₂:=kw₁.nx (F.nx mu₂)
  refine qK (d:=g8 r) F₂ (fG (ds:=[.int (oE r),r.data]) (aT ?_ (aT (aX (F₂.cel (c:=L+1) rfl rfl) hx₂) bF)) rfl (fX (by refine(?_:2≤1000000);decide))) fun v s₃ F₃ n₃ hv=>q v s₃ F₃.keeps (hv.less fun a ha=>aJ _ ha)
  refine lI (ds:=((bI 7).filter (s0 r)).map (fun(k:Nat)=>cB k)++[.int (-1)]) (k:=0) (oY ?_ (fG (ds:=[.int (-1)]) (aT KL bF) rfl (by decide+kernel)) ?_) (eE 0) (by decide) (by decide) ?_
  ·refine DO (x:="k") (own:=none) (n:=7) (f:=fun i=>.int i) (p:=s0 r) (g:=fun k=>.int k) (P:=J3 7) (cls:="range_iterator")
    ⟨f5 (kF kw₂) (aT (eE 7) bF) (fun Z z vs hz hbz hvs=>?_),oM (n:=7) R.handled (by decide),by decide+kernel,?_,?_,rfl,rfl,by decide+kernel,fun o=>rfl,fun o=>rfl,fun o o=>.inl rfl,fun o=>rfl⟩
   ·(refine bG (mN hvs) fun v1 e_0=>?_;subst e_0;refine fun h1=>?_)
    exact qS h1
   ·intro L' c j Y' v' val hj hw hb hn hval
    refine iV (Jb (es:=(tC r)[j]?.getD []) (n:=n) ?_ (aX (F₂.inner (c:=L+1) rfl rfl hw) (hx₂.nx hw.nx)) (lI (ds:=(tC r).map .list) (k:=j) (aX (F₂.inner (c:=L+2) rfl rfl hw) (hv.nx hw.nx)) (aX hn hval) (cD _) (JX (by assumption) (by decide)) ?_) (xX hr) ?_)
    ·exact dK.deeper (R.less (by simp+arith only[])) _
    ·have:j<(tC r).length:=by simpa[tC]using hj
     simp[this]
    ·refine K5 hj (?_:cC [sD "pl",sD "p"]=true) fun j hj=>K5 hj (?_:cC (if qQ r then[r.data]else[])=true) fun j hj=>K5 hj (?_:cC [sD "RC",sD "rc"]=true) fun j hj=>Lq hj (?_:cC [sD "dev"]=true) (?_:cC [sD "alpha",sD "a"]=true) (?_:cC [sD "beta",sD "b"]=true) (?_:cC [sD "c"]=true)
     case refine_2=>
      split
      ·simp[cC,Ae hr]
      ·rfl
     all_goals decide+kernel
   ·intro L' c j Y' v' val hj _ hw hb hn hval
    exact aX hn hval
  ·have:(((bI 7).filter (s0 r)).map (fun(k:Nat)=>cB k)).length≤7:=by
    rw[aQ]
    exact aD (gI _ _) (by trivial)
   refine aM bV ?_
   exact aR (by assumption) (by decide)
  ·unfold oE
   cases (bI 7).filter (s0 r)<;>rfl
section
open PySem.AutoSeq1 (wpAny_loadPart')
open PySem.MeetsSeq PySem.MeetsSeq2 PySem.MeetsSeq3 PySem.SeqAt
noncomputable def Kw:aY→Bool
 | .int _=>true
 |_=>false
noncomputable def Kv:aY→Bool
 | .str _=>true
 |_=>false
noncomputable def pI(d:aY):Bool:=Kw d||Kv d
noncomputable def Ku:aY→aY→Bool
 | .int a,.int b=>decide (a<b)
 | .str x,.str y=>decide (x.cps.toList<y.cps.toList)
 |_,_=>false
noncomputable def AH(d e:aY):Bool:=(Kw d&&Kw e)||(Kv d&&Kv e)
noncomputable def B3:List aY→List aY→Bool
 |[],[]=>false
 |[],_::_=>true
 |_::_,[]=>false
 |x::xs,y::ys=>if bU x y then B3 xs ys else Ku x y
noncomputable def IF:List aY→List aY→Bool
 |x::xs,y::ys=>if bU x y then IF xs ys else AH x y
 |_,_=>true
theorem Dl:∀{d:aY},Kw d=true→∃i,d= .int i
 | .int i,_=>⟨i,rfl⟩
theorem Dk:∀{d:aY},Kv d=true→∃i,d= .str i
 | .str i,_=>⟨i,rfl⟩
theorem En{d:aY}(h:pI d=true):(∃i,d= .int i)∨∃x,d= .str x:=((Bool.or_eq_true ..).mp h).imp Dl Dk
theorem GV{d e:aY}(h:AH d e=true):(∃i j,d= .int i∧e= .int j)∨∃x y,d= .str x∧e= .str y:=
 ((Bool.or_eq_true ..).mp h).imp (fun h=>bK (Dl ((b9 ..).mp h).1) fun i a=>bK (Dl ((b9 ..).mp h).2) fun j b=>⟨i,j,a,b⟩) fun h=>bK (Dk ((b9 ..).mp h).1) fun i a=>bK (Dk ((b9 ..).mp h).2) fun j b=>⟨i,j,a,b⟩
theorem CV{x y:aY}{xs ys:List aY}:B3 (x::xs) (y::ys)=if bU x y then B3 xs ys else Ku x y:=rfl
theorem vB{x y:aY}{xs ys:List aY}:IF (x::xs) (y::ys)=if bU x y then IF xs ys else AH x y:=rfl
theorem Dx{X:List Addr}{A:jK}{s:aH}{v u:aG}{d e:aY}(h1:Is V X s.heap v d)(h2:Is V X s.heap u e)(a1:pI d=true)(a2:pI e=true):EqAt A s v u (bU d e):=by
 rcases En a1 with ⟨_,rfl⟩|⟨_,rfl⟩<;>rcases En a2 with ⟨_,rfl⟩|⟨_,rfl⟩
 ·(refine bK (Is.of_int h1) fun t e_0=>?_;subst e_0);(refine bK (Is.of_int h2) fun t' e_0=>?_;subst e_0);exact EqAt.int_int _ _ _ _
 ·(refine bK (Is.of_int h1) fun t e_0=>?_;subst e_0);(refine bK (Is.of_str h2) fun t' e_0=>?_;subst e_0);exact EqAt.int_str _ _ _ _
 ·(refine bK (Is.of_str h1) fun t e_0=>?_;subst e_0);(refine bK (Is.of_int h2) fun t' e_0=>?_;subst e_0);exact EqAt.str_int _ _ _ _
 ·(refine bK (Is.of_str h1) fun t e_0=>?_;subst e_0);(refine bK (Is.of_str h2) fun t' e_0=>?_;subst e_0);exact EqAt.str_str _ _ _ _
theorem Gz{prog:fL}{w:cN}{X:List Addr}{A:jK}{s:aH}{v u:aG}{d e:aY}{Q:aG→aH→Prop}{E:aG→aH→Prop}(h1:Is V X s.heap v d)(h2:Is V X s.heap u e)(k:AH d e=true)(q:Q (.bool (Ku d e)) s):wpAny (model prog w) A (richCompare .Lt v u) Q E s:=by
 rcases GV k with ⟨_,_,rfl,rfl⟩|⟨_,_,rfl,rfl⟩
 ·(refine bK (Is.of_int h1) fun t e_0=>?_;subst e_0);(refine bK (Is.of_int h2) fun t' e_0=>?_;subst e_0);exact P.lt_int q
 ·(refine bK (Is.of_str h1) fun t e_0=>?_;subst e_0);(refine bK (Is.of_str h2) fun t' e_0=>?_;subst e_0);exact P.lt_str q
theorem Iz(l b:Addr)(items items2:Array aG)(n n2:Nat)(dd dd2:Option Addr)(sl sl2:Array (Option aG))(X:List Addr):
  ∀(ds es:List aY) (i:Nat),items.size=i+ds.length→items2.size=i+es.length→ds.all pI=true→es.all pI=true→IF ds es=true→Meets (Builtin.«list.__eq__.loop» ⟨[.ref l,.ref b,rawInt i,rawInt 0],[]⟩)
   (fun A R s=>s.heap.get? l=some {cls:=.type "list",dict:=dd,data:=.seq items n,slots:=sl}∧s.heap.get? b=some {cls:=.type "list",dict:=dd2,data:=.seq items2 n2,slots:=sl2}∧
    cA V X s.heap (items.toList.drop i) ds∧cA V X s.heap (items2.toList.drop i) es∧R (.ok (.ret (.bool (B3 ds es)))) s):=by
 have fin:∀(ds es:List aY) (i:Nat),items.size=i+ds.length→items2.size=i+es.length→(ds=[]∨es=[])→B3 ds es=decide (items.size<items2.size):=by
  intro ds es i h1 h2 h
  cases ds with
  |nil=>
   cases es with
   |nil=>refine aM h1 (aM h2 ?_);simp[show B3 [] []=false from rfl]
   |cons e es=>refine aM (show B3 [] (e::es)=true from rfl) ?_;simp;exact aO (aR (aU h1) (kM (Nat.succ_pos _))) (aU h2.symm)
  |cons d ds=>
   cases es with
   |nil=>refine aM (show B3 (d::ds) []=false from rfl) ?_;simp;exact aD (aD (aU h2) (bN _ _)) (aU h1.symm)
   |cons e es=>rcases h with h|h<;>nomatch h
 intro ds
 induction ds with
 |nil=>
  intro es i s1 s2 a1 a2 ok prog w A R s h
  obtain⟨hp,g,d,tk,os⟩:=s;(refine xN h fun hl hb i1 i2 h=>?_)
  rw[fin [] es i s1 s2 (.inl rfl)]at h
  wp_walk using eB hl,eB hb
  have hi1:items[((i:Nat):Int).toNat]?=none:=by simp at s1⊢;exact aU (by assumption)
  refine aM hi1 ?_
  wp_walk using eB hl,eB hb
  exact h
 |cons d ds ih=>
  intro es
  cases es with
  |nil=>
   intro i s1 s2 a1 a2 ok prog w A R s h
   obtain⟨hp,g,d,tk,os⟩:=s;(refine xN h fun hl hb i1 i2 h=>?_)
   rw[fin _ [] i s1 s2 (.inr rfl)]at h
   wp_walk using eB hl,eB hb
   have hi2:items2[((i:Nat):Int).toNat]?=none:=by simp at s2⊢;exact aU (by assumption)
   have hlt:i<items.size:=by simp at s1;lia
   have hi1:items[((i:Nat):Int).toNat]?=some items[i]:=by simp[hlt]
   refine aM hi1 (aM hi2 ?_)
   wp_walk using eB hl,eB hb
   exact h
  |cons e es=>
   intro i s1 s2 a1 a2 ok prog w A R s h
   obtain⟨hp,g,d',tk,os⟩:=s;(refine xN h fun hl hb i1 i2 h=>?_)
   have hlt:i<items.size:=by simp at s1;lia
   have hlt2:i<items2.size:=by simp at s2;lia
   have hi1:items[((i:Nat):Int).toNat]?=some items[i]:=by simp[hlt]
   have hi2:items2[((i:Nat):Int).toNat]?=some items2[i]:=by simp[hlt2]
   have d1:items.toList.drop i=items[i]::items.toList.drop (i+1):=by simp[iF,hlt]
   have d2:items2.toList.drop i=items2[i]::items2.toList.drop (i+1):=by simp[iF,hlt2]
   rw[d1]at i1
   rw[d2]at i2
   refine mF i1.of_cons fun z z e1 x1 r1=>?_
   refine mF i2.of_cons fun z z e2 x2 r2=>?_
   injection e1 with e1 e1';injection e2 with e2 e2'
   subst e1 e1' e2 e2'
   rw[List.all_cons,b9]at a1 a2
   wp_walk using eB hl,eB hb
   refine aM hi1 (aM hi2 ?_)
   refine aB (Dx x1 x2 a1.1 a2.1 prog w _ _ ?_)
   have hc:((i:Int)+1)=((i+1:Nat):Int):=by push_cast;rfl
   cases hb':bU d e with
   |true=>
    rw[CV,if_pos hb']at h;rw[vB,if_pos hb']at ok
    wp_walk
    refine aM hc ?_
    exact⟨jL plain_eq_loop _,gS entry_eq_loop (by
     refine aM (d7 plain_eq_loop _) ?_
     exact ih es (i+1) (by simp at s1;lia) (by simp at s2;lia) a1.2 a2.2 ok prog w A R _ ⟨hl,hb,r1,r2,h⟩)⟩
   |false=>
    rw[CV,hb',if_neg f4]at h;rw[vB,hb',if_neg f4]at ok
    wp_walk using eB hl,eB hb
    refine aM hi1 (aM hi2 ?_)
    exact aB (Gz x1 x2 ok (aE h))
theorem E5(l b:Addr)(items items2:Array aG)(n n2:Nat)(dd dd2:Option Addr)(sl sl2:Array (Option aG))(X:List Addr)(ds es:List aY)(s1:items.size=ds.length)(s2:items2.size=es.length)(a1:ds.all pI=true)(a2:es.all pI=true)(ok:IF ds es=true):
  Meets (Builtin.«list.__lt__» ⟨[.ref l,.ref b],[]⟩)
   (fun A R s=>s.heap.get? l=some {cls:=.type "list",dict:=dd,data:=.seq items n,slots:=sl}∧s.heap.get? b=some {cls:=.type "list",dict:=dd2,data:=.seq items2 n2,slots:=sl2}∧
    cA V X s.heap items.toList ds∧cA V X s.heap items2.toList es∧R (.ok (.ret (.bool (B3 ds es)))) s):=by
 intro prog w A R s h
 obtain⟨hp,g,d,tk,os⟩:=s;(refine xN h fun hl hb i1 i2 h=>?_)
 have f3:=AutoSeq1.sub_list_list
 wp_walk using eB hl,eB hb
 exact⟨jL plain_eq_loop _,gS entry_eq_loop (by
  refine aM (d7 plain_eq_loop _) ?_
  exact Iz l b items items2 n n2 dd dd2 sl sl2 X ds es 0 (by lia) (by lia) a1 a2 ok prog w A R _ ⟨hl,hb,i1,i2,h⟩)⟩
theorem DV{n:Nat}{a b:aG}{ds es:List aY}(r:dK A n)(ha:Is V X s.heap a (.list ds))(hb:Is V X s.heap b (.list es))(a1:ds.all pI=true)(a2:es.all pI=true)(ok:IF ds es=true):
  Pu V prog w A X s (compareOp .Lt a b) (Ex (.bool (B3 ds es))):=.mk fun Y s' hu hbd Q E q=>by
 (refine oX ((ha.nx hu.nx).of_list') fun l vs e_0=>?_;subst e_0;refine fun hl hlist hall=>?_)
 (refine oX ((hb.nx hu.nx).of_list') fun m us e_0=>?_;subst e_0;refine fun hm hlist2 hall2=>?_)
 obtain⟨⟨cls,dd,data,sl⟩,ho,hc,n,hd⟩:=id hlist
 obtain⟨⟨cls2,dd2,data2,sl2⟩,ho2,hc2,n2,hd2⟩:=id hlist2
 simp only at hc hd hc2 hd2
 subst hc hd hc2 hd2
 exact richCompare_meets_room (op:=.Lt) ⟨_,ho,rfl⟩ ⟨_,ho2,rfl⟩ PySem.F.slot_list_lt PySem.F.entry_list_lt (PySem.F.args_list_lt_2 _ _)
  (E5 l m vs.toArray us.toArray n n2 dd dd2 sl sl2 Y ds es (by simp[hall.length]) (by simp[hall2.length]) a1 a2 ok)
  ⟨ho,ho2,hall,hall2,⟨(fun h=>nomatch h),q _ _ (cE s') rfl⟩⟩ r.c
end
noncomputable def LJ(r:fB):List aY:=[.int (oE r),r.data]
theorem x0(n:Nat):oE (.num n)=5:=by
 have h:(bI 7).filter (s0 (.num n))=[5]:=by
  have h0:s0 (.num n) 0=false:=rfl
  have h1:s0 (.num n) 1=false:=rfl
  have h2:s0 (.num n) 2=false:=rfl
  have h3:s0 (.num n) 3=false:=rfl
  have h4:s0 (.num n) 4=false:=rfl
  have h5:s0 (.num n) 5=true:=by
   refine(?_:([fB.data (.num n)].any fun y=>bU y (fB.data (.num n)))=true)
   simp[fB.data,bU]
  have h6:s0 (.num n) 6=false:=rfl
  refine(?_:mS _ [0,1,2,3,4,5,6]=[5])
  simp[mS,h0,h1,h2,h3,h4,h5,h6]
 unfold oE
 refine aM h ?_;rfl
theorem Ah(cs:List Nat):oE (.txt cs)≠5:=by
 intro h
 have h5:s0 (.txt cs) 5=false:=rfl
 unfold oE at h
 cases e:(bI 7).filter (s0 (.txt cs))with
 |nil=>rw[e]at h;simp at h
 |cons k r=>
  rw[e]at h
  have:k=5:=Int.ofNat.inj (by assumption)
  have hm:k∈(bI 7).filter (s0 (.txt cs)):=by refine aM e ?_;exact aF
  rw[lK,this,h5]at hm
  cases hm.2
theorem LI(x y:fB):IF (LJ x) (LJ y)=true:=by
 refine aM vB ?_
 cases h:bU (.int (oE x)) (.int (oE y))with
 |false=>rfl
 |true=>
  replace h:=of_decide_eq_true h
  refine aM (if_pos rfl) (aM vB ?_)
  split
  ·rfl
  ·cases x<;>cases y<;>simp[fB.data,AH,Kw,Kv]
   ·rename_i n cs _;rw[x0]at h;exact absurd h.symm (Ah cs)
   ·rename_i cs n _;rw[x0]at h;exact absurd h (Ah cs)
theorem Bl(x:fB):(LJ x).all pI=true:=by cases x<;>rfl
theorem KI(x y:fB):bU (g8 x) (g8 y)=decide (x=y):=by
 rw[eN,qA _ _ (by simp[g8,j4,lR,r3]) (by simp[g8,j4,lR,r3]),decide_eq_true_iff]
 constructor
 ·intro h;simp[g8]at h;exact xB h.2
 ·intro h;exact aM h rfl
theorem wL{r:fB}(h:r.ok):cP (g8 r)=true:=by
 have:=Ae h
 unfold cP
 have e:jB (g8 r)=true:=by simp[g8,jB,cC,this]
 refine aM e ?_
 cases r<;>rfl
noncomputable def D9(x y:fB):Bool:=B3 (LJ x) (LJ y)
noncomputable def lT:List fB→List fB→Bool
 |[],[]=>false
 |[],_::_=>true
 |_::_,[]=>false
 |x::xs,y::ys=>if x=y then lT xs ys else D9 x y
theorem F5{a b:List fB}(h:a=[]∨b=[]):lT a b=decide (a.length<b.length):=by
 rcases h with e|e
 ·refine aM e ?_;cases b
  ·rfl
  ·exact(decide_eq_true (Nat.succ_pos _)).symm
 ·refine aM e ?_;cases a
  ·rfl
  ·exact(decide_eq_false (Nat.not_lt_zero _)).symm
theorem yM{x y:fB}{xs ys:List fB}:lT (x::xs) (y::ys)=if x=y then lT xs ys else D9 x y:=rfl
theorem tE{e:Expr}{pos np:Pos}{ds:List aY}{K:Frag}(kw:KW V K mg mb X s.heap)(he:Pu V prog w A X s (eval e env) (Dt (.list ds)))(hz:(ds.length:Int)<2^63)
  (h0:Pu V prog w A X s (eval (.Name (aA "len") np) env) (Ex (.builtin "len")))
  (h1:autoParam (eval (.Call (.Name (aA "len") np) [e] [] pos) env=(do callWith pos (←eval (.Name (aA "len") np) env) [] (backTo pos (starEach [e] env)) (backToKw pos (keywordEach [] env)))) rf)
  (h2:autoParam (starEach [e] env=(false,eval e env)::starEach [] env) rf):
  Pu V prog w A X s (eval (.Call (.Name (aA "len") np) [e] [] pos) env) (Dt (.int ds.length)):=
 sU h0 (aT he bF h2) (fun Z z vs hz' hbz hvs=>by
  (refine bG (mN hvs) fun v1 e_0=>?_;subst e_0;refine fun h1=>?_)
  exact Kg h1 hz) h1 h2
theorem JN{x y:aG}{n:Nat}{a b:List fB}(kw:KW V (kz w) mg mb X s.heap)(R:dK A (n+2))(hx:Is V X s.heap x (.list (a.map g8)))(hy:Is V X s.heap y (.list (b.map g8)))(oa:∀r∈a,r.ok)(ob:∀r∈b,r.ok)(la:a.length≤1000)(lb:b.length≤1000):
  Pu V prog w A X s (call (.ref 251) [x,y]) (Dt (.bool (lT a b))):=by
 refine x7 sA kw R (ho:=rfl) (by rfl) (by rfl) (binds:=[("one",x),("two",y)]) (by rfl) (by rfl) ?_ (fun L=>rfl) ?_
 ·intro L y hy;replace hy:=m2 hy;rcases hy with rfl|rfl<;>exact .inl rfl
 ·intro L Y u s₁ Q E hu nx F q
  have hx₁:=hx.nx nx
  have hy₁:=hy.nx nx
  have kw₁:=kw.nx nx
  refine ES (xT F (P:=J3 (min a.length b.length:Nat)) (n:=min a.length b.length) ?_ (oM (n:=min a.length b.length) R.handled (aR (aD (nW _ _) la) (by decide))) (nB (sA L)) F.inA (fun b hb=>hb)
   (fun X' i m' cm' s'=>lT a b=lT (a.drop i) (b.drop i)∧m' (aA "one")=some x∧m' (aA "two")=some y)
   (IE V (sA L) (aA "k") _) (t8 rfl (.inl rfl)) ?_ ?_ ?_ ?_)
  ·refine f5 (kF kw₁) (aT (P:=Dt (.int (min a.length b.length:Nat))) ?_ bF) fun Z z vs hz hbz hvs=>?_
   ·refine(sU (Ps:=[Dt (.int a.length),Dt (.int b.length)]) (kF kw₁) (aT ?_ (aT ?_ bF)) fun Z z vs hz hbz hvs=>?_)
    ·exact(tE (ds:=a.map g8) kw₁ (aX (F.loc rfl) hx₁) (by simp;lia) (kF kw₁)).dt (by simp)
    ·exact(tE (ds:=b.map g8) kw₁ (aX (F.loc rfl) hy₁) (by simp;lia) (kF kw₁)).dt (by simp)
    ·(refine mF (Ch hvs) fun v1 v2 e_0=>?_;subst e_0;refine fun h1 h2=>?_)
     (refine bK (Is.of_int h1) fun t e_0=>?_;subst e_0)
     (refine bK (Is.of_int h2) fun t' e_0=>?_;subst e_0)
     refine(Kf (A:=A.deeper (sA L)) R.handled).dt ?_
     congr 1
     split<;>(first|exact congrArg Nat.cast (Nat.min_eq_right (bA (Int.ofNat_lt.mp (by assumption)))).symm|exact congrArg Nat.cast (jX (Int.ofNat_le.mp (Int.not_lt.mp (by assumption)))).symm)
   ·(refine bG (mN hvs) fun v1 e_0=>?_;subst e_0;refine fun h1=>?_)
    exact qS h1
  ·(intro X' X'' i m' cm' t₁ t₂ i1 i2 nn kk q_1;refine jM q_1 fun h1 h2 h3=>?_)
   exact⟨h1,h2,h3⟩
  ·intro X' s' hw
   exact⟨rfl,rfl,rfl⟩
  ·rintro i X' s₃ m₀ cm₀ m' cm' Q' E' hi inX nn F₃ ⟨vs,rfl,rfl,hs⟩ ⟨h1,h2,h3⟩ q1 q2
   have ia:i<a.length:=aO hi (nW _ _)
   have ib:i<b.length:=aO hi (jF _ _)
   have d1:a.drop i=a[i]::a.drop (i+1):=iF ia
   have d2:b.drop i=b[i]::b.drop (i+1):=iF ib
   have hx₃:=hx₁.nx nn
   have hy₃:=hy₁.nx nn
   have hxk:∀{s'},fU V u (sA L) X' s' (q9 (sA L) (aA "k") vs m₀) cm'→Is V X' s'.heap x (.list (a.map g8))→Is V X' s'.heap vs (.int i)→∀{p1 p2 p3},Pu V prog w (A.deeper (sA L)) X' s' (eval (.Subscript (.Name (aA "one") p1) (.Name (aA "k") p2) p3) (sA L)) (Dt (g8 a[i])):=
    fun{s'} F' hx' hs' {p1 p2 p3}=>lI (ds:=a.map g8) (k:=i) (aX (F'.loc (x:=aA "one") (v:=x) h2) hx') (aX (F'.loc rfl) hs') (cD _) (by lia) (by simp[ia])
   have hyk:∀{s'},fU V u (sA L) X' s' (q9 (sA L) (aA "k") vs m₀) cm'→Is V X' s'.heap y (.list (b.map g8))→Is V X' s'.heap vs (.int i)→∀{p1 p2 p3},Pu V prog w (A.deeper (sA L)) X' s' (eval (.Subscript (.Name (aA "two") p1) (.Name (aA "k") p2) p3) (sA L)) (Dt (g8 b[i])):=
    fun{s'} F' hy' hs' {p1 p2 p3}=>lI (ds:=b.map g8) (k:=i) (aX (F'.loc (x:=aA "two") (v:=y) h3) hy') (aX (F'.loc rfl) hs') (cD _) (by lia) (by simp[ib])
   have R':dK (A.deeper (sA L)) (n+1):=dK.deeper R _
   refine ES (xS (c:=!decide (a[i]=b[i])) F₃ ?_ fun s₄ F₄ k₄=>?_)
   ·rw[←KI]
    exact CG R' (hxk F₃ hx₃ hs) (hyk F₃ hy₃ hs) (wL (oa _ (f9 ia))) (wL (ob _ (f9 ib)))
   ·by_cases hab:a[i]=b[i]
    ·have hc:(!decide (a[i]=b[i]))=false:=by simp[hab]
     refine aM hc ?_
     refine lP (.inl ⟨rfl,lP (q1 s₄ _ _ F₄ (.of_keeps k₄) ⟨?_,h2,h3⟩)⟩)
     refine aM h1 (aM d1 (aM d2 ?_))
     exact aM yM (aM (if_pos hab) rfl)
    ·have hc:(!decide (a[i]=b[i]))=true:=by simp[hab]
     refine aM hc ?_
     refine qK (d:=.bool (lT a b)) F₄ ?_ fun v s₅ F₅ n₅ hv=>.inr ⟨v,rfl,q2 v s₅ ?_⟩
     ·have e:lT a b=D9 a[i] b[i]:=by
       refine aM h1 (aM d1 (aM d2 ?_));exact aM yM (aM (if_neg hab) rfl)
      refine aM e ?_
      refine Pu.weak (uS (hxk F₄ (hx₃.keep (a7 k₄)) (hs.keep (a7 k₄))) (hyk F₄ (hy₃.keep (a7 k₄)) (hs.keep (a7 k₄))) fun Z z v1 v2 hz hbz p1 p2=>DV R' p1 p2 (Bl _) (Bl _) (LI _ _)) fun v Z z hz hv=>?_
      cases (hv:v=_)
      exact Is.bool _
     ·exact .inr ⟨v,rfl,q v s₅ F₅.keeps (hv.less fun a ha=>inX a (aJ _ ha))⟩
  ·(intro s₃ m' cm' nn _ F₃ q_4;refine jM q_4 fun h1 h2 h3=>?_)
   have hx₃:=hx₁.nx nn
   have hy₃:=hy₁.nx nn
   have kw₃:=kw₁.nx nn
   refine .inl ⟨rfl,qK (d:=.bool (lT a b)) F₃ ?_ fun v s₅ F₅ n₅ hv=>q v s₅ F₅.keeps (hv.less fun a ha=>aJ _ ha)⟩
   refine Pu.weak (FH (tE (ds:=a.map g8) kw₃ (aX (F₃.loc (x:=aA "one") (v:=x) h2) hx₃) (by simp;lia) (kF kw₃)) (tE (ds:=b.map g8) kw₃ (aX (F₃.loc (x:=aA "two") (v:=y) h3) hy₃) (by simp;lia) (kF kw₃))) fun v Z z hz hv=>?_
   cases (hv:v=_)
   have:lT a b=decide (((a.map g8).length:Int)<((b.map g8).length:Int)):=by
    rw[h1,F5 ?_]
    ·congr 1
     simp;omega
    ·rcases Nat.le_total a.length b.length with h|h
     ·left;simp;exact Nat.le_min.mpr ⟨bO _,h⟩
     ·right;simp;exact Nat.le_min.mpr ⟨h,bO _⟩
   refine aM this ?_
   exact Is.bool _
noncomputable abbrev hU:=List fB×List Int
noncomputable def iN(rs:List fB):aY:=.list (rs.map fB.data)
noncomputable def g9(ps:List Int):aY:=.list (ps.map cB)
noncomputable def zF(sh:hU):aY:=.list [iN sh.1,g9 sh.2]
noncomputable def n7(rsL:List (List fB))(r:List fB):Nat:=(rsL.filter fun o=>lT o r).length
noncomputable def qT(shs:List hU):List Nat:=shs.map fun s=>n7 (shs.map (·.1)) s.1
noncomputable def rF(shs:List hU):List (List Int):=(bI shs.length).map fun k=>(shs[(qT shs).idxOf k]?.getD ([],[])).2
theorem G8{o e:Expr}{apos pos:Pos}{ns:List Nat}{k:Nat}{n:Nat}(R:dK A n)(ho:Pu V prog w A X s (eval o env) (Ky (ns.map fun(i:Nat)=>cB i)))(he:Pu V prog w A X s (eval e env) (Dt (.int k)))(hk:k∈ns)(hz:ns.length≤1000000)
  (hbase:autoParam (attributeBase o ("index":Str) env (eval o env)=eval o env) rf)(hs:autoParam (starEach [e] env=[(false,eval e env)]) rf)(hline:autoParam ((apos.endLine==pos.line)=true) rf):Pu V prog w A X s (eval (.Call (.Attribute o ("index":Str) apos) [e] [] pos) env) (Dt (.int (ns.idxOf k))):=
 .mk fun Y u hu hb Q E q=>Call_method1 hbase hs hline (ho.go Y u hu hb _ E fun v u₁ k₁ hv=>by
  obtain⟨hv,D,ys,rfl,hn,nn,hp⟩:=hv
  refine⟨"list","list.index",sG,PySem.F.slot_list_index,PySem.F.type_list_index,⟨_,hp,rfl⟩,fun a' ha'=>(by obtain rfl:=fN ha';exact⟨_,hp,rfl⟩),?_⟩
  refine method1_meets PySem.F.slot_list_index PySem.F.entry_list_index (he.go Y u₁ (hu.trans (.of_keeps k₁)) (hb.keeps k₁) _ E fun v u₂ k₂ hv2=>?_)
  (refine bK (Is.of_int hv2) fun t e_0=>?_;subst e_0)
  have hp₂:=a7 k₂ _ _ (fun q=>hn (aL _ q)) hp
  refine oX (Is.of_list' (hv.keep (a7 k₂))) fun D' vs e' z hl ha=>?_
  obtain rfl:=fN e'
  have hys:ys=vs.toArray:=nD ⟨_,hp₂,rfl,_,rfl⟩ hl
  subst hys
  have hj:ns.idxOf k<ns.length:=q0 hk
  have hlen:vs.length=ns.length:=by have:=ha.length;simpa using this
  have at':∀m (hm:m<ns.length),∃t,vs[m]?=some (.int (ns[m]:Int) t):=fun m hm=>by
   refine bG (ha.at (i:=m) (d:=.int (ns[m]:Int)) (by simp[hm])) fun x hx hxd=>?_
   (refine bK (Is.of_int hxd) fun t e_0=>?_;subst e_0)
   exact⟨t,hx⟩
  refine⟨⟨_,hp₂,rfl⟩,PySem.F.args_list_index_2 _ _,_,SeqAt.list_indexAt D vs.toArray nn none #[] (.int k t) (fun v=>match v with| .int i _=>i==(k:Int)|_=>false) (ns.idxOf k) (by simp[hlen];assumption) (e9 (Int.ofNat_le.mpr (show _≤1000000 from bA (aO hj hz))) (by decide)) ?_ ?_,hp₂,?_,q _ _ (aN k₁ (aN k₂ (d9 u₂ _))) (Is.int _ _)⟩
  ·refine bK (at' _ hj) fun t' e=>?_
   have e2:vs.toArray[ns.idxOf k]'(by simp[hlen];assumption)= .int (ns[ns.idxOf k]:Int) t':=by
    have:=List.getElem?_eq_some_iff.mp e
    obtain⟨_,h⟩:=this
    exact h
   refine aM e2 ?_
   simp
  ·intro m hm hmj
   have hm':m<ns.length:=cK hmj hj
   refine bK (at' _ hm') fun t' e=>?_
   have e2:vs.toArray[m]= .int (ns[m]:Int) t':=by
    obtain⟨_,h⟩:=List.getElem?_eq_some_iff.mp e
    exact h
   refine aM e2 ?_
   have hne:ns[m]≠k:=fun h=>by
    have:=List.not_of_lt_findIdx (xs:=ns) (p:=(·==k)) (i:=m) hmj
    simp[h]at this
   simp;lia
  ·intro y hy
   have:y∈vs:=by simpa using hy
   refine bK (List.mem_iff_getElem?.mp this) fun m hm=>?_
   have hm':m<ns.length:=by
    rcases eM m vs.length with h|h
    ·exact aO h (aU hlen)
    ·replace hm:=(pC h)▸hm;cases hm
   refine bK (at' m hm') fun t' e=>?_
   rw[e]at hm;obtain rfl:=a9 hm
   exact SeqAt.EqAt.int_int _ _ _ _)
theorem BA{α:Type}(p:α→Bool)(F:α→aY)(d:α)(l:List α):((bI l.length).filter fun i=>p (l[i]?.getD d)).map (fun i=>F (l[i]?.getD d))=(l.filter p).map F:=by
 induction l using pV with
 |h0=>rfl
 |h1 l a ih=>
  (refine aM b4 (aM fI (aM iA ?_));rewrite[dP,dP];refine aM bB (aM bB ?_))
  congr 1
  ·refine gU ih ?_
   have e:(bI l.length).filter (fun i=>p ((l++[a])[i]?.getD d))=(bI l.length).filter fun i=>p (l[i]?.getD d):=by
    apply List.filter_congr
    intro i hi
    rw[mR]at hi
    rw[jQ hi]
   refine aM e ?_
   apply cF
   intro i hi
   rw[lK,mR]at hi
   rw[jQ hi.1]
  ·simp[mS]
   cases p a<;>simp
theorem Dp{x:aG}{n:Nat}{shs:List hU}(kw:KW V (kz w) mg mb X s.heap)(R:dK A (n+4))(hx:Is V X s.heap x (.list (shs.map zF)))(ok:∀sh∈shs,∀r∈sh.1,r.ok)(hl:∀sh∈shs,sh.1.length≤1000)(hn:shs.length≤1000)(hc:∀k,k<shs.length→k∈qT shs):
  Pu V prog w A X s (call (.ref 256) [x]) (Dt (.list ((rF shs).map g9))):=by
 refine x7 Ji kw R (ho:=rfl) (by rfl) (by rfl) (binds:=[("shelves",x)]) (by rfl) (by rfl) ?_ (fun L=>rfl) ?_
 ·intro L y hy;replace hy:=kQ hy;subst hy;exact .inr ⟨rfl,rfl⟩
 ·intro L Y u s₁ Q E hu nx F q
  have hx₁:=hx.nx nx
  have kw₁:=kw.nx nx
  have R':dK (A.deeper (Ji L)) (n+3):=dK.deeper R _
  have hget:∀{i},i<(shs.map zF).length→(shs.map zF)[i]?=some (.list [iN (shs[i]?.getD ([],[])).1,g9 (shs[i]?.getD ([],[])).2]):=fun{i} hi=>by
   have hi':i<shs.length:=by simpa using hi
   simp[hi',zF]
  refine eS (sO (c:=L+2) (d:=.list ((shs.map (·.1)).map fun rs=>.list (rs.map g8))) F rfl ?_ fun v s₂ F₂ mu₂ hv=>⟨rfl,?_⟩)
  ·refine xG (x:="runs") (y:="places") (own:=none) (ds:=shs.map zF) (f₁:=fun i=>iN (shs[i]?.getD ([],[])).1) (f₂:=fun i=>g9 (shs[i]?.getD ([],[])).2) (p:=fun t=>true) (g:=fun i=>.list ((shs[i]?.getD ([],[])).1.map g8))
    ⟨aX (F.cel (c:=L+1) rfl rfl) hx₁,R.handled,fun i hi=>hget hi,fX (by simp;exact aD (by assumption) (by decide)),fun L' c j Y' v' v1 v2 hj hw hb hn1 h1 hn2 h2=>eU,?_,rfl,rfl,by decide+kernel,fun t=>rfl,fun t=>rfl,fun t t=>rfl,fun t t=>.inl rfl,by decide+kernel,fun t=>rfl⟩ ?_
   ·intro L' c j Y' v' v1 v2 hj _ hw hb hn1 h1 hn2 h2
    have hj':j<shs.length:=by simpa using hj
    have hm:=fH (([],[]):hU) shs hj'
    generalize shs[j]?.getD ([],[])=sh at h1 hm
    have kwj:=kw₁.nx hw.nx
    refine mH (x:="run") (own:=none) (n:=(sh.1.map fB.data).length) (f:=fun i=>(sh.1.map fB.data)[i]?.getD .none) (p:=fun t=>true) (g:=fun i=>g8 (sh.1[i]?.getD (.num 0))) (P:=Dt (.list (sh.1.map fB.data))) (cls:="list_iterator")
     ⟨aX hn1 h1,hW R.handled,fX (by have:=hl sh hm;simp;exact aD (by assumption) (by decide)),fun L'' c' k Y'' v'' val hk hw' hb' hn' hval=>eU,?_,rfl,rfl,by decide+kernel,fun t=>rfl,fun t=>rfl,fun t t=>.inl rfl,fun t=>rfl⟩ ?_
    ·intro L'' c' k Y'' v'' val hk _ hw' hb' hn' hval
     have hk':k<sh.1.length:=by simpa using hk
     rw[j6 fB.data (.num 0) _ _ hk']at hval
     have hr:=ok sh hm _ (fH (.num 0) sh.1 hk')
     refine lQ (kH (v:=.ref 244) (kwj.nx hw'.nx)) ((kwj.nx hw'.nx).nV rfl) ((kwj.nx hw'.nx).get rfl) rfl (aT (aX hn' hval) bF) fun Z z vs hz hbz hvs=>?_
     (refine bG (mN hvs) fun v1 e_0=>?_;subst e_0;refine fun h1=>?_)
     exact JM ((kwj.nx hw'.nx).nx hz.nx) (n:=n+1) R' h1 hr
    ·rw[aQ]
     exact qN g8 (.num 0) sh.1
   ·(rewrite[aQ];refine aM bW ?_)
    exact qN (fun sh:hU=>.list (sh.1.map g8)) ([],[]) shs
  have hx₂:=hx₁.nx (F.nx mu₂)
  have kw₂:=kw₁.nx (F.nx mu₂)
  obtain⟨rsL,hrs⟩:∃rsL,rsL=shs.map (·.1):=⟨_,rfl⟩
  have rsok:∀rs∈rsL,(∀r∈rs,r.ok)∧rs.length≤1000:=by
   refine aM hrs ?_;intro rs h;(refine bG (n5 h) fun sh hm e_0=>?_;subst e_0);exact⟨ok sh hm,hl sh hm⟩
  have hlen:rsL.length=shs.length:=by refine aM hrs ?_;simp
  rw[←hrs]at hv
  refine eS (Hx (c:=L+3) (P:=Ky ((qT shs).map fun(i:Nat)=>cB i)) F₂ rfl ?_ EA fun v3 s₃ F₃ mu₃ hv₃=>⟨rfl,?_⟩)
  ·have e:(((bI (rsL.map fun rs=>mA (rs.map g8)).length).filter fun t=>true).map fun i=>cB (n7 rsL (rsL[i]?.getD []):Nat))=(qT shs).map fun(i:Nat)=>cB i:=by
    (rewrite[aQ];refine aM (qN (fun rs=>cB (n7 rsL rs:Nat)) [] rsL) ?_)
    unfold qT;refine aM hrs ?_;simp
   refine G9 (x:="one") (own:=some "one") (n:=(rsL.map fun rs=>mA (rs.map g8)).length) (f:=fun i=>(rsL.map fun rs=>mA (rs.map g8))[i]?.getD .none) (p:=fun t=>true) (g:=fun i=>cB (n7 rsL (rsL[i]?.getD []):Nat)) (P:=Dt (.list (rsL.map fun rs=>mA (rs.map g8)))) (cls:="list_iterator")
    ⟨aX (F₂.cel (c:=L+2) rfl rfl) hv,hW R.handled,fX (by simp;lia),fun L'' c' k Y'' v'' val hk hw' hb' hn' hval=>eU,?_,rfl,rfl,by decide+kernel,fun t=>rfl,fun t=>rfl,fun t t=>.inr ⟨rfl,_,rfl,rfl⟩,fun t=>rfl⟩ e
   intro L' c j Y' v' val hj _ hw hb hn1 h1
   have hj':j<rsL.length:=by simpa using hj
   rw[j6 (fun rs=>mA (rs.map g8)) [] _ _ hj']at h1
   refine gE (rsok _ (fH [] rsL hj')) fun oko lo=>?_
   generalize rsL[j]?.getD []=one at h1 oko lo
   have kwj:=kw₂.nx hw.nx
   refine(tE (ds:=((rsL.filter fun o=>lT o one).map fun t=>cB 1)) kwj ?_ ?_ (kF kwj)).dt (by unfold n7;simp)
   ·refine mH (x:="other") (own:=none) (n:=(rsL.map fun rs=>mA (rs.map g8)).length) (f:=fun i=>(rsL.map fun rs=>mA (rs.map g8))[i]?.getD .none) (p:=fun i=>lT (rsL[i]?.getD []) one) (g:=fun i=>.int 1) (P:=Dt (.list (rsL.map fun rs=>mA (rs.map g8)))) (cls:="list_iterator")
     ⟨aX (F₂.inner (c:=L+2) rfl rfl hw) (hv.nx hw.nx),hW R.handled,fX (by simp;lia),?_,fun L'' c' k Y'' v'' val hk hp hw' hb' hn' hval=>eE 1,rfl,rfl,by decide+kernel,fun t=>rfl,fun t=>rfl,fun t t=>.inl rfl,fun t=>rfl⟩ ?_
    ·intro L'' c' k Y'' v'' val2 hk hw' hb' hn' hval
     have hk':k<rsL.length:=by simpa using hk
     rw[j6 (fun rs=>mA (rs.map g8)) [] _ _ hk']at hval
     refine gE (rsok _ (fH [] rsL hk')) fun okk lk=>?_
     refine iV (Ge (lQ (kH (v:=.ref 251) (kwj.nx hw'.nx)) ((kwj.nx hw'.nx).nV rfl) ((kwj.nx hw'.nx).get rfl) rfl (aT (aX hn' hval) (aT (aX ?_ (h1.nx hw'.nx)) bF)) fun Z z vs hz hbz hvs=>?_))
     ·exact hn1.inn (c:=c) (dA hw'.keeps) rfl rfl rfl rfl
     ·(refine mF (Ch hvs) fun v1 v2 e_0=>?_;subst e_0;refine fun h1' h2'=>?_)
      exact JN ((kwj.nx hw'.nx).nx hz.nx) (n:=n+1) R' h1' h2' okk oko lk lo
    ·rw[aQ]
     exact BA (fun o=>lT o one) (fun t=>.int 1) [] rsL
   ·have:(rsL.filter fun o=>lT o one).length≤rsL.length:=gI _ _
    simp;exact e9 (Int.ofNat_le.mpr (show _≤1000000 from bA (aR (aD (aD this (aU hlen)) hn) (by decide)))) (by decide)
  have hx₃:=hx₂.nx (F₂.nx mu₃)
  have kw₃:=kw₂.nx (F₂.nx mu₃)
  refine qK (d:=.list ((rF shs).map g9)) F₃ ?_ fun v s₅ F₅ n₅ hv=>q v s₅ F₅.keeps (hv.less fun a ha=>aJ _ ha)
  refine mH (x:="k") (own:=none) (n:=shs.length) (f:=fun i=>.int i) (p:=fun t=>true) (g:=fun k=>g9 (shs[(qT shs).idxOf k]?.getD ([],[])).2) (P:=J3 shs.length) (cls:="range_iterator")
   ⟨?_,oM R.handled (aR (by assumption) (by decide)),fX (aD (by assumption) (by decide)),fun L'' c' k Y'' v'' val hk hw' hb' hn' hval=>eU,?_,rfl,rfl,by decide+kernel,fun t=>rfl,fun t=>rfl,fun t t=>.inl rfl,fun t=>rfl⟩ ?_
  ·refine f5 (kF kw₃) (aT ((tE (ds:=shs.map zF) kw₃ (aX (F₃.cel (c:=L+1) rfl rfl) hx₃) (by simp;exact e9 (Int.ofNat_le.mpr (show _≤1000000 from bA (aR hn (by decide)))) (by decide)) (kF kw₃)).dt (by simp;rfl)) bF) fun Z z vs hz hbz hvs=>?_
   (refine bG (mN hvs) fun v1 e_0=>?_;subst e_0;refine fun h1=>?_)
   exact qS h1
  ·intro L' c k Y' v' val hk _ hw hb hn' hval
   have hkc:=hc k hk
   have hidx:(qT shs).idxOf k<shs.length:=by
    have:=q0 hkc
    have e:(qT shs).length=shs.length:=by unfold qT;simp
    exact aO this (aU e)
   refine lI (ds:=[iN (shs[(qT shs).idxOf k]?.getD ([],[])).1,g9 (shs[(qT shs).idxOf k]?.getD ([],[])).2]) (k:=1) (lI (ds:=shs.map zF) (k:=((qT shs).idxOf k:Nat)) (aX (F₃.inner (c:=L+1) rfl rfl hw) (hx₃.nx hw.nx)) ?_ (cD _) (e9 (Int.ofNat_le.mpr (show _≤1000000 from bA (cK (aO hidx hn) (by decide)))) (by decide)) (hget (by simpa using hidx))) (eE 1) (by decide) (by decide) rfl
   refine G8 R' (Aj (F₃.inner (c:=L+3) rfl rfl hw) (fun Z z hz=>EA hz.nx (EA hw.nx hv₃)) rfl (by decide+kernel)) (aX hn' hval) hkc (by unfold qT;simp;exact aD (by assumption) (by decide))
  ·(refine aM bW ?_;rw[AX]);rfl
theorem sV{α:Type}(l:List α):∀m,(bI m).filterMap (l[·]?)=l.take m:=by
 intro m
 induction m with
 |zero=>simp
 |succ m ih=>
  refine aM iA (aM List.filterMap_append (aM ih (aM l6 ?_)))
  congr 1
theorem pW{α:Type}(l:List α){k:Int}(h0:0≤k):t5 l none (some k) none=l.take k.toNat:=by
 unfold t5
 rw[PySem.sliceBounds_plain]
 have e:(((none:Option Int).elim 0 (clipAt l.length):Nat):Int)=((0:Nat):Int):=rfl
 refine(?_:List.filterMap _ (sliceRange (((none:Option Int).elim 0 (clipAt l.length):Nat):Int) (((some k).elim l.length (clipAt l.length):Nat):Int) 1)=_)
 (refine aM e ?_;rewrite[sliceRange_one];refine aM (cF (g:=id) (by intro a _;simp)) ?_;rw[oB,Nat.sub_zero,sV])
 refine(?_:l.take (clipAt l.length k)=_)
 unfold clipAt
 have h1:¬k<0:=Int.not_lt.mpr (by assumption)
 simp only[h1,if_false]
 rcases Nat.le_total k.toNat l.length with h|h
 ·congr 1;exact congrArg Int.toNat ((Int.max_eq_right (Int.le_min.mpr ⟨by assumption,cD _⟩)).trans (Int.min_eq_left (Int.toNat_le.mp h)))
 ·(refine aM (k9 (l:=l) h) ?_;rw[k9]);exact(Int.le_toNat (Int.le_max_left _ _)).mpr (Int.le_trans (Int.le_min.mpr ⟨(Int.le_toNat (by assumption)).mp h,Int.le_refl _⟩) (Int.le_max_right _ _))
noncomputable abbrev lD:=Nat×Nat×List fB
noncomputable def t6(i:Nat):Str:=⟨#[97+i]⟩
noncomputable def sH(i:Nat):aY:=.str (t6 i)
noncomputable def pH(r:lD):aY:=.list [.int r.1,sH r.2.1,iN r.2.2]
noncomputable def Do(p:Nat→Bool)(n:Nat):Nat:=((bI n).filter p).headD n
noncomputable def kT{α:Type}[DecidableEq α](l:List α):List α:=l.foldl (fun acc x=>if x∈acc then acc else acc++[x]) []
theorem lY{α:Type}[DecidableEq α](l:List α)(x:α):kT (l++[x])=if x∈kT l then kT l else kT l++[x]:=by
 unfold kT;refine aM l7 ?_;rfl
theorem qB{α:Type}[DecidableEq α](l:List α):(kT l).length≤l.length:=by
 induction l using pV with
 |h0=>exact bO _
 |h1 l a ih=>rw[lY];split<;>simp<;>(first|exact ih|exact Nat.le_succ_of_le ih)
theorem kY{α:Type}[DecidableEq α](l:List α)(x:α):x∈kT l↔x∈l:=by
 induction l using pV with
 |h0=>exact Iff.rfl
 |h1 l a ih=>
  rw[lY]
  split
  ·rename_i h
   rw[ih,b8,eY]
   exact⟨.inl,fun h2=>h2.elim id fun e=>by subst e;exact ih.mp h⟩
  ·rw[b8,b8,ih]
noncomputable def j7:lD:=(0,0,[])
noncomputable def dJ(rows:List lD)(k:Nat):Nat:=(rows[k]?.getD j7).1
noncomputable def iQ(rows:List lD)(k:Nat):Nat:=(rows[k]?.getD j7).2.1
noncomputable def lC(rows:List lD)(k:Nat):List fB:=(rows[k]?.getD j7).2.2
noncomputable def tD(rows:List lD):Nat:=Do (fun k=>dJ rows k==6) rows.length
noncomputable def d8(rows:List lD):List Nat:=kT ((rows.take (tD rows)).map fun r=>r.2.1)
noncomputable def wT(rows:List lD)(nm:Nat):Nat:=Do (fun k=>dJ rows k==5&&iQ rows k==nm) rows.length
noncomputable def dM(rows:List lD)(nm:Nat):List (List fB):=kT (((rows.take (wT rows nm)).filter fun r=>r.2.1==nm&&r.1 !=6).map fun r=>r.2.2)
noncomputable def jO(rows:List lD)(nm:Nat):List Nat:=(bI rows.length).filter fun k=>(dJ rows k !=4&&dJ rows k !=5&&dJ rows k !=6)&&iQ rows k==nm
noncomputable def d0(rows:List lD)(nm:Nat)(rs:List fB):List Nat:=(jO rows nm).filter fun k=>decide (lC rows k=rs)
noncomputable def dE(rows:List lD):List (Nat×List hU):=(d8 rows).map fun nm=>(nm,(dM rows nm).map fun rs=>(rs,(d0 rows nm rs).map fun(k:Nat)=>(k:Int)))
noncomputable def oG(kp:Nat×List hU):aY:=.list [sH kp.1,.list (kp.2.map zF)]
theorem Dv(p:Nat→Bool)(n:Nat):(((bI n).filter p).map (fun(k:Nat)=>cB k)++[.int n])[0]?=some (.int (Do p n:Nat)):=by
 unfold Do
 cases (bI n).filter p<;>trivial
theorem HT(p:Nat→Bool)(n:Nat):Do p n≤n:=by
 unfold Do
 cases h:(bI n).filter p with
 |nil=>simp
 |cons a r=>
  have:a∈(bI n).filter p:=by refine aM h ?_;exact aF
  rw[lK,mR]at this
  simp;exact bA this.1
theorem Cb(p:Nat→Bool)(n:Nat):((bI n).filter p).length≤n:=aD (gI _ _) (by simp)
theorem rJ(a b:Nat):bU (.int a) (.int b)=(a==b):=by
 rw[JT,eN];simp;lia
theorem KY{a b:Nat}(h:sH a=sH b):a=b:=by
 unfold sH t6 at h
 simp at h
 assumption
theorem wE(a b:Nat):bU (sH a) (sH b)=decide (a=b):=by
 rw[eN,qA _ _ rfl rfl,decide_eq_true_iff]
 exact⟨KY,fun h=>by exact aM h rfl⟩
theorem u9{α:Type}(F:α→aY)(h:∀a,j4 (F a)=true):∀l:List α,lR (l.map F)=true
 |[]=>rfl
 |a::l=>by simp[lR,h,u9 F h l]
theorem E4{α β:Type}{F:α→β}(h:∀a b,F a=F b→a=b):∀{l m:List α},l.map F=m.map F→l=m
 |[],[],_=>rfl
 |[],_::_,e=>by cases e
 |_::_,[],e=>by cases e
 |a::l,b::m,e=>by
  rw[bT,bT]at e
  injection e with e1 e2
  have h1:=h a b e1
  have h2:=E4 h e2
  exact aM h1 (aM h2 rfl)
theorem xW(rs:List fB):j4 (iN rs)=true:=by simp[iN,j4,u9 fB.data r3]
theorem GY{a b:List fB}(h:iN a=iN b):a=b:=by
 unfold iN at h
 simp at h
 exact E4 (fun z z=>xB) h
theorem vN(a b:List fB):bU (iN a) (iN b)=decide (a=b):=by
 rw[eN,qA _ _ (xW a) (xW b),decide_eq_true_iff]
 exact⟨GY,fun h=>by exact aM h rfl⟩
theorem qU{α:Type}(F:α→aY):∀l:List α,(∀a∈l,jB (F a)=true)→cC (l.map F)=true
 |[],_=>rfl
 |a::l,h=>by simp[cC,h a,qU F l fun b hb=>h b (aC _ hb)]
theorem sN{α:Type}(F:α→aY)(n:Nat):∀l:List α,(∀a∈l,PyData.depth (F a)≤n)→PyData.depthAll (l.map F)≤n
 |[],_=>bX _
 |a::l,h=>by
  have h1:=h a (aF)
  have h2:=sN F n l fun b hb=>h b (aC _ hb)
  simp only[bT,PyData.depthAll]
  lia
theorem nP{rs:List fB}(h:∀r∈rs,r.ok):cP (iN rs)=true:=by
 unfold cP
 rw[b9]
 refine⟨?_,?_⟩
 ·exact qU _ _ fun r hr=>Ae (h r hr)
 ·have:PyData.depthAll (rs.map fB.data)≤1:=sN _ _ _ fun r hr=>by cases r<;>simp[fB.data,PyData.depth]
  exact decide_eq_true (aR (by assumption) (by decide))
theorem GW{rs:List fB}(h:∀r∈rs,r.ok):jB (iN rs)=true:=g6 (nP h)
theorem mI{a:Nat}(h:a<3):cP (sH a)=true:=by
 refine Lr h ?_ ?_ ?_<;>decide+kernel
theorem CQ{α:Type}{p:α→Bool}{l:List α}{a:α}(h:a∈l.filter p):a∈l:=(D1 h).1
theorem wM{a:Int}{b:Nat}(h:b<3):cP (.list [.int a,sH b])=true:=by
 have:=g6 (mI h)
 unfold cP
 rw[b9]
 exact⟨by simp[jB,cC,this],rfl⟩
structure rR(rows:List lD):Prop where
 deed:∀r∈rows,r.1<8
 nm:∀r∈rows,r.2.1<3
 runs:∀r∈rows,∀x∈r.2.2,x.ok
 len:∀r∈rows,r.2.2.length≤100
 n:rows.length≤100
theorem Af{rows:List lD}{k:Nat}(h:k<rows.length):(rows.map pH)[k]?=some (.list [.int (dJ rows k:Nat),sH (iQ rows k),iN (lC rows k)]):=by
 simp[h,pH,dJ,iQ,lC]
theorem xF{rows:List lD}{e ke je:Expr}{p1 p2:Pos}{k:Nat}{j:Int}{d:aY}(he:Pu V prog w A X s (eval e env) (Dt (.list (rows.map pH))))(hk:Pu V prog w A X s (eval ke env) (Dt (.int k)))(hj:Pu V prog w A X s (eval je env) (Dt (.int j)))(hlt:k<rows.length)(hz:rows.length≤100)(h0:0≤j)(h1:j<2^63)
  (hd:[cB (dJ rows k:Nat),sH (iQ rows k),iN (lC rows k)][j.toNat]?=some d)
  (hs1:autoParam (∀l u,subscripted ke false (.ref l) (.int k u)=operate [.ref l,.int k u] (getItem (.ref l) (.int k u))) rf)
  (hs2:autoParam (∀l u,subscripted je false (.ref l) (.int j u)=operate [.ref l,.int j u] (getItem (.ref l) (.int j u))) rf):Pu V prog w A X s (eval (.Subscript (.Subscript e ke p1) je p2) env) (Dt d):=
 lI (lI he hk (cD _) (e9 (Int.ofNat_le.mpr (show _≤1000000 from bA (cK (aO hlt hz) (by decide)))) (by decide)) (Af hlt) hs1) hj h0 h1 hd hs2
theorem Bs{n:Nat}{p:Nat→Bool}{lc ee:Expr}{pl p1 p2 p3:Pos}{k0:Nat}(h:Pu V prog w A X s (eval lc env) (Dt (.list (((bI n).filter p).map fun(k:Nat)=>cB k))))(he:Pu V prog w A X s (eval ee env) (Dt (.int n)))(hz:n≤1000)
  (hs:autoParam (starEach [ee] env=(false,eval ee env)::starEach [] env) rf):
  Pu V prog w A X s (eval (.Subscript (.BinOp lc .Add (.List [ee] pl) p1) (.Constant (.int 0) k0 p2) p3) env) (Dt (.int (Do p n:Nat))):=
 lI (k:=0) (oY h (fG (ds:=[.int n]) (aT he bF hs) rfl (fX (by refine(?_:1≤1000000);decide))) (by have:=Cb p n;rw[aQ];refine fX ?_;simp;exact bA (aR (aD this hz) (by decide)))) (eE 0) (by decide) (by decide) (Dv p n)
theorem JO{x:aG}{n:Nat}{rows:List lD}(kw:KW V (kz w) mg mb X s.heap)(R:dK A (n+4))(hx:Is V X s.heap x (.list (rows.map pH)))(ok:rR rows):
  Pu V prog w A X s (call (.ref 261) [x]) (Dt (.list ((dE rows).map oG))):=by
 have hz:=ok.n
 refine x7 oH kw R (ho:=rfl) (by rfl) (by rfl) (binds:=[("rows",x)]) (by rfl) (by rfl) ?_ (fun L=>rfl) ?_
 ·intro L y hy;simp at hy;subst hy;exact .inr ⟨rfl,rfl⟩
 ·intro L Y u s₁ Q E hu nx F q
  have hx₁:=hx.nx nx
  have kw₁:=kw.nx nx
  have R':dK (A.deeper (oH L)) (n+3):=dK.deeper R _
  refine eS (oW (d:=.int rows.length) F ((tE (ds:=rows.map pH) kw₁ (aX (F.cel (c:=L+1) rfl rfl) hx₁) (by simp;exact e9 (Int.ofNat_le.mpr (show _≤1000000 from bA (aR hz (by decide)))) (by decide)) (kF kw₁)).dt (by simp)) fun ve s₂ F₂ mu₂ hve=>⟨rfl,?_⟩)
  have hx₂:=hx₁.nx (F.nx mu₂)
  have kw₂:=kw₁.nx (F.nx mu₂)
  refine eS (oW (d:=.int (tD rows)) F₂ (Bs (p:=fun k=>dJ rows k==6) ?_ (aX (F₂.loc rfl) hve) (aD (by assumption) (by decide))) fun vs s₃ F₃ mu₃ hvs=>⟨rfl,?_⟩)
  ·refine mH (x:="k") (own:=none) (n:=rows.length) (f:=fun i=>.int i) (p:=fun k=>dJ rows k==6) (g:=fun k=>.int k) (P:=J3 rows.length) (cls:="range_iterator")
    ⟨f5 (kF kw₂) (aT (aX (F₂.loc rfl) hve) bF) (fun Z z vs hz hbz hvs=>by(refine bG (mN hvs) fun v1 e_0=>?_;subst e_0;refine fun h1=>?_);exact qS h1),oM R.handled (aR (by assumption) (by decide)),fX (aD (by assumption) (by decide)),?_,fun L'' c' k Y'' v'' val hk hp hw' hb' hn' hval=>aX hn' hval,rfl,rfl,by decide+kernel,fun o=>rfl,fun o=>rfl,fun o o=>.inl rfl,fun o=>rfl⟩ rfl
   intro L'' c' k Y'' v'' val hk hw' hb' hn' hval
   exact iV ((yA (d:=.int (dJ rows k:Nat)) (e:=.int 6) R' (xF (aX (F₂.inner (c:=L+1) rfl rfl hw') (hx₂.nx hw'.nx)) (aX hn' hval) (eE 0) hk hz (by decide) (by decide) rfl) (eE 6) rfl rfl).exb (rJ _ 6))
  have hx₃:=hx₂.nx (F₂.nx mu₃)
  have kw₃:=kw₂.nx (F₂.nx mu₃)
  have hve₃:=hve.nx (F₂.nx mu₃)
  have hsl:tD rows≤rows.length:=HT _ _
  refine eS (DK F₃ R.handled (fun s₄ ln lk F₄ n₄ hln hlk hne On Ok=>⟨rfl,?_⟩) (.inl rfl) (.inl rfl))
  have hx₄:=hx₃.nx n₄
  have kw₄:=kw₃.nx n₄
  have hve₄:=hve₃.nx n₄
  have hvs₄:=hvs.nx n₄
  generalize hT:rows.take (tD rows)=T
  have hTl:T.length=tD rows:=by refine gU hT (aM f8 ?_);exact jX hsl
  have hTs:∀r∈T,r∈rows:=fun r h=>eW (hT▸h)
  refine eS (xT F₄ (P:=Dt (.list (T.map pH))) (n:=(T.map pH).length) ?_ (hW (ds:=T.map pH) R.handled) (ln::nB (oH L)) ?_ (fun b hb=>aC _ hb)
   (fun X' i m' cm' s'=>iI V X' u s' ln ((kT ((T.take i).map fun r=>r.2.1)).map sH)∧iI V X' u s' lk []∧m' (aA "names")=some (.ref ln)∧m' (aA "kept")=some (.ref lk)∧cm' (aA "rows")=some x∧m' (aA "end")=some ve)
   (Kr V (oH L) (aA "deed") (aA "name") (aA "runs") (fun i=>.int (T[i]?.getD j7).1) (fun i=>sH (T[i]?.getD j7).2.1) (fun i=>iN (T[i]?.getD j7).2.2))
   (zA R.handled rfl (.inl rfl) (.inr ⟨rfl,rfl⟩) (.inl rfl) ?_) ?_ ?_ ?_ ?_)
  ·refine(u8 (ds:=rows.map pH) (a:=none) (b:=some (tD rows)) (c:=none) (aX (F₄.cel (c:=L+1) rfl rfl) hx₄) iU (mG (aX (F₄.loc rfl) hvs₄)) iU (by simp) (fX (by simp;exact aD (by assumption) (by decide)))).dt ?_
   refine aM (pW _ (cD _)) (gU hT (aM List.map_take ?_));rfl
  ·intro b hb
   rcases r4 hb with rfl|hb
   ·exact On.lx
   ·exact F₄.inA b hb
  ·intro i hi
   have hi':i<T.length:=by simpa using hi
   simp[hi',pH]
  ·(intro X' X'' i m' cm' t₁ t₂ i1 i2 nn kk q_1;refine Jv q_1 fun o1 o2 h1 h2 h3 h4=>?_)
   exact⟨o1.nx nn (i2 _ On.lx) fun ob e=>kk ln ob On.lx On.lV (On.notA F₄) e,o2.nx nn (i2 _ Ok.lx) fun ob e=>kk lk ob Ok.lx Ok.lV (Ok.notA F₄) e,h1,h2,h3,h4⟩
  ·intro X' s' hw
   exact⟨On.nx hw.nx (hw.inc _ On.lx) fun ob e=>a7 hw.keeps _ ob On.lV e,Ok.nx hw.nx (hw.inc _ Ok.lx) fun ob e=>a7 hw.keeps _ ob Ok.lV e,rfl,rfl,rfl,rfl⟩
  ·rintro i X' s₅ m₀ cm₀ m' cm' Q' E' hi inX nn F₅ ⟨v1,v2,v3,rfl,rfl,d1,d2,d3⟩ ⟨o1,o2,h1,h2,h3,h4⟩ q1 q2
   have hi':i<T.length:=by simpa using hi
   have hr:=hTs _ (fH j7 T hi')
   have hsn:T.take (i+1)=T.take i++[T[i]?.getD j7]:=by
    refine aM l6 ?_;simp[hi']
   replace d1:Is V X' s₅.heap v1 (.int (T[i]?.getD j7).1):=d1
   replace d2:Is V X' s₅.heap v2 (sH (T[i]?.getD j7).2.1):=d2
   replace d3:Is V X' s₅.heap v3 (iN (T[i]?.getD j7).2.2):=d3
   generalize T[i]?.getD j7=rr at d1 d2 d3 hr hsn
   have hnm:=ok.nm rr hr
   refine bG o1.ys fun ys hp ha=>?_
   refine eS (xS (c:=!decide (rr.2.1∈kT ((T.take i).map fun r=>r.2.1))) F₅ ((vA (us:=ys.toList) (es:=(kT ((T.take i).map fun r=>r.2.1)).map sH) (m:=ln) (dK.deeper R _) (aX (F₅.cel (c:=L+2) rfl rfl) d2) (eQ (F₅.loc (x:=aA "names") (v:=.ref ln) h1)) o1.lV (hp.isList) ha (mI hnm) ?_).exb ?_) fun s₆ F₆ k₆=>?_)
   ·refine qU _ _ fun a ha'=>g6 (mI ?_)
    rw[kY]at ha'
    (refine bG (n5 ha') fun r hr' e_0=>?_;subst e_0)
    exact ok.nm r (hTs r (eW hr'))
   ·congr 1
    (refine aM List.any_map ?_;rw[eN,List.any_eq_true,decide_eq_true_iff])
    constructor
    ·(intro q_4;refine bG q_4 fun a ha' h=>?_)
     simp only[Function.comp,wE,decide_eq_true_iff]at h
     refine gU h ?_;exact ha'
    ·intro h
     exact⟨_,h,by simp[Function.comp,wE]⟩
   ·have o1':=o1.keep k₆
    have o2':=o2.keep k₆
    by_cases hin:rr.2.1∈kT ((T.take i).map fun r=>r.2.1)
    ·have hc:(!decide (rr.2.1∈kT ((T.take i).map fun r=>r.2.1)))=false:=by refine aM (decide_eq_true hin) ?_;rfl
     refine aM hc ?_
     refine lP ⟨rfl,lP (q1 s₆ _ _ F₆ (.of_keeps k₆) ⟨?_,o2',h1,h2,h3,h4⟩)⟩
     (refine aM hsn (aM bB (aM iJ ?_));rewrite[lY];refine aM (if_pos hin) ?_)
     exact o1'
    ·have hc:(!decide (rr.2.1∈kT ((T.take i).map fun r=>r.2.1)))=true:=by refine aM (decide_eq_false hin) ?_;rfl
     refine aM hc ?_
     have hdl:(kT ((T.take i).map fun r=>r.2.1)).length≤100:=by
      refine aD (qB _) ?_
      (rewrite[aQ];refine aM f8 ?_);exact aD (aD (aD (jF _ _) (aU hTl)) hsl) hz
     refine eS (rY (d:=sH rr.2.1) F₆ o1' (eQ (F₆.loc (x:=aA "names") (v:=.ref ln) h1)) (aX (F₆.cel (c:=L+2) rfl rfl) (d2.keep (a7 k₆))) (fX (by rw[aQ];exact aD (by assumption) (by decide))) fun s₇ F₇ mu₇ o7=>⟨rfl,lP ⟨rfl,lP (q1 s₇ _ _ F₇ ?_ ⟨?_,?_,h1,h2,h3,h4⟩)⟩⟩)
     ·exact(Mu.of_keeps k₆).trans (mu₇.more fun a h=>by simp at h;simp[h])
     ·(refine aM hsn (aM bB (aM iJ ?_));rewrite[lY];refine aM (if_neg hin) (aM bB ?_))
      exact o7
     ·exact o2'.nx (mu₇.nx fun a h=>by simp at h;obtain rfl:=h.symm;exact o1.lx) o2.lx fun ob e=>mu₇.get (by simp;exact eH hne) o2.lV e
  ·(intro s₅ m' cm' nn _ F₅ q_5;refine Jv q_5 fun o1 o2 h1 h2 h3 h4=>?_)
   have hTt:T.take (T.map pH).length=T:=by(rewrite[aQ];exact aM jC rfl)
   rw[hTt]at o1
   have hN:kT (T.map fun r=>r.2.1)=d8 rows:=by refine gU hT ?_;rfl
   rw[hN]at o1
   refine⟨rfl,?_⟩
   have iX:∀a∈lk::kD (oH L) Y,a∈lk::ln::kD (oH L) Y:=fun a h=>by
    rcases r4 h with rfl|h
    ·exact aF
    ·exact aC _ (aC _ h)
   have hln5:ln∉lk::kD (oH L) Y:=fun h=>by
    rcases nR h with h|h
    ·exact hne h
    ·exact hln h
   have hnm5:=o1.is (X':=lk::kD (oH L) Y) iX hln5
   have o5:=o2.less (X':=lk::kD (oH L) Y) iX aF
   have G:=F₅.less (X':=lk::kD (oH L) Y) iX fun a h=>aC _ (aL _ h)
   have hx₅:=(hx₄.nx nn).less iX
   have kw₅:=(kw₄.nx nn).less iX
   have hve₅:=(hve₄.nx nn).less iX
   have hNm:∀a∈d8 rows,a<3:=fun a ha=>by
    rw[←hN,kY]at ha
    (refine bG (n5 ha) fun r hr e_0=>?_;subst e_0)
    exact ok.nm r (hTs r hr)
   have hNl:(d8 rows).length≤100:=by
    refine gU hN ?_;refine aD (qB _) ?_;rw[aQ];exact aD (aD (aU hTl) hsl) hz
   have hkO:dE rows=(d8 rows).map fun nm=>(nm,(dM rows nm).map fun rs=>(rs,(d0 rows nm rs).map fun(k:Nat)=>(k:Int))):=rfl
   generalize hNN:d8 rows=N at*
   have hkept:∃kp:Nat→Nat×List hU,(∀nm,kp nm=(nm,(dM rows nm).map fun rs=>(rs,(d0 rows nm rs).map fun(k:Nat)=>(k:Int))))∧dE rows=N.map kp:=⟨_,fun o=>rfl,hkO⟩
   refine bG hkept fun kp hkp hkp2=>?_
   refine eS (xT G (P:=Dt (.list (N.map sH))) (n:=(N.map sH).length) (aX (G.loc (x:=aA "names") (v:=.ref ln) h1) hnm5) (hW (ds:=N.map sH) R.handled) (lk::nB (oH L)) ?_ (fun b hb=>aC _ hb)
    (fun X' i m' cm' s'=>iI V X' u s' lk (((N.take i).map kp).map oG)∧m' (aA "kept")=some (.ref lk)∧cm' (aA "rows")=some x∧m' (aA "end")=some ve)
    (IE V (oH L) (aA "name") _) (t8 rfl (.inr ⟨rfl,rfl⟩)) ?_ ?_ ?_ ?_)
   ·intro b hb
    rcases r4 hb with rfl|hb
    ·exact o5.lx
    ·exact G.inA b hb
   ·(intro X' X'' i m' cm' t₁ t₂ i1 i2 nn kk q_6;refine A7 q_6 fun o1 h1 h2 h3=>?_)
    exact⟨o1.nx nn (i2 _ o5.lx) fun ob e=>kk lk ob o5.lx o5.lV (o5.notA G) e,h1,h2,h3⟩
   ·intro X' s' hw
    exact⟨o5.nx hw.nx (hw.inc _ o5.lx) fun ob e=>a7 hw.keeps _ ob o5.lV e,h2,h3,h4⟩
   ·rintro i X' s₆ m₀ cm₀ m' cm' Q' E' hi inX nn6 F₆ ⟨vn,rfl,rfl,hvn⟩ ⟨o6,h1,h2,h3⟩ q1 q2
    have hi':i<N.length:=by simpa using hi
    have hvn':Is V X' s₆.heap vn ((N.map sH)[i]?.getD .none):=hvn
    rw[j6 sH 0 _ _ hi']at hvn'
    have hnm:=hNm _ (fH 0 N hi')
    have hsn:N.take (i+1)=N.take i++[N[i]?.getD 0]:=by
     refine aM l6 ?_;simp[hi']
    clear hvn
    generalize N[i]?.getD 0=nm at hvn' hnm hsn
    have hx₆:=hx₅.nx nn6
    have kw₆:=kw₅.nx nn6
    have hve₆:=hve₅.nx nn6
    have hcl:wT rows nm≤rows.length:=HT _ _
    refine eS (oW (d:=.int (wT rows nm)) F₆ (Bs (p:=fun k=>dJ rows k==5&&iQ rows k==nm) ?_ (aX (F₆.loc (x:=aA "end") (v:=ve) h3) hve₆) (aD (by assumption) (by decide))) fun vc s₇ F₇ mu₇ hvc=>⟨rfl,?_⟩)
    ·refine mH (x:="k") (own:=none) (n:=rows.length) (f:=fun i=>.int i) (p:=fun k=>dJ rows k==5&&iQ rows k==nm) (g:=fun k=>.int k) (P:=J3 rows.length) (cls:="range_iterator")
      ⟨f5 (kF kw₆) (aT (aX (F₆.loc (x:=aA "end") (v:=ve) h3) hve₆) bF) (fun Z z vs hz hbz hvs=>by(refine bG (mN hvs) fun v1 e_0=>?_;subst e_0;refine fun h1=>?_);exact qS h1),oM R.handled (aR (by assumption) (by decide)),fX (aD (by assumption) (by decide)),?_,fun L'' c' k Y'' v'' val hk hp hw' hb' hn' hval=>aX hn' hval,rfl,rfl,by decide+kernel,fun o=>rfl,fun o=>rfl,fun o o=>.inl rfl,fun o=>rfl⟩ rfl
     intro L'' c' k Y'' v'' val hk hw' hb' hn' hval
     refine iV ((yA (d:=.list [.int (dJ rows k:Nat),sH (iQ rows k)]) (e:=.list [.int 5,sH nm]) R' ((u8 (ds:=[.int (dJ rows k:Nat),sH (iQ rows k),iN (lC rows k)]) (a:=none) (b:=some 2) (c:=none) (lI (aX (F₆.inner (x:=aA "rows") (v:=x) (c:=L+1) rfl h2 hw') (hx₆.nx hw'.nx)) (aX hn' hval) (cD _) (e9 (Int.ofNat_le.mpr (show _≤1000000 from bA (cK (aO hk hz) (by decide)))) (by decide)) (Af hk)) iU (mG (eE 2)) iU (by simp) (fX (by refine(?_:3≤1000000);decide))).dt (by refine aM (pW _ (by decide)) ?_;rfl))
      (fG (ds:=[.int 5,sH nm]) (aT (eE 5) (aT (aX (F₆.inner (c:=L+2) rfl rfl hw') (hvn'.nx hw'.nx)) bF)) rfl (fX (by refine(?_:2≤1000000);decide))) ?_ ?_).exb ?_)
     ·exact wM (ok.nm _ (fH j7 rows hk))
     ·exact wM hnm
     ·have e1:bU (.int (dJ rows k:Nat)) (.int 5)=(dJ rows k==5):=rJ _ 5
      simp only[bU,pB,Bool.and_true]at e1⊢
      refine aM e1 ?_
      congr 1
      rw[wE,eN];trivial
    have n₇:=F₆.nx mu₇
    have o7:=o6.muA F₆ mu₇
    have hx₇:=hx₆.nx n₇
    have kw₇:=kw₆.nx n₇
    have hve₇:=hve₆.nx n₇
    have hvn₇:=hvn'.nx n₇
    refine eS (GQ F₇ (fun s₈ h F₈ n₈ kp₈ hh hhn o8=>⟨rfl,?_⟩) (.inl rfl))
    have ok8:=o7.nx n₈ (aC _ o7.lx) fun ob e=>kp₈.get (o7.notA F₇) o7.lV e
    have mu₈:Mu V (nB (oH L)) s₇ s₈:=kp₈
    have hx₈:=hx₇.nx n₈
    have kw₈:=kw₇.nx n₈
    have hve₈:=hve₇.nx n₈
    have hvn₈:=hvn₇.nx n₈
    have hvc₈:=hvc.nx n₈
    have hhk:h≠lk:=fun e=>hh (e▸o7.lx)
    generalize hT2:rows.take (wT rows nm)=T2
    have hT2l:T2.length=wT rows nm:=by refine gU hT2 (aM f8 ?_);exact jX hcl
    have hT2s:∀r∈T2,r∈rows:=fun r h=>eW (hT2▸h)
    refine eS (xT F₈ (P:=Dt (.list (T2.map pH))) (n:=(T2.map pH).length) ?_ (hW (ds:=T2.map pH) R.handled) (h::nB (oH L)) ?_ (fun b hb=>aC _ hb)
     (fun X'' j m' cm' s'=>iI V X'' u s' h ((kT (((T2.take j).filter fun r=>r.2.1==nm&&r.1 !=6).map fun r=>r.2.2)).map iN)∧iI V X'' u s' lk (((N.take i).map kp).map oG)∧m' (aA "held")=some (.ref h)∧m' (aA "kept")=some (.ref lk)∧cm' (aA "rows")=some x∧cm' (aA "name")=some vn∧m' (aA "end")=some ve)
     (Kr V (oH L) (aA "deed") (aA "one") (aA "runs") (fun i=>.int (T2[i]?.getD j7).1) (fun i=>sH (T2[i]?.getD j7).2.1) (fun i=>iN (T2[i]?.getD j7).2.2))
     (zA R.handled rfl (.inl rfl) (.inl rfl) (.inl rfl) ?_) ?_ ?_ ?_ ?_)
    ·refine(u8 (ds:=rows.map pH) (a:=none) (b:=some (wT rows nm)) (c:=none) (aX (F₈.cel (x:=aA "rows") (v:=x) (c:=L+1) rfl h2) hx₈) iU (mG (aX (F₈.loc rfl) hvc₈)) iU (by simp) (fX (by simp;exact aD (by assumption) (by decide)))).dt ?_
     refine aM (pW _ (cD _)) (gU hT2 (aM List.map_take ?_));rfl
    ·intro b hb
     rcases r4 hb with rfl|hb
     ·exact o8.lx
     ·exact F₈.inA b hb
    ·intro i hi
     have hi':i<T2.length:=by simpa using hi
     simp[hi',pH]
    ·(intro X1 X2 j m' cm' t₁ t₂ i1 i2 nn kk q_9;refine IJ q_9 fun o1 o2 g1 g2 g3 g4 g5=>?_)
     exact⟨o1.nx nn (i2 _ o8.lx) fun ob e=>kk h ob o8.lx o8.lV (o8.notA F₈) e,o2.nx nn (i2 _ ok8.lx) fun ob e=>kk lk ob ok8.lx ok8.lV (ok8.notA F₈) e,g1,g2,g3,g4,g5⟩
    ·intro X1 s' hw
     exact⟨o8.nx hw.nx (hw.inc _ o8.lx) fun ob e=>a7 hw.keeps _ ob o8.lV e,ok8.nx hw.nx (hw.inc _ ok8.lx) fun ob e=>a7 hw.keeps _ ob ok8.lV e,rfl,h1,h2,rfl,h3⟩
    ·rintro j X1 s₉ m₁ cm₁ m' cm' Q1 E1 hj inX1 nn9 F₉ ⟨v1,v2,v3,rfl,rfl,d1,d2,d3⟩ ⟨o1,o2,g1,g2,g3,g4,g5⟩ r1 r2
     have hj':j<T2.length:=by simpa using hj
     have hr:=hT2s _ (fH j7 T2 hj')
     have hsn2:T2.take (j+1)=T2.take j++[T2[j]?.getD j7]:=by
      refine aM l6 ?_;simp[hj']
     replace d1:Is V X1 s₉.heap v1 (.int (T2[j]?.getD j7).1):=d1
     replace d2:Is V X1 s₉.heap v2 (sH (T2[j]?.getD j7).2.1):=d2
     replace d3:Is V X1 s₉.heap v3 (iN (T2[j]?.getD j7).2.2):=d3
     generalize T2[j]?.getD j7=rr at d1 d2 d3 hr hsn2
     generalize hD:kT (((T2.take j).filter fun r=>r.2.1==nm&&r.1 !=6).map fun r=>r.2.2)=D at o1
     have hDr:∀rs∈D,∀y∈rs,y.ok:=fun rs hrs=>by
      rw[←hD,kY]at hrs
      (refine bG (n5 hrs) fun r hr' e_0=>?_;subst e_0)
      exact ok.runs r (hT2s r (eW (CQ hr')))
     have hDl:D.length≤100:=by
      refine gU hD ?_
      refine aD (qB _) ?_
      rw[aQ]
      refine aD (gI _ _) ?_
      refine aM f8 ?_;exact aD (aD (aD (jF _ _) (aU hT2l)) hcl) hz
     refine bG o1.ys fun ys hp ha=>?_
     have hvn₉:=hvn₈.nx nn9
     have Rj:dK (A.deeper (oH L)) (n+3):=R'
     refine eS (xS (c:=(rr.2.1==nm)&&((rr.1 !=6)&&(!decide (rr.2.2∈D)&&true))) F₉ (uV ((yA (d:=sH rr.2.1) (e:=sH nm) Rj (aX (F₉.loc rfl) d2) (aX (F₉.cel (x:=aA "name") (v:=vn) (c:=L+2) rfl g4) hvn₉) (mI (ok.nm _ hr)) (mI hnm)).exb ?_) fun o=>
      uV ((CG (d:=.int rr.1) (e:=.int 6) Rj (aX (F₉.loc rfl) d1) (eE 6) rfl rfl).exb ?_) fun o=>
      uV ((vA (us:=ys.toList) (es:=D.map iN) (m:=h) Rj (aX (F₉.loc rfl) d3) (eQ (F₉.loc (x:=aA "held") (v:=.ref h) g1)) o1.lV (hp.isList) ha (nP (ok.runs _ hr)) (qU _ _ fun rs hrs=>GW (hDr rs hrs))).exb ?_) fun o=>uU) fun s₁₀ F₁₀ k₁₀=>?_)
     ·rw[wE,eN];trivial
     ·have:=rJ rr.1 6
      refine aM this ?_;rfl
     ·congr 1
      (refine aM List.any_map ?_;rw[eN,List.any_eq_true,decide_eq_true_iff])
      constructor
      ·(intro q_12;refine bG q_12 fun a ha' h=>?_)
       simp only[Function.comp,vN,decide_eq_true_iff]at h
       refine gU h ?_;exact ha'
      ·intro h
       exact⟨_,h,by simp[Function.comp,vN]⟩
     ·have o1':=o1.keep k₁₀
      have o2':=o2.keep k₁₀
      have hnew:kT (((T2.take (j+1)).filter fun r=>r.2.1==nm&&r.1 !=6).map fun r=>r.2.2)=if(rr.2.1==nm&&rr.1 !=6)=true then(if rr.2.2∈D then D else D++[rr.2.2])else D:=by
       (refine aM hsn2 ?_;rewrite[dP];refine aM bB ?_)
       by_cases hc:(rr.2.1==nm&&rr.1 !=6)=true
       ·refine aM (if_pos hc) ?_
        have:[rr].filter (fun r=>r.2.1==nm&&r.1 !=6)=[rr]:=by simp only[mS,hc]
        (refine aM this (aM iJ ?_);rewrite[lY];refine aM hD ?_)
        by_cases hm:rr.2.2∈D
        ·exact aM (if_pos hm) (aM (if_pos hm) rfl)
        ·exact aM (if_neg hm) (aM (if_neg hm) rfl)
       ·refine aM (if_neg hc) ?_
        have:[rr].filter (fun r=>r.2.1==nm&&r.1 !=6)=[]:=by
         have hc':(rr.2.1==nm&&rr.1 !=6)=false:=by with_reducible exact Bool.eq_false_iff.mpr hc
         simp only[mS,hc']
        (refine aM this (aM lA ?_);rewrite[fC];exact aM hD rfl)
      by_cases hc:(rr.2.1==nm&&rr.1 !=6)=true∧rr.2.2∉D
      ·have hcc:((rr.2.1==nm)&&((rr.1 !=6)&&(!decide (rr.2.2∈D)&&true)))=true:=by
        refine gE hc fun a b=>?_
        rw[b9]at a
        refine aM a.1 (aM a.2 (aM (decide_eq_false b) ?_));rfl
       refine aM hcc ?_
       refine eS (rY (d:=iN rr.2.2) F₁₀ o1' (eQ (F₁₀.loc (x:=aA "held") (v:=.ref h) g1)) (aX (F₁₀.loc rfl) (d3.keep (a7 k₁₀))) (fX (by rw[aQ];exact aD (by assumption) (by decide))) fun s₁₁ F₁₁ mu₁₁ o11=>⟨rfl,lP ⟨rfl,lP (r1 s₁₁ _ _ F₁₁ ?_ ⟨?_,?_,g1,g2,g3,g4,g5⟩)⟩⟩)
       ·exact(Mu.of_keeps k₁₀).trans (mu₁₁.more fun a h=>by simp at h;simp[h])
       ·refine aM hnew (aM (if_pos hc.1) (aM (if_neg hc.2) (aM bB ?_)));exact o11
       ·exact o2'.nx (mu₁₁.nx fun a h=>by simp at h;obtain rfl:=h.symm;exact o1.lx) o2.lx fun ob e=>mu₁₁.get (by simp;exact eH hhk) o2.lV e
      ·have hcc:((rr.2.1==nm)&&((rr.1 !=6)&&(!decide (rr.2.2∈D)&&true)))=false:=by
        rw[Bool.eq_false_iff]
        intro h
        apply hc
        rw[b9,b9,b9,Bool.not_eq_true',decide_eq_false_iff_not]at h
        exact⟨by refine aM h.1 (aM h.2.1 ?_);rfl,h.2.2.1⟩
       refine aM hcc ?_
       refine lP ⟨rfl,lP (r1 s₁₀ _ _ F₁₀ (.of_keeps k₁₀) ⟨?_,o2',g1,g2,g3,g4,g5⟩)⟩
       have:kT (((T2.take (j+1)).filter fun r=>r.2.1==nm&&r.1 !=6).map fun r=>r.2.2)=D:=by
        refine aM hnew ?_
        by_cases ha:(rr.2.1==nm&&rr.1 !=6)=true
        ·exact aM (if_pos ha) (aM (if_pos (mD fun hb=>hc ⟨ha,hb⟩)) rfl)
        ·exact aM (if_neg ha) rfl
       refine aM this ?_;exact o1'
    ·(intro s₉ m' cm' nn9 mu₉ F₉ q_13;refine IJ q_13 fun o1 o2 g1 g2 g3 g4 g5=>?_)
     refine⟨rfl,?_⟩
     have hT2t:T2.take (T2.map pH).length=T2:=by(rewrite[aQ];exact aM jC rfl)
     rw[hT2t]at o1
     have hHe:kT ((T2.filter fun r=>r.2.1==nm&&r.1 !=6).map fun r=>r.2.2)=dM rows nm:=by refine gU hT2 ?_;rfl
     rw[hHe]at o1
     have iX9:∀a∈X',a∈h::X':=fun a h=>aC _ h
     have F₁₀:=F₉.less iX9 fun a ha=>F₆.inA a ha
     have o10:=o2.less iX9 o6.lx
     have hHis:=o1.is iX9 hh
     have hx₉:=(hx₈.nx nn9).less iX9
     have kw₉:=(kw₈.nx nn9).less iX9
     have hve₉:=(hve₈.nx nn9).less iX9
     have hvn₉:=(hvn₈.nx nn9).less iX9
     have hHr:∀rs∈dM rows nm,∀y∈rs,y.ok:=fun rs hrs=>by
      rw[←hHe,kY]at hrs
      (refine bG (n5 hrs) fun r hr' e_0=>?_;subst e_0)
      exact ok.runs r (hT2s r (CQ hr'))
     have hHl:(dM rows nm).length≤100:=by
      refine gU hHe ?_
      refine aD (qB _) ?_
      rw[aQ]
      refine aD (gI _ _) ?_
      exact aD (aD (aU hT2l) hcl) hz
     refine eS (sO (c:=L+3) (d:=.list ((jO rows nm).map fun(k:Nat)=>cB k)) F₁₀ rfl ?_ fun vl s₁₁ F₁₁ mu₁₁ hvl=>⟨rfl,?_⟩)
     ·refine mH (x:="k") (own:=none) (n:=rows.length) (f:=fun i=>.int i) (p:=fun k=>(dJ rows k !=4&&dJ rows k !=5&&dJ rows k !=6)&&iQ rows k==nm) (g:=fun k=>.int k) (P:=J3 rows.length) (cls:="range_iterator")
       ⟨f5 (kF kw₉) (aT (aX (F₁₀.loc (x:=aA "end") (v:=ve) g5) hve₉) bF) (fun Z z vs hz hbz hvs=>by(refine bG (mN hvs) fun v1 e_0=>?_;subst e_0;refine fun h1=>?_);exact qS h1),oM R.handled (aR (by assumption) (by decide)),fX (aD (by assumption) (by decide)),?_,fun L'' c' k Y'' v'' val hk hp hw' hb' hn' hval=>aX hn' hval,rfl,rfl,by decide+kernel,fun o=>rfl,fun o=>rfl,fun o o=>.inl rfl,fun o=>rfl⟩ rfl
      intro L'' c' k Y'' v'' val hk hw' hb' hn' hval
      refine iV ((uV ((Gf (d:=.int (dJ rows k:Nat)) (es:=[.int 4,.int 5,.int 6]) R' (xF (aX (F₁₀.inner (x:=aA "rows") (v:=x) (c:=L+1) rfl g3 hw') (hx₉.nx hw'.nx)) (aX hn' hval) (eE 0) hk hz (by decide) (by decide) rfl) (fG (ds:=[.int 4,.int 5,.int 6]) (aT (eE 4) (aT (eE 5) (aT (eE 6) bF))) rfl (fX (by decide))) rfl (by decide+kernel)).exb (b:=(dJ rows k !=4&&dJ rows k !=5&&dJ rows k !=6)) ?_) fun o=>
       uV ((yA (d:=sH (iQ rows k)) (e:=sH nm) R' (xF (aX (F₁₀.inner (x:=aA "rows") (v:=x) (c:=L+1) rfl g3 hw') (hx₉.nx hw'.nx)) (aX hn' hval) (eE 1) hk hz (by decide) (by decide) rfl) (aX (F₁₀.inner (x:=aA "name") (v:=vn) (c:=L+2) rfl g4 hw') (hvn₉.nx hw'.nx)) (mI (ok.nm _ (fH j7 rows hk))) (mI hnm)).exb (b:=iQ rows k==nm) ?_) fun o=>uU).exb ?_)
      ·have e4:bU (.int 4) (.int (dJ rows k:Nat))=(4==dJ rows k):=rJ 4 _
       have e5:bU (.int 5) (.int (dJ rows k:Nat))=(5==dJ rows k):=rJ 5 _
       have e6:bU (.int 6) (.int (dJ rows k:Nat))=(6==dJ rows k):=rJ 6 _
       simp only[List.any_cons,List.any_nil,e4,e5,e6,Bool.or_false]
       rw[eN]
       simp
       lia
      ·rw[wE,eN];trivial
      ·simp
     have n₁₁:=F₁₀.nx mu₁₁
     have o11:=o10.muA F₁₀ mu₁₁
     have hx₁₁:=hx₉.nx n₁₁
     have hvn₁₁:=hvn₉.nx n₁₁
     have hHis₁₁:=hHis.nx n₁₁
     refine eS (rY (d:=oG (kp nm)) F₁₁ o11 (eQ (F₁₁.loc (x:=aA "kept") (v:=.ref lk) g2)) ?_ (fX (by simp;exact bA (aR (aD (jF _ _) hNl) (by decide)))) fun s₁₂ F₁₂ mu₁₂ o12=>⟨rfl,lP (q1 s₁₂ _ _ F₁₂ ?_ ⟨?_,g2,g3,g5⟩)⟩)
     ·have hkd:oG (kp nm)= .list [sH nm,.list ((dM rows nm).map fun rs=>zF (rs,(d0 rows nm rs).map fun(k:Nat)=>(k:Int)))]:=by
       rw[hkp];unfold oG;simp
      refine aM hkd ?_
      refine fG (ds:=[sH nm,.list ((dM rows nm).map fun rs=>zF (rs,(d0 rows nm rs).map fun(k:Nat)=>(k:Int)))]) (aT (aX (F₁₁.cel (x:=aA "name") (v:=vn) (c:=L+2) rfl g4) hvn₁₁) (aT ?_ bF)) rfl (fX (by refine(?_:2≤1000000);decide))
      refine mH (x:="runs") (own:=some "runs") (n:=((dM rows nm).map iN).length) (f:=fun i=>((dM rows nm).map iN)[i]?.getD .none) (p:=fun o=>true) (g:=fun i=>zF ((dM rows nm)[i]?.getD [],(d0 rows nm ((dM rows nm)[i]?.getD [])).map fun(k:Nat)=>(k:Int))) (P:=Dt (.list ((dM rows nm).map iN))) (cls:="list_iterator")
       ⟨aX (F₁₁.loc (x:=aA "held") (v:=.ref h) g1) hHis₁₁,hW R.handled,fX (by simp;exact aD (by assumption) (by decide)),fun L'' c' k Y'' v'' val hk hw' hb' hn' hval=>eU,?_,rfl,rfl,by decide+kernel,fun o=>rfl,fun o=>rfl,fun o o=>.inr ⟨rfl,_,rfl,rfl⟩,fun o=>rfl⟩ ?_
      ·intro L' c j Y' v' val hj _ hw hb hn1 hval
       have hj':j<(dM rows nm).length:=by simpa using hj
       rw[j6 iN [] _ _ hj']at hval
       have hrs:=hHr _ (fH [] _ hj')
       generalize (dM rows nm)[j]?.getD []=rs at hval hrs
       refine fG (ds:=[iN rs,g9 ((d0 rows nm rs).map fun(k:Nat)=>(k:Int))]) (aT (aX hn1 hval) (aT ?_ bF)) rfl (fX (by refine(?_:2≤1000000);decide))
       have hll:(jO rows nm).length≤rows.length:=Cb _ _
       refine mH (x:="k") (own:=none) (n:=((jO rows nm).map fun(k:Nat)=>cB k).length) (f:=fun i=>((jO rows nm).map fun(k:Nat)=>cB k)[i]?.getD .none) (p:=fun i=>decide (lC rows ((jO rows nm)[i]?.getD 0)=rs)) (g:=fun i=>.int ((jO rows nm)[i]?.getD 0:Nat)) (P:=Dt (.list ((jO rows nm).map fun(k:Nat)=>cB k))) (cls:="list_iterator")
        ⟨aX (F₁₁.inner (c:=L+3) rfl rfl hw) (hvl.nx hw.nx),hW R.handled,fX (by simp;exact bA (aR (aD hll hz) (by decide))),?_,?_,rfl,rfl,by decide+kernel,fun o=>rfl,fun o=>rfl,fun o o=>.inl rfl,fun o=>rfl⟩ ?_
       ·intro L'' c' k Y'' v'' val2 hk hw' hb' hn' hval2
        have hk':k<(jO rows nm).length:=by simpa using hk
        rw[j6 (fun(k:Nat)=>cB k) 0 _ _ hk']at hval2
        have hkr:(jO rows nm)[k]?.getD 0<rows.length:=by
         have:=fH 0 (jO rows nm) hk'
         unfold jO at this
         rw[lK,mR]at this
         exact this.1
        generalize (jO rows nm)[k]?.getD 0=kk at hval2 hkr
        refine iV ((yA (d:=iN (lC rows kk)) (e:=iN rs) R' (xF (aX ((F₁₁.inner (x:=aA "rows") (v:=x) (c:=L+1) (cenv:=compEnvC _ _ L'' _) rfl g3 (hw.trans hw'))) (hx₁₁.nx (hw.trans hw').nx)) (aX hn' hval2) (eE 2) hkr hz (by decide) (by decide) rfl) (aX (hn1.inn (c:=c) (dA hw'.keeps) rfl rfl rfl rfl) (hval.nx hw'.nx)) (nP (ok.runs _ (fH j7 rows hkr))) (nP hrs)).exb (vN _ _))
       ·intro L'' c' k Y'' v'' val2 hk _ hw' hb' hn' hval2
        have hk':k<(jO rows nm).length:=by simpa using hk
        rw[j6 (fun(k:Nat)=>cB k) 0 _ _ hk']at hval2
        exact aX hn' hval2
       ·(rewrite[aQ];refine aM (BA (fun kk=>decide (lC rows kk=rs)) (fun(k:Nat)=>cB k) 0 (jO rows nm)) ?_)
        unfold d0
        simp
      ·rw[aQ]
       exact qN (fun rs=>zF (rs,(d0 rows nm rs).map fun(k:Nat)=>(k:Int))) [] (dM rows nm)
     ·have hs6:s₆.heap.get? h=none:=by
       cases e:s₆.heap.get? h with
       |none=>rfl
       |some ob=>
        have:=mu₇.get (b:=h) (fun hm=>hh (F₆.inA h hm)) (F₇.bd.two.ne hhn) e
        rw[hhn]at this;nomatch this
      have m1:Mu V (h::lk::nB (oH L)) s₆ s₁₂:=by
       refine(mu₇.more ?_).trans ((mu₈.more ?_).trans ((mu₉.more ?_).trans ((mu₁₁.more ?_).trans (mu₁₂.more ?_))))
       ·intro a ha;exact aC _ (aC _ ha)
       ·intro a ha;exact aC _ (aC _ ha)
       ·intro a ha
        rcases r4 ha with rfl|ha
        ·exact aF
        ·exact aC _ (aC _ ha)
       ·intro a ha;exact aC _ (aC _ ha)
       ·intro a ha;simp at ha;obtain rfl:=ha.symm;exact .tail _ (.head _)
      exact m1.fresh hs6
     ·refine aM hsn (aM bB (aM bB (aM iJ ?_)));exact o12
   ·(intro s₆ m' cm' nn6 _ F₆ q_14;refine A7 q_14 fun o6 h1 h2 h3=>?_)
    have hNt:N.take (N.map sH).length=N:=by(rewrite[aQ];exact aM jC rfl)
    rw[hNt,←hkp2]at o6
    have F₇:=F₆.less (X':=kD (oH L) Y) (fun a h=>aC _ h) fun a h=>aL _ h
    exact⟨rfl,qK (d:=.list ((dE rows).map oG)) F₇ (aX (F₇.loc (x:=aA "kept") (v:=.ref lk) h1) (o6.is (fun a h=>aC _ h) hlk)) fun v s₇ F₈ n₈ hv=>q v s₇ F₈.keeps (hv.less fun a ha=>aJ _ ha)⟩
theorem vL{α β:Type}{f g:α→List β}:∀{l:List α},(∀a∈l,f a=g a)→l.flatMap f=l.flatMap g
 |[],_=>rfl
 |a::l,h=>by exact aM gG (aM gG (aM (h a (aF)) (aM (vL fun b hb=>h b (by simp[hb])) rfl)))
theorem vM{α β:Type}(F:α→List β)(d:α):∀l:List α,(bI l.length).flatMap (fun i=>F (l[i]?.getD d))=l.flatMap F:=by
 intro l
 induction l using pV with
 |h0=>rfl
 |h1 l a ih=>
  refine aM b4 (aM fI (aM iA (aM i4 (aM i4 ?_))))
  congr 1
  ·refine gU ih ?_
   apply vL
   intro i hi
   rw[mR]at hi
   rw[jQ hi]
  ·simp
noncomputable def m9(kept:List (Nat×List hU))(nm:Nat)(rs:List fB):List (List Int):=kept.flatMap fun kp=>if kp.1=nm then kp.2.flatMap fun sh=>if sh.1=rs then[sh.2]else[]else[]
noncomputable def rN(rows:List lD)(kept:List (Nat×List hU))(k:Nat):Option (List Int):=
 if dJ rows k=5∨dJ rows k=6 then none else some (((m9 kept (iQ rows k) (lC rows k)).headD []).filter fun(i:Int)=>decide (i<k))
noncomputable def r0:Option (List Int)→aY
 |none=>.none
 |some l=>g9 l
structure EN(kept:List (Nat×List hU)):Prop where
 nm:∀kp∈kept,kp.1<3
 n:kept.length≤100
 sh:∀kp∈kept,kp.2.length≤100∧∀sh∈kp.2,(∀r∈sh.1,r.ok)∧sh.1.length≤100∧sh.2.length≤100
theorem Cs(kept:List (Nat×List hU))(nm:Nat)(rs:List fB):
  gQ (fun i=>decide ((kept[i]?.getD (0,[])).1=nm)) (fun i=>gQ (fun j=>decide (((kept[i]?.getD (0,[])).2[j]?.getD ([],[])).1=rs)) (fun j=>[g9 ((kept[i]?.getD (0,[])).2[j]?.getD ([],[])).2]) (((kept[i]?.getD (0,[])).2.map zF).length)) kept.length=(m9 kept nm rs).map g9:=by
 unfold gQ m9
 refine aM (vM (fun kp:Nat×List hU=>if decide (kp.1=nm)=true then(bI (kp.2.map zF).length).flatMap (fun j=>if decide ((kp.2[j]?.getD ([],[])).1=rs)=true then[g9 (kp.2[j]?.getD ([],[])).2]else[])else[]) (0,[]) kept) ?_
 refine aM List.map_flatMap ?_
 apply vL
 intro kp _
 by_cases hc:kp.1=nm
 ·simp only[hc,decide_true,if_true]
  (rewrite[aQ];refine aM (vM (fun sh:hU=>if decide (sh.1=rs)=true then[g9 sh.2]else[]) ([],[]) kp.2) (aM List.map_flatMap ?_))
  apply vL
  intro sh _
  by_cases h2:sh.1=rs
  ·simp[h2]
  ·simp[h2]
 ·simp[hc]
theorem BM{α β:Type}(F:α→List β)(b:Nat):∀l:List α,(∀a∈l,(F a).length≤b)→(l.flatMap F).length≤l.length*b:=by
 intro l
 induction l with
 |nil=>intro _;simp
 |cons a l ih=>
  intro h
  (refine aM gG (aM b4 (aM d6 ?_));rw[Nat.add_mul])
  have h1:=h a (aF)
  have h2:=ih fun c hc=>h c (by simp[hc])
  lia
theorem Az{kept:List (Nat×List hU)}(ok:EN kept)(nm:Nat)(rs:List fB):((m9 kept nm rs).headD []).length≤100:=by
 cases h:m9 kept nm rs with
 |nil=>trivial
 |cons a r=>
  have:a∈m9 kept nm rs:=by refine aM h ?_;exact aF
  unfold m9 at this
  rw[List.mem_flatMap]at this
  refine bG this fun kp hk h2=>?_
  split at h2
  ·rw[List.mem_flatMap]at h2
   refine bG h2 fun sh hs h3=>?_
   split at h3
   ·simp at h3;subst h3;exact((ok.sh kp hk).2 sh hs).2.2
   ·nomatch h3
  ·nomatch h2
theorem JK{x y z:aG}{n k:Nat}{rows:List lD}{kept:List (Nat×List hU)}(kw:KW V (kz w) mg mb X s.heap)(R:dK A (n+4))(hx:Is V X s.heap x (.list (rows.map pH)))(hy:Is V X s.heap y (.list (kept.map oG)))(hzk:Is V X s.heap z (.int k))(ok:rR rows)(kok:EN kept)(hk:k<rows.length):
  Pu V prog w A X s (call (.ref 266) [x,y,z]) (Dt (r0 (rN rows kept k))):=by
 have hz:=ok.n
 refine x7 H1 kw R (ho:=rfl) (by rfl) (by rfl) (binds:=[("rows",x),("kept",y),("k",z)]) (by rfl) (by rfl) ?_ (fun L=>rfl) ?_
 ·intro L y hy;replace hy:=m3 hy
  rcases hy with rfl|rfl|rfl
  ·exact .inl rfl
  ·exact .inl rfl
  ·exact .inr ⟨rfl,rfl⟩
 ·intro L Y u s₁ Q E hu nx F q
  have hx₁:=hx.nx nx
  have hy₁:=hy.nx nx
  have hz₁:=hzk.nx nx
  have kw₁:=kw.nx nx
  have R':dK (A.deeper (H1 L)) (n+3):=dK.deeper R _
  refine eS (IY F (lI (ds:=rows.map pH) (k:=k) (aX (F.loc rfl) hx₁) (aX (F.cel (c:=L+1) rfl rfl) hz₁) (cD _) (e9 (Int.ofNat_le.mpr (show _≤1000000 from bA (cK (aO hk hz) (by decide)))) (by decide)) (Af hk)) R.handled (fun s₂ v1 v2 v3 F₂ mu₂ d1 d2 d3=>⟨rfl,?_⟩) (.inl rfl) (.inr ⟨rfl,rfl⟩) (.inr ⟨rfl,rfl⟩))
  have n₂:=F.nx mu₂
  have hy₂:=hy₁.nx n₂
  have hz₂:=hz₁.nx n₂
  have hnm:iQ rows k<3:=ok.nm _ (fH j7 rows hk)
  have hro:=ok.runs _ (fH j7 rows hk)
  have hkg:∀{i},i<(kept.map oG).length→(kept.map oG)[i]?=some (.list [sH (kept[i]?.getD (0,[])).1,.list ((kept[i]?.getD (0,[])).2.map zF)]):=fun{i} hi=>by
   have hi':i<kept.length:=by simpa using hi
   simp[hi',oG]
  refine eS (Lb (ds:=kept.map oG) (a₁:=fun i=>sH (kept[i]?.getD (0,[])).1) (a₂:=fun i=>.list ((kept[i]?.getD (0,[])).2.map zF)) (p:=fun i=>decide ((kept[i]?.getD (0,[])).1=iQ rows k)) (es:=fun i=>(kept[i]?.getD (0,[])).2.map zF)
   (b₁:=fun i j=>iN ((kept[i]?.getD (0,[])).2[j]?.getD ([],[])).1) (b₂:=fun i j=>g9 ((kept[i]?.getD (0,[])).2[j]?.getD ([],[])).2) (p2:=fun i j=>decide (((kept[i]?.getD (0,[])).2[j]?.getD ([],[])).1=lC rows k)) (g:=fun i j=>g9 ((kept[i]?.getD (0,[])).2[j]?.getD ([],[])).2) F₂
   ⟨aX (F₂.loc rfl) hy₂,R.handled,fun i hi=>hkg hi,?_,?_,?_,?_,?_,?_,rfl,rfl,by decide+kernel,fun o=>rfl,fun o=>rfl,fun o=>rfl,fun o=>rfl,fun o=>rfl,fun o=>rfl,by decide+kernel,by decide+kernel,fun o=>rfl,fun o o=>rfl⟩ fun vl s₃ F₃ mu₃ hvl=>⟨rfl,?_⟩)
  ·intro i j hj
   have hj':j<(kept[i]?.getD (0,[])).2.length:=by simpa using hj
   simp[hj',zF]
  ·intro i hi
   refine fX ?_
   have hb:∀i,(kept[i]?.getD (0,[])).2.length≤100:=fun i=>by
    rcases eM i kept.length with h|h
    ·exact(kok.sh _ (fH (0,[]) kept h)).1
    ·simp[pC h]
   have h1:(gQ (fun i=>decide ((kept[i]?.getD (0,[])).1=iQ rows k)) (fun i=>gQ (fun j=>decide (((kept[i]?.getD (0,[])).2[j]?.getD ([],[])).1=lC rows k)) (fun j=>[g9 ((kept[i]?.getD (0,[])).2[j]?.getD ([],[])).2]) (((kept[i]?.getD (0,[])).2.map zF).length)) i).length≤(bI i).length*100:=by
    refine BM _ 100 _ fun a o=>?_
    split
    ·refine aD (BU _ (fun j=>g9 ((kept[a]?.getD (0,[])).2[j]?.getD ([],[])).2) _) ?_
     rw[aQ];exact hb a
    ·simp
   have h2:=hb i
   have h3:i≤100:=by have:=kok.n;rw[aQ]at hi;with_reducible exact aD (by assumption) (by assumption)
   rw[j0]at h1
   rw[aQ]
   lia
  ·intro L' i Y' v v1' v2' hi hw hb hn1 h1 hn2 h2
   have hi':i<kept.length:=by simpa using hi
   exact iV ((yA R' (aX hn1 h1) (aX (F₂.inner (c:=L+2) rfl rfl hw) (d2.nx hw.nx)) (mI (kok.nm _ (fH (0,[]) kept hi'))) (mI hnm)).exb (wE _ _))
  ·intro L' i Y' v v1' v2' hi hpi hw hb hn1 h1 hn2 h2
   exact aX hn2 h2
  ·intro L' i j Y' v v1' v2' hi hj hw hb hn1 h1 hn2 h2
   have hi':i<kept.length:=by simpa using hi
   have hj':j<(kept[i]?.getD (0,[])).2.length:=by simpa using hj
   exact iV ((yA R' (aX hn1 h1) (aX (F₂.inner (c:=L+3) rfl rfl hw) (d3.nx hw.nx)) (nP ((kok.sh _ (fH (0,[]) kept hi')).2 _ (fH ([],[]) _ hj')).1) (nP hro)).exb (vN _ _))
  ·intro L' i j Y' v v1' v2' hi hj hpj hw hb hn1 h1 hn2 h2
   exact aX hn2 h2
  have hl:Is V (kD (H1 L) Y) s₃.heap vl (.list ((m9 kept (iQ rows k) (lC rows k)).map g9)):=by
   rw[←Cs]
   simpa using hvl
  have n₃:=F₂.nx mu₃
  have hz₃:=hz₂.nx n₃
  refine qK (d:=r0 (rN rows kept k)) F₃ ?_ fun v s₄ F₄ n₄ hv=>q v s₄ F₄.keeps (hv.less fun a ha=>aJ _ ha)
  have hpl:=Az kok (iQ rows k) (lC rows k)
  have hll:(m9 kept (iQ rows k) (lC rows k)).length≤10000:=by
   refine aD (BM _ 100 _ fun kp hkp=>?_) (by have:=kok.n;exact aD (kK this (bO _)) (by decide))
   split
   ·refine aD (BM _ 1 _ fun sh o=>?_) (by have:=(kok.sh kp hkp).1;exact aD (kK this (bO _)) (by decide))
    split<;>simp
   ·simp
  generalize hLL:m9 kept (iQ rows k) (lC rows k)=LL at hl hpl hll
  refine tG (c:=decide (dJ rows k=5∨dJ rows k=6)) ((Jb (d:=.int (dJ rows k:Nat)) (es:=[.int 5,.int 6]) R' (aX (F₃.loc rfl) (d1.nx n₃)) (fG (ds:=[.int 5,.int 6]) (aT (eE 5) (aT (eE 6) bF)) rfl (fX (by decide))) rfl (by decide+kernel)).exb ?_) (fun hc=>?_) (fun hc=>?_)
  ·have e5:bU (.int 5) (.int (dJ rows k:Nat))=(5==dJ rows k):=rJ 5 _
   have e6:bU (.int 6) (.int (dJ rows k:Nat))=(6==dJ rows k):=rJ 6 _
   simp only[List.any_cons,List.any_nil,e5,e6,Bool.or_false]
   rw[eN]
   simp
   lia
  ·rw[decide_eq_true_iff]at hc
   unfold rN
   refine aM (if_pos hc) ?_
   exact I7
  ·rw[decide_eq_false_iff_not]at hc
   unfold rN
   refine aM (if_neg hc) (aM hLL ?_)
   refine mH (x:="place") (own:=none) (n:=((LL.headD []).map cB).length) (f:=fun i=>((LL.headD []).map cB)[i]?.getD .none) (p:=fun i=>decide ((LL.headD [])[i]?.getD 0<(k:Int))) (g:=fun i=>.int ((LL.headD [])[i]?.getD 0)) (P:=Dt (.list ((LL.headD []).map cB))) (cls:="list_iterator")
    ⟨?_,hW R.handled,fX (by rw[aQ];exact aD (by assumption) (by decide)),?_,?_,rfl,rfl,by decide+kernel,fun o=>rfl,fun o=>rfl,fun o o=>.inl rfl,fun o=>rfl⟩ ?_
   ·refine lI (ds:=LL.map g9++[.list []]) (k:=0) (oY (aX (F₃.loc rfl) hl) (fG (ds:=[.list []]) (aT (fG (ds:=[]) bF rfl (by decide+kernel)) bF) rfl (fX (by decide))) (fX ?_)) (eE 0) (by decide) (by decide) ?_
    ·rw[aQ];simp;exact aD (by assumption) (by decide)
    ·cases LL<;>rfl
   ·intro L'' c' j Y'' v'' val hj hw hb hn' hval
    have hj':j<(LL.headD []).length:=by simpa using hj
    replace hval:=(j6 cB 0 _ _ hj')▸hval
    exact iV (FQ (aX hn' hval) (aX (F₃.inner (c:=L+1) rfl rfl hw) (hz₃.nx hw.nx)))
   ·intro L'' c' j Y'' v'' val hj _ hw hb hn' hval
    have hj':j<(LL.headD []).length:=by simpa using hj
    rw[j6 cB 0 _ _ hj']at hval
    exact aX hn' hval
   ·rw[aQ]
    exact BA (fun(i:Int)=>decide (i<k)) cB 0 (LL.headD [])
section
open PySem.Sre
namespace Re
noncomputable def code:Array Nat:=#[14,4,0,1,4294967295,17,0,7,14,24,10,1,4294967295,13,5,22,48,57,0,1,15,17,15,13,11,9,0,26624,2147483648,0,0,0,0,0,0,15,2,0,17,1,1]
noncomputable def st(text:Array Nat)(lim start pc pos handed:Nat)(out:Bool)(a b:Option Nat)(lm li:Int)(fr:List Sre.Frame)(wt:Nat)(ans:Option Bool)(seen:Sre.Seen):M:=
 {code,text,lim,start,lastStart:=lim,pc,pos,handed,outermost:=out,marks:=#[a,b],lastmark:=lm,lastindex:=li,frames:=fr,weight:=wt,answer:=ans,seen}
noncomputable def k0:Sre.Kept:={lastmark:=0,lastindex:= -1,whole:=false,marks:=#[]}
noncomputable def f0(s:Nat)(out:Bool):Sre.Frame:={wait:=.nextStart,pc:=5,pos:=s,outermost:=out}
noncomputable def f1(s:Nat)(out:Bool):Sre.Frame:={wait:=.nextBranch,pc:=8,pos:=s,outermost:=out,kept:=k0}
noncomputable def f2(s:Nat)(out:Bool):Sre.Frame:={wait:=.nextBranch,pc:=22,pos:=s,outermost:=out,kept:=k0}
noncomputable def fg(s n:Nat)(out:Bool):Sre.Frame:={wait:=.giveBack,pc:=9,pos:=s,outermost:=out,count:=n,kept:=k0}
variable {text:Array Nat} {lim s h:Nat} {out:Bool} {a b:Option Nat} {seen:Sre.Seen}
theorem s1:(st text lim s 5 s h out a b (-1) (-1) [f0 s out] 1 none seen).step=st text lim s 7 s h out (some s) b 0 (-1) [f0 s out] 1 none (seen.add 17):=by rfl
theorem s2:(st text lim s 7 s h out a b 0 (-1) [f0 s out] 1 none seen).step=st text lim s 9 s s out a b 0 (-1) [f1 s out,f0 s out] 2 none (seen.add 7):=by rfl
noncomputable def zG(c:Nat):Bool:=decide (48≤c)&&decide (c≤57)
noncomputable def E9(c:Nat):Bool:=decide (c<256)&&(code.getD (25+(1+c/32)) 0).testBit (c % 32)
theorem Le(c:Nat):∃seen',accepts code 13 c seen= .ok (zG c,seen'):=by
 unfold zG
 show∃seen',(if(decide (48≤c)&&decide (c≤57))=true then Except.ok (true,seen.add 22)else Except.ok (false,(seen.add 22).add 0))=_
 cases h:(decide (48≤c)&&decide (c≤57))
 ·exact⟨_,rfl⟩
 ·exact⟨_,rfl⟩
theorem Ld(c:Nat):∃seen',accepts code 23 c seen= .ok (E9 c,seen'):=by
 unfold E9
 show∃seen',(if(decide (c<256)&&(code.getD (25+(1+c/32)) 0).testBit (c % 32))=true then Except.ok (true,seen.add 9)else Except.ok (false,(seen.add 9).add 0))=_
 cases h:(decide (c<256)&&(code.getD (25+(1+c/32)) 0).testBit (c % 32))
 ·exact⟨_,rfl⟩
 ·exact⟨_,rfl⟩
theorem HN:∀c<128,E9 c=(kd c==0):=by decide+kernel
theorem BF:∀c<128,zG c=(kd c==1):=by decide+kernel
noncomputable def nE(text:Array Nat):Nat→Nat→Nat
 |0,_=>0
 |n+1,p=>if zG (text.getD p 0)then nE text n (p+1)+1 else 0
theorem oP(text:Array Nat)(n p:Nat):nE text (n+1) p=if zG (text.getD p 0)then nE text n (p+1)+1 else 0:=rfl
theorem Bh(text:Array Nat):∀(n p found:Nat) (seen:Sre.Seen),∃seen',Sre.run code text 13 n p found seen= .ok (found+nE text n p,seen')
 |0,p,found,seen=>⟨seen,rfl⟩
 |n+1,p,found,seen=>by
  refine bK (Le (seen:=seen) (text.getD p 0)) fun s1 e=>?_
  have eq:Sre.run code text 13 (n+1) p found seen=(accepts code 13 (text.getD p 0) seen>>=fun x=>if x.1=true then Sre.run code text 13 n (p+1) (found+1) x.2 else pure (found,x.2)):=rfl
  refine aM eq (aM e ?_)
  cases h:zG (text.getD p 0)with
  |false=>
   have e0:nE text (n+1) p=0:=by(rewrite[oP];refine aM h ?_);rfl
   exact⟨s1,by refine aM e0 ?_;rfl⟩
  |true=>
   refine bK (Bh text n (p+1) (found+1) s1) fun s2 e2=>?_
   exact⟨s2,by
    refine(?_:(Sre.run code text 13 n (p+1) (found+1) s1)=_)
    have e0:nE text (n+1) p=nE text n (p+1)+1:=by(rewrite[oP];refine aM h ?_);rfl
    (refine aM e2 ?_;rw[e0,Nat.add_assoc,oS 1])⟩
theorem s3a(hs:lim≤s):(st text lim s 9 s h out a b 0 (-1) [f1 s out,f0 s out] 2 none seen).step=st text lim s 9 s h out a b 0 (-1) [f1 s out,f0 s out] 2 (some false) (seen.add 24):=by
 refine(?_:(if((1:Nat):Int)>(lim:Int)-s then _ else _)=_)
 refine aM (if_pos (e9 (Int.sub_nonpos_of_le (Int.ofNat_le.mpr hs)) (by decide))) ?_
 rfl
theorem s3b(hs:s<lim)(hl:lim≤1000):∃seen',(st text lim s 9 s h out a b 0 (-1) [f1 s out,f0 s out] 2 none seen).step=(if nE text (lim-s) s=0 then st text lim s 9 s h out a b 0 (-1) [f1 s out,f0 s out] 2 (some false) seen' else
  st text lim s 20 (s+nE text (lim-s) s) (s+nE text (lim-s) s) out a b 0 (-1) [fg (s+nE text (lim-s) s) (nE text (lim-s) s) out,f1 s out,f0 s out] 3 none seen'):=by
 refine bK (Bh text (lim-s) s 0 ((seen.add 24).add 13)) fun s' e=>?_
 refine⟨s',?_⟩
 refine(?_:(if((1:Nat):Int)>(lim:Int)-s then _ else _)=_)
 refine aM (if_neg (Int.not_lt.mpr (Int.le_sub_left_of_add_le (Int.ofNat_le.mpr hs)))) ?_
 have hm:min (4294967295:Nat) ((lim:Int)-s).toNat=lim-s:=by(rw[Int.toNat_sub];exact Nat.min_eq_right (aD (Nat.sub_le _ _) (aD hl (by decide))))
 refine(?_:(match Sre.run code text 13 (min (4294967295:Nat) ((lim:Int)-s).toNat) s 0 ((seen.add 24).add 13)with
  | .error why=>_
  | .ok (n,seen)=>_)=_)
 (refine aM hm ?_;rw[e,Nat.zero_add])
 by_cases h0:nE text (lim-s) s=0
 ·refine aM (if_pos h0) ?_
  refine(?_:(if nE text (lim-s) s<1 then _ else _)=_)
  refine aM (if_pos (aR (aU h0) (by decide))) ?_
  rfl
 ·refine aM (if_neg h0) ?_
  refine(?_:(if nE text (lim-s) s<1 then _ else _)=_)
  refine aM (if_neg (fun q=>h0 (Nat.lt_one_iff.mp q))) ?_
  rfl
theorem s4(x:Nat):(st text lim s 9 s x out a b 0 (-1) [f1 s out,f0 s out] 2 (some false) seen).step=st text lim s 23 s s out a b 0 (-1) [f2 s out,f0 s out] 2 none seen:=by rfl
theorem s5a(hs:lim≤s):(st text lim s 23 s h out a b 0 (-1) [f2 s out,f0 s out] 2 none seen).step=st text lim s 23 s h out a b 0 (-1) [f2 s out,f0 s out] 2 (some false) (seen.add 13):=by
 refine(?_:(if s≥lim then _ else _)=_)
 refine aM (if_pos hs) ?_;rfl
theorem s5b(hs:s<lim):∃seen',(st text lim s 23 s h out a b 0 (-1) [f2 s out,f0 s out] 2 none seen).step=(if E9 (text.getD s 0)then st text lim s 35 (s+1) h out a b 0 (-1) [f2 s out,f0 s out] 2 none seen' else st text lim s 23 s h out a b 0 (-1) [f2 s out,f0 s out] 2 (some false) seen'):=by
 refine bK (Ld (seen:=seen.add 13) (text.getD s 0)) fun s' e=>?_
 refine⟨s',?_⟩
 refine(?_:(if s≥lim then _ else _)=_)
 refine aM (if_neg (Nat.not_le.mpr hs)) ?_
 refine(?_:(match accepts code 23 (text.getD s 0) (seen.add 13)with
  | .error why=>_
  | .ok (false,seen)=>_
  | .ok (true,seen)=>_)=_)
 refine aM e ?_
 cases E9 (text.getD s 0)<;>rfl
theorem s6(x:Nat):(st text lim s 23 s x out a b 0 (-1) [f2 s out,f0 s out] 2 (some false) seen).step=st text lim s 22 s x out a b 0 (-1) [f0 s out] 1 (some false) seen:=by rfl
theorem s7(x:Nat)(hs:s<lim):(st text lim s 22 s x out a b 0 (-1) [f0 s out] 1 (some false) seen).step=st text lim (s+1) 5 (s+1) (s+1) false a b (-1) (-1) [f0 (s+1) false] 1 none seen:=by
 refine(?_:(if s<lim then _ else _)=_)
 refine aM (if_pos hs) ?_;rfl
theorem s7b(x:Nat)(hs:lim≤s):(st text lim s 22 s x out a b 0 (-1) [f0 s out] 1 (some false) seen).step={st text lim s 5 s x out a b 0 (-1) [] 0 (some false) seen with}:=by
 refine(?_:(if s<lim then _ else _)=_)
 refine aM (if_neg (Nat.not_lt.mpr (by assumption))) ?_;rfl
noncomputable def iG:Nat→M→M
 |0,m=>m
 |n+1,m=>iG n m.step
theorem dO(n:Nat)(m:M):iG (n+1) m=iG n m.step:=rfl
theorem AG{m:M}(h:m.outcome.isSome=true):m.step=m:=by unfold M.step;exact aM (if_pos h) rfl
theorem qJ{m:M}(h:m.outcome.isSome=true):∀n,iG n m=m
 |0=>rfl
 |n+1=>by rw[dO,AG h,qJ h n]
theorem u7:∀(n:Nat) (m:M),m.runFor n=iG n m
 |0,m=>rfl
 |n+1,m=>by
  (rewrite[dO];refine aM (show m.runFor (n+1)=if m.outcome.isSome then m else m.step.runFor n from rfl) ?_)
  by_cases h:m.outcome.isSome=true
  ·(refine aM (if_pos h) ?_;rw[AG h,qJ h])
  ·(refine aM (if_neg h) ?_;rw[u7 n])
theorem kX(i j:Nat)(m:M):iG (i+j) m=iG j (iG i m):=by
 induction i generalizing m with
 |zero=>rw[Nat.zero_add];rfl
 |succ i ih=>rw[Nat.succ_add];exact ih m.step
theorem DI{i j:Nat}{m:M}(h1:(iG i m).outcome.isSome=true)(h2:(iG j m).outcome.isSome=true):iG i m=iG j m:=by
 rcases Nat.le_total i j with h|h
 ·(refine bK (oD h) fun k e_0=>?_;subst e_0)
  rw[kX,qJ h1]
 ·(refine bK (oD h) fun k e_0=>?_;subst e_0)
  rw[kX,qJ h2]
structure IH(m:M)(p e:Nat):Prop where
 out:m.outcome=some .matched
 start:m.start=p
 handed:m.handed=e
 marks:m.marks=#[some p,some e]
 lm:m.lastmark=1
variable {e x:Nat} {fr:List Sre.Frame} {wt:Nat} {lm li:Int}
theorem w1{n:Nat}:(st text lim s 20 e h out a b 0 (-1) [fg e n out,f1 s out,f0 s out] 3 none seen).step=st text lim s 38 e h out a b 0 (-1) [fg e n out,f1 s out,f0 s out] 3 none (seen.add 15):=by rfl
theorem w1p:(st text lim s 35 e h out a b 0 (-1) [f2 s out,f0 s out] 2 none seen).step=st text lim s 38 e h out a b 0 (-1) [f2 s out,f0 s out] 2 none (seen.add 15):=by rfl
theorem w2:(st text lim s 38 e h out a b 0 (-1) fr wt none seen).step=st text lim s 40 e h out a (some e) 1 1 fr wt none (seen.add 17):=by
 refine(?_:M.mark {st text lim s 38 e h out a b 0 (-1) fr wt none seen with seen:=seen.add 17} 1=_)
 rfl
theorem w3:(st text lim s 40 e h out a b 1 1 fr wt none seen).step=st text lim s 40 e e out a b 1 1 fr wt (some true) (seen.add 1):=by cases out<;>cases fr<;>rfl
theorem w4{n:Nat}:(st text lim s 40 e h out a b 1 1 [fg e n out,f1 s out,f0 s out] 3 (some true) seen).step=st text lim s 9 e h out a b 1 1 [f1 s out,f0 s out] 2 (some true) seen:=by rfl
theorem w5:(st text lim s 9 e h out a b 1 1 [f1 s out,f0 s out] 2 (some true) seen).step=st text lim s 8 s h out a b 1 1 [f0 s out] 1 (some true) seen:=by rfl
theorem w5p:(st text lim s 40 e h out a b 1 1 [f2 s out,f0 s out] 2 (some true) seen).step=st text lim s 22 s h out a b 1 1 [f0 s out] 1 (some true) seen:=by rfl
theorem w6:(st text lim s x e h out a b 1 1 [f0 s out] 1 (some true) seen).step=st text lim s 5 s h out a b 1 1 [] 0 (some true) seen:=by rfl
theorem w7:IH (st text lim s x e h out (some s) (some h) 1 1 [] 0 (some true) seen).step s h:=⟨rfl,rfl,rfl,rfl,rfl⟩
theorem LG{n:Nat}:IH (iG 7 (st text lim s 20 e h out (some s) b 0 (-1) [fg e n out,f1 s out,f0 s out] 3 none seen)) s e:=by
 (rewrite[dO];refine aM w1 ?_)
 (rewrite[dO];refine aM w2 ?_)
 (rewrite[dO];refine aM w3 ?_)
 (rewrite[dO];refine aM w4 ?_)
 (rewrite[dO];refine aM w5 ?_)
 (rewrite[dO];refine aM w6 ?_)
 exact w7
theorem LF:IH (iG 6 (st text lim s 35 e h out (some s) b 0 (-1) [f2 s out,f0 s out] 2 none seen)) s e:=by
 (rewrite[dO];refine aM w1p ?_)
 (rewrite[dO];refine aM w2 ?_)
 (rewrite[dO];refine aM w3 ?_)
 (rewrite[dO];refine aM w5p ?_)
 (rewrite[dO];refine aM w6 ?_)
 exact w7
noncomputable def eA(text:Array Nat)(lim:Nat):Nat→Nat→Option (Nat×Nat)
 |0,_=>none
 |d+1,s=>if zG (text.getD s 0)then some (s,s+nE text (lim-s) s)else if E9 (text.getD s 0)then some (s,s+1)else eA text lim d (s+1)
theorem jU(text:Array Nat)(lim d s:Nat):eA text lim (d+1) s=if zG (text.getD s 0)then some (s,s+nE text (lim-s) s)else if E9 (text.getD s 0)then some (s,s+1)else eA text lim d (s+1):=rfl
noncomputable def Jq(m:M):Option (Nat×Nat)→Prop
 |some (p,e)=>IH m p e
 |none=>m.outcome=some .failed
theorem GU(hl:lim≤1000):∀(d s:Nat),s+d=lim→∀(h:Nat) (out:Bool) (a b:Option Nat) (seen:Sre.Seen),∃N,N≤20*(d+1)∧Jq (iG N (st text lim s 5 s h out a b (-1) (-1) [f0 s out] 1 none seen)) (eA text lim d s)
 |0,s,hs,h,out,a,b,seen=>by
  have hs':lim≤s:=aU hs.symm
  refine⟨8,by decide,?_⟩
  show(iG 8 _).outcome=some .failed
  rw[dO,s1]
  rw[dO,s2]
  rw[dO,s3a hs']
  rw[dO,s4]
  rw[dO,s5a hs']
  rw[dO,s6]
  rw[dO,s7b _ hs']
  rfl
 |d+1,s,hs,h,out,a,b,seen=>by
  have hs':s<lim:=hs▸kM (Nat.succ_pos d)
  refine bK (s3b (text:=text) (lim:=lim) (s:=s) (h:=s) (out:=out) (a:=some s) (b:=b) (seen:=(seen.add 17).add 7) hs' hl) fun sn3 e3=>?_
  have e12:iG 3 (st text lim s 5 s h out a b (-1) (-1) [f0 s out] 1 none seen)=(st text lim s 9 s s out (some s) b 0 (-1) [f1 s out,f0 s out] 2 none ((seen.add 17).add 7)).step:=by
   rw[dO,s1]
   rw[dO,s2]
   rfl
  rw[e3]at e12
  have hlim:lim-s=d+1:=by rw[←hs,s8]
  by_cases hd:zG (text.getD s 0)=true
  ·have hn:nE text (lim-s) s≠0:=by
    rw[hlim,oP,if_pos hd];exact Nat.succ_ne_zero _
   rw[if_neg hn]at e12
   refine⟨10,by simp+arith only[],?_⟩
   have:eA text lim (d+1) s=some (s,s+nE text (lim-s) s):=by rw[jU,if_pos hd]
   rw[this]
   show IH (iG (3+7) _) _ _
   rw[kX,e12]
   exact LG
  ·have hn:nE text (lim-s) s=0:=by
    rw[hlim,oP,if_neg hd]
   rw[if_pos hn]at e12
   have e4:iG 4 (st text lim s 5 s h out a b (-1) (-1) [f0 s out] 1 none seen)=st text lim s 23 s s out (some s) b 0 (-1) [f2 s out,f0 s out] 2 none sn3:=by
    rw[show 4=3+1 from rfl,kX,e12]
    rw[dO,s4];rfl
   refine bK (s5b (text:=text) (lim:=lim) (s:=s) (h:=s) (out:=out) (a:=some s) (b:=b) (seen:=sn3) hs') fun sn5 e5=>?_
   have e55:iG 5 (st text lim s 5 s h out a b (-1) (-1) [f0 s out] 1 none seen)=(st text lim s 23 s s out (some s) b 0 (-1) [f2 s out,f0 s out] 2 none sn3).step:=by
    rw[show 5=4+1 from rfl,kX,e4];rfl
   rw[e5]at e55
   by_cases hp:E9 (text.getD s 0)=true
   ·rw[if_pos hp]at e55
    refine⟨11,by simp+arith only[],?_⟩
    have:eA text lim (d+1) s=some (s,s+1):=by rw[jU,if_neg hd,if_pos hp]
    rw[this]
    show IH (iG (5+6) _) _ _
    rw[kX,e55]
    exact LF
   ·rw[if_neg hp]at e55
    refine bG (GU hl d (s+1) ((j9 s d).trans hs) (s+1) false (some s) b sn5) fun N hN hf=>?_
    have:eA text lim (d+1) s=eA text lim d (s+1):=by rw[jU,if_neg hd,if_neg hp]
    refine⟨7+N,aD (cY (by decide:7≤20) hN) (aU (oS 20 _)),?_⟩
    rw[this,show 7+N=5+(2+N)by simp+arith only[],kX,e55]
    have:iG (2+N) (st text lim s 23 s s out (some s) b 0 (-1) [f2 s out,f0 s out] 2 (some false) sn5)=iG N (st text lim (s+1) 5 (s+1) (s+1) false (some s) b (-1) (-1) [f0 (s+1) false] 1 none sn5):=by
     have h2:iG 2 (st text lim s 23 s s out (some s) b 0 (-1) [f2 s out,f0 s out] 2 (some false) sn5)=st text lim (s+1) 5 (s+1) (s+1) false (some s) b (-1) (-1) [f0 (s+1) false] 1 none sn5:=by
      show iG 1 (M.step _)=_
      rw[s6]
      show iG 0 (M.step _)=_
      rw[s7 _ hs']
      rfl
     rw[kX,h2]
    rw[this]
    exact hf
end Re
end
section
open PySem.Sre PySem.Builtin.Re
namespace Re
theorem Jm:∀(turns:Nat) (m:Sre.M) (N:Nat) {Q:Sre.M→aH→Prop},(iG N m).outcome.isSome=true→N+1≤4*turns→Q (iG N m) s→wpAny M' A (reDrive turns m) Q E s
 |0,m,N,Q,h,hN,q=>by
  lia
 |turns+1,m,N,Q,h,hN,q=>by
  unfold reDrive
  have e:m.runFor reTurnSteps=iG 4 m:=u7 4 m
  simp only[e]
  by_cases h4:(iG 4 m).outcome.isSome=true
  ·refine aM (if_pos h4) ?_
   exact aE (by refine aM (DI h4 h) ?_;exact q)
  ·refine aM (if_neg h4) ?_
   have h5:4<N:=by
    rcases eM 4 N with h'|h'
    ·exact h'
    ·exfalso
     refine bK (oD h') fun k hk=>?_
     apply h4
     (refine aM hk ?_;rw[kX,qJ h]);exact h
   (refine bK (oD (bA h5)) fun k e_0=>?_;subst e_0)
   rw[kX]at h q
   exact aB (fT (Jm turns (iG 4 m) k h (Nat.le_of_add_le_add_left (aD hN (aU (oS (4*turns) 4)))) q))
theorem uQ{f:Nat→Bool}{g:Nat→String}{Q:PUnit→aH→Prop}:∀(l:List Nat),Q ⟨⟩ s→wpAny M' A (forIn l PUnit.unit fun i (_:PUnit)=>if f i=true then(do rule (g i);pure (pE PUnit.unit))else pure (pE PUnit.unit)) Q E s
 |[],q=>by refine aM List.forIn_nil ?_;exact aE q
 |i::l,q=>by
  rw[qE]
  refine aB ?_
  by_cases h:f i=true
  ·refine aM (if_pos h) ?_
   exact aB (fT (aE (uQ l q)))
  ·refine aM (if_neg h) ?_
   exact aE (uQ l q)
theorem Bi{m:Sre.M}{N:Nat}{Q:Option Sre.M→aH→Prop}(r:Option (Nat×Nat))(hN:N+1≤4*2^64)(h:Jq (iG N m) r)(q1:∀p e m',r=some (p,e)→IH m' p e→Q (some m') s)(q2:r=none→Q none s):wpAny M' A (reRunToEnd m) Q E s:=by
 refine aB (Jm _ m N ?_ hN ?_)
 ·cases r with
  |none=>have h':(iG N m).outcome=some .failed:=h;refine aM h' ?_;rfl
  |some pe=>have h':IH (iG N m) pe.1 pe.2:=h;refine aM h'.out ?_;rfl
 ·refine aB (uQ _ ?_)
  cases r with
  |none=>
   have h':(iG N m).outcome=some .failed:=h
   refine aM h' ?_
   exact aE (q2 rfl)
  |some pe=>
   have h':IH (iG N m) pe.1 pe.2:=h
   refine aM h'.out ?_
   exact aE (q1 pe.1 pe.2 _ rfl h')
theorem AO{t:ReTarget}{start:Nat}{Q:Option Sre.M→aH→Prop}(hc:t.code=code)(hg:t.groups=1)(hl:t.lim≤1000)(hs:start≤t.lim)
  (q1:∀p e m',eA t.text t.lim (t.lim-start) start=some (p,e)→IH m' p e→Q (some m') s)(q2:eA t.text t.lim (t.lim-start) start=none→Q none s):wpAny M' A (reNextFound t start false) Q E s:=by
 unfold reNextFound
 refine aM hc (aM hg ?_)
 rcases eM start t.lim with h|h
 ·refine bG (GU (text:=t.text) hl (t.lim-start) start (mC hs) start true none none (({}:Sre.Seen).add 14)) fun N hN hf=>?_
  refine Bi (N:=N) (eA t.text t.lim (t.lim-start) start) (aD (jE (aD hN (i6 20 (jE (aD (Nat.sub_le _ _) hl))))) (by decide)) ?_ q1 q2
  have e:Sre.forSearch code t.text 1 start t.lim false=st t.text t.lim start 5 start start true none none (-1) (-1) [f0 start true] 1 none (({}:Sre.Seen).add 14):=by
   refine(?_:(if(decide (start>t.lim)||decide (t.lim-start<1))=true then _ else _)=_)
   refine aM (if_neg (by simp;exact⟨bA h,Nat.sub_ne_zero_of_lt h⟩)) ?_
   rfl
  refine aM e ?_;exact hf
 ·have hz:t.lim-start=0:=Nat.sub_eq_zero_of_le h
  rw[hz]at q1 q2
  refine Bi (N:=1) none (by decide) ?_ (fun p e m' h=>by cases h) fun z=>q2 rfl
  have e:Sre.forSearch code t.text 1 start t.lim false={st t.text t.lim start 5 start start true none none (-1) (-1) [] 0 (some false) (({}:Sre.Seen).add 14)with lastStart:=0}:=by
   refine(?_:(if(decide (start>t.lim)||decide (t.lim-start<1))=true then _ else _)=_)
   refine aM (if_pos (by simp;exact Or.inr (c9 (aU hz) (bX _)))) ?_
   rfl
  refine aM e ?_
  rfl
end Re
end
namespace Re
theorem KT:PlainAttrs "re.Pattern":=
 ⟨⟨"object.__getattribute__",by rw[gR,dX];kernel_rfl,by rw[eP];decide+kernel⟩,by rw[gR,dX];kernel_rfl⟩
theorem Gg:Manifest.owners.lookup (String.ofList ['n','r','e','t','t','a','P','.','e','r'].reverse)=some Manifest.sig_re_Pattern:=by kernel_rfl
theorem KE:Slot "re.Pattern" "split" "re.Pattern.split":=
 .of (owner:="re.Pattern") (n:="split") (by rw[gR,dX];kernel_rfl) (by decide+kernel) (by decide+kernel) (by decide+kernel)
  (by first|exact .inl (by decide+kernel)|exact .inr (by decide+kernel)) (by rw[iY];kernel_rfl)
theorem Jz:typeOf (.builtin "re.Pattern.split")=pure (.type "method_descriptor"):=by refine(?_:builtinType _=_);refine aM n9 ?_;kernel_rfl
theorem Jk:entryFor table "re.Pattern.split"=some Builtin.«re.Pattern.split»:=gZ (by kernel_rfl)
theorem Ko(a b:aG):argsOk "re.Pattern.split" ⟨[a,b],[]⟩:=by
 unfold argsOk;rw[signature?_of (id:="re.Pattern.split") (n:=['t','i','l','p','s']) (o:=['n','r','e','t','t','a','P','.','e','r']) (by kernel_rfl) Gg];kernel_rfl
end Re
section
open PySem.Sre PySem.Builtin.Re
namespace Re
theorem KZ(v:aG):reNamed "re.Pattern.split" "split" ["string","maxsplit"] 1 [v] []=pure [some v,none]:=by rfl
theorem whole{prog:fL}{w:cN}{A:jK}{s:aH}{Q:ReTarget→aH→Prop}{E:aG→aH→Prop}{P C:Addr}{x:Str}{t:Tok}{pv fl v3 v4:aG}{cd:Array aG}{n:Nat}(hcd:(cd.map reRawOf).map (·.toNat)=code)
  (hP:s.heap.get? P=some {cls:=.type "re.Pattern",data:=.fields #[pv,fl,.int 1 0,v3,v4,.ref C,.int 0 0]})(hC:s.heap.get? C=some {cls:=.type "tuple",data:=.seq cd n})
  (q:Q {pattern:=.ref P,string:=.str x t,code:=code,text:=x.cps,kind:=0,groups:=1,pos:=0,lim:=x.cps.size} s):wpAny (model prog w) A (reWholeTarget (.ref P) (.str x t)) Q E s:=by
 obtain⟨hp,g,d,tk,os⟩:=s
 wp_walk using PySem.AutoSeq1.wpAny_loadPart' hP,PySem.AutoSeq1.wpAny_loadPart' hC
 refine(?_:Q {pattern:=.ref P,string:=.str x t,code:=(cd.map reRawOf).map (·.toNat),text:=x.cps,kind:=0,groups:=1,pos:=0,lim:=x.cps.size} _)
 refine aM hcd ?_
 exact q
theorem Eh(text:Array Nat):∀n p,nE text n p≤n
 |0,_=>bO _
 |n+1,p=>by
  rw[oP]
  split
  ·have:=Eh text n (p+1);exact Nat.lt_succ_of_le (by assumption)
  ·exact bX _
theorem o9{text:Array Nat}{lim:Nat}:∀(d s p e:Nat),s+d=lim→eA text lim d s=some (p,e)→s≤p∧p<e∧e≤lim
 |0,s,p,e,hs,h=>by cases h
 |d+1,s,p,e,hs,h=>by
  rw[jU]at h
  split at h
  ·rename_i hd
   simp at h
   (refine gE h fun e_0=>?_;subst e_0;refine fun e_0=>?_;subst e_0)
   have h1:=Eh text (lim-s) s
   have h2:nE text (lim-s) s≠0:=by
    rw[show lim-s=d+1 by exact by(refine gU hs ?_;rw[s8])];(rewrite[oP];refine aM (if_pos (hd)) ?_);exact jA (aO (by decide) (Nat.le_add_left _ _))
   exact⟨bO _,kM (Nat.pos_of_ne_zero h2),aD (gF h1 s) (aU (mC (hs▸bN _ _)))⟩
  ·split at h
   ·simp at h
    (refine gE h fun e_0=>?_;subst e_0;refine fun e_0=>?_;subst e_0)
    exact⟨bO _,cI _,hs▸gF (jE (bX d)) s⟩
   ·have:=o9 d (s+1) p e ((j9 s d).trans hs) h
    exact⟨aD (bN _ _) this.1,⟨this.2.1,this.2.2⟩⟩
noncomputable def jS(text:Array Nat)(lim:Nat):Nat→Nat→List Str×Nat
 |0,start=>([],start)
 |f+1,start=>match eA text lim (lim-start) start with
  |none=>([],start)
  |some (p,e)=>(⟨text.extract start p⟩::⟨text.extract p e⟩::(jS text lim f e).1,(jS text lim f e).2)
noncomputable abbrev LS:=Array aG×Nat×Nat×Bool×Int×Bool
theorem rE{text:Array Nat}{lim f start:Nat}(hf:eA text lim (lim-start) start=none):jS text lim (f+1) start=([],start):=by
 refine(?_:(match eA text lim (lim-start) start with|none=>_|some (p,e)=>_)=_)
 exact aM hf rfl
theorem rD{text:Array Nat}{lim f start p e:Nat}(hf:eA text lim (lim-start) start=some (p,e)):jS text lim (f+1) start=(⟨text.extract start p⟩::⟨text.extract p e⟩::(jS text lim f e).1,(jS text lim f e).2):=by
 refine(?_:(match eA text lim (lim-start) start with|none=>_|some (p,e)=>_)=_)
 exact aM hf rfl
theorem LZ{text:Array Nat}{lim:Nat}{body:Nat→LS→Sem (ForInStep LS)}
  (h1:∀x st (s:aH) (Q:ForInStep LS→aH→Prop) (E:aG→aH→Prop),st.2.2.2.2.2=true→Q (.yield st) s→wpAny M' A (body x st) Q E s)
  (h2:∀x out start n (s:aH) (Q:ForInStep LS→aH→Prop) (E:aG→aH→Prop),eA text lim (lim-start) start=none→start≤lim→Q (.yield (out,start,start,false,n,true)) s→wpAny M' A (body x (out,start,start,false,n,false)) Q E s)
  (h3:∀x out start n p e (s:aH) (Q:ForInStep LS→aH→Prop) (E:aG→aH→Prop),eA text lim (lim-start) start=some (p,e)→start≤lim→(∀t1 t2 k,Q (.yield ((out.push (.str ⟨text.extract start p⟩ t1)).push (.str ⟨text.extract p e⟩ t2),e,e,false,n+1,false)) {s with toks:=k})→wpAny M' A (body x (out,start,start,false,n,false)) Q E s):
  ∀(l:List Nat) (start:Nat) (acc:List (Str×Tok)) (n:Int) (s:aH) (Q:LS→aH→Prop) (E:aG→aH→Prop),lim-start+1≤l.length→start≤lim→
   (∀acc' st k,st.1=(strValues acc').toArray→acc'.map (·.1)=acc.map (·.1)++(jS text lim l.length start).1→st.2.2.1=(jS text lim l.length start).2→st.2.2.2.2.2=true→Q st {s with toks:=k})→
   wpAny M' A (forIn l (((strValues acc).toArray,start,start,false,n,false):LS) body) Q E s:=by
 have pass:∀(l:List Nat) (st:LS) (s:aH) (Q:LS→aH→Prop) (E:aG→aH→Prop),st.2.2.2.2.2=true→Q st s→wpAny M' A (forIn l st body) Q E s:=by
  intro l
  induction l with
  |nil=>intro st s Q E _ q;refine aM List.forIn_nil ?_;exact aE q
  |cons x l ih=>
   intro st s Q E h q
   rw[qE]
   exact aB (h1 x st s _ _ h (ih st s Q E h q))
 intro l
 induction l with
 |nil=>intro start acc n s Q E hl _ _;simp at hl
 |cons x l ih=>
  intro start acc n s Q E hl hs q
  rw[qE]
  cases hf:eA text lim (lim-start) start with
  |none=>
   refine aB (h2 x _ start n s _ _ hf hs (pass l _ s Q E rfl ?_))
   refine q acc _ s.toks rfl ?_ ?_ rfl
   ·refine aM d6 (aM (rE hf) ?_);exact(fC _).symm
   ·exact aM d6 (aM (rE hf) rfl)
  |some pe=>
   obtain⟨p,e⟩:=pe
   refine jM (o9 _ _ _ _ (mC hs) hf) fun a1 a2 a3=>?_
   refine aB (h3 x _ start n p e s _ _ hf hs fun t1 t2 k=>?_)
   have e1:((strValues acc).toArray.push (.str ⟨text.extract start p⟩ t1)).push (.str ⟨text.extract p e⟩ t2)=(strValues (acc++[(⟨text.extract start p⟩,t1),(⟨text.extract p e⟩,t2)])).toArray:=by
    simp[strValues]
   refine aM e1 ?_
   refine ih e _ (n+1) {s with toks:=k} Q E (by simp at hl;omega) a3 fun acc' st k' g1 g2 g3 g4=>?_
   refine q acc' st k' g1 ?_ ?_ g4
   ·refine aM g2 (aM d6 (aM (rD hf) ?_));simp
   ·exact aM g3 (aM d6 (aM (rD hf) rfl))
noncomputable def kI(x:Str):List Str:=(jS x.cps x.cps.size (2*x.cps.size+3) 0).1++[⟨x.cps.extract (jS x.cps x.cps.size (2*x.cps.size+3) 0).2 x.cps.size⟩]
theorem DL{M':Model}{A:jK}{s:aH}{Q:aG→aH→Prop}{E:aG→aH→Prop}{text:Array Nat}{b e:Nat}(hl:text.size≤1000)(q:Q (.str ⟨text.extract b e⟩ s.toks) {s with toks:=s.toks+1}):wpAny M' A (reSlice text 0 b e) Q E s:=by
 refine wpAny_mkStr q (fX ?_)
 refine(?_:(text.extract b e).size≤_)
 refine aM Array.size_extract ?_;omega
theorem J9(P C:Addr)(x:Str)(t:Tok)(pv fl v3 v4:aG)(cd:Array aG)(n:Nat)(hcd:(cd.map reRawOf).map (·.toNat)=code)(hx:x.cps.size≤1000):
  Meets (Builtin.«re.Pattern.split» ⟨[.ref P,.str x t],[]⟩)
   (fun A R s=>s.heap.get? P=some {cls:=.type "re.Pattern",data:=.fields #[pv,fl,.int 1 0,v3,v4,.ref C,.int 0 0]}∧s.heap.get? C=some {cls:=.type "tuple",data:=.seq cd n}∧
    (∀l k,l.map (·.1)=kI x→l.length≤100000→R (.ok (.ret (.ref s.heap.objs.size))) {s with heap:=s.heap.push {cls:=.type "list",data:=.seq (strValues l).toArray},toks:=k})):=by
 intro prog w A R s ⟨hP,hC,q⟩
 refine(?_:wpAny _ _ (reNamed "re.Pattern.split" "split" ["string","maxsplit"] 1 [.str x t] []>>=_) _ _ _)
 rw[KZ]
 refine aB (aE ?_)
 refine aB (aE ?_)
 refine aB (whole hcd hP hC ?_)
 have hbd:∀f start,start≤x.cps.size→(jS x.cps x.cps.size f start).1.length≤2*f∧(jS x.cps x.cps.size f start).2≤x.cps.size:=by
  intro f
  induction f with
  |zero=>intro start h;exact⟨bO _,h⟩
  |succ f ih=>
   intro start h
   cases hf:eA x.cps x.cps.size (x.cps.size-start) start with
   |none=>refine aM (rE hf) ?_;exact⟨bX _,h⟩
   |some pe=>
    obtain⟨p,e⟩:=pe
    refine jM (o9 _ _ _ _ (mC h) hf) fun a1 a2 a3=>?_
    have:=ih e a3
    refine aM (rD hf) ?_
    exact⟨jE (jE this.1),this.2⟩
 refine aB (LZ (text:=x.cps) (lim:=x.cps.size) ?_ ?_ ?_ (bI (reMostMatches _)) 0 [] 0 s _ _ ?_ (bX _) ?_)
 ·rintro i ⟨out,start,last,must,n,over⟩ s' Q E rfl q'
  exact aE q'
 ·intro i out start n s' Q E hf hs q'
  dsimp only
  refine aM (if_pos (by rfl)) ?_
  refine aB ?_
  refine aM (if_neg (by simp)) ?_
  exact AO rfl rfl hx hs (fun p e m' h=>by replace h:=hf▸h;nomatch h) fun z=>aE q'
 ·intro i out start n p e s' Q E hf hs q'
  refine jM (o9 _ _ _ _ (by lia) hf) fun a1 a2 a3=>?_
  dsimp only
  refine aM (if_pos (by rfl)) ?_
  refine aB ?_
  refine aM (if_neg (by simp)) ?_
  refine AO rfl rfl hx hs (fun p' e' m' h fm=>?_) fun h=>by replace h:=hf▸h;nomatch h
  replace h:=hf▸h;cases h
  refine aB (DL hx ?_)
  refine aM fm.start ?_
  refine aB ?_
  refine(?_:wpAny _ _ (forIn [0] _ _) _ _ _)
  rw[qE]
  refine aB ?_
  have hg:∀(T:ReTarget),T.text=x.cps→T.kind=0→reMachineGroup T m' (0+1) (pure .none)=reSlice x.cps 0 p e:=by
   intro T h1 h2
   unfold reMachineGroup
   refine aM fm.lm (aM fm.marks (aM h1 (aM h2 ?_)))
   refine(?_:(if((0:Nat):Int)≥1 then _ else if e<p then _ else _)=_)
   exact aM (if_neg (by decide)) (aM (if_neg (Nat.not_lt.mpr (bA a2))) rfl)
  refine aM (hg _ rfl rfl) ?_
  refine aB (DL hx ?_)
  refine aE ?_
  refine(?_:wpAny _ _ (forIn [] _ _) _ _ _)
  refine aM List.forIn_nil ?_
  refine aE (aE ?_)
  refine aM fm.handed ?_
  have hm:(e==p)=false:=by rw[beq_eq_false_iff_ne];exact jA a2
  refine aM hm ?_
  exact q' s'.toks (s'.toks+1) (s'.toks+1+1)
 ·refine(?_:x.cps.size-0+1≤(bI (2*x.cps.size+3)).length)
  refine aM j0 ?_;exact jE (aD (Nat.le_mul_of_pos_left _ (by decide)) (bN _ _))
 ·intro acc' st k g1 g2 g3 g4
  have hlen:(bI (reMostMatches {pattern:=.ref P,string:=.str x t,code:=code,text:=x.cps,kind:=0,groups:=1,pos:=0,lim:=x.cps.size})).length=2*x.cps.size+3:=by
   refine aM j0 ?_;rfl
  rw[hlen]at g2 g3
  obtain⟨out,start,last,must,n',over⟩:=st
  simp only at g1 g2 g3 g4
  subst g1 g3 g4
  refine aM (if_neg (by simp)) ?_
  refine aB (DL hx ?_)
  have hb:=hbd (2*x.cps.size+3) 0 (bX _)
  have hl2:acc'.length=(jS x.cps x.cps.size (2*x.cps.size+3) 0).1.length:=by
   have:=congrArg List.length g2;simpa using this
  have e1:((strValues acc').toArray.push (.str ⟨x.cps.extract (jS x.cps x.cps.size (2*x.cps.size+3) 0).2 x.cps.size⟩ k)).toList=strValues (acc'++[(⟨x.cps.extract (jS x.cps x.cps.size (2*x.cps.size+3) 0).2 x.cps.size⟩,k)]):=by simp[strValues]
  refine aB (mO ?_ ?_)
  ·refine aM e1 ?_
   exact aE (q _ (k+1) (by simp[kI,g2]) (by simp;exact aD (hl2▸hb.1) (aD (i6 2 (mW (i6 2 hx) 3)) (by decide))))
  ·refine aM e1 ?_
   refine fX ?_
   simp[strValues];exact aD (hl2▸hb.1) (aD (i6 2 (mW (i6 2 hx) 3)) (by decide))
end Re
end
namespace Re
theorem Bg(k:Nat)(hk:k≠0):∀(g:List Nat),(∀c∈g,kd c=k)→∀(rs:List (List Nat)) (r:List Nat),g.foldl jG (rs++[r],k)=(rs++[r++g],k)
 |[],_,rs,r=>by simp
 |c::g,h,rs,r=>by
  have hc:=h c (aF)
  have e:jG (rs++[r],k) c=(rs++[r++[c]],k):=by
   unfold jG
   refine aM (if_pos ⟨by rw[hc];exact hk,hc⟩) (aM hc ?_)
   unfold sP
   simp
  (refine aM qF ?_;rw[e,Bg k hk g (fun d hd=>h d (by simp[hd]))])
  simp
theorem EU{k:Nat}(hk:k≠0){g:List Nat}(hne:g≠[])(h:∀c∈g,kd c=k){rs:List (List Nat)}{last:Nat}(hl:last≠k):g.foldl jG (rs,last)=(rs++[g],k):=by
 cases g with
 |nil=>exact absurd rfl hne
 |cons c g=>
  have hc:=h c (aF)
  have e:jG (rs,last) c=(rs++[[c]],k):=by
   unfold jG
   exact aM (if_neg (by rw[hc];exact fun h=>hl h.2.symm)) (aM (if_pos (by rw[hc];exact hk)) (aM hc rfl))
  (refine aM qF ?_;rw[e,Bg k hk g fun d hd=>h d (by simp[hd])])
  trivial
theorem A0(text:Array Nat):∀n p,(∀i,p≤i→i<p+nE text n p→zG (text.getD i 0)=true)∧(nE text n p<n→zG (text.getD (p+nE text n p) 0)=false)
 |0,p=>⟨fun i h1 h2=>absurd h1 (Nat.not_le.mpr h2),fun h=>absurd h (Nat.lt_irrefl 0)⟩
 |n+1,p=>by
  refine gE (A0 text n (p+1)) fun a b=>?_
  cases hd:zG (text.getD p 0)with
  |false=>
   have e0:nE text (n+1) p=0:=by(rewrite[oP];refine aM hd ?_);rfl
   refine aM e0 ?_
   exact⟨fun i h1 h2=>absurd h1 (Nat.not_le.mpr h2),fun z=>hd⟩
  |true=>
   have e0:nE text (n+1) p=nE text n (p+1)+1:=by
    refine(?_:(if zG (text.getD p 0)=true then _ else _)=_)
    refine aM hd ?_;rfl
   refine aM e0 ?_
   refine⟨fun i h1 h2=>?_,fun h=>?_⟩
   ·by_cases hi:i=p
    ·refine aM hi ?_;exact hd
    ·exact a i (oA h1 (eH hi)) (by rw[Nat.add_right_comm];exact h2)
   ·refine aM (show p+(nE text n (p+1)+1)=p+1+nE text n (p+1)by simp+arith only[]) ?_
    exact b (aO (cI _) (cG h))
theorem uH{text:Array Nat}{lim:Nat}:∀(d s:Nat),s+d=lim→match eA text lim d s with
  |none=>∀i,s≤i→i<lim→zG (text.getD i 0)=false∧E9 (text.getD i 0)=false
  |some (p,e)=>(∀i,s≤i→i<p→zG (text.getD i 0)=false∧E9 (text.getD i 0)=false)∧
    ((zG (text.getD p 0)=true∧(∀i,p≤i→i<e→zG (text.getD i 0)=true)∧(e<lim→zG (text.getD e 0)=false))∨(E9 (text.getD p 0)=true∧zG (text.getD p 0)=false∧e=p+1))
 |0,s,hs=>by
  show∀i,_
  intro i h1 h2;exact absurd h1 (Nat.not_le.mpr (Nat.lt_of_lt_of_eq h2 hs.symm))
 |d+1,s,hs=>by
  cases hd:zG (text.getD s 0)with
  |true=>
   have e:eA text lim (d+1) s=some (s,s+nE text (lim-s) s):=by rw[jU,if_pos hd]
   refine aM e ?_
   refine gE (A0 text (lim-s) s) fun a b=>?_
   exact⟨fun i h1 h2=>absurd h1 (Nat.not_le.mpr h2),.inl ⟨hd,a,fun h=>b (Nat.lt_sub_iff_add_lt'.mpr h)⟩⟩
  |false=>
   cases hp:E9 (text.getD s 0)with
   |true=>
    have e:eA text lim (d+1) s=some (s,s+1):=by rw[jU,if_neg (by rw[hd];decide),if_pos hp]
    refine aM e ?_
    exact⟨fun i h1 h2=>absurd h1 (Nat.not_le.mpr h2),.inr ⟨hp,hd,rfl⟩⟩
   |false=>
    have e:eA text lim (d+1) s=eA text lim d (s+1):=by rw[jU,if_neg (by rw[hd];decide),if_neg (by refine aM hp ?_;decide)]
    refine aM e ?_
    have ih:=uH (text:=text) (lim:=lim) d (s+1) ((j9 s d).trans hs)
    cases hf:eA text lim d (s+1)with
    |none=>
     rw[hf]at ih
     intro i h1 h2
     by_cases hi:i=s
     ·refine aM hi ?_;exact⟨hd,hp⟩
     ·exact ih i (oA h1 (eH hi)) h2
    |some pe=>
     obtain⟨p,e⟩:=pe
     replace ih:=hf▸ih
     refine⟨fun i h1 h2=>?_,ih.2⟩
     by_cases hi:i=s
     ·refine aM hi ?_;exact⟨hd,hp⟩
     ·exact ih.1 i (oA h1 (eH hi)) h2
noncomputable def rH(v:Str):Bool:=!Txt.contains (aA "._+-") v
theorem Df:rH ⟨#[]⟩=false:=by decide+kernel
theorem HH{c:Nat}(h:c<128):rH ⟨#[c]⟩=(kd c !=0):=by unfold rH;refine aM (u5 c h) ?_;rfl
theorem C0{v:Str}{c:Nat}{r:List Nat}(hv:v.cps.toList=c::r)(hc:c<128)(hk:kd c≠0):rH v=true:=by
 unfold rH
 rw[Bool.not_eq_true']
 cases h:Txt.contains (aA "._+-") v with
 |false=>rfl
 |true=>
  exfalso
  unfold Txt.contains at h
  rw[PySem.StrLaws.found_iff]at h
  refine bG h fun i hi hs=>?_
  unfold Builtin.Str.subAt at hs
  rw[beq_iff_eq]at hs
  have h1:=congrArg Array.toList hs
  rw[hv]at h1
  have hin:c∈(aA "._+-").cps.toList:=by
   have:c∈((aA "._+-").cps.extract i (i+v.length)).toList:=by refine aM h1 ?_;exact aF
   rw[Array.toList_extract]at this
   exact List.mem_of_mem_drop (eW this)
  have hall:∀c∈(aA "._+-").cps.toList,kd c=0:=by decide+kernel
  exact hk (hall c hin)
theorem AU(text:Array Nat)(i:Nat):text.getD i 0=text.toList.getD i 0:=by simp[Array.getD_eq_getD_getElem?]
noncomputable def xA(text:Array Nat)(a b:Nat):List Nat:=(text.toList.drop a).take (b-a)
theorem nO(text:Array Nat)(a b:Nat):(text.extract a b).toList=xA text a b:=by
 exact aM Array.toList_extract rfl
theorem u6{text:Array Nat}{a b:Nat}{c:Nat}(h:c∈xA text a b)(hb:b≤text.size):∃i,a≤i∧i<b∧text.getD i 0=c:=by
 unfold xA at h
 refine bK (List.mem_iff_getElem?.mp h) fun i hi=>?_
 have h1:i<b-a:=by
  rcases eM i (b-a)with h'|h'
  ·exact h'
  ·rw[List.getElem?_take,if_neg (Nat.not_lt.mpr (by assumption))]at hi;nomatch hi
 rw[List.getElem?_take,if_pos h1,List.getElem?_drop]at hi
 refine⟨a+i,bN _ _,by omega,?_⟩
 rw[AU,List.getD_eq_getElem?_getD,hi];rfl
theorem ET{text:Array Nat}{a b:Nat}(hb:b≤text.size):(xA text a b).length=b-a:=by
 refine aM f8 (aM List.length_drop (aM bM ?_));exact jX (Nat.sub_le_sub_right hb _)
theorem vW{text:Array Nat}{a b:Nat}(h:a≤b):text.toList.drop a=xA text a b++text.toList.drop b:=by
 unfold xA
 conv=>lhs;rw[←List.take_append_drop (b-a) (text.toList.drop a)]
 refine aM List.drop_drop ?_
 congr 2
 omega
theorem Be{text:Array Nat}(ha:∀c∈text.toList,c<128):∀(f start:Nat),text.size-start+1≤f→start≤text.size→∀(rs:List (List Nat)) (last:Nat),last≠2→(start<text.size→kd (text.getD start 0)=1→last≠1)→
  ((text.toList.drop start).foldl jG (rs,last)).1=rs++(((jS text text.size f start).1++[(⟨text.extract (jS text text.size f start).2 text.size⟩:Str)]).filter rH).map (fun(v:Str)=>v.cps.toList):=by
 have h128:∀i,i<text.size→text.getD i 0<128:=fun i hi=>by
  refine ha _ ?_
  rw[AU,List.getD_eq_getElem?_getD,bC (hi)]
  simp
 have two:∀i,i<text.size→zG (text.getD i 0)=false→E9 (text.getD i 0)=false→kd (text.getD i 0)=2:=fun i hi h1 h2=>by
  rw[BF _ (h128 i hi),beq_eq_false_iff_ne]at h1
  rw[HN _ (h128 i hi),beq_eq_false_iff_ne]at h2
  exact eq2 _ (C1 (text.getD i 0)) h1 h2
 have pre:∀(a b:Nat) (rs:List (List Nat)) (last:Nat),a≤b→b≤text.size→(∀i,a≤i→i<b→zG (text.getD i 0)=false∧E9 (text.getD i 0)=false)→last≠2→
   ((xA text a b).foldl jG (rs,last))=(rs++([(⟨text.extract a b⟩:Str)].filter rH).map (fun(v:Str)=>v.cps.toList),if a=b then last else 2):=by
  intro a b rs last hab hb hk hl
  by_cases he:a=b
  ·subst he
   have e1:xA text a a=[]:=by unfold xA;simp
   have e2:(⟨text.extract a a⟩:Str)=⟨#[]⟩:=by
    have:(text.extract a a)=#[]:=by
     apply Array.ext'
     rw[nO,e1]
    exact aM this rfl
   refine aM e1 (aM e2 ?_)
   simp[mS,Df]
  ·have hlen:=ET (a:=a) hb
   have hne:xA text a b≠[]:=fun h=>by rw[h]at hlen;exact absurd hlen.symm (Nat.sub_ne_zero_of_lt (oA hab he))
   have hall:∀c∈xA text a b,kd c=2:=fun c hc=>by
    (refine nY (u6 hc hb) fun i h1 h2 e_0=>?_;subst e_0)
    exact two i (by with_reducible exact aO (by assumption) (by assumption)) (hk i h1 h2).1 (hk i h1 h2).2
   refine aM (EU (by decide) hne hall hl) (aM (if_neg he) ?_)
   have hkp:rH ⟨text.extract a b⟩=true:=by
    cases hs:xA text a b with
    |nil=>exact absurd hs hne
    |cons c r=>
     have hc:c∈xA text a b:=by refine aM hs ?_;simp
     refine nY (u6 hc hb) fun i h1 h2 h3=>?_
     exact C0 (v:=⟨text.extract a b⟩) (c:=c) (r:=r) (by rw[nO,hs]) (by refine gU h3 ?_;exact h128 i (by with_reducible exact aO (by assumption) (by assumption))) (by refine aM (hall c hc) ?_;decide)
   simp only[mS,hkp,bT,lA]
   rw[nO]
 intro f
 induction f with
 |zero=>intro start h;exact absurd h (Nat.not_succ_le_zero _)
 |succ f ih=>
  intro start hf hs rs last hl2 hl1
  have hch:=uH (text:=text) (lim:=text.size) (text.size-start) start (mC hs)
  cases ht:eA text text.size (text.size-start) start with
  |none=>
   rw[ht]at hch
   have e1:(jS text text.size (f+1) start)=([],start):=rE ht
   refine aM e1 ?_
   have e2:text.toList.drop start=xA text start text.size:=by
    refine aM (vW (b:=text.size) hs) ?_
    have:text.toList.drop text.size=[]:=by refine gU bM ?_;simp
    (refine aM this ?_;rw[fC])
   refine aM e2 (aM (pre start text.size rs last hs (bO _) hch hl2) ?_)
   trivial
  |some pe=>
   obtain⟨p,e⟩:=pe
   replace hch:=ht▸hch
   refine jM (o9 _ _ _ _ (mC hs) ht) fun a1 a2 a3=>?_
   have e1:jS text text.size (f+1) start=(⟨text.extract start p⟩::⟨text.extract p e⟩::(jS text text.size f e).1,(jS text text.size f e).2):=by
    exact aM (rD ht) rfl
   refine aM e1 ?_
   have e2:text.toList.drop start=xA text start p++(xA text p e++text.toList.drop e):=by
    exact aM (vW (b:=p) a1) (aM (vW (b:=e) (bA a2)) rfl)
   refine aM e2 (aM l7 (aM l7 (aM (pre start p rs last a1 (bA (aO a2 a3)) hch.1 hl2) ?_)))
   have hpe:=ET (text:=text) (a:=p) a3
   generalize hrs:rs++([(⟨text.extract start p⟩:Str)].filter rH).map (fun(v:Str)=>v.cps.toList)=rs1
   have tok:(xA text p e).foldl jG (rs1,if start=p then last else 2)=(rs1++([(⟨text.extract p e⟩:Str)].filter rH).map (fun(v:Str)=>v.cps.toList),kd (text.getD p 0))∧kd (text.getD p 0)≠2∧(e<text.size→kd (text.getD e 0)=1→kd (text.getD p 0)≠1):=by
    rcases hch.2 with ⟨hd,hall,hend⟩|⟨hp,hd,he⟩
    ·have hk1:kd (text.getD p 0)=1:=by
      rw[BF _ (h128 p (by with_reducible exact aO (by assumption) (by assumption)))]at hd;with_reducible exact beq_iff_eq.mp hd
     have hne:xA text p e≠[]:=fun h=>by rw[h]at hpe;exact absurd hpe.symm (Nat.sub_ne_zero_of_lt a2)
     have hall':∀c∈xA text p e,kd c=1:=fun c hc=>by
      (refine nY (u6 hc a3) fun i h1 h2 e_0=>?_;subst e_0)
      have:=hall i h1 h2
      rw[BF _ (h128 i (by with_reducible exact aO (by assumption) (by assumption)))]at this;with_reducible exact beq_iff_eq.mp this
     have hlast:(if start=p then last else 2)≠1:=by
      split
      ·rename_i h
       exact hl1 (aO (aR a1 a2) a3) (by refine aM h ?_;exact hk1)
      ·decide
     refine⟨?_,by refine aM hk1 ?_;decide,fun h1 h2=>?_⟩
     ·refine aM (EU (by decide) hne hall' hlast) (aM hk1 ?_)
      have hkp:rH ⟨text.extract p e⟩=true:=by
       cases hs:xA text p e with
       |nil=>exact absurd hs hne
       |cons c r=>
        have hc:c∈xA text p e:=by refine aM hs ?_;simp
        refine nY (u6 hc a3) fun i h1 h2 h3=>?_
        exact C0 (v:=⟨text.extract p e⟩) (c:=c) (r:=r) (by rw[nO,hs]) (by refine gU h3 ?_;exact h128 i (by with_reducible exact aO (by assumption) (by assumption))) (by refine aM (hall' c hc) ?_;decide)
      simp only[mS,hkp,bT,lA]
      rw[nO]
     ·have:=hend h1
      rw[BF _ (h128 e h1),beq_eq_false_iff_ne]at this
      exact absurd h2 this
    ·have hk0:kd (text.getD p 0)=0:=by
      rw[HN _ (h128 p (by with_reducible exact aO (by assumption) (by assumption)))]at hp;with_reducible exact beq_iff_eq.mp hp
     subst he
     have hs1:xA text p (p+1)=[text.getD p 0]:=by
      cases hs:xA text p (p+1)with
      |nil=>rw[hs]at hpe;simp at hpe
      |cons c r=>
       rw[hs]at hpe
       simp at hpe
       subst hpe
       have hc:c∈xA text p (p+1):=by refine aM hs ?_;exact aF
       refine nY (u6 hc a3) fun i h1 h2 h3=>?_
       have:i=p:=c9 (cG h2) h1
       exact gU h3 (aM this rfl)
     refine⟨?_,by refine aM hk0 ?_;decide,fun z z=>by refine aM hk0 ?_;decide⟩
     refine aM hs1 ?_
     have hx:(⟨text.extract p (p+1)⟩:Str)=⟨#[text.getD p 0]⟩:=by
      congr 1
      apply Array.ext'
      rw[nO,hs1]
     refine aM hx ?_
     have hkp:=HH (h128 p (by with_reducible exact aO (by assumption) (by assumption)))
     simp only[mS,hkp]
     refine(?_:jG _ _=_)
     unfold jG
     refine aM hk0 ?_
     simp
   refine aM tok.1 (aM (ih e (IR hf (aR a1 a2) a3) a3 _ _ tok.2.1 tok.2.2) (gU hrs ?_))
   simp only[mZ,mY,List.filter_nil]
   cases rH ⟨text.extract start p⟩<;>cases rH ⟨text.extract p e⟩<;>simp
theorem Ja{x:Str}(ha:∀c∈x.cps.toList,c<128):((kI x).filter rH).map (fun(v:Str)=>v.cps.toList)=(i0 x.cps.toList).1:=by
 have:=Be (text:=x.cps) ha (2*x.cps.size+3) 0 (by lia) (bX _) [] 0 (by decide) (fun z z=>by decide)
 exact this.symm
end Re
theorem rW.tail{L:Addr}{h:Heap}(t:rW (L::V) h)(h2:2∈V):rW V h:=⟨t.lim,h2,fun a ha=>t.al a (aC _ ha)⟩
theorem F7{L:Addr}{u s':aH}(k:Keeps (L::V) u s')(n:u.heap.get? L=none)(t:rW V s'.heap):Keeps V u s':=by
 obtain⟨h',tk,rfl,k⟩:=k
 exact⟨h',tk,rfl,fun b o hb e=>k.old b o (fun q=>(nR q).elim (fun q=>by rw[q,n]at e;nomatch e) hb) e,fun z=>t,fun M hM h2 m x=>k.ns M (aC _ hM) h2 m x,fun m o e=>k.o2 (aC _ m) o e⟩
theorem xI{V X V' X':List Addr}{h:Heap}(i:∀a,a∈V'++X'→a∈V++X):∀b o,(hideAll h (V++X)).get? b=some o→(hideAll h (V'++X')).get? b=some o:=
 fun b o e=>b5 _ (a6 _ e) fun q=>bZ e (i b q)
theorem Is.toV{V X V' X':List Addr}{h:Heap}{v:aG}{d:aY}(x:Is V X h v d)(i:∀a,a∈V'++X'→a∈V++X):Is V' X' h v d:=let⟨as,r⟩:=x;⟨as,Reads.keeps (xI i) r⟩
theorem KW.toV{V X V' X':List Addr}{K:Frag}{mg mb:Str→Option aG}{h:Heap}(x:KW V K mg mb X h)(i:∀a,a∈V'++X'→a∈V++X):KW V' K mg mb X' h:=
 ⟨x.k.keeps (xI i),x.g.keeps (xI i),x.b.keeps (xI i),x.bi⟩
section
variable {R:iR→aH→Prop}
theorem JV{body:List Stmt}{env:Env}
  (h:WC prog w (A.deeper env) (execs body env) (fun f s'=>R (.ok (.ret (match f with| .ret v=>v|_=>.none))) s') (fun z z=>False) s):CC prog w A (.func body env) R s:=by
 refine .tree ?_
 refine .seq (nI (.bind (.onRaise (h.mono (fun f s' h'=>?_) fun z z h'=>h'.elim))))
 cases f<;>exact .pure h'
theorem y7{id:String}{args:Args}{b:Builtin}(hb:entryFor table id=some b)
  (h:WC prog w (A.under (.builtin id args)) (b args) (fun fin s'=>match fin with| .done f=>R (.ok f) s'| .again c'=>c'.quiet=true∧CC prog w A c' R s') (fun e s'=>R (.error e) s') s):CC prog w A (.builtin id args) R s:=by
 refine .tree ?_
 refine(?_:WC prog w _ (match entryFor table id with|some b=>b args|none=>unsupported ((withoutEnding? id "#data").getD id)) _ _ s)
 refine aM hb ?_;exact h
theorem pL{id:String}{args:Args}{b:Builtin}(hq:plainId id=true)(hb:entryFor table id=some b)
  (h:wpAny (model prog w) A.in1 (checkBuiltinCall id args) (fun z s₁=>WC prog w A.in1 (b args)
   (fun fin s'=>match fin with| .done f=>R (.ok f) s'| .again c'=>c'.quiet=true∧CC prog w A c' R s') (fun e s'=>R (.error e) s') s₁)
   (fun e s'=>R (.error e) s') s):CC prog w A (.call (.builtin id) args) R s:=by
 refine .tree ?_
 refine .seq (bD h (fun z s₁ h₁=>.pure (m7 (jL hq args) (y7 hb ?_))) fun z z h'=>h')
 refine aM (d7 hq args) ?_;exact h₁
theorem z8{a:Addr}{o:Obj}{fd:FuncData}{body:List Stmt}{vals:List aG}{binds:List (Str×aG)}
  (hroom:A.depth<recursionLimit)(ho:s.heap.get? a=some o)(hdata:o.data= .func fd)(hlim:s.heap.NoLimit)(hcd:s.heap.CodeRec fd.code fd.qualname)
  (hbody:fd.body= .stmts body)(hbind:bindArgs fd ⟨vals,[]⟩=pure binds)(hclo:fd.closure=[])
  (hkind:∀x∈binds,fd.scope.names.lookup x.1=some .local∨(fd.scope.names.lookup x.1=some .cell∧((cellsFrom (s.heap.objs.size+1) fd.scope.names []).lookup x.1).isSome=true))
  (h:∀s₁,InCallC s (callEnvC fd s.heap.objs.size a).locals (bindL (callEnvC fd s.heap.objs.size a).kindOf binds fun z=>none) (callEnvC fd s.heap.objs.size a).cells
    (bindC (callEnvC fd s.heap.objs.size a).kindOf binds fun z=>none) s₁→
   WC prog w (A.deeper (callEnvC fd s.heap.objs.size a)) (execs body (callEnvC fd s.heap.objs.size a)) (fun f s'=>R (.ok (.ret (match f with| .ret v=>v|_=>.none))) s') (fun z z=>False) s₁)
  (hco:autoParam (fd.scope.isCoroutine=false) rf)(hgen:autoParam (fd.scope.isGenerator=false) rf)(hk:autoParam (fd.scope.kind= .function) rf):
  CC prog w A (.call (.ref a) ⟨vals,[]⟩) R s:=by
 refine .tree ?_
 refine(?_:WC prog w A.in1 (callAny (.ref a) ⟨vals,[]⟩) _ _ s)
 refine .seq (nJ ho ?_)
 refine II hcd fun c oc vs tq hc hoc hdc hq=>?_
 simp only[hdata,callFunction,hco,hgen,hbody,hc]
 refine .seq (m:=field (.ref c) 1) (gJ hoc hdc hq (.seq (aE ?_)))
 refine aM hbind (aM hclo ?_)
 refine .seq (aE (.seq (wpAny_newFunctionEnv_cells hk hkind fun env he s' x=>?_)))
 subst he
 have h':=h s' x
 unfold callEnvC at h'
 rw[hc]at h'
 exact .seq (wpAny_enterFrame (hlim.keeps x.toInCall.keep) hroom (.pure ⟨rfl,JV h'⟩))
end
theorem Cy{f:Addr}{vals:List aG}{oc:aG}{od:Option Addr}{osl:Array (Option aG)}{fd:FuncData}{body:List Stmt}{binds:List (Str×aG)}{n:Nat}{Q:aG→aH→Prop}{E:aG→aH→Prop}(env:Addr→Env)(kw:KW V K mg mb X u.heap)(r:dK A (n+1))(hb:Bd V X u)
  (ho:K.lookup f=some ⟨oc,od,.func fd,osl⟩)(hcd:codeIn K fd.code fd.qualname=true)(hbody:fd.body= .stmts body)(hbind:bindArgs fd ⟨vals,[]⟩=pure binds)(hclo:fd.closure=[])
  (hkind:∀L,∀x∈binds,fd.scope.names.lookup x.1=some .local∨(fd.scope.names.lookup x.1=some .cell∧((cellsFrom L fd.scope.names []).lookup x.1).isSome=true))
  (henv:∀L,callEnvC fd L f=env L)
  (h:∀L s₁,u.heap.get? (env L).locals=none→Keeps V u s₁→Nx V X u (kD (env L) X) s₁→fU ((env L).locals::V) u (env L) (kD (env L) X) s₁ (bindL (env L).kindOf binds fun z=>none) (bindC (env L).kindOf binds fun z=>none)→
   WC prog w (A.deeper (env L)) (execs body (env L)) (fun f s'=>Q (match f with| .ret v=>v|_=>.none) s') (fun z z=>False) s₁)
  (hco:autoParam (fd.scope.isCoroutine=false) rf)(hgen:autoParam (fd.scope.isGenerator=false) rf)(hk:autoParam (fd.scope.kind= .function) rf):WC prog w A (call (.ref f) vals) Q E u:=by
 simp only[←henv]at h
 have hrec:u.heap.CodeRec fd.code fd.qualname:=codeRec_of (kw.k.keeps fun z z e=>a6 _ e) hcd
 refine .call (z8 r.d (kw.get ho) rfl hb.two.lim hrec hbody hbind hclo (hkind _) (fun s₁ I=>?_) hco hgen hk)
 have k₁:Keeps V u s₁:=by(refine fO I.done fun h' tk e_0=>?_;subst e_0;refine fun k=>?_);exact lU k
 have hLf:u.heap.get? (callEnvC fd u.heap.objs.size f).locals=none:=gB I.toInCall.fresh
 have hcf:∀n c,(callEnvC fd u.heap.objs.size f).cells.lookup n=some c→u.heap.get? c=none:=fun n c hm=>gB (bA (aR I.toInCall.fresh (I.above n c (mem_of_lookup hm))))
 have hw:gM V X u (kD (callEnvC fd u.heap.objs.size f) X) s₁:=⟨k₁,fun a ha=>aJ _ ha,fun a ha z=>by
  rcases eX ha with h|h
  ·rcases nR h with rfl|h
   ·exact .inr hLf
   ·refine bK (iP h) fun n e=>?_;exact .inr (hcf n a e)
  ·exact .inl h⟩
 have hbd:Bd V (kD (callEnvC fd u.heap.objs.size f) X) s₁:=⟨fun a ha=>by
  rcases eX ha with h|h
  ·rcases nR h with rfl|h
   ·refine s9 I.toInCall.ns fun o z z e z=>?_;exact⟨o,e⟩
   ·refine bK (iP h) fun n e=>?_
    refine bG (I.cell n a e) fun o e z=>?_
    exact⟨o,e⟩
  ·exact(hb.keeps k₁).al a h,gL k₁ hb.two⟩
 have hns:∃o,s₁.heap.get? (callEnvC fd u.heap.objs.size f).locals=some o∧∀vs,o.data≠.fields vs:=vE I.toInCall.ns
 have two':rW ((callEnvC fd u.heap.objs.size f).locals::V) s₁.heap:=⟨hbd.two.lim,aC _ hbd.two.two,fun a ha=>by
  rcases nR ha with rfl|ha
  ·refine bG hns fun o e d=>?_;exact⟨o,e,fun z=>d⟩
  ·exact hbd.two.al a ha⟩
 have hbd':Bd ((callEnvC fd u.heap.objs.size f).locals::V) (kD (callEnvC fd u.heap.objs.size f) X) s₁:=⟨hbd.al,two'⟩
 have k₁':Keeps ((callEnvC fd u.heap.objs.size f).locals::V) u s₁:=by(refine fO I.done fun h' tk e_0=>?_;subst e_0;refine fun k=>?_);exact lU k
 refine h _ s₁ hLf k₁ hw.nx ⟨k₁',hbd',hb.two.ne2 hLf,fun n c e q=>(nR q).elim (fun q=>absurd q (jA (I.above n c (mem_of_lookup e)))) (hb.two.ne (hcf n c e)),I.toInCall.ns,I.cell,I.apart,aF,hLf,fun n c e=>?_,hcf⟩
 exact aL _ (aC _ (fP e))
section
open PySem.NumText
theorem tB(a b:aG):checkTypeCall "int" ⟨[a,b],[]⟩=pure ():=by kernel_rfl
theorem uE(a b:aG):checkBuiltinCall "int.__new__" ⟨[.type "int",a,b],[]⟩=pure ():=by unfold checkBuiltinCall;rw[eP];kernel_rfl
theorem Hr(t:Tok):Builtin.Int.intIndex "int.__new__" (.int 10 t)=pure 10:=by kernel_rfl
set_option maxHeartbeats 4000000 in
theorem C7{x:PySem.Str}{u t:Tok}{n:Int}(hl:x.length≤640)(hn:PySem.intText? x=some n):Gives (Builtin.«int.__new__» ⟨[.type "int",.str x u,.int 10 t],[]⟩) (.int n):=
 .of_wp fun M A E s Q h=>by
  obtain⟨hp,g,d,tk,os⟩:=s
  have f1:=F.conv_sub_int
  have f2:=F.madeHere_int
  have f7:=Hr t
  have hs:(numSeenOf x).length≤640:=aD (seen_length x) hl
  have hr:(int_private% "readNumeral") 0 10 (numSeenOf x)=(int_private% "Numeral.value") n∧((numSeenOf x).length==(numTextOf x).length)=true:=by
   rcases read0 x hs with ⟨m,h1,h2,h3⟩|⟨h1,_⟩
   ·rw[hn]at h1
    injection h1 with h1
    subst h1
    exact⟨h3,h2⟩
   ·replace h1:=hn▸h1
    cases h1
  have hk:=KIN.Hid.mk (m7 hs hr)
  clear hs hr hl hn
  repeat (any_goals (first
   |assumption
   |((with_reducible show wpAny _ _ ((int_private% "intFromText") _ _ _) _ _ _);refine KIN.wp_text hk.out.1 hk.out.2.1 hk.out.2.2 ?_)
   |wp_step))
  all_goals first|exact⟨_,rfl,h⟩|skip
end
section
open PySem.NumText
theorem Hf{t:List Nat}{c:Nat}(h:c∈core t):c∈t:=by
 unfold core at h
 rw[List.mem_reverse]at h
 have h:=(List.dropWhile_sublist _).mem h
 rw[List.mem_reverse]at h
 have h2:c∈t.dropWhile blank:=by
  unfold sign at h
  split at h
  ·rename_i e;refine aM e ?_;exact aC _ h
  ·rename_i e;refine aM e ?_;exact aC _ h
  ·exact h
 exact(List.dropWhile_sublist _).mem h2
theorem GM{c:Nat}(h:c<48∨57<c)(h2:c≠95)(p:Array Nat×Bool):NumText.step 10 p c=none:=by
 unfold NumText.step
 have e95:(c==95)=false:=by simpa using h2
 refine aM e95 ?_
 cases hd:NumText.digit? c with
 |none=>rfl
 |some d=>
  have:¬d<10:=by
   unfold NumText.digit? at hd
   split at hd
   ·rename_i hh;simp at hh;lia
   ·split at hd
    ·rename_i hh;simp at hh;obtain rfl:=a9 hd;lia
    ·split at hd
     ·rename_i hh;simp at hh;obtain rfl:=a9 hd;lia
     ·nomatch hd
  simp[this]
theorem EB:∀{cs:List Nat},(∀c∈cs,(c<48∨57<c)∧c≠95)→NumText.digits? 10 cs=none
 |[],_=>rfl
 |c::r,h=>by
  unfold NumText.digits?
  (refine aM List.foldlM_cons ?_;rw[GM (h c aF).1 (h c aF).2])
  rfl
theorem CM{x:Str}(ha:∀c∈x.cps.toList,c<128)(h:∀c∈x.cps.toList,(c<48∨57<c)∧c≠95):(int_private% "readNumeral") 0 10 (numSeenOf x)=(int_private% "Numeral.invalid"):=by
 rw[readNumeral_ten,EB fun c hc=>?_]
 ·rfl
 ·have h1:=(List.takeWhile_sublist _).mem (Hf hc)
  have e:x.cps.all (·<128)=true:=by
   rw[Array.all_eq_true'];intro c hc;with_reducible exact decide_eq_true (ha c (by simpa using hc))
  have e2:numTextOf x=x.cps.toList:=if_pos e
  rw[e2]at h1
  exact h c h1
end
section
open PySem.NumText
theorem BG(x:Str)(u t:Tok):Builtin.«int.__new__» ⟨[.type "int",.str x u,.int 10 t],[]⟩=((int_private% "intFromText") (.str x u) (numTextOf x) 10>>=fun v=>ret v):=by
 unfold Builtin.«int.__new__» Bind.madeHere
 rw[eP]
 kernel_rfl
structure Rf(h h':Heap)(e:Addr):Prop where
 keeps:∀b o,h.get? b=some o→h'.get? b=some o
 new:h.get? e=none
 there:∃t,h'.get? e=some {cls:=.type "ValueError",data:=.fields #[.ref t,.none,.none,.none,.bool false,.none]}
theorem IK{own:List String}{e:aG}{Q:Unit→aH→Prop}(q:Q () s):WC prog w A (markTheRefusal own e) Q E s:=by
 refine .bind (.stack fun st hst=>?_)
 have:pythonCodeMadeTheCall own (st.map (·.1))=false:=by
  refine(?_:((!(st.map (·.1)).any Code.isCaller&&_)&&_)=false)
  refine aM hst ?_;rfl
 refine aM this ?_
 exact .pure q
theorem Jw{α:Type}{c:Prop}[Decidable c]{a b:Sem α}{Q:α→aH→Prop}(hc:c)(h:WC prog w A a Q E s):WC prog w A (if c then a else b) Q E s:=by refine aM (if_pos hc) ?_;exact h
theorem B6{x:Str}{u:Tok}{text:List Nat}{Q:aG→aH→Prop}(hh:A.handled=none)(hs:(text.takeWhile (· !=0)).length≤640)(hr:(int_private% "readNumeral") 0 10 (text.takeWhile (· !=0))=(int_private% "Numeral.invalid"))
  (hz:(reprText x).length≤sizeLine)(q:∀h' tk e,Rf s.heap h' e→E (.ref e) {s with heap:=h',toks:=tk}):WC prog w A ((int_private% "intFromText") (.str x u) text 10) Q E s:=by
 refine Jw hs ?_
 refine WC.seq (aE ?_)
 dsimp only
 refine aM hr ?_
 refine WC.seq (bE (a:=none) rfl ?_)
 refine aM (if_neg (by simp)) ?_
 refine WC.seq (fT ?_)
 refine WC.seq (bE (a:=none) rfl ?_)
 refine WC.seq (wpAny_pyRepr_str ?_ hz)
 refine WC.seq (wpAny_mkStr ?_ ?_)
 ·refine WC.seq (wpAny_newExc_plain PySem.plainExc_ValueError (fun h' e hm=>?_) (by refine aM bV ?_;exact Nat.le_of_ble_eq_true rfl))
  refine WC.bind (IK (.any (wpAny_raiseNew_none hh (q h' _ e ⟨hm.keeps,hm.new,?_⟩))))
  refine bG hm.there fun tp ht z=>?_
  exact⟨tp,ht⟩
 ·refine(?_:(Array.size (_++_))≤sizeLine)
  refine aM Array.size_append (aM bV ?_)
  have h1:(aA (toString "invalid literal for int() with base "++toString 10++toString ": ")).cps.size≤100:=by decide+kernel
  have h2:((reprText x).cps.extract 0 200).size≤200:=by refine aM Array.size_extract ?_;exact aD (Nat.sub_le _ _) (nW _ _)
  have h3:=cY h1 h2
  exact aD h3 (by decide)
theorem IL{α:Type}{c:Prop}[Decidable c]{a b:Sem α}{Q:α→aH→Prop}(hc:¬c)(h:WC prog w A b Q E s):WC prog w A (if c then a else b) Q E s:=by refine aM (if_neg hc) ?_;exact h
theorem Cx{x:Str}{u t:Tok}{Q:aG→aH→Prop}(hh:A.handled=none)(hl:x.length≤640)(hr:(int_private% "readNumeral") 0 10 (numSeenOf x)=(int_private% "Numeral.invalid"))(hz:(reprText x).length≤sizeLine)
  (h:∀h' tk e,Rf s.heap h' e→E (.ref e) {s with heap:=h',toks:=tk}):WC prog w A (call (.type "int") [.str x u,.int 10 t]) Q E s:=by
 refine .call (.tree ?_)
 refine(?_:WC prog w _ (callAny (.type "int") _) _ _ s)
 refine .pure ⟨jH _ (by decide+kernel),y7 F.entry_type_call ?_⟩
 refine aM (Around.under_plain (weight_type_call_type "int" [.str x u,.int 10 t] []) (units_type_call_type "int" [.str x u,.int 10 t] [])) ?_
 refine WC.seq (bE (tB _ _) ?_)
 refine oL F.called_int.mro fun c tl hm=>?_
 refine WC.seq (bE hm ?_)
 refine IL (by simp) ?_
 refine WC.seq (bE F.called_int.made ?_)
 refine WC.seq (aE ?_)
 refine WC.bind (.holding (.call (pL F.called_int.plain F.entry_int_new (bE (uE _ _) ?_))))
 rw[BG]
 exact .bind (B6 (hh) (aD (seen_length x) hl) hr hz h)
end
theorem EH{R:iR→aH→Prop}{target:Expr}{it:aG}{body:List Stmt}(I:Nat→aH→Prop)
  (turn:∀n s,I n s→wpAny (model prog w) A (pyNext it) (fun r s₁=>match r with
   |none=>R (.ok .next) s₁
   |some v=>wpAny (model prog w) A (letOwnedTupleGo target it v) (fun z s₁'=>wpAny (model prog w) A (assign target env v) (fun z s₂=>WC prog w A (execs body env) (fun f s₃=>match f with
      | .next| .cont=>∃m,m<n∧I m s₃
      | .brk=>R (.ok .next) s₃
      | .ret v=>R (.ok (.ret v)) s₃) (fun z z=>False) s₂) (fun z z=>False) s₁') (fun z z=>False) s₁) (fun z z=>False) s)
  (n:Nat)(h:I n s):CC prog w A (.forLoop target it body [] env) R s:=by
 refine .loop rfl I (fun n s hI=>?_) n h
 refine(?_:WC prog w A ((forTurn target it body [] env).onRaise (fun x=>do noteFrame x env;theTreesLotGoes x)) _ _ s)
 refine .noted ?_
 refine .standAt (.seq (wpAny_onRaise (bD (turn n s hI) (fun r s₁ h₁=>?_) fun z z h'=>h'.elim)))
 cases r with
 |none=>exact .pure (.inr ⟨rfl,.any (codeAny_block (fJ h₁))⟩)
 |some v=>
  refine .seq (bD h₁ (fun z s₁' h₁'=>?_) fun z z h'=>h'.elim)
  refine .seq (bD h₁' (fun z s₂ h₂=>.bind (h₂.mono (fun f s₃ h₃=>?_) fun z z h'=>h'.elim)) fun z z h'=>h'.elim)
  cases f with
  |next=>exact .pure (.inl ⟨rfl,h₃⟩)
  |cont=>exact .pure (.inl ⟨rfl,h₃⟩)
  |brk=>exact .pure h₃
  |ret v=>exact .pure h₃
theorem Jy{target iter:Expr}{body orelse:List Stmt}{pos:Pos}{Q:Flow→aH→Prop}{E:aG→aH→Prop}
  (h:wpAny (model prog w) A (eval iter env) (fun x s₁=>wpAny (model prog w) A (pyIter x) (fun it s₂=>
   CC prog w A (.forLoop target it body orelse env) (fun r s'=>match r with| .ok f=>Q f s'| .error e=>False) s₂) E s₁) E s)
  (hs:autoParam (∀x,foldedSetIterable iter env x=pure x) rf):
  WC prog w A (exec (.For target iter body orelse pos) env) Q E s:=by
 rw[exec_For]
 refine .standAt (.seq (bD h (fun x s₁ h₁=>.seq (bE (hs x) (.standAt (.seq (a8 (bD h₁ (fun it s₂ h₂=>?_) fun z z h'=>h')))))) fun z z h'=>h'))
 refine .onRaise (.run (h₂.mono fun r s' h'=>?_))
 cases r with
 |ok f=>exact h'
 |error e=>exact h'.elim
theorem Jx{target iter:Expr}{body:List Stmt}{pos:Pos}{P:Hp V aG}{n:Nat}{f:Nat→aY}{cls:String}{Q:Flow→aH→Prop}{E:aG→aH→Prop}(F:fU V u env X s m cm)
  (hiter:Pu V prog w A X s (eval iter env) P)(src:Jo prog w A P n f cls)
  (Mb:List Addr)(hMb:∀b∈Mb,b∈X)(hA:∀b∈nB env,b∈Mb)
  (J:List Addr→Nat→(Str→Option aG)→(Str→Option aG)→aH→Prop)
  (Bnd:Nat→List Addr→aH→(Str→Option aG)→(Str→Option aG)→(Str→Option aG)→(Str→Option aG)→Prop)
  (hbind:∀I i X' s' m' cm' v (QQ:Unit→aH→Prop) (E:aG→aH→Prop),i<n→fU V u env X' s' m' cm'→Is V X' s'.heap v (f i)→(∃o,s'.heap.get? I=some o∧o.cls= .type cls)→
   (∀s'' m'' cm'',fU V u env X' s'' m'' cm''→Mu V (nB env) s' s''→Bnd i X' s'' m' cm' m'' cm''→QQ () s'')→wpAny (model prog w) A (letOwnedTupleGo target (.ref I) v) (fun z s=>wpAny (model prog w) A (assign target env v) QQ E s) E s')
  (hst:∀X' X'' i m cm s₁ s₂,(∀a∈X,a∈X')→(∀a∈X,a∈X'')→Nx V X' s₁ X'' s₂→(∀b o,b∈X→b∉V→b∉nB env→s₁.heap.get? b=some o→s₂.heap.get? b=some o)→J X' i m cm s₁→J X'' i m cm s₂)
  (h0:∀X' s',gM V X s X' s'→J X' 0 m cm s')
  (turn:∀i X' s' m₀ cm₀ m' cm' (Q':Flow→aH→Prop),i<n→(∀a∈X,a∈X')→Nx V X s X' s'→fU V u env X' s' m' cm'→Bnd i X' s' m₀ cm₀ m' cm'→J X' i m₀ cm₀ s'→
   (∀s'' m'' cm'',fU V u env X' s'' m'' cm''→Mu V Mb s' s''→J X' (i+1) m'' cm'' s''→Q' .next s'')→(∀v s'',Q (.ret v) s''→Q' (.ret v) s'')→WC prog w A (execs body env) Q' (fun z z=>False) s')
  (after:∀s' m' cm',Nx V X s X s'→Mu V Mb s s'→fU V u env X s' m' cm'→J X n m' cm' s'→Q .next s')
  (hs:autoParam (∀x,foldedSetIterable iter env x=pure x) rf):
  WC prog w A (exec (.For target iter body [] pos) env) Q E s:=by
 refine Jy (hiter.run F.bd fun xv s₁ k₁ hx=>src xv X s₁ hx (F.bd.keeps k₁) _ _ fun I fp wr P' St s₂ k₂ W hst0 hfp hwr hal hcls hF=>?_) hs
 have k₁₂:=aN k₁ k₂
 have hwr':∀b∈wr,s.heap.get? b=none:=fun b hb=>fQ k₁ F.bd.two (hwr b hb)
 let X':=wr++X
 have inX:∀a∈X,a∈X':=fun a ha=>aJ _ ha
 have w₂:gM V X s X' s₂:=⟨k₁₂,inX,fun a ha z=>by
  rcases eX ha with h|h
  ·exact .inr (hwr' a h)
  ·exact .inl h⟩
 have fpX:∀b∈fp,b∉X:=fun b hb q=>(hfp b hb).2 (aJ _ q)
 have fpV:∀b∈fp,b∉V:=fun b hb q=>(hfp b hb).2 (aL _ q)
 have wrX:∀b∈wr,b∉X:=fun b hb=>fpX b (W.sub b hb)
 have wrV:∀b∈wr,b∉V:=fun b hb=>fpV b (W.sub b hb)
 have bd₂:Bd V X' s₂:=⟨fun a ha=>by
  rcases eX ha with h|h
  ·exact hal 0 _ hst0 a h
  ·exact(F.bd.keeps k₁₂).al a h,gL k₁₂ F.bd.two⟩
 have w₁₂:gM V X s₁ X' s₂:=⟨k₂,inX,fun a ha z=>by
  rcases eX ha with h|h
  ·exact .inr (hwr a h)
  ·exact .inl h⟩
 have nu:∀b∈wr,u.heap.get? b=none:=fun b hb=>by
  cases e:u.heap.get? b with
  |none=>rfl
  |some o=>have:=a7 F.keeps b o (wrV b hb) e;replace this:=(hwr' b hb)▸this;cases this
 have bdW:∀{t t':aH} {Y Y':List Addr},Mu V wr t t'→(∀b∈wr,∃o,t'.heap.get? b=some o)→Bd V Y t→(∀a∈Y',a∉wr→a∈Y)→Bd V Y' t':=fun{t t' Y Y'} mu al b i=>⟨fun a ha=>by
  by_cases hw:a∈wr
  ·exact al a hw
  ·by_cases hV:a∈V
   ·refine bG ((mu.two b.two).al a hV) fun o e z=>?_;exact⟨o,e⟩
   ·refine bK (b.al a (i a ha hw)) fun o e=>?_;exact⟨o,mu.get hw hV e⟩,mu.two b.two⟩
 have step:∀{t t':aH} {m' cm'},Mu V wr t t'→(∀b∈wr,∃o,t'.heap.get? b=some o)→fU V u env X' t m' cm'→fU V u env X' t' m' cm':=fun{t t' m' cm'} mu al FF=>by
  have nA:∀b∈nB env,b∉wr:=fun b hb hw=>wrX b hw (hMb b (hA b hb))
  exact⟨mu.keeps FF.keeps fun b hb=>nu b hb,bdW mu al FF.bd fun a ha z=>ha,FF.l2,FF.cV,mu.ns FF.l2 (nA _ aF) FF.ns,fun n c e=>gY (FF.cell n c e) fun o eo=>mu.get (nA _ (aC _ (fP e))) (FF.cV n c e) eo,FF.apart,FF.lx,FF.lf,FF.cx,FF.cf⟩
 have hA':∀a∈nB env,a∈X':=fun a ha=>inX a (hMb a (hA a ha))
 refine EH (fun k s'=>∃i m' cm',k=n-i∧i≤n∧Nx V X' s₂ X' s'∧Mu V (wr++Mb) s₂ s'∧fU V u env X' s' m' cm'∧St i s'.heap∧J X' i m' cm' s') ?_ n
  ⟨0,m,cm,rfl,bX _,Nx.refl _ _,Mu.refl _ _,(F.keep k₁₂).more inX bd₂,hst0,h0 X' s₂ w₂⟩
 (intro k s' q_1;refine LB q_1 fun i m' cm' e_0 hi nx' mu' F' st' j'=>?_;obtain rfl:=e_0.symm)
 have inL:∀a∈wr,a∈wr++Mb:=fun a h=>aL _ h
 have inR:∀a∈Mb,a∈wr++Mb:=fun a h=>aJ _ h
 by_cases hlt:i<n
 ·refine W.item i s' _ _ hlt st' fun v h' tk hpv hst₁ hkeep=>?_
  have mu₁:Mu V wr s' {s' with heap:=h',toks:=tk}:=Mu.mk' hkeep wrV
  have al₁:∀b∈wr,∃o,h'.get? b=some o:=hal _ _ hst₁
  have F₁:=step mu₁ al₁ F'
  have n₁:Nx V X' s' X' {s' with heap:=h',toks:=tk}:=mu₁.nx fun a ha=>aL _ ha
  have j₁:=hst X' X' i m' cm' _ _ inX inX n₁ (fun b o hb z z e=>hkeep b o (fun hw=>wrX b hw hb) e) j'
  have hd:Is V X' h' v (f i):=((hF i v hpv).2.nx w₁₂.nx).nx (nx'.trans n₁)
  refine hbind I i X' _ m' cm' v _ _ hlt F₁ hd (hcls _ _ hst₁) fun s₃ m₃ cm₃ F₃ mu₃ b₃=>?_
  have n₃:Nx V X' {s' with heap:=h',toks:=tk} X' s₃:=mu₃.nx hA'
  have j₃:=hst X' X' i m' cm' _ _ inX inX n₃ (fun b o hb hbV hbA e=>mu₃.get hbA hbV e) j₁
  have st₃:St (i+1) s₃.heap:=W.frame _ _ _ hst₁ fun b hb o e=>mu₃.get (fun hm=>fpX b hb (hMb b (hA b hm))) (fpV b hb) e
  refine(turn i X' s₃ m' cm' m₃ cm₃ _ hlt inX (w₂.nx.trans (nx'.trans (n₁.trans n₃))) F₃ b₃ j₃ (fun s₄ m₄ cm₄ F₄ mu₄ j₄=>?_) fun v s₄ hq=>hq)
  exact⟨n-(i+1),mU _ _ hlt,i+1,m₄,cm₄,rfl,hlt,(nx'.trans (n₁.trans n₃)).trans (mu₄.nx fun a ha=>inX a (hMb a ha)),mu'.trans ((mu₁.more inL).trans ((mu₃.more fun a h=>inR a (hA a h)).trans (mu₄.more inR))),F₄,W.frame _ _ _ st₃ fun b hb o e=>mu₄.get (fun hm=>fpX b hb (hMb b hm)) (fpV b hb) e,j₄⟩
 ·obtain rfl:n=i:=b7 (c9 hi (kN hlt))
  refine W.done s' _ _ st' fun h' tk hkeep=>?_
  have mu₁:Mu V wr s' {s' with heap:=h',toks:=tk}:=Mu.mk' hkeep wrV
  have n₁:Nx V X' s' X {s' with heap:=h',toks:=tk}:=⟨⟨_,_,rfl⟩,fun b o hb e=>mu₁.get (fun hw=>hb (aJ _ (aL _ hw))) (fun hv=>hb (aL _ hv)) e,fun a ha z=>.inl (inX a ha),mu₁.two⟩
  have nA:∀b∈nB env,b∉wr:=fun b hb hw=>wrX b hw (hMb b (hA b hb))
  have muA:Mu V Mb s {s' with heap:=h',toks:=tk}:=
   Mu.less (N:=wr) ((Mu.of_keeps k₁₂).trans ((mu'.trans (mu₁.more inL)).more fun a ha=>(eX ha).elim (fun q=>aJ _ q) fun q=>aL _ q)) hwr'
  have bdE:Bd V X {s' with heap:=h',toks:=tk}:=⟨fun a ha=>by
   by_cases hV:a∈V
   ·refine bG ((mu₁.two F'.bd.two).al a hV) fun o e z=>?_;exact⟨o,e⟩
   ·refine bK (F'.bd.al a (inX a ha)) fun o e=>?_;exact⟨o,mu₁.get (fun hw=>wrX a hw ha) hV e⟩,mu₁.two F'.bd.two⟩
  exact after _ m' cm' (w₂.nx.trans (nx'.trans n₁)) muA ⟨mu₁.keeps F'.keeps fun b hb=>nu b hb,bdE,F'.l2,F'.cV,mu₁.ns F'.l2 (nA _ aF) F'.ns,fun n c e=>gY (F'.cell n c e) fun o eo=>mu₁.get (nA _ (aC _ (fP e))) (F'.cV n c e) eo,F'.apart,F.lx,F'.lf,F.cx,F'.cf⟩
   (hst X' X n m' cm' _ _ inX (fun a h=>h) n₁ (fun b o hb hbV z e=>mu₁.get (fun hw=>wrX b hw hb) hbV e) j')
noncomputable def J8:List (Str×Int):=[(aA "dev",10),(aA "alpha",20),(aA "a",20),(aA "beta",30),(aA "b",30),(aA "c",40),(aA "RC",50),(aA "rc",50),(aA "pl",200),(aA "p",200)]
inductive zE:List (Str×Int)→List fD→Prop
 |nil:zE [] []
 |cons {a:Str} {i:Int} {e:fD} {t t':Tok} {l es} (hk:e.key= .str a t) (hv:e.val= .int i t') (r:zE l es):zE ((a,i)::l) (e::es)
theorem HW{l:List (Str×Int)}{es:List fD}(m:zE l es)(k:Str):
  (l.lookup k=none∧(es.find? fun e=>Value.isStrOf k e.key)=none)∨∃i t e,l.lookup k=some i∧(es.find? fun e=>Value.isStrOf k e.key)=some e∧e.val= .int i t:=by
 induction m with
 |nil=>exact .inl ⟨rfl,rfl⟩
 | @cons a i e t t' l es hk hv r ih=>
  rw[List.lookup_cons,List.find?_cons,hk]
  refine(?_:(_∧(match a==k with|true=>some e|false=>_)=none)∨_)
  by_cases h:a=k
  ·subst h
   right
   refine⟨i,t',e,by simp,?_,hv⟩
   refine(?_:(match a==a with|true=>some e|false=>_)=some e)
   rw[beq_self_eq_true]
  ·have h1:(a==k)=false:=by simpa using h
   have h2:(k==a)=false:=by simpa using fun q=>h q.symm
   refine aM h1 (aM h2 ?_)
   rcases ih with ⟨x,y⟩|⟨i',t2,e',x,y,z⟩
   ·exact .inl ⟨x,y⟩
   ·refine .inr ⟨i',t2,e',x,?_,z⟩
    refine(?_:(match a==k with|true=>some e|false=>_)=some e')
    refine aM h1 ?_;exact y
theorem Fq{es:List fD}(m:zE J8 es)(k:Str):
  (J8.lookup k=none∧((es.find? fun e=>Value.isStrOf k e.key).map (·.val))=none)∨∃i t,J8.lookup k=some i∧((es.find? fun e=>Value.isStrOf k e.key).map (·.val))=some (.int i t):=by
 rcases HW m k with ⟨x,y⟩|⟨i,t,e,x,y,z⟩
 ·exact .inl ⟨x,by refine aM y ?_;rfl⟩
 ·exact .inr ⟨i,t,x,by refine aM y ?_;exact congrArg some z⟩
theorem xR{prog:fL}{w:cN}{mg mb:Str→Option aG}{X:List Addr}{h:Heap}(kw:KW V (kz w) mg mb X h):
  ∃f,h.MapOf (PySem.strKind prog w) 50 f∧∀k,(J8.lookup k=none∧f k=none)∨∃i t,J8.lookup k=some i∧f k=some (.int i t):=by
 refine⟨_,⟨_,_,_,kw.get rfl,⟨rfl,rfl,rfl⟩,rfl,?_,fun k=>rfl⟩,fun k=>?_⟩
 ·intro e he
  simp only[List.mem_toArray,bL,bR,or_false]at he
  rcases he with rfl|rfl|rfl|rfl|rfl|rfl|rfl|rfl|rfl|rfl
  all_goals exact⟨_,beq_self_eq_true (aA _),rfl⟩
 ·unfold findBy
  rw[List.find?_toArray]
  refine Fq ?_ k
  exact .cons rfl rfl (.cons rfl rfl (.cons rfl rfl (.cons rfl rfl (.cons rfl rfl (.cons rfl rfl (.cons rfl rfl (.cons rfl rfl (.cons rfl rfl (.cons rfl rfl .nil)))))))))
theorem yD{h h':Heap}{a:Addr}{m:Str→Option aG}(n:h.Ns a m)(x:∀b o,h.get? b=some o→(∀vs,o.data≠.fields vs)→∃sl,h'.get? b=some {o with slots:=sl}):h'.Ns a m:=by
 refine pG n fun o es ep e d r=>?_
 refine bK (x a o e (fun vs q=>by replace q:=d▸q;cases q)) fun sl e'=>?_
 exact⟨_,es,ep,e',d,r⟩
noncomputable abbrev wN(V:List Addr):List Addr:=V.filter (· !=2)
theorem AN{a:Addr}(h:a∈wN V):a∈V:=(D1 h).1
theorem FY:2∉wN V:=fun h=>by have:=(D1 h).2;simp at this
theorem JC{h0 h h':Heap}{l:List Env}{e:Addr}{cls:aG}(t:rW V h0)(k:Kp V h0 h)(x:Heap.Left (hideAll h0 (wN V)) l e cls h h'):Kp V h0 h':=by
 refine A7 x fun x1 x2 x3 x4=>?_
 have t1:=k.two t
 refine⟨fun b o hb e=>x1 b o (b5 _ e fun q=>hb (AN q)),fun z=>⟨?_,t.two,fun a ha=>?_⟩,fun L hL h2 m n=>yD (k.ns L hL h2 m n) x4,fun z o e=>x1 2 o (b5 _ e FY)⟩
 ·refine bG t1.lim fun mc n r=>?_
  exact⟨mc,yD n x4,r⟩
 ·by_cases h2:a=2
  ·subst h2
   refine bG t1.lim fun mc n r=>?_
   refine bG (vE (yD n x4)) fun o e z=>?_
   exact⟨o,e,fun q=>absurd rfl q⟩
  ·refine bG (t1.al a ha) fun o e d=>?_
   refine bK (x4 a o e (d h2)) fun sl e'=>?_
   exact⟨_,e',fun z=>d h2⟩
noncomputable def Cu(V:List Addr)(l:List Env):Prop:=∀env∈l,env.scope.kind≠.module∧∃L,env.frame=some L∧L∈V∧L≠2
theorem AV{h0 h:Heap}(t:rW V h):∀{l:List Env},Cu V l→h.FunFrames (hideAll h0 (wN V)) l
 |[],_=>trivial
 |env::r,f=>by
  obtain⟨hk,L,hf,hL,h2⟩:=f env aF
  refine bG (t.al L hL) fun o e d=>?_
  exact⟨hk,⟨L,o,hf,hideAll_none _ (List.mem_filter.mpr ⟨hL,by simpa using h2⟩),e,d h2⟩,AV t fun x hx=>f x (aC _ hx)⟩
theorem Gn{env:Env}{outer:List Env}{h0:Heap}{e L:Addr}{Q:Unit→aH→Prop}(t:rW V h0)(rf:Rf h0 s.heap e)(hfr:A.frames=some (env::outer))(fv:Cu V (env::outer))(hf:env.frame=some L)
  (q:∀h',Kp V h0 h'→({s with heap:=h'}:aH).TypeIs (.ref e) "ValueError"→h0.get? e=none→h'.Traced (hideAll h0 (wN V)) e (.type "ValueError")→Q () {s with heap:=h'}):
  wpAny (model prog w) A (noteFrame (.ref e) env) (fun z s₂=>wpAny (model prog w) A (setFlight (.ref e) none) Q E s₂) E s:=by
 refine bK rf.there fun tp he=>?_
 have kr:Kp V h0 s.heap:=.all rf.keeps
 have t1:=kr.two t
 have hen:(hideAll h0 (wN V)).get? e=none:=by
  cases h:(hideAll h0 (wN V)).get? e with
  |none=>rfl
  |some o=>have:=a6 _ h;replace this:=rf.new▸this;cases this
 unfold noteFrame
 simp only[hf]
 refine aB (gJ he rfl (x:=.none) rfl ?_)
 refine aM (if_neg (by decide)) ?_
 refine wpAny_newEntry hfr (AV t1 fv) hf he (fun b o hb=>rf.keeps b o (a6 _ hb)) hen rfl (by refine(?_:1<6);decide) fun h' left=>?_
 have kp:=JC t kr left
 refine A7 left fun x1 x2 x3 x4=>?_
 refine q h' kp ?_ rf.new x3
 refine Ll x3 fun oe vs T oT ts he' hcls z=>?_
 exact⟨oe,he',hcls⟩
theorem DF{h:Heap}(t:rW V h){a:Addr}{o:Obj}{vs:Array aG}(e:h.get? a=some o)(d:o.data= .fields vs):a∉V:=fun hm=>by
 refine bG (t.al a hm) fun o' e' d'=>?_
 rw[e]at e';obtain rfl:=a9 e'
 by_cases h2:a=2
 ·subst h2
  (refine bG t.lim fun mc q_1 z=>?_;refine pG q_1 fun o2 es ep e2 d2 z=>?_)
  have:o2=o:=by have:=e2.symm.trans e;exact a9 this
  rw[this,d]at d2;nomatch d2
 ·exact d' h2 _ d
theorem HF{h0 h h':Heap}{a:Addr}(k:Kp V h0 h)(n:h0.get? a=none)(ha:a∉V)(sb:bY a h h'):Kp V h0 h':=
 ⟨fun b o hb e=>sb.extBut b o (fun q=>by rw[q,n]at e;nomatch e) (k.old b o hb e),fun t=>(k.two t).at fun b hb o e=>sb.extBut b o (fun q=>ha (q▸hb)) e,fun L hL h2 m x=>(k.ns L hL h2 m x).sameBut sb (fun q=>ha (q▸hL)),fun m o e=>sb.extBut 2 o (fun q=>ha (q▸m)) (k.o2 m o e)⟩
theorem Du{h0:Heap}{e:Addr}{Q:Unit→aH→Prop}(t:rW V h0)(k:Kp V h0 s.heap)(tr:s.heap.Traced (hideAll h0 (wN V)) e (.type "ValueError"))
  (q:∀h',Kp V h0 h'→({s with heap:=h'}:aH).TypeIs (.ref e) "ValueError"→Q () {s with heap:=h'}):wpAny (model prog w) A (setFlight (.ref e) none) Q E s:=by
 obtain⟨oe,vs,T,oT,ts,he,hcls,hd,h1,hnT,hTe,hT,hdT,h3⟩:=tr
 have t1:=k.two t
 have hTV:=DF t1 hT hdT
 have hn0:h0.get? T=none:=by
  cases h:h0.get? T with
  |none=>rfl
  |some o=>replace hnT:=(b5 _ h (fun q=>hTV (AN q)))▸hnT;cases hnT
 refine wpAny_setFlight_none he hd h1 hT hdT (Array.getElem?_eq_some_iff.mp h3).1 (q _ (HF k hn0 hTV (cU ..)) ⟨oe,?_,hcls⟩)
 rw[gA _ _ hTe];exact he
theorem IN:isSubtype (.type "ValueError") (.type "BaseException")=pure true:=by rw[iY];kernel_rfl
theorem IM:isSubtype (.type "ValueError") (.type "ValueError")=pure true:=by rw[iY];kernel_rfl
theorem GE:isSubtype (.type ((Manifest.find? "ValueError").elim "type" fun x=>x.metatype)) (.type "tuple")=pure false:=by rw[iY];kernel_rfl
noncomputable def u4(x:Str):Int:=(J8.lookup x).getD 0
theorem G4{o e z:Expr}{apos pos:Pos}{x:Str}(kw:KW V (kz w) mg mb X s.heap)(ho:Pu V prog w A X s (eval o env) (Ex (.ref 50)))(he:Pu V prog w A X s (eval e env) (Dt (.str x)))(hz:Pu V prog w A X s (eval z env) (Dt (.int 0)))
  (hbase:autoParam (attributeBase o ("get":Str) env (eval o env)=eval o env) rf)(hs:autoParam (starEach [e,z] env=[(false,eval e env),(false,eval z env)]) rf)(hline:autoParam ((apos.endLine==pos.line)=true) rf):
  Pu V prog w A X s (eval (.Call (.Attribute o ("get":Str) apos) [e,z] [] pos) env) (Dt (.int (u4 x))):=
 .mk fun Y u hu hb Q E q=>Call_method2 hbase hs hline (ho.go Y u hu hb _ E fun v u₁ k₁ hv=>by
  cases (hv:v= .ref 50)
  have kw₁:=(kw.nx hu.nx).nx (gM.of_keeps (X:=Y) k₁).nx
  refine bG (xR (prog:=prog) kw₁) fun f hm hf=>?_
  refine⟨"dict","dict.get",F.plainAttrs_dict,F.slot_dict_get,F.type_dict_get,hm.typeIs,hm.noDict,?_⟩
  refine wpAny_dict_get2 (knd:=PySem.strKind prog w) (by rfl) (he.go Y u₁ (hu.trans (.of_keeps k₁)) (hb.keeps k₁) _ E fun key u₂ k₂ hk=>hz.go Y u₂ (hu.trans (.of_keeps (aN k₁ k₂))) (hb.keeps (aN k₁ k₂)) _ E fun d u₃ k₃ hd=>?_)
  have kw₃:=kw₁.nx (gM.of_keeps (X:=Y) (aN k₂ k₃)).nx
  refine bG (xR (prog:=prog) kw₃) fun f hm hf=>?_
  (refine bK (Is.of_str hk) fun t e_0=>?_;subst e_0)
  (refine bK (Is.of_int hd) fun t' e_0=>?_;subst e_0)
  refine⟨x,f,strKind_is prog w x t,hm,q _ _ (aN k₁ (aN k₂ (aN k₃ (d9 u₃ _)))) ?_⟩
  unfold u4
  rcases hf x with ⟨a,b⟩|⟨i,t₂,a,b⟩
  ·refine aM a (aM b ?_);exact Is.int _ _
  ·refine aM a (aM b ?_);exact Is.int _ _)
theorem xU{l:Addr}{ds:List aY}{d1 d2:aY}{o e1 e2:Expr}{apos cpos tpos pos:Pos}{k:Nat}{Q:Flow→aH→Prop}{E:aG→aH→Prop}(F:fU V u env X s m cm)(W:iI V X u s l ds)(hl:Pu V prog w A X s (eval o env) (Ex (.ref l)))(h1:Pu V prog w A X s (eval e1 env) (Dt d1))(h2:Pu V prog w A X s (eval e2 env) (Dt d2))(hz:ds.length≤1000000)
  (q:∀s',fU V u env X s' m cm→Mu V [l] s s'→iI V X u s' l (ds++[d1,d2])→Q .next s')
  (hbase:autoParam (attributeBase o ("extend":Str) env (eval o env)=eval o env) rf)(hs:autoParam (starEach [.Tuple [e1,e2] k tpos] env=[(false,eval (.Tuple [e1,e2] k tpos) env)]) rf)(hline:autoParam ((apos.endLine==cpos.line)=true) rf)(hi:autoParam (interactive env=false) rf)
  (hst:autoParam (starEach [e1,e2] env=[(false,eval e1 env),(false,eval e2 env)]) rf)
  (hsw:autoParam (swapsWith (.Call (.Attribute o ("extend":Str) apos) [.Tuple [e1,e2] k tpos] [] cpos) none pos.line env=pure false) rf):
  WP prog w A (exec (.Expr (.Call (.Attribute o ("extend":Str) apos) [.Tuple [e1,e2] k tpos] [] cpos) pos) env) Q E s:=by
 refine .mk<|wpAny_Expr (hi:=hi) (hs:=hsw) (Call_method1 hbase hs hline (hl.run F.bd fun v s₁ k₁ hv=>?_))
 cases (hv:v= .ref l)
 have W₁:=W.keep k₁
 (refine bG W₁.ys fun ys q_1 a=>?_;refine bK q_1 fun n e1'=>?_)
 refine⟨"list","list.extend",sG,PySem.F.slot_list_extend,PySem.F.type_list_extend,⟨_,e1',rfl⟩,fun a' ha'=>(by obtain rfl:=fN ha';exact⟨_,e1',rfl⟩),?_⟩
 refine f6 rfl (iM (fW (PyProof.Rows.Tuple_ ?_)))
 refine aM hst ?_
 refine fW (h1.go X s₁ (.of_keeps k₁) (F.bd.keeps k₁) _ _ fun v1 s₂ k₂ hv1=>fW (h2.go X s₂ (.of_keeps (aN k₁ k₂)) (F.bd.keeps (aN k₁ k₂)) _ _ fun v2 s₃ k₃ hv2=>fK (pP (hsz:=by refine(?_:2≤sizeLine);refine aM bV ?_;decide) (fK ?_))))
 have k₂₃:=aN k₂ (aN k₃ (fF s₃ {cls:=.type "tuple",data:=.seq [v1,v2].toArray}))
 have W₃:=W₁.keep k₂₃
 (refine nY W₃.len fun ys q_2 a hys=>?_;refine bK q_2 fun n e3=>?_)
 have hv1':=(hv1.keep (a7 k₃)).keep (a7 (fF s₃ {cls:=.type "tuple",data:=.seq [v1,v2].toArray}))
 have hv2':=hv2.keep (a7 (fF s₃ {cls:=.type "tuple",data:=.seq [v1,v2].toArray}))
 generalize hs4:({s₃ with heap:=s₃.heap.push {cls:=.type "tuple",data:=.seq [v1,v2].toArray}}:aH)=s₄ at*
 have et:s₄.heap.get? s₃.heap.objs.size=some {cls:=.type "tuple",data:=.seq [v1,v2].toArray}:=by refine gU hs4 ?_;exact aW _ rfl
 refine call_meets PySem.F.slot_list_extend ⟨_,e3,rfl⟩ PySem.F.entry_list_extend (PySem.F.args_list_extend_2 _ _) (PySem.AutoSeq1.list_extend_list_tuple_0 l ys n _ _ _ ?_ ?_ ?_) ⟨e3,et,?_⟩
 ·refine extend_door ?_
  refine aM hys (aM bV ?_);simp;exact aD (by assumption) (by decide)
 ·refine aM hys (aM bV ?_);exact aD (by assumption) (by decide)
 ·refine aM hys (aM bV ?_);simp;exact aD (by assumption) (by decide)
 ·have key:∃n',eO (fun x=>x++[v1,v2].toArray) {cls:=.type "list",data:=.seq ys n}=({cls:=.type "list",data:=.seq (ys++[v1,v2].toArray) n'}:Obj):=⟨_,rfl⟩
  (refine bK key fun n' key=>?_)
  have hp':(s₄.heap.update l (eO fun x=>x++[v1,v2].toArray)).PlainList l (ys++[v1,v2].toArray):=⟨n',by rw[cW _ e3 (by refine aM key ?_;rfl),key]⟩
  have mu:Mu V [l] s₄ {s₄ with heap:=s₄.heap.update l (eO fun x=>x++[v1,v2].toArray)}:=iK W.lV (cU ..)
  have nx:Nx V X s₄ X {s₄ with heap:=s₄.heap.update l (eO fun x=>x++[v1,v2].toArray)}:=mu.nx fun a ha=>by replace ha:=kQ ha;obtain rfl:=ha.symm;exact W.lx
  have W₄:iI V X u {s₄ with heap:=s₄.heap.update l (eO fun x=>x++[v1,v2].toArray)} l (ds++[d1,d2]):=⟨⟨_,hp',by simpa using (a.append (cA.cons hv1' (cA.cons hv2' .nil))).nx nx⟩,W.lx,W.lf,W.lV⟩
  have F₃:=(F.keep k₁).keep k₂₃
  exact q _ (W₃.fra F₃ mu W₄) ((Mu.of_keeps (aN k₁ k₂₃)).trans mu) W₄
theorem vV{pos:Pos}{T:String}{first:List aG}{args:List (Bool×Sem aG)}{Q:aG→aH→Prop}{E:aG→aH→Prop}(hplain:args.any (·.1)=false)
  (h:wpAny (model prog w) A (evalArgs (.type T) true args []) (fun a s₁=>WC prog w A (call (.type T) (first++a.pos) a.kw) Q E s₁) E s):WC prog w A (callWith pos (.type T) first args []) Q E s:=by
 refine .seq (a8 (bD h (fun a s₁ h₁=>.standAt ?_) fun z z x=>x))
 refine aM hplain ?_
 refine .seq (aE ?_)
 exact .bind (h₁.monoQ fun r s₂ hr=>.any (aB (a8 (nI (aE hr)))))
theorem EJ{x:Str}{u t:Tok}{n:Int}{Q:aG→aH→Prop}{E:aG→aH→Prop}(hn:PySem.intText? x=some n)(hl:x.length≤640)(h:Q (.int n s.toks) {s with toks:=s.toks+1}):wpAny (model prog w) A (call (.type "int") [.str x u,.int 10 t]) Q E s:=
 callType_new F.called_int F.newNe_int (tB _ _) (uE _ _) (fun obj=>by first|exact⟨by kernel_rfl,by kernel_rfl⟩|kernel_rfl|decide+kernel) F.entry_int_new (C7 hl hn).meets (show(Made.int n).post _ s from⟨rfl,h⟩)
theorem LD{K:Frag}{x:Str}{pos:Pos}{v:aG}{Q:aG→aH→Prop}{E:aG→aH→Prop}(kw:KW V K mg mb X s.heap)(q:Q v s)(hv:autoParam (bootBuiltins x=some v) rf)(e:autoParam (nsIn K mainGlobals x=some none) rf)(hg:autoParam (env.globals=mainGlobals) rf)(hb:autoParam (env.builtins=builtinsNs) rf)(hk:autoParam (env.scope.kind= .function) rf)(hx:autoParam (env.kindOf x=some .globalImplicit) rf)(hd:autoParam ((x==("__debug__":Str))=false) dk)(hn:autoParam (x≠("__name__":Str)) dk):
  wpAny (model prog w) A (eval (.Name x pos) env) Q E s:=
 dH hk hx (eJ (mg:=mg) (mb:=mb) (hg▸kw.g.keeps fun z z e=>a6 _ e) (kJ kw.k kw.g e) (hb▸kw.b.keeps fun z z e=>a6 _ e) ((kw.bi x hn).trans hv) q) hd
noncomputable abbrev sv:Str:=aA "v"
noncomputable abbrev Lh:Str:=aA "t"
section
variable {p1 p2 p3 p4 p5 p6 p7 p8 p9 p10 p11 p12 p13 p14 p15 p16 p17 p18 p19:Pos} {k3:Nat} {vv:aG}
noncomputable abbrev J6(p1 p2 p3 p4 p5 p6 p7 p8 p9 p10 p11 p12 p13 p14 p15 p16 p17 p18 p19:Pos)(k1 k2 k3:Nat):Stmt:=
 .Try [.Assign [.Name sv p1] (.Call (.Name (aA "int") p2) [.Name sv p3,.Constant (.int 10) k1 p4] [] p5) p6,.Assign [.Name Lh p7] (.Constant (.int 100) k2 p8) p9]
  [.ExceptHandler (some (.Name (aA "ValueError") p10)) none [.Assign [.Name Lh p11] (.Call (.Attribute (.Name (aA "_ver_stages") p12) (aA "get") p13) [.Name sv p14,.Constant (.int 0) k3 p15] [] p16) p17] p18] [] [] p19
theorem Ck{n:Int}(kw:KW V (kz w) mg mb X s.heap)(F:fU V u (oF L) X s m cm)(hm:m sv=some vv)(hx:Is V X s.heap vv (.str x))(hn:PySem.intText? x=some n)(hl:x.length≤640)
  (q:∀s' v' t',fU V u (oF L) X s' (fun z=>if z=Lh then some t' else if z=sv then some v' else m z) cm→Mu V (nB (oF L)) s s'→Is V X s'.heap v' (.int n)→Is V X s'.heap t' (.int 100)→Q .next s'):
  WC prog w A (exec (J6 p1 p2 p3 p4 p5 p6 p7 p8 p9 p10 p11 p12 p13 p14 p15 p16 p17 p18 p19 k1 k2 k3) (oF L)) Q E s:=by
 refine GC (.any (dQ (bD (oW (d:=.int n) (Q:=fun f s'=>f= .next∧wpAny (model prog w) A (execs _ _) _ _ s') F ?_ fun v' s₁ F₁ mu₁ h1=>⟨rfl,dQ (bD (oW (d:=.int 100) (Q:=fun f s'=>f= .next∧wpAny (model prog w) A (execs _ _) _ _ s') F₁ (eE 100) fun t' s₂ F₂ mu₂ h2=>⟨rfl,fJ (fJ (q s₂ v' t' F₂ (mu₁.trans mu₂) (h1.nx (F₁.nx mu₂)) h2))⟩).out (fun f s' h=>by obtain⟨rfl,h⟩:=h;exact h) fun j j e=>e)⟩).out (fun f s' h=>by obtain⟨rfl,h⟩:=h;exact h) fun j j e=>e)))
 refine f5 (kF kw) (aT (aX (F.loc hm) hx) (aT (eE 10) bF)) fun Y y vs hy hb hvs=>.mk fun Z z hz hbz Q' E' q'=>?_
 (refine mF (Ch hvs) fun a b e_0=>?_;subst e_0;refine fun ha hb'=>?_)
 (refine bK (Is.of_str ha) fun t e_0=>?_;subst e_0)
 (refine bK (Is.of_int hb') fun t' e_0=>?_;subst e_0)
 exact EJ hn hl (q' _ _ (d9 z _) (Is.int _ _))
theorem ED{outer:List Env}(kw:KW V (kz w) mg mb X s.heap)(F:fU V u (oF L) X s m cm)(hh:A.handled=none)(hfr:A.frames=some (oF L::outer))(fv:Cu V (oF L::outer))
  (hm:m sv=some vv)(hx:Is V X s.heap vv (.str x))(ha:∀c∈x.cps.toList,c<128)(hnum:∀c∈x.cps.toList,(c<48∨57<c)∧c≠95)(hl:x.length≤640)(hz:(reprText x).length≤sizeLine)
  (q:∀s' t',fU V u (oF L) X s' (fun z=>if z=Lh then some t' else m z) cm→Mu V (nB (oF L)) s s'→Is V X s'.heap t' (.int (u4 x))→Q .next s')(hline:autoParam ((p13.endLine==p16.line)=true) rf):
  WC prog w A (exec (J6 p1 p2 p3 p4 p5 p6 p7 p8 p9 p10 p11 p12 p13 p14 p15 p16 p17 p18 p19 k1 k2 k3) (oF L)) Q E s:=by
 refine GC (jR (AE ?_))
 refine .eq (t':=(do callWith p5 (←eval (.Name (aA "int") p2) (oF L)) [] (backTo p5 (starEach [.Name sv p3,.Constant (.int 10) k1 p4] (oF L))) (backToKw p5 (keywordEach [] (oF L))))) rfl ?_
 refine .seq ((kF kw).run F.bd fun f s₁ k₁ hf=>?_)
 cases (hf:f= .type "int")
 have F₁:=F.keep k₁
 refine vV rfl (iM ?_)
 refine((aT (aX (F₁.loc hm) (hx.keep (a7 k₁))) (aT (eE 10) bF)).run F₁.bd fun vs s₂ k₂ hvs=>?_)
 (refine mF (Ch hvs) fun a b e_0=>?_;subst e_0;refine fun ha' hb'=>?_)
 (refine bK (Is.of_str ha') fun t e_0=>?_;subst e_0)
 (refine bK (Is.of_int hb') fun t' e_0=>?_;subst e_0)
 have k₁₂:=aN k₁ k₂
 have F₂:=F.keep k₁₂
 refine Cx hh hl (CM ha hnum) hz fun h' tk e rf=>?_
 refine Gn (V:=V) (L:=L) F₂.bd.two (s:={s₂ with heap:=h',toks:=tk}) rf hfr fv rfl fun h'' kp ty hne tr=>?_
 have k₃:Keeps V s₂ {s₂ with heap:=h'',toks:=tk}:=⟨h'',tk,rfl,kp⟩
 have k₁₃:=aN k₁₂ k₃
 have kw₃:=kw.nx (gM.of_keeps (X:=X) k₁₃).nx
 refine wpAny_handleBy_builtin (X:="ValueError") (T:="ValueError") (b:=true) IN GE IM (LD kw₃ ⟨rfl,ty,?_⟩)
 refine aM (if_pos rfl) ?_
 refine Du (V:=V) (s:={s₂ with heap:=h'',toks:=tk}) F₂.bd.two kp tr fun h₄ kp₄ ty₄=>?_
 have k₄:Keeps V s₂ {s₂ with heap:=h₄,toks:=tk}:=⟨h₄,tk,rfl,kp₄⟩
 have k₁₄:=aN k₁₂ k₄
 have F₄:=F.keep k₁₄
 have kw₄:=kw.nx (gM.of_keeps (X:=X) k₁₄).nx
 have hx₄:=hx.keep (a7 k₁₄)
 refine dQ (bD (oW (d:=.int (u4 x)) (Q:=fun f s'=>f= .next∧wpAny (model prog w) _ (execs _ _) _ _ s') F₄ (G4 kw₄ (kH kw₄) (aX (F₄.loc hm) hx₄) (eE 0) (hline:=hline)) fun v' s₅ F₅ mu₅ h5=>⟨rfl,fJ (q s₅ v' F₅ ((Mu.of_keeps k₁₄).trans mu₅) h5)⟩).out (fun f s' h=>by obtain⟨rfl,h⟩:=h;exact h) fun j j e=>e)
end
structure Kx(V:List Addr)(prog:fL)(w:cN)(A:jK)(X₀:List Addr)(s₀:aH)(t:Sem aG)(P:Hp V aG):Prop where
 go:∀X s,gM V X₀ s₀ X s→Bd V X s→∀(Q:aG→aH→Prop) (E:aG→aH→Prop),(∀a s',Keeps V s s'→P.p X s'.heap a→Q a s')→WC prog w A t Q E s
noncomputable def Fx:fB→Int
 | .num _=>100
 | .txt r=>u4 ⟨r.toArray⟩
noncomputable def tT(r:fB):List aY:=[.int (Fx r),r.data]
noncomputable def jV(rs:List fB):List aY:=rs.flatMap tT
noncomputable def mK(v:Str):List aY:=tT (nZ v.cps.toList)
theorem Hd{x:Str}(ha:∀c∈x.cps.toList,c<128):((Re.kI x).filter Re.rH).flatMap mK=jV (fE x.cps.toList):=by
 unfold fE jV mK
 (refine gU (Re.Ja ha) ?_;rw[mX,mX])
theorem H8(rs:List fB):(jV rs).length=2*rs.length:=by
 unfold jV
 induction rs with
 |nil=>rfl
 |cons r rs ih=>refine aM gG (aM b4 (aM ih ?_));simp[tT];simp+arith only[]
theorem Ep{h:Heap}:∀l:List (Str×Tok),cA V X h (strValues l) ((l.map (·.1)).map .str)
 |[]=>.nil
 |(x,t)::r=>.cons (.str x t) (Ep r)
theorem G5{o e:Expr}{apos pos:Pos}{x:Str}(kw:KW V (kz w) mg mb X s.heap)(ho:Pu V prog w A X s (eval o env) (Ex (.ref 49)))(he:Pu V prog w A X s (eval e env) (Dt (.str x)))(hx:x.cps.size≤1000)
  (hbase:autoParam (attributeBase o ("split":Str) env (eval o env)=eval o env) rf)(hs:autoParam (starEach [e] env=[(false,eval e env)]) rf)(hline:autoParam ((apos.endLine==pos.line)=true) rf):
  Pu V prog w A X s (eval (.Call (.Attribute o ("split":Str) apos) [e] [] pos) env) (Dt (.list ((Re.kI x).map .str))):=
 .mk fun Y u hu hb Q E q=>Call_method1 hbase hs hline (ho.go Y u hu hb _ E fun v u₁ k₁ hv=>by
  cases (hv:v= .ref 49)
  have kw₁:=(kw.nx hu.nx).nx (gM.of_keeps (X:=Y) k₁).nx
  refine⟨"re.Pattern","re.Pattern.split",Re.KT,Re.KE,Re.Jz,⟨_,kw₁.get rfl,rfl⟩,fun a' ha'=>(by obtain rfl:=fN ha';exact⟨_,kw₁.get rfl,rfl⟩),?_⟩
  refine f6 rfl (iM (fW (he.go Y u₁ (hu.trans (.of_keeps k₁)) (hb.keeps k₁) _ _ fun v s₂ k₂ hv=>fK ?_)))
  have kw₂:=kw₁.nx (gM.of_keeps (X:=Y) k₂).nx
  (refine bK (Is.of_str hv) fun t e_0=>?_;subst e_0)
  refine call_meets Re.KE ⟨_,kw₂.get (a:=49) rfl,rfl⟩ Re.Jk (Re.Ko _ _) (Re.J9 49 48 x t _ _ _ _ _ _ (by decide+kernel) hx) ⟨kw₂.get rfl,kw₂.get rfl,fun l k hl hz=>?_⟩
  refine q _ _ (aN k₁ (aN k₂ (lU fun z z e=>aP _ e))) ?_
  have:=Ep (V:=V) (X:=Y) (h:=s₂.heap.push {cls:=.type "list",data:=.seq (strValues l).toArray}) l
  rw[hl]at this
  exact Is.list ((hb.keeps k₁).keeps k₂).fresh (aW _ rfl) rfl rfl (this))
theorem Hw{x:Str}{px pos:Pos}{e:Expr}{P:Hp V aG}{Q:Flow→aH→Prop}{E:aG→aH→Prop}(F:fU V u env X s m cm)(h:Pu V prog w A X s (eval e env) P)(hP:∀{X X':List Addr} {s s':aH} {v:aG},Nx V X s X' s'→P.p X s.heap v→P.p X' s'.heap v)
  (q:∀v s',fU V u env X s' (fun z=>if z=x then some v else m z) cm→Mu V (nB env) s s'→P.p X s'.heap v→Q .next s')
  (hs:autoParam (swapsWith e (some (.Name x px)) pos.line env=pure false) rf)(hk:autoParam (env.scope.kind= .function) rf)(hx:autoParam (env.kindOf x=some .local) rf):WP prog w A (exec (.Assign [.Name x px] e pos) env) Q E s:=
 .mk<|i7 (h.run F.bd fun v s₁ k₁ hv=>gN hx (keeps_ns k₁ F.l2 F.ns) (fun h' hn' hs'=>by
  have mu:Mu V [env.locals] s₁ {s₁ with heap:=h',toks:=s₁.toks+1}:=AR F.l2 hn' hs'
  have nx:Nx V X s₁ X {s₁ with heap:=h',toks:=s₁.toks+1}:=mu.nx fun a ha=>by replace ha:=kQ ha;subst ha;exact F.lx
  exact q v _ ((F.keep k₁).setL mu hn') ((Mu.of_keeps k₁).trans (vY mu)) (hP nx hv)) (by refine aM hk ?_;rfl)) hs
theorem yV{L:Addr}{env:Env}{l:List Env}(f:Cu V l)(hk:env.scope.kind≠.module)(hf:env.frame=some L)(h2:L≠2):Cu (L::V) (env::l):=fun e he=>by
 rcases nR he with rfl|he
 ·exact⟨hk,L,hf,aF,h2⟩
 ·obtain⟨a,M,b,c,d⟩:=f e he
  exact⟨a,M,b,aC _ c,d⟩
theorem Ez{α:Type}(l:List α)(i:Nat)(a:α)(h:l[i]?=some a):l.take (i+1)=l.take i++[a]:=by refine aM l6 (aM h ?_);rfl
theorem Jh{x:aG}{n:Nat}{t:Str}{fr:List Env}(kw:KW V (kz w) mg mb X s.heap)(r:dK A (n+2))(hfr:A.frames=some fr)(fv:Cu V fr)(hx:Is V X s.heap x (.str t))(ha:∀c∈t.cps.toList,c<128)(hz:t.length≤600):
  Kx V prog w A X s (call (.ref 57) [x]) (Dt (.list (jV (fE t.cps.toList)))):=by
 refine .mk fun Y u hu hb Q E q=>?_
 have kwu:=kw.nx hu.nx
 have hxu:=hx.nx hu.nx
 refine Cy oF kwu r hb (ho:=rfl) (by rfl) (by rfl) (binds:=[("version",x)]) (by rfl) (by rfl) ?_ (fun L=>rfl) ?_
 ·intro L y hy;replace hy:=kQ hy;subst hy;exact .inl rfl
 intro L s₁ hL k₁ nx F
 have inV:∀a,a∈(L::V)++kD (oF L) Y→a∈V++kD (oF L) Y:=fun a h=>by
  rcases eX h with h|h
  ·rcases r4 h with rfl|h
   ·exact aJ _ aF
   ·exact aL _ h
  ·exact aJ _ h
 have kw₁:KW (L::V) (kz w) mg mb (kD (oF L) Y) s₁.heap:=(kwu.nx nx).toV inV
 have hx₁:Is (L::V) (kD (oF L) Y) s₁.heap x (.str t):=(hxu.nx nx).toV inV
 have hfr':(A.deeper (oF L)).frames=some (oF L::fr):=by simp only[Around.deeper,hfr];rfl
 have fv':Cu (L::V) (oF L::fr):=yV fv (fun h=>by cases h) rfl F.l2
 refine m8 (Hw (P:=Ex (.ref 49)) F (kH kw₁) (fun z h=>h) fun v s₂ F₂ mu₂ hv=>⟨rfl,?_⟩)
 cases (hv:v= .ref 49)
 have kw₂:=kw₁.nx (F.nx mu₂)
 have hx₂:=hx₁.nx (F.nx mu₂)
 refine m8 (GQ F₂ (fun s₃ l F₃ n₃ mu₃ hl hln O₃=>⟨rfl,?_⟩) (.inl rfl))
 have kw₃:=kw₂.nx n₃
 have hx₃:=hx₂.nx n₃
 have hps:∀v∈Re.kI t,Re.rH v=true→Er v.cps.toList∧(∀c∈v.cps.toList,c<128)∧v.length≤600:=fun v hv hk=>by
  have hm:v.cps.toList∈(i0 t.cps.toList).1:=by
   refine gU (Re.Ja ha) ?_
   exact bQ (List.mem_filter.mpr ⟨hv,hk⟩)
  refine jM ((oN t.cps.toList).1 _ hm) fun a b c=>?_
  refine⟨a,fun y hy=>ha y (b y hy),?_⟩
  have e1:t.cps.toList.length=t.length:=bM
  have e2:v.cps.toList.length=v.length:=bM
  exact aD (aD (aD (aU e2.symm) c) (aU e1)) hz
 have hcnt:((Re.kI t).filter Re.rH).length≤600:=by
  have e:=congrArg List.length (Re.Ja ha)
  rw[aQ]at e
  refine aM e ?_
  have:=(oN t.cps.toList).2.2
  have e1:t.cps.toList.length=t.length:=bM
  exact aD (aD this (aU e1)) hz
 have hsz:∀i,((((Re.kI t).take i).filter Re.rH).flatMap mK).length≤1200:=fun i=>by
  have h1:(((Re.kI t).take i).filter Re.rH).length≤600:=aD (((List.take_sublist i _).filter _).length_le) hcnt
  have h2:∀l:List Str,(l.flatMap mK).length=2*l.length:=fun l=>by
   induction l with
   |nil=>rfl
   |cons a l ih=>refine aM gG (aM b4 (aM ih ?_));simp[mK,tT];simp+arith only[]
  rw[h2];exact aD (kK (bO _) h1) (by decide)
 refine qH (Jx F₃ (P:=Dt (.list ((Re.kI t).map .str))) (G5 kw₃ (eQ (F₃.loc rfl)) (aX (F₃.loc rfl) hx₃) (aD (by assumption) (by decide))) (hW r.handled) (l::nB (oF L)) ?_ (fun b hb=>aC _ hb)
   (fun X' i m' cm' s'=>iI (L::V) X' u s' l ((((Re.kI t).take i).filter Re.rH).flatMap mK)∧m' (aA "result")=some (.ref l))
   (IE (L::V) (oF L) sv _) (t8 (cls:="list_iterator") rfl (.inl rfl)) ?_ ?_ ?_ ?_)
 ·intro b hb
  rcases r4 hb with rfl|hb
  ·exact O₃.lx
  ·exact F₃.inA b hb
 ·(intro X' X'' i m' cm' t₁ t₂ i1 i2 nn kk q_1;refine gE q_1 fun O h1=>?_)
  exact⟨O.nx nn (i2 _ O₃.lx) fun ob e=>kk l ob O₃.lx O₃.lV (O₃.notA F₃) e,h1⟩
 ·intro X' s' hw
  exact⟨O₃.nx hw.nx (hw.inc _ O₃.lx) fun ob e=>a7 hw.keeps _ ob O₃.lV e,rfl⟩
 ·rintro i X' s₄ m₀ cm₀ m' cm' Q' hi inX nn F₄ ⟨vs,rfl,rfl,hs⟩ ⟨O₄,h1⟩ q1 q2
  have hi':i<(Re.kI t).length:=by simpa using hi
  have hpi:(Re.kI t)[i]?=some (Re.kI t)[i]:=bC hi'
  have hmem:(Re.kI t)[i]∈Re.kI t:=f9 hi'
  have htk:=Ez _ i _ hpi
  have hsD:Is (L::V) X' s₄.heap vs (.str (Re.kI t)[i]):=by
   have:(((Re.kI t).map iH)[i]?).getD PyData.none=iH (Re.kI t)[i]:=by simp[hi']
   exact Eq.mp (congrArg (fun d=>Is (L::V) X' s₄.heap vs d) this) hs
  have hle:=hsz i
  generalize hgp:(Re.kI t)[i]=pc at*
  have kw₄:KW (L::V) (kz w) mg mb X' s₄.heap:=kw₃.nx nn
  have hstep:((((Re.kI t).take (i+1)).filter Re.rH).flatMap mK)=((((Re.kI t).take i).filter Re.rH).flatMap mK)++if Re.rH pc then mK pc else[]:=by
   (refine aM htk ?_;rewrite[dP];refine aM i4 ?_)
   cases hk:Re.rH pc<;>simp[hk]
  refine qH (EP ((CE (x:=aA "._+-") (y:=pc) (aX (F₄.loc rfl) hsD) (gO _)).run F₄.bd fun b s₅ k₅ hb5=>⟨fun e=>?_,fun e=>?_⟩))
  ·have hk:Re.rH pc=true:=by refine gU e ?_;exact hb5.symm
   rw[hk,if_pos rfl]at hstep
   refine jM (hps pc hmem hk) fun ok hasc hlen=>?_
   have F₅:=F₄.keep k₅
   have O₅:=O₄.keep k₅
   have kw₅:=kw₄.nx (gM.of_keeps (X:=X') k₅).nx
   have hs₅:=hsD.keep (a7 k₅)
   have fin:∀(s₆ s₇:aH) (d1 d2:aY) (m6:Str→Option aG),mK pc=[d1,d2]→fU (L::V) u (oF L) X' s₇ m6 cm'→m6 (aA "result")=some (.ref l)→Mu (L::V) (nB (oF L)) s₅ s₆→Mu (L::V) [l] s₆ s₇→
     iI (L::V) X' u s₇ l (((((Re.kI t).take i).filter Re.rH).flatMap mK)++[d1,d2])→Q' .next s₇:=fun s₆ s₇ d1 d2 m6 hcp F₇ hr mu₆ mu₇ O₇=>by
    refine q1 s₇ m6 cm' F₇ ?_ ⟨?_,hr⟩
    ·exact(Mu.of_keeps k₅).trans ((mu₆.more fun a h=>aC _ h).trans (mu₇.more fun a h=>by replace h:=kQ h;simp[h]))
    ·refine aM hstep (aM hcp ?_);exact O₇
   have hv5:(q9 (oF L) sv vs m₀) sv=some vs:=rfl
   by_cases hd:kd (pc.cps.toList.headD 0)=1
   ·have hdig:NumText.AllDigits pc.cps.toList:=fun c hc=>HI (by refine aM (ok.all c hc) ?_;exact hd)
    have hrun:nZ pc.cps.toList= .num (gX pc.cps.toList):=by unfold nZ;exact aM (if_pos hd) rfl
    refine qH (Ck (n:=(gX pc.cps.toList:Nat)) kw₅ F₅ hv5 hs₅ (intText_digits hdig (ok.ne) (aD (by assumption) (by decide))) (aD (by assumption) (by decide)) fun s₆ v' t' F₆ mu₆ h1' h2'=>⟨rfl,EO (xU F₆ (O₅.muA F₅ mu₆) (eQ (F₆.loc (x:=aA "result") (v:=.ref l) h1)) (aX (F₆.loc rfl) h2') (aX (F₆.loc rfl) h1') (aD (by assumption) (by decide)) fun s₇ F₇ mu₇ O₇=>⟨rfl,jN (fin s₆ s₇ _ _ _ (by unfold mK;refine aM hrun ?_;rfl) F₇ h1 mu₆ mu₇ O₇)⟩)⟩)
   ·have hk2:∀c∈pc.cps.toList,kd c=2:=fun c hc=>by
     have h1:=ok.all c hc
     have h2:=ok.k
     have h3:=C1 c
     lia
    have hrun:nZ pc.cps.toList= .txt pc.cps.toList:=by unfold nZ;exact aM (if_neg hd) rfl
    refine qH (ED kw₅ F₅ r.handled hfr' fv' hv5 hs₅ hasc (fun c hc=>?_) (aD (by assumption) (by decide)) ?_ (fun s₆ t' F₆ mu₆ h1'=>⟨rfl,EO (xU F₆ (O₅.muA F₅ mu₆) (eQ (F₆.loc (x:=aA "result") (v:=.ref l) h1)) (aX (F₆.loc rfl) h1') (aX (F₆.loc rfl) (hs₅.nx (F₅.nx mu₆))) (aD (by assumption) (by decide)) fun s₇ F₇ mu₇ O₇=>⟨rfl,jN (fin s₆ s₇ _ _ _ (by unfold mK;refine aM hrun ?_;rfl) F₇ h1 mu₆ mu₇ O₇)⟩)⟩))
    ·have:=hk2 c hc
     unfold kd at this
     split at this
     ·nomatch this
     ·split at this
      ·nomatch this
      ·lia
    ·have:=StrLaws.reprText_len pc (fun c hc=>cK (hasc c hc) (by decide))
     refine aM bV ?_;lia
  ·have hk:Re.rH pc=false:=by refine gU e ?_;exact hb5.symm
   rw[hk]at hstep
   simp only[jI,if_false,fC]at hstep
   refine jN ⟨rfl,jN (q1 s₅ _ cm' (F₄.keep k₅) (Mu.of_keeps k₅) ⟨?_,h1⟩)⟩
   refine aM hstep ?_;exact O₄.keep k₅
 ·rintro s₄ m' cm' nn _ F₄ ⟨O₄,h1⟩
  refine⟨rfl,?_⟩
  rw[aQ,jC,Hd ha]at O₄
  have F₅:=F₄.less (X':=kD (oF L) Y) (fun a h=>aC _ h) fun a h=>aL _ h
  have hrs:Is (L::V) (kD (oF L) Y) s₄.heap (.ref l) (.list (jV (fE t.cps.toList))):=O₄.is (fun a h=>aC _ h) hl
  refine .any (qK F₅ (aX (F₅.loc (x:=aA "result") (v:=.ref l) h1) hrs) fun v s₅ F₆ mu₆ hv=>?_).out
  exact q v s₅ (F7 F₆.keeps hL (F₆.bd.two.tail hb.two.two)) (hv.toV fun a h=>by
   rcases eX h with h|h
   ·exact aL _ (aC _ h)
   ·exact aJ _ (aJ _ h))
theorem HZ(w:cN):specialIn (kz w) (.ref 126) "__call__"=some (some (.builtin "type.__call__")):=by kernel_rfl
theorem HX(w:cN):findIn (kz w) (.ref 126) "__init__"=some (some (.builtin "collections.defaultdict.__init__")):=by kernel_rfl
theorem o0{K:Frag}{M:Model}{h:Heap}(x:K.In h){C:Addr}{cd:ClassData}(e:clsIn K C=some cd):dT M h (mroOf (.ref C)) cd.mro:=(looks_clsIn x e).andThen .now
noncomputable def yY:ClassData:={name:=aA "FreezableDefaultDict",bases:=[Value.type "collections.defaultdict"],mro:=[cR 126,Value.type "collections.defaultdict",Value.type "dict",Value.type "object"],ns:=125,qualname:=aA "FreezableDefaultDict",slotNames:=[aA ""]}
theorem sL(w:cN):clsIn (kz w) 126=some yY:=by kernel_rfl
theorem yZ:entryFor table "dict.__new__"=some Builtin.«dict.__new__»:=gZ (by kernel_rfl)
theorem z4:entryFor table "collections.defaultdict.__init__"=some Builtin.«collections.defaultdict.__init__»:=gZ (by kernel_rfl)
section
variable {Q:aG→aH→Prop}
theorem v8{h:Heap}(k:(kz w).In h):dT (model prog w) h (Bind.madeBy (.ref 126)) (some "dict.__new__"):=cH k (by kernel_rfl)
theorem zW{h:Heap}(k:(kz w).In h)(fac:aG):dT (model prog w) h (checkBuiltinCall "dict.__new__" ⟨[.ref 126,fac],[]⟩) ():=cH k (by unfold checkBuiltinCall;rw[eP];kernel_rfl)
theorem Ay{h:Heap}(k:(kz w).In h):dT (model prog w) h (isType (.ref 126)) true:=cH k (by kernel_rfl)
theorem jT{h:Heap}(k:(kz w).In h):dT (model prog w) h (isSubtype (.ref 126) (.type "dict")) true:=cH k (by kernel_rfl)
theorem uG{h:Heap}(k:(kz w).In h):dT (model prog w) h (isSubtype (.ref 126) (.ref 126)) true:=cH k (by kernel_rfl)
theorem JQ(w:cN):instIn (kz w) (.ref 126) (.type "type")=some true:=by kernel_rfl
noncomputable abbrev fY(d:Addr)(es:Array fD)(ep:Nat)(fac:aG):Obj:={cls:=.ref 126,dict:=some d,data:=.dict es ep,slots:=#[some fac]}
noncomputable abbrev uY(d:Addr):Obj:={cls:=.ref 126,dict:=some d,data:=.dict #[]}
noncomputable abbrev kR:Obj:={cls:=.type "dict",data:=.dict #[]}
theorem Ip{R:iR→aH→Prop}{hp:Heap}{g d tk os}(k:(kz w).In hp)(fac:aG)
  (q:R (.ok (.ret (.ref (hp.push kR).objs.size))) ⟨(hp.push kR).push (uY hp.objs.size),g,d,tk,os⟩):codeAny (model prog w) A (.call (.builtin "dict.__new__") ⟨[.ref 126,fac],[]⟩) R ⟨hp,g,d,tk,os⟩:=by
 have f126:=k 126 _ (by rfl)
 have hm:=o0 (M:=model prog w) k (sL w)
 refine cM (by decide+kernel) yZ ((zW k fac).at ?_)
 have i1:=Ay (prog:=prog) (w:=w) k
 have i2:=jT (prog:=prog) (w:=w) k
 repeat (first|lk)
 refine nd_load (by heap_get) ?_
 repeat (first|lk)
 exact q
theorem yB:Manifest.owners.lookup (String.ofList ['t','c','i','d','t','l','u','a','f','e','d','.','s','n','o','i','t','c','e','l','l','o','c'].reverse)=some Manifest.sig_collections_defaultdict:=by kernel_rfl
theorem BS(a b:aG):argsOk "collections.defaultdict.__init__" ⟨[a,b],[]⟩:=by
 unfold argsOk;rw[signature?_of (id:="collections.defaultdict.__init__") (n:=['_','_','t','i','n','i','_','_']) (o:=['t','c','i','d','t','l','u','a','f','e','d','.','s','n','o','i','t','c','e','l','l','o','c']) (by kernel_rfl) yB];kernel_rfl
theorem BC:builtinKind "collections.defaultdict.__init__"=some .slot:=by decide+kernel
theorem zK:splitId "collections.defaultdict.__init__"=some ("collections.defaultdict","__init__"):=by decide+kernel
theorem rG{h:Heap}(k:(kz w).In h):dT (model prog w) h (isSubtype (.ref 126) (.type "collections.defaultdict")) true:=cH k (by kernel_rfl)
theorem oZ{h:Heap}(k:(kz w).In h):dT (model prog w) h (isSubtype (.ref 126) (.type "collections.OrderedDict")) false:=cH k (by kernel_rfl)
theorem HP{R:iR→aH→Prop}{hp:Heap}{g dr tk os}{a d:Addr}{c:aG}(k:(kz w).In hp)(kk:∀h',bY a hp h'→(kz w).In h'){fac:aG}(hf:fac≠.none)(hc:dT (model prog w) hp (specialOf fac "__call__") (some c))(ha:hp.get? a=some (uY d))
  (q:∀h',h'.get? a=some (fY d #[] 0 fac)→bY a hp h'→R (.ok (.ret .none)) ⟨h',g,dr,tk,os⟩):codeAny (model prog w) A (.call (.builtin "collections.defaultdict.__init__") ⟨[.ref a,fac],[]⟩) R ⟨hp,g,dr,tk,os⟩:=by
 have ty:dT (model prog w) hp (typeOf (.ref a)) (.ref 126):=(nM ha).andThen .now
 have hi:dT (model prog w) hp (isInstance (.ref a) (.type "collections.defaultdict")) true:=ty.andThen (rG k)
 refine cM (id:="collections.defaultdict.__init__") (b:=Builtin.«collections.defaultdict.__init__») (by decide+kernel) z4 ?_
 refine @nL (model prog w) _ _ _ "collections.defaultdict.__init__" "collections.defaultdict" "__init__" (.ref a) [fac] [] _ BC zK hi (BS _ _) ?_
 have hf':(fac != .none)=true:=by cases fac<;>first|exact absurd rfl hf|rfl
 unfold Builtin.«collections.defaultdict.__init__»
 dsimp only[List.head?]
 refine dN (decide_eq_true hf') ?_
 refine aB (hc.at ?_)
 refine bP rfl ?_
 repeat (first|lk)
 have hne:(some (((#[]:Array (Option aG))[0]?).join.getD dY) !=some fac)=true:=by
  have:(((#[]:Array (Option aG))[0]?).join.getD dY)= .none:=rfl
  refine aM this ?_
  cases fac<;>first|exact absurd rfl hf|rfl
 refine dN (decide_eq_true hne) ?_
 refine aB (bE (a:=()) rfl ?_)
 unfold setSlotAt
 refine bP (decide_eq_false (by refine aM bV ?_;decide)) ?_
 refine wpAny_updatePart ha ?_
 have h2:(hp.update a fun o=>{o with slots:=(o.slots++Array.replicate (0+1-o.slots.size) none).setIfInBounds 0 (some fac)}).get? a=some (fY d #[] 0 fac):=cW _ ha rfl
 have sb:bY a hp (hp.update a fun o=>{o with slots:=(o.slots++Array.replicate (0+1-o.slots.size) none).setIfInBounds 0 (some fac)}):=cU ..
 generalize (hp.update a fun o=>{o with slots:=(o.slots++Array.replicate (0+1-o.slots.size) none).setIfInBounds 0 (some fac)})=h₂ at*
 have q':=q h₂ h2 sb
 refine aB (a8 (wpAny_runValue ?_))
 refine gS F.entry_dict_init ?_
 rw[d7 (by decide+kernel)]
 unfold Builtin.«dict.__init__»
 dsimp only[List.drop]
 have n2:=oZ (prog:=prog) (kk h₂ sb)
 repeat (first|lk)
 exact q'
set_option maxHeartbeats 1000000 in
theorem CU{fac c:aG}(k:(kz w).In s.heap)(hf:fac≠.none)(hc:dT (model prog w) s.heap (specialOf fac "__call__") (some c))
  (q:∀h' a d,h'.get? a=some (fY d #[] 0 fac)→h'.get? d=some kR→s.heap.get? a=none→s.heap.get? d=none→a≠d→a≠sysModules→(∀b o,s.heap.get? b=some o→h'.get? b=some o)→Q (.ref a) {s with heap:=h'}):
  wpAny (model prog w) A (call (.ref 126) [fac]) Q E s:=by
 have f126:=k 126 _ (by rfl)
 obtain⟨hp,g,d,tk,os⟩:=s
 dsimp only at k f126 hc q
 refine dR (oI ?_)
 refine nd_load f126 ?_
 refine(?_:wpAny _ _ (callAny.viaDunder (.ref 126) _) _ _ _)
 refine aB ((looks_specialIn k (HZ w)).at ?_)
 dsimp only
 rw[tc_bind]
 refine aB (aE (aB (aE ?_)))
 refine aE (a:=Fin.again (.call (.builtin "type.__call__") ⟨.ref 126::[fac],[]⟩)) (m7 rfl ?_)
 refine codeAny_call_builtin_at (jH _ (by decide+kernel)) entry_typeCall (nL tc_kind tc_split (looks_instIn k (JQ w)) (tc_args _ _ _) ?_)
 generalize A.under (.builtin "type.__call__" ⟨[.ref 126,fac],[]⟩)=A'
 have hm:=o0 (M:=model prog w) k (sL w)
 have made:=v8 (prog:=prog) (w:=w) k
 repeat (first|with_reducible refine dR ?_|lk)
 refine Ip k fac ?_
 have hk:∀b o,hp.get? b=some o→((hp.push kR).push (uY hp.objs.size)).get? b=some o:=fun b o e=>aP _ (aP _ e)
 have k2:=k.keeps hk
 have hc2:=hc.keeps hk
 have ha:((hp.push kR).push (uY hp.objs.size)).get? (hp.push kR).objs.size=some (uY hp.objs.size):=aW _ rfl
 have hd:((hp.push kR).push (uY hp.objs.size)).get? hp.objs.size=some kR:=aP _ (aW _ rfl)
 have hna:hp.get? (hp.push kR).objs.size=none:=gB (by rw[fZ];exact gT _)
 have hnd:hp.get? hp.objs.size=none:=dG _
 have hne:(hp.push kR).objs.size≠hp.objs.size:=by rw[fZ];exact Nat.succ_ne_self _
 have hsy:(hp.push kR).objs.size≠sysModules:=by have: @LT.lt Nat _ 126 _:=eL f126;rw[fZ];refine(?_:hp.objs.size+1≠1);exact jA (cK (cK (by decide) this) (cI _))
 generalize (hp.push kR).push (uY hp.objs.size)=h2 at*
 generalize (hp.push kR).objs.size=a at*
 generalize hp.objs.size=dd at*
 have t1:dT (model prog w) h2 (typeOf (.ref a)) (.ref 126):=(nM ha).andThen .now
 have s1:=uG (prog:=prog) (w:=w) k2
 have i1:=dW (M:=model prog w) k2 (HX w)
 repeat (first|with_reducible refine dR ?_|lk)
 refine HP k2 (fun h' sb b o e=>sb.extBut b o (fun z=>by have:=k b o e;rw[z,hna]at this;nomatch this) (k2 b o e)) hf hc2 ha fun h' e sb=>?_
 refine aE (aE ?_)
 exact q h' a dd e (sb.extBut _ _ (eH hne) hd) hna hnd hne hsy fun b o eb=>sb.extBut b o (fun z=>by rw[z,hna]at eb;nomatch eb) (hk b o eb)
end
noncomputable abbrev wB:Str:=aA "_frozen"
theorem Kc(w:cN):findIn (kz w) (.ref 126) "__setattr__"=some (some (.builtin "object.__setattr__")):=by kernel_rfl
theorem Eb(w:cN):findIn (kz w) (.ref 126) "__getattribute__"=some (some (.builtin "collections.defaultdict.__getattribute__")):=by kernel_rfl
theorem wG:Manifest.canonical "collections.defaultdict.__getattribute__"="object.__getattribute__":=by rw[eP];decide+kernel
theorem BL(w:cN):findIn (kz w) (.ref 126) "__getattr__"=some none:=by kernel_rfl
theorem Ec(w:cN):findIn (kz w) (.ref 126) wB=some none:=by kernel_rfl
theorem Fp(w:cN):findIn (kz w) (.ref 126) (aA "freeze")=some (some (.ref 123)):=by kernel_rfl
theorem L6(w:cN):typeIn (kz w) (.ref 123)=some (.type "function"):=by kernel_rfl
theorem Kd(w:cN):mroIn (kz w) 126 (.type "object")=some true:=by kernel_rfl
theorem Fn(self:aG):refuseLoop self "__setattr__" yY.mro=pure ():=by kernel_rfl
theorem Dm(w:cN):(clsIn (kz w) 126).any (·.hasDict)=true:=by kernel_rfl
theorem Ft:entryFor table "collections.defaultdict.__getattribute__"=some Builtin.«object.__getattribute__»:=
 entryFor_alias (id':="object.__getattribute__") (by rw[i8];kernel_rfl) (by decide+kernel) (by rw[eP];decide+kernel) (by rw[i8];kernel_rfl)
theorem HG:builtinKind "collections.defaultdict.__getattribute__"=some .slot:=by decide+kernel
theorem FC:splitId "collections.defaultdict.__getattribute__"=some ("collections.defaultdict","__getattribute__"):=by decide+kernel
theorem FO:plainId "collections.defaultdict.__getattribute__"=true:=by decide+kernel
theorem Hy(a b:aG):argsOk "collections.defaultdict.__getattribute__" ⟨[a,b],[]⟩:=by
 unfold argsOk;rw[signature?_of (id:="collections.defaultdict.__getattribute__") (n:=['_','_','e','t','u','b','i','r','t','t','a','t','e','g','_','_']) (o:=['t','c','i','d','t','l','u','a','f','e','d','.','s','n','o','i','t','c','e','l','l','o','c']) (by kernel_rfl) yB];kernel_rfl
theorem Hq(self:aG):bindSpecial (.builtin "collections.defaultdict.__getattribute__") self=pure (.builtin "collections.defaultdict.__getattribute__",[self]):=by kernel_rfl
section
variable {a d:Addr} {name:Str} {v:aG}
theorem Dw{f:Addr}{pl:Sem Bool}{Q:aG×List aG→aH→Prop}(X:(kz w).In s.heap)(I:InstAt s.heap a ox 126 od)
  (hf:findIn (kz w) (.ref 126) name=some (some (.ref f)))(ht:typeIn (kz w) (.ref f)=some (.type "function"))(hs:shadowIn od name=some false)(h:Q (.ref f,[.ref a]) s):
  wpAny (model prog w) A (getMethod (.ref a) name pl) Q E s:=by
 refine aB (aB (I.type.here ((dW X (Eb w)).here ?_)))
 dsimp only
 refine aM wG (aM (if_neg (by decide)) ?_)
 refine aB (aB (I.type.here ((dW X (BL w)).here ?_)))
 refine aB (aB (I.type.here ((dW X hf).here (aB ((looks_typeIn X ht).here ?_)))))
 refine aM (if_neg (by decide+kernel)) ?_
 refine aB (lF I.at_ ?_)
 have hd:=I.dict
 cases e:ox.dict with
 |none=>exact aB (fT (aE h))
 |some dx=>
  cases od with
  |none=>replace hd:=e▸hd;exact hd.elim
  |some o=>
   replace hd:=e▸hd
   refine bG (Option.map_eq_some_iff.mp hs) fun r a b=>?_
   refine aB (aB (lF hd ?_))
   refine aM (nsLook_of a) ?_
   refine aE ?_
   refine aM b ?_
   exact aB (fT (aE h))
theorem yX{fill expr:Bool}{Q:aG→aH→Prop}(X:(kz w).In s.heap)(I:InstAt s.heap a ox 126 od)
  (h:wpAny (model prog w) A.in1 (Builtin.«object.__getattribute__» ⟨[.ref a,.str name t],[]⟩)
   (fun fin s'=>match fin with| .done (.ret v)=>wpAny (model prog w) A (handedOut v) Q E s'|_=>False)
   (fun e s'=>wpAny (model prog w) A (getattributeRaised (.ref a) (.str name t) (.ref 126) e none fill expr) Q E s') s):
  wpAny (model prog w) A (getAttrBy (.ref a) (.str name t) fill expr) Q E s:=by
 obtain⟨hh,g,dr,tk,os⟩:=s
 have L0:=I.type (M:=model prog w)
 have L1:=dW (M:=model prog w) X (Eb w)
 have L2:=dW (M:=model prog w) X (BL w)
 have hi:dT (model prog w) hh (isInstance (.ref a) (.type "collections.defaultdict")) true:=L0.andThen (rG X)
 refine a8 (aB (L0.at (aB (L1.at ?_))))
 refine(?_:wpAny _ _ (getAttrByItsOwn _ _ _ _ _ _) _ _ _)
 refine aB (L2.at ?_)
 refine aB (iB (a8 ?_))
 unfold callGetattribute
 have:(expr&&onTheHeap (.builtin "collections.defaultdict.__getattribute__"))=false:=by cases expr<;>rfl
 refine aM this (aM (if_neg (by decide)) ?_)
 unfold boundAndCalled
 rw[Hq]
 refine aB (aE ?_)
 dsimp only[mZ,qD]
 refine dR ?_
 refine cM FO Ft ?_
 refine @nL (model prog w) _ _ _ "collections.defaultdict.__getattribute__" "collections.defaultdict" "__getattribute__" (.ref a) [.str name t] [] _ HG FC hi (Hy _ _) ?_
 refine bD h (fun fin s' z=>?_) fun j j z=>z
 rcases fin with (_|_|_|_)|_<;>first|exact z|exact z.elim
theorem Fs{fill expr:Bool}{Q:aG→aH→Prop}(X:(kz w).In s.heap)(I:InstAt s.heap a ox 126 od)
  (hf:findObj (kz w) 126 od name=some (.value v))(hh:handedIn v=true)(h:Q v s):wpAny (model prog w) A (getAttrBy (.ref a) (.str name t) fill expr) Q E s:=by
 refine yX X I ?_
 obtain⟨hh',g,d,tk,os⟩:=s
 have L0:=I.type (M:=model prog w)
 have L1:=looks_find (M:=model prog w) X I hf
 refine aB (aE (aB (aE (aB (L0.at (aB (L1.at ?_)))))))
 refine aE ?_
 refine(?_:wpAny _ _ (handedOut v) _ _ _)
 refine aM (pR hh) ?_;exact aE h
theorem Cc{expr:Bool}{Q:aG→aH→Prop}(X:(kz w).In s.heap)(I:InstAt s.heap a ox 126 od)(hh:A.handled=none)
  (hf:findObj (kz w) 126 od name=some .missing)(hz:name.length≤1000)
  (h:∀h' tk e,Heap.NewAttrErr s.heap h' e (.ref a) name→E (.ref e) {s with heap:=h',toks:=tk}):wpAny (model prog w) A (getAttrBy (.ref a) (.str name t) false expr) Q E s:=by
 refine yX X I ?_
 obtain⟨hh',g,d,tk,os⟩:=s
 have L0:=I.type (M:=model prog w)
 have L1:=looks_find (M:=model prog w) X I hf
 refine aB (aE (aB (aE (aB (L0.at (aB (L1.at ?_)))))))
 refine bP rfl ?_
 refine bP rfl ?_
 have L2:dT (model prog w) hh' (typeNameOfCut 100 (.ref a)) "FreezableDefaultDict":=by
  exact(show dT (model prog w) hh' (shownTypeOf (.ref a)) (.ref 126)from L0.andThen .now).andThen (show dT (model prog w) hh' (typeNameCut 100 (.ref 126)) "FreezableDefaultDict" from cH X (by kernel_rfl))
 refine aB (L2.at ?_)
 refine wpAny_raiseAttrError hh (fun h' tk' e hx=>?_) ?_
 ·refine oL hx.there fun t' u' he=>?_
  have f1:=sub_AttributeError
  repeat (any_goals (first|assumption|wp_step))
  all_goals exact h _ _ _ hx
 ·exact attrMsg_fits (by decide+kernel) (by refine aM bV ?_;exact aD (cY hz (bO _)) (by decide))
end
noncomputable def L7:Option aG→List fD→Prop
 |none,es=>es=[]
 |some v,es=>∃hs t,es=[⟨hs,.str wB t,v⟩]
noncomputable def Dc(h:Heap)(d:Addr)(fz:Option aG):Prop:=∃es n,h.get? d=some (dictOf es n)∧L7 fz es
theorem Dc.at{h h':Heap}{d:Addr}{fz:Option aG}(x:Dc h d fz)(k:∀o,h.get? d=some o→h'.get? d=some o):Dc h' d fz:=fO x fun es n e r=>⟨es,n,k _ e,r⟩
theorem F3{fz:Option aG}{es:List fD}{n:Nat}(x:L7 fz es):lookIn wB (dictOf es n)=some fz:=by
 cases fz with
 |none=>refine aM (show es=[]from x) ?_;rfl
 |some v=>(refine oL x fun hs t e_0=>?_;subst e_0);rfl
theorem vH{fz:Option aG}{es:List fD}{n:Nat}{name:Str}(x:L7 fz es)(hn:(wB==name)=false):lookIn name (dictOf es n)=some none:=by
 cases fz with
 |none=>refine aM (show es=[]from x) ?_;rfl
 |some v=>
  (refine oL x fun hs t e_0=>?_;subst e_0)
  rw[lookIn_dict]
  refine(?_:(match [(⟨hs,.str wB t,v⟩:fD)].find? (fun e=>e.key.isStr name)with|some e=>some (some e.val)|none=>if[(⟨hs,.str wB t,v⟩:fD)].any (·.refKey)then none else some none)=_)
  have:(Value.str wB t).isStr name=false:=hn
  simp only[List.find?_cons,this,List.find?_nil]
  rfl
theorem DN{fz:Option aG}{es:List fD}{n:Nat}{hs:Int}{t:Tok}{v:aG}(x:L7 fz es):∃es' n',Obj.putName wB hs (.str wB t) v (dictOf es n)=dictOf es' n'∧L7 (some v) es'∧es'.length≤1:=by
 cases fz with
 |none=>refine aM (show es=[]from x) ?_;exact⟨[⟨hs,.str wB t,v⟩],n+1,rfl,⟨hs,t,rfl⟩,bO _⟩
 |some v0=>(refine oL x fun h0 t0 e_0=>?_;subst e_0);exact⟨[⟨h0,.str wB t0,v⟩],n,rfl,⟨h0,t0,rfl⟩,bO _⟩
section
variable {a d:Addr} {v:aG}
theorem KG{Q:Unit→aH→Prop}(X:(kz w).In s.heap){es:Array fD}{ep:Nat}{fac:aG}(ha:s.heap.get? a=some (fY d es ep fac))(n:Dc s.heap d fz)
  (h:∀h',Dc h' d (some v)→bY d s.heap h'→Q () {s with heap:=h',toks:=s.toks+1+1}):
  wpAny (model prog w) A (setAttr (.ref a) wB v) Q E s:=by
 refine fO n fun de dn hde hfz=>?_
 have I:InstAt s.heap a (fY d es ep fac) 126 (some (dictOf de dn)):=⟨ha,rfl,rfl,hde⟩
 refine set_plain X I (Kc w) ?_
 obtain⟨hp,g,dr,tk,os⟩:=s
 dsimp only at X I h hde ha⊢
 have SF:=PySem.F.store_object
 have L0:=I.type (M:=model prog w)
 have sub:dT (model prog w) hp (isInstance (.ref a) (.type "object")) true:=L0.andThen (looks_mroIn X (Kd w))
 refine cM SF.slot.plain SF.entry (@nL (model prog w) _ _ _ "object.__setattr__" "object" "__setattr__" (.ref a) [.str wB tk,v] [] _ SF.kind SF.split sub (SF.args (.ref a) (.str wB tk) v) ?_)
 have hm:=o0 (M:=model prog w) X (sL w)
 rw[osa_eq,refuse_eq]
 refine aB (aB (L0.at (aB (hm.at ?_))))
 rw[Fn]
 refine aE (aB (L0.at (aB ((dW X (Ec w)).at ?_))))
 refine aB (aE ?_)
 refine bG (any_some (Dm w)) fun cd hc hd'=>?_
 refine aB (aE (aB (aB (lF ha (aB ((looks_clsIn X hc).at ?_))))))
 refine aM hd' ?_
 refine aE (a:=some d) (aB (aE (aB ?_)))
 refine aB (aB (wpAny_askSetting (aE (aB (wpAny_mkText (aB (lF hde ?_)))))))
 refine mF (DN (n:=dn) (hs:=PyData.keyHash w.params wB) (t:=tk+1) (v:=v) hfz) fun es' n' e1 e2 e3=>?_
 have c:(!de.toArray.any (·.key.isStr wB)&&de.toArray.any (·.refKey))=false:=by
  refine gU Array.any_toList (gU Array.any_toList ?_)
  cases fz with
  |none=>refine aM (show de=[]from hfz) ?_;rfl
  |some v0=>(refine oL hfz fun h0 t0 e_0=>?_;subst e_0);rfl
 dsimp only[dictOf]
 (rewrite[aRefKeyMayBeTheName_at];refine aM c ?_)
 refine wpAny_updatePart hde ?_
 have D':(hp.update d (Obj.putName wB (PyData.keyHash w.params wB) (.str wB (tk+1)) v)).get? d=some (dictOf es' n'):=by
  refine gU e1 ?_;exact cW _ hde (by refine aM e1 ?_;rfl)
 refine aB (wpAny_lookBehind D' (pastItsLine_dict (by refine aM jY (aM bV ?_);exact aD (by assumption) (by decide))) ?_)
 exact aE (h _ ⟨es',n',D',e2⟩ (cU ..))
end
theorem Ek{f:Addr}{vals:List aG}{oc:aG}{od:Option Addr}{osl:Array (Option aG)}{fd:FuncData}{body:List Stmt}{binds:List (Str×aG)}{n:Nat}{Q:aG→aH→Prop}{E:aG→aH→Prop}(env:Addr→Env)(kw:KW V K mg mb X u.heap)(r:dK A (n+1))(hb:Bd V X u)
  (ho:K.lookup f=some ⟨oc,od,.func fd,osl⟩)(hcd:codeIn K fd.code fd.qualname=true)(hbody:fd.body= .stmts body)(hbind:bindArgs fd ⟨vals,[]⟩=pure binds)(hclo:fd.closure=[])
  (hkind:∀L,∀x∈binds,fd.scope.names.lookup x.1=some .local∨(fd.scope.names.lookup x.1=some .cell∧((cellsFrom L fd.scope.names []).lookup x.1).isSome=true))
  (henv:∀L,callEnvC fd L f=env L)
  (h:∀L s₁,u.heap.get? (env L).locals=none→Keeps V u s₁→Nx V X u (kD (env L) X) s₁→fU V u (env L) (kD (env L) X) s₁ (bindL (env L).kindOf binds fun z=>none) (bindC (env L).kindOf binds fun z=>none)→
   WP prog w (A.deeper (env L)) (execs body (env L)) (fun f s'=>Q (match f with| .ret v=>v|_=>.none) s') (fun z z=>False) s₁)
  (hco:autoParam (fd.scope.isCoroutine=false) rf)(hgen:autoParam (fd.scope.isGenerator=false) rf)(hk:autoParam (fd.scope.kind= .function) rf):codeAny (model prog w) A (.call (.ref f) ⟨vals,[]⟩) (fun r s'=>match r with| .ok (.ret v)=>Q v s'| .ok _=>False| .error e=>E e s') u:=by
 simp only[←henv]at h
 have hrec:u.heap.CodeRec fd.code fd.qualname:=codeRec_of (kw.k.keeps fun z z e=>a6 _ e) hcd
 refine codeAny_call_cells r.d (kw.get ho) rfl hb.two.lim hrec hbody hbind hclo (hkind _) (fun s₁ I=>?_) hco hgen hk
 have k₁:Keeps V u s₁:=by(refine fO I.done fun h' tk e_0=>?_;subst e_0;refine fun k=>?_);exact lU k
 have hLf:u.heap.get? (callEnvC fd u.heap.objs.size f).locals=none:=gB I.toInCall.fresh
 have hcf:∀n c,(callEnvC fd u.heap.objs.size f).cells.lookup n=some c→u.heap.get? c=none:=fun n c hm=>gB (bA (aR I.toInCall.fresh (I.above n c (mem_of_lookup hm))))
 have hw:gM V X u (kD (callEnvC fd u.heap.objs.size f) X) s₁:=⟨k₁,fun a ha=>aJ _ ha,fun a ha z=>by
  rcases eX ha with h|h
  ·rcases nR h with rfl|h
   ·exact .inr hLf
   ·refine bK (iP h) fun n e=>?_;exact .inr (hcf n a e)
  ·exact .inl h⟩
 have hbd:Bd V (kD (callEnvC fd u.heap.objs.size f) X) s₁:=⟨fun a ha=>by
  rcases eX ha with h|h
  ·rcases nR h with rfl|h
   ·refine s9 I.toInCall.ns fun o z z e z=>?_;exact⟨o,e⟩
   ·refine bK (iP h) fun n e=>?_
    refine bG (I.cell n a e) fun o e z=>?_
    exact⟨o,e⟩
  ·exact(hb.keeps k₁).al a h,gL k₁ hb.two⟩
 refine bD (h _ s₁ hLf k₁ hw.nx ⟨k₁,hbd,hb.two.ne2 hLf,fun n c e=>hb.two.ne (hcf n c e),I.toInCall.ns,I.cell,I.apart,aF,hLf,fun n c e=>?_,hcf⟩).out (fun z z q=>q) fun z z q=>q.elim
 exact aL _ (aC _ (fP e))
theorem J4{f:Addr}{vals:List aG}{oc:aG}{od:Option Addr}{osl:Array (Option aG)}{fd:FuncData}{body:List Stmt}{binds:List (Str×aG)}{n:Nat}{Q:aG→aH→Prop}{E:aG→aH→Prop}(env:Addr→Env)(kw:KW V K mg mb X u.heap)(r:dK A (n+1))(hb:Bd V X u)
  (ho:K.lookup f=some ⟨oc,od,.func fd,osl⟩)(hcd:codeIn K fd.code fd.qualname=true)(hbody:fd.body= .stmts body)(hbind:bindArgs fd ⟨vals,[]⟩=pure binds)(hclo:fd.closure=[])
  (hkind:∀L,∀x∈binds,fd.scope.names.lookup x.1=some .local∨(fd.scope.names.lookup x.1=some .cell∧((cellsFrom L fd.scope.names []).lookup x.1).isSome=true))
  (henv:∀L,callEnvC fd L f=env L)
  (h:∀L s₁,u.heap.get? (env L).locals=none→Keeps V u s₁→Nx V X u (kD (env L) X) s₁→fU V u (env L) (kD (env L) X) s₁ (bindL (env L).kindOf binds fun z=>none) (bindC (env L).kindOf binds fun z=>none)→
   WP prog w (A.deeper (env L)) (execs body (env L)) (fun f s'=>Q (match f with| .ret v=>v|_=>.none) s') (fun z z=>False) s₁)
  (hco:autoParam (fd.scope.isCoroutine=false) rf)(hgen:autoParam (fd.scope.isGenerator=false) rf)(hk:autoParam (fd.scope.kind= .function) rf):wpAny (model prog w) A (call (.ref f) vals) Q E u:=
 dR (Ek env kw r hb ho hcd hbody hbind hclo hkind henv h hco hgen hk)
theorem zB{s:aH}(hb:Bd V X s){b:Addr}(h:s.heap.objs.size≤b):b∉V++X:=fun hm=>by
 have:∃o,s.heap.get? b=some o:=(eX hm).elim (fun q=>let⟨o,e,_⟩:=hb.two.al b q;⟨o,e⟩) fun q=>hb.al b q
 refine bK this fun o e=>?_
 exact absurd (eL e) (Nat.not_lt.mpr h)
theorem m0{s:aH}(hb:Bd V X s){b:Addr}(h:s.heap.get? b=none):b∉V++X:=fun hm=>by
 have:∃o,s.heap.get? b=some o:=(eX hm).elim (fun q=>let⟨o,e,_⟩:=hb.two.al b q;⟨o,e⟩) fun q=>hb.al b q
 refine bK this fun o e=>?_
 replace e:=h▸e;cases e
theorem Mu.bd'{M:List Addr}{s s':aH}(m:Mu V M s s')(hb:Bd V X s)(hM:∀a∈M,∃o,s'.heap.get? a=some o):Bd V X s':=⟨fun a ha=>by
 by_cases h:a∈M
 ·exact hM a h
 ·by_cases hV:a∈V
  ·refine bG ((m.k.two hb.two).al a hV) fun o e z=>?_;exact⟨o,e⟩
  ·refine bK (hb.al a ha) fun o e=>?_;exact⟨o,m.k.old a o hV h e⟩,m.k.two hb.two⟩
noncomputable def rI:Scope:={kind:=b6,names:=[(aA "key",NameKind.local),(aA "self",NameKind.free)],isGenerator:=false,isCoroutine:=false}
theorem yT(L:Addr):closureFor rI (tP L)=pure [(aA "self",L+1)]:=by rfl
noncomputable def Ed:Pos:={line:=59,col:=23,endLine:=59,endCol:=57}
noncomputable def wC:Expr:=((Expr.Name (aA "self") {line:=59,col:=35,endLine:=59,endCol:=39}).Attribute (aA "default_factory") {line:=59,col:=35,endLine:=59,endCol:=55}).Call [] [] {line:=59,col:=35,endLine:=59,endCol:=57}
noncomputable def r8:Arguments:={posonlyargs:=[],args:=[{arg:=aA "key",annotation:=none,pos:={line:=59,col:=30,endLine:=59,endCol:=33}}],vararg:=none,kwonlyargs:=[],kw_defaults:=[],kwarg:=none,defaults:=[]}
noncomputable def pJ:Str:=aA "FreezableDefaultDict.freeze"++".<locals>."++"<lambda>"
noncomputable def GB(V X:List Addr)(h:Heap):Prop:=h.get? 118=some (tabObj #[])∨∃c',h.get? 118=some (tabObj #[rawInt Ed.line,rawInt Ed.col,.ref c'])∧(hideAll h (V++X)).CodeRec (.ref c') pJ
noncomputable def AD(h:Heap)(f a:Addr):Prop:=∃c pm c' ctv,h.get? f=some {cls:=.type "function",data:=.func (kla_fn "<lambda>" pJ r8 wC rI [(aA "self",c)] pm (.ref c') ctv)}∧h.IsCell c (some (.ref a))∧h.CodeRec (.ref c') pJ
structure Bm(mg:Str→Option aG)(h:Heap):Prop where
 a:h.BuiltinsAt mg 118
 b:h.BuiltinsAt mg 268
theorem sE{h h':Heap}{P:Addr}(x:h.BuiltinsAt mg P)(k:∀b o,h.get? b=some o→h'.get? b=some o):h'.BuiltinsAt mg P:=
 LC x fun bm o e1 e2 e3 e4 e5 r=>⟨bm,o,e1,e2,e3,e4,k _ _ e5,r⟩
theorem Bm.keeps{h h':Heap}(x:Bm mg h)(k:∀b o,h.get? b=some o→h'.get? b=some o):Bm mg h':=⟨sE x.a k,sE x.b k⟩
theorem AD.keeps{h h':Heap}{f a:Addr}(x:AD h f a)(k:∀b o,h.get? b=some o→h'.get? b=some o):AD h' f a:=
 B4 x fun c pm c' ctv e1 e2 e3=>⟨c,pm,c',ctv,k _ _ e1,gY e2 fun o=>k c o,e3.keeps k⟩
theorem A3{h:Heap}(k:(kz w).In h):CodeHd h 122 118:=codeHd_of_K k (by kernel_rfl)
theorem BP{h:Heap}{c:Addr}{q:Str}{Z:List Addr}(x:h.CodeRec (.ref c) q)(hc:c∉Z):(hideAll h Z).CodeRec (.ref c) q:=by
 refine B4 x fun c' o vs t e g r=>?_
 obtain rfl:=fN e
 exact⟨c,o,vs,t,rfl,b5 _ g hc,r⟩
theorem vF{b:Addr}{Z:List Addr}(h:b∉V++Z){X:List Addr}(i:∀a∈X,a∈Z):b∉V++X:=fun q=>h ((eX q).elim (aL _) fun q=>aJ _ (i _ q))
theorem AW{a d:Addr}{es:Array fD}{ep:Nat}{fac:aG}{fz:Option aG}{n:Nat}{Q:aG→aH→Prop}{E:aG→aH→Prop}(kw:KW V (kz w) mg mb X u.heap)(R:dK A (n+2))(hb:Bd V X u)
  (ha:u.heap.get? a=some (fY d es ep fac))(hd:Dc u.heap d fz)(hda:d∉V)(haV:a∉V)(h118:118∉V)(X118:118∈X)(Xd:d∈X)(had:a≠d)(T:GB V X u.heap)(bm:Bm mg (hideAll u.heap (V++X)))
  (q:∀s' f,Mu V [d,118] u s'→Dc s'.heap d (some (.ref f))→u.heap.get? f=none→AD (hideAll s'.heap (V++X)) f a→GB V X s'.heap→Q .none s'):wpAny (model prog w) A (call (.ref 123) [.ref a]) Q E u:=by
 refine J4 tP kw R hb (ho:=rfl) (by rfl) (by rfl) (binds:=[("self",.ref a)]) (by rfl) (by rfl) ?_ (fun L=>rfl) ?_
 ·intro L x hx
  replace hx:=kQ hx
  subst hx
  exact .inr ⟨rfl,rfl⟩
 intro L s₁ hL k₁ nx F
 have kw₁:KW V (kz w) mg mb (kD (tP L) X) s₁.heap:=kw.nx nx
 have kin:(kz w).In s₁.heap:=kw₁.k.keeps fun j j e=>a6 _ e
 have bm₁:Bm mg s₁.heap:=(bm.keeps (cS nx)).keeps fun j j e=>a6 _ e
 have hg₁:s₁.heap.Ns mainGlobals mg:=kw₁.g.keeps fun j j e=>a6 _ e
 have T₁:s₁.heap.get? 118=some (tabObj #[])∨∃c',s₁.heap.get? 118=some (tabObj #[rawInt Ed.line,rawInt Ed.col,.ref c'])∧(hideAll s₁.heap (V++X)).CodeRec (.ref c') pJ:=by
  rcases T with T|⟨c',T,cr⟩
  ·exact .inl (a7 k₁ _ _ h118 T)
  ·exact .inr ⟨c',a7 k₁ _ _ h118 T,cr.keeps (wA (a7 k₁))⟩
 have cell₁:s₁.heap.IsCell (L+1) (some (.ref a)):=F.cell (aA "self") (L+1) rfl
 have cV:L+1∉V:=F.cV (aA "self") (L+1) rfl
 have cn:u.heap.get? (L+1)=none:=F.cf (aA "self") (L+1) rfl
 have a₁:=a7 k₁ _ _ haV ha
 have d₁:Dc s₁.heap d fz:=hd.at fun o=>a7 k₁ _ o hda
 have go:∀(f c':Addr) (ctv pm:aG) (h':Heap) (tk:Tok) (R':Flow→aH→Prop),Heap.ExtBut 118 s₁.heap h'→f=h'.objs.size→s₁.heap.objs.size≤h'.objs.size→GB V X h'→h'.CodeRec (.ref c') pJ→(hideAll h' (V++X)).CodeRec (.ref c') pJ→(∀s',Q .none s'→R' .next s')→
   wpAny (model prog w) (A.deeper (tP L)) (eval (.Name (aA "self") {line:=59,col:=8,endLine:=59,endCol:=12}) (tP L)) (fun ov s₂=>wpAny (model prog w) (A.deeper (tP L)) (setAttr ov wB (.ref f)) (fun j=>R' .next) (fun j j=>False) s₂) (fun j j=>False)
    {s₁ with heap:=h'.push {cls:=.type "function",data:=.func (kla_fn "<lambda>" pJ r8 wC rI [(aA "self",L+1)] pm (.ref c') ctv)},toks:=tk}:=fun f c' ctv pm h' tk R' hx hf hsz hT hcr hcr' hq=>by
  subst hf
  have h118e:∃o,s₁.heap.get? 118=some o∧o.cls= .none:=by rcases T₁ with T|⟨c',T,_⟩<;>exact⟨_,T,rfl⟩
  have hne:∀{b:Addr} {o:Obj},s₁.heap.get? b=some o→o.cls≠.none→b≠118:=fun{b o} e hc q=>by
   subst q;refine bG h118e fun o' e' hc'=>?_;rw[e]at e';obtain rfl:=a9 e';exact hc hc'
  have mu₂:Mu V [118] s₁ {s₁ with heap:=h'.push {cls:=.type "function",data:=.func (kla_fn "<lambda>" pJ r8 wC rI [(aA "self",L+1)] pm (.ref c') ctv)},toks:=tk}:=
   Mu.mk' (fun b o hb e=>aP _ (hx b o (by with_reducible exact mt List.mem_singleton.mpr hb) e)) (fun b hb=>by simp at hb;subst hb;exact h118)
  have hTo:∃o,h'.get? 118=some o:=by rcases hT with T|⟨c',T,_⟩<;>exact⟨_,T⟩
  have bd₂:=mu₂.bd' F.bd (fun b hb=>by simp at hb;obtain rfl:=hb.symm;refine bK hTo fun o e=>?_;exact⟨o,aP _ e⟩)
  have X118':118∈kD (tP L) X:=aJ _ X118
  have nx₂:Nx V (kD (tP L) X) s₁ (kD (tP L) X) _:=mu₂.nx fun b hb=>by simp at hb;subst hb;exact X118'
  have c118:L+1≠118:=fun q=>by
   have:∃o,u.heap.get? 118=some o:=by rcases T with T|⟨_,T,_⟩<;>exact⟨_,T⟩
   refine bK this fun o e=>?_
   rw[q,e]at cn;nomatch cn
  have cell₂:=gY cell₁ fun o eo=>mu₂.k.old _ o cV (by with_reducible exact mt kQ c118) eo
  have a118:=hne a₁ (fun q=>nomatch q)
  have d118:d≠118:=by refine fO d₁ fun de dn e j=>?_;exact hne e (fun q=>nomatch q)
  have a₂:=mu₂.k.old _ _ haV (by with_reducible exact mt kQ a118) a₁
  have d₂:=d₁.at fun o=>mu₂.k.old _ o hda (by with_reducible exact mt kQ d118)
  refine(eQ (fR.cell (V:=V) cV rfl cell₂ rfl)).run bd₂ fun v s₃ k₃ hv=>?_
  subst hv
  have kw₃:=(kw₁.nx nx₂).nx (gM.of_keeps (X:=kD (tP L) X) k₃).nx
  refine KG (kw₃.k.keeps fun j j e=>a6 _ e) (a7 k₃ _ _ haV a₂) (d₂.at fun o=>a7 k₃ _ o hda) fun h₄ d₄ sb=>hq _ ?_
  have mu₄:Mu V [d] s₃ {s₃ with heap:=h₄,toks:=s₃.toks+1+1}:=Mu.mk' (fun b o hb e=>(sb.2 b (by with_reducible exact mt List.mem_singleton.mpr hb)).trans e) (fun b hb=>by replace hb:=kQ hb;obtain rfl:=hb.symm;exact hda)
  have mu:Mu V [d,118] u {s₃ with heap:=h₄,toks:=s₃.toks+1+1}:=
   (Mu.of_keeps k₁).trans ((mu₂.more fun b hb=>by simp[hb]).trans ((Mu.of_keeps k₃).trans (mu₄.more fun b hb=>by replace hb:=kQ hb;simp[hb])))
  have iX:∀b∈X,b∈kD (tP L) X:=fun b hb=>aJ _ hb
  have nf:h'.objs.size∉V++X:=vF (zB F.bd hsz) iX
  have fd:h'.objs.size≠d:=fun q=>by
   refine fO d₁ fun de dn e j=>?_
   have:=eL e
   rw[←q]at this
   exact absurd this (Nat.not_lt.mpr hsz)
  have cd:L+1≠d:=fun q=>by
   refine fO hd fun de dn e j=>?_
   rw[q,e]at cn;nomatch cn
  have fu:u.heap.get? h'.objs.size=none:=by
   cases e:u.heap.get? h'.objs.size with
   |none=>rfl
   |some o=>
    have hV:h'.objs.size∉V:=fun q=>nf (aL _ q)
    exact absurd (eL (a7 k₁ _ _ hV e)) (Nat.not_lt.mpr hsz)
  have hh:∀b o,(hideAll h' (V++X)).get? b=some o→(hideAll h₄ (V++X)).get? b=some o:=fun b o e=>by
   have hb:=bZ e
   have e2:=a7 k₃ _ _ (fun q=>hb (aL _ q)) (aP {cls:=.type "function",data:=.func (kla_fn "<lambda>" pJ r8 wC rI [(aA "self",L+1)] pm (.ref c') ctv)} (a6 _ e))
   exact b5 _ ((sb.2 b fun q=>hb (aJ _ (q▸Xd))).trans e2) hb
  refine q _ _ mu d₄ fu ⟨L+1,pm,c',ctv,b5 _ ((sb.2 _ fd).trans (a7 k₃ _ _ (fun q=>nf (aL _ q)) (aW _ rfl))) nf,?_,hcr'.keeps hh⟩ ?_
  ·refine bG cell₂ fun o e r=>?_
   exact⟨o,b5 _ ((sb.2 _ cd).trans (a7 k₃ _ _ cV e)) (m0 hb cn),r⟩
  ·have k118:∀o,h'.get? 118=some o→h₄.get? 118=some o:=fun o e=>(sb.2 _ (eH d118)).trans (a7 k₃ _ _ h118 (aP _ e))
   rcases hT with T|⟨c',T,y⟩
   ·exact .inl (k118 _ T)
   ·exact .inr ⟨c',k118 _ T,y.keeps hh⟩
 refine .mk<|dQ (bD (Q:=fun f s'=>f= .next∧Q .none s') ?_ (fun f s' z=>by obtain⟨rfl,z⟩:=z;exact fJ z) fun j j z=>z)
 refine plainObj_wpAny_Assign_Attribute (kla_eval rfl ?_)
 have hC:=A3 kin
 rcases T₁ with T|⟨c',T,cr⟩
 ·refine kla_makeFunction (yT L) rfl hg₁ rfl hC T trivial rfl (by decide) bm₁.a fun c' ctv h' tk hx hge hlt hrec htab=>?_
  have nc:c'∉V++X:=vF (zB F.bd hge) fun b hb=>aJ _ hb
  have hcr':=BP hrec nc
  exact go _ c' ctv _ h' tk (fun f s'=>f= .next∧Q .none s') hx rfl (bA (aR hge hlt)) (.inr ⟨c',htab,hcr'⟩) hrec hcr' fun s' hs=>⟨rfl,hs⟩
 ·refine kla_makeFunctionHit (yT L) rfl hg₁ rfl hC T trivial (cv:=.ref c') rfl bm₁.a fun ctv h' tk hk hsz=>?_
  have hcr':(hideAll h' (V++X)).CodeRec (.ref c') pJ:=cr.keeps fun b o e=>b5 _ (hk _ _ (a6 _ e)) (bZ e)
  exact go _ c' ctv _ h' tk (fun f s'=>f= .next∧Q .none s') (fun b o j e=>hk b o e) rfl hsz (.inr ⟨c',hk _ _ T,hcr'⟩) (hcr'.keeps fun j j e=>a6 _ e) hcr' fun s' hs=>⟨rfl,hs⟩
noncomputable abbrev Lj:Str:=aA "default_factory"
theorem Ej(w:cN):findIn (kz w) (.ref 126) Lj=some (some (.builtin "collections.defaultdict.default_factory")):=by kernel_rfl
theorem Kk(w:cN):specialIn (kz w) (.builtin "collections.defaultdict.default_factory") "__get__"=some (some (.builtin "member_descriptor.__get__")):=by kernel_rfl
theorem H3(w:cN):takesIn (kz w) (.builtin "collections.defaultdict.default_factory")=some true:=by kernel_rfl
theorem Kj(w:cN)(od:Option Obj):findObj (kz w) 126 od Lj=some (.bind (.builtin "member_descriptor.__get__") (.builtin "collections.defaultdict.default_factory")):=by
 unfold findObj
 rw[sL,Ej,mQ,mQ]
 refine(?_:(specialIn (kz w) (.builtin "collections.defaultdict.default_factory") "__get__").bind _=_)
 rw[Kk,mQ]
 refine(?_:(takesIn (kz w) (.builtin "collections.defaultdict.default_factory")).bind _=_)
 rw[H3];rfl
theorem H4:Builtin.Getset_descriptor.descrOwnerAndName "collections.defaultdict.default_factory"=("collections.defaultdict","default_factory"):=by decide+kernel
theorem Ei:typeOf (.builtin "collections.defaultdict.default_factory")=pure (.type "member_descriptor"):=by refine aM n9 ?_;kernel_rfl
theorem H5:entryFor table "collections.defaultdict.default_factory"=some Builtin.«collections.defaultdict.default_factory»:=gZ (by kernel_rfl)
section
variable {a d:Addr} {v:aG}
theorem Ki{R:iR→aH→Prop}{tp:aG}(X:(kz w).In s.heap)(ha:s.heap.get? a=some (fY d es ep fac))(hf:fac≠.none)(h:R (.ok (.ret fac)) s):
  codeAny (model prog w) A (.call (.builtin "member_descriptor.__get__") ⟨[.builtin "collections.defaultdict.default_factory",.ref a,tp],[]⟩) R s:=by
 obtain⟨hh,g,dr,t,os⟩:=s
 dsimp only at X ha
 have L0:dT (model prog w) hh (typeOf (.ref a)) (.ref 126):=(nM ha).andThen .now
 have L1:=rG (prog:=prog) X
 refine cM KF.slot_mem.plain KF.entry_mem (KF.slot_mem.check _ _ _ _ _ _ _ _ Ei (KF.args_mem _ _ _) ?_)
 unfold Builtin.«member_descriptor.__get__» Builtin.Getset_descriptor.descrGet
 have e0:Builtin.Getset_descriptor.descrGetArgs ⟨[.builtin "collections.defaultdict.default_factory",.ref a,tp],[]⟩=pure (.builtin "collections.defaultdict.default_factory",some (.ref a),if tp== .none then none else some tp):=by rfl
 refine aM e0 ?_
 refine aB (aE ?_)
 unfold Builtin.Getset_descriptor.descrGetter Builtin.Getset_descriptor.descrCheckInstance Builtin.Getset_descriptor.descrNameAndClass isInstance
 simp only[H4]
 repeat lk
 refine⟨jH _ (by decide+kernel),gS H5 ?_⟩
 refine aB (aB (aB (lF ha (aE (aE ?_)))))
 have hf':(fac != .none)=true:=by cases fac<;>first|exact absurd rfl hf|rfl
 have:((#[some fac]:Array (Option aG))[0]?).join=some fac:=rfl
 refine aM (show(fY d es ep fac).slots[0]?.join=some fac from rfl) ?_
 simp only[Option.filter,hf',if_true]
 exact aE h
theorem JU{fill expr:Bool}{t:Tok}{Q:aG→aH→Prop}{od:Option Obj}(X:(kz w).In s.heap)(I:InstAt s.heap a (fY d es ep fac) 126 od)(hf:fac≠.none)(hh:handedIn fac=true)(h:Q fac s):
  wpAny (model prog w) A (getAttrBy (.ref a) (.str Lj t) fill expr) Q E s:=by
 refine yX X I ?_
 obtain⟨hh',g,dr,tk,os⟩:=s
 have L0:=I.type (M:=model prog w)
 have L1:=looks_find (M:=model prog w) X I (Kj w od)
 refine aB (aE (aB (aE (aB (L0.at (aB (L1.at ?_)))))))
 refine aB (a8 (dR (Ki X I.at_ hf ?_)))
 refine aE ?_
 refine(?_:wpAny _ _ (handedOut fac) _ _ _)
 refine aM (pR hh) ?_;exact aE h
theorem Fv{pl:Sem Bool}{Q:aG×List aG→aH→Prop}{od:Option Obj}(X:(kz w).In s.heap)(I:InstAt s.heap a (fY d es ep fac) 126 od)(hf:fac≠.none)(hh:handedIn fac=true)(h:∀tk,Q (fac,[]) {s with toks:=tk}):
  wpAny (model prog w) A (getMethod (.ref a) Lj pl) Q E s:=by
 refine aB (aB (I.type.here ((dW X (Eb w)).here ?_)))
 dsimp only
 refine aM wG (aM (if_neg (by decide)) ?_)
 refine aB (aB (I.type.here ((dW X (BL w)).here ?_)))
 refine aB (aB (I.type.here ((dW X (Ej w)).here ?_)))
 refine aM Ei ?_
 refine aB (aE ?_)
 refine aM (if_pos (by decide+kernel)) ?_
 exact aB (aB (wpAny_mkText (JU (s:={s with toks:=s.toks+1}) X I hf hh (aE (h _)))))
end
section
variable {a d:Addr} {v:aG}
theorem oQ{env:Env}{o:Expr}{name:Str}{apos pos:Pos}{args:List Expr}{Q:aG→aH→Prop}(hbase:attributeBase o name env (eval o env)=eval o env)
  (hfew:((backTo pos (starEach args env)).all (fun x=>!x.1)&&(backToKw pos (keywordEach [] env)).all (fun x=>x.1.isSome)
   &&decide (args.length+([]:List Keyword).length+(if([]:List Keyword).isEmpty then 0 else 1)<30))=true)
  (hline:(apos.endLine==pos.line)=true)
  (h:wpAny (model prog w) A (eval o env) (fun ov s₁=>∀pl,wpAny (model prog w) A (getMethod ov name pl) (fun fx s₂=>wpAny (model prog w) A (callWith pos fx.1 fx.2 (backTo pos (starEach args env)) []) Q E s₂) E s₁) E s):
  wpAny (model prog w) A (eval (.Call (.Attribute o name apos) args [] pos) env) Q E s:=by
 (rewrite[arm_eval_Call];refine aM hbase ?_)
 refine aB (bD h (fun ov s₁ h₁=>?_) fun z z e=>e)
 refine aB (dF ?_)
 have hform:methodCallForm (args.length+([]:List Keyword).length) (backTo pos (starEach args env)) (backToKw pos (keywordEach [] env))=true:=hfew
 have hpos:methodCallPos true o env apos pos=pure pos:=by unfold methodCallPos;simp[hline]
 unfold methodCall
 refine aM hform ?_
 refine aB (a8 (bD (h₁ _) (fun fx s₂ h₂=>?_) fun z z e=>e))
 obtain⟨f,first⟩:=fx
 exact aB (bE hpos h₂)
noncomputable def qV(V X:List Addr)(h:Heap)(fac:aG):Prop:=fac= .type "list"∨∃f o fd,fac= .ref f∧(hideAll h (V++X)).get? f=some o∧o.data= .func fd
theorem qV.ne{X:List Addr}{h:Heap}(x:qV V X h fac):fac≠.none:=by rcases x with rfl|⟨f,o,fd,rfl,_⟩<;>(intro q;cases q)
theorem qV.handed{X:List Addr}{h:Heap}(x:qV V X h fac):handedIn fac=true:=by rcases x with rfl|⟨f,o,fd,rfl,_⟩<;>rfl
theorem BQ{env:Env}{pos:Pos}{Q:aG→aH→Prop}(x:qV V X s.heap fac)(h:wpAny (model prog w) A (call fac []) Q E s):wpAny (model prog w) A (callWith pos fac [] (backTo pos (starEach [] env)) []) Q E s:=by
 rcases x with rfl|⟨f,o,fd,rfl,e,e2⟩
 ·exact callWith_type0 h
 ·exact callWith_function (o:=o) (fd:=fd) (evalArgs_nil3 ⟨⟨a6 _ e,e2⟩,h⟩)
theorem JI{f:Addr}{key:aG}{n:Nat}{Q:aG→aH→Prop}(kw:KW V (kz w) mg mb X u.heap)(r:dK A (n+2))(hb:Bd V X u)(F:AD (hideAll u.heap (V++X)) f a)(fa:qV V X u.heap fac)
  (ha:u.heap.get? a=some (fY d es ep fac))(hd:Dc u.heap d fz)
  (hfac:∀A' s₁,dK A' n→cO u s₁→wpAny (model prog w) A' (call fac []) Q (fun z z=>False) s₁):wpAny (model prog w) A (call (.ref f) [key]) Q E u:=by
 refine B4 F fun c pm c' ctv e1 e2 e3=>?_
 have e1':=a6 _ e1
 refine dR (kla_callFunE r.d e1' rfl rfl rfl rfl (e3.keeps fun z z e=>a6 _ e) ?_)
 refine bE (a:=[(aA "key",key)]) (by rfl) ?_
 refine wpAny_newFunctionEnv (by show∀x∈rI.names,x.2≠.cell;decide) (by intro x hx;replace hx:=kQ hx;subst hx;rfl) (fun h₁ hns hsb=>?_) rfl
 have hk₁:∀b o,u.heap.get? b=some o→h₁.get? b=some o:=fun b o e=>hsb.extBut b o (eZ (eL e)) (aP _ e)
 refine⟨hb.two.lim.keeps hk₁,kla_codeExpr ?_⟩
 have kin:(kz w).In h₁:=(kw.k.keeps fun z z e=>a6 _ e).keeps hk₁
 have cell₁:h₁.IsCell c (some (.ref a)):=gY e2 fun o e=>hk₁ _ _ (a6 _ e)
 refine bD (Q:=Q) (E:=fun z z=>False) ?_ (fun v s' h=>h) fun z z h=>h.elim
 refine oQ rfl rfl rfl ?_
 refine iE (wpAny_loadName_free rfl rfl rfl cell₁ ?_ (by decide)) (by decide)
 intro pl
 refine fO hd fun de dn hde hfz=>?_
 have I:InstAt h₁ a (fY d es ep fac) 126 (some (dictOf de dn)):=⟨hk₁ _ _ ha,rfl,rfl,hk₁ _ _ hde⟩
 refine Fv kin I fa.ne fa.handed fun tk=>?_
 refine BQ (V:=V) (X:=X) (?_:qV V X h₁ fac) ?_
 ·rcases fa with fa|⟨f,o,fd,x,e,y⟩
  ·exact .inl fa
  ·exact .inr ⟨f,o,fd,x,b5 _ (hk₁ _ _ (a6 _ e)) (bZ e),y⟩
 ·exact hfac _ _ ((r.deeper _).less (gT _)) ⟨h₁,tk,rfl,hk₁⟩
end
noncomputable abbrev K4:Str:=aA "__missing__"
noncomputable abbrev CP:String:="collections.defaultdict.__missing__"
noncomputable abbrev y9(a:Addr):Obj:={cls:=.type "builtin_function_or_method",data:=.fields #[.builtin CP,.ref a]}
noncomputable abbrev GT(a:Addr):Obj:={cls:=.type "super",dict:=none,data:=.fields #[.ref 126,.ref a,.ref 126],slots:=#[]}
theorem Gs(w:cN):alongIn (kz w) K4 [.type "collections.defaultdict",.type "dict",.type "object"]=some (some (.builtin CP)):=by kernel_rfl
theorem Ir:typeOf (.builtin CP)=pure (.type "method_descriptor"):=by refine aM n9 ?_;kernel_rfl
theorem EZ:Slot "method_descriptor" "__get__" "method_descriptor.__get__":=.of (owner:="method_descriptor") (n:="__get__") (by(rewrite[gR];refine aM dX ?_);kernel_rfl) (by decide+kernel) (by decide+kernel) (by decide+kernel)
  (by first|exact .inl (by decide+kernel)|exact .inr (by decide+kernel)) (by rw[iY];kernel_rfl)
theorem Au:entryFor table "method_descriptor.__get__"=some Builtin.«method_descriptor.__get__»:=gZ (by kernel_rfl)
theorem CO(a b c:aG):argsOk "method_descriptor.__get__" ⟨[a,b,c],[]⟩:=by kernel_rfl
section
variable {a d:Addr} {v:aG}
noncomputable def S2(w:cN)(h:Heap):Prop:=∀o,(hk.heap_1 w.params).lookup 2=some o→h.get? 2=some o
theorem S2.at{h h':Heap}(x:S2 w h)(k:∀o,h.get? 2=some o→h'.get? 2=some o):S2 w h':=fun o e=>k o (x o e)
theorem pX{h:Heap}(k:(kz w).In h)(x:S2 w h):(hk.heap_1 w.params).In h:=fun a o e=>by
 by_cases ha:a=2
 ·subst ha;exact x o e
 ·refine k a o ?_
  unfold kz
  cases hK:hk.heap_1 w.params with
  |nil=>replace e:=hK▸e;cases e
  |cons y r=>
   rw[hK]at e
   have h2:y.1=2:=by have:(hk.heap_1 w.params).head?.map (·.1)=some 2:=rfl;rw[hK]at this;simpa using this
   obtain⟨b,ob⟩:=y
   subst h2
   have hne:(a==2)=false:=by simpa using ha
   have e':List.lookup a ((2,ob)::r)=some o:=e
   rw[List.lookup_cons,hne]at e';exact e'
theorem As{h:Heap}(k:(kz w).In h)(x:S2 w h):dT (model prog w) h (opaqueClassAbove (.ref 126)) none:=cH (pX k x) (by kernel_rfl)
theorem Iv{h:Heap}{g:Array GenState}{dr:Drawn}{t:Nat}{os:OsState}{Q:Fin→aH→Prop}(k:(kz w).In h)(ha:h.get? a=some (fY d es ep fac))
  (hq:Q (.done (.ret (.ref h.objs.size))) ⟨h.push (y9 a),g,dr,t,os⟩):wpAny (model prog w) A (Builtin.«method_descriptor.__get__» ⟨[.builtin CP,.ref a,.ref 126],[]⟩) Q E ⟨h,g,dr,t,os⟩:=by
 have hi:dT (model prog w) h (isInstance (.ref a) (.type "collections.defaultdict")) true:=(show dT (model prog w) h (typeOf (.ref a)) (.ref 126)from(nM ha).andThen .now).andThen (rG k)
 refine aB (bE (a:=(.builtin CP,some (.ref a),some (.ref 126))) (by rfl) ?_)
 refine aM (show Manifest.toldItsClass.contains CP=false by decide+kernel) ?_
 refine bP (by decide) ?_
 refine aB (aB ?_)
 refine bE (a:=(aA "__missing__",.type "collections.defaultdict")) (by kernel_rfl) ?_
 refine aB (hi.at ?_)
 refine bP (by decide) ?_
 refine aE ?_
 refine aB ?_
 exact c8 (aE hq) (by size_fits)
theorem LW{h:Heap}{g:Array GenState}{dr:Drawn}{t:Nat}{os:OsState}{so:Addr}{tk:Tok}{Q:Fin→aH→Prop}(k:(kz w).In h)(x2:S2 w h)(ha:h.get? a=some (fY d es ep fac))
  (hso:h.get? so=some (GT a))(hq:Q (.done (.ret (.ref h.objs.size))) ⟨h.push (y9 a),g,dr,t,os⟩):
  wpAny (model prog w) A (Builtin.«super.__getattribute__» ⟨[.ref so,.str K4 tk],[]⟩) Q E ⟨h,g,dr,t,os⟩:=by
 have hno:=As (prog:=prog) k x2
 have hC:=o0 (M:=model prog w) k (sL w)
 have hl:(yY.mro.dropWhile (· != .ref 126)).drop 1=[.type "collections.defaultdict",.type "dict",.type "object"]:=by decide+kernel
 have ha126:a≠126:=fun q=>by
  have:=k 126 _ (by rfl)
  rw[q,this]at ha;nomatch ha
 have hne:(cR a==cR 126)=false:=by simp[ha126]
 have hlk:=EZ.lookup
 have hT:(⟨h,g,dr,t,os⟩:aH).TypeIs (.builtin CP) "method_descriptor":=Ir
 have hdt:(GT a).data= .fields #[.ref 126,.ref a,.ref 126]:=rfl
 have f0:(#[.ref 126,.ref a,.ref 126]:Array aG)[0]?=some (.ref 126):=rfl
 have f1:(#[.ref 126,.ref a,.ref 126]:Array aG)[1]?=some (.ref a):=rfl
 have f2:(#[.ref 126,.ref a,.ref 126]:Array aG)[2]?=some (.ref 126):=rfl
 refine aB (bE (a:=some K4) (by rfl) ?_)
 refine bP (by decide) ?_
 refine aB (bE (a:=some K4) (by rfl) ?_)
 refine aB (gJ hso hdt f0 ?_)
 refine aB (gJ hso hdt f1 ?_)
 refine aB (gJ hso hdt f2 ?_)
 refine bP (by decide+kernel) ?_
 refine aB (ks_wpAny_notOpaque hno ?_)
 refine bP (by decide) ?_
 refine aB (hC.at ?_)
 refine aM hl ?_
 refine aB ?_
 refine ks_forIn_along (K:=kz w) (name:=K4) (v:=.builtin CP) k (fun z z=>rfl) ?h2 ?h3 (Gs w)
 case h2=>rfl
 case h3=>
  refine aB (wpAny_typeOf hT ?_)
  refine aB (bE hlk ?_)
  refine aM hne ?_
  refine aB (a8 ?_)
  refine dB EZ hT Au (Iv k ha ⟨_,rfl,?_⟩) (CO _ _ _)
  exact aE (aE hq)
theorem Iw{h:Heap}{g:Array GenState}{dr:Drawn}{t:Nat}{os:OsState}{so:Addr}{expr:Bool}{Q:aG→aH→Prop}(k:(kz w).In h)(x2:S2 w h)(ha:h.get? a=some (fY d es ep fac))
  (hso:h.get? so=some (GT a))(hq:Q (.ref h.objs.size) ⟨h.push (y9 a),g,dr,t+1,os⟩):
  wpAny (model prog w) A (getAttr (.ref so) K4 expr) Q E ⟨h,g,dr,t,os⟩:=by
 have hlk:=F.ks_slot_super_ga.lookup
 have hT:∀t',(⟨h,g,dr,t',os⟩:aH).TypeIs (.ref so) "super":=fun j=>⟨_,hso,rfl⟩
 refine aB (wpAny_mkText (a8 (aB (wpAny_typeOf (hT _) (aB (bE hlk ?_))))))
 refine(?_:wpAny _ _ (getAttrByItsOwn (.ref so) (.str K4 t) (.type "super") (.builtin "super.__getattribute__") true expr) _ _ _)
 unfold getAttrByItsOwn hookBefore callGetattribute boundAndCalled
 refine aB (bE (show(if onTheHeap (.type "super")then typeLookup (.type "super") "__getattr__" else pure none)=pure none from rfl) ?_)
 refine aB (iB (a8 ?_))
 have:(expr&&onTheHeap (.builtin "super.__getattribute__"))=false:=by cases expr<;>rfl
 refine aM this (aM (if_neg (by decide)) ?_)
 refine aB (bE (F.ks_slot_super_ga.bind _) ?_)
 refine bD (Q:=fun v s'=>v= .ref h.objs.size∧s'=⟨h.push (y9 a),g,dr,t+1,os⟩) (E:=fun j j=>False)
  (dB F.ks_slot_super_ga (hT _) F.ks_entry_super_ga (LW k x2 ha hso ⟨_,rfl,rfl,rfl⟩) (F.ks_gaArgs_super _ _)) (fun v s' hv=>?_) fun j j z=>z.elim
 (refine gE hv fun e_0=>?_;subst e_0;refine fun e_0=>?_;subst e_0)
 exact aE hq
end
noncomputable def pZ(prog:fL)(w:cN)(h:Heap)(a d:Addr)(fac:aG)(kvs:List (Str×aG)):Prop:=
 ∃es ep,h.get? a=some (fY d es ep fac)∧KeysOf (strKind prog w) es∧Pairs (strKind prog w) es.toList kvs∧(kvs.map (·.1)).Nodup
section
variable {a d:Addr} {v:aG} {kvs:List (Str×aG)} {k:Str}
theorem pZ.at{h h':Heap}(x:pZ prog w h a d fac kvs)(k:∀o,h.get? a=some o→h'.get? a=some o):pZ prog w h' a d fac kvs:=fO x fun es ep e r=>⟨es,ep,k _ e,r⟩
theorem pZ.new{h:Heap}(e:h.get? a=some (fY d #[] 0 fac)):pZ prog w h a d fac []:=⟨#[],0,e,fun e he=>by simp at he,Pairs.nil,List.nodup_nil⟩
theorem qG{f:aG}{pos:List aG}{M:Model}{Q:aG→aH→Prop}(h:wpAny M A (call f pos) Q E s):wpAny M A (callBorrowed f pos) Q E s:=fun Γ p hΓ=>by
 have:=h Γ p hΓ
 unfold callBorrowed
 rw[Sem.wp_call]
 refine wpCode_mono (fun r s' z=>?_) this
 rcases r with e|(v|_|_|_)<;>exact z
theorem HM(k:Str)(t:Tok):(strKind prog w).is k (.str k t)=true:=by
 refine(?_:(Value.str k t).isStr k=true)
 simp[Value.isStr]
theorem u0{k:Str}{kvs:List (Str×aG)}(h:k∉kvs.map (·.1)):valueAt kvs k=none:=by
 unfold valueAt
 rw[List.find?_eq_none.mpr (fun kv hkv=>?_)]
 ·rfl
 ·intro e
  replace e:=of_decide_eq_true e
  exact h (List.mem_map.mpr ⟨kv,hkv,e⟩)
theorem Ho{Q:Option aG→aH→Prop}(b:pZ prog w s.heap a d fac kvs)(h:Q (valueAt kvs k) {s with toks:=s.toks+1}):wpAny (model prog w) A (dictGet a (.str k t)) Q E s:=by
 refine oX b fun es ep ho hk hp hn=>?_
 have hf:findBy (strKind prog w).is es k=valueAt kvs k:=by
  refine gU (hp.find k) ?_
  obtain⟨l⟩:=es
  simp[findBy]
 have hkey:=HM (prog:=prog) (w:=w) k t
 refine aB ((strKind prog w).pyHash hkey (aB (wpAny_dictFind_of (s:={s with toks:=s.toks+1}) hkey ho rfl hk ?_)))
 rw[←hf,findBy_of_findIdx?]at h
 cases hi:es.findIdx? fun e=>(strKind prog w).is k e.key with
 |none=>replace h:=hi▸h;exact aE h
 |some i=>rw[hi]at h;exact aB (fV (s:={s with toks:=s.toks+1}) ho rfl (aE h))
theorem z9{dflt:aG}{Q:aG→aH→Prop}(b:pZ prog w s.heap a d fac kvs)(hno:k∉kvs.map (·.1))(hz:kvs.length≤1000)
  (h:∀h',pZ prog w h' a d fac (kvs++[(k,dflt)])→bY a s.heap h'→Q dflt {s with heap:=h',toks:=s.toks+1}):wpAny (model prog w) A (dictSetDefault a (.str k t) dflt) Q E s:=by
 refine oX b fun es ep ho hk hp hn=>?_
 have hf:findBy (strKind prog w).is es k=valueAt kvs k:=by
  refine gU (hp.find k) ?_
  obtain⟨l⟩:=es
  simp[findBy]
 have hkey:=HM (prog:=prog) (w:=w) k t
 have hsz:es.size≤1000:=by
  have e1:=hp.length;have e2:es.toList.length=es.size:=by trivial
  exact aD (aD (aU e2.symm) (aU e1)) hz
 unfold dictSetDefault
 try with_reducible refine a8 ?_
 refine aB ((strKind prog w).pyHash hkey ?_)
 refine aB (wpAny_dictFind_of (s:={s with toks:=s.toks+1}) hkey ho rfl hk ?_)
 have hi:es.findIdx? (fun e=>(strKind prog w).is k e.key)=none:=by
  cases hi:es.findIdx? fun e=>(strKind prog w).is k e.key with
  |none=>rfl
  |some i=>
   rw[u0 hno,findBy_of_findIdx?,hi]at hf
   have hlt:i<es.size:=(Array.findIdx?_eq_some_iff_findIdx_eq.mp hi).1
   dsimp only at hf
   replace hf:=(jP hlt)▸hf
   cases hf
 refine aM hi ?_
 refine aB (fT (aB (wpAny_updateDictKeys (hz:=by refine aM bV ?_;exact aD (by assumption) (by decide)) (s:={s with toks:=s.toks+1}) ho rfl (aE (h _ ⟨_,ep+1,cW _ ho rfl,hk.push hkey _,?_,?_⟩ (cU ..))))))
 ·have:=hp.append hkey ((strKind prog w).hash k) dflt
  obtain⟨l⟩:=es
  simpa using this
 ·(refine aM bB ?_;rw[cZ])
  refine⟨hn,by simp,?_⟩
  intro x hx y hy
  simp only[bT,lA,eY]at hy
  obtain rfl:=hy.symm
  exact fun e=>hno (e▸hx)
end
noncomputable def uA(prog:fL)(w:cN)(n:Nat)(s:aH)(fac:aG)(P:aG→Heap→Heap→Prop):Prop:=
 ∀A' s₁ (Q:aG→aH→Prop),dK A' n→cO s s₁→(∀v s₂,cO s₁ s₂→P v s₁.heap s₂.heap→Q v s₂)→wpAny (model prog w) A' (call fac []) Q (fun z z=>False) s₁
theorem Gq:entryFor table CP=some Builtin.«collections.defaultdict.__missing__»:=gZ (by kernel_rfl)
noncomputable def LY:Manifest.Signature:=⟨.oneArg,"defaultdict.__missing__","__missing__",.self,[⟨"object",.posOnly,true⟩]⟩
theorem K3:pT CP=some LY:=by
 rw[signature?_of (id:=CP) (n:=['_','_','g','n','i','s','s','i','m','_','_']) (o:=['t','c','i','d','t','l','u','a','f','e','d','.','s','n','o','i','t','c','e','l','l','o','c']) (by kernel_rfl) yB]
 kernel_rfl
theorem Iu:builtinKind CP=some .method:=by decide+kernel
section
variable {a d m:Addr} {v:aG} {kvs:List (Str×aG)} {k:Str}
theorem Gr{h:Heap}{es:Array fD}{ep:Nat}{key:aG}(kin:(kz w).In h)(ha:h.get? a=some (fY d es ep fac)):dT (model prog w) h (checkBoundCall CP ⟨[.ref a,key],[]⟩) ():=by
 have L0:dT (model prog w) h (typeOf (.ref a)) (.ref 126):=(nM ha).andThen .now
 refine aM K3 ?_
 have L1:dT (model prog w) h (isInstance (.ref a) (.type "module")) false:=L0.andThen (cH kin (by kernel_rfl))
 have L2:dT (model prog w) h (isType (.ref a)) false:=(nM ha).andThen .now
 have L3:dT (model prog w) h (classData 126) yY:=looks_clsIn kin (sL w)
 have L4:dT (model prog w) h (typeOf (.ref 126)) (.type "type"):=cH kin (by kernel_rfl)
 refine aM Iu ?_
 refine L1.andThen ?_
 refine aM (show Manifest.varargsMethods.contains CP=false by decide+kernel) ?_
 have e1:(false||false)=true↔False:=by decide
 refine L2.andThen ?_
 refine L0.andThen ?_
 refine L3.andThen (L4.andThen ?_)
 refine gH ?_
 kernel_rfl
theorem Cp(fa:qV V X s.heap fac){Q:aG→aH→Prop}(h:wpAny (model prog w) A (call fac []) Q E s):wpAny (model prog w) A (callOutOfASlot fac) Q E s:=by
 rcases fa with rfl|⟨f,o,fd,rfl,e,e2⟩
 ·exact aB (aE (dN rfl (qG h)))
 ·refine aB (aB (nJ (a6 _ e) ?_))
  refine aM e2 ?_
  exact aE (dN rfl (qG h))
theorem qV.keeps{s':aH}(fa:qV V X s.heap fac)(k:cO s s'):qV V X s'.heap fac:=by
 obtain⟨h',tk,rfl,k⟩:=k
 rcases fa with rfl|⟨f,o,fd,rfl,e,e2⟩
 ·exact .inl rfl
 ·exact .inr ⟨f,o,fd,rfl,b5 _ (k _ _ (a6 _ e)) (bZ e),e2⟩
theorem EC{P:aG→Heap→Heap→Prop}{n:Nat}{R:iR→aH→Prop}(kin:(kz w).In s.heap)(r:dK A (n+3))(b:pZ prog w s.heap a d fac kvs)(hno:k∉kvs.map (·.1))(hz:kvs.length≤1000)(hs:a≠sysModules)
  (fa:qV V X s.heap fac)(fr:uA prog w n s fac P)
  (q:∀v s₂ h₃,cO s s₂→P v s.heap s₂.heap→pZ prog w h₃ a d fac (kvs++[(k,v)])→bY a s₂.heap h₃→R (.ok (.ret v)) {s₂ with heap:=h₃,toks:=s₂.toks+1}):
  codeAny (model prog w) A (.builtin CP ⟨[.ref a,.str k t],[]⟩) R s:=by
 refine fO (id b) fun es ep ho hk=>?_
 refine gS Gq ?_
 rw[d7 (by decide+kernel)]
 refine aB (bE (a:=(.ref a,.str k t)) (by rfl) ?_)
 refine aB (aB (aB (lF ho (aE (aE ?_)))))
 have hf':(fac != .none)=true:=by have:=fa.ne;cases fac<;>first|exact absurd rfl this|rfl
 refine aM (show(fY d es ep fac).slots[0]?.join=some fac from rfl) ?_
 simp only[Option.filter,hf',if_true]
 refine aB (Cp fa ?_)
 refine bD (fr A.in1 s _ ((r.less (by simp+arith only[])).in1 (n:=n)) ⟨s.heap,s.toks,rfl,fun j j e=>e⟩ fun v s₂ k₂ p₂=>?_) (fun j j z=>z) fun j j z=>z.elim
 have hold:∀b o,s.heap.get? b=some o→s₂.heap.get? b=some o:=by(refine fO k₂ fun h' tk e_0=>?_;subst e_0;refine fun k=>?_);exact k
 have b₂:=b.at fun o=>hold a o
 have kin₂:=kin.keeps hold
 refine aE ⟨jH _ (by decide+kernel),?_⟩
 refine gS F.entry_dict_setdefault ?_
 rw[d7 (by decide+kernel)]
 refine aB ?_
 refine aB ?_
 obtain⟨hh,g,dr,tk,os⟩:=s₂
 have L0:dT (model prog w) hh (typeOf (.ref a)) (.ref 126):=(nM (hold _ _ ho)).andThen .now
 have hi:dT (model prog w) hh (isInstance (.ref a) (.type "collections.OrderedDict")) false:=L0.andThen (oZ kin₂)
 refine dN (by decide+kernel) ?_
 dsimp only[List.headD,List.head?,Option.getD]
 refine aB (L0.at ?_)
 refine dN (by decide) ?_
 refine aB (hi.at ?_)
 refine bP (by decide) (aE ?_)
 refine aB (bE (a:=()) (by rfl) ?_)
 refine aB (bE (a:=(.ref a,[.str k t,v])) (by rfl) ?_)
 refine aB (bE (a:=a) (by rfl) (aE ?_))
 have hd:(a==sysModules)=false:=by simp[hs]
 refine aM hd ?_
 refine bP (by decide) ?_
 refine aB (z9 b₂ hno hz fun h₃ b₃ sb=>?_)
 exact aE (q v _ h₃ k₂ p₂ b₃ sb)
end
theorem Dn(w:cN){od:Obj}{fz:Option aG}(h:lookIn wB od=some fz):findObj (kz w) 126 (some od) wB=some (match fz with|some v=>.value v|none=>.missing):=by
 unfold findObj
 rw[sL,Ec,mQ,mQ]
 have ho:PySem.W.ownOf yY (some od) wB=some fz:=by
  unfold PySem.W.ownOf
  refine aM (if_pos (by decide)) ?_;exact h
 refine aM ho ?_
 cases fz<;>rfl
theorem zC(a b c:aG):argsOk "getattr" ⟨[a,b,c],[]⟩:=by kernel_rfl
section
variable {a d m:Addr} {v:aG} {kvs:List (Str×aG)} {k:Str}
theorem ga3{Q:aG→aH→Prop}{dflt:aG}(kin:(kz w).In s.heap)(hh:A.handled=none)(ha:s.heap.get? a=some (fY d es ep fac))(hd:Dc s.heap d fz)(hfz:∀v,fz=some v→handedIn v=true)
  (q:∀s',cO s s'→Q (fz.getD dflt) s'):wpAny (model prog w) A (call (.builtin "getattr") [.ref a,.str wB t,dflt]) Q E s:=by
 refine Calls.call_function_entry KB.kind_getattr KB.plain_getattr KB.entry_getattr (zC _ _ _) ?_
 refine fO hd fun de dn hde hfl=>?_
 have I:InstAt s.heap a (fY d es ep fac) 126 (some (dictOf de dn)):=⟨ha,rfl,rfl,hde⟩
 have hfo:=Dn w (F3 (n:=dn) hfl)
 obtain⟨h,g,dr,tk,os⟩:=s
 have L0:dT (model prog w) h (typeOf (.ref a)) (.ref 126):=(nM ha).andThen .now
 have L1:dT (model prog w) h (isInstance (.ref a) (.type "module")) false:=L0.andThen (cH kin (by kernel_rfl))
 refine aB (bE (a:=[.ref a,.str wB t,dflt]) (by first|rfl|kernel_rfl) ?_)
 refine aB (bE (a:=()) (by first|rfl|kernel_rfl) ?_)
 refine aB (bE (a:=none) (by first|rfl|kernel_rfl) ?_)
 refine aB (aB (bE (a:=some wB) (by rfl) ?_))
 refine aB (L1.at ?_)
 refine dN rfl ?_
 refine aE ?_
 refine bP (by decide) ?_
 refine aB (aB (iB ?_))
 cases fz with
 |some v=>
  refine Fs kin I hfo (hfz v rfl) ?_
  refine aE (aE ⟨_,rfl,?_⟩)
  exact q _ ⟨h,tk,rfl,fun z z e=>e⟩
 |none=>
  refine Cc kin I hh hfo (by decide) fun h' tk' e hx=>?_
  refine oL hx.there fun t' u' he=>?_
  have f1:=sub_AttributeError
  have hi:dT (model prog w) h' (isInstance (.ref e) (.type "AttributeError")) true:=(show dT (model prog w) h' (typeOf (.ref e)) (.type "AttributeError")from(nM he).andThen .now).andThen (gH f1)
  refine aB (hi.at ?_)
  refine aE ?_
  refine aE ⟨_,rfl,?_⟩
  exact q _ ⟨h',tk',rfl,hx.keeps⟩
end
section
variable {M:Model} {c:Code}
theorem pM{x:Sem aG}{rest:List (Bool×Sem aG)}{Q:List aG→aH→Prop}
  (h:dC M A c x (fun v s₁=>dC M A c (spliced rest) (fun vs s₂=>Q (v::vs) s₂) E s₁) E s):dC M A c (spliced ((false,x)::rest)) Q E s:=by
 rw[spliced]
 refine fM (l5 h (fun v s₁ h₁=>?_) fun z z x=>x)
 exact fM (cL (aE (fM (ks_wpAt_holding (l5 h₁ (fun vs s₂ h₂=>cL (aE h₂)) fun z z x=>x)))))
theorem Cr{f:aG}{x:Sem aG}{rest:List (Bool×Sem aG)}{Q:Args→aH→Prop}
  (h:dC M A c (spliced ((false,x)::rest)) (fun vs s'=>Q ⟨vs,[]⟩ s') E s):dC M A c (evalArgs f true ((false,x)::rest) []) Q E s:=by
 refine fM (l5 h (fun vs s' h'=>?_) fun z z x=>x)
 refine ks_wpAt_holding (cL ?_)
 exact aB (aE (aB (aE (aE h'))))
theorem uB{pos:Pos}{id:String}{first:List aG}{args:List (Bool×Sem aG)}{Q:aG→aH→Prop}(hplain:args.any (·.1)=false)
  (h:dC M A c (evalArgs (.builtin id) true args []) (fun a s₁=>wpAny M A (call (.builtin id) (first++a.pos) a.kw) Q E s₁) E s):
  dC M A c (callWith pos (.builtin id) first args []) Q E s:=by
 refine fM (ks_wpAt_holding (l5 h (fun a s₁ h₁=>cL (aB (dF ?_))) fun z z x=>x))
 refine aM hplain ?_
 refine aB (aE ?_)
 exact aB (bD h₁ (fun r s₂ hr=>aB (a8 (nI (aE hr)))) fun z z x=>x)
theorem Hs{env:Env}{func e₁ e₂ e₃:Expr}{pos:Pos}{id:String}{Q:aG→aH→Prop}
  (h:wpAny M A (eval func env) (fun f s₁=>f= .builtin id∧wpAny M A (eval e₁ env) (fun v₁ s₂=>wpAny M A (eval e₂ env) (fun v₂ s₃=>dC M A c (eval e₃ env) (fun v₃ s₄=>wpAny M A (call (.builtin id) [v₁,v₂,v₃]) Q E s₄) E s₃) E s₂) E s₁) E s)
  (h1:autoParam (eval (.Call func [e₁,e₂,e₃] [] pos) env=(do callWith pos (←eval func env) [] (backTo pos (starEach [e₁,e₂,e₃] env)) (backToKw pos (keywordEach [] env)))) rf)
  (hs:autoParam (starEach [e₁,e₂,e₃] env=[(false,eval e₁ env),(false,eval e₂ env),(false,eval e₃ env)]) rf):dC M A c (eval (.Call func [e₁,e₂,e₃] [] pos) env) Q E s:=by
 refine aM h1 (aM hs ?_)
 refine fM (cL (bD h (fun f s₁ h₁=>?_) fun z z x=>x))
 obtain⟨rfl,h₁⟩:=h₁
 refine uB rfl (Cr (pM (cL (bD h₁ (fun v₁ s₂ h₂=>?_) fun z z x=>x))))
 refine pM (cL (bD h₂ (fun v₂ s₃ h₃=>?_) fun z z x=>x))
 refine pM (l5 h₃ (fun v₃ s₄ h₄=>?_) fun z z x=>x)
 exact cL (iW h₄)
theorem Ht{env:Env}{func e:Expr}{pos:Pos}{Q:aG→aH→Prop}
  (h:dC M A c (eval func env) (fun f s₁=>wpAny M A (callWith pos f [] [(false,eval e env)] []) Q E s₁) E s)
  (h1:autoParam (eval (.Call func [e] [] pos) env=(do callWith pos (←eval func env) [] (backTo pos (starEach [e] env)) (backToKw pos (keywordEach [] env)))) rf)
  (hs:autoParam (starEach [e] env=[(false,eval e env)]) rf):dC M A c (eval (.Call func [e] [] pos) env) Q E s:=by
 refine aM h1 (aM hs ?_)
 exact fM (l5 h (fun f s₁ h₁=>cL h₁) fun z z x=>x)
theorem y8{pos:Pos}{m a:Addr}{id:String}{e:Sem aG}{Q:aG→aH→Prop}
  (h:wpAny M A e (fun v s₁=>s₁.heap.get? m=some {cls:=.type "builtin_function_or_method",data:=.fields #[.builtin id,.ref a]}∧wpAny M A (call (.ref m) [v]) Q E s₁) E s):wpAny M A (callWith pos (.ref m) [] [(false,e)] []) Q E s:=by
 refine aB (a8 (gP (eR (bD h (fun v s₁ h₁=>iW (aB (dF ?_))) fun z z x=>x))))
 refine aB (m:=keeperOf (.ref m)) ?_
 refine aB (nJ h₁.1 ?_)
 refine dN (by rfl) (aE ?_)
 exact aB (bD h₁.2 (fun r s₂ hr=>aB (a8 (nI (aE hr)))) fun z z x=>x)
end
section
variable {c:Code}
theorem BR{env:Env}{value:Expr}{attr:Str}{pos:Pos}{Q:aG→aH→Prop}
  (h:dC (model prog w) A c (attributeBase value attr env (eval value env)) (fun o s₁=>wpAny (model prog w) A (getAttr o attr true) Q E s₁) E s):dC (model prog w) A c (eval (.Attribute value attr pos) env) Q E s:=by
 rw[sT]
 exact fM (l5 h (fun o s₁ h₁=>cL (aB (dF (aB (a8 (bD h₁ (fun r s₂ h₂=>aB (nK (aE h₂))) fun z z x=>x)))))) fun z z x=>x)
end
noncomputable def sW(L:Addr):Env:={scope:={kind:=b6,names:=[(aA "self",NameKind.local),(aA "key",NameKind.local),(aA "__class__",NameKind.free),(aA "getattr",aZ),(aA "super",aZ)],isGenerator:=false,isCoroutine:=false},locals:=L,globals:=mainGlobals,cells:=[(aA "__class__",104)],qual:=aA "FreezableDefaultDict.__missing__"++".<locals>.",func:=some 116,code:=.ref 115,frame:=some L,builtins:=builtinsNs}
structure sF(prog:fL):Prop where
 file:((prog.main.file:Str)==aA "/claim/cut.py")=true
 top:(prog.main.scope.names.lookup ("super":Str)).isSome=false
section
variable {a d m:Addr} {v:aG} {kvs:List (Str×aG)} {k:Str}
theorem gV{a b c:aH}(x:cO a b)(y:cO b c):cO a c:=by
 (refine fO x fun h' tk e_0=>?_;subst e_0;refine fun k=>?_)
 (refine fO y fun h'' tk' e_0=>?_;subst e_0;refine fun k'=>?_)
 exact⟨h'',tk',rfl,fun b o e=>k' b o (k b o e)⟩
theorem lS{a b:aH}(x:cO a b):∀c o,a.heap.get? c=some o→b.heap.get? c=some o:=by
 (refine fO x fun h' tk e_0=>?_;subst e_0;refine fun k=>?_);exact k
theorem JY{R:iR→aH→Prop}{key:aG}(kin:(kz w).In s.heap)(hm:s.heap.get? m=some (y9 a))(ha:s.heap.get? a=some (fY d es ep fac))(h:codeAny (model prog w) A (.builtin CP ⟨[.ref a,key],[]⟩) R s):
  codeAny (model prog w) A (.call (.ref m) ⟨[key],[]⟩) R s:=by
 refine oI ?_
 refine(?_:wpAny _ A.in1 (callAny (.ref m) ⟨[key],[]⟩) _ _ _)
 refine aB (nJ hm ?_)
 refine dN (by rfl) ?_
 obtain⟨hh,g,dr,tk,os⟩:=s
 refine dN (by rfl) ?_
 refine aB ((Gr kin ha).at ?_)
 exact aE ⟨jH _ (by decide+kernel),h⟩
theorem Dq{P:aG→Heap→Heap→Prop}{n:Nat}{Q:aG→aH→Prop}(po:sF prog)(kw:KW V (kz w) mg mb X u.heap)(r:dK A (n+6))(hb:Bd V X u)(x2:S2 w u.heap)
  (b:pZ prog w u.heap a d fac kvs)(hno:k∉kvs.map (·.1))(hz:kvs.length≤1000)(hs:a≠sysModules)(hd:Dc u.heap d fz)(hfz:∀v,fz=some v→∃f,v= .ref f∧AD (hideAll u.heap (V++X)) f a)
  (fa:qV V X u.heap fac)(fr:uA prog w n u fac P)(hP:∀v h h₁ h₂,(∀b o,h.get? b=some o→h₁.get? b=some o)→P v h₁ h₂→P v h h₂)
  (q1:fz=none→∀v s₂ h₃,cO u s₂→P v u.heap s₂.heap→pZ prog w h₃ a d fac (kvs++[(k,v)])→bY a s₂.heap h₃→Q v {s₂ with heap:=h₃,toks:=s₂.toks+1})
  (q2:fz≠none→∀v s₂,cO u s₂→P v u.heap s₂.heap→Q v s₂):wpAny (model prog w) A (call (.ref 116) [.ref a,.str k t]) Q E u:=by
 have kin:(kz w).In u.heap:=kw.k.keeps fun j j e=>a6 _ e
 have f116:=kin 116 _ (by rfl)
 refine dR (ks_codeAny_call_defAt (binds:=[(aA "self",.ref a),(aA "key",.str k t)]) r.d f116 rfl hb.two.lim (codeRec_of kin (by kernel_rfl)) rfl (.of_eq (by rfl)) ?_ ?_ (fun h₀ hns hk=>?_))
 ·decide
 ·intro x hx
  replace hx:=m2 hx
  rcases hx with rfl|rfl<;>rfl
 change dC (model prog w) (A.deeper (sW u.heap.objs.size)) (.func _ (sW u.heap.objs.size)) (execs _ (sW u.heap.objs.size)) _ _ _
 generalize hL:u.heap.objs.size=L at*
 refine l5 (Q:=fun f s'=>∃v,f= .ret v∧Q v s') (E:=fun j j=>False) ?_ (fun f s' z=>by obtain⟨v,rfl,z⟩:=z;exact z) fun j j z=>z.elim
 refine ks_wpAt_execs_cons (ks_wpAt_Return_some ?_)
 refine l5 (Q:=fun v s'=>Q v s') (E:=fun j j=>False) ?_ (fun v s' z=>⟨v,rfl,z⟩) fun j j z=>z
 generalize hs1:({u with heap:=h₀,toks:=u.toks+[(aA "self",cR a),(aA "key",.str k t)].length}:aH)=s₁
 have k₁:cO u s₁:=by subst hs1;exact⟨h₀,_,rfl,hk⟩
 have hns₁:s₁.heap.Ns L (fun x=>[(aA "self",cR a),(aA "key",.str k t)].reverse.lookup x):=by subst hs1;exact hns
 clear hs1
 have kw₁:=kw.nx (gM.of_keeps (X:=X) (h9 (V:=V) k₁)).nx
 refine Ht (Hs (id:="getattr") ?_)
 obtain⟨h1,g1,dr1,t1,os1⟩:=s₁
 have hold₁:∀b o,u.heap.get? b=some o→h1.get? b=some o:=by refine fO k₁ fun h' tk e k=>?_;cases e;exact k
 have kin₁:=kin.keeps hold₁
 have gl:h1.Ns mainGlobals mg:=kw₁.g.keeps fun j j e=>a6 _ e
 have bl:h1.Ns builtinsNs mb:=kw₁.b.keeps fun j j e=>a6 _ e
 dsimp only at hns₁ kw₁
 refine fO (id b) fun es ep ho hk=>?_
 have ho₁:=hold₁ _ _ ho
 have n0:nsIn (kz w) mainGlobals (aA "getattr")=some none:=by rfl
 have n1:nsIn (kz w) mainGlobals (aA "super")=some none:=by rfl
 refine dH (env:=sW L) rfl rfl (eJ (mg:=mg) (mb:=mb) gl (kJ kw₁.k kw₁.g n0) bl ((kw₁.bi _ (by decide+kernel)).trans rfl) ⟨rfl,?_⟩) (by decide+kernel)
 refine iE (cT (env:=sW L) rfl rfl hns₁ rfl ?_) (by decide)
 refine rA ?_
 refine BR ?_
 have hD1:=kin₁ 126 _ (by rfl)
 refine ks_wpAt_super_base (env:=sW L) rfl rfl (by decide+kernel) rfl (kin₁ 116 _ (by rfl)) rfl rfl rfl (kin₁ 115 _ (by rfl)) rfl rfl po.file po.top ?_
 refine ks_loadName_global rfl rfl (eJ (env:=sW L) (mg:=mg) (mb:=mb) gl (kJ kw₁.k kw₁.g n1) bl ((kw₁.bi _ (by decide+kernel)).trans rfl) ⟨rfl,?_⟩)
 refine wpAny_loadName_free (env:=sW L) rfl rfl rfl ⟨_,kin₁ 104 _ (by rfl),rfl⟩ ?_
 refine cT (env:=sW L) rfl rfl hns₁ rfl ?_
 refine ks_wpAny_isType_cls hD1 rfl ⟨rfl,?_⟩
 refine ks_wpAny_call_super hD1 rfl ho₁ rfl (fun c e=>nomatch e) (uG kin₁) (fun h2 e2 k2=>?_)
 have hold₂:∀b o,u.heap.get? b=some o→h2.get? b=some o:=fun b o e=>k2 _ _ (hold₁ _ _ e)
 refine Iw (kin.keeps hold₂) (x2.at fun o=>hold₂ 2 o) (hold₂ _ _ ho) e2 ?_
 have hold₃:∀b o,u.heap.get? b=some o→(h2.push (y9 a)).get? b=some o:=fun b o e=>aP _ (hold₂ b o e)
 have r5:dK (A.deeper (sW L)) (n+5):=r.deeper _
 refine ga3 (kin.keeps hold₃) r5.handled (hold₃ _ _ ho) (hd.at fun o=>hold₃ _ o) (fun v e=>by(refine bG (hfz v e) fun f e_0=>?_;subst e_0;refine fun j=>?_);rfl) fun s' k'=>?_
 have k₃:cO u s':=by
  refine gV ?_ k'
  refine fO k₁ fun h'' tk e k=>?_
  cases e
  exact⟨_,_,rfl,hold₃⟩
 have hold:=lS k₃
 have kin':=kin.keeps hold
 have kw':=kw.nx (gM.of_keeps (X:=X) (h9 (V:=V) k₃)).nx
 have ns':s'.heap.Ns L (fun x=>[(aA "self",cR a),(aA "key",.str k t)].reverse.lookup x):=hns₁.keeps fun b o e=>lS k' b o (aP _ (k2 b o e))
 have fr':uA prog w n s' fac P:=fun A' s₁ Q' R' k=>fr A' s₁ Q' R' (gV k₃ k)
 cases fz with
 |none=>
  have hm:s'.heap.get? h2.objs.size=some (y9 a):=lS k' _ _ (aW _ rfl)
  refine y8 (a:=a) (id:=CP) ?_
  refine iE (cT (env:=sW L) rfl rfl ns' rfl ⟨hm,?_⟩) (by decide)
  refine dR (JY kin' hm (hold _ _ ho) ?_)
  refine EC (V:=V) (X:=X) (n:=n) kin' (r5.less (by simp+arith only[])) (b.at fun o=>hold _ o) hno hz hs (fa.keeps k₃) fr' fun v s₂ h₃ k₂ p₂ b₃ sb=>?_
  exact q1 rfl v s₂ h₃ (gV k₃ k₂) (hP _ _ _ _ hold p₂) b₃ sb
 |some v=>
  (refine bG (hfz v rfl) fun f e_0=>?_;subst e_0;refine fun F=>?_)
  have F':AD (hideAll s'.heap (V++X)) f a:=F.keeps fun b o e=>b5 _ (hold _ _ (a6 _ e)) (bZ e)
  refine LA (id F') fun c pm c' ctv e1 j=>?_
  refine callWith_function (o:={cls:=.type "function",data:=.func (kla_fn "<lambda>" pJ r8 wC rI [(aA "self",c)] pm (.ref c') ctv)}) (fd:=kla_fn "<lambda>" pJ r8 wC rI [(aA "self",c)] pm (.ref c') ctv) (gP (eR ?_))
  refine iE (cT (env:=sW L) rfl rfl ns' rfl (iW ⟨⟨a6 _ e1,rfl⟩,?_⟩)) (by decide)
  refine JI kw' (n:=n) (r5.less (by simp+arith only[])) (hb.keeps (h9 k₃)) F' (fa.keeps k₃) (hold _ _ ho) (hd.at fun o=>hold _ o) fun A' s₁ R' k=>?_
  exact fr A' s₁ _ R' (gV k₃ k) fun v s₂ k₂ p₂=>q2 (by simp) v s₂ (gV k₃ (gV k k₂)) (hP _ _ _ _ (lS (gV k₃ k)) p₂)
end
theorem HY(w:cN):findIn (kz w) (.ref 126) "__getitem__"=some (some (.builtin "dict.__getitem__")):=by kernel_rfl
theorem Kh(w:cN):findIn (kz w) (.ref 126) "__missing__"=some (some (.ref 116)):=by kernel_rfl
theorem JR(w:cN):typeIn (kz w) (.ref 116)=some (.type "function"):=by kernel_rfl
theorem uX{M:Model}{A:jK}{E:aG→aH→Prop}{s:aH}{i owner n:String}{self:aG}{rest:List aG}{kw:List (Str×aG)}{Q:Unit→aH→Prop}
  (hk:builtinKind i=some .method)(hs:splitId i=some (owner,n))(hi:dT M s.heap (isInstance self (.type owner)) true)(ha:argsOk i ⟨self::rest,kw⟩)(q:Q () s):
  wpAny M A (checkBuiltinCall i ⟨self::rest,kw⟩) Q E s:=by
 simp only[checkBuiltinCall,hk,hs]
 refine aB (hi.here ?_)
 simp only[Bool.not_true,jI,if_false]
 cases hsig:pT i with
 |none=>exact aE q
 |some sig=>
  simp only[argsOk,hsig]at ha
  have h2:Bind.checkArgs i sig ⟨self::rest,kw⟩=pure ():=ha
  simp only[h2]
  exact aE q
section
variable {a d m:Addr} {v:aG} {kvs:List (Str×aG)} {k:Str}
theorem Ax{h:Heap}{key:aG}{od:Option Obj}{ox:Obj}(kin:(kz w).In h)(I:InstAt h a ox 126 od):dT (model prog w) h (sequenceKey (.ref a) key "__getitem__") key:=by
 refine I.type.andThen ?_
 refine(show dT (model prog w) h (seqItemTypes.anyM fun n=>isSubtype (.ref 126) (.type n)) false from cH kin (by kernel_rfl)).andThen ?_
 exact .now
theorem Ea{Q:aG→aH→Prop}(kin:(kz w).In s.heap)(b:pZ prog w s.heap a d fac kvs)(hd:Dc s.heap d fz)
  (h:wpAny (model prog w) A.in1 (Builtin.«dict.__getitem__» ⟨[.ref a,.str k t],[]⟩) (fun fin s'=>match fin with| .done (.ret v)=>Q v s'|_=>False) E s):
  wpAny (model prog w) A (getItem (.ref a) (.str k t)) Q E s:=by
 refine fO b fun es ep ho j=>?_
 refine fO hd fun de dn hde hfz=>?_
 have I:InstAt s.heap a (fY d es ep fac) 126 (some (dictOf de dn)):=⟨ho,rfl,rfl,hde⟩
 obtain⟨hh,g,dr,tk,os⟩:=s
 dsimp only at kin ho hde I
 have L0:=I.type (M:=model prog w)
 have hi:dT (model prog w) hh (isInstance (.ref a) (.type "dict")) true:=L0.andThen (jT kin)
 refine a8 ?_
 refine aB ((Ax kin I).at ?_)
 refine aB (aB (aB (L0.at ((dW kin (HY w)).at ?_))))
 refine a8 ?_
 rw[slot_dict_getitem.bind]
 refine aB (aE ?_)
 refine aB (dR (cM slot_dict_getitem.plain entry_dict_getitem ?_))
 refine @uX (model prog w) _ _ _ "dict.__getitem__" "dict" "__getitem__" (.ref a) [.str k t] [] _ (by decide+kernel) (by decide+kernel) hi (args_dict_getitem _ _) ?_
 refine bD h (fun fin s' z=>?_) fun j j z=>z
 rcases fin with (_|_|_|_)|_<;>first|exact z.elim|exact aE (aE z)
theorem yQ{Q:aG→aH→Prop}(kin:(kz w).In s.heap)(b:pZ prog w s.heap a d fac kvs)(hd:Dc s.heap d fz)(hv:valueAt kvs k=some v)
  (q:Q v {s with toks:=s.toks+1}):wpAny (model prog w) A (getItem (.ref a) (.str k t)) Q E s:=by
 refine Ea kin b hd ?_
 refine aB (bE (a:=(a,.str k t)) (by rfl) ?_)
 refine aB (Ho b ?_)
 refine aM hv ?_
 exact aE q
theorem yR{P:aG→Heap→Heap→Prop}{n:Nat}{Q:aG→aH→Prop}(po:sF prog)(kw:KW V (kz w) mg mb X u.heap)(r:dK A (n+7))(hb:Bd V X u)(x2:S2 w u.heap)
  (b:pZ prog w u.heap a d fac kvs)(hno:k∉kvs.map (·.1))(hz:kvs.length≤1000)(hs:a≠sysModules)(hd:Dc u.heap d fz)(hfz:∀v,fz=some v→∃f,v= .ref f∧AD (hideAll u.heap (V++X)) f a)
  (fa:qV V X u.heap fac)(fr:uA prog w n u fac P)(hP:∀v h h₁ h₂,(∀b o,h.get? b=some o→h₁.get? b=some o)→P v h₁ h₂→P v h h₂)
  (q1:fz=none→∀v s₂ h₃,cO u s₂→P v u.heap s₂.heap→pZ prog w h₃ a d fac (kvs++[(k,v)])→bY a s₂.heap h₃→Q v {s₂ with heap:=h₃,toks:=s₂.toks+1})
  (q2:fz≠none→∀v s₂,cO u s₂→P v u.heap s₂.heap→Q v s₂):wpAny (model prog w) A (getItem (.ref a) (.str k t)) Q E u:=by
 have kin:(kz w).In u.heap:=kw.k.keeps fun z z e=>a6 _ e
 refine Ea kin b hd ?_
 refine aB (bE (a:=(a,.str k t)) (by rfl) ?_)
 refine aB (Ho b ?_)
 refine aM (u0 hno) ?_
 have hsd:(a==sysModules)=false:=by simp[hs]
 refine aB (wpAny_missed_other hsd ?_)
 have ku:cO u {u with toks:=u.toks+1}:=⟨u.heap,_,rfl,fun z z e=>e⟩
 refine fO (id b) fun es ep ho z=>?_
 refine fO (id hd) fun de dn hde hfl=>?_
 have I:InstAt u.heap a (fY d es ep fac) 126 (some (dictOf de dn)):=⟨ho,rfl,rfl,hde⟩
 refine aB ((I.type (M:=model prog w)).at ?_)
 refine dN (by rfl) ?_
 refine aB (special_fn (s:={u with toks:=u.toks+1}) kin I (Kh w) (JR w) ?_)
 refine Dq (V:=V) (X:=X) (mg:=mg) (mb:=mb) (u:={u with toks:=u.toks+1}) (n:=n) po kw r.in1 (hb.keeps (h9 ku)) x2 b hno hz hs hd hfz fa (fun A' s₁ Q' R' k=>fr A' s₁ Q' R' (gV ku k)) hP
  (fun e v s₂ h₃ k₂ p₂ b₃ sb=>?_) fun e v s₂ k₂ p₂=>?_
 ·exact aB (fT (aE (q1 e v s₂ h₃ (gV ku k₂) p₂ b₃ sb)))
 ·exact aB (fT (aE (q2 e v s₂ (gV ku k₂) p₂)))
end
theorem wV:checkTypeCall "list" ⟨[],[]⟩=pure ():=by kernel_rfl
theorem yE:checkBuiltinCall "list.__new__" ⟨[.type "list"],[]⟩=pure ():=by unfold checkBuiltinCall;rw[eP];kernel_rfl
section
variable {a d m:Addr} {v:aG} {kvs:List (Str×aG)} {k:Str}
theorem y5{Q₁:aG→aH→Prop}
  (h:Q₁ (.ref s.heap.objs.size) {s with heap:=s.heap.push {cls:=.type "list",data:=.seq #[]}}):
  codeAny (model prog w) A (.call (.builtin "list.__new__") ⟨[.type "list"],[]⟩) (wants Q₁ E) s:=by
 refine oI ?_
 refine aB (bE yE (aE ⟨jL F.plain_list_new _,codeAny_builtin_stack F.entry_list_new rfl fun p st=>?_⟩))
 refine aM (d7 F.plain_list_new _) ?_
 have hsub:=sub_list_self
 have hown:=owner_list_new
 obtain⟨hp,g,d,tk,os⟩:=s
 dsimp only
 refine aM hown ?_
 wp_walk
 exact h
theorem Co{Q:aG→aH→Prop}(hQ:∀h' c',(∀b o',s.heap.get? b=some o'→h'.get? b=some o')→h'.get? s.heap.objs.size=some {cls:=.type "list",dict:=none,data:=.seq #[] c',slots:=#[]}→Q (.ref s.heap.objs.size) {s with heap:=h'}):
  wpAny (model prog w) A (call (.type "list") []) Q E s:=by
 refine callType_codes (Q₁:=fun obj s₁=>obj= .ref s.heap.objs.size∧s₁={s with heap:=s.heap.push {cls:=.type "list",data:=.seq #[]}}) F.called_list wV F.entry_list_init
  (y5 ⟨rfl,rfl⟩) fun obj s₁ h₁=>?_
 (refine gE h₁ fun e_0=>?_;subst e_0;refine fun e_0=>?_;subst e_0)
 have hS:(s.heap.push {cls:=.type "list",data:=.seq #[]}).get? s.heap.objs.size=some {cls:=.type "list",data:=.seq #[]}:=aW _ rfl
 refine⟨⟨_,hS,rfl⟩,F.args_list_init_1 _,?_⟩
 refine(?_:wpAny _ A.in1.in1 (do let old←j2 (.ref s.heap.objs.size);dD (.ref s.heap.objs.size) (fun z=>#[]);letGo old.toList.reverse;ret .none) _ _ _)
 refine aB ?_
 refine aB (nH hS rfl (aE ?_))
 refine aB (mM hS rfl ?_)
 have hS₂:=cW (eO (fun z=>(#[]:Array aG))) hS rfl
 refine aB (wpAny_letGo ?_)
 refine aE ⟨rfl,?_⟩
 refine hQ _ _ (fun b o' e=>?_) (by simpa[eO]using hS₂)
 have hb:b≠s.heap.objs.size:=fun e'=>Nat.lt_irrefl _ (e'▸eL e)
 exact(gA _ _ (eH hb)).trans (aP _ e)
noncomputable def BV(v:aG)(h h':Heap):Prop:=∃l c,v= .ref l∧h.get? l=none∧h'.get? l=some {cls:=.type "list",data:=.seq #[] c}
theorem H0{n:Nat}:uA prog w n s (.type "list") BV:=fun A' s₁ Q r k q=>
 Co fun h' c' hk e=>q _ _ ⟨h',s₁.toks,rfl,hk⟩ ⟨_,c',rfl,dG _,e⟩
theorem vS{pos:Pos}{e:Sem aG}{Q:aG→aH→Prop}
  (h:wpAny (model prog w) A e (fun v s₁=>(kz w).In s₁.heap∧wpAny (model prog w) A (call (.ref 126) [v]) Q E s₁) E s):wpAny (model prog w) A (callWith pos (.ref 126) [] [(false,e)] []) Q E s:=by
 refine aB (a8 (gP (eR (bD h (fun v s₁ h₁=>iW (aB (dF ?_))) fun z z x=>x))))
 refine aB (m:=keeperOf (.ref 126)) ?_
 obtain⟨hh,g,dr,tk,os⟩:=s₁
 have hk:dT (model prog w) hh (keeperOf (.ref 126)) .machine:=cH h₁.1 (by kernel_rfl)
 refine hk.at ?_
 exact aB (bD h₁.2 (fun r s₂ hr=>aB (a8 (nI (aE hr)))) fun z z x=>x)
theorem wW{h:Heap}:dT (model prog w) h (specialOf (.type "list") "__call__") (some (.builtin "type.__call__")):=gH (by kernel_rfl)
end
noncomputable def t7:Scope:={kind:=b6,names:=[(aA "FreezableDefaultDict",aZ),(aA "list",aZ)],isGenerator:=false,isCoroutine:=false}
noncomputable def Gy:Pos:={line:=168,col:=33,endLine:=168,endCol:=67}
noncomputable def vG:Arguments:={posonlyargs:=[],args:=[],vararg:=none,kwonlyargs:=[],kw_defaults:=[],kwarg:=none,defaults:=[]}
noncomputable def Aw:Expr:=(Expr.Name (aA "FreezableDefaultDict") {line:=168,col:=41,endLine:=168,endCol:=61}).Call [Expr.Name (aA "list") {line:=168,col:=62,endLine:=168,endCol:=66}] [] {line:=168,col:=41,endLine:=168,endCol:=67}
noncomputable def D8:Str:=aA "law"++".<locals>."++"<lambda>"
noncomputable def IC(h:Heap)(f:Addr):Prop:=∃pm c' ctv,h.get? f=some {cls:=.type "function",data:=.func (kla_fn "<lambda>" D8 vG Aw t7 [] pm (.ref c') ctv)}∧h.CodeRec (.ref c') D8
theorem IC.keeps{h h':Heap}{f:Addr}(x:IC h f)(k:∀b o,h.get? b=some o→h'.get? b=some o):IC h' f:=s9 x fun pm c' ctv e1 e2=>⟨pm,c',ctv,k _ _ e1,e2.keeps k⟩
noncomputable def BW(v:aG)(h h':Heap):Prop:=∃b d,v= .ref b∧h.get? b=none∧h.get? d=none∧b≠d∧b≠sysModules∧h'.get? b=some (fY d #[] 0 (.type "list"))∧h'.get? d=some kR
section
variable {a d m:Addr} {v:aG} {kvs:List (Str×aG)} {k:Str}
theorem Jr{env:Env}{func e:Expr}{pos:Pos}{Q:aG→aH→Prop}{M:Model}
  (h:wpAny M A (eval func env) (fun f s₁=>wpAny M A (callWith pos f [] [(false,eval e env)] []) Q E s₁) E s)
  (h1:autoParam (eval (.Call func [e] [] pos) env=(do callWith pos (←eval func env) [] (backTo pos (starEach [e] env)) (backToKw pos (keywordEach [] env)))) rf)
  (hs:autoParam (starEach [e] env=[(false,eval e env)]) rf):wpAny M A (eval (.Call func [e] [] pos) env) Q E s:=by
 refine aM h1 (aM hs ?_)
 exact aB (bD h (fun f s₁ h₁=>h₁) fun z z x=>x)
theorem JS{f:Addr}{n:Nat}(kw:KW V (kz w) mg mb X u.heap)(hb:Bd V X u)(F:IC (hideAll u.heap (V++X)) f):uA prog w (n+1) u (.ref f) BW:=fun A' s₁ Q r k q=>by
 refine s9 F fun pm c' ctv e1 e2=>?_
 have hold:=lS k
 have e1':=hold _ _ (a6 _ e1)
 have e2':s₁.heap.CodeRec (.ref c') D8:=e2.keeps fun b o e=>hold _ _ (a6 _ e)
 refine dR (kla_callFunE r.d e1' rfl rfl rfl rfl e2' ?_)
 refine bE (a:=[]) (by rfl) ?_
 refine wpAny_newFunctionEnv (by show∀x∈t7.names,x.2≠.cell;decide) (by intro x hx;cases hx) (fun h₁ hns hsb=>?_) rfl
 have hk₁:∀b o,s₁.heap.get? b=some o→h₁.get? b=some o:=fun b o e=>hsb.extBut b o (eZ (eL e)) (aP _ e)
 have hold₁:∀b o,u.heap.get? b=some o→h₁.get? b=some o:=fun b o e=>hk₁ _ _ (hold _ _ e)
 refine⟨(hb.two.lim.keeps hold).keeps hk₁,kla_codeExpr ?_⟩
 refine bD (Q:=Q) (E:=fun z z=>False) ?_ (fun v s' h=>h) fun z z h=>h.elim
 have kin:(kz w).In h₁:=(kw.k.keeps fun z z e=>a6 _ e).keeps hold₁
 have gl:h₁.Ns mainGlobals mg:=(kw.g.keeps fun z z e=>a6 _ e).keeps hold₁
 have bl:h₁.Ns builtinsNs mb:=(kw.b.keeps fun z z e=>a6 _ e).keeps hold₁
 have n0:nsIn (kz w) mainGlobals (aA "FreezableDefaultDict")=some (some (.ref 126)):=by rfl
 have n1:nsIn (kz w) mainGlobals (aA "list")=some none:=by rfl
 refine Jr ?_
 refine dH rfl rfl (loadGlobal_global (mg:=mg) gl (mg_of kw.k kw.g n0) ?_) (by decide+kernel)
 refine vS ?_
 refine dH rfl rfl (eJ (mg:=mg) (mb:=mb) gl (kJ kw.k kw.g n1) bl ((kw.bi _ (by decide+kernel)).trans rfl) ⟨kin,?_⟩) (by decide+kernel)
 refine CU kin (fun q=>nomatch q) wW fun h' a d e1 e2 n1 n2 hne hsy hk=>?_
 refine q _ _ ⟨h',_,rfl,fun b o e=>hk _ _ (hk₁ _ _ e)⟩ ⟨a,d,rfl,?_,?_,hne,hsy,e1,e2⟩
 ·cases e:s₁.heap.get? a with
  |none=>rfl
  |some o=>replace n1:=(hk₁ _ _ e)▸n1;cases n1
 ·cases e:s₁.heap.get? d with
  |none=>rfl
  |some o=>replace n2:=(hk₁ _ _ e)▸n2;cases n2
end
theorem AS:typeLookup (.type "map") "__init__"=pure (some (.builtin "object.__init__")):=by(rewrite[gR];refine aM dX ?_);kernel_rfl
theorem Gu:typeLookup (.type "map") "__new__"=pure (some (.builtin "map.__new__")):=by(rewrite[gR];refine aM dX ?_);kernel_rfl
theorem E3:mroOf (.type "map")=pure [.type "map",.type "object"]:=by rw[mroOf_type];kernel_rfl
theorem F0(a b:aG):checkTypeCall "map" ⟨[a,b],[]⟩=pure ():=by kernel_rfl
theorem Av(a b:aG):checkBuiltinCall "map.__new__" ⟨[.type "map",a,b],[]⟩=pure ():=by unfold checkBuiltinCall;rw[eP];kernel_rfl
theorem E0:isSubtype (.type "map") (.type "map")=pure true:=by rw[iY];kernel_rfl
theorem zP:Slot "map" "__init__" "object.__init__":=.of (owner:="object") (n:="__init__") AS (by decide+kernel) (by decide+kernel) (by decide+kernel)
  (by first|exact .inl (by decide+kernel)|exact .inr (by decide+kernel)) (by rw[iY];kernel_rfl)
theorem yK:TypeCalled "map" "map.__new__" "object.__init__":=
 ⟨by decide+kernel,by decide+kernel,⟨_,_,E3⟩,madeBy_type E3 Gu (by decide+kernel),by decide+kernel,E0,zP⟩
theorem zQ:entryFor table "map.__new__"=some Builtin.«map.__new__»:=gZ (by kernel_rfl)
theorem yI:entryFor table "map.__next__"=some Builtin.«map.__next__»:=gZ (by kernel_rfl)
theorem uF:plainId "map.__new__"=true:=by decide+kernel
theorem rP:Slot "map" "__next__" "map.__next__":=.of (owner:="map") (n:="__next__") (by(rewrite[gR];refine aM dX ?_);kernel_rfl) (by decide+kernel) (by decide+kernel) (by decide+kernel)
  (by first|exact .inl (by decide+kernel)|exact .inr (by decide+kernel)) (by rw[iY];kernel_rfl)
theorem zR(a:aG):argsOk "map.__next__" ⟨[a],[]⟩:=by kernel_rfl
theorem CL(a b c:aG):argsOk "object.__init__" ⟨[a,b,c],[]⟩:=by kernel_rfl
noncomputable abbrev Gx(t:Addr)(f:aG):Obj:={cls:=.type "map",data:=.fields #[.ref t,f]}
structure rK(h:Heap)(m it l:Addr)(f:aG)(i:Nat)(items:Array aG):Prop where
 t:∃t,h.get? m=some (Gx t f)∧h.get? t=some {cls:=.type "tuple",data:=.seq #[.ref it]}
 it:h.IsListIter it l i
 l:h.IsList l items
theorem BO{f:aG}{l:Addr}{items:Array aG}{Q₁:aG→aH→Prop}(hl:s.heap.IsList l items)
  (h:∀m it h',rK h' m it l f 0 items→s.heap.get? m=none→s.heap.get? it=none→(∀b o,s.heap.get? b=some o→h'.get? b=some o)→Q₁ (.ref m) {s with heap:=h'}):
  codeAny (model prog w) A (.call (.builtin "map.__new__") ⟨[.type "map",f,.ref l],[]⟩) (wants Q₁ E) s:=by
 refine oI ?_
 refine aB (bE (Av _ _) (aE ⟨jL uF _,gS zQ ?_⟩))
 refine aM (d7 uF _) ?_
 refine aB ?_
 refine aB (bE (a:=true) (by rfl) ?_)
 refine bP (by decide) ?_
 refine aB (bE E0 ?_)
 refine bP (by decide) (aE ?_)
 refine aB (bE (a:=()) (by rfl) ?_)
 refine bP (by rfl) ?_
 refine aB (aB ?_)
 refine aB (aB (a8 (wpAny_pyIter_list hl ?_)))
 refine aE (aE (aE ?_))
 refine(?_:wpAny _ _ (newTuple [cR s.heap.objs.size]>>=_) _ _ _)
 refine aB ?_
 refine c8 ?_ (by size_fits)
 refine aB ?_
 unfold Builtin.SmallTypes.newRecord
 refine c8 (aE ?_) (by size_fits)
 have f0:s.heap.get? s.heap.objs.size=none:=dG _
 refine h _ s.heap.objs.size _ ⟨⟨_,aW _ rfl,aP _ (aW _ rfl)⟩,⟨_,aP _ (aP _ (aW _ rfl)),rfl,rfl⟩,?_⟩ ?_ f0 ?_
 ·exact((hl.push _).push _).push _
 ·exact gB (by simp only[fZ];simp+arith only[])
 ·exact fun b o e=>aP _ (aP _ (aP _ e))
theorem Hk{f:aG}{l:Addr}{items:Array aG}{Q:aG→aH→Prop}(hl:s.heap.IsList l items)
  (h:∀m it h',rK h' m it l f 0 items→s.heap.get? m=none→s.heap.get? it=none→(∀b o,s.heap.get? b=some o→h'.get? b=some o)→Q (.ref m) {s with heap:=h'}):
  wpAny (model prog w) A (call (.type "map") [f,.ref l]) Q E s:=by
 refine callType_codes (Q₁:=fun obj s₁=>∃m it h',obj= .ref m∧s₁={s with heap:=h'}∧rK h' m it l f 0 items∧s.heap.get? m=none∧s.heap.get? it=none∧(∀b o,s.heap.get? b=some o→h'.get? b=some o)) yK (F0 _ _) F.entry_object_init
  (BO hl fun m it h' a b c d=>⟨m,it,h',rfl,rfl,a,b,c,d⟩) fun obj s₁ h₁=>?_
 (refine Lm h₁ fun m it h' e_0=>?_;subst e_0;refine fun e_0=>?_;subst e_0;refine fun a b c d=>?_)
 refine bG a.t fun t e1 e2=>?_
 refine⟨⟨_,e1,rfl⟩,CL _ _ _,?_⟩
 have hT:({s with heap:=h'}:aH).TypeIs (.ref m) "map":=⟨_,e1,rfl⟩
 unfold Builtin.«object.__init__»
 refine dN (by rfl) ?_
 refine aB (wpAny_typeOf hT ?_)
 refine aB (bE AS ?_)
 refine aB (bE yK.made ?_)
 refine bP (by decide+kernel) ?_
 refine bP (by decide+kernel) ?_
 exact aE ⟨rfl,h m it h' a b c d⟩
theorem CN{it l:Addr}{i:Nat}{items:Array aG}{x:aG}{Q:aG→aH→Prop}(hit:s.heap.IsListIter it l i)(hl:s.heap.IsList l items)(hx:items[i]?=some x)
  (hQ:∀h',h'.IsListIter it l (i+1)→bY it s.heap h'→Q x {s with heap:=h'}):wpAny (model prog w) A (oK (.ref it)) Q E s:=by
 refine nY (id hit) fun o ho hc hd=>?_
 obtain⟨ol,hol,_,nl,hdl⟩:=hl
 refine aB (dZ (name:=aA "__next__") hit.typeIs sS
  (dB sS hit.typeIs entry_listiter_next ?_ (args_listiter_next _)))
 refine(?_:wpAny _ _ (field (.ref it) 0>>=_) _ _ s)
 refine aB (gJ ho hd (x:=.ref l) rfl ?_)
 refine aM (if_neg (show¬((cR l==dY)=true)from f4)) ?_
 refine aB (gJ ho hd (x:=.int i 0) rfl ?_)
 refine aB (nH hol hdl ?_)
 simp only[iT,hx]
 refine aB (wpAny_setField ho hd (by simp) (aE ⟨x,rfl,aE (hQ _ ?_ (cU ..))⟩))
 exact⟨_,cW _ ho (Obj.isFreed_of_fields (Obj.data_mapFields hd _)),(Obj.cls_mapFields ..).trans hc,by
  rw[Obj.data_mapFields hd];simp[rawInt]⟩
theorem DZ{it l:Addr}{i:Nat}{items:Array aG}{Q:aG→aH→Prop}(hh:A.handled=none)(hit:s.heap.IsListIter it l i)(hl:s.heap.IsList l items)(hx:items[i]?=none)
  (hE:∀h' e oe,Heap.ExtBut it s.heap h'→h'.get? e=some oe→oe.cls= .type "StopIteration"→E (.ref e) {s with heap:=h'}):wpAny (model prog w) A (oK (.ref it)) Q E s:=by
 refine nY (id hit) fun o ho hc hd=>?_
 obtain⟨ol,hol,_,nl,hdl⟩:=hl
 refine aB (dZ (name:=aA "__next__") hit.typeIs sS
  (dB sS hit.typeIs entry_listiter_next ?_ (args_listiter_next _)))
 refine(?_:wpAny _ _ (field (.ref it) 0>>=_) _ _ s)
 refine aB (gJ ho hd (x:=.ref l) rfl ?_)
 refine aM (if_neg (show¬((cR l==dY)=true)from f4)) ?_
 refine aB (gJ ho hd (x:=.int i 0) rfl ?_)
 refine aB (nH hol hdl ?_)
 simp only[iT,hx]
 refine aB (fT (aB (wpAny_setField ho hd (by simp) ?_)))
 refine aB ?_
 refine aB (c8 ?_ (by size_fits))
 refine aB (m:=firstArgMember _ _) (bE (a:=dY) (by first|rfl|(rfl)) ?_)
 refine c8 ?_ (by size_fits)
 refine aB (wpAny_handled ?_)
 refine aM (show A.in1.handled=none from hh) ?_
 refine aB (aE (wpAny_throw ?_))
 exact hE _ _ _ (((cU ..).extBut.push _).push _) (aW _ rfl) rfl
theorem CS{m it l:Addr}{f:aG}{i:Nat}{items:Array aG}{Q':Option aG→aH→Prop}(M:rK s.heap m it l f i items)
  (h:wpAny (model prog w) A.in1 (oK (.ref it)) (fun x s₁=>s₁.heap.get? m=s.heap.get? m∧wpAny (model prog w) A.in1 (call f [x]) (fun v s₂=>Q' (some v) s₂) (fun j j=>False) s₁)
   (fun e s₁=>∃a oe,e= .ref a∧s₁.heap.get? a=some oe∧oe.cls= .type "StopIteration"∧Q' none s₁) s):wpAny (model prog w) A (pyNext (.ref m)) Q' E s:=by
 refine bG M.t fun t e1 e2=>?_
 have hT:s.TypeIs (.ref m) "map":=⟨_,e1,rfl⟩
 have hd:(Gx t f).data= .fields #[.ref t,f]:=rfl
 refine aB (iB (dZ (name:=aA "__next__") hT rP
  (dB rP hT yI ?_ (zR _))))
 refine aB (bE (a:=(.ref m,[])) (by rfl) ?_)
 refine aB (gJ e1 hd (x:=.ref t) rfl ?_)
 refine aB (nH e2 rfl ?_)
 refine aB ?_
 refine aB (aB (a8 (bD h (fun x s₁ h₁=>?_) fun e s₁ h₁=>?_)))
 ·(refine gE h₁ fun hm h₁=>?_)
  refine aE (aE ?_)
  refine aB (gJ (hm.trans e1) hd (x:=f) rfl ?_)
  refine aB (a8 (bD h₁ (fun v s₂ h₂=>?_) fun j j z=>z.elim))
  refine aB (wpAny_letGo ?_)
  exact aE ⟨v,rfl,aE h₂⟩
 ·obtain⟨a,oe,rfl,e3,e4,h₁⟩:=h₁
  refine aB (qW (T:="StopIteration") (b:=true) ⟨_,e3,e4⟩ isSubtype_stop ?_)
  exact aE h₁
theorem rQ:Slot "map" "__iter__" "map.__iter__":=.of (owner:="map") (n:="__iter__") (by(rewrite[gR];refine aM dX ?_);kernel_rfl) (by decide+kernel) (by decide+kernel) (by decide+kernel)
  (by first|exact .inl (by decide+kernel)|exact .inr (by decide+kernel)) (by rw[iY];kernel_rfl)
theorem zT(a:aG):argsOk "map.__iter__" ⟨[a],[]⟩:=by kernel_rfl
theorem D3:typeLookup (.type "map") "__len__"=pure none:=by(rewrite[gR];refine aM dX ?_);kernel_rfl
theorem CT:typeLookup (.type "map") "__length_hint__"=pure none:=by(rewrite[gR];refine aM dX ?_);kernel_rfl
theorem yJ:entryFor table "map.__iter__"=some Builtin.«dict_keyiterator.__iter__»:=
 entryFor_alias (id':="dict_keyiterator.__iter__") (by rw[i8];kernel_rfl) (by decide+kernel) (by rw[eP];decide+kernel) (by rw[i8];kernel_rfl)
theorem v7{R:iR→aH→Prop}{S m:Addr}{res:aG}{acc:Array aG}{c:Nat}(hS:s.heap.get? S=some {cls:=.type "list",data:=.seq acc c})(hz:acc.size≤1000)
  (h:wpAny (model prog w) A.in1 (pyNext (.ref m)) (fun r s₁=>match r with
   |none=>R (.ok (.ret res)) s₁
   |some v=>s₁.heap.get? S=some {cls:=.type "list",data:=.seq acc c}∧∀h' c',h'.get? S=some {cls:=.type "list",data:=.seq (acc.push v) c'}→bY S s₁.heap h'→codeAny (model prog w) A (.builtin "list.extend.loop" ⟨[.ref S,.ref m,res],[]⟩) R {s₁ with heap:=h'}) (fun e s'=>R (.error e) s') s):
  codeAny (model prog w) A (.builtin "list.extend.loop" ⟨[.ref S,.ref m,res],[]⟩) R s:=by
 refine gS F.entry_extend_loop ?_
 refine aM (d7 nU _) ?_
 refine aB (bD h (fun r s₁ h₁=>?_) fun j j z=>z)
 cases r with
 |none=>exact aE h₁
 |some v=>
  (refine gE h₁ fun hS₁ h₁=>?_)
  refine aB ?_
  refine mM hS₁ rfl (aE ⟨jL nU _,h₁ _ _ (cW _ hS₁ rfl) (cU ..)⟩) (by refine aM bV ?_;exact aD (by assumption) (by decide)) (by(rewrite[Array.size_push];refine aM bV ?_);exact aR (by assumption) (by decide))
theorem AC{h h':Heap}{it l:Addr}{i:Nat}(x:h.IsListIter it l i)(k:∀o,h.get? it=some o→h'.get? it=some o):h'.IsListIter it l i:=bG x fun o e r=>⟨o,k _ e,r⟩
theorem A6{h h':Heap}{l:Addr}{v:Array aG}(x:h.IsList l v)(k:∀o,h.get? l=some o→h'.get? l=some o):h'.IsList l v:=bG x fun o e r=>⟨o,k _ e,r⟩
theorem D5{h h':Heap}{m it l:Addr}{f:aG}{i:Nat}{items:Array aG}(M:rK h m it l f i items)(k:∀b o,b≠it→h.get? b=some o→h'.get? b=some o)(hi:h'.IsListIter it l (i+1)):rK h' m it l f (i+1) items:=by
 refine bG M.t fun t e1 e2=>?_
 refine nY M.it fun o e3 e4 e5=>?_
 have n1:m≠it:=fun q=>by rw[q,e3]at e1;obtain rfl:=a9 e1;exact absurd e4 (by simp)
 have n2:t≠it:=fun q=>by rw[q,e3]at e2;obtain rfl:=a9 e2;exact absurd e4 (by trivial)
 have n3:l≠it:=fun q=>by refine nY M.l fun o' e c z=>?_;rw[q,e3]at e;obtain rfl:=a9 e;rw[e4]at c;exact absurd c (by trivial)
 exact⟨⟨t,k _ _ n1 e1,k _ _ n2 e2⟩,hi,A6 M.l fun o=>k _ o n3⟩
theorem D7{h h':Heap}{m it l:Addr}{f:aG}{i:Nat}{items:Array aG}(M:rK h m it l f i items)(k:∀b o,h.get? b=some o→h'.get? b=some o):rK h' m it l f i items:=by
 refine bG M.t fun t e1 e2=>?_
 exact⟨⟨t,k _ _ e1,k _ _ e2⟩,AC M.it fun o=>k _ o,A6 M.l fun o=>k _ o⟩
theorem CR{m it l:Addr}{f x:aG}{i:Nat}{items:Array aG}{Q':Option aG→aH→Prop}(M:rK s.heap m it l f i items)(hx:items[i]?=some x)
  (h:∀h',rK h' m it l f (i+1) items→(∀b o,b≠it→s.heap.get? b=some o→h'.get? b=some o)→wpAny (model prog w) A.in1 (call f [x]) (fun v s₂=>Q' (some v) s₂) (fun z z=>False) {s with heap:=h'}):
  wpAny (model prog w) A (pyNext (.ref m)) Q' E s:=by
 refine CS M (CN M.it M.l hx fun h' hit' sb=>?_)
 have k:∀b o,b≠it→s.heap.get? b=some o→h'.get? b=some o:=fun b o hb e=>(sb.2 b hb).trans e
 have M':=D5 M k hit'
 refine bG M.t fun t e1 e2=>?_
 refine nY M.it fun o e3 e4 e5=>?_
 have n1:m≠it:=fun q=>by rw[q,e3]at e1;obtain rfl:=a9 e1;exact absurd e4 (by simp)
 exact⟨sb.2 _ n1,h h' M' k⟩
theorem Gw{m it l:Addr}{f:aG}{i:Nat}{items:Array aG}{Q':Option aG→aH→Prop}(hh:A.handled=none)(M:rK s.heap m it l f i items)(hx:items[i]?=none)
  (h:∀h',(∀b o,b≠it→s.heap.get? b=some o→h'.get? b=some o)→Q' none {s with heap:=h'}):wpAny (model prog w) A (pyNext (.ref m)) Q' E s:=
 CS M (DZ hh M.it M.l hx fun h' e oe hx e1 e2=>⟨e,oe,rfl,e1,e2,h h' fun b o hb=>hx b o hb⟩)
theorem z7{m it l:Addr}{p q:Str}{t1 t2:Tok}{Q:List aG→aH→Prop}(hh:A.handled=none)(M:rK s.heap m it l (.builtin "str.strip") 0 #[.str p t1,.str q t2])(hp:p.length≤1000)(hq:q.length≤1000)
  (h:∀t1' t2' h' tk,(∀b o,b≠it→s.heap.get? b=some o→h'.get? b=some o)→Q [.str (Txt.strip p) t1',.str (Txt.strip q) t2'] {s with heap:=h',toks:=tk}):wpAny (model prog w) A (collect (.ref m)) Q E s:=by
 refine bG (id M.t) fun tt e1 e2=>?_
 have hne:s.heap.objs.size≠m:=fun q=>by rw[←q,dG]at e1;nomatch e1
 refine aB (wpAny_runValue (gS F.entry_proto_collect ?_))
 refine aM (d7 F.plain_proto_collect _) ?_
 refine aB (c8 ?_)
 refine aE ⟨jL F.plain_list_iadd _,gS F.entry_list_iadd ?_⟩
 refine aM (d7 F.plain_list_iadd _) ?_
 have hT₁:({s with heap:=s.heap.push {cls:=.type "list",data:=.seq ([]:List aG).toArray}}:aH).TypeIs (.ref m) "map":=⟨_,aP _ e1,rfl⟩
 refine(?_:wpAny _ A.in1 (Builtin.List.listExtendWith (.ref s.heap.objs.size) (.ref m) (.ref s.heap.objs.size)) _ _ _)
 refine aB (wpAny_typeOf hT₁ ?_)
 have h1:mE (.ref s.heap.objs.size) (.ref m)=false:=by simp[mE,hne]
 have h2:(Value.type "map"==Value.type "list")=false:=by decide
 have h3:(Value.type "map"==Value.type "tuple")=false:=by decide
 refine aM h1 (aM h2 (aM h3 ?_))
 refine aB (pO hT₁ rQ (dB rQ hT₁ yJ ?_ (zT _)))
 refine bE (a:=Fin.done (.ret (.ref m))) (by rfl) ⟨_,rfl,"map",_,hT₁,rP.lookup,?_⟩
 refine aB (a8 ?_)
 refine aB (rT hT₁ D3 ?_)
 refine aB (rT hT₁ CT ?_)
 refine aE ?_
 refine aB (fT ?_)
 have hS₁:(s.heap.push {cls:=.type "list",data:=.seq ([]:List aG).toArray}).get? s.heap.objs.size=some {cls:=.type "list",data:=.seq ([]:List aG).toArray}:=aW _ rfl
 refine aB ?_
 refine aB (mM hS₁ rfl ?_)
 have hS₂:=cW (eO (·.push dY)) hS₁ rfl
 refine mM hS₂ rfl ?_
 have hS₃:=cW (eO (·.pop)) hS₂ rfl
 have oth:∀b o,s.heap.get? b=some o→
   (((s.heap.push {cls:=.type "list",data:=.seq ([]:List aG).toArray}).update s.heap.objs.size (eO (·.push dY))).update s.heap.objs.size (eO (·.pop))).get? b=some o:=fun b o e=>by
  have hb:b≠s.heap.objs.size:=fun q=>by rw[q,dG]at e;nomatch e
  exact(gA _ _ (eH hb)).trans ((gA _ _ (eH hb)).trans (aP _ e))
 have M₃:=D7 M oth
 have hSl:s.heap.objs.size≠it:=fun q=>by
  refine bG M.it fun o e z=>?_
  rw[←q,dG]at e;nomatch e
 generalize hS:s.heap.objs.size=S at*
 generalize (((s.heap.push {cls:=.type "list",data:=.seq ([]:List aG).toArray}).update S (eO (·.push dY))).update S (eO (·.pop)))=h₃ at*
 have hS₃':∃c,h₃.get? S=some {cls:=.type "list",data:=.seq #[] c}:=⟨_,by simpa[eO]using hS₃⟩
 (refine bK hS₃' fun c₃ hS₃'=>?_)
 refine aE ⟨jL nU _,?_⟩
 have keepS:∀{ha hb:Heap},bY S ha hb→(∀b o,s.heap.get? b=some o→b≠it→ha.get? b=some o)→∀b o,s.heap.get? b=some o→b≠it→hb.get? b=some o:=fun{ha hb} sb k b o e n=>by
  have hb:b≠S:=fun q=>by rw[q,←hS,dG]at e;nomatch e
  exact(sb.2 b hb).trans (k b o e n)
 refine v7 hS₃' (by trivial) (CR M₃ (by rfl) fun h4 M4 k4=>?_)
 refine SC.strip (fun t1' tk1=>⟨(k4 S _ hSl hS₃'),fun h5 c5 e5 sb5=>?_⟩) (by refine aM bV ?_;exact aD (by assumption) (by decide))
 have M5:rK h5 m it l (.builtin "str.strip") 1 #[.str p t1,.str q t2]:=by
  refine bG M4.t fun t a1 a2=>?_
  refine nY M4.it fun o3 a3 a4 a5=>?_
  refine nY M4.l fun ol b1 b2 b3=>?_
  have hS4:=k4 S _ hSl hS₃'
  have nm:m≠S:=fun q=>by rw[q,hS4]at a1;injection a1 with a1;exact absurd (congrArg Obj.cls a1) (by simp)
  have nt:t≠S:=fun q=>by rw[q,hS4]at a2;injection a2 with a2;exact absurd (congrArg Obj.cls a2) (by simp)
  have nl:l≠S:=fun q=>by
   refine bG M.l fun ol b1 z=>?_
   rw[q,←hS,dG]at b1;nomatch b1
  exact⟨⟨t,(sb5.2 _ nm).trans a1,(sb5.2 _ nt).trans a2⟩,⟨o3,(sb5.2 _ (eH hSl)).trans a3,a4,a5⟩,⟨ol,(sb5.2 _ nl).trans b1,b2,b3⟩⟩
 have k5:=keepS sb5 fun b o e n=>k4 b o n (oth b o e)
 refine v7 e5 (by simp) (CR M5 (by rfl) fun h6 M6 k6=>?_)
 refine SC.strip (fun t2' tk2=>⟨(k6 S _ hSl e5),fun h7 c7 e7 sb7=>?_⟩) (by refine aM bV ?_;exact aD (by assumption) (by decide))
 have M7:rK h7 m it l (.builtin "str.strip") 2 #[.str p t1,.str q t2]:=by
  refine bG M6.t fun t a1 a2=>?_
  refine nY M6.it fun o3 a3 a4 a5=>?_
  refine nY M6.l fun ol b1 b2 b3=>?_
  have hS4:=k6 S _ hSl e5
  have nm:m≠S:=fun q=>by rw[q,hS4]at a1;injection a1 with a1;exact absurd (congrArg Obj.cls a1) (by simp)
  have nt:t≠S:=fun q=>by rw[q,hS4]at a2;injection a2 with a2;exact absurd (congrArg Obj.cls a2) (by simp)
  have nl:l≠S:=fun q=>by
   refine bG M.l fun ol b1 z=>?_
   rw[q,←hS,dG]at b1;nomatch b1
  exact⟨⟨t,(sb7.2 _ nm).trans a1,(sb7.2 _ nt).trans a2⟩,⟨o3,(sb7.2 _ (eH hSl)).trans a3,a4,a5⟩,⟨ol,(sb7.2 _ nl).trans b1,b2,b3⟩⟩
 have k7:=keepS sb7 fun b o e n=>k6 b o n (k5 b o e n)
 refine v7 e7 (by simp) (Gw hh M7 (by rfl) fun h8 k8=>?_)
 have e8:=k8 S _ hSl e7
 refine aB (nJ e8 ?_)
 exact aE (h t1' t2' h8 _ fun b o n e=>k8 b o n (k7 b o e n))
noncomputable abbrev kf(w:cN):Frag:=hk.heap_1 w.params
theorem Bw(w:cN):readsIn (kf w) 221 (.type "type")=true:=by kernel_rfl
theorem Ie(w:cN):findCls (kf w) (.ref 221) (.type "type") (aA "__new__")=some (.get (.builtin "staticmethod.__get__") (.ref 199) .none (.ref 221)):=by kernel_rfl
theorem FL(w:cN):recIn (kf w) 199 "staticmethod"=some [.ref 148]:=by kernel_rfl
theorem Ih(w:cN):specialIn (kz w) (.ref 221) "__call__"=some (some (.builtin "type.__call__")):=by kernel_rfl
theorem KP(w:cN):instIn (kz w) (.ref 221) (.type "type")=some true:=by kernel_rfl
theorem EX(w:cN):findIn (kz w) (.ref 221) "__init__"=some (some (.builtin "object.__init__")):=by kernel_rfl
theorem IP(w:cN):findCls (kf w) (.type "tuple") (.type "type") (aA "__new__")=some (.val (.builtin "tuple.__new__")):=by kernel_rfl
theorem J7:specialOf (.type "tuple") "__getattribute__"=pure (some (.builtin "type.__getattribute__")):=by kernel_rfl
theorem GG:entryFor table "tuple.__new__"=some Builtin.«tuple.__new__»:=gZ (by kernel_rfl)
noncomputable def LO:ClassData:={name:=aA "Pair",bases:=[cR 198],mro:=[cR 221,cR 198,Value.type "tuple",Value.type "object"],ns:=220,qualname:=aA "Pair"}
theorem KR(w:cN):clsIn (kz w) 221=some LO:=by kernel_rfl
theorem GH{h:Heap}(k:(kz w).In h)(v:aG):dT (model prog w) h (checkBuiltinCall "tuple.__new__" ⟨[.ref 221,v],[]⟩) ():=cH k (by unfold checkBuiltinCall;rw[eP];kernel_rfl)
theorem FM{h:Heap}(k:(kz w).In h):dT (model prog w) h (isType (.ref 221)) true:=cH k (by kernel_rfl)
theorem DR{h:Heap}(k:(kz w).In h):dT (model prog w) h (isSubtype (.ref 221) (.type "tuple")) true:=cH k (by kernel_rfl)
theorem DQ{h:Heap}(k:(kz w).In h):dT (model prog w) h (isSubtype (.ref 221) (.ref 221)) true:=cH k (by kernel_rfl)
theorem By{h:Heap}(k:(kz w).In h):dT (model prog w) h (Bind.madeHere "tuple.__new__" (.ref 221)) ():=cH k (by unfold Bind.madeHere;rw[eP];kernel_rfl)
theorem AJ{h:Heap}(k:(kz w).In h):dT (model prog w) h (Bind.madeBy (.ref 221)) none:=cH k (by kernel_rfl)
theorem FN{h:Heap}(k:(kz w).In h):dT (model prog w) h (classHasDel 221) false:=cH k (by kernel_rfl)
noncomputable abbrev uD(dd:Addr)(x y:aG):Obj:={cls:=.ref 221,dict:=some dd,data:=.seq #[x,y]}
theorem Gc{h h₁:Heap}{l:Addr}(hk:∀b o,h.get? b=some o→h₁.get? b=some o)(e:h₁.get? l=none):h.get? l=none:=by
 cases q:h.get? l with
 |none=>rfl
 |some o=>replace e:=(hk _ _ q)▸e;cases e
theorem KC{R:iR→aH→Prop}{hp:Heap}{g d tk os}{T:Addr}{x y:aG}(k:(kz w).In hp)(hT:hp.get? T=some {cls:=.type "tuple",data:=.seq #[x,y]})
  (q:∀h' p dd tk',h'.get? p=some (uD dd x y)→h'.get? dd=some kR→hp.get? p=none→hp.get? dd=none→(∀b o,hp.get? b=some o→h'.get? b=some o)→R (.ok (.ret (.ref p))) ⟨h',g,d,tk',os⟩):
  codeAny (model prog w) A (.call (.builtin "tuple.__new__") ⟨[.ref 221,.ref T],[]⟩) R ⟨hp,g,d,tk,os⟩:=by
 refine cM (by decide+kernel) GG ((GH k (.ref T)).at ?_)
 refine aB ((FM k).at ?_)
 refine bP (by decide) ?_
 refine aB ((DR k).at ?_)
 refine bP (by decide) ?_
 refine aB ((By k).at ?_)
 refine aB ((dW k (EX w)).at ?_)
 refine dN (by decide+kernel) ?_
 refine aB (bE (a:=()) (by rfl) ?_)
 refine aB (bE (a:=()) (by rfl) ?_)
 refine bP (by rfl) ?_
 refine aB (wpAny_collect_seq T (T:="tuple") (items:=#[x,y]) (n:=0) (.inr rfl) hT rfl rfl (fun h1 k1=>?_) (by refine(?_:(2:Nat)≤sizeLine);refine aM bV ?_;decide))
 have k1':=k.keeps k1
 have hdel:=FN (prog:=prog) k1'
 refine(?_:wpAny _ _ (alloc {cls:=.type "dict",data:=.dict #[]}>>=fun dd=>newObj (.ref 221) (.seq #[x,y]) (some dd)>>=fun v=>ret v) _ _ _)
 refine aB (wpAny_alloc ?_)
 refine aB ?_
 unfold newObj
 dsimp only
 refine aM (if_neg (by refine(?_:¬((2:Nat)>sizeLine));refine aM bV ?_;decide)) ?_
 refine aB (wpAny_alloc ?_)
 have hup:∀b o,h1.get? b=some o→((h1.push kR).push (uD h1.objs.size x y)).get? b=some o:=fun b o e=>aP _ (aP _ e)
 have hdel2:=hdel.keeps hup
 refine aB (hdel2.at ?_)
 refine bP (by decide) ?_
 refine aE (aE ?_)
 refine q _ _ h1.objs.size _ (aW _ rfl) (aP _ (aW _ rfl)) ?_ (Gc k1 (dG _)) fun b o e=>hup b o (k1 b o e)
 cases e:hp.get? (h1.push kR).objs.size with
 |none=>rfl
 |some o=>
  have:=eL (k1 _ _ e)
  rw[fZ]at this
  exact absurd this (Nat.not_lt.mpr (gT _))
theorem yH{pl:Sem Bool}{Q:aG×List aG→aH→Prop}(X:(kf w).In s.heap)(h:∀tk,Q (.builtin "tuple.__new__",[]) {s with toks:=tk}):
  wpAny (model prog w) A (getMethod (.type "tuple") (aA "__new__") pl) Q E s:=by
 refine aB (bE J7 ?_)
 refine dN (by rw[eP];decide+kernel) ?_
 refine aB ?_
 refine cls_open (K:=kf w) (mc:=.type "type") (hook:=none) X (gH (by kernel_rfl)) (gH (by kernel_rfl)) (by kernel_rfl) (gH (by rfl)) (by kernel_rfl) (IP w) ?_
 refine aE ?_
 refine(?_:wpAny _ _ (handedOut (.builtin "tuple.__new__")) _ _ _)
 refine aM (pR (by decide+kernel)) ?_
 exact aE (aE (h _))
theorem Ke{x y:aG}{n:Nat}{Q:aG→aH→Prop}(kw:KW V (kz w) mg mb X u.heap)(R:dK A (n+2))(hb:Bd V X u)(x2:S2 w u.heap)
  (q:∀s' p dd,Keeps V u s'→s'.heap.get? p=some (uD dd x y)→s'.heap.get? dd=some kR→u.heap.get? p=none→u.heap.get? dd=none→Q (.ref p) s'):wpAny (model prog w) A (call (.ref 148) [.ref 221,x,y]) Q E u:=by
 refine J4 AY kw R hb (ho:=rfl) (by rfl) (by rfl) (binds:=[("_cls",.ref 221),("name",x),("value",y)]) (by rfl) (by rfl) ?_ (fun L=>rfl) ?_
 ·intro L z hz
  replace hz:=m3 hz
  rcases hz with rfl|rfl|rfl<;>exact .inl rfl
 intro L s₁ hL k₁ nx F
 refine eS (.mk<|wpAny_Expr (rA ⟨rfl,?_⟩))
 generalize hs2:({s₁ with toks:=s₁.toks+1}:aH)=s₂
 have k₂:cO s₁ s₂:=by subst hs2;exact⟨s₁.heap,_,rfl,fun j j e=>e⟩
 have F₂:=F.keep (h9 (V:=V) k₂)
 clear hs2
 have kw₂:=(kw.nx nx).nx (gM.of_keeps (X:=kD (AY L) X) (h9 (V:=V) k₂)).nx
 refine .mk<|dQ (kE ?_)
 refine oQ rfl rfl rfl ?_
 have kin₂:(kz w).In s₂.heap:=kw₂.k.keeps fun j j e=>a6 _ e
 have gl:s₂.heap.Ns mainGlobals mg:=kw₂.g.keeps fun j j e=>a6 _ e
 have bl:s₂.heap.Ns builtinsNs mb:=kw₂.b.keeps fun j j e=>a6 _ e
 have k₁₂:=aN k₁ (h9 (V:=V) k₂)
 have x2₂:S2 w s₂.heap:=x2.at fun o=>(dA k₁₂).o2 hb.two.two o
 have n0:nsIn (kz w) mainGlobals (aA "tuple")=some none:=by rfl
 have hns:=F₂.ns
 refine dH (env:=AY L) rfl rfl (eJ (mg:=mg) (mb:=mb) gl (kJ kw₂.k kw₂.g n0) bl ((kw₂.bi _ (by decide+kernel)).trans rfl) ?_) (by decide+kernel)
 intro pl
 refine yH (pX kin₂ x2₂) fun tk=>?_
 refine f6 rfl (gP (eR (iE (cT (env:=AY L) rfl rfl hns rfl ?_) (by decide))))
 refine eR (Tuple_ (k:=0) ?_)
 refine eR (iE (cT (env:=AY L) rfl rfl hns rfl ?_) (by decide))
 refine eR (iE (cT (env:=AY L) rfl rfl hns rfl ?_) (by decide))
 refine iW (pP (hsz:=by refine(?_:2≤sizeLine);refine aM bV ?_;decide) (iW ?_))
 have hup:∀b o,s₂.heap.get? b=some o→(s₂.heap.push {cls:=.type "tuple",data:=.seq [x,y].toArray}).get? b=some o:=fun b o e=>aP _ e
 refine dR (KC (x:=x) (y:=y) (kin₂.keeps hup) (aW _ rfl) fun h' p dd tk' e1 e2 n1 n2 hk=>?_)
 have k3:cO s₂ {s₂ with heap:=h',toks:=tk'}:=⟨h',tk',rfl,fun b o e=>hk _ _ (hup b o e)⟩
 refine q _ p dd (aN k₁₂ (h9 k3)) e1 e2 ?_ (fQ k₁₂ hb.two (Gc hup n2))
 cases e:u.heap.get? p with
 |none=>rfl
 |some o=>
  have hs2:∃o',s₂.heap.get? p=some o':=by
   by_cases hV:p∈V
   ·refine bG ((gL k₁₂ hb.two).al p hV) fun o' e' j=>?_;exact⟨o',e'⟩
   ·exact⟨o,a7 k₁₂ p o hV e⟩
  refine bK hs2 fun o' e'=>?_
  replace n1:=(hup _ _ e')▸n1;cases n1
theorem zL{n:Nat}{c:Addr}{args:List aG}(r:dK A (n+1)):dK (A.under (.builtin "type.__call__" ⟨.ref c::args,[]⟩)) n:=by
 refine⟨?_,?_,?_,?_,?_⟩
 ·have:=r.depth
  refine(?_:A.depth+1+n≤900)
  exact aD (aU (j9 _ _)) this
 ·have:=r.units
  have e:(Code.builtin "type.__call__" ⟨.ref c::args,[]⟩).cUnits=1:=rfl
  refine(?_:A.units+(Code.builtin "type.__call__" ⟨.ref c::args,[]⟩).cUnits+100*n≤9000)
  (refine aM e ?_;exact aD (mW (gF (by decide:1≤100) _) _) (aD (aU (by rw[Nat.add_assoc,oS 100,Nat.mul_succ])) this))
 ·exact r.handled
 ·exact r.frames
 ·exact r.guards
theorem F1{x y:aG}{n:Nat}{Q:aG→aH→Prop}(kw:KW V (kz w) mg mb X u.heap)(R:dK A (n+4))(hb:Bd V X u)(x2:S2 w u.heap)
  (q:∀s' p dd,Keeps V u s'→s'.heap.get? p=some (uD dd x y)→s'.heap.get? dd=some kR→u.heap.get? p=none→u.heap.get? dd=none→Q (.ref p) s'):wpAny (model prog w) A (call (.ref 221) [x,y]) Q E u:=by
 have k:(kz w).In u.heap:=kw.k.keeps fun z z e=>a6 _ e
 have f221:=k 221 _ (by rfl)
 refine dR (oI ?_)
 refine(?_:wpAny _ A.in1 (callAny (.ref 221) ⟨[x,y],[]⟩) _ _ _)
 obtain⟨hp,g,d,tk,os⟩:=u
 dsimp only at k f221
 refine nd_load f221 ?_
 refine(?_:wpAny _ _ (callAny.viaDunder (.ref 221) _) _ _ _)
 refine aB ((looks_specialIn k (Ih w)).at ?_)
 dsimp only
 rw[tc_bind]
 refine aB (aE (aB (aE ?_)))
 refine aE (a:=Fin.again (.call (.builtin "type.__call__") ⟨.ref 221::[x,y],[]⟩)) (m7 rfl ?_)
 refine codeAny_call_builtin_at (jH _ (by decide+kernel)) entry_typeCall (nL tc_kind tc_split (looks_instIn k (KP w)) (tc_args _ _ _) ?_)
 have R':dK (A.under (.builtin "type.__call__" ⟨.ref 221::[x,y],[]⟩)) (n+3):=zL R
 generalize A.under (.builtin "type.__call__" ⟨.ref 221::[x,y],[]⟩)=A' at*
 unfold Builtin.«type.__call__»
 have hm:=o0 (M:=model prog w) k (KR w)
 have made:=AJ (prog:=prog) (w:=w) k
 refine bP (by rfl) ?_
 refine aB (hm.at ?_)
 refine bP (by decide) ?_
 refine aB (made.at ?_)
 refine aB (cls_bind (K:=kf w) (pX k x2) (Bw w) (Ie w) (dR (sm_get (K:=kf w) (pX k x2) (FL w) ?_)))
 refine(?_:wpAny _ _ (handedOut (.ref 148)) _ _ _)
 refine aM (pR (by rfl)) ?_
 refine aE ?_
 refine aB (a8 ?_)
 have k0:cO ⟨hp,g,d,tk,os⟩ ⟨hp,g,d,tk+1,os⟩:=⟨hp,_,rfl,fun z z e=>e⟩
 refine Ke (n:=n+1) (u:=⟨hp,g,d,tk+1,os⟩) kw R' (hb.keeps (h9 (V:=V) k0)) x2 fun s' p dd ks e1 e2 n1 n2=>?_
 have ks':=aN (h9 (V:=V) k0) ks
 have kin':(kz w).In s'.heap:=(kw.nx (gM.of_keeps (X:=X) ks').nx).k.keeps fun z z e=>a6 _ e
 obtain⟨hp',g',d',tk',os'⟩:=s'
 dsimp only at kin' e1 e2
 have t1:dT (model prog w) hp' (typeOf (.ref p)) (.ref 221):=(nM e1).andThen .now
 have i1:dT (model prog w) hp' (isInstance (.ref p) (.ref 221)) true:=t1.andThen (DQ kin')
 have i2:=dW (M:=model prog w) kin' (EX w)
 refine aB (i1.at ?_)
 refine bP (by decide) ?_
 refine aB (a8 ?_)
 refine aB (aB (t1.at (i2.at ?_)))
 refine a8 ?_
 rw[oi_bind]
 refine aB (aE ?_)
 have i3:dT (model prog w) hp' (isInstance (.ref p) (.type "object")) true:=t1.andThen (cH kin' (by kernel_rfl))
 have made':=AJ (prog:=prog) (w:=w) kin'
 refine aB (dR (cM oi_plain entry_oi (@nL (model prog w) _ _ _ "object.__init__" "object" "__init__" (.ref p) [x,y] [] _ oi_kind oi_split i3 (CL _ _ _) ?_)))
 unfold Builtin.«object.__init__»
 refine dN (by rfl) ?_
 refine aB (t1.at ?_)
 refine aB (i2.at ?_)
 refine aB (made'.at ?_)
 refine bP (by decide+kernel) ?_
 refine bP (by decide+kernel) ?_
 refine aE (aE ?_)
 refine bP (by decide) ?_
 refine aE ?_
 exact q _ p dd ks' e1 e2 n1 n2
theorem DG(w:cN):findCls (kf w) (.type "str") (.type "type") (aA "strip")=some (.val (.builtin "str.strip")):=by kernel_rfl
noncomputable abbrev Cf:Str:=aA "="
structure Lk(x p q:Str):Prop where
 k:(decide (x.length<Cf.length)||decide (l9 x<l9 Cf))=false
 o:(rB x Cf 0 x.length (limitOf x 1)).isEmpty=false
 p:Builtin.Str.partsBetween x (rB x Cf 0 x.length (limitOf x 1)) Cf.length=[p,q]
theorem EK{env:Env}{p1 p2:Pos}{Q:aG→aH→Prop}(kw:KW V (kz w) mg mb X s.heap)(x2:S2 w s.heap)(hk:env.scope.kind= .function)(hx:env.kindOf (aA "str")=some .globalImplicit)(hg:env.globals=mainGlobals)(hb:env.builtins=builtinsNs)
  (hbase:attributeBase (.Name (aA "str") p1) (aA "strip") env (eval (.Name (aA "str") p1) env)=eval (.Name (aA "str") p1) env)
  (h:∀tk,Q (.builtin "str.strip") {s with toks:=tk}):wpAny (model prog w) A (eval (.Attribute (.Name (aA "str") p1) (aA "strip") p2) env) Q E s:=by
 have kin:(kz w).In s.heap:=kw.k.keeps fun z z e=>a6 _ e
 have gl:s.heap.Ns mainGlobals mg:=kw.g.keeps fun z z e=>a6 _ e
 have bl:s.heap.Ns builtinsNs mb:=kw.b.keeps fun z z e=>a6 _ e
 have n0:nsIn (kz w) mainGlobals (aA "str")=some none:=by rfl
 (rewrite[sT];refine aM hbase ?_)
 refine aB (dH (env:=env) hk hx (eJ (mg:=mg) (mb:=mb) (hg▸gl) (kJ kw.k kw.g n0) (hb▸bl) ((kw.bi _ (by decide+kernel)).trans rfl) ?_) (by decide+kernel))
 refine aB (dF (aB (a8 ?_)))
 refine cls_open (K:=kf w) (mc:=.type "type") (hook:=none) (pX kin x2) (gH (by kernel_rfl)) (gH (by kernel_rfl)) (by kernel_rfl) (gH (by rfl)) (by kernel_rfl) (DG w) ?_
 refine aE ?_
 refine(?_:wpAny _ _ (handedOut (.builtin "str.strip")) _ _ _)
 refine aM (pR (by decide+kernel)) ?_
 exact aE (aB (nK (aE (h _))))
theorem GS{x p q:Str}{t u' v':Tok}{Q:aG→aH→Prop}(c:Lk x p q)(hz:x.length≤1000)
  (h:∀h' tk,h'.IsList s.heap.objs.size #[.str p s.toks,.str q (s.toks+1)]→(∀b o,s.heap.get? b=some o→h'.get? b=some o)→Q (.ref s.heap.objs.size) {s with heap:=h',toks:=tk}):
  wpAny (model prog w) A (call (.builtin "str.split") [.str x t,.str Cf u',.int 1 v']) Q E s:=by
 refine call_meets F.slot_str_split (typeIs_str _ _ _) F.entry_str_split (F.args_str_split_3 _ _ _) (meets_str_split_sep_max x Cf 1 t u' v' (by decide) c.k (by decide) c.o (by refine aM bV ?_;exact aD (by assumption) (by decide)) (by refine aM c.p ?_;refine(?_:(2:Nat)≤sizeLine);refine aM bV ?_;decide)) ?_
 refine aM c.p ?_
 exact h _ _ ⟨_,aW _ rfl,rfl,0,rfl⟩ fun b o e=>aP _ e
theorem EE{x p q:Str}{t:Tok}{n:Nat}{Q:aG→aH→Prop}(kw:KW V (kz w) mg mb X u.heap)(R:dK A (n+6))(hb:Bd V X u)(x2:S2 w u.heap)(c:Lk x p q)(hz:x.length≤900)(hp:p.length≤900)(hq:q.length≤900)
  (h:∀s' pp dd t1 t2,Keeps V u s'→s'.heap.get? pp=some (uD dd (.str (Txt.strip p) t1) (.str (Txt.strip q) t2))→s'.heap.get? dd=some kR→u.heap.get? pp=none→u.heap.get? dd=none→Q (.ref pp) s'):codeAny (model prog w) A (.call (.ref 215) ⟨[.ref 221,.str x t],[]⟩) (fun r s'=>match r with| .ok (.ret v)=>Q v s'| .ok _=>False| .error e=>E e s') u:=by
 refine Ek uJ kw R hb (ho:=rfl) (by rfl) (by rfl) (binds:=[("cls",.ref 221),("text",.str x t)]) (by rfl) (by rfl) ?_ (fun L=>rfl) ?_
 ·intro L z hz
  replace hz:=m2 hz
  rcases hz with rfl|rfl<;>exact .inl rfl
 intro L s₁ hL k₁ nx F
 have kw₁:KW V (kz w) mg mb (kD (uJ L) X) s₁.heap:=kw.nx nx
 have kin₁:(kz w).In s₁.heap:=kw₁.k.keeps fun j j e=>a6 _ e
 have gl:s₁.heap.Ns mainGlobals mg:=kw₁.g.keeps fun j j e=>a6 _ e
 have bl:s₁.heap.Ns builtinsNs mb:=kw₁.b.keeps fun j j e=>a6 _ e
 have x2₁:S2 w s₁.heap:=x2.at fun o=>(dA k₁).o2 hb.two.two o
 have n0:nsIn (kz w) mainGlobals (aA "map")=some none:=by rfl
 have hns:=F.ns
 have R':dK (A.deeper (uJ L)) (n+5):=R.deeper _
 refine .mk<|dQ (kE ?_)
 refine Call_ ?_
 refine iE (cT (env:=uJ L) rfl rfl hns rfl ?_) (by decide)
 refine ks_call (P:=(kz w).In) rfl (fun h' k=>⟨.machine,.inr (.inl rfl),cH k (by kernel_rfl)⟩) ?_
 refine ks_lone ?_
 refine Call_ ?_
 refine dH (env:=uJ L) rfl rfl (eJ (mg:=mg) (mb:=mb) gl (kJ kw₁.k kw₁.g n0) bl ((kw₁.bi _ (by decide+kernel)).trans rfl) ?_) (by decide+kernel)
 refine kZ rfl (gP (eR ?_))
 refine EK (env:=uJ L) kw₁ x2₁ rfl rfl rfl rfl rfl fun tk=>?_
 refine eR (x:=eval (.Call (.Attribute (.Name (aA "text") _) (aA "split") _) [.Constant (.str Cf) 0 _,.Constant (.int 1) 0 _] [] _) (uJ L)) ?_
 refine Call_method2 rfl rfl rfl ?_
 refine iE (cT (env:=uJ L) rfl rfl hns rfl ?_) (by decide)
 refine⟨"str","str.split",PySem.F.plainAttrs_str,PySem.F.slot_str_split,PySem.F.type_str_split,rfl,(fun a h=>nomatch h),?_⟩
 refine f6 rfl (gP (eR (rA (eR (oR (iW ?_))))))
 refine GS c (aD (by assumption) (by decide)) fun h₂ tk2 hl k₂=>iW ?_
 refine Hk hl fun m it h₃ M nm nit k₃=>?_
 have hk3:∀b o,s₁.heap.get? b=some o→h₃.get? b=some o:=fun b o e=>k₃ _ _ (k₂ _ _ e)
 have hit:∀b o,s₁.heap.get? b=some o→b≠it:=fun b o e q=>by
  have:=k₂ _ _ e
  rw[q]at this
  exact absurd (nit.symm.trans this) (by simp)
 refine bG (id M.t) fun tt e1 e2=>?_
 refine aB (rT (T:="map") ⟨_,e1,rfl⟩ rQ.lookup ?_)
 refine dN (by rfl) (aE ⟨rfl,?_⟩)
 refine z7 R'.handled M (aD (by assumption) (by decide)) (aD (by assumption) (by decide)) fun t1 t2 h₄ tk₄ k₄=>?_
 have hk4:∀b o,s₁.heap.get? b=some o→h₄.get? b=some o:=fun b o e=>k₄ _ _ (hit b o e) (hk3 b o e)
 have K:cO s₁ {s₁ with heap:=h₄,toks:=tk₄}:=⟨h₄,tk₄,rfl,hk4⟩
 refine⟨kin₁.keeps hk4,?_⟩
 refine F1 (V:=V) (X:=kD (uJ L) X) (mg:=mg) (mb:=mb) (n:=n) (u:={s₁ with heap:=h₄,toks:=tk₄}) (kw₁.nx (gM.of_keeps (X:=kD (uJ L) X) (h9 (V:=V) K)).nx) (R'.less (by simp+arith only[])) (F.bd.keeps (h9 K)) (x2₁.at fun o=>hk4 2 o) fun s' pp dd ks e1 e2 n1 n2=>?_
 have ku:=aN k₁ (h9 (V:=V) K)
 refine h s' pp dd t1 t2 (aN ku ks) e1 e2 (fQ ku hb.two n1) (fQ ku hb.two n2)
theorem LK(w:cN):findIn (kz w) (.ref 221) "__getattribute__"=some (some (.builtin "tuple.__getattribute__")):=by kernel_rfl
theorem KQ(w:cN):findIn (kz w) (.ref 221) "__getattr__"=some none:=by kernel_rfl
theorem Ga(w:cN)(od:Option Obj):findObj (kz w) 221 od (aA "name")=some (.bind (.ref 79) (.ref 190)):=by kernel_rfl
theorem FJ(w:cN)(od:Option Obj):findObj (kz w) 221 od (aA "value")=some (.bind (.ref 79) (.ref 193)):=by kernel_rfl
theorem KA(w:cN):findCls (kf w) (.type "tuple") (.type "type") (aA "__getitem__")=some (.val (.builtin "tuple.__getitem__")):=by kernel_rfl
theorem LH(w:cN):findIn (kz w) (.ref 96) "__getattribute__"=some (some (.builtin "object.__getattribute__")):=by kernel_rfl
structure wJ(w:cN)(g gd:Addr)(od:Obj)(i:Int)(t:Tok):Prop where
 g:(kz w).lookup g=some ⟨.ref 96,some gd,.plain,#[]⟩
 d:(kz w).lookup gd=some od
 f:findObj (kz w) 96 (some od) (aA "index")=some (.value (.int i t))
theorem C8(w:cN):∃od,wJ w 190 189 od 0 614:=⟨_,by rfl,by rfl,by kernel_rfl⟩
theorem BJ(w:cN):∃od,wJ w 193 192 od 1 624:=⟨_,by rfl,by rfl,by kernel_rfl⟩
section
variable {p:Addr} {x y:aG}
theorem Fi{h:Heap}(k:(kz w).In h):dT (model prog w) h (Builtin.«issubclass.nested» ⟨[.ref 221,.type "tuple",rawInt 0],[]⟩) (.done (.ret (.bool true))):=cH k (by kernel_rfl)
theorem EI{Q:aG→aH→Prop}(k:(kz w).In s.heap)(q:Q (.bool true) s):wpAny (model prog w) A (call (.builtin "issubclass") [.ref 221,.type "tuple"]) Q E s:=by
 refine dR (cM F.plain_issubclass F.entry_issubclass (bE (a:=()) (by kernel_rfl) ?_))
 refine aB (bE (a:=[.ref 221,.type "tuple"]) (by rfl) ?_)
 refine aE ⟨jH _ (by decide+kernel),gS F.entry_issubclass_nested ?_⟩
 refine aM (Around.under_plain (show(Code.builtin "issubclass.nested" ⟨[.ref 221,.type "tuple",rawInt 0],[]⟩).weight=0 from rfl) rfl) ?_
 obtain⟨hh,g,d,tk,os⟩:=s
 exact(Fi k).at q
theorem GJ{g gd:Addr}{od:Obj}{i:Int}{t:Tok}{Q:aG→aH→Prop}{expr:Bool}(G:wJ w g gd od i t)(k:(kz w).In s.heap)(h:Q (.int i t) {s with toks:=s.toks+1}):
  wpAny (model prog w) A (getAttr (.ref g) (aA "index") expr) Q E s:=
 get_value k ⟨k _ _ G.g,rfl,rfl,k _ _ G.d⟩ (LH w) G.f (by rfl) h
theorem zO{pl:Sem Bool}{Q:aG×List aG→aH→Prop}(X:(kf w).In s.heap)(h:∀tk,Q (.builtin "tuple.__getitem__",[]) {s with toks:=tk}):
  wpAny (model prog w) A (getMethod (.type "tuple") (aA "__getitem__") pl) Q E s:=by
 refine aB (bE J7 ?_)
 refine dN (by decide+kernel) ?_
 refine aB ?_
 refine cls_open (K:=kf w) (mc:=.type "type") (hook:=none) X (gH (by kernel_rfl)) (gH (by kernel_rfl)) (by kernel_rfl) (gH (by rfl)) (by kernel_rfl) (KA w) ?_
 refine aE ?_
 refine(?_:wpAny _ _ (handedOut (.builtin "tuple.__getitem__")) _ _ _)
 refine aM (pR (by decide+kernel)) ?_
 exact aE (aE (h _))
theorem Ig{i:Nat}{t:Tok}{v:aG}{Q:aG→aH→Prop}(k:(kz w).In s.heap)(hp:s.heap.get? p=some (uD dd x y))(hi:i<2)(hv:(#[x,y]:Array aG)[i]?=some v)(q:Q v s):
  wpAny (model prog w) A (call (.builtin "tuple.__getitem__") [.ref p,.int i t]) Q E s:=by
 obtain⟨hh,g,d,tk,os⟩:=s
 have t1:dT (model prog w) hh (typeOf (.ref p)) (.ref 221):=(nM hp).andThen .now
 have i1:dT (model prog w) hh (isInstance (.ref p) (.type "tuple")) true:=t1.andThen (DR k)
 refine dR (cM (b:=Builtin.«tuple.__getitem__») (by decide+kernel) (gZ (by kernel_rfl)) ?_)
 refine @nL (model prog w) _ _ _ "tuple.__getitem__" "tuple" "__getitem__" (.ref p) [.int i t] [] _ (by decide+kernel) (by decide+kernel) i1 (by kernel_rfl) ?_
 refine aB (bE (a:=(.ref p,[.int i t])) (by rfl) ?_)
 refine aB ?_
 refine aB (nH hp rfl ?_)
 refine aE ?_
 refine aB (bE (a:=.type "int") (by rfl) ?_)
 refine bP (by decide) ?_
 refine aB (rT (T:="int") (show(⟨hh,g,d,tk,os⟩:aH).TypeIs (.int i t) "int" from rfl) F.slot_int_index.lookup ?_)
 refine bP (by rfl) ?_
 refine aB (bE (a:=(i:Int)) (by rfl) ?_)
 have h1:(decide ((i:Int)< -(2^63))||decide ((i:Int)≥2^63))=false:=by
  refine Ls hi ?_ ?_<;>decide
 refine bP (by refine aM h1 ?_;rfl) ?_
 have h2:((seqIndex? (i:Int) (#[x,y]:Array aG).size).bind ((#[x,y]:Array aG)[·]?))=some v:=by
  revert hv
  refine Ls hi ?_ ?_<;>exact id
 refine aM h2 ?_
 exact aE q
theorem IQ{g gd:Addr}{od:Obj}{i:Nat}{t:Tok}{n:Nat}{v:aG}{Q:aG→aH→Prop}(G:wJ w g gd od i t)(hi:i<2)(kw:KW V (kz w) mg mb X u.heap)(R:dK A (n+3))(hb:Bd V X u)(x2:S2 w u.heap)
  (hp:u.heap.get? p=some (uD dd x y))(hpV:p∉V)(hv:(#[x,y]:Array aG)[i]?=some v)(q:∀s',cO u s'→Q v s'):wpAny (model prog w) A (call (.ref 79) [.ref g,.ref p,.ref 221]) Q E u:=by
 have kin:(kz w).In u.heap:=kw.k.keeps fun j j e=>a6 _ e
 have f79:=kin 79 _ (by rfl)
 have f72:=kin 72 _ (by rfl)
 refine dR (ks_codeAny_call_defAt (binds:=[(aA "self",.ref g),(aA "obj",.ref p),(aA "objtype",.ref 221)]) R.d f79 rfl hb.two.lim (codeRec_of kin (by kernel_rfl)) rfl (.of_defaults rfl f72 rfl rfl rfl) ?_ ?_ (fun h₀ hns hk=>?_))
 ·decide
 ·intro z hz
  replace hz:=m3 hz
  rcases hz with rfl|rfl|rfl<;>rfl
 change dC (model prog w) (A.deeper (wD u.heap.objs.size)) (.func _ (wD u.heap.objs.size)) (execs _ (wD u.heap.objs.size)) _ _ _
 generalize hL:u.heap.objs.size=L at*
 refine cL ?_
 refine bD (Q:=fun f s'=>∃v,f= .ret v∧Q v s') (E:=fun j j=>False) ?_ (fun f s' z=>by obtain⟨v,rfl,z⟩:=z;exact z) fun j j z=>z.elim
 generalize hs1:({u with heap:=h₀,toks:=u.toks+[(aA "self",cR g),(aA "obj",.ref p),(aA "objtype",.ref 221)].length}:aH)=s₁
 have k₁:cO u s₁:=by subst hs1;exact⟨h₀,_,rfl,hk⟩
 have hns₁:s₁.heap.Ns L (fun x=>[(aA "self",cR g),(aA "obj",.ref p),(aA "objtype",.ref 221)].reverse.lookup x):=by subst hs1;exact hns
 clear hs1
 have hold₁:=lS k₁
 have kin₁:=kin.keeps hold₁
 have kw₁:=kw.nx (gM.of_keeps (X:=X) (h9 (V:=V) k₁)).nx
 have gl:s₁.heap.Ns mainGlobals mg:=kw₁.g.keeps fun j j e=>a6 _ e
 have bl:s₁.heap.Ns builtinsNs mb:=kw₁.b.keeps fun j j e=>a6 _ e
 have hp₁:=hold₁ _ _ hp
 have n1:nsIn (kz w) mainGlobals (aA "issubclass")=some none:=by rfl
 have n2:nsIn (kz w) mainGlobals (aA "type")=some none:=by rfl
 have n3:nsIn (kz w) mainGlobals (aA "tuple")=some none:=by rfl
 refine dQ (wpAny_If (wpAny_isTrue_Compare1 (hm:=by rfl) ?_))
 refine iE (cT (env:=wD L) rfl rfl hns₁ rfl ?_) (by decide)
 refine PyProof.Rows.Constant_none (is_none_gen (pN ?_))
 refine fJ ?_
 refine dQ (wpAny_If (PyProof.Rows.isTrue_not (PyProof.Rows.isTrue_plain ?_ (by rfl))))
 refine Call_ (dH (env:=wD L) rfl rfl (eJ (mg:=mg) (mb:=mb) gl (kJ kw₁.k kw₁.g n1) bl ((kw₁.bi _ (by decide+kernel)).trans rfl) ?_) (by decide+kernel))
 refine f6 rfl (gP (eR ?_))
 refine Call_ (dH (env:=wD L) rfl rfl (eJ (mg:=mg) (mb:=mb) gl (kJ kw₁.k kw₁.g n2) bl ((kw₁.bi _ (by decide+kernel)).trans rfl) ?_) (by decide+kernel))
 refine kZ rfl (gP (eR ?_))
 refine iE (cT (env:=wD L) rfl rfl hns₁ rfl (iW ?_)) (by decide)
 obtain⟨hh,g',d',tk',os'⟩:=s₁
 refine PyProof.Rows.call_type_obj hp₁ (by rfl) ?_
 refine eR (x:=eval (.Name (aA "tuple") _) (wD L)) ?_
 refine dH (env:=wD L) rfl rfl (eJ (mg:=mg) (mb:=mb) gl (kJ kw₁.k kw₁.g n3) bl ((kw₁.bi _ (by decide+kernel)).trans rfl) (iW ?_)) (by decide+kernel)
 refine EI kin₁ (pN ?_)
 refine fJ ?_
 refine dQ (kE ?_)
 refine oQ rfl rfl rfl ?_
 refine dH (env:=wD L) rfl rfl (eJ (mg:=mg) (mb:=mb) gl (kJ kw₁.k kw₁.g n3) bl ((kw₁.bi _ (by decide+kernel)).trans rfl) ?_) (by decide+kernel)
 intro pl
 refine zO (pX kin₁ (x2.at fun o=>hold₁ 2 o)) fun tk=>?_
 refine f6 rfl (gP (eR (iE (cT (env:=wD L) rfl rfl hns₁ rfl ?_) (by decide))))
 refine eR (x:=eval (.Attribute (.Name (aA "self") _) (aA "index") _) (wD L)) ?_
 rw[sT]
 refine aB ?_
 refine iE (cT (env:=wD L) rfl rfl hns₁ rfl ?_) (by decide)
 refine aB (dF (aB (a8 ?_)))
 refine GJ G kin₁ (aB (nK (aE (iW ?_))))
 refine Ig (s:=⟨hh,g',d',_,os'⟩) kin₁ hp₁ hi hv ?_
 exact⟨v,rfl,q _ (gV k₁ ⟨hh,_,rfl,fun j j e=>e⟩)⟩
end
theorem Ey:entryFor table "tuple.__getattribute__"=some Builtin.«object.__getattribute__»:=
 entryFor_alias (id':="object.__getattribute__") (by rw[i8];kernel_rfl) (by decide+kernel) (by rw[eP];decide+kernel) (by rw[i8];kernel_rfl)
theorem GI(self:aG):bindSpecial (.builtin "tuple.__getattribute__") self=pure (.builtin "tuple.__getattribute__",[self]):=by kernel_rfl
theorem FK(w:cN):findCls (kf w) (.ref 221) (.type "type") (aA "parse")=some (.get (.builtin "classmethod.__get__") (.ref 217) .none (.ref 221)):=by kernel_rfl
theorem Bx(w:cN):recIn (kf w) 217 "classmethod"=some [.ref 215,.bool false]:=by kernel_rfl
theorem Gb(w:cN):specialIn (kf w) (.ref 221) "__getattribute__"=some (some (.builtin "type.__getattribute__")):=by kernel_rfl
section
variable {p:Addr} {x y:aG}
theorem Ii{name:Str}{g gd:Addr}{od:Obj}{i:Nat}{t tk:Tok}{n:Nat}{v:aG}{fill expr:Bool}{Q:aG→aH→Prop}(G:wJ w g gd od i t)(hi:i<2)(hO:∀od,findObj (kz w) 221 od name=some (.bind (.ref 79) (.ref g)))
  (kw:KW V (kz w) mg mb X u.heap)(R:dK A (n+5))(hb:Bd V X u)(x2:S2 w u.heap)
  (hp:u.heap.get? p=some (uD dd x y))(hd:u.heap.get? dd=some kR)(hpV:p∉V)(hv:(#[x,y]:Array aG)[i]?=some v)(hh:handedIn v=true)(q:∀s',cO u s'→Q v s'):
  wpAny (model prog w) A (getAttrBy (.ref p) (.str name tk) fill expr) Q E u:=by
 have kin:(kz w).In u.heap:=kw.k.keeps fun z z e=>a6 _ e
 have I:InstAt u.heap p (uD dd x y) 221 (some kR):=⟨hp,rfl,rfl,hd⟩
 have L0:=I.type (M:=model prog w)
 have L1:=dW (M:=model prog w) kin (LK w)
 have L2:=dW (M:=model prog w) kin (KQ w)
 have hi':dT (model prog w) u.heap (isInstance (.ref p) (.type "tuple")) true:=L0.andThen (DR kin)
 obtain⟨hh',gg,dr,tk',os⟩:=u
 dsimp only at kin I L0 L1 L2 hi'
 refine a8 (aB (L0.at (aB (L1.at ?_))))
 refine(?_:wpAny _ _ (getAttrByItsOwn _ _ _ _ _ _) _ _ _)
 refine aB (L2.at ?_)
 refine aB (iB (a8 ?_))
 unfold callGetattribute
 have:(expr&&onTheHeap (.builtin "tuple.__getattribute__"))=false:=by cases expr<;>rfl
 refine aM this (aM (if_neg (by decide)) ?_)
 unfold boundAndCalled
 rw[GI]
 refine aB (aE ?_)
 dsimp only[mZ,qD]
 refine dR ?_
 refine cM (by decide+kernel) Ey ?_
 refine @nL (model prog w) _ _ _ "tuple.__getattribute__" "tuple" "__getattribute__" (.ref p) [.str name tk] [] _ (by decide+kernel) (by decide+kernel) hi' (by kernel_rfl) ?_
 have L3:=looks_find (M:=model prog w) kin I (hO _)
 refine aB (aE (aB (aE (aB (L0.at (aB (L3.at ?_)))))))
 refine aB (a8 (IQ (V:=V) (X:=X) (mg:=mg) (mb:=mb) (n:=n+1) (u:=⟨hh',gg,dr,tk',os⟩) G hi kw (R.in1.less (by simp+arith only[])) hb x2 hp hpV hv fun s' k=>?_))
 refine aE ?_
 refine(?_:wpAny _ _ (handedOut v) _ _ _)
 refine aM (pR hh) ?_;exact aE (q s' k)
theorem D2{pl:Sem Bool}{Q:aG×List aG→aH→Prop}(kin:(kz w).In u.heap)(x2:S2 w u.heap)
  (q:∀m s',cO u s'→u.heap.get? m=none→s'.heap.get? m=some (methodObj (.ref 215) (.ref 221))→Q (.ref m,[]) s'):wpAny (model prog w) A (getMethod (.ref 221) (aA "parse") pl) Q E u:=by
 refine method_cls (K:=kf w) (pX kin x2) (Gb w) ?_
 refine cls_bind (K:=kf w) (pX kin x2) (Bw w) (FK w) (dR (cm_get (K:=kf w) (s:={u with toks:=u.toks+1}) (pX kin x2) (Bx w) ?_))
 refine handed_on rfl ?_
 exact q _ _ ⟨_,_,rfl,fun b o e=>aP _ e⟩ (dG _) (aW _ rfl)
theorem wX{pos:Pos}{m f:Addr}{self:aG}{e:Sem aG}{Q:aG→aH→Prop}
  (h:wpAny (model prog w) A e (fun v s₁=>s₁.heap.get? m=some (methodObj (.ref f) self)∧(∃o fd,s₁.heap.get? f=some o∧o.data= .func fd)∧codeAny (model prog w) A (.call (.ref f) ⟨[self,v],[]⟩) (fun r s'=>match r with| .ok (.ret v)=>Q v s'| .ok _=>False| .error e=>E e s') s₁) E s):
  wpAny (model prog w) A (callWith pos (.ref m) [] [(false,e)] []) Q E s:=by
 refine aB (a8 (gP (eR (bD h (fun v s₁ h₁=>iW (aB (dF ?_))) fun j j x=>x))))
 (refine jM h₁ fun hm q_1 hc=>?_;refine fO q_1 fun o fd hf hd=>?_)
 refine aB (m:=keeperOf (.ref m)) ?_
 refine aB (nJ hm ?_)
 refine bP (by rfl) ?_
 refine aB (nJ hf ?_)
 refine aM hd ?_
 refine aE ?_
 refine bP (by rfl) ?_
 refine aB (Calls.wpAny_keep (dR (method_call hm ?_)))
 refine codeAny_mono hc fun r s' z=>?_
 rcases r with e|(v|_|_|_)<;>first|exact z|exact aB (a8 (nI (aE z)))
end
structure zI where
 key:Str
 l:Addr
 pl:List Int
structure Bk where
 name:Str
 a:Addr
 d:Addr
 fz:Option aG
 sh:List zI
structure iD where
 a:Addr
 d:Addr
 fz:Option aG
 fac:Addr
 bks:List Bk
noncomputable def Bk.adrs(b:Bk):List Addr:=b.a::b.d::b.sh.map (·.l)
noncomputable def iD.adrs(S:iD):List Addr:=S.a::S.d::S.bks.flatMap Bk.adrs
noncomputable def Bk.kvs(b:Bk):List (Str×aG):=b.sh.map fun z=>(z.key,.ref z.l)
noncomputable def iD.kvs(S:iD):List (Str×aG):=S.bks.map fun b=>(b.name,.ref b.a)
noncomputable def wZ(h:Heap)(z:zI):Prop:=∃vs:Array aG,h.PlainList z.l vs∧cA [] [] h vs.toList (z.pl.map .int)
structure mL(prog:fL)(w:cN)(V X:List Addr)(h:Heap)(b:Bk):Prop where
 bk:pZ prog w h b.a b.d (.type "list") b.kvs
 dc:Dc h b.d b.fz
 fz:∀v,b.fz=some v→∃f,v= .ref f∧AD (hideAll h (V++X)) f b.a
 sh:∀z∈b.sh,wZ h z
 xa:∀c∈b.adrs,c∈X
 nV:∀c∈b.adrs,c∉V
 ns:b.a≠sysModules
 nd:b.adrs.Nodup
structure eG(prog:fL)(w:cN)(V X:List Addr)(h:Heap)(S:iD):Prop where
 bk:pZ prog w h S.a S.d (.ref S.fac) S.kvs
 dc:Dc h S.d S.fz
 fz:∀v,S.fz=some v→∃f,v= .ref f∧AD (hideAll h (V++X)) f S.a
 lw:IC (hideAll h (V++X)) S.fac
 bks:∀b∈S.bks,mL prog w V X h b
 xa:∀c∈S.adrs,c∈X
 nV:∀c∈S.adrs,c∉V
 ns:S.a≠sysModules
 nd:S.adrs.Nodup
 t:GB V X h
 tx:118∈X
 tV:118∉V
 tn:118∉S.adrs
section
variable {b:Bk} {S:iD}
theorem qR{V' X':List Addr}{h':Heap}:∀{vs:List aG} {pl:List Int},cA [] [] h vs (pl.map .int)→cA V' X' h' vs (pl.map .int)
 |[],[],_=>.nil
 |[],_::_,x=>by have:=x.length;nomatch this
 |_::_,[],x=>by have:=x.length;simp at this
 |v::vs,i::pl,x=>by
  refine mF (cA.of_cons x) fun v' vs' e hv hx=>?_
  cases e
  (refine bK (Is.of_int hv) fun t e_0=>?_;subst e_0)
  exact .cons (.int i t) (qR hx)
theorem wZ.at{z:zI}(x:wZ h z)(k:∀o,h.get? z.l=some o→h'.get? z.l=some o):wZ h' z:=by
 (refine bG x fun vs q_1 a=>?_;refine bK q_1 fun n e=>?_)
 exact⟨vs,⟨n,k _ e⟩,qR a⟩
theorem mL.at(x:mL prog w V X h b)(k:∀c∈b.adrs,∀o,h.get? c=some o→h'.get? c=some o)(hh:∀c o,(hideAll h (V++X)).get? c=some o→(hideAll h' (V++X')).get? c=some o)(i:∀a∈X,a∈X'):mL prog w V X' h' b where
 bk:=x.bk.at (k _ aF)
 dc:=x.dc.at (k _ (aC _ aF))
 fz:=fun v e=>bG (x.fz v e) fun f a b=>⟨f,a,b.keeps hh⟩
 sh:=fun z hz=>(x.sh z hz).at (k _ (aC _ (aC _ (bQ hz))))
 xa:=fun c hc=>i _ (x.xa c hc)
 nV:=x.nV
 ns:=x.ns
 nd:=x.nd
theorem j5{b:Bk}(hb:b∈S.bks){c:Addr}(hc:c∈b.adrs):c∈S.adrs:=aC _ (aC _ (List.mem_flatMap.mpr ⟨b,hb,hc⟩))
theorem eG.at(x:eG prog w V X h S)(k:∀c∈S.adrs,∀o,h.get? c=some o→h'.get? c=some o)(k118:∀o,h.get? 118=some o→h'.get? 118=some o)
  (hh:∀c o,(hideAll h (V++X)).get? c=some o→(hideAll h' (V++X')).get? c=some o)(i:∀a∈X,a∈X'):eG prog w V X' h' S where
 bk:=x.bk.at (k _ aF)
 dc:=x.dc.at (k _ (aC _ aF))
 fz:=fun v e=>bG (x.fz v e) fun f a b=>⟨f,a,b.keeps hh⟩
 lw:=x.lw.keeps hh
 bks:=fun b hb=>(x.bks b hb).at (fun c hc=>k c (j5 hb hc)) hh i
 xa:=fun c hc=>i _ (x.xa c hc)
 nV:=x.nV
 ns:=x.ns
 nd:=x.nd
 t:=by
  rcases x.t with e|⟨c',e,y⟩
  ·exact .inl (k118 _ e)
  ·exact .inr ⟨c',k118 _ e,y.keeps hh⟩
 tx:=i _ x.tx
 tV:=x.tV
 tn:=x.tn
theorem eG.wle{s s':aH}(x:eG prog w V X s.heap S)(k:gM V X s X' s'):eG prog w V X' s'.heap S:=
 x.at (fun c hc o e=>a7 k.keeps c o (x.nV c hc) e) (fun o e=>a7 k.keeps _ o x.tV e) (cS k.nx) k.inc
theorem eG.keep{s s':aH}(x:eG prog w V X s.heap S)(k:Keeps V s s'):eG prog w V X s'.heap S:=x.wle (gM.of_keeps k)
theorem mL.wle{s s':aH}(x:mL prog w V X s.heap b)(k:gM V X s X' s'):mL prog w V X' s'.heap b:=
 x.at (fun c hc o e=>a7 k.keeps c o (x.nV c hc) e) (cS k.nx) k.inc
theorem mL.keep{s s':aH}(x:mL prog w V X s.heap b)(k:Keeps V s s'):mL prog w V X s'.heap b:=x.wle (gM.of_keeps k)
end
section
variable {b b':Bk} {S:iD} {pre post:List Bk}
theorem mL.al(x:mL prog w V X h b):∀c∈b.adrs,∃o,h.get? c=some o:=fun c hc=>by
 rcases nR hc with rfl|hc
 ·refine fO x.bk fun es ep e j=>?_;exact⟨_,e⟩
 rcases nR hc with rfl|hc
 ·refine fO x.dc fun es n e j=>?_;exact⟨_,e⟩
 (refine bG (n5 hc) fun z hz e_0=>?_;subst e_0)
 (refine bG (x.sh z hz) fun vs q_1 j=>?_;refine bK q_1 fun n e=>?_)
 exact⟨_,e⟩
theorem eG.al(x:eG prog w V X h S):∀c∈S.adrs,∃o,h.get? c=some o:=fun c hc=>by
 rcases nR hc with rfl|hc
 ·refine fO x.bk fun es ep e z=>?_;exact⟨_,e⟩
 rcases nR hc with rfl|hc
 ·refine fO x.dc fun es n e z=>?_;exact⟨_,e⟩
 refine bG (List.mem_flatMap.mp hc) fun b hb hc=>?_
 exact(x.bks b hb).al c hc
theorem lZ{a d:Addr}{fz:Option aG}{fac:Addr}:(⟨a,d,fz,fac,pre++b::post⟩:iD).adrs=(a::d::pre.flatMap Bk.adrs)++(b.adrs++post.flatMap Bk.adrs):=by
 unfold iD.adrs
 simp[i4,gG]
theorem DY{A B C C':List Addr}(h:(A++(B++C)).Nodup)(hB:C'.Nodup)(i:∀c∈C',c∈B∨(c∉A∧c∉C)):(A++(C'++C)).Nodup:=by
 rw[cZ]at h⊢
 refine jM h fun h1 h2 h3=>?_
 rw[cZ]at h2
 refine jM h2 fun h4 h5 h6=>?_
 refine⟨h1,?_,?_⟩
 ·rw[cZ]
  refine⟨hB,h5,fun a ha c hc e=>?_⟩
  subst e
  rcases i a ha with q|⟨_,q⟩
  ·exact h6 a q a hc rfl
  ·exact q hc
 ·intro a ha c hc e
  subst e
  rcases eX hc with hc|hc
  ·rcases i a hc with q|⟨q,_⟩
   ·exact h3 a ha a (aL _ q) rfl
   ·exact q ha
  ·exact h3 a ha a (aJ _ hc) rfl
theorem eG.repl{a d:Addr}{fz:Option aG}{fac:Addr}(x:eG prog w V X h ⟨a,d,fz,fac,pre++b::post⟩)(ha:b'.a=b.a)(hn:b'.name=b.name)(hadr:∀c∈b'.adrs,c∈b.adrs∨h.get? c=none)
  (k:∀c,c∉b.adrs→c∉V→c≠118→∀o,h.get? c=some o→h'.get? c=some o)(hh:∀c o,(hideAll h (V++X)).get? c=some o→(hideAll h' (V++X')).get? c=some o)(i:∀a∈X,a∈X')
  (T:GB V X' h')(B:mL prog w V X' h' b'):eG prog w V X' h' ⟨a,d,fz,fac,pre++b'::post⟩:=by
 have nd:=x.nd
 replace nd:=lZ▸nd
 have nd':(⟨a,d,fz,fac,pre++b'::post⟩:iD).adrs.Nodup:=by
  refine aM lZ ?_
  refine DY nd B.nd fun c hc=>?_
  rcases hadr c hc with q|q
  ·exact .inl q
  ·refine .inr ⟨fun m=>?_,fun m=>?_⟩
   ·refine bK (x.al c (by refine aM lZ ?_;exact aL _ m)) fun o e=>?_
    rw[q]at e;cases e
   ·refine bK (x.al c (by refine aM lZ ?_;exact aJ _ (aJ _ m))) fun o e=>?_
    rw[q]at e;cases e
 rw[cZ]at nd
 refine jM nd fun n1 n2 n3=>?_
 rw[cZ]at n2
 have kA:∀c∈(a::d::pre.flatMap Bk.adrs),∀o,h.get? c=some o→h'.get? c=some o:=fun c hc o e=>by
  have hm:c∈(⟨a,d,fz,fac,pre++b::post⟩:iD).adrs:=by refine aM lZ ?_;exact aL _ hc
  exact k c (fun q=>n3 c hc c (aL _ q) rfl) (x.nV c hm) (fun q=>x.tn (q▸hm)) o e
 have kC:∀c∈post.flatMap Bk.adrs,∀o,h.get? c=some o→h'.get? c=some o:=fun c hc o e=>by
  have hm:c∈(⟨a,d,fz,fac,pre++b::post⟩:iD).adrs:=by refine aM lZ ?_;exact aJ _ (aJ _ hc)
  exact k c (fun q=>n2.2.2 c q c hc rfl) (x.nV c hm) (fun q=>x.tn (q▸hm)) o e
 have hkvs:(⟨a,d,fz,fac,pre++b'::post⟩:iD).kvs=(⟨a,d,fz,fac,pre++b::post⟩:iD).kvs:=by
  unfold iD.kvs
  simp[ha,hn]
 have hin:∀c∈(⟨a,d,fz,fac,pre++b'::post⟩:iD).adrs,c∈(⟨a,d,fz,fac,pre++b::post⟩:iD).adrs∨c∈b'.adrs:=fun c hc=>by
  rw[lZ]at hc
  refine aM lZ ?_
  rcases eX hc with q|q
  ·exact .inl (aL _ q)
  ·rcases eX q with q|q
   ·exact .inr q
   ·exact .inl (aJ _ (aJ _ q))
 refine⟨?_,x.dc.at (kA _ (.tail _ (.head _))),fun v e=>?_,x.lw.keeps hh,fun c hc=>?_,fun c hc=>?_,fun c hc=>?_,x.ns,nd',T,i _ x.tx,x.tV,fun hm=>?_⟩
 ·refine aM hkvs ?_;exact x.bk.at (kA _ (aF))
 ·refine bG (x.fz v e) fun f e1 e2=>?_;exact⟨f,e1,e2.keeps hh⟩
 ·rcases eX hc with q|q
  ·exact(x.bks c (aL _ q)).at (fun z hz=>kA z (aC _ (aC _ (List.mem_flatMap.mpr ⟨c,q,hz⟩)))) hh i
  ·rcases r4 q with rfl|q
   ·exact B
   ·exact(x.bks c (aJ _ (aC _ q))).at (fun z hz=>kC z (List.mem_flatMap.mpr ⟨c,q,hz⟩)) hh i
 ·rcases hin c hc with q|q
  ·exact i _ (x.xa c q)
  ·exact B.xa c q
 ·rcases hin c hc with q|q
  ·exact x.nV c q
  ·exact B.nV c q
 ·rcases hin _ hm with q|q
  ·exact x.tn q
  ·rcases hadr _ q with q|q
   ·exact x.tn (j5 (S:=⟨a,d,fz,fac,pre++b::post⟩) (b:=b) (by simp) q)
   ·rcases x.t with e|⟨_,e,_⟩<;>(replace e:=q▸e;cases e)
end
section
variable {b:Bk} {S:iD} {k:Str}
theorem Gd{h h₁:Heap}{l:Addr}(hk:∀b o,h.get? b=some o→h₁.get? b=some o)(e:h₁.get? l=none):h.get? l=none:=by
 cases q:h.get? l with
 |none=>rfl
 |some o=>replace e:=(hk _ _ q)▸e;cases e
theorem Ap(v:aG)(h h₁ h₂:Heap)(hk:∀b o,h.get? b=some o→h₁.get? b=some o)(x:BV v h₁ h₂):BV v h h₂:=mF x fun l c e n r=>⟨l,c,e,Gd hk n,r⟩
theorem Aq(v:aG)(h h₁ h₂:Heap)(hk:∀b o,h.get? b=some o→h₁.get? b=some o)(x:BW v h₁ h₂):BW v h h₂:=oX x fun b d e n1 n2 r=>⟨b,d,e,Gd hk n1,Gd hk n2,r⟩
theorem Hn(b:Bk):b.kvs.map (·.1)=b.sh.map (·.key):=by unfold Bk.kvs;simp
theorem FB(S:iD):S.kvs.map (·.1)=S.bks.map (·.name):=by unfold iD.kvs;simp
theorem tA{kvs:List (Str×aG)}(hn:(kvs.map (·.1)).Nodup){k:Str}{v:aG}(h:(k,v)∈kvs):valueAt kvs k=some v:=by
 refine bK (List.mem_iff_getElem?.mp h) fun i hi=>?_
 exact valueAt_of_get hn hi
theorem Hl{n:Nat}{Q:aG→aH→Prop}(po:sF prog)(kw:KW V (kz w) mg mb X u.heap)(r:dK A (n+8))(hb:Bd V X u)(x2:S2 w u.heap)(B:mL prog w V X u.heap b)(hz:b.sh.length≤1000)
  (q1:∀z∈b.sh,z.key=k→∀tk,Q (.ref z.l) {u with toks:=tk})
  (q2:(∀z∈b.sh,z.key≠k)→b.fz=none→∀l s',Mu V [b.a] u s'→u.heap.get? l=none→mL prog w V (l::X) s'.heap ⟨b.name,b.a,b.d,b.fz,b.sh++[⟨k,l,[]⟩]⟩→Q (.ref l) s')
  (q3:(∀z∈b.sh,z.key≠k)→b.fz≠none→∀l s',cO u s'→u.heap.get? l=none→wZ s'.heap ⟨k,l,[]⟩→Q (.ref l) s'):wpAny (model prog w) A (getItem (.ref b.a) (.str k t)) Q E u:=by
 have kin:(kz w).In u.heap:=kw.k.keeps fun j j e=>a6 _ e
 refine oX (id B.bk) fun es ep ho hk hp hn=>?_
 by_cases hm:∃z∈b.sh,z.key=k
 ·refine bG hm fun z hz1 hz2=>?_
  exact yQ kin B.bk B.dc (tA hn (List.mem_map.mpr ⟨z,hz1,aM hz2 rfl⟩)) (q1 z hz1 hz2 _)
 ·have hno:∀z∈b.sh,z.key≠k:=fun z hz e=>hm ⟨z,hz,e⟩
  refine yR (V:=V) (X:=X) (mg:=mg) (mb:=mb) (n:=n+1) po kw r hb x2 B.bk (fun q=>?_) (by unfold Bk.kvs;rw[aQ];exact hz) B.ns B.dc B.fz (.inl rfl) H0 Ap (fun e v s₂ h₃ k₂ p₂ b₃ sb=>?_) fun e v s₂ k₂ p₂=>?_
  ·rw[Hn]at q
   refine bG (n5 q) fun z hz e=>?_
   exact hno z hz e
  ·(refine mF p₂ fun l c e_0=>?_;subst e_0;refine fun nl el=>?_)
   have hold:=lS k₂
   have la:l≠b.a:=fun q=>by rw[q,ho]at nl;nomatch nl
   have st:∃h2 tk2,s₂={u with heap:=h2,toks:=tk2}:=fO k₂ fun h2 tk2 e j=>⟨h2,tk2,e⟩
   (refine oL st fun h2 tk2 e_0=>?_;subst e_0)
   have kk:∀c,c≠b.a→∀o,u.heap.get? c=some o→h₃.get? c=some o:=fun c hc o e=>(sb.2 c hc).trans (hold c o e)
   have el₃:h₃.get? l=some {cls:=.type "list",data:=.seq #[] c}:=(sb.2 l la).trans el
   have hnV:b.a∉V:=B.nV _ aF
   have hXa:b.a∈X:=B.xa _ aF
   have lX:l∉V++X:=m0 hb nl
   have hh:∀c o,(hideAll u.heap (V++X)).get? c=some o→(hideAll h₃ (V++(l::X))).get? c=some o:=fun c o e=>by
    have hc:=bZ e
    have e':=a6 _ e
    refine b5 _ (kk c (fun q=>hc (aJ _ (q▸hXa))) o e') fun hm=>?_
    rcases eX hm with q|q
    ·exact hc (aL _ q)
    ·rcases(eK b7 id) (nR q)with rfl|q
     ·replace e':=nl▸e';nomatch e'
     ·exact hc (aJ _ q)
   have B':=B
   refine q2 hno e l _ (Mu.mk' (fun c o hc e=>kk c (by with_reducible exact mt List.mem_singleton.mpr hc) o e) fun c hc=>by replace hc:=kQ hc;subst hc;exact hnV) nl ⟨?_,?_,?_,?_,?_,?_,B.ns,?_⟩
   ·have:(⟨b.name,b.a,b.d,b.fz,b.sh++[⟨k,l,[]⟩]⟩:Bk).kvs=b.kvs++[(k,.ref l)]:=by unfold Bk.kvs;simp
    refine aM this ?_;exact b₃
   ·refine B.dc.at fun o e=>kk _ (fun q=>?_) o e
    refine fO B.dc fun j j e' j=>?_
    rw[q,ho]at e';nomatch e'
   ·intro v e;refine bG (B.fz v e) fun f e1 e2=>?_;exact⟨f,e1,e2.keeps hh⟩
   ·intro z hz
    rcases eX hz with hz|hz
    ·refine(B.sh z hz).at fun o e=>kk _ (fun q=>?_) o e
     (refine bG (B.sh z hz) fun vs q_1 j=>?_;refine bK q_1 fun n' e'=>?_)
     rw[q,ho]at e';nomatch e'
    ·simp only[eY]at hz
     obtain rfl:=hz.symm
     exact⟨#[],⟨c,el₃⟩,.nil⟩
   ·intro c hc
    have hc':c∈b.adrs∨c=l:=by
     unfold Bk.adrs at hc⊢
     simp only[bB,bT,lA,bL,b8,bR,or_false]at hc⊢
     rcases hc with h|h|h|h
     ·exact .inl (.inl h)
     ·exact .inl (.inr (.inl h))
     ·exact .inl (.inr (.inr h))
     ·exact .inr h
    rcases hc' with q|rfl
    ·exact aC _ (B.xa c q)
    ·exact aF
   ·intro c hc
    have hc':c∈b.adrs∨c=l:=by
     unfold Bk.adrs at hc⊢
     simp only[bB,bT,lA,bL,b8,bR,or_false]at hc⊢
     rcases hc with h|h|h|h
     ·exact .inl (.inl h)
     ·exact .inl (.inr (.inl h))
     ·exact .inl (.inr (.inr h))
     ·exact .inr h
    rcases hc' with q|rfl
    ·exact B.nV c q
    ·exact fun q=>lX (aL _ q)
   ·have e1:(⟨b.name,b.a,b.d,b.fz,b.sh++[⟨k,l,[]⟩]⟩:Bk).adrs=b.adrs++[l]:=by unfold Bk.adrs;simp
    (refine aM e1 ?_;rw[cZ])
    refine⟨B.nd,by simp,fun a ha c hc e=>?_⟩
    simp only[eY]at hc
    obtain rfl:=hc.symm;subst e
    refine bK (B.al a ha) fun o e'=>?_
    replace e':=nl▸e';nomatch e'
  ·(refine mF p₂ fun l c e_0=>?_;subst e_0;refine fun nl el=>?_)
   exact q3 hno e l s₂ k₂ nl ⟨#[],⟨c,el⟩,.nil⟩
end
section
variable {b:Bk} {S:iD} {k:Str}
theorem yF{h h':Heap}{a d:Addr}(hb:∀c,h.get? c=none→c∉V++X)(n1:h.get? a=none)(n2:h.get? d=none)(hne:a≠d)(hs:a≠sysModules)(e1:h'.get? a=some (fY d #[] 0 (.type "list")))(e2:h'.get? d=some kR)(k:Str):
  mL prog w V (a::d::X) h' ⟨k,a,d,none,[]⟩:=
 ⟨pZ.new e1,⟨[],0,e2,rfl⟩,fun v e=>(nomatch e),fun z hz=>(nomatch hz),fun c hc=>by
  have hc':c=a∨c=d:=by simpa[Bk.adrs]using hc
  rcases hc' with rfl|rfl
  ·exact aF
  ·exact aC _ aF,fun c hc=>by
  have hc':c=a∨c=d:=by simpa[Bk.adrs]using hc
  rcases hc' with rfl|rfl
  ·exact fun q=>hb _ n1 (aL _ q)
  ·exact fun q=>hb _ n2 (aL _ q),hs,by simp[Bk.adrs,hne]⟩
theorem Fj{n:Nat}{Q:aG→aH→Prop}(po:sF prog)(kw:KW V (kz w) mg mb X u.heap)(r:dK A (n+9))(hb:Bd V X u)(x2:S2 w u.heap)(I:eG prog w V X u.heap S)(hz:S.bks.length≤1000)
  (q1:∀b∈S.bks,b.name=k→∀tk,Q (.ref b.a) {u with toks:=tk})
  (q2:(∀b∈S.bks,b.name≠k)→S.fz=none→∀a d s',Mu V [S.a] u s'→u.heap.get? a=none→u.heap.get? d=none→eG prog w V (a::d::X) s'.heap ⟨S.a,S.d,S.fz,S.fac,S.bks++[⟨k,a,d,none,[]⟩]⟩→Q (.ref a) s')
  (q3:(∀b∈S.bks,b.name≠k)→S.fz≠none→∀a d s',cO u s'→u.heap.get? a=none→u.heap.get? d=none→mL prog w V (a::d::X) s'.heap ⟨k,a,d,none,[]⟩→Q (.ref a) s'):wpAny (model prog w) A (getItem (.ref S.a) (.str k t)) Q E u:=by
 have kin:(kz w).In u.heap:=kw.k.keeps fun j j e=>a6 _ e
 refine oX (id I.bk) fun es ep ho hk hp hn=>?_
 by_cases hm:∃b∈S.bks,b.name=k
 ·refine bG hm fun z hz1 hz2=>?_
  exact yQ kin I.bk I.dc (tA hn (List.mem_map.mpr ⟨z,hz1,aM hz2 rfl⟩)) (q1 z hz1 hz2 _)
 ·have hno:∀z∈S.bks,z.name≠k:=fun z hz e=>hm ⟨z,hz,e⟩
  have fa:qV V X u.heap (.ref S.fac):=by
   refine s9 I.lw fun pm c' ctv e1 j=>?_
   exact .inr ⟨_,_,_,rfl,e1,rfl⟩
  refine yR (V:=V) (X:=X) (mg:=mg) (mb:=mb) (n:=n+2) po kw r hb x2 I.bk (fun q=>?_) (by unfold iD.kvs;rw[aQ];exact hz) I.ns I.dc I.fz fa (JS (n:=n+1) kw hb I.lw) Aq (fun e v s₂ h₃ k₂ p₂ b₃ sb=>?_) fun e v s₂ k₂ p₂=>?_
  ·rw[FB]at q
   refine bG (n5 q) fun z hz e=>?_
   exact hno z hz e
  ·(refine Ju p₂ fun a d e_0=>?_;subst e_0;refine fun n1 n2 hne hs e1 e2=>?_)
   have hold:=lS k₂
   have aS:a≠S.a:=fun q=>by rw[q,ho]at n1;nomatch n1
   have dS:d≠S.a:=fun q=>by rw[q,ho]at n2;nomatch n2
   have st:∃h2 tk2,s₂={u with heap:=h2,toks:=tk2}:=fO k₂ fun h2 tk2 e j=>⟨h2,tk2,e⟩
   (refine oL st fun h2 tk2 e_0=>?_;subst e_0)
   have kk:∀c,c≠S.a→∀o,u.heap.get? c=some o→h₃.get? c=some o:=fun c hc o e=>(sb.2 c hc).trans (hold c o e)
   have hnV:S.a∉V:=I.nV _ aF
   have hXa:S.a∈X:=I.xa _ aF
   have hh:∀c o,(hideAll u.heap (V++X)).get? c=some o→(hideAll h₃ (V++(a::d::X))).get? c=some o:=fun c o e=>by
    have hc:=bZ e
    have e':=a6 _ e
    refine b5 _ (kk c (fun q=>hc (aJ _ (q▸hXa))) o e') fun hm=>?_
    rcases eX hm with q|q
    ·exact hc (aL _ q)
    ·rcases nR q with rfl|q
     ·rw[n1]at e';cases e'
     ·rcases nR q with rfl|q
      ·rw[n2]at e';cases e'
      ·exact hc (aJ _ q)
   have B':mL prog w V (a::d::X) h₃ ⟨k,a,d,none,[]⟩:=yF (h:=u.heap) (fun c hc=>m0 hb hc) n1 n2 hne hs ((sb.2 a aS).trans e1) ((sb.2 d dS).trans e2) k
   have keepX:∀c∈X,c∈a::d::X:=fun c hc=>aC _ (aC _ hc)
   have hadr:(⟨S.a,S.d,S.fz,S.fac,S.bks++[⟨k,a,d,none,[]⟩]⟩:iD).adrs=S.adrs++[a,d]:=by
    unfold iD.adrs;simp[Bk.adrs]
   have nin:∀c,u.heap.get? c=none→c∉S.adrs:=fun c hc hm=>by refine bK (I.al c hm) fun o e=>?_;replace e:=hc▸e;cases e
   have ndl:=I.nd
   unfold iD.adrs at ndl
   rw[gK]at ndl
   have kS:∀c∈S.adrs,c≠S.a→∀o,u.heap.get? c=some o→h₃.get? c=some o:=fun c j hc=>kk c hc
   refine q2 hno e a d _ (Mu.mk' (fun c o hc e=>kk c (by with_reducible exact mt List.mem_singleton.mpr hc) o e) fun c hc=>by replace hc:=kQ hc;subst hc;exact hnV) n1 n2 ⟨?_,?_,?_,I.lw.keeps hh,?_,?_,?_,I.ns,?_,?_,keepX _ I.tx,I.tV,?_⟩
   ·have:(⟨S.a,S.d,S.fz,S.fac,S.bks++[⟨k,a,d,none,[]⟩]⟩:iD).kvs=S.kvs++[(k,.ref a)]:=by unfold iD.kvs;simp
    refine aM this ?_;exact b₃
   ·exact I.dc.at fun o e=>kk _ (fun q=>ndl.1 (by refine gU q ?_;exact aF)) o e
   ·intro v e;refine bG (I.fz v e) fun f e1 e2=>?_;exact⟨f,e1,e2.keeps hh⟩
   ·intro c hc
    rcases eX hc with q|q
    ·refine(I.bks c q).at (fun z hz=>kk z fun hq=>?_) hh keepX
     exact ndl.1 (by refine gU hq ?_;exact aC _ (List.mem_flatMap.mpr ⟨c,q,hz⟩))
    ·replace q:=kQ q
     subst q
     exact B'
   ·intro c hc
    rw[hadr]at hc
    rcases eX hc with q|q
    ·exact keepX _ (I.xa c q)
    ·simp only[bL,bR,or_false]at q
     rcases q with rfl|rfl
     ·exact aF
     ·exact aC _ aF
   ·intro c hc
    rw[hadr]at hc
    rcases eX hc with q|q
    ·exact I.nV c q
    ·simp only[bL,bR,or_false]at q
     rcases q with rfl|rfl
     ·exact fun q=>m0 hb n1 (aL _ q)
     ·exact fun q=>m0 hb n2 (aL _ q)
   ·(refine aM hadr ?_;rw[cZ])
    refine⟨I.nd,by simp[hne],fun c hc c' hc' e=>?_⟩
    subst e
    replace hc':=m2 hc'
    rcases(eK b7 b7) hc' with rfl|rfl
    ·exact nin _ n1 hc
    ·exact nin _ n2 hc
   ·have t118:∀o,u.heap.get? 118=some o→h₃.get? 118=some o:=fun o e=>kk 118 (fun q=>I.tn (by refine aM q ?_;exact aF)) o e
    rcases I.t with e|⟨c',e,y⟩
    ·exact .inl (t118 _ e)
    ·exact .inr ⟨c',t118 _ e,y.keeps hh⟩
   ·intro hm
    rw[hadr]at hm
    rcases eX hm with q|q
    ·exact I.tn q
    ·replace q:=m2 q
     have h118:∃o,u.heap.get? 118=some o:=by rcases I.t with e|⟨_,e,_⟩<;>exact⟨_,e⟩
     refine bK h118 fun o e=>?_
     rcases q with q|q
     ·rw[←q,e]at n1;nomatch n1
     ·rw[←q,e]at n2;nomatch n2
  ·(refine Ju p₂ fun a d e_0=>?_;subst e_0;refine fun n1 n2 hne hs e1 e2=>?_)
   exact q3 hno e a d s₂ k₂ n1 n2 (yF (h:=u.heap) (fun c hc=>m0 hb hc) n1 n2 hne hs e1 e2 k)
end
section
variable {b b':Bk} {S:iD} {k:Str}
theorem eG.at'(x:eG prog w V X h S)(k:∀c∈S.adrs,∀o,h.get? c=some o→h'.get? c=some o)(T:GB V X' h')
  (hh:∀c o,(hideAll h (V++X)).get? c=some o→(hideAll h' (V++X')).get? c=some o)(i:∀a∈X,a∈X'):eG prog w V X' h' S where
 bk:=x.bk.at (k _ aF)
 dc:=x.dc.at (k _ (aC _ aF))
 fz:=fun v e=>bG (x.fz v e) fun f a b=>⟨f,a,b.keeps hh⟩
 lw:=x.lw.keeps hh
 bks:=fun b hb=>(x.bks b hb).at (fun c hc=>k c (j5 hb hc)) hh i
 xa:=fun c hc=>i _ (x.xa c hc)
 nV:=x.nV
 ns:=x.ns
 nd:=x.nd
 t:=T
 tx:=i _ x.tx
 tV:=x.tV
 tn:=x.tn
inductive Foc (prog:fL) (w:cN) (V X:List Addr) (h:Heap):iD→Bk→Prop
 |stored {a d:Addr} {fz:Option aG} {fac:Addr} {pre:List Bk} {b:Bk} {post:List Bk} (I:eG prog w V X h ⟨a,d,fz,fac,pre++b::post⟩):Foc prog w V X h ⟨a,d,fz,fac,pre++b::post⟩ b
 |loose {S:iD} {b:Bk} (I:eG prog w V X h S) (B:mL prog w V X h b) (n:∀c∈b.adrs,c∉S.adrs) (n118:118∉b.adrs):Foc prog w V X h S b
theorem Foc.bk(x:Foc prog w V X h S b):mL prog w V X h b:=by
 cases x with
 |stored I=>exact I.bks b (by simp)
 |loose I B n=>exact B
theorem Foc.sto(x:Foc prog w V X h S b):eG prog w V X h S:=by
 cases x with
 |stored I=>exact I
 |loose I B n=>exact I
theorem Foc.n118(x:Foc prog w V X h S b):118∉b.adrs:=by
 cases x with
 |stored I=>exact fun q=>I.tn (j5 (by simp) q)
 |loose I B n n118=>exact n118
inductive Cw:iD→Bk→Bk→iD→Prop
 |stored {a d:Addr} {fz:Option aG} {fac:Addr} {pre:List Bk} {b b':Bk} {post:List Bk}:Cw ⟨a,d,fz,fac,pre++b::post⟩ b b' ⟨a,d,fz,fac,pre++b'::post⟩
 |loose {S:iD} {b b':Bk} (n:∀c∈b.adrs,c∉S.adrs):Cw S b b' S
theorem Foc.upd(x:Foc prog w V X h S b)(ha:b'.a=b.a)(hn:b'.name=b.name)(hadr:∀c∈b'.adrs,c∈b.adrs∨h.get? c=none)
  (k:∀c,c∉b.adrs→c∉V→c≠118→∀o,h.get? c=some o→h'.get? c=some o)(hh:∀c o,(hideAll h (V++X)).get? c=some o→(hideAll h' (V++X')).get? c=some o)(i:∀a∈X,a∈X')
  (T:GB V X' h')(B:mL prog w V X' h' b'):∃S',Foc prog w V X' h' S' b'∧Cw S b b' S':=by
 cases x with
 |stored I=>exact⟨_,.stored (I.repl ha hn hadr k hh i T B),.stored⟩
 |loose I B₀ n n118=>
  refine⟨S,.loose (I.at' (fun c hc=>k c (fun q=>n c q hc) (I.nV c hc) fun q=>I.tn (q▸hc)) T hh i) B (fun c hc hm=>?_) fun q=>?_,.loose n⟩
  ·rcases hadr c hc with q|q
   ·exact n c q hm
   ·refine bK (I.al c hm) fun o e=>?_;replace e:=q▸e;cases e
  ·rcases hadr _ q with q|q
   ·exact n118 q
   ·rcases I.t with e|⟨_,e,_⟩<;>(replace e:=q▸e;cases e)
theorem EY{M:List Addr}{s s':aH}(m:Mu V M s s')(i:∀a∈M,a∈X):∀c o,(hideAll s.heap (V++X)).get? c=some o→(hideAll s'.heap (V++X)).get? c=some o:=cS (m.nx i)
theorem Cq{n:Nat}{Q:aG→aH→Prop}(kw:KW V (kz w) mg mb X u.heap)(R:dK A (n+2))(hb:Bd V X u)(bm:Bm mg (hideAll u.heap (V++X)))(F:Foc prog w V X u.heap S b)
  (q:∀s' f S',Mu V [b.d,118] u s'→Foc prog w V X s'.heap S' ⟨b.name,b.a,b.d,some (.ref f),b.sh⟩→Cw S b ⟨b.name,b.a,b.d,some (.ref f),b.sh⟩ S'→Q .none s'):wpAny (model prog w) A (call (.ref 123) [.ref b.a]) Q E u:=by
 have B:=F.bk
 have I:=F.sto
 refine fO (id B.bk) fun es ep ho hk=>?_
 have hda:b.d∈b.adrs:=aC _ aF
 have ndl:=B.nd
 unfold Bk.adrs at ndl
 rw[gK]at ndl
 have nd2:=(List.nodup_cons.mp ndl.2).1
 have had:b.a≠b.d:=fun q=>ndl.1 (by refine aM q ?_;exact aF)
 refine AW (n:=n) kw R hb ho B.dc (B.nV _ hda) (B.nV _ aF) I.tV I.tx (B.xa _ hda) had I.t bm fun s' f mu d' fu ff T=>?_
 have iX:∀a∈[b.d,118],a∈X:=fun a ha=>by
  replace ha:=m2 ha
  rcases ha with rfl|rfl
  ·exact B.xa _ hda
  ·exact I.tx
 have hh:=EY mu iX
 have kk:∀c,c∉V→c≠b.d→c≠118→∀o,u.heap.get? c=some o→s'.heap.get? c=some o:=fun c hV h1 h2 o e=>mu.k.old c o hV (by simp[h1,h2]) e
 have n118:∀c∈b.adrs,c≠118:=fun c hc q=>F.n118 (q▸hc)
 have B':mL prog w V X s'.heap ⟨b.name,b.a,b.d,some (.ref f),b.sh⟩:=by
  refine⟨B.bk.at (kk _ (B.nV _ aF) had (n118 _ aF)),d',fun v e=>by obtain rfl:=a9 e;exact⟨f,rfl,ff⟩,fun z hz=>(B.sh z hz).at (kk _ (B.nV _ ?_) (fun q=>nd2 ?_) (n118 _ ?_)),B.xa,B.nV,B.ns,B.nd⟩
  ·exact aC _ (aC _ (bQ hz))
  ·refine gU q ?_;exact bQ hz
  ·exact aC _ (aC _ (bQ hz))
 refine bG (F.upd (b':=⟨b.name,b.a,b.d,some (.ref f),b.sh⟩) rfl rfl (fun c hc=>.inl hc) (fun c hc hV h2 o e=>kk c hV (fun q=>hc (q▸hda)) h2 o e) hh (fun j h=>h) T B') fun S' F' P=>?_
 exact q s' f S' mu F' P
theorem BH{n:Nat}{Q:aG→aH→Prop}(kw:KW V (kz w) mg mb X u.heap)(R:dK A (n+2))(hb:Bd V X u)(bm:Bm mg (hideAll u.heap (V++X)))(I:eG prog w V X u.heap S)
  (q:∀s' f,Mu V [S.d,118] u s'→eG prog w V X s'.heap ⟨S.a,S.d,some (.ref f),S.fac,S.bks⟩→Q .none s'):wpAny (model prog w) A (call (.ref 123) [.ref S.a]) Q E u:=by
 refine fO (id I.bk) fun es ep ho hk=>?_
 have hda:S.d∈S.adrs:=aC _ aF
 have ndl:=I.nd
 unfold iD.adrs at ndl
 rw[gK]at ndl
 have nd2:=(List.nodup_cons.mp ndl.2).1
 have had:S.a≠S.d:=fun q=>ndl.1 (by refine aM q ?_;exact aF)
 refine AW (n:=n) kw R hb ho I.dc (I.nV _ hda) (I.nV _ aF) I.tV I.tx (I.xa _ hda) had I.t bm fun s' f mu d' fu ff T=>?_
 have iX:∀a∈[S.d,118],a∈X:=fun a ha=>by
  replace ha:=m2 ha
  rcases ha with rfl|rfl
  ·exact I.xa _ hda
  ·exact I.tx
 have hh:=EY mu iX
 have kk:∀c,c∉V→c≠S.d→c≠118→∀o,u.heap.get? c=some o→s'.heap.get? c=some o:=fun c hV h1 h2 o e=>mu.k.old c o hV (by simp[h1,h2]) e
 have n118:∀c∈S.adrs,c≠118:=fun c hc q=>I.tn (q▸hc)
 refine q s' f mu ⟨I.bk.at (kk _ (I.nV _ aF) had (n118 _ aF)),d',fun v e=>by obtain rfl:=a9 e;exact⟨f,rfl,ff⟩,I.lw.keeps hh,fun c hc=>(I.bks c hc).at (fun z hz=>kk z (I.nV z (j5 hc hz)) (fun q=>nd2 ?_) (n118 z (j5 hc hz))) hh fun j h=>h,I.xa,I.nV,I.ns,I.nd,T,I.tx,I.tV,I.tn⟩
 refine gU q ?_;exact List.mem_flatMap.mpr ⟨c,hc,hz⟩
end
noncomputable def ghost(u:aH)(M:List Addr):aH:={u with heap:=hideAll u.heap M}
section
variable {M:List Addr} {b:Bk} {S:iD}
theorem yS{a:Addr}(h:u.heap.get? a=none):(ghost u M).heap.get? a=none:=by
 cases e:(ghost u M).heap.get? a with
 |none=>rfl
 |some o=>replace h:=(a6 _ e)▸h;cases h
theorem lW{a:Addr}(h:a∈M):(ghost u M).heap.get? a=none:=hideAll_none _ h
theorem JF{h:Heap}{L:Addr}{m:Str→Option aG}{M:List Addr}(n:h.Ns L m)(hL:L∉M):(hideAll h M).Ns L m:=n.at' fun o e=>b5 _ e hL
theorem CZ(k:Keeps V u s)(hM:∀b∈M,b∉V):Keeps V (ghost u M) s:=by
 (refine fO k fun h' tk e_0=>?_;subst e_0;refine fun K=>?_)
 refine⟨h',tk,rfl,fun b o hb e=>K.old b o hb (a6 _ e),fun t=>K.two (t.keeps fun b o e=>a6 _ e),fun L hL h2 m n=>K.ns L hL h2 m (n.keeps fun z z e=>a6 _ e),fun h2 o e=>K.o2 h2 o (a6 _ e)⟩
theorem fU.ghost(F:fU V u env X s m cm)(hM:∀b∈M,b∉V):fU V (Internal.ghost u M) env X s m cm:=
 ⟨CZ F.keeps hM,F.bd,F.l2,F.cV,F.ns,F.cell,F.apart,F.lx,yS F.lf,F.cx,fun n c e=>yS (F.cf n c e)⟩
theorem wO(k:Keeps V (ghost u M) s)(hM:∀b∈M,b∉V):Mu V M u s:=by
 refine fO k fun h' tk e K=>?_
 refine⟨h',tk,by refine aM e ?_;rfl,fun b o hb hm e=>K.old b o hb (b5 _ e hm),fun t=>K.two (t.at fun a ha o e=>b5 _ e fun q=>hM a q ha),fun L hL h2 hm m n=>K.ns L hL h2 m (JF n hm),fun h2 o e=>K.o2 h2 o (b5 _ e fun q=>hM 2 q h2)⟩
theorem fU.muM{N:List Addr}(F:fU V u env X s m cm)(k:Mu V N s s')(hf:∀b∈N,u.heap.get? b=none)(hl:env.locals∉N)(hc:∀n c,env.cells.lookup n=some c→c∉N)(al:∀b∈N,∃o,s'.heap.get? b=some o):fU V u env X s' m cm:=
 ⟨k.keeps F.keeps hf,k.bd' F.bd al,F.l2,F.cV,k.ns F.l2 hl F.ns,fun n c e=>gY (F.cell n c e) fun o eo=>k.get (hc n c e) (F.cV n c e) eo,F.apart,F.lx,F.lf,F.cx,F.cf⟩
theorem fU.grow(F:fU V u env X s m cm)(i:∀a∈X,a∈X')(al:∀a∈X',∃o,s.heap.get? a=some o):fU V u env X' s m cm:=
 ⟨F.keeps,⟨al,F.bd.two⟩,F.l2,F.cV,F.ns,F.cell,F.apart,i _ F.lx,F.lf,fun n c e=>i _ (F.cx n c e),F.cf⟩
theorem GB.toV{L:Addr}{h:Heap}(x:GB V X h)(hL:L∈X):GB (L::V) X h:=by
 rcases x with e|⟨c,e,y⟩
 ·exact .inl e
 ·refine .inr ⟨c,e,y.keeps fun b o e=>b5 _ (a6 _ e) fun q=>bZ e ?_⟩
  rcases eX q with q|q
  ·rcases nR q with rfl|q
   ·exact aJ _ hL
   ·exact aL _ q
  ·exact aJ _ q
theorem tO{L:Addr}{h:Heap}(hL:L∈X):∀b o,(hideAll h (V++X)).get? b=some o→(hideAll h ((L::V)++X)).get? b=some o:=fun b o e=>b5 _ (a6 _ e) fun q=>bZ e (by
 rcases eX q with q|q
 ·rcases nR q with rfl|q
  ·exact aJ _ hL
  ·exact aL _ q
 ·exact aJ _ q)
theorem vK{L:Addr}{h:Heap}:∀b o,(hideAll h ((L::V)++X)).get? b=some o→(hideAll h (V++X)).get? b=some o:=fun b o e=>b5 _ (a6 _ e) fun q=>bZ e (by
 rcases eX q with q|q
 ·exact aL _ (aC _ q)
 ·exact aJ _ q)
theorem mL.toV{L:Addr}{h:Heap}(x:mL prog w V X h b)(hL:L∈X)(n:L∉b.adrs):mL prog w (L::V) X h b:=
 ⟨x.bk,x.dc,fun v e=>bG (x.fz v e) fun f a c=>⟨f,a,c.keeps (tO hL)⟩,x.sh,x.xa,fun c hc q=>(nR q).elim (fun q=>n (q▸hc)) (x.nV c hc),x.ns,x.nd⟩
theorem mL.unV{L:Addr}{h:Heap}(x:mL prog w (L::V) X h b):mL prog w V X h b:=
 ⟨x.bk,x.dc,fun v e=>bG (x.fz v e) fun f a c=>⟨f,a,c.keeps vK⟩,x.sh,x.xa,fun c hc q=>x.nV c hc (aC _ q),x.ns,x.nd⟩
theorem eG.toV{L:Addr}{h:Heap}(x:eG prog w V X h S)(hL:L∈X)(n:L∉S.adrs)(n8:L≠118):eG prog w (L::V) X h S:=
 ⟨x.bk,x.dc,fun v e=>bG (x.fz v e) fun f a c=>⟨f,a,c.keeps (tO hL)⟩,x.lw.keeps (tO hL),fun b hb=>(x.bks b hb).toV hL fun q=>n (j5 hb q),x.xa,fun c hc q=>(nR q).elim (fun q=>n (q▸hc)) (x.nV c hc),x.ns,x.nd,x.t.toV hL,x.tx,fun q=>(nR q).elim (fun q=>n8 q.symm) x.tV,x.tn⟩
theorem eG.unV{L:Addr}{h:Heap}(x:eG prog w (L::V) X h S):eG prog w V X h S:=
 ⟨x.bk,x.dc,fun v e=>bG (x.fz v e) fun f a c=>⟨f,a,c.keeps vK⟩,x.lw.keeps vK,fun b hb=>(x.bks b hb).unV,x.xa,fun c hc q=>x.nV c hc (aC _ q),x.ns,x.nd,by
  rcases x.t with e|⟨c,e,y⟩
  ·exact .inl e
  ·exact .inr ⟨c,e,y.keeps vK⟩,x.tx,fun q=>x.tV (aC _ q),x.tn⟩
theorem Bp{z:zI}(sh:wZ s.heap z)(hV:z.l∉V)(hz:z.pl.length≤1000):Pu V prog w A X s (call (.type "list") [.ref z.l]) (Dt (.list (z.pl.map .int))):=by
 refine .mk fun Z z' hz' hbz Q' E' q'=>?_
 (refine bG (sh.at fun o=>a7 hz'.keeps _ o hV) fun vs q_1 a=>?_;refine bK q_1 fun n e1=>?_)
 have hl:vs.size≤1000:=by
  have:=a.length
  simp only[aQ]at this
  have e:vs.toList.length=vs.size:=by trivial
  exact aD (aD (aU e.symm) (aU this)) hz
 refine call_list_seq _ (T:="list") (.inl rfl) e1 rfl rfl (fun h' c' hk e2=>?_) (by refine aM bV ?_;exact aD (by assumption) (by decide))
 have kk:Keeps V z' {z' with heap:=h'}:=gW hk
 exact q' _ _ kk (Is.list hbz.fresh e2 rfl rfl (qR a))
end
inductive rS (S:iD) (nm:Str):iD→Bk→Prop
 |there (b:Bk) (h:b∈S.bks) (hn:b.name=nm):rS S nm S b
 |made (a d:Addr) (no:∀b∈S.bks,b.name≠nm) (fz:S.fz=none):rS S nm ⟨S.a,S.d,S.fz,S.fac,S.bks++[⟨nm,a,d,none,[]⟩]⟩ ⟨nm,a,d,none,[]⟩
 |tmp (a d:Addr) (no:∀b∈S.bks,b.name≠nm) (fz:S.fz≠none):rS S nm S ⟨nm,a,d,none,[]⟩
inductive tX (S:iD) (b:Bk) (k:Str):iD→Bk→zI→Prop
 |there (z:zI) (h:z∈b.sh) (hn:z.key=k):tX S b k S b z
 |made (l:Addr) (no:∀z∈b.sh,z.key≠k) (fz:b.fz=none) (S':iD) (p:Cw S b ⟨b.name,b.a,b.d,b.fz,b.sh++[⟨k,l,[]⟩]⟩ S'):tX S b k S' ⟨b.name,b.a,b.d,b.fz,b.sh++[⟨k,l,[]⟩]⟩ ⟨k,l,[]⟩
 |tmp (l:Addr) (no:∀z∈b.sh,z.key≠k) (fz:b.fz≠none):tX S b k S b ⟨k,l,[]⟩
structure uC(V M X:List Addr)(s:aH)(X':List Addr)(s':aH):Prop where
 mu:Mu V M s s'
 inc:∀a∈X,a∈X'
 new:∀a∈X',a∉V→a∈X∨s.heap.get? a=none
 bd:Bd V X' s'
section
variable {M:List Addr} {b:Bk} {S:iD} {k:Str}
theorem uC.nx(x:uC V M X s X' s')(i:∀a∈M,a∈X):Nx V X s X' s':=by
 refine fO x.mu fun h' tk e K=>?_
 exact⟨⟨h',tk,e⟩,fun c o hc e=>x.mu.k.old c o (fun q=>hc (aL _ q)) (fun q=>hc (aJ _ (i _ q))) e,x.new,x.mu.k.two⟩
theorem uC.of_keeps(hb:Bd V X s)(k:Keeps V s s'):uC V M X s X s':=⟨Mu.of_keeps k,fun z h=>h,fun z h z=>.inl h,hb.keeps k⟩
theorem Lc{h:Heap}{k:Str}{a d:Addr}(n1:h.get? a=none)(n2:h.get? d=none)(c:Addr)(hc:c∈(⟨k,a,d,none,[]⟩:Bk).adrs):h.get? c=none:=by
 have hc':c=a∨c=d:=by simpa[Bk.adrs]using hc
 rcases hc' with rfl|rfl
 ·exact n1
 ·exact n2
theorem Fk{n:Nat}{Q:aG→aH→Prop}(po:sF prog)(kw:KW V (kz w) mg mb X u.heap)(r:dK A (n+9))(hb:Bd V X u)(x2:S2 w u.heap)(I:eG prog w V X u.heap S)(hz:S.bks.length≤1000)
  (q:∀b S' X' s',uC V [S.a] X u X' s'→Foc prog w V X' s'.heap S' b→rS S k S' b→(∀c∈b.adrs,c∈S.adrs∨u.heap.get? c=none)→Q (.ref b.a) s'):wpAny (model prog w) A (getItem (.ref S.a) (.str k t)) Q E u:=by
 have tk0:∀tk,Keeps V u {u with toks:=tk}:=fun tk=>d9 u tk
 have Sal:=I.al
 have h118:∃o,u.heap.get? 118=some o:=by rcases I.t with e|⟨_,e,_⟩<;>exact⟨_,e⟩
 refine Fj (n:=n) po kw r hb x2 I hz (fun b hb' hn tk=>?_) (fun no fz a d s' mu n1 n2 I'=>?_) fun no fz a d s' k1 n1 n2 B=>?_
 ·obtain⟨a,d,fz,fac,bks⟩:=S
  (refine oL (rL hb') fun pre post e_0=>?_;subst e_0)
  exact q b _ X _ (.of_keeps hb (tk0 tk)) (.stored (I.keep (tk0 tk))) (.there b hb' hn) fun c hc=>.inl (j5 hb' hc)
 ·have inc:∀c∈X,c∈a::d::X:=fun c hc=>aC _ (aC _ hc)
  have al:∀c∈[S.a],∃o,s'.heap.get? c=some o:=fun c hc=>by simp at hc;obtain rfl:=hc.symm;exact I'.al _ aF
  have bd0:=mu.bd' hb al
  have bd:Bd V (a::d::X) s':=⟨fun c hc=>by
   rcases nR hc with rfl|hc
   ·exact I'.al _ (j5 (b:=⟨k,c,d,none,[]⟩) (by simp) aF)
   ·rcases nR hc with rfl|hc
    ·exact I'.al _ (j5 (b:=⟨k,a,c,none,[]⟩) (by simp) (aC _ aF))
    ·exact bd0.al c hc,bd0.two⟩
  refine q ⟨k,a,d,none,[]⟩ _ (a::d::X) s' ⟨mu,inc,fun c hc z=>?_,bd⟩ (.stored (pre:=S.bks) (post:=[]) I') (.made a d no fz) (fun c hc=>.inr (Lc n1 n2 c hc))
  rcases r4 hc with rfl|hc
  ·exact .inr n1
  ·rcases r4 hc with rfl|hc
   ·exact .inr n2
   ·exact .inl hc
 ·have inc:∀c∈X,c∈a::d::X:=fun c hc=>aC _ (aC _ hc)
  have kV:Keeps V u s':=h9 k1
  have new:∀c∈a::d::X,c∉V→c∈X∨u.heap.get? c=none:=fun c hc z=>by
   rcases r4 hc with rfl|hc
   ·exact .inr n1
   ·rcases r4 hc with rfl|hc
    ·exact .inr n2
    ·exact .inl hc
  have bd0:=hb.keeps kV
  have bd:Bd V (a::d::X) s':=⟨fun c hc=>by
   rcases r4 hc with rfl|hc
   ·exact B.al _ aF
   ·rcases r4 hc with rfl|hc
    ·exact B.al _ (aC _ aF)
    ·exact bd0.al c hc,bd0.two⟩
  have I':eG prog w V (a::d::X) s'.heap S:=I.wle ⟨kV,inc,new⟩
  refine q ⟨k,a,d,none,[]⟩ S (a::d::X) s' ⟨Mu.of_keeps kV,inc,new,bd⟩ (.loose I' B (fun c hc hm=>?_) fun hc=>?_) (.tmp a d no fz) (fun c hc=>.inr (Lc n1 n2 c hc))
  ·refine bK (Sal c hm) fun o e=>?_
   have hc':c=a∨c=d:=by simpa[Bk.adrs]using hc
   rcases(eK b7 b7) hc' with rfl|rfl
   ·replace e:=n1▸e;cases e
   ·replace e:=n2▸e;cases e
  ·refine bK h118 fun o e=>?_
   have hc':118=a∨118=d:=by simpa[Bk.adrs]using hc
   rcases hc' with q|q
   ·rw[←q,e]at n1;cases n1
   ·rw[←q,e]at n2;cases n2
theorem Hm{n:Nat}{Q:aG→aH→Prop}(po:sF prog)(kw:KW V (kz w) mg mb X u.heap)(r:dK A (n+8))(hb:Bd V X u)(x2:S2 w u.heap)(F:Foc prog w V X u.heap S b)(hz:b.sh.length≤1000)
  (q:∀z b' S' X' s',uC V [b.a] X u X' s'→Foc prog w V X' s'.heap S' b'→tX S b k S' b' z→wZ s'.heap z→z.l∈X'→z.l∉V→(u.heap.get? z.l=none∨z∈b.sh)→Q (.ref z.l) s'):wpAny (model prog w) A (getItem (.ref b.a) (.str k t)) Q E u:=by
 have B:=F.bk
 have tk0:∀tk,Keeps V u {u with toks:=tk}:=fun tk=>d9 u tk
 have baX:b.a∈X:=B.xa _ aF
 have fkeep:∀{s':aH} {X':List Addr},gM V X u X' s'→Foc prog w V X' s'.heap S b:=fun k=>by
  cases F with
  |stored I=>exact .stored (I.wle k)
  |loose I B n n8=>exact .loose (I.wle k) (B.wle k) n n8
 refine Hl (n:=n) po kw r hb x2 B hz (fun z hz' hn tk=>?_) (fun no fz l s' mu n1 B'=>?_) fun no fz l s' k1 n1 sh=>?_
 ·have hm:z.l∈b.adrs:=aC _ (aC _ (bQ hz'))
  exact q z b S X _ (.of_keeps hb (tk0 tk)) (fkeep (gM.of_keeps (tk0 tk))) (.there z hz' hn) (B.sh z hz') (B.xa _ hm) (B.nV _ hm) (.inr hz')
 ·have hm:l∈(⟨b.name,b.a,b.d,b.fz,b.sh++[⟨k,l,[]⟩]⟩:Bk).adrs:=by unfold Bk.adrs;simp
  have lV:=B'.nV _ hm
  have new:∀c∈l::X,c∉V→c∈X∨u.heap.get? c=none:=fun c hc j=>by
   rcases r4 hc with rfl|hc
   ·exact .inr n1
   ·exact .inl hc
  have al:∀c∈[b.a],∃o,s'.heap.get? c=some o:=fun c hc=>by replace hc:=kQ hc;subst hc;exact B'.al _ aF
  have bd0:=mu.bd' hb al
  have bd:Bd V (l::X) s':=⟨fun c hc=>by
   rcases r4 hc with rfl|hc
   ·exact B'.al _ hm
   ·exact bd0.al c hc,bd0.two⟩
  have st:uC V [b.a] X u (l::X) s':=⟨mu,fun c hc=>aC _ hc,new,bd⟩
  have hh:=cS (st.nx fun c hc=>by replace hc:=kQ hc;subst hc;exact baX)
  have T:GB V (l::X) s'.heap:=by
   have k8:∀o,u.heap.get? 118=some o→s'.heap.get? 118=some o:=fun o e=>mu.k.old 118 o F.sto.tV (fun q=>F.n118 (by replace q:=kQ q;refine aM q ?_;exact aF)) e
   rcases F.sto.t with e|⟨c,e,y⟩
   ·exact .inl (k8 _ e)
   ·exact .inr ⟨c,k8 _ e,y.keeps hh⟩
  refine bG (F.upd (b':=⟨b.name,b.a,b.d,b.fz,b.sh++[⟨k,l,[]⟩]⟩) rfl rfl (fun c hc=>by
    have:c∈b.adrs∨c=l:=by
     unfold Bk.adrs at hc⊢
     simp only[bB,bT,lA,bL,b8,bR,or_false]at hc⊢
     rcases hc with h|h|h|h
     ·exact .inl (.inl h)
     ·exact .inl (.inr (.inl h))
     ·exact .inl (.inr (.inr h))
     ·exact .inr h
    rcases(eK id b7) this with q|rfl
    ·exact .inl q
    ·exact .inr n1) (fun c hc hV h8 o e=>mu.k.old c o hV (fun q=>hc (by replace q:=kQ q;refine aM q ?_;exact aF)) e) hh (fun c hc=>aC _ hc) T B') fun S' F' P=>?_
  exact q ⟨k,l,[]⟩ _ S' (l::X) s' st F' (.made l no fz S' P) (B'.sh _ (by simp)) aF lV (.inl n1)
 ·have kV:Keeps V u s':=h9 k1
  have new:∀c∈l::X,c∉V→c∈X∨u.heap.get? c=none:=fun c hc j=>by
   rcases r4 hc with rfl|hc
   ·exact .inr n1
   ·exact .inl hc
  have bd0:=hb.keeps kV
  have bd:Bd V (l::X) s':=⟨fun c hc=>by
   rcases r4 hc with rfl|hc
   ·(refine bG sh fun vs q_1 j=>?_;refine bK q_1 fun n' e=>?_);exact⟨_,e⟩
   ·exact bd0.al c hc,bd0.two⟩
  exact q ⟨k,l,[]⟩ b S (l::X) s' ⟨Mu.of_keeps kV,fun c hc=>aC _ hc,new,bd⟩ (fkeep ⟨kV,fun c hc=>aC _ hc,new⟩) (.tmp l no fz) sh aF (fun q=>m0 hb n1 (aL _ q)) (.inl n1)
end
theorem Ef:Cf.cps=#[61]:=by decide+kernel
theorem wR{l:List Nat}{i:Nat}(hi:i<l.length):l.toArray.extract i (i+1)=#[l[i]]:=by
 apply Array.ext'
 refine aM List.extract_toArray ?_
 simp only[m5,s8]
 refine aM (iF hi) ?_
 rfl
theorem Kl{P R:List Nat}(hP:61∉P)(ha:∀c∈P++61::R,c<256):Lk ⟨(P++61::R).toArray⟩ ⟨P.toArray⟩ ⟨R.toArray⟩:=by
 have hl:(⟨(P++61::R).toArray⟩:Str).length=(P++61::R).length:=by
  refine(?_:(P++61::R).toArray.size=_)
  trivial
 have h1:Cf.length=1:=by refine aM Ef ?_;rfl
 have hlen:(P++61::R).length=P.length+1+R.length:=by simp;simp+arith only[]
 have at_iff:∀i,StrLaws.At ⟨(P++61::R).toArray⟩ Cf (⟨(P++61::R).toArray⟩:Str).length i↔(P++61::R)[i]?=some 61:=by
  intro i
  unfold StrLaws.At Builtin.Str.subAt
  refine aM hl (aM h1 (aM Ef ?_))
  constructor
  ·rintro⟨a,b⟩
   have hi:i<(P++61::R).length:=mB (by assumption)
   have b':((P++61::R).toArray.extract i (i+1))=#[61]:=by with_reducible exact beq_iff_eq.mp b
   rw[wR hi]at b'
   rw[bC hi]
   simpa using b'
  ·intro h
   obtain⟨hi,e⟩:=List.getElem?_eq_some_iff.mp h
   refine⟨mB (by assumption),?_⟩
   refine aM (wR hi) (aM e ?_)
   rfl
 have atP:StrLaws.At ⟨(P++61::R).toArray⟩ Cf (⟨(P++61::R).toArray⟩:Str).length P.length:=by rw[at_iff];simp
 have hocc:rB ⟨(P++61::R).toArray⟩ Cf 0 (⟨(P++61::R).toArray⟩:Str).length 1=[P.length]:=by
  rcases StrLaws.occ_head ⟨(P++61::R).toArray⟩ Cf 1 (by decide)with ⟨_,hn⟩|⟨i,r,e,ha',hk⟩
  ·exact absurd atP (hn _)
  ·have hle:=StrLaws.occ_length_le ⟨(P++61::R).toArray⟩ Cf 0 (⟨(P++61::R).toArray⟩:Str).length 1
   rw[e]at hle⊢
   have hr:r=[]:=by cases r with|nil=>rfl|cons _ _=>simp at hle
   subst hr
   have h2:=(at_iff i).mp ha'
   have hi:i=P.length:=by
    rcases Nat.lt_trichotomy i P.length with h|h|h
    ·rw[jQ h]at h2
     exact absurd (jZ h2) hP
    ·exact h
    ·exact absurd atP (hk _ h)
   exact aM hi rfl
 have hlim:limitOf ⟨(P++61::R).toArray⟩ 1=1:=by rfl
 refine⟨?_,?_,?_⟩
 ·have e1:(decide ((⟨(P++61::R).toArray⟩:Str).length<Cf.length))=false:=by refine aM hl (aM h1 (aM hlen ?_));exact decide_eq_false (Nat.not_lt.mpr (aD (Nat.le_add_left _ _) (bN _ _)))
  have e2:l9 ⟨(P++61::R).toArray⟩=1:=by
   unfold l9
   have:((P++61::R).toArray.all (·<256))=true:=by
    rw[Array.all_eq_true_iff_forall_mem]
    intro c hc
    exact decide_eq_true (ha c (by with_reducible exact List.mem_toArray.mp hc))
   exact aM (if_pos this) rfl
  have e3:l9 Cf=1:=by decide+kernel
  refine aM e1 (aM e2 (aM e3 ?_));rfl
 ·refine aM hlim (aM hocc ?_);rfl
 ·refine aM hlim (aM hocc ?_)
  refine aM hl (aM h1 ?_)
  refine(?_:[iZ ⟨(P++61::R).toArray⟩ 0 P.length,iZ ⟨(P++61::R).toArray⟩ (P.length+1) (P++61::R).length]=_)
  have s1:iZ ⟨(P++61::R).toArray⟩ 0 P.length=⟨P.toArray⟩:=by
   unfold iZ
   congr 1
   apply Array.ext'
   refine aM List.extract_toArray ?_
   simp[m5]
  have s2:iZ ⟨(P++61::R).toArray⟩ (P.length+1) (P++61::R).length=⟨R.toArray⟩:=by
   unfold iZ
   congr 1
   apply Array.ext'
   refine aM List.extract_toArray ?_
   refine aM m5 (aM hlen ?_)
   have:P++61::R=(P++[61])++R:=by simp
   refine aM this (aM (List.drop_append_of_le_length (by simp)) ?_)
   (refine aM (List.drop_eq_nil_of_le (by simp)) ?_;rewrite[qD];exact aM (k9 (by lia)) rfl)
  exact aM s1 (aM s2 rfl)
noncomputable def jD:fB→Str
 | .num n=>aA (toString (n:Int))
 | .txt cs=>⟨cs.toArray⟩
noncomputable def keyOf(rs:List fB):Str:=Txt.join (aA ".") (rs.map jD)
structure A5(rs:List fB):Prop where
 len:rs.length≤600
 num:∀n,fB.num n∈rs→(n:Int).natAbs.log2<1900
 txt:∀r∈rs,(jD r).length≤700
theorem FG{v:aG}{r:fB}(hv:Is V X s.heap v r.data)(hn:∀n,r= .num n→(n:Int).natAbs.log2<1900):Pu V prog w A X s (call (.type "str") [v]) (Dt (.str (jD r))):=by
 refine .mk fun Y u hu hb Q E q=>?_
 cases r with
 |num n=>
  (refine bK (Is.of_int hv) fun t e_0=>?_;subst e_0)
  exact PySem.P.str_of_int (by have:=hn n rfl;exact aO (by assumption) (by decide)) (q _ _ (d9 u _) (Is.str _ _))
 |txt cs=>
  (refine bK (Is.of_str hv) fun t e_0=>?_;subst e_0)
  exact PySem.P.str_of_str (q _ _ (cE u) (Is.str _ _))
theorem G7{it:Expr}{p1 p2 p3 p4 p5:Pos}{scope:Scope}{rs:List fB}{n:Nat}{x:Str}(kw:KW V (kz w) mg mb X s.heap)(R:dK A n)(hx:x=aA "thing"∨x=aA "run")(hk:A5 rs)
  (hi:Pu V prog w A X s (eval it env) (Dt (.list (rs.map fB.data))))
  (hs:scope={kind:=b6,names:=[(aA ".0",NameKind.local),(x,NameKind.local),(aA "str",aZ)],isGenerator:=false,isCoroutine:=false})(hg:env.globals=mainGlobals)(hbl:env.builtins=builtinsNs)
  (hclos:closureFor scope env=pure [])(hfold:∀v,foldedSetIterable it env v=pure v):
  Pu V prog w A X s (eval (.ListComp (.Call (.Name (aA "str") p1) [.Name x p2] [] p3) [⟨.Name x p4,it,[],0⟩] scope p5) env) (Dt (.list ((rs.map jD).map .str))):=by
 subst hs
 rcases hx with rfl|rfl
 all_goals
  refine mH (own:=none) (n:=(rs.map fB.data).length) (f:=fun i=>(rs.map fB.data)[i]?.getD .none) (p:=fun y=>true) (g:=fun i=>.str (jD (rs[i]?.getD (.num 0)))) (P:=Dt (.list (rs.map fB.data))) (cls:="list_iterator")
   ⟨hi,hW R.handled,by refine aM bV ?_;simp;have:=hk.len;exact aD (by assumption) (by decide),fun L' c j Y' v' val hj hw hb hn hval=>eU,?_,hclos,rfl,by decide+kernel,fun y=>rfl,fun y=>rfl,fun y y=>.inl rfl,hfold⟩ ?_
 all_goals first|((refine aM bW ?_;rw[aQ]);exact qN (fun r=>iH (jD r)) (.num 0) rs)|skip
 all_goals
  intro L' c j Y' v' val hj _ hw hb hn hval
  have hj':j<rs.length:=by simpa using hj
  rw[j6 fB.data (.num 0) _ _ hj']at hval
  have hm:=fH (.num 0) rs hj'
  generalize rs[j]?.getD (.num 0)=rr at hval hm⊢
  refine f5 (kF (kw.nx hw.nx) (hg:=hg) (hb:=hbl)) (aT (aX hn hval) bF) fun Z z vs hz hbz hvs=>?_
  (refine bG (mN hvs) fun v1 e_0=>?_;subst e_0;refine fun h1'=>?_)
  exact FG h1' fun n e=>hk.num n (e▸hm)
noncomputable def DU:List String:=["","0","1","01","10",".","-","_+","a","alpha","b","beta","c","rc","RC","dev","pl","p","x="," ","9","2","A","z"]
noncomputable def kI:List Str:=DU.map aA
noncomputable def lJ(x:Int)(i:Nat):Str:=(kI[((x.fdiv ((24:Int)^(i+1))).fmod 24).toNat]?).getD Str.empty
noncomputable def j3(x:Int):Str:=Txt.join (aA "") ((bI 4).map (lJ x))
theorem DS:∀y∈kI,y.length≤5:=by decide+kernel
theorem tJ(x:Int)(i:Nat):lJ x i∈kI:=by
 unfold lJ
 have h0:0≤(x.fdiv ((24:Int)^(i+1))).fmod 24:=fA _ (by decide)
 have h2:((x.fdiv ((24:Int)^(i+1))).fmod 24).toNat<kI.length:=by
  have:kI.length=24:=by decide+kernel
  (refine aM this ?_;exact(Int.toNat_lt h0).mpr (jJ _ (by decide)))
 rw[bC h2]
 exact f9 h2
theorem CB(x:Int)(i:Nat):(kI.map iH)[((x.fdiv ((24:Int)^(i+1))).fmod 24).toNat]?=some (.str (lJ x i)):=by
 have h0:0≤(x.fdiv ((24:Int)^(i+1))).fmod 24:=fA _ (by decide)
 have h2:((x.fdiv ((24:Int)^(i+1))).fmod 24).toNat<kI.length:=by
  have:kI.length=24:=by decide+kernel
  (refine aM this ?_;exact(Int.toNat_lt h0).mpr (jJ _ (by decide)))
 unfold lJ
 rw[cQ,bC h2];rfl
theorem v9{sep:Str}{texts:List Str}{B:Nat}(hB:∀y∈texts,y.length≤B)(h:texts.length*B+texts.length*sep.length≤16777216):JoinOk sep texts=true:=by
 unfold JoinOk
 have:=PySem.StrLaws.joinFits hB h
 simpa using this
theorem yW{x:aG}{n:Nat}{i:Int}(kw:KW V (kz w) mg mb X s.heap)(r:dK A (n+2))(hx:Is V X s.heap x (.int i)):Pu V prog w A X s (call (.ref 229) [x]) (Dt (.str (j3 i))):=by
 refine x7 Jj kw r (ho:=rfl) (by rfl) (by rfl) (binds:=[("x",x)]) (by rfl) (by rfl) ?_ (fun L=>rfl) ?_
 ·intro L y hy;replace hy:=kQ hy;subst hy;exact .inr ⟨rfl,rfl⟩
 ·intro L Y u s₁ Q E hu nx F q
  refine eS (sO (c:=L+2) (d:=.list ((kI.take 12).map .str)) F rfl (fG (ds:=(kI.take 12).map .str) ?_ rfl (by decide+kernel)) fun v1 s₁ F₁ n₁ h1=>⟨rfl,?_⟩)
  ·repeat (first|exact bF|refine aT (gO _) ?_)
  refine eS (sO (c:=L+2) (d:=.list (kI.map .str)) F₁ rfl ?_ fun v2 s₂ F₂ n₂ h2=>⟨rfl,?_⟩)
  ·refine oY (ds:=(kI.take 12).map .str) (es:=(kI.drop 12).map .str) (aX (F₁.cel (c:=L+2) rfl rfl) h1) (fG ?_ rfl (by decide+kernel)) (by decide+kernel)
   repeat (first|exact bF|refine aT (gO _) ?_)
  have hx₂:=((hx.nx nx).nx (F.nx n₁)).nx (F₁.nx n₂)
  refine qK (d:=.str (j3 i)) F₂ ?_ fun v s₃ F₃ n₃ hv=>q v s₃ F₃.keeps (hv.less fun a ha=>aJ _ ha)
  refine Ak (gO _) ?_ (v9 (B:=5) (fun y hy=>?_) (by(rewrite[aQ];refine aM j0 ?_);decide))
  ·refine DO (x:="k") (own:=none) (n:=4) (f:=fun i=>.int (i+1)) (p:=fun o=>true) (g:=fun k=>.str (lJ i k)) (P:=Dt (.list [.int 1,.int 2,.int 3,.int 4])) (cls:="list_iterator") ⟨?_,?_,by decide,?_,?_,rfl,rfl,by decide+kernel,fun o=>rfl,fun o=>rfl,fun o o=>.inl rfl,fun o=>rfl⟩
   ·refine fG (ds:=[.int 1,.int 2,.int 3,.int 4]) ?_ rfl (by decide)
    repeat (first|exact bF|refine aT (eE _) ?_)
   ·intro y Z z hy hb Q' E' q'
    exact hW (A:=A.deeper (Jj L)) (ds:=[.int 1,.int 2,.int 3,.int 4]) r.handled y Z z hy hb Q' E' fun I fp wr P' St u' k W st a b c d e=>q' I fp wr P' St u' k W st a b c d fun j v hj=>by
     refine gE (e j v hj) fun hj' hv=>?_
     refine⟨hj',?_⟩
     revert hv
     refine Lq hj' ?_ ?_ ?_ ?_<;>exact id
   ·intro L' c j Y' v' val hj hw hb hn hval
    exact eU
   ·intro L' c j Y' v' val hj _ hw hb hn hval
    refine lI (ds:=kI.map .str) (k:=(i.fdiv ((24:Int)^(j+1))).fmod 24) (aX (F₂.inner (c:=L+2) rfl rfl hw) (h2.nx hw.nx)) ?_ (fA _ (by decide)) ?_ (CB i j)
    ·refine uR (tF (b:=(24:Int)^(j+1)) (aX (F₂.inner (c:=L+1) rfl rfl hw) (hx₂.nx hw.nx)) ?_ ?_ ?_) (eE _) (by decide)
     ·exact KJ (a:=24) (b:=(j:Int)+1) (eE 24) (aX hn hval) (Int.ofNat_nonneg (j+1)) (Int.le_trans (Int.add_le_add_right (Int.ofNat_le.mpr (bA (by assumption))) 1) (by decide)) (by decide)
     ·exact Int.pow_ne_zero (by decide)
     ·refine Lq hj ?_ ?_ ?_ ?_<;>decide
    ·have:=jJ (i.fdiv ((24:Int)^(j+1))) (b:=24) (by decide)
     omega
  ·(refine bG (n5 hy) fun j o e_0=>?_;subst e_0)
   exact DS _ (tJ i j)
noncomputable def Bu(x:Int):Str:=([aA "a=",aA " b =",aA "c = "][((x.fdiv 8).fmod 3).toNat]?).getD Str.empty
structure sR(x:Int)(nm vt p q:Str):Prop where
 cut:Lk (Bu x++j3 x) p q
 hnm:Txt.strip p=nm
 hvt:Txt.strip q=vt
 l1:(Bu x++j3 x).length≤900
 l2:p.length≤900
 l3:q.length≤900
 l4:vt.length≤600
 asc:∀c∈vt.cps.toList,c<128
 key:A5 (fE vt.cps.toList)
noncomputable def EM(V X:List Addr)(h:Heap)(p:Addr)(x y:aG):Prop:=∃dd,(hideAll h (V++X)).get? p=some (uD dd x y)∧(hideAll h (V++X)).get? dd=some kR
theorem EM.nx{X X':List Addr}{s s':aH}{p:Addr}{x y:aG}(P:EM V X s.heap p x y)(n:Nx V X s X' s'):EM V X' s'.heap p x y:=bG P fun dd a b=>⟨dd,cS n _ _ a,cS n _ _ b⟩
theorem Aa{value slice:Expr}{pos:Pos}{Q:aG→aH→Prop}
  (h:WC prog w A (eval value env) (fun o s₁=>wpAny (model prog w) A (eval slice env) (fun i s₂=>wpAny (model prog w) A (PyProof.Rows.subscriptTail value slice o i) Q E s₂) E s₁) E s):
  WC prog w A (eval (.Subscript value slice pos) env) Q E s:=by
 rw[eval_Subscript]
 exact .bind (h.monoQ fun o s₁ h₁=>.any (aB (a8 (bD h₁ (fun i s₂ h₂=>aB (dF h₂)) fun z z x=>x))))
theorem xP{pos:Pos}{a:Addr}{e:Sem aG}{Q:aG→aH→Prop}
  (h:wpAny (model prog w) A e (fun v s₁=>(∃o fd,s₁.heap.get? a=some o∧o.data= .func fd)∧WC prog w A (call (.ref a) [v]) Q E s₁) E s):
  WC prog w A (callWith pos (.ref a) [] [(false,e)] []) Q E s:=by
 refine .seq (a8 (gP (eR (bD h (fun v s₁ h₁=>iW (show WC prog w A _ Q E s₁ from .standAt ?_)) fun z z x=>x))))
 refine .seq (m:=keeperOf (.ref a)) ?_
 (refine gE h₁ fun q_1 hc=>?_;refine fO q_1 fun o fd ho hd=>?_)
 refine aB (nJ ho ?_)
 refine aM hd ?_
 refine aE ?_
 refine .eq (if_neg (by simp)) ?_
 exact .bind (.keep (hc.monoQ fun r s₂ hr=>.any (aB (a8 (nI (aE hr))))))
theorem GD{func e:Expr}{pos:Pos}{Q:aG→aH→Prop}
  (h:wpAny (model prog w) A (eval func env) (fun f s₁=>WC prog w A (callWith pos f [] [(false,eval e env)] []) Q E s₁) E s)
  (h1:autoParam (eval (.Call func [e] [] pos) env=(do callWith pos (←eval func env) [] (backTo pos (starEach [e] env)) (backToKw pos (keywordEach [] env)))) rf)
  (hs:autoParam (starEach [e] env=[(false,eval e env)]) rf):WC prog w A (eval (.Call func [e] [] pos) env) Q E s:=by
 refine aM h1 (aM hs ?_)
 exact .seq (bD h (fun f s₁ h₁=>h₁) fun z z x=>x)
theorem Ee{name:Str}{g gd:Addr}{od:Obj}{i:Nat}{t:Tok}{n:Nat}{v x y:aG}{p:Addr}{p1 p2:Pos}{Q:aG→aH→Prop}(G:wJ w g gd od i t)(hi:i<2)(hO:∀od,findObj (kz w) 221 od name=some (.bind (.ref 79) (.ref g)))
  (kw:KW V (kz w) mg mb X s.heap)(R:dK A (n+5))(hb:Bd V X s)(x2:S2 w s.heap)(P:EM V X s.heap p x y)(hv:(#[x,y]:Array aG)[i]?=some v)(hh:handedIn v=true)
  (hn:fR V env s.heap (aA "pair") (.ref p))(hk:env.scope.kind= .function)(hbase:attributeBase (.Name (aA "pair") p1) name env (eval (.Name (aA "pair") p1) env)=eval (.Name (aA "pair") p1) env)
  (q:∀s',Keeps V s s'→Q v s'):wpAny (model prog w) A (eval (.Attribute (.Name (aA "pair") p1) name p2) env) Q E s:=by
 refine bG P fun dd a b=>?_
 (rewrite[sT];refine aM hbase ?_)
 refine aB ((eQ (V:=V) (X:=X) hn hk).run hb fun v' s₁ k₁ hv'=>?_)
 cases (hv':v'= .ref p)
 refine aB (dF (aB (a8 ?_)))
 have hpV:p∉V:=fun q=>bZ a (aL _ q)
 have hdV:dd∉V:=fun q=>bZ b (aL _ q)
 refine aB (wpAny_mkText ?_)
 have kt:Keeps V s₁ {s₁ with toks:=s₁.toks+1}:=d9 s₁ _
 have k:=aN k₁ kt
 refine Ii (V:=V) (X:=X) (mg:=mg) (mb:=mb) (n:=n) (u:={s₁ with toks:=s₁.toks+1}) G hi hO (kw.nx (gM.of_keeps (X:=X) k).nx) R (hb.keeps k) (x2.at fun o=>(dA k).o2 hb.two.two o) (a7 k _ _ hpV (a6 _ a)) (a7 k _ _ hdV (a6 _ b)) hpV hv hh fun s' k'=>?_
 exact aB (nK (aE (q _ (aN k (h9 k')))))
section
variable {S:iD}
noncomputable abbrev AI:Str:=aA "pair"
theorem GO{e:Expr}{p1 p2 p3 p4 p5:Pos}{x:Int}{nm vt p q:Str}{n:Nat}{Q:Flow→aH→Prop}{L:Addr}(F:fU V u (dU L) X s m cm)(kw:KW V (kz w) mg mb X s.heap)(R:dK A (n+8))(x2:S2 w s.heap)(T:sR x nm vt p q)
  (he:Pu V prog w A X s (eval e (dU L)) (Dt (.str (Bu x++j3 x))))
  (hq:∀pp t1 t2 s',fU V u (dU L) X s' (fun z=>if z=AI then some (.ref pp)else m z) cm→Mu V (nB (dU L)) s s'→EM V X s'.heap pp (.str nm t1) (.str vt t2)→Q .next s')
  (hs:autoParam (swapsWith (.Call (.Attribute (.Name (aA "Pair") p2) (aA "parse") p3) [e] [] p4) (some (.Name AI p1)) p5.line (dU L)=pure false) rf)
  (hst:autoParam (starEach [e] (dU L)=[(false,eval e (dU L))]) rf)
  (hfew:autoParam (((backTo p4 (starEach [e] (dU L))).all (fun x=>!x.1)&&(backToKw p4 (keywordEach [] (dU L))).all (fun x=>x.1.isSome)
   &&decide ([e].length+([]:List Keyword).length+(if([]:List Keyword).isEmpty then 0 else 1)<30))=true) rf)(hline:autoParam ((p3.endLine==p4.line)=true) rf):
  WP prog w A (exec (.Assign [.Name AI p1] (.Call (.Attribute (.Name (aA "Pair") p2) (aA "parse") p3) [e] [] p4) p5) (dU L)) Q E s:=by
 refine .mk<|i7 ?_ hs
 refine oQ rfl hfew hline ((kH (x:=aA "Pair") (v:=.ref 221) kw).run F.bd fun v s₁ k₁ hv=>?_)
 cases (hv:v= .ref 221)
 intro pl
 have F₁:=F.keep k₁
 have kw₁:=kw.nx (gM.of_keeps (X:=X) k₁).nx
 have kin₁:(kz w).In s₁.heap:=kw₁.k.keeps fun j j e=>a6 _ e
 have x2₁:S2 w s₁.heap:=x2.at fun o=>(dA k₁).o2 F.bd.two.two o
 refine D2 kin₁ x2₁ fun mm s₂ k₂ nm₂ em=>?_
 have k₂':Keeps V s₁ s₂:=h9 k₂
 have F₂:=F₁.keep k₂'
 have kw₂:=kw₁.nx (gM.of_keeps (X:=X) k₂').nx
 have mV:mm∉V:=fun q=>m0 F₁.bd nm₂ (aL _ q)
 refine aM hst ?_
 refine wX (f:=215) (self:=.ref 221) ((he.lift (gM.of_keeps (aN k₁ k₂'))).run F₂.bd fun v s₃ k₃ hv=>?_)
 (refine bK (Is.of_str hv) fun t e_0=>?_;subst e_0)
 have kw₃:=kw₂.nx (gM.of_keeps (X:=X) k₃).nx
 have kin₃:(kz w).In s₃.heap:=kw₃.k.keeps fun j j e=>a6 _ e
 have x2₃:S2 w s₃.heap:=(x2₁.at fun o=>(dA k₂').o2 F.bd.two.two o).at fun o=>(dA k₃).o2 F.bd.two.two o
 have F₃:=F₂.keep k₃
 refine⟨a7 k₃ _ _ mV em,⟨_,_,kin₃ 215 _ (by rfl),rfl⟩,?_⟩
 refine EE (V:=V) (X:=X) (mg:=mg) (mb:=mb) (n:=n+2) kw₃ (R.less (by simp+arith only[])) F₃.bd x2₃ T.cut T.l1 T.l2 T.l3 fun s₄ pp dd t1 t2 k₄ e1 e2 n1 n2=>?_
 have F₄:=F₃.keep k₄
 have nd1:pp∉V++X:=m0 F₃.bd n1
 have nd2:dd∉V++X:=m0 F₃.bd n2
 rw[T.hnm,T.hvt]at e1
 refine F₄.store (x:=AI) (v:=.ref pp) rfl (.inl rfl) fun s₅ F₅ mu₅=>?_
 have nx₅:Nx V X s₄ X s₅:=F₄.nx mu₅
 have P₄:EM V X s₄.heap pp (.str nm t1) (.str vt t2):=⟨dd,b5 _ e1 nd1,b5 _ e2 nd2⟩
 have kall:=aN k₁ (aN k₂' (aN k₃ k₄))
 exact hq pp t1 t2 s₅ F₅ ((Mu.of_keeps kall).trans mu₅) (P₄.nx nx₅)
end
section
variable {M:List Addr} {S:iD} {b:Bk}
theorem xQ{value slice:Expr}{a:Addr}{i:aG}{ox:Obj}{od:Option Obj}{Q:aG→aH→Prop}(kin:(kz w).In s.heap)(I:InstAt s.heap a ox 126 od)(hs:subscripted slice false (.ref a) i=operate [.ref a,i] (getItem (.ref a) i))
  (h:wpAny (model prog w) A (getItem (.ref a) i) Q E s):wpAny (model prog w) A (PyProof.Rows.subscriptTail value slice (.ref a) i) Q E s:=by
 obtain⟨hh,g,d,t,os⟩:=s
 have L0:=I.type (M:=model prog w)
 have L1:=dW (M:=model prog w) kin (HY w)
 refine aB (aB (aB (L0.at (L1.at ?_))))
 refine aE ?_
 refine aM hs ?_
 exact aB (PyProof.Rows.wpAny_operate' (bD h (fun r s' hr=>aB (nK (aE hr))) fun z z x=>x))
theorem uC.after(k:Keeps V s s')(t:rW V s.heap)(x:uC V M X s' X' s''):uC V M X s X' s'':=
 ⟨(Mu.of_keeps k).trans x.mu,x.inc,fun c hc hV=>(x.new c hc hV).imp id fun e=>fQ k t e,x.bd⟩
theorem HU{h:Heap}(F:Foc prog w V X h S b):∃ox od,InstAt h b.a ox 126 od:=by
 refine fO F.bk.bk fun es ep e z=>?_
 refine fO F.bk.dc fun de dn e' z=>?_
 exact⟨_,some (dictOf de dn),⟨e,rfl,rfl,e'⟩⟩
theorem GL{h:Heap}(I:eG prog w V X h S):∃ox od,InstAt h S.a ox 126 od:=by
 refine fO I.bk fun es ep e z=>?_
 refine fO I.dc fun de dn e' z=>?_
 exact⟨_,some (dictOf de dn),⟨e,rfl,rfl,e'⟩⟩
theorem Ce{p1 p2 p3 p4:Pos}{nm:Str}{t1:Tok}{y:aG}{pp:Addr}{n:Nat}{Q:aG→aH→Prop}{L:Addr}(po:sF prog)(hb:Bd V X s)(kw:KW V (kz w) mg mb X s.heap)(R:dK A (n+9))(x2:S2 w s.heap)(I:eG prog w V X s.heap S)(hz:S.bks.length≤1000)
  (hix:fR V (dU L) s.heap (aA "index") (.ref S.a))(hpr:fR V (dU L) s.heap AI (.ref pp))(P:EM V X s.heap pp (.str nm t1) y)
  (q:∀b S' X' s',uC V [S.a] X s X' s'→Foc prog w V X' s'.heap S' b→rS S nm S' b→(∀c∈b.adrs,c∈S.adrs∨s.heap.get? c=none)→Q (.ref b.a) s'):
  wpAny (model prog w) A (eval (.Subscript (.Name (aA "index") p1) (.Attribute (.Name AI p2) (aA "name") p3) p4) (dU L)) Q E s:=by
 refine qZ ((eQ (V:=V) (X:=X) hix rfl).run hb fun v s₁ k₁ hv=>?_)
 cases (hv:v= .ref S.a)
 have kw₁:=kw.nx (gM.of_keeps (X:=X) k₁).nx
 refine bK (C8 w) fun od G=>?_
 refine Ee (V:=V) (X:=X) (mg:=mg) (mb:=mb) (n:=n+4) G (by decide) (Ga w) kw₁ R (hb.keeps k₁) (x2.at fun o=>(dA k₁).o2 hb.two.two o) (P.nx (gM.of_keeps k₁).nx) (v:=.str nm t1) rfl rfl (hpr.keep (dA k₁)) rfl rfl fun s₂ k₂=>?_
 have k₁₂:=aN k₁ k₂
 have kw₂:=kw.nx (gM.of_keeps (X:=X) k₁₂).nx
 have kin₂:(kz w).In s₂.heap:=kw₂.k.keeps fun z z e=>a6 _ e
 have I₂:=I.keep k₁₂
 refine oL (GL I₂) fun ox od' hI=>?_
 refine xQ kin₂ hI rfl ?_
 refine Fk (V:=V) (X:=X) (mg:=mg) (mb:=mb) (n:=n) po kw₂ R (hb.keeps k₁₂) (x2.at fun o=>(dA k₁₂).o2 hb.two.two o) I₂ hz fun b S' X' s' st F g fr=>?_
 exact q b S' X' s' (st.after k₁₂ hb.two) F g fun c hc=>(fr c hc).imp id fun e=>fQ k₁₂ hb.two e
end
section
variable {M N:List Addr} {S:iD} {b:Bk} {a d:Addr}
theorem wP{pl:Sem Bool}{Q:aG×List aG→aH→Prop}(kin:(kz w).In s.heap)(ha:s.heap.get? a=some (fY d es ep fac))(hd:Dc s.heap d fz)(q:Q (.ref 123,[.ref a]) s):
  wpAny (model prog w) A (getMethod (.ref a) (aA "freeze") pl) Q E s:=by
 refine fO hd fun de dn hde hfz=>?_
 have I:InstAt s.heap a (fY d es ep fac) 126 (some (dictOf de dn)):=⟨ha,rfl,rfl,hde⟩
 refine Dw kin I (Fp w) (L6 w) ?_ q
 refine(?_:(lookIn (aA "freeze") (dictOf de dn)).map (·.isSome)=some false)
 refine aM (vH hfz (by decide+kernel)) ?_
 rfl
theorem sY{pos:Pos}{Q:aG→aH→Prop}{env:Env}(kin:(kz w).In s.heap)(h:wpAny (model prog w) A (call (.ref 123) [.ref a]) Q E s):wpAny (model prog w) A (callWith pos (.ref 123) [.ref a] (backTo pos (starEach [] env)) []) Q E s:=
 callWith_function (evalArgs_nil3 ⟨⟨kin 123 _ (by rfl),rfl⟩,h⟩)
theorem iC{c:Addr}(k:Keeps V g s)(t:rW V s.heap)(e:s.heap.get? c=none):g.heap.get? c=none:=by
 cases q:g.heap.get? c with
 |none=>rfl
 |some o=>replace e:=(a7 k c o (t.ne e) q)▸e;cases e
theorem fU.stp(F:fU V g env X s m cm)(st:uC V N X s X' s')(hN:∀b∈N,b∈X∧g.heap.get? b=none∧b≠env.locals)(hc:env.cells=[]):fU V g env X' s' m cm:=by
 have al:∀b∈N,∃o,s'.heap.get? b=some o:=fun b hb=>st.bd.al b (st.inc b (hN b hb).1)
 exact(F.muM st.mu (fun b hb=>(hN b hb).2.1) (fun q=>(hN _ q).2.2 rfl) (fun n c e=>by replace e:=hc▸e;cases e) al).grow st.inc st.bd.al
theorem Gp{L:Addr}(x:Mu (L::V) M s s')(h:s.heap.get? L=none)(t:rW V s.heap→rW V s'.heap):Mu V M s s':=by
 refine fO x fun h' tk e K=>?_
 refine⟨h',tk,e,fun b o hb hm eb=>K.old b o (fun q=>?_) hm eb,fun t0=>?_,fun L' hL h2 hm m n=>K.ns L' (aC _ hL) h2 hm m n,fun h2 o eo=>K.o2 (aC _ h2) o eo⟩
 ·rcases nR q with rfl|q
  ·replace eb:=h▸eb;cases eb
  ·exact hb q
 ·have:=t t0;rw[e]at this;exact this
theorem uC.s2(st:uC V M X s X' s')(t:rW V s.heap)(x:S2 w s.heap):S2 w s'.heap:=x.at fun o=>st.mu.k.o2 t.two o
theorem uC.keep_get(st:uC V M X s X' s'){c:Addr}(hV:c∉V)(hM:c∉M){o:Obj}(e:s.heap.get? c=some o):s'.heap.get? c=some o:=st.mu.k.old c o hV hM e
theorem uC.trans{M':List Addr}(x:uC V M X s X' s')(y:uC V M' X' s' X'' s'')(hM:∀b∈M',b∈M∨s.heap.get? b=none)(t:rW V s.heap)(hX:∀b∈M,b∈X):uC V M X s X'' s'':=by
 refine⟨?_,fun c hc=>y.inc _ (x.inc c hc),fun c hc hV=>?_,y.bd⟩
 ·(refine fO x.mu fun h1 t1 e_0=>?_;subst e_0;refine fun K1=>?_)
  (refine fO y.mu fun h2 t2 e_0=>?_;subst e_0;refine fun K2=>?_)
  refine⟨h2,t2,rfl,fun b o hb hm e=>K2.old b o hb (fun q=>?_) (K1.old b o hb hm e),fun t0=>K2.two (K1.two t0),fun L hL h2' hm m n=>K2.ns L hL h2' (fun q=>?_) m (K1.ns L hL h2' hm m n),fun h2' o e=>K2.o2 h2' o (K1.o2 h2' o e)⟩
  ·rcases hM b q with q|q
   ·exact hm q
   ·replace e:=q▸e;cases e
  ·rcases hM L q with q|q
   ·exact hm q
   ·refine s9 n fun o z z e z=>?_;replace e:=q▸e;cases e
 ·rcases y.new c hc hV with q|q
  ·exact x.new c q hV
  ·by_cases hm:c∈M
   ·exact .inl (hX c hm)
   ·refine .inr ?_
    cases e:s.heap.get? c with
    |none=>rfl
    |some o=>replace q:=(x.mu.k.old c o hV hm e)▸q;cases q
end
theorem H9:∀(rs:List fB) (k:Nat),(jV rs)[1+2*k]?=(rs[k]?).map fB.data
 |[],k=>by simp[jV]
 |r::rs,0=>by simp[jV,tT]
 |r::rs,k+1=>by
  have:=H9 rs k
  have e:1+2*(k+1)=(1+2*k)+2:=by simp+arith only[]
  refine aM e ?_
  refine(?_:(tT r++jV rs)[(1+2*k)+2]?=_)
  rw[List.getElem?_append_right (by simp[tT])]
  simpa[tT]using this
theorem KD(m:Nat):sliceRange (sliceBounds (some 1) none (some 2) (2*m)).1 (sliceBounds (some 1) none (some 2) (2*m)).2.1 (sliceBounds (some 1) none (some 2) (2*m)).2.2=(bI m).map fun k=>1+2*k:=by
 have hb:sliceBounds (some 1) none (some 2) (2*m)=(max 0 (min 1 (((2*m:Nat)):Int)),(((2*m:Nat)):Int),2):=by
  rfl
 refine aM hb ?_
 unfold sliceRange
 dsimp only
 rcases Nat.eq_zero_or_pos m with rfl|hm
 ·rfl
 ·have e1:max 0 (min 1 (((2*m:Nat)):Int))=1:=(Int.max_eq_right (Int.le_min.mpr ⟨by decide,cD _⟩)).trans (Int.min_eq_left (Int.ofNat_le.mpr (aD hm (Nat.le_mul_of_pos_left m (by decide)))))
  refine aM e1 ?_
  have e2:(if(2:Int)>0 then(if(1:Int)<(((2*m:Nat)):Int)then((((2*m:Nat)):Int)-1+2-1)/2 else 0)else(if(1:Int)>(((2*m:Nat)):Int)then(1-(((2*m:Nat)):Int)-2-1)/(-2)else 0))=(m:Int):=by
   refine aM (if_pos (by decide)) (aM (if_pos (Int.ofNat_lt.mpr (aO (by decide:1<2*1) (i6 2 hm)))) ?_)
   lia
  refine aM e2 ?_
  apply cF
  intro k _
  (push_cast;rfl)
theorem HV(rs:List fB):(bI rs.length).filterMap (fun k=>(rs[k]?).map fB.data)=rs.map fB.data:=by
 have h:=sV (rs.map fB.data) rs.length
 rw[k9 (by simp)]at h
 have e:(fun k=>(rs[k]?).map fB.data)=fun k=>(rs.map fB.data)[k]?:=funext fun k=>(cQ).symm
 refine aM e ?_;exact h
theorem H7(rs:List fB):t5 (jV rs) (some 1) none (some 2)=rs.map fB.data:=by
 unfold t5
 (rewrite[H8,KD];refine aM List.filterMap_map ?_)
 have e:(fun x=>(jV rs)[x]?)∘(fun k=>1+2*k)=fun k=>(rs[k]?).map fB.data:=funext (H9 rs)
 refine aM e ?_;exact HV rs
section
variable {S:iD} {b:Bk} {z:zI} {p1 p2:List zI} {pl':List Int}
theorem JJ(Fo:Foc prog w V X h S b)(e:b.sh=p1++z::p2)(k:∀c,c≠z.l→c∉V→∀o,h.get? c=some o→h'.get? c=some o)
  (hh:∀c o,(hideAll h (V++X)).get? c=some o→(hideAll h' (V++X)).get? c=some o)(sh':wZ h' ⟨z.key,z.l,pl'⟩):
  ∃S',Foc prog w V X h' S' ⟨b.name,b.a,b.d,b.fz,p1++⟨z.key,z.l,pl'⟩::p2⟩∧Cw S b ⟨b.name,b.a,b.d,b.fz,p1++⟨z.key,z.l,pl'⟩::p2⟩ S':=by
 have B:=Fo.bk
 have hadr:(⟨b.name,b.a,b.d,b.fz,p1++⟨z.key,z.l,pl'⟩::p2⟩:Bk).adrs=b.adrs:=by unfold Bk.adrs;refine aM e ?_;simp
 have hkv:(⟨b.name,b.a,b.d,b.fz,p1++⟨z.key,z.l,pl'⟩::p2⟩:Bk).kvs=b.kvs:=by unfold Bk.kvs;refine aM e ?_;simp
 have zb:z∈b.sh:=by refine aM e ?_;simp
 have zm:z.l∈b.adrs:=aC _ (aC _ (bQ zb))
 have nd:=B.nd
 unfold Bk.adrs at nd
 rw[gK,gK,e]at nd
 refine jM nd fun n1 n2 n3=>?_
 have hal:b.a≠z.l:=fun q=>n1 (by refine aM q ?_;simp)
 have hdl:b.d≠z.l:=fun q=>n2 (by refine aM q ?_;simp)
 rw[bB,bT,cZ,gK]at n3
 (refine jM n3 fun m1 q_1 m4=>?_;refine gE q_1 fun m2 m3=>?_)
 have B':mL prog w V X h' ⟨b.name,b.a,b.d,b.fz,p1++⟨z.key,z.l,pl'⟩::p2⟩:=by
  refine⟨?_,B.dc.at (k _ hdl (B.nV _ (aC _ aF))),fun v ev=>bG (B.fz v ev) fun f a c=>⟨f,a,c.keeps hh⟩,fun y hy=>?_,by refine aM hadr ?_;exact B.xa,by refine aM hadr ?_;exact B.nV,B.ns,by refine aM hadr ?_;exact B.nd⟩
  ·refine aM hkv ?_;exact B.bk.at (k _ hal (B.nV _ aF))
  ·have old:∀y∈b.sh,y.l≠z.l→wZ h' y:=fun y hy hn=>(B.sh y hy).at (k _ hn (B.nV _ (aC _ (aC _ (bQ hy)))))
   rcases eX hy with hy|hy
   ·exact old y (by refine aM e ?_;exact aL _ hy) fun q=>m4 _ (bQ hy) _ aF q
   ·rcases nR hy with rfl|hy
    ·exact sh'
    ·exact old y (by refine aM e ?_;exact aJ _ (aC _ hy)) fun q=>m2 (q▸bQ hy)
 have T:GB V X h':=by
  have k8:∀o,h.get? 118=some o→h'.get? 118=some o:=fun o eo=>k 118 (fun q=>Fo.n118 (q▸zm)) Fo.sto.tV o eo
  rcases Fo.sto.t with eo|⟨c,eo,y⟩
  ·exact .inl (k8 _ eo)
  ·exact .inr ⟨c,k8 _ eo,y.keeps hh⟩
 exact Fo.upd rfl rfl (fun c hc=>.inl (by rw[hadr]at hc;exact hc)) (fun c hc hV j o eo=>k c (fun q=>hc (q▸zm)) hV o eo) hh (fun j h=>h) T B'
end
inductive Cv (S:iD) (b:Bk) (z:zI) (i:Int):iD→Prop
 |stored {p1 p2:List zI} {S':iD} (e:b.sh=p1++z::p2) (p:Cw S b ⟨b.name,b.a,b.d,b.fz,p1++⟨z.key,z.l,z.pl++[i]⟩::p2⟩ S'):Cv S b z i S'
 |loose (h:z∉b.sh):Cv S b z i S
inductive pU (S:iD) (x i:Int) (nm key:Str):iD→Option (List Int)→Prop
 |shut (f:Addr) (h:x.fmod 8=6):pU S x i nm key ⟨S.a,S.d,some (.ref f),S.fac,S.bks⟩ none
 |shutB (h:x.fmod 8=5) {S₁ S':iD} {b:Bk} {f:Addr} (g:rS S nm S₁ b) (p:Cw S₁ b ⟨b.name,b.a,b.d,some (.ref f),b.sh⟩ S'):pU S x i nm key S' none
 |peek (h:x.fmod 8=4) {S₁ S₂:iD} {b b₂:Bk} {z:zI} (g:rS S nm S₁ b) (g2:tX S₁ b key S₂ b₂ z):pU S x i nm key S₂ (some z.pl)
 |add (h4:x.fmod 8≠4) (h5:x.fmod 8≠5) (h6:x.fmod 8≠6) {S₁ S₂ S':iD} {b b₂:Bk} {z:zI} (g:rS S nm S₁ b) (g2:tX S₁ b key S₂ b₂ z) (ap:Cv S₂ b₂ z i S'):pU S x i nm key S' (some z.pl)
noncomputable def Hz(V X:List Addr)(h:Heap)(v:aG):Option (List Int)→Prop
 |none=>v= .none
 |some l=>Is V X h v (.list (l.map .int))
section
variable {P:Addr→Prop} {S S' S₁:iD} {b b':Bk} {k:Str} {z:zI}
theorem rS.al(g:rS S nm S₁ b)(hS:∀c∈S.adrs,P c)(hb:∀c∈b.adrs,P c):∀c∈S₁.adrs,P c:=by
 cases g with
 |there b h hn=>exact hS
 |made a d no fz=>
  intro c hc
  simp only[iD.adrs,i4,gG,List.flatMap_nil,fC,bL,b8]at hc
  rcases hc with rfl|rfl|hc|hc
  ·exact hS _ aF
  ·exact hS _ (aC _ aF)
  ·exact hS _ (aC _ (aC _ hc))
  ·exact hb c hc
 |tmp a d no fz=>exact hS
theorem Cw.al(p:Cw S b b' S')(hS:∀c∈S.adrs,P c)(hb:∀c∈b'.adrs,P c):∀c∈S'.adrs,P c:=by
 cases p with
 |stored=>
  intro c hc
  simp only[iD.adrs,i4,gG,bL,b8]at hc hS
  rcases hc with h|h|h|h|h
  ·exact hS _ (.inl h)
  ·exact hS _ (.inr (.inl h))
  ·exact hS _ (.inr (.inr (.inl h)))
  ·exact hb c h
  ·exact hS _ (.inr (.inr (.inr (.inr h))))
 |loose n=>exact hS
theorem GA(hb:∀c∈b.adrs,P c)(hz:P z.l):∀c∈(⟨b.name,b.a,b.d,b.fz,b.sh++[z]⟩:Bk).adrs,P c:=by
 intro c hc
 simp only[Bk.adrs,bB,bT,lA,bL,b8,bR,or_false]at hc hb
 rcases hc with h|h|h|h
 ·exact hb c (.inl h)
 ·exact hb c (.inr (.inl h))
 ·exact hb c (.inr (.inr h))
 ·exact h▸hz
theorem tX.al(g:tX S b k S' b' z)(hS:∀c∈S.adrs,P c)(hb:∀c∈b.adrs,P c)(hz:P z.l):(∀c∈S'.adrs,P c)∧∀c∈b'.adrs,P c:=by
 cases g with
 |there z h hn=>exact⟨hS,hb⟩
 |made l no fz S' p=>
  have e:=GA (z:=⟨k,l,[]⟩) hb hz
  exact⟨p.al hS e,e⟩
 |tmp l no fz=>exact⟨hS,hb⟩
theorem Cv.al(g:Cv S b z i S')(hS:∀c∈S.adrs,P c)(hb:∀c∈b.adrs,P c):∀c∈S'.adrs,P c:=by
 cases g with
 |stored e p=>
  refine p.al hS fun c hc=>hb c ?_
  simpa[Bk.adrs,e]using hc
 |loose h=>exact hS
end
section
variable {S:iD}
theorem wQ{V' X':List Addr}{h h':Heap}:∀{vs:List aG} {pl:List Int},cA V' X' h vs (pl.map .int)→cA [] [] h' vs (pl.map .int)
 |[],[],_=>.nil
 |[],_::_,x=>by have:=x.length;nomatch this
 |_::_,[],x=>by have:=x.length;simp at this
 |v::vs,i::pl,x=>by
  refine mF (cA.of_cons x) fun v' vs' e hv hx=>?_
  cases e
  (refine bK (Is.of_int hv) fun t e_0=>?_;subst e_0)
  exact .cons (.int i t) (wQ hx)
theorem Foc.keep{h h':aH}{b:Bk}(F:Foc prog w V X h.heap S b)(k:Keeps V h h'):Foc prog w V X h'.heap S b:=by
 cases F with
 |stored I=>exact .stored (I.keep k)
 |loose I B n n8=>exact .loose (I.keep k) (B.keep k) n n8
theorem Foc.at2{h h':Heap}{b:Bk}(F:Foc prog w V X h S b)(f:∀S',eG prog w V X h S'→eG prog w V X h' S')(g:∀b',mL prog w V X h b'→mL prog w V X h' b'):Foc prog w V X h' S b:=by
 cases F with
 |stored I=>exact .stored (f _ I)
 |loose I B n n8=>exact .loose (f _ I) (g _ B) n n8
theorem rS.le{S₁:iD}{b:Bk}{nm:Str}(g:rS S nm S₁ b)(h2:∀b∈S.bks,b.sh.length≤900)(h3:∀b∈S.bks,∀z∈b.sh,z.pl.length≤900):b.sh.length≤900∧∀z∈b.sh,z.pl.length≤900:=by
 cases g with
 |there b h hn=>exact⟨h2 b h,h3 b h⟩
 |made a d no fz=>exact⟨bX _,fun z hz=>nomatch hz⟩
 |tmp a d no fz=>exact⟨bX _,fun z hz=>nomatch hz⟩
theorem tX.le{S₂:iD}{b b₂:Bk}{k:Str}{z:zI}(g:tX S b k S₂ b₂ z)(h:∀z∈b.sh,z.pl.length≤900):z.pl.length≤900:=by
 cases g with
 |there z h' hn=>exact h z h'
 |made l no fz S' p=>exact bX _
 |tmp l no fz=>exact bX _
theorem tX.out{S₂:iD}{b b₂:Bk}{k:Str}{z:zI}(g:tX S b k S₂ b₂ z)(hm:z∉b₂.sh):S₂=S∧z∉b.sh:=by
 cases g with
 |there z h hn=>exact absurd h hm
 |made l no fz S' p=>exact absurd (by simp) hm
 |tmp l no fz=>exact⟨rfl,fun q=>absurd rfl (no _ q)⟩
set_option maxHeartbeats 1000000 in
theorem JP{x i:Int}{t1 t2:Tok}{nm vt p q:Str}{n:Nat}{fr:List Env}{Q:aG→aH→Prop}(po:sF prog)(kw:KW V (kz w) mg mb X u.heap)(R:dK A (n+20))(hfr:A.frames=some fr)(fv:Cu V fr)(hb:Bd V X u)(x2:S2 w u.heap)
  (bm:Bm mg (hideAll u.heap (V++X)))(I:eG prog w V X u.heap S)(T:sR x nm vt p q)(hz:S.bks.length≤900)(hz2:∀b∈S.bks,b.sh.length≤900)(hz3:∀b∈S.bks,∀z∈b.sh,z.pl.length≤900)
  (hq:∀v s' X' S' told,uC V (118::S.adrs) X u X' s'→eG prog w V X' s'.heap S'→pU S x i nm (keyOf (fE vt.cps.toList)) S' told→Hz V X' s'.heap v told→(∀c∈S'.adrs,c∈S.adrs∨u.heap.get? c=none)→Q v s'):
  WC prog w A (call (.ref 234) [.ref S.a,.int i t1,.int x t2]) Q E u:=by
 refine Cy dU kw R hb (ho:=rfl) (by rfl) (by rfl) (binds:=[("index",.ref S.a),("place",.int i t1),("x",.int x t2)]) (by rfl) (by rfl) ?_ (fun L=>rfl) ?_
 ·intro L y hy
  simp only[bL,bR,or_false]at hy
  rcases hy with rfl|rfl|rfl<;>exact .inl rfl
 intro L s₁ hL k₁ nx F
 have h118:∃o,u.heap.get? 118=some o:=by rcases I.t with e|⟨_,e,_⟩<;>exact⟨_,e⟩
 have Mal:∀c∈(118::S.adrs),∃o,u.heap.get? c=some o:=fun c hc=>(nR hc).elim (fun q=>q▸h118) (I.al c)
 have MX:∀c∈(118::S.adrs),c∈X:=fun c hc=>(nR hc).elim (fun q=>q▸I.tx) (I.xa c)
 have ML:∀c∈(118::S.adrs),c≠L:=fun c hc q=>by refine bK (Mal c hc) fun o e=>?_;replace e:=q▸e;exact absurd (hL.symm.trans e) (by simp)
 have MV:∀c∈(118::S.adrs),c∉(L::V):=fun c hc q=>(nR q).elim (ML c hc) ((nR hc).elim (fun q=>q▸I.tV) (I.nV c))
 have Fg:=F.ghost MV
 have inV:∀a,a∈(L::V)++kD (dU L) X→a∈V++kD (dU L) X:=fun a h=>by
  rcases eX h with h|h
  ·rcases r4 h with rfl|h
   ·exact aJ _ aF
   ·exact aL _ h
  ·exact aJ _ h
 have kw₁:KW (L::V) (kz w) mg mb (kD (dU L) X) s₁.heap:=(kw.nx nx).toV inV
 have incf:∀a∈X,a∈kD (dU L) X:=fun a h=>aJ _ h
 have I₁:eG prog w (L::V) (kD (dU L) X) s₁.heap S:=(I.wle ⟨k₁,incf,nx.new⟩).toV aF (fun q=>ML L (aC _ q) rfl) fun q=>ML 118 aF q.symm
 have x2₁:S2 w s₁.heap:=x2.at fun o=>(dA k₁).o2 hb.two.two o
 have bm₁:Bm mg (hideAll s₁.heap ((L::V)++kD (dU L) X)):=bm.keeps fun c o e=>tO aF _ _ (cS nx _ _ e)
 have R₁:dK (A.deeper (dU L)) (n+19):=R.deeper _
 have hfr':(A.deeper (dU L)).frames=some (dU L::fr):=by simp only[Around.deeper,hfr];rfl
 have fv':Cu (L::V) (dU L::fr):=yV fv (fun h=>by cases h) rfl F.l2
 have fin:∀v s' X' S' told m' cm',fU (L::V) (ghost u (118::S.adrs)) (dU L) X' s' m' cm'→(∀a∈kD (dU L) X,a∈X')→(∀a∈X',a∉V→a∈X∨u.heap.get? a=none)→eG prog w (L::V) X' s'.heap S'→
   pU S x i nm (keyOf (fE vt.cps.toList)) S' told→Hz (L::V) X' s'.heap v told→(∀c∈S'.adrs,(ghost u (118::S.adrs)).heap.get? c=none)→Q v s':=fun v s' X' S' told m' cm' F' inc new I' D hT hA=>by
  have two':rW V s'.heap:=F'.bd.two.tail hb.two.two
  refine hq v s' X' S' told ⟨Gp (wO F'.keeps MV) hL fun j=>two',fun a h=>inc a (incf a h),new,⟨F'.bd.al,two'⟩⟩ I'.unV D ?_ fun c hc=>?_
  rotate_left
  ·by_cases hm:c∈(118::S.adrs)
   ·rcases nR hm with q|q
    ·exact absurd (q▸hc) I'.tn
    ·exact .inl q
   ·refine .inr ?_
    cases e:u.heap.get? c with
    |none=>rfl
    |some o=>exact absurd (hA c hc) (by refine aM (show(ghost u (118::S.adrs)).heap.get? c=some o from b5 _ e hm) ?_;simp)
  cases told with
  |none=>exact hT
  |some l=>
   refine(show Is (L::V) X' s'.heap v (.list (l.map .int))from hT).toV fun a h=>?_
   rcases eX h with h|h
   ·exact aL _ (aC _ h)
   ·exact aJ _ h
 have new₁:∀a∈kD (dU L) X,a∉V→a∈X∨u.heap.get? a=none:=nx.new
 have hx₁:Is (L::V) (kD (dU L) X) s₁.heap (.int x t2) (.int x):=Is.int _ _
 refine m8 (GO (n:=n) Fg kw₁ (R₁.less (by simp+arith only[])) x2₁ T ?_ fun pp t3 t4 s₂ F₂ mu₂ P₂=>⟨rfl,?_⟩)
 ·have hk0:0≤(x.fdiv 8).fmod 3:=fA _ (by decide)
  have hk3:(x.fdiv 8).fmod 3<3:=jJ _ (by decide)
  have hl:=T.l1
  rw[PySem.strLen_append]at hl
  refine x8 (x:=Bu x) (y:=j3 x) ?_ ?_ (by refine aM bV ?_;exact aD (by assumption) (by decide))
  ·refine lI (ds:=[.str (aA "a="),.str (aA " b ="),.str (aA "c = ")]) (k:=(x.fdiv 8).fmod 3) (fG (aT (gO _) (aT (gO _) (aT (gO _) bF))) rfl (by decide+kernel)) (uR (tF (aX (Fg.loc (x:=aA "x") rfl) hx₁) (eE 8) (by decide) (by decide)) (eE 3) (by decide)) hk0 (Int.lt_of_lt_of_le (jJ _ (by decide)) (by decide)) ?_
   unfold Bu
   obtain⟨k,hk⟩:∃k:Nat,(x.fdiv 8).fmod 3=k:=⟨((x.fdiv 8).fmod 3).toNat,(nN (fA _ (by decide))).symm⟩
   refine aM hk ?_
   have:k<3:=Int.ofNat_lt.mp (hk▸hk3)
   refine Lr this ?_ ?_ ?_<;>rfl
  ·refine lQ (kH (v:=.ref 229) kw₁) (kw₁.nV rfl) (kw₁.get rfl) rfl (aT (aX (Fg.loc (x:=aA "x") rfl) hx₁) bF) fun Y y vs hy hb hvs=>?_
   (refine bG (mN hvs) fun v1 e_0=>?_;subst e_0;refine fun h1=>?_)
   exact yW (n:=n) (kw₁.nx hy.nx) (R₁.less (by simp+arith only[])) h1
 have istep:∀{X':List Addr} {sa sb:aH} {S':iD} {m' cm':Str→Option aG},fU (L::V) (ghost u (118::S.adrs)) (dU L) X' sa m' cm'→Mu (L::V) (nB (dU L)) sa sb→eG prog w (L::V) X' sa.heap S'→eG prog w (L::V) X' sb.heap S':=fun{X' sa sb S' m' cm'} F' mu' I'=>by
  have nf:∀c,c∉(L::V)→c∉nB (dU L):=fun c hc q=>by
   have:c=L:=by simpa[nB,pY,dU]using q
   exact hc (this▸aF)
  exact I'.at (fun c hc o e=>mu'.k.old c o (I'.nV c hc) (nf c (I'.nV c hc)) e) (fun o e=>mu'.k.old _ o I'.tV (nf _ I'.tV) e) (cS (F'.nx mu')) fun j h=>h
 have two2:2∈L::V:=aC _ hb.two.two
 have kw₂:=kw₁.nx (Fg.nx mu₂)
 have I₂:=istep Fg mu₂ I₁
 have x2₂:S2 w s₂.heap:=x2₁.at fun o=>mu₂.k.o2 two2 o
 have bm₂:=bm₁.keeps (cS (Fg.nx mu₂))
 have hx₂:Is (L::V) (kD (dU L) X) s₂.heap (.int x t2) (.int x):=Is.int _ _
 refine jR (EP ((AL (a:=x.fmod 8) (b:=6) (uR (aX (F₂.loc (x:=aA "x") rfl) hx₂) (eE 8) (by decide)) (eE 6)).run F₂.bd fun c6 s₃ k₃ hc6=>⟨fun e6=>?_,fun e6=>?_⟩))
 ·cases (hc6:c6=(x.fmod 8==6))
  have h6:x.fmod 8=6:=by simpa using e6
  have F₃:=F₂.keep k₃
  have kw₃:=kw₂.nx (gM.of_keeps (X:=kD (dU L) X) k₃).nx
  have I₃:=I₂.keep k₃
  have bm₃:=bm₂.keeps (cS (gM.of_keeps (X:=kD (dU L) X) k₃).nx)
  refine .any (dQ (kE (oQ rfl rfl rfl ((eQ (F₃.loc (x:=aA "index") (v:=.ref S.a) rfl)).run F₃.bd fun v s₄ k₄ hv=>?_))))
  cases (hv:v= .ref S.a)
  intro pl
  have F₄:=F₃.keep k₄
  have kw₄:=kw₃.nx (gM.of_keeps (X:=kD (dU L) X) k₄).nx
  have I₄:=I₃.keep k₄
  have bm₄:=bm₃.keeps (cS (gM.of_keeps (X:=kD (dU L) X) k₄).nx)
  have kin₄:(kz w).In s₄.heap:=kw₄.k.keeps fun j j e=>a6 _ e
  refine fO (id I₄.bk) fun es ep ho j=>?_
  refine wP kin₄ ho I₄.dc (sY kin₄ (BH (n:=n) kw₄ (R₁.less (by simp+arith only[])) F₄.bd bm₄ I₄ fun s₅ f mu₅ I₅=>?_))
  have hN:∀c∈[S.d,118],c∈118::S.adrs:=fun c hc=>by
   simp only[bL,bR,or_false]at hc
   rcases hc with rfl|rfl
   ·exact aC _ (aC _ aF)
   ·exact aF
  have bd₅:=mu₅.bd' F₄.bd fun c hc=>by
   refine bK (I₅.al S.d (aC _ aF)) fun o e=>?_
   have e8:∃o,s₅.heap.get? 118=some o:=by rcases I₅.t with e|⟨_,e,_⟩<;>exact⟨_,e⟩
   simp only[bL,bR,or_false]at hc
   rcases hc with rfl|rfl
   ·exact⟨o,e⟩
   ·exact e8
  have st₅:uC (L::V) [S.d,118] (kD (dU L) X) s₄ (kD (dU L) X) s₅:=⟨mu₅,fun j h=>h,fun j h j=>.inl h,bd₅⟩
  have F₅:=F₄.stp st₅ (fun c hc=>⟨incf c (MX c (hN c hc)),lW (hN c hc),ML c (hN c hc)⟩) rfl
  exact fin .none s₅ _ _ none _ _ F₅ (fun j h=>h) new₁ I₅ (.shut f h6) rfl fun c hc=>lW (aC _ hc)
 cases (hc6:c6=(x.fmod 8==6))
 have h6:x.fmod 8≠6:=by simpa using e6
 refine jN ?_
 have F₃:=F₂.keep k₃
 have nx₃:=(gM.of_keeps (X:=kD (dU L) X) k₃).nx
 have kw₃:=kw₂.nx nx₃
 have I₃:=I₂.keep k₃
 have bm₃:=bm₂.keeps (cS nx₃)
 have x2₃:S2 w s₃.heap:=x2₂.at fun o=>(dA k₃).o2 two2 o
 have P₃:=P₂.nx nx₃
 have hx₃:Is (L::V) (kD (dU L) X) s₃.heap (.int x t2) (.int x):=Is.int _ _
 refine jR (EP ((AL (a:=x.fmod 8) (b:=5) (uR (aX (F₃.loc (x:=aA "x") rfl) hx₃) (eE 8) (by decide)) (eE 5)).run F₃.bd fun c5 s₄ k₄ hc5=>⟨fun e5=>?_,fun e5=>?_⟩))
 ·cases (hc5:c5=(x.fmod 8==5))
  have h5:x.fmod 8=5:=by simpa using e5
  have F₄:=F₃.keep k₄
  have nx₄:=(gM.of_keeps (X:=kD (dU L) X) k₄).nx
  have kw₄:=kw₃.nx nx₄
  have I₄:=I₃.keep k₄
  have bm₄:=bm₃.keeps (cS nx₄)
  have x2₄:S2 w s₄.heap:=x2₃.at fun o=>(dA k₄).o2 two2 o
  refine .any (dQ (kE (oQ rfl rfl rfl (Ce (n:=n+5) po F₄.bd kw₄ (R₁.less (by simp+arith only[])) x2₄ I₄ (aD (by assumption) (by decide)) (F₄.loc rfl) (F₄.loc rfl) (P₃.nx nx₄) fun b S₁ X₁ s₅ st₅ Fo g fr=>?_))))
  intro pl
  have iX:∀c∈[S.a],c∈kD (dU L) X:=fun c hc=>by simp at hc;subst hc;exact incf _ (I.xa _ aF)
  have F₅:=F₄.stp st₅ (fun c hc=>⟨iX c hc,by simp at hc;subst hc;exact lW (aC _ aF),by simp at hc;subst hc;exact ML _ (aC _ aF)⟩) rfl
  have nx₅:=st₅.nx iX
  have kw₅:=kw₄.nx nx₅
  have bm₅:=bm₄.keeps (cS nx₅)
  have kin₅:(kz w).In s₅.heap:=kw₅.k.keeps fun j j e=>a6 _ e
  refine fO (id Fo.bk.bk) fun es ep ho j=>?_
  refine wP kin₅ ho Fo.bk.dc (sY kin₅ (Cq (n:=n) kw₅ (R₁.less (by simp+arith only[])) F₅.bd bm₅ Fo fun s₆ f S₂ mu₆ Fo₆ put=>?_))
  have gn:∀c∈b.adrs,(ghost u (118::S.adrs)).heap.get? c=none:=fun c hc=>by
   rcases fr c hc with q|q
   ·exact lW (aC _ q)
   ·exact iC F₄.keeps F₄.bd.two q
  have hN:∀c∈[b.d,118],c∈X₁∧(ghost u (118::S.adrs)).heap.get? c=none∧c≠L:=fun c hc=>by
   simp only[bL,bR,or_false]at hc
   rcases hc with rfl|rfl
   ·have hm:b.d∈b.adrs:=aC _ aF
    exact⟨Fo.bk.xa _ hm,gn _ hm,fun q=>Fo.bk.nV _ hm (q▸aF)⟩
   ·exact⟨Fo.sto.tx,lW aF,ML _ aF⟩
  have bd₆:=mu₆.bd' F₅.bd fun c hc=>by
   simp only[bL,bR,or_false]at hc
   rcases hc with rfl|rfl
   ·exact Fo₆.bk.al b.d (aC _ aF)
   ·rcases Fo₆.sto.t with e|⟨_,e,_⟩<;>exact⟨_,e⟩
  have st₆:uC (L::V) [b.d,118] X₁ s₅ X₁ s₆:=⟨mu₆,fun j h=>h,fun j h j=>.inl h,bd₆⟩
  have F₆:=F₅.stp st₆ hN rfl
  have new₆:∀a∈X₁,a∉V→a∈X∨u.heap.get? a=none:=fun a ha hV=>by
   by_cases haL:a=L
   ·exact .inr (haL▸hL)
   ·rcases st₅.new a ha (fun q=>(nR q).elim haL hV)with q|q
    ·exact new₁ a q hV
    ·have:=iC F₄.keeps F₄.bd.two q
     by_cases hm:a∈(118::S.adrs)
     ·exact .inl (MX a hm)
     ·refine .inr ?_
      cases e:u.heap.get? a with
      |none=>rfl
      |some o=>replace this:=(show(ghost u (118::S.adrs)).heap.get? a=some o from b5 _ e hm)▸this;cases this
  exact fin .none s₆ _ _ none _ _ F₆ st₅.inc new₆ Fo₆.sto (.shutB h5 g put) rfl (put.al (g.al (fun c hc=>lW (aC _ hc)) gn) gn)
 cases (hc5:c5=(x.fmod 8==5))
 have h5:x.fmod 8≠5:=by simpa using e5
 refine jN ?_
 have F₄:=F₃.keep k₄
 have nx₄:=(gM.of_keeps (X:=kD (dU L) X) k₄).nx
 have kw₄:=kw₃.nx nx₄
 have I₄:=I₃.keep k₄
 have bm₄:=bm₃.keeps (cS nx₄)
 have x2₄:S2 w s₄.heap:=x2₃.at fun o=>(dA k₄).o2 two2 o
 have P₄:=P₃.nx nx₄
 refine bK (BJ w) fun odv Gv=>?_
 refine qH (AE (Aa (GD ((kH (x:=aA "_comparable_version") (v:=.ref 57) kw₄).run F₄.bd fun v57 s₅ k₅ hv57=>?_))))
 cases (hv57:v57= .ref 57)
 have F₅:=F₄.keep k₅
 have nx₅:=(gM.of_keeps (X:=kD (dU L) X) k₅).nx
 have kw₅:=kw₄.nx nx₅
 have x2₅:S2 w s₅.heap:=x2₄.at fun o=>(dA k₅).o2 two2 o
 refine xP (Ee (V:=L::V) (X:=kD (dU L) X) (mg:=mg) (mb:=mb) (n:=n) Gv (by decide) (FJ w) kw₅ (R₁.less (by simp+arith only[])) F₅.bd x2₅ (P₄.nx nx₅) (v:=.str vt t4) rfl rfl (F₅.loc rfl) rfl rfl fun s₆ k₆=>?_)
 have F₆:=F₅.keep k₆
 have nx₆:=(gM.of_keeps (X:=kD (dU L) X) k₆).nx
 have kw₆:=kw₅.nx nx₆
 have hvt:Is (L::V) (kD (dU L) X) s₆.heap (.str vt t4) (.str vt):=Is.str _ _
 refine⟨⟨_,_,kw₆.get rfl,rfl⟩,(Jh (n:=n) kw₆ (R₁.less (by simp+arith only[])) hfr' fv' hvt T.asc T.l4).go _ _ (.refl _ _) F₆.bd _ _ fun cvv s₇ k₇ hcv=>?_⟩
 have F₇:=F₆.keep k₇
 have nx₇:=(gM.of_keeps (X:=kD (dU L) X) k₇).nx
 have kw₇:=kw₆.nx nx₇
 have hlen:(fE vt.cps.toList).length≤600:=T.key.len
 refine(Bt (mG (eE 1)) iU (mG (eE 2))).run F₇.bd fun sl s₈ k₈ hsl=>?_
 have F₈:=F₇.keep k₈
 have nx₈:=(gM.of_keeps (X:=kD (dU L) X) k₈).nx
 refine(CH (hcv.nx nx₈) hsl (by decide) (by(rewrite[H8];refine aM bV ?_);exact aD (kK (bO _) hlen) (by decide)) fun l m=>⟨_,rfl⟩).run F₈.bd fun tv s₉ k₉ htv=>?_
 have F₉:=F₈.keep k₉
 rw[H7]at htv
 have kall:=aN k₅ (aN k₆ (aN k₇ (aN k₈ k₉)))
 refine F₉.store (x:=aA "things") (v:=tv) rfl (.inl rfl) fun sa Fa mua=>⟨rfl,?_⟩
 have nxall:=(gM.of_keeps (X:=kD (dU L) X) kall).nx
 have nxa:Nx (L::V) (kD (dU L) X) s₉ (kD (dU L) X) sa:=F₉.nx mua
 have kwa:=(kw₄.nx nxall).nx nxa
 have Ia:=istep F₉ mua (I₄.keep kall)
 have bma:=(bm₄.keeps (cS nxall)).keeps (cS nxa)
 have x2a:S2 w sa.heap:=(x2₄.at fun o=>(dA kall).o2 two2 o).at fun o=>mua.k.o2 two2 o
 have Pa:=(P₄.nx nxall).nx nxa
 have hta:=htv.nx nxa
 have inew:∀{X' X'':List Addr} {N:List Addr} {sx sy:aH} {m' cm':Str→Option aG},fU (L::V) (ghost u (118::S.adrs)) (dU L) X' sx m' cm'→(∀a∈X',a∉V→a∈X∨u.heap.get? a=none)→uC (L::V) N X' sx X'' sy→∀a∈X'',a∉V→a∈X∨u.heap.get? a=none:=fun{X' X'' N sx sy m' cm'} F' n' st' a ha hV=>by
  by_cases haL:a=L
  ·exact .inr (haL▸hL)
  ·rcases st'.new a ha (fun q=>(nR q).elim haL hV)with q|q
   ·exact n' a q hV
   ·have:=iC F'.keeps F'.bd.two q
    by_cases hm:a∈(118::S.adrs)
    ·exact .inl (MX a hm)
    ·refine .inr ?_
     cases e:u.heap.get? a with
     |none=>rfl
     |some o=>replace this:=(show(ghost u (118::S.adrs)).heap.get? a=some o from b5 _ e hm)▸this;cases this
 refine m8 (.mk<|i7 (qZ (Ce (n:=n+5) po Fa.bd kwa (R₁.less (by simp+arith only[])) x2a Ia (aD (by assumption) (by decide)) (Fa.loc rfl) (Fa.loc rfl) Pa fun b S₁ X₁ sb stb Fo g fr=>?_)))
 have iXa:∀c∈[S.a],c∈kD (dU L) X:=fun c hc=>by simp at hc;subst hc;exact incf _ (I.xa _ aF)
 have Fb:=Fa.stp stb (fun c hc=>⟨iXa c hc,by simp at hc;subst hc;exact lW (aC _ aF),by simp at hc;subst hc;exact ML _ (aC _ aF)⟩) rfl
 have newb:=inew Fa new₁ stb
 have nxb:=stb.nx iXa
 have kwb:=kwa.nx nxb
 have bmb:=bma.keeps (cS nxb)
 have x2b:S2 w sb.heap:=stb.s2 Fa.bd.two x2a
 have htb:=hta.nx nxb
 have hbs:=g.le hz2 hz3
 refine(Ak (sep:=aA ".") (texts:=(fE vt.cps.toList).map jD) (gO _) (G7 (x:=aA "thing") kwb R₁ (.inl rfl) T.key (aX (Fb.loc (x:=aA "things") rfl) htb) rfl rfl rfl rfl fun j=>rfl) (v9 (B:=700) (fun y hy=>?_) ?_)).run Fb.bd fun kv sc kc hkv=>?_
 ·(refine bG (n5 hy) fun r hr e_0=>?_;subst e_0)
  exact T.key.txt r hr
 ·rw[aQ]
  have e1:(aA ".").length=1:=by decide
  refine aM e1 ?_;exact aD (cY (kK hlen (bO _)) (kK hlen (bO _))) (by decide)
 (refine bK (Is.of_str hkv) fun tk e_0=>?_;subst e_0)
 have Fc:=Fb.keep kc
 have nxc:=(gM.of_keeps (X:=X₁) kc).nx
 have kwc:=kwb.nx nxc
 have bmc:=bmb.keeps (cS nxc)
 have x2c:S2 w sc.heap:=x2b.at fun o=>(dA kc).o2 two2 o
 have kinc:(kz w).In sc.heap:=kwc.k.keeps fun j j e=>a6 _ e
 have Foc:=Fo.keep kc
 refine oL (HU Foc) fun ox od' hI=>?_
 refine xQ kinc hI rfl ?_
 refine Hm (V:=L::V) (X:=X₁) (mg:=mg) (mb:=mb) (n:=n) po kwc (R₁.less (by simp+arith only[])) Fc.bd x2c Foc (bA (aR hbs.1 (by decide))) fun z b₂ S₂ X₂ sd std Fo₂ gs shz zX zV zfr=>?_
 have gnb:∀c∈b.adrs,(ghost u (118::S.adrs)).heap.get? c=none:=fun c hc=>by
  rcases fr c hc with q|q
  ·exact lW (aC _ q)
  ·exact iC Fa.keeps Fa.bd.two q
 have gnS:∀c∈S₁.adrs,(ghost u (118::S.adrs)).heap.get? c=none:=g.al (fun c hc=>lW (aC _ hc)) gnb
 have ba:b.a∈b.adrs:=aF
 have iXb:∀c∈[b.a],c∈X₁:=fun c hc=>by simp at hc;subst hc;exact Foc.bk.xa _ ba
 have Fd:=Fc.stp std (fun c hc=>⟨iXb c hc,by simp at hc;subst hc;exact gnb _ ba,by simp at hc;subst hc;exact fun q=>Foc.bk.nV _ ba (q▸aF)⟩) rfl
 have newd:=inew Fc newb std
 have nxd:=std.nx iXb
 have kwd:=kwc.nx nxd
 have zpl:=gs.le hbs.2
 have zg:(ghost u (118::S.adrs)).heap.get? z.l=none:=by
  rcases zfr with q|q
  ·exact iC Fc.keeps Fc.bd.two q
  ·exact gnb _ (aC _ (aC _ (bQ q)))
 refine Fd.store (x:=aA "shelf") (v:=.ref z.l) rfl (.inl rfl) fun se Fe mue=>⟨rfl,?_⟩
 have nxe:Nx (L::V) X₂ sd X₂ se:=Fd.nx mue
 have nfr:∀c,c∉(L::V)→c∉nB (dU L):=fun c hc q=>by
  have:c=L:=by simpa[nB,pY,dU]using q
  exact hc (this▸aF)
 have fkeep:∀{sx sy:aH} {X':List Addr} {S':iD} {b':Bk} {m' cm':Str→Option aG},fU (L::V) (ghost u (118::S.adrs)) (dU L) X' sx m' cm'→Mu (L::V) (nB (dU L)) sx sy→Internal.Foc prog w (L::V) X' sx.heap S' b'→Internal.Foc prog w (L::V) X' sy.heap S' b':=fun{sx sy X' S' b' m' cm'} F' mu' Fo'=>by
  exact Fo'.at2 (fun j I'=>istep F' mu' I') fun j B'=>B'.at (fun c hc o e=>mu'.k.old c o (B'.nV c hc) (nfr c (B'.nV c hc)) e) (cS (F'.nx mu')) fun j h=>h
 have kwe:=kwd.nx nxe
 have Foe:=fkeep Fd mue Fo₂
 have she:wZ se.heap z:=shz.at fun o e=>mue.k.old _ o zV (nfr _ zV) e
 refine m8 (oW (d:=.list (z.pl.map .int)) Fe (f5 (kF (x:=aA "list") (v:=.type "list") kwe) (aT (eQ (Fe.loc (x:=aA "shelf") (v:=.ref z.l) rfl)) bF) fun Y y vs hy hby hvs=>?_) fun lv sf Ff muf hlv=>⟨rfl,?_⟩)
 ·(refine bG (mN hvs) fun v1 e_0=>?_;subst e_0;refine fun hv1=>?_)
  cases (hv1:v1= .ref z.l)
  exact Bp (she.at fun o=>a7 hy.keeps _ o zV) zV (aD (by assumption) (by decide))
 have nxf:Nx (L::V) X₂ se X₂ sf:=Fe.nx muf
 have kwf:=kwe.nx nxf
 have Fof:=fkeep Fe muf Foe
 have shf:wZ sf.heap z:=she.at fun o e=>muf.k.old _ o zV (nfr _ zV) e
 have hxf:Is (L::V) X₂ sf.heap (.int x t2) (.int x):=Is.int _ _
 have incd:∀a∈kD (dU L) X,a∈X₂:=fun a h=>std.inc a (stb.inc a h)
 refine jR (EP ((CG (d:=.int (x.fmod 8)) (e:=.int 4) R₁ (uR (aX (Ff.loc (x:=aA "x") rfl) hxf) (eE 8) (by decide)) (eE 4) rfl rfl).run Ff.bd fun c4 sg kg hc4=>⟨fun e4=>?_,fun e4=>?_⟩))
 ·have h4:x.fmod 8≠4:=by
   have e:c4=_:=hc4
   rw[e]at e4
   intro q
   rw[q]at e4
   exact absurd e4 (by decide)
  have Fg':=Ff.keep kg
  have nxg:=(gM.of_keeps (X:=X₂) kg).nx
  (refine bG (shf.at fun o=>a7 kg _ o zV) fun vs q_1 av=>?_;refine bK q_1 fun n₀ ev=>?_)
  have W:iI (L::V) X₂ (ghost u (118::S.adrs)) sg z.l (z.pl.map .int):=⟨⟨vs,⟨n₀,ev⟩,qR av⟩,zX,zg,zV⟩
  have hpl:Is (L::V) X₂ sg.heap (.int i t1) (.int i):=Is.int _ _
  refine .any (eS (rY (d:=.int i) Fg' W (eQ (Fg'.loc (x:=aA "shelf") (v:=.ref z.l) rfl)) (aX (Fg'.loc (x:=aA "place") rfl) hpl) (by(rewrite[aQ];refine aM bV ?_);exact aD (by assumption) (by decide)) fun sh' Fh muh Wh=>⟨rfl,.mk (fJ ?_)⟩)).out
  have nxh:Nx (L::V) X₂ sg X₂ sh':=muh.nx fun c hc=>by simp at hc;subst hc;exact zX
  have hlh:=(hlv.nx nxg).nx nxh
  have shz':wZ sh'.heap ⟨z.key,z.l,z.pl++[i]⟩:=by
   refine bG Wh.ys fun ys e1 a1=>?_
   refine⟨ys,e1,?_⟩
   refine aM bB ?_
   have:cA (L::V) X₂ sh'.heap ys.toList ((z.pl++[i]).map .int):=by refine aM bB ?_;exact a1
   refine gU bB ?_
   exact wQ this
  have Fog:=Fof.keep kg
  have kz':∀c,c≠z.l→c∉(L::V)→∀o,sg.heap.get? c=some o→sh'.heap.get? c=some o:=fun c h1 h2 o e=>muh.k.old c o h2 (by with_reducible exact mt kQ h1) e
  have⟨S₃,I₃',ap⟩:∃S₃,eG prog w (L::V) X₂ sh'.heap S₃∧Cv S₂ b₂ z i S₃:=by
   by_cases hm:z∈b₂.sh
   ·refine oL (rL hm) fun p1 p2 e=>?_
    refine bG (JJ Fog e kz' (cS nxh) shz') fun S' Fo' put=>?_
    exact⟨S',Fo'.sto,.stored e put⟩
   ·refine⟨S₂,?_,.loose hm⟩
    have zfresh:sc.heap.get? z.l=none:=zfr.elim id fun q=>absurd q (gs.out hm).2
    obtain rfl:=(gs.out hm).1
    have nz:∀c∈S₂.adrs,c≠z.l:=fun c hc q=>by
     refine bK (Foc.sto.al c hc) fun o e=>?_
     rw[q,zfresh]at e;nomatch e
    refine Fog.sto.at (fun c hc o e=>kz' c (nz c hc) (Fog.sto.nV c hc) o e) (fun o e=>kz' 118 (fun q=>?_) Fog.sto.tV o e) (cS nxh) fun j h=>h
    have h8:∃o,sc.heap.get? 118=some o:=by rcases Foc.sto.t with e|⟨_,e,_⟩<;>exact⟨_,e⟩
    refine bK h8 fun o e=>?_
    rw[q,zfresh]at e;nomatch e
  refine .any (qK (d:=.list (z.pl.map .int)) Fh (aX (Fh.loc (x:=aA "told") (v:=lv) rfl) hlh) fun v sy Fy muy hv=>?_).out
  exact fin v sy X₂ S₃ (some z.pl) _ _ Fy incd newd (istep Fh muy I₃') (.add h4 h5 h6 g gs ap) hv (ap.al (gs.al gnS gnb zg).1 (gs.al gnS gnb zg).2)
 ·have h4:x.fmod 8=4:=by
   have e:c4=_:=hc4
   rw[e]at e4
   by_cases q:x.fmod 8=4
   ·exact q
   ·exfalso
    have e8:bU (.int (x.fmod 8)) (.int 4)=false:=by
     rw[bU]
     simpa using q
    rw[e8]at e4
    exact absurd e4 (by decide)
  have Fg':=Ff.keep kg
  have nxg:=(gM.of_keeps (X:=X₂) kg).nx
  refine jN ?_
  refine .any (qK (d:=.list (z.pl.map .int)) Fg' (aX (Fg'.loc (x:=aA "told") (v:=lv) rfl) (hlv.nx nxg)) fun v sy Fy muy hv=>?_).out
  exact fin v sy X₂ S₂ (some z.pl) _ _ Fy incd newd (istep Fg' muy (Fof.sto.keep kg)) (.peek h4 g gs) hv (gs.al gnS gnb zg).1
end
theorem WC.standIf{α:Type}{c:Prop}[Decidable c]{pos:Pos}{k:PUnit→Sem α}{Q:α→aH→Prop}{s:aH}(h:WC prog w A (k ()) Q E s):WC prog w A (if c then(PySem.standAt pos>>=k)else k ()) Q E s:=by
 split
 ·exact .standAt h
 ·exact h
theorem rC{e:Expr}{scope:Scope}{pos:Pos}{newAcc first:Sem aG}{g:q7}{gs:List q7}{cl:List (Str×Addr)}{use:Option (aG→Sem Unit)}
  {Q:aG→aH→Prop}{s:aH}
  (hcl:clausesOf e=g::gs)(hs:∀x,foldedSetIterable g.iter env x=pure x)(hclos:closureFor scope env=pure cl)
  (hkind:scope.kind= .function)(hnames:∀x∈scope.names,x.2= .local→scope.names.lookup x.1=some .local)
  (h:WC prog w A first (fun x s₁=>wpAny (model prog w) A (pyIter x) (fun it s₂=>wpAny (model prog w) A newAcc (fun acc s₃=>
   wpAny (model prog w) A (newFunctionEnv scope env.globals cl [] env.qual none .none (some env)) (fun cenv s₄=>
    CC prog w A (.compStart e 0 it acc {cenv with scope:=relabel scope env}) (fun r s'=>∃f,r= .ok f∧compPost (model prog w) A E use Q acc cenv.locals r s') s₄) E s₃) E s₂) E s₁) E s):
  WC prog w A (comprehension e scope env pos newAcc false first use) Q E s:=by
 unfold comprehension
 refine aM hclos (aM hcl ?_)
 refine WC.bind (h.monoQ fun x s₁ h₁=>WC.standAt (WC.seq (bE (hs x) ?_)))
 refine(WC.seq (a8 (bD h₁ (fun it s₂ h₂=>.standIf (WC.seq (bD h₂ (fun acc s₃ h₃=>WC.seq (aE (WC.seq (bD h₃ (fun cenv s₄ h₄=>?_) fun z z h'=>h')))) fun z z h'=>h'))) fun z z h'=>h')))
 dsimp only
 have hv:∀x∈(scope.names.filter fun x=>(x.2== .local||x.2== .cell)&&x.1 !=(".0":Str)).reverse,x.2= .local→
   Env.kindOf {cenv with scope:=relabel scope env} x.1=some .local:=fun x hx hl=>lookup_relabel_local (hnames x (D1 (List.mem_reverse.mp hx)).1 hl)
 have hv':∀x∈(scope.names.filter fun x=>(x.2== .local||x.2== .cell)&&x.1 !=(".0":Str)).reverse.drop 1++(scope.names.filter fun x=>(x.2== .local||x.2== .cell)&&x.1 !=(".0":Str)).reverse.take 1,
   x.2= .local→Env.kindOf {cenv with scope:=relabel scope env} x.1=some .local:=fun x hx hl=>by
  rcases eX hx with h1|h1
  ·exact hv x (List.mem_of_mem_drop h1) hl
  ·exact hv x (eW h1) hl
 refine .holding (.bind (.attempt (.holding (.run (h₄.mono fun r s' hr=>?_)))))
 (refine bG hr fun f e_0 hr=>?_;subst e_0)
 refine .any ?_
 cases use with
 |none=>
  obtain⟨m,hn,hr⟩:=hr
  exact aB (a8 (wpAny_comp_letGo (cenv:={cenv with scope:=relabel scope env}) hkind _ s' m hv hn fun h' m' z hs'=>aE (hr h' hs')))
 |some u=>
  refine aB (fT (aB (a8 (bD hr (fun z s'' hr'=>?_) fun z z h'=>h'))))
  (refine bG hr' fun m hn hr'=>?_)
  exact aB (wpAny_comp_letGo (cenv:={cenv with scope:=relabel scope env}) hkind _ s'' m hv' hn fun h' m' z hs'=>aE (hr' h' hs'))
theorem rX{e:Expr}{scope:Scope}{pos:Pos}{newAcc first:Sem aG}{g:q7}{gs:List q7}{cl:List (Str×Addr)}{use:Option (aG→Sem Unit)}
  {Q:aG→aH→Prop}{s:aH}
  (hcl:clausesOf e=g::gs)(hs:∀x,foldedSetIterable g.iter env x=pure x)(hclos:closureFor scope env=pure cl)
  (hkind:scope.kind= .function)(hnames:∀x∈scope.names,x.2= .local→scope.names.lookup x.1=some .local)
  (h:wpAny (model prog w) A first (fun x s₁=>wpAny (model prog w) A (pyIter x) (fun it s₂=>wpAny (model prog w) A newAcc (fun acc s₃=>
   wpAny (model prog w) A (newFunctionEnv scope env.globals cl [] env.qual none .none (some env)) (fun cenv s₄=>
    CC prog w A (.compStart e 0 it acc {cenv with scope:=relabel scope env}) (fun r s'=>∃f,r= .ok f∧compPost (model prog w) A E use Q acc cenv.locals r s') s₄) E s₃) E s₂) E s₁) E s):
  WC prog w A (comprehension e scope env pos newAcc false first use) Q E s:=rC hcl hs hclos hkind hnames (.any h)
theorem wU{elt target iter:Expr}{scope:Scope}{pos:Pos}{it acc:aG}{R:iR→aH→Prop}{s:aH}(n:Nat)(I:Nat→aH→Prop)
  (turn:∀i s,i<n→I i s→∀E',WC prog w A (pyNext it) (fun r s₁=>∃v,r=some v∧WC prog w A (letOwnedTupleGo target it v) (fun z s₂=>WC prog w A (assign target env v) (fun z s₃=>WC prog w A (eval elt env) (fun x s₄=>
    WC prog w A (call (.builtin "list.append") [acc,x]) (fun z s₅=>I (i+1) s₅) E' s₄) E' s₃) E' s₂) E' s₁) E' s)
  (stop:∀s,I n s→∀E',WC prog w A (pyNext it) (fun r s₁=>r=none∧R (.ok .next) s₁) E' s)(h0:I 0 s)
  (hA:A.under (.compLoop (.ListComp elt [⟨target,iter,[],0⟩] scope pos) 0 it acc env)=A):
  CC prog w A (.compLoop (.ListComp elt [⟨target,iter,[],0⟩] scope pos) 0 it acc env) R s:=by
 refine CC.loop rfl (fun m s=>∃i,m=n-i∧i≤n∧I i s) ?_ n ⟨0,rfl,bX _,h0⟩
 (intro m s q_1;refine nY q_1 fun i e_0 hi hI=>?_;subst e_0)
 refine aM hA ?_
 refine .noted ?_
 rw[compTurn_list1]
 refine .standAt ?_
 rcases eM i n with hlt|hge
 ·refine .bind ((turn i s hlt hI _).monoQ fun r s₁ h₁=>?_)
  obtain⟨v,rfl,h₁⟩:=h₁
  refine .bind (h₁.monoQ fun z s₂ h₂=>.bind (h₂.monoQ fun z s₃ h₃=>.bind (.bind (h₃.monoQ fun x s₄ h₄=>.bind (h₄.monoQ fun z s₅ h₅=>.pure (.pure ?_))))))
  exact .inl ⟨rfl,n-(i+1),mU _ _ hlt,i+1,rfl,hlt,h₅⟩
 ·have:i=n:=c9 hi hge
  obtain rfl:=this.symm
  refine .bind ((stop s hI _).monoQ fun r s₁ h₁=>?_)
  obtain⟨rfl,h₁⟩:=h₁
  exact .pure h₁
theorem vR{elt target iter:Expr}{rest:List q7}{ifs:List Expr}{scope:Scope}{pos:Pos}{it acc:aG}{R:iR→aH→Prop}{s:aH}
  (hA:A.under (.compStart (.ListComp elt (⟨target,iter,ifs,0⟩::rest) scope pos) 0 it acc env)=A)
  (h0:CC prog w A (.compLoop (.ListComp elt (⟨target,iter,ifs,0⟩::rest) scope pos) 0 it acc env) R s)
  (h:∀E',wpAny (model prog w) A (pyIter it) (fun it' s'=>it'=it∧s'=s) E' s):
  CC prog w A (.compStart (.ListComp elt (⟨target,iter,ifs,0⟩::rest) scope pos) 0 it acc env) R s:=by
 refine .tree ?_
 refine aM hA ?_
 refine .onRaise (WC.mono ?_ (fun z z q=>q) fun x s' (hx:notedBy (model prog w) A env _ x s')=>aB (bD hx (fun z z e=>dF e) fun z z e=>e))
 refine WC.seq (wpAny_askSetting ?_)
 split
 ·first
   |exact WC.seq (aE (.pure (m7 rfl h0)))
   |exact .pure (m7 rfl h0)
 ·refine WC.seq (fT ?_)
  exact .standAt (WC.seq (bD (h _) (fun it' s' h'=>by(refine gE h' fun e_0=>?_;obtain rfl:=e_0.symm;refine fun e_0=>?_;obtain rfl:=e_0.symm);exact .pure (m7 rfl h0)) fun z z x=>x))
inductive tY (nmF keyF:Int→Str) (S₀:iD):List Int→List (Option (List Int))→iD→Prop
 |nil:tY nmF keyF S₀ [] [] S₀
 |snoc {xs:List Int} {ts:List (Option (List Int))} {S S':iD} {x:Int} {t:Option (List Int)} (h:tY nmF keyF S₀ xs ts S) (d:pU S x xs.length (nmF x) (keyF x) S' t):tY nmF keyF S₀ (xs++[x]) (ts++[t]) S'
structure uZ(k:Nat)(b:Bk):Prop where
 sh:b.sh.length≤k
 pl:∀z∈b.sh,z.pl.length≤k
structure J2(k:Nat)(S:iD):Prop where
 n:S.bks.length≤k
 b:∀b∈S.bks,uZ k b
theorem uZ.mono{k k':Nat}{b:Bk}(h:uZ k b)(i:k≤k'):uZ k' b:=⟨aD h.sh i,fun z hz=>aD (h.pl z hz) i⟩
theorem rS.sz{S S₁:iD}{b:Bk}{nm:Str}{k:Nat}(g:rS S nm S₁ b)(h:J2 k S):S₁.bks.length≤k+1∧(∀b∈S₁.bks,uZ k b)∧uZ k b:=by
 cases g with
 |there b hb hn=>exact⟨by have:=h.n;lia,h.b,h.b b hb⟩
 |made a d no fz=>
  have e:uZ k ⟨nm,a,d,none,[]⟩:=⟨bX _,fun z hz=>nomatch hz⟩
  refine⟨by have:=h.n;simpa using this,fun b hb=>?_,e⟩
  rcases eX hb with hb|hb
  ·exact h.b b hb
  ·replace hb:=kQ hb;exact hb▸e
 |tmp a d no fz=>exact⟨by have:=h.n;lia,h.b,⟨bX _,fun z hz=>nomatch hz⟩⟩
theorem Cw.sz{S S':iD}{b b':Bk}{k n:Nat}(p:Cw S b b' S')(h:S.bks.length≤n)(hb:∀b∈S.bks,uZ k b)(h':uZ k b'):S'.bks.length≤n∧∀b∈S'.bks,uZ k b:=by
 cases p with
 |stored=>
  refine⟨by simpa using h,fun b hm=>?_⟩
  simp only[b8,bL]at hm hb
  rcases hm with hm|rfl|hm
  ·exact hb b (.inl hm)
  ·exact h'
  ·exact hb b (.inr (.inr hm))
 |loose n=>exact⟨h,hb⟩
theorem pU.sz{S S':iD}{x i:Int}{nm key:Str}{t:Option (List Int)}{k:Nat}(d:pU S x i nm key S' t)(h:J2 k S):J2 (k+1) S'∧∀l,t=some l→l.length≤k:=by
 have getS:∀{S₁ S₂:iD} {b b₂:Bk} {z:zI},rS S nm S₁ b→tX S₁ b key S₂ b₂ z→S₂.bks.length≤k+1∧(∀b∈S₂.bks,uZ (k+1) b)∧uZ (k+1) b₂∧z.pl.length≤k:=fun{S₁ S₂ b b₂ z} g g2=>by
  refine jM (g.sz h) fun a1 a2 a3=>?_
  have up:∀b∈S₁.bks,uZ (k+1) b:=fun b hb=>(a2 b hb).mono (gT _)
  cases g2 with
  |there z hz hn=>exact⟨a1,up,a3.mono (gT _),a3.pl z hz⟩
  |made l no fz S' p=>
   have e:uZ (k+1) ⟨b.name,b.a,b.d,b.fz,b.sh++[⟨key,l,[]⟩]⟩:=⟨by have:=a3.sh;simpa using this,fun z hz=>by
    rcases eX hz with hz|hz
    ·exact aD (a3.pl z hz) (gT _)
    ·simp at hz;subst hz;exact bX _⟩
   refine gE (p.sz a1 up e) fun p1 p2=>?_
   exact⟨p1,p2,e,bX _⟩
  |tmp l no fz=>exact⟨a1,up,a3.mono (gT _),bX _⟩
 cases d with
 |shut f h6=>exact⟨⟨aD h.n (gT _),fun b hb=>(h.b b hb).mono (gT _)⟩,fun l e=>nomatch e⟩
 |shutB h5 g p=>
  refine jM (g.sz h) fun a1 a2 a3=>?_
  refine gE (p.sz (k:=k) a1 a2 ⟨a3.sh,a3.pl⟩) fun p1 p2=>?_
  exact⟨⟨p1,fun b hb=>(p2 b hb).mono (gT _)⟩,fun l e=>nomatch e⟩
 |peek h4 g g2=>
  refine A7 (getS g g2) fun a b c d=>?_
  exact⟨⟨a,b⟩,fun l e=>by obtain rfl:=a9 e;exact d⟩
 | @add h4 h5 h6 S₁ S₂ S₃ bb b₂ z g g2 ap=>
  refine A7 (getS g g2) fun a b c d=>?_
  refine⟨?_,fun l e=>by obtain rfl:=a9 e;exact d⟩
  cases ap with
  | @stored p1 p2 S₄ e p=>
   have e':uZ (k+1) ⟨b₂.name,b₂.a,b₂.d,b₂.fz,p1++⟨z.key,z.l,z.pl++[i]⟩::p2⟩:=⟨by have:=c.1;rw[e]at this;simpa using this,fun y hy=>by
    have c2:=c.2
    replace c2:=e▸c2
    simp only[b8,bL]at hy c2
    rcases hy with hy|rfl|hy
    ·exact c2 y (.inl hy)
    ·simp;assumption
    ·exact c2 y (.inr (.inr hy))⟩
   refine gE (p.sz a b e') fun q1 q2=>?_
   exact⟨q1,q2⟩
  |loose hn=>exact⟨a,b⟩
theorem tY.sz{nmF keyF:Int→Str}{S₀ S:iD}{xs:List Int}{ts:List (Option (List Int))}(d:tY nmF keyF S₀ xs ts S)(h0:S₀.bks=[]):J2 xs.length S∧ts.length=xs.length∧∀t∈ts,∀l,t=some l→l.length≤xs.length:=by
 induction d with
 |nil=>exact⟨⟨by refine aM h0 ?_;exact bX _,fun b hb=>by replace hb:=h0▸hb;cases hb⟩,rfl,fun t ht=>nomatch ht⟩
 |snoc d r ih=>
  refine jM ih fun a b c=>?_
  refine gE (r.sz a) fun r1 r2=>?_
  refine⟨by simpa using r1,by simp[b],fun t ht l e=>?_⟩
  refine aM b4 (aM fI ?_)
  rcases eX ht with ht|ht
  ·exact aD (c t ht l e) (gT _)
  ·replace ht:=kQ ht;obtain rfl:=ht.symm;exact aD (r2 l e) (gT _)
theorem Cz{func e:Expr}{rest:List Expr}{pos:Pos}{a:Addr}{o:Obj}{fd:FuncData}{Ps:List (Hp V aG)}{Q:aG→aH→Prop}(hb:Bd V X s)(hf:Pu V prog w A X s (eval func env) (Ex (.ref a)))(ha2:a∉V)(ho:s.heap.get? a=some o)(hd:o.data= .func fd)
  (ha:Pu V prog w A X s (spliced (backTo pos (starEach (e::rest) env))) (w0 Ps))
  (hc:∀u vs,Keeps V s u→tQ X u.heap Ps vs→WC prog w A (call (.ref a) vs) Q E u)
  (h1:autoParam (eval (.Call func (e::rest) [] pos) env=(do callWith pos (←eval func env) [] (backTo pos (starEach (e::rest) env)) (backToKw pos (keywordEach [] env)))) rf)
  (h2:autoParam (starEach (e::rest) env=(false,eval e env)::starEach rest env) rf)(h3:autoParam ((backTo pos (starEach (e::rest) env)).any (·.1)=false) rf)(h4:autoParam (backToKw pos (keywordEach [] env)=[]) rf)(h5:autoParam ((backTo pos (starEach (e::rest) env)).length≤30) dk):WC prog w A (eval (.Call func (e::rest) [] pos) env) Q E s:=by
 refine aM h1 ?_
 refine .seq (hf.run hb fun f u₁ k₁ pf=>?_)
 cases (pf:f= .ref a)
 refine aM h4 ?_
 rw[h2]at ha h3 h5⊢
 refine .seq (a8 (gP (ha.go X u₁ (.of_keeps k₁) (hb.keeps k₁) _ E fun vs u₂ k₂ pvs=>?_)))
 refine show WC prog w A _ Q E u₂ from .standAt ?_
 refine aM h3 ?_
 refine .seq (m:=keeperOf (.ref a)) ?_
 refine aB (nJ (a7 (aN k₁ k₂) _ _ ha2 ho) ?_)
 refine aM hd ?_
 refine aE ?_
 refine .eq (if_neg (by simp[h5])) ?_
 exact .bind (.keep ((hc u₂ vs (aN k₁ k₂) pvs).monoQ fun r s₂ hr=>.any (aB (a8 (nI (aE hr))))))
noncomputable def tZ:Scope:={kind:=.function,names:=[(aA ".0",.local),(aA "place",.local),(aA "x",.local),(aA "_law_deed",.globalImplicit),(aA "index",.free)],isGenerator:=false,isCoroutine:=false}
noncomputable def w9(L C:Addr):Env:=compEnvC tZ [(aA "index",L+1)] C (cJ L)
theorem Ew(L:Addr):closureFor tZ (cJ L)=pure [(aA "index",L+1)]:=by rfl
section
variable {S:iD}
theorem uC.pre{M X':List Addr}{s s':aH}(k:Keeps V u s)(hb:Bd V X u)(st:uC V M X s X' s')(hX:∀b∈M,b∈X):uC V M X u X' s':=(uC.of_keeps hb k).trans st (fun z h=>.inl h) hb.two hX
theorem GF{x i:Int}{t1 t2:Tok}{nm vt p q:Str}{n:Nat}{fr:List Env}{Q:aG→aH→Prop}{L C:Addr}{p1 p2 p3 p4 p5:Pos}(po:sF prog)(kw:KW V (kz w) mg mb X u.heap)(R:dK A (n+20))(hfr:A.frames=some fr)(fv:Cu V fr)(hb:Bd V X u)(x2:S2 w u.heap)
  (bm:Bm mg (hideAll u.heap (V++X)))(I:eG prog w V X u.heap S)(T:sR x nm vt p q)(hz:S.bks.length≤900)(hz2:∀b∈S.bks,b.sh.length≤900)(hz3:∀b∈S.bks,∀z∈b.sh,z.pl.length≤900)
  (hi:u.heap.IsCell (L+1) (some (.ref S.a)))(hcV:L+1∉V)(hn:u.heap.Ns C m)(hC:C≠2)(hp:m (aA "place")=some (.int i t1))(hx:m (aA "x")=some (.int x t2))
  (hq:∀v s' X' S' told,uC V (118::S.adrs) X u X' s'→eG prog w V X' s'.heap S'→pU S x i nm (keyOf (fE vt.cps.toList)) S' told→Hz V X' s'.heap v told→(∀c∈S'.adrs,c∈S.adrs∨u.heap.get? c=none)→Q v s'):
  WC prog w A (eval (.Call (.Name (aA "_law_deed") p1) [.Name (aA "index") p2,.Name (aA "place") p3,.Name (aA "x") p4] [] p5) (w9 L C)) Q E u:=by
 have MX:∀c∈(118::S.adrs),c∈X:=fun c hc=>(nR hc).elim (fun q=>q▸I.tx) (I.xa c)
 refine Cz (h5:=show(3:Nat)≤30 by decide) hb (kH (v:=.ref 234) kw) (kw.nV rfl) (kw.get rfl) rfl (aT (eQ (.cell hcV rfl hi rfl)) (aT (eQ (.loc hC hn hp rfl)) (aT (eQ (.loc hC hn hx rfl)) bF))) fun s₁ vs k hvs=>?_
 refine uK (Jl hvs) fun v1 v2 v3 e_0 h1 h2 h3=>?_;subst e_0
 cases h1;cases h2;cases h3
 have nx:=(gM.of_keeps (X:=X) k).nx
 refine JP (n:=n) po (kw.nx nx) R hfr fv (hb.keeps k) (x2.at fun o=>(dA k).o2 hb.two.two o) (bm.keeps (cS nx)) (I.keep k) T hz hz2 hz3 fun v s' X' S' told st I' D hT hA=>?_
 exact hq v s' X' S' told (st.pre k hb MX) I' D hT fun c hc=>(hA c hc).imp id fun h=>fQ k hb.two h
end
theorem rS.a{S S₁:iD}{b:Bk}{nm:Str}(g:rS S nm S₁ b):S₁.a=S.a:=by cases g<;>rfl
theorem Cw.a{S S':iD}{b b':Bk}(p:Cw S b b' S'):S'.a=S.a:=by cases p<;>rfl
theorem tX.a{S S':iD}{b b':Bk}{k:Str}{z:zI}(g:tX S b k S' b' z):S'.a=S.a:=by
 cases g with
 |there=>rfl
 |made l no fz S' p=>exact p.a
 |tmp=>rfl
theorem pU.a{S S':iD}{x i:Int}{nm key:Str}{t:Option (List Int)}(d:pU S x i nm key S' t):S'.a=S.a:=by
 cases d with
 |shut f h=>rfl
 |shutB h g p=>exact aM p.a (aM g.a rfl)
 |peek h g g2=>exact aM g2.a (aM g.a rfl)
 |add h4 h5 h6 g g2 ap=>
  refine gU g.a (gU g2.a ?_)
  cases ap with
  |stored e p=>exact aM p.a rfl
  |loose h=>rfl
theorem tY.a{nmF keyF:Int→Str}{S₀ S:iD}{xs:List Int}{ts:List (Option (List Int))}(d:tY nmF keyF S₀ xs ts S):S.a=S₀.a:=by
 induction d with
 |nil=>rfl
 |snoc d r ih=>exact aM r.a (aM ih rfl)
theorem Hz.is{X:List Addr}{h:Heap}{v:aG}{t:Option (List Int)}(x:Hz V X h v t):Is V X h v (r0 t):=by
 cases t with
 |none=>cases (x:v= .none);exact Is.none
 |some l=>exact x
structure TI(prog:fL)(w:cN)(V:List Addr)(nmF keyF:Int→Str)(s₁:aH)(X₁:List Addr)(S₀:iD)(D C e it l:Addr)(evs:List Int)(X':List Addr)(S':iD)(ts:List (Option (List Int)))(ys:Array aG)(old:aG)(m:Str→Option aG)(i:Nat)(s:aH):Prop where
 st:uC V (D::C::e::it::118::S₀.adrs) X₁ s₁ X' s
 sto:eG prog w V X' s.heap S'
 ad:∀c∈S'.adrs,c∈S₀.adrs∨s₁.heap.get? c=none
 en:IsEnum s.heap e it i old
 li:s.heap.IsListIter it l i
 pl:s.heap.PlainList D ys
 ys:cA V X' s.heap ys.toList (ts.map r0)
 ns:s.heap.Ns C m
 de:tY nmF keyF S₀ (evs.take i) ts S'
 le:i≤evs.length
structure TS(prog:fL)(w:cN)(V:List Addr)(s₁:aH)(X₁:List Addr)(S₀:iD)(D C e it l:Addr)(evs:List Int)(items:Array aG):Prop where
 v:D∉V∧C∉V∧e∉V∧it∉V∧l∉V
 x:D∈X₁∧C∈X₁∧e∈X₁∧it∈X₁∧l∉X₁
 ne:D≠C∧D≠e∧D≠it∧C≠e∧C≠it∧e≠it
 s:D∉S₀.adrs∧C∉S₀.adrs∧e∉S₀.adrs∧it∉S₀.adrs
 n8:D≠118∧C≠118∧e≠118∧it≠118
 C2:C≠2
 sx:∀c∈118::S₀.adrs,c∈X₁
 list:s₁.heap.IsList l items
 its:cA V X₁ s₁.heap items.toList (evs.map .int)
 bks:S₀.bks=[]
section
variable {X₁:List Addr} {s₁:aH} {S₀:iD} {nmF vtF:Int→Str} {D C e l:Addr} {items:Array aG}
theorem TS.mx(h:TS prog w V s₁ X₁ S₀ D C e it l evs items):∀c∈D::C::e::it::118::S₀.adrs,c∈X₁:=fun c hc=>by
 simp only[bL]at hc
 refine xN h.x fun a b c' d z=>?_
 rcases hc with rfl|rfl|rfl|rfl|hc
 ·exact a
 ·exact b
 ·exact c'
 ·exact d
 ·exact h.sx c (by with_reducible exact List.mem_cons.mpr hc)
theorem TS.item(h:TS prog w V s₁ X₁ S₀ D C e it l evs items){i:Nat}(hi:i<evs.length):∃t,items[i]?=some (.int (evs[i]) t):=by
 refine bG (h.its.at (i:=i) (d:=.int evs[i]) (by simp[hi])) fun v hv hd=>?_
 (refine bK (Is.of_int hd) fun t e_0=>?_;subst e_0)
 exact⟨t,by simpa using hv⟩
theorem TS.size(h:TS prog w V s₁ X₁ S₀ D C e it l evs items):items.size=evs.length:=by
 have:=h.its.length
 simpa using this
set_option maxHeartbeats 1000000 in
theorem Eu{n:Nat}{fr:List Env}{L c:Addr}{p1 p2 p3 p4 p5 p6 p7 p8:Pos}{kk i:Nat}{E':aG→aH→Prop}{X':List Addr}{S':iD}{ts:List (Option (List Int))}{ys:Array aG}{old:aG}{m:Str→Option aG}(H:TS prog w V s₁ X₁ S₀ D C e it l evs items)(po:sF prog)(hh:A.handled=none)(kw:KW V (kz w) mg mb X₁ s₁.heap)(R:dK A (n+20))(hfr:A.frames=some fr)(fv:Cu V fr)(hb:Bd V X₁ s₁)(x2:S2 w s₁.heap)
  (bm:Bm mg (hideAll s₁.heap (V++X₁)))(T:∀x,∃p q,sR x (nmF x) (vtF x) p q)(hn:evs.length≤900)(hi0:s₁.heap.IsCell (L+1) (some (.ref S₀.a)))(hcV:L+1∉V)(hcM:L+1∉D::C::e::it::118::S₀.adrs)
  (hi:i<evs.length)(J:TI prog w V nmF (fun x=>keyOf (fE (vtF x).cps.toList)) s₁ X₁ S₀ D C e it l evs X' S' ts ys old m i s):
  WC prog w A (pyNext (.ref e)) (fun r s₁'=>∃v,r=some v∧WC prog w A (letOwnedTupleGo (.Tuple [.Name (aA "place") p6,.Name (aA "x") p7] kk p8) (.ref e) v) (fun j s₂=>WC prog w A (assign (.Tuple [.Name (aA "place") p6,.Name (aA "x") p7] kk p8) (w9 L C) v) (fun j s₃=>
   WC prog w A (eval (.Call (.Name (aA "_law_deed") p1) [.Name (aA "index") p2,.Name (aA "place") p3,.Name (aA "x") p4] [] p5) (w9 L C)) (fun x s₄=>WC prog w A (call (.builtin "list.append") [.ref D,x]) (fun j s₅=>
    ∃X' S' ts ys old m,TI prog w V nmF (fun x=>keyOf (fE (vtF x).cps.toList)) s₁ X₁ S₀ D C e it l evs X' S' ts ys old m (i+1) s₅) E' s₄) E' s₃) E' s₂) E' s₁') E' s:=by
 obtain⟨st,I,hA,he,hit,hp,ha,hns,hd,hle⟩:=J
 refine xN H.v fun vD vC ve vit vl=>?_
 refine xN H.x fun xD xC xe xit xl=>?_
 refine Jv H.ne fun nDC nDe nDi nCe nCi nei=>?_
 refine A7 H.s fun sD sC se sit=>?_
 refine A7 H.n8 fun n8D n8C n8e n8i=>?_
 have mx:=H.mx
 have al₁:∀a∈X₁,∃o,s₁.heap.get? a=some o:=hb.al
 have hl:s.heap.IsList l items:=by
  refine bG H.list fun o e1 r=>?_
  exact⟨o,st.keep_get vl (fun q=>xl (mx l q)) e1,r⟩
 refine bK (H.item hi) fun t2 hx=>?_
 have alX:∀a∈X₁,∃o,s.heap.get? a=some o:=fun a h=>st.bd.al a (st.inc a h)
 refine .any (wpAny_pyNext_enum_item he hit hl hx nei fun h₁ heo hit₁ ht₁ hz₁ hk₁=>⟨_,rfl,.any (wpAny_letOwnedTupleGo_enum heo fun h₂ he₂ hs₂=>?_)⟩)
 replace hs₂:bY e h₁ h₂:=hs₂
 have lt:∀a∈X₁,a<s.heap.objs.size:=fun a h=>by refine bK (alX a h) fun o e1=>?_;exact eL e1
 have ht₂:h₂.IsTuple s.heap.objs.size #[.int i s.toks,.int evs[i] t2]:=⟨_,(hs₂.2 _ (jA (lt e xe))).trans ht₁,rfl,_,rfl⟩
 have hz₂:h₂.objs.size=s.heap.objs.size+1:=hs₂.1.trans hz₁
 refine .any (wpAny_assign_Tuple hh ht₂ rfl rfl fun h₃ hx₃=>?_)
 replace hx₃:Heap.ExtBut h₂.objs.size h₂ h₃:=hx₃
 have old₃:∀b o,b<s.heap.objs.size→h₂.get? b=some o→h₃.get? b=some o:=fun b o hb x=>hx₃ b o (by refine aM hz₂ ?_;exact eZ (Nat.lt_succ_of_lt hb)) x
 have hn₃:h₃.Ns C m:=(hns.at fun o x=>hk₁ _ o nCe nCi x).sameBut hs₂ nCe|>.at fun o x=>old₃ _ o (lt C xC) x
 refine aB (a8 (eF (gN rfl hn₃ (fun h₄ hn₄ hs₄=>?_) rfl)))
 replace hs₄:bY C h₃ h₄:=hs₄
 refine aB (a8 (eF (gN rfl hn₄ (fun h₅ hn₅ hs₅=>aE ?_) rfl)))
 replace hs₅:bY C h₄ h₅:=hs₅
 have up:∀b o,b≠C→b<s.heap.objs.size→h₂.get? b=some o→h₅.get? b=some o:=fun b o hbL hb x=>hs₅.extBut b o hbL (hs₄.extBut b o hbL (old₃ b o hb x))
 have he₅:IsEnum h₅ e it ((i+1:Nat):Int) (.int evs[i] t2):=by
  have:((i+1:Nat):Int)=(i:Int)+1:=by push_cast;rfl
  refine aM this ?_;exact up e _ (eH nCe) (lt e xe) he₂
 have hit₅:h₅.IsListIter it l (i+1):=(hit₁.extBut hs₂.extBut (eH nei)).at fun o x=>up it o (eH nCi) (lt it xit) x
 have kb:∀b o,b∉[C,e,it]→s.heap.get? b=some o→h₅.get? b=some o:=fun b o hbn x=>by
  simp only[bL,bR,or_false,not_or]at hbn
  exact up b o hbn.1 (eL x) (hs₂.extBut b o hbn.2.1 (hk₁ b o hbn.2.1 hbn.2.2 x))
 have mu:Mu V [C,e,it] s {s with heap:=h₅,toks:=s.toks+3}:=Mu.mk' kb fun b hb=>by
  replace hb:=m3 hb
  rcases(eK b7 (eK b7 b7)) hb with rfl|rfl|rfl
  ·exact vC
  ·exact ve
  ·exact vit
 have al₅:∀a∈[C,e,it],∃o,h₅.get? a=some o:=fun b hb=>by
  replace hb:=m3 hb
  rcases(eK b7 (eK b7 b7)) hb with rfl|rfl|rfl
  ·refine s9 hn₅ fun o j j e1 j=>?_;exact⟨o,e1⟩
  ·exact⟨_,he₅⟩
  ·refine bG hit₅ fun o e1 j=>?_;exact⟨o,e1⟩
 have mem3:∀b∈[C,e,it],b∈D::C::e::it::118::S₀.adrs:=fun b hb=>by
  simp only[bL,bR,or_false]at hb⊢
  rcases(eK b7 (eK b7 b7)) hb with rfl|rfl|rfl<;>simp
 have st₅:uC V (D::C::e::it::118::S₀.adrs) X₁ s₁ X' {s with heap:=h₅,toks:=s.toks+3}:=
  st.trans (M':=[C,e,it]) ⟨mu,fun j h=>h,fun j h j=>.inl h,mu.bd' st.bd al₅⟩ (fun b hb=>.inl (mem3 b hb)) hb.two mx
 generalize hs₅':({s with heap:=h₅,toks:=s.toks+3}:aH)=sd at*
 have hhd:sd.heap=h₅:=gU hs₅' rfl
 have nxd:Nx V X' s X' sd:=mu.nx fun b hb=>st.inc b (mx b (mem3 b hb))
 have al0:∀c∈S₀.adrs,∃o,s₁.heap.get? c=some o:=fun c hc=>hb.al c (H.sx c (aC _ hc))
 have notS:∀b,b∈X₁→b∉S₀.adrs→b∉S'.adrs:=fun b hb1 hb2 hc=>by
  rcases hA b hc with q|q
  ·exact hb2 q
  ·refine bK (hb.al b hb1) fun o e1=>?_;replace e1:=q▸e1;cases e1
 have n3:∀c∈S'.adrs,c∉[C,e,it]:=fun c hc q=>by
  replace q:=m3 q
  rcases(eK b7 (eK b7 b7)) q with rfl|rfl|rfl
  ·exact notS _ xC sC hc
  ·exact notS _ xe se hc
  ·exact notS _ xit sit hc
 have Id:eG prog w V X' sd.heap S':=I.at (fun c hc o e1=>mu.k.old c o (I.nV c hc) (n3 c hc) e1) (fun o e1=>mu.k.old 118 o I.tV (fun q=>by
  replace q:=m3 q
  rcases q with q|q|q
  ·exact n8C q.symm
  ·exact n8e q.symm
  ·exact n8i q.symm) e1) (cS nxd) fun j h=>h
 have nx₅:Nx V X₁ s₁ X' sd:=st₅.nx mx
 have ci:sd.heap.IsCell (L+1) (some (.ref S'.a)):=by
  refine aM hd.a ?_
  refine bG hi0 fun o e1 r=>?_
  exact⟨o,st₅.keep_get hcV hcM e1,r⟩
 refine oL (T evs[i]) fun p q T'=>?_
 refine jM (hd.sz H.bks) fun z1 z2 z3=>?_
 have zl:(evs.take i).length=i:=by refine aM f8 ?_;exact jX hle
 rw[zl]at z1 z2 z3
 refine GF (n:=n) po (kw.nx nx₅) R hfr fv st₅.bd (st₅.s2 hb.two x2) (bm.keeps (cS nx₅)) Id T' (by have:=z1.n;exact aD (aD this hle) hn) (fun b hb=>by have:=(z1.b b hb).sh;exact aD (aD this hle) hn) (fun b hb z hz=>by have:=(z1.b b hb).pl z hz;exact aD (aD this hle) hn) ci hcV (hhd▸hn₅) H.C2 rfl rfl fun v s' X'' S'' told st' I' Dr hT hA'=>?_
 have zS:∀c∈118::S'.adrs,c∈D::C::e::it::118::S₀.adrs∨s₁.heap.get? c=none:=fun c hc=>by
  rcases nR hc with rfl|hc
  ·exact .inl (by simp)
  ·rcases hA c hc with q|q
   ·exact .inl (by simp[q])
   ·exact .inr q
 have st₆:=st₅.trans st' zS hb.two mx
 have no118:∀b,b≠118→b∈X₁→b∉S₀.adrs→b∉118::S'.adrs:=fun b h1 h2 h3 q=>(nR q).elim h1 (notS b h2 h3)
 have hpd:sd.heap.PlainList D ys:=hp.at fun o e1=>mu.k.old D o vD (by simp[nDC,nDe,nDi]) e1
 have hp':s'.heap.PlainList D ys:=hpd.at fun o e1=>st'.keep_get vD (no118 D n8D xD sD) e1
 have nx':Nx V X' sd X'' s':=st'.nx fun b hb=>(nR hb).elim (fun q=>q▸Id.tx) (Id.xa b)
 have ha':=(ha.nx nxd).nx nx'
 have yl:ys.size=i:=by
  have:=ha.length
  rw[aQ,z2]at this
  exact this
 refine .any (lH hp' (fun h₇ hp₇ hs₇=>?_) (by refine aM yl (aM bV ?_);exact bA (cK (aO hi hn) (by decide))))
 have mu₇:Mu V [D] s' {s' with heap:=h₇}:=iK vD hs₇
 have xD':D∈X'':=st'.inc _ (st.inc _ xD)
 have nx₇:Nx V X'' s' X'' {s' with heap:=h₇}:=mu₇.nx fun b hb=>by replace hb:=kQ hb;exact hb▸xD'
 have st₇:uC V (D::C::e::it::118::S₀.adrs) X₁ s₁ X'' {s' with heap:=h₇}:=
  st₆.trans (M':=[D]) ⟨mu₇,fun j h=>h,fun j h j=>.inl h,mu₇.bd' st₆.bd fun b hb=>by simp at hb;obtain rfl:=hb.symm;refine bK hp₇ fun j e1=>?_;exact⟨_,e1⟩⟩ (fun b hb=>.inl (by simp at hb;simp[hb])) hb.two mx
 have ad':∀c∈S''.adrs,c∈S₀.adrs∨s₁.heap.get? c=none:=fun c hc=>by
  rcases hA' c hc with q|q
  ·exact hA c q
  ·refine .inr ?_
   by_cases hV:c∈V
   ·exact absurd hV (I'.nV c hc)
   ·by_cases hm:c∈D::C::e::it::118::S₀.adrs
    ·refine bK (st₅.bd.al c (st₅.inc c (mx c hm))) fun o e1=>?_
     replace e1:=q▸e1;cases e1
    ·cases e1:s₁.heap.get? c with
     |none=>rfl
     |some o=>replace q:=(st₅.keep_get hV hm e1)▸q;cases q
 have nD'':D∉S''.adrs:=fun hc=>by
  rcases ad' D hc with q|q
  ·exact sD q
  ·refine bK (hb.al D xD) fun o e1=>?_;replace e1:=q▸e1;cases e1
 have kk7:∀{b:Addr},b∉V→b≠D→b∉118::S'.adrs→∀o,sd.heap.get? b=some o→h₇.get? b=some o:=fun{b} h1 h2 h3 o e1=>hs₇.extBut b o h2 (st'.keep_get h1 h3 e1)
 rw[←hhd]at he₅ hit₅ hn₅
 refine⟨X'',S'',ts++[told],ys.push v,_,_,st₇,I'.at (fun c hc o e1=>hs₇.extBut c o (fun q=>nD'' (q▸hc)) e1) (fun o e1=>hs₇.extBut 118 o (eH n8D) e1) (cS nx₇) (fun j h=>h),ad',kk7 ve (eH nDe) (no118 e n8e xe se) _ he₅,hit₅.at fun o=>kk7 vit (eH nDi) (no118 it n8i xit sit) o,hp₇,?_,hn₅.at fun o=>kk7 vC (eH nDC) (no118 C n8C xC sC) o,?_,hi⟩
 ·refine aM Array.toList_push (aM bB ?_)
  exact((ha'.append (cA.cons hT.is .nil))).nx nx₇
 ·refine aM (List.take_succ_eq_append_getElem hi) ?_
  have:=tY.snoc hd (x:=evs[i]) (t:=told) (S':=S'') (by refine aM zl ?_;exact Dr)
  exact this
end
section
variable {S₀:iD} {nmF vtF:Int→Str}
theorem mL.less{h:Heap}{b:Bk}(x:mL prog w V X h b)(i:∀a∈X',a∈X)(hx:∀c∈b.adrs,c∈X'):mL prog w V X' h b:=
 ⟨x.bk,x.dc,fun v e=>bG (x.fz v e) fun f a c=>⟨f,a,c.keeps (mJ i)⟩,x.sh,hx,x.nV,x.ns,x.nd⟩
theorem eG.less{h:Heap}{S:iD}(x:eG prog w V X h S)(i:∀a∈X',a∈X)(hx:∀c∈S.adrs,c∈X')(h8:118∈X'):eG prog w V X' h S:=
 ⟨x.bk,x.dc,fun v e=>bG (x.fz v e) fun f a c=>⟨f,a,c.keeps (mJ i)⟩,x.lw.keeps (mJ i),fun b hb=>(x.bks b hb).less i fun c hc=>hx c (j5 hb hc),hx,x.nV,x.ns,x.nd,by
  rcases x.t with e|⟨c,e,y⟩
  ·exact .inl e
  ·exact .inr ⟨c,e,y.keeps (mJ i)⟩,h8,x.tV,x.tn⟩
end
section
variable {S₀:iD} {nmF vtF:Int→Str}
set_option maxHeartbeats 1000000 in
theorem Ev{n:Nat}{fr:List Env}{L:Addr}{p1 p2 p3 p4 p5 p6 p7 p8 p9 pa pb py pos spos:Pos}{kk:Nat}{ev:aG}{Q:Flow→aH→Prop}(po:sF prog)(hh:A.handled=none)(kw:KW V (kz w) mg mb X s.heap)(R:dK A (n+20))(hfr:A.frames=some fr)(fv:Cu V fr)(hb:Bd V X s)(x2:S2 w s.heap)
  (bm:Bm mg (hideAll s.heap (V++X)))(T:∀x,∃p q,sR x (nmF x) (vtF x) p q)(hn:evs.length≤900)(I:eG prog w V X s.heap S₀)(hS:S₀.bks=[])(hev:Is V X s.heap ev (.list (evs.map .int)))(hm:m (aA "events")=some ev)(hns:s.heap.Ns L m)(hL2:L≠2)(hLX:L∈X)(hLS:L∉118::S₀.adrs)
  (hi0:s.heap.IsCell (L+1) (some (.ref S₀.a)))(hcV:L+1∉V)(hcX:L+1∈X)(hcS:L+1∉118::S₀.adrs)
  (hsw:swapsWith (.ListComp (.Call (.Name (aA "_law_deed") p1) [.Name (aA "index") p2,.Name (aA "place") p3,.Name (aA "x") p4] [] p5) [⟨.Tuple [.Name (aA "place") p6,.Name (aA "x") p7] kk p8,.Call (.Name (aA "enumerate") p9) [.Name (aA "events") pa] [] pb,[],0⟩] tZ pos) (some (.Name (aA "told") py)) spos.line (cJ L)=pure true)
  (q:∀D s' X' S' ts,uC V (L::118::S₀.adrs) X s X' s'→eG prog w V X' s'.heap S'→(∀c∈S'.adrs,c∈S₀.adrs∨s.heap.get? c=none)→tY nmF (fun x=>keyOf (fE (vtF x).cps.toList)) S₀ evs ts S'→Is V X' s'.heap (.ref D) (.list (ts.map r0))→s'.heap.Ns L (fun z=>if z=aA "told" then some (.ref D)else m z)→Q .next s'):
  WC prog w A (exec (.Assign [.Name (aA "told") py] (.ListComp (.Call (.Name (aA "_law_deed") p1) [.Name (aA "index") p2,.Name (aA "place") p3,.Name (aA "x") p4] [] p5) [⟨.Tuple [.Name (aA "place") p6,.Name (aA "x") p7] kk p8,.Call (.Name (aA "enumerate") p9) [.Name (aA "events") pa] [] pb,[],0⟩] tZ pos) spos) (cJ L)) Q E s:=by
 refine aM (qC _ _ _ _ hsw) ?_
 refine .standAt (.bind ?_)
 refine .bind ((rX (use:=some (assign (.Name (aA "told") py) (cJ L))) (Q:=fun j s'=>Q .next s') rfl (fun j=>rfl) (Ew L) rfl (by decide+kernel) ?_).monoQ fun j s' hq=>.pure (.pure hq))
 refine pF (he:=by rfl) ((kF (x:=aA "enumerate") (v:=.type "enumerate") kw).run hb fun f sa ka hf=>?_)
 cases (hf:f= .type "enumerate")
 refine kZ (by rfl) (iM ((aT (eQ (.loc hL2 (keeps_ns ka hL2 hns) hm rfl)) bF).run (hb.keeps ka) fun vs sb kb hvs=>?_))
 (refine bG (mN hvs) fun v1 e_0=>?_;subst e_0;refine fun hv1=>?_)
 cases (hv1:v1=ev)
 have kab:=aN ka kb
 have hevb:=hev.keep (a7 kab)
 (refine oX hevb.of_list' fun l vs e_0=>?_;subst e_0;refine fun hlX hl hall=>?_)
 refine call_enumerate_list hl fun h3 he3 hit3 hz3 hk3=>?_
 refine wpAny_pyIter_enum he3 ?_
 refine c8 (rO (own:=none) (fun j=>rfl) (fun j=>rfl) ?_)
 generalize hN:sb.heap.objs.size=N at*
 have kP:Keeps V sb {sb with heap:=h3}:=gW hk3
 have k1:Keeps V s {sb with heap:=h3}:=aN kab kP
 generalize hD:h3.objs.size=D at*
 generalize hH:h3.push {cls:=.type "list",data:=.seq ([]:List aG).toArray}=H
 have hHs:H.objs.size=D+1:=by(refine gU hH ?_;rewrite[fZ];exact aM hD rfl)
 generalize hC:H.objs.size=C at*
 generalize hG:qO none (H.push {cls:=.type "dict",data:=.dict #[]})=G
 have upH:∀b o,h3.get? b=some o→H.get? b=some o:=fun b o e=>hH▸aP _ e
 have upG:∀b o,H.get? b=some o→G.get? b=some o:=fun b o e=>hG▸aP _ e
 have up:∀b o,h3.get? b=some o→G.get? b=some o:=fun b o e=>upG b o (upH b o e)
 have gD:G.PlainList D #[]:=⟨0,upG _ _ (by refine gU hH (gU hD ?_);exact aW _ rfl)⟩
 have gC:G.get? C=some {cls:=.type "dict",data:=.dict #[]}:=by refine gU hG (gU hC ?_);exact aW _ rfl
 have nC:G.Ns C fun j=>none:=⟨_,#[],0,gC,rfl,fun j he=>by simp at he,fun j=>rfl⟩
 dsimp only
 refine(?_:CC prog w A (.compStart _ 0 (.ref (N+1)) (.ref D) (w9 L C)) _ {sb with heap:=G})
 have kG:Keeps V s {sb with heap:=G}:=aN k1 (gW (s:={sb with heap:=h3}) up)
 have fr:∀b,N≤b→s.heap.get? b=none:=fun b hbn=>fQ kab hb.two (gB (hN▸hbn))
 have frN:=fr N (bO _)
 have frN1:=fr (N+1) (gT _)
 have frD:=fr D (aD (bN _ _) (aU hz3.symm))
 have frC:=fr C (aD (aD (aD (bN _ _) (aU hz3.symm)) (bN _ _)) (aU hHs.symm))
 have inX:∀b,s.heap.get? b=none→b∉X:=fun b e q=>by refine bK (hb.al b q) fun o e'=>?_;replace e':=e▸e';nomatch e'
 have heG:IsEnum G (N+1) N 0 .none:=up _ _ he3
 have hitG:G.IsListIter N l 0:=hit3.at fun o e=>up _ o e
 generalize hs1:({sb with heap:=G}:aH)=s₁ at*
 have hh1:s₁.heap=G:=gU hs1 rfl
 rw[←hh1]at gD nC heG hitG
 have wle:gM V X s (D::C::(N+1)::N::X) s₁:=⟨kG,fun a h=>by simp[h],fun a h j=>by
  simp only[bL]at h
  rcases h with rfl|rfl|rfl|rfl|h
  ·exact .inr frD
  ·exact .inr frC
  ·exact .inr frN1
  ·exact .inr frN
  ·exact .inl h⟩
 have nx:=wle.nx
 have hb₁:Bd V (D::C::(N+1)::N::X) s₁:=by
  refine bK gD fun nd gD'=>?_
  refine bG (id hitG) fun o eI j=>?_
  refine s9 (id nC) fun oc j j eC j=>?_
  exact(((hb.keeps kG).cons eI|>.cons heG).cons eC).cons gD'
 have I₁:=I.wle wle
 have al0:∀c∈118::S₀.adrs,c∈X:=fun c hc=>(nR hc).elim (fun q=>q▸I.tx) (I.xa c)
 have nS:∀b,s.heap.get? b=none→b∉S₀.adrs∧b≠118:=fun b e=>⟨fun h=>inX b e (al0 b (aC _ h)),fun h=>inX b e (al0 b (h▸aF))⟩
 have lV:l∉V:=fun q=>hlX (aL _ q)
 have lX:l∉X:=fun q=>hlX (aJ _ q)
 have lG:s₁.heap.IsList l vs.toArray:=hl.at fun o e=>hh1▸up l o (hk3 l o e)
 have lold:l<N:=by refine bG hl fun o e j=>?_;refine gU hN ?_;exact eL e
 replace lold: @LT.lt Nat instLTNat l N:=lold
 have nat:∀{a b:Nat},(a<b∨b<a)→a≠b:=fun h=>by exact h.elim eZ jA
 have ts:TS prog w V s₁ (D::C::(N+1)::N::X) S₀ D C (N+1) N l evs vs.toArray:={
  v:=⟨hb.two.ne frD,hb.two.ne frC,hb.two.ne frN1,hb.two.ne frN,lV⟩
  x:=⟨aF,.tail _ (.head _),.tail _ (.tail _ (.head _)),.tail _ (.tail _ (.tail _ (.head _))),fun q=>by
   simp only[bL]at q
   rcases q with q|q|q|q|q
   ·exact nat (a:=l) (b:=D) (Or.inl (aO (aO lold (bN _ _)) (aU hz3.symm))) q
   ·exact nat (a:=l) (b:=C) (Or.inl (aO (cK (aO (aO lold (bN _ _)) (aU hz3.symm)) (cI _)) (aU hHs.symm))) q
   ·exact nat (a:=l) (b:=N+1) (Or.inl (cK lold (cI _))) q
   ·exact nat (a:=l) (b:=N) (Or.inl lold) q
   ·exact lX q⟩
  ne:=⟨nat (a:=D) (b:=C) (Or.inl (aO (cI _) (aU hHs.symm))),nat (a:=D) (b:=N+1) (by(exact Or.inr (by refine aM (show D=N+2 from by assumption) ?_;exact cI _))),nat (a:=D) (b:=N) (Or.inr (aO (kM (by decide)) (aU hz3.symm))),nat (a:=C) (b:=N+1) (Or.inr (aO (aR (aD (mB (kM (by decide))) (aU hz3.symm)) (cI _)) (aU hHs.symm))),nat (a:=C) (b:=N) (Or.inr (aO (aR (aD (bN _ _) (aU hz3.symm)) (cI _)) (aU hHs.symm))),nat (a:=N+1) (b:=N) (Or.inr (cI _))⟩
  s:=⟨(nS _ frD).1,(nS _ frC).1,(nS _ frN1).1,(nS _ frN).1⟩
  n8:=⟨(nS _ frD).2,(nS _ frC).2,(nS _ frN1).2,(nS _ frN).2⟩
  C2:=hb.two.ne2 frC
  sx:=fun c hc=>by simp[al0 c hc]
  list:=lG
  its:=by
   have h2:=hall
   have k2:Keeps V sb s₁:=by refine gU hs1 ?_;exact aN kP (gW (s:={sb with heap:=h3}) up)
   have w2:gM V X sb (D::C::(N+1)::N::X) s₁:=⟨k2,fun a h=>by simp[h],fun a h j=>by
    simp only[bL]at h
    rcases(eK b7 (eK b7 (eK b7 (eK b7 id)))) h with rfl|rfl|rfl|rfl|h
    ·exact .inr (gB (aD (aD (aU hN) (bN _ _)) (aU hz3.symm)))
    ·exact .inr (gB (aD (aD (aD (aD (aU hN) (bN _ _)) (aU hz3.symm)) (bN _ _)) (aU hHs.symm)))
    ·exact .inr (gB (aD (aU hN) (bN _ _)))
    ·exact .inr (gB (aU (by assumption)))
    ·exact .inl h⟩
   exact h2.nx w2.nx
  bks:=hS}
 have hcM:L+1∉D::C::(N+1)::N::118::S₀.adrs:=fun q=>by
  have hc1:s.heap.get? (L+1)≠none:=by refine bG hi0 fun o e j=>?_;refine aM e ?_;simp
  simp only[bL]at q
  rcases q with q|q|q|q|q
  ·exact hc1 (q▸frD)
  ·exact hc1 (q▸frC)
  ·exact hc1 (q▸frN1)
  ·exact hc1 (q▸frN)
  ·exact hcS (by with_reducible exact List.mem_cons.mpr q)
 have hi1:s₁.heap.IsCell (L+1) (some (.ref S₀.a)):=by refine bG hi0 fun o e r=>?_;exact⟨o,a7 kG _ _ hcV e,r⟩
 have t0:TI prog w V nmF (fun x=>keyOf (fE (vtF x).cps.toList)) s₁ (D::C::(N+1)::N::X) S₀ D C (N+1) N l evs (D::C::(N+1)::N::X) S₀ [] #[] .none (fun j=>none) 0 s₁:=
  ⟨.of_keeps hb₁ (cE _),I₁,fun c hc=>.inl hc,heG,hitG,gD,.nil,nC,by refine aM List.take_zero ?_;exact .nil,bX _⟩
 refine vR (i5 rfl rfl) ?_ fun E'=>wpAny_pyIter_enum heG ⟨rfl,rfl⟩
 refine wU evs.length (fun i s=>∃X' S' ts ys old m,TI prog w V nmF (fun x=>keyOf (fE (vtF x).cps.toList)) s₁ (D::C::(N+1)::N::X) S₀ D C (N+1) N l evs X' S' ts ys old m i s) ?_ ?_ ⟨_,_,_,_,_,_,t0⟩ (i5 rfl rfl)
 ·(intro i s' hi q_1 E';refine Kz q_1 fun X' S' ts' ys old m' J=>?_)
  exact Eu (n:=n) (c:=0) ts po hh (kw.nx nx) R hfr fv hb₁ (x2.at fun o=>(dA kG).o2 hb.two.two o) (bm.keeps (cS nx)) T hn hi1 hcV hcM hi J
 ·(intro s' q_2 E';refine Kz q_2 fun X' S' ts' ys old m' J=>?_)
  obtain⟨st,I',hA,he,hit,hp,ha,hnC,hd,hle⟩:=J
  replace hd:=jC▸hd
  have mx:=ts.mx
  have nDV:=ts.v.1
  have hl':s'.heap.IsList l vs.toArray:=by
   refine bG lG fun o e1 r=>?_
   exact⟨o,st.keep_get lV (fun q=>ts.x.2.2.2.2 (mx l q)) e1,r⟩
  refine .any (wpAny_pyNext_enum_end hh he hit hl' (by have:=ts.size;rw[g7];exact aU (by assumption)) fun h4 hx4=>⟨rfl,_,rfl,?_⟩)
  have LM:L∉D::C::(N+1)::N::118::S₀.adrs:=fun q=>by
   have hc1:s.heap.get? L≠none:=by refine s9 hns fun o j j e j=>?_;refine aM e ?_;simp
   simp only[bL]at q
   rcases q with q|q|q|q|q
   ·exact hc1 (q▸frD)
   ·exact hc1 (q▸frC)
   ·exact hc1 (q▸frN1)
   ·exact hc1 (q▸frN)
   ·exact hLS (by with_reducible exact List.mem_cons.mpr q)
  have LN:∀b,s.heap.get? b=none→L≠b:=fun b e q=>by refine s9 hns fun o j j e' j=>?_;rw[q,e]at e';nomatch e'
  have nsL:h4.Ns L m:=(st.mu.ns hL2 LM (keeps_ns kG hL2 hns)).at fun o e=>hx4 L o (LN N frN) e
  refine eF (gN rfl nsL (fun h5 hn5 hs5=>?_) rfl)
  replace hs5:bY L h4 h5:=hs5
  have nC4:h4.Ns C m':=hnC.at fun o e=>hx4 C o (eH (ts.ne.2.2.2.2.1.symm)) e
  refine⟨m',nC4.sameBut hs5 (eH (LN C frC)),fun h6 hs6=>?_⟩
  replace hs6:bY C h5 h6:=hs6
  have k6:∀b o,b∉[N,L,C]→s'.heap.get? b=some o→h6.get? b=some o:=fun b o hbn e=>by
   simp only[bL,bR,or_false,not_or]at hbn
   exact hs6.extBut b o hbn.2.2 (hs5.extBut b o hbn.2.1 (hx4 b o hbn.1 e))
  have hne6:h6.Ns L (fun z=>if z=aA "told" then some (.ref D)else(m z)):=hn5.sameBut hs6 (LN C frC)
  have D6:h6.PlainList D ys:=hp.at fun o e=>k6 D o (by
   simp only[bL,bR,or_false,not_or]
   exact⟨ts.ne.2.2.1,fun q=>LN D frD q.symm,ts.ne.1⟩) e
  have MB:Mu V [N,L,C] s' {s' with heap:=h6,toks:=s'.toks+1}:=by
   have m1:Mu V [N] s' {s' with heap:=h4}:=Mu.mk' (tk:=s'.toks) (fun b o hbn e=>hx4 b o (by with_reducible exact mt List.mem_singleton.mpr hbn) e) fun b hb'=>by replace hb':=kQ hb';obtain rfl:=hb'.symm;exact hb.two.ne frN
   have m2:Mu V [L] {s' with heap:=h4} {s' with heap:=h5,toks:=s'.toks+1}:=AR (s:={s' with heap:=h4}) hL2 hn5 hs5
   have m3:Mu V [C] {s' with heap:=h5,toks:=s'.toks+1} {s' with heap:=h6,toks:=s'.toks+1}:=iK (s:={s' with heap:=h5,toks:=s'.toks+1}) (hb.two.ne frC) hs6
   exact((m1.more fun a h=>by simp at h;simp[h]).trans (m2.more fun a h=>by simp at h;simp[h])).trans (m3.more fun a h=>by simp[h])
  have inX':∀a∈X,a∈X':=fun a h=>st.inc a (by simp[h])
  have hM3:∀b∈[N,L,C],b∈X':=fun b hb'=>by
   replace hb':=m3 hb'
   rcases(eK b7 (eK b7 b7)) hb' with rfl|rfl|rfl
   ·exact st.inc _ (.tail _ (.tail _ (.tail _ (.head _))))
   ·exact inX' _ hLX
   ·exact st.inc _ (.tail _ (.head _))
  have nx6:Nx V X' s' X' {s' with heap:=h6,toks:=s'.toks+1}:=MB.nx hM3
  have nS3:∀c∈S'.adrs,c∉[N,L,C]∧c≠D:=fun c hc=>by
   rcases hA c hc with q|q
   ·have hcX:s.heap.get? c≠none:=by refine bK (hb.al c (I.xa c q)) fun o e=>?_;refine aM e ?_;simp
    refine⟨fun q'=>?_,fun q'=>hcX (q'▸frD)⟩
    replace q':=m3 q'
    rcases q' with q'|q'|q'
    ·exact hcX (q'▸frN)
    ·exact hLS (q'▸aC _ q)
    ·exact hcX (q'▸frC)
   ·refine⟨fun q'=>?_,fun q'=>by refine bK (hb₁.al D (aF)) fun o e=>?_;rw[←q',q]at e;nomatch e⟩
    replace q':=m3 q'
    rcases q' with q'|q'|q'
    ·refine bK (hb₁.al N (.tail _ (.tail _ (.tail _ (.head _))))) fun o e=>?_;rw[←q',q]at e;nomatch e
    ·refine bK (hb₁.al L (by simp[hLX])) fun o e=>?_;rw[←q',q]at e;nomatch e
    ·refine bK (hb₁.al C (.tail _ (.head _))) fun o e=>?_;rw[←q',q]at e;nomatch e
  have I6:eG prog w V X' h6 S':=I'.at (fun c hc o e=>k6 c o (nS3 c hc).1 e) (fun o e=>k6 118 o (fun q'=>by
   replace q':=m3 q'
   rcases q' with q'|q'|q'
   ·exact(nS _ frN).2 q'.symm
   ·exact hLS (q'▸aF)
   ·exact(nS _ frC).2 q'.symm) e) (cS nx6) fun j h=>h
  have sub:∀a∈X'.filter (fun a=>decide (a≠D∧a≠N∧a≠C)),a∈X':=fun a h=>(D1 h).1
  have mem:∀a∈X',a≠D∧a≠N∧a≠C→a∈X'.filter (fun a=>decide (a≠D∧a≠N∧a≠C)):=fun a h hne=>List.mem_filter.mpr ⟨h,by with_reducible exact decide_eq_true hne⟩
  have muT:Mu V (D::C::(N+1)::N::L::118::S₀.adrs) s {s' with heap:=h6,toks:=s'.toks+1}:=
   ((Mu.of_keeps kG).trans (st.mu.more fun a h=>by simp only[bL]at h⊢;grind)).trans (MB.more fun a h=>by simp only[bL,bR,or_false]at h⊢;grind)
  have bd6:∀a∈X',a≠D∧a≠N∧a≠C→∃o,h6.get? a=some o:=fun a h hne=>by
   by_cases haL:a=L
   ·refine s9 hne6 fun o j j e j=>?_;exact⟨o,haL▸e⟩
   ·by_cases hV:a∈V
    ·refine bG ((MB.two st.bd.two).al a hV) fun o e j=>?_;exact⟨o,e⟩
    ·refine bK (st.bd.al a h) fun o e=>?_
     exact⟨o,k6 a o (by simp[hne.2.1,haL,hne.2.2]) e⟩
  have nS0:∀a,s.heap.get? a≠none→a≠D∧a≠N∧a≠C:=fun a h=>⟨fun q'=>h (q'▸frD),fun q'=>h (q'▸frN),fun q'=>h (q'▸frC)⟩
  have nX0:∀a∈X,a≠D∧a≠N∧a≠C:=fun a h=>nS0 a (by refine bK (hb.al a h) fun o e=>?_;refine aM e ?_;simp)
  refine q D _ (X'.filter fun a=>decide (a≠D∧a≠N∧a≠C)) S' ts' ⟨?_,fun a h=>mem a (inX' a h) (nX0 a h),fun a h hV=>?_,⟨fun a h=>bd6 a (sub a h) (by with_reducible exact of_decide_eq_true (D1 h).2),MB.two st.bd.two⟩⟩ (I6.less sub (fun c hc=>mem c (I'.xa c hc) ⟨(nS3 c hc).2,fun q'=>(nS3 c hc).1 (by simp[q']),fun q'=>(nS3 c hc).1 (by simp[q'])⟩) (mem 118 I'.tx (nX0 118 I.tx))) (fun c hc=>?_) hd ?_ hne6
  ·exact Mu.less (N:=[D,C,N+1,N]) (muT.more fun a h=>by grind) fun b hb'=>by
    simp only[bL,bR,or_false]at hb'
    rcases(eK b7 (eK b7 (eK b7 b7))) hb' with rfl|rfl|rfl|rfl
    ·exact frD
    ·exact frC
    ·exact frN1
    ·exact frN
  ·rcases st.new a (sub a h) hV with q'|q'
   ·exact wle.new a q' hV
   ·exact .inr (fQ kG hb.two q')
  ·exact(hA c hc).imp id fun e=>fQ kG hb.two e
  ·refine bK D6 fun nn eD=>?_
   refine Is.list (fun q'=>?_) eD rfl rfl ((ha.nx nx6).less sub)
   rcases eX q' with q'|q'
   ·exact nDV q'
   ·have:=(D1 q').2
    simp at this
end
theorem HS(w:cN):findIn (kz w) (.ref 126) "items"=some (some (.builtin "dict.items")):=by kernel_rfl
theorem Fm(w:cN):findIn (kz w) (.ref 126) "values"=some (some (.builtin "dict.values")):=by kernel_rfl
theorem DD:typeOf (.builtin "dict.items")=pure (.type "method_descriptor"):=by refine aM n9 ?_;kernel_rfl
theorem B8:typeOf (.builtin "dict.values")=pure (.type "method_descriptor"):=by refine aM n9 ?_;kernel_rfl
section
variable {a d:Addr} {name:Str} {v:aG}
theorem Cd{i:String}{pl:Sem Bool}{Q:aG×List aG→aH→Prop}(X:(kz w).In s.heap)(I:InstAt s.heap a ox 126 od)
  (hf:findIn (kz w) (.ref 126) name=some (some (.builtin i)))(ht:typeOf (.builtin i)=pure (.type "method_descriptor"))(hs:shadowIn od name=some false)(h:Q (.builtin i,[.ref a]) s):
  wpAny (model prog w) A (getMethod (.ref a) name pl) Q E s:=by
 refine aB (aB (I.type.here ((dW X (Eb w)).here ?_)))
 dsimp only
 refine aM wG (aM (if_neg (by decide)) ?_)
 refine aB (aB (I.type.here ((dW X (BL w)).here ?_)))
 refine aB (aB (I.type.here ((dW X hf).here (aB (bE ht ?_)))))
 refine aM (if_neg (by decide+kernel)) ?_
 refine aB (lF I.at_ ?_)
 have hd:=I.dict
 cases e:ox.dict with
 |none=>exact aB (fT (aE h))
 |some dx=>
  cases od with
  |none=>replace hd:=e▸hd;exact hd.elim
  |some o=>
   replace hd:=e▸hd
   refine bG (Option.map_eq_some_iff.mp hs) fun r a b=>?_
   refine aB (aB (lF hd ?_))
   refine aM (nsLook_of a) ?_
   refine aE ?_
   refine aM b ?_
   exact aB (fT (aE h))
end
section
variable {a d:Addr} {name:Str} {v:aG}
theorem Di{Q:aG→aH→Prop}(kin:(kz w).In s.heap)(I:InstAt s.heap a (fY d es ep fac) 126 od)(ns:a≠sysModules)
  (q:Q (.ref s.heap.objs.size) {s with heap:=s.heap.push {cls:=.type "dict_items",data:=.fields #[.ref a]}}):wpAny (model prog w) A (call (.builtin "dict.items") [.ref a]) Q E s:=by
 have L0:=I.type (M:=model prog w)
 have hi:dT (model prog w) s.heap (isInstance (.ref a) (.type "dict")) true:=L0.andThen (jT kin)
 have ho:dT (model prog w) s.heap (isInstance (.ref a) (.type "collections.OrderedDict")) false:=L0.andThen (oZ kin)
 obtain⟨hp,g,dr,tk,os⟩:=s
 refine dR (cM F.slot_dict_items.plain F.entry_dict_items ?_)
 refine @uX (model prog w) _ _ _ "dict.items" "dict" "items" (.ref a) [] [] _ (by decide+kernel) (by decide+kernel) hi (F.args_dict_items_1 _) ?_
 unfold Builtin.«dict.items» Builtin.Dict.noArgs q8
 refine aB (aB ?_)
 refine aM (if_pos (by decide)) ?_
 refine aB (L0.at ?_)
 refine aM (if_pos (by decide)) ?_
 refine aB (ho.at ?_)
 refine aM (if_neg (by decide)) ?_
 refine aE ?_
 refine bE (a:=a) (by rfl) ?_
 unfold Builtin.Dict.showsAll
 refine aB ?_
 refine aM (if_neg (by simpa using ns)) ?_
 refine aE ?_
 exact aB (c8 (aE q))
theorem B7{Q:aG→aH→Prop}(kin:(kz w).In s.heap)(I:InstAt s.heap a (fY d es ep fac) 126 od)(ns:a≠sysModules)
  (q:Q (.ref s.heap.objs.size) {s with heap:=s.heap.push {cls:=.type "dict_values",data:=.fields #[.ref a]}}):wpAny (model prog w) A (call (.builtin "dict.values") [.ref a]) Q E s:=by
 have L0:=I.type (M:=model prog w)
 have hi:dT (model prog w) s.heap (isInstance (.ref a) (.type "dict")) true:=L0.andThen (jT kin)
 have ho:dT (model prog w) s.heap (isInstance (.ref a) (.type "collections.OrderedDict")) false:=L0.andThen (oZ kin)
 obtain⟨hp,g,dr,tk,os⟩:=s
 refine dR (cM F.slot_dict_values.plain F.entry_dict_values ?_)
 refine @uX (model prog w) _ _ _ "dict.values" "dict" "values" (.ref a) [] [] _ (by decide+kernel) (by decide+kernel) hi (F.args_dict_values_1 _) ?_
 refine(?_:wpAny _ _ (Builtin.Dict.noArgs "values" ⟨[.ref a],[]⟩>>=_) _ _ _)
 unfold Builtin.Dict.noArgs q8
 refine aB (aB ?_)
 refine aM (if_pos (by decide)) ?_
 refine aB (L0.at ?_)
 refine aM (if_pos (by decide)) ?_
 refine aB (ho.at ?_)
 refine aM (if_neg (by decide)) ?_
 refine aE ?_
 refine bE (a:=a) (by rfl) ?_
 unfold Builtin.Dict.showsAll
 refine aB ?_
 refine aM (if_neg (by simpa using ns)) ?_
 refine aE ?_
 exact aB (c8 (aE q))
end
section
variable {a d v:Addr}
noncomputable abbrev nQ(h:Heap)(it d:Addr)(i n ep:Nat):Prop:=
 h.get? it=some {cls:=.type "dict_valueiterator",dict:=none,data:=.fields #[.ref d,.int i 0,.int n 0,.int ep 0],slots:=#[]}
theorem Dh{Q:aG→aH→Prop}(hv:s.heap.get? v=some {cls:=.type "dict_items",data:=.fields #[.ref a]})(ho:s.heap.get? a=some o)(hd:o.data= .dict es ep)
  (q:Q (.ref s.heap.objs.size) {s with heap:=s.heap.push {cls:=.type "dict_itemiterator",data:=.fields #[.none,.bool false,.ref a,.int 0 0,.int es.size 0,.int ep 0,.none,.none]}}):
  wpAny (model prog w) A (pyIter (.ref v)) Q E s:=by
 have hT:s.TypeIs (.ref v) "dict_items":=⟨_,hv,rfl⟩
 refine pO hT F.slot_dict_items_iter (dB F.slot_dict_items_iter hT F.entry_dict_items_iter ?_ (F.args_dict_items_iter_1 _))
 refine aB (aE (aB ?_))
 refine aB (gJ hv rfl (x:=.ref a) rfl (aE (aB ?_)))
 refine aB (fV ho hd (aB (i9 ho hd ?_)))
 have hown:Builtin.Dict_items.ownsTuple "dict_itemiterator"=true:=by decide
 simp only[hown,if_true,jI,if_false]
 refine c8 (aE ⟨_,rfl,"dict_itemiterator",_,⟨_,aW _ rfl,rfl⟩,F.slot_dict_itemiterator_next.lookup,?_⟩)
  (by simp only[sizeOk,rU,jY,b4,d6,List.length_nil,bV];decide)
 simpa[rawInt,rU]using q
theorem C3{Q:aG→aH→Prop}(hv:s.heap.get? v=some {cls:=.type "dict_values",data:=.fields #[.ref a]})(ho:s.heap.get? a=some o)(hd:o.data= .dict es ep)
  (q:Q (.ref s.heap.objs.size) {s with heap:=s.heap.push {cls:=.type "dict_valueiterator",data:=.fields #[.ref a,.int 0 0,.int es.size 0,.int ep 0]}}):
  wpAny (model prog w) A (pyIter (.ref v)) Q E s:=by
 have hT:s.TypeIs (.ref v) "dict_values":=⟨_,hv,rfl⟩
 refine pO hT F.slot_dict_values_iter (dB F.slot_dict_values_iter hT F.entry_dict_values_iter ?_ (F.args_dict_values_iter_1 _))
 refine aB (aE (aB ?_))
 refine aB (gJ hv rfl (x:=.ref a) rfl (aE (aB ?_)))
 refine aB (fV ho hd (aB (i9 ho hd ?_)))
 have hown:Builtin.Dict_items.ownsTuple "dict_valueiterator"=false:=by decide
 simp only[hown,jI,if_false]
 refine c8 (aE ⟨_,rfl,"dict_valueiterator",_,⟨_,aW _ rfl,rfl⟩,F.slot_dict_valueiterator_next.lookup,?_⟩)
  (by simp only[sizeOk,jY,d6,List.length_nil,bV];decide)
 simpa[rawInt]using q
theorem wF:entryFor table "dict_itemiterator.__iter__"=some Builtin.«dict_keyiterator.__iter__»:=
 entryFor_alias (id':="dict_keyiterator.__iter__") (by rw[i8];kernel_rfl) (by decide+kernel) (by rw[eP];decide+kernel) (by rw[i8];kernel_rfl)
theorem DM{n i:Nat}{ok ov:aG}{Q:aG→aH→Prop}(hit:oU s.heap it d i n ep ok ov)(h:Q (.ref it) s):wpAny (model prog w) A (pyIter (.ref it)) Q E s:=by
 have hT:s.TypeIs (.ref it) "dict_itemiterator":=⟨_,hit,rfl⟩
 refine pO hT F.slot_dict_itemiterator_iter (dB F.slot_dict_itemiterator_iter hT wF ?_ (F.args_dict_itemiterator_iter_1 _))
 exact aE ⟨_,rfl,"dict_itemiterator",_,hT,F.slot_dict_itemiterator_next.lookup,h⟩
theorem Bf{n i:Nat}{Q:aG→aH→Prop}(hit:nQ s.heap it d i n ep)(h:Q (.ref it) s):wpAny (model prog w) A (pyIter (.ref it)) Q E s:=by
 have hT:s.TypeIs (.ref it) "dict_valueiterator":=⟨_,hit,rfl⟩
 refine pO hT F.slot_dict_valueiterator_iter (dB F.slot_dict_valueiterator_iter hT entry_dict_valueiterator_iter ?_ (F.args_dict_valueiterator_iter_1 _))
 exact aE ⟨_,rfl,"dict_valueiterator",_,hT,F.slot_dict_valueiterator_next.lookup,h⟩
end
section
variable {a d v:Addr}
theorem Gh{i n:Nat}{ok ov k v:aG}{Q:aG→aH→Prop}(hit:oU s.heap it d i n ep ok ov)
  (q:∀h',IsItemIterOut h' it d i n ep k v s.heap.objs.size→h'.get? s.heap.objs.size=some {cls:=.type "tuple",data:=.seq #[k,v]}→h'.objs.size=s.heap.objs.size+1→(∀b o,b≠it→s.heap.get? b=some o→h'.get? b=some o)→Q (.ref s.heap.objs.size) {s with heap:=h'}):
  wpAny (model prog w) A (Builtin.Dict_items.pairFromOwner (.ref it) 6 k v) Q E s:=by
 obtain⟨hp,g,dr,tk,os⟩:=s
 refine aB (pP ?_)
 generalize hH:hp.push {cls:=.type "tuple",data:=.seq #[k,v]}=H
 have e1:oU H it d i n ep ok ov:=hH▸aP _ hit
 have t1:H.get? hp.objs.size=some {cls:=.type "tuple",data:=.seq #[k,v]}:=hH▸aW _ rfl
 have z1:H.objs.size=hp.objs.size+1:=by(refine gU hH ?_;rw[fZ])
 have k1:∀b o,b≠it→hp.get? b=some o→H.get? b=some o:=fun b o z e=>hH▸aP _ e
 have lt:it≠hp.objs.size:=eZ (eL hit)
 refine aB ?_
 refine aB (gJ e1 rfl (x:=.none) rfl (aE ?_))
 refine aB (gJ e1 rfl (x:=ok) rfl (aB (gJ e1 rfl (x:=ov) rfl ?_)))
 refine aB (jW e1 (by simp) fun h2 e2 s2=>?_)
 replace s2:bY it H h2:=s2
 refine aB (jW e2 (by simp) fun h3 e3 s3=>?_)
 replace s3:bY it h2 h3:=s3
 refine aB (jW e3 (by simp) fun h4 e4 s4=>?_)
 replace s4:bY it h3 h4:=s4
 refine aB (jW e4 (by simp) fun h5 e5 s5=>?_)
 replace s5:bY it h4 h5:=s5
 have up:∀b o,b≠it→H.get? b=some o→h5.get? b=some o:=fun b o hb e=>s5.extBut b o hb (s4.extBut b o hb (s3.extBut b o hb (s2.extBut b o hb e)))
 refine aB (wpAny_letGo (aE (q h5 e5 (up _ _ (eH lt) t1) ?_ fun b o hb e=>up b o hb (k1 b o hb e))))
 exact aM s5.1 (aM s4.1 (aM s3.1 (aM s2.1 (aM z1 rfl))))
theorem Gl{i:Nat}{ok ov:aG}{Q:Option aG→aH→Prop}(hit:oU s.heap it d i es.size ep ok ov)(ho:s.heap.get? d=some o)(hd:o.data= .dict es ep)(hi:i<es.size)
  (q:∀h',IsItemIterOut h' it d (i+1) es.size ep es[i].key es[i].val s.heap.objs.size→h'.get? s.heap.objs.size=some {cls:=.type "tuple",data:=.seq #[es[i].key,es[i].val]}→h'.objs.size=s.heap.objs.size+1→(∀b o,b≠it→s.heap.get? b=some o→h'.get? b=some o)→Q (some (.ref s.heap.objs.size)) {s with heap:=h'}):
  wpAny (model prog w) A (pyNext (.ref it)) Q E s:=by
 have hT:s.TypeIs (.ref it) "dict_itemiterator":=⟨_,hit,rfl⟩
 obtain⟨hp,g,dr,tk,os⟩:=s
 refine aB (iB (dZ (name:=aA "__next__") hT lL
  (dB lL hT F.entry_dict_itemiterator_next ?_ (F.args_dict_itemiterator_next_1 _))))
 refine aB (aE (aB (aB (aB (lE hT (aE ?_))))))
 refine aB (pQ hit rfl ?_)
 refine(?_:wpAny _ _ (if(cR d==dY)=true then _ else _) _ _ _)
 refine aM (if_neg (show¬((cR d==dY)=true)from f4)) ?_
 refine aB (aE (aB (fV ho hd ?_)))
 refine aM (if_neg (by simp)) ?_
 refine aB (aE (aB (i9 ho hd ?_)))
 refine aM (if_neg (by simp)) ?_
 refine aE ?_
 simp only[show¬((i:Int)<0)from by exact Int.not_lt.mpr (cD _),if_false,iT,jP hi]
 refine aB (aB (lE hT (aE (aB (wpAny_isOneOf_itemiter hT ?_)))))
 refine(?_:wpAny _ _ (setField (.ref it) 3 (rawInt ((i:Int)+1))>>=_) _ _ ⟨hp,g,dr,tk,os⟩)
 refine aB (jW hit (by simp) fun h₁ he₁ hs₁=>?_)
 replace hs₁:bY it hp h₁:=hs₁
 replace he₁:oU h₁ it d (i+1) es.size ep ok ov:=by
  have e:((i+1:Nat):Int)=(i:Int)+1:=by(push_cast;rfl)
  unfold oU;refine aM e ?_;simpa[rawInt]using he₁
 have hT₁:Shared.TypeIs ⟨h₁,g,dr,tk,os⟩ (.ref it) "dict_itemiterator":=⟨_,he₁,rfl⟩
 refine aB (a8 (aB (wpAny_isOneOf_itemiter hT₁ (aB (wpAny_isOneOf_itemiter hT₁ ?_)))))
 refine(?_:wpAny _ _ (Builtin.Dict_items.pairFromOwner (.ref it) 6 es[i].key es[i].val) _ _ ⟨h₁,g,dr,tk,os⟩)
 have z:h₁.objs.size=hp.objs.size:=hs₁.1
 refine Gh he₁ fun h' x1 x2 x3 x4=>?_
 rw[z]at x1 x2 x3⊢
 exact aE ⟨_,rfl,aE (q h' x1 x2 x3 fun b o hb e=>x4 b o hb (hs₁.extBut b o hb e))⟩
end
section
variable {a d v:Addr}
theorem DH{α:Type}{QQ:α→aH→Prop}(hh:A.handled=none)(q:∀h' x,(∀b o,s.heap.get? b=some o→h'.get? b=some o)→(∃o,h'.get? x=some o∧o.cls= .type "StopIteration")→E (.ref x) {s with heap:=h'}):
  wpAny (model prog w) A (newExc (.type "StopIteration") []>>=fun x=>raiseNew x) QQ E s:=by
 refine aB ?_
 refine aB (c8 ?_ (by size_fits))
 refine aB (m:=firstArgMember _ _) (bE (a:=dY) (by first|rfl|(rfl)) ?_)
 refine c8 ?_ (by size_fits)
 refine aB (wpAny_handled ?_)
 refine aM hh ?_
 refine aB (aE (wpAny_throw ?_))
 exact q _ _ (fun b o e=>aP _ (aP _ e)) ⟨_,aW _ rfl,rfl⟩
theorem zN{i:Nat}{ok ov:aG}{Q:Option aG→aH→Prop}(hh:A.handled=none)(hit:oU s.heap it d i es.size ep ok ov)(ho:s.heap.get? d=some o)(hd:o.data= .dict es ep)(hi:es.size≤i)
  (q:∀h',Heap.ExtBut it s.heap h'→Q none {s with heap:=h'}):wpAny (model prog w) A (pyNext (.ref it)) Q E s:=by
 have hT:s.TypeIs (.ref it) "dict_itemiterator":=⟨_,hit,rfl⟩
 refine aB (iB (dZ (name:=aA "__next__") hT lL
  (dB lL hT F.entry_dict_itemiterator_next ?_ (F.args_dict_itemiterator_next_1 _))))
 refine aB (aE (aB (aB (aB (lE hT (aE ?_))))))
 refine aB (pQ hit rfl ?_)
 refine(?_:wpAny _ _ (if(cR d==dY)=true then _ else _) _ _ _)
 refine aM (if_neg (show¬((cR d==dY)=true)from f4)) ?_
 refine aB (aE (aB (fV ho hd ?_)))
 refine aM (if_neg (by simp)) ?_
 refine aB (aE (aB (i9 ho hd ?_)))
 refine aM (if_neg (by simp)) ?_
 refine aE ?_
 simp only[show¬((i:Int)<0)from by exact Int.not_lt.mpr (cD _),if_false,iT,g7 hi]
 refine aB (aB (lE hT (aE ?_)))
 refine(?_:wpAny _ _ (setField (.ref it) 2 .none>>=_) _ _ s)
 refine aB (wpAny_setField hit rfl (by simp) ?_)
 refine DH hh fun h' x hk ⟨ox,ex,cx⟩=>?_
 refine aB (qW (T:="StopIteration") (b:=true) ⟨ox,ex,cx⟩ isSubtype_stop ?_)
 exact aE (q _ fun b o hb e=>hk b o ((cU ..).extBut b o hb e))
theorem FX{i:Nat}{Q:Option aG→aH→Prop}(hit:nQ s.heap it d i es.size ep)(ho:s.heap.get? d=some o)(hd:o.data= .dict es ep)(hi:i<es.size)
  (q:∀h',nQ h' it d (i+1) es.size ep→bY it s.heap h'→Q (some es[i].val) {s with heap:=h'}):wpAny (model prog w) A (pyNext (.ref it)) Q E s:=by
 have hT:s.TypeIs (.ref it) "dict_valueiterator":=⟨_,hit,rfl⟩
 obtain⟨hp,g,dr,tk,os⟩:=s
 refine aB (iB (dZ (name:=aA "__next__") hT kW
  (dB kW hT F.entry_dict_valueiterator_next ?_ (F.args_dict_valueiterator_next_1 _))))
 refine aB (aE (aB (aB (aB (lM hT (aE ?_))))))
 refine aB (pQ hit rfl ?_)
 refine(?_:wpAny _ _ (if(cR d==dY)=true then _ else _) _ _ _)
 refine aM (if_neg (show¬((cR d==dY)=true)from f4)) ?_
 refine aB (aE (aB (fV ho hd ?_)))
 refine aM (if_neg (by simp)) ?_
 refine aB (aE (aB (i9 ho hd ?_)))
 refine aM (if_neg (by simp)) ?_
 refine aE ?_
 simp only[show¬((i:Int)<0)from by exact Int.not_lt.mpr (cD _),if_false,iT,jP hi]
 refine aB (aB (lM hT (aE (aB (wpAny_isOneOf_valiter hT ?_)))))
 refine(?_:wpAny _ _ (setField (.ref it) 1 (rawInt ((i:Int)+1))>>=_) _ _ ⟨hp,g,dr,tk,os⟩)
 refine aB (jW hit (by simp) fun h₁ he₁ hs₁=>?_)
 replace hs₁:bY it hp h₁:=hs₁
 replace he₁:nQ h₁ it d (i+1) es.size ep:=by
  have e:((i+1:Nat):Int)=(i:Int)+1:=by(push_cast;rfl)
  unfold nQ;refine aM e ?_;simpa[rawInt]using he₁
 have hT₁:Shared.TypeIs ⟨h₁,g,dr,tk,os⟩ (.ref it) "dict_valueiterator":=⟨_,he₁,rfl⟩
 refine aB (a8 (aB (wpAny_isOneOf_valiter hT₁ (aB (wpAny_isOneOf_valiter hT₁ ?_)))))
 exact aE (aE ⟨_,rfl,aE (q _ he₁ hs₁)⟩)
theorem yC{i:Nat}{Q:Option aG→aH→Prop}(hh:A.handled=none)(hit:nQ s.heap it d i es.size ep)(ho:s.heap.get? d=some o)(hd:o.data= .dict es ep)(hi:es.size≤i)
  (q:∀h',Heap.ExtBut it s.heap h'→Q none {s with heap:=h'}):wpAny (model prog w) A (pyNext (.ref it)) Q E s:=by
 have hT:s.TypeIs (.ref it) "dict_valueiterator":=⟨_,hit,rfl⟩
 refine aB (iB (dZ (name:=aA "__next__") hT kW
  (dB kW hT F.entry_dict_valueiterator_next ?_ (F.args_dict_valueiterator_next_1 _))))
 refine aB (aE (aB (aB (aB (lM hT (aE ?_))))))
 refine aB (pQ hit rfl ?_)
 refine(?_:wpAny _ _ (if(cR d==dY)=true then _ else _) _ _ _)
 refine aM (if_neg (show¬((cR d==dY)=true)from f4)) ?_
 refine aB (aE (aB (fV ho hd ?_)))
 refine aM (if_neg (by simp)) ?_
 refine aB (aE (aB (i9 ho hd ?_)))
 refine aM (if_neg (by simp)) ?_
 refine aE ?_
 simp only[show¬((i:Int)<0)from by exact Int.not_lt.mpr (cD _),if_false,iT,g7 hi]
 refine aB (aB (lM hT (aE ?_)))
 refine(?_:wpAny _ _ (setField (.ref it) 0 .none>>=_) _ _ s)
 refine aB (wpAny_setField hit rfl (by simp) ?_)
 refine DH hh fun h' x hk ⟨ox,ex,cx⟩=>?_
 refine aB (qW (T:="StopIteration") (b:=true) ⟨ox,ex,cx⟩ isSubtype_stop ?_)
 exact aE (q _ fun b o hb e=>hk b o ((cU ..).extBut b o hb e))
end
theorem Hu{cenv:Env}{own:Option Addr}{x y:Str}{px py pos:Pos}{k:Nat}{a:Addr}{v u:aG}{s:aH}{Q:Unit→aH→Prop}{E:aG→aH→Prop}(hh:A.handled=none)(hk:cenv.scope.kind= .function)
  (hx:cenv.kindOf x=some .local)(hy:qL cenv own y)(hxy:x≠y)(hne:∀c,own=some c→c≠cenv.locals)(cf:CF V cenv own s.heap)(hl:s.heap.IsTuple a #[v,u])
  (q:∀s',Mu V (qY cenv own) s s'→CF V cenv own s'.heap→Bn V cenv own s'.heap x v→Bn V cenv own s'.heap y u→Q () s'):wpAny (model prog w) A (assign (.Tuple [.Name x px,.Name y py] k pos) cenv (.ref a)) Q E s:=by
 refine wpAny_assign_Tuple hh hl rfl rfl fun h' he=>?_
 replace he:Heap.ExtBut s.heap.objs.size s.heap h':=he
 have kp:Keeps V s {s with heap:=h'}:=gW fun b o e=>he b o (fun hb=>by rw[hb,dG]at e;nomatch e) e
 have cf':CF V cenv own h':=cf.at (dA kp).sk
 refine(?_:wpAny _ A (do holding [u] (assign (.Name x px) cenv v);do holding [] (assign (.Name y py) cenv u);pure ()) _ _ _)
 refine aB (a8 (eF (qI hk (.inl hx) hne cf' fun s₁ m₁ cf₁ b₁ z=>?_)))
 refine aB (a8 (eF (qI hk hy hne cf₁ fun s₂ m₂ cf₂ b₂ o₂=>?_)))
 exact aE (q s₂ ((Mu.of_keeps kp).trans (m₁.trans m₂)) cf₂ (o₂ x v hxy hx b₁) b₂)
theorem Da{cenv:Env}{own:Option Addr}{x y:Str}{px py pos:Pos}{k:Nat}{I d:Addr}{o:Obj}{es:Array fD}{ep:Nat}{s₀:aH}(hh:A.handled=none)(hd:o.data= .dict es ep)(dV:d∉V)(IV:I∉V)(dI:d≠I)
  (hk:cenv.scope.kind= .function)(hx:cenv.kindOf x=some .local)(hy:qL cenv own y)(hxy:x≠y)(hne:∀c,own=some c→c≠cenv.locals)(hfr:I∉qY cenv own)(hfd:d∉qY cenv own):
  BY V prog w A s₀ (.Tuple [.Name x px,.Name y py] k pos) cenv I ([I]++qY cenv own) ([I,d]++qY cenv own) (fun i h=>((∃ok ov,oU h I d i es.size ep ok ov)∧h.get? d=some o)∧CF V cenv own h)
   (fun i h=>∃e,es[i]?=some e∧Bn V cenv own h x e.key∧Bn V cenv own h y e.val) (CF V cenv own) es.size where
 jf:=fun i h h' j k=>⟨⟨let⟨ok,ov,e⟩:=j.1.1;⟨ok,ov,k.old I (aF) IV _ e⟩,k.old d (.tail _ (.head _)) dV _ j.1.2⟩,j.2.at (k.less fun b hb=>aJ _ hb)⟩
 bf:=fun i h h' ⟨e,p,b,c⟩ k=>⟨e,p,b.at (k.less fun b hb=>aJ _ hb),c.at (k.less fun b hb=>aJ _ hb)⟩
 al:=fun i h j b hb=>by
  rcases eX hb with hb|hb
  ·replace hb:=kQ hb;obtain rfl:=hb.symm;refine oL j.1.1 fun z z e=>?_;exact⟨_,e⟩
  ·exact j.2.al b hb
 sub:=fun b hb=>by
  rcases eX hb with hb|hb
  ·replace hb:=kQ hb;obtain rfl:=hb.symm;exact aF
  ·exact aJ _ hb
 next:=fun i s Q E hi ks j q=>by
  (refine gE j fun q_1 cf=>?_;refine gE q_1 fun q_2 ho=>?_;refine oL q_2 fun ok ov hit=>?_)
  have fne:∀b∈qY cenv own,b≠I:=fun b hb e=>hfr (e▸hb)
  refine Gl hit ho hd hi fun h₁ x1 x2 x3 x4=>⟨_,rfl,wpAny_letOwnedTupleGo_items x1 fun h₂ e₂ s₂=>?_⟩
  replace s₂:bY I h₁ h₂:=s₂
  have k₂:∀b o,b∉[I]→s.heap.get? b=some o→h₂.get? b=some o:=fun b o hb e=>s₂.extBut b o (by simpa using hb) (x4 b o (by simpa using hb) e)
  have hM:Mu V [I] s {s with heap:=h₂}:=Mu.mk' (tk:=s.toks) k₂ fun b hb=>by replace hb:=kQ hb;exact hb▸IV
  have ht:h₂.IsTuple s.heap.objs.size #[es[i].key,es[i].val]:=⟨_,(s₂.2 _ (jA (eL hit))).trans x2,rfl,_,rfl⟩
  refine Hu hh hk hx hy hxy hne (cf.at (hM.k.sk fun b hb hm=>fne b hb (by with_reducible exact kQ hm))) ht fun s' m cf' b c=>?_
  refine q s' ((hM.more fun a ha=>by replace ha:=kQ ha;simp[ha]).trans (m.more fun a ha=>aJ _ ha)) ⟨⟨⟨_,_,m.get hfr IV e₂⟩,m.get hfd dV (k₂ d o (by with_reducible exact mt kQ dI) ho)⟩,cf'⟩ ⟨es[i],by simp[hi],b,c⟩
 stop:=fun s Q E j q=>by
  (refine gE j fun q_4 cf=>?_;refine gE q_4 fun q_5 ho=>?_;refine oL q_5 fun ok ov hit=>?_)
  refine zN hh hit ho hd (bO _) fun h' hx=>?_
  refine q _ ((Mu.mk' (tk:=s.toks) (M:=[I]) (fun b o hb e=>hx b o (by with_reducible exact mt List.mem_singleton.mpr hb) e) fun b hb=>by simp at hb;exact hb▸IV).more fun a ha=>by simp at ha;simp[ha]) (cf.at (.all fun b hb o e=>hx b o (fun e'=>hfr (e'▸hb)) e))
theorem DB{I d:Addr}{o:Obj}{es:Array fD}{ep:Nat}(hh:A.handled=none)(hd:o.data= .dict es ep)(dI:d≠I):
  Walks prog w A I [I,d] [I] es.size (fun i v=>∃e,es[i]?=some e∧v=e.val) (fun i h=>nQ h I d i es.size ep∧h.get? d=some o) where
 frame:=fun i h h' j k=>⟨k I (aF) _ j.1,k d (.tail _ (.head _)) _ j.2⟩
 sub:=fun b hb=>by replace hb:=kQ hb;simp[hb]
 self:=fun i s Q E j q=>Bf j.1 q
 item:=fun i s Q E hi j q=>FX j.1 j.2 hd hi fun h' x1 x2=>by
  replace x2:bY I s.heap h':=x2
  exact q _ h' s.toks ⟨es[i],by simp[hi],rfl⟩ ⟨x1,x2.extBut d o dI j.2⟩ fun b o hb e=>x2.extBut b o (by with_reducible exact mt List.mem_singleton.mpr hb) e
 done:=fun s Q E j q=>yC hh j.1 j.2 hd (bO _) fun h' hx=>q h' s.toks fun b o hb e=>hx b o (by with_reducible exact mt List.mem_singleton.mpr hb) e
structure Ks(prog:fL)(w:cN)(V X:List Addr)(h:Heap)(b:Bk):Prop where
 bk:pZ prog w (hideAll h (V++X)) b.a b.d (.type "list") b.kvs
 dc:Dc (hideAll h (V++X)) b.d b.fz
 ns:b.a≠sysModules
 sh:∀z∈b.sh,Is V X h (.ref z.l) (g9 z.pl)
structure Kq(prog:fL)(w:cN)(V X:List Addr)(h:Heap)(S:iD):Prop where
 bk:pZ prog w (hideAll h (V++X)) S.a S.d (.ref S.fac) S.kvs
 dc:Dc (hideAll h (V++X)) S.d S.fz
 ns:S.a≠sysModules
 bks:∀b∈S.bks,Ks prog w V X h b
noncomputable def Vw(cls:String)(a:Addr):Hp V aG:=⟨fun X h v=>∃r,v= .ref r∧r∉V++X∧h.get? r=some {cls:=.type cls,data:=.fields #[.ref a]},fun k x=>nY x fun r e hn x=>⟨r,e,hn,k _ _ (fun q=>hn (aL _ q)) x⟩⟩
section
variable {S:iD} {b:Bk} {a d:Addr} {kvs:List (Str×aG)}
theorem Ks.nx(x:Ks prog w V X s.heap b)(n:Nx V X s X' s'):Ks prog w V X' s'.heap b:=
 ⟨x.bk.at (cS n _),x.dc.at (cS n _),x.ns,fun z hz=>(x.sh z hz).nx n⟩
theorem Kq.nx(x:Kq prog w V X s.heap S)(n:Nx V X s X' s'):Kq prog w V X' s'.heap S:=
 ⟨x.bk.at (cS n _),x.dc.at (cS n _),x.ns,fun b hb=>(x.bks b hb).nx n⟩
theorem eG.view{h:Heap}(x:eG prog w V X h S)(i:∀c∈S.adrs,c∉X'):Kq prog w V X' h S:=by
 have g:∀c∈S.adrs,∀o,h.get? c=some o→(hideAll h (V++X')).get? c=some o:=fun c hc o e=>b5 _ e fun q=>(eX q).elim (x.nV c hc) (i c hc)
 refine⟨x.bk.at (g _ aF),x.dc.at (g _ (aC _ aF)),x.ns,fun b hb=>?_⟩
 have y:=x.bks b hb
 have gb:∀c∈b.adrs,∀o,h.get? c=some o→(hideAll h (V++X')).get? c=some o:=fun c hc=>g c (j5 hb hc)
 refine⟨y.bk.at (gb _ aF),y.dc.at (gb _ (aC _ aF)),y.ns,fun z hz=>?_⟩
 (refine bG (y.sh z hz) fun vs q_1 al=>?_;refine bK q_1 fun n e=>?_)
 exact Is.list (bZ (gb z.l (aC _ (aC _ (bQ hz))) _ e)) e rfl rfl (qR al)
theorem EW{o:Expr}{apos pos:Pos}{name:Str}{i cls:String}(kw:KW V (kz w) mg mb X s.heap)(bk:pZ prog w (hideAll s.heap (V++X)) a d fac kvs)(dc:Dc (hideAll s.heap (V++X)) d fz)(ns:a≠sysModules)(ho:Pu V prog w A X s (eval o env) (Ex (.ref a)))
  (hf:findIn (kz w) (.ref 126) name=some (some (.builtin i)))(ht:typeOf (.builtin i)=pure (.type "method_descriptor"))
  (hc:∀(u:aH) (es:Array fD) (ep:Nat) (od:Option Obj) (Q:aG→aH→Prop) (E:aG→aH→Prop),(kz w).In u.heap→InstAt u.heap a (fY d es ep fac) 126 od→Q (.ref u.heap.objs.size) {u with heap:=u.heap.push {cls:=.type cls,data:=.fields #[.ref a]}}→wpAny (model prog w) A (call (.builtin i) [.ref a]) Q E u)
  (hz:autoParam ((wB==name)=false) dk)
  (hbase:autoParam (attributeBase o name env (eval o env)=eval o env) rf)(hline:autoParam ((apos.endLine==pos.line)=true) rf):
  Pu V prog w A X s (eval (.Call (.Attribute o name apos) [] [] pos) env) (Vw cls a):=.mk fun Y u hu hb Q E q=>by
 refine oQ hbase (by rfl) hline (ho.go Y u hu hb _ E fun v u₁ k₁ hv pl=>?_)
 cases (hv:v= .ref a)
 have n₁:=hu.nx.trans (gM.of_keeps (X:=Y) k₁).nx
 refine fO bk fun es ep ha z=>?_
 refine fO dc fun de dn hde hfz=>?_
 have kin:=(kw.nx n₁).k.keeps fun z z e=>a6 _ e
 have I:InstAt u₁.heap a (fY d es ep fac) 126 (some (dictOf de dn)):=⟨a6 _ (cS n₁ _ _ ha),rfl,rfl,a6 _ (cS n₁ _ _ hde)⟩
 refine Cd kin I hf ht (by refine(?_:(lookIn name (dictOf de dn)).map (·.isSome)=some false);refine aM (vH hfz hz) ?_;rfl) ?_
 refine f6 (by rfl) (evalArgs_nil3 (hc u₁ es ep _ _ _ kin I ?_))
 refine q _ _ (aN k₁ (fF u₁ _)) ⟨_,rfl,(hb.keeps k₁).fresh,aW _ rfl⟩
theorem Bq{o:Expr}{apos pos:Pos}(kw:KW V (kz w) mg mb X s.heap)(bk:pZ prog w (hideAll s.heap (V++X)) a d fac kvs)(dc:Dc (hideAll s.heap (V++X)) d fz)(ns:a≠sysModules)(ho:Pu V prog w A X s (eval o env) (Ex (.ref a)))
  (hbase:autoParam (attributeBase o (aA "items") env (eval o env)=eval o env) rf)(hline:autoParam ((apos.endLine==pos.line)=true) rf):Pu V prog w A X s (eval (.Call (.Attribute o (aA "items") apos) [] [] pos) env) (Vw "dict_items" a):=
 EW kw bk dc ns ho (HS w) DD (fun u es ep od Q E kin I q=>Di kin I ns q) (hbase:=hbase) (hline:=hline)
theorem FE{o:Expr}{apos pos:Pos}(kw:KW V (kz w) mg mb X s.heap)(bk:pZ prog w (hideAll s.heap (V++X)) a d fac kvs)(dc:Dc (hideAll s.heap (V++X)) d fz)(ns:a≠sysModules)(ho:Pu V prog w A X s (eval o env) (Ex (.ref a)))
  (hbase:autoParam (attributeBase o (aA "values") env (eval o env)=eval o env) rf)(hline:autoParam ((apos.endLine==pos.line)=true) rf):Pu V prog w A X s (eval (.Call (.Attribute o (aA "values") apos) [] [] pos) env) (Vw "dict_values" a):=
 EW kw bk dc ns ho (Fm w) B8 (fun u es ep od Q E kin I q=>B7 kin I ns q) (hbase:=hbase) (hline:=hline)
structure Lv(V:List Addr)(prog:fL)(w:cN)(A:jK)(X:List Addr)(s:aH)(env:Env)(elt iter:Expr)(x y:Str)(px py tp:Pos)(tk:Nat)(scope:Scope)(pos:Pos)(a:Addr)(o:Obj)(es:Array fD)(ep:Nat)(g:Nat→aY):Prop where
 hiter:Pu V prog w A X s (eval iter env) (Vw "dict_items" a)
 hh:A.handled=none
 oa:(hideAll s.heap (V++X)).get? a=some o
 od:o.data= .dict es ep
 hn:es.size≤1000
 helt:∀L i Y v e,es[i]?=some e→gM V X s Y v→Bd V Y v→fR V (compEnvC scope [] L env) v.heap x e.key→fR V (compEnvC scope [] L env) v.heap y e.val→Pu V prog w A Y v (eval elt (compEnvC scope [] L env)) (Dt (g i))
 clos:autoParam (closureFor scope env=pure []) rf
 kind:autoParam (scope.kind= .function) rf
 names:autoParam (∀y∈scope.names,y.2= .local→scope.names.lookup y.1=some .local) dk
 lay:autoParam (∀h,pushCells h scope.names=qO none h) rf
 cells:autoParam (∀n,cellsFrom n scope.names []=bJ none n []) rf
 bindx:autoParam (∀L,(compEnvC scope [] L env).kindOf x=some .local) rf
 bindy:autoParam (∀L,(compEnvC scope [] L env).kindOf y=some .local) rf
 xy:autoParam (x≠y) dk
 fold:autoParam (∀v,foldedSetIterable iter env v=pure v) rf
variable {g:Nat→aY}
theorem CX{RR:aG→Addr→iR→aH→Prop}{E:aG→aH→Prop}{xv:aG}{Z:List Addr}{u:aH}(h:Lv V prog w A X s env elt iter x y px py tp tk scope pos a o es ep g)(hu:gM V X s Z u)(hb:Bd V Z u)(hx:(Vw (V:=V) "dict_items" a).p Z u.heap xv)
  (hR:∀D L s',Keeps V u s'→u.heap.get? L=none→(∃m,s'.heap.Ns L m)→(∃ys,s'.heap.PlainList D ys)→Is V (L::Z) s'.heap (.ref D) (.list ((bI es.size).map g))→RR (.ref D) L (.ok .next) s'):
  wpAny (model prog w) A (pyIter xv) (fun it s₂=>wpAny (model prog w) A (newList []) (fun acc s₃=>wpAny (model prog w) A (newFunctionEnv scope env.globals [] [] env.qual none .none (some env)) (fun cenv s₄=>
   codeAny (model prog w) A (.compStart (.ListComp elt [⟨.Tuple [.Name x px,.Name y py] tk tp,iter,[],0⟩] scope pos) 0 it acc {cenv with scope:=relabel scope env}) (RR acc cenv.locals) s₄) E s₃) E s₂) E u:=by
 (refine nY hx fun r e_0=>?_;subst e_0;refine fun z hr=>?_)
 have oa:=cS hu.nx _ _ h.oa
 have aV:a∉V:=fun q=>bZ oa (aL _ q)
 have ou:=a6 _ oa
 refine Dh hr ou h.od ?_
 generalize hI:u.heap.objs.size=I
 generalize hH:u.heap.push {cls:=.type "dict_itemiterator",data:=.fields #[.none,.bool false,.ref a,.int 0 0,.int es.size 0,.int ep 0,.none,.none]}=H
 have hit:H.get? I=some {cls:=.type "dict_itemiterator",data:=.fields #[.none,.bool false,.ref a,.int 0 0,.int es.size 0,.int ep 0,.none,.none]}:=by refine gU hH (gU hI ?_);exact aW _ rfl
 have In:u.heap.get? I=none:=gB (by refine aM hI ?_;exact bO _)
 have aI:a≠I:=fun e=>by rw[e,In]at ou;nomatch ou
 have IV:=hb.two.ne In
 have up:∀b o,u.heap.get? b=some o→H.get? b=some o:=fun b o e=>hH▸aP _ e
 refine sX (s₀:=u) (X:=Z) (own:=none) (I:=I) (fp:=[I,a]) (wr:=[I]) (n:=es.size) (p:=fun z=>true) (g:=g) (St:=fun i h=>(∃ok ov,oU h I a i es.size ep ok ov)∧h.get? a=some o) (B':=fun cenv own i h=>∃e,es[i]?=some e∧Bn V cenv own h x e.key∧Bn V cenv own h y e.val)
  (gW up) hb ⟨⟨_,_,hit⟩,up _ _ ou⟩ (fun i h h' st k=>⟨let⟨ok,ov,e⟩:=st.1;⟨ok,ov,k I (by exact aF) _ e⟩,k a (by exact .tail _ (.head _)) _ st.2⟩) (fun b hb=>?_) (fun b hb=>?_) (fun b hb=>?_) (fun b hb=>by simp at hb;simp[hb]) (by have:=h.hn;refine aM bV ?_;exact aD (by assumption) (by decide)) h.lay h.cells (fun s Q E st q=>?_) (fun L c hLc hL hc=>?_) (fun L c i Y v hi hw hbd hB=>eU) (fun L c i Y v hi z hw hbd hB=>?_) (fun D L s' k hL hm hp hd=>hR D L s' k hL hm hp ?_)
 ·replace hb:=m2 hb;rcases(eK b7 b7) hb with rfl|rfl
  ·exact⟨_,hit⟩
  ·exact⟨_,up _ _ ou⟩
 ·simp at hb;rcases(eK b7 b7) hb with rfl|rfl<;>assumption
 ·simp at hb;obtain rfl:=hb.symm;exact In
 ·(refine gE st fun q_2 z=>?_;refine oL q_2 fun ok ov e=>?_)
  exact DM e q
 ·refine Da h.hh h.od aV IV aI (by simp[compEnvC,relabel,h.kind]) (h.bindx L) (.inl (h.bindy L)) h.xy (fun d hd=>by cases hd) (fun q=>?_) fun q=>?_
  ·have:I=L:=by simpa[compEnvC]using q
   exact hL (by simp[this])
  ·have:a=L:=by simpa[compEnvC]using q
   exact hL (by simp[this])
 ·refine nY hB fun e he b1 b2=>?_
  exact h.helt L i Y v e he (hu.trans hw) hbd b1.name b2.name
 ·rwa[List.filter_eq_self.mpr (fun z z=>rfl)]at hd
theorem KM(h:Lv V prog w A X s env elt iter x y px py tp tk scope pos a o es ep g):Pu V prog w A X s (eval (.ListComp elt [⟨.Tuple [.Name x px,.Name y py] tk tp,iter,[],0⟩] scope pos) env) (Dt (.list ((bI es.size).map g))):=by
 refine .mk fun Y u hu hb Q E q=>?_
 rw[eval_ListComp]
 refine iS (use:=none) rfl h.fold h.clos h.kind h.names (h.hiter.go Y u hu hb _ E fun xv u₁ k₁ hx=>?_)
 refine CX (RR:=fun acc C=>compPost (model prog w) A E none Q acc C) h (hu.trans (.of_keeps k₁)) (hb.keeps k₁) hx fun D L s' k hL hm hpl hI=>?_
 exact oV (hb.keeps k₁).two k hL hm hI fun v s' k' hd=>q v s' (aN k₁ k') hd
theorem JZ{u:aH}{m cm:Str→Option aG}{yy:Str}{ypos spos:Pos}{Q:Flow→aH→Prop}{E:aG→aH→Prop}(F:fU V u env X s m cm)(h:Lv V prog w A X s env elt iter x y px py tp tk scope pos a o es ep g)
  (q:∀v s',fU V u env X s' (fun z=>if z=yy then some v else m z) cm→Mu V (nB env) s s'→Is V X s'.heap v (.list ((bI es.size).map g))→Q .next s')
  (hsw:autoParam (swapsWith (.ListComp elt [⟨.Tuple [.Name x px,.Name y py] tk tp,iter,[],0⟩] scope pos) (some (.Name yy ypos)) spos.line env=pure true) rf)(hk:autoParam (env.scope.kind= .function) rf)(hy:autoParam (env.kindOf yy=some .local) rf):
  WP prog w A (exec (.Assign [.Name yy ypos] (.ListComp elt [⟨.Tuple [.Name x px,.Name y py] tk tp,iter,[],0⟩] scope pos) spos) env) Q E s:=by
 refine .mk ?_
 refine aM (qC _ _ _ _ hsw) ?_
 refine aB (dF (aB ?_))
 refine aB (bD (iS (use:=some (assign (.Name yy ypos) env)) (Q:=fun j s'=>Q .next s') rfl h.fold h.clos h.kind h.names (h.hiter.go X s (.refl X s) F.bd _ E fun xv u₁ k₁ hx=>?_)) (fun j s' hq=>aE (aE hq)) fun j j e=>e)
 refine CX (RR:=fun acc C=>compPost (model prog w) A E (some (assign (.Name yy ypos) env)) (fun j s'=>Q .next s') acc C) h (.of_keeps k₁) (F.bd.keeps k₁) hx fun D L s' k hL hm hpl hI=>?_
 exact sK (F.bd.keeps k₁).two k hL hm hI F.l2 (tL F.ns k₁ F.l2) hk hy F.lx fun v s' mu hd hns=>q v s' (F.setL ((Mu.of_keeps k₁).trans mu) hns) (vY ((Mu.of_keeps k₁).trans mu)) hd
end
section
variable {κ:KeyKind} {a₀:Array Keyed} {st:SortSt}
structure EL(prog:fL)(w:cN)(A:jK)(s:aH)(κ:KeyKind)(a₀:Array Keyed):Prop where
 keys:KeysOf κ a₀
 nd:(a₀.toList.map fun p=>κ.keyOf p.1).Nodup
 lt:∀x y a b,κ.keyOf x=some a→κ.keyOf y=some b→∀(Q:Bool→aH→Prop) (E:aG→aH→Prop),Q (κ.blt a b) s→wpAny (model prog w) A (oneLt' true x y) Q E s
theorem EL.ltr{i j:Nat}{Q:Option Bool→SortSt→Prop}(O:EL prog w A s κ a₀)(hB:SBase a₀ st)(hi:i<a₀.size)(hj:j<a₀.size)
  (h:Q (some (κ.blt (KK κ (arrOf st) i) (KK κ (arrOf st) j))) st):wpS (model prog w) A E s (ltAt' i j) Q st:=by
 refine pG (hB.atK O.keys hi) fun x p a e1 ha ka=>?_
 refine pG (hB.atK O.keys hj) fun y q b e2 hb kb=>?_
 rw[ka,kb]at h
 rw[ltAt'_eq]
 refine eV (wpS_get ?_)
 refine(?_:wpS _ _ _ _ (do let x←elem' (arrOf st) i;let y←elem' (arrOf st) j;lt' x y) Q st)
 (rewrite[elem'_eq,elem'_eq];refine aM e1 (aM e2 ?_))
 refine eV (iL (eV (iL ?_)))
 rw[lt'_eq]
 refine eV (wpS_get ?_)
 (refine aM hB.kind ?_;rw[keyLt'_oneType])
 exact eV (wpS_lift (iB (O.lt x y a b ha hb _ _ ⟨rfl,iL h⟩)))
theorem EL.ne(O:EL prog w A s κ a₀)(hB:SBase a₀ st){i j:Nat}(hij:i<j)(hj:j<a₀.size):KK κ (arrOf st) i≠KK κ (arrOf st) j:=fun e=>by
 refine pG (hB.atK O.keys (cK hij hj)) fun x p a e1 ha ka=>?_
 refine pG (hB.atK O.keys hj) fun y q b e2 hb kb=>?_
 have n:=((Array.perm_iff_toList_perm.mp hB.perm).map fun p=>κ.keyOf p.1).nodup_iff.mpr O.nd
 have hj':j<(arrOf st).size:=by refine aM hB.size ?_;exact hj
 refine List.pairwise_iff_getElem.mp n i j (by simpa using cK hij hj') (by simpa using hj') hij ?_
 have q:∀k (h:k<(arrOf st).size) (x p:aG),(arrOf st)[k]?=some (x,p)→((arrOf st).toList.map fun p=>κ.keyOf p.1)[k]'(by simpa using h)=κ.keyOf x:=fun k h x p e=>by
  rw[getElem?_pos _ k h]at e
  simp only[List.getElem_map,Array.getElem_toList,a9 e]
 exact aM (q i (cK hij hj') x p e1) (aM (q j hj' y _ e2) (aM ha (aM hb (gU ka (gU kb (aM e rfl))))))
theorem EL.gt(O:EL prog w A s κ a₀)(hB:SBase a₀ st){i j:Nat}(hij:i<j)(hj:j<a₀.size)(h:κ.blt (KK κ (arrOf st) j) (KK κ (arrOf st) i)=false):κ.blt (KK κ (arrOf st) i) (KK κ (arrOf st) j)=true:=by
 cases e:κ.blt (KK κ (arrOf st) i) (KK κ (arrOf st) j)with
 |true=>rfl
 |false=>exact absurd (κ.total _ _ e h) (O.ne hB hij hj)
theorem EL.asc{a nrem:Nat}{Q:AscSt→SortSt→Prop}(O:EL prog w A s κ a₀)(hn:nrem≤a₀.size)(ha:1≤a)(han:a≤nrem)(hB:SBase a₀ st)(hs:nT κ (arrOf st) a)
  (h:∀n,a≤n→n≤nrem→nT κ (arrOf st) n→(n=nrem∨κ.klt (KK κ (arrOf st) n) (KK κ (arrOf st) (n-1)))→Q (none,n) st):wpS (model prog w) A E s (ascLoop a nrem) Q st:=by
 refine wpS_forRange (I:=fun x c t=>t=st∧c=(none,x)∧nT κ (arrOf st) x) ?_ ?_ ⟨rfl,rfl,hs⟩
 ·rintro x c t h1 h2 ⟨rfl,rfl,hs'⟩
  refine eV (O.ltr hB (by with_reducible exact aO (by assumption) (by assumption)) (aO (aR (Nat.sub_le _ _) h2) hn) ?_)
  cases e:κ.blt (KK κ (arrOf t) x) (KK κ (arrOf t) (x-1))with
  |true=>exact iL (h x h1 (bA (by assumption)) hs' (.inr e))
  |false=>
   refine iL ⟨rfl,rfl,fun i j hij hj=>?_⟩
   rcases eM j x with q|q
   ·exact hs' i j hij q
   ·obtain rfl:j=x:=c9 (cG hj) q
    rcases eM i j with q|q
    ·exact KeyOrd.kle_trans (hs' i (j-1) (p0 q) (Nat.sub_lt (aR (bX _) q) (by decide))) e
    ·refine aM (show i=j by exact c9 hij q) ?_;exact lB _
 ·rintro c t ⟨rfl,rfl,hs'⟩
  rw[show max a nrem=nrem by exact Nat.max_eq_right han]at hs'⊢
  exact h nrem han (bO _) hs' (.inl rfl)
theorem EL.count{nrem:Nat}{Q:Option Nat→SortSt→Prop}(O:EL prog w A s κ a₀)(hn:nrem≤a₀.size)(h1:1≤nrem)(hB:SBase a₀ st)
  (h:∀m t,SBase a₀ t→1≤m→m≤nrem→nT κ (arrOf t) m→Q (some m) t):wpS (model prog w) A E s (countRun' 0 nrem) Q st:=by
 rw[countRun0_eq]
 refine eV (O.asc hn (bO 1) h1 hB (fun i j hij hj=>by refine aM (show i=j from c9 hij (aD (cG hj) (bX i))) ?_;exact lB _) fun n hn1 hn2 hsn hor=>?_)
 by_cases hnn:n=nrem
 ·refine aM (if_pos (by simpa using hnn)) ?_
  exact iL (h n st hB hn1 hn2 hsn)
 refine aM (if_neg (by simpa using hnn)) ?_
 by_cases hgt:n>1
 ·refine aM (if_pos hgt) ?_
  refine eV (O.ltr hB (aO (aO (by decide) h1) hn) (Nat.sub_one_lt_of_le hn1 (aD hn2 hn)) ?_)
  refine aM (O.gt hB (Nat.sub_pos_of_lt hgt) (Nat.sub_one_lt_of_le hn1 (aD hn2 hn)) (hsn 0 (n-1) (bX _) (Nat.sub_lt (cK (by decide) hgt) (by decide)))) ?_
  exact iL (h n st hB hn1 hn2 hsn)
 refine aM (if_neg hgt) ?_
 obtain rfl:n=1:=c9 (kN hgt) hn1
 have hlt:κ.klt (KK κ (arrOf st) 1) (KK κ (arrOf st) 0):=hor.resolve_left hnn
 refine eV (wpS_lift (fT ⟨rfl,?_⟩))
 refine eV (wpS_mono (Q:=fun c t=>∃m,c=(none,m,0)∧t=st∧1≤m∧m≤nrem∧NonIncK κ (arrOf st) m) ?_ ?_)
 ·refine wpS_forRange (I:=fun x c t=>c=(none,x,0)∧t=st∧NonIncK κ (arrOf st) x) ?_ ?_ ⟨rfl,rfl,fun i j hij hj=>?_⟩
  ·rintro x c t q1 q2 ⟨rfl,rfl,hs⟩
   refine eV (O.ltr (i:=x) (j:=x-1) hB (aO q2 hn) (aR (Nat.sub_le _ _) (aO q2 hn)) ?_)
   cases e:κ.blt (KK κ (arrOf t) x) (KK κ (arrOf t) (x-1))with
   |true=>
    refine iL ⟨rfl,rfl,fun i j hij hj=>?_⟩
    rcases eM j x with q|q
    ·exact hs i j hij q
    ·obtain rfl:j=x:=c9 (cG hj) q
     rcases eM i j with q|q
     ·exact KeyOrd.kle_trans (KeyOrd.kle_of_klt e) (hs i (j-1) (p0 q) (Nat.sub_lt (aR (bX _) q) (by decide)))
     ·refine aM (show i=j from c9 hij q) ?_;exact lB _
   |false=>
    refine eV (O.ltr (i:=x-1) (j:=x) hB (aR (Nat.sub_le _ _) (aO q2 hn)) (aO q2 hn) ?_)
    refine aM (O.gt (i:=x-1) (j:=x) hB (Nat.sub_lt (aO (by decide) q1) (by decide)) (aO q2 hn) e) ?_
    exact iL ⟨x,rfl,rfl,bA (by assumption),bA (by assumption),hs⟩
  ·rintro c t ⟨rfl,rfl,hs⟩
   rw[show max (1+1) nrem=nrem from Nat.max_eq_right (oA h1 hnn)]at hs⊢
   exact⟨_,rfl,rfl,h1,bO _,hs⟩
  ·rcases eM i j with q|q
   ·refine aM (show i=0 from Nat.le_zero.mp (cG (aO q (cG hj)))) (aM (show j=1 from c9 (cG hj) (aR (bX i) q)) ?_);exact KeyOrd.kle_of_klt hlt
   ·refine aM (show i=j from c9 hij q) ?_;exact lB _
 ·rintro c t ⟨m,rfl,rfl,m1,m2,hs⟩
  dsimp only
  refine aM (if_neg (by decide)) ?_
  have hsz:m≤(arrOf t).size:=by refine aM hB.size ?_;with_reducible exact aD (by assumption) (by assumption)
  have hB':SBase a₀ (setArr t (mirror (arrOf t) 0 m ((m-0)/2))):=hB.setArr (mirror_perm _ _ _ _)
  refine eV (wpS_reverse (eV (O.asc hn m1 m2 hB' (fun i j hij hj=>?_) fun n n1 n2 hsn z=>iL (h n _ hB' (by with_reducible exact aD (by assumption) (by assumption)) n2 hsn))))
  (rewrite[KK_mirror hsz,KK_mirror hsz];refine aM (if_pos (⟨bX _,aR hij hj⟩)) (aM (if_pos (⟨bX _,hj⟩)) ?_))
  exact hs _ _ (by omega) (by omega)
theorem EL.bin{n ok:Nat}{Q:Bool→SortSt→Prop}(O:EL prog w A s κ a₀)(hn:n≤a₀.size)(hok:ok≤n)(hB:SBase a₀ st)(hs:nT κ (arrOf st) ok)
  (h:∀t,SBase a₀ t→nT κ (arrOf t) n→Q true t):wpS (model prog w) A E s (binarySort' 0 n ok) Q st:=by
 rw[binarySort'_eq]
 simp only[Nat.zero_add]
 refine eV (wpS_mono (wpS_forRange (I:=fun k c t=>c=(none,())∧SBase a₀ t∧nT κ (arrOf t) (min k n)) (Q:=fun c t=>c=(none,())∧SBase a₀ t∧nT κ (arrOf t) n) ?_ ?_ ⟨rfl,hB,fun i j hij hj=>?_⟩) ?_)
 ·rintro k c t _ hkn ⟨rfl,hB,hs⟩
  replace hs:=(show min k n=k by exact jX (bA hkn))▸hs
  refine eV (wpS_mono (Q:=fun c t'=>t'=t∧∃l,l≤k∧(∃r,c=(none,l,r))∧(∀i,i<l→κ.kle (KK κ (arrOf t) i) (KK κ (arrOf t) k))∧∀i,l≤i→i<k→κ.kle (KK κ (arrOf t) k) (KK κ (arrOf t) i)) (wpS_forRange (I:=fun x c t'=>t'=t∧∃l r,c=(none,l,r)∧l≤r∧r≤k∧r-l≤k-x∧
    (∀i,i<l→κ.kle (KK κ (arrOf t) i) (KK κ (arrOf t) k))∧∀i,r≤i→i<k→κ.kle (KK κ (arrOf t) k) (KK κ (arrOf t) i)) ?_ ?_ ⟨rfl,0,k,rfl,bX _,by simp+arith only[],by simp+arith only[],fun i hi=>absurd hi (Nat.not_lt_zero i),fun i h1 h2=>absurd h2 (Nat.not_lt.mpr h1)⟩) ?_)
  ·rintro x c t' _ _ ⟨rfl,l,r,rfl,q1,q2,q3,lo,hi⟩
   dsimp only
   by_cases hge:l≥r
   ·refine aM (if_pos hge) ?_
    exact iL ⟨rfl,l,by with_reducible exact aD (by assumption) (by assumption),⟨r,rfl⟩,lo,fun i h1 h2=>hi i (by with_reducible exact aD (by assumption) (by assumption)) h2⟩
   refine aM (if_neg hge) ?_
   refine eV (O.ltr hB (by with_reducible exact aO (by assumption) (by assumption)) (aO (cK (aO (yG (kL hge)) q2) hkn) hn) ?_)
   cases e:κ.blt (KK κ (arrOf t') k) (KK κ (arrOf t') ((l+r)/2))with
   |true=>exact iL ⟨rfl,l,(l+r)/2,rfl,D0 (kL hge),bA (aO (yG (kL hge)) q2),Ix (by assumption) (kL hge) q3,lo,fun i h1 h2=>KeyOrd.kle_trans (KeyOrd.kle_of_klt e) (hs _ _ h1 h2)⟩
   |false=>exact iL ⟨rfl,(l+r)/2+1,r,rfl,yG (kL hge),by assumption,Gt (by assumption) (kL hge) q3,fun i h1=>KeyOrd.kle_trans (hs i ((l+r)/2) (cG (by assumption)) (aO (yG (kL hge)) q2)) e,hi⟩
  ·rintro c t' ⟨rfl,l,r,rfl,q1,q2,q3,lo,hi⟩
   exact⟨rfl,l,by with_reducible exact aD (by assumption) (by assumption),⟨r,rfl⟩,lo,fun i h1 h2=>hi i (aD (Nat.sub_eq_zero_iff_le.mp (Nat.le_zero.mp (aD q3 (aU (Nat.sub_eq_zero_of_le (Nat.le_max_right 0 k)))))) h1) h2⟩
  ·rintro c t' ⟨rfl,l,hl,⟨r,rfl⟩,lo,hi⟩
   refine(?_:wpS _ _ _ _ (do moveDown' k l;pure (pE (none,()))) _ _)
   rw[moveDown'_eq]
   refine eV (wpS_modify (iL ⟨rfl,hB.setArr (bubble_perm _ _ _),?_⟩))
   refine aM (show min (k+1) n=k+1 by exact jX (mB hkn)) ?_
   have hks:k<(arrOf t').size:=by refine aM hB.size ?_;with_reducible exact aO (by assumption) (by assumption)
   intro i j hij hj
   (rewrite[KK_bubble hks (Nat.sub_le k l),KK_bubble hks (Nat.sub_le k l)];refine aM (Nat.sub_sub_self hl) ?_)
   rcases Nat.lt_trichotomy i l with h'|h'|h'
   ·refine aM (shL h') ?_
    rcases Nat.lt_trichotomy j l with q|q|q
    ·refine aM (shL q) ?_;exact hs i j hij (aO q hl)
    ·refine aM (if_pos q) ?_;exact lo i h'
    ·refine aM (Li q (cG hj)) ?_;exact hs i (j-1) (p0 (cK h' q)) (DP q hj)
   ·refine aM (if_pos h') ?_
    rcases eM l j with q|q
    ·refine aM (Li q (cG hj)) ?_;exact hi (j-1) (p0 q) (DP q hj)
    ·refine aM (if_pos (c9 q (h'▸hij))) ?_;exact lB _
   ·have q:=aO h' hij
    refine aM (Li h' (aD hij (cG hj))) (aM (Li q (cG hj)) ?_)
    exact hs (i-1) (j-1) (Nat.sub_le_sub_right hij 1) (DP q hj)
 ·rintro c t ⟨rfl,hB,hs⟩
  rw[show min (max (max ok 1) n) n=n by exact Nat.min_eq_right (Nat.le_max_right _ _)]at hs
  exact⟨rfl,hB,hs⟩
 ·rcases eM i j with q|q
  ·exact hs i j hij (Iy q hj)
  ·refine aM (show i=j by exact c9 hij q) ?_;exact lB _
 ·rintro c t ⟨rfl,hB,hs⟩
  exact iL (h t hB hs)
theorem EL.runs{Q:Unit→SortSt→Prop}(O:EL prog w A s κ a₀)(hB:SBase a₀ st)(h2:2≤a₀.size)(h64:a₀.size<64)
  (h:∀t,(arrOf t).Perm a₀→failedOf t=none→nT κ (arrOf t) a₀.size→Q () t):wpS (model prog w) A E s sortRuns' Q st:=by
 refine aM sortRuns'_eq ?_
 refine eV (wpS_get ?_)
 have hmr:minRun' a₀.size a₀.size 0=a₀.size:=by
  have:∀f,minRun' (f+1) a₀.size 0=a₀.size:=fun f=>by(rewrite[minRun'_succ];refine aM (if_pos h64) ?_);rfl
  have e:=this (a₀.size-1)
  rwa[Nat.sub_add_cancel (Nat.le_of_succ_le h2)]at e
 simp only[hB.size,hmr]
 refine eV (wpS_mono (wpS_forRange (I:=fun x c t=>(x=0∧c=(none,0)∧SBase a₀ t)∨(1≤x∧c=(none,a₀.size)∧SDoneK κ a₀ t)) (Q:=fun c t=>c=(none,a₀.size)∧SDoneK κ a₀ t) ?_ ?_ (.inl ⟨rfl,rfl,hB⟩)) ?_)
 ·rintro x c t _ hx (⟨rfl,rfl,hB⟩|⟨hx1,rfl,hD⟩)
  ·refine aM (if_neg (Nat.not_le.mpr (aO (by decide) h2))) ?_
   simp only[Nat.sub_zero,Nat.min_self,Nat.zero_add]
   refine eV (O.count (bO _) (Nat.le_of_succ_le h2) hB fun m t2 hB2 hm1 hm2 hs2=>?_)
   dsimp only
   by_cases hlt:m<a₀.size
   ·refine aM (if_pos hlt) ?_
    refine eV (wpS_lift (fT ⟨rfl,eV (O.bin (bO _) hm2 hB2 hs2 fun t3 hB3 hs3=>?_)⟩))
    refine eV (wpS_get ?_)
    refine aM (show(pendingOf t3).back?=none by refine aM hB3.pend ?_;rfl) ?_
    exact eV (wpS_modify (iL (.inr ⟨by decide,rfl,hB3.doneK hs3⟩)))
   ·refine aM (if_neg hlt) ?_
    obtain rfl:m=a₀.size:=c9 hm2 (kN hlt)
    refine eV (wpS_get ?_)
    refine aM (show(pendingOf t2).back?=none by refine aM hB2.pend ?_;rfl) ?_
    exact eV (wpS_modify (iL (.inr ⟨by decide,rfl,hB2.doneK hs2⟩)))
  ·refine aM (if_pos (bO _)) ?_
   exact iL ⟨rfl,hD⟩
 ·rintro c t (⟨hx,_,_⟩|⟨_,hc,hD⟩)
  ·exact absurd (aD (aD h2 (Nat.le_max_right 0 _)) (aU hx)) (by decide)
  ·exact⟨hc,hD⟩
 ·rintro c t ⟨rfl,hD⟩
  refine eV (wpS_mono (wpS_forRange (I:=fun z c t'=>t'=t∧c=(none,())) (Q:=fun c t'=>t'=t∧c=(none,())) ?_ (fun z z hh=>hh) ⟨rfl,rfl⟩) ?_)
  ·rintro x c t' _ _ ⟨rfl,rfl⟩
   refine eV (wpS_get ?_)
   refine aM (if_pos (by refine aM hD.2.2.1 ?_;exact bO 1)) ?_
   exact iL ⟨rfl,rfl⟩
  ·rintro c t' ⟨rfl,rfl⟩
   exact iL (h _ hD.1 hD.2.1 hD.2.2.2)
end
noncomputable abbrev LL:=List (List Nat)
noncomputable def vQ(r:fB):Nat:=(Fx r).toNat
noncomputable def Em:fB→List Nat
 | .num n=>[n]
 | .txt cs=>cs
noncomputable def nF(rs:List fB):LL:=rs.flatMap fun r=>[[vQ r],Em r]
noncomputable def Jg(k:Int):Int:=if k=0 then 10 else if k=1 then 20 else if k=2 then 30 else if k=3 then 40 else if k=4 then 50 else if k=5 then 100 else if k=6 then 200 else 0
noncomputable def Kt:List Str:=["dev","alpha","a","beta","b","c","RC","rc","pl","p"].map aA
theorem Hc(r:fB):Fx r=Jg (oE r)∧ -1≤oE r∧oE r≤6:=by
 cases r with
 |num n=>rw[x0];exact⟨rfl,by decide,by decide⟩
 |txt cs=>
  by_cases h:(⟨cs.toArray⟩:Str)∈Kt
  ·have hw:∀x∈Kt,Fx (.txt x.cps.toList)=Jg (oE (.txt x.cps.toList))∧ -1≤oE (.txt x.cps.toList)∧oE (.txt x.cps.toList)≤6:=by decide+kernel
   exact hw _ h
  ·have n:∀x∈Kt,(⟨cs.toArray⟩:Str)≠x:=fun x hx e=>h (e▸hx)
   have b:∀x∈Kt,((⟨cs.toArray⟩:Str)==x)=false:=fun x hx=>by simp[n x hx]
   have b':∀x∈Kt,(x==(⟨cs.toArray⟩:Str))=false:=fun x hx=>by simp[(n x hx).symm]
   simp only[Kt,bT,lA,List.forall_mem_cons]at b b'
   have e1:Fx (.txt cs)=0:=by
    refine(?_:(J8.lookup _).getD 0=0)
    simp[J8,List.lookup,b]
   have e2:∀k,k<7→s0 (.txt cs) k=false:=fun k hk=>by
    have:k=0∨k=1∨k=2∨k=3∨k=4∨k=5∨k=6:=(by decide:∀k<7,k=0∨k=1∨k=2∨k=3∨k=4∨k=5∨k=6) k hk
    rcases this with rfl|rfl|rfl|rfl|rfl|rfl|rfl<;>simp[s0,tC,sD,qQ,fB.data,bU,b']
   have e3:oE (.txt cs)= -1:=by
    unfold oE
    refine aM (List.filter_eq_nil_iff.mpr fun k hk=>by refine aM (e2 k (List.mem_range.mp hk)) ?_;simp) ?_
    rfl
   refine aM e1 (aM e3 ?_);decide
theorem JG:∀a<8,∀b<8,((Jg ((a:Nat)-1:Int)).toNat<(Jg ((b:Nat)-1:Int)).toNat↔a<b):=by decide+kernel
theorem HO:∀{a:Int}, -1≤a∧a≤6→∃n:Nat,n<8∧a=n-1
 | .ofNat n,h=>⟨n+1,Nat.succ_lt_succ (Nat.lt_succ_of_le (Int.ofNat_le.mp h.2)),(Int.add_sub_cancel (n:Int) 1).symm⟩
 | .negSucc 0,_=>⟨0,by decide,rfl⟩
 | .negSucc (n+1),h=>nomatch (show Int.NonNeg (.negSucc n)from h.1)
theorem Ka:∀{a:Int},0≤Jg a:=by
 intro a
 unfold Jg;repeat' split
 all_goals decide
theorem Kb{a b:Int}(ha: -1≤a∧a≤6)(hb: -1≤b∧b≤6):(Jg a).toNat<(Jg b).toNat↔a<b:=by
 refine bG (HO ha) fun n h1 e1=>bG (HO hb) fun m h2 e2=>?_
 (refine aM e1 ?_;rw[e2,JG n h1 m h2])
 exact(Int.ofNat_lt.symm.trans (Int.sub_lt_sub_right_iff ..).symm)
theorem y6(x y:fB):vQ x<vQ y↔oE x<oE y:=by
 refine gE (Hc x) fun a b=>?_
 refine gE (Hc y) fun c d=>?_
 unfold vQ;refine aM a (aM c ?_);exact Kb b d
theorem EG{x y:fB}:vQ x=vQ y↔oE x=oE y:=by
 exact⟨fun h=>Int.le_antisymm (Int.not_lt.mp fun q=>jA ((y6 y x).mpr q) h) (Int.not_lt.mp fun q=>eZ ((y6 x y).mpr q) h),
  fun h=>c9 (Nat.not_lt.mp fun q=>Int.ne_of_gt ((y6 y x).mp q) h) (Nat.not_lt.mp fun q=>Int.ne_of_lt ((y6 x y).mp q) h)⟩
theorem Hb(x:fB):Fx x=(vQ x:Nat):=by
 have h:0≤Fx x:=by refine aM ((Hc x).1) ?_;exact Ka
 exact(nN (by assumption)).symm
theorem xH{x y:fB}(h:vQ x=vQ y):qQ x=qQ y:=by
 have e:=EG.mp h
 cases x<;>cases y
 ·rfl
 ·rw[x0]at e;exact absurd e.symm (Ah _)
 ·rw[x0]at e;exact absurd e (Ah _)
 ·rfl
theorem El{x y:fB}(k:qQ x=qQ y)(h:Em x=Em y):x=y:=by
 cases x<;>cases y<;>simp_all [qQ,Em]
theorem HA{x y:fB}(k:qQ x=qQ y):AH x.data y.data=true∧(Ku x.data y.data=true↔Em x<Em y):=by
 cases x<;>cases y<;>simp[qQ]at k
 ·exact⟨rfl,by simp[Ku,fB.data,Em,pD]⟩
 ·refine⟨rfl,?_⟩
  simp only[Ku,fB.data,Em,decide_eq_true_iff]
theorem Cj(x y:fB):bU x.data y.data=decide (x=y):=by
 rw[eN,qA _ _ (r3 x) (r3 y),decide_eq_true_iff]
 exact⟨xB,fun h=>h▸rfl⟩
theorem He(x y:fB)(a b:List fB):nF (x::a)<nF (y::b)↔vQ x<vQ y∨(vQ x=vQ y∧(Em x<Em y∨(x=y∧nF a<nF b))):=by
 refine(?_:[vQ x]::Em x::nF a<[vQ y]::Em y::nF b↔_)
 rw[pD,pD,pD]
 simp only[List.not_lt_nil,and_false,or_false,List.cons.injEq,and_true]
 constructor
 ·rintro(h|⟨h,h2|⟨h2,h3⟩⟩)
  ·exact .inl h
  ·exact .inr ⟨h,.inl h2⟩
  ·exact .inr ⟨h,.inr ⟨El (xH h) h2,h3⟩⟩
 ·rintro(h|⟨h,h2|⟨rfl,h3⟩⟩)
  ·exact .inl h
  ·exact .inr ⟨h,.inl h2⟩
  ·exact .inr ⟨h,.inr ⟨rfl,h3⟩⟩
theorem Ha:∀a b:List fB,IF (jV a) (jV b)=true∧(B3 (jV a) (jV b)=true↔nF a<nF b)
 |[],[]=>⟨rfl,by simp[jV,nF,B3,oJ]⟩
 |[],y::b=>⟨rfl,by
  show true=true↔_
  simp[nF]⟩
 |x::a,[]=>⟨rfl,by
  show false=true↔_
  simp[nF]⟩
 |x::a,y::b=>by
  refine gE (Ha a b) fun i1 i2=>?_
  rw[He]
  show IF (.int (Fx x)::x.data::jV a) (.int (Fx y)::y.data::jV b)=true∧(B3 (.int (Fx x)::x.data::jV a) (.int (Fx y)::y.data::jV b)=true↔_)
  rw[Hb,Hb]
  simp only[IF,B3,Cj,bU]
  by_cases h:vQ x=vQ y
  ·refine gE (HA (xH h)) fun k1 k2=>?_
   refine aM (if_pos (show((vQ x:Int)==(vQ y:Int))=true by simp[h])) (aM (if_pos (show((vQ x:Int)==(vQ y:Int))=true by simp[h])) ?_)
   by_cases e:x=y
   ·subst e
    simp[i1,i2,oJ]
   ·simp[e,k1,k2,h]
  ·have h':¬((vQ x:Int)==(vQ y:Int))=true:=by rw[beq_iff_eq];exact fun q=>h (Int.ofNat.inj q)
   refine aM (if_neg h') (aM (if_neg h') ?_)
   refine⟨rfl,?_⟩
   refine(?_:decide ((vQ x:Int)<(vQ y:Int))=true↔_)
   rw[decide_eq_true_iff]
   constructor
   ·intro q;exact .inl (Int.ofNat_lt.mp q)
   ·rintro(q|⟨q,_⟩)
    ·exact Int.ofNat_lt.mpr q
    ·exact absurd q h
theorem yL:∀a b:List fB,lT a b=true↔nF a<nF b
 |[],[]=>by simp[lT,nF,oJ]
 |[],y::b=>by simp[lT,nF]
 |x::a,[]=>by simp[lT,nF]
 |x::a,y::b=>by
  rw[He]
  unfold lT
  by_cases e:x=y
  ·subst e
   (refine aM (if_pos rfl) ?_;rw[yL a b])
   simp[oJ]
  ·refine aM (if_neg e) ?_
   show B3 [.int (oE x),x.data] [.int (oE y),y.data]=true↔_
   simp only[B3,Cj,bU]
   by_cases h:vQ x=vQ y
   ·refine aM (EG.mp h) ?_
    simp[e,h,(HA (xH h)).2]
   ·have h2:¬oE x=oE y:=fun q=>h (EG.mpr q)
    refine aM (if_neg (by simpa using h2)) ?_
    refine(?_:decide (oE x<oE y)=true↔_)
    simp[h,y6]
theorem xJ:∀a b:List fB,nF a=nF b→a=b
 |[],[],_=>rfl
 |[],y::b,h=>by simp[nF]at h
 |x::a,[],h=>by simp[nF]at h
 |x::a,y::b,h=>by
  have h':[vQ x]::Em x::nF a=[vQ y]::Em y::nF b:=h
  simp only[List.cons.injEq,and_true]at h'
  exact aM (El (xH h'.1) h'.2.1) (aM (xJ a b h'.2.2) rfl)
theorem Cm(a:List fB):(jV a).all pI=true:=by
 refine aM List.all_flatMap ?_
 simp only[List.all_eq_true]
 intro r _
 cases r<;>simp[tT,pI,Kw,Kv,fB.data]
theorem zY(a:Addr):Builtin.«list.sort» ⟨[.ref a],[(aA "key",.ref 57)]⟩=(do
  let items←j2 (.ref a)
  dD (.ref a) fun z=>#[]
  let before←seqEpoch a
  let held←newTuple items.toList
  let keyStore←newList []
  holding [held,keyStore] do
   rule "list.sort.key"
   for x in items do
    match←(call (.ref 57) [x]).attempt with
    | .ok k=>dD keyStore (·.push k)
    | .error e=>
     rule "list.sort.key-raised"
     let made←j2 keyStore
     dD keyStore fun z=>#[]
     letGo made.toList.reverse [e]
     dD (.ref a) fun z=>items;throw e
   let keys←j2 keyStore
   let kind←if items.size<2 then pure general' else keyKind' keys
   let((),s)←(if items.size<2 then pure ()else sortRuns').run (SortSt.mk' kind (keys.zip items) #[] 7 none)
   let sorted:=(arrOf s).map (·.2)
   dD keyStore fun z=>#[]
   letGo ((arrOf s).map (·.1)).toList (failedOf s).toList
   let touched:=(←seqEpoch a) !=before
   dD (.ref a) fun z=>sorted
   if let some e:=failedOf s then rule "list.sort.comparison-raised";throw e
   if touched then rule "list.sort.modified";raiseError "ValueError" "list modified during sort"
   ret .none):=rfl
theorem FP{α β:Type}{f:α→β}{l m:List β}(p:l.Perm m):∀zs:List α,m=zs.map f→∃zs':List α,zs'.Perm zs∧l=zs'.map f:=by
 induction p with
 |nil=>exact fun zs e=>⟨zs,.refl _,e⟩
 |cons x p ih=>
  intro zs e
  cases zs with
  |nil=>cases e
  |cons z zs=>
   injection e with e1 e2
   refine bG (ih zs e2) fun zs' p' e'=>?_
   exact⟨z::zs',p'.cons z,aM bT (aM e1 (aM e' rfl))⟩
 |swap x y l=>
  intro zs e
  rcases zs with _|⟨z,_|⟨z',zs⟩⟩
  ·nomatch e
  ·nomatch (List.cons.inj e).2
  ·injection e with e1 e2
   injection e2 with e2 e3
   exact⟨z'::z::zs,.swap z z' zs,aM bT (aM bT (aM e1 (aM e2 (aM e3 rfl))))⟩
 |trans p q i1 i2=>
  intro zs e
  refine bG (i2 zs e) fun z1 p1 e1=>?_
  refine bG (i1 z1 e1) fun z2 p2 e2=>?_
  exact⟨z2,p2.trans p1,e2⟩
theorem Cn:∀a b:List fB,jV a=jV b→a=b
 |[],[],_=>rfl
 |[],y::b,h=>by simp[jV,tT]at h
 |x::a,[],h=>by simp[jV,tT]at h
 |x::a,y::b,h=>by
  have h':cB (Fx x)::x.data::jV a= .int (Fx y)::y.data::jV b:=h
  simp only[List.cons.injEq]at h'
  exact aM (xB h'.2.1) (aM (Cn a b h'.2.2) rfl)
open Classical in
noncomputable def kO(V X:List Addr)(h:Heap):KeyKind where
 α:=LL
 blt a b:=decide (a<b)
 irrefl a:=by simp[oJ]
 trans a b c h1 h2:=by simp only[decide_eq_true_iff]at*;exact List.lt_trans h1 h2
 negTrans a b c h1:=by
  simp only[decide_eq_true_iff]at*
  by_cases h:a<b
  ·exact .inl h
  ·refine .inr (mD fun q=>?_)
   exact absurd h1 (List.not_lt.mpr (List.le_trans (List.not_lt.mp q) (List.not_lt.mp h)))
 total a b h1 h2:=by
  simp only[decide_eq_false_iff_not]at h1 h2
  exact List.le_antisymm (List.not_lt.mp h2) (List.not_lt.mp h1)
 keyOf v:=if h:∃r,Is V X h v (.list (jV r))then some (nF h.choose)else none
 dflt:=[]
open Classical in
theorem HK{X:List Addr}{h:Heap}{v:aG}{r:List fB}(x:Is V X h v (.list (jV r))):(kO V X h).keyOf v=some (nF r):=by
 have e:∃r,Is V X h v (.list (jV r)):=⟨r,x⟩
 refine(?_:(if h:∃r,Is V X h v (.list (jV r))then some (nF h.choose)else none)=_)
 refine aM (dif_pos e) ?_
 refine bK x fun as r1=>?_
 refine bK e.choose_spec fun as' r2=>?_
 have:=(Reads.unique r1 _ _ r2).1
 injection this with this
 exact aM (Cn _ _ this) rfl
open Classical in
theorem HL{X:List Addr}{h:Heap}{v:aG}{a:LL}(e:(kO V X h).keyOf v=some a):∃r,Is V X h v (.list (jV r))∧a=nF r:=by
 change (if h:∃r,Is V X h v (.list (jV r))then some (nF h.choose)else none)=some a at e
 split at e
 ·rename_i q;exact⟨_,q.choose_spec,(a9 e).symm⟩
 ·nomatch e
section
variable {a K:Addr}
theorem K9{pairs:List (aG×aG×List fB)}{a₀:Array Keyed}(hu:A.units<cLine)(h0:a₀.toList=pairs.map fun t=>(t.1,t.2.1))(hp:∀t∈pairs,Is V X s.heap t.1 (.list (jV t.2.2)))(nd:(pairs.map (·.2.2)).Nodup):EL prog w A s (kO V X s.heap) a₀ where
 keys:=fun p hp'=>by
  replace hp':=h0▸hp'
  (refine bG (n5 hp') fun t ht e_0=>?_;subst e_0)
  exact⟨_,HK (hp t ht)⟩
 nd:=by
  refine aM h0 (aM bW ?_)
  have e:pairs.map ((fun p=>(kO V X s.heap).keyOf p.1)∘fun t=>(t.1,t.2.1))=(pairs.map (·.2.2)).map fun r=>some (nF r):=by
   refine aM bW ?_
   exact cF fun t ht=>HK (hp t ht)
  refine aM e ?_
  exact List.Pairwise.map _ (fun x y n q=>n (xJ _ _ (a9 q))) nd
 lt:=fun x y b c ha hb Q E q=>by
  (refine bG (HL ha) fun r hx e_0=>?_;subst e_0)
  (refine bG (HL hb) fun r' hy e_0=>?_;subst e_0)
  refine gE (Ha r r') fun c1 c2=>?_
  (refine oX hx.of_list' fun l vs e_0=>?_;subst e_0;refine fun hl hlist hall=>?_)
  (refine oX hy.of_list' fun m us e_0=>?_;subst e_0;refine fun hm hlist2 hall2=>?_)
  obtain⟨⟨cls,dd,data,sl⟩,ho,hc,n,hd⟩:=id hlist
  obtain⟨⟨cls2,dd2,data2,sl2⟩,ho2,hc2,n2,hd2⟩:=id hlist2
  simp only at hc hd hc2 hd2
  subst hc hd hc2 hd2
  rw[oneLt'_eq]
  refine aB (wpAny_cRoomFor hu ?_)
  refine aB (wpAny_callSpecialIfBound?_slot ⟨_,ho,rfl⟩ PySem.F.slot_list_lt (call_meets PySem.F.slot_list_lt ⟨_,ho,rfl⟩ PySem.F.entry_list_lt (PySem.F.args_list_lt_2 _ _)
   (E5 l m vs.toArray us.toArray n n2 dd dd2 sl sl2 X _ _ (by simp[hall.length]) (by simp[hall2.length]) (Cm _) (Cm _) c1) ⟨ho,ho2,hall,hall2,?_⟩))
  refine pN ?_
  have:B3 (jV r) (jV r')=decide (nF r<nF r'):=by rw[eN,c2,decide_eq_true_iff]
  refine aM this ?_
  exact q
theorem A8{l:Addr}{f:Array aG→Array aG}{ys:Array aG}{Q:Unit→aH→Prop}(hp:s.heap.PlainList l ys)(lV:l∉V)(z1:ys.size≤1000)(z2:(f ys).size≤1000)
  (q:∀h',h'.PlainList l (f ys)→Mu V [l] s {s with heap:=h'}→Q () {s with heap:=h'}):wpAny (model prog w) A (dD (.ref l) f) Q E s:=by
 refine bK hp fun n e=>?_
 refine listUpdate_at e rfl (q _ ⟨_,get?_update_seq e f⟩ (iK lV (cU ..))) ?_ ?_
 ·refine aM bV ?_;exact aD (by assumption) (by decide)
 ·refine aM bV ?_;exact aD (by assumption) (by decide)
theorem zZ{vs:List aG}(h:∀v∈vs,s.TypeIs v "list")(hz:vs≠[]){Q:SortKind→aH→Prop}(q:Q oneType' s):wpAny (model prog w) A (keyKind' vs.toArray) Q E s:=by
 have m1:∀(l:List aG),(∀v∈l,s.TypeIs v "list")→∀Q:List (Option aG)→aH→Prop,Q (l.map fun z=>none) s→wpAny (model prog w) A (l.mapM firstOfTuple') Q E s:=by
  intro l
  induction l with
  |nil=>exact fun z Q q=>aE q
  |cons v l ih=>
   intro h Q q
   refine aM List.mapM_cons ?_
   refine aB ?_
   refine aB (wpAny_typeOf (h v aF) ?_)
   refine dN (by decide+kernel) (aE (aB (ih (fun u hu=>h u (aC _ hu)) _ (aE q))))
 have m2:∀(l:List aG),(∀v∈l,s.TypeIs v "list")→∀Q:List aG→aH→Prop,Q (l.map fun z=>.type "list") s→wpAny (model prog w) A (l.mapM typeOf) Q E s:=by
  intro l
  induction l with
  |nil=>exact fun z Q q=>aE q
  |cons v l ih=>
   intro h Q q
   refine aM List.mapM_cons ?_
   exact aB (wpAny_typeOf (h v aF) (aB (ih (fun u hu=>h u (aC _ hu)) _ (aE q))))
 (refine oL (mT hz) fun v vs e_0=>?_;subst e_0)
 (rewrite[keyKind'_eq];refine aM List.mapM_toArray ?_)
 refine aB ?_
 rw[map_eq_pure_bind]
 refine aB (m1 _ h _ (aE ?_))
 refine aM (if_neg (by simp)) (aM (if_neg (by simp)) ?_)
 refine aB ?_
 (rewrite[oneTypeOnly'_eq];refine aM List.mapM_toArray ?_)
 refine aB ?_
 rw[map_eq_pure_bind]
 refine aB (m2 _ h _ (aE ?_))
 have hall:((List.map (fun z=>Value.type "list") (v::vs)).toArray.all fun x=>x==Value.type "list")=true:=by
  simp only[List.all_toArray,List.all_map,List.all_eq_true]
  intro _ _
  rfl
 have h0:(List.map (fun z=>Value.type "list") (v::vs)).toArray[0]?=some (Value.type "list"):=by trivial
 refine aM h0 ?_
 simp only[hall,if_true]
 exact aE (aE q)
end
theorem C6(sep:Str):∀(ts:List Str) (acc:Array Nat),(ts.foldl (fun acc p=>acc++sep.cps++p.cps) acc).toList=acc.toList++ts.flatMap fun p=>sep.cps.toList++p.cps.toList
 |[],acc=>by simp
 |t::ts,acc=>by(refine aM qF ?_;rw[C6 sep ts]);simp[List.append_assoc]
theorem vJ(sep t:Str)(ts:List Str):(Txt.join sep (t::ts)).cps.toList=t.cps.toList++ts.flatMap fun p=>sep.cps.toList++p.cps.toList:=C6 sep ts t.cps
theorem EQ(x:Int):(j3 x).cps.toList=(lJ x 0).cps.toList++((lJ x 1).cps.toList++((lJ x 2).cps.toList++(lJ x 3).cps.toList)):=by
 refine(?_:(Txt.join (aA "") [lJ x 0,lJ x 1,lJ x 2,lJ x 3]).cps.toList=_)
 rw[vJ]
 simp[show(aA "").cps.toList=[]from rfl]
theorem CA:∀p∈kI,(∀c∈p.cps.toList,c<128∧pS c=(c==32))∧p.cps.toList.length≤5:=by decide+kernel
theorem DA(x:Int):∀c∈(j3 x).cps.toList,c<128∧pS c=(c==32):=fun c hc=>by
 have p:=fun i=>(CA _ (tJ x i)).1
 rw[EQ]at hc
 simp only[b8]at hc
 rcases hc with h|h|h|h
 ·exact p 0 c h
 ·exact p 1 c h
 ·exact p 2 c h
 ·exact p 3 c h
theorem w8(x:Int):(j3 x).cps.toList.length≤20:=by
 have p:=fun i=>(CA _ (tJ x i)).2
 have:=p 0;have:=p 1;have:=p 2;have:=p 3
 rw[EQ];simp only[b4];exact aD (cY (by assumption) (cY (by assumption) (cY (by assumption) this))) (by decide)
noncomputable def rM(g:Nat→Bool)(l:List Nat):List Nat:=((l.dropWhile g).reverse.dropWhile g).reverse
theorem sB{g:Nat→Bool}:∀l:List Nat,l.drop (l.takeWhile g).length=l.dropWhile g
 |[]=>rfl
 |a::l=>by
  refine aM List.takeWhile_cons (aM qX ?_)
  split
  ·exact sB l
  ·rfl
theorem AF(g:Nat→Bool)(x:Str):(Txt.stripBy g true true x).cps.toList=rM g x.cps.toList:=by
 rw[PyProof.Rows.stripBy_eq]
 unfold iZ stripLo stripHi rM
 simp only[if_true,sB,Str.length]
 (refine aM Array.toList_extract (aM m5 ?_);rw[sB])
 have e:(x.cps.toList.dropWhile g).length=x.cps.size-(x.cps.toList.takeWhile g).length:=by(rewrite[←sB];exact aM List.length_drop (aM bM rfl))
 generalize x.cps.toList.dropWhile g=d at*
 (refine gU (sB d.reverse) (aM List.reverse_drop ?_);rewrite[List.reverse_reverse];refine aM List.length_reverse ?_)
 congr 1
 omega
theorem pK{g g':Nat→Bool}:∀l:List Nat,(∀c∈l,g c=g' c)→l.dropWhile g=l.dropWhile g'
 |[],_=>rfl
 |a::l,h=>by
  exact aM qX (aM qX (aM (h a aF) (aM (pK l fun c hc=>h c (aC _ hc)) rfl)))
theorem u3{g g':Nat→Bool}{l:List Nat}(h:∀c∈l,g c=g' c):rM g l=rM g' l:=by
 unfold rM
 exact aM (pK l h) (aM (pK _ fun c hc=>h c ((lO g').subset (List.mem_reverse.mp hc))) rfl)
theorem uM{g:Nat→Bool}{l:List Nat}:∀c∈rM g l,c∈l:=fun c hc=>
 (lO g).subset (List.mem_reverse.mp ((lO g).subset (List.mem_reverse.mp hc)))
theorem uN{g:Nat→Bool}{l:List Nat}:(rM g l).length≤l.length:=by
 refine aM List.length_reverse ?_
 refine aD (lO g).length_le ?_
 refine aM List.length_reverse ?_
 exact(lO g).length_le
noncomputable def IG(x:Int):Nat:=((x.fdiv 8).fmod 3).toNat
noncomputable def nmF(x:Int):Str:=t6 (IG x)
noncomputable def vtF(x:Int):Str:=Txt.stripChars (j3 x) (aA " ")
theorem Dg(x:Int):IG x<3:=by
 have:=jJ (x.fdiv 8) (b:=3) (by decide)
 have:=fA (x.fdiv 8) (b:=3) (by decide)
 unfold IG;omega
theorem uL(x:Int):(vtF x).cps.toList=rM (fun c=>c==32) (j3 x).cps.toList:=by
 unfold vtF Txt.stripChars
 rw[AF]
 refine u3 fun c z=>?_
 refine(?_:(#[32]:Array Nat).contains c=_)
 rw[eN];simp
theorem Ac{x y:Str}(h:x.cps.toList=y.cps.toList):x=y:=by
 cases x;cases y;congr 1;exact Array.toList_inj.mp h
theorem Db{n:Nat}(h:n<10^20):n.log2<1900:=by
 rcases Nat.eq_zero_or_pos n with rfl|hp
 ·decide
 ·exact(Nat.log2_lt (jA hp)).mpr (cK h (by decide+kernel))
theorem Eg:∀r:List Nat,(∀c∈r,c≤57)→gX r<10^r.length:=by
 intro r
 refine pV (P:=fun r=>(∀c∈r,c≤57)→gX r<10^r.length) (fun z=>by decide) (fun l a ih h=>?_) r
 have h1:=ih fun c hc=>h c (by simp[hc])
 have h2:=h a (by simp)
 (rewrite[NumText.digitsVal_snoc];refine aM b4 (aM fI ?_);rw[Nat.pow_succ])
 omega
theorem sJ{cs:List Nat}(hz:cs.length≤20)(ha:∀c∈cs,c<128):A5 (fE cs)∧(fE cs).length≤20∧∀r∈fE cs,r.ok:=by
 refine jM (oN cs) fun i1 z i3=>?_
 have hr:∀r∈(i0 cs).1,Er r∧(∀c∈r,c∈cs)∧r.length≤20:=fun r h=>⟨(i1 r h).1,(i1 r h).2.1,aD (i1 r h).2.2 hz⟩
 have num:∀n,fB.num n∈fE cs→n<10^20:=fun n hn=>by
  refine bG (n5 hn) fun r h e=>?_
  refine jM (hr r h) fun ok z hl=>?_
  unfold nZ at e
  split at e
  ·rename_i k
   injection e with e
   refine gU e ?_
   refine aO (Eg r fun c hc=>?_) (Nat.pow_le_pow_right (by decide) hl)
   have:=ok.all c hc
   replace this:=k▸this
   unfold kd at this
   split at this
   ·contradiction
   ·split at this<;>lia
  ·nomatch e
 have txt:∀t,fB.txt t∈fE cs→t.length≤20∧∀c∈t,c<128:=fun t hn=>by
  refine bG (n5 hn) fun r h e=>?_
  refine jM (hr r h) fun ok hm hl=>?_
  unfold nZ at e
  split at e
  ·nomatch e
  ·injection e with e
   subst e
   exact⟨hl,fun c hc=>ha c (hm c hc)⟩
 have len:(fE cs).length≤20:=by unfold fE;rw[aQ];with_reducible exact aD (by assumption) (by assumption)
 refine⟨⟨aD (by assumption) (by decide),fun n hn=>by rw[Int.natAbs_natCast];exact Db (num n hn),fun r hr=>?_⟩,len,fun r hr=>?_⟩
 ·cases r with
  |num n=>
   have h1:=num n hr
   have e:=kB n
   refine(?_:(aA (toString (n:Int))).cps.size≤700)
   (refine gU bM (aM e ?_);rw[aQ])
   exact aD ((Nat.length_toDigits_le_iff (b:=10) (by decide) (by decide)).mpr h1) (by decide)
  |txt t=>
   have:=(txt t hr).1
   simp;exact aD (by assumption) (by decide)
 ·cases r with
  |num n=>trivial
  |txt t=>exact(txt t hr).2
theorem H6(x:Int):∃p q,sR x (nmF x) (vtF x) p q:=by
 have vo:=DA x
 have vl:=w8 x
 have hv:(vtF x).cps.toList=rM pS (j3 x).cps.toList:=by
  rw[uL];exact u3 fun c hc=>(vo c hc).2.symm
 have l4:(vtF x).cps.toList.length≤20:=by rw[uL];exact aD uN vl
 have asc:∀c∈(vtF x).cps.toList,c<128:=fun c hc=>by rw[uL]at hc;exact(vo c (uM c hc)).1
 have fin:∀P R nm,(Bu x++j3 x).cps.toList=P++61::R→61∉P→P.length≤3→(∀c∈P,c<128)→(∃r,R=r++(j3 x).cps.toList∧r.length≤1∧∀c∈r,c=32)→Txt.strip ⟨P.toArray⟩=nm→nmF x=nm→∃p q,sR x (nmF x) (vtF x) p q:=by
  (intro P R nm e hP hPl hPa q_1 hs hn;refine nY q_1 fun r e_0 hrl hr=>?_;subst e_0)
  have e':Bu x++j3 x=⟨(P++61::(r++(j3 x).cps.toList)).toArray⟩:=Ac (aM e rfl)
  refine⟨⟨P.toArray⟩,⟨(r++(j3 x).cps.toList).toArray⟩,?_,hs.trans hn.symm,?_,?_,?_,?_,?_,asc,(sJ l4 asc).1⟩
  ·refine aM e' ?_
   refine Kl hP fun c hc=>?_
   simp only[b8,bL]at hc
   rcases hc with h|rfl|h|h
   ·have:=hPa c h;exact aO (by assumption) (by decide)
   ·decide
   ·refine aM (hr c h) ?_;decide
   ·have:=(vo c h).1;exact aO (by assumption) (by decide)
  ·refine Ac ?_
   unfold Txt.strip
   (rewrite[AF];refine aM hv ?_)
   unfold rM
   congr 3
   have:∀r l:List Nat,(∀c∈r,c=32)→(r++l).dropWhile pS=l.dropWhile pS:=fun r=>by
    induction r with
    |nil=>exact fun l z=>rfl
    |cons a r ih=>
     intro l h
     refine aM mZ (aM qX (aM (h a aF) (aM (if_pos (by decide+kernel)) ?_)))
     exact ih l fun c hc=>h c (aC _ hc)
   exact this r _ hr
  ·refine aM e' ?_;refine(?_:(P++61::(r++(j3 x).cps.toList)).toArray.size≤900);refine aM jY ?_;simp only[b4,d6];exact aD (cY hPl (cY (cY hrl vl) (bO _))) (by decide)
  ·refine(?_:P.toArray.size≤900);refine aM jY ?_;exact aD (by assumption) (by decide)
  ·refine(?_:(r++(j3 x).cps.toList).toArray.size≤900);refine aM jY ?_;simp only[b4,d6];exact aD (cY hrl vl) (by decide)
  ·refine(?_:(vtF x).cps.size≤600);refine gU bM ?_;exact aD (by assumption) (by decide)
 have app:∀y:Str,(y++j3 x).cps.toList=y.cps.toList++(j3 x).cps.toList:=fun y=>by
  refine(?_:(y.cps++(j3 x).cps).toList=_)
  simp
 have hk:=Dg x
 have hp:Bu x=([aA "a=",aA " b =",aA "c = "][IG x]?).getD Str.empty:=rfl
 have hn:nmF x=t6 (IG x):=rfl
 generalize IG x=k at hk hp hn
 obtain rfl|rfl|rfl:k=0∨k=1∨k=2:=(by decide:∀k<3,k=0∨k=1∨k=2) k (by assumption)
 ·exact fin [97] (j3 x).cps.toList (t6 0) (by(rewrite[app];refine aM hp ?_);rfl) (by decide) (by decide) (by decide) ⟨[],rfl,by decide,by decide⟩ (by decide+kernel) hn
 ·exact fin [32,98,32] (j3 x).cps.toList (t6 1) (by(rewrite[app];refine aM hp ?_);rfl) (by decide) (by decide) (by decide) ⟨[],rfl,by decide,by decide⟩ (by decide+kernel) hn
 ·exact fin [99,32] (32::(j3 x).cps.toList) (t6 2) (by(rewrite[app];refine aM hp ?_);rfl) (by decide) (by decide) (by decide) ⟨[32],rfl,by decide,by decide⟩ (by decide+kernel) hn
noncomputable def j8(rs:List fB):Prop:=∀r∈rs,match r with
 | .num _=>True
 | .txt cs=>cs≠[]∧∀c∈cs,kd c=2
theorem Ad(cs:List Nat):j8 (fE cs):=fun r hr=>by
 (refine bG (n5 hr) fun t h e_0=>?_;subst e_0)
 refine gE ((oN cs).1 t h) fun ok z=>?_
 unfold nZ
 split
 ·rename_i q;split at q<;>first|trivial|cases q
 ·rename_i q
  split at q
  ·nomatch q
  ·rename_i k
   injection q with q
   subst q
   refine⟨ok.ne,fun c hc=>?_⟩
   refine aM (ok.all c hc) ?_
   have h0:=ok.k
   have:kd (t.headD 0)=0∨kd (t.headD 0)=1∨kd (t.headD 0)=2:=by
    unfold kd;repeat' split
    all_goals simp
   lia
theorem vP{n:Nat}{c:Char}(h:c∈Nat.toDigits 10 n):48≤c.toNat∧c.toNat≤57:=by
 have:=Nat.isDigit_of_mem_toDigits (by decide) (by decide) h
 simp[Char.isDigit,UInt32.le_iff_toNat_le]at this
 exact this
theorem xE(rs:List fB)(ok:j8 rs):∀r∈rs,(jD r).cps.toList≠[]∧46∉(jD r).cps.toList∧∀r'∈rs,True:=fun r hr=>by
 have h:=ok r hr
 cases r with
 |num n=>
  refine aM (show(jD (.num n)).cps.toList=_ from kB n) ?_
  refine⟨fun e=>?_,fun hm=>?_,fun z z=>trivial⟩
  ·have:=toDigits_len_ge 10 n
   rw[List.map_eq_nil_iff]at e
   replace this:=e▸this;cases this
  ·refine bG (n5 hm) fun c hc e=>?_
   have:=vP hc
   exact absurd this.1 (Nat.not_le.mpr (aR (aU e) (by decide)))
 |txt cs=>
  refine⟨h.1,fun hm=>?_,fun z z=>trivial⟩
  have:=h.2 46 hm
  cases this
theorem G1{a b:fB}(ha:j8 [a])(hb:j8 [b])(e:jD a=jD b):a=b:=by
 have nt:∀n cs,j8 [.txt cs]→jD (.num n)≠jD (.txt cs):=fun n cs h e=>by
  have h:=h _ aF
  have e:(jD (.num n)).cps.toList=cs:=by refine aM e ?_;rfl
  rw[show(jD (.num n)).cps.toList=_ from kB n]at e
  refine oL (mT h.1) fun c r q=>?_
  have k2:=h.2 c (by refine aM q ?_;exact aF)
  have hm:c∈(Nat.toDigits 10 n).map Char.toNat:=by refine aM e (aM q ?_);exact aF
  (refine bG (n5 hm) fun ch hc e_0=>?_;subst e_0)
  have:=vP hc
  unfold kd at k2
  repeat' split at k2
  all_goals lia
 cases a with
 |num n=>
  cases b with
  |num m=>
   have e:=congrArg (fun x:Str=>gX x.cps.toList) e
   rw[show(jD (.num n)).cps.toList=_ from kB n,show(jD (.num m)).cps.toList=_ from kB m,KIN.val_back,KIN.val_back]at e
   exact aM e rfl
  |txt cs=>exact absurd e (nt n cs hb)
 |txt cs=>
  cases b with
  |num m=>exact absurd e.symm (nt m cs ha)
  |txt ds=>
   have e:=congrArg (fun x:Str=>x.cps.toList) e
   exact aM (show cs=ds from e) rfl
theorem wK:∀{a b u v:List Nat},46∉a→46∉b→a++46::u=b++46::v→a=b∧u=v
 |[],[],u,v,_,_,e=>⟨rfl,List.cons.inj e|>.2⟩
 |[],y::b,u,v,_,hb,e=>by injection e with e1 _;exact absurd (e1▸aF) hb
 |x::a,[],u,v,ha,_,e=>by injection e with e1 _;exact absurd (e1▸aF) ha
 |x::a,y::b,u,v,ha,hb,e=>by
  injection e with e1 e2
  refine gE (wK (fun h=>ha (aC _ h)) (fun h=>hb (aC _ h)) e2) fun q1 q2=>?_
  exact⟨aM e1 (aM q1 rfl),q2⟩
noncomputable def tR(ts:List (List Nat)):List Nat:=ts.flatMap fun t=>46::t
theorem Ci:∀{ts us:List (List Nat)},(∀t∈ts,46∉t)→(∀t∈us,46∉t)→tR ts=tR us→ts=us
 |[],[],_,_,_=>rfl
 |[],u::us,_,_,e=>by cases e
 |t::ts,[],_,_,e=>by cases e
 |t::ts,u::us,ht,hu,e=>by
  have e:t++tR ts=u++tR us:=(List.cons.inj e).2
  have h1:=ht t aF
  have h2:=hu u aF
  have st:∀vs:List (List Nat),vs=[]∨∃w,tR vs=46::w:=fun vs=>by
   cases vs with
   |nil=>exact .inl rfl
   |cons v vs=>exact .inr ⟨_,rfl⟩
  have key:t=u∧tR ts=tR us:=by
   rcases st ts with rfl|⟨w,hw⟩
   ·rcases st us with rfl|⟨w',hw'⟩
    ·simpa[tR]using e
    ·rw[hw',show tR []=[]from rfl,fC]at e
     exact absurd (e▸aJ _ aF) h1
   ·rcases st us with rfl|⟨w',hw'⟩
    ·rw[hw,show tR []=[]from rfl,fC]at e
     exact absurd (e▸aJ _ aF) h2
    ·rw[hw,hw']at e⊢
     refine gE (wK h1 h2 e) fun a b=>?_
     exact⟨a,aM b rfl⟩
  exact aM key.1 (aM (Ci (fun v hv=>ht v (aC _ hv)) (fun v hv=>hu v (aC _ hv)) key.2) rfl)
theorem vI(rs:List fB)(h:rs≠[]):46::(keyOf rs).cps.toList=tR (rs.map fun r=>(jD r).cps.toList):=by
 (refine oL (mT h) fun r rs e_0=>?_;subst e_0)
 unfold keyOf tR
 (refine aM bT ?_;rewrite[vJ];refine aM bT (aM gG ?_);rw[mX,mX])
 rfl
theorem E7{a b:List fB}(ha:j8 a)(hb:j8 b)(e:keyOf a=keyOf b):a=b:=by
 have one:∀r rs,j8 (r::rs)→keyOf (r::rs)≠keyOf []:=fun r rs h e=>by
  have h1:=(xE _ h r aF).1
  have e2:=congrArg (fun x:Str=>x.cps.toList) e
  unfold keyOf at e2
  rw[bT,vJ]at e2
  exact h1 (List.append_eq_nil_iff.mp e2).1
 have mp:∀(a b:List fB),j8 a→j8 b→(a.map fun r=>(jD r).cps.toList)=(b.map fun r=>(jD r).cps.toList)→a=b:=by
  intro a
  induction a with
  |nil=>intro b _ _ e;cases b with|nil=>rfl|cons _ _=>cases e
  |cons x a ih=>
   intro b ha hb e
   cases b with
   |nil=>cases e
   |cons y b=>
    injection e with e1 e2
    exact aM (G1 (a:=x) (b:=y) (fun r h=>by replace h:=(LV h);subst h;exact ha _ aF) (fun r h=>by replace h:=(LV h);subst h;exact hb _ aF) (Ac e1)) (aM (ih b (fun r h=>ha r (aC _ h)) (fun r h=>hb r (aC _ h)) e2) rfl)
 cases a with
 |nil=>
  cases b with
  |nil=>rfl
  |cons y b=>exact absurd e.symm (one y b hb)
 |cons x a=>
  cases b with
  |nil=>exact absurd e (one x a ha)
  |cons y b=>
   have e2:=congrArg (fun x:Str=>46::x.cps.toList) e
   rw[vI _ (by simp),vI _ (by simp)]at e2
   refine mp _ _ ha hb (Ci (fun t ht=>?_) (fun t ht=>?_) e2)
   ·(refine bG (n5 ht) fun r hr e_0=>?_;subst e_0);exact(xE _ ha r hr).2.1
   ·(refine bG (n5 ht) fun r hr e_0=>?_;subst e_0);exact(xE _ hb r hr).2.1
noncomputable abbrev IB:=List (Str×List Int)
noncomputable def Bk.v(b:Bk):IB:=b.sh.map fun z=>(z.key,z.pl)
noncomputable def AB(k:Str)(f:Bool)(v:IB):IB:=if k∈v.map (·.1)∨f=true then v else v++[(k,[])]
noncomputable def Ai(k:Str)(a:List Int)(v:IB):IB:=v.map fun z=>if z.1=k then(z.1,z.2++a)else z
noncomputable def BK(k:Str)(v:IB):List Int:=(v.lookup k).getD []
noncomputable def RS(S:iD)(nm:Str)(S':iD)(b':Bk):Prop:=S'.fz=S.fz∧S'.bks=S.bks.map fun c=>if c.name=nm then b' else c
noncomputable def Jp(S:iD)(nm:Str)(b:Bk):Prop:=b.name=nm∧(S.bks.map (·.name)).Nodup∧(b∈S.bks∨nm∉S.bks.map (·.name))
section
variable {S S' S₁ S₂:iD} {b b' b₂:Bk} {k key:Str} {z:zI} {x:Int} {t:Option (List Int)}
theorem qM{l:List Bk}(h:nm∉l.map (·.name)):(l.map fun c=>if c.name=nm then b' else c)=l:=by
 exact(cF (g:=id) fun c hc=>if_neg fun e:c.name=nm=>h (e▸bQ hc)).trans (oB _)
theorem Jp.self(o:Jp S nm b):RS S nm S b:=by
 refine⟨rfl,?_⟩
 rcases o.2.2 with h|h
 ·refine oL (rL h) fun p q e=>?_
  have n:=o.2.1
  rw[e]at n⊢
  rw[bB,bT,cZ]at n
  refine jM n fun n1 n2 n3=>?_
  rw[gK]at n2
  have hn:=o.1
  exact aM bB (aM bT (aM (if_pos hn) (aM (qM (l:=p) (fun h=>n3 _ h nm (by simp[hn]) rfl)) (aM (qM (l:=q) (by refine gU hn ?_;exact n2.1)) rfl))))
 ·exact(qM h).symm
theorem Cw.rs(p:Cw S b b' S')(o:Jp S nm b):RS S nm S' b':=by
 cases p with
 |stored=>
  refine jM o fun hn n z=>?_
  refine⟨rfl,?_⟩
  dsimp only at n⊢
  rw[bB,bT,cZ]at n
  refine jM n fun n1 n2 n3=>?_
  rw[gK]at n2
  exact aM bB (aM bT (aM (if_pos hn) (aM (qM (fun h=>n3 _ h nm (by simp[hn]) rfl)) (aM (qM (by refine gU hn ?_;exact n2.1)) rfl))))
 |loose n=>
  refine⟨rfl,?_⟩
  rcases o.2.2 with h|h
  ·exact absurd (j5 h aF) (n _ aF)
  ·exact(qM h).symm
theorem RS.names(r:RS S nm S' b')(h:b'.name=nm):S'.bks.map (·.name)=S.bks.map (·.name):=by
 refine aM r.2 (aM bW ?_)
 refine cF fun c z=>?_
 refine(?_:(if c.name=nm then b' else c).name=c.name)
 split
 ·rename_i e;exact aM h (aM e rfl)
 ·rfl
theorem RS.own(r:RS S nm S' b')(o:Jp S nm b)(h:b'.name=nm):Jp S' nm b':=by
 refine⟨h,by refine aM (r.names h) ?_;exact o.2.1,?_⟩
 rcases o.2.2 with q|q
 ·refine .inl ?_
  refine aM r.2 ?_
  exact List.mem_map.mpr ⟨b,q,if_pos o.1⟩
 ·exact .inr (by refine aM (r.names h) ?_;exact q)
theorem RS.trans(r:RS S nm S₁ b)(q:RS S₁ nm S' b')(h:b.name=nm):RS S nm S' b':=by
 refine⟨q.1.trans r.1,?_⟩
 refine aM q.2 (aM r.2 (aM bW ?_))
 refine cF fun c z=>?_
 refine(?_:(if(if c.name=nm then b else c).name=nm then b' else(if c.name=nm then b else c))=_)
 by_cases e:c.name=nm
 ·simp only[e,if_true,h]
 ·simp only[e,if_false]
theorem JD(h:z∈b.sh):z.key∈b.v.map (·.1):=by
 refine aM bW ?_;exact List.mem_map.mpr ⟨z,h,rfl⟩
theorem HQ(n:(b.v.map (·.1)).Nodup)(h:z∈b.sh):BK z.key b.v=z.pl:=by
 unfold Bk.v at n
 rw[bW]at n
 unfold BK Bk.v
 refine oL (rL h) fun p q e=>?_
 rw[e]at n⊢
 rw[bB,bT,cZ]at n
 have:(p.map fun z=>(z.key,z.pl)).lookup z.key=none:=by
  rw[List.lookup_eq_none_iff]
  intro y hy
  (refine bG (n5 hy) fun z' hz' e_0=>?_;subst e_0)
  have:=n.2.2 z'.key (List.mem_map.mpr ⟨z',hz',rfl⟩) z.key (aF)
  simpa using fun e=>this e.symm
 refine aM bB (aM List.lookup_append (aM this ?_))
 simp
theorem tX.view(g:tX S b k S' b' z)(o:Jp S nm b)(n:(b.v.map (·.1)).Nodup):RS S nm S' b'∧b'.name=nm∧b'.fz=b.fz∧b'.v=AB k b.fz.isSome b.v∧z.key=k∧(z∈b'.sh∨k∉b'.v.map (·.1))∧z.pl=BK k b.v:=by
 have nk:(∀z∈b.sh,z.key≠k)→k∉b.v.map (·.1):=fun h hm=>by
  unfold Bk.v at hm
  rw[bW]at hm
  refine bG (n5 hm) fun z hz e=>?_
  exact h z hz e
 have g0:(∀z∈b.sh,z.key≠k)→[]=BK k b.v:=fun h=>by
  unfold BK
  refine aM (List.lookup_eq_none_iff.mpr fun y hy=>by
   have:=nk h
   simpa using fun e:k=y.1=>this (e▸bQ hy)) ?_
  rfl
 cases g with
 |there z h hn=>
  subst hn
  exact⟨o.self,o.1,rfl,by unfold AB;exact aM (if_pos (.inl (JD h))) rfl,rfl,.inl h,(HQ n h).symm⟩
 |made l no fz S' p=>
  refine⟨p.rs o,o.1,rfl,?_,rfl,.inl (by simp),g0 no⟩
  unfold AB
  refine aM (if_neg (by refine aM fz ?_;exact fun h=>h.elim (nk no) fun h=>nomatch h)) ?_
  unfold Bk.v
  simp
 |tmp l no fz=>
  refine⟨o.self,o.1,rfl,?_,rfl,.inr (nk no),g0 no⟩
  unfold AB
  exact aM (if_pos (.inr (by cases h:b.fz with|none=>exact absurd h fz|some _=>rfl))) rfl
theorem vX(a:List Int){v:IB}(h:k∉v.map (·.1)):Ai k a v=v:=by
 exact(cF (g:=id) fun c hc=>if_neg fun e:c.1=k=>h (e▸bQ hc)).trans (oB _)
theorem G2{v:IB}:Ai k [] v=v:=by
 unfold Ai
 (refine aM (cF (g:=id) fun c hc=>by simp) ?_;rw[oB])
theorem Cv.view(a:Cv S b z i S')(o:Jp S nm b)(hk:z.key=k)(n:(b.v.map (·.1)).Nodup)(hz:z∈b.sh∨k∉b.v.map (·.1)):∃b',RS S nm S' b'∧b'.name=nm∧b'.fz=b.fz∧b'.v=Ai k [i] b.v:=by
 cases a with
 |stored e p=>
  rename_i p1 p2
  refine⟨_,p.rs o,o.1,rfl,?_⟩
  unfold Bk.v at n⊢
  rw[bW]at n
  rw[e]at n⊢
  rw[bB,bT,cZ]at n
  refine jM n fun n1 n2 n3=>?_
  rw[gK]at n2
  unfold Ai
  refine aM bB (aM bT (aM bB (aM bT (aM bB (aM bT (aM (if_pos hk) ?_))))))
  have q1:=vX (k:=k) [i] (v:=p1.map fun z=>(z.key,z.pl)) (fun h=>by rw[bW]at h;exact n3 _ h k (by simp[←hk]) rfl)
  have q2:=vX (k:=k) [i] (v:=p2.map fun z=>(z.key,z.pl)) (fun h=>by rw[bW]at h;rw[←hk]at h;exact n2.1 h)
  unfold Ai at q1 q2
  exact aM q1 (aM q2 rfl)
 |loose h=>
  refine⟨b,o.self,o.1,rfl,?_⟩
  rcases hz with q|q
  ·exact absurd q h
  ·exact(vX _ q).symm
theorem rS.own(g:rS S nm S₁ b)(n:(S.bks.map (·.name)).Nodup):Jp S₁ nm b:=by
 cases g with
 |there b h hn=>exact⟨hn,n,.inl h⟩
 |made a d no fz=>
  refine⟨rfl,?_,.inl (by simp)⟩
  (refine aM bB ?_;rw[cZ])
  refine⟨n,by simp,fun x hx y hy e=>?_⟩
  (refine bG (n5 hx) fun b hb e_0=>?_;subst e_0)
  replace hy:=kQ hy
  exact no b hb (e.trans hy)
 |tmp a d no fz=>
  refine⟨rfl,n,.inr fun h=>?_⟩
  refine bG (n5 h) fun b hb e=>?_
  exact no b hb e
theorem pU.view(d:pU S x i nm key S' t)(h6:x.fmod 8≠6)(n:(S.bks.map (·.name)).Nodup)(nk:∀b∈S.bks,(b.v.map (·.1)).Nodup):
  ∃S₁ b b',rS S nm S₁ b∧RS S₁ nm S' b'∧b'.name=nm∧(x.fmod 8=5→b'.fz.isSome=true∧b'.v=b.v∧t=none)∧
   (x.fmod 8≠5→b'.fz=b.fz∧b'.v=Ai key (if x.fmod 8=4 then[]else[i]) (AB key b.fz.isSome b.v)∧t=some (BK key b.v)):=by
 have bn:∀{S₁:iD} {b:Bk},rS S nm S₁ b→(b.v.map (·.1)).Nodup:=fun g=>by
  cases g with
  |there=>exact nk _ (by assumption)
  |made a d no fz=>exact List.nodup_nil
  |tmp a d no fz=>exact List.nodup_nil
 have an:∀{f:Bool} {v:IB},(v.map (·.1)).Nodup→((AB key f v).map (·.1)).Nodup:=fun{f v} h=>by
  unfold AB
  split
  ·exact h
  ·rename_i q
   (refine aM bB ?_;rw[cZ])
   refine⟨h,by simp,fun x hx y hy e=>?_⟩
   simp at hy
   exact q (.inl (hy▸e▸hx))
 cases d with
 |shut f h=>exact absurd h h6
 |shutB h g p=>exact⟨_,_,_,g,p.rs (g.own n),(g.own n).1,fun z=>⟨rfl,rfl,rfl⟩,fun q=>absurd h q⟩
 |peek h g g2=>
  refine IJ (g2.view (g.own n) (bn g)) fun r e1 e2 e3 e4 e5 e6=>?_
  refine⟨_,_,_,g,r,e1,(fun q=>by replace q:=h▸q;nomatch q),fun z=>⟨e2,?_,aM e6 rfl⟩⟩
  exact aM (if_pos h) (aM G2 (aM e3 rfl))
 |add h4 h5 h6 g g2 ap=>
  refine IJ (g2.view (g.own n) (bn g)) fun r e1 e2 e3 e4 e5 e6=>?_
  refine Ln (ap.view (r.own (g.own n) e1) e4 (by refine aM e3 ?_;exact an (bn g)) e5) fun b' r' f1 f2 f3=>?_
  exact⟨_,_,b',g,r.trans r' e1,f1,fun q=>absurd q h5,fun z=>⟨f2.trans e2,aM (if_neg h4) (aM f3 (aM e3 rfl)),aM e6 rfl⟩⟩
end
noncomputable def zD(rows:List lD):Bool:=rows.any fun r=>r.1==6
noncomputable def tW(rows:List lD)(nm:Nat):Bool:=rows.any fun r=>r.1==5&&r.2.1==nm
theorem xL{rows:List lD}{r:lD}{k:Nat}(h:k<rows.length):(rows++[r])[k]?.getD j7=rows[k]?.getD j7:=by rw[jQ h]
theorem vT{rows:List lD}{r:lD}:(rows++[r])[rows.length]?.getD j7=r:=by simp
theorem r9{P:lD→Bool}(rows:List lD):(rows.any P=true→∀r,(rows++[r]).take (Do (fun k=>P ((rows++[r])[k]?.getD j7)) (rows.length+1))=rows.take (Do (fun k=>P (rows[k]?.getD j7)) rows.length))∧
  (rows.any P=false→rows.take (Do (fun k=>P (rows[k]?.getD j7)) rows.length)=rows):=by
 have e0:∀r,(bI rows.length).filter (fun k=>P ((rows++[r])[k]?.getD j7))=(bI rows.length).filter (fun k=>P (rows[k]?.getD j7)):=fun r=>
  List.filter_congr fun k hk=>by exact aM (xL (List.mem_range.mp hk)) rfl
 constructor
 ·intro h r
  refine bG (List.any_eq_true.mp h) fun x hx hp=>?_
  obtain⟨i,hi,e⟩:=List.mem_iff_getElem.mp hx
  have hm:i∈(bI rows.length).filter fun k=>P (rows[k]?.getD j7):=by
   rw[lK,mR,bC hi,mP,e]
   exact⟨hi,hp⟩
  unfold Do
  (refine aM iA ?_;rw[dP,e0])
  cases q:(bI rows.length).filter fun k=>P (rows[k]?.getD j7)with
  |nil=>replace hm:=q▸hm;nomatch hm
  |cons a l=>
   have ha:a<rows.length:=by
    have:a∈(bI rows.length).filter fun k=>P (rows[k]?.getD j7):=by refine aM q ?_;exact aF
    exact List.mem_range.mp (D1 this).1
   refine(?_:(rows++[r]).take a=rows.take a)
   exact aM (kU (bA (by assumption))) rfl
 ·intro h
  unfold Do
  rw[List.filter_eq_nil_iff.mpr fun k hk q=>?_]
  ·exact jC
  ·have hk:=List.mem_range.mp hk
   rw[List.any_eq_false]at h
   rw[bC hk]at q
   exact h _ (f9 hk) q
theorem C9{P:lD→Bool}(rows:List lD)(r:lD):(rows++[r]).take (Do (fun k=>P ((rows++[r])[k]?.getD j7)) (rows++[r]).length)=
  if rows.any P=true then rows.take (Do (fun k=>P (rows[k]?.getD j7)) rows.length)else if P r=true then rows else rows++[r]:=by
 split
 ·rename_i h;refine aM b4 ?_;exact(r9 rows).1 h r
 ·rename_i h
  have h:rows.any P=false:=by with_reducible exact Bool.eq_false_iff.mpr h
  split
  ·rename_i hr
   unfold Do
   rw[b4,fI,iA,dP,List.filter_eq_nil_iff.mpr fun k hk q=>?_]
   ·refine aM mY (aM vT (aM (if_pos hr) ?_))
    refine(?_:(rows++[r]).take rows.length=rows)
    simp
   ·have hk:=List.mem_range.mp hk
    rw[xL hk,bC hk]at q
    rw[List.any_eq_false]at h
    exact h _ (f9 hk) q
  ·rename_i hr
   exact(r9 (P:=P) (rows++[r])).2 (by simp[h,hr])
theorem oO(rows:List lD)(r:lD):d8 (rows++[r])=if zD rows=true∨r.1=6∨r.2.1∈d8 rows then d8 rows else d8 rows++[r.2.1]:=by
 unfold d8 tD dJ
 (rewrite[C9 (P:=fun r=>r.1==6)];refine aM (show(rows.any fun r=>r.1==6)=zD rows from rfl) ?_)
 by_cases h:zD rows=true
 ·exact aM (if_pos h) (aM (if_pos (.inl h)) rfl)
 have h0:zD rows=false:=by simpa using h
 have e:=(r9 (P:=fun r=>r.1==6) rows).2 h0
 refine aM (if_neg h) ?_
 by_cases h6:r.1=6
 ·exact aM (if_pos (by simpa using h6)) (aM (if_pos (.inr (.inl h6))) (aM e rfl))
 (refine aM (if_neg (by simpa using h6)) (aM e (aM bB (aM iJ ?_)));rw[lY])
 by_cases hm:r.2.1∈kT (rows.map fun r=>r.2.1)
 ·exact aM (if_pos hm) (aM (if_pos (.inr (.inr hm))) rfl)
 ·exact aM (if_neg hm) (aM (if_neg fun q=>q.elim h fun q=>q.elim h6 hm) rfl)
theorem r7(rows:List lD)(r:lD)(nm:Nat):dM (rows++[r]) nm=if tW rows nm=true∨r.2.1≠nm∨r.1=5∨r.1=6∨r.2.2∈dM rows nm then dM rows nm else dM rows nm++[r.2.2]:=by
 unfold dM wT dJ iQ
 (rewrite[C9 (P:=fun r=>r.1==5&&r.2.1==nm)];refine aM (show(rows.any fun r=>r.1==5&&r.2.1==nm)=tW rows nm from rfl) ?_)
 by_cases h:tW rows nm=true
 ·exact aM (if_pos h) (aM (if_pos (.inl h)) rfl)
 have h0:tW rows nm=false:=by simpa using h
 have e:=(r9 (P:=fun r=>r.1==5&&r.2.1==nm) rows).2 h0
 refine aM (if_neg h) (aM e ?_)
 by_cases hn:r.2.1=nm
 ·by_cases h5:r.1=5
  ·exact aM (if_pos (by simp[hn,h5])) (aM (if_pos (.inr (.inr (.inl h5)))) rfl)
  (refine aM (if_neg (by simp[h5])) ?_;rw[dP])
  by_cases h6:r.1=6
  ·refine aM (if_pos (.inr (.inr (.inr (.inl h6))))) ?_
   simp[h6]
  ·(refine aM mY (aM (if_pos (by simp[hn,h6])) (aM List.filter_nil (aM bB (aM iJ ?_))));rw[lY])
   by_cases hm:r.2.2∈kT ((rows.filter fun r=>r.2.1==nm&&r.1 !=6).map fun r=>r.2.2)
   ·exact aM (if_pos hm) (aM (if_pos (.inr (.inr (.inr (.inr hm))))) rfl)
   ·exact aM (if_neg hm) (aM (if_neg fun q=>q.elim h fun q=>q.elim (fun q=>q hn) fun q=>q.elim h5 fun q=>q.elim h6 hm) rfl)
 ·(refine aM (if_neg (by simp[hn])) (aM (if_pos (.inr (.inl hn))) ?_);rw[dP])
  simp[hn]
theorem tI(rows:List lD)(r:lD)(nm:Nat)(rs:List fB):d0 (rows++[r]) nm rs=d0 rows nm rs++if r.1≠4∧r.1≠5∧r.1≠6∧r.2.1=nm∧r.2.2=rs then[rows.length]else[]:=by
 unfold d0 jO dJ iQ lC
 (refine aM b4 (aM fI (aM iA ?_));rw[dP,dP])
 congr 1
 ·refine aM List.filter_filter (aM List.filter_filter ?_)
  refine List.filter_congr fun k hk=>?_
  exact aM (xL (List.mem_range.mp hk)) rfl
 ·by_cases h:r.1≠4∧r.1≠5∧r.1≠6∧r.2.1=nm∧r.2.2=rs
  ·refine aM (if_pos h) ?_
   refine xN h fun a b c d e=>?_
   refine aM mY (aM vT (aM (if_pos (by simp[a,b,c,d])) (aM List.filter_nil (aM mY (aM vT (aM (if_pos (by simp[e])) ?_))))))
   rfl
  ·(refine aM (if_neg h) (aM List.filter_filter ?_);rw[List.filter_eq_nil_iff.mpr])
   intro k hk q
   rw[kQ hk,vT]at q
   simp only[b9,decide_eq_true_iff,bne_iff_ne,beq_iff_eq]at q
   exact h ⟨q.2.1.1.1,q.2.1.1.2,q.2.1.2,q.2.2,q.1⟩
theorem tS{α:Type}[DecidableEq α](l:List α):(kT l).Nodup:=by
 induction l using pV with
 |h0=>exact List.nodup_nil
 |h1 l a ih=>
  rw[lY]
  split
  ·exact ih
  ·rename_i h
   rw[cZ]
   exact⟨ih,by simp,fun x hx y hy e=>by replace hy:=kQ hy;exact h (hy▸e▸hx)⟩
theorem uT{rows:List lD}{nm:Nat}{rs:List fB}{k:Nat}(h:k∈d0 rows nm rs):k<rows.length∧∃r∈rows,r.1≠5∧r.1≠6∧r.2.1=nm∧r.2.2=rs:=by
 unfold d0 jO dJ iQ lC at h
 refine gE (D1 h) fun h1 h2=>?_
 refine gE (D1 h1) fun h1 h3=>?_
 have hk:=List.mem_range.mp h1
 refine⟨hk,rows[k],f9 hk,?_⟩
 rw[bC hk]at h2 h3
 simp only[mP,b9,decide_eq_true_iff,bne_iff_ne,beq_iff_eq]at h2 h3
 exact⟨h3.1.1.2,h3.1.2,h3.2,h2⟩
theorem AQ{rows:List lD}{nm:Nat}(h:zD rows=false)(hn:nm∉d8 rows):∀r∈rows,r.2.1≠nm:=fun r hr e=>by
 refine hn ?_
 unfold d8 tD dJ
 (refine aM ((r9 (P:=fun r=>r.1==6) rows).2 h) ?_;rw[kY])
 exact List.mem_map.mpr ⟨r,hr,e⟩
theorem C5{rows:List lD}{nm:Nat}{rs:List fB}(h:tW rows nm=false)(hn:rs∉dM rows nm):d0 rows nm rs=[]:=by
 refine List.eq_nil_iff_forall_not_mem.mpr fun k hk=>?_
 obtain⟨_,r,hr,_,h6,e1,e2⟩:=uT hk
 refine hn ?_
 unfold dM wT dJ iQ
 (refine aM ((r9 (P:=fun r=>r.1==5&&r.2.1==nm) rows).2 h) ?_;rw[kY])
 exact List.mem_map.mpr ⟨r,List.mem_filter.mpr ⟨hr,by simp[e1,h6]⟩,e2⟩
theorem yU{rows:List lD}{nm:Nat}(h:∀r∈rows,r.2.1≠nm):tW rows nm=false∧dM rows nm=[]∧∀rs,d0 rows nm rs=[]:=by
 refine⟨?_,?_,fun rs=>List.eq_nil_iff_forall_not_mem.mpr fun k hk=>?_⟩
 ·unfold tW
  rw[List.any_eq_false]
  exact fun r hr q=>by simp only[b9,beq_iff_eq]at q;exact h r hr q.2
 ·refine List.eq_nil_iff_forall_not_mem.mpr fun rs hm=>?_
  unfold dM at hm
  rw[kY]at hm
  refine bG (n5 hm) fun r hr z=>?_
  refine gE (D1 hr) fun h1 h2=>?_
  simp only[b9,beq_iff_eq]at h2
  exact h r (eW h1) h2.1
 ·obtain⟨_,r,hr,_,_,e,_⟩:=uT hk
  exact h r hr e
noncomputable def tM(l:List Nat):List Int:=l.map fun(k:Nat)=>(k:Int)
noncomputable def B0(rows:List lD)(nm:Nat):IB:=(dM rows nm).map fun rs=>(keyOf rs,tM (d0 rows nm rs))
structure ID(rows:List lD)(S:iD):Prop where
 fz:S.fz.isSome=zD rows
 nms:S.bks.map (·.name)=(d8 rows).map t6
 bk:∀b∈S.bks,∀nm,b.name=t6 nm→b.fz.isSome=tW rows nm∧b.v=B0 rows nm
noncomputable def lk(rows:List lD)(nm:Nat)(rs:List fB):List Nat:=if nm∈d8 rows∧rs∈dM rows nm then d0 rows nm rs else[]
noncomputable def tl(rows:List lD)(r:lD):Option (List Int):=if r.1=5∨r.1=6 then none else some (tM (lk rows r.2.1 r.2.2))
noncomputable def xZ(x:Int):lD:=((x.fmod 8).toNat,IG x,fE (vtF x).cps.toList)
noncomputable def Es(rows:List lD):Prop:=∀r∈rows,j8 r.2.2
theorem Ao{a b:Nat}(h:t6 a=t6 b):a=b:=by
 have h1:(#[97+a]:Array Nat)=#[97+b]:=congrArg Str.cps h
 have h2:97+a=97+b:=by simpa using h1
 exact Nat.add_left_cancel h2
theorem D4{α β:Type}{f:α→β}{l:List α}(n:l.Nodup)(i:∀a∈l,∀b∈l,f a=f b→a=b):(l.map f).Nodup:=
 List.pairwise_map.mpr (n.imp_of_mem fun ha hb ne e=>ne (i _ ha _ hb e))
theorem BI{rows:List lD}{nm:Nat}{rs:List fB}(h:Es rows)(hm:rs∈dM rows nm):j8 rs:=by
 unfold dM at hm
 rw[kY]at hm
 (refine bG (n5 hm) fun r hr e_0=>?_;subst e_0)
 exact h r (eW (D1 hr).1)
theorem t9(rows:List lD)(r:lD)(nm:Nat):tW (rows++[r]) nm=(tW rows nm||(r.1==5&&r.2.1==nm)):=by unfold tW;simp
theorem wH(rows:List lD)(r:lD):zD (rows++[r])=(zD rows||r.1==6):=by unfold zD;simp
theorem xV{rows:List lD}{r:lD}{nm:Nat}(h:r.2.1≠nm∨r.1=5∨r.1=6):B0 (rows++[r]) nm=B0 rows nm:=by
 unfold B0
 (rewrite[r7];refine aM (if_pos (by rcases h with h|h|h<;>simp[h])) ?_)
 refine cF fun rs z=>?_
 (rewrite[tI];refine aM (if_neg (by(intro q_1;refine xN q_1 fun z q5 q6 qn z=>?_);rcases h with h|h|h<;>contradiction)) ?_;rw[fC])
theorem Bc{rows:List lD}{r:lD}{nm:Nat}(ok:Es rows)(okr:j8 r.2.2)(hn:r.2.1=nm)(h5:r.1≠5)(h6:r.1≠6):
  Ai (keyOf r.2.2) (if r.1=4 then[]else[(rows.length:Int)]) (AB (keyOf r.2.2) (tW rows nm) (B0 rows nm))=B0 (rows++[r]) nm∧
   BK (keyOf r.2.2) (B0 rows nm)=tM (if r.2.2∈dM rows nm then d0 rows nm r.2.2 else[]):=by
 have inj:∀rs∈dM rows nm,keyOf rs=keyOf r.2.2→rs=r.2.2:=fun rs h e=>E7 (BI ok h) okr e
 have mem:keyOf r.2.2∈(B0 rows nm).map (·.1)↔r.2.2∈dM rows nm:=by
  refine aM bW ?_
  constructor
  ·intro h
   refine bG (n5 h) fun rs hm e=>?_
   exact inj rs hm e▸hm
  ·exact fun h=>List.mem_map.mpr ⟨_,h,rfl⟩
 have add:AB (keyOf r.2.2) (tW rows nm) (B0 rows nm)=(dM (rows++[r]) nm).map fun rs=>(keyOf rs,tM (d0 rows nm rs)):=by
  unfold AB
  rw[r7]
  by_cases q:r.2.2∈dM rows nm∨tW rows nm=true
  ·refine aM (if_pos (q.imp mem.mpr id)) (aM (if_pos (by rcases q with q|q<;>simp[q])) ?_)
   rfl
  ·refine aM (if_neg (fun q'=>q (q'.imp mem.mp id))) (aM (if_neg (by
    rintro(q'|q'|q'|q'|q')
    ·exact q (.inr q')
    ·exact q' hn
    ·exact h5 q'
    ·exact h6 q'
    ·exact q (.inl q'))) (aM bB (aM iJ (aM (C5 (by simpa using fun q'=>q (.inr q')) fun q'=>q (.inl q')) ?_))))
   rfl
 refine⟨?_,?_⟩
 ·refine aM add ?_
  unfold Ai B0
  refine aM bW ?_
  refine cF fun rs hm=>?_
  have hr:rs=r.2.2∨rs∈dM rows nm:=by
   rw[r7]at hm
   split at hm
   ·exact .inr hm
   ·rcases eX hm with q|q
    ·exact .inr q
    ·exact .inl (by with_reducible exact kQ q)
  refine(?_:(if keyOf rs=keyOf r.2.2 then(keyOf rs,tM (d0 rows nm rs)++_)else(keyOf rs,tM (d0 rows nm rs)))=_)
  rw[tI]
  by_cases e:rs=r.2.2
  ·subst e
   refine aM (if_pos rfl) ?_
   by_cases h4:r.1=4
   ·(refine aM (if_pos h4) (aM (if_neg (fun q=>q.1 h4)) ?_);rw[fC,fC])
   ·refine aM (if_neg h4) (aM (if_pos ⟨h4,h5,h6,hn,rfl⟩) ?_)
    simp[tM]
  ·(refine aM (if_neg (fun q=>e (hr.elim id fun hr=>inj rs hr q))) (aM (if_neg (fun q=>e q.2.2.2.2.symm)) ?_);rw[fC])
 ·by_cases q:r.2.2∈dM rows nm
  ·refine aM (if_pos q) ?_
   unfold BK B0
   have:∀l:List (List fB),(∀rs∈l,keyOf rs=keyOf r.2.2→rs=r.2.2)→r.2.2∈l→(l.map fun rs=>(keyOf rs,tM (d0 rows nm rs))).lookup (keyOf r.2.2)=some (tM (d0 rows nm r.2.2)):=by
    intro l
    induction l with
    |nil=>intro _ h;cases h
    |cons a l ih=>
     intro h hm
     refine aM bT (aM List.lookup_cons ?_)
     by_cases e:keyOf r.2.2=keyOf a
     ·exact aM (show(keyOf r.2.2==keyOf a)=true by simpa using e) (aM (h a aF e.symm) rfl)
     ·refine aM (show(keyOf r.2.2==keyOf a)=false by simpa using e) ?_
      refine ih (fun rs hr=>h rs (aC _ hr)) ?_
      rcases nR hm with rfl|hm
      ·exact absurd rfl e
      ·exact hm
   refine aM (this _ inj q) ?_
   rfl
  ·refine aM (if_neg q) ?_
   unfold BK
   refine aM (List.lookup_eq_none_iff.mpr fun y hy=>by
    simpa using fun e:keyOf r.2.2=y.1=>q (mem.mp (e▸bQ hy))) ?_
   rfl
theorem ID.step{rows:List lD}{S S':iD}{x:Int}{t:Option (List Int)}(I:ID rows S)(ok:Es rows)(d:pU S x rows.length (nmF x) (keyOf (fE (vtF x).cps.toList)) S' t):ID (rows++[xZ x]) S'∧t=tl rows (xZ x):=by
 obtain⟨r,hr⟩:∃r,r=xZ x:=⟨_,rfl⟩
 have okr:j8 r.2.2:=by refine aM hr ?_;exact Ad _
 have fm:∀k:Nat,r.1=k↔x.fmod 8=k:=fun k=>by
  have:=fA x (b:=8) (by decide)
  refine aM hr ?_;refine(?_:(x.fmod 8).toNat=k↔_);(exact⟨fun q=>by exact gU q (aM (nN this) rfl),fun q=>by refine aM q ?_;rfl⟩)
 have hnm:nmF x=t6 r.2.1:=by refine aM hr ?_;rfl
 have hk:keyOf (fE (vtF x).cps.toList)=keyOf r.2.2:=by refine aM hr ?_;rfl
 refine gU hr ?_
 rw[hnm,hk]at d
 clear hnm hk hr
 have nd:(S.bks.map (·.name)).Nodup:=by refine aM I.nms ?_;exact D4 (tS _) fun a z b z e=>Ao e
 have nmOf:∀b∈S.bks,∃nm,b.name=t6 nm∧nm∈d8 rows:=fun b hb=>by
  have:b.name∈(d8 rows).map t6:=by refine gU I.nms ?_;exact bQ hb
  refine bG (n5 this) fun nm hm e=>?_
  exact⟨nm,e.symm,hm⟩
 have nk:∀b∈S.bks,(b.v.map (·.1)).Nodup:=fun b hb=>by
  refine bG (nmOf b hb) fun nm e z=>?_
  refine aM ((I.bk b hb nm e).2) ?_
  refine aM bW ?_
  exact D4 (tS _) fun a ha c hc q=>E7 (BI ok ha) (BI ok hc) q
 by_cases h6:x.fmod 8=6
 ·have r6:=(fm 6).mpr h6
  cases d with
  |shut f _=>
   refine⟨⟨by rw[wH];simp[r6],by(rewrite[oO];refine aM (if_pos (.inr (.inl r6))) ?_);exact I.nms,fun b hb nm e=>?_⟩,by unfold tl;exact aM (if_pos (.inr r6)) rfl⟩
   refine gE (I.bk b hb nm e) fun a c=>?_
   exact⟨by(rewrite[t9];refine aM a ?_);simp[r6],aM c (aM (xV (.inr (.inr r6))) rfl)⟩
  |shutB h=>replace h:=h6▸h;nomatch h
  |peek h=>replace h:=h6▸h;nomatch h
  |add _ _ h=>exact absurd h6 h
 have r6:r.1≠6:=fun q=>h6 ((fm 6).mp q)
 refine B5 (d.view h6 nd nk) fun S₁ b b' g rs hn' v5 vn=>?_
 have names_mem:∀nm,t6 nm∈S.bks.map (·.name)↔nm∈d8 rows:=fun nm=>by
  refine aM I.nms ?_
  exact⟨fun h=>by refine bG (n5 h) fun k hk e=>?_;exact Ao e▸hk,bQ⟩
 have key:S₁.fz=S.fz∧((S₁.bks.map (·.name)=(d8 (rows++[r])).map t6∧b.fz.isSome=tW rows r.2.1∧b.v=B0 rows r.2.1∧(r.2.1∈d8 rows∨dM rows r.2.1=[])∧∀c∈S₁.bks,c.name≠t6 r.2.1→c∈S.bks)∨
   (S₁=S∧r.2.1∉d8 rows∧zD rows=true∧b.v=[]∧b.fz=none)):=by
  cases g with
  |there=>
   have hb:b∈S.bks:=by assumption
   have hn:b.name=t6 r.2.1:=by assumption
   have hm:r.2.1∈d8 rows:=(names_mem _).mp (hn▸bQ hb)
   refine gE (I.bk b hb _ hn) fun a c=>?_
   exact⟨rfl,.inl ⟨by(rewrite[oO];refine aM (if_pos (.inr (.inr hm))) ?_);exact I.nms,a,c,.inl hm,fun c hc z=>hc⟩⟩
  |made a d no fz=>
   have hm:r.2.1∉d8 rows:=fun h=>by
    refine bG (n5 ((names_mem _).mpr h)) fun b hb e=>?_
    exact no b hb e
   have h0:zD rows=false:=by refine gU I.fz (aM fz ?_);rfl
   refine jM (yU (AQ h0 hm)) fun f1 f2 f3=>?_
   refine⟨rfl,.inl ⟨?_,by refine aM f1 ?_;rfl,by unfold B0;refine aM f2 ?_;rfl,.inr f2,fun c hc hne=>?_⟩⟩
   ·(rewrite[oO];refine aM (if_neg (by refine aM h0 ?_;rintro(q|q|q)<;>first|cases q|contradiction)) (aM bB (aM bB (aM I.nms ?_))))
    rfl
   ·rcases eX hc with q|q
    ·exact q
    ·replace q:=kQ q;rw[q]at hne;exact absurd rfl hne
  |tmp a d no fz=>
   refine⟨rfl,.inr ⟨rfl,fun h=>?_,?_,rfl,rfl⟩⟩
   ·refine bG (n5 ((names_mem _).mpr h)) fun b hb e=>?_
    exact no b hb e
   ·refine gU I.fz ?_
    cases e:S.fz with
    |none=>exact absurd e fz
    |some _=>rfl
 have other:∀c∈S.bks,c.name≠t6 r.2.1→∀nm,c.name=t6 nm→c.fz.isSome=tW (rows++[r]) nm∧c.v=B0 (rows++[r]) nm:=fun c hc hne nm e=>by
  refine gE (I.bk c hc nm e) fun a v=>?_
  have:r.2.1≠nm:=fun q=>hne (q▸e)
  exact⟨by(rewrite[t9];refine aM a ?_);simp[this],aM v (aM (xV (.inl this)) rfl)⟩
 obtain⟨hf,key⟩:=key
 rcases key with ⟨k1,k2,k3,k4,k5⟩|⟨rfl,k2,k3,k4,k5⟩
 ·have new:b'.fz.isSome=tW (rows++[r]) r.2.1∧b'.v=B0 (rows++[r]) r.2.1:=by
   by_cases h5:x.fmod 8=5
   ·have r5:=(fm 5).mpr h5
    refine jM (v5 h5) fun a c z=>?_
    exact⟨by(rewrite[t9];refine aM a ?_);simp[r5],aM c (aM k3 (aM (xV (.inr (.inl r5))) rfl))⟩
   ·have r5:r.1≠5:=fun q=>h5 ((fm 5).mp q)
    refine jM (vn h5) fun a c z=>?_
    refine⟨by(rewrite[t9];refine aM a (aM k2 ?_));simp[r5],?_⟩
    have:=(Bc ok okr rfl r5 r6).1
    refine aM c (aM k2 (aM k3 (gU this ?_)))
    simp only[fm 4]
    rfl
  refine⟨⟨by(refine aM rs.1 (aM hf (aM I.fz ?_));rw[wH]);simp[r6],aM (rs.names hn') (aM k1 rfl),fun c hc nm e=>?_⟩,?_⟩
  ·replace hc:=rs.2▸hc
   (refine bG (n5 hc) fun c₀ hc₀ e_0=>?_;subst e_0)
   by_cases q:c₀.name=t6 r.2.1
   ·simp only[q,if_true]at e⊢
    refine gU (Ao (hn'.symm.trans e)) ?_
    exact new
   ·simp only[q,if_false]at e⊢
    exact other c₀ (k5 c₀ hc₀ q) q nm e
  ·by_cases h5:x.fmod 8=5
   ·refine aM ((v5 h5).2.2) ?_;unfold tl;exact aM (if_pos (.inl ((fm 5).mpr h5))) rfl
   ·have r5:r.1≠5:=fun q=>h5 ((fm 5).mp q)
    refine aM ((vn h5).2.2) (aM k3 (aM ((Bc ok okr rfl r5 r6).2) ?_))
    unfold tl lk
    refine aM (if_neg (show¬(r.1=5∨r.1=6)from fun q=>q.elim r5 r6)) ?_
    rcases k4 with q|q
    ·simp only[q,true_and]
    ·simp[q]
 ·have no:∀c∈S₁.bks,c.name≠t6 r.2.1:=fun c hc e=>k2 ((names_mem _).mp (e▸bQ hc))
  have same:S'.bks=S₁.bks:=by
   refine aM rs.2 ?_
   exact qM fun h=>by refine bG (n5 h) fun c hc e=>?_;exact no c hc e
  refine⟨⟨by(refine aM rs.1 (aM I.fz ?_);rw[wH]);simp[r6],by(refine aM same (aM I.nms ?_);rewrite[oO];exact aM (if_pos (.inl k3)) rfl),fun c hc nm e=>?_⟩,?_⟩
  ·rw[same]at hc
   exact other c hc (no c hc) nm e
  ·by_cases h5:x.fmod 8=5
   ·refine aM ((v5 h5).2.2) ?_;unfold tl;exact aM (if_pos (.inl ((fm 5).mpr h5))) rfl
   ·have r5:r.1≠5:=fun q=>h5 ((fm 5).mp q)
    refine aM ((vn h5).2.2) (aM k4 ?_)
    unfold tl lk
    refine aM (if_neg (show¬(r.1=5∨r.1=6)from fun q=>q.elim r5 r6)) (aM (if_neg fun q=>k2 q.1) ?_)
    rfl
noncomputable def kyF(x:Int):Str:=keyOf (fE (vtF x).cps.toList)
noncomputable def eT(evs:List Int):List lD:=evs.map xZ
theorem KH(evs:List Int):Es (eT evs):=fun r hr=>by(refine bG (n5 hr) fun x z e_0=>?_;subst e_0);exact Ad _
theorem Fw{S₀ S:iD}{evs:List Int}{ts:List (Option (List Int))}(d:tY nmF kyF S₀ evs ts S)(h0:S₀.bks=[])(hf:S₀.fz=none):
  ID (eT evs) S∧ts=(bI evs.length).map fun k=>tl ((eT evs).take k) ((eT evs)[k]?.getD j7):=by
 induction d with
 |nil=>exact⟨⟨by refine aM hf ?_;rfl,by refine aM h0 ?_;rfl,fun b hb=>by replace hb:=h0▸hb;nomatch hb⟩,rfl⟩
 | @snoc xs ts S S' x t h d ih=>
  refine gE ih fun I e=>?_
  have ez:(eT xs).length=xs.length:=by unfold eT;rw[aQ]
  have d':pU S x (eT xs).length (nmF x) (keyOf (fE (vtF x).cps.toList)) S' t:=by refine aM ez ?_;exact d
  refine gE (I.step (KH xs) d') fun I' e'=>?_
  have er:eT (xs++[x])=eT xs++[xZ x]:=by unfold eT;refine aM bB ?_;rfl
  refine⟨by refine aM er ?_;exact I',?_⟩
  refine aM b4 (aM fI (aM iA (aM bB (aM e (aM e' (aM er ?_))))))
  congr 1
  ·refine cF fun k hk=>?_
   have hk:k<(eT xs).length:=by refine aM ez ?_;exact List.mem_range.mp hk
   exact aM (kU (bA hk)) (aM (xL hk) rfl)
  ·exact aM iJ (gU ez (aM vT (aM (kU (bO _)) (aM jC rfl))))
theorem JB{rows:List lD}{r:lD}{nm:Nat}{rs:List fB}{k:Nat}(hk:k≤rows.length):(lk (rows++[r]) nm rs).filter (fun i=>decide (i<k))=(lk rows nm rs).filter fun i=>decide (i<k):=by
 unfold lk
 have dr:(d0 (rows++[r]) nm rs).filter (fun i=>decide (i<k))=(d0 rows nm rs).filter fun i=>decide (i<k):=by
  rw[tI,dP]
  split
  ·refine aM mY (aM (if_neg (by simpa using hk)) ?_);simp
  ·simp
 have n1:nm∈d8 rows→nm∈d8 (rows++[r]):=fun h=>by rw[oO];split<;>simp[h]
 have n2:rs∈dM rows nm→rs∈dM (rows++[r]) nm:=fun h=>by rw[r7];split<;>simp[h]
 by_cases q:nm∈d8 (rows++[r])∧rs∈dM (rows++[r]) nm
 ·refine aM (if_pos q) (aM dr ?_)
  by_cases p:nm∈d8 rows∧rs∈dM rows nm
  ·exact aM (if_pos p) rfl
  ·refine aM (if_neg p) ?_
   suffices d0 rows nm rs=[]by exact aM this rfl
   by_cases hn:nm∈d8 rows
   ·have hr:rs∉dM rows nm:=fun h=>p ⟨hn,h⟩
    have:=q.2
    rw[r7]at this
    split at this
    ·exact absurd this hr
    ·rename_i c
     exact C5 (by simpa using fun h=>c (.inl h)) hr
   ·have:=q.1
    rw[oO]at this
    split at this
    ·exact absurd this hn
    ·rename_i c
     exact(yU (AQ (by simpa using fun h=>c (.inl h)) hn)).2.2 rs
 ·exact aM (if_neg q) (aM (if_neg fun p=>q ⟨n1 p.1,n2 p.2⟩) rfl)
theorem Je{rows:List lD}{nm:Nat}{rs:List fB}:∀i∈lk rows nm rs,i<rows.length:=fun i hi=>by
 unfold lk at hi
 split at hi
 ·exact(uT hi).1
 ·nomatch hi
theorem JA(nm:Nat)(rs:List fB)(rows:List lD):∀k,k≤rows.length→(lk rows nm rs).filter (fun i=>decide (i<k))=lk (rows.take k) nm rs:=by
 induction rows using pV with
 |h0=>
  intro k hk
  exact aM List.take_nil (aM (List.filter_eq_self.mpr fun i hi=>by have:=Je i hi;simp at this) rfl)
 |h1 rows r ih=>
  intro k hk
  rcases eM rows.length k with h|h
  ·rw[k9 (by refine aM b4 (aM fI ?_);exact mB (by assumption))]
   exact List.filter_eq_self.mpr fun i hi=>by have:=Je i hi;rw[b4,fI]at this;simp;exact aO this (mB h)
  ·refine aM (JB h) (aM (kU h) ?_)
   exact ih k h
theorem Ds{α β:Type}[DecidableEq α](F:α→List β)(x:α):∀l:List α,l.Nodup→(l.flatMap fun a=>if a=x then F a else[])=if x∈l then F x else[]
 |[],_=>rfl
 |a::l,n=>by
  rw[gK]at n
  refine aM gG (aM (Ds F x l n.2) ?_)
  by_cases e:a=x
  ·subst e
   (refine aM (if_pos rfl) ?_;rw[if_neg n.1,if_pos aF,fC])
  ·(refine aM (if_neg e) ?_;rw[qD])
   by_cases h:x∈l
   ·exact aM (if_pos h) (aM (if_pos (aC _ h)) rfl)
   ·exact aM (if_neg h) (aM (if_neg fun q=>(nR q).elim (fun q=>e q.symm) h) rfl)
theorem Dd(rows:List lD)(nm:Nat)(rs:List fB):(m9 (dE rows) nm rs).headD []=tM (lk rows nm rs):=by
 unfold m9 dE
 rw[mX,Ds (fun nm=>((dM rows nm).map fun rs=>(rs,(d0 rows nm rs).map fun(k:Nat)=>(k:Int))).flatMap fun sh=>if sh.1=rs then[sh.2]else[]) nm (d8 rows) (tS _)]
 (rewrite[mX];refine aM (Ds (fun rs=>[(d0 rows nm rs).map fun(k:Nat)=>(k:Int)]) rs (dM rows nm) (tS _)) ?_)
 unfold lk
 by_cases h1:nm∈d8 rows
 ·by_cases h2:rs∈dM rows nm
  ·refine aM (if_pos h1) (aM (if_pos h2) (aM (if_pos ⟨h1,h2⟩) ?_));rfl
  ·refine aM (if_pos h1) (aM (if_neg h2) (aM (if_neg fun q=>h2 q.2) ?_));rfl
 ·refine aM (if_neg h1) (aM (if_neg fun q=>h1 q.1) ?_);rfl
theorem I4{rows:List lD}{k:Nat}(hk:k<rows.length):rN rows (dE rows) k=tl (rows.take k) (rows[k]?.getD j7):=by
 refine(?_:(if dJ rows k=5∨dJ rows k=6 then _ else _)=if dJ rows k=5∨dJ rows k=6 then none else some (tM (lk (rows.take k) (iQ rows k) (lC rows k))))
 (rewrite[Dd];refine gU (JA _ _ _ k (bA hk)) ?_)
 congr 2
 refine aM List.filter_map ?_
 congr 1
 refine List.filter_congr fun i z=>?_
 refine(?_:decide ((i:Int)<k)=decide (i<k))
 simp
theorem ID.stand{rows:List lD}{S:iD}(I:ID rows S):(S.bks.map fun b=>(b.name,b.v))=(dE rows).map fun kp=>(t6 kp.1,kp.2.map fun sh=>(keyOf sh.1,sh.2)):=by
 have:∀(l:List Bk) (ns:List Nat),l.map (·.name)=ns.map t6→(∀b∈l,∀nm,b.name=t6 nm→b.v=B0 rows nm)→(l.map fun b=>(b.name,b.v))=ns.map fun nm=>(t6 nm,B0 rows nm):=by
  intro l
  induction l with
  |nil=>intro ns e _;cases ns with|nil=>rfl|cons _ _=>cases e
  |cons b l ih=>
   intro ns e h
   cases ns with
   |nil=>cases e
   |cons nm ns=>
    injection e with e1 e2
    exact aM bT (aM bT (aM (ih ns e2 fun b hb=>h b (aC _ hb)) (aM (h b aF nm e1) (aM (show b.name=t6 nm from e1) rfl))))
 refine aM (this _ _ I.nms fun b hb nm e=>(I.bk b hb nm e).2) ?_
 refine aM bW ?_
 refine cF fun nm z=>?_
 refine(?_:_=(t6 nm,List.map _ (List.map _ _)))
 refine aM bW ?_
 rfl
theorem Hh{l l':List (List fB)}(p:l.Perm l')(r:List fB):n7 l r=n7 l' r:=(p.filter _).length_eq
theorem Hi{its:List hU}(pw:its.Pairwise fun p q=>nF p.1<nF q.1){j:Nat}(hj:j<its.length):n7 (its.map (·.1)) its[j].1=j:=by
 unfold n7
 (refine aM List.filter_map ?_;rw[aQ])
 have e:its=its.take j++its[j]::its.drop (j+1):=by(refine gU (iF hj) ?_;rw[List.take_append_drop])
 have q:=pw
 rw[e]at q
 rw[List.pairwise_append,List.pairwise_cons]at q
 (refine jM q fun y q_1 q3=>?_;refine gE q_1 fun q2 y=>?_)
 generalize its[j]=z at*
 (refine aM e ?_;rw[dP,List.filter_eq_self.mpr,List.filter_eq_nil_iff.mpr])
 ·simp;exact jX (bA hj)
 ·intro a ha
  refine(?_:¬lT a.1 z.1=true)
  rw[yL]
  rcases r4 ha with rfl|ha
  ·exact oJ _
  ·exact List.lt_asymm (q2 a ha)
 ·intro a ha
  refine(?_:lT a.1 z.1=true)
  rw[yL]
  exact q3 a ha z aF
theorem Gi{shs its:List hU}(p:its.Perm shs)(pw:its.Pairwise fun p q=>nF p.1<nF q.1):(∀k,k<shs.length→k∈qT shs)∧rF shs=its.map (·.2):=by
 have c0:∀r,n7 (shs.map (·.1)) r=n7 (its.map (·.1)) r:=fun r=>Hh ((p.map _).symm) r
 have cl:(qT shs).length=shs.length:=by unfold qT;rw[aQ]
 have at_:∀i (h:i<shs.length),∃j,∃hj:j<its.length,its[j]=shs[i]∧(qT shs)[i]?=some j:=fun i h=>by
  obtain⟨j,hj,e⟩:=List.mem_iff_getElem.mp (p.mem_iff.mpr (f9 h))
  refine⟨j,hj,e,?_⟩
  unfold qT
  rw[cQ,bC h,Option.map_some,c0,←e,Hi pw hj]
 have mem:∀k,k<shs.length→k∈qT shs:=fun k hk=>by
  have hk':k<its.length:=by refine aM p.length_eq ?_;exact hk
  obtain⟨i,hi,e⟩:=List.mem_iff_getElem.mp (p.mem_iff.mp (f9 hk'))
  refine List.mem_map.mpr ⟨shs[i],f9 hi,?_⟩
  rw[c0,e,Hi pw hk']
 refine⟨mem,?_⟩
 unfold rF
 apply List.ext_getElem
 ·rw[aQ,aQ,j0,p.length_eq]
 ·intro k h1 h2
  have hk:k<shs.length:=by simpa using h1
  rw[List.getElem_map,List.getElem_map,List.getElem_range]
  have hi:=q0 (mem k hk)
  have e1:(qT shs)[(qT shs).idxOf k]?=some k:=by rw[bC hi,List.getElem_idxOf hi]
  replace hi:=cl▸hi
  obtain⟨j,hj,e,ej⟩:=at_ _ hi
  rw[e1]at ej
  obtain rfl:=a9 ej
  rw[bC hi,mP,←e]
noncomputable def E6(w:cN):List Stmt:=match (kz w).lookup 271 with
 |some ⟨_,_,.func fd,_⟩=>(match fd.body with
  | .stmts b=>b
  |_=>[])
 |_=>[]
noncomputable def qP(w:cN)(i:Nat):Stmt:=(E6 w)[i]?.getD (.Pass default)
theorem I5{evs:List Int}(h:evs.length≤100):rR (eT evs):=by
 have f:∀r∈eT evs,r.1<8∧r.2.1<3∧(∀y∈r.2.2,y.ok)∧r.2.2.length≤100:=fun r hr=>by
  (refine bG (n5 hr) fun x z e_0=>?_;subst e_0)
  have vl:=w8 x
  have l4:(vtF x).cps.toList.length≤20:=by rw[uL];exact aD uN vl
  have asc:∀c∈(vtF x).cps.toList,c<128:=fun c hc=>by rw[uL]at hc;exact(DA x c (uM c hc)).1
  refine jM (sJ l4 asc) fun z a b=>?_
  have:=jJ x (b:=8) (by decide)
  exact⟨by refine(?_:(x.fmod 8).toNat<8);omega,Dg x,b,aD (by assumption) (by decide)⟩
 exact⟨fun r h=>(f r h).1,fun r h=>(f r h).2.1,fun r h=>(f r h).2.2.1,fun r h=>(f r h).2.2.2,by unfold eT;rw[aQ];exact h⟩
theorem J5(x:Int):(vtF x).length≤20∧∀c∈(vtF x).cps.toList,c<128:=by
 have vl:=w8 x
 refine⟨?_,fun c hc=>by rw[uL]at hc;exact(DA x c (uM c hc)).1⟩
 refine(?_:(vtF x).cps.size≤20)
 (refine gU bM ?_;rw[uL]);exact aD uN vl
theorem IT{n:Nat}{ev:aG}{Q:Flow→aH→Prop}{E:aG→aH→Prop}(kw:KW V (kz w) mg mb X s.heap)(R:dK A (n+4))(F:fU V u (cJ L) X s m cm)(hev:Is V X s.heap ev (.list (evs.map .int)))(hm:m (aA "events")=some ev)(hn:evs.length≤100)
  (q:∀v s',fU V u (cJ L) X s' m (fun z=>if z=aA "rows" then some v else cm z)→Mu V (nB (cJ L)) s s'→Is V X s'.heap v (.list ((eT evs).map pH))→Q .next s'):
  WP prog w A (exec (qP w 3) (cJ L)) Q E s:=by
 refine sO (c:=L+2) F rfl ?_ q
 refine mH (x:=aA "x") (own:=none) (n:=(evs.map cB).length) (f:=fun i=>(evs.map cB)[i]?.getD .none) (p:=fun o=>true) (g:=fun i=>pH (xZ (evs[i]?.getD 0))) (P:=Dt (.list (evs.map .int))) (cls:="list_iterator")
  ⟨aX (F.loc hm) hev,hW R.handled,fX (by simp;exact aD (by assumption) (by decide)),fun L' c j Y' v' val hj hw hb hn hval=>eU,?_,rfl,rfl,by decide+kernel,fun o=>rfl,fun o=>rfl,fun o o=>.inl rfl,fun o=>rfl⟩ ?_
 ·intro L' c j Y' v' val hj _ hw hb hn hval
  have hj':j<evs.length:=by simpa using hj
  replace hval:=(j6 cB 0 _ _ hj')▸hval
  generalize evs[j]?.getD 0=x at hval
  have kwj:=kw.nx hw.nx
  refine gE (J5 x) fun vl va=>?_
  have k3:=Dg x
  refine fG (ds:=[.int ((x.fmod 8).toNat:Nat),sH (IG x),iN (fE (vtF x).cps.toList)]) ?_ rfl (fX (show 3≤1000000 by decide))
  refine aT ((uR (aX hn hval) (eE 8) (by decide)).dt (by congr 1;exact(nN (fA _ (by decide))).symm)) (aT ?_ (aT ?_ bF))
  ·have e:(x.fdiv 8).fmod 3=(IG x:Nat):=by exact(nN (fA _ (by decide))).symm
   have ci:∀k:Nat,k<3→fitsSsize (k:Int)=true∧(Txt.charAt (aA "abc") (k:Int)).isSome=true∧Txt.item (aA "abc") (k:Int)=t6 k:=by decide+kernel
   refine jM (ci _ k3) fun c1 c2 c3=>?_
   refine(x6 (x:=aA "abc") (k:=(IG x:Nat)) (gO _) ((uR (tF (aX hn hval) (eE 8) (by decide) (by decide)) (eE 3) (by decide)).dt (aM e rfl)) c1 c2).dt (by refine aM c3 ?_;rfl)
  ·refine lQ (kH (v:=.ref 239) kwj) (kwj.nV rfl) (kwj.get rfl) rfl (aT (P:=Dt (.str (vtF x))) (G3 (x:=j3 x) (y:=aA " ") ?_ (gO _) ?_) bF) fun Z z vs hz hbz hvs=>?_
   ·refine lQ (kH (v:=.ref 229) kwj) (kwj.nV rfl) (kwj.get rfl) rfl (aT (aX hn hval) bF) fun Z z vs hz hbz hvs=>?_
    (refine bG (mN hvs) fun v1 e_0=>?_;subst e_0;refine fun h1=>?_)
    exact yW (kwj.nx hz.nx) (n:=n+2) R h1
   ·have:=w8 x
    refine(?_:(j3 x).cps.size≤_)
    refine gU bM (aM bV ?_);exact aD (by assumption) (by decide)
   ·(refine bG (mN hvs) fun v1 e_0=>?_;subst e_0;refine fun h1=>?_)
    exact JL (kwj.nx hz.nx) (n:=n+2) R h1 va (aD (by assumption) (by decide))
 ·(rewrite[aQ];refine aM (qN (fun x=>pH (xZ x)) 0 evs) ?_)
  refine aM bW ?_;rfl
structure wI(k:Nat)(d:aY):Prop where
 lay:d.canLay0=true
 dep:d.depth≤k
 pl:j4 d=true
theorem wI.none{k:Nat}:wI k .none:=⟨rfl,bX _,rfl⟩
theorem wI.int{k:Nat}(i:Int):wI k (.int i):=⟨rfl,bX _,rfl⟩
theorem wI.str{k:Nat}{x:Str}(h:∀c∈x.cps.toList,c<128):wI k (.str x):=⟨by
 refine(?_:x.cps.all (·<0x110000)=true)
 rw[Array.all_eq_true_iff_forall_mem]
 exact fun c hc=>decide_eq_true (cK (h c (Array.mem_toList_iff.mpr hc)) (by decide)),bX _,rfl⟩
theorem wI.list{k:Nat}{ds:List aY}(h:∀d∈ds,wI k d):wI (k+1) (.list ds):=by
 have a:cC ds=true:=by have:=qU id ds fun d hd=>(h d hd).lay;rwa[oB]at this
 have b:PyData.depthAll ds≤k:=by have:=sN id k ds fun d hd=>(h d hd).dep;rwa[oB]at this
 have c:∀l:List aY,(∀d∈l,j4 d=true)→lR l=true:=fun l=>by
  induction l with
  |nil=>exact fun z=>rfl
  |cons x l ih=>intro h;simp only[lR,b9];exact⟨h x aF,ih fun d hd=>h d (aC _ hd)⟩
 exact⟨by simpa[jB]using a,by exact Nat.lt_succ_of_le (by assumption),by simpa[j4]using c ds fun d hd=>(h d hd).pl⟩
theorem wI.map{α:Type}{k:Nat}{F:α→aY}{l:List α}(h:∀a∈l,wI k (F a)):wI (k+1) (.list (l.map F)):=.list fun d hd=>by(refine bG (n5 hd) fun a ha e_0=>?_;subst e_0);exact h a ha
theorem wI.two{k:Nat}{a b:aY}(x:wI k a)(y:wI k b):wI (k+1) (.list [a,b]):=.list fun d hd=>by
 replace hd:=m2 hd;rcases hd with rfl|rfl<;>assumption
theorem wI.ok{k:Nat}{d:aY}(h:wI k d)(hk:k≤64):cP d=true:=by
 unfold cP
 rw[b9]
 exact⟨h.lay,decide_eq_true (aD h.dep hk)⟩
theorem wI.eqv{k:Nat}{d:aY}(h:wI k d):bU d d=true:=(qA d d h.pl h.pl).mpr rfl
theorem wI.ints{k:Nat}(l:List Int):wI (k+1) (g9 l):=.map fun i z=>.int i
theorem wI.seen(t:Option (List Int)):wI 1 (r0 t):=by cases t with
 |none=>exact .none
 |some l=>exact .ints l
theorem Go{rows:List lD}(ok:rR rows):∀nm∈d8 rows,nm<3:=fun nm h=>by
 unfold d8 at h
 rw[kY]at h
 (refine bG (n5 h) fun r hr e_0=>?_;subst e_0)
 exact ok.nm r (eW hr)
theorem yO{rows:List lD}{nm:Nat}{rs:List fB}(h:rs∈dM rows nm):∃r∈rows,r.2.2=rs:=by
 unfold dM at h
 rw[kY]at h
 refine bG (n5 h) fun r hr e=>?_
 exact⟨r,eW (D1 hr).1,e⟩
theorem AP(rows:List lD):(d8 rows).length≤rows.length:=by
 exact aD (qB _) (by(rewrite[aQ];refine aM f8 ?_);exact jF _ _)
theorem yP(rows:List lD)(nm:Nat):(dM rows nm).length≤rows.length:=by
 refine aD (qB _) ?_
 rw[aQ]
 exact aD (gI _ _) (by refine aM f8 ?_;exact jF _ _)
theorem BD{rows:List lD}(ok:rR rows):EN (dE rows):=by
 have hz:=ok.n
 refine⟨fun kp h=>?_,?_,fun kp h=>?_⟩
 ·(refine bG (n5 h) fun nm hn e_0=>?_;subst e_0)
  exact Go ok nm hn
 ·unfold dE;rw[aQ];have:=AP rows;with_reducible exact aD (by assumption) (by assumption)
 ·(refine bG (n5 h) fun nm hn e_0=>?_;subst e_0)
  refine⟨by rw[aQ];have:=yP rows nm;with_reducible exact aD (by assumption) (by assumption),fun sh hs=>?_⟩
  (refine bG (n5 hs) fun rs hr e_0=>?_;subst e_0)
  (refine bG (yO hr) fun r hr' e_0=>?_;subst e_0)
  refine⟨ok.runs r hr',ok.len r hr',?_⟩
  rw[aQ]
  refine aD (gI _ _) (aD (gI _ _) ?_)
  refine aM j0 ?_;assumption
theorem IX{rows:List lD}(kw:KW V (kz w) mg mb X s.heap)(R:dK A (n+4))(F:fU V u (cJ L) X s m cm)(hr:Is V X s.heap rv (.list (rows.map pH)))(hc:cm (aA "rows")=some rv)(ok:rR rows)
  (q:∀v s',fU V u (cJ L) X s' m (fun z=>if z=aA "kept" then some v else cm z)→Mu V (nB (cJ L)) s s'→Is V X s'.heap v (.list ((dE rows).map oG))→Q .next s'):
  WP prog w A (exec (qP w 4) (cJ L)) Q E s:=by
 refine sO (c:=L+3) F rfl ?_ q
 refine lQ (kH (v:=.ref 261) kw) (kw.nV rfl) (kw.get rfl) rfl (aT (aX (F.cel (c:=L+2) rfl hc) hr) bF) fun Z z vs hz hbz hvs=>?_
 (refine bG (mN hvs) fun v1 e_0=>?_;subst e_0;refine fun h1=>?_)
 exact JO (kw.nx hz.nx) (n:=n) R h1 ok
theorem IS{rows:List lD}(kw:KW V (kz w) mg mb X s.heap)(R:dK A (n+4))(F:fU V u (cJ L) X s m cm)(hr:Is V X s.heap rv (.list (rows.map pH)))(hc:cm (aA "rows")=some rv)(hk:Is V X s.heap kv (.list ((dE rows).map oG)))(hck:cm (aA "kept")=some kv)(ok:rR rows)
  (ht:Is V X s.heap tv (.list ((bI rows.length).map fun k=>r0 (rN rows (dE rows) k))))(hm:m (aA "told")=some tv)
  (q:∀s',fU V u (cJ L) X s' m cm→Keeps V s s'→Q .next s'):
  WP prog w A (exec (qP w 5) (cJ L)) Q E s:=by
 have hz:=ok.n
 have sh:wI 2 (.list ((bI rows.length).map fun k=>r0 (rN rows (dE rows) k))):=.map fun k j=>.seen _
 refine xS (c:=false) F ((CG R (aX (F.loc hm) ht) ?_ (sh.ok (by decide)) (sh.ok (by decide))).weak fun a Y v j h=>?_) fun s' F' k=>?_
 ·refine mH (x:=aA "k") (own:=none) (n:=rows.length) (f:=fun i=>.int i) (p:=fun j=>true) (g:=fun k=>r0 (rN rows (dE rows) k)) (P:=J3 rows.length) (cls:="range_iterator")
   ⟨?_,oM R.handled (aR (by assumption) (by decide)),fX (aD (by assumption) (by decide)),fun L'' c' k Y'' v'' val hk hw' hb' hn' hval=>eU,?_,rfl,rfl,by decide+kernel,fun j=>rfl,fun j=>rfl,fun j j=>.inl rfl,fun j=>rfl⟩ (aM (List.filter_eq_self.mpr fun j j=>rfl) rfl)
  ·refine f5 (kF kw) (aT ((tE (ds:=rows.map pH) kw (aX (F.cel (c:=L+2) rfl hc) hr) (by simp;exact e9 (Int.ofNat_le.mpr (show _≤1000000 from bA (aR hz (by decide)))) (by decide)) (kF kw)).dt (by simp;rfl)) bF) fun Z z vs hz hbz hvs=>?_
   (refine bG (mN hvs) fun v1 e_0=>?_;subst e_0;refine fun h1=>?_)
   exact qS h1
  ·intro L' c k Y' v' val hkl _ hw hb hn' hval
   have kwj:=kw.nx hw.nx
   refine lQ (kH (v:=.ref 266) kwj) (kwj.nV rfl) (kwj.get rfl) rfl (aT (aX (F.inner (c:=L+2) rfl hc hw) (hr.nx hw.nx)) (aT (aX (F.inner (c:=L+3) rfl hck hw) (hk.nx hw.nx)) (aT (aX hn' hval) bF))) fun Z z vs hz hbz hvs=>?_
   (refine uK (Jl hvs) fun v1 v2 v3 e_0=>?_;subst e_0;refine fun h1 h2 h3=>?_)
   exact JK (kwj.nx hz.nx) (n:=n) R h1 h2 h3 ok (BD ok) hkl
 ·have h:a=!PyData.eqv _ _:=h
  rw[sh.eqv]at h
  exact h
 ·exact .mk (fJ (q s' F' k))
noncomputable def Dy(z:Str×List Int):aY:=.list [.str z.1,g9 z.2]
noncomputable def uO(p:Str×IB):aY:=.list [.str p.1,.list (p.2.map Dy)]
noncomputable def dBk:Bk:=⟨Str.empty,0,0,none,[]⟩
section
variable {S:iD}
theorem BN{h:Heap}{a d:Addr}{fac:aG}{kvs:List (Str×aG)}{es:Array fD}{i:Nat}{e:fD}(p:Pairs (PySem.strKind prog w) es.toList kvs)(he:es[i]?=some e):∃k t v,kvs[i]?=some (k,v)∧e.key= .str k t∧e.val=v:=by
 have he':es.toList[i]?=some e:=by rw[Array.getElem?_toList];exact he
 have hl:i<kvs.length:=by
  refine gU p.length ?_
  obtain⟨h,_⟩:=List.getElem?_eq_some_iff.mp he'
  exact h
 have hk:kvs[i]?=some (kvs[i].1,kvs[i].2):=bC hl
 refine gE (p.get? he' hk) fun h1 h2=>?_
 refine bK (Value.isStrOf_shape h1) fun t ht=>?_
 exact⟨_,t,_,hk,ht,h2⟩
theorem GN(kw:KW V (kz w) mg mb X s.heap)(R:dK A (n+4))(F:fU V u (cJ L) X s m cm)(I:Kq prog w V X s.heap S)(hc:cm (aA "index")=some (.ref S.a))(z1:S.bks.length≤1000)(z2:∀b∈S.bks,b.sh.length≤1000)
  (q:∀v s',fU V u (cJ L) X s' (fun z=>if z=aA "stand" then some v else m z) cm→Mu V (nB (cJ L)) s s'→Is V X s'.heap v (.list ((S.bks.map fun b=>(b.name,b.v)).map uO))→Q .next s'):
  WP prog w A (exec (qP w 6) (cJ L)) Q E s:=by
 refine oX I.bk fun es ep oa r pr r=>?_
 have zl:es.size=S.bks.length:=by have:=pr.length;rw[bM]at this;refine aM this ?_;unfold iD.kvs;rw[aQ]
 refine JZ (a:=S.a) (o:=fY S.d es ep (.ref S.fac)) (es:=es) (ep:=ep) (g:=fun i=>uO ((S.bks[i]?.getD dBk).name,(S.bks[i]?.getD dBk).v)) F
  ⟨Bq kw I.bk I.dc I.ns (eQ (F.cel (c:=L+1) rfl hc)),R.handled,oa,rfl,aD (aU zl) z1,?_,rfl,rfl,by decide+kernel,fun r=>rfl,fun r=>rfl,fun r=>rfl,fun r=>rfl,by decide+kernel,fun r=>rfl⟩ (fun v s' F' mu hv=>q v s' F' mu ?_)
 ·intro L' i Y v e he hw hb n1 n2
  refine pG (BN (h:=s.heap) (a:=0) (d:=0) (fac:=.none) pr he) fun k t vv hkv e1 e2=>?_
  unfold iD.kvs at hkv
  rw[cQ,oC]at hkv
  obtain⟨b,hbb,hkv⟩:=hkv
  injection hkv with ek ev
  subst ek ev
  rw[e1]at n1
  rw[e2]at n2
  refine aM hbb (aM mP ?_)
  have hb':=jZ hbb
  have B:=(I.nx hw.nx).bks b hb'
  have kwv:=kw.nx hw.nx
  refine oX B.bk fun es2 ep2 oa2 r pr2 r=>?_
  have zl2:es2.size=b.sh.length:=by have:=pr2.length;rw[bM]at this;refine aM this ?_;unfold Bk.kvs;rw[aQ]
  have hz2:=z2 b hb'
  refine fG (ds:=[.str b.name,.list (b.v.map Dy)]) (aT (aX n1 (Is.str _ _)) (aT ?_ bF)) rfl (fX (show 2≤1000000 by decide))
  refine(KM (x:=aA "key") (y:=aA "shelf") (a:=b.a) (o:=fY b.d es2 ep2 (.type "list")) (es:=es2) (ep:=ep2) (g:=fun i=>Dy ((b.sh[i]?.getD ⟨Str.empty,0,[]⟩).key,(b.sh[i]?.getD ⟨Str.empty,0,[]⟩).pl))
   ⟨Bq kwv B.bk B.dc B.ns (eQ n2),R.handled,oa2,rfl,aD (aU zl2) hz2,?_,rfl,rfl,by decide+kernel,fun r=>rfl,fun r=>rfl,fun r=>rfl,fun r=>rfl,by decide+kernel,fun r=>rfl⟩).dt ?_
  ·intro L'' j Z v' e' he' hw' hb'' n1' n2'
   refine pG (BN (h:=s.heap) (a:=0) (d:=0) (fac:=.none) pr2 he') fun k' t' vv' hkv' e1' e2'=>?_
   unfold Bk.kvs at hkv'
   rw[cQ,oC]at hkv'
   obtain⟨z,hz,hkv'⟩:=hkv'
   injection hkv' with ek' ev'
   subst ek' ev'
   rw[e1']at n1'
   rw[e2']at n2'
   refine aM hz (aM mP ?_)
   exact fG (ds:=[.str z.key,g9 z.pl]) (aT (aX n1' (Is.str _ _)) (aT (aX n2' ((B.sh z (jZ hz)).nx hw'.nx)) bF)) rfl (fX (show 2≤1000000 by decide))
  ·(refine aM zl2 ?_;rw[n6 (F:=fun z:zI=>Dy (z.key,z.pl))])
   refine aM bW ?_;rfl
 ·rw[zl,n6 (F:=fun b:Bk=>uO (b.name,b.v))]at hv
  refine aM bW ?_;exact hv
theorem Ba{rows:List lD}(kw:KW V (kz w) mg mb X s.heap)(R:dK A (n+4))(F:fU V u (cJ L) X s m cm)(hk:Is V X s.heap kv (.list ((dE rows).map oG)))(hck:cm (aA "kept")=some kv)(ok:rR rows)(kok:∀r∈rows,A5 r.2.2)
  (hs:Is V X s.heap tv (.list (((dE rows).map fun kp=>(t6 kp.1,kp.2.map fun sh=>(keyOf sh.1,sh.2))).map uO)))(hm:m (aA "stand")=some tv)
  (q:∀s',fU V u (cJ L) X s' m cm→Keeps V s s'→Q .next s'):
  WP prog w A (exec (qP w 7) (cJ L)) Q E s:=by
 have kk:=BD ok
 have kz':(dE rows).length≤100:=kk.n
 have key:∀kp∈dE rows,∀sh∈kp.2,A5 sh.1:=fun kp h sh hs=>by
  (refine bG (n5 h) fun nm hn e_0=>?_;subst e_0)
  (refine bG (n5 hs) fun rs hr e_0=>?_;subst e_0)
  (refine bG (yO hr) fun r hr' e_0=>?_;subst e_0)
  exact kok r hr'
 have asc:∀rs:List fB,(∀r∈rs,r.ok)→∀c∈(keyOf rs).cps.toList,c<128:=fun rs h=>by
  have one:∀r∈rs,∀c∈(jD r).cps.toList,c<128:=fun r hr c hc=>by
   cases r with
   |num k=>
    replace hc:=(show(jD (.num k)).cps.toList=_ from kB k)▸hc
    (refine bG (n5 hc) fun ch hm e_0=>?_;subst e_0)
    have:=vP hm;exact aR this.2 (by decide)
   |txt cs=>exact h _ hr c hc
  cases rs with
  |nil=>intro c hc;cases hc
  |cons a rs=>
   intro c hc
   unfold keyOf at hc
   rw[bT,vJ]at hc
   rcases eX hc with hc|hc
   ·exact one a aF c hc
   ·refine bG (List.mem_flatMap.mp hc) fun t ht hc=>?_
    (refine bG (n5 ht) fun r hr e_0=>?_;subst e_0)
    rcases eX hc with hc|hc
    ·have:c=46:=by simpa using (show c∈[46]from hc)
     exact aR (aU this) (by decide)
    ·exact one r (aC _ hr) c hc
 have sh:wI 6 (.list (((dE rows).map fun kp=>(t6 kp.1,kp.2.map fun sh=>(keyOf sh.1,sh.2))).map uO)):=.map fun p hp=>by
  (refine bG (n5 hp) fun kp hk e_0=>?_;subst e_0)
  refine .two (.str fun c hc=>?_) (.map fun z hz=>?_)
  ·have h3:=kk.nm kp hk
   have:c=97+kp.1:=by simpa using (show c∈[97+kp.1]from hc)
   lia
  ·(refine bG (n5 hz) fun sh hsh e_0=>?_;subst e_0)
   exact .two (.str (asc _ ((kk.sh kp hk).2 sh hsh).1)) (.ints _)
 refine xS (c:=false) F ((CG R (aX (F.loc hm) hs) ?_ (sh.ok (by decide)) (sh.ok (by decide))).weak fun a Y v o h=>?_) fun s' F' k=>?_
 ·refine xG (x:=aA "name") (y:=aA "shelves") (own:=none) (ds:=(dE rows).map oG) (f₁:=fun i=>sH ((dE rows)[i]?.getD (0,[])).1) (f₂:=fun i=>.list (((dE rows)[i]?.getD (0,[])).2.map zF)) (p:=fun o=>true) (g:=fun i=>uO (t6 ((dE rows)[i]?.getD (0,[])).1,((dE rows)[i]?.getD (0,[])).2.map fun sh=>(keyOf sh.1,sh.2)))
   ⟨aX (F.cel (c:=L+3) rfl hck) hk,R.handled,fun i hi=>by
    have hi':i<(dE rows).length:=by simpa using hi
    rw[cQ,bC hi'];rfl,fX (by simp;exact aD (by assumption) (by decide)),fun L' c j Y' v' v1 v2 hj hw hb hn1 h1 hn2 h2=>eU,?_,rfl,rfl,by decide+kernel,fun o=>rfl,fun o=>rfl,fun o o=>rfl,fun o o=>.inl rfl,by decide+kernel,fun o=>rfl⟩ ?_
  ·intro L' c j Y' v' v1 v2 hj _ hw hb hn1 h1 hn2 h2
   have hj':j<(dE rows).length:=by simpa using hj
   have hmem:=fH ((0,[]):Nat×List hU) (dE rows) hj'
   generalize (dE rows)[j]?.getD (0,[])=kp at h1 h2 hmem
   have kwj:=kw.nx hw.nx
   refine gE (kk.sh kp hmem) fun s1 s2=>?_
   refine fG (ds:=[sH kp.1,.list ((kp.2.map fun sh=>(keyOf sh.1,sh.2)).map Dy)]) ?_ rfl (fX (show 2≤1000000 by decide))
   refine aT (aX hn1 h1) (aT ?_ bF)
   refine xG (x:=aA "runs") (y:=aA "places") (own:=none) (ds:=kp.2.map zF) (f₁:=fun i=>iN (kp.2[i]?.getD ([],[])).1) (f₂:=fun i=>g9 (kp.2[i]?.getD ([],[])).2) (p:=fun o=>true) (g:=fun i=>Dy (keyOf (kp.2[i]?.getD ([],[])).1,(kp.2[i]?.getD ([],[])).2))
    ⟨aX hn2 h2,R.handled,fun i hi=>by
     have hi':i<kp.2.length:=by simpa using hi
     rw[cQ,bC hi'];rfl,fX (by simp;exact aD (by assumption) (by decide)),fun L' c j Y' v' v1 v2 hj hw hb hn1 h1 hn2 h2=>eU,?_,rfl,rfl,by decide+kernel,fun o=>rfl,fun o=>rfl,fun o o=>rfl,fun o o=>.inl rfl,by decide+kernel,fun o=>rfl⟩ ?_
   ·intro L'' c' j' Y'' v'' w1 w2 hj2 _ hw' hb' hm1 g1 hm2 g2
    have hj2':j'<kp.2.length:=by simpa using hj2
    have hmem2:=fH (([],[]):hU) kp.2 hj2'
    generalize kp.2[j']?.getD ([],[])=sh' at g1 g2 hmem2
    have ky:=key kp hmem sh' hmem2
    refine fG (ds:=[.str (keyOf sh'.1),g9 sh'.2]) (aT (P:=Dt (.str (keyOf sh'.1))) ?_ (aT (aX hm2 g2) bF)) rfl (fX (show 2≤1000000 by decide))
    refine Ak (sep:=aA ".") (texts:=sh'.1.map jD) (gO _) (G7 (x:=aA "run") (kwj.nx hw'.nx) R (.inr rfl) ky (aX hm1 g1) rfl rfl rfl rfl fun o=>rfl) (v9 (B:=700) (fun y hy=>?_) ?_)
    ·(refine bG (n5 hy) fun r hr e_0=>?_;subst e_0)
     exact ky.txt r hr
    ·(rewrite[aQ];refine aM (show(aA ".").length=1 by decide) ?_)
     have:=ky.len;exact aD (cY (kK this (bO _)) (kK this (bO _))) (by decide)
   ·(rewrite[aQ,qN (fun sh:hU=>Dy (keyOf sh.1,sh.2)) ([],[]) kp.2];refine aM bW ?_);rfl
  ·rw[aQ,qN (fun kp:Nat×List hU=>uO (t6 kp.1,kp.2.map fun sh=>(keyOf sh.1,sh.2))) (0,[]) (dE rows),bW];rfl
 ·have h:a=!PyData.eqv _ _:=h
  rw[sh.eqv]at h
  exact h
 ·exact .mk (fJ (q s' F' k))
end
noncomputable abbrev pA(h:Heap)(it d:Addr)(i n ep:Nat):Prop:=
 h.get? it=some {cls:=.type "dict_keyiterator",dict:=none,data:=.fields #[.ref d,.int i 0,.int n 0,.int ep 0],slots:=#[]}
theorem JH(w:cN):findIn (kz w) (.ref 126) "__iter__"=some (some (.builtin "dict.__iter__")):=by kernel_rfl
theorem HR(w:cN):findIn (kz w) (.ref 126) "__len__"=some (some (.builtin "dict.__len__")):=by kernel_rfl
section
variable {a d v:Addr}
theorem Io{i:Nat}{Q:Option aG→aH→Prop}(hit:pA s.heap it d i es.size ep)(ho:s.heap.get? d=some o)(hd:o.data= .dict es ep)(hi:i<es.size)
  (q:∀h',pA h' it d (i+1) es.size ep→bY it s.heap h'→Q (some es[i].key) {s with heap:=h'}):wpAny (model prog w) A (pyNext (.ref it)) Q E s:=by
 have hT:s.TypeIs (.ref it) "dict_keyiterator":=⟨_,hit,rfl⟩
 obtain⟨hp,g,dr,tk,os⟩:=s
 refine aB (iB (dZ (name:=aA "__next__") hT l8
  (dB l8 hT F.entry_dict_keyiterator_next ?_ (F.args_dict_keyiterator_next_1 _))))
 refine aB (aE (aB (aB (aB (lN hT (aE ?_))))))
 refine aB (pQ hit rfl ?_)
 refine(?_:wpAny _ _ (if(cR d==dY)=true then _ else _) _ _ _)
 refine aM (if_neg (show¬((cR d==dY)=true)from f4)) ?_
 refine aB (aE (aB (fV ho hd ?_)))
 refine aM (if_neg (by simp)) ?_
 refine aB (aE (aB (i9 ho hd ?_)))
 refine aM (if_neg (by simp)) ?_
 refine aE ?_
 simp only[show¬((i:Int)<0)from by exact Int.not_lt.mpr (cD _),if_false,iT,jP hi]
 refine aB (aB (lN hT (aE (aB (wpAny_isOneOf_keyiter hT ?_)))))
 refine(?_:wpAny _ _ (setField (.ref it) 1 (rawInt ((i:Int)+1))>>=_) _ _ ⟨hp,g,dr,tk,os⟩)
 refine aB (jW hit (by simp) fun h₁ he₁ hs₁=>?_)
 replace hs₁:bY it hp h₁:=hs₁
 replace he₁:pA h₁ it d (i+1) es.size ep:=by
  have e:((i+1:Nat):Int)=(i:Int)+1:=by(push_cast;rfl)
  unfold pA;refine aM e ?_;simpa[rawInt]using he₁
 have hT₁:Shared.TypeIs ⟨h₁,g,dr,tk,os⟩ (.ref it) "dict_keyiterator":=⟨_,he₁,rfl⟩
 refine aB (a8 (aB (wpAny_isOneOf_keyiter hT₁ ?_)))
 exact aE (aE ⟨_,rfl,aE (q _ he₁ hs₁)⟩)
theorem An{i:Nat}{Q:Option aG→aH→Prop}(hh:A.handled=none)(hit:pA s.heap it d i es.size ep)(ho:s.heap.get? d=some o)(hd:o.data= .dict es ep)(hi:es.size≤i)
  (q:∀h',Heap.ExtBut it s.heap h'→Q none {s with heap:=h'}):wpAny (model prog w) A (pyNext (.ref it)) Q E s:=by
 have hT:s.TypeIs (.ref it) "dict_keyiterator":=⟨_,hit,rfl⟩
 refine aB (iB (dZ (name:=aA "__next__") hT l8
  (dB l8 hT F.entry_dict_keyiterator_next ?_ (F.args_dict_keyiterator_next_1 _))))
 refine aB (aE (aB (aB (aB (lN hT (aE ?_))))))
 refine aB (pQ hit rfl ?_)
 refine(?_:wpAny _ _ (if(cR d==dY)=true then _ else _) _ _ _)
 refine aM (if_neg (show¬((cR d==dY)=true)from f4)) ?_
 refine aB (aE (aB (fV ho hd ?_)))
 refine aM (if_neg (by simp)) ?_
 refine aB (aE (aB (i9 ho hd ?_)))
 refine aM (if_neg (by simp)) ?_
 refine aE ?_
 simp only[show¬((i:Int)<0)from by exact Int.not_lt.mpr (cD _),if_false,iT,g7 hi]
 refine aB (aB (lN hT (aE ?_)))
 refine(?_:wpAny _ _ (setField (.ref it) 0 .none>>=_) _ _ s)
 refine aB (wpAny_setField hit rfl (by simp) ?_)
 refine DH hh fun h' x hk ⟨ox,ex,cx⟩=>?_
 refine aB (qW (T:="StopIteration") (b:=true) ⟨ox,ex,cx⟩ isSubtype_stop ?_)
 exact aE (q _ fun b o hb e=>hk b o ((cU ..).extBut b o hb e))
theorem FD{n i:Nat}{Q:aG→aH→Prop}(hit:pA s.heap it d i n ep)(h:Q (.ref it) s):wpAny (model prog w) A (pyIter (.ref it)) Q E s:=
 wpAny_pyIter_keyiter ⟨_,hit,rfl,rfl⟩ h
end
theorem De{I d:Addr}{o:Obj}{es:Array fD}{ep:Nat}(hh:A.handled=none)(hd:o.data= .dict es ep)(dI:d≠I):
  Walks prog w A I [I,d] [I] es.size (fun i v=>∃e,es[i]?=some e∧v=e.key) (fun i h=>pA h I d i es.size ep∧h.get? d=some o) where
 frame:=fun i h h' j k=>⟨k I (aF) _ j.1,k d (.tail _ (.head _)) _ j.2⟩
 sub:=fun b hb=>by replace hb:=kQ hb;simp[hb]
 self:=fun i s Q E j q=>FD j.1 q
 item:=fun i s Q E hi j q=>Io j.1 j.2 hd hi fun h' x1 x2=>by
  replace x2:bY I s.heap h':=x2
  exact q _ h' s.toks ⟨es[i],by simp[hi],rfl⟩ ⟨x1,x2.extBut d o dI j.2⟩ fun b o hb e=>x2.extBut b o (by with_reducible exact mt List.mem_singleton.mpr hb) e
 done:=fun s Q E j q=>An hh j.1 j.2 hd (bO _) fun h' hx=>q h' s.toks fun b o hb e=>hx b o (by with_reducible exact mt List.mem_singleton.mpr hb) e
section
variable {a d:Addr} {name:Str}
theorem uP{h:Heap}{r:Option aG}{ox:Obj}(kin:(kz w).In h)(I:InstAt h a ox 126 od)(hf:findIn (kz w) (.ref 126) name=some r):dT (model prog w) h (specialOf (.ref a) name) r:=by
 exact I.type.andThen (dW kin hf)
theorem F9{Q:aG→aH→Prop}(kin:(kz w).In s.heap)(I:InstAt s.heap a (fY d es ep fac) 126 od)(ns:a≠sysModules)
  (q:Q (.ref s.heap.objs.size) {s with heap:=s.heap.push {cls:=.type "dict_keyiterator",data:=.fields #[.ref a,.int 0 0,.int es.size 0,.int ep 0]}}):wpAny (model prog w) A (call (.builtin "dict.__iter__") [.ref a]) Q E s:=by
 have L0:=I.type (M:=model prog w)
 have hi:dT (model prog w) s.heap (isInstance (.ref a) (.type "dict")) true:=L0.andThen (jT kin)
 have ho:dT (model prog w) s.heap (isInstance (.ref a) (.type "collections.OrderedDict")) false:=L0.andThen (oZ kin)
 have ha:=I.at_
 obtain⟨hp,g,dr,tk,os⟩:=s
 refine dR (cM F.slot_dict_iter.plain F.entry_dict_iter ?_)
 refine @nL (model prog w) _ _ _ "dict.__iter__" "dict" "__iter__" (.ref a) [] [] _ (by decide+kernel) (by decide+kernel) hi (F.args_dict_iter_1 _) ?_
 refine aB (aB (aB (L0.at ?_)))
 refine aM (if_pos (by decide)) ?_
 refine aB (ho.at ?_)
 refine aM (if_neg (by decide)) ?_
 refine aE ?_
 refine aB (bE (a:=(.ref a,[])) (by rfl) (aE ?_))
 refine aB (bE (a:=a) (by rfl) ?_)
 unfold Builtin.Dict.showsAll
 refine aB ?_
 refine aM (if_neg (by simpa using ns)) ?_
 refine aE ?_
 refine aB (fV ha rfl (aB (i9 ha rfl ?_)))
 exact aB (c8 (aE q))
theorem F8{Q:aG→aH→Prop}(kin:(kz w).In s.heap)(I:InstAt s.heap a (fY d es ep fac) 126 od)(ns:a≠sysModules)
  (q:Q (.ref s.heap.objs.size) {s with heap:=s.heap.push {cls:=.type "dict_keyiterator",data:=.fields #[.ref a,.int 0 0,.int es.size 0,.int ep 0]}}):wpAny (model prog w) A (pyIter (.ref a)) Q E s:=by
 have L:=uP (prog:=prog) (name:=aA "__iter__") kin I (JH w)
 obtain⟨hp,g,dr,tk,os⟩:=s
 refine aB (L.at ?_)
 refine(?_:wpAny _ _ (callSpecialIfBoundUnlessNone? (.ref a) "__iter__" _>>=_) _ _ _)
 refine aB (a8 (aB ?_))
 refine aB (L.at ?_)
 have fin:∀(rf:Sem aG) (QQ:Option aG→aH→Prop),(∀it s',wpAny (model prog w) A (specialOf it "__next__") (fun r s''=>r.isSome=true∧Q it s'') E s'→QQ (some it) s')→
   wpAny (model prog w) A (if(Value.builtin "dict.__iter__"==dY)=true then(rf>>=fun v=>pure (some v))else(call (.builtin "dict.__iter__") [.ref a]>>=fun v=>pure (some v))) QQ E ⟨hp,g,dr,tk,os⟩:=fun rf QQ h=>by
  refine aM (if_neg (by decide)) ?_
  refine aB (F9 kin I ns (aE (h _ _ ?_)))
  exact rT (T:="dict_keyiterator") ⟨_,aW _ rfl,rfl⟩ F.slot_dict_keyiterator_next.lookup ⟨rfl,q⟩
 have nxt:∀it s',wpAny (model prog w) A (specialOf it "__next__") (fun r s''=>r.isSome=true∧Q it s'') E s'→wpAny (model prog w) A (do
   match←specialOf it "__next__" with
   |none=>rule "iter.non-iterator";raiseError "TypeError" s!"iter() returned non-iterator of type '{← typeNameOf it}'"
   |some _=>pure it) Q E s':=fun it s' h=>by
  refine aB (bD h (fun r s'' hr=>?_) fun z z e=>e)
  (refine bK (Option.isSome_iff_exists.mp hr.1) fun x e_0=>?_;subst e_0)
  exact aE hr.2
 refine aB (wpAny_askSetting (wpAny_ite ?_))
 split
 ·exact aB (aE (aE (fin _ _ nxt)))
 ·exact wpAny_tryCatch (aB (aE (aE (fin _ _ nxt))))
theorem Fu{Q:aG→aH→Prop}(kin:(kz w).In s.heap)(I:InstAt s.heap a (fY d es ep fac) 126 od)(ns:a≠sysModules)
  (q:∀t tk,Q (.int es.size t) {s with toks:=tk}):wpAny (model prog w) A (call (.builtin "dict.__len__") [.ref a]) Q E s:=by
 have L0:=I.type (M:=model prog w)
 have hi:dT (model prog w) s.heap (isInstance (.ref a) (.type "dict")) true:=L0.andThen (jT kin)
 have ha:=I.at_
 obtain⟨hp,g,dr,tk,os⟩:=s
 refine dR (cM F.slot_dict_len.plain F.entry_dict_len ?_)
 refine @nL (model prog w) _ _ _ "dict.__len__" "dict" "__len__" (.ref a) [] [] _ (by decide+kernel) (by decide+kernel) hi (F.args_dict_len_1 _) ?_
 unfold Builtin.«dict.__len__» Builtin.Dict.dictSlotNone q8
 refine aB (aB ?_)
 refine aM (if_neg (by decide)) ?_
 refine aE ?_
 refine aB (bE (a:=(.ref a,[])) (by rfl) (aE ?_))
 refine aB (bE (a:=a) (by rfl) ?_)
 refine aB (aB (fV ha rfl (aE ?_)))
 unfold Builtin.Dict.pendingCount
 refine aB ?_
 refine aM (if_neg (by simpa using ns)) ?_
 refine aE ?_
 exact aB (wpAny_mkInt (aE (q tk (tk+1))))
theorem HB{Q:aG→aH→Prop}(kin:(kz w).In s.heap)(I:InstAt s.heap a (fY d es ep fac) 126 od)(ns:a≠sysModules)(hz:es.size≤1000)
  (q:∀t tk,Q (.int es.size t) {s with toks:=tk}):wpAny (model prog w) A (call (.builtin "len") [.ref a]) Q E s:=by
 have L:=uP (prog:=prog) (name:=aA "__len__") kin I (HR w)
 obtain⟨hp,g,dr,tk,os⟩:=s
 refine Calls.call_function_entry kind_len plain_len entry_len (args_len1 _) ?_
 refine aB (m:=oneArg "len" _) (aE ?_)
 refine aB (m:=specialOf (.ref a) (aA "__len__")>>=_) (aB (L.at ?_))
 refine a8 ?_
 rw[F.slot_dict_len.bind]
 refine aB (aE ?_)
 refine aB (Fu kin I ns fun t tk'=>aE ?_)
 refine aB (a8 (bE (a:=(es.size:Int)) (by rfl) ?_))
 refine aB (wpAny_letGo ?_)
 refine aM (if_neg (by lia)) ?_
 refine aM (if_neg (Int.not_le.mpr (e9 (Int.ofNat_le.mpr (by assumption)) (by decide)))) ?_
 exact aB (wpAny_mkInt (aE ⟨_,rfl,q _ _⟩))
theorem Fl{Q:Bool→aH→Prop}(kin:(kz w).In s.heap)(I:InstAt s.heap a (fY d es ep fac) 126 od)(ns:a≠sysModules)(hz:es.size≤1000)
  (q:∀b tk,Q b {s with toks:=tk}):wpAny (model prog w) A (Builtin.List.listLengthHint (.ref a)) Q E s:=by
 have L:=uP (prog:=prog) (name:=aA "__len__") kin I (HR w)
 have L0:=I.type (M:=model prog w)
 have hi:dT (model prog w) s.heap (isInstance (.ref a) (.type "dict")) true:=L0.andThen (jT kin)
 obtain⟨hp,g,dr,tk,os⟩:=s
 refine aB (L.at ?_)
 generalize hid:("dict.__len__":String)=id0
 wp_delta
 refine aM (show splitId id0=some ("dict","__len__")from by subst hid;decide+kernel) ?_
 subst hid
 refine aB (hi.at ?_)
 refine wpAny_ite_split (fun hab=>absurd hab (by decide)) (fun z=>?_)
 refine wpAny_ite_split (fun z=>?_) (fun hab=>absurd (by decide+kernel) hab)
 refine aB (L0.at ?_)
 refine aB (HB kin I ns hz fun t tk'=>?_)
 refine aB (m:=asInt? _) (aE ?_)
 exact aE (q _ _)
end
section
variable {a d:Addr}
theorem F4{Q:aG→aH→Prop}(hh:A.handled=none)(kin:(kz w).In s.heap)(ha:s.heap.get? a=some (fY d es ep fac))(hd:Dc s.heap d fz)(ns:a≠sysModules)(hz:es.size≤1000)
  (q:∀h' tk acc c,(∀b o,s.heap.get? b=some o→h'.get? b=some o)→h'.get? s.heap.objs.size=some {cls:=.type "list",dict:=none,data:=.seq acc c,slots:=#[]}→ItemsOf (fun i v=>∃e,es[i]?=some e∧v=e.key) acc es.size→Q (.ref s.heap.objs.size) {s with heap:=h',toks:=tk}):
  wpAny (model prog w) A (call (.type "list") [.ref a]) Q E s:=by
 refine fO hd fun de dn hde hfz=>?_
 refine callType_codes (Q₁:=fun obj s₁=>obj= .ref s.heap.objs.size∧s₁={s with heap:=s.heap.push {cls:=.type "list",data:=.seq #[]}}) F.called_list (F.typeCall_list_1 _) F.entry_list_init
  (code_list_new _ ⟨rfl,rfl⟩) fun obj s₁ h₁=>?_
 (refine gE h₁ fun e_0=>?_;subst e_0;refine fun e_0=>?_;subst e_0)
 generalize hSz:s.heap.objs.size=S at*
 generalize hH:s.heap.push {cls:=.type "list",data:=.seq #[]}=H
 have hS:H.get? S=some {cls:=.type "list",data:=.seq #[]}:=by refine gU hH (gU hSz ?_);exact aW _ rfl
 have up:∀b o,s.heap.get? b=some o→H.get? b=some o:=fun b o e=>hH▸aP _ e
 have Sn:s.heap.get? S=none:=gB (by refine aM hSz ?_;exact bO _)
 have aS:S≠a:=fun e=>by rw[←e,Sn]at ha;nomatch ha
 refine⟨⟨_,hS,rfl⟩,F.args_list_init_2 _ _,?_⟩
 refine(?_:wpAny _ _ (do let old←j2 (.ref S);dD (.ref S) (fun z=>#[]);letGo old.toList.reverse;Builtin.List.listExtendWith (.ref S) (.ref a) .none) _ _ _)
 refine aB ?_
 refine aB (nH hS rfl (aE ?_))
 refine aB (mM hS rfl ?_)
 have hS₂:=cW (eO (fun z=>(#[]:Array aG))) hS rfl
 have up2:∀b o,s.heap.get? b=some o→(H.update S (eO (fun z=>(#[]:Array aG)))).get? b=some o:=
  fun b o e=>(gA _ _ (fun q=>by rw[←q,Sn]at e;nomatch e)).trans (up b o e)
 refine aB (wpAny_letGo ?_)
 generalize H.update S (eO (fun z=>(#[]:Array aG)))=H₂ at*
 have kin₂:(kz w).In H₂:=kin.keeps up2
 have I₂:InstAt H₂ a (fY d es ep fac) 126 (some (dictOf de dn)):=⟨up2 _ _ ha,rfl,rfl,up2 _ _ hde⟩
 refine aB (I₂.type.here ?_)
 have h1:mE (.ref S) (.ref a)=false:=by simp[mE,aS]
 have h2:(cR 126==Value.type "list")=false:=by decide
 have h3:(cR 126==Value.type "tuple")=false:=by decide
 simp only[h1,h2,h3,Bool.or_false,jI,if_false]
 refine aB (F8 kin₂ I₂ ns ?_)
 generalize hIt:H₂.objs.size=it
 generalize hH3:H₂.push {cls:=.type "dict_keyiterator",data:=.fields #[.ref a,.int 0 0,.int es.size 0,.int ep 0]}=H₃
 have up3:∀b o,H₂.get? b=some o→H₃.get? b=some o:=fun b o e=>hH3▸aP _ e
 have hit:pA H₃ it a 0 es.size ep:=by refine gU hH3 (gU hIt ?_);exact aW _ rfl
 have itn:H₂.get? it=none:=gB (by refine aM hIt ?_;exact bO _)
 have ait:a≠it:=fun e=>by have:=up2 _ _ ha;rw[e,itn]at this;nomatch this
 have Sit:S≠it:=fun e=>by rw[e,itn]at hS₂;nomatch hS₂
 have kin₃:=kin₂.keeps up3
 have I₃:InstAt H₃ a (fY d es ep fac) 126 (some (dictOf de dn)):=⟨up3 _ _ (up2 _ _ ha),rfl,rfl,up3 _ _ (up2 _ _ hde)⟩
 have W:=(De (prog:=prog) (w:=w) (A:=A.in1.in1) (I:=it) (d:=a) (o:=fY d es ep fac) (es:=es) (ep:=ep) hh rfl ait).toS
 have loop:∀(h:Heap) (c tk:Nat),(∀b o,b≠S→H₃.get? b=some o→h.get? b=some o)→h.get? S=some {cls:=.type "list",data:=.seq #[] c}→
   codeAny (model prog w) A.in1 (.builtin "list.extend.loop" ⟨[.ref S,.ref it,.none],[]⟩) (fun r s'=>match r with| .ok (.ret v)=>v= .none∧Q (.ref S) s'| .ok _=>False| .error e=>E e s') {s with heap:=h,toks:=tk}:=fun h c tk k hS'=>by
  refine codeAny_extend_loopS W (by refine aM bV ?_;exact aD (by assumption) (by decide)) S (by simp[Sit,aS]) .none es.size 0 _ #[] c rfl (bX _) ⟨k _ _ (eH Sit) hit,k _ _ (eH aS) (up3 _ _ (up2 _ _ ha))⟩ hS' (ItemsOf.nil _) fun s' acc' c' hm hS'' hacc=>?_
  refine aM (Moved.eq_with hm) ?_
  refine⟨rfl,q s'.heap s'.toks acc' c' (fun b o e=>?_) hS'' hacc⟩
  have bS:b≠S:=fun e'=>by rw[e',Sn]at e;nomatch e
  refine hm.heap b o (fun hmem=>?_) (k b o bS (up3 _ _ (up2 _ _ e)))
  replace hmem:=m2 hmem
  rcases hmem with e'|e'
  ·exact bS e'
  ·have:=up2 _ _ e;rw[e',itn]at this;nomatch this
 refine aB (a8 (Fl kin₃ I₃ ns hz fun b tk=>?_))
 have hS₃:=up3 _ _ hS₂
 refine wpAny_ite_split (fun z=>?_) (fun z=>aE ⟨jL nU _,loop _ _ _ (fun b o z e=>e) hS₃⟩)
 refine aB (fT ?_)
 refine aB ?_
 refine aB (mM hS₃ rfl ?_)
 have hS₄:=cW (eO (·.push dY)) hS₃ rfl
 refine mM (hz:=by seq_fits) hS₄ rfl ?_
 have hS₅:=cW (eO (·.pop)) hS₄ rfl
 exact aE ⟨jL nU _,loop _ _ _ (fun b o hb e=>(gA _ _ (eH hb)).trans ((gA _ _ (eH hb)).trans e)) hS₅⟩
end
section
variable {a K:Addr}
theorem WC.forL{α:Type}{f:α→PUnit→Sem (ForInStep PUnit)}{Q:PUnit→aH→Prop}(I:List α→aH→Prop)
  (step:∀x r s,I (x::r) s→WC prog w A (f x ⟨⟩) (fun y s'=>y= .yield ⟨⟩∧I r s') E s)(fin:∀s,I [] s→Q ⟨⟩ s):∀(l:List α) (s:aH),I l s→WC prog w A (forIn l PUnit.unit f) Q E s
 |[],s,h=>by refine aM List.forIn_nil ?_;exact .pure (fin s h)
 |x::r,s,h=>by
  rw[qE]
  refine .bind ((step x r s h).monoQ fun y s' h'=>?_)
  obtain⟨rfl,h'⟩:=h'
  exact WC.forL I step fin r s' h'
structure KS(V X:List Addr)(s₀:aH)(a K:Addr)(e1:Nat)(ds:List aY)(s:aH):Prop where
 k:Keeps V s₀ s
 oa:s.heap.get? a=some (seqObj "list" #[] e1)
 ks:∃ys,s.heap.PlainList K ys∧cA V (a::K::X) s.heap ys.toList ds
theorem A9{P:Fin→aH→Prop}{n:Nat}(its:List (aG×List fB))(hn:its.length<64)(nd:(its.map (·.2)).Nodup)(hu:A.units<cLine)(hb:Bd V X s₀)(a0:s₀.heap.get? a=none)(k0:Keeps V s₀ s)(ho:s.heap.get? a=some (seqObj "list" (its.map (·.1)).toArray n))
  (pc:∀p∈its,Kx V prog w A X s₀ (call (.ref 57) [p.1]) (Dt (.list (jV p.2))))
  (q:∀(its':List (aG×List fB)) (s':aH),its'.Perm its→its'.Pairwise (fun p q=>nF p.2<nF q.2)→Keeps V s₀ s'→s'.heap.PlainList a (its'.map (·.1)).toArray→P (.done (.ret .none)) s'):
  WC prog w A (Builtin.«list.sort» ⟨[.ref a],[(aA "key",.ref 57)]⟩) P E s:=by
 have aV:a∉V:=hb.two.ne a0
 have sz:∀{l:List (aG×List fB)},l.length=its.length→(l.map (·.1)).toArray.size≤1000:=fun h=>by simp;exact bA (cK (aR (aU h) hn) (by decide))
 have szL:(its.map (·.1)).toArray.size=its.length:=by simp
 rw[zY]
 refine WC.seq (listItems_at ho rfl (WC.seq (A8 ⟨n,ho⟩ aV (sz rfl) (by simp) fun h1 p1 m1=>?_)))
 have k1:=m1.keeps k0 (by simpa using a0)
 (refine bK p1 fun e1 p1=>?_)
 refine WC.seq (seqEpoch_at p1 rfl (WC.seq (pP (WC.seq (mO ?_)) (by refine aM bV ?_;simp;exact bA (aO (by assumption) (by decide))))))
 dsimp only
 generalize hT:h1.push {cls:=.type "tuple",data:=.seq (its.map (·.1)).toArray.toList.toArray}=T
 generalize hK:T.objs.size=K
 generalize hG:T.push {cls:=.type "list",data:=.seq ([]:List aG).toArray}=G
 have up:∀b o,h1.get? b=some o→G.get? b=some o:=fun b o e=>hG▸aP _ (hT▸aP _ e)
 have kG:Keeps V {s with heap:=h1} {s with heap:=G}:=gW (s:={s with heap:=h1}) up
 have Kn1:h1.get? K=none:=gB (by(refine gU hK (gU hT ?_);rw[fZ]);exact bN _ _)
 have K0:s₀.heap.get? K=none:=fQ k1 hb.two Kn1
 have KV:K∉V:=hb.two.ne K0
 have aK:a≠K:=fun e=>by rw[e,Kn1]at p1;nomatch p1
 have frs:∀b∈[a,K],s₀.heap.get? b=none:=fun b hb=>by replace hb:=m2 hb;rcases(eK b7 b7) hb with rfl|rfl<;>assumption
 have wl:∀{ds:List aY} {t:aH},KS V X s₀ a K e1 ds t→gM V X s₀ (a::K::X) t∧Bd V (a::K::X) t:=fun{ds t} S=>by
  (refine bG S.ks fun ys q_1 z=>?_;refine bK q_1 fun nn p=>?_)
  refine⟨⟨S.k,fun b h=>by simp[h],fun b h z=>?_⟩,((hb.keeps S.k).cons p).cons S.oa⟩
  simp only[bL]at h
  rcases(eK b7 (eK b7 id)) h with rfl|rfl|h
  ·exact .inr a0
  ·exact .inr K0
  ·exact .inl h
 have S0:KS V X s₀ a K e1 [] {s with heap:=G}:=⟨aN k1 kG,up _ _ p1,#[],⟨0,by refine(?_:G.get? K=_);refine gU hG (gU hK ?_);exact aW _ rfl⟩,.nil⟩
 refine .holding (WC.seq (fT (.bind ?_)))
 rw[List.forIn_toArray]
 refine WC.forL (fun r t=>∃done rest,r=rest.map (·.1)∧its=done++rest∧KS V X s₀ a K e1 (done.map fun p=>.list (jV p.2)) t) ?_ ?_ _ _ ⟨[],its,rfl,rfl,S0⟩
 ·(intro x r t q_2;refine mF q_2 fun done rest hr hd S=>?_)
  obtain _|⟨⟨v,rs⟩,rest⟩:=rest
  ·nomatch hr
  injection hr with hx hr
  subst hx hr
  refine gE (wl S) fun wl1 bd=>?_
  refine .bind (.attempt ((pc (x,rs) (by refine aM hd ?_;simp)).go _ t wl1 bd _ _ fun kv t' kt hk=>?_))
  (refine bG S.ks fun ys q_3 al=>?_;refine bK q_3 fun nn p=>?_)
  have pk:t'.heap.PlainList K ys:=⟨nn,a7 kt K _ KV p⟩
  have len:ys.size=done.length:=by have:=al.length;simpa using this
  have hle:done.length≤its.length:=by refine aM hd ?_;simp
  refine WC.seq (A8 pk KV (bA (cK (aR (aD (aU len) hle) hn) (by decide))) (by simp;exact bA (cK (aR (aD (aU len) hle) hn) (by decide))) fun h2 p2 m2=>.pure ⟨rfl,done++[(x,rs)],rest,rfl,by refine aM hd ?_;simp,(aN S.k kt|>fun k=>m2.keeps k (fun b hb=>frs b (by simp[hb]))),m2.get (by with_reducible exact mt kQ aK) aV (a7 kt a _ aV S.oa),_,p2,?_⟩)
  refine aM Array.toList_push (aM bB ?_)
  exact((al.keep (a7 kt)).append (cA.cons hk .nil)).nx (m2.nx fun b hb=>by replace hb:=kQ hb;simp[hb])
 ·(intro t q_4;refine mF q_4 fun done rest hr hd S=>?_)
  obtain rfl:rest=[]:=by simpa using hr.symm
  rw[fC]at hd
  subst hd
  refine bG (id S.ks) fun ys pk al=>?_
  have len:ys.size=its.length:=by have:=al.length;simpa using this
  refine bK (id pk) fun nn ek=>?_
  refine WC.seq (listItems_at ek rfl ?_)
  obtain⟨zs,hzs⟩:∃zs:List (aG×aG×List fB),zs=ys.toList.zip its:=⟨_,rfl⟩
  have z2:zs.map (·.2)=its:=by refine aM hzs ?_;exact List.map_snd_zip (show its.length≤ys.toList.length from aU (len.symm.trans Array.length_toList.symm))
  have z3:(zs.map fun t=>t.2.2)=its.map fun p=>p.2:=by refine gU z2 (aM bW ?_);rfl
  have h0:(ys.zip (its.map (·.1)).toArray).toList=zs.map fun t=>(t.1,t.2.1):=by
   refine aM Array.toList_zip (aM hzs ?_)
   refine aM List.zip_map_right ?_;rfl
  have hp:∀t'∈zs,Is V (a::K::X) t.heap t'.1 (.list (jV t'.2.2)):=fun t' ht=>by
   replace ht:=hzs▸ht
   obtain⟨i,hi,e⟩:=List.mem_iff_getElem.mp ht
   rw[List.getElem_zip]at e
   rw[List.length_zip,Nat.lt_min]at hi
   refine bG (al.at (i:=i) (d:=.list (jV its[i].2)) (by rw[cQ,bC hi.2];rfl)) fun v e1 iv=>?_
   rw[bC hi.1]at e1
   subst e
   refine aM (a9 e1) ?_;exact iv
  have O:=K9 (prog:=prog) (w:=w) (A:=A) (pairs:=zs) (a₀:=ys.zip (its.map (·.1)).toArray) hu h0 hp (by refine aM z3 ?_;exact nd)
  have szz:(ys.zip (its.map (·.1)).toArray).size=its.length:=by(refine aM Array.size_zip (aM szL (aM len ?_));rw[Nat.min_self])
  have fin:∀st:SortSt,(arrOf st).Perm (ys.zip (its.map (·.1)).toArray)→failedOf st=none→nT (kO V (a::K::X) t.heap) (arrOf st) (ys.zip (its.map (·.1)).toArray).size→
    WC prog w A (do
     dD (.ref K) fun z=>#[]
     letGo ((arrOf st).map (·.1)).toList (failedOf st).toList
     let touched:=(←seqEpoch a) !=e1
     dD (.ref a) fun z=>(arrOf st).map (·.2)
     if let some e:=failedOf st then rule "list.sort.comparison-raised";throw e
     if touched then rule "list.sort.modified";raiseError "ValueError" "list modified during sort"
     ret .none) P E t:=fun st hperm hf hs=>by
   refine bG (FP (Array.perm_iff_toList_perm.mp hperm) zs h0) fun zs' pz ez=>?_
   have szs:(arrOf st).size=its.length:=aM hperm.size_eq (aM szz rfl)
   refine WC.seq (A8 pk KV (bA (cK (aR (aU len) hn) (by decide))) (by simp) fun h3 p3 m3=>WC.seq (wpAny_letGo ?_))
   have k3:Keeps V s₀ {t with heap:=h3}:=m3.keeps S.k (fun b hb=>frs b (by simp[hb]))
   have a3:h3.get? a=some (seqObj "list" #[] e1):=m3.get (by with_reducible exact mt kQ aK) aV S.oa
   refine WC.seq (seqEpoch_at a3 rfl (WC.seq (A8 ⟨_,a3⟩ aV (by simp) (by refine aM Array.size_map ?_;exact bA (cK (aR (aU szs) hn) (by decide))) fun h4 p4 m4=>?_)))
   have k4:Keeps V s₀ {t with heap:=h4}:=m4.keeps k3 (by simpa using a0)
   refine aM hf ?_
   simp only[bne_self_eq_false,jI,if_false]
   refine .pure (q (zs'.map (·.2)) _ (by refine gU z2 ?_;exact pz.map _) ?_ k4 ?_)
   ·rw[List.pairwise_map,List.pairwise_iff_getElem]
    intro i j hi hj hij
    have lz:zs'.length=its.length:=by(refine aM pz.length_eq (gU z2 ?_);rw[aQ])
    have kk:∀i (h:i<zs'.length),KK (kO V (a::K::X) t.heap) (arrOf st) i=nF zs'[i].2.2:=fun i h=>by
     have e:(arrOf st)[i]?=some (zs'[i].1,zs'[i].2.1):=by rw[←Array.getElem?_toList,ez,cQ,bC h];rfl
     unfold KK
     refine aM e ?_
     refine(?_:((kO V (a::K::X) t.heap).keyOf zs'[i].1).getD _=_)
     refine aM (HK (hp _ (pz.mem_iff.mp (f9 h)))) ?_
     rfl
    have h1:=hs i j (bA hij) (by refine aM szz ?_;exact aO hj (aU lz))
    rw[kk i hi,kk j hj]at h1
    have h2:¬nF zs'[j].2.2<nF zs'[i].2.2:=by
     have:decide (nF zs'[j].2.2<nF zs'[i].2.2)=false:=h1
     with_reducible exact of_decide_eq_false this
    refine mD fun h3=>?_
    have e:=xJ _ _ (List.le_antisymm (List.not_lt.mp h2) (List.not_lt.mp h3))
    have nd':(zs'.map (·.2.2)).Nodup:=(pz.map _).nodup_iff.mpr (by refine aM z3 ?_;exact nd)
    refine List.pairwise_iff_getElem.mp nd' i j (by simpa using hi) (by simpa using hj) hij ?_
    simp only[List.getElem_map]
    exact e
   ·have:(arrOf st).map (·.2)=((zs'.map (·.2)).map (·.1)).toArray:=by
     apply Array.toList_inj.mp
     refine aM Array.toList_map (aM ez (aM bW (aM bW ?_)))
     rfl
    refine gU this ?_;exact p4
  by_cases h2:(its.map (·.1)).toArray.size<2
  ·refine aM (if_pos h2) (aM (if_pos h2) ?_)
   refine WC.seq (aE ?_)
   rw[StateT.run_pure]
   refine WC.seq (aE (fin (SortSt.mk' general' _ #[] 7 none) (Array.Perm.refl _) rfl fun i j hij hj=>?_))
   rw[szz]at hj
   refine aM (show i=j by lia) ?_;exact lB _
  ·refine aM (if_neg h2) (aM (if_neg h2) ?_)
   have yl:∀v∈ys.toList,t.TypeIs v "list":=fun v hv=>by
    obtain⟨i,hi,e⟩:=List.mem_iff_getElem.mp hv
    refine bG (al.at (i:=i) (d:=.list (jV (its[i]'(by rw[bM]at hi;lia)).2)) (by rw[cQ,bC (by rw[bM]at hi;lia)];rfl)) fun v' e1 iv=>?_
    rw[bC hi,e]at e1
    (refine Jt iv.of_list fun l o z z e_0=>?_;subst e_0;refine fun z eo hc z=>?_)
    refine aM (a9 e1) ?_
    exact⟨o,eo,hc⟩
   have:=zZ (prog:=prog) (w:=w) (A:=A) (E:=E) yl (by
    intro e;have:ys.toList.length=0:=by refine aM e ?_;rfl
    exact absurd (aU this) (Nat.not_le.mpr (aO (aO (aO (by decide) (kN h2)) (aU szL)) (aU len.symm)))) (Q:=fun k s'=>k=oneType'∧s'=t) ⟨rfl,rfl⟩
   refine WC.seq (bD this (fun k s' hk=>?_) fun z z e=>e)
   (refine gE hk fun e_0=>?_;obtain rfl:=e_0.symm;refine fun e_0=>?_;subst e_0)
   refine WC.seq (bD (O.runs (E:=E) (st:=SortSt.mk' oneType' (ys.zip (its.map fun p:aG×List fB=>p.1).toArray) #[] 7 none)
    (Q:=fun z st=>(arrOf st).Perm (ys.zip (its.map fun p:aG×List fB=>p.1).toArray)∧failedOf st=none∧nT (kO V (a::K::X) s'.heap) (arrOf st) (ys.zip (its.map fun p:aG×List fB=>p.1).toArray).size)
    ⟨Array.Perm.refl _,rfl,rfl,rfl⟩ (aD (aD (kN h2) (aU szL)) (aU szz.symm)) (aR (aU szz) hn) fun st a1 a2 a3=>⟨a1,a2,a3⟩) ?_ fun z z e=>e)
   rintro⟨⟨⟩,st⟩ s'' ⟨rfl,a1,a2,a3⟩
   exact fin st a1 a2 a3
end
theorem wY(a v:aG):argsOk "sorted" ⟨[a],[(aA "key",v)]⟩:=by kernel_rfl
theorem AA(a v:aG):argsOk "list.sort" ⟨[a],[(aA "key",v)]⟩:=by kernel_rfl
theorem Hj{M:Model}{i:String}{args:Args}{Q:Unit→aH→Prop}(hk:builtinKind i=none)(ha:argsOk i args)(q:Q () s):wpAny M A (checkBuiltinCall i args) Q E s:=by
 simp only[checkBuiltinCall,hk]
 cases hsig:pT i with
 |none=>exact aE q
 |some sig=>
  simp only[argsOk,hsig]at ha
  have h2:Bind.checkArgs i sig args=pure ():=ha
  simp only[h2]
  exact aE q
theorem EF{M:Model}{i n:String}{self:aG}{rest:List aG}{kw:List (Str×aG)}{Q:Unit→aH→Prop}(hk:builtinKind i=some .method)(hs:splitId i=some ("list",n))(hT:s.TypeIs self "list")(ha:argsOk i ⟨self::rest,kw⟩)(q:Q () s):
  wpAny M A (checkBuiltinCall i ⟨self::rest,kw⟩) Q E s:=by
 simp only[checkBuiltinCall,hk,hs]
 refine aB (qW (b:=true) hT (by rw[iY];kernel_rfl) ?_)
 simp only[Bool.not_true,jI,if_false]
 cases hsig:pT i with
 |none=>exact aE q
 |some sig=>
  simp only[argsOk,hsig]at ha
  have h2:Bind.checkArgs i sig ⟨self::rest,kw⟩=pure ():=ha
  simp only[h2]
  exact aE q
theorem Et{Q:aG→aH→Prop}{l:Addr}{n:Nat}(its:List (aG×List fB))(hn:its.length<64)(nd:(its.map (·.2)).Nodup)(R:dK A n)(hb:Bd V X s)(hl:s.heap.IsList l (its.map (·.1)).toArray)
  (pc:∀p∈its,Kx V prog w A.in1.in1 X s (call (.ref 57) [p.1]) (Dt (.list (jV p.2))))
  (q:∀(its':List (aG×List fB)) (s':aH) (r:Addr),its'.Perm its→its'.Pairwise (fun p q=>nF p.2<nF q.2)→Keeps V s s'→s.heap.get? r=none→s'.heap.PlainList r (its'.map (·.1)).toArray→Q (.ref r) s'):
  WC prog w A (call (.builtin "sorted") [.ref l] [(aA "key",.ref 57)]) Q E s:=by
 refine .call (pL plain_sorted entry_sorted (Hj kind_sorted (wY _ _) ?_))
 refine WC.seq (m:=checkCount "sorted" 1 1 _) (aE ?_)
 refine WC.seq (collect_list hl ?_ (by(refine aM bV ?_;rw[aQ]);exact bA (aO (by assumption) (by decide))))
 refine WC.seq (mO ?_ (by(refine aM bV ?_;rw[aQ]);exact bA (aO (by assumption) (by decide))))
 dsimp only
 generalize hH:((s.heap.push (seqObj "list" #[] 0)).update s.heap.objs.size (eO (·++(its.map (·.1)).toArray)))=H
 have zH:H.objs.size=s.heap.objs.size+1:=by(refine gU hH ?_;rw[Heap.size_update,size_push'])
 have up:∀b o,s.heap.get? b=some o→(H.push {cls:=.type "list",data:=.seq (its.map (·.1)).toArray}).get? b=some o:=fun b o e=>by
  refine aP _ ?_
  refine gU hH ?_
  exact(gA _ _ (fun q=>by rw[←q,dG]at e;nomatch e)).trans (aP _ e)
 have an:s.heap.get? H.objs.size=none:=gB (by refine aM zH ?_;exact gT _)
 have ho:(H.push {cls:=.type "list",data:=.seq (its.map (·.1)).toArray}).get? H.objs.size=some (seqObj "list" (its.map (·.1)).toArray 0):=aW _ rfl
 generalize H.objs.size=a at*
 generalize H.push {cls:=.type "list",data:=.seq (its.map (·.1)).toArray}=G at*
 have hT:({s with heap:=G}:aH).TypeIs (.ref a) "list":=⟨_,ho,rfl⟩
 refine .bind (.holding (.call (pL slot_list_sort.plain entry_list_sort (EF (n:="sort") (by decide+kernel) (by decide+kernel) hT (AA _ _) ?_))))
 refine A9 (s₀:=s) (a:=a) its hn nd (by have:=R.units;refine(?_:A.units+1+1<cLine);exact aR (cY (cY (aD (bN _ _) this) (bO _)) (bO _)) (by decide)) hb an (gW up) ho pc fun its' s' p1 p2 k hp=>?_
 exact .pure (q its' s' a p1 p2 k an hp)
theorem La(rs:List (List Nat)):∀t:List Nat,t≠[]→kd (t.headD 0)≠0→(∀c∈t,kd c=kd (t.headD 0))→t.foldl jG (rs,0)=(rs++[t],kd (t.headD 0)):=by
 intro t
 refine pV (P:=fun t=>t≠[]→kd (t.headD 0)≠0→(∀c∈t,kd c=kd (t.headD 0))→t.foldl jG (rs,0)=(rs++[t],kd (t.headD 0))) (fun h=>absurd rfl h) (fun l a ih z h0 h=>?_) t
 refine aM l7 ?_
 cases l with
 |nil=>
  have h0:kd a≠0:=h0
  refine(?_:jG (rs,0) a=(rs++[[a]],kd a))
  unfold jG
  exact aM (if_neg fun q=>h0 q.2) (aM (if_pos h0) rfl)
 |cons c l=>
  refine aM (ih (by simp) h0 fun x hx=>h x (aL _ hx)) ?_
  have ha:=h a (by simp)
  refine(?_:jG (rs++[c::l],kd c) a=_)
  unfold jG sP
  refine aM (if_pos ⟨by refine aM ha ?_;exact h0,ha⟩) ?_
  simp[ha]
theorem xY{r:fB}(ok:j8 [r]):(jD r).cps.toList≠[]∧kd ((jD r).cps.toList.headD 0)≠0∧(∀c∈(jD r).cps.toList,kd c=kd ((jD r).cps.toList.headD 0))∧nZ (jD r).cps.toList=r:=by
 have ne:=(xE _ ok r aF).1
 have h:=ok r aF
 have hd:(jD r).cps.toList.headD 0∈(jD r).cps.toList:=by
  refine oL (mT ne) fun c l e=>?_
  refine aM e ?_;exact aF
 cases r with
 |num n=>
  have e:(jD (.num n)).cps.toList=_:=kB n
  have k:∀c∈(jD (.num n)).cps.toList,kd c=1:=fun c hc=>by
   replace hc:=e▸hc
   (refine bG (n5 hc) fun ch hm e_0=>?_;subst e_0)
   have:=vP hm
   unfold kd
   exact aM (if_neg (by(exact fun q=>by rcases q with q|q|q|q<;>replace this:=q▸this<;>exact absurd this (by decide)))) (aM (if_pos this) rfl)
  have kh:=k _ hd
  refine⟨ne,by refine aM kh ?_;decide,fun c hc=>by exact aM kh (aM (k c hc) rfl),?_⟩
  unfold nZ
  (refine aM (if_pos kh) (aM e ?_);rw[KIN.val_back])
 |txt cs=>
  have k:∀c∈(jD (.txt cs)).cps.toList,kd c=2:=h.2
  have kh:=k _ hd
  refine⟨ne,by refine aM kh ?_;decide,fun c hc=>by exact aM kh (aM (k c hc) rfl),?_⟩
  unfold nZ
  refine aM (if_neg (by refine aM kh ?_;decide)) ?_
  rfl
theorem AZ:∀(rs:List fB) (acc:List (List Nat)) (k:Nat),j8 rs→((tR (rs.map fun r=>(jD r).cps.toList)).foldl jG (acc,k)).1=acc++rs.map fun r=>(jD r).cps.toList
 |[],acc,k,_=>by simp[tR]
 |r::rs,acc,k,ok=>by
  refine A7 (xY (r:=r) fun x hx=>by replace hx:=(LV hx);subst hx;exact ok _ aF) fun a b c z=>?_
  refine aM l7 (aM qF ?_)
  have e:jG (acc,k) 46=(acc,0):=by
   unfold jG
   have:kd 46=0:=by decide
   exact aM (if_neg fun q=>q.1 this) (aM (if_neg fun q=>q this) (aM this rfl))
  refine aM e (aM (La acc _ a b c) (aM (AZ rs _ _ fun x hx=>ok x (aC _ hx)) ?_))
  simp
theorem GX{rs:List fB}(ok:j8 rs):fE (keyOf rs).cps.toList=rs:=by
 have back:(rs.map fun r=>(jD r).cps.toList).map nZ=rs:=by
  refine aM bW ?_
  refine(cF (g:=id) fun r hr=>?_).trans (oB _)
  exact(xY (r:=r) fun x hx=>by replace hx:=(LV hx);subst hx;exact ok _ hr).2.2.2
 unfold fE i0
 cases hrs:rs with
 |nil=>rfl
 |cons r l=>
  refine gU hrs ?_
  have h:=AZ rs [] 0 ok
  rw[←vI rs (by refine aM hrs ?_;simp),qF]at h
  (refine aM h ?_;rewrite[qD];exact aM back rfl)
theorem GZ{cs:List Nat}(hz:cs.length≤20):∀r∈fE cs,(jD r).cps.toList.length≤20:=fun r hr=>by
 refine bG (n5 hr) fun t ht e=>?_
 refine jM ((oN cs).1 t ht) fun ok z hl=>?_
 unfold nZ at e
 split at e
 ·rename_i k
  subst e
  (refine aM (show(jD (.num (gX t))).cps.toList=_ from kB _) ?_;rw[aQ])
  have:gX t<10^20:=aO (Eg t fun c hc=>by
   have:=ok.all c hc
   rw[k]at this
   unfold kd at this
   split at this
   ·omega
   ·split at this<;>lia) (Nat.pow_le_pow_right (by decide) (aD hl hz))
  exact(Nat.length_toDigits_le_iff (b:=10) (by decide) (by decide)).mpr this
 ·subst e
  exact aD hl hz
theorem JE{cs:List Nat}(hz:cs.length≤20)(ha:∀c∈cs,c<128):(keyOf (fE cs)).cps.toList.length≤600∧∀c∈(keyOf (fE cs)).cps.toList,c<128:=by
 refine jM (sJ hz ha) fun z l20 okr=>?_
 have rl:=GZ hz
 generalize fE cs=rs at*
 have one:∀r∈rs,∀c∈(jD r).cps.toList,c<128:=fun r hr c hc=>by
  cases r with
  |num k=>
   replace hc:=(show(jD (.num k)).cps.toList=_ from kB k)▸hc
   (refine bG (n5 hc) fun ch hm e_0=>?_;subst e_0)
   have:=vP hm;exact aR this.2 (by decide)
  |txt cs=>exact okr _ hr c hc
 have dl:∀l:List fB,(∀r∈l,(jD r).cps.toList.length≤20)→(tR (l.map fun r=>(jD r).cps.toList)).length≤21*l.length:=fun l=>by
  induction l with
  |nil=>exact fun z=>bO _
  |cons r l ih=>
   intro h
   have h1:=h r aF
   have h2:=ih fun x hx=>h x (aC _ hx)
   refine(?_:((46::(jD r).cps.toList)++tR (l.map fun r=>(jD r).cps.toList)).length≤_)
   refine aM b4 (aM d6 (aM d6 ?_))
   exact aD (cY (jE h1) h2) (aU (oS 21 _))
 cases hrs:rs with
 |nil=>exact⟨by decide,fun c hc=>by cases hc⟩
 |cons r l=>
  refine gU hrs ?_
  have e:=vI rs (by refine aM hrs ?_;simp)
  have d:=dl rs rl
  rw[←e,d6]at d
  refine⟨by lia,fun c hc=>?_⟩
  have hm:c∈tR (rs.map fun r=>(jD r).cps.toList):=by refine gU e ?_;exact aC _ hc
  refine bG (List.mem_flatMap.mp hm) fun t ht hc=>?_
  (refine bG (n5 ht) fun r hr e_0=>?_;subst e_0)
  rcases nR hc with rfl|hc
  ·decide
  ·exact one r hr c hc
section
variable {b:Bk}
theorem xO{pos:Pos}{id:String}{e:Expr}{rest:List Expr}{kws:List Keyword}{Q:aG→aH→Prop}
  (h:wpAny (model prog w) A (spliced (backTo pos (starEach (e::rest) env))) (fun vs s₁=>wpAny (model prog w) A (evalAll ((backToKw pos (keywordEach kws env)).map (·.2)))
   (fun kvs s₂=>WC prog w A (call (.builtin id) vs (((backToKw pos (keywordEach kws env)).filterMap (·.1)).zip kvs)) Q E s₂) E s₁) E s)
  (he:autoParam (backTo pos (starEach (e::rest) env)=(false,eval e env)::backTo pos (starEach rest env)) rf)
  (hplain:autoParam ((backTo pos (starEach (e::rest) env)).any (·.1)=false) rf)
  (hall:autoParam ((backToKw pos (keywordEach kws env)).all (·.1.isSome)=true) rf)
  (hkw:autoParam ((backToKw pos (keywordEach kws env)).any (·.1.isNone)=false) rf):
  WC prog w A (callWith pos (.builtin id) [] (backTo pos (starEach (e::rest) env)) (backToKw pos (keywordEach kws env))) Q E s:=by
 rw[he]at h hplain⊢
 refine .seq (a8 (evalArgs_kwB hall (bD h (fun vs s₁ h₁=>bD h₁ (fun kvs s₂ h₂=>show WC prog w A _ Q E s₂ from .standAt ?_) fun z z x=>x) fun z z x=>x)))
 refine aM hplain (aM hkw ?_)
 refine WC.seq (m:=keeperOf (.builtin id)) (aE ?_)
 exact .bind (h₂.monoQ fun r s₂ hr=>.any (aB (a8 (nI (aE hr)))))
theorem Bo(hh:A.handled=none)(kw:KW V (kz w) mg mb X s.heap)(B:Ks prog w V X s.heap b)(hz:b.sh.length≤1000):Pu V prog w A X s (call (.type "list") [.ref b.a]) (Dt (.list (b.sh.map fun z=>iH z.key))):=.mk fun Y u hu hb Q E q=>by
 have B':=B.nx hu.nx
 refine oX B'.bk fun es ep oa j pr j=>?_
 have zl:es.size=b.sh.length:=by have:=pr.length;rw[bM]at this;refine aM this ?_;unfold Bk.kvs;rw[aQ]
 refine F4 hh ((kw.nx hu.nx).k.keeps fun j j e=>a6 _ e) (a6 _ oa) (B'.dc.at fun o e=>a6 _ e) B'.ns (aD (aU zl) hz) fun h' tk acc c k e hacc=>?_
 refine q _ _ (lU k) (Is.list hb.fresh e rfl rfl ?_)
 have:∀(vs:List aG) (zs:List zI),vs.length=zs.length→(∀(i:Nat) (v:aG),vs[i]?=some v→∃(z:zI) (t:Tok),zs[i]?=some z∧v=Value.str z.key t)→cA V Y h' vs (zs.map fun z=>iH z.key):=by
  intro vs
  induction vs with
  |nil=>intro zs h _;cases zs with|nil=>exact .nil|cons _ _=>cases h
  |cons v vs ih=>
   intro zs h hv
   cases zs with
   |nil=>cases h
   |cons z zs=>
    (refine fO (hv 0 v rfl) fun z' t e1 e_0=>?_;subst e_0)
    injection e1 with e1
    subst e1
    exact .cons (.str _ _) (ih zs (by simpa using h) fun i v e=>hv (i+1) v (e))
 refine this _ _ (aM bM (aM hacc.1 (aM zl rfl))) fun i v hv=>?_
 (refine bG (hacc.2 i v (by rw[←Array.getElem?_toList];exact hv)) fun e he e_0=>?_;subst e_0)
 refine pG (BN (h:=h') (a:=0) (d:=0) (fac:=.none) pr he) fun k' t vv hkv e1 e2=>?_
 unfold Bk.kvs at hkv
 rw[cQ,oC]at hkv
 obtain⟨z,hz',hkv⟩:=hkv
 injection hkv with ek ev
 subst ek
 exact⟨z,t,hz',e1⟩
theorem FI{o i:Expr}{pos:Pos}{z:zI}(kw:KW V (kz w) mg mb X s.heap)(B:Ks prog w V X s.heap b)(hz:z∈b.sh)(ho:Pu V prog w A X s (eval o env) (Ex (.ref b.a)))(hi:Pu V prog w A X s (eval i env) (Dt (.str z.key)))
  (hs:autoParam (∀t,subscripted i false (.ref b.a) (.str z.key t)=operate [.ref b.a,.str z.key t] (getItem (.ref b.a) (.str z.key t))) rf):Pu V prog w A X s (eval (.Subscript o i pos) env) (Dt (g9 z.pl)):=
 n4 ho hi fun Y u x y hu hb px py=>.mk fun Z v hv hbv Q E q=>by
  cases (px:x= .ref b.a)
  (refine bK (Is.of_str py) fun t e_0=>?_;subst e_0)
  have nx:=hu.nx.trans hv.nx
  have B':=B.nx nx
  have kin:(kz w).In v.heap:=(kw.nx nx).k.keeps fun j j e=>a6 _ e
  refine oX B'.bk fun es ep oa r1 r2 nd=>?_
  refine fO B'.dc fun de dn hde hfz=>?_
  have I:InstAt v.heap b.a (fY b.d es ep (.type "list")) 126 (some (dictOf de dn)):=⟨a6 _ oa,rfl,rfl,a6 _ hde⟩
  have hm:(z.key,cR z.l)∈b.kvs:=List.mem_map.mpr ⟨z,hz,rfl⟩
  have va:=tA nd hm
  refine xQ kin I (hs t) (yQ kin ⟨es,ep,a6 _ oa,r1,r2,nd⟩ (B'.dc.at fun o e=>a6 _ e) va ?_)
  exact q _ _ (d9 v _) ((B'.sh z hz).keep fun j j j e=>e)
end
noncomputable def Ij:Scope:={kind:=b6,names:=[(aA ".0",NameKind.local),(aA "book",dL),(aA "sorted",aZ),(aA "list",aZ),(aA "_comparable_version",aZ)],isGenerator:=false,isCoroutine:=false}
noncomputable def LP:Scope:={kind:=b6,names:=[(aA ".0",NameKind.local),(aA "key",NameKind.local),(aA "book",NameKind.free)],isGenerator:=false,isCoroutine:=false}
noncomputable def zM(shs:List hU)(rs:List fB):List Int:=((shs.find? fun sh=>decide (sh.1=rs)).map (·.2)).getD []
theorem Bz{shs:List hU}(n:(shs.map (·.1)).Nodup){sh:hU}(h:sh∈shs):zM shs sh.1=sh.2:=by
 unfold zM
 induction shs with
 |nil=>cases h
 |cons a l ih=>
  rw[bT,gK]at n
  rw[List.find?_cons]
  rcases nR h with rfl|h
  ·simp
  ·refine aM (decide_eq_false fun e:a.1=sh.1=>n.1 (e▸bQ h)) ?_
   exact ih n.2 h
structure IA(b:Bk)(shs:List hU):Prop where
 v:b.v=shs.map fun sh=>(keyOf sh.1,sh.2)
 nd:(shs.map (·.1)).Nodup
 n:shs.length<64
 ok:∀sh∈shs,j8 sh.1∧(keyOf sh.1).cps.toList.length≤600∧∀c∈(keyOf sh.1).cps.toList,c<128
section
variable {b:Bk} {shs:List hU} {L₀ c:Addr}
theorem FS{p1 p2 p3 p4 p5 p6 p7 p8 p9 pa pb pc:Pos}(kw:KW V (kz w) mg mb X s.heap)(R:dK A (n+5))(hfr:A.frames=some fr)(fv:Cu V fr)(B:Ks prog w V X s.heap b)(O:IA b shs)
  (hn:fR V (compEnvC Ij (bJ (some (aA "book")) c []) L (cJ L₀)) s.heap (aA "book") (.ref b.a)):
  Kx V prog w A X s (eval (.ListComp (.Subscript (.Name (aA "book") p1) (.Name (aA "key") p2) p3) [⟨.Name (aA "key") p4,.Call (.Name (aA "sorted") p5) [.Call (.Name (aA "list") p6) [.Name (aA "book") p7] [] p8] [⟨some (aA "key"),.Name (aA "_comparable_version") p9,pa⟩] pb,[],0⟩] LP pc)
   (compEnvC Ij (bJ (some (aA "book")) c []) L (cJ L₀))) (Dt (.list ((rF shs).map g9))):=by
 refine .mk fun Z v hu hb Q E q=>?_
 have kwv:=kw.nx hu.nx
 have Bv:=B.nx hu.nx
 have hnv:=hn.keep (dA hu.keeps)
 have zsh:b.sh.length=shs.length:=by have:=congrArg List.length O.v;unfold Bk.v at this;simpa using this
 have keys:(b.sh.map fun z=>iH z.key)=(shs.map (·.1)).map fun rs=>iH (keyOf rs):=by
  have:=congrArg (List.map fun p:Str×List Int=>iH p.1) O.v
  unfold Bk.v at this
  rw[bW,bW]at this
  refine aM bW ?_
  exact this
 rw[eval_ListComp]
 refine rC (use:=none) (cl:=[(aA "book",c)]) rfl (fun j=>rfl) rfl rfl (by decide+kernel) ?_
 refine .seq ((kF (v:=.builtin "sorted") kwv).run hb fun f v₁ k₁ hf=>?_)
 cases (hf:f= .builtin "sorted")
 have bd₁:=hb.keeps k₁
 have w₁:gM V Z v Z v₁:=.of_keeps k₁
 have kw₁:=kwv.nx w₁.nx
 refine xO ((aT (P:=Dt (.list (b.sh.map fun z=>iH z.key))) (f5 (kF (v:=.type "list") kw₁) (aT (eQ (hnv.keep (dA k₁))) bF) fun Y' u' vs hu' hbu' hvs=>?_) bF).run bd₁ fun vs v₂ k₂ hvs=>?_)
 ·(refine bG (mN hvs) fun x1 e_0=>?_;subst e_0;refine fun hx1=>?_)
  cases (hx1:x1= .ref b.a)
  exact Bo R.handled (kw₁.nx hu'.nx) ((Bv.nx w₁.nx).nx hu'.nx) (by have:=O.n;exact bA (cK (aR (aU zsh) this) (by decide)))
 ·(refine bG (mN hvs) fun x1 e_0=>?_;subst e_0;refine fun hx1=>?_)
  have hx1:Is V Z v₂.heap x1 (.list (b.sh.map fun z=>iH z.key)):=hx1
  rw[keys]at hx1
  have w₂:gM V Z v₁ Z v₂:=.of_keeps k₂
  have kw₂:=kw₁.nx w₂.nx
  refine kws_cons ((kH (v:=.ref 57) kw₂).run (bd₁.keeps k₂) fun g v₃ k₃ hg=>kws_nil ?_)
  cases (hg:g= .ref 57)
  have kv3:=aN k₁ (aN k₂ k₃)
  have w₃:gM V Z v Z v₃:=.of_keeps kv3
  have hx3:=hx1.keep (a7 k₃)
  have bd₃:=hb.keeps kv3
  (refine oX hx3.of_list' fun l vals e_0=>?_;subst e_0;refine fun hlV hl al=>?_)
  have lvals:vals.length=shs.length:=by have:=al.length;simpa using this
  have kw₃:=kwv.nx w₃.nx
  obtain⟨its,hits⟩:∃its,its=vals.zip (shs.map (·.1)):=⟨_,rfl⟩
  have i1:its.map (·.1)=vals:=by refine aM hits ?_;exact List.map_fst_zip (by simp[lvals])
  have i2:its.map (·.2)=shs.map (·.1):=by refine aM hits ?_;exact List.map_snd_zip (by simp[lvals])
  have iat:∀p∈its,p.2∈shs.map (·.1)∧∃t,p.1= .str (keyOf p.2) t:=fun p hp=>by
   refine⟨by refine gU i2 ?_;exact bQ hp,?_⟩
   replace hp:=hits▸hp
   obtain⟨i,hi,e⟩:=List.mem_iff_getElem.mp hp
   rw[List.getElem_zip]at e
   rw[List.length_zip,Nat.lt_min]at hi
   refine bG (al.at (i:=i) (d:=.str (keyOf (shs.map (·.1))[i])) (by rw[cQ,bC hi.2];rfl)) fun v' e1 iv=>?_
   rw[bC hi.1]at e1
   subst e
   refine bK (Is.of_str iv) fun t e2=>?_
   exact⟨t,(a9 e1).trans e2⟩
  have pok:∀p∈its,j8 p.2∧(keyOf p.2).cps.toList.length≤600∧∀c∈(keyOf p.2).cps.toList,c<128:=fun p hp=>by
   refine bG (n5 (iat p hp).1) fun sh hs e=>?_
   refine gU e ?_;exact O.ok sh hs
  refine Et (X:=Z) its (by have:=congrArg List.length i1;rw[aQ]at this;have:=O.n;lia) (by refine aM i2 ?_;exact O.nd) R bd₃ (by refine aM i1 ?_;exact hl) (fun p hp=>?_) fun its' s' r pm pw k₄ rn hr=>?_
  ·refine jM (pok p hp) fun ok z1 z2=>?_
   obtain⟨_,t,e⟩:=iat p hp
   refine aM e ?_
   have:=Jh (V:=V) (prog:=prog) (s:=v₃) (X:=Z) (A:=A.in1.in1) kw₃ (n:=n+1) (dK.in1 (dK.in1 (n:=n+3+1) R)) (hfr) fv (Is.str (keyOf p.2) t) z2 (by refine(?_:(keyOf p.2).cps.size≤600);refine gU bM ?_;exact z1)
   rwa[GX ok]at this
  ·have rV:=bd₃.two.ne rn
   have rZ:r∉Z:=fun q=>by refine bK (bd₃.al r q) fun o e=>?_;replace e:=rn▸e;cases e
   have kv4:=aN kv3 k₄
   have w₄:gM V Z v Z s':=.of_keeps kv4
   have bd₄:=hb.keeps kv4
   have kw₄:=kwv.nx w₄.nx
   have B₄:=Bv.nx w₄.nx
   have it':∀p∈its',p.2∈shs.map (·.1)∧∃t,p.1= .str (keyOf p.2) t:=fun p hp=>iat p (pm.mem_iff.mp hp)
   have hx4:Is V Z s'.heap (.ref r) (.list (its'.map fun p=>iH (keyOf p.2))):=by
    refine bK hr fun nn e=>?_
    refine Is.list (fun q=>(eX q).elim rV rZ) e rfl rfl ?_
    have:∀l:List (aG×List fB),(∀p∈l,∃t,p.1= .str (keyOf p.2) t)→cA V Z s'.heap (l.map (·.1)) (l.map fun p=>iH (keyOf p.2)):=fun l=>by
     induction l with
     |nil=>exact fun j=>.nil
     |cons p l ih=>
      intro h
      refine bK (h p aF) fun t e=>?_
      refine aM bT (aM bT (aM e ?_))
      exact .cons (.str _ _) (ih fun x hx=>h x (aC _ hx))
    exact this its' fun p hp=>(it' p hp).2
   obtain⟨ds,hds⟩:∃ds,ds=its'.map fun p=>iH (keyOf p.2):=⟨_,rfl⟩
   rw[←hds]at hx4
   have perm:(its'.map fun p=>(p.2,zM shs p.2)).Perm shs:=by
    have e:shs=its.map fun p=>(p.2,zM shs p.2):=by
     have:(its.map (·.2)).map (fun rs=>(rs,zM shs rs))=(shs.map (·.1)).map fun rs=>(rs,zM shs rs):=aM i2 rfl
     rw[bW,bW]at this
     refine b7 (Eq.trans this ?_)
     refine(cF (g:=id) fun sh hs=>?_).trans (oB _)
     refine(?_:(sh.1,zM shs sh.1)=sh)
     exact aM (Bz O.nd hs) rfl
    have:=pm.map fun p=>(p.2,zM shs p.2)
    rwa[←e]at this
   have ord:=(Gi perm (by rw[List.pairwise_map];exact pw)).2
   rw[bW]at ord
   have zi:its'.length≤1000:=by have:=pm.length_eq;have:=congrArg List.length i1;rw[aQ]at this;have:=O.n;lia
   refine bD (BB (V:=V) (elt:=.Subscript (.Name (aA "book") p1) (.Name (aA "key") p2) p3) (target:=.Name (aA "key") p4) (ifs:=[]) (pos:=pc)
    (iter:=.Call (.Name (aA "sorted") p5) [.Call (.Name (aA "list") p6) [.Name (aA "book") p7] [] p8] [⟨some (aA "key"),.Name (aA "_comparable_version") p9,pa⟩] pb) (scope:=LP) (cl:=[(aA "book",c)]) (env:=compEnvC Ij (bJ (some (aA "book")) c []) L (cJ L₀))
    (RR:=fun acc C r s'=>∃f,r= .ok f∧compPost (model prog w) A E none Q acc C r s') (own:=none) (n:=ds.length) (f:=fun i=>ds[i]?.getD .none) (cls:="list_iterator") (p:=fun j=>true) (g:=fun i=>g9 (zM shs (its'[i]?.getD (.none,[])).2)) (P:=Dt (.list ds)) (B':=B1 V (aA "key"))
    bd₄ hx4 (hW R.handled) (fX (by(refine aM hds ?_;rw[aQ]);exact aD (by assumption) (by decide))) (fun j=>rfl) (fun j=>rfl) ?_ (fun j j j j j j j j j j j=>eU) ?_ ?_)
    (fun it s₂ h₂=>bD h₂ (fun acc s₃ h₃=>bD h₃ (fun cenv s₄ h₄=>CC.any h₄) fun j j e=>e) fun j j e=>e) fun j j e=>e
   ·intro I fp wr P' St L' c' W hLc hL hfV hc hal hwr hcls hF
    exact vZ W hal rfl (.inl rfl) (fun d hd=>by cases hd) (fun b hb=>by
     have:b=L':=by simpa[compEnvC]using hb
     exact this▸hL) hfV
   ·(intro L' c' P' i Y' v' hF hi _ hw hbd q_1;refine bG q_1 fun val hp hbn=>?_)
    have hi':i<its'.length:=by rw[hds,aQ]at hi;exact hi
    have hval:=(hF i val hp).2.nx hw.nx
    rw[hds,j6 (fun p:aG×List fB=>iH (keyOf p.2)) (.none,[]) _ _ hi']at hval
    have hm:=it' _ (fH (dY,([]:List fB)) its' hi')
    generalize (its'[i]?.getD (.none,[])).2=rs at hval hm
    (refine bG (n5 hm.1) fun sh hs e_0=>?_;subst e_0)
    refine aM (Bz O.nd hs) ?_
    have hzv:(keyOf sh.1,sh.2)∈b.v:=by refine aM O.v ?_;exact List.mem_map.mpr ⟨sh,hs,rfl⟩
    refine bG (n5 hzv) fun z hz ez=>?_
    injection ez with ez1 ez2
    refine gU ez2 ?_
    exact FI (kw₄.nx hw.nx) (B₄.nx hw.nx) hz (eQ (hnv.inn (c:=c) (dA (aN kv4 hw.keeps)) rfl rfl rfl rfl)) (aX hbn.name (by refine aM ez1 ?_;exact hval))
   ·intro D L' s'' k hL hm hpl hI
    refine⟨.next,rfl,oV bd₄.two k hL hm (d:=.list ((rF shs).map g9)) ?_ fun v' s3 k' hd=>q v' s3 (aN kv4 k') hd⟩
    rw[hds,aQ,qN (fun p:aG×List fB=>g9 (zM shs p.2)) (.none,[]) its']at hI
    refine aM ord (aM bW ?_)
    exact hI
end
theorem JW{elt target iter:Expr}{scope:Scope}{pos:Pos}{cenv:Env}{I D:Addr}{M sup X:List Addr}{J B:Nat→Heap→Prop}{F:Heap→Prop}{n:Nat}{s₀ s₁:aH}{R:iR→aH→Prop}{g:Nat→aY}
  (L:BY V prog w A s₀ target cenv I M sup J B F n)(hD:D∉sup)(hDV:D∉V)(hfr:∀b∈D::M,s₀.heap.get? b=none)(hX:Bd V X s₀)(k₁:Keeps V s₀ s₁)(hJ:J 0 s₁.heap)(hacc:s₁.heap.PlainList D #[])(hn:n≤1000)
  (helt:∀i u,i<n→gM V X s₀ (D::M++X) u→Bd V (D::M++X) u→J (i+1) u.heap→B i u.heap→Kx V prog w A (D::M++X) u (eval elt cenv) (Dt (g i)))
  (hR:∀s' ys,Keeps V s₀ s'→s'.heap.PlainList D ys→cA V (D::M++X) s'.heap ys.toList ((bI n).map g)→F s'.heap→R (.ok .next) s'):
  CC prog w A (.compLoop (.ListComp elt [⟨target,iter,[],0⟩] scope pos) 0 (.ref I) (.ref D) cenv) R s₁:=by
 have hDM:D∉M:=fun h=>hD (L.sub D h)
 have ini:∀b∈M,b∈D::M:=fun b hb=>aC _ hb
 have wle:∀{s:aH},Keeps V s₀ s→gM V X s₀ (D::M++X) s:=fun k=>⟨k,fun a ha=>aJ _ ha,fun a ha z=>(eX ha).elim (fun h=>.inr (hfr a h)) .inl⟩
 have bd:∀{i:Nat} {s:aH} {ys:Array aG},Keeps V s₀ s→J i s.heap→s.heap.PlainList D ys→Bd V (D::M++X) s:=fun k hj hp=>⟨fun a ha=>by
  rcases eX ha with h|h
  ·rcases r4 h with rfl|h
   ·refine bK hp fun z e=>?_;exact⟨_,e⟩
   ·exact L.al _ _ hj a h
  ·exact(hX.keeps k).al a h,gL k hX.two⟩
 have mux:∀{a b:aH},Mu V M a b→Nx V (D::M++X) a (D::M++X) b:=fun h=>h.nx fun b hb=>aL _ (ini b hb)
 refine wU n (fun i s=>Keeps V s₀ s∧J i s.heap∧∃ys,s.heap.PlainList D ys∧cA V (D::M++X) s.heap ys.toList ((bI i).map g)) ?_ ?_ ⟨k₁,hJ,#[],hacc,.nil⟩ (i5 rfl rfl)
 ·rintro i s hi ⟨ks,hj,ys,hp,ha⟩ E'
  refine(WC.any (L.next i s (fun z s₃=>WC prog w A (eval elt cenv) (fun x s₄=>WC prog w A (call (.builtin "list.append") [.ref D,x]) (fun z s₅=>Keeps V s₀ s₅∧J (i+1) s₅.heap∧∃ys,s₅.heap.PlainList D ys∧cA V (D::M++X) s₅.heap ys.toList ((bI (i+1)).map g)) E' s₄) E' s₃) E' hi ks hj fun s₃ m₃ hj₃ hb₃=>?_)).monoQ fun r s₁ h₁=>?_
  ·have k₃:Keeps V s₀ s₃:=m₃.keeps ks fun b hb=>hfr b (ini b hb)
   have hp₃:s₃.heap.PlainList D ys:=hp.at fun o e=>m₃.get hDM hDV e
   have ha₃:=ha.nx (mux m₃)
   have bd₃:=bd k₃ hj₃ hp₃
   refine(helt i s₃ hi (wle k₃) bd₃ hj₃ hb₃).go _ s₃ (.refl _ _) bd₃ _ _ fun x s₄ k₄ hx=>.any (lH (hp₃.at fun o e=>a7 k₄ D o hDV e) (fun h' hp' hs=>?_) ?_)
   ·have mu:Mu V [D] s₄ {s₄ with heap:=h'}:=iK hDV hs
    refine⟨mu.keeps (aN k₃ k₄) (fun b hb=>hfr b (by simp at hb;simp[hb])),L.jf _ _ _ (L.jf _ _ _ hj₃ (dA k₄).sk) (mu.k.sk fun b hb hm=>hD (by replace hm:=kQ hm;exact hm▸hb)),_,hp',?_⟩
    refine aM iA (aM bB ?_)
    simpa using ((ha₃.keep (a7 k₄)).append (cA.cons hx .nil)).nx (mu.nx fun a h=>by simp at h;simp[h])
   ·have:=ha.length
    rw[bM,aQ,j0]at this
    refine aM this (aM bV ?_);exact bA (cK (aO hi hn) (by decide))
  ·obtain⟨v,rfl,h₁⟩:=h₁
   exact⟨v,rfl,(WC.any h₁).monoQ fun z s₂ h₂=>.any h₂⟩
 ·rintro s ⟨ks,hj,ys,hp,ha⟩ E'
  exact .any (L.stop s _ _ hj fun s₃ m₃ f₃=>⟨rfl,hR s₃ ys (m₃.keeps ks fun b hb=>hfr b (ini b hb)) (hp.at fun o e=>m₃.get hDM hDV e) (ha.nx (mux m₃)) f₃⟩)
theorem zJ{elt iter:Expr}{x:Str}{px:Pos}{scope:Scope}{pos:Pos}{env:Env}{I:Addr}{fp wr:List Addr}{n:Nat}{St:Nat→Heap→Prop}{P:Nat→aG→Prop}
  {X:List Addr}{s₀ u:aH}{g:Nat→aY}{RR:aG→Addr→iR→aH→Prop}(W:Walks prog w A I fp wr n P St)(hal:∀i h,St i h→∀b∈wr,∃o,h.get? b=some o)(k₀:Keeps V s₀ u)(hX:Bd V X s₀)(hst:St 0 u.heap)
  (hfp:∀b∈fp,∃o,u.heap.get? b=some o)(hfV:∀b∈fp,b∉V)(hwr:∀b∈wr,s₀.heap.get? b=none)(hn:n≤1000)
  (hlay:∀h,pushCells h scope.names=qO (some x) h)(hcl:∀n,cellsFrom n scope.names []=bJ (some x) n [])
  (hk:scope.kind= .function)(hbind:∀L c,qL (compEnvC scope (bJ (some x) c []) L env) (some c) x)
  (helt:∀L c i Y v val,i<n→P i val→gM V X s₀ Y v→Bd V Y v→fR V (compEnvC scope (bJ (some x) c []) L env) v.heap x val→Kx V prog w A Y v (eval elt (compEnvC scope (bJ (some x) c []) L env)) (Dt (g i)))
  (hR:∀D L s',Keeps V s₀ s'→s₀.heap.get? L=none→(∃m,s'.heap.Ns L m)→Is V (L::X) s'.heap (.ref D) (.list ((bI n).map g))→RR (.ref D) L (.ok .next) s'):
  wpAny (model prog w) A (newList []) (fun acc s₃=>wpAny (model prog w) A (newFunctionEnv scope env.globals [] [] env.qual none .none (some env)) (fun cenv s₄=>
   CC prog w A (.compStart (.ListComp elt [⟨.Name x px,iter,[],0⟩] scope pos) 0 (.ref I) acc {cenv with scope:=relabel scope env}) (RR acc cenv.locals) s₄) E s₃) E u:=by
 refine c8 (rO hlay hcl ?_)
 generalize hH:u.heap.push {cls:=.type "list",data:=.seq ([]:List aG).toArray}=H
 have hHs:H.objs.size=u.heap.objs.size+1:=by(refine gU hH ?_;rw[fZ])
 dsimp only
 generalize hD:u.heap.objs.size=D at*
 generalize hLe:H.objs.size=L at*
 have hLD:L=D+1:=hHs
 refine gE (AT (own:=some x) (h:=H) (o₁:=({cls:=.type "dict",data:=.dict #[]}:Obj)) rfl) fun l1 l2=>?_
 rw[hLe]at l1 l2
 refine gE (l2 (L+1) rfl) fun l2 z=>?_
 generalize hG:qO (some x) (H.push {cls:=.type "dict",data:=.dict #[]})=G at*
 have up:∀b o,u.heap.get? b=some o→G.get? b=some o:=fun b o e=>hG▸o4 _ _ _ _ (aP _ (hH▸aP _ e))
 have hacc:G.PlainList D #[]:=⟨0,hG▸o4 _ _ _ _ (aP _ (by refine gU hH (gU hD ?_);exact aW _ rfl))⟩
 have hLn:u.heap.get? L=none:=gB (by refine aM hD ?_;exact aD (bN _ _) (aU hLD.symm))
 have hcn:u.heap.get? (L+1)=none:=gB (by refine aM hD ?_;exact aD (aD (bN _ _) (aU hLD.symm)) (bN _ _))
 have hDn:u.heap.get? D=none:=gB (by refine aM hD ?_;exact bO _)
 have nofp:∀b,u.heap.get? b=none→b∉fp:=fun b hb hm=>by refine bK (hfp b hm) fun o e=>?_;replace e:=hb▸e;cases e
 have no0:∀b,u.heap.get? b=none→s₀.heap.get? b=none:=fun b hb=>fQ k₀ hX.two hb
 have two:=gL k₀ hX.two
 have hDL:D≠L:=by refine aM hLD ?_;exact eZ (cI D)
 have hDL1:D≠L+1:=by refine aM hLD ?_;exact eZ (Nat.lt_succ_of_lt (cI D))
 have frm:qY (compEnvC scope (bJ (some x) (L+1) []) L env) (some (L+1))=[L,L+1]:=rfl
 have Lp:=vZ (V:=V) (cenv:=compEnvC scope (bJ (some x) (L+1) []) L env) (own:=some (L+1)) (x:=x) (px:=px) (s₀:=s₀) W hal (by simp[compEnvC,relabel,hk]) (hbind L (L+1)) (fun d hd=>by obtain rfl:=a9 hd;exact eH (eZ (cI L))) (fun b hb=>by
  replace hb:=m2 hb
  rcases(eK b7 b7) hb with rfl|rfl
  ·exact nofp _ hLn
  ·exact nofp _ hcn) hfV
 rw[frm]at Lp
 have hns:G.Ns L fun z=>none:=⟨_,#[],0,l1,rfl,fun z he=>by simp at he,fun z=>rfl⟩
 have hst':St 0 G:=W.frame 0 _ _ hst fun b z o e=>up b o e
 refine vR (i5 rfl rfl) ?_ fun E'=>W.self 0 {u with heap:=G} _ _ hst' ⟨rfl,rfl⟩
 refine(?_:CC prog w A (.compLoop _ 0 (.ref I) (.ref D) (compEnvC scope (bJ (some x) (L+1) []) L env)) _ _)
 refine JW (X:=X) (g:=g) Lp (fun hm=>?_) (two.ne hDn) (fun b hb=>?_) hX (aN k₀ (gW up)) ⟨hst',⟨_,hns⟩,fun c hc=>by obtain rfl:=a9 hc;exact⟨_,l2⟩,two.ne2 hLn,fun c hc=>by obtain rfl:=a9 hc;exact two.ne hcn⟩ hacc hn (fun i v hi hw hb z hB=>?_) fun s' ys ks hp ha hf=>?_
 ·simp only[b8,bL,bR,or_false]at hm
  rcases hm with hm|hm|hm
  ·exact nofp D hDn hm
  ·exact hDL hm
  ·exact hDL1 hm
 ·simp only[b8,bL,bR,or_false]at hb
  rcases(eK b7 (eK id (eK b7 b7))) hb with rfl|hb|rfl|rfl
  ·exact no0 _ hDn
  ·exact hwr b hb
  ·exact no0 _ hLn
  ·exact no0 _ hcn
 ·refine bG hB fun val hp hbn=>?_
  exact helt L (L+1) i _ v val hi hp hw hb hbn.name
 ·have hcf:CF V (compEnvC scope (bJ (some x) (L+1) []) L env) (some (L+1)) s'.heap:=hf
  refine hR D L s' ks (no0 _ hLn) hcf.ns ?_
  have:cA V (L::X) s'.heap ys.toList ((bI n).map g):=cA.less (X:=L::X) ha fun a h=>by
   rcases r4 h with rfl|h
   ·simp
   ·simp[h]
  refine bK hp fun nn ho=>?_
  refine Is.list (fun hm=>?_) ho rfl rfl this
  rcases eX hm with hm|hm
  ·exact two.ne hDn hm
  rcases nR hm with hm|hm
  ·exact hDL hm
  ·refine bK (hX.al D hm) fun o e=>?_
   replace e:=(no0 D hDn)▸e;cases e
section
variable {S:iD} {kept:List (Nat×List hU)}
theorem GP(kw:KW V (kz w) mg mb X s.heap)(R:dK A (n+5))(hfr:A.frames=some fr)(fv:Cu V fr)(F:fU V u (cJ L) X s m cm)(I:Kq prog w V X s.heap S)(hc:cm (aA "index")=some (.ref S.a))(z1:S.bks.length=kept.length)(z2:kept.length≤1000)
  (hO:∀(i:Nat) b kp,S.bks[i]?=some b→kept[i]?=some kp→IA b kp.2)
  (q:∀v s',fU V u (cJ L) X s' (fun z=>if z=aA "order" then some v else m z) cm→Mu V (nB (cJ L)) s s'→Is V X s'.heap v (.list (kept.map fun kp=>.list ((rF kp.2).map g9)))→Q .next s'):
  WC prog w A (exec (qP w 8) (cJ L)) Q E s:=by
 refine aM (qC _ _ _ _ (by rfl)) ?_
 refine .standAt (.bind ?_)
 refine .bind ((rX (cl:=[]) (use:=some (assign (.Name (aA "order") _) (cJ L))) (Q:=fun j s'=>Q .next s') rfl (fun j=>rfl) (by rfl) rfl (by decide+kernel) ?_).monoQ fun j s' hq=>.pure (.pure hq))
 refine oX I.bk fun es ep oa j pr j=>?_
 have zl:es.size=kept.length:=by have:=pr.length;rw[bM]at this;refine aM this ?_;unfold iD.kvs;(rewrite[aQ];exact aM z1 rfl)
 refine(FE kw I.bk I.dc I.ns (eQ (F.cel (c:=L+1) rfl hc))).run F.bd fun xv u₁ k₁ hx=>?_
 (refine nY hx fun r e_0=>?_;subst e_0;refine fun j hr=>?_)
 have w₁:gM V X s X u₁:=.of_keeps k₁
 have oa₁:=cS w₁.nx _ _ oa
 have aV:S.a∉V:=fun q=>bZ oa₁ (aL _ q)
 have ou:=a6 _ oa₁
 have bd₁:=F.bd.keeps k₁
 refine C3 hr ou rfl ?_
 generalize hI:u₁.heap.objs.size=It
 generalize hH:u₁.heap.push {cls:=.type "dict_valueiterator",data:=.fields #[.ref S.a,.int 0 0,.int es.size 0,.int ep 0]}=H
 have hit:nQ H It S.a 0 es.size ep:=by refine gU hH (gU hI ?_);exact aW _ rfl
 have In:u₁.heap.get? It=none:=gB (by refine aM hI ?_;exact bO _)
 have aI:S.a≠It:=fun e=>by rw[e,In]at ou;cases ou
 have IV:=bd₁.two.ne In
 have up:∀b o,u₁.heap.get? b=some o→H.get? b=some o:=fun b o e=>hH▸aP _ e
 refine zJ (V:=V) (x:=aA "book") (scope:=Ij) (env:=cJ L) (s₀:=u₁) (X:=X) (RR:=fun acc C r s'=>∃f,r= .ok f∧compPost (model prog w) A E (some (assign (.Name (aA "order") _) (cJ L))) (fun j s'=>Q .next s') acc C r s') (g:=fun i=>.list ((rF (kept[i]?.getD (0,[])).2).map g9)) (DB (o:=fY S.d es ep (.ref S.fac)) R.handled rfl aI) (fun i h st b hb=>by replace hb:=kQ hb;obtain rfl:=hb.symm;exact⟨_,st.1⟩) (gW up) bd₁ ⟨hit,up _ _ ou⟩ (fun b hb=>?_) (fun b hb=>?_) (fun b hb=>?_) (aD (aU zl) z2) (fun j=>rfl) (fun j=>rfl) rfl (fun j j=>.inr ⟨rfl,_,rfl,rfl⟩) (fun L' c i Y v val hi hp hw hb hn=>?_) fun D L' s' k hL hm hd=>?_
 ·simp at hb;rcases hb with rfl|rfl
  ·exact⟨_,hit⟩
  ·exact⟨_,up _ _ ou⟩
 ·simp at hb;rcases hb with rfl|rfl<;>assumption
 ·replace hb:=kQ hb;obtain rfl:=hb.symm;exact In
 ·(refine bG hp fun e he e_0=>?_;subst e_0)
  refine pG (BN (h:=s.heap) (a:=0) (d:=0) (fac:=.none) pr he) fun k t vv hkv e1 e2=>?_
  unfold iD.kvs at hkv
  rw[cQ,oC]at hkv
  obtain⟨b,hbb,hkv⟩:=hkv
  injection hkv with ek ev
  subst ek ev
  rw[e2]at hn
  have nx:=w₁.nx.trans hw.nx
  have hi':i<kept.length:=aO hi (aU zl)
  have hkp:kept[i]?=some kept[i]:=bC hi'
  refine aM hkp (aM mP ?_)
  exact FS (n:=n) (kw.nx nx) R hfr fv ((I.nx nx).bks b (jZ hbb)) (hO i b _ hbb hkp) hn
 ·rw[zl,n6 (F:=fun kp:Nat×List hU=>.list ((rF kp.2).map g9))]at hd
  exact⟨_,rfl,sK bd₁.two k hL hm hd F.l2 (tL F.ns k₁ F.l2) rfl rfl F.lx fun v s'' mu hv hns=>q v s'' (F.setL ((Mu.of_keeps k₁).trans mu) hns) (vY ((Mu.of_keeps k₁).trans mu)) hv⟩
theorem IW{rows:List lD}(kw:KW V (kz w) mg mb X s.heap)(R:dK A (n+5))(F:fU V u (cJ L) X s m cm)(hk:Is V X s.heap kv (.list ((dE rows).map oG)))(hck:cm (aA "kept")=some kv)(ok:rR rows)
  (hcn:∀kp∈dE rows,∀k,k<kp.2.length→k∈qT kp.2)
  (ho:Is V X s.heap tv (.list ((dE rows).map fun kp=>.list ((rF kp.2).map g9))))(hm:m (aA "order")=some tv)
  (q:∀s',Keeps V s s'→Q (.ret (.bool true)) s'):
  WP prog w A (execs [qP w 9] (cJ L)) Q E s:=by
 have kk:=BD ok
 have kz':(dE rows).length≤100:=kk.n
 have sh:wI 4 (.list ((dE rows).map fun kp=>.list ((rF kp.2).map g9))):=.map fun kp o=>.map fun l o=>.ints l
 refine .mk<|dQ (kE ((uS (R:=Ex (.bool true)) (aX (F.loc hm) ho) (P₂:=Dt (.list ((dE rows).map fun kp=>.list ((rF kp.2).map g9)))) ?_ fun Y u a b hu hb pa pb=>?_).run F.bd fun v s' k hv=>?_))
 ·refine xG (x:=aA "name") (y:=aA "shelves") (own:=none) (ds:=(dE rows).map oG) (f₁:=fun i=>sH ((dE rows)[i]?.getD (0,[])).1) (f₂:=fun i=>.list (((dE rows)[i]?.getD (0,[])).2.map zF)) (p:=fun o=>true) (g:=fun i=>.list ((rF ((dE rows)[i]?.getD (0,[])).2).map g9))
   ⟨aX (F.cel (c:=L+3) rfl hck) hk,R.handled,fun i hi=>by
    have hi':i<(dE rows).length:=by simpa using hi
    rw[cQ,bC hi'];rfl,fX (by simp;exact aD (by assumption) (by decide)),fun L' c j Y' v' v1 v2 hj hw hb hn1 h1 hn2 h2=>eU,?_,rfl,rfl,by decide+kernel,fun o=>rfl,fun o=>rfl,fun o o=>rfl,fun o o=>.inl rfl,by decide+kernel,fun o=>rfl⟩ ?_
  ·intro L' c j Y' v' v1 v2 hj _ hw hb hn1 h1 hn2 h2
   have hj':j<(dE rows).length:=by simpa using hj
   have hmem:=fH ((0,[]):Nat×List hU) (dE rows) hj'
   generalize (dE rows)[j]?.getD (0,[])=kp at h1 h2 hmem
   have kwj:=kw.nx hw.nx
   refine gE (kk.sh kp hmem) fun s1 s2=>?_
   refine lQ (kH (v:=.ref 256) kwj) (kwj.nV rfl) (kwj.get rfl) rfl (aT (aX hn2 h2) bF) fun Z z vs hz hbz hvs=>?_
   (refine bG (mN hvs) fun x1 e_0=>?_;subst e_0;refine fun hx1=>?_)
   exact Dp (kwj.nx hz.nx) (n:=n+1) R hx1 (fun sh hs=>(s2 sh hs).1) (fun sh hs=>aD (s2 sh hs).2.1 (by decide)) (aD (by assumption) (by decide)) (hcn kp hmem)
  ·(rewrite[aQ];exact aM (qN (fun kp:Nat×List hU=>.list ((rF kp.2).map g9)) (0,[]) (dE rows)) rfl)
 ·exact(Jc R pa pb (sh.ok (by decide)) (sh.ok (by decide))).weak fun a Y v o h=>by
   have h:a= .bool (bU _ _):=h
   rw[sh.eqv]at h
   exact h
 ·cases (hv:v= .bool true)
  exact q s' k
end
theorem A2{h:Heap}(k:(kz w).In h):CodeHd h 270 268:=codeHd_of_K k (by kernel_rfl)
theorem zU{M:Model}{h:Heap}{f:Addr}{o:Obj}(e:h.get? f=some o)(hc:o.cls= .type "function"):dT M h (specialOf (.ref f) "__call__") (some (.builtin "function.__call__")):=by
 have L0:dT M h (typeOf (.ref f)) (.type "function"):=hc▸(nM e).andThen .now
 exact L0.andThen (gH (by(rewrite[gR];refine aM dX ?_);kernel_rfl))
theorem GR(kw:KW V (kz w) mg mb X s.heap)(F:fU V g (cJ L) X s m cm)(x268:268∈X)(v268:268∉V)(g268:g.heap.get? 268=none)(t268:s.heap.get? 268=some (tabObj #[]))(bm:Bm mg (hideAll s.heap (V++X)))
  (T:s.heap.get? 118=some (tabObj #[]))(x118:118∈X)(v118:118∉V)
  (q:∀S s' tb,S.bks=[]→S.fz=none→fU V g (cJ L) (S.a::S.d::X) s' m (fun z=>if z=aA "index" then some (.ref S.a)else cm z)→Nx V X s (S.a::S.d::X) s'→s'.heap.get? 268=some (tabObj tb)→Mu V (268::nB (cJ L)) s s'→eG prog w V (S.a::S.d::X) s'.heap S→s.heap.get? S.a=none→s.heap.get? S.d=none→Q .next s'):
  wpAny (model prog w) A (exec (qP w 1) (cJ L)) Q E s:=by
 refine(?_:wpAny _ _ (exec (.Assign [.Name (aA "index") _] (.Call (.Name (aA "FreezableDefaultDict") _) [.Lambda vG Aw t7 Gy] [] _) _) (cJ L)) _ _ _)
 refine i7 (Jr ((kH (v:=.ref 126) kw).run F.bd fun v s₁ k₁ hv=>?_)) rfl
 cases (hv:v= .ref 126)
 have nx₁:=(gM.of_keeps (X:=X) k₁).nx
 have kw₁:=kw.nx nx₁
 have F₁:=F.keep k₁
 have kin₁:(kz w).In s₁.heap:=kw₁.k.keeps fun j j e=>a6 _ e
 refine vS (kla_eval rfl ?_)
 refine kla_makeFunction (scope:=t7) (env:=cJ L) (clos:=[]) (by rfl) rfl (kw₁.g.keeps fun j j e=>a6 _ e) rfl (A2 kin₁) (a7 k₁ _ _ v268 t268) trivial rfl (by decide) ((bm.keeps (cS nx₁)).keeps fun j j e=>a6 _ e).b fun c' ctv h' tk hx hge hlt hrec htab=>?_
 generalize hF:h'.push (kla_obj "<lambda>" ((cJ L).qual++"<lambda>") vG Aw t7 [] ((mg "__name__").getD .none) c' ctv)=h₂
 generalize hf:h'.objs.size=f
 have fo:h₂.get? f=some (kla_obj "<lambda>" ((cJ L).qual++"<lambda>") vG Aw t7 [] ((mg "__name__").getD .none) c' ctv):=by refine gU hF (gU hf ?_);exact aW _ rfl
 have hk2:∀b o,b≠268→s₁.heap.get? b=some o→h₂.get? b=some o:=fun b o hb e=>hF▸aP _ (hx b o hb e)
 have kin₂:(kz w).In h₂:=fun b o e=>hk2 b o (fun q=>kw.nin e (aJ _ (q▸x268))) (kin₁ b o e)
 refine⟨kin₂,CU (fac:=.ref f) kin₂ (fun q=>nomatch q) (zU fo rfl) fun h₃ a d e1 e2 n1 n2 hne hsy hk3=>?_⟩
 have hk:∀b o,b≠268→s₁.heap.get? b=some o→h₃.get? b=some o:=fun b o hb e=>hk3 b o (hk2 b o hb e)
 have b268:h₃.get? 268=some (tabObj (#[]++#[rawInt Gy.line,rawInt Gy.col,.ref c'])):=hk3 _ _ (hF▸aP _ htab)
 have an:s₁.heap.get? a=none:=by
  cases e:s₁.heap.get? a with
  |none=>rfl
  |some o=>
   have:a≠268:=fun q=>by rw[q,←hF,aP _ htab]at n1;nomatch n1
   replace n1:=(hk2 a o this e)▸n1;cases n1
 have dn:s₁.heap.get? d=none:=by
  cases e:s₁.heap.get? d with
  |none=>rfl
  |some o=>
   have:d≠268:=fun q=>by rw[q,←hF,aP _ htab]at n2;nomatch n2
   replace n2:=(hk2 d o this e)▸n2;cases n2
 have two₁:=F₁.bd.two
 have aV:=two₁.ne an
 have dV:=two₁.ne dn
 have m3:Mu V [268] s₁ {s₁ with heap:=h₃,toks:=tk}:=Mu.mk' (fun b o hb e=>hk b o (by with_reducible exact mt List.mem_singleton.mpr hb) e) fun b hb=>by simp at hb;exact hb▸v268
 have cc:(cJ L).cells.lookup (aA "index")=some (L+1):=rfl
 have cX:L+1∈X:=F.cx _ _ cc
 have cV:L+1∉V:=F.cV _ _ cc
 have cell1:=F₁.cell _ _ cc
 have c268:∀n c,(cJ L).cells.lookup n=some c→c≠268:=fun n c e q=>by
  refine bG (F.cell n c e) fun o e1 e2=>?_
  rw[q,t268]at e1;obtain rfl:=a9 e1;cases e2
 have L268:L≠268:=fun q=>by
  refine pG F.ns fun o es ep e1 e2 j=>?_
  rw[show(cJ L).locals=L from rfl,q,t268]at e1;obtain rfl:=a9 e1;cases e2
 have F₃:fU V g (cJ L) X {s₁ with heap:=h₃,toks:=tk} m cm:=F₁.muM m3 (fun b hb=>by simp at hb;exact hb▸g268) (by simpa using fun q:(cJ L).locals=268=>L268 q) (fun n c e=>by simpa using c268 n c e) fun b hb=>by simp at hb;exact⟨_,hb▸b268⟩
 refine nG rfl rfl cc (F₃.cell _ _ cc) fun h₄ hc4 hs4=>?_
 replace hs4:bY (L+1) h₃ h₄:=hs4
 have m4:Mu V [L+1] {s₁ with heap:=h₃,toks:=tk} {s₁ with heap:=h₄,toks:=tk}:=iK (s:={s₁ with heap:=h₃,toks:=tk}) cV hs4
 have mu:Mu V (268::nB (cJ L)) s {s₁ with heap:=h₄,toks:=tk}:=((Mu.of_keeps k₁).trans (m3.more fun b hb=>by simp at hb;simp[hb])).trans (m4.more fun b hb=>by replace hb:=kQ hb;subst hb;exact aC _ (aC _ (fP cc)))
 have inc:∀b∈X,b∈a::d::X:=fun b hb=>aC _ (aC _ hb)
 have s0n:∀b,s₁.heap.get? b=none→s.heap.get? b=none:=fun b e=>fQ k₁ F.bd.two e
 have nX:∀b,s₁.heap.get? b=none→b∉X:=fun b e q=>by refine bK (F₁.bd.al b q) fun o e'=>?_;replace e':=e▸e';nomatch e'
 have nx:Nx V X s (a::d::X) {s₁ with heap:=h₄,toks:=tk}:=by
  have n0:=mu.nx (X:=X) fun b hb=>(nR hb).elim (fun q=>q▸x268) (F.inA b)
  refine⟨n0.st,n0.keep,fun b hb j=>?_,n0.two⟩
  rcases r4 hb with rfl|hb
  ·exact .inr (s0n _ an)
  rcases r4 hb with rfl|hb
  ·exact .inr (s0n _ dn)
  ·exact .inl hb
 have ac:a≠L+1:=fun q=>by refine bG cell1 fun o e j=>?_;rw[←q,an]at e;nomatch e
 have dc:d≠L+1:=fun q=>by refine bG cell1 fun o e j=>?_;rw[←q,dn]at e;nomatch e
 have a4:h₄.get? a=some (fY d #[] 0 (.ref f)):=(hs4.2 _ ac).trans e1
 have d4:h₄.get? d=some kR:=(hs4.2 _ dc).trans e2
 have up4:∀b o,b∉V++(a::d::X)→h₂.get? b=some o→(hideAll h₄ (V++(a::d::X))).get? b=some o:=fun b o hb e=>
  b5 _ ((hs4.2 _ fun q=>hb (by simp[q,cX])).trans (hk3 _ _ e)) hb
 have fresh2:∀b,s₁.heap.objs.size≤b→b∉V++X:=fun b h=>zB F₁.bd h
 have fn:f∉V++(a::d::X):=fun q=>by
  have h0:f∉V++X:=fresh2 f (by refine gU hf ?_;exact bA (aR hge hlt))
  simp only[b8,bL]at q h0
  rcases(eK id (eK b7 (eK b7 id))) q with q|rfl|rfl|q
  ·exact h0 (.inl q)
  ·replace n1:=fo▸n1;cases n1
  ·replace n2:=fo▸n2;cases n2
  ·exact h0 (.inr q)
 have cr2:h₂.CodeRec (.ref c') ((cJ L).qual++"<lambda>"):=hrec.keeps fun b o e=>hF▸aP _ e
 have cn:c'∉V++(a::d::X):=fun q=>by
  have h0:c'∉V++X:=fresh2 c' hge
  refine B4 cr2 fun c'' o j j e eo j=>?_
  obtain rfl:=fN e
  simp only[b8,bL]at q h0
  rcases q with q|rfl|rfl|q
  ·exact h0 (.inl q)
  ·replace n1:=eo▸n1;cases n1
  ·replace n2:=eo▸n2;cases n2
  ·exact h0 (.inr q)
 have cr4:(hideAll h₄ (V++(a::d::X))).CodeRec (.ref c') ((cJ L).qual++"<lambda>"):=by
  refine B4 cr2 fun c'' o vs t e eo r=>?_
  obtain rfl:=fN e
  exact⟨c',o,vs,t,rfl,up4 _ _ cn eo,r⟩
 have a118:a≠118:=fun q=>by have:=a7 k₁ _ _ v118 T;rw[←q,an]at this;nomatch this
 have d118:d≠118:=fun q=>by have:=a7 k₁ _ _ v118 T;rw[←q,dn]at this;nomatch this
 have c118:L+1≠118:=fun q=>by refine bG (F.cell _ _ cc) fun o e e2=>?_;rw[q,T]at e;obtain rfl:=a9 e;cases e2
 have T4:h₄.get? 118=some (tabObj #[]):=(hs4.2 _ (eH c118)).trans (hk _ _ (by decide) (a7 k₁ _ _ v118 T))
 have L4:L≠L+1:=fun q=>absurd q (eZ (cI L))
 have bd4:Bd V (a::d::X) {s₁ with heap:=h₄,toks:=tk}:=by
  have b0:Bd V X {s₁ with heap:=h₄,toks:=tk}:=A4 F₃.bd m4 (let⟨o,e,_⟩:=hc4;⟨o,e⟩)
  exact(b0.cons d4).cons a4
 refine q ⟨a,d,none,f,[]⟩ {s₁ with heap:=h₄,toks:=tk} _ rfl rfl ⟨m4.keeps F₃.keeps (fun b hb=>by replace hb:=kQ hb;exact hb▸F.cf _ _ cc),bd4,F.l2,F.cV,m4.ns F.l2 (fun q=>L4 (kQ q)) F₃.ns,fun n c e=>?_,F.apart,inc _ F.lx,F.lf,fun n c e=>inc _ (F.cx n c e),F.cf⟩ nx ((hs4.2 _ (eH (c268 _ _ cc))).trans b268) mu ?_ (s0n _ an) (s0n _ dn)
 ·by_cases hn:n=aA "index"
  ·subst hn
   obtain rfl:=a9 e
   exact hc4
  ·have hcc:c≠L+1:=fun q=>hn (name_of_addr F.apart (mem_of_lookup (q▸e)) (mem_of_lookup cc))
   simp only[hn,if_false]
   exact(F₃.cell n c e).sameBut hs4 hcc
 ·refine⟨.new a4,⟨[],0,d4,rfl⟩,(fun v e=>nomatch e),⟨_,c',ctv,up4 _ _ fn fo,cr4⟩,(fun b hb=>nomatch hb),fun c hc=>?_,fun c hc=>?_,hsy,?_,.inl T4,inc _ x118,v118,fun q=>?_⟩
  ·simp[iD.adrs]at hc;rcases(eK b7 b7) hc with rfl|rfl<;>simp
  ·simp[iD.adrs]at hc;rcases(eK b7 b7) hc with rfl|rfl<;>assumption
  ·simpa[iD.adrs]using hne
  ·simp[iD.adrs]at q;rcases q with q|q
   ·exact a118 q.symm
   ·exact d118 q.symm
theorem Hg{shs:List hU}(nd:(shs.map (·.1)).Nodup):∀k,k<shs.length→k∈qT shs:=by
 have tr:∀a b c:hU,decide (¬nF b.1<nF a.1)=true→decide (¬nF c.1<nF b.1)=true→decide (¬nF c.1<nF a.1)=true:=fun a b c h1 h2=>by
  simp only[decide_eq_true_iff]at*
  exact List.not_lt.mpr (List.le_trans (List.not_lt.mp h1) (List.not_lt.mp h2))
 have tot:∀a b:hU,(decide (¬nF b.1<nF a.1)||decide (¬nF a.1<nF b.1))=true:=fun a b=>by
  by_cases h:nF b.1<nF a.1
  ·simp[List.lt_asymm h]
  ·simp[h]
 have p:=List.mergeSort_perm shs fun a b=>decide (¬nF b.1<nF a.1)
 have pw:=List.pairwise_mergeSort (le:=fun a b:hU=>decide (¬nF b.1<nF a.1)) tr tot shs
 generalize shs.mergeSort (fun a b=>decide (¬nF b.1<nF a.1))=its at p pw
 have n2:its.Pairwise fun a b=>a.1≠b.1:=List.pairwise_map.mp ((p.map _).nodup_iff.mpr nd)
 refine(Gi p ((pw.and n2).imp fun{a b} h=>?_)).1
 have h1:¬nF b.1<nF a.1:=by with_reducible exact of_decide_eq_true h.1
 exact mD fun q=>h.2 (xJ _ _ (List.le_antisymm (List.not_lt.mp h1) (List.not_lt.mp q)))
theorem E8{rows:List lD}{kp:Nat×List hU}(h:kp∈dE rows):(kp.2.map (·.1)).Nodup:=by
 (refine bG (n5 h) fun nm z e_0=>?_;subst e_0)
 refine aM bW ?_
 exact D4 (tS _) fun a z b z e=>e
theorem EV{evs:List Int}{r:lD}(h:r∈eT evs):A5 r.2.2∧j8 r.2.2∧(keyOf r.2.2).cps.toList.length≤600∧∀c∈(keyOf r.2.2).cps.toList,c<128:=by
 (refine bG (n5 h) fun x z e_0=>?_;subst e_0)
 refine gE (J5 x) fun vl va=>?_
 have vl':(vtF x).cps.toList.length≤20:=by refine aM bM ?_;exact vl
 exact⟨(sJ vl' va).1,Ad _,JE vl' va⟩
theorem ID.shs{evs:List Int}{S:iD}(I:ID (eT evs) S)(hz:evs.length≤60){i:Nat}{b:Bk}{kp:Nat×List hU}(h1:S.bks[i]?=some b)(h2:(dE (eT evs))[i]?=some kp):IA b kp.2:=by
 have e:=congrArg (·[i]?) I.stand
 simp only[cQ,h1,h2,Option.map_some]at e
 injection e with e
 injection e with e1 e2
 have hm:=jZ h2
 refine⟨e2,E8 hm,?_,fun sh hs=>?_⟩
 ·(refine bG (n5 hm) fun nm z e_0=>?_;subst e_0)
  have:=yP (eT evs) nm
  have l0:(eT evs).length=evs.length:=by unfold eT;rw[aQ]
  rw[aQ]
  exact aR (aD (aD this (aU l0)) hz) (by decide)
 ·(refine bG (n5 hm) fun nm z e_0=>?_;subst e_0)
  (refine bG (n5 hs) fun rs hr e_0=>?_;subst e_0)
  (refine bG (yO hr) fun r hr' e_0=>?_;subst e_0)
  exact(EV hr').2
theorem ID.len{evs:List Int}{S:iD}(I:ID (eT evs) S):S.bks.length=(dE (eT evs)).length∧(dE (eT evs)).length≤evs.length∧∀b∈S.bks,b.sh.length≤evs.length:=by
 have l0:(eT evs).length=evs.length:=by unfold eT;rw[aQ]
 have e1:=congrArg List.length I.stand
 rw[aQ,aQ]at e1
 refine⟨e1,by unfold dE;(rewrite[aQ];refine gU l0 ?_);exact AP _,fun b hb=>?_⟩
 have:b.name∈(d8 (eT evs)).map t6:=by refine gU I.nms ?_;exact bQ hb
 refine bG (n5 this) fun nm z e=>?_
 have v:=congrArg List.length (I.bk b hb nm e.symm).2
 unfold Bk.v B0 at v
 rw[aQ,aQ]at v
 refine aM v (gU l0 ?_)
 exact yP _ nm
noncomputable def uI(script:List Int):List Int:=script.take 12++[16752,17352,35184,5,17904,96,392,6,64,512,396,100]
section
variable {ev:aG} {S:iD}
theorem Ar{M:List Addr}{s s':aH}(h:Keeps V s s'):Mu V M s s':=.of_keeps h
theorem HD(kw:KW V (kz w) mg mb X s.heap)(R:dK A (n+5))(hfr:A.frames=some fr)(fv:Cu V fr)(F:fU V g (cJ L) X s m cm)(I:Kq prog w V X s.heap S)(iv:ID (eT evs) S)(hc:cm (aA "index")=some (.ref S.a))(hev:Is V X s.heap ev (.list (evs.map .int)))(hme:m (aA "events")=some ev)(hn:evs.length≤60)
  (ht:Is V X s.heap tv (.list ((bI (eT evs).length).map fun k=>r0 (rN (eT evs) (dE (eT evs)) k))))(hmt:m (aA "told")=some tv)
  (q:∀s',Keeps V g s'→rW V s'.heap→Mu V (nB (cJ L)) s s'→Q (.ret (.bool true)) s'):
  WC prog w A (execs [qP w 3,qP w 4,qP w 5,qP w 6,qP w 7,qP w 8,qP w 9] (cJ L)) Q E s:=by
 have ok:rR (eT evs):=I5 (aD (by assumption) (by decide))
 refine jM iv.len fun l1 l2 l3=>?_
 refine m8 (IT (n:=n) kw (R.less (by simp+arith only[])) F hev hme (aD (by assumption) (by decide)) fun rv s₁ F₁ mu₁ hr=>⟨rfl,?_⟩)
 have kw₁:=kw.nx (F.nx mu₁)
 have I₁:=I.nx (F.nx mu₁)
 have ht₁:=ht.nx (F.nx mu₁)
 refine m8 (IX (n:=n) kw₁ (R.less (by simp+arith only[])) F₁ hr (by trivial) ok fun kv s₂ F₂ mu₂ hk=>⟨rfl,?_⟩)
 have n₂:=F₁.nx mu₂
 have kw₂:=kw₁.nx n₂
 have I₂:=I₁.nx n₂
 have hr₂:=hr.nx n₂
 refine m8 (IS (n:=n) kw₂ (R.less (by simp+arith only[])) F₂ hr₂ (by rfl) hk (by rfl) ok (ht₁.nx n₂) hmt fun s₃ F₃ k₃=>⟨rfl,?_⟩)
 have n₃:=(gM.of_keeps (X:=X) k₃).nx
 have kw₃:=kw₂.nx n₃
 have I₃:=I₂.nx n₃
 have hk₃:=hk.nx n₃
 have hci:(fun z=>if z=aA "kept" then some kv else(fun z=>if z=aA "rows" then some rv else cm z) z) (aA "index")=some (.ref S.a):=hc
 refine m8 (GN (n:=n) kw₃ (R.less (by simp+arith only[])) F₃ I₃ hci (bA (aR (aD (aD (aU l1) l2) hn) (by decide))) (fun b hb=>aD (l3 b hb) (aD (by assumption) (by decide))) fun tv4 s₄ F₄ mu₄ hs=>⟨rfl,?_⟩)
 have n₄:=F₃.nx mu₄
 have kw₄:=kw₃.nx n₄
 have I₄:=I₃.nx n₄
 have hk₄:=hk₃.nx n₄
 rw[iv.stand]at hs
 refine m8 (Ba (n:=n) kw₄ (R.less (by simp+arith only[])) F₄ hk₄ (by rfl) ok (fun r hr=>(EV hr).1) hs (by rfl) fun s₅ F₅ k₅=>⟨rfl,?_⟩)
 have n₅:=(gM.of_keeps (X:=X) k₅).nx
 have kw₅:=kw₄.nx n₅
 have hk₅:=hk₄.nx n₅
 refine qH (GP (n:=n) kw₅ R hfr fv F₅ (I₄.nx n₅) hci l1 (bA (aR (aD l2 hn) (by decide))) (fun i b kp h1 h2=>iv.shs hn h1 h2) fun tv6 s₆ F₆ mu₆ ho=>⟨rfl,?_⟩)
 have n₆:=F₅.nx mu₆
 refine .any (IW (n:=n) (kw₅.nx n₆) R F₆ (hk₅.nx n₆) (by rfl) ok (fun kp h=>Hg (E8 h)) ho (by rfl) fun s₇ k₇=>q s₇ (aN F₆.keeps k₇) (gL k₇ F₆.bd.two) ?_).out
 exact mu₁.trans (mu₂.trans ((Ar k₃).trans (mu₄.trans ((Ar k₅).trans (mu₆.trans (Ar k₇))))))
end
section
variable {sv:aG} {S:iD} {script:List Int}
theorem K6{Q:aG→aH→Prop}(po:sF prog)(kw:KW V (kz w) mg mb X u.heap)(R:dK A (n+30))(hfr:A.frames=some fr)(fv:Cu V fr)(hb:Bd V X u)(x2:S2 w u.heap)(bm:Bm mg (hideAll u.heap (V++X)))(t118:u.heap.get? 118=some (tabObj #[]))(t268:u.heap.get? 268=some (tabObj #[]))(x118:118∈X)(x268:268∈X)(v118:118∉V)(v268:268∉V)
  (hs:Is V X u.heap sv (.list (script.map .int)))(hz:script.length≤1000)
  (q:∀s' t1 t2,Mu V [118,268] u s'→s'.heap.get? 118=some (tabObj t1)→s'.heap.get? 268=some (tabObj t2)→Q (.bool true) s'):WC prog w A (call (.ref 271) [sv]) Q E u:=by
 refine Cy cJ kw (R.less (by simp+arith only[])) hb (ho:=rfl) (by rfl) (body:=E6 w) (by rfl) (binds:=[("script",sv)]) (by rfl) (by rfl) ?_ (fun L=>rfl) ?_ (n:=n)
 ·intro L y hy;replace hy:=kQ hy;subst hy;exact .inl rfl
 intro L s₁ hL k₁ nx F
 replace hL:u.heap.get? L=none:=hL
 replace F:fU (L::V) u (cJ L) (kD (cJ L) X) s₁ (bindL (cJ L).kindOf [("script",sv)] fun z=>none) (bindC (cJ L).kindOf [("script",sv)] fun z=>none):=F
 have LX:L∈kD (cJ L) X:=aF
 have inX:∀a∈X,a∈kD (cJ L) X:=fun a h=>aJ _ h
 have hh:=tO (V:=V) (X:=kD (cJ L) X) (h:=s₁.heap) LX
 have l118:(118:Nat)≠L:=fun e=>by have:=t118;rw[e,hL]at this;nomatch this
 have l268:(268:Nat)≠L:=fun e=>by have:=t268;rw[e,hL]at this;nomatch this
 have w118:118∉L::V:=fun h=>(nR h).elim l118 v118
 have w268:268∉L::V:=fun h=>(nR h).elim l268 v268
 have kw₁:KW (L::V) (kz w) mg mb (kD (cJ L) X) s₁.heap:=by have k:=kw.nx nx;exact⟨k.k.keeps hh,k.g.keeps hh,k.b.keeps hh,k.bi⟩
 have hs₁:Is (L::V) (kD (cJ L) X) s₁.heap sv (.list (script.map .int)):=by refine bK (hs.nx nx) fun as r=>?_;exact⟨as,Reads.keeps hh r⟩
 have bm₁:Bm mg (hideAll s₁.heap ((L::V)++kD (cJ L) X)):=(bm.keeps (cS nx)).keeps hh
 have R₁:dK (A.deeper (cJ L)) (n+29):=dK.deeper R _
 have hfr₁:(A.deeper (cJ L)).frames=some (cJ L::fr):=by refine(?_:A.frames.map _=_);refine aM hfr ?_;rfl
 have l2:L≠2:=hb.two.ne2 hL
 have fv₁:Cu (L::V) (cJ L::fr):=yV fv (by intro h;cases h) rfl l2
 have F₁:=F.ghost (M:=[118,268]) fun b hb=>by simp at hb;rcases hb with rfl|rfl<;>assumption
 have a118:s₁.heap.get? 118=some (tabObj #[]):=a7 k₁ _ _ v118 t118
 have a268:s₁.heap.get? 268=some (tabObj #[]):=a7 k₁ _ _ v268 t268
 have nfr:∀{b:Addr} {o:Obj},u.heap.get? b=some o→b∉nB (cJ L):=fun{b o} e hm=>by
  rcases nR hm with h|h
  ·replace e:=h▸e;replace e:=(show u.heap.get? (cJ L).locals=none from hL)▸e;nomatch e
  ·refine bK (iP h) fun k e'=>?_
   replace e:=(F.cf k b e')▸e;cases e
 refine m8 (oW (d:=.list ((uI script).map .int)) F₁ ?_ fun ev s₂ F₂ mu₂ hev=>⟨rfl,?_⟩)
 ·refine(oY (ds:=(script.map cB).take 12) (es:=[16752,17352,35184,5,17904,96,392,6,64,512,396,100].map cB) ((u8 (ds:=script.map cB) (a:=none) (b:=some 12) (c:=none) (aX (F₁.loc rfl) hs₁) iU (mG (eE 12)) iU (by trivial) (fX (by simp;exact aD (by assumption) (by decide)))).dt ?_) (fG (ds:=[16752,17352,35184,5,17904,96,392,6,64,512,396,100].map cB) ?_ rfl (fX (show 12≤1000000 by decide))) ?_).dt ?_
  ·refine aM (pW _ (by decide)) ?_;rfl
  ·repeat (first|exact bF|refine aT (eE _) ?_)
  ·refine fX ?_
   have:((script.map cB).take 12).length≤12:=by refine aM f8 ?_;exact nW _ _
   refine(?_:_+12≤_)
   exact aD (cY this (bO _)) (by decide)
  ·exact aM bB (aM List.map_take rfl)
 have n₂:=F₁.nx mu₂
 have kw₂:=kw₁.nx n₂
 have bm₂:=bm₁.keeps (cS n₂)
 have b118:s₂.heap.get? 118=some (tabObj #[]):=mu₂.get (nfr t118) w118 a118
 have b268:s₂.heap.get? 268=some (tabObj #[]):=mu₂.get (nfr t268) w268 a268
 refine m8 (.mk (GR kw₂ F₂ (inX _ x268) w268 (lW (by trivial)) b268 bm₂ b118 (inX _ x118) w118 fun S s₃ tb hb0 hfz F₃ n₃ c268 mu₃ I an dn=>⟨rfl,?_⟩))
 have kw₃:=kw₂.nx n₃
 have bm₃:=bm₂.keeps (cS n₃)
 have hev₃:=hev.nx n₃
 have x2₃:S2 w s₃.heap:=x2.at fun o e=>mu₃.k.o2 (F₂.bd.two.two) o (mu₂.k.o2 (F₂.bd.two.two) o ((dA k₁).o2 hb.two.two o e))
 have adr:S.adrs=[S.a,S.d]:=by unfold iD.adrs;refine aM hb0 ?_;rfl
 have s2n:∀{b:Addr} {o:Obj},s₂.heap.get? b=some o→b∉S.adrs:=fun{b o} e hm=>by
  rw[adr]at hm
  replace hm:=m2 hm
  rcases hm with rfl|rfl
  ·replace e:=an▸e;cases e
  ·replace e:=dn▸e;cases e
 have fal:∀c∈nB (cJ L),∃o,s₂.heap.get? c=some o:=fun c hc=>by
  rcases r4 hc with rfl|hc
  ·refine s9 F₂.ns fun o z z e z=>?_;exact⟨o,e⟩
  ·refine bK (iP hc) fun k e=>?_
   refine bG (F₂.cell k c e) fun o e z=>?_
   exact⟨o,e⟩
 have fS:∀c∈nB (cJ L),c∉118::S.adrs:=fun c hc q=>by
  rcases nR q with rfl|q
  ·exact nfr t118 hc
  ·refine bK (fal c hc) fun o e=>?_;exact s2n e q
 have ne3:(uI script).length≤24:=by
  refine aM b4 (aM f8 ?_)
  refine(?_:min 12 script.length+12≤24)
  exact aD (cY (nW _ _) (bO _)) (by decide)
 have c1:(cJ L).cells.lookup (aA "index")=some (L+1):=rfl
 refine qH (Ev (n:=n+9) (nmF:=nmF) (vtF:=vtF) (evs:=uI script) po R₁.handled kw₃ (R₁.less (by simp+arith only[])) hfr₁ fv₁ F₃.bd x2₃ bm₃ H6 (aD (by assumption) (by decide)) I hb0 hev₃ (by rfl) F₃.ns l2 F₃.lx (fS L aF) (F₃.cell _ _ c1) (F₃.cV _ _ c1) (F₃.cx _ _ c1) (fS _ (aC _ (fP c1))) (by rfl) fun D s₄ X₄ S' ts st I₄ hA d hD hns₄=>⟨rfl,?_⟩)
 refine gE (Fw d hb0 hfz) fun iv ets=>?_
 have al3:∀c∈nB (cJ L),∃o,s₃.heap.get? c=some o:=fun c hc=>by
  rcases r4 hc with rfl|hc
  ·refine s9 F₃.ns fun o z z e z=>?_;exact⟨o,e⟩
  ·refine bK (iP hc) fun k e=>?_
   refine bG (F₃.cell k c e) fun o e z=>?_
   exact⟨o,e⟩
 have fS':∀c∈nB (cJ L),c∉S'.adrs:=fun c hc q=>by
  rcases hA c q with q|q
  ·exact fS c hc (aC _ q)
  ·refine bK (al3 c hc) fun o e=>?_;replace e:=q▸e;nomatch e
 have sub:∀a∈X₄.filter (fun a=>decide (a∉S'.adrs)),a∈X₄:=fun a h=>(D1 h).1
 have nx₄:Nx (L::V) (S.a::S.d::kD (cJ L) X) s₃ X₄ s₄:=st.nx fun b hb=>by
  rcases r4 hb with rfl|hb
  ·exact F₃.lx
  rcases nR hb with rfl|hb
  ·exact I.tx
  ·exact I.xa b hb
 have MS:∀c∈pY (cJ L),c∉L::118::S.adrs:=fun c hc q=>by
  rcases nR q with q|q
  ·refine bK (iP hc) fun k e=>?_
   refine bG (F₃.cell k _ e) fun o e1 e2=>?_
   refine pG F₃.ns fun o' es ep e3 e4 z=>?_
   rw[show(cJ L).locals=L from rfl,←q,e1]at e3;obtain rfl:=a9 e3;replace e4:=e2▸e4;cases e4
  ·exact fS c (aC _ hc) q
 have gn:∀b∈L::118::S.adrs,(ghost u [118,268]).heap.get? b=none:=fun b hb=>by
  rcases r4 hb with rfl|hb
  ·exact F₃.lf
  rcases nR hb with rfl|hb
  ·exact lW (by trivial)
  ·rw[adr]at hb
   replace hb:=m2 hb
   rcases hb with rfl|rfl
   ·exact iC F₂.keeps F₂.bd.two an
   ·exact iC F₂.keeps F₂.bd.two dn
 have inF:∀c∈nB (cJ L),c∈X₄.filter (fun a=>decide (a∉S'.adrs)):=fun c hc=>List.mem_filter.mpr ⟨st.inc c (F₃.inA c hc),by with_reducible exact decide_eq_true (fS' c hc)⟩
 have F₄:fU (L::V) (ghost u [118,268]) (cJ L) (X₄.filter fun a=>decide (a∉S'.adrs)) s₄ _ _:=
  ⟨st.mu.keeps F₃.keeps gn,st.bd.less sub,F₃.l2,F₃.cV,hns₄,fun k c e=>gY (F₃.cell k c e) fun o eo=>st.mu.get (MS c (fP e)) (F₃.cV k c e) eo,F₃.apart,inF _ aF,F₃.lf,fun k c e=>inF c (aC _ (fP e)),F₃.cf⟩
 refine HD (n:=n+20) (evs:=uI script) ((kw₃.nx nx₄).less sub) (R₁.less (by simp+arith only[])) hfr₁ fv₁ F₄ (I₄.view fun c hc q=>by have:=(D1 q).2;replace this:=of_decide_eq_true this;exact this hc) iv ?_ ((hev₃.nx nx₄).less sub) (by rfl) (aD (by assumption) (by decide)) (tv:=.ref D) ?_ (by rfl) fun s₅ k₅ two₅ mu₅=>?_
 ·refine aM d.a ?_;trivial
 ·have e:ts.map r0=(bI (eT (uI script)).length).map fun k=>r0 (rN (eT (uI script)) (dE (eT (uI script))) k):=by
   refine aM ets (aM bW (aM (show(eT (uI script)).length=(uI script).length by unfold eT;rw[aQ]) ?_))
   refine cF fun k hk=>?_
   have hk:k<(eT (uI script)).length:=by unfold eT;rw[aQ];exact List.mem_range.mp hk
   refine(?_:r0 (tl _ _)=_)
   exact aM (I4 hk) rfl
  refine gU e ?_
  exact hD.less sub
 ·have t118:∃t1,s₅.heap.get? 118=some (tabObj t1):=by
   rcases I₄.t with e|⟨c,e,_⟩
   ·exact⟨_,mu₅.get (nfr t118) w118 e⟩
   ·exact⟨_,mu₅.get (nfr t118) w118 e⟩
  refine bK t118 fun t1 e1=>?_
  have m268:268∉L::118::S.adrs:=fun h=>by
   rcases nR h with h|h
   ·exact l268 h
   rcases nR h with h|h
   ·exact absurd h (by decide)
   ·exact s2n b268 h
  refine q s₅ t1 tb (Gp (wO k₅ fun b hb=>by simp at hb;rcases hb with rfl|rfl<;>assumption) hL fun t=>⟨two₅.lim,t.two,fun a ha=>two₅.al a (aC _ ha)⟩) e1 (mu₅.get (nfr t268) w268 (st.mu.get m268 w268 c268))
end
theorem KO:sF PySem.Challenge.rw_in0100_01.row.toRowW.prog:=⟨by rfl,by rfl⟩
theorem Bj:dK callerA 31:=⟨by decide,by decide,rfl,⟨[],rfl⟩,rfl⟩
section
variable {p:fL} {loose:List Str} {mean:ExcName→Option aG}
theorem Gm{a:Addr}{m:Str→Option aG}(n:h.Ns a m)(x:a∉([2]++[118,268]:List Addr)):(hideAll h ([2]++[118,268])).Ns a m:=n.at' fun o e=>b5 _ e x
theorem K8(T:Top p loose mean mg mb h)(k:(hk.heap_1 w.params).In h):KW [2] (kz w) mg mb [118,268] h:=by
 refine⟨fun b o e=>b5 _ (Jf k b o e) fun hb=>?_,Gm T.g (by decide),Gm T.b (by decide),T.builtins⟩
 replace hb:=m3 hb
 rcases hb with rfl|rfl|rfl
 ·cases e
 ·cases e
 ·cases e
theorem Km(T:Top p loose mean mg mb h)(t118:h.get? 118=some (tabObj #[]))(t268:h.get? 268=some (tabObj #[])):Bm mg (hideAll h ([2]++[118,268])):=by
 refine LC T.bmain fun bm ob h1 h2 h3 h4 h5 h6=>?_
 have n3:bm≠mainGlobals:=fun q=>by
  refine pG T.g fun o es ep e1 e2 z=>?_
  rw[q,e1]at h3;obtain rfl:=a9 h3;rw[e2]at h6;cases h6
 have n118:bm≠118:=fun q=>by rw[q,t118]at h3;obtain rfl:=a9 h3;cases h6
 have n268:bm≠268:=fun q=>by rw[q,t268]at h3;obtain rfl:=a9 h3;cases h6
 have n2:bm≠2:=fun q=>by
  (refine bG T.nodigits fun z q_1 z=>?_;refine pG q_1 fun o es ep e1 e2 z=>?_)
  rw[q,show h.get? 2=some o from e1]at h3;obtain rfl:=a9 h3;rw[e2]at h6;cases h6
 have e:(hideAll h ([2]++[118,268])).get? bm=some ob:=b5 _ h3 fun q=>by replace q:=m3 q;rcases q with q|q|q<;>contradiction
 exact⟨⟨bm,ob,h1,h2,n3,n118,e,h4,h5,h6⟩,⟨bm,ob,h1,h2,n3,n268,e,h4,h5,h6⟩⟩
theorem Kn{s:aH}(T:Top p loose mean mg mb s.heap)(t118:s.heap.get? 118=some (tabObj #[]))(t268:s.heap.get? 268=some (tabObj #[])):Bd [2] [118,268] s:=
 ⟨fun a ha=>by replace ha:=m2 ha;rcases ha with rfl|rfl<;>exact⟨_,by assumption⟩,T.nolimit,by trivial,fun a ha=>by
  replace ha:=kQ ha
  subst ha
  (refine bG T.nodigits fun z q_2 z=>?_;refine s9 q_2 fun o es ep e1 z=>?_)
  exact⟨o,e1,fun q=>absurd rfl q⟩⟩
theorem Im{u s':aH}{t1 t2:Array aG}(k:(kz w).In u.heap)(t118:u.heap.get? 118=some (tabObj #[]))(t268:u.heap.get? 268=some (tabObj #[]))(mu:Mu [2] [118,268] u s')
  (e118:s'.heap.get? 118=some (tabObj t1))(e268:s'.heap.get? 268=some (tabObj t2)):OldK u.heap s'.heap:=by
 (refine fO mu fun h' tk e_0=>?_;subst e_0;refine fun m=>?_)
 have old:∀b o,b≠118→b≠268→u.heap.get? b=some o→h'.get? b=some o:=fun b o n1 n2 e=>by
  by_cases hb:b=2
  ·subst hb;exact m.o2 (by trivial) o e
  ·exact m.old b o (by with_reducible exact mt kQ hb) (by simp;exact⟨n1,n2⟩) e
 refine⟨fun b o e=>?_,fun b o e=>?_⟩
 ·by_cases b1:b=118
  ·obtain rfl:=b1.symm
   rw[t118]at e;obtain rfl:=a9 e
   exact .inr (.inl ⟨((A3 k).tab t118).isCodeTable,rfl,#[],t1,rfl,aM (show h'.get? 118=some (tabObj t1)from e118) (aM Array.empty_append rfl)⟩)
  by_cases b2:b=268
  ·subst b2
   rw[t268]at e;obtain rfl:=a9 e
   exact .inr (.inl ⟨((A2 k).tab t268).isCodeTable,rfl,#[],t2,rfl,aM (show h'.get? 268=some (tabObj t2)from e268) (aM Array.empty_append rfl)⟩)
  exact .inl (old b o b1 b2 e)
 ·by_cases b1:b=118
  ·exact⟨_,b1▸e118⟩
  by_cases b2:b=268
  ·exact⟨_,b2▸e268⟩
  exact⟨o,old b o b1 b2 e⟩
end
theorem walk(q:fL)(loose:List Str)(XP:(Str→Option aG)→Heap→Prop)(d:DefRec)(kwd:List (Str×Expr))(hn:d.name="law"):Jn q loose XP hookM.says PySem.Challenge.rw_in0100_01.row.toRowW d kwd:=by
 intro w s₀ s₁ mg mb G Y low a o pm cd doc dV kV ho hdd hmg hg args vals as hpre hrd hlo
 have kin:=km_in_of Y
 have tabs:=km_tabs_of Y
 have t118:s₁.heap.get? 118=some (tabObj #[]):=tabs 118 (by simp)
 have t268:s₁.heap.get? 268=some (tabObj #[]):=tabs 268 (by simp)
 have ha:mg "law"=some (.ref 271):=mg_of kin G.T.g (by kernel_rfl)
 have hmg':mg "law"=some (.ref a):=hn▸hmg
 replace hmg':=ha▸hmg';cases hmg'
 obtain⟨ns,la,lo,vs,n,rfl,hz,l1,l2,l3,l4⟩:=HE hpre hrd
 have lx:la∉([2]++[118,268]:List Addr):=fun q=>by
  replace q:=m3 q
  rcases q with rfl|rfl|rfl
  ·(refine bG G.T.nodigits fun z q_3 z=>?_;refine pG q_3 fun o' es ep e1 e2 z=>?_)
   rw[show s₁.heap.get? 2=some o' from e1]at l1;obtain rfl:=a9 l1;replace e2:=l3▸e2;cases e2
  ·rw[t118]at l1;cases l1;cases l3
  ·rw[t268]at l1;cases l1;cases l3
 refine K6 (V:=[2]) (X:=[118,268]) (n:=1) (fr:=[]) (script:=ns) KO (K8 G.T kin) Bj rfl (fun z h=>nomatch h) (Kn G.T t118 t268) (fun o e=>kin 2 o e) (Km G.T t118 t268) t118 t268 (by simp) (by simp) (by decide) (by decide)
  ⟨_,.list (b5 _ l1 lx) l2 l3 (l4 _)⟩ (aD (by assumption) (by decide)) fun s' t1 t2 mu e1 e2=>?_
 have K:=Im (Jf kin) t118 t268 mu e1 e2
 (refine fO mu fun h' tk e_0=>?_;subst e_0;refine fun m=>?_)
 exact⟨.inl ⟨.bool true,.bool true,[],rfl,fun cls=>raisesW_false (fun ct h=>(bR h).elim) cls,.bool _,by wrow_post,fun z=>⟨List.nodup_nil,fun z h=>nomatch h⟩⟩,K,rfl,AllBare.of_eq hg⟩
namespace hd
theorem tw18302612038862264346:True:=⟨⟩
theorem tw6425283475488350215:True:=⟨⟩
theorem tw4818584297778438578:True:=⟨⟩
theorem tw5647765921694803619:True:=⟨⟩
theorem tw5750652386009531033:True:=⟨⟩
theorem tw2246941218536860274:True:=⟨⟩
theorem tw11350505665919305579:True:=⟨⟩
theorem tw16264707968930173755:True:=⟨⟩
theorem tw11506498404515386907:True:=⟨⟩
theorem tw18376694959448975046:True:=⟨⟩
theorem tw6242844630546539622:True:=⟨⟩
theorem tw11476253306716732098:True:=⟨⟩
theorem tw300805901700677814:True:=⟨⟩
theorem tw6628954262858606177:True:=⟨⟩
theorem tw14766628837263464153:True:=⟨⟩
theorem tw13043773894940636711:True:=⟨⟩
theorem tw4292124644429209710:True:=⟨⟩
theorem tw5334196227619403248:True:=⟨⟩
theorem tw17745206419663925312:True:=⟨⟩
theorem tw14194955961183906216:True:=⟨⟩
theorem tw7839861392634791998:True:=⟨⟩
theorem tw3020274298221478276:True:=⟨⟩
theorem tw603594558354810906:True:=⟨⟩
theorem tw9276349011584097663:True:=⟨⟩
theorem tw15225203370459425167:True:=⟨⟩
theorem tw14330866029970894518:True:=⟨⟩
theorem tw7839665609038958061:True:=⟨⟩
theorem tw18001230695176581838:True:=⟨⟩
theorem tw11165862883734934737:True:=⟨⟩
theorem tw8764165114954018434:True:=⟨⟩
theorem tw18313958262992902728:True:=⟨⟩
theorem tw18002567053797782338:True:=⟨⟩
theorem tw1992405202823017090:True:=⟨⟩
theorem tw16644201821892198081:True:=⟨⟩
theorem tw13988012559056256269:True:=⟨⟩
theorem tw9747750627657676039:True:=⟨⟩
theorem tw5079330015975024831:True:=⟨⟩
theorem tw1054193203847066139:True:=⟨⟩
theorem tw628826382804869247:True:=⟨⟩
theorem tw17327716533671561472:True:=⟨⟩
theorem tw15516504957378829982:True:=⟨⟩
theorem tw17726528137139725750:True:=⟨⟩
theorem tw14851662188348016525:True:=⟨⟩
theorem tw3751741238260587452:True:=⟨⟩
theorem tw3490399344014754336:True:=⟨⟩
theorem tw17649359072929089521:True:=⟨⟩
theorem tw2382034009712293678:True:=⟨⟩
theorem tw5486493490053360157:True:=⟨⟩
theorem tw9476430485693431450:True:=⟨⟩
theorem tw17106247454124805299:True:=⟨⟩
theorem tw6825794384878216377:True:=⟨⟩
theorem tw5417052755585727704:True:=⟨⟩
theorem tw12284123929361467263:True:=⟨⟩
theorem tw3312639428575888987:True:=⟨⟩
theorem tw9789424005658652060:True:=⟨⟩
theorem tw141379768648097825:True:=⟨⟩
theorem tw23782410387766747:True:=⟨⟩
theorem tw10126381309830911881:True:=⟨⟩
theorem tw7006778573905313780:True:=⟨⟩
theorem tw8890726212758104139:True:=⟨⟩
theorem tw9890486908861537314:True:=⟨⟩
theorem tw2173964782534647824:True:=⟨⟩
theorem tw3076281753983609132:True:=⟨⟩
theorem tw575013793201982967:True:=⟨⟩
theorem tw13419187558397840302:True:=⟨⟩
theorem tw5109666268216251906:True:=⟨⟩
theorem tw14748202508994206304:True:=⟨⟩
theorem tw15159037216627234430:True:=⟨⟩
theorem tw1683386595620631065:True:=⟨⟩
theorem tw13906474501362330898:True:=⟨⟩
theorem tw11934350699983728027:True:=⟨⟩
theorem tw4790182246096814837:True:=⟨⟩
theorem tw15853310828070532535:True:=⟨⟩
theorem tw17148754175671867601:True:=⟨⟩
theorem tw10372862954197239038:True:=⟨⟩
theorem tw6383293400628747032:True:=⟨⟩
theorem tw108628474097788189:True:=⟨⟩
theorem tw735499216457412341:True:=⟨⟩
theorem tw126899189614909607:True:=⟨⟩
theorem tw10662918880931068272:True:=⟨⟩
theorem tw1280408269989808285:True:=⟨⟩
theorem tw5533284921534288411:True:=⟨⟩
theorem tw6085440867620428456:True:=⟨⟩
theorem tw11570111164570437037:True:=⟨⟩
theorem tw1546340448729182881:True:=⟨⟩
theorem tw11203017424089718567:True:=⟨⟩
theorem tw15223492777120693883:True:=⟨⟩
theorem tw12917232920993665263:True:=⟨⟩
theorem tw15149605427897886594:True:=⟨⟩
theorem tw12244642940982955139:True:=⟨⟩
theorem tw9180358300632990600:True:=⟨⟩
theorem tw14199497947161861042:True:=⟨⟩
theorem tw6816647734673517018:True:=⟨⟩
theorem tw2945573407119048913:True:=⟨⟩
theorem tw282853815025772797:True:=⟨⟩
theorem tw15261327702332350574:True:=⟨⟩
theorem tw1031428695399204927:True:=⟨⟩
theorem tw1626954789893016217:True:=⟨⟩
theorem tw16655954734093074254:True:=⟨⟩
theorem tw3471617488691342163:True:=⟨⟩
theorem tw8722938342819674158:True:=⟨⟩
theorem tw18260245816743181511:True:=⟨⟩
theorem tw2155373148024153087:True:=⟨⟩
theorem tw15316345098567071963:True:=⟨⟩
theorem tw11239992877300529265:True:=⟨⟩
theorem tw16874378897286668274:True:=⟨⟩
theorem tw7504022934668878425:True:=⟨⟩
theorem tw8390539997926843411:True:=⟨⟩
theorem tw11088927850717895089:True:=⟨⟩
theorem tw736559914600380603:True:=⟨⟩
theorem tw10671393477618117455:True:=⟨⟩
theorem tw11812990402858981387:True:=⟨⟩
theorem tw13710641527124264074:True:=⟨⟩
theorem tw10507069991603443811:True:=⟨⟩
theorem tw10653787613812552760:True:=⟨⟩
theorem tw8434754763198761545:True:=⟨⟩
theorem tw14846430730451215336:True:=⟨⟩
theorem tw15293771430684577509:True:=⟨⟩
theorem tw4144914912218024235:True:=⟨⟩
theorem tw10981247840145607329:True:=⟨⟩
theorem tw10592794516085672850:True:=⟨⟩
theorem tw18280231356768202928:True:=⟨⟩
theorem tw865256926295866735:True:=⟨⟩
theorem tw14204155614346801693:True:=⟨⟩
theorem tw15614994299816657964:True:=⟨⟩
theorem tw17287459089854585945:True:=⟨⟩
theorem tw17244905008012452814:True:=⟨⟩
theorem tw5216735753287636777:True:=⟨⟩
theorem tw11815352881546339388:True:=⟨⟩
theorem tw1756488131837449251:True:=⟨⟩
theorem tw4238237510807071390:True:=⟨⟩
theorem tw17873168446024335648:True:=⟨⟩
theorem tw1555437378128666086:True:=⟨⟩
theorem tw7928477069593319606:True:=⟨⟩
theorem tw2116293081078497426:True:=⟨⟩
theorem tw16633321846759511662:True:=⟨⟩
theorem tw12387470312852788890:True:=⟨⟩
theorem tw5759647067039785218:True:=⟨⟩
theorem tw13331704739837112769:True:=⟨⟩
theorem tw1838016361993159935:True:=⟨⟩
theorem tw12010918843540018363:True:=⟨⟩
theorem tw8951929521115724387:True:=⟨⟩
theorem tw7730664659590461041:True:=⟨⟩
theorem tw16064010049021166651:True:=⟨⟩
theorem tw17417785148129514321:True:=⟨⟩
theorem tw6812285832159228509:True:=⟨⟩
theorem tw15500087614575406076:True:=⟨⟩
theorem tw10042994531442391968:True:=⟨⟩
theorem tw17510691922017120571:True:=⟨⟩
theorem tw16671430358935201974:True:=⟨⟩
theorem tw9221647939110133654:True:=⟨⟩
theorem tw4544679596462431387:True:=⟨⟩
theorem tw15459919231471728178:True:=⟨⟩
theorem tw13308291806819139472:True:=⟨⟩
theorem tw5165858259965997201:True:=⟨⟩
theorem tw10257909930514227660:True:=⟨⟩
theorem tw5109750279720785074:True:=⟨⟩
theorem tw15441256140065102201:True:=⟨⟩
theorem tw2686811819572748776:True:=⟨⟩
theorem tw2487633121026635805:True:=⟨⟩
theorem tw18264486928267264063:True:=⟨⟩
theorem tw6897007368991420636:True:=⟨⟩
theorem tw824908336922484637:True:=⟨⟩
theorem tw5462893749543862879:True:=⟨⟩
theorem tw14228869016593613808:True:=⟨⟩
theorem tw1479440292816680990:True:=⟨⟩
theorem tw17562630884545722471:True:=⟨⟩
theorem tw12289785986931056098:True:=⟨⟩
theorem tw11585793122591300342:True:=⟨⟩
theorem tw9156451550823312209:True:=⟨⟩
theorem tw6128699546485818623:True:=⟨⟩
theorem tw13419790239819088309:True:=⟨⟩
theorem tw2395360589981782600:True:=⟨⟩
theorem tw1513407473488127497:True:=⟨⟩
theorem tw17237978297281736309:True:=⟨⟩
theorem tw15051540443700079324:True:=⟨⟩
theorem tw13436793889874751463:True:=⟨⟩
theorem tw6034331834246549318:True:=⟨⟩
theorem tw11810988563341916252:True:=⟨⟩
theorem tw15230860919284253270:True:=⟨⟩
theorem tw2241180450144564393:True:=⟨⟩
theorem tw16561031784554278298:True:=⟨⟩
theorem tw6418394132375852581:True:=⟨⟩
theorem tw8673760779264423547:True:=⟨⟩
theorem tw14946310595379027892:True:=⟨⟩
theorem tw1037384927157171198:True:=⟨⟩
theorem tw18153037698230563350:True:=⟨⟩
theorem tw1012283531466006538:True:=⟨⟩
theorem tw543636222009071611:True:=⟨⟩
theorem tw5594199804548315133:True:=⟨⟩
theorem tw14076141398139754965:True:=⟨⟩
theorem tw7011742071773796823:True:=⟨⟩
theorem tw7107885837275350853:True:=⟨⟩
theorem tw10976678710191227778:True:=⟨⟩
theorem tw6231300445862588781:True:=⟨⟩
theorem tw15446708149075816471:True:=⟨⟩
theorem tw9366875484532515407:True:=⟨⟩
theorem tw9750805133090239139:True:=⟨⟩
theorem tw15725300006707927175:True:=⟨⟩
theorem tw5851193364365344550:True:=⟨⟩
theorem tw1160317203684671307:True:=⟨⟩
theorem tw8494178379519767217:True:=⟨⟩
theorem tw597430841090971830:True:=⟨⟩
theorem tw9464389324830640952:True:=⟨⟩
theorem tw11043565332798135927:True:=⟨⟩
theorem tw18229235640690726180:True:=⟨⟩
theorem tw10611771540298893143:True:=⟨⟩
theorem tw12917748928761252462:True:=⟨⟩
theorem tw8899746735614894663:True:=⟨⟩
theorem tw3058765270845314565:True:=⟨⟩
theorem tw7333407450560187677:True:=⟨⟩
theorem tw7363439029260755892:True:=⟨⟩
theorem tw6742079255410503971:True:=⟨⟩
theorem tw15313804776001833728:True:=⟨⟩
theorem tw4229197034057890473:True:=⟨⟩
theorem tw8019583575661373409:True:=⟨⟩
theorem tw6584964919600876763:True:=⟨⟩
theorem tw7863745022479089229:True:=⟨⟩
theorem tw10954896027920521500:True:=⟨⟩
theorem tw9673087150982176410:True:=⟨⟩
theorem tw10000147801426223185:True:=⟨⟩
theorem tw8637924245605089610:True:=⟨⟩
theorem tw8580518863689810338:True:=⟨⟩
theorem tw11243312107713688672:True:=⟨⟩
theorem tw14791417324727343718:True:=⟨⟩
theorem tw11423366701579904857:True:=⟨⟩
theorem tw7725136303273869104:True:=⟨⟩
theorem tw15701150078927059332:True:=⟨⟩
theorem tw3692403537964248751:True:=⟨⟩
theorem tw17434134621593834515:True:=⟨⟩
theorem tw6508381975028658727:True:=⟨⟩
theorem tw5587868097446475073:True:=⟨⟩
theorem tw9729328000736971776:True:=⟨⟩
theorem tw6264115543738340563:True:=⟨⟩
theorem tw3896432864908169337:True:=⟨⟩
theorem tw12801012565498045964:True:=⟨⟩
theorem tw3021591670899415238:True:=⟨⟩
theorem tw13673710656853086251:True:=⟨⟩
theorem tw80207222412747470:True:=⟨⟩
theorem tw11285474334439850512:True:=⟨⟩
theorem tw11155353856842241703:True:=⟨⟩
theorem tw12538513643702813137:True:=⟨⟩
theorem tw5604250919994444252:True:=⟨⟩
theorem tw3361780842719999595:True:=⟨⟩
theorem tw12880814279002953203:True:=⟨⟩
theorem tw4834755124440303813:True:=⟨⟩
theorem tw14464905232160263559:True:=⟨⟩
theorem tw2177979273374649106:True:=⟨⟩
theorem tw14321712812228375884:True:=⟨⟩
theorem tw9003164874222133143:True:=⟨⟩
theorem tw16049856711259736594:True:=⟨⟩
theorem tw9417033243287817803:True:=⟨⟩
theorem tw1942723855846508794:True:=⟨⟩
theorem tw8620653264166131082:True:=⟨⟩
theorem tw2848176756851099411:True:=⟨⟩
theorem tw8036090433128229644:True:=⟨⟩
theorem tw3844737390442312636:True:=⟨⟩
theorem tw6467283406827068179:True:=⟨⟩
theorem tw4145734269368685771:True:=⟨⟩
theorem tw2114883523508822293:True:=⟨⟩
theorem tw15015567032572629849:True:=⟨⟩
theorem tw18150562674833509941:True:=⟨⟩
theorem tw4195166080166848607:True:=⟨⟩
theorem tw15008555091322755903:True:=⟨⟩
theorem tw420110763358337415:True:=⟨⟩
theorem tw17204449605386721941:True:=⟨⟩
theorem tw3780787445193727532:True:=⟨⟩
theorem tw15972030042294211563:True:=⟨⟩
theorem tw17896979994045829828:True:=⟨⟩
theorem tw4572055151466897615:True:=⟨⟩
theorem tw8455509636433690358:True:=⟨⟩
theorem tw16565524653916279877:True:=⟨⟩
theorem tw14479959197142875710:True:=⟨⟩
theorem tw3062554034549116351:True:=⟨⟩
theorem tw16192249821931289364:True:=⟨⟩
theorem tw14170626163746665929:True:=⟨⟩
theorem tw9878135420369046608:True:=⟨⟩
theorem tw15544853520655005638:True:=⟨⟩
theorem tw4158538966326616356:True:=⟨⟩
theorem tw16009306857160682382:True:=⟨⟩
theorem tw9692193050773601005:True:=⟨⟩
theorem tw3641903923722224168:True:=⟨⟩
theorem tw16973133056051306746:True:=⟨⟩
theorem tw10913585522690886933:True:=⟨⟩
theorem tw11747188248321908775:True:=⟨⟩
theorem tw4046006658929772563:True:=⟨⟩
theorem tw5341809566279681677:True:=⟨⟩
theorem tw4580503599796880451:True:=⟨⟩
theorem tw12686187017528088570:True:=⟨⟩
theorem tw15543686343998150267:True:=⟨⟩
theorem tw5724385439037551122:True:=⟨⟩
theorem tw4283553116144290227:True:=⟨⟩
theorem tw2631303179624582516:True:=⟨⟩
theorem tw16607972267231536329:True:=⟨⟩
theorem tw5910955368310942365:True:=⟨⟩
theorem tw6046201485432095634:True:=⟨⟩
theorem tw4873480283540838167:True:=⟨⟩
theorem tw3241314515751092627:True:=⟨⟩
theorem tw9139467792480963413:True:=⟨⟩
theorem tw580301670077480640:True:=⟨⟩
theorem tw16698072605275554026:True:=⟨⟩
theorem tw9193979096431994668:True:=⟨⟩
theorem tw8583156150137307454:True:=⟨⟩
theorem tw9666415797876524396:True:=⟨⟩
theorem tw11082318014727886095:True:=⟨⟩
theorem tw2417802982746472137:True:=⟨⟩
theorem tw9812517637422296469:True:=⟨⟩
theorem tw2130250830938240763:True:=⟨⟩
theorem tw17957003029002879876:True:=⟨⟩
theorem tw17775649180985745786:True:=⟨⟩
theorem tw11798513794507384182:True:=⟨⟩
theorem tw6196946367736269074:True:=⟨⟩
theorem tw17213202801741711188:True:=⟨⟩
theorem tw13414662886053400026:True:=⟨⟩
theorem tw270159884227141191:True:=⟨⟩
theorem tw17548301592722837999:True:=⟨⟩
theorem tw16531839799347345522:True:=⟨⟩
theorem tw10169186735810369720:True:=⟨⟩
theorem tw8631647698044649071:True:=⟨⟩
theorem tw8113946606531873331:True:=⟨⟩
theorem tw4239049415839531936:True:=⟨⟩
theorem tw9027985886240724871:True:=⟨⟩
theorem tw15184348022372230366:True:=⟨⟩
theorem tw12149660499277099224:True:=⟨⟩
theorem tw9257564877634915833:True:=⟨⟩
theorem tw15831449180804048182:True:=⟨⟩
theorem tw1697823684261348857:True:=⟨⟩
theorem tw16331016480089262388:True:=⟨⟩
theorem tw1109879514587821502:True:=⟨⟩
theorem tw5230819049809251669:True:=⟨⟩
theorem tw9013603393401162020:True:=⟨⟩
theorem tw4855435815858847083:True:=⟨⟩
theorem tw16732195475098059574:True:=⟨⟩
theorem tw9368504840272485767:True:=⟨⟩
theorem tw8994223850203857199:True:=⟨⟩
theorem tw17059487216203745038:True:=⟨⟩
theorem tw10652557068286136655:True:=⟨⟩
theorem tw7252744027004354421:True:=⟨⟩
theorem tw10418821070498059912:True:=⟨⟩
theorem tw740585118569290451:True:=⟨⟩
theorem tw10314814847376767113:True:=⟨⟩
theorem tw5963049168890907350:True:=⟨⟩
theorem tw12899943327723670910:True:=⟨⟩
theorem tw14019357707464180739:True:=⟨⟩
theorem tw10503033235834121926:True:=⟨⟩
theorem tw567898682632124531:True:=⟨⟩
theorem tw15421991425785364888:True:=⟨⟩
theorem tw13328685486522007690:True:=⟨⟩
theorem tw1479959440485337153:True:=⟨⟩
theorem tw455996952264472808:True:=⟨⟩
theorem tw8547976606474840627:True:=⟨⟩
theorem tw14323767728887713897:True:=⟨⟩
theorem tw5630533868503338980:True:=⟨⟩
theorem tw18059793885086720939:True:=⟨⟩
theorem tw6276673660110437445:True:=⟨⟩
theorem tw18315960055377521309:True:=⟨⟩
theorem tw1523212933880916979:True:=⟨⟩
theorem tw1532897608927182526:True:=⟨⟩
theorem tw11247596177762554077:True:=⟨⟩
theorem tw14784423416584386534:True:=⟨⟩
theorem tw14885124812403076695:True:=⟨⟩
theorem tw7339385377263174568:True:=⟨⟩
theorem tw10261226752179379232:True:=⟨⟩
theorem tw8594091374061654533:True:=⟨⟩
theorem tw16953484572288141156:True:=⟨⟩
theorem tw9372208762206411727:True:=⟨⟩
theorem tw1298781202104834068:True:=⟨⟩
theorem tw10193104807299194216:True:=⟨⟩
theorem tw9285060498679892708:True:=⟨⟩
theorem tw9826395005243518002:True:=⟨⟩
theorem tw6078900312468773854:True:=⟨⟩
theorem tw5636303146250169470:True:=⟨⟩
theorem tw6362447207671622590:True:=⟨⟩
theorem tw13899552438925236054:True:=⟨⟩
theorem tw6496468359453899740:True:=⟨⟩
theorem tw14569192112799493162:True:=⟨⟩
theorem tw2020803619703236336:True:=⟨⟩
theorem tw10980597926105621645:True:=⟨⟩
theorem tw5129100327938481947:True:=⟨⟩
theorem tw13862642468083079315:True:=⟨⟩
theorem tw15161326946880079398:True:=⟨⟩
theorem tw13721701085657304472:True:=⟨⟩
theorem tw16490958093706603973:True:=⟨⟩
theorem tw7104915865109316593:True:=⟨⟩
theorem tw1292574782506224866:True:=⟨⟩
theorem tw9365843419700471067:True:=⟨⟩
theorem tw10010880442989136664:True:=⟨⟩
theorem tw18272491874396864091:True:=⟨⟩
theorem tw6937358630062677789:True:=⟨⟩
theorem tw7670109990956578547:True:=⟨⟩
theorem tw9687556985513317663:True:=⟨⟩
theorem tw1324119301739381:True:=⟨⟩
theorem tw10621388907404269886:True:=⟨⟩
theorem tw9796135349374289567:True:=⟨⟩
theorem tw16796304966864959579:True:=⟨⟩
theorem tw5588271506499744379:True:=⟨⟩
theorem tw4577393864431605276:True:=⟨⟩
theorem tw14514996853120130799:True:=⟨⟩
end hd
set_option maxHeartbeats 8000000 in
set_option Elab.async true in
theorem hd:PySem.Challenge.rw_in0100_01.row.Holds:=by
 o_head hookM
 case hw=>w_witness2
 case hc=>exact walk _ _ _ _ _ rfl
theorem holds:PySem.Challenge.rw_in0100_01.Holds:=hk hd
end Mine.Internal
theorem PySem.Challenge.cw_in0100_01_holds : PySem.Challenge.rw_in0100_01.Holds :=
 Mine.Internal.holds
