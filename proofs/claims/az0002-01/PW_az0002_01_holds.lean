import PyProof.Rows.All
import Wide.All
import OpenK.AllK
import Wide.FinOn
import PySem.Challenge.RW_az0002_01
open PySem.Str renaming ofString→a5,mk→nU
open Option.some renaming inj→a6,injEq→oX
open List renaming length_map→a7,mem_singleton→aA,map_cons→aG,length_append→aH,getElem?_map→aK,mem_cons_self→aO,all_eq_true→aP,map_nil→aQ,length_cons→aR,mem_of_getElem?→aT,mem_cons_of_mem→aU,getElem?_cons_succ→aV,getElem?_eq_getElem→aW,getElem?_set_ne→aX,map_append→aY,getElem?_cons_zero→b7,take_length→b8,length_filter_le→b9,getElem?_eq_some_iff→bA,filterMap_cons→bB,mem_cons→bC,getElem?_append_left→bD,contains_iff_mem→bF,length_nil→bG,zip_cons_cons→bJ,append_assoc→bK,length_take→bP,lookup_cons→bQ,any_cons→bS,zip_nil_right→bT,mem_filter→bU,mem_append→bW,getElem?_append_right→bX,filterMap_nil→bY,drop_succ_cons→bZ,cons_append→c0,drop_zero→c5,not_mem_nil→c7,map_map→c8,mem_filterMap→c9,all_cons→cA,filter_cons→cB,getElem?_eq_none→cE,nil_append→cI,lookup_nil→cJ,isEmpty_iff→cK,nodup_append→cL,flatMap_cons→cM,mem_map→cQ,mem_append_right→cR,mem_append_left→cV,size_toArray→cX,mem_map_of_mem→cY,set_cons_zero→d8,set_cons_succ→d9,any_nil→dA,all_nil→dB,append_nil→dG,range→dJ,length_singleton→dK,filter_append→dN,flatMap_append→dQ,take_append_drop→dW,length_eq_zero_iff→eJ,contains_cons→eN,nodup_cons→eP,length_range→eU,toArray→eW,casesOn→f0,take_zero→f7,mem_range→f9,getElem_mem→fP,length→fW,length_set→fZ,length_zip→g0,getElem?_eq_none_iff→gA,of_mem_zip→gC,drop_eq_getElem_cons→gE,nodup_nil→gP,getElem?_set_self→gV,take_of_length_le→gW,any_eq_true→hG,pairwise_of_forall_mem_list→hJ,set_append_right→hU,filterMap_append→i1,mem_of_mem_take→i9,getElem_of_mem→iC,pairwise_cons→iL,map_take→iR,foldl_append→iW,getElem?_zip_eq_some→iZ,set_set→jI,mem_flatMap→jJ,length_filterMap_le→jK,length_drop→jL,forIn_cons→jS,filter_nil→jT,drop_eq_nil_of_le→jX,filter_eq_nil_iff→k6,set_getElem_self→kE,isEmpty_toArray→kM,mem_of_mem_drop→kP,getElem?_mapIdx→kR,map_drop→kU,map_congr_left→l5,getElem?_range→lD,length_zipIdx→lO,any_eq_false→lU,map_inj_left→lY,take_add_one→lZ,ext_getElem?→m0,any_toArray→mB,map_fst_zip→mI,map_flatMap→mK,find?_cons→mO,foldl_cons→mV
open PySem renaming wpAny_bind→a8,wpAny_mono→aE,wpAny_pure→aS,strKind→bI,wpAny_holding→c6,wpAny_standAt→cP,wpAny_evalAll_nil→dF,typeIs_str→e8,wpAny_ite→eM,Str→fA,call_meets→fK,wpAny_call→fN,wpAny_execs_nil→gB,wpAny_loadPart_at→gU,wpAny_execs_cons→gZ,plainObj_wpAny_Assign_Attribute→i2,codeAny_call_builtin→i6,mem_of_lookup→iD,wpAny_of_eq→iG,wpAny_field→iH,wpAny_Constant_str→iI,frameOf→iO,wpAny_assign_Name→iT,wpAny_Return_some→iU,codeAny_builtin→jP,codeAny_of_tree→jQ,wpAny_pyNext_list_item→jW,wpAny_pyNext_list_end→kA,wpAny_loadPart→kG,codeAny_call_function→kJ,wpAny_newFunctionEnv→kN,wpAny_Constant_none→l6,wpAny_Constant_bool→l8,wpAny_isSubtype_exc→lC,evalPart_none_step→lI,wpAny_Constant_int→lK,wpAny_pyIter_list→lR,wpAny_truthy_bool→lT,wpAny_pyIter_enum→lW,slot_dict_setitem→lX,wpAny_isInstance→m9,wpAny_askSetting→mE,wpAny_lookBehind→mG,pastItsLine_dict→mH,wpAny_Name→mM,wpAny_rule→mQ,passOn→o6,Fin→oV
open Eq renaming trans→a9,symm→bH
open Option renaming bind_eq_some_iff→aB,map_some→aD,map_eq_some_iff→aJ,isSome_some→aZ,bind_some→bL,isSome_iff_exists→bM,map→dR,getD_some→eF,isSome_none→eQ,isNone_iff_eq_none→gD,map_map→kK,isSome_map→lV,getD_none→mL,all_some→mP,all_none→mT,map_none→mU,bind→oE
open Bool renaming false_ne_true→aC,and_eq_true→aF,false_eq_true→bR,true_eq_false→c4,or_eq_true→cZ,not_eq_true'→dE,not_true→dZ,and_eq_true_iff→eA,noConfusion→eG,eq_iff_iff→eO,eq_false_iff→eT,not_not→f6,not_false→f8,or_eq_false_iff→fO,true_and→iN,or_true→jG,false_or→kT,or_eq_true_iff→kY,and_false→mZ,false_and→nB,and_self→nG,and_true→nH
open PySem.Builtin.Str renaming occurrences→aI,occurrences→gQ,partsBetween→j9,strKind→kX
open Nat renaming le_trans→aL,le_refl→aN,zero_le→bN,add_le_add_left→cC,zero_add→cF,lt_irrefl→cN,le_antisymm→cS,lt_succ_self→cU,add_le_add_right→dC,ne_of_lt→dH,le_of_ble_eq_true→dU,reduceAdd→dY,le_add_right→eB,ne_of_gt→eE,add_zero→eH,add_le_add→eV,le_of_lt→eZ,le_succ→fY,le_add_left→gF,lt_of_lt_of_le→gG,lt_of_lt_of_eq→gI,sub_self→gN,add_sub_cancel_left→gS,le_of_not_le→gY,lt_of_le_of_lt→iK,succ_ne_zero→j3,min_eq_right→j5,min_le_right→j6,min_self→jC,succ_ne_self→jF,min_eq_left→jR,mul_one→jU,mul_le_mul_left→kW,zero_mul→lE,le_of_eq→lF,eq_zero_or_pos→lM,lt_succ_of_lt→lS,lt_of_not_le→m7,le_of_not_lt→m8,lt_add_right→mA,not_lt_zero→mS,add_comm→nN,ble→oF
open Classical renaming byContradiction→aM,choice→m6
open PySem.Heap renaming get?_push_of_some→bE,get?_push_size→bO,lt_size→cG,get?_update_self→d6,get?_update_other→dI,SameBut→gM,size_push→gO,get?_none_of_le→kQ
open PySem.W.Fast renaming tw14364793385576792824→bV,tw15667345088766844465→fB,tw11892475500146522536→fE,tw10110043849684766642→fF,tw14082659384304107361→fG,tw4187177175401517315→fU,tw9446332074065402090→iQ
open Or renaming elim→cD
open Int renaming reduceToNat→cT,toNat→dL,toNat_natCast→dO,ofNat_lt→iA,eq_ofNat_of_zero_le→jM,ofNat_add_one_out→kD,natCast_nonneg→lG,emod_lt_of_pos→lN,max_eq_right→mC,emod_nonneg→mW,ofNat_le→o4
open Ne renaming symm→cW
open PySem.F renaming called_set→d7,slot_list_append→gJ,args_str_split_2→gK,entry_str_split→gR,slot_str_split→gX,slot_str_mod→i5,args_list_append_2→iM,entry_list_append→iY,excBase_Exception→j2,slot_list_extend→j8,slot_dict_values→jE,args_str_mod_2→jV,fills_str_mod→k8,entry_str_mod→k9,slot_list_pop→kB
open PySem.Challenge renaming rw_az0002_01→dD,pw_az0002_01→mY
open PySem.Calls renaming spliced_cons→dM,spliced_nil→dP
open PyProof.Rows.F renaming plain_set_update_loop→dS,entry_set_update_loop→gH
open PySem.Value renaming ref→dT,none→fM,builtin→fQ,type→iX,str→jO,isStrOf→kS
open Prod.mk renaming injEq→dX,inj→eS
open PySem.Env renaming kindOf→e9
open PySem.NameKind renaming free→eK,cell→fT
open PySem.W renaming callWith_of→eR,hideAll_none→eY,boot_heap→fD,plainGet_of→fX,looks_findIn→j7,hideAll_get→jZ,keeps_K→lP,looks_mroIn→m4,looks_clsIn→m5
open Array renaming getElem?_eq_some_iff→fR,toArray_toList→i4,getElem?_eq_getElem→j1,find?_toList→lH
open Iff renaming rfl→fV
open PySem.Keeper renaming boundFrame→gT,machine→iF,frame→jD
open PySem.W.KPc renaming ite_no→i3,Good→iE,short_good→k7,ite_yes→m3,obj_none→nP,turn→nQ,good_add→nR
open PySem.Obj renaming mapSeq→i7,mapFields→iP,isFreed_of_fields→kF,data_mapDictKeys→kO,isFreed_of_dict→l9,data_mapFields→lJ,putNameByArray→lL,data_mapDict→mF,putName_eq→nA,putName→oD
open PySem.W.Looks renaming here→i8
open PySem.Heap.SameBut renaming update→iB
open PySem.Builtin.Range renaming rangeFitsLong→iJ,rangeSize→jN,small→kZ
open PyProof.Rows renaming getMethod_list_of→iS,Fr→mR,setObjOf_fresh→nD,pow_int_small→nE,getItem_tuple→nF,truthy_tuple→nJ,floordiv_int→nK,call_abs_int→nM,truthy_none→nZ,getItem_str→o0,truthy_int→o7,notIn_str→oA,len_tuple→oB,len_list→oG,add_int→oH,sub_int→oK,mod_int→oM,len_str→oN,in_str→oP,lt_int→oQ,gt_int→oR,ge_int→oS
open Function renaming comp_def→iV
open Nat.succ renaming inj→j4
open PySem.Builtin.List renaming listTooLong→jA
open PySem.AutoSeq1 renaming wpAny_loadPart'→jB
open PySem.Code renaming builtin→jH
open PySem.Around renaming under_of_weight→jY,under_plainId→kL
open PySem.Value.type renaming inj→kC
open PySem.EntryCells renaming newEntry→l4
open Decidable renaming not_not→lQ
open PySem.DictEntry renaming refKey→mD
open PySem.Builtin.Frozenset renaming updateFrom→mX
open PySem.SeqAt.EqAt renaming str_str→nV,int_int→nY
open Prod renaming ext→o5
open PySem.Builtin.Dict renaming notOrdered→o8
open PySem.Meets renaming of_wp→o9
open PySem.BoolOp renaming And→oO
open PySem.Heap.IsSliceOf renaming new→oU
open List.Pairwise renaming nil→oY
open PySem.W.Ground renaming X→oZ
open PySem renaming Program→Aa,World→Ab,Heap→Ac,Shared→Ad,Around→Ae,Value→Af,Expr→Ag,Scope→Ah,Env→Ai
open PySem PySem.W PyProof.Rows PySem.SeqAt
set_option Elab.async false
set_option maxRecDepth 100000
set_option maxHeartbeats 8000000
set_option linter.all false
set_option compiler.extract_closed false
set_option tactic.hygienic false
namespace Mine
protected def rdN(s:String):Lean.Name:=match s.splitOn "." with
 |[]=>.anonymous
 |a::l=>l.foldl .str (if a=="T" then`Lean.Parser.Tactic else if a=="U" then`Lean.Parser.Term else .str .anonymous a)
protected def nd(k:Lean.Name)(st:List Lean.Syntax):List Lean.Syntax:=
 let l:=st.takeWhile (!·.isMissing)
 .node .none k l.reverse.toArray::st.drop (l.length+1)
protected def rd(ex:List (List Lean.Syntax))(st:List Lean.Syntax)(t:String):List Lean.Syntax:=
 let c:=t.front
 let r:=String.ofList (t.toList.drop 1)
 if c=='(' then .missing::st
 else if c==')' then Mine.nd (Mine.rdN r) st
 else if c=='\'' then .atom .none r::st
 else if c=='$' then(ex.getD (r.toNat?.getD 1) []).reverse++st
 else .ident .none t.toRawSubstring (Mine.rdN t) []::st
protected def ab:List (String×String):=[("L%","( '( ( $0 )hygieneInfo )U.hygienicLParen"),("a!","W{ ( 'assumption )T.assumption }W"),("r!","( 'exact rfl )T.exact"),("W{","( 'with_reducible {"),("}W","} )T.withReducible"),("{","( ( ("),("}",")null )T.tacticSeq1Indented )T.tacticSeq")]
protected def rs(ex:List (List Lean.Syntax))(s:String):Lean.Syntax:=
 (((Mine.ab.foldl (fun s p=>s.replace p.1 p.2) s).splitOn " ").foldl (Mine.rd ([.ident .none "".toRawSubstring .anonymous []]::ex)) []).headD .missing
protected def tb:List String:=["Aa!",
 "t( 'exact ( L% rfl ': ( ( true '= true )term_=_ )null ') )U.typeAscription )T.exact",
 "f( 'exact ( L% rfl ': ( ( false '= false )term_=_ )null ') )U.typeAscription )T.exact",
 "rr!",
 "L( 'focus { ( 'array_get_dec )Array.tacticArray_get_dec } )T.focus",
 "GW{ ( 'apply g_i )T.apply }W",
 "S( 'infer_instance )T.tacticInfer_instance",
 "g( 'focus { ( '( { ( '( { W{ ( 'apply g_i )T.apply }W } ') )T.paren '; ( '( { ( 'focus { ( 'array_get_dec )Array.tacticArray_get_dec } )T.focus } ') )T.paren '; r! } ') )T.paren } )T.focus",
 "D( 'focus { ( '( { ( 'array_get_dec )Array.tacticArray_get_dec '; ( 'done )T.done } ') )T.paren } )T.focus",
 "R( 'focus { ( '( { ( 'nofun )T.tacticNofun '; ( 'done )T.done } ') )T.paren } )T.focus",
 "O( 'first ( ( '| { a! } )group ( '| { ( '( { ( '( { W{ ( 'apply l_re )T.apply }W } ') )T.paren '; ( 'infer_instance )T.tacticInfer_instance } ') )T.paren } )group ( '| { r! } )group )null )T.first",
 "v( 'first ( ( '| { ( '( { ( '( { W{ ( 'apply g_v )T.apply }W } ') )T.paren '; ( 'exact ( L% rfl ': ( ( true '= true )term_=_ )null ') )U.typeAscription )T.exact '; ( '( { ( 'first ( ( '| { ( 'exact gl_ulawupatterns )T.exact } )group ( '| { ( 'exact gl_ulawufiles )T.exact } )group )null )T.first } ') )T.paren } ') )T.paren } )group ( '| { r! } )group )null )T.first",
 "k( 'first ( ( '| { ( 'exact ( mk_223 ( ( '_ )U.hole )null )U.app )T.exact } )group ( '| { ( 'exact ( mk_368 ( ( '_ )U.hole )null )U.app )T.exact } )group ( '| { r! } )group )null )T.first",
 "F( 'first ( ( '| { a! } )group ( '| { ( 'exact ( L% rfl ': ( ( false '= false )term_=_ )null ') )U.typeAscription )T.exact } )group )null )T.first",
 "T( 'first ( ( '| { a! } )group ( '| { ( 'exact ( L% rfl ': ( ( true '= true )term_=_ )null ') )U.typeAscription )T.exact } )group )null )T.first",
 "Q( 'first ( ( '| { ( 'exact ( eqs_same ( ( '_ )U.hole )null )U.app )T.exact } )group ( '| { a! } )group ( '| { r! } )group )null )T.first",
 "b( 'first ( ( '| { ( 'assumption )T.assumption } )group ( '| { r! } )group )null )T.first",
 "l( 'rotate_left ( )null )T.rotateLeft",
 "d( 'decide ( ( )null )T.optConfig )T.decide",
 "p( 'simp_arith! ( ( )null )T.optConfig ( )null ( )null ( '[ ( ( ( )null ( )null List.cons_append )T.simpLemma ', ( ( )null ( )null List.nil_append )T.simpLemma )null '] )null ( )null )T.simpArithBang",
 "q( 'simp_arith! ( ( )null )T.optConfig ( )null ( )null ( '[ ( ( ( )null ( )null setV )T.simpLemma )null '] )null ( )null )T.simpArithBang",
 "1( '( { ( '( { W{ ( 'show ( ( look ( ( '_ )U.hole ( '_ )U.hole )null )U.app '= ( '_ )U.hole )term_=_ )T.show }W } ') )T.paren '; ( '( { ( 'focus { ( '( { ( 'array_get_dec )Array.tacticArray_get_dec '; ( 'done )T.done } ') )T.paren } )T.focus } ') )T.paren } ') )T.paren",
 "2( '( { ( '( { W{ ( 'show ( ( '_ )U.hole '≤ lim )term_≤_ )T.show }W } ') )T.paren '; ( 'exact ( Nat.le_of_ble_eq_true ( ( L% rfl ': ( ( true '= true )term_=_ )null ') )U.typeAscription )null )U.app )T.exact } ') )T.paren",
 "3( '( { ( '( { W{ ( 'show ( ( '_ )U.hole '< lim )term_<_ )T.show }W } ') )T.paren '; ( 'exact ( Nat.le_of_ble_eq_true ( ( L% rfl ': ( ( true '= true )term_=_ )null ') )U.typeAscription )null )U.app )T.exact } ') )T.paren",
 "4( '( { ( '( { W{ ( 'show ( ( callD ( ( '_ )U.hole ( '_ )U.hole ( '_ )U.hole ( '_ )U.hole ( '_ )U.hole ( '_ )U.hole )null )U.app '= ( '_ )U.hole )term_=_ )T.show }W } ') )T.paren '; ( 'assumption )T.assumption } ') )T.paren",
 "a( 'assumption )T.assumption"]
protected def ch(c:Char):Lean.Syntax:=
 Mine.rs [] (String.ofList (((Mine.tb.find? fun s=>s.front==c).getD "").toList.drop 1))
protected def sq(l:List Lean.Syntax):Lean.Syntax:=Mine.rs [l.intersperse (.atom .none ";")] "( '( { $ } ') )T.paren"
protected def al:List String→List Lean.Syntax
 |e::n::s::r=>
  let t:=if e=="#" then[]else[Mine.rs [[.ident .none n.toRawSubstring (.str `Mine n) []]] (if e=="!" then "W{ ( 'exact $ )T.exact }W" else "W{ ( 'apply $ )T.apply }W")]
  Mine.rs [[Mine.sq (t++s.toList.map Mine.ch)]] "( '| { $ } )group"::Mine.al r
 |_=>[]
protected def lm(s:String):List Lean.Syntax:=
 ((s.splitOn " ").map fun x=>Mine.rs [if x.front=='↓' then[.node .none `Lean.Parser.Tactic.simpPre #[.atom .none "↓"]]else[],[.ident .none (x.replace "↓" "").toRawSubstring (Mine.rdN (x.replace "↓" "")) []]] "( ( $1 )null ( )null $2 )T.simpLemma").intersperse (.atom .none ",")
protected def ml:List Lean.Syntax:=Mine.lm "Out.bind_ok Out.bind_exc Out.bind_stuck ↓reduceIte decide_true decide_false if_true if_false Bool.false_eq_true Bool.true_eq_false"
protected def el:List Lean.Syntax:=Mine.lm "↓ev_compE evs"++.atom .none ","::Mine.ml++.atom .none ","::Mine.lm "look List.lookup_cons List.lookup_nil List.any_cons List.any_nil List.all_cons List.all_nil"
protected def fr(n:Lean.Name):Lean.MacroM (List Lean.Syntax):=do
 let n←Lean.Macro.addMacroScope n
 pure [.ident .none n.toString.toRawSubstring n []]
protected def fs(l:List Lean.Syntax)(x:Lean.Syntax)(s:String):Lean.MacroM Lean.Syntax:=do
 pure (Mine.rs [l++.atom .none ","::x[4][1].getArgs.toList,←Mine.fr `m,←Mine.fr `h,←Mine.fr `k] s)
protected def sg:Lean.Syntax:=Mine.rs [] "( 'first ( ( '| { a! } )group ( '| { W{ ( 'exact n_0 )T.exact }W } )group ( '| { W{ ( 'exact get_new )T.exact }W } )group ( '| { ( '( { ( '( { W{ ( 'apply n_j )T.apply }W } ') )T.paren '; r! } ') )T.paren } )group ( '| { ( '( { ( '( { W{ ( 'apply get_app )T.apply }W } ') )T.paren '; a! } ') )T.paren } )group )null )T.first"
protected def lo:Lean.Syntax:=Mine.rs [] "( 'repeat { ( '( { ( 'first ( ( '| { a! } )group ( '| { W{ ( 'exact q_eq )T.exact }W } )group ( '| { W{ ( 'exact q_pe )T.exact }W } )group ( '| { ( '( { ( '( { W{ ( 'apply q_ne )T.apply }W } ') )T.paren '; ( 'exact ( L% rfl ': ( ( false '= false )term_=_ )null ') )U.typeAscription )T.exact } ') )T.paren } )group ( '| { ( '( { ( '( { W{ ( 'apply q_pn )T.apply }W } ') )T.paren '; ( 'exact ( L% rfl ': ( ( false '= false )term_=_ )null ') )U.typeAscription )T.exact } ') )T.paren } )group ( '| { ( '( { ( '( { W{ ( 'apply ck_1 )T.apply }W } ') )T.paren '; r! } ') )T.paren } )group ( '| { ( '( { ( '( { W{ ( 'apply ck_2 )T.apply }W } ') )T.paren '; r! } ') )T.paren } )group ( '| { ( '( { ( '( { W{ ( 'apply ck_3 )T.apply }W } ') )T.paren '; r! '; ( 'exact ( L% rfl ': ( ( false '= false )term_=_ )null ') )U.typeAscription )T.exact } ') )T.paren } )group ( '| { ( '( { ( '( { W{ ( 'apply ck_n )T.apply }W } ') )T.paren '; r! '; ( 'exact ( L% rfl ': ( ( false '= false )term_=_ )null ') )U.typeAscription )T.exact } ') )T.paren } )group ( '| { ( '( { ( '( { W{ ( 'show ( ( look ( ( '_ )U.hole ( '_ )U.hole )null )U.app '= ( '_ )U.hole )term_=_ )T.show }W } ') )T.paren '; r! } ') )T.paren } )group )null )T.first } ') )T.paren } )T.tacticRepeat_"
protected def ru:Lean.Syntax:=Mine.rs [Mine.al ("#,,A,#,,t,#,,f,@,r_nm,Lt,@,r_gl,Lv,@,r_ax,,@,r_cn,,!,r_l0,,@,r_l1,,!,r_w0,,@,r_w1,,@,r_tc,,@,r_co,,@,r_nx,,@,r_me,,@,r_k,r,@,c_fn,Lrrf,@,c_mk,Lrrk,@,c_bi,Lrr,@,cap_0,r,@,cap_1,rtD,@,cap_2,rtDD,@,r_len,GLrGLrf,@,c_cl,Ltrf,!,u_0,,@,u_y,,@,b_ld,A,@,b_sr,Atr,@,b_si,At,@,j_s,lf,!,j_0,,@,j_c,,@,j_f,lr,@,b_lm,O,@,s_2,Otb,@,s_0,O,@,s_a,Otb,@,s_b,Otb,@,b_le,O,@,b_li,O,@,r_li,,@,r_tu,,@,r_bi,,@,r_sC,,@,r_sN,,@,r_sB,,@,r_sl,,!,r_p0,,@,r_p1,,@,r_bo,,@,r_b1,,@,r_bx,,@,o_t,t,@,o_f,f,@,r_tb,,!,r_a0,,!,r_o0,,@,r_ay,,@,r_ix,,@,r_tN,,@,r_tA,,@,r_tC,,@,r_tS,,@,k_in,Sr,@,k_li,Sr,@,m_fn,r,@,m_st,r,@,m_an,,@,m_as,A,@,m_ap,,@,m_ex,,@,m_po,,@,s_va,r,@,s_en,r,@,s_pl,r,@,b_is,,@,h_di,S,@,h_d1,SA,@,h_d0,SA,@,h_d1,S,@,h_d0,S,@,h_li,S,@,h_l1,SA,@,h_l0,SA,@,h_l1,S,@,h_l0,S,@,h_ls,,@,h_m1,A,@,h_m0,A,@,h_m1,,@,h_m0,,@,i_li,AA,@,i_lc,Atr,@,i_di,S,@,t_l1,SF,@,t_l0,ST,#,,1,@,n_lo,O,@,ex_is,gAtr,@,y_n,R,@,y_s,RtD,@,y_f,R,@,cm_a,,@,cm_e,,@,cm_o,,@,cm_i,,!,c_s1',,@,c_eq,rOOQ,@,c_t,A,@,c_f,A,@,c_b,A,@,c_s,A,@,c_lt,A,@,c_lf,A,@,c_ss,A,@,c_s1,A,@,c_s0,A,@,c_g1,A,@,c_g0,A,@,d_nw,trp,@,d_0,f,@,ml_l,lf,@,ml_j,ltrp,@,ml_r,lt,@,l_m,A,@,l_n,A,#,,2,#,,3,@,l_1000,d,@,g_i,Lr,@,p_a0,tq,@,p_at,Atq,@,l_re,,!,n_0,,@,get_app,A,@,n_j,r,#,,4,#,,r,#,,a".splitOn ",")] "( 'repeat' { ( 'first ( $ )null )T.first } )T.repeat'"
protected def idn(h:Lean.Syntax)(s:String):Lean.Syntax:=let n:=h.getId.toString++s;.ident .none n.toRawSubstring (.str .anonymous n) []
protected def ob:Nat→List Lean.Syntax→Lean.Syntax→List Lean.Syntax
 |0,_,_=>[]
 |_,[],_=>[]
 |n+1,[q],h=>
  if q.getKind==`Lean.Parser.Tactic.rcasesPat.tuple then Mine.ob n ((q[1].getArgs.toList.filter (!·.isAtom)).map fun l=>l[0][0][0]) h
  else if q[0].getId==`rfl then[Mine.rs [[h]] "( 'first ( ( '| { ( 'subst ( $1 )null )T.subst } )group ( '| { ( 'cases ( ( ( )null $1 )T.elimTarget )null ( )null ( )null )T.cases } )group )null )T.first"]else[]
 |n+1,q::r,h=>
  let nm(l:List Lean.Syntax)(s:String):=match l with
   |[p]=>if p.getKind==`Lean.Parser.Tactic.rcasesPat.one&&p[0].getId !=`rfl then p[0]else Mine.idn h s
   |_=>Mine.idn h s
  let a:=nm [q] "l"
  let b:=nm r "r"
  Mine.rs [[h],[a],[b]] "( 'first ( ( '| { ( '( { ( 'refine ( ( L% ( '? '_ )U.syntheticHole ': ( ( ( '_ )U.hole '→ ( ( '_ )U.hole '→ ( '_ )U.hole )U.arrow )U.arrow )null ') )U.typeAscription ( ( L% ( And.left ( $1 )null )U.app ') )U.paren ( L% ( And.right ( $1 )null )U.app ') )U.paren )null )U.app )T.refine '; ( '( { ( 'try { ( 'clear ( $1 )null )T.clear } )T.tacticTry_ } ') )T.paren '; ( 'intro ( $2 $3 )null )T.intro } ') )T.paren } )group ( '| { ( '( { ( 'refine ( ( L% ( '? '_ )U.syntheticHole ': ( ( ( '_ )U.hole '→ ( '_ )U.hole )U.arrow )null ') )U.typeAscription ( ( L% ( Exists.choose_spec ( $1 )null )U.app ') )U.paren )null )U.app )T.refine '; ( 'generalize ( ( ( )null ( Exists.choose ( $1 )null )U.app '= $2 )T.generalizeArg )null ( )null )T.generalize '; ( '( { ( 'try { ( 'clear ( $1 )null )T.clear } )T.tacticTry_ } ') )T.paren '; ( 'intro ( $3 )null )T.intro } ') )T.paren } )group )null )T.first"::Mine.ob n [q] a++Mine.ob n r b
local macro_rules (kind:=Lean.Parser.Tactic.obtain)|x=>pure (Mine.rs [[x[3][1][0]],[x[1][0]]] "( '( { ( 'refine ( Classical.byContradiction ( ( 'fun ( ( hG_ )null ( )null '=> ( '? '_ )U.syntheticHole )U.basicFun )U.fun )null )U.app )T.refine '; ( 'rcases ( ( ( )null $1 )T.elimTarget )null ( 'with ( $2 ( )null )T.rcasesPatLo )null )T.rcases '; ( 'refine ( hG_ ( ( '? '_ )U.syntheticHole )null )U.app )T.refine '; ( 'clear ( hG_ )null )T.clear } ') )T.paren")
local macro_rules (kind:=Lean.Parser.Tactic.tacticHave')|x=>do
 let d:=x[2][0]
 let t:=if d[2].getNumArgs==0 then Mine.rs [] "( '_ )U.hole" else d[2][0][1]
 pure (Mine.rs [[d[0][0]],[d[4]],[t]] "( '( { ( 'refine ( ( L% ( '? '_ )U.syntheticHole ': ( ( $3 '→ ( '_ )U.hole )U.arrow )null ') )U.typeAscription ( $2 )null )U.app )T.refine '; ( 'intro ( $1 )null )T.intro } ') )T.paren")
local macro_rules (kind:=Lean.Parser.Tactic.intros)|x=>do
 let a:=x[1].getArgs.toList
 let c:=((a.getD 0 .missing).getId.toString.replace "n" "").toNat!
 let a:=a.drop 1
 let ps:=(List.range (a.length/2)).map fun i=>(a.getD (2*i) .missing,a.getD (2*i+1) .missing)
 let xs:=(ps.filter fun p=>p.1.getId==`X).map Prod.snd
 let ts:=(ps.filter fun p=>p.1.getId !=`X).map Prod.fst
 let vs:=(ps.filter fun p=>p.1.getId !=`X).map Prod.snd
 let k:=vs.length
 let f(n:String):List Lean.Syntax:=[.ident .none n.toRawSubstring (Mine.rdN n) []]
 let ty:=(ts.map fun t=>f ("t"++t.getId.toString)).flatten
 let g:=(List.range k).map fun i=>Mine.rs [f "ez",ty.intersperse (.atom .none ","),f s!"J{i}",[vs.getD i .missing]] "( ( )null ( $1 ( ( '[ ( $2 )null '] )term[_] ( '_ )U.hole ( L% $3 ') )U.paren )null )U.app '= $4 )T.generalizeArg"
 let n:=(List.range k).map fun i=>Mine.rs [[ts.getD i .missing],[vs.getD i .missing]] "( L% $2 ': ( $1 )null ') )U.typeAscription"
 let r:=if xs.isEmpty then[]else[Mine.rs [xs] "( 'revert ( $ )null )T.revert",.atom .none ";"]
 pure (Mine.rs [vs,f s!"sz{k}",ty,g.intersperse (.atom .none ","),n,r,((List.replicate c (Mine.rs [] "( 'intro ( )null )T.intro"))++[Mine.rs [] "( 'skip )T.skip"]).intersperse (.atom .none ";")] "( '( { $6 ( 'revert ( $1 )null )T.revert '; ( 'refine ( ( '@ $2 )U.explicit ( $3 ( L% ( 'fun ( ( $1 )null ( )null '=> ( '_ )U.hole )U.basicFun )U.fun ') )U.paren ( '? '_ )U.syntheticHole )null )U.app )T.refine '; ( 'generalize ( $4 )null ( )null )T.generalize '; ( 'revert ( $1 )null )T.revert '; ( 'intro ( $5 )null )T.intro '; ( 'set_option tactic.hygienic ( )null 'false 'in { $7 } )T.set_option } ') )T.paren")
local macro_rules (kind:=Lean.Parser.Tactic.obtain)|x=>do
 if x[2].getNumArgs==0 then Lean.Macro.throwUnsupported
 let h:Lean.Syntax:=.ident .none "hZ".toRawSubstring `hZ []
 pure (Mine.sq ((Mine.rs [[h],[x[3][1][0]]] "( '( { ( 'refine ( ( L% ( '? '_ )U.syntheticHole ': ( ( ( '_ )U.hole '→ ( '_ )U.hole )U.arrow )null ') )U.typeAscription ( $2 )null )U.app )T.refine '; ( 'intro ( $1 )null )T.intro } ') )T.paren"::Mine.ob 40 [x[1][0][0][0]] h)))
set_option bootstrap.genMatcherCode false
set_option backward.match.sparseCases false
set_option genSizeOf false
structure Ty where
 α:Type
 ne:Nonempty α
noncomputable def wW(l:List Ty)(i:Nat):Type:=(l.getD i ⟨Unit,⟨()⟩⟩).α
@[reducible]noncomputable def FnT:List Ty→Type
 |[]=>Prop
 |t::l=>t.α→FnT l
noncomputable def wK:(l:List Ty)→FnT l→Prop
 |[],P=>P
 |t::l,P=>∀a:t.α,wK l (P a)
noncomputable def ApT:(l:List Ty)→FnT l→(∀i,wW l i)→Prop
 |[],P,_=>P
 |_::l,P,f=>ApT l (P (f (nat_lit 0))) fun i=>f (i+1)
theorem eq__291:(l:List Ty)→(P:FnT l)→(∀f,ApT l P f)→wK l P
 |[],_,h=>h fun _=>()
 |_::l,P,h=>fun a=>eq__291 l (P a) fun f=>h fun i=>match i with
  |0=>a
  |i+1=>f i
noncomputable def ez(l:List Ty)(P:FnT l):∀i,wW l i:=@Classical.epsilon _ ⟨fun i=>m6 (l.getD i ⟨Unit,⟨()⟩⟩).ne⟩ fun f=>¬ApT l P f
theorem sz(l:List Ty)(P:FnT l)(h:ApT l P (ez l P)):wK l P:=eq__291 l P fun f=>aM fun n=>Classical.epsilon_spec (p:=fun f=>¬ApT l P f) ⟨f,n⟩ h
noncomputable def J0:Nat:=0
noncomputable def J1:Nat:=1
noncomputable def J2:Nat:=2
noncomputable def J3:Nat:=3
noncomputable def J4:Nat:=4
noncomputable def J5:Nat:=5
noncomputable def J6:Nat:=6
noncomputable def J7:Nat:=7
noncomputable def J8:Nat:=8
noncomputable def J9:Nat:=9
noncomputable def J10:Nat:=10
noncomputable def J11:Nat:=11
noncomputable def J12:Nat:=12
noncomputable def J13:Nat:=13
noncomputable def J14:Nat:=14
noncomputable def J15:Nat:=15
noncomputable def J16:Nat:=16
noncomputable def J17:Nat:=17
noncomputable def J18:Nat:=18
noncomputable def J19:Nat:=19
noncomputable def J20:Nat:=20
noncomputable def J21:Nat:=21
noncomputable def J22:Nat:=22
noncomputable def J23:Nat:=23
theorem sz1(A:Ty)(P:FnT [A])(h:P (ez _ P J0)):∀a,P a:=sz _ P h
theorem sz2(A B:Ty)(P:FnT [A,B])(h:P (ez _ P J0) (ez _ P J1)):∀a b,P a b:=sz _ P h
theorem sz3(A B C:Ty)(P:FnT [A,B,C])(h:P (ez _ P J0) (ez _ P J1) (ez _ P J2)):∀a b c,P a b c:=sz _ P h
theorem sz4(A B C D:Ty)(P:FnT [A,B,C,D])(h:P (ez _ P J0) (ez _ P J1) (ez _ P J2) (ez _ P J3)):∀a b c d,P a b c d:=sz _ P h
theorem sz5(A B C D E:Ty)(P:FnT [A,B,C,D,E])(h:P (ez _ P J0) (ez _ P J1) (ez _ P J2) (ez _ P J3) (ez _ P J4)):∀a b c d e,P a b c d e:=sz _ P h
theorem sz6(A B C D E F:Ty)(P:FnT [A,B,C,D,E,F])(h:P (ez _ P J0) (ez _ P J1) (ez _ P J2) (ez _ P J3) (ez _ P J4) (ez _ P J5)):∀a b c d e f,P a b c d e f:=sz _ P h
theorem sz7(A B C D E F G:Ty)(P:FnT [A,B,C,D,E,F,G])(h:P (ez _ P J0) (ez _ P J1) (ez _ P J2) (ez _ P J3) (ez _ P J4) (ez _ P J5) (ez _ P J6)):∀a b c d e f g,P a b c d e f g:=sz _ P h
theorem sz8(A B C D E F G H:Ty)(P:FnT [A,B,C,D,E,F,G,H])(h:P (ez _ P J0) (ez _ P J1) (ez _ P J2) (ez _ P J3) (ez _ P J4) (ez _ P J5) (ez _ P J6) (ez _ P J7)):∀a b c d e f g i,P a b c d e f g i:=sz _ P h
theorem sz9(A B C D E F G H I:Ty)(P:FnT [A,B,C,D,E,F,G,H,I])(h:P (ez _ P J0) (ez _ P J1) (ez _ P J2) (ez _ P J3) (ez _ P J4) (ez _ P J5) (ez _ P J6) (ez _ P J7) (ez _ P J8)):∀a b c d e f g i j,P a b c d e f g i j:=sz _ P h
theorem sz10(A B C D E F G H I J:Ty)(P:FnT [A,B,C,D,E,F,G,H,I,J])(h:P (ez _ P J0) (ez _ P J1) (ez _ P J2) (ez _ P J3) (ez _ P J4) (ez _ P J5) (ez _ P J6) (ez _ P J7) (ez _ P J8) (ez _ P J9)):∀a b c d e f g i j k,P a b c d e f g i j k:=sz _ P h
theorem sz11(A B C D E F G H I J K:Ty)(P:FnT [A,B,C,D,E,F,G,H,I,J,K])(h:P (ez _ P J0) (ez _ P J1) (ez _ P J2) (ez _ P J3) (ez _ P J4) (ez _ P J5) (ez _ P J6) (ez _ P J7) (ez _ P J8) (ez _ P J9) (ez _ P J10)):∀a b c d e f g i j k l,P a b c d e f g i j k l:=sz _ P h
theorem sz12(A B C D E F G H I J K L:Ty)(P:FnT [A,B,C,D,E,F,G,H,I,J,K,L])(h:P (ez _ P J0) (ez _ P J1) (ez _ P J2) (ez _ P J3) (ez _ P J4) (ez _ P J5) (ez _ P J6) (ez _ P J7) (ez _ P J8) (ez _ P J9) (ez _ P J10) (ez _ P J11)):∀a b c d e f g i j k l m,P a b c d e f g i j k l m:=sz _ P h
theorem sz13(A B C D E F G H I J K L M:Ty)(P:FnT [A,B,C,D,E,F,G,H,I,J,K,L,M])(h:P (ez _ P J0) (ez _ P J1) (ez _ P J2) (ez _ P J3) (ez _ P J4) (ez _ P J5) (ez _ P J6) (ez _ P J7) (ez _ P J8) (ez _ P J9) (ez _ P J10) (ez _ P J11) (ez _ P J12)):∀a b c d e f g i j k l m n,P a b c d e f g i j k l m n:=sz _ P h
theorem sz14(A B C D E F G H I J K L M N:Ty)(P:FnT [A,B,C,D,E,F,G,H,I,J,K,L,M,N])(h:P (ez _ P J0) (ez _ P J1) (ez _ P J2) (ez _ P J3) (ez _ P J4) (ez _ P J5) (ez _ P J6) (ez _ P J7) (ez _ P J8) (ez _ P J9) (ez _ P J10) (ez _ P J11) (ez _ P J12) (ez _ P J13)):∀a b c d e f g i j k l m n o,P a b c d e f g i j k l m n o:=sz _ P h
theorem sz15(A B C D E F G H I J K L M N O:Ty)(P:FnT [A,B,C,D,E,F,G,H,I,J,K,L,M,N,O])(h:P (ez _ P J0) (ez _ P J1) (ez _ P J2) (ez _ P J3) (ez _ P J4) (ez _ P J5) (ez _ P J6) (ez _ P J7) (ez _ P J8) (ez _ P J9) (ez _ P J10) (ez _ P J11) (ez _ P J12) (ez _ P J13) (ez _ P J14)):∀a b c d e f g i j k l m n o q,P a b c d e f g i j k l m n o q:=sz _ P h
theorem sz16(A B C D E F G H I J K L M N O Q:Ty)(P:FnT [A,B,C,D,E,F,G,H,I,J,K,L,M,N,O,Q])(h:P (ez _ P J0) (ez _ P J1) (ez _ P J2) (ez _ P J3) (ez _ P J4) (ez _ P J5) (ez _ P J6) (ez _ P J7) (ez _ P J8) (ez _ P J9) (ez _ P J10) (ez _ P J11) (ez _ P J12) (ez _ P J13) (ez _ P J14) (ez _ P J15)):∀a b c d e f g i j k l m n o q r,P a b c d e f g i j k l m n o q r:=sz _ P h
theorem sz17(A B C D E F G H I J K L M N O Q R:Ty)(P:FnT [A,B,C,D,E,F,G,H,I,J,K,L,M,N,O,Q,R])(h:P (ez _ P J0) (ez _ P J1) (ez _ P J2) (ez _ P J3) (ez _ P J4) (ez _ P J5) (ez _ P J6) (ez _ P J7) (ez _ P J8) (ez _ P J9) (ez _ P J10) (ez _ P J11) (ez _ P J12) (ez _ P J13) (ez _ P J14) (ez _ P J15) (ez _ P J16)):∀a b c d e f g i j k l m n o q r s,P a b c d e f g i j k l m n o q r s:=sz _ P h
theorem sz18(A B C D E F G H I J K L M N O Q R S:Ty)(P:FnT [A,B,C,D,E,F,G,H,I,J,K,L,M,N,O,Q,R,S])(h:P (ez _ P J0) (ez _ P J1) (ez _ P J2) (ez _ P J3) (ez _ P J4) (ez _ P J5) (ez _ P J6) (ez _ P J7) (ez _ P J8) (ez _ P J9) (ez _ P J10) (ez _ P J11) (ez _ P J12) (ez _ P J13) (ez _ P J14) (ez _ P J15) (ez _ P J16) (ez _ P J17)):∀a b c d e f g i j k l m n o q r s t,P a b c d e f g i j k l m n o q r s t:=sz _ P h
theorem sz19(A B C D E F G H I J K L M N O Q R S T:Ty)(P:FnT [A,B,C,D,E,F,G,H,I,J,K,L,M,N,O,Q,R,S,T])(h:P (ez _ P J0) (ez _ P J1) (ez _ P J2) (ez _ P J3) (ez _ P J4) (ez _ P J5) (ez _ P J6) (ez _ P J7) (ez _ P J8) (ez _ P J9) (ez _ P J10) (ez _ P J11) (ez _ P J12) (ez _ P J13) (ez _ P J14) (ez _ P J15) (ez _ P J16) (ez _ P J17) (ez _ P J18)):∀a b c d e f g i j k l m n o q r s t u,P a b c d e f g i j k l m n o q r s t u:=sz _ P h
theorem sz20(A B C D E F G H I J K L M N O Q R S T U:Ty)(P:FnT [A,B,C,D,E,F,G,H,I,J,K,L,M,N,O,Q,R,S,T,U])(h:P (ez _ P J0) (ez _ P J1) (ez _ P J2) (ez _ P J3) (ez _ P J4) (ez _ P J5) (ez _ P J6) (ez _ P J7) (ez _ P J8) (ez _ P J9) (ez _ P J10) (ez _ P J11) (ez _ P J12) (ez _ P J13) (ez _ P J14) (ez _ P J15) (ez _ P J16) (ez _ P J17) (ez _ P J18) (ez _ P J19)):∀a b c d e f g i j k l m n o q r s t u v,P a b c d e f g i j k l m n o q r s t u v:=sz _ P h
theorem sz21(A B C D E F G H I J K L M N O Q R S T U V:Ty)(P:FnT [A,B,C,D,E,F,G,H,I,J,K,L,M,N,O,Q,R,S,T,U,V])(h:P (ez _ P J0) (ez _ P J1) (ez _ P J2) (ez _ P J3) (ez _ P J4) (ez _ P J5) (ez _ P J6) (ez _ P J7) (ez _ P J8) (ez _ P J9) (ez _ P J10) (ez _ P J11) (ez _ P J12) (ez _ P J13) (ez _ P J14) (ez _ P J15) (ez _ P J16) (ez _ P J17) (ez _ P J18) (ez _ P J19) (ez _ P J20)):∀a b c d e f g i j k l m n o q r s t u v w,P a b c d e f g i j k l m n o q r s t u v w:=sz _ P h
theorem sz22(A B C D E F G H I J K L M N O Q R S T U V W:Ty)(P:FnT [A,B,C,D,E,F,G,H,I,J,K,L,M,N,O,Q,R,S,T,U,V,W])(h:P (ez _ P J0) (ez _ P J1) (ez _ P J2) (ez _ P J3) (ez _ P J4) (ez _ P J5) (ez _ P J6) (ez _ P J7) (ez _ P J8) (ez _ P J9) (ez _ P J10) (ez _ P J11) (ez _ P J12) (ez _ P J13) (ez _ P J14) (ez _ P J15) (ez _ P J16) (ez _ P J17) (ez _ P J18) (ez _ P J19) (ez _ P J20) (ez _ P J21)):∀a b c d e f g i j k l m n o q r s t u v w x,P a b c d e f g i j k l m n o q r s t u v w x:=sz _ P h
theorem sz23(A B C D E F G H I J K L M N O Q R S T U V W X:Ty)(P:FnT [A,B,C,D,E,F,G,H,I,J,K,L,M,N,O,Q,R,S,T,U,V,W,X])(h:P (ez _ P J0) (ez _ P J1) (ez _ P J2) (ez _ P J3) (ez _ P J4) (ez _ P J5) (ez _ P J6) (ez _ P J7) (ez _ P J8) (ez _ P J9) (ez _ P J10) (ez _ P J11) (ez _ P J12) (ez _ P J13) (ez _ P J14) (ez _ P J15) (ez _ P J16) (ez _ P J17) (ez _ P J18) (ez _ P J19) (ez _ P J20) (ez _ P J21) (ez _ P J22)):∀a b c d e f g i j k l m n o q r s t u v w x y,P a b c d e f g i j k l m n o q r s t u v w x y:=sz _ P h
noncomputable def tNat:Ty:=⟨Nat,⟨0⟩⟩
noncomputable def tInt:Ty:=⟨Int,⟨0⟩⟩
noncomputable def tAddr:Ty:=⟨Addr,⟨0⟩⟩
noncomputable def tTok:Ty:=⟨Tok,⟨0⟩⟩
noncomputable def tAb:Ty:=⟨Ab,⟨⟨fun _ _=>0,{strHash:=default,shareClass:=default,mergeTok:=default,idOf:=default,idOfShared:=default,followText:=default,idOfImm:=default}⟩⟩⟩
noncomputable def tAa:Ty:=⟨Aa,inferInstance⟩
noncomputable def tAc:Ty:=⟨Ac,inferInstance⟩
noncomputable def tStr:Ty:=⟨Str,inferInstance⟩
noncomputable def tAf:Ty:=⟨Af,inferInstance⟩
noncomputable def tAd:Ty:=⟨Ad,⟨{}⟩⟩
noncomputable def tAe:Ty:=⟨Ae,⟨{}⟩⟩
noncomputable def tAi:Ty:=⟨Ai,inferInstance⟩
noncomputable def tAg:Ty:=⟨Ag,inferInstance⟩
noncomputable def tPos:Ty:=⟨Pos,inferInstance⟩
noncomputable def tObj:Ty:=⟨Obj,inferInstance⟩
noncomputable def tFrag:Ty:=⟨Frag,inferInstance⟩
noncomputable abbrev LE:=List Ag
noncomputable def tLE:Ty:=⟨LE,⟨[]⟩⟩
noncomputable abbrev LN:=List Ai
noncomputable def tLN:Ty:=⟨LN,⟨[]⟩⟩
noncomputable abbrev LA:=List Addr
noncomputable def tLA:Ty:=⟨LA,⟨[]⟩⟩
noncomputable abbrev LVl:=List Af
noncomputable def tLVl:Ty:=⟨LVl,⟨[]⟩⟩
noncomputable abbrev LS:=List Str
noncomputable def tLS:Ty:=⟨LS,⟨[]⟩⟩
noncomputable abbrev EQ:=Af→Ad→Prop
noncomputable def tEQ:Ty:=⟨EQ,⟨fun _ _=>True⟩⟩
noncomputable def tBool:Ty:=⟨Bool,⟨true⟩⟩
noncomputable def tAh:Ty:=⟨Ah,inferInstance⟩
noncomputable abbrev LK:=List Keyword
noncomputable def tLK:Ty:=⟨LK,⟨[]⟩⟩
noncomputable abbrev LC:=List Comprehension
noncomputable def tLC:Ty:=⟨LC,⟨[]⟩⟩
noncomputable abbrev LSm:=List Stmt
noncomputable def tLSm:Ty:=⟨LSm,⟨[]⟩⟩
noncomputable abbrev OE:=Option Ag
noncomputable def tOE:Ty:=⟨OE,⟨none⟩⟩
noncomputable abbrev OB:=Option Obj
noncomputable def tOB:Ty:=⟨OB,⟨none⟩⟩
noncomputable abbrev OV:=Option Af
noncomputable def tOV:Ty:=⟨OV,⟨none⟩⟩
variable{G q:Prop}
theorem eq__14{p:Prop}(H:p∧q)(K:p→q→G):G:=K H.1 H.2
theorem eq__51{p:Prop}(i:p)(j:q):p∧q:=⟨i,j⟩
theorem eq__56{p r:Prop}(H:p∧q∧r)(K:p→q→r→G):G:=K H.1 H.2.1 H.2.2
theorem eq__30{p r:Prop}(i:p)(j:q)(l:r):p∧q∧r:=⟨i,j,l⟩
theorem eq__292{p r s:Prop}(H:p∧q∧r∧s)(K:p→q→r→s→G):G:=K H.1 H.2.1 H.2.2.1 H.2.2.2
theorem eq__83{p r s:Prop}(i:p)(j:q)(l:r)(m:s):p∧q∧r∧s:=⟨i,j,l,m⟩
theorem eq__293{p r s t:Prop}(H:p∧q∧r∧s∧t)(K:p→q→r→s→t→G):G:=K H.1 H.2.1 H.2.2.1 H.2.2.2.1 H.2.2.2.2
theorem eq__294{p r s t:Prop}(i:p)(j:q)(l:r)(m:s)(n:t):p∧q∧r∧s∧t:=⟨i,j,l,m,n⟩
theorem eq__566{p r s t u v:Prop}(i:p)(j:q)(l:r)(m:s)(n:t)(o:u)(x:v):p∧q∧r∧s∧t∧u∧v:=⟨i,j,l,m,n,o,x⟩
theorem eq__567{p r s t u v w:Prop}(H:p∧q∧r∧s∧t∧u∧v∧w)(K:p→q→r→s→t→u→v→w→G):G:=K H.1 H.2.1 H.2.2.1 H.2.2.2.1 H.2.2.2.2.1 H.2.2.2.2.2.1 H.2.2.2.2.2.2.1 H.2.2.2.2.2.2.2
theorem eq__295{p r s t u v w:Prop}(i:p)(j:q)(l:r)(m:s)(n:t)(o:u)(x:v)(y:w):p∧q∧r∧s∧t∧u∧v∧w:=⟨i,j,l,m,n,o,x,y⟩
theorem eq__1{A:Type}{p q:A→Prop}(H:∃a,p a∧q a)(K:∀a,p a→q a→G):G:=H.elim fun a H=>K a H.1 H.2
theorem eq__2{A:Type}{p q:A→Prop}(a:A)(i:p a)(j:q a):∃a,p a∧q a:=⟨a,i,j⟩
theorem eq__76{A:Type}{p q r:A→Prop}(H:∃a,p a∧q a∧r a)(K:∀a,p a→q a→r a→G):G:=H.elim fun a H=>K a H.1 H.2.1 H.2.2
theorem eq__7{A:Type}{p q r:A→Prop}(a:A)(i:p a)(j:q a)(l:r a):∃a,p a∧q a∧r a:=⟨a,i,j,l⟩
theorem eq__134{A:Type}{p q r s:A→Prop}(H:∃a,p a∧q a∧r a∧s a)(K:∀a,p a→q a→r a→s a→G):G:=H.elim fun a H=>K a H.1 H.2.1 H.2.2.1 H.2.2.2
theorem eq__27{A:Type}{p q r s:A→Prop}(a:A)(i:p a)(j:q a)(l:r a)(m:s a):∃a,p a∧q a∧r a∧s a:=⟨a,i,j,l,m⟩
theorem eq__296{A:Type}{p q r s t:A→Prop}(a:A)(i:p a)(j:q a)(l:r a)(m:s a)(n:t a):∃a,p a∧q a∧r a∧s a∧t a:=⟨a,i,j,l,m,n⟩
variable{B:Type}
theorem eq__103{A:Type}{p:A→B→Prop}(H:∃a b,p a b)(K:∀a b,p a b→G):G:=H.elim fun a H=>H.elim fun b H=>K a b H
theorem eq__31{A:Type}{p q:A→B→Prop}(H:∃a b,p a b∧q a b)(K:∀a b,p a b→q a b→G):G:=H.elim fun a H=>H.elim fun b H=>K a b H.1 H.2
theorem eq__28{A:Type}{p q:A→B→Prop}(a:A)(b:B)(i:p a b)(j:q a b):∃a b,p a b∧q a b:=⟨a,b,i,j⟩
theorem eq__17{A:Type}{p q r:A→B→Prop}(H:∃a b,p a b∧q a b∧r a b)(K:∀a b,p a b→q a b→r a b→G):G:=H.elim fun a H=>H.elim fun b H=>K a b H.1 H.2.1 H.2.2
theorem eq__24{A:Type}{p q r:A→B→Prop}(a:A)(b:B)(i:p a b)(j:q a b)(l:r a b):∃a b,p a b∧q a b∧r a b:=⟨a,b,i,j,l⟩
theorem eq__25{A:Type}{p q r s:A→B→Prop}(H:∃a b,p a b∧q a b∧r a b∧s a b)(K:∀a b,p a b→q a b→r a b→s a b→G):G:=H.elim fun a H=>H.elim fun b H=>K a b H.1 H.2.1 H.2.2.1 H.2.2.2
theorem eq__39{A:Type}{p q r s:A→B→Prop}(a:A)(b:B)(i:p a b)(j:q a b)(l:r a b)(m:s a b):∃a b,p a b∧q a b∧r a b∧s a b:=⟨a,b,i,j,l,m⟩
theorem eq__297{A:Type}{p q r s t:A→B→Prop}(H:∃a b,p a b∧q a b∧r a b∧s a b∧t a b)(K:∀a b,p a b→q a b→r a b→s a b→t a b→G):G:=H.elim fun a H=>H.elim fun b H=>K a b H.1 H.2.1 H.2.2.1 H.2.2.2.1 H.2.2.2.2
theorem eq__61{A:Type}{p q r s t:A→B→Prop}(a:A)(b:B)(i:p a b)(j:q a b)(l:r a b)(m:s a b)(n:t a b):∃a b,p a b∧q a b∧r a b∧s a b∧t a b:=⟨a,b,i,j,l,m,n⟩
theorem eq__568{A:Type}{p q r s t u:A→B→Prop}(H:∃a b,p a b∧q a b∧r a b∧s a b∧t a b∧u a b)(K:∀a b,p a b→q a b→r a b→s a b→t a b→u a b→G):G:=H.elim fun a H=>H.elim fun b H=>K a b H.1 H.2.1 H.2.2.1 H.2.2.2.1 H.2.2.2.2.1 H.2.2.2.2.2
theorem eq__54{A:Type}{p:A→B→Prop}(a:A)(b:B)(H:p a b):∃a b,p a b:=⟨a,b,H⟩
theorem eq__162{A C:Type}{p:A→B→C→Prop}(H:∃a b c,p a b c)(K:∀a b c,p a b c→G):G:=H.elim fun a H=>H.elim fun b H=>H.elim fun c H=>K a b c H
theorem eq__569{A C:Type}{p q:A→B→C→Prop}(H:∃a b c,p a b c∧q a b c)(K:∀a b c,p a b c→q a b c→G):G:=H.elim fun a H=>H.elim fun b H=>H.elim fun c H=>K a b c H.1 H.2
theorem eq__570{A C:Type}{p q:A→B→C→Prop}(a:A)(b:B)(c:C)(i:p a b c)(j:q a b c):∃a b c,p a b c∧q a b c:=⟨a,b,c,i,j⟩
theorem eq__62{A C:Type}{p q r:A→B→C→Prop}(a:A)(b:B)(c:C)(i:p a b c)(j:q a b c)(l:r a b c):∃a b c,p a b c∧q a b c∧r a b c:=⟨a,b,c,i,j,l⟩
theorem eq__571{A C:Type}{p q r s:A→B→C→Prop}(H:∃a b c,p a b c∧q a b c∧r a b c∧s a b c)(K:∀a b c,p a b c→q a b c→r a b c→s a b c→G):G:=H.elim fun a H=>H.elim fun b H=>H.elim fun c H=>K a b c H.1 H.2.1 H.2.2.1 H.2.2.2
theorem eq__135{A C:Type}{p q r s:A→B→C→Prop}(a:A)(b:B)(c:C)(i:p a b c)(j:q a b c)(l:r a b c)(m:s a b c):∃a b c,p a b c∧q a b c∧r a b c∧s a b c:=⟨a,b,c,i,j,l,m⟩
theorem eq__163{A C:Type}{p q r s t:A→B→C→Prop}(H:∃a b c,p a b c∧q a b c∧r a b c∧s a b c∧t a b c)(K:∀a b c,p a b c→q a b c→r a b c→s a b c→t a b c→G):G:=H.elim fun a H=>H.elim fun b H=>H.elim fun c H=>K a b c H.1 H.2.1 H.2.2.1 H.2.2.2.1 H.2.2.2.2
theorem eq__201{A C:Type}{p q r s t:A→B→C→Prop}(a:A)(b:B)(c:C)(i:p a b c)(j:q a b c)(l:r a b c)(m:s a b c)(n:t a b c):∃a b c,p a b c∧q a b c∧r a b c∧s a b c∧t a b c:=⟨a,b,c,i,j,l,m,n⟩
theorem eq__202{A C:Type}{p q r s t u:A→B→C→Prop}(H:∃a b c,p a b c∧q a b c∧r a b c∧s a b c∧t a b c∧u a b c)(K:∀a b c,p a b c→q a b c→r a b c→s a b c→t a b c→u a b c→G):G:=H.elim fun a H=>H.elim fun b H=>H.elim fun c H=>K a b c H.1 H.2.1 H.2.2.1 H.2.2.2.1 H.2.2.2.2.1 H.2.2.2.2.2
theorem eq__298{A C:Type}{p q r s t u:A→B→C→Prop}(a:A)(b:B)(c:C)(i:p a b c)(j:q a b c)(l:r a b c)(m:s a b c)(n:t a b c)(o:u a b c):∃a b c,p a b c∧q a b c∧r a b c∧s a b c∧t a b c∧u a b c:=⟨a,b,c,i,j,l,m,n,o⟩
theorem eq__299{A C:Type}{p q r s t u v:A→B→C→Prop}(H:∃a b c,p a b c∧q a b c∧r a b c∧s a b c∧t a b c∧u a b c∧v a b c)(K:∀a b c,p a b c→q a b c→r a b c→s a b c→t a b c→u a b c→v a b c→G):G:=H.elim fun a H=>H.elim fun b H=>H.elim fun c H=>K a b c H.1 H.2.1 H.2.2.1 H.2.2.2.1 H.2.2.2.2.1 H.2.2.2.2.2.1 H.2.2.2.2.2.2
theorem eq__300{A C:Type}{p q r s t u v:A→B→C→Prop}(a:A)(b:B)(c:C)(i:p a b c)(j:q a b c)(l:r a b c)(m:s a b c)(n:t a b c)(o:u a b c)(x:v a b c):∃a b c,p a b c∧q a b c∧r a b c∧s a b c∧t a b c∧u a b c∧v a b c:=⟨a,b,c,i,j,l,m,n,o,x⟩
theorem eq__34{A C:Type}{p:A→B→C→Prop}(a:A)(b:B)(c:C)(H:p a b c):∃a b c,p a b c:=⟨a,b,c,H⟩
theorem eq__301{A C D:Type}{p:A→B→C→D→Prop}(H:∃a b c d,p a b c d)(K:∀a b c d,p a b c d→G):G:=H.elim fun a H=>H.elim fun b H=>H.elim fun c H=>H.elim fun d H=>K a b c d H
theorem eq__120{A C D:Type}{p q:A→B→C→D→Prop}(H:∃a b c d,p a b c d∧q a b c d)(K:∀a b c d,p a b c d→q a b c d→G):G:=H.elim fun a H=>H.elim fun b H=>H.elim fun c H=>H.elim fun d H=>K a b c d H.1 H.2
theorem eq__302{A C D:Type}{p q:A→B→C→D→Prop}(a:A)(b:B)(c:C)(d:D)(i:p a b c d)(j:q a b c d):∃a b c d,p a b c d∧q a b c d:=⟨a,b,c,d,i,j⟩
theorem eq__303{A C D:Type}{p q r s:A→B→C→D→Prop}(H:∃a b c d,p a b c d∧q a b c d∧r a b c d∧s a b c d)(K:∀a b c d,p a b c d→q a b c d→r a b c d→s a b c d→G):G:=H.elim fun a H=>H.elim fun b H=>H.elim fun c H=>H.elim fun d H=>K a b c d H.1 H.2.1 H.2.2.1 H.2.2.2
theorem eq__304{A C D:Type}{p q r s t:A→B→C→D→Prop}(a:A)(b:B)(c:C)(d:D)(i:p a b c d)(j:q a b c d)(l:r a b c d)(m:s a b c d)(n:t a b c d):∃a b c d,p a b c d∧q a b c d∧r a b c d∧s a b c d∧t a b c d:=⟨a,b,c,d,i,j,l,m,n⟩
theorem eq__71{A C D:Type}{p q r s t u:A→B→C→D→Prop}(H:∃a b c d,p a b c d∧q a b c d∧r a b c d∧s a b c d∧t a b c d∧u a b c d)(K:∀a b c d,p a b c d→q a b c d→r a b c d→s a b c d→t a b c d→u a b c d→G):G:=H.elim fun a H=>H.elim fun b H=>H.elim fun c H=>H.elim fun d H=>K a b c d H.1 H.2.1 H.2.2.1 H.2.2.2.1 H.2.2.2.2.1 H.2.2.2.2.2
theorem eq__203{A C D:Type}{p q r s t u:A→B→C→D→Prop}(a:A)(b:B)(c:C)(d:D)(i:p a b c d)(j:q a b c d)(l:r a b c d)(m:s a b c d)(n:t a b c d)(o:u a b c d):∃a b c d,p a b c d∧q a b c d∧r a b c d∧s a b c d∧t a b c d∧u a b c d:=⟨a,b,c,d,i,j,l,m,n,o⟩
theorem eq__305{A C D:Type}{p q r s t u v:A→B→C→D→Prop}(H:∃a b c d,p a b c d∧q a b c d∧r a b c d∧s a b c d∧t a b c d∧u a b c d∧v a b c d)(K:∀a b c d,p a b c d→q a b c d→r a b c d→s a b c d→t a b c d→u a b c d→v a b c d→G):G:=H.elim fun a H=>H.elim fun b H=>H.elim fun c H=>H.elim fun d H=>K a b c d H.1 H.2.1 H.2.2.1 H.2.2.2.1 H.2.2.2.2.1 H.2.2.2.2.2.1 H.2.2.2.2.2.2
theorem eq__306{A C D:Type}{p q r s t u v:A→B→C→D→Prop}(a:A)(b:B)(c:C)(d:D)(i:p a b c d)(j:q a b c d)(l:r a b c d)(m:s a b c d)(n:t a b c d)(o:u a b c d)(x:v a b c d):∃a b c d,p a b c d∧q a b c d∧r a b c d∧s a b c d∧t a b c d∧u a b c d∧v a b c d:=⟨a,b,c,d,i,j,l,m,n,o,x⟩
theorem eq__67{A C D:Type}{p:A→B→C→D→Prop}(a:A)(b:B)(c:C)(d:D)(H:p a b c d):∃a b c d,p a b c d:=⟨a,b,c,d,H⟩
theorem eq__572{A C D E:Type}{p:A→B→C→D→E→Prop}(H:∃a b c d e,p a b c d e)(K:∀a b c d e,p a b c d e→G):G:=H.elim fun a H=>H.elim fun b H=>H.elim fun c H=>H.elim fun d H=>H.elim fun e H=>K a b c d e H
theorem eq__573{A C D E:Type}{p q r s:A→B→C→D→E→Prop}(H:∃a b c d e,p a b c d e∧q a b c d e∧r a b c d e∧s a b c d e)(K:∀a b c d e,p a b c d e→q a b c d e→r a b c d e→s a b c d e→G):G:=H.elim fun a H=>H.elim fun b H=>H.elim fun c H=>H.elim fun d H=>H.elim fun e H=>K a b c d e H.1 H.2.1 H.2.2.1 H.2.2.2
theorem eq__574{A C D E:Type}{p q r s:A→B→C→D→E→Prop}(a:A)(b:B)(c:C)(d:D)(e:E)(i:p a b c d e)(j:q a b c d e)(l:r a b c d e)(m:s a b c d e):∃a b c d e,p a b c d e∧q a b c d e∧r a b c d e∧s a b c d e:=⟨a,b,c,d,e,i,j,l,m⟩
theorem eq__575{A C D E:Type}{p:A→B→C→D→E→Prop}(a:A)(b:B)(c:C)(d:D)(e:E)(H:p a b c d e):∃a b c d e,p a b c d e:=⟨a,b,c,d,e,H⟩
inductive LX|v(i:Nat)|n(k:Nat)|a(x y:LX)|m(k:Nat)(x:LX)|r(x:LX)(k:Nat)
inductive KX|le(x y:LX)|lt(x y:LX)|eq(x y:LX)|qe(x y:LX)|nle(x y:LX)|nlt(x y:LX)|ff
noncomputable def vat:List Nat→Nat→Nat|[],_=>0|x::_,0=>x|_::l,i+1=>vat l i
noncomputable def LX.den(c:List Nat):LX→Nat|.v i=>vat c i|.n k=>k|.a x y=>x.den c+y.den c|.m k x=>k*x.den c|.r x k=>x.den c*k
noncomputable def KX.den(c:List Nat):KX→Prop|.le x y=>x.den c≤y.den c|.lt x y=>x.den c<y.den c|.eq x y=>x.den c=y.den c|.qe x y=>x.den c=y.den c|.nle x y=>¬x.den c≤y.den c|.nlt x y=>¬x.den c<y.den c|.ff=>False
noncomputable def pad:List Nat→List Nat→List Nat|[],q=>q|p,[]=>p|a::p,b::q=>(a+b)::pad p q
noncomputable def psc(k:Nat):List Nat→List Nat|[]=>[]|a::p=>(k*a)::psc k p
noncomputable def pv:Nat→List Nat|0=>[1]|i+1=>0::pv i
noncomputable def LX.lin:LX→List Nat|.v i=>0::pv i|.n k=>[k]|.a x y=>pad x.lin y.lin|.m k x=>psc k x.lin|.r x k=>psc k x.lin
noncomputable def dot:List Nat→List Nat→Nat|k::ks,x::xs=>k*x+dot ks xs|_,_=>0
noncomputable def KX.row:KX→List Nat×List Nat|.le x y=>(x.lin,y.lin)|.lt x y=>(pad [1] x.lin,y.lin)|.eq x y=>(x.lin,y.lin)|.qe x y=>(y.lin,x.lin)|.nle x y=>(pad [1] y.lin,x.lin)|.nlt x y=>(y.lin,x.lin)|.ff=>([1],[])
noncomputable def KX.neg:KX→List Nat×List Nat|.le x y=>(pad [1] y.lin,x.lin)|.lt x y=>(y.lin,x.lin)|.eq x y=>(x.lin,y.lin)|.qe x y=>(y.lin,x.lin)|.nle x y=>(x.lin,y.lin)|.nlt x y=>(pad [1] x.lin,y.lin)|.ff=>([],[])
noncomputable def gge:List Nat→List Nat→Bool|_,[]=>true|[],q::qs=>Nat.beq q 0&&gge [] qs|p::ps,q::qs=>oF q p&&gge ps qs
noncomputable def bad:List Nat→List Nat→Bool|p::ps,[]=>Nat.blt 0 p&&gge ps []|p::ps,q::qs=>Nat.blt q p&&gge ps qs|[],_=>false
noncomputable def KX.gl:KX→Bool|.eq ..|.qe ..=>false|_=>true
noncomputable def acc(t:List Nat×List Nat):List (Nat×KX)→List Nat×List Nat|[]=>t|(k,h)::r=>acc (pad t.1 (psc k h.row.1),pad t.2 (psc k h.row.2)) r
noncomputable def lzk(kg:Nat)(g:KX)(l:List (Nat×KX)):Bool:=g.gl&&bad (acc (psc kg g.neg.1,psc kg g.neg.2) l).1 (acc (psc kg g.neg.1,psc kg g.neg.2) l).2
noncomputable def Z0:LX:=.v 0
noncomputable def Z1:LX:=.v 1
noncomputable def Z2:LX:=.v 2
noncomputable def Z3:LX:=.v 3
noncomputable def Z4:LX:=.v 4
noncomputable def Z5:LX:=.v 5
noncomputable def Z6:LX:=.v 6
noncomputable def Z7:LX:=.v 7
noncomputable def Z8:LX:=.v 8
noncomputable def Z9:LX:=.v 9
theorem eq__136:∀(p q c:List Nat),dot (pad p q) c=dot p c+dot q c
 |[],_,_=>(cF _).symm
 |_::_,[],_=>rfl
 |_::_,_::_,[]=>rfl
 |a::p,b::q,x::c=>by show(a+b)*x+dot (pad p q) c=a*x+dot p c+(b*x+dot q c);rw[eq__136 p q c,Nat.add_mul];omega
theorem eq__104(k:Nat):∀(p c:List Nat),dot (psc k p) c=k*dot p c
 |[],_=>rfl
 |_::_,[]=>rfl
 |a::p,x::c=>by show k*a*x+dot (psc k p) c=k*(a*x+dot p c);rw[eq__104 k p c,Nat.mul_add,Nat.mul_assoc]
theorem eq__892(p:List Nat):dot p []=0:=by cases p<;>rfl
theorem eq__307:∀(i:Nat)(c:List Nat),dot (pv i) c=vat c i
 |0,[]=>rfl
 |_+1,[]=>rfl
 |0,x::_=>by show 1*x+dot [] _=x;rw[Nat.one_mul];rfl
 |i+1,x::c=>by show 0*x+dot (pv i) c=vat c i;rw[lE,cF,eq__307 i c]
theorem eq__41(c:List Nat):∀x:LX,x.den c=dot x.lin (1::c)
 |.v i=>by show vat c i=0*1+dot (pv i) c;rw[eq__307,lE,cF]
 |.n k=>by show k=k*1+dot [] c;rw[jU];rfl
 |.a x y=>by show x.den c+y.den c=dot (pad x.lin y.lin) (1::c);rw[eq__136,←eq__41 c x,←eq__41 c y]
 |.m k x=>by show k*x.den c=dot (psc k x.lin) (1::c);rw[eq__104,←eq__41 c x]
 |.r x k=>by show x.den c*k=dot (psc k x.lin) (1::c);rw[eq__104,←eq__41 c x,Nat.mul_comm]
theorem eq__164(c:List Nat)(x:LX):dot (pad [1] x.lin) (1::c)=x.den c+1:=by rw[eq__136,←eq__41,nN];rfl
theorem eq__576(c:List Nat)(k:KX)(h:k.den c):dot k.row.1 (1::c)≤dot k.row.2 (1::c):=by
 cases k with
 |le x y=>show dot x.lin _≤dot y.lin _;rw[←eq__41,←eq__41];exact h
 |lt x y=>show dot (pad [1] x.lin) _≤dot y.lin _;rw[eq__164,←eq__41];exact h
 |eq x y=>show dot x.lin _≤dot y.lin _;rw[←eq__41,←eq__41];exact lF h
 |qe x y=>show dot y.lin _≤dot x.lin _;rw[←eq__41,←eq__41];exact lF (bH h)
 |nle x y=>show dot (pad [1] y.lin) _≤dot x.lin _;rw[eq__164,←eq__41];exact m7 h
 |nlt x y=>show dot y.lin _≤dot x.lin _;rw[←eq__41,←eq__41];exact m8 h
 |ff=>exact h.elim
theorem eq__577(c:List Nat)(k:KX)(hg:k.gl=true)(h:¬k.den c):dot k.neg.1 (1::c)≤dot k.neg.2 (1::c):=by
 cases k with
 |le x y=>show dot (pad [1] y.lin) _≤dot x.lin _;rw[eq__164,←eq__41];exact m7 h
 |lt x y=>show dot y.lin _≤dot x.lin _;rw[←eq__41,←eq__41];exact m8 h
 |eq x y=>cases hg
 |qe x y=>cases hg
 |nle x y=>show dot x.lin _≤dot y.lin _;rw[←eq__41,←eq__41];exact lQ.mp h
 |nlt x y=>show dot (pad [1] x.lin) _≤dot y.lin _;rw[eq__164,←eq__41];exact lQ.mp h
 |ff=>exact aN 0
theorem eq__204:∀(p q c:List Nat),gge p q=true→dot q c≤dot p c
 |_,[],_,_=>bN _
 |_,_::_,[],_=>bN _
 |[],b::q,x::c,h=>by
  have h:=(aF _ _).mp h;have :=eq__204 [] q c h.2;show b*x+dot q c≤0;rw[Nat.eq_of_beq_eq_true h.1,lE,cF];exact this
 |a::p,b::q,x::c,h=>by
  have h:=(aF _ _).mp h;exact eV (Nat.mul_le_mul_right x (dU h.1)) (eq__204 p q c h.2)
theorem eq__578(p q c:List Nat)(h:bad p q=true):dot q (1::c)<dot p (1::c):=by
 cases p with
 |nil=>cases h
 |cons a p=>
  cases q with
  |nil=>
   have h:=(aF _ _).mp h;show 0<a*1+dot p c;rw[jU];exact gG (dU h.1) (eB _ _)
  |cons b q=>
   have h:=(aF _ _).mp h;show b*1+dot q c<a*1+dot p c;rw[jU,jU];exact Nat.add_lt_add_of_lt_of_le (dU h.1) (eq__204 p q c h.2)
noncomputable def wL(c:List Nat):List (Nat×KX)→Prop|[]=>True|h::r=>h.2.den c∧wL c r
theorem eq__308(c:List Nat):∀(l:List (Nat×KX))(t:List Nat×List Nat),dot t.1 (1::c)≤dot t.2 (1::c)→wL c l→dot (acc t l).1 (1::c)≤dot (acc t l).2 (1::c)
 |[],_,h,_=>h
 |(k,g)::l,t,h,a=>eq__308 c l _ (by
   show dot (pad t.1 (psc k g.row.1)) _≤dot (pad t.2 (psc k g.row.2)) _;rw[eq__136,eq__136,eq__104,eq__104];exact eV h (kW k (eq__576 c g a.1))) a.2
theorem eq__77(c:List Nat)(kg:Nat)(g:KX)(l:List (Nat×KX))(e:lzk kg g l=true)(a:wL c l):g.den c:=by
 have e:=(aF _ _).mp e
 refine aM fun h=>?_
 have h1:=eq__308 c l (psc kg g.neg.1,psc kg g.neg.2) (by
  show dot (psc kg g.neg.1) _≤dot (psc kg g.neg.2) _;rw[eq__104,eq__104];exact kW kg (eq__577 c g e.1 h)) a
 exact absurd h1 (Nat.not_le_of_lt (eq__578 _ _ c e.2))
theorem eq__52(c:List Nat)(g:KX)(e:lzk 1 g []=true):g.den c:=eq__77 c 1 g _ e trivial
theorem eq__3(c:List Nat)(g h0:KX)(e:lzk 1 g [(1,h0)]=true)(a0:h0.den c):g.den c:=eq__77 c 1 g _ e ⟨a0,trivial⟩
theorem eq__32(c:List Nat)(kg:Nat)(g:KX)(k0:Nat)(h0:KX)(e:lzk kg g [(k0,h0)]=true)(a0:h0.den c):g.den c:=eq__77 c kg g _ e ⟨a0,trivial⟩
theorem eq__29(c:List Nat)(g h0 h1:KX)(e:lzk 1 g [(1,h0),(1,h1)]=true)(a0:h0.den c)(a1:h1.den c):g.den c:=eq__77 c 1 g _ e ⟨a0,a1,trivial⟩
theorem eq__38(c:List Nat)(kg:Nat)(g:KX)(k0:Nat)(h0:KX)(k1:Nat)(h1:KX)(e:lzk kg g [(k0,h0),(k1,h1)]=true)(a0:h0.den c)(a1:h1.den c):g.den c:=eq__77 c kg g _ e ⟨a0,a1,trivial⟩
theorem eq__47(c:List Nat)(g h0 h1 h2:KX)(e:lzk 1 g [(1,h0),(1,h1),(1,h2)]=true)(a0:h0.den c)(a1:h1.den c)(a2:h2.den c):g.den c:=eq__77 c 1 g _ e ⟨a0,a1,a2,trivial⟩
theorem eq__16(c:List Nat)(kg:Nat)(g:KX)(k0:Nat)(h0:KX)(k1:Nat)(h1:KX)(k2:Nat)(h2:KX)(e:lzk kg g [(k0,h0),(k1,h1),(k2,h2)]=true)(a0:h0.den c)(a1:h1.den c)(a2:h2.den c):g.den c:=eq__77 c kg g _ e ⟨a0,a1,a2,trivial⟩
theorem eq__165(c:List Nat)(g h0 h1 h2 h3:KX)(e:lzk 1 g [(1,h0),(1,h1),(1,h2),(1,h3)]=true)(a0:h0.den c)(a1:h1.den c)(a2:h2.den c)(a3:h3.den c):g.den c:=eq__77 c 1 g _ e ⟨a0,a1,a2,a3,trivial⟩
theorem eq__84(c:List Nat)(kg:Nat)(g:KX)(k0:Nat)(h0:KX)(k1:Nat)(h1:KX)(k2:Nat)(h2:KX)(k3:Nat)(h3:KX)(e:lzk kg g [(k0,h0),(k1,h1),(k2,h2),(k3,h3)]=true)(a0:h0.den c)(a1:h1.den c)(a2:h2.den c)(a3:h3.den c):g.den c:=eq__77 c kg g _ e ⟨a0,a1,a2,a3,trivial⟩
theorem eq__579(c:List Nat)(kg:Nat)(g:KX)(k0:Nat)(h0:KX)(k1:Nat)(h1:KX)(k2:Nat)(h2:KX)(k3:Nat)(h3:KX)(k4:Nat)(h4:KX)(e:lzk kg g [(k0,h0),(k1,h1),(k2,h2),(k3,h3),(k4,h4)]=true)(a0:h0.den c)(a1:h1.den c)(a2:h2.den c)(a3:h3.den c)(a4:h4.den c):g.den c:=eq__77 c kg g _ e ⟨a0,a1,a2,a3,a4,trivial⟩
set_option tactic.hygienic true
noncomputable def lim:Nat:=1000000
noncomputable def rD(acc:List Str):List Str→List Str
 |[]=>acc
 |x::r=>rD (if acc.contains x then acc else acc++[x]) r
def sT:Str:=a5 "Task names must be unique. %s"
def sU:Str:=a5 "Two different tasks can't have a common target.'%s' is a target for %s and %s."
noncomputable def tModel:Ty:=⟨Model,⟨model default (m6 tAb.ne)⟩⟩
noncomputable abbrev OS:=Option Str
noncomputable def tOS:Ty:=⟨OS,⟨none⟩⟩
noncomputable abbrev LNt:=List Nat
open PySem.Builtin PySem.Builtin.Str in
structure uO(f:Nat→List Af×Writer×List Nat→Sem (ForInStep (List Af×Writer×List Nat)))(fo:Af)(n:Nat):Prop where
 fin:∀{M:Model}{A:Ae}{E:Af→Ad→Prop}{s:Ad}{x:Nat}{p:List Af}{w:Writer}{Q:ForInStep (List Af×Writer×List Nat)→Ad→Prop},¬tooLong w.total=true→Q (.done (p,w,[])) s→wpAny M A (f x (p,w,[])) Q E s
 lit:∀{M:Model}{A:Ae}{E:Af→Ad→Prop}{s:Ad}{x:Nat}{p:List Af}{w:Writer}{c:Nat}{r:List Nat}{Q:ForInStep (List Af×Writer×List Nat)→Ad→Prop},¬tooLong w.total=true→
  (!((c::r).span (· !=37)).1.isEmpty)=true→Q (.yield (p,w.add ⟨((c::r).span (· !=37)).1.toArray⟩ (if((c::r).span (· !=37)).1.length==n then some fo else none),((c::r).span (· !=37)).2)) s→wpAny M A (f x (p,w,c::r)) Q E s
 str:∀{M:Model}{A:Ae}{E:Af→Ad→Prop}{s:Ad}{x:Nat}{p:List Af}{w:Writer}{y:fA}{u:Tok}{r:List Nat}{Q:ForInStep (List Af×Writer×List Nat)→Ad→Prop},¬tooLong w.total=true→
  (∀o,KPc.Obj o y→Q (.yield (p,w.add ⟨y.cps.toList.toArray⟩ o,r)) s)→wpAny M A (f x (.str y u::p,w,37::115::r)) Q E s
variable{E:Af→Ad→Prop}{n:Nat}{s:Ad}{A:Ae}{M:Model}{fo:Af}
section
open PySem.Builtin PySem.Builtin.Str
theorem eq__309{args:Af}{F:fA}{pend:List Af}{isT:Bool}{so:Option fA}{Q:Fin→Ad→Prop}(h1:∀{Q:Bool→Ad→Prop},Q isT s→wpAny M A (isInstance args (.type "tuple")) Q E s)(h2:∀{Q:Option fA→Ad→Prop},Q so s→wpAny M A (asStr? args) Q E s)(h3:∀{Q:Bool→Ad→Prop},(∀b,Q b s)→wpAny M A (fillsMappingSlot args) Q E s)(h4:(isT=false∧[args]=pend)∨(isT=true∧∀{Q:Option (Array Af)→Ad→Prop},Q (some pend.toArray) s→wpAny M A (seqItems? args) Q E s))(hl:∀f,uO f fo F.length→wpAny M A (forIn (List.range' 0 F.length 1) (pend,({}:Writer),F.cps.toList) f) (fun b s'=>s'=s∧b.1=[]∧∃T N,N≤16777216∧iE b.2.1 T N) E s)(h:∀z t k,Q (.done (.ret (.str z t))) {s with toks:=k}):wpAny M A (percentFormat fo F args) Q E s:=by
 intros n7 X Q EQ E Ad s Ae A Model M Af fo Af args Str F LVl pend Bool isT OS so
 skip
 refine a8 (h1 ?_)
 refine a8 (h2 ?_)
 refine a8 (h3 fun b=>?_)
 intros n2 X Q Bool b
 refine'(?main:_→_) ?key
 case main=>
  intro key;rcases h4 with⟨e,q⟩|⟨e,q⟩;·refine eM (i3 (by rw[e];exact aC) ?_);refine a8 (iG (a:=pend) (congrArg pure q) ?_);exact key
  ·refine eM (m3 e ?_);refine a8 (q ?_);refine a8 (iG (a:=pend) rfl ?_);exact key
 case key=>
  refine a8 ?_;rw[KPc.range_list];refine aE (hl _ ⟨?_,?_,?_⟩) ?_ fun _ _ e=>e
  ·intro M A E s x p w Q hw hq;refine eM (i3 hw ?_);refine eM (m3 rfl ?_);exact aS hq
  ·intro M A E s x p w c r Q hw hs hq;refine eM (i3 hw ?_);refine eM (i3 aC ?_);refine eM (m3 hs ?_);exact aS hq
  ·intro M A E s x p w y u r Q hw hq;refine eM (i3 hw ?_);repeat kpc_if
   refine a8 ?_;refine c6 ?_;repeat kpc_if
   kpt_conv;refine aS ?_;refine aS ?_;refine hq _ ?_;split;·exact KPc.obj_some rfl
   ·exact nP rfl
  ·clear hl h4 h3 h2 h1;rintro⟨p',w',r'⟩s'⟨rfl,e,T,N,hN,g⟩;dsimp only at e g⊢;subst e;refine eM (i3 aC ?_);exact KPc.finish_ok g hN rfl fun t k=>h T t k
theorem eq__137{f:Nat→List Af×Writer×List Nat→Sem (ForInStep (List Af×Writer×List Nat))}{x:Nat}{ls:List Nat}{p:List Af}{w:Writer}{c:Nat}{r:List Nat}{T:fA}{N:Nat}{Q:List Af×Writer×List Nat→Ad→Prop}(st:uO f fo n)(g:iE w T N)(hN:N≤16777216)(hs:(!((c::r).span (· !=37)).1.isEmpty)=true)(hn:(((c::r).span (· !=37)).1.length==n)=false)(h:∀w' T',iE w' T' (N+PySem.Str.length ⟨((c::r).span (· !=37)).1.toArray⟩)→wpAny M A (forIn ls (p,w',((c::r).span (· !=37)).2) f) Q E s):wpAny M A (forIn (x::ls) (p,w,c::r) f) Q E s:=
 nQ (st.lit (k7 g hN) hs (by rw[hn];exact h _ _ (nR g (nP rfl))))
theorem eq__166{f:Nat→List Af×Writer×List Nat→Sem (ForInStep (List Af×Writer×List Nat))}{x:Nat}{ls:List Nat}{p:List Af}{w:Writer}{r:List Nat}{T y:fA}{u:Tok}{N:Nat}{Q:List Af×Writer×List Nat→Ad→Prop}(st:uO f fo n)(g:iE w T N)(hN:N≤16777216)(hy:y.length≤1000000)(h:∀w' T',iE w' T' (N+1000000)→wpAny M A (forIn ls (p,w',r) f) Q E s):wpAny M A (forIn (x::ls) (.str y u::p,w,37::115::r) f) Q E s:=
 nQ (st.str (k7 g hN) fun _ ho=>h _ _ (KPc.good_mono (nR g (by rw[show(⟨y.cps.toList.toArray⟩:fA)=y from congrArg nU (i4 ..)];exact ho)) (cC (by rw[show(⟨y.cps.toList.toArray⟩:fA)=y from congrArg nU (i4 ..)];exact hy) _)))
theorem eq__310{f:Nat→List Af×Writer×List Nat→Sem (ForInStep (List Af×Writer×List Nat))}{x:Nat}{ls:List Nat}{w:Writer}{T:fA}{N:Nat}(st:uO f fo n)(g:iE w T N)(hN:N≤16777216):
  wpAny M A (forIn (x::ls) ([],w,[]) f) (fun b s'=>s'=s∧b.1=[]∧∃T N,N≤16777216∧iE b.2.1 T N) E s:=
 nQ (st.fin (k7 g hN) (eq__30 rfl rfl (eq__28 T N hN g)))
end
variable{Q:Af→Ad→Prop}{prog:Aa}{w:Ab}
section
theorem eq__580{x y:Str}{t u:Tok}(hx:x=sT)(hy:y.length≤lim)(h:∀z t' k,Q (.str z t') {s with toks:=k}):wpAny (model prog w) A (binaryOp .Mod (.str x t) (.str y u)) Q E s:=by
 have key:∀{X:Str},sT=X→Meets (PySem.Builtin.«str.__mod__» ⟨[.str X t,.str y u],[]⟩) (fun _ R s=>∀z t' k,R (.ok (.ret (.str z t'))) {s with toks:=k})→
   wpAny (model prog w) A (binaryOp .Mod (.str x t) (.str y u)) Q E s:=fun{X}e hm=>by
  subst hx;subst e;exact binaryOp_meets (T:="str") (op:=.Mod) (e8 s _ t) (e8 s y u) k8 i5 k9 (jV _ _) hm fun z t' k=>⟨(fun e=>nomatch e),h z t' k⟩
 refine' key ?F ?m
 case F=>skip;kpt_eq
 case m=>
  refine o9 fun prog w A _ s hS=>?_;rw[KPc.entry_is_s];refine eq__309 (isT:=false) (so:=some y) (pend:=[.str y u]) (m9 (e8 _ _ _) PySem.F.sub_str_tuple) (fun q=>iG rfl q) KPc.wp_fills_str (.inl ⟨rfl,rfl⟩) (fun f st=>?_) fun z t k=>(eq__2 _ rfl (hS z t k));refine eq__137 st KPc.good0 (bN _) rfl rfl fun _ _ g=>?_;refine eq__166 st g (by decide+kernel) hy fun _ _ g=>?_;exact eq__310 st g (by decide+kernel)
theorem eq__581{x a b c:Str}{t ta tb tc:Tok}{v:Addr}(hx:x=sU)(ht:IsTup s.heap v #[.str a ta,.str b tb,.str c tc])(ha:a.length≤1000000)(hb:b.length≤1000000)(hc:c.length≤1000000)(h:∀z t' k,Q (.str z t') {s with toks:=k}):wpAny (model prog w) A (binaryOp .Mod (.str x t) (.ref v)) Q E s:=by
 intros n9 X A X E X x Ad s EQ Q Aa prog Ab w Str a Str b Str c Tok t Tok ta Tok tb Tok tc Addr v
 have key:∀{X:Str},sU=X→Meets (PySem.Builtin.«str.__mod__» ⟨[.str X t,.ref v],[]⟩) (fun _ R s=>IsTup s.heap v #[.str a ta,.str b tb,.str c tc]∧∀z t' k,R (.ok (.ret (.str z t'))) {s with toks:=k})→
   wpAny (model prog w) A (binaryOp .Mod (.str x t) (.ref v)) Q E s:=fun{X}e hm=>by
  subst hx;subst e;have hT:s.TypeIs (.ref v) "tuple":=by
   rcases ht with⟨o,ho,hc,_⟩;exact⟨o,ho,hc⟩
  exact KPt.bin_left (T:="str") (U:="tuple") (op:=.Mod) (by decide) (e8 s _ t) hT k8 KPt.fills_tuple i5
   (fK i5 (e8 s _ t) k9 (jV _ _) hm ⟨ht,fun z t' k=>⟨(fun e=>nomatch e),h z t' k⟩⟩)
 refine' key ?F ?m
 case F=>skip;kpt_eq
 case m=>
  refine o9 fun prog w A _ s hS=>?_;refine eq__14 hS fun q1_ hS=>?_;rcases q1_ with⟨o,ho,hc',n,hd⟩;rw[KPt.entry_is_r];refine eq__309 (isT:=true) (so:=none) (pend:=[.str a ta,.str b tb,.str c tc]) (m9 ⟨o,ho,hc'⟩ KPt.sub_tt) (KPt.asStr_ref ho hd) (KPt.fills_ref ⟨o,ho,hc'⟩) (.inr ⟨rfl,wpAny_seqItems ho hd⟩) (fun f st=>?_) fun z t k=>(eq__2 _ rfl (hS z t k));refine eq__137 st KPc.good0 (bN _) rfl rfl fun _ _ g=>?_;refine eq__166 st g (by decide+kernel) ha fun _ _ g=>?_;refine eq__137 st g (by decide+kernel) rfl rfl fun _ _ g=>?_;refine eq__166 st g (by decide+kernel) hb fun _ _ g=>?_;refine eq__137 st g (by decide+kernel) rfl rfl fun _ _ g=>?_;refine eq__166 st g (by decide+kernel) hc fun _ _ g=>?_;refine eq__137 st g (by decide+kernel) rfl rfl fun _ _ g=>?_;exact eq__310 st g (by decide+kernel)
end
theorem eq__311{acc:List Str}{x:Str}{r:List Str}:rD acc (x::r)=rD (if acc.contains x then acc else acc++[x]) r:=rfl
theorem eq__205:∀(l acc:List Str),(rD acc l).length≤acc.length+l.length
 |[],acc=>aN _
 |x::r,acc=>by
  have :=eq__205 r (if acc.contains x then acc else acc++[x]);rw[eq__311];by_cases h:acc.contains x=true;·rw[if_pos h]at this⊢;simp only[aR];(exact Nat.le_succ_of_le this)
  ·rw[if_neg h]at this⊢;simp only[aH,aR,bG]at this⊢;exact eq__3 [_,_,_] (.le Z0 (.a Z1 (.a Z2 (.n 1)))) (.le Z0 (.a (.a Z1 (.a (.n 0) (.n 1))) Z2)) rfl this
variable{a:Addr}{xs:List Str}
section
theorem eq__312{I ax S:Addr}{items:Array Af}(hSI:S≠I)(hSa:S≠ax)(hIa:ax≠I)(hh:A.handled=none){R:Result→Ad→Prop}:
  ∀(rest:List Str)(i:Nat)(acc:List Str)(s:Ad),i+rest.length=items.size→(∀(j:Nat)(x:Str),rest[j]?=some x→∃t,items[i+j]?=some (jO x t))→acc.length+rest.length+1<scanBound→
   s.heap.IsListIter I ax i→s.heap.IsList ax items→s.heap.SetOf (bI prog w) S (fun k=>acc.contains k) acc.length→
   (∀h' tk,h'.SetOf (bI prog w) S (fun k=>(rD acc rest).contains k) (rD acc rest).length→(∀b o,b≠S→b≠I→s.heap.get? b=some o→h'.get? b=some o)→R (.ok (.ret .none)) {s with heap:=h',toks:=tk})→
   codeAny (model prog w) A (.builtin "set.update.loop" ⟨[.ref S,.ref I],[]⟩) R s
 |[],i,acc,s,hn,_,_,hI,hL,hS,hR=>by
  refine jP gH ?_;rw[kL dS _];show wpAny _ A.in1 (pyNext (.ref I)>>=_) _ _ s;refine a8 (kA (by exact hh) hI hL (by rw[Array.getElem?_eq_none];simp at hn;(exact lF (id (bH hn)))) fun h' x=>?_);show wpAny _ A.in1 (ret fM) _ _ _;refine aS (hR h' s.toks ?_ fun b o _ hb e=>x b o hb e);rcases hS with⟨o,es,ep,t,ho,r⟩;exact⟨o,es,ep,t,x S o hSI ho,r⟩
 |v::rest,i,acc,s,hn,hv,hb,hI,hL,hS,hR=>by
  refine jP gH ?_;rw[kL dS _];rcases hv 0 v rfl with⟨t,ht⟩;show wpAny _ A.in1 (pyNext (.ref I)>>=_) _ _ s;refine a8 (jW hI hL ht fun h₁ hI₁ x₁=>?_);show wpAny _ A.in1 (holding [jO v t] (setAdd S (.str v t))>>=_) _ _ _;refine a8 (c6 ?_);unfold setAdd;refine c6 (a8 ((bI prog w).pyHash (k:=v) (by simp[bI,kS]) ?_));have hS₁:h₁.SetOf (bI prog w) S (fun k=>acc.contains k) acc.length:=by
   rcases hS with⟨o,es,ep,tb,ho,r⟩;exact⟨o,es,ep,tb,(x₁.2 S hSI).trans ho,r⟩
  have hL₁:h₁.IsList ax items:=by
   rcases hL with⟨o,ho,r⟩;exact⟨o,(x₁.2 ax hIa).trans ho,r⟩
  refine wpAny_setAddHashed_of (knd:=bI prog w) (s:={s with heap:=h₁,toks:=s.toks+1}) (k:=v) (by simp[bI,kS]) rfl hS₁ (by simp only[aR]at hb;exact eq__3 [_,_,_] (.lt (.a Z0 (.n 1)) Z1) (.lt (.a (.a Z0 (.a Z2 (.n 1))) (.n 1)) Z1) rfl hb) fun h₂ x₂ hS₂=>?_;refine aS ⟨plainId_quiet dS _,?_⟩;have e1:(if acc.contains v=true then acc.length else acc.length+1)=(if acc.contains v=true then acc else acc++[v]).length:=by split<;>simp
  have e2:(fun k'=>acc.contains k'||decide (k'=v))=fun k'=>(if acc.contains v=true then acc else acc++[v]).contains k':=by
   funext k';by_cases q:acc.contains v=true
   ·rw[if_pos q];by_cases z:k'=v;·subst z;rw[q];simp
    ·simp[z]
   ·rw[if_neg q];by_cases z:k'=v;·clear q e1 hS₂ ht hR hb hv hn;subst z;simp
    ·simp[z]
  rw[e1,e2]at hS₂;refine eq__312 (items:=items) hSI hSa hIa hh rest (i+1) _ _ (by simp only[aR]at hn;exact cS (eq__3 [_,_,_] (.le (.a (.a Z0 (.n 1)) Z1) Z2) (.eq (.a Z0 (.a Z1 (.n 1))) Z2) rfl hn) (eq__3 [_,_,_] (.le Z0 (.a (.a Z1 (.n 1)) Z2)) (.qe (.a Z1 (.a Z2 (.n 1))) Z0) rfl hn)) (fun j y hj=>?_) ?_ ?_ ?_ hS₂ fun h' tk h'S k=>?_
  ·rcases hv (j+1) y hj with⟨t,e⟩;exact⟨t,by rw[show i+1+j=i+(j+1)by(exact Nat.succ_add_eq_add_succ i j)];exact e⟩
  ·simp only[aR]at hb;split<;>(try simp only[aH,aR,bG])<;>omega
  ·rcases hI₁ with⟨o,ho,r⟩;exact⟨o,(x₂.2 I (cW hSI)).trans ho,r⟩
  ·rcases hL₁ with⟨o,ho,r⟩;exact⟨o,(x₂.2 ax (cW hSa)).trans ho,r⟩
  ·refine hR h' tk ?_ fun b o h1 h2 e=>k b o h1 h2 ((x₂.2 b h1).trans ((x₁.2 b h2).trans e));exact h'S
set_option maxHeartbeats 3200000 in
theorem eq__582{l:Addr}{items:Array Af}(hh:A.handled=none)(hl:s.heap.IsList l items)(hn:xs.length=items.size)(hi:∀(j:Nat)(x:Str),xs[j]?=some x→∃t,items[j]?=some (jO x t))(hb:xs.length+1<scanBound)(h:∀h' tk,h'.SetOf (bI prog w) s.heap.objs.size (fun k=>(rD [] xs).contains k) (rD [] xs).length→(∀b o,s.heap.get? b=some o→h'.get? b=some o)→Q (.ref s.heap.objs.size) {s with heap:=h',toks:=tk}):
  wpAny (model prog w) A (call (.type "set") [.ref l]) Q E s:=by
 intros n7 X items EQ E Ad s Ae A EQ Q Aa prog Ab w LS xs Addr l
 rcases d7.mro with⟨c,tl,hmro⟩
 have hmade:=d7.made
 have hsub:=d7.sub
 refine fN (jQ ?_)
 show wpAny _ _ (callAny (.type "set") _) _ _ _
 refine aS ⟨Code.quiet_builtin _ (by decide+kernel),jP PySem.F.entry_type_call ?_⟩
 rw[Around.under_plain (weight_type_call_type "set" [.ref l] []) rfl]
 have h1:=d7.notType
 have h2:=d7.canCreate
 have hct:=PySem.F.typeCall_set_1 (.ref l)
 repeat(any_goals(first|assumption|wp_step))
 refine codeAny_mono (code_set_new_1 (.ref l) (E:=E) (Q₁:=fun obj s₁=>∃led:Bool,obj=.ref s.heap.objs.size∧s₁={s with heap:=s.heap.push {cls:=.type "set",dict:=none,data:=.set #[] 0 (.fresh 0 0 led)}}) fun led=>⟨led,rfl,rfl⟩) fun r s₁ hr=>?_
 cases r with
 |error e=>exact hr
 |ok fl=>
  cases fl with
  |ret obj=>
   rcases hr with⟨led,rfl,rfl⟩;intros n7 X items X c X tl Bool led;generalize hN:s.heap.push {cls:=.type "set",dict:=none,data:=.set #[] 0 (.fresh 0 0 led)}=N;have hS:N.get? s.heap.objs.size=some {cls:=.type "set",dict:=none,data:=.set #[] 0 (.fresh 0 0 led)}:=by rw[←hN];exact bO _ rfl
   have hk:∀b o,s.heap.get? b=some o→N.get? b=some o:=fun b o e=>by rw[←hN];exact bE _ e
   have hz:N.objs.size=s.heap.objs.size+1:=by rw[←hN];exact gO ..
   have hT:Shared.TypeIs {s with heap:=N} (.ref s.heap.objs.size) "set":=⟨_,hS,rfl⟩;have hli:=d7.init.lookup;have hbi:=d7.init.bind (.ref s.heap.objs.size);repeat(any_goals(first|assumption|wp_step))
   refine codeAny_mono (i6 (R:=wants (fun r s₂=>r=.none∧∃h' tk,s₂={s with heap:=h',toks:=tk}∧
      h'.SetOf (bI prog w) s.heap.objs.size (fun k=>(rD [] xs).contains k) (rD [] xs).length∧(∀b o,s.heap.get? b=some o→h'.get? b=some o)) E) d7.init.plain PySem.F.entry_set_init (check_set_init_1 hT ?_)) fun r₂ s₂ hr₂=>?_
   ·rcases id hl with⟨ol,hol,hcl,nl,hdl⟩;rcases ol with⟨ocls,odict,odata,oslots⟩;simp only at hcl hdl;subst hcl;subst hdl;have hol':N.get? l=some {cls:=.type "list",dict:=odict,data:=.seq items nl,slots:=oslots}:=hk _ _ hol;have hsls:=PySem.F.sub_list_set;have hslf:=PySem.F.sub_list_frozenset;have hne:(iX "list"==iX "dict")=false:=by decide
    have hl1:N.IsList l items:=⟨_,hol',rfl,nl,rfl⟩;unfold Builtin.«set.__init__»noKeywords mX;generalize hPI:pyIter=PI;wp_walk;subst hPI;refine lR hl1 ?_;refine a8 (wpAny_runValue ?_);have hlS:l<s.heap.objs.size:=cG hol;refine eq__312 (items:=items) (I:=N.objs.size) (ax:=l) (S:=s.heap.objs.size) (by rw[hz];exact dH (cU _)) (eE hlS) (by rw[hz];exact dH (lS hlS)) (by simp[hh]) xs 0 [] _ (by exact cS (eq__3 [_,_] (.le (.a (.n 0) Z0) Z1) (.eq Z0 Z1) rfl hn) (eq__3 [_,_] (.le Z0 (.a (.n 0) Z1)) (.qe Z1 Z0) rfl hn))
     (fun j x hj=>by rw[cF];exact hi j x hj) (by simp;omega) ⟨_,bO _ rfl,rfl,rfl⟩ (hl1.push _) ?_ fun h' tk hS' k=>?_
    ·have :=(nD (knd:=bI prog w) led).setOf (bE {cls:=.type "list_iterator",data:=.fields #[.ref l,.int 0 0]} hS) (by unfold scanBound;(exact Nat.zero_lt_succ 4095));simpa using this
    ·show wpAny _ _ _ _ _ _;refine aS ?_;show wpAny _ _ (ret fM) _ _ _;refine aS ⟨rfl,h',tk,rfl,hS',fun b o e=>?_⟩;have :=cG e;exact k b o (dH this) (by rw[hz];exact dH (lS this)) (bE _ (hk b o e))
   ·cases r₂ with
    |error e=>exact hr₂
    |ok fl₂=>
     cases fl₂ with
     |ret r=>
      rcases hr₂ with⟨rfl,h',tk,rfl,hS',hk'⟩;repeat(any_goals(first|assumption|wp_step))
      exact h _ _ hS' hk'
     |_=>exact hr₂.elim
  |_=>exact hr.elim
theorem eq__583{S:Str→Bool}(hS:s.heap.SetOf (bI prog w) a S n)(h:∀tk tk',Q (.int n tk) {s with toks:=tk'}):wpAny (model prog w) A (call (.builtin "len") [.ref a]) Q E s:=by
 intros n4 X S X n EQ E Ad s Ae A EQ Q Aa prog Ab w Addr a
 rcases hS with⟨o,es,ep,t,ho,hex,hd,hel,hmem,hb,hf,hn⟩
 subst hn
 exact call_len_set ho hex hd hf (by unfold scanBound at hb;omega) (h _ _)
end
set_option tactic.hygienic false
structure CloD where
 args:Arguments
 body:List Stmt
 scope:Ah
noncomputable def pF(scope:Ah):List Str:=scope.names.filterMap fun nk=>if nk.2==.free then some nk.1 else none
def wM(d:CloD)(fd:FuncData):Prop:=fd.params=d.args∧fd.body=.stmts d.body∧fd.scope=d.scope∧fd.globals=mainGlobals∧fd.builtins=builtinsNs∧fd.defaults=.none∧fd.kwdefaults=.none
inductive Val where
 |none|bool(b:Bool)|int(i:Int)|str(s:Str)
 |tup(vs:List Val)|lst(vs:List Val)|dct0
 |ref(k:Nat)|imm(v:Af)|any
 |clo(d:CloD)(vs:List Val)
 deriving Inhabited
inductive Cell where
 |list(vs:List Val)
 |dict(es:List (Str×Val))(ep:Nat)
 |inst(C:Addr)(fs:List (Str×Val))
 |exn(C:Addr)(fs:List (Str×Val))
 |tab(made:Bool)
 deriving Inhabited
noncomputable abbrev St:=List Cell
noncomputable abbrev LV:=List Val
noncomputable def tLV:Ty:=⟨LV,⟨[]⟩⟩
noncomputable abbrev LD:=List (Str×Val)
noncomputable def tLD:Ty:=⟨LD,⟨[]⟩⟩
noncomputable def tSt:Ty:=⟨St,⟨[]⟩⟩
noncomputable def tVal:Ty:=⟨Val,⟨default⟩⟩
noncomputable def tCell:Ty:=⟨Cell,⟨default⟩⟩
inductive Out(S α:Type)where
 |ok(a:α)(s:S)
 |exc(k:Nat)(s:S)
 |stuck
variable{α:Type}
theorem eq__584{l:List α}(h:l.length=2):∃x y,l=[x,y]:=by
 cases l with
 |nil=>exact absurd h.symm (j3 _)
 |cons x l=>
  cases l with
  |nil=>exact absurd (j4 h).symm (j3 _)
  |cons y l=>
   cases l with
   |nil=>exact eq__54 x y rfl
   |cons z l=>exact absurd (j4 (j4 h)) (j3 _)
variable{β:Type}
namespace Out
variable{S:Type}
noncomputable def bind(m:Out S α)(f:α→S→Out S β):Out S β:=match m with
 |.ok a s=>f a s
 |.exc k s=>.exc k s
 |.stuck=>.stuck
@[simp]theorem bind_ok(a:α)(s:S)(f:α→S→Out S β):(Out.ok a s).bind f=f a s:=rfl
@[simp]theorem bind_exc(k:Nat)(s:S)(f:α→S→Out S β):(Out.exc k s).bind f=.exc k s:=rfl
@[simp]theorem bind_stuck(f:α→S→Out S β):(Out.stuck:Out S α).bind f=.stuck:=rfl
end Out
inductive Role where
 |free|imm(o:Obj)|obj(k:Nat)|dic(k:Nat)|frame
 deriving Inhabited
noncomputable abbrev Wd:=Addr→Role
noncomputable def tWd:Ty:=⟨Wd,⟨default⟩⟩
noncomputable def Role.still:Role→Bool|.free=>true|.imm _=>true|_=>false
mutual
noncomputable def Rep(W:Wd):Val→Af→Prop
 |.none,v=>v=.none
 |.bool b,v=>v=.bool b
 |.int i,v=>∃t,v=.int i t
 |.str s,v=>∃t,v=.str s t∧s.length≤lim
 |.tup vs,v=>∃(a:Addr)(o:Obj)(rvs:List Af)(n:Nat),v=.ref a∧W a=.imm o∧o.cls=.type "tuple"∧o.data=.seq (eW rvs) n∧RepL W vs rvs∧vs.length≤lim
 |.lst vs,v=>∃(a:Addr)(o:Obj)(rvs:List Af)(n:Nat),v=.ref a∧W a=.imm o∧o.cls=.type "list"∧o.data=.seq (eW rvs) n∧RepL W vs rvs∧vs.length≤lim
 |.dct0,v=>∃a,v=.ref a∧W a=.imm {cls:=.type "dict",data:=.dict #[]}∧(a==sysModules)=false
 |.ref k,v=>∃a,v=.ref a∧W a=.obj k
 |.imm w,v=>v=w
 |.any,_=>True
 |.clo d vs,v=>∃(a:Addr)(o:Obj)(fd:FuncData)(rvs:List Af),v=.ref a∧W a=.imm o∧o.data=.func fd∧wM d fd∧(∃c oc ws t,fd.code=.ref c∧W c=.imm oc∧oc.data=.fields ws∧ws[1]?=some (.str fd.qualname t))∧RepL W vs rvs∧
   ∀(i:Nat)(x:Str)(rv:Af),(pF d.scope)[i]?=some x→rvs[i]?=some rv→∃c oc,fd.closure.lookup x=some c∧W c=.imm oc∧oc.data=.cell (some rv)
noncomputable def RepL(W:Wd):List Val→List Af→Prop
 |[],rs=>rs=[]
 |v::vs,rs=>∃r rs',rs=r::rs'∧Rep W v r∧RepL W vs rs'
end
variable{W:Wd}
theorem RepL.nil{rs:List Af}:RepL W [] rs↔rs=[]:=by skip;exact fV
variable{v:Val}{vs:List Val}
theorem RepL.cons{rs:List Af}:RepL W (v::vs) rs↔∃r rs',rs=r::rs'∧Rep W v r∧RepL W vs rs':=fV
theorem RepL.len:∀{vs:List Val}{rs:List Af},RepL W vs rs→rs.length=vs.length
 |[],_,h=>by refine a9 (congrArg _ (RepL.nil.mp h)) ?_;rfl
 |_::_,_,h=>by refine eq__17 (RepL.cons.mp h) fun r rs' q1_ _ h'=>?_;subst q1_;rw[aR,aR,h'.len]
theorem RepL.get:∀{vs:List Val}{rs:List Af}{i:Nat}{v:Val},RepL W vs rs→vs[i]?=some v→∃r,rs[i]?=some r∧Rep W v r
 |[],_,_,_,_,e=>by(injection e)
 |_::_,_,0,_,h,e=>by(refine eq__17 (RepL.cons.mp h) fun r rs' q1_ a _=>?_;subst q1_);rcases a6 e with rfl;exact eq__2 r rfl a
 |v₀::vs,_,i+1,v,h,e=>by
  refine eq__17 (RepL.cons.mp h) fun r rs' q1_ _ b=>?_;subst q1_;have e':vs[i]?=some v:=by rw[aV]at e;exact e
  obtain⟨r',h1,h2⟩:_:=RepL.get b e';exact eq__2 r' (by skip;exact h1) h2
variable{i:Nat}
theorem RepL.getR{rs:List Af}{r:Af}(h:RepL W vs rs)(e:rs[i]?=some r):∃v,vs[i]?=some v∧Rep W v r:=by
 have' hl:=h.len
 have hi:i<vs.length:=by simp only[←hl];exact(bA.mp e).1
 refine eq__1 (h.get (aW hi)) fun r' e' q=>?_
 rw[e]at e';rcases a6 e' with rfl
 exact eq__2 _ (aW hi) q
theorem RepL.append:∀{vs:List Val}{rs:List Af}{us:List Val}{qs:List Af},RepL W vs rs→RepL W us qs→RepL W (vs++us) (rs++qs)
 |[],_,_,_,h,h'=>by exact(RepL.nil.mp h)▸h'
 |_::_,_,_,_,h,h'=>by
  (refine eq__17 (RepL.cons.mp h) fun r rs' q1_ a b=>?_;subst q1_);exact RepL.cons.mpr (eq__24 r (rs'++_) rfl a (b.append h'))
theorem RepL.one{r:Af}(h:Rep W v r):RepL W [v] [r]:=RepL.cons.mpr (eq__24 r ([]) rfl h (RepL.nil.mpr rfl))
theorem RepL.of_get:∀{vs:List Val}{rs:List Af},rs.length=vs.length→(∀(j:Nat)(v:Val)(r:Af),vs[j]?=some v→rs[j]?=some r→Rep W v r)→RepL W vs rs
 |[],[],_,_=>RepL.nil.mpr rfl
 |[],_::_,h,_=>by simp at h
 |_::_,[],h,_=>by simp at h
 |v::vs,r::rs,h,f=>RepL.cons.mpr (eq__24 r rs rfl (f 0 v r rfl rfl) (RepL.of_get (by simpa using h) fun j v r h1 h2=>f (j+1) v r (h1) (h2)))
def Wd.le(W W':Wd):Prop:=∀a,W a≠.free→W' a=W a
theorem Wd.le.refl(W:Wd):W.le W:=fun _ _=>rfl
variable{W₁:Wd}
theorem Wd.le.trans{W₂:Wd}(h:W.le W₁)(h':W₁.le W₂):W.le W₂:=fun a n=>by
 have' e:=h a n
 rw[←e,h' a (by exact(e)▸n)]
variable{W':Wd}
theorem Wd.le.imm(h:W.le W'){o:Obj}(e:W a=.imm o):W' a=.imm o:=by rw[h a (by rw[e];intro q;(injection q)),e]
variable{k:Nat}
theorem Wd.le.obj(h:W.le W')(e:W a=.obj k):W' a=.obj k:=by rw[h a (by rw[e];intro q;(injection q)),e]
theorem Wd.le.dic(h:W.le W')(e:W a=.dic k):W' a=.dic k:=by rw[h a (by rw[e];intro q;(injection q)),e]
mutual
theorem Rep.mono{W W':Wd}(l:W.le W'):∀{v:Val}{r:Af},Rep W v r→Rep W' v r
 |.none,_,h=>by skip;exact h
 |.bool _,_,h=>by skip;exact h
 |.int _,_,h=>by skip;exact h
 |.str _,_,h=>by skip;exact h
 |.tup vs,_,h=>by
  skip;refine eq__71 h fun a o rvs n e i c d q z=>?_;exact eq__203 a o rvs n e (l.imm i) c d (RepL.mono l q) z
 |.lst vs,_,h=>by
  skip;refine eq__71 h fun a o rvs n e i c d q z=>?_;exact eq__203 a o rvs n e (l.imm i) c d (RepL.mono l q) z
 |.dct0,_,h=>by
  skip;obtain⟨a,e,i,n⟩:_:=h;exact eq__7 a e (l.imm i) n
 |.ref _,_,h=>by
  skip;obtain⟨a,e,i⟩:_:=h;exact eq__2 a e (l.obj i)
 |.imm _,_,h=>by skip;exact h
 |.any,_,_=>by skip;trivial
 |.clo d vs,_,h=>by
  skip;(refine eq__305 h fun a o fd rvs e i d cf q1_ q f=>?_;rcases q1_ with⟨c,oc,ws,t,c1,c2,c3⟩);refine eq__306 a o fd rvs e (l.imm i) d cf ⟨c,oc,ws,t,c1,l.imm c2,c3⟩ (RepL.mono l q) (fun j x rv hx hr=>?_);refine eq__17 (f j x rv hx hr) fun c oc h1 h2 h3=>?_;exact eq__24 c oc h1 (l.imm h2) h3
theorem RepL.mono{W W':Wd}(l:W.le W'):∀{vs:List Val}{rs:List Af},RepL W vs rs→RepL W' vs rs
 |[],_,h=>by skip;exact h
 |v::vs,_,h=>by
  skip;refine eq__17 h fun r rs' e a b=>?_;exact eq__24 r rs' e (Rep.mono l a) (RepL.mono l b)
end
def Ext(O:List Addr)(W:Wd)(h:Ac)(W':Wd)(h':Ac):Prop:=
 W.le W'∧∀a o,h.get? a=some o→(a∉O→W' a=W a)∧((W a=.free∧a∈O)∨∃o',h'.get? a=some o'∧
  ((W a).still=true→a∉O→o'=o)∧
  (W a=.frame→(∀vs,o.data≠.fields vs)→∀vs,o'.data≠.fields vs)∧
  (W a=.frame→a∉O→∃sl,o'={o with slots:=sl}))
theorem Ext.refl(O:List Addr)(W:Wd)(h:Ac):Ext O W h W h:=⟨Wd.le.refl W,fun _ o e=>⟨fun _=>rfl,.inr (eq__27 o e (fun _ _=>rfl) (fun _ n=>n) (fun _ _=>⟨o.slots,rfl⟩))⟩⟩
variable{O:List Addr}{h h₁:Ac}
theorem Ext.trans{W₂:Wd}{h₂:Ac}(x:Ext O W h W₁ h₁)(y:Ext O W₁ h₁ W₂ h₂):Ext O W h W₂ h₂:=by
 intros n2 Wd W Wd W₁ LA O Ac h Ac h₁ Wd W₂ Ac h₂
 refine⟨x.1.trans y.1,fun a o e=>?_⟩
 obtain⟨r₁,c₁⟩:_:=x.2 a o e
 rcases c₁ with⟨f,m⟩|⟨o₁,e₁,s₁,f₁,g₁⟩
 ·exact⟨fun n=>absurd m n,.inl ⟨f,m⟩⟩
 ·obtain⟨r₂,c₂⟩:_:=y.2 a o₁ e₁;refine⟨fun n=>(r₂ n).trans (r₁ n),?_⟩;by_cases wf:W a=.free∧a∈O;·exact .inl wf
  ·right;have hw:W₁ a=W a:=by
    by_cases m:a∈O;·exact x.1 a fun q=>wf ⟨q,m⟩
    ·exact r₁ m
   rcases c₂ with⟨f,m⟩|⟨o₂,e₂,s₂,f₂,g₂⟩;·exact absurd (eq__51 (hw▸f) m) wf
   ·refine eq__27 o₂ e₂ (fun hs hn=>?_) (fun hf hd=>?_) (fun hf hn=>?_);·rw[s₂ (by refine a9 (congrArg _ (hw)) ?_;exact hs) hn,s₁ hs hn]
    ·exact f₂ (by refine a9 (hw) ?_;exact hf) (f₁ hf hd)
    ·obtain⟨sl,h1⟩:_:=g₁ hf hn;obtain⟨sl',h2⟩:=g₂ (by refine a9 (hw) ?_;exact hf) hn;exact⟨sl',by rw[h2,h1]⟩
variable{h':Ac}{O':List Addr}
theorem Ext.wide(x:Ext O W h W' h')(s:∀a∈O,a∈O'):Ext O' W h W' h':=by
 intros n2 Wd W Wd W' LA O Ac h Ac h' LA O'
 exact⟨x.1,fun a o e=>by
 obtain⟨r,c⟩:_:=x.2 a o e
 refine⟨fun n=>r fun q=>n (s a q),c.imp (fun⟨f,m⟩=>⟨f,s a m⟩) ?_⟩
 (intro hp1_;refine aM fun hG_=>?_;refine eq__134 hp1_ fun o' e' s' f g=>?_;refine hG_ ?_;clear hG_)
 exact eq__27 o' e' (fun hs hn=>s' hs (fun q=>hn (s a q))) f (fun hf hn=>g hf (fun q=>hn (s a q)))⟩
theorem Ext.nil(x:Ext [] W h W' h'):Ext O W h W' h':=x.wide (fun _ q=>nomatch q)
theorem Ext.narrow(x:Ext (O++O') W h W' h')(n:∀a∈O',h.get? a=none):Ext O W h W' h':=by
 intros n2 Wd W Wd W' LA O Ac h Ac h' LA O'
 exact⟨x.1,fun a o e=>by
 obtain⟨r,c⟩:_:=x.2 a o e
 have off:a∉O→a∉O++O':=fun q m=>by
  refine cD (bW.mp m) (fun m=>?_) fun m=>?_;·exact q m
  ·rw[n a m]at e;(injection e)
 refine⟨fun q=>r (off q),?_⟩
 rcases c with⟨f,m⟩|⟨o',e',s',f,g⟩
 ·rcases bW.mp m with m|m;·exact .inl ⟨f,m⟩
  ·rw[n a m]at e;(injection e)
 ·exact .inr (eq__27 o' e' (fun hs hn=>s' hs (off hn)) f (fun hf hn=>g hf (off hn)))⟩
theorem Ext.none{W W':Wd}{h h':Ac}(x:Ext [] W h W' h'){a:Addr}(n:h'.get? a=.none):h.get? a=.none:=by
 cases e:h.get? a with
 |none=>rfl
 |some o=>
  rcases(x.2 a o e).2 with⟨_,m⟩|⟨o',e',_⟩;·contradiction
  ·rw[n]at e';(injection e')
theorem Ext.stillAt(x:Ext O W h W' h'){o:Obj}(e:h.get? a=some o)(s:(W a).still=true)(n:a∉O):h'.get? a=some o∧W' a=W a:=by
 intros n5 X h X x Addr a Wd W Wd W' LA O Ac h' Obj o
 refine eq__14 (x.2 a o e) fun r c=>?_
 rcases c with⟨_,m⟩|⟨o',e',q,_⟩
 ·exact absurd m n
 ·exact⟨by rw[e',q s n],r n⟩
noncomputable def look{α:Type}(x:Str):List (Str×α)→Option α
 |[]=>none
 |(y,u)::r=>if y=x then some u else look x r
def FldRel(W:Wd)(fs:List (Str×Val))(m:Str→Option Af):Prop:=
 ∀x,match look x fs with
  |some v=>∃rv,m x=some rv∧Rep W v rv∧handedIn rv=true
  |none=>m x=none
variable{fs:List (Str×Val)}{m:Str→Option Af}
set_option tactic.hygienic true in
theorem FldRel.mono(l:W.le W')(h:FldRel W fs m):FldRel W' fs m:=fun x=>by
 have' this:=h x
 split at this
 ·rename_i v e;obtain⟨rv,a,b,c⟩:_:=this;exact eq__7 rv a (b.mono l) c
 ·exact this
inductive NsN(h:Ac)(d:Addr)(m:Str→Option Af)(n:Nat):Prop
 |mk(es:Array DictEntry)(ep:Nat)(e:h.get? d=some {cls:=.type "dict",data:=.dict es ep})(k:StrKeys es)(f:∀x,nsFind es x=m x)(z:es.size≤n)
variable{d:Addr}
theorem NsN.ns:NsN h d m n→h.Ns d m:=fun⟨es,ep,e,a,b,_⟩=>⟨_,es,ep,e,rfl,a,b⟩
noncomputable def wX(ps:Array Af):Obj:={cls:=.none,data:=.fields ps}
noncomputable def tV(rvs:List Af)(n:Nat):Obj:={cls:=.type "list",data:=.seq (eW rvs) n}
variable{rvs:List Af}
theorem eq__206(e:h.get? a=some (tV rvs n)):h.IsList a (eW rvs):=⟨_,e,rfl,n,rfl⟩
noncomputable def CellRel(prog:Aa)(w:Ab)(W:Wd)(h:Ac)(k:Nat)(a:Addr):Cell→Prop
 |.list vs=>∃(rvs:List Af)(n:Nat),h.get? a=some (tV rvs n)∧RepL W vs rvs∧vs.length≤lim
 |.dict es ep=>∃rvs:List Af,h.DictAt (strKind prog w) a ((es.map (·.1)).zip rvs) ep∧RepL W (es.map (·.2)) rvs∧es.length≤lim∧(a==sysModules)=false∧∀e∈es,e.1.length≤lim
 |.inst C fs=>∃(d:Addr)(m:Str→Option Af),W d=.dic k∧h.get? a=some (instObj C d)∧NsN h d m fs.length∧FldRel W fs m
 |.exn C fs=>∃(ob:Obj)(vs:Array Af),h.get? a=some ob∧ob.cls=.ref C∧ob.data=.fields vs∧1<vs.size∧
   ((ob.dict=none∧fs=[])∨∃(d:Addr)(m:Str→Option Af),W d=.dic k∧ob.dict=some d∧h.Ns d m∧FldRel W fs m)
 |.tab made=>a=339∧(made=false→h.get? a=some (wX #[]))∧∃ps,h.get? a=some (wX ps)
variable{c:Cell}
theorem CellRel.keep(x:CellRel prog w W h k a c)(l:W.le W')(hk:∀b o,(b=a∨W b=.dic k)→h.get? b=some o→h'.get? b=some o):CellRel prog w W' h' k a c:=by
 intros n4 X c Aa prog Ab w Addr a Wd W Wd W' Nat k Ac h Ac h'
 cases c with
 |list vs=>
  obtain⟨rvs,n,i,r,z⟩:_:=x;exact⟨rvs,n,hk a _ (.inl rfl) i,r.mono l,z⟩
 |dict es ep=>
  obtain⟨rvs,⟨o,es',e,q⟩,r,z⟩:_:=x;exact⟨rvs,⟨o,es',hk a o (.inl rfl) e,q⟩,r.mono l,z⟩
 |inst C fs=>
  rcases x with⟨d,m,hd,ha,hn,hf⟩;rcases hn with⟨es,ep,ho,q1,q2,q3⟩;exact⟨d,m,l.dic hd,hk a _ (.inl rfl) ha,⟨es,ep,hk d _ (.inr hd) ho,q1,q2,q3⟩,hf.mono l⟩
 |exn C fs=>
  obtain⟨ob,vs,ha,hc,hd,hs,q⟩:_:=x;refine⟨ob,vs,hk a _ (.inl rfl) ha,hc,hd,hs,q.imp id ?_⟩;(intro hp1_;refine aM fun hG_=>?_;refine eq__25 hp1_ fun d m h1 h2 q1_ hf=>?_;rcases q1_ with⟨o,es,ep,ho,q⟩;refine hG_ ?_;clear hG_);exact eq__39 d m (l.dic h1) h2 ⟨o,es,ep,hk d o (.inr h1) ho,q⟩ (hf.mono l)
 |tab made=>
  obtain⟨e,x,ps,y⟩:_:=x;exact⟨e,fun q=>hk a _ (.inl rfl) (x q),ps,hk a _ (.inl rfl) y⟩
structure Rel(prog:Aa)(w:Ab)(g:Ac)(W:Wd)(σ:St)(h:Ac):Prop where
 gnd:∀a o,g.get? a=some o→W a=.imm o
 imm:∀a o,W a=.imm o→h.get? a=some o
 live:∀a,W a≠.free→∃o,h.get? a=some o
 cell:∀a k,W a=.obj k→∃c,σ[k]?=some c∧CellRel prog w W h k a c
 has:∀k,k<σ.length→∃a,W a=.obj k
 uniq:∀a b k,W a=.obj k→W b=.obj k→a=b
 duniq:∀a b k,W a=.dic k→W b=.dic k→a=b
 dlt:∀a k,W a=.dic k→k<σ.length
variable{σ:St}{g:Ac}
section
theorem Rel.stays(R:Rel prog w g W σ h):∀a o,g.get? a=some o→h.get? a=some o:=fun a o e=>R.imm a o (R.gnd a o e)
theorem Rel.freeAt(R:Rel prog w g W σ h)(n:h.get? a=none):W a=.free:=by
 cases e:W a with
 |free=>rfl
 |_=>obtain⟨o,q⟩:=R.live a (by rw[e];intro q;(injection q));rw[n]at q;(injection q)
theorem eq__48(h:Ac):h.get? h.objs.size=none:=by
 cases e:h.get? h.objs.size with
 |none=>rfl
 |some o=>exact absurd (cG e) (cN _)
theorem Rel.freeSize(R:Rel prog w g W σ h):W h.objs.size=.free:=R.freeAt (eq__48 h)
theorem Rel.le(_:Rel prog w g W σ h)(x:Ext O W h W' h'):W.le W':=x.1
theorem Rel.step(R:Rel prog w g W σ h)(l:W.le W')(hn:∀a,W' a=W a∨(∃o,W' a=.imm o∧h'.get? a=some o)∨(W' a=.frame∧∃o,h'.get? a=some o))(hk:∀a o,W a≠.free→W a≠.frame→h.get? a=some o→h'.get? a=some o)(hf:∀a,W a=.frame→∃o,h'.get? a=some o):Rel prog w g W' σ h':=by
 intros n7 X g X σ Aa prog Ab w Wd W Wd W' Ac h Ac h'
 have back:∀a k,W' a=.obj k→W a=.obj k:=fun a k e=>by
  rcases hn a with r|⟨o,r,_⟩|⟨r,_⟩;·rw[←r,e]
  ·rw[e]at r;(injection r)
  ·rw[e]at r;(injection r)
 have backd:∀a k,W' a=.dic k→W a=.dic k:=fun a k e=>by
  rcases hn a with r|⟨o,r,_⟩|⟨r,_⟩;·rw[←r,e]
  ·rw[e]at r;(injection r)
  ·rw[e]at r;(injection r)
 refine⟨fun a o e=>l.imm (R.gnd a o e),fun a o e=>?_,fun a n=>?_,fun a k e=>?_,fun k hk'=>?_,fun a b k ea eb=>R.uniq a b k (back a k ea) (back b k eb),
  fun a b k ea eb=>R.duniq a b k (backd a k ea) (backd b k eb),fun a k e=>R.dlt a k (backd a k e)⟩
 ·rcases hn a with r|⟨o',r,q⟩|⟨r,_⟩;·rw[r]at e;exact hk a o (by rw[e];intro q;(injection q)) (by rw[e];intro q;(injection q)) (R.imm a o e)
  ·rw[e]at r;(injection r with hq_;subst hq_);exact q
  ·rw[e]at r;(injection r)
 ·rcases hn a with r|⟨o',r,q⟩|⟨r,q⟩
  ·replace n:=(r)▸n;by_cases hfr:W a=.frame;·exact hf a hfr
   ·obtain⟨o,q⟩:_:=R.live a n;exact⟨o,hk a o n hfr q⟩
  ·exact⟨o',q⟩
  ·exact q
 ·refine eq__1 (R.cell a k (back a k e)) fun c hc q=>?_;refine eq__2 c hc (q.keep l fun b o hb eb=>?_);rcases hb with rfl|hb;·exact hk b o (by rw[back b k e];intro q;(injection q)) (by rw[back b k e];intro q;(injection q)) eb
  ·exact hk b o (by rw[hb];intro q;(injection q)) (by rw[hb];intro q;(injection q)) eb
 ·obtain⟨a,e⟩:_:=R.has k hk';exact⟨a,l.obj e⟩
noncomputable def Wd.put(W:Wd)(a:Addr)(r:Role):Wd:=fun b=>if b=a then r else W b
@[simp]theorem Wd.put_self(W:Wd)(a:Addr)(r:Role):W.put a r a=r:=if_pos rfl
theorem Wd.put_ne(W:Wd){b:Addr}(r:Role)(n:b≠a):W.put a r b=W b:=if_neg n
theorem Wd.put_le(r:Role)(e:W a=.free):W.le (W.put a r):=fun b n=>by
 by_cases q:b=a
 ·subst q;exact absurd e n
 ·exact Wd.put_ne W r q
theorem eq__138(o':Obj):∀a o,h.get? a=some o→(h.push o').get? a=some o:=fun _ _ e=>bE _ e
theorem eq__139(le:W.le W')(l:∀a o,h.get? a=some o→W' a=W a)(k:∀a o,h.get? a=some o→h'.get? a=some o):Ext O W h W' h':=
 ⟨le,fun a o e=>⟨fun _=>l a o e,.inr (eq__27 o (k a o e) (fun _ _=>rfl) (fun _ n=>n) (fun _ _=>⟨o.slots,rfl⟩))⟩⟩
theorem Rel.grow(R:Rel prog w g W σ h)(k:∀a o,h.get? a=some o→h'.get? a=some o):Rel prog w g W σ h'∧Ext [] W h W h':=
 ⟨R.step (Wd.le.refl W) (fun _=>.inl rfl) (fun a o _ _ e=>k a o e) (fun a e=>by obtain⟨o,q⟩:=R.live a (by rw[e];intro q;(injection q));exact⟨o,k a o q⟩),eq__139 (Wd.le.refl W) (fun _ _ _=>rfl) k⟩
theorem Rel.newImm(R:Rel prog w g W σ h){o:Obj}(n:h.get? a=none)(k:∀a o,h.get? a=some o→h'.get? a=some o)(e:h'.get? a=some o):
  Rel prog w g (W.put a (.imm o)) σ h'∧Ext [] W h (W.put a (.imm o)) h'∧W.le (W.put a (.imm o)):=by
 have l:=Wd.put_le (.imm o) (R.freeAt n)
 refine eq__30 (R.step l (fun b=>?_) (fun b o _ _ e=>k b o e) (fun b e=>by obtain⟨o,q⟩:=R.live b (by rw[e];intro q;(injection q));exact⟨o,k b o q⟩)) (eq__139 l (fun b ob eb=>?_) k) l
 ·by_cases q:b=a;·clear l n;subst q;exact .inr (.inl (eq__2 o (Wd.put_self ..) e))
  ·exact .inl (Wd.put_ne _ _ q)
 ·refine Wd.put_ne _ _ ?_;clear l e;rintro rfl;rw[n]at eb;(injection eb)
theorem Rel.kOf(R:Rel prog w g W σ h)(e:W a=.obj k):k<σ.length:=by
 refine eq__1 (R.cell a k e) fun c hc _=>?_
 exact(bA.mp hc).1
theorem Rel.setCell(R:Rel prog w g W σ h)(e:W a=.obj k)(hd:d=a∨W d=.dic k)(s:∀b o,b≠d→h.get? b=some o→h'.get? b=some o)(ex:∃o,h'.get? d=some o)(q:CellRel prog w W h' k a c):Rel prog w g W (σ.set k c) h':=by
 intros n8 X g X R X a Aa prog Ab w Wd W Nat k Ac h Ac h' Addr d Cell c St σ
 have own:W d=.obj k∨W d=.dic k:=hd.imp (fun(r:d=a)=>by refine a9 (congrArg _ (r)) ?_;exact e) id
 have nf:∀o,W d≠.imm o:=fun o r=>by rcases own with p|p<;>(rw[p]at r;(injection r))
 refine⟨R.gnd,fun b o eb=>s b o (fun r=>nf o (r▸eb)) (R.imm b o eb),fun b n=>?_,fun b j eb=>?_,fun j hj=>R.has j (by rw[fZ]at hj;exact hj),R.uniq,R.duniq,fun b j eb=>by rw[fZ];exact R.dlt b j eb⟩
 ·by_cases r:b=d;·clear n;cases r;exact ex
  ·obtain⟨o,p⟩:_:=R.live b n;exact⟨o,s b o r p⟩
 ·by_cases r:j=k
  ·clear own hd;subst r;rcases R.uniq _ _ _ eb e with rfl;exact eq__2 c (by rw[gV (R.kOf e)]) q
  ·(refine eq__1 (R.cell b j eb) fun c' hc p=>?_);refine eq__2 c' (by refine a9 (aX (cW r)) ?_;exact hc) (p.keep (Wd.le.refl W) fun x o hx ex=>s x o ?_ ex);clear nf hd s;rintro rfl;rcases hx with rfl|hx
   ·refine cD (own) (fun p=>?_) fun p=>?_;·rw[p]at eb;clear hc;(injection eb with hq_;subst hq_);exact r rfl
    ·rw[p]at eb;(injection eb)
   ·refine cD (own) (fun p=>?_) fun p=>?_;·rw[p]at hx;(injection hx)
    ·replace hx:=(p)▸hx;clear hc eb;(injection hx with hq_;subst hq_);exact r rfl
theorem eq__140(own:(∃k,W d=.obj k)∨∃k,W d=.dic k)(s:∀b o,b≠d→h.get? b=some o→h'.get? b=some o)(ex:∃o,h'.get? d=some o):Ext O W h W h':=⟨Wd.le.refl W,fun a o e=>by
 refine⟨fun _=>rfl,.inr ?_⟩
 by_cases r:a=d
 ·clear s;subst r;rcases ex with⟨o',q⟩;refine eq__27 o' q (fun st=>?_) (fun f=>?_) (fun f=>?_)<;>(rcases own with⟨k,p⟩|⟨k,p⟩<;>first|(rw[p]at st;(injection st))|(rw[p]at f;(injection f)))
 ·exact eq__27 o (s a o r e) (fun _ _=>rfl) (fun _ n=>n) (fun _ _=>⟨o.slots,rfl⟩)⟩
theorem Rel.cellIn(R:Rel prog w g W σ h)(fr:W a=.free)(k:∀a o,h.get? a=some o→h'.get? a=some o)(ex:∃o,h'.get? a=some o)(q:CellRel prog w (W.put a (.obj σ.length)) h' σ.length a c):Rel prog w g (W.put a (.obj σ.length)) (σ++[c]) h':=by
 intros n5 X R Aa prog Ab w Addr a Wd W Ac h Ac h' Cell c St σ Ac g
 have l:=Wd.put_le (.obj σ.length) fr
 have' at_:∀b,b≠a→(W.put a (.obj σ.length)) b=W b:=fun b q=>Wd.put_ne _ _ q
 refine⟨fun b o e=>l.imm (R.gnd b o e),fun b o e=>?_,fun b nb=>?_,fun b j e=>?_,fun j hj=>?_,fun x y j ex ey=>?_,fun x y j ex ey=>?_,fun x j e=>?_⟩
 ·by_cases r:b=a;·clear at_ l q ex fr;subst r;rw[Wd.put_self]at e;(injection e)
  ·rw[at_ b r]at e;exact k b o (R.imm b o e)
 ·by_cases r:b=a;·clear nb at_ l q fr;(refine aM fun hG_=>?_;subst r;refine hG_ ?_;clear hG_);exact ex
  ·rw[at_ b r]at nb;obtain⟨o,p⟩:_:=R.live b nb;exact⟨o,k b o p⟩
 ·by_cases r:b=a
  ·clear at_ l ex fr;subst r;rw[Wd.put_self]at e;(injection e with hq_;subst hq_);exact eq__2 c (by simp) q
  ·replace e:=(at_ b r)▸e;obtain⟨c',hc,p⟩:_:=R.cell b j e;exact eq__2 c' (by refine a9 (bD (R.kOf e)) ?_;exact hc) (p.keep l fun x o _ ex=>k x o ex)
 ·rw[aH,dK]at hj;by_cases r:j=σ.length;·clear hj;subst r;exact⟨a,Wd.put_self ..⟩
  ·obtain⟨b,e⟩:_:=R.has j (by omega);exact⟨b,l.obj e⟩
 ·by_cases rx:x=a
  ·by_cases ry:y=a;·rw[rx,ry]
   ·clear l q fr;subst rx;rw[Wd.put_self]at ex;(injection ex with hq_;subst hq_);rw[at_ y ry]at ey;exact absurd (R.kOf ey) (cN _)
  ·rw[at_ x rx]at ex;by_cases ry:y=a
   ·clear rx at_ l q fr;subst ry;rw[Wd.put_self]at ey;(injection ey with hq_;subst hq_);exact absurd (R.kOf ex) (cN _)
   ·rw[at_ y ry]at ey;exact R.uniq x y j ex ey
 ·have h1:W x=.dic j:=by
   by_cases rx:x=a;·clear ey at_ l q fr;(refine aM fun hG_=>?_;subst rx;refine hG_ ?_;clear hG_);rw[Wd.put_self]at ex;(injection ex)
   ·replace ex:=(at_ x rx)▸ex;exact ex
  refine(?_:(W y=.dic j)→_) ?_;rotate_left;·
   by_cases ry:y=a;·clear ex at_ l q fr;subst ry;rw[Wd.put_self]at ey;(injection ey)
   ·rw[at_ y ry]at ey;exact ey
  intro h2;exact R.duniq x y j h1 h2
 ·rw[aH,dK];by_cases rx:x=a;·clear at_ l q ex fr;subst rx;rw[Wd.put_self]at e;(injection e)
  ·rw[at_ x rx]at e;have' this:=R.dlt x j e;(exact mA 1 this)
theorem Rel.newCell(R:Rel prog w g W σ h)(n:h.get? a=none)(k:∀a o,h.get? a=some o→h'.get? a=some o)(ex:∃o,h'.get? a=some o)(q:CellRel prog w (W.put a (.obj σ.length)) h' σ.length a c):
  Rel prog w g (W.put a (.obj σ.length)) (σ++[c]) h'∧Ext [] W h (W.put a (.obj σ.length)) h'∧W.le (W.put a (.obj σ.length)):=
 (eq__30 (R.cellIn (R.freeAt n) k ex q) (eq__139 (Wd.put_le _ (R.freeAt n)) (fun b ob eb=>Wd.put_ne _ _ (by clear q ex;rintro rfl;rw[n]at eb;(injection eb))) k) (Wd.put_le _ (R.freeAt n)))
theorem eq__313{r:Role}(fr:W a=.free):Ext [a] W h (W.put a r) h:=⟨Wd.put_le r fr,fun b o e=>by
 by_cases q:b=a
 ·subst q;exact⟨fun n=>absurd (aA.mpr rfl) n,.inl ⟨fr,aA.mpr rfl⟩⟩
 ·exact⟨fun _=>Wd.put_ne _ _ q,.inr (eq__27 o e (fun _ _=>rfl) (fun _ n=>n) (fun _ _=>⟨o.slots,rfl⟩))⟩⟩
theorem Rel.adopt(R:Rel prog w g W σ h)(fr:W a=.free)(ex:∃o,h.get? a=some o)(q:CellRel prog w (W.put a (.obj σ.length)) h σ.length a c):
  Rel prog w g (W.put a (.obj σ.length)) (σ++[c]) h∧Ext [a] W h (W.put a (.obj σ.length)) h:=⟨R.cellIn fr (fun _ _ e=>e) ex q,eq__313 fr⟩
theorem Rel.freeze(R:Rel prog w g W σ h){o:Obj}(fr:W a=.free)(e:h.get? a=some o):Rel prog w g (W.put a (.imm o)) σ h∧Ext [a] W h (W.put a (.imm o)) h:=by
 refine⟨R.step (Wd.put_le _ fr) (fun b=>?_) (fun b o _ _ e=>e) (fun b e=>R.live b (by rw[e];intro q;(injection q))),eq__313 fr⟩
 by_cases q:b=a
 ·clear fr;subst q;exact .inr (.inl (eq__2 o (Wd.put_self ..) e))
 ·exact .inl (Wd.put_ne _ _ q)
theorem Rel.newInst(R:Rel prog w g W σ h)(n:h.get? a=none)(nd:h.get? d=none)(ne:d≠a)(k:∀a o,h.get? a=some o→h'.get? a=some o)(ex:∃o,h'.get? a=some o)(exd:∃o,h'.get? d=some o)(q:CellRel prog w ((W.put d (.dic σ.length)).put a (.obj σ.length)) h' σ.length a c):
  Rel prog w g ((W.put d (.dic σ.length)).put a (.obj σ.length)) (σ++[c]) h'∧Ext [] W h ((W.put d (.dic σ.length)).put a (.obj σ.length)) h'∧W.le ((W.put d (.dic σ.length)).put a (.obj σ.length)):=by
 intros n8 X R Aa prog Ab w Addr a Wd W Ac h Ac h' Addr d Cell c St σ Ac g
 have fr:=R.freeAt n
 have frd:=R.freeAt nd
 generalize hV:(W.put d (.dic σ.length)).put a (.obj σ.length)=V at q⊢
 have' Va:V a=.obj σ.length:=by rw[←hV,Wd.put_self]
 have Vd:V d=.dic σ.length:=by rw[←hV,Wd.put_ne _ _ ne,Wd.put_self]
 have' at_:∀b,b≠a→b≠d→V b=W b:=fun b q r=>by rw[←hV,Wd.put_ne _ _ q,Wd.put_ne _ _ r]
 have l:W.le V:=fun b nb=>at_ b (fun r=>nb (r▸fr)) (fun r=>nb (r▸frd))
 have obj:∀b j,V b=.obj j→(b=a∧j=σ.length)∨(b≠a∧W b=.obj j):=fun b j e=>by
  by_cases r:b=a;·clear at_ q hV fr ex ne n;subst r;rw[Va]at e;(injection e with hq_;subst hq_);exact .inl ⟨rfl,rfl⟩
  ·by_cases r':b=d;·clear at_ hV frd exd ne nd;subst r';rw[Vd]at e;(injection e)
   ·rw[at_ b r r']at e;exact .inr ⟨r,e⟩
 have dic:∀b j,V b=.dic j→(b=d∧j=σ.length)∨(b≠d∧W b=.dic j):=fun b j e=>by
  by_cases r:b=d;·clear at_ hV frd exd ne nd;subst r;rw[Vd]at e;(injection e with hq_;subst hq_);exact .inl ⟨rfl,rfl⟩
  ·by_cases r':b=a;·clear obj at_ q hV fr ex ne n;subst r';replace e:=(Va)▸e;(injection e)
   ·rw[at_ b r' r]at e;exact .inr ⟨r,e⟩
 refine eq__30 ⟨fun b o e=>l.imm (R.gnd b o e),fun b o e=>?_,fun b nb=>?_,fun b j e=>?_,fun j hj=>?_,fun x y j ex ey=>?_,fun x y j ex ey=>?_,fun x j e=>?_⟩ (eq__139 l (fun b ob eb=>at_ b ?_ ?_) k) l
 ·by_cases r:b=a;·clear obj at_ q hV fr ex ne n;subst r;rw[Va]at e;(injection e)
  ·by_cases r':b=d;·clear dic at_ hV frd exd ne nd;(refine aM fun hG_=>?_;subst r';refine hG_ ?_;clear hG_);rw[Vd]at e;(injection e)
   ·rw[at_ b r r']at e;exact k b o (R.imm b o e)
 ·by_cases r:b=a;·clear obj at_ Va q hV fr ne n;(refine aM fun hG_=>?_;subst r;refine hG_ ?_;clear hG_);exact ex
  ·by_cases r':b=d;·clear dic at_ Vd hV frd ne nd;subst r';exact exd
   ·rw[at_ b r r']at nb;obtain⟨o,p⟩:_:=R.live b nb;exact⟨o,k b o p⟩
 ·clear at_ Va hV fr ne n;rcases obj b j e with⟨rfl,rfl⟩|⟨r,e⟩;·exact eq__2 c (by simp) q
  ·obtain⟨c',hc,p⟩:_:=R.cell b j e;exact eq__2 c' (by refine a9 (bD (R.kOf e)) ?_;exact hc) (p.keep l fun x o _ ex=>k x o ex)
 ·rw[aH,dK]at hj;by_cases r:j=σ.length;·clear hj;subst r;exact⟨a,Va⟩
  ·obtain⟨b,e⟩:_:=R.has j (by omega);exact⟨b,l.obj e⟩
 ·clear at_ Va q hV fr ne n;rcases obj x j ex with⟨rfl,rfl⟩|⟨_,ex⟩<;>rcases obj y _ ey with⟨rfl,qq⟩|⟨_,ey⟩;·rfl
  ·exact absurd (R.kOf ey) (cN _)
  ·clear ey;subst qq;exact absurd (R.kOf ex) (cN _)
  ·exact R.uniq x y j ex ey
 ·clear at_ Vd hV frd exd ne nd;rcases dic x j ex with⟨rfl,rfl⟩|⟨_,ex⟩<;>rcases dic y _ ey with⟨rfl,qq⟩|⟨_,ey⟩;·rfl
  ·exact absurd (R.dlt _ _ ey) (cN _)
  ·clear ey;(refine aM fun hG_=>?_;subst qq;refine hG_ ?_;clear hG_);exact absurd (R.dlt _ _ ex) (cN _)
  ·exact R.duniq x y j ex ey
 ·rw[aH,dK];clear at_ Vd hV frd exd ne nd;rcases dic x j e with⟨rfl,rfl⟩|⟨_,e⟩;·(exact Nat.lt_add_one (fW σ))
  ·have' this:=R.dlt x j e;(exact mA 1 this)
 ·clear obj at_ Va q hV fr ex ne;rintro rfl;rw[n]at eb;(injection eb)
 ·clear dic at_ Vd hV frd exd ne;rintro rfl;rw[nd]at eb;(injection eb)
end
noncomputable def setV(x:Str)(v:Val):List (Str×Val)→List (Str×Val)
 |[]=>[(x,v)]
 |(y,u)::r=>if y=x then(x,v)::r else(y,u)::setV x v r
theorem eq__46{x y:Str}{u:α}{r:List (Str×α)}:look x ((y,u)::r)=if y=x then some u else look x r:=rfl
theorem eq__314{x:Str}{v:Val}:setV x v []=[(x,v)]:=rfl
theorem eq__85{x y:Str}{v u:Val}{r:List (Str×Val)}:setV x v ((y,u)::r)=if y=x then(x,v)::r else(y,u)::setV x v r:=rfl
theorem eq__8(x y:Str)(v:Val):∀l:List (Str×Val),look y (setV x v l)=if x=y then some v else look y l
 |[]=>eq__46
 |(z,u)::r=>by
  skip;by_cases h:z=x
  ·subst h;refine a9 (congrArg _ (if_pos rfl)) ?_;by_cases q:z=y;·simp[eq__46,q]
   ·simp[eq__46,q]
  ·refine a9 (congrArg _ (if_neg h)) ?_;by_cases q:z=y
   ·subst q;have' this:¬x=z:=fun e=>h e.symm;simp[eq__46,this]
   ·rw[eq__46,eq__46,if_neg q,if_neg q];exact eq__8 x y v r
structure Fr where
 scope:Ah
 fn:Bool
 vars:List (Str×Val)
 frozen:List Str:=[]
 code:Addr:=0
noncomputable def tFr:Ty:=⟨Fr,⟨⟨default,false,[],[],0⟩⟩⟩
noncomputable def Fr.kind(fr:Fr)(x:Str):Option NameKind:=fr.scope.names.lookup x
noncomputable def Fr.put(fr:Fr)(x:Str)(v:Val):Fr:={fr with vars:=setV x v fr.vars}
structure FrRel(W:Wd)(fr:Fr)(env:Ai)(O:List Addr)(h:Ac):Prop where
 scope:env.scope=fr.scope
 kind:env.scope.kind=.function
 glob:env.globals=mainGlobals
 bi:env.builtins=builtinsNs
 loc:∃m,h.Ns env.locals m∧∀x v,look x fr.vars=some v→fr.kind x=some .local→∃rv,m x=some rv∧Rep W v rv
 cel:∀x v,look x fr.vars=some v→(fr.kind x=some .cell∨fr.kind x=some .free)→∃c rv,env.cells.lookup x=some c∧h.IsCell c (some rv)∧Rep W v rv∧(W c).still=true
 locW:W env.locals=.free∨W env.locals=.frame
 locO:env.locals∈O
 own:fr.fn=true→∀x,fr.kind x=some .cell→∃c v₀,env.cells.lookup x=some c∧h.IsCell c v₀∧(W c).still=true∧c∈O∧(x∉fr.frozen→W c=.free)
 apart:fr.fn=true→∀x y c,fr.kind x=some .cell→env.cells.lookup x=some c→env.cells.lookup y=some c→x=y
structure Ok(A:Ae)(n:Nat)(fl:List Ai):Prop where
 hd:A.handled=none
 dp:A.depth+4*n≤900
 un:A.units+100*n≤9000
 fr:A.frames=some fl
def Frames(W:Wd)(h:Ac)(fl:List Ai):Prop:=∀e∈fl,e.scope.kind≠.module∧∃L o,e.frame=some L∧W L=.frame∧h.get? L=some o∧∀vs,o.data≠.fields vs
variable{pos:Pos}{fl:List Ai}{fr:Fr}{env:Ai}{rv:Af}
section
theorem Frames.ext(x:Ext O W h W' h')(F:Frames W h fl):Frames W' h' fl:=by
 intros n3 X fl Wd W Wd W' LA O Ac h Ac h'
 exact fun e he=>by
  obtain⟨k,L,o,hf,hw,ho,hd⟩:=F e he;obtain⟨r,c⟩:_:=x.2 L o ho;rcases c with⟨f,_⟩|⟨o',e',_,f,_⟩;·replace f:=(hw)▸f;(injection f)
  ·exact eq__51 k (eq__39 L o' hf (by rw[x.1 L (by rw[hw];intro q;(injection q)),hw]) e' (f hw hd))
theorem eq__315(n:h.Ns a m)(k:∀o,h.get? a=some o→∃sl,h'.get? a=some {o with slots:=sl}):h'.Ns a m:=by
 obtain⟨o,es,ep,ho,hd,q⟩:=n
 rcases k o ho with⟨sl,e⟩
 exact⟨_,es,ep,e,hd,q⟩
theorem FrRel.ext(F:FrRel W fr env O h)(l:W.le W')(x:Ext [] W h W' h'):FrRel W' fr env O h':=by
 intros n3 Wd W Wd W' LA O Ac h Ac h' Fr fr Ai env
 have' no:∀a:Addr,a∉([]:List Addr):=fun _ q=>nomatch q
 refine(?_:(W' env.locals=W env.locals)→_) ?_
 rotate_left
 ·
  (refine eq__1 F.loc fun m n _=>?_);obtain⟨o,_,_,ho,_⟩:=n;exact(x.2 _ o ho).1 (no _)
 intro roleL
 refine⟨F.scope,F.kind,F.glob,F.bi,?_,fun y v e k=>?_,?_,F.locO,fun hf y k=>?_,F.apart⟩
 ·refine eq__1 F.loc fun m n q=>?_;refine eq__2 m (eq__315 n fun o ho=>?_) (fun y v e k=>?_)
  ·rcases(x.2 _ o ho).2 with⟨_,m⟩|⟨o',e',s,_,f⟩;·cases m
   rcases F.locW with r|r;·have :=s (by refine a9 (congrArg _ (r)) ?_;rfl) (no _);exact⟨o.slots,by rw[e',this]⟩
   ·obtain⟨sl,q⟩:_:=f r (no _);exact⟨sl,by rw[e',q]⟩
  ·obtain⟨rv,a,b⟩:_:=q y v e k;exact eq__2 rv a (b.mono l)
 ·(refine eq__25 (F.cel y v e k) fun c rv a q1_ b st=>?_;rcases q1_ with⟨o,ho,hd⟩);obtain⟨e',r⟩:_:=x.stillAt ho st (no _);exact eq__39 c rv a ⟨o,e',hd⟩ (b.mono l) (by refine a9 (congrArg _ (r)) ?_;exact st)
 ·exact(roleL)▸F.locW
 ·obtain⟨c,v₀,a,⟨o,ho,hd⟩,st,b,f⟩:=F.own hf y k;obtain⟨e',r⟩:_:=x.stillAt ho st (no _);exact eq__61 c v₀ a ⟨o,e',hd⟩ (by refine a9 (congrArg _ (r)) ?_;exact st) b (fun n=>by refine a9 (r) ?_;exact f n)
def wY(g:Ac)(glob:List (Str×Af)):Prop:=
 ∃mg mb,g.Ns mainGlobals mg∧g.Ns builtinsNs mb∧∀x v,look x glob=some v→mg x=some v∨(mg x=none∧mb x=some v)
noncomputable def notDebug(x:Str):Bool:=!(x==("__debug__":Str))&&!(x==("__classdict__":Str))
theorem eq__207{x:Str}(F:FrRel W fr env O s.heap)(hx:look x fr.vars=some v)(hk:fr.kind x=some .local∨fr.kind x=some .cell∨fr.kind x=some .free)(hn:notDebug x=true)(h:∀rv,Rep W v rv→Q rv s):wpAny M A (eval (.Name x pos) env) Q E s:=by
 intros n10 X O X M X A X E X Q Ad s Wd W Val v Pos pos Fr fr Ai env Str x
 simp only[notDebug,aF,dE]at hn
 have kk:env.kindOf x=fr.kind x:=by unfold e9 Fr.kind;rw[F.scope]
 rcases hk with k|k|k
 ·(refine eq__1 F.loc fun m n q=>?_);refine eq__1 (q x v hx k) fun rv a b=>?_;exact mM (wpAny_loadName_local F.kind (kk.trans k) n a (h rv b)) hn.1
 ·rcases F.cel x v hx (.inl k)with⟨c,rv,a,i,b,_⟩;exact mM (wpAny_loadName_cell F.kind (kk.trans k) a i (h rv b)) hn.1
 ·rcases F.cel x v hx (.inr k)with⟨c,rv,a,i,b,_⟩;exact mM (wpAny_loadName_free F.kind (kk.trans k) a i (h rv b) hn.2) hn.1
theorem eq__208{x:Str}{Q:Unit→Ad→Prop}(R:Rel prog w g W σ s.heap)(F:FrRel W fr env O s.heap)(rep:Rep W v rv)(hk:fr.kind x=some .local)(h:∀h' tk,Rel prog w g W σ h'→Ext O W s.heap W h'→FrRel W (fr.put x v) env O h'→Q () {s with heap:=h',toks:=tk}):wpAny M A (storeName env x rv) Q E s:=by
 intros n12 X w X g X σ X M X A X E X Q Ad s Aa prog Wd W Val v LA O Fr fr Ai env Af rv Str x
 have kk:env.kindOf x=fr.kind x:=by unfold e9 Fr.kind;rw[F.scope]
 (refine eq__1 F.loc fun m n q=>?_)
 refine wpAny_storeName_local (kk.trans hk) n (fun h' n' sb=>h h' _ ?_ ?_ ?_) (by rw[F.kind];rfl)
 ·refine R.step (Wd.le.refl W) (fun _=>.inl rfl) (fun a o n1 n2 e=>?_) (fun a e=>?_)
  ·refine(sb.2 a ?_).trans e;clear e;rintro rfl;refine cD (F.locW) (fun r=>?_) fun r=>?_;·exact n1 r
   ·exact n2 r
  ·by_cases r:a=env.locals;·clear e;(refine aM fun hG_=>?_;subst r;refine hG_ ?_;clear hG_);obtain⟨o,_,_,ho,_⟩:=n';exact⟨o,ho⟩
   ·obtain⟨o,p⟩:=R.live a (by rw[e];intro q;(injection q));exact⟨o,(sb.2 a r).trans p⟩
 ·refine⟨Wd.le.refl W,fun a o e=>⟨fun _=>rfl,.inr ?_⟩⟩;by_cases r:a=env.locals
  ·subst r;obtain⟨o',es,ep,ho,hd,_⟩:=n';exact eq__27 o' ho (fun _ q=>absurd F.locO q) (by intro _ _ vs q;rw[hd]at q;(injection q)) (fun _ q=>absurd F.locO q)
  ·exact eq__27 o ((sb.2 a r).trans e) (fun _ _=>rfl) (fun _ n=>n) (fun _ _=>⟨o.slots,rfl⟩)
 ·have nc:∀c vc,s.heap.IsCell c vc→h'.IsCell c vc:=fun c vc hF=>eq__1 hF fun o ho hd=>⟨o,(sb.2 c (by
   rintro rfl;rcases n with⟨o',_,_,ho',hd',_⟩;rw[ho]at ho';rcases a6 ho' with rfl;rw[hd]at hd';(injection hd'))).trans ho,hd⟩;refine⟨F.scope,F.kind,F.glob,F.bi,(eq__2 _ n' (fun y u e k=>?_)),fun y u e k=>?_,F.locW,F.locO,fun hf y k=>?_,F.apart⟩
  ·unfold Fr.put at e;simp only[eq__8]at e;by_cases r:x=y;·rw[if_pos r]at e;rcases a6 e with rfl;exact eq__2 rv (by rw[if_pos r.symm]) rep
   ·rw[if_neg r]at e;obtain⟨rv',a,b⟩:_:=q y u e k;exact eq__2 rv' (by refine a9 (if_neg (fun z=>r z.symm)) ?_;exact a) b
  ·unfold Fr.put at e;simp only[eq__8]at e;by_cases r:x=y;·clear e;subst r;have' hk':(fr.put x v).kind x=fr.kind x:=rfl;rw[hk',hk]at k;rcases k with k|k<;>contradiction
   ·rw[if_neg r]at e;refine eq__25 (F.cel y u e k) fun c rv' a i b st=>?_;exact eq__39 c rv' a (nc _ _ i) b st
  ·obtain⟨c,v₀,a,i,b⟩:_:=F.own hf y k;exact eq__24 c v₀ a (nc _ _ i) b
theorem eq__585{x:Str}{Q:Unit→Ad→Prop}(R:Rel prog w g W σ s.heap)(F:FrRel W fr env O s.heap)(rep:Rep W v rv)(hk:fr.kind x=some .cell)(hf:fr.fn=true)(hz:x∉fr.frozen)(h:∀h' tk,Rel prog w g W σ h'→Ext O W s.heap W h'→FrRel W (fr.put x v) env O h'→Q () {s with heap:=h',toks:=tk}):wpAny M A (storeName env x rv) Q E s:=by
 intros n14 X w X g X σ X M X A X E X Q Ad s Aa prog Wd W Val v LA O Fr fr Ai env Af rv Str x
 have kk:env.kindOf x=fr.kind x:=by unfold e9 Fr.kind;rw[F.scope]
 obtain⟨c,v₀,hc,ic,st,cO,fz⟩:=F.own hf x hk
 have cf:=fz hz
 refine wpAny_storeName_cell F.kind (kk.trans hk) hc ic fun h' ic' sb=>h h' s.toks ?_ ?_ ?_
 ·refine R.step (Wd.le.refl W) (fun _=>.inl rfl) (fun a o n1 _ e=>?_) (fun a e=>?_)
  ·refine(sb.2 a ?_).trans e;clear sb ic' fz cO st ic hc;rintro rfl;exact n1 cf
  ·obtain⟨o,p⟩:=R.live a (by rw[e];intro q;(injection q));exact⟨o,(sb.2 a (by clear sb ic' fz cO st ic hc;rintro rfl;rw[cf]at e;(injection e))).trans p⟩
 ·refine⟨Wd.le.refl W,fun a o e=>⟨fun _=>rfl,.inr ?_⟩⟩;by_cases r:a=c;·clear sb fz st ic hc;(refine aM fun hG_=>?_;subst r;refine hG_ ?_;clear hG_);obtain⟨o',ho,hd⟩:_:=ic';exact eq__27 o' ho (fun _ q=>absurd cO q) (fun q=>(by rw[cf]at q;(injection q))) (fun q=>(by rw[cf]at q;(injection q)))
  ·exact eq__27 o ((sb.2 a r).trans e) (fun _ _=>rfl) (fun _ n=>n) (fun _ _=>⟨o.slots,rfl⟩)
 ·have neL:env.locals≠c:=by
   clear sb ic' cf fz cO st hc;rintro rfl;rcases F.loc with⟨m,⟨o',_,_,ho',hd',_⟩,_⟩;rcases ic with⟨o,ho,hd⟩;rw[ho]at ho';rcases a6 ho' with rfl;clear ho';rw[hd]at hd';(injection hd')
  have other:∀y d vd,y≠x→env.cells.lookup y=some d→s.heap.IsCell d vd→h'.IsCell d vd:=fun y d vd ny hd hF=>eq__1 hF fun o ho q=>
   ⟨o,(sb.2 d (by clear neL sb ic' cf fz cO st ic;rintro rfl;exact ny (F.apart hf x y d hk hc hd).symm)).trans ho,q⟩;refine⟨F.scope,F.kind,F.glob,F.bi,?_,fun y u e k=>?_,F.locW,F.locO,fun hf' y k=>?_,F.apart⟩
  ·(refine eq__1 F.loc fun m n q=>?_);refine eq__2 m (n.sameBut sb neL) (fun y u e k=>?_);unfold Fr.put at e;simp only[eq__8]at e;by_cases r:x=y
   ·clear e;subst r;have' hk':(fr.put x v).kind x=fr.kind x:=rfl;rw[hk',hk]at k;contradiction
   ·rw[if_neg r]at e;exact q y u e k
  ·unfold Fr.put at e;simp only[eq__8]at e;by_cases r:x=y
   ·clear k;subst r;rw[if_pos rfl]at e;rcases a6 e with rfl;exact eq__39 c rv hc ic' rep st
   ·replace e:=(if_neg r)▸e;refine eq__25 (F.cel y u e k) fun d rv' a i b st'=>?_;exact eq__39 d rv' a (other y d _ (fun z=>r z.symm) a i) b st'
  ·by_cases r:x=y
   ·clear k;subst r;exact eq__61 c _ hc ic' st cO fz
   ·refine eq__17 (F.own hf' y k) fun d vd a i b=>?_;exact eq__24 d vd a (other y d _ (fun z=>r z.symm) a i) b
end
set_option tactic.hygienic true
inductive Flo where|next|cont|ret(v:Val)
inductive Src where
 |val(v:Val)|rng(n:Int)|enm(v:Val)|vals(k:Nat)(n ep:Nat)
noncomputable abbrev EM:=St→Out St Val
noncomputable def tSrc:Ty:=⟨Src,⟨.rng 0⟩⟩
structure Tab where
 glob:List (Str×Val)
 meth:List (Addr×List (Str×Addr))
 attr:List (Addr×List Str)
 eattr:List (Addr×List Str)
 stat:List (Addr×List (Str×Addr))
 call:Addr→Option (List Val→EM)
 clo:CloD→Option (List Val→List Val→EM)
 make:Addr→Option (List Val→List (Str×Val)→EM)
 exn:List (Addr×Option Str)
 chg:Pos→Bool
noncomputable def tTab:Ty:=⟨Tab,⟨⟨[],[],[],[],[],default,default,default,[],default⟩⟩⟩
noncomputable def nOf(s:String):Str:=a5 s
noncomputable def qC:Nat:=1000
noncomputable def Tab.hasAttrE(T:Tab)(C:Addr)(x:Str):Bool:=((T.eattr.lookup C).map fun l=>l.contains x).getD false
noncomputable def Tab.hasAttr(T:Tab)(C:Addr)(x:Str):Bool:=((T.attr.lookup C).map fun l=>l.contains x).getD false
noncomputable def r4:Cell→Option (List Val)|.list vs=>some vs|_=>none
noncomputable def pB(σ:St):Val→Option (List Val)
 |.lst vs=>some vs
 |.ref k=>σ[k]?.bind r4
 |_=>none
noncomputable def qP(σ:St)(v:Val)(i:Nat):Option (Option Val):=match v with
 |.str s=>some ((s.cps[i]?).map fun c=>.str ⟨#[c]⟩)
 |v=>(pB σ v).map fun vs=>vs[i]?
noncomputable def pG(σ:St)(s:Src)(i:Nat):Option (Option Val):=match s with
 |.val v=>qP σ v i
 |.rng n=>some (if(i:Int)<n then some (.int i)else none)
 |.enm v=>(pB σ v).map fun vs=>(vs[i]?).map fun x=>.tup [.int i,x]
 |.vals k n ep=>match σ[k]? with
  |some (.dict es ep')=>if ep'=ep∧es.length=n then some ((es[i]?).map (·.2))else none
  |_=>none
noncomputable def uT:Val→Option Nat|.ref k=>some k|_=>none
noncomputable def s4:Val→Option Str|.str x=>some x|_=>none
noncomputable def tE:Val→Option Int|.int x=>some x|_=>none
noncomputable def wN:Val→Option Af|.imm x=>some x|_=>none
theorem eq__141{x:Nat}(h:uT v=some x):v=.ref x:=by cases v<;>first|exact congrArg Val.ref (a6 h)|(injection h)
theorem eq__58{x:Str}(h:s4 v=some x):v=.str x:=by cases v<;>first|exact congrArg Val.str (a6 h)|(injection h)
theorem eq__72{x:Int}(h:tE v=some x):v=.int x:=by cases v<;>first|exact congrArg Val.int (a6 h)|(injection h)
theorem eq__586{x:Af}(h:wN v=some x):v=.imm x:=by cases v<;>first|exact congrArg Val.imm (a6 h)|(injection h)
noncomputable def pN(σ:St):Val→Option Bool
 |.none=>some false
 |.bool b=>some b
 |.int i=>some (i !=0)
 |.tup vs=>some !vs.isEmpty
 |.dct0=>some false
 |v=>(pB σ v).map fun vs=>!vs.isEmpty
noncomputable def qK:Val→Val→Option Bool
 |.str a,.str b=>some (a==b)
 |.int a,.int b=>some (a==b)
 |_,_=>none
noncomputable def r7:List Val→List Val→Option Bool
 |[],[]=>some true
 |a::as,b::bs=>match qK a b,r7 as bs with
  |some x,some y=>some (x&&y)
  |_,_=>none
 |_,_=>some false
noncomputable def eq1(σ:St)(a b:Val):Option Bool:=match qK a b with
 |some r=>some r
 |none=>match pB σ a,pB σ b with
  |some as,some bs=>r7 as bs
  |_,_=>none
noncomputable def rT(σ:St):List Val→List Val→Option Bool
 |[],[]=>some true
 |a::as,b::bs=>match eq1 σ a b,rT σ as bs with
  |some x,some y=>some (x&&y)
  |_,_=>none
 |_,_=>some false
noncomputable def eqV(σ:St)(a b:Val):Option Bool:=match qK a b with
 |some r=>some r
 |none=>match pB σ a,pB σ b with
  |some as,some bs=>rT σ as bs
  |_,_=>none
noncomputable def qH:List Val→Option (List Str)
 |[]=>some []
 |.str s::r=>(qH r).map (s::·)
 |_::_=>none
noncomputable def sV:List Val→Option (List Int)
 |[]=>some []
 |.int i::r=>(sV r).map (i::·)
 |_::_=>none
noncomputable def uU(c:Cell)(y:Str):Option Bool:=match c with
 |.list vs=>(qH vs).map fun l=>l.contains y
 |.dict es _=>some (look y es).isSome
 |_=>none
noncomputable def xK(σ:St)(y:Str)(c:Val):Option Bool:=match c with
 |.str z=>some (!(aI z y 0 z.length 1).isEmpty)
 |.ref k=>σ[k]?.bind fun c=>uU c y
 |.lst vs=>(qH vs).map fun l=>l.contains y
 |_=>none
noncomputable def uN(σ:St)(x c:Val):Option Bool:=(tE x).elim ((s4 x).bind fun y=>xK σ y c) fun i=>((pB σ c).bind sV).map fun l=>l.contains i
theorem eq__42:(∀{σ:St}{y z:Str},uN σ (.str y) (.str z)=some (!(aI z y 0 z.length 1).isEmpty))∧(∀{σ:St}{y:Str}{k:Nat},uN σ (.str y) (.ref k)=σ[k]?.bind fun c=>uU c y)∧
  (∀{σ:St}{y:Str}{vs:List Val},uN σ (.str y) (.lst vs)=(qH vs).map fun l=>l.contains y)∧(∀{σ:St}{i:Int}{c:Val},uN σ (.int i) c=((pB σ c).bind sV).map fun l=>l.contains i)∧
  (∀{c:Cell}{y:Str},((some c).bind fun c=>uU c y)=uU c y)∧(∀{vs:List Val}{y:Str},uU (.list vs) y=(qH vs).map fun l=>l.contains y)∧∀{es:List (Str×Val)}{ep:Nat}{y:Str},uU (.dict es ep) y=some (look y es).isSome:=⟨rfl,rfl,rfl,rfl,rfl,rfl,rfl⟩
noncomputable def vE:Val→Option Unit|.none=>some ()|_=>none
theorem eq__316{u:Unit}(h:vE v=some u):v=.none:=by cases v<;>first|rfl|(injection h)
noncomputable def isNone:Val→Option Bool
 |.none=>some true
 |.any|.imm _=>none
 |_=>some false
noncomputable def qN(σ:St)(op:CmpOp)(a b:Val):Option Bool:=match op with
 |.Eq=>eqV σ a b
 |.NotEq=>(eqV σ a b).map (!·)
 |.Lt=>(tE a).bind fun x=>(tE b).bind fun y=>some (decide (x<y))
 |.Gt=>(tE a).bind fun x=>(tE b).bind fun y=>some (decide (x>y))
 |.GtE=>(tE a).bind fun x=>(tE b).bind fun y=>some (decide (x≥y))
 |.In=>uN σ a b
 |.NotIn=>(uN σ a b).map (!·)
 |.Is=>(vE b).bind fun _=>isNone a
 |.IsNot=>(vE b).bind fun _=>(isNone a).map (!·)
 |_=>none
noncomputable def orS{α β S:Type}(x:Option α)(f:α→Out S β):Out S β:=x.elim .stuck f
theorem eq__18{S:Type}{x:Option α}{f:α→Out S β}{r:Out S β}(h:orS x f=r)(hs:r≠.stuck):∃a,x=some a∧f a=r:=by
 cases x with
 |none=>exact absurd h.symm hs
 |some a=>exact⟨a,rfl,h⟩
theorem eq__86{S:Type}{c:Prop}[Decidable c]{x r:Out S β}(h:(if c then x else .stuck)=r)(hs:r≠.stuck):c∧x=r:=by
 by_cases q:c
 ·exact⟨q,(if_pos q).symm.trans h⟩
 ·exact absurd (h.symm.trans (if_neg q)) hs
noncomputable def unc{α:Type}:List α→Option (α×List α)|x::r=>some (x,r)|[]=>none
noncomputable def wZ{α:Type}:List α→Option Unit|[]=>some ()|_::_=>none
noncomputable def uP(σ:St)(k:Nat):Option (List Val):=σ[k]?.bind r4
theorem eq__167{l:List α}{p:α×List α}(h:unc l=some p):l=p.1::p.2:=by
 cases l with
 |nil=>injection h
 |cons a r=>rw[←a6 h]
theorem eq__587{l:List α}{u:Unit}(h:wZ l=some u):l=[]:=by
 cases l with
 |nil=>rfl
 |cons a r=>injection h
noncomputable def tR{α:Type}(l:List α):Option α:=(unc l).bind fun p=>(wZ p.2).bind fun _=>some p.1
theorem eq__78{l:List α}{x:α}(h:tR l=some x):l=[x]:=by
 rcases aB.mp h with⟨p,hp,h⟩
 rcases aB.mp h with⟨u,hu,h⟩
 rw[eq__167 hp,eq__587 hu,a6 h]
theorem eq__209(h:uP σ k=some vs):σ[k]?=some (.list vs):=by
 rcases aB.mp h with⟨c,hc,h⟩
 rw[hc]
 cases c<;>first|exact congrArg (fun z=>some (Cell.list z)) (a6 h)|(injection h)
noncomputable def mkList(T:Tab)(pos:Pos)(vs:List Val)(σ:St):Out St Val:=
 if vs.length≤lim then(if T.chg pos then .ok (.ref σ.length) (σ++[.list vs])else .ok (.lst vs) σ)else .stuck
noncomputable def tZ(a b:Val)(f:Int→Int→Out St Val):Out St Val:=match a with
 |.int x=>(match b with|.int y=>f x y|_=>.stuck)
 |_=>.stuck
noncomputable def vS(x:Str)(b:Val)(σ:St):Out St Val:=match b with
 |.str _=>if x=sT then .ok .any σ else .stuck
 |.tup vs=>if x=sU∧(qH vs).isSome∧vs.length=3 then .ok .any σ else .stuck
 |_=>.stuck
noncomputable def vT(T:Tab)(pos:Pos)(a b:Val)(σ:St):Out St Val:=match pB σ a with
 |some as=>(match pB σ b with|some bs=>mkList T pos (as++bs) σ|none=>.stuck)
 |none=>.stuck
noncomputable def sQ(T:Tab)(pos:Pos)(op:Operator)(a b:Val)(σ:St):Out St Val:=match op with
 |.Add=>(match a with|.int _=>tZ a b fun x y=>.ok (.int (x+y)) σ|_=>vT T pos a b σ)
 |.Sub=>tZ a b fun x y=>.ok (.int (x-y)) σ
 |.FloorDiv=>tZ a b fun x y=>if 0<y∧y<1000000000000 then .ok (.int (x/y)) σ else .stuck
 |.Mod=>(match a with|.str x=>vS x b σ|_=>tZ a b fun x y=>if 0<y then .ok (.int (x%y)) σ else .stuck)
 |.Pow=>tZ a b fun x y=>if x=5∧0≤y∧y<8 then .ok (.int (x^y.toNat)) σ else .stuck
 |_=>.stuck
noncomputable def vF:Val→Option (List Val)|.tup vs=>some vs|_=>none
theorem eq__210(h:vF v=some vs):v=.tup vs:=by cases v<;>first|exact congrArg Val.tup (a6 h)|(injection h)
theorem eq__87{c:Prop}[Decidable c]{x:Option α}{y:α}(h:(if c then x else none)=some y):c∧x=some y:=by
 by_cases q:c
 ·exact⟨q,(if_pos q).symm.trans h⟩
 ·injection(if_neg q).symm.trans h
noncomputable def sW:Cell→Option (List (Str×Val))|.dict es _=>some es|_=>none
noncomputable def uQ:Cell→Option Af|.list _=>some (.type "list")|.inst C _=>some (.ref C)|_=>none
noncomputable def u0:Af→Option Addr|.ref a=>some a|_=>none
noncomputable def tyO:Af→Option String|.type n=>some n|_=>none
noncomputable def biO:Af→Option String|.builtin n=>some n|_=>none
theorem eq__105{v:Af}(h:u0 v=some a):v=.ref a:=by cases v<;>first|exact congrArg dT (a6 h)|(injection h)
theorem eq__168{v:Af}{n:String}(h:tyO v=some n):v=.type n:=by cases v<;>first|exact congrArg iX (a6 h)|(injection h)
theorem eq__588{v:Af}{n:String}(h:biO v=some n):v=.builtin n:=by cases v<;>first|exact congrArg fQ (a6 h)|(injection h)
theorem eq__317{es:List (Str×Val)}(h:σ[k]?.bind sW=some es):∃ep,σ[k]?=some (.dict es ep):=by
 rcases aB.mp h with⟨c,hc,h⟩
 rw[hc]
 cases c<;>first|exact⟨_,congrArg (fun z=>some (Cell.dict z _)) (a6 h)⟩|(injection h)
noncomputable def sS(σ:St):Val→Option Af
 |.str _=>some (.type "str")
 |.lst _=>some (.type "list")
 |.ref k=>σ[k]?.bind uQ
 |_=>none
noncomputable def isT(T:Tab)(c t:Af):Option Bool:=(u0 c).elim ((tyO c).bind fun m=>(tyO t).bind fun n=>if n="str"∨n="list" then some (decide (m=n))else none) fun C=>
 (u0 t).elim ((tyO t).bind fun n=>if n="str"∧(T.meth.lookup C).isSome=true then some false else none) fun D=>if C=D then some true else none
noncomputable def s5(T:Tab)(σ:St)(x:Val)(t:Af):Option Bool:=(sS σ x).bind fun c=>isT T c t
noncomputable def vG(σ:St)(v:Val):Option Nat:=(s4 v).elim ((vF v).elim ((pB σ v).map fW) fun vs=>some vs.length) fun s=>some s.length
noncomputable def r8(σ:St)(o i:Val):Option Val:=(tE i).elim ((uT o).bind fun k=>(s4 i).bind fun x=>(σ[k]?.bind sW).bind fun es=>look x es) fun k=>
 if 0≤k then(vF o).elim ((s4 o).elim ((pB σ o).bind fun vs=>vs[k.toNat]?) fun s=>(s.cps[k.toNat]?).map fun c=>.str ⟨#[c]⟩) fun vs=>vs[k.toNat]? else none
theorem eq__22:(∀{σ:St}{vs:List Val}{k:Int},r8 σ (.lst vs) (.int k)=if 0≤k then(some vs).bind fun vs=>vs[k.toNat]? else none)∧(∀{σ:St}{vs:List Val}{k:Int},r8 σ (.tup vs) (.int k)=if 0≤k then vs[k.toNat]? else none)∧
  (∀{σ:St}{j:Nat}{k:Int},r8 σ (.ref j) (.int k)=if 0≤k then(pB σ (.ref j)).bind fun vs=>vs[k.toNat]? else none)∧
  (∀{σ:St}{k:Nat}{x:Str},r8 σ (.ref k) (.str x)=(σ[k]?.bind sW).bind fun es=>look x es)∧(∀{es:List (Str×Val)}{ep:Nat},sW (.dict es ep)=some es)∧∀{α β:Type}{a:α}{f:α→Option β},(some a).bind f=f a:=⟨rfl,rfl,rfl,rfl,rfl,rfl⟩
noncomputable def sC:Val→Option (Option Int)
 |.none=>some none
 |.int i=>some (some i)
 |_=>none
noncomputable def tW(vs:List Val)(lo hi:Option Int):Option (List Val):=
 if(lo.all (0≤·))&&(hi.all (0≤·))then some ((vs.take ((hi.map dL).getD vs.length)).drop ((lo.map dL).getD 0))else none
theorem eq__9:(∀{σ vs},pB σ (.lst vs)=some vs)∧(∀{σ k},pB σ (.ref k)=σ[k]?.bind r4)∧(∀{vs},(some (Cell.list vs)).bind r4=some vs)∧(∀{σ vs i},qP σ (.lst vs) i=some vs[i]?)∧(∀{σ k i},qP σ (.ref k) i=(pB σ (.ref k)).map fun vs=>vs[i]?)∧(∀{σ v i},pG σ (.val v) i=qP σ v i)∧
  (∀{σ v i},pG σ (.enm v) i=(pB σ v).map fun vs=>(vs[i]?).map fun x=>.tup [.int i,x])∧(∀{σ vs},vG σ (.lst vs)=some vs.length)∧(∀{σ k},vG σ (.ref k)=(pB σ (.ref k)).map fW)∧sC .none=some none∧∀{i},sC (.int i)=some (some i):=⟨rfl,rfl,rfl,rfl,rfl,rfl,rfl,rfl,rfl,rfl,rfl⟩
noncomputable def globV(T:Tab)(fr:Fr)(x:Str):Option Val:=if fr.kind x=some .globalImplicit∧notDebug x=true then look x T.glob else none
noncomputable def pV(T:Tab)(fr:Fr)(x:Str):Option Af:=match look x fr.vars,globV T fr x with
 |none,some (.imm v)=>some v
 |_,_=>none
noncomputable def nameV(T:Tab)(fr:Fr)(x:Str):Option Val:=if notDebug x then(match look x fr.vars with
 |some v=>if fr.kind x=some .local∨fr.kind x=some .cell∨fr.kind x=some .free then some v else none
 |none=>globV T fr x)else none
noncomputable def pL(T:Tab)(pos:Pos)(f:Af)(args:List Val)(σ:St):Out St Val:=(biO f).elim (orS (tyO f) fun n=>orS (tR args) fun x=>if n="list" then
  (pB σ x).elim (orS (uT x) fun k=>orS (σ[k]?.bind sW) fun es=>mkList T pos (es.map fun e=>.str e.1) σ) fun vs=>mkList T pos vs σ else .stuck)
 fun id=>if id="isinstance" then orS (unc args) fun p=>orS (tR p.2) fun y=>orS (wN y) fun t=>orS (s5 T σ p.1 t) fun b=>.ok (.bool b) σ
  else orS (tR args) fun x=>if id="len" then orS (vG σ x) fun n=>.ok (.int n) σ else if id="abs" then orS (tE x) fun i=>.ok (.int i.natAbs) σ else .stuck
theorem eq__121{T:Tab}{p:Pos}{x:Val}{t:Af}{σ:St}:pL T p (.builtin "isinstance") [x,.imm t] σ=orS (s5 T σ x t) fun b=>.ok (.bool b) σ:=rfl
theorem eq__211{T:Tab}{p:Pos}{x:Val}{σ:St}:pL T p (.builtin "len") [x] σ=orS (vG σ x) fun n=>.ok (.int n) σ:=rfl
theorem eq__169{T:Tab}{p:Pos}{x:Val}{σ:St}:pL T p (.type "list") [x] σ=(pB σ x).elim (orS (uT x) fun k=>orS (σ[k]?.bind sW) fun es=>mkList T p (es.map fun e=>.str e.1) σ) fun vs=>mkList T p vs σ:=rfl
theorem eq__122:type_of%@eq__121∧type_of%@eq__211∧type_of%@eq__169∧∀{α β S:Type}{a:α}{f:α→Out S β},orS (some a) f=f a:=⟨@eq__121,@eq__211,@eq__169,rfl⟩
inductive MK where
 |app|ext|pop|starts|ends|split|find|fn(f:Addr)|stat(f:Addr)
noncomputable def wO(x:Str):Option MK:=if x=nOf "append" then some .app else if x=nOf "extend" then some .ext else if x=nOf "pop" then some .pop else none
noncomputable def x0(x:Str):Option MK:=if x=nOf "startswith" then some .starts else if x=nOf "endswith" then some .ends else if x=nOf "split" then some .split else if x=nOf "find" then some .find else none
noncomputable def fnM(T:Tab)(K:Addr→MK)(f:Addr):Option MK:=if(T.call f).isSome=true then some (K f)else none
noncomputable def stM(T:Tab)(C:Addr)(x:Str):Option MK:=((T.stat.lookup C).bind (look x)).bind (fnM T .stat)
noncomputable def vQ(T:Tab)(C:Addr)(fs:List (Str×Val))(x:Str):Option MK:=(look x fs).elim (((T.meth.lookup C).bind (look x)).elim (stM T C x) (fnM T .fn)) fun _=>none
noncomputable def wE(T:Tab)(x:Str):Cell→Option MK
 |.list _=>wO x
 |.inst C fs=>vQ T C fs x
 |_=>none
noncomputable def rQ(T:Tab)(σ:St)(o:Val)(name:Str):Option MK:=match o with
 |.ref k=>σ[k]?.bind (wE T name)
 |.imm (.ref C)=>stM T C name
 |.str _=>x0 name
 |_=>none
noncomputable def qX(T:Tab)(pos:Pos)(m:MK)(o:Val)(args:List Val)(σ:St):Out St Val:=match m with
 |.app=>orS (uT o) fun k=>orS (tR args) fun x=>orS (uP σ k) fun vs=>if vs.length<lim then .ok .none (σ.set k (.list (vs++[x])))else .stuck
 |.ext=>orS (uT o) fun k=>orS (tR args) fun x=>orS (uP σ k) fun vs=>orS (pB σ x) fun us=>if vs.length+us.length≤lim then .ok .none (σ.set k (.list (vs++us)))else .stuck
 |.pop=>orS (uT o) fun k=>orS (tR args) fun x=>orS (tE x) fun i=>if i=0 then orS (uP σ k) fun vs=>orS (unc vs) fun p=>.ok p.1 (σ.set k (.list p.2))else .stuck
 |.starts=>orS (s4 o) fun x=>orS (tR args) fun a=>orS (s4 a) fun y=>.ok (.bool (PySem.Txt.startswith x y)) σ
 |.ends=>orS (s4 o) fun x=>orS (tR args) fun a=>orS (s4 a) fun y=>.ok (.bool (PySem.Txt.endswith x y)) σ
 |.split=>orS (s4 o) fun x=>orS (tR args) fun a=>orS (s4 a) fun y=>if(y.length==0)=false then mkList T pos ((PySem.Txt.split x y).map .str) σ else .stuck
 |.find=>orS (s4 o) fun x=>orS (unc args) fun p=>orS (s4 p.1) fun y=>orS (tR p.2) fun b=>orS (tE b) fun i=>.ok (.int (PySem.Txt.find3 x y i)) σ
 |.fn f=>orS (T.call f) fun g=>g (o::args) σ
 |.stat f=>orS (T.call f) fun g=>g args σ
theorem eq__59:(∀{T:Tab}{p:Pos}{k:Nat}{x:Val}{σ:St},qX T p .app (.ref k) [x] σ=orS (σ[k]?.bind r4) fun vs=>if vs.length<lim then .ok .none (σ.set k (.list (vs++[x])))else .stuck)∧
  (∀{T:Tab}{p:Pos}{k:Nat}{x:Val}{σ:St},qX T p .ext (.ref k) [x] σ=orS (σ[k]?.bind r4) fun vs=>orS (pB σ x) fun us=>if vs.length+us.length≤lim then .ok .none (σ.set k (.list (vs++us)))else .stuck)∧
  (∀{T:Tab}{p:Pos}{f:Addr}{o:Val}{as:List Val}{σ:St},qX T p (.fn f) o as σ=orS (T.call f) fun g=>g (o::as) σ)∧(∀{vs:List Val},(some (Cell.list vs)).bind r4=some vs)∧∀{α β S:Type}{a:α}{f:α→Out S β},orS (some a) f=f a:=
 ⟨rfl,rfl,rfl,rfl,rfl⟩
noncomputable def pO:Ag→Bool
 |.Call (.Name _ _) [] [] _=>false
 |_=>true
noncomputable def sH(T:Tab)(σ:St)(ov:Val)(name:Str):Out St Val:=match ov with
 |.ref k=>match σ[k]? with
  |some (.inst C fs)=>match look name fs with|some v=>if T.hasAttr C name then .ok v σ else .stuck|none=>.stuck
  |some (.exn C fs)=>match look name fs with|some v=>if T.hasAttrE C name then .ok v σ else .stuck|none=>.stuck
  |_=>.stuck
 |_=>.stuck
noncomputable def qS(T:Tab)(pos:Pos)(σ:St)(ov l u:Val):Out St Val:=match pB σ ov,sC l,sC u with
 |some vs,some l,some u=>match tW vs l u with|some r=>mkList T pos r σ|none=>.stuck
 |_,_,_=>.stuck
noncomputable def rY(v:Val)(m:Nat):Option Nat:=match v with
 |.str x=>if x.length+m≤10000 then some (x.length+m)else none
 |_=>none
noncomputable def rE(fr:Fr)(scope:Ah):Ah:={scope with names:=scope.names.map fun nk=>if nk.2==.free&&fr.kind nk.1==some .cell then(nk.1,.cell)else nk}
noncomputable def pZ(fr:Fr)(scope:Ah):Fr:=
 {scope:=rE fr scope,fn:=false,vars:=scope.names.filterMap fun nk=>if nk.2==.free then(look nk.1 fr.vars).map (nk.1,·)else none}
noncomputable def Fr.mayPut(fr:Fr)(x:Str):Bool:=fr.kind x==some .local||(fr.fn&&fr.kind x==some .cell&&!fr.frozen.contains x)
noncomputable def nmE:Ag→Option Str|.Name x _=>some x|_=>none
noncomputable def x7:Ag→Option (List Ag)|.Tuple ts _ _=>some ts|_=>none
variable{t:Ag}
theorem eq__318{x:Str}(h:nmE t=some x):∃p,t=.Name x p:=by cases t<;>first|exact⟨_,congrArg (fun z=>Expr.Name z _) (a6 h)⟩|(injection h)
theorem eq__589{ts:List Ag}(h:x7 t=some ts):∃k p,t=.Tuple ts k p:=by cases t<;>first|exact⟨_,_,congrArg (fun z=>Expr.Tuple z _ _) (a6 h)⟩|(injection h)
noncomputable def s6:List Ag→List Val→Fr→Option Fr
 |[],vs,fr=>if vs.isEmpty then some fr else none
 |t::ts,vs,fr=>(nmE t).bind fun x=>vs.head?.bind fun v=>if fr.mayPut x then s6 ts vs.tail (fr.put x v)else none
variable{fr':Fr}
theorem eq__212{ts:List Ag}(e:s6 (t::ts) vs fr=some fr'):∃x p v vs',t=.Name x p∧vs=v::vs'∧fr.mayPut x=true∧s6 ts vs' (fr.put x v)=some fr':=by
 rcases aB.mp e with⟨x,hx,e⟩
 rcases aB.mp e with⟨v,hv,e⟩
 rcases eq__318 hx with⟨p,hp⟩
 cases vs with
 |nil=>injection hv
 |cons w ws=>
  rcases a6 hv with rfl;exact⟨x,p,_,_,hp,rfl,eq__87 e⟩
noncomputable def rF(t:Ag)(v:Val)(fr:Fr):Option Fr:=(nmE t).elim ((x7 t).bind fun ts=>(vF v).bind fun vs=>s6 ts vs fr) fun x=>if fr.mayPut x then some (fr.put x v)else none
theorem eq__319(e:rF t v fr=some fr'):(∃x p,t=.Name x p∧fr.mayPut x=true∧fr'=fr.put x v)∨∃ts k p vs,t=.Tuple ts k p∧v=.tup vs∧s6 ts vs fr=some fr':=by
 unfold rF at e
 cases hn:nmE t with
 |some x=>
  rw[hn]at e;rcases eq__318 hn with⟨p,hp⟩;have q:=eq__87 e;exact .inl ⟨x,p,hp,q.1,(a6 q.2).symm⟩
 |none=>
  rw[hn]at e;rcases aB.mp e with⟨ts,ht,e⟩;rcases aB.mp e with⟨vs,hv,e⟩;rcases eq__589 ht with⟨k,p,hp⟩;exact .inr ⟨ts,k,p,vs,hp,eq__210 hv,e⟩
noncomputable def uV:Ag→Bool|.Name ..=>true|_=>false
noncomputable def tF:Ag→Bool|.Tuple ..=>true|_=>false
noncomputable def qG(sr:Src)(t:Ag):Bool:=match sr with
 |.enm _=>tF t
 |.val v=>uV t||(tF t&&(s4 v).isNone)
 |_=>uV t
noncomputable def pW(sc:Ah):Bool:=sc.kind==.function&&decide (sc.names.map (·.1)).Nodup&&sc.names.all (·.2 !=.cell)
noncomputable def pD(fr:Fr)(sc:Ah):Bool:=sc.names.all fun nk=>nk.2 !=.free||((look nk.1 fr.vars).isSome&&(fr.kind nk.1==some .cell||fr.kind nk.1==some .free))
noncomputable def rG(src:Src)(body:Val→Fr→List Val→St→Out St (List Val×Fr)):Nat→Nat→Fr→List Val→St→Out St (List Val×Fr)
 |0,_,_,_,_=>.stuck
 |f+1,i,cfr,acc,σ=>match pG σ src i with
  |none=>.stuck
  |some none=>.ok (acc,cfr) σ
  |some (some v)=>(body v cfr acc σ).bind fun r σ'=>rG src body f (i+1) r.2 r.1 σ'
variable{cfr:Fr}
theorem eq__142{src:Src}{body:Val→Fr→List Val→St→Out St (List Val×Fr)}{f:Nat}{acc:List Val}:rG src body (f+1) i cfr acc σ=match pG σ src i with
  |none=>.stuck
  |some none=>.ok (acc,cfr) σ
  |some (some v)=>(body v cfr acc σ).bind fun r σ'=>rG src body f (i+1) r.2 r.1 σ':=rfl
noncomputable def rI(tstE:Fr→Ag→St→Out St Bool)(fr:Fr):List Ag→St→Out St Bool
 |[],σ=>.ok true σ
 |c::r,σ=>(tstE fr c σ).bind fun b σ'=>if b then rI tstE fr r σ' else .ok false σ'
theorem eq__79:(∀{h fr σ},rI h fr [] σ=.ok true σ)∧∀{h fr e es σ},rI h fr (e::es) σ=(h fr e σ).bind fun b σ'=>if b then rI h fr es σ' else .ok false σ':=⟨rfl,rfl⟩
noncomputable def pH(tstE:Fr→Ag→St→Out St Bool)(target:Ag)(ifs:List Ag)(inner:Fr→List Val→St→Out St (List Val×Fr))(v:Val)(cfr:Fr)(acc:List Val)(σ:St):Out St (List Val×Fr):=match rF target v cfr with
 |none=>.stuck
 |some cfr'=>(rI tstE cfr' ifs σ).bind fun b σ₁=>if b then inner cfr' acc σ₁ else .ok (acc,cfr') σ₁
noncomputable def qF(evE:Fr→Ag→EM)(elt:Ag)(cfr:Fr)(acc:List Val)(σ:St):Out St (List Val×Fr):=
 (evE cfr elt σ).bind fun x σ₂=>if acc.length<lim then .ok (acc++[x],cfr) σ₂ else .stuck
noncomputable def q8(evE:Fr→Ag→EM)(tstE:Fr→Ag→St→Out St Bool)(srcE:Fr→Ag→St→Out St Src)(elt:Ag):List Comprehension→Src→Fr→List Val→St→Out St (List Val×Fr)
 |[],_,_,_,_=>.stuck
 |[⟨target,_,ifs,as⟩],src,cfr,acc,σ=>if as≠0∨qG src target=false then .stuck else rG src (pH tstE target ifs (qF evE elt)) qC 0 cfr acc σ
 |⟨target,_,ifs,as⟩::⟨t',it',fs',as'⟩::more,src,cfr,acc,σ=>if as≠0∨qG src target=false then .stuck else rG src (pH tstE target ifs (fun cfr' acc σ₁=>
   (srcE cfr' it' σ₁).bind fun src' σ₂=>q8 evE tstE srcE elt (⟨t',it',fs',as'⟩::more) src' cfr' acc σ₂)) qC 0 cfr acc σ
noncomputable def pQ(evE:Ag→EM):List Ag→St→Out St (List Val)
 |[],σ=>.ok [] σ
 |e::r,σ=>(evE e σ).bind fun v σ'=>(pQ evE r σ').bind fun vs σ''=>.ok (v::vs) σ''
noncomputable def rR(evE:Ag→EM):List Keyword→St→Out St (List (Str×Val))
 |[],σ=>.ok [] σ
 |⟨some x,e,_⟩::r,σ=>(evE e σ).bind fun v σ'=>(rR evE r σ').bind fun vs σ''=>.ok ((x,v)::vs) σ''
 |_,_=>.stuck
noncomputable def qQ(σ:St)(v:Val):Out St Val:=match(pB σ v).bind qH with
 |some l=>if l.length<4000 then .ok (.int (rD [] l).length) σ else .stuck
 |none=>.stuck
noncomputable def pA:Ag→Bool|.Starred ..=>true|_=>false
noncomputable def pI(evE:Ag→EM):List Ag→Nat→St→Out St Unit
 |[],_,σ=>.ok () σ
 |.Constant (.str x) _ _::r,n,σ=>if x.length+n≤10000 then pI evE r (x.length+n) σ else .stuck
 |.FormattedValue e c none _::r,n,σ=>if c=-1 then(evE e σ).bind fun v σ'=>match rY v n with
   |some m=>pI evE r m σ'
   |none=>.stuck
  else .stuck
 |_,_,_=>.stuck
inductive vU where|vals(o:Ag)|rng(x:Ag)|enm(x:Ag)|plain
noncomputable def pR(T:Tab)(fr:Fr)(e:Ag):vU:=match e with
 |.Call (.Attribute o name apos) [] [] pos=>if name=nOf "values"∧pO o=true∧(apos.endLine==pos.line)=true then .vals o else .plain
 |.Call (.Name f _) [x] [] _=>if pA x=true then .plain else if pV T fr f=some (.type "range")then .rng x else if pV T fr f=some (.type "enumerate")then .enm x else .plain
 |_=>.plain
noncomputable def rZ(σ:St):Val→Out St Src
 |.ref k=>match σ[k]? with|some (.dict es ep)=>.ok (.vals k es.length ep) σ|_=>.stuck
 |_=>.stuck
noncomputable def vR(σ:St):Val→Out St Src
 |.int i=>if-1000≤i∧i≤1000 then .ok (.rng i) σ else .stuck
 |_=>.stuck
noncomputable def vH(σ:St)(v:Val):Out St Src:=if(pB σ v).isSome then .ok (.enm v) σ else .stuck
noncomputable def tB(σ:St)(v:Val):Out St Src:=if(qP σ v 0).isSome then .ok (.val v) σ else .stuck
noncomputable def ckF(h:Ag→EM)(as:List Ag)(ks:List Keyword)(σ:St)(m:List Val→EM):Out St Val:=if ks.isEmpty then(pQ h as σ).bind m else .stuck
noncomputable def ckM(h:Ag→EM)(as:List Ag)(ks:List Keyword)(σ:St)(m:List Val→List (Str×Val)→EM):Out St Val:=if ks.all (fun k=>k.arg.isSome)=false then .stuck else(pQ h as σ).bind fun as σ₁=>(rR h ks σ₁).bind (m as)
noncomputable def ckV(T:Tab)(h:Ag→EM)(as:List Ag)(ks:List Keyword)(pos:Pos)(σ:St):Val→Out St Val
 |.clo c vs=>ckF h as ks σ fun as σ₁=>(T.clo c).elim .stuck fun m=>m vs as σ₁
 |.imm (.ref a)=>(T.call a).elim ((T.make a).elim .stuck (ckM h as ks σ)) (ckF h as ks σ)
 |.imm v=>ckF h as ks σ (pL T pos v)
 |_=>.stuck
mutual
noncomputable def ev(T:Tab):Nat→Fr→Ag→EM
 |0,_,_,_=>.stuck
 |n+1,fr,e,σ=>match e with
  |.Constant c _ _=>(match c with
   |.none=>.ok .none σ
   |.bool b=>.ok (.bool b) σ
   |.int i=>.ok (.int i) σ
   |.str x=>if x.length≤lim then .ok (.str x) σ else .stuck
   |_=>.stuck)
  |.Name x _=>(match nameV T fr x with|some v=>.ok v σ|none=>.stuck)
  |.BoolOp op vs _=>pX T n fr op vs σ
  |.BinOp l op r pos=>(ev T n fr l σ).bind fun a σ₁=>(ev T n fr r σ₁).bind fun b σ₂=>sQ T pos op a b σ₂
  |.IfExp t b o _=>(tst T n fr t σ).bind fun c σ₁=>if c then ev T n fr b σ₁ else ev T n fr o σ₁
  |.Dict [] [] pos=>if T.chg pos then .ok (.ref σ.length) (σ++[.dict [] 0])else .ok .dct0 σ
  |.List es pos=>if es.any pA then .stuck else(pQ (ev T n fr) es σ).bind fun vs σ₁=>mkList T pos vs σ₁
  |.Tuple es _ _=>if es.any pA then .stuck else(pQ (ev T n fr) es σ).bind fun vs σ₁=>if vs.length≤lim then .ok (.tup vs) σ₁ else .stuck
  |.ListComp elt gens scope pos=>(match gens with
   |[]=>.stuck
   |g::gs=>if pW scope=false∨pD fr scope=false∨(g::gs).all (fun c=>c.is_async==0)=false then .stuck else(src T n fr g.iter σ).bind fun s σ₁=>(q8 (ev T n) (tst T n) (src T n) elt (g::gs) s (pZ fr scope) [] σ₁).bind fun r σ₂=>mkList T pos r.1 σ₂)
  |.Compare l [op] [r] _=>if behindInMarks op r=true then .stuck else(ev T n fr l σ).bind fun a σ₁=>(ev T n fr r σ₁).bind fun b σ₂=>(match qN σ₂ op a b with
   |some c=>.ok (.bool c) σ₂
   |none=>.stuck)
  |.Call (.Attribute o name apos) args [] pos=>if args.any pA=false∧pO o=true∧args.length<20∧(apos.endLine==pos.line)=true then
   (ev T n fr o σ).bind fun ov σ₁=>(match rQ T σ₁ ov name with
    |some m=>(pQ (ev T n fr) args σ₁).bind fun vs σ₂=>qX T pos m ov vs σ₂
    |none=>.stuck)
   else .stuck
  |.Call (.Name f _) [.Call (.Name f' _) [x] [] _] [] _=>if pV T fr f=some (.builtin "len")∧pV T fr f'=some (.type "set")∧pA x=false then
    (ev T n fr x σ).bind fun v σ₁=>qQ σ₁ v
   else .stuck
  |.Call (.Name f _) args kws pos=>q9 T n fr f args kws pos σ
  |.Attribute o name _=>if pO o=false then .stuck else(ev T n fr o σ).bind fun ov σ₁=>sH T σ₁ ov name
  |.Subscript o (.Slice lo hi none _) pos=>(ev T n fr o σ).bind fun ov σ₁=>(qT T n fr lo σ₁).bind fun l σ₂=>(qT T n fr hi σ₂).bind fun u σ₃=>qS T pos σ₃ ov l u
  |.Subscript o i _=>(ev T n fr o σ).bind fun ov σ₁=>(ev T n fr i σ₁).bind fun iv σ₂=>(match r8 σ₂ ov iv with
   |some v=>.ok v σ₂
   |none=>.stuck)
  |.JoinedStr ps _=>if ps.length<2 then .stuck else(pI (ev T n fr) ps 0 σ).bind fun _ σ₁=>.ok .any σ₁
  |_=>.stuck
noncomputable def qT(T:Tab):Nat→Fr→Option Ag→EM
 |_,_,none,σ=>.ok .none σ
 |0,_,some _,_=>.stuck
 |n+1,fr,some e,σ=>ev T n fr e σ
noncomputable def q9(T:Tab):Nat→Fr→Str→List Ag→List Keyword→Pos→EM
 |0,_,_,_,_,_,_=>.stuck
 |n+1,fr,f,args,kws,pos,σ=>if args.any pA then .stuck else(nameV T fr f).elim .stuck (ckV T (ev T n fr) args kws pos σ)
noncomputable def pX(T:Tab):Nat→Fr→BoolOp→List Ag→EM
 |0,_,_,_,_=>.stuck
 |n+1,fr,op,es,σ=>match es with
  |[]=>.stuck
  |[e]=>ev T n fr e σ
  |e::r=>(ev T n fr e σ).bind fun v σ₁=>(match op,pN σ₁ v with
   |.And,some true=>pX T n fr op r σ₁
   |.And,some false=>.ok v σ₁
   |.Or,some true=>.ok v σ₁
   |.Or,some false=>pX T n fr op r σ₁
   |_,none=>.stuck)
noncomputable def tst(T:Tab):Nat→Fr→Ag→St→Out St Bool
 |0,_,_,_=>.stuck
 |n+1,fr,e,σ=>match e with
  |.UnaryOp .Not x _=>(tst T n fr x σ).bind fun b σ₁=>.ok (!b) σ₁
  |.BoolOp op vs _=>qE T n fr op vs σ
  |.IfExp ..=>.stuck
  |.Compare l [op] [r] _=>if behindInMarks op r=true then .stuck else(ev T n fr l σ).bind fun a σ₁=>(ev T n fr r σ₁).bind fun b σ₂=>(match qN σ₂ op a b with
   |some c=>.ok c σ₂
   |none=>.stuck)
  |.Compare ..=>.stuck
  |e=>(ev T n fr e σ).bind fun v σ₁=>(match pN σ₁ v with|some b=>.ok b σ₁|none=>.stuck)
noncomputable def qE(T:Tab):Nat→Fr→BoolOp→List Ag→St→Out St Bool
 |0,_,_,_,_=>.stuck
 |n+1,fr,op,es,σ=>match es with
  |[]=>.ok (op==.And) σ
  |e::r=>(tst T n fr e σ).bind fun b σ₁=>(match op,b with
   |.And,true=>qE T n fr op r σ₁
   |.And,false=>.ok false σ₁
   |.Or,true=>.ok true σ₁
   |.Or,false=>qE T n fr op r σ₁)
noncomputable def src(T:Tab):Nat→Fr→Ag→St→Out St Src
 |0,_,_,_=>.stuck
 |n+1,fr,e,σ=>match pR T fr e with
  |.vals o=>(ev T n fr o σ).bind fun v σ₁=>rZ σ₁ v
  |.rng x=>(ev T n fr x σ).bind fun v σ₁=>vR σ₁ v
  |.enm x=>(ev T n fr x σ).bind fun v σ₁=>vH σ₁ v
  |.plain=>(ev T n fr e σ).bind fun v σ₁=>tB σ₁ v
end
noncomputable abbrev SS:=Fr×St
noncomputable def qD{α:Type}(fr:Fr):Out St α→Out SS α
 |.ok a σ=>.ok a (fr,σ)
 |.exc k σ=>.exc k (fr,σ)
 |.stuck=>.stuck
noncomputable def qY(s:Src)(body:Val→Fr→St→Out SS Flo):Nat→Nat→Fr→St→Out SS Flo
 |0,_,_,_=>.stuck
 |f+1,i,fr,σ=>match pG σ s i with
  |none=>.stuck
  |some none=>.ok .next (fr,σ)
  |some (some v)=>match body v fr σ with
   |.ok (.ret v) q=>.ok (.ret v) q
   |.ok _ q=>qY s body f (i+1) q.1 q.2
   |.exc k q=>.exc k q
   |.stuck=>.stuck
theorem eq__213{s:Src}{body:Val→Fr→St→Out SS Flo}{f:Nat}:qY s body (f+1) i fr σ=(match pG σ s i with
  |none=>.stuck
  |some none=>.ok .next (fr,σ)
  |some (some v)=>match body v fr σ with
   |.ok (.ret v) q=>.ok (.ret v) q
   |.ok _ q=>qY s body f (i+1) q.1 q.2
   |.exc k q=>.exc k q
   |.stuck=>.stuck):=rfl
noncomputable def qL(test:Fr→St→Out St Bool)(body:Fr→St→Out SS Flo):Nat→Fr→St→Out SS Flo
 |0,_,_=>.stuck
 |f+1,fr,σ=>(qD fr (test fr σ)).bind fun b q=>if b then(match body q.1 q.2 with
   |.ok (.ret v) q=>.ok (.ret v) q
   |.ok _ q=>qL test body f q.1 q.2
   |.exc k q=>.exc k q
   |.stuck=>.stuck)else .ok .next q
theorem eq__214{test:Fr→St→Out St Bool}{body:Fr→St→Out SS Flo}{f:Nat}:qL test body (f+1) fr σ=(qD fr (test fr σ)).bind fun b q=>if b then(match body q.1 q.2 with
   |.ok (.ret v) q=>.ok (.ret v) q
   |.ok _ q=>qL test body f q.1 q.2
   |.exc k q=>.exc k q
   |.stuck=>.stuck)else .ok .next q:=rfl
noncomputable def rN:Val→Bool
 |.imm _|.any=>false
 |_=>true
noncomputable def qZ(T:Tab)(k:Nat)(a:Str)(v:Val)(σ:St):Option St:=match σ[k]? with
 |some (.inst C fs)=>if fs.length<900∧T.hasAttr C a=true∧rN v=true∧(T.meth.lookup C).isSome=true then some (σ.set k (.inst C (setV a v fs)))else none
 |_=>none
noncomputable def r9(k:Nat)(x:Str)(v:Val)(σ:St):Option St:=match σ[k]? with
 |some (.dict es ep)=>if es.length<lim then some (σ.set k (.dict (setV x v es) (if(look x es).isSome then ep else ep+1)))else none
 |_=>none
noncomputable def rU(T:Tab)(fr:Fr)(σ:St)(k:Nat)(x:Str):Option Bool:=match pV T fr x,σ[k]? with
 |some (.ref C),some (.exn D _)=>if(T.exn.lookup C).isSome&&(T.exn.lookup D).isSome then some (C==D)else none
 |_,_=>none
noncomputable def qV(T:Tab)(fr:Fr):Nat→Ag→Bool
 |0,_=>false
 |n+1,e=>match e with
  |.Constant ..|.Name ..=>true
  |.BoolOp .And [a,b] _=>qV T fr n a&&qV T fr n b
  |.Compare l [.Eq] [r] _=>qV T fr n l&&qV T fr n r
  |.Attribute o _ _=>qV T fr n o
  |.Call (.Name f _) [.Name _ _,.Name _ _] [] _=>pV T fr f=some (.builtin "isinstance")
  |_=>false
noncomputable def rB(fr:Fr):Out St Val→Out SS Flo
 |.ok v σ=>.ok (.ret v) (fr,σ)
 |_=>.stuck
noncomputable def pP(T:Tab)(evE:Fr→Ag→EM)(k:Nat):List ExceptHandler→Fr→St→Out SS Flo
 |[],_,_=>.stuck
 |.ExceptHandler (some (.Name x _)) name [.Return (some e) _] _::r,fr,σ=>match rU T fr σ k x with
  |none=>.stuck
  |some false=>pP T evE k r fr σ
  |some true=>(match name with
    |none=>if qV T fr 5 e then rB fr (evE fr e σ)else .stuck
    |some y=>if fr.kind y=some .local∧look y fr.vars=none∧qV T (fr.put y (.ref k)) 5 e=true then rB fr (evE (fr.put y (.ref k)) e σ)else .stuck)
 |_,_,_=>.stuck
noncomputable def rV(a:Arguments):Bool:=a.posonlyargs.isEmpty&&a.kwonlyargs.isEmpty&&a.vararg.isNone&&a.kwarg.isNone&&a.kw_defaults.isEmpty&&a.defaults.isEmpty&&a.args.all (·.annotation.isNone)
noncomputable def s7(σ:St):Bool:=match σ[(0:Nat)]? with|some (.tab false)=>true|_=>false
noncomputable def s8(own:Option Str)(v:Val):Option (List (Str×Val)):=match own with
 |none=>some []
 |some a=>if rN v then some [(a,v)]else none
noncomputable def s9(fr:Fr):List Str→Option (List Val)
 |[]=>some []
 |x::r=>(look x fr.vars).bind fun v=>(s9 fr r).bind fun vs=>if fr.kind x==some .cell&&fr.fn then some (v::vs)else none
mutual
noncomputable def ex(T:Tab):Nat→Stmt→Fr→St→Out SS Flo
 |0,_,_,_=>.stuck
 |n+1,s,fr,σ=>match s with
  |.Expr (.Call f args kws pos) _=>(qD fr (ev T n fr (.Call f args kws pos) σ)).bind fun _ q=>.ok .next q
  |.Continue _=>.ok .cont (fr,σ)
  |.Pass _=>.ok .next (fr,σ)
  |.Return none _=>.ok (.ret .none) (fr,σ)
  |.Return (some e) _=>(qD fr (ev T n fr e σ)).bind fun v q=>.ok (.ret v) q
  |.Assign [.Name x _] e _=>(qD fr (ev T n fr e σ)).bind fun v q=>if q.1.mayPut x then .ok .next (q.1.put x v,q.2)else .stuck
  |.Assign [.Attribute o a _] e _=>(qD fr (ev T n fr e σ)).bind fun v q=>(qD q.1 (ev T n q.1 o q.2)).bind fun ov q'=>(match ov with
   |.ref k=>(match qZ T k a v q'.2 with|some σ'=>.ok .next (q'.1,σ')|none=>.stuck)
   |_=>.stuck)
  |.Assign [.Subscript o i _] e _=>(qD fr (ev T n fr e σ)).bind fun v q=>(qD q.1 (ev T n q.1 o q.2)).bind fun ov q'=>(qD q'.1 (ev T n q'.1 i q'.2)).bind fun iv q''=>(match ov,iv with
   |.ref k,.str x=>(match r9 k x v q''.2 with|some σ'=>.ok .next (q''.1,σ')|none=>.stuck)
   |_,_=>.stuck)
  |.If t b o _=>(qD fr (tst T n fr t σ)).bind fun c q=>if c then exs T n b q.1 q.2 else exs T n o q.1 q.2
  |.For target iter body [] _=>(qD fr (src T n fr iter σ)).bind fun s q=>if qG s target=false then .stuck else qY s (fun v fr' σ'=>match rF target v fr' with
    |none=>.stuck
    |some fr''=>exs T n body fr'' σ') qC 0 q.1 q.2
  |.While t body [] _=>qL (fun fr σ=>tst T n fr t σ) (fun fr σ=>exs T n body fr σ) qC fr σ
  |.Raise (some (.Call (.Name x _) [e] [] _)) none _=>if pA e then .stuck else(match pV T fr x with
   |some (.ref C)=>(match T.exn.lookup C with
    |some own=>(qD fr (ev T n fr e σ)).bind fun v q=>(match s8 own v with
     |some fs=>.exc q.2.length (q.1,q.2++[.exn C fs])
     |none=>.stuck)
    |none=>.stuck)
   |_=>.stuck)
  |.Try body (h::hs) [] [] _=>(match exs T n body fr σ with
   |.exc k q=>pP T (ev T n) k (h::hs) q.1 q.2
   |r=>r)
  |.FunctionDef name args body [] none [] scope none bind _=>(match s9 fr (pF scope)with
    |some vs=>if name=bind∧fr.code=343∧rV args=true∧pD fr scope=true∧fr.frozen=[]∧fr.kind bind=some .local∧fr.fn=true∧s7 σ=true then
      .ok .next ({fr.put bind (.clo ⟨args,body,scope⟩ vs)with frozen:=pF scope},σ.set 0 (Cell.tab true))else .stuck
    |none=>.stuck)
  |_=>.stuck
noncomputable def exs(T:Tab):Nat→List Stmt→Fr→St→Out SS Flo
 |0,_,_,_=>.stuck
 |n+1,ss,fr,σ=>match ss with
  |[]=>.ok .next (fr,σ)
  |s::r=>match ex T n s fr σ with
   |.ok .next q=>exs T n r q.1 q.2
   |o=>o
end
noncomputable def tL(T:Tab)(n:Nat)(code:Addr)(scope:Ah)(binds:List (Str×Val))(body:List Stmt)(σ:St):Out St Val:=
 match exs T n body {scope:=scope,fn:=true,vars:=binds,code:=code} σ with
 |.ok (.ret v) q=>.ok v q.2
 |.ok .next q=>.ok .none q.2
 |.ok .cont _=>.stuck
 |.exc k q=>.exc k q.2
 |.stuck=>.stuck
noncomputable def u6:List Stmt:=mY.main.body
structure qU where
 pars:List Str
 body:List Stmt
 scope:Ah
noncomputable def uR(x:Str):List Stmt→Option qU
 |[]=>none
 |.FunctionDef n a b _ _ _ sc _ _ _::r=>if n=x then some ⟨a.args.map (·.arg),b,sc⟩else uR x r
 |_::r=>uR x r
noncomputable def clsIn(x:Str):List Stmt→List Stmt
 |[]=>[]
 |.ClassDef n _ _ b _ _ _ _ _ _ _::r=>if n=x then b else clsIn x r
 |_::r=>clsIn x r
noncomputable def pY(x:Str):qU:=(uR x u6).getD ⟨[],[],default⟩
noncomputable def pJ(c x:Str):qU:=(uR x (clsIn c u6)).getD ⟨[],[],default⟩
noncomputable def rJ(ps:List Str)(vs:List Val):Option (List (Str×Val)):=if ps.length=vs.length then some (ps.zip vs)else none
noncomputable def callD(T:Tab)(n:Nat)(code:Addr)(d:qU)(vs:List Val)(σ:St):Out St Val:=match rJ d.pars vs with
 |some bs=>tL T n code d.scope bs d.body σ
 |none=>.stuck
noncomputable def sP(T:Tab)(n:Nat)(d:CloD)(cap vs:List Val)(σ:St):Out St Val:=match rJ (d.args.args.map (·.arg)) vs,rJ (pF d.scope) cap with
 |some bs,some cs=>tL T n 0 d.scope (bs++cs) d.body σ
 |_,_=>.stuck
noncomputable def u7(ps:List (Str×Option Val))(pos:List Val)(kws:List (Str×Val)):Option (List Val):=match ps,pos with
 |[],[]=>some []
 |[],_::_=>none
 |_::ps,v::pos=>(u7 ps pos kws).map (v::·)
 |(x,d)::ps,[]=>match(look x kws).or d with
  |some v=>(u7 ps [] kws).map (v::·)
  |none=>none
noncomputable def xL(C:Addr)(ps:List (Str×Option Val))(init:List Val→EM)(pos:List Val)(kws:List (Str×Val))(σ:St):Out St Val:=
 match u7 ps (.ref σ.length::pos) kws with
 |some vs=>(init vs (σ++[.inst C []])).bind fun r σ'=>match r with
  |.none=>.ok (.ref σ.length) σ'
  |_=>.stuck
 |none=>.stuck
noncomputable def x8(l:List String):Val:=.lst (l.map fun s=>.str (a5 s))
noncomputable def qI:List (Str×Val):=[(nOf "Task",.imm (.ref 223)),(nOf "TaskControl",.imm (.ref 368)),(nOf "InvalidCommand",.imm (.ref 39)),(nOf "InvalidDodoFile",.imm (.ref 52)),(nOf "InvalidTask",.imm (.ref 78)),
 (nOf "matches",.imm (.ref 289)),(nOf "_law_names",.imm (.ref 485)),(nOf "_law_patterns",x8 ["*","a*","*b","*a*b*","a:*","ab*ab","a*ba","*ba*ab*"]),(nOf "_law_files",x8 ["f","g","h","a"]),
 (nOf "_law_like",.imm (.ref 492)),(nOf "_law_spec",.imm (.ref 497)),(nOf "_law_refusal",.imm (.ref 502)),(nOf "_law_needs",.imm (.ref 507)),(nOf "_law_selected",.imm (.ref 512)),(nOf "_law_made",.imm (.ref 517)),
 (nOf "len",.imm (.builtin "len")),(nOf "abs",.imm (.builtin "abs")),(nOf "isinstance",.imm (.builtin "isinstance")),(nOf "list",.imm (.type "list")),(nOf "str",.imm (.type "str")),(nOf "set",.imm (.type "set")),(nOf "range",.imm (.type "range")),(nOf "enumerate",.imm (.type "enumerate"))]
noncomputable def methT:List (Addr×List (Str×Addr)):=[(223,[(nOf "_init_deps",144),(nOf "_init_targets",151),(nOf "_init_uptodate",158),(nOf "_expand_file_dep",165),(nOf "_expand_task_dep",172),(nOf "init_options",201)]),
 (368,[(nOf "_check_dep_names",310),(nOf "_get_wild_tasks",337),(nOf "_process_filter",344),(nOf "_filter_tasks",351),(nOf "process",358)])]
noncomputable def statT:List (Addr×List (Str×Addr)):=[(368,[(nOf "set_implicit_deps",317),(nOf "add_implicit_task_dep",327)])]
noncomputable def attrT:List (Addr×List Str):=[(223,["name","options","setup_tasks","actions","getargs","value_savers","uptodate","targets","subtask_of","has_subtask","result","values","executed","dep_changed","file_dep","task_dep","wild_dep","calc_dep"].map nOf),
 (368,["tasks","targets","_def_order","selected_tasks"].map nOf)]
noncomputable def eattrT:List (Addr×List Str):=[(39,[nOf "not_found"])]
noncomputable def vV:List (Addr×Option Str):=[(39,some (nOf "not_found")),(52,none),(78,none)]
noncomputable def x9(p:Pos):Bool:=([(58,24),(60,24),(61,24),(69,18),(202,21),(203,23),(204,26),(250,20),(257,22),(265,14),(276,24),(502,12),(504,14),(506,18),(515,12),(518,20),(544,15),(558,11)]:List (Nat×Nat)).contains (p.line,p.col)
noncomputable def wF:List (Str×Option Val):=[(nOf "self",none),(nOf "name",none),(nOf "actions",none),(nOf "file_dep",some (.tup [])),(nOf "targets",some (.tup [])),(nOf "task_dep",some (.tup [])),(nOf "uptodate",some (.tup [])),
 (nOf "calc_dep",some (.tup [])),(nOf "setup",some (.tup [])),(nOf "subtask_of",some .none),(nOf "has_subtask",some (.bool false)),(nOf "getargs",some .none)]
noncomputable def vI:List (Str×Option Val):=[(nOf "self",none),(nOf "task_list",none)]
noncomputable def sX(call:Addr→Option (List Val→EM))(make:Addr→Option (List Val→List (Str×Val)→EM))(clo:CloD→Option (List Val→List Val→EM)):Tab:=
 {glob:=qI,meth:=methT,stat:=statT,attr:=attrT,eattr:=eattrT,call:=call,clo:=clo,make:=make,exn:=vV,chg:=x9}
set_option tactic.hygienic false
section
variable(prog:Aa)(w:Ab)(g:Ac)
inductive xM(W:Wd)(h₀:Ac)(a:Addr)(vs:Array Af)(h:Ac):Prop
 |mk(T:Addr)(oT:Obj)(ts:Array Af)(e:vs[1]?=some (.ref T))(ne:T≠a)(f:W T=.free)(n:h₀.get? T=none)(ho:h.get? T=some oT)(hd:oT.data=.fields ts)(hz:3<ts.size)
inductive Fly(W:Wd)(h₀:Ac)(k:Nat)(e:Af)(h:Ac):Prop
 |mk(a:Addr)(ob:Obj)(vs:Array Af)(ea:e=.ref a)(hw:W a=.obj k)(n:h₀.get? a=none)(ho:h.get? a=some ob)(hd:ob.data=.fields vs)(t:vs[1]?=some .none∨xM W h₀ a vs h)
inductive Post{α β:Type}(R:Wd→α→β→Prop)(r:Out St α)(W:Wd)(s:Ad)(b:β)(s':Ad):Prop
 |mk(a:α)(σ':St)(W':Wd)(h':Ac)(tk:Nat)(e1:r=.ok a σ')(e2:s'={s with heap:=h',toks:=tk})(x:Ext [] W s.heap W' h')(q:Rel prog w g W' σ' h')(rep:R W' a b)
inductive PostX{α:Type}(r:Out St α)(W:Wd)(s:Ad)(e:Af)(s':Ad):Prop
 |mk(k:Nat)(σ':St)(W':Wd)(h':Ac)(tk:Nat)(e1:r=.exc k σ')(e2:s'={s with heap:=h',toks:=tk})(x:Ext [] W s.heap W' h')(q:Rel prog w g W' σ' h')(f:Fly W' s.heap k e h')
def Snd{α β:Type}(R:Wd→α→β→Prop)(A:Ae)(t:Sem β)(r:Out St α)(W:Wd)(s:Ad):Prop:=
 wpAny (model prog w) A t (Post prog w g R r W s) (PostX prog w g r W s) s
end
variable{σ':St}{s':Ad}{h₀:Ac}{e u:Af}{W₀:Wd}{b:Bool}{γ:Type}
section
variable{δ:Type}{tk:Nat}
theorem eq__215{t:Sem α}{Q:α→Ad→Prop}(h:∀(P:α→Ad→Prop)(E':Af→Ad→Prop),(∀a s',Q a s'→P a s')→(∀e s',E e s'→E' e s')→wpAny M A t P E' s):wpAny M A t Q E s:=h Q E (fun _ _ q=>q) fun _ _ q=>q
theorem Fly.back(x:Ext [] W₀ h₀ W₁ h₁)(f:Fly W h₁ k e h):Fly W h₀ k e h:=by
 rcases f with⟨a,ob,vs,e1,e2,n,e3,e4,e5⟩
 refine⟨a,ob,vs,e1,e2,x.none n,e3,e4,e5.imp id ?_⟩
 rintro⟨T,oT,ts,q1,q2,q3,q4,q5,q6,q7⟩
 exact⟨T,oT,ts,q1,q2,q3,x.none q4,q5,q6,q7⟩
theorem Post.back{R:Wd→α→β→Prop}{r:Out St α}{b:β}(x:Ext [] W s.heap W' h')(p:Post prog w g R r W' {s with heap:=h',toks:=tk} b s'):Post prog w g R r W s b s':=by
 rcases p with⟨a,σ₂,W₂,h₂,t₂,e,e',x',R',q⟩
 exact⟨a,σ₂,W₂,h₂,t₂,e,e',x.trans x',R',q⟩
theorem PostX.back{r:Out St α}(x:Ext [] W s.heap W' h')(p:PostX prog w g r W' {s with heap:=h',toks:=tk} e s'):PostX prog w g r W s e s':=by
 rcases p with⟨k,σ₂,W₂,h₂,t₂,e,e',x',R',q⟩
 exact⟨k,σ₂,W₂,h₂,t₂,e,e',x.trans x',R',q.back x⟩
theorem Snd.bindQ{R:Wd→α→β→Prop}{t:Sem β}{r:Out St α}{Q:β→Ad→Prop}(p:Snd prog w g R A t r W s)(k:∀a σ' W' h' tk b,r=.ok a σ'→Ext [] W s.heap W' h'→Rel prog w g W' σ' h'→R W' a b→Q b {s with heap:=h',toks:=tk})(x:∀e s',PostX prog w g r W s e s'→E e s'):wpAny (model prog w) A t Q E s:=
 aE p (fun b s' q=>by
  rcases q with⟨a,σ',W',h',tk,e,rfl,x,R₁,rep⟩;exact k a σ' W' h' tk b e x R₁ rep) fun e s' q=>x e s' q
theorem PostX.bind{r:Out St α}{F:α→St→Out St γ}(q:PostX prog w g r W s e s'):PostX prog w g (r.bind F) W s e s':=by
 obtain⟨k,σ',W',h',tk,e,e',r1,r2,r3⟩:=q
 exact⟨k,σ',W',h',tk,by rw[e];rfl,e',r1,r2,r3⟩
theorem Post.same{R:Wd→α→β→Prop}{a:α}{b:β}(R₀:Rel prog w g W σ s.heap)(rep:R W a b):Post prog w g R (.ok a σ) W s b {s with toks:=tk}:=⟨a,σ,W,s.heap,tk,rfl,rfl,Ext.refl [] W s.heap,R₀,rep⟩
theorem Post.still{R:Wd→α→β→Prop}{a:α}{b:β}(R₀:Rel prog w g W σ s.heap)(rep:R W a b):Post prog w g R (.ok a σ) W s b s:=⟨a,σ,W,s.heap,s.toks,rfl,rfl,Ext.refl [] W s.heap,R₀,rep⟩
theorem Post.at{R:Wd→α→β→Prop}{a:α}{b:β}(x:Ext [] W s.heap W' h')(R₀:Rel prog w g W' σ' h')(rep:R W' a b):Post prog w g R (.ok a σ') W s b {s with heap:=h',toks:=tk}:=⟨a,σ',W',h',tk,rfl,rfl,x,R₀,rep⟩
theorem eq__53{v:Af}:Rep W .none v↔v=.none:=by skip;exact fV
theorem eq__63{v:Af}:Rep W (.bool b) v↔v=.bool b:=by skip;exact fV
theorem eq__20{i:Int}{v:Af}:Rep W (.int i) v↔∃t,v=.int i t:=by skip;exact fV
theorem eq__19{x:Str}{v:Af}:Rep W (.str x) v↔∃t,v=.str x t∧x.length≤lim:=by skip;exact fV
theorem eq__35{v:Af}:Rep W (.ref k) v↔∃a,v=.ref a∧W a=.obj k:=by skip;exact fV
theorem eq__88{v:Af}:Rep W (.imm u) v↔v=u:=by skip;exact fV
theorem eq__170{v:Af}:Rep W .dct0 v↔∃a,v=.ref a∧W a=.imm {cls:=.type "dict",data:=.dict #[]}∧(a==sysModules)=false:=by skip;exact fV
theorem eq__216{v:Af}:Rep W .any v:=by skip;trivial
theorem eq__80{v:Af}:Rep W (.tup vs) v↔∃(a:Addr)(o:Obj)(rvs:List Af)(n:Nat),v=.ref a∧W a=.imm o∧o.cls=.type "tuple"∧o.data=.seq (eW rvs) n∧RepL W vs rvs∧vs.length≤lim:=fV
theorem eq__94{v:Af}:Rep W (.lst vs) v↔∃(a:Addr)(o:Obj)(rvs:List Af)(n:Nat),v=.ref a∧W a=.imm o∧o.cls=.type "list"∧o.data=.seq (eW rvs) n∧RepL W vs rvs∧vs.length≤lim:=fV
theorem eq__320(e:pB σ (.ref k)=some vs):σ[k]?=some (.list vs):=by
 revert e
 show σ[k]?.bind r4=some vs→_
 cases σ[k]? with
 |none=>exact fun e=>by(injection e)
 |some c=>cases c with
  |list us=>exact fun e=>congrArg (fun z=>some (Cell.list z)) (a6 e)
  |_=>exact fun e=>by(injection e)
set_option tactic.hygienic true in
theorem eq__43(R:Rel prog w g W σ s.heap)(e:pB σ v=some vs)(rep:Rep W v rv):
  ∃a rvs,rv=.ref a∧s.heap.IsList a (eW rvs)∧RepL W vs rvs∧vs.length≤lim:=by
 intros n4 X g X R Ad s Aa prog Ab w Wd W Val v LV vs St σ Af rv
 cases v with
 |lst us=>
  rcases a6 e with rfl;(refine eq__71 (eq__94.mp rep) fun a o rvs n q1_ i c d q z=>?_;subst q1_);exact⟨a,rvs,rfl,⟨o,R.imm a o i,c,n,d⟩,q,z⟩
 |ref k=>
  have hk:=eq__320 e;rcases eq__35.mp rep with⟨a,rfl,i⟩;obtain⟨c,hc,q⟩:=R.cell a k i;rw[hk]at hc;rcases a6 hc with rfl;obtain⟨rvs,n,il,q,z⟩:_:=q;exact⟨a,rvs,rfl,eq__206 il,q,z⟩
 |_=>(injection e)
theorem eq__143:lim≤sizeLine:=by decide
theorem eq__95(h:n≤lim):((n:Nat):Int)<2^63:=by unfold lim at h;omega
end
variable{l:List Str}{bs:List Val}
section
theorem eq__590{a b:Val}{r:Bool}(e:qK a b=some r):(∃x y,a=.str x∧b=.str y∧(x==y)=r)∨∃x y,a=.int x∧b=.int y∧(x==y)=r:=by
 cases a with
 |str x=>cases b with
  |str y=>exact .inl (eq__24 x y rfl rfl (a6 e))
  |_=>(injection e)
 |int x=>cases b with
  |int y=>exact .inr (eq__24 x y rfl rfl (a6 e))
  |_=>(injection e)
 |_=>(injection e)
theorem eq__321{f:List Val→List Val→Option Bool}{a b:Val}{r:Bool}(e:(match qK a b with|some r=>some r|none=>match pB σ a,pB σ b with|some as,some bs=>f as bs|_,_=>none)=some r):
  qK a b=some r∨∃as bs,pB σ a=some as∧pB σ b=some bs∧f as bs=some r:=by
 revert e
 cases qK a b with
 |some r'=>exact .inl
 |none=>
  cases pB σ a with
  |none=>exact fun e=>by(injection e)
  |some as=>cases pB σ b with
   |none=>exact fun e=>by(injection e)
   |some bs=>exact fun e=>.inr (eq__24 as bs rfl rfl e)
theorem eq__171{a b:Val}{r:Bool}{x y:Af}(e:qK a b=some r)(ra:Rep W a x)(rb:Rep W b y):(∀A s,EqAt A s x y r)∧(∀A s,RcAt A s x y r)∧(∀A s,RcNeAt A s x y (!r))∧(x=y→r=true):=by
 intros n3 Wd W Val a Val b Bool r Af x Af y
 rcases eq__590 e with⟨x',y',rfl,rfl,rfl⟩|⟨x',y',rfl,rfl,rfl⟩
 ·rcases eq__19.mp ra with⟨t,rfl,_⟩;rcases eq__19.mp rb with⟨u,rfl,_⟩;refine eq__83 (fun A s=>nV _ _ _ _) (fun A s=>RcAt.str_str _ _ _ _) (fun A s=>RcNeAt.str_str _ _ _ _) (fun q=>?_);clear e rb right_1;(injection q with hq_;subst hq_);exact beq_self_eq_true _
 ·rcases eq__20.mp ra with⟨t,rfl⟩;rcases eq__20.mp rb with⟨u,rfl⟩;refine eq__83 (fun A s=>nY _ _ _ _) (fun A s=>RcAt.int_int _ _ _ _) (fun A s=>RcNeAt.int_int _ _ _ _) (fun q=>?_);clear e rb;(injection q with hq_;subst hq_);exact beq_self_eq_true _
theorem eq__217{f:Val→Val→Option Bool}{F:List Val→List Val→Option Bool}(h0:F [] []=some true)(h1:∀a as,F (a::as) []=some false)(h2:∀b bs,F [] (b::bs)=some false)
  (h3:∀a as b bs,F (a::as) (b::bs)=match f a b,F as bs with|some x,some y=>some (x&&y)|_,_=>none):
  ∀{as bs:List Val}{r:Bool},F as bs=some r→(as.length≠bs.length∧r=false)∨(as.length=bs.length∧∃e:Nat→Bool,(∀(j:Nat)(a b:Val),as[j]?=some a→bs[j]?=some b→f a b=some (e j))∧(dJ as.length).all e=r)
 |[],[],r,e=>by
  rw[h0]at e;rcases a6 e with rfl;exact .inr (eq__51 rfl (eq__2 (fun _=>true) (by intro j a b q;(injection q)) rfl))
 |a::as,[],r,e=>by
  rw[h1]at e;rcases a6 e with rfl;exact .inl ⟨by simp,rfl⟩
 |[],b::bs,r,e=>by
  rw[h2]at e;rcases a6 e with rfl;exact .inl ⟨by simp,rfl⟩
 |a::as,b::bs,r,e=>by
  rw[h3]at e;cases q:f a b with
  |none=>rw[q]at e;(injection e)
  |some x=>
   cases q':F as bs with
   |none=>rw[q,q']at e;(injection e)
   |some y=>
    rw[q,q']at e;(injection e with hq_;subst hq_);rcases eq__217 h0 h1 h2 h3 q' with⟨n,rfl⟩|⟨n,ee,p,pr⟩;·exact .inl ⟨by simpa using n,by simp⟩
    ·refine .inr (eq__51 (by simpa using n) (eq__2 (fun j=>match j with|0=>x|j+1=>ee j) (fun j a' b' ha hb=>?_) ?_));·cases j with
      |zero=>rcases a6 ha with rfl;rcases a6 hb with rfl;exact q
      |succ j=>
       rw[aV]at ha hb;exact p j a' b' ha hb
     ·rw[aR,List.range_succ_eq_map,cA,List.all_map];refine(?_:(x&&((dJ as.length).all fun j=>ee j))=_);simp only[←pr]
theorem eq__322{as:List Val}{f:Val→Val→Option Bool}{F:List Val→List Val→Option Bool}(h0:F [] []=some true)(h1:∀a as,F (a::as) []=some false)(h2:∀b bs,F [] (b::bs)=some false)(h3:∀a as b bs,F (a::as) (b::bs)=match f a b,F as bs with|some x,some y=>some (x&&y)|_,_=>none){r:Bool}{l b:Addr}{xs ys:List Af}(e:F as bs=some r)(hl:s.heap.IsList l xs.toArray)(hb:s.heap.IsList b ys.toArray)(ra:RepL W as xs)(rb:RepL W bs ys)(hu:A.units<cLine)(el:∀a b r x y,f a b=some r→Rep W a x→Rep W b y→EqAt A.in1 s x y r):RcAt A s (.ref l) (.ref b) r∧RcNeAt A s (.ref l) (.ref b) (!r):=by
 intros n13 X f X F X h0 X h1 X h2 X h3 Ad s Ae A Wd W LV bs LV as Bool r Addr l Addr b LVl xs LVl ys
 have' la:=ra.len
 have' lb:=rb.len
 rcases eq__217 h0 h1 h2 h3 e with⟨n,rfl⟩|⟨n,ee,p,pr⟩
 ·have hz:(xs.toArray.size !=ys.toArray.size)=true:=by simp;omega
  exact⟨fun prog w E Q h=>RcAt.lists_lengths hl hb hz hu prog w E Q h,fun prog w E Q h=>RcNeAt.lists_lengths hl hb hz hu prog w E Q h⟩
 ·have hz:xs.toArray.size=ys.toArray.size:=by simp;exact cS (eq__47 [_,_,_,_] (.le Z0 Z1) (.eq Z0 Z2) (.qe Z1 Z3) (.eq Z2 Z3) rfl la lb n) (eq__47 [_,_,_,_] (.le Z0 Z1) (.qe Z1 Z2) (.eq Z0 Z3) (.qe Z2 Z3) rfl la lb n)
  have each:∀j(q1:j<xs.toArray.size)(q2:j<ys.toArray.size),EqAt A.in1 s xs.toArray[j] ys.toArray[j] (ee j):=fun j q1 q2=>by
   have' q1':j<xs.length:=q1;have' q2':j<ys.length:=q2;obtain⟨a,ha,hra⟩:_:=ra.getR (aW q1');obtain⟨b,hb,hrb⟩:_:=rb.getR (aW q2');simpa using el a b _ _ _ (p j a b ha hb) hra hrb
  have' hr:(dJ xs.toArray.size).all ee=r:=by rw[←pr,cX,la]
  exact(bH (hr))▸⟨RcAt.lists hl hb hz hu each,RcNeAt.lists hl hb hz hu each⟩
theorem eq__591{as:List Val}{f:Val→Val→Option Bool}{F:List Val→List Val→Option Bool}(h0:F [] []=some true)(h1:∀a as,F (a::as) []=some false)(h2:∀b bs,F [] (b::bs)=some false)(h3:∀a as b bs,F (a::as) (b::bs)=match f a b,F as bs with|some x,some y=>some (x&&y)|_,_=>none){r:Bool}{xs:List Af}(e:F as bs=some r)(ra:RepL W as xs)(rb:RepL W bs xs)(el:∀a b r x,f a b=some r→Rep W a x→Rep W b x→r=true):r=true:=by
 rcases eq__217 h0 h1 h2 h3 e with⟨n,rfl⟩|⟨n,ee,p,rfl⟩
 ·exact absurd (ra.len.symm.trans rb.len) n
 ·rw[aP];intro j hj;have hj':j<as.length:=by simpa using hj
  have' ha:=aW hj';have' hb:=aW (show j<bs.length by(exact gI hj' n));refine eq__1 (ra.get ha) fun x hx q=>?_;refine eq__1 (rb.get hb) fun y hy q'=>?_;rw[hx]at hy;rcases a6 hy with rfl;exact el _ _ _ _ (p j _ _ ha hb) q q'
set_option tactic.hygienic true in
theorem eq__592(R:Rel prog w g W σ s.heap){a b:Val}{r:Bool}{x y:Af}(e:eq1 σ a b=some r)(ra:Rep W a x)(rb:Rep W b y)(hu:A.units<cLine):
  RcAt A s x y r∧RcNeAt A s x y (!r)∧EqAt A s x y r∧(x=y→r=true):=by
 intros n6 X g X R Ad s Ae A Aa prog Ab w Wd W St σ Val a Val b Bool r Af x Af y
 rcases eq__321 (f:=r7) e with q|⟨as,bs,ha,hb,e⟩
 ·refine eq__292 (eq__171 q ra rb) fun e1 e2 e3 e4=>?_;exact eq__83 (e2 A s) (e3 A s) (e1 A s) e4
 ··(refine eq__25 (eq__43 R ha ra) fun l xs q1_ hl qa _=>?_;subst q1_);(refine eq__25 (eq__43 R hb rb) fun m ys q1_ hm qb _=>?_;subst q1_);have h:=eq__322 (f:=qK) (F:=r7) rfl (fun _ _=>rfl) (fun _ _=>rfl) (fun _ _ _ _=>rfl) e hl hm qa qb hu (fun a b r x y q1 q2 q3=>(eq__171 q1 q2 q3).1 _ _);have sm:dT l=.ref m→r=true:=fun q=>by
    clear h rb;(injection q with hq_;subst hq_);rcases hl with⟨o,ho,_,n,hd⟩;obtain⟨o',ho',_,n',hd'⟩:=hm;rw[ho]at ho';rcases a6 ho' with rfl;replace hd':=(hd)▸hd';have :xs.toArray=ys.toArray:=by injection hd'
    have' this:xs=ys:=by simpa using this
    clear hd';subst this;exact eq__591 (f:=qK) (F:=r7) rfl (fun _ _=>rfl) (fun _ _=>rfl) (fun _ _ _ _=>rfl) e qa qb (fun a b r x q1 q2 q3=>(eq__171 q1 q2 q3).2.2.2 rfl)
   refine eq__83 h.1 h.2 ?_ sm;by_cases q:l=m
   ·clear h hm rb;subst q;simp only[sm rfl];exact EqAt.same _
   ·exact EqAt.of_refs q h.1
set_option tactic.hygienic true in
theorem eq__323(R:Rel prog w g W σ s.heap){a b:Val}{r:Bool}{x y:Af}(e:eqV σ a b=some r)(ra:Rep W a x)(rb:Rep W b y)(hu:A.units+2<cLine):
  RcAt A s x y r∧RcNeAt A s x y (!r):=by
 intros n6 X g X R Ad s Ae A Aa prog Ab w Wd W St σ Val a Val b Bool r Af x Af y
 rcases eq__321 (f:=rT σ) e with q|⟨as,bs,ha,hb,e⟩
 ·obtain⟨e1,e2,e3,e4⟩:_:=eq__171 q ra rb;exact⟨e2 A s,e3 A s⟩
 ·(refine eq__25 (eq__43 R ha ra) fun l xs q1_ hl qa _=>?_;subst q1_);refine eq__25 (eq__43 R hb rb) fun m ys q1_ hm qb _=>?_;subst q1_;exact eq__322 (f:=eq1 σ) (F:=rT σ) rfl (fun _ _=>rfl) (fun _ _=>rfl) (fun _ _ _ _=>rfl) e hl hm qa qb (by(exact Nat.lt_of_add_right_lt hu)) (fun a b r x y q1 q2 q3=>(eq__592 (A:=A.in1) R q1 q2 q3 (by skip;(exact Nat.lt_of_succ_lt hu))).2.2.1)
theorem eq__593{y:Str}{t:Tok}(e:qH vs=some l)(q:RepL W vs rvs):
  ∃f:Af→Bool,(∀v∈rvs.toArray,∀A s,EqAt A s v (.str y t) (f v))∧rvs.toArray.any f=l.contains y:=by
 refine eq__2 (fun v=>match v with|.str z _=>z==y|_=>false) ?_ ?_
 ·intro v hv A s;have' hv':v∈rvs:=by simpa using hv
  induction vs generalizing rvs l with
  |nil=>replace hv':=(RepL.nil.mp q)▸hv';contradiction
  |cons u us ih=>
   clear hv;(refine eq__17 (RepL.cons.mp q) fun r rs q1_ a b=>?_;subst q1_);clear q;cases u with
   |str z=>
    refine eq__1 (eq__19.mp a) fun tz q1_ _=>?_;subst q1_;rcases aJ.mp e with⟨l',e',rfl⟩;rcases bC.mp hv' with rfl|hv';·exact nV _ _ _ _
    ·exact ih e' b (by simpa using hv') hv'
   |_=>(injection e)
 ·rw[mB];induction vs generalizing rvs l with
  |nil=>rw[RepL.nil.mp q];rcases a6 e with rfl;rfl
  |cons u us ih=>
   (refine eq__17 (RepL.cons.mp q) fun r rs q1_ a b=>?_;subst q1_);cases u with
   |str z=>
    refine eq__1 (eq__19.mp a) fun tz q1_ _=>?_;subst q1_;rcases aJ.mp e with⟨l',e',rfl⟩;rw[bS,eN,ih e' b];congr 1;refine(?_:(z==y)=(y==z));by_cases h:z=y;·clear ih;subst h;rfl
    ·have' h':¬y=z:=fun q=>h q.symm;rw[beq_eq_false_iff_ne.mpr h,beq_eq_false_iff_ne.mpr h']
   |_=>(injection e)
theorem eq__594{l:List Int}{y:Int}{t:Tok}(e:sV vs=some l)(q:RepL W vs rvs):
  ∃f:Af→Bool,(∀v∈rvs.toArray,∀A s,EqAt A s v (.int y t) (f v))∧rvs.toArray.any f=l.contains y:=by
 refine eq__2 (fun v=>match v with|.int z _=>z==y|_=>false) ?_ ?_
 ·intro v hv A s;have hv':v∈rvs:=by simpa using hv
  induction vs generalizing rvs l with
  |nil=>replace hv':=(RepL.nil.mp q)▸hv';contradiction
  |cons u us ih=>
   clear hv;(refine eq__17 (RepL.cons.mp q) fun r rs q1_ a b=>?_;subst q1_);clear q;cases u with
   |int z=>
    rcases eq__20.mp a with⟨tz,rfl⟩;rcases aJ.mp e with⟨l',e',rfl⟩;rcases bC.mp hv' with rfl|hv';·exact nY _ _ _ _
    ·exact ih e' b (by simpa using hv') hv'
   |_=>(injection e)
 ·rw[mB];induction vs generalizing rvs l with
  |nil=>rw[RepL.nil.mp q];rcases a6 e with rfl;rfl
  |cons u us ih=>
   (refine eq__17 (RepL.cons.mp q) fun r rs q1_ a b=>?_;subst q1_);cases u with
   |int z=>
    rcases eq__20.mp a with⟨tz,rfl⟩;rcases aJ.mp e with⟨l',e',rfl⟩;rw[bS,eN,ih e' b];congr 1;refine(?_:(z==y)=(y==z));by_cases h:z=y;·clear ih;subst h;rfl
    ·have' h':¬y=z:=fun q=>h q.symm;rw[beq_eq_false_iff_ne.mpr h,beq_eq_false_iff_ne.mpr h']
   |_=>(injection e)
end
variable{rx ry:Af}
section
theorem eq__218{x:Str}:∀{es:List (Str×Val)}{rvs:List Af},RepL W (es.map (·.2)) rvs→
  match look x es with
  |some v=>∃rv,valueAt ((es.map (·.1)).zip rvs) x=some rv∧Rep W v rv
  |none=>valueAt ((es.map (·.1)).zip rvs) x=none
 |[],_,h=>by rw[RepL.nil.mp h];rfl
 |(y,u)::es,_,h=>by
  (refine eq__17 (RepL.cons.mp h) fun r rs q1_ a b=>?_;subst q1_);rw[eq__46];by_cases q:y=x
  ·rw[if_pos q];refine eq__2 r ?_ a;simp[valueAt,mO,q]
  ·rw[if_neg q];have' this:=eq__218 (x:=x) b;refine(?_:(valueAt ((((y,u)::es).map (·.1)).zip (r::rs)) x=valueAt ((es.map (·.1)).zip rs) x)→_) ?_;rotate_left;·
    simp[valueAt,mO,q]
   intro e;exact(e)▸this
theorem eq__172(x:Str)(t:Tok):(bI prog w).is x (.str x t)=true:=by
 simp[bI,kS]
set_option tactic.hygienic true in
theorem eq__324(R:Rel prog w g W σ s.heap){x c:Val}{r:Bool}{rc:Af}(e:uN σ x c=some r)(ra:Rep W x rx)(rb:Rep W c rc):
  (∀Q:Af→Ad→Prop,(∀tk,Q (.bool r) {s with toks:=tk})→wpAny (model prog w) A (compareOp .In rx rc) Q E s)∧
  (∀Q:Af→Ad→Prop,(∀tk,Q (.bool (!r)) {s with toks:=tk})→wpAny (model prog w) A (compareOp .NotIn rx rc) Q E s):=by
 intros n5 X g X R EQ E Ad s Ae A Aa prog Ab w Wd W St σ Af rx Val x Val c Bool r Af rc
 have lists:∀(vs:List Val)(l:List Str)(y:Str)(t:Tok)(a:Addr)(rvs:List Af),qH vs=some l→s.heap.IsList a rvs.toArray→RepL W vs rvs→
   (∀Q:Af→Ad→Prop,(∀tk,Q (.bool (l.contains y)) {s with toks:=tk})→wpAny (model prog w) A (compareOp .In (.str y t) (.ref a)) Q E s)∧
   (∀Q:Af→Ad→Prop,(∀tk,Q (.bool (!(l.contains y))) {s with toks:=tk})→wpAny (model prog w) A (compareOp .NotIn (.str y t) (.ref a)) Q E s):=fun vs l y t a rvs e il q=>by
  (refine eq__1 (eq__593 (y:=y) (t:=t) e q) fun f h1 h2=>?_);exact(bH (h2))▸⟨fun Q h=>in_listAt f il (fun v hv=>h1 v hv _ _) (h s.toks),fun Q h=>notIn_listAt f il (fun v hv=>h1 v hv _ _) (h s.toks)⟩
 unfold uN at e
 cases hi:tE x with
 |some i=>
  rw[hi]at e;rcases eq__72 hi with rfl;replace e:((pB σ c).bind sV).map (fun l=>l.contains i)=some r:=e;rcases eq__20.mp ra with⟨t,rfl⟩;cases hl:pB σ c with
  |none=>replace e:=(hl)▸e;(injection e)
  |some vs=>
   rw[hl]at e;rw[bL,aJ]at e;rcases e with⟨l,e1,rfl⟩;(refine eq__25 (eq__43 R hl rb) fun a rvs q1_ il q _=>?_;subst q1_);(refine eq__1 (eq__594 (y:=i) (t:=t) e1 q) fun f h1 h2=>?_);exact(bH (h2))▸⟨fun Q h=>in_listAt f il (fun v hv=>h1 v hv _ _) (h s.toks),fun Q h=>notIn_listAt f il (fun v hv=>h1 v hv _ _) (h s.toks)⟩
 |none=>
  rw[hi]at e;replace e:=aB.mp e;obtain⟨y,hy,e⟩:=e;clear hi;rcases eq__58 hy with rfl;refine eq__1 (eq__19.mp ra) fun t q1_ _=>?_;subst q1_;cases c with
  |str z=>
   rcases eq__19.mp rb with⟨u,rfl,_⟩;rcases a6 e with rfl;exact⟨fun Q h=>oP (h s.toks),fun Q h=>oA (h s.toks)⟩
  |ref k=>
   rcases eq__35.mp rb with⟨a,rfl,i⟩;refine eq__1 (R.cell a k i) fun c hc q=>?_;replace e:=aB.mp e;obtain⟨c',hk,e⟩:=e;rcases a6 (hc.symm.trans hk)with rfl;clear hk hc;cases c with
   |list vs=>
    obtain⟨rvs,n,il,q,_⟩:_:=q;replace e:=aJ.mp e;refine eq__1 e fun l e1 q1_=>?_;subst q1_;exact lists _ _ _ _ _ _ e1 (eq__206 il) q
   |dict es ep=>
    obtain⟨rvs,hd,q,_,hne,_⟩:=q;rcases a6 e with rfl;have' dl:=eq__218 (x:=y) q;have :(valueAt ((es.map (·.1)).zip rvs) y).isSome=(look y es).isSome:=by
     cases hx:look y es with
     |none=>rw[hx]at dl;simp only at dl;refine a9 (congrArg _ (dl)) ?_;rfl
     |some v=>rw[hx]at dl;refine eq__1 dl fun rv p _=>?_;refine a9 (congrArg _ (p)) ?_;rfl
    exact(bH (this))▸⟨fun Q h=>wpAny_in_of (eq__172 y t) hne hd.dictOf.mapOf (h _),fun Q h=>wpAny_notIn_of (eq__172 y t) hne hd.dictOf.mapOf (h _)⟩
   |_=>(injection e)
  |lst vs=>
   refine eq__25 (eq__43 R (v:=.lst _) rfl rb) fun a rvs q1_ il q _=>?_;subst q1_;replace e:=aJ.mp e;rcases e with⟨l,e1,rfl⟩;exact lists _ _ _ _ _ _ e1 il q
  |_=>(injection e)
theorem eq__325{x:Val}(e:isNone x=some b)(ra:Rep W x rx):(rx==fM)=b:=by
 intros n3 X x Wd W Bool b Af rx
 cases x with
 |none=>rw[eq__53.mp ra];rcases a6 e with rfl;rfl
 |bool c=>rw[eq__63.mp ra];rcases a6 e with rfl;rfl
 |int i=>rcases eq__20.mp ra with⟨t,rfl⟩;rcases a6 e with rfl;rfl
 |str i=>refine eq__1 (eq__19.mp ra) fun t q1_ _=>?_;subst q1_;rcases a6 e with rfl;rfl
 |tup vs=>refine eq__120 (eq__80.mp ra) fun a o rvs n q1_ _=>?_;subst q1_;rcases a6 e with rfl;rfl
 |lst vs=>refine eq__120 (eq__94.mp ra) fun a o rvs n q1_ _=>?_;subst q1_;rcases a6 e with rfl;rfl
 |dct0=>refine eq__1 (eq__170.mp ra) fun a q1_ _=>?_;subst q1_;rcases a6 e with rfl;rfl
 |ref k=>refine eq__1 (eq__35.mp ra) fun a q1_ _=>?_;subst q1_;rcases a6 e with rfl;rfl
 |imm v=>(injection e)
 |any=>(injection e)
 |clo d vs=>skip;(refine eq__120 ra fun a o fd rvs q1_ _=>?_;subst q1_);rcases a6 e with rfl;rfl
theorem eq__219(R:Rel prog w g W σ s.heap){op:CmpOp}{x y:Val}{r:Bool}(e:qN σ op x y=some r)(ra:Rep W x rx)(rb:Rep W y ry)(hu:A.units+2<cLine)(h:∀tk,Q (.bool r) {s with toks:=tk}):wpAny (model prog w) A (compareOp op rx ry) Q E s:=by
 intros n7 X R X op X e X ra X rb X hu EQ E Ad s Ae A EQ Q Aa prog Ab w Wd W St σ Ac g Af rx Af ry Val x Val y Bool r
 cases op with
 |Eq=>exact(eq__323 R e ra rb hu).1 _ _ _ _ (h _)
 |NotEq=>
  refine eq__1 (aJ.mp e) fun b e' q1_=>?_;subst q1_;exact(eq__323 R e' ra rb hu).2 _ _ _ _ (h _)
 |Lt=>
  rcases aB.mp e with⟨i,hi,e⟩;rcases aB.mp e with⟨j,hj,e⟩;rcases eq__72 hi with rfl;rcases eq__72 hj with rfl;rcases eq__20.mp ra with⟨t,rfl⟩;rcases eq__20.mp rb with⟨u,rfl⟩;rcases a6 e with rfl;exact oQ (h _)
 |Gt=>
  rcases aB.mp e with⟨i,hi,e⟩;rcases aB.mp e with⟨j,hj,e⟩;rcases eq__72 hi with rfl;rcases eq__72 hj with rfl;rcases eq__20.mp ra with⟨t,rfl⟩;rcases eq__20.mp rb with⟨u,rfl⟩;rcases a6 e with rfl;exact oR (h _)
 |GtE=>
  rcases aB.mp e with⟨i,hi,e⟩;rcases aB.mp e with⟨j,hj,e⟩;rcases eq__72 hi with rfl;rcases eq__72 hj with rfl;rcases eq__20.mp ra with⟨t,rfl⟩;rcases eq__20.mp rb with⟨u,rfl⟩;rcases a6 e with rfl;exact oS (h _)
 |In=>exact(eq__324 R e ra rb).1 _ h
 |NotIn=>
  refine eq__1 (aJ.mp e) fun b e' q1_=>?_;subst q1_;exact(eq__324 R e' ra rb).2 _ h
 |Is=>
  refine eq__1 (aB.mp e) fun u hn e'=>?_;clear e;rcases eq__316 hn with rfl;rcases eq__53.mp rb with rfl;exact is_none ((eq__325 e' ra)▸h _)
 |IsNot=>
  refine eq__1 (aB.mp e) fun u hn e1=>?_;clear e;refine eq__1 (aJ.mp e1) fun b e' q1_=>?_;subst q1_;rcases eq__316 hn with rfl;rcases eq__53.mp rb with rfl;exact isNot_none ((eq__325 e' ra)▸h _)
 |_=>(injection e)
theorem eq__220(R:Rel prog w g W σ s.heap){x:Val}(e:pN σ x=some b)(ra:Rep W x rx){Q:Bool→Ad→Prop}(h:∀tk,Q b {s with toks:=tk}):
  wpAny (model prog w) A (truthy rx) Q E s:=by
 intros n7 X g X E X R X Q Ad s Ae A Aa prog Ab w Wd W St σ Bool b Af rx Val x
 have viaList:∀vs,pB σ x=some vs→b=!vs.isEmpty→wpAny (model prog w) A (truthy rx) Q E s:=fun vs hl hb=>by
  refine eq__25 (eq__43 R hl ra) fun a rvs q1_ il q z=>?_;subst q1_;have' hlen:rvs.toArray.size=vs.length:=q.len;refine wpAny_truthy_list il (by rw[hlen];exact eq__95 z) ?_;refine(?_:(rvs.toArray.isEmpty=vs.isEmpty)→_) ?_;rotate_left;·
   rw[eO];simp only[kM,cK];have :=q.len;constructor;·clear hlen q il;rintro rfl;exact eJ.mp this.symm
   ·clear hlen z q hb hl;rintro rfl;exact eJ.mp this
  intro this;rw[this,←hb];exact h _
 have rest:(pB σ x).map (fun vs=>!vs.isEmpty)=some b→wpAny (model prog w) A (truthy rx) Q E s:=fun e=>by
  clear h;refine eq__1 (aJ.mp e) fun vs e' q1_=>?_;subst q1_;exact viaList vs e' rfl
 clear viaList;cases x with
 |none=>rw[eq__53.mp ra];rcases a6 e with rfl;exact nZ (h _)
 |bool c=>rw[eq__63.mp ra];rcases a6 e with rfl;exact lT (h _)
 |int i=>rcases eq__20.mp ra with⟨t,rfl⟩;rcases a6 e with rfl;exact o7 (h _)
 |tup vs=>
  refine eq__71 (eq__80.mp ra) fun a o rvs n q1_ i c d q z=>?_;subst q1_;rcases a6 e with rfl;have' hlen:rvs.toArray.size=vs.length:=q.len;refine nJ (items:=rvs.toArray) ⟨o,R.imm a o i,c,n,d⟩ (by rw[hlen];exact eq__95 z) ?_;have :rvs.toArray.isEmpty=vs.isEmpty:=by
   rw[eO];simp only[kM,cK];have' this:=q.len;constructor;·clear hlen q d;rintro rfl;exact eJ.mp this.symm
   ·rintro rfl;exact eJ.mp this
  exact(this)▸h _
 |dct0=>
  refine eq__76 (eq__170.mp ra) fun a q1_ i ne=>?_;subst q1_;rcases a6 e with rfl;refine wpAny_truthy_dict (knd:=bI prog w) (kvs:=[]) ne ⟨_,#[],0,R.imm a _ i,⟨rfl,rfl,rfl⟩,rfl,?_,.nil,by decide⟩ (by simp) (h _);intro e he;simp at he
 |_=>exact rest e
end
variable{T:Tab}{op:Operator}
section
theorem eq__173(R:Rel prog w g W σ s.heap){tk:Nat}(hs:mkList T pos vs σ≠.stuck)(q:RepL W vs rvs)(nn:s.heap.get? a=none)(k:∀b o,s.heap.get? b=some o→h'.get? b=some o)(e:h'.get? a=some (tV rvs n)):
  Post prog w g Rep (mkList T pos vs σ) W s (.ref a) {s with heap:=h',toks:=tk}:=by
 intros n6 X R Nat n Ad s Aa prog Ab w Addr a Wd W LV vs Ac h' LVl rvs St σ Ac g Pos pos Tab T Nat tk
 unfold mkList at hs⊢
 by_cases hz:vs.length≤lim
 ·rw[if_pos hz]at hs⊢;by_cases hp:T.chg pos=true;·rw[if_pos hp];refine eq__56 (R.newCell (c:=.list vs) nn k ⟨_,e⟩ ⟨rvs,n,e,q.mono (Wd.put_le _ (R.freeAt nn)),hz⟩) fun R' x l=>?_;exact Post.at x R' (eq__35.mpr ⟨a,rfl,Wd.put_self ..⟩)
  ·rw[if_neg hp];refine eq__56 (R.newImm nn k e) fun R' x l=>?_;exact Post.at x R' (eq__94.mpr (eq__67 a _ rvs n ⟨rfl,Wd.put_self ..,rfl,rfl,q.mono l,hz⟩))
 ·rw[if_neg hz]at hs;exact absurd rfl hs
theorem eq__221(R:Rel prog w g W σ s.heap){n:Nat}{tk:Nat}(hs:mkList T pos vs σ≠.stuck)(q:RepL W vs rvs):
  Post prog w g Rep (mkList T pos vs σ) W s (.ref s.heap.objs.size) {s with heap:=s.heap.push {cls:=.type "list",data:=.seq rvs.toArray n},toks:=tk}:=
 eq__173 R hs q (eq__48 _) (eq__138 _) (bO _ rfl)
theorem eq__595:∀{vs:List Val}{l:List Str},qH vs=some l→∀v∈vs,∃x,v=.str x:=by
 intro vs
 induction vs with
 |nil=>intro l _ v h;contradiction
 |cons a r ih=>
  intro l e v hv;have key:∃x l',a=.str x∧qH r=some l':=by
   clear hv;cases a with
   |str x=>
    have' e:(qH r).map (x::·)=some l:=e;obtain⟨l',e',_⟩:_:=aJ.mp e;exact eq__28 x l' rfl e'
   |_=>(injection e)
  clear e;(refine eq__31 key fun x l' q1_ e'=>?_;subst q1_);rcases bC.mp hv with rfl|hv;·exact⟨x,rfl⟩
  ·exact ih e' v hv
theorem eq__596{a b:Val}{f:Int→Int→Out St Val}(h:tZ a b f≠.stuck):∃x y,a=.int x∧b=.int y∧tZ a b f=f x y:=by
 cases a with
 |int x=>
  cases b with
  |int y=>exact eq__24 x y rfl rfl rfl
  |_=>exact absurd rfl h
 |_=>exact absurd rfl h
theorem eq__144{c:Prop}[Decidable c]{r:Out St Val}(h:(if c then r else .stuck)≠.stuck):c∧(if c then r else .stuck)=r:=by
 by_cases hc:c
 ·exact⟨hc,if_pos hc⟩
 ·exact absurd (if_neg hc) h
theorem eq__145{x y:Val}{f:Int→Int→Out St Val}(ra:Rep W x rx)(rb:Rep W y ry)(hs:tZ x y f≠.stuck)(h:∀a b t u,f a b≠.stuck→wpAny (model prog w) A (binaryOp op (.int a t) (.int b u)) (Post prog w g Rep (f a b) W s) E s):wpAny (model prog w) A (binaryOp op rx ry) (Post prog w g Rep (tZ x y f) W s) E s:=by
 refine eq__17 (eq__596 hs) fun a b q1_ q2_ e=>?_;subst q1_;subst q2_
 rw[e]at hs⊢
 rcases eq__20.mp ra with⟨t,rfl⟩
 obtain⟨u,rfl⟩:_:=eq__20.mp rb
 exact h a b t u hs
theorem eq__597(R:Rel prog w g W σ s.heap){x:Str}{t:Tok}{y:Val}(hs:vS x y σ≠.stuck)(rb:Rep W y ry):wpAny (model prog w) A (binaryOp .Mod (.str x t) ry) (Post prog w g Rep (vS x y σ) W s) E s:=by
 intros n4 X R X y EQ E Ad s Ae A Aa prog Ab w Wd W St σ Ac g Af ry Str x Tok t
 cases y with
 |str y=>
  obtain⟨hb,e⟩:_:=eq__144 hs;refine eq__1 (eq__19.mp rb) fun u q1_ hy=>?_;subst q1_;rw[show vS x (.str y) σ=.ok .any σ from e];exact eq__580 hb hy fun z t' k=>Post.same R eq__216
 |tup vs=>
  obtain⟨⟨hx,hv,hl⟩,e⟩:=eq__144 hs;rw[show vS x (.tup vs) σ=.ok .any σ from e];(refine eq__71 (eq__80.mp rb) fun a o rvs n q1_ i c d q z=>?_;subst q1_);rcases bM.mp hv with⟨l,hv⟩;have' all:=eq__595 hv;clear hv rb e hs;obtain⟨x1,x2,x3,rfl⟩:∃x1 x2 x3,vs=[x1,x2,x3]:=by
   rcases vs with _|⟨x1,_|⟨x2,_|⟨x3,_|⟨_,_⟩⟩⟩⟩;all_goals first|(simp at hl;done)|skip
   exact eq__34 x1 x2 x3 rfl
  rcases all x1 ((aO ..))with⟨s1,rfl⟩;rcases all x2 ((aU _ (aO ..)))with⟨s2,rfl⟩;rcases all x3 (by simp)with⟨s3,rfl⟩;obtain⟨r1,rs,rfl,p1,q⟩:=RepL.cons.mp q;obtain⟨r2,rs,rfl,p2,q⟩:=RepL.cons.mp q;obtain⟨r3,rs,rfl,p3,q⟩:=RepL.cons.mp q;rcases RepL.nil.mp q with rfl;refine eq__1 (eq__19.mp p1) fun t1 q1_ l1=>?_;subst q1_;clear q;refine eq__1 (eq__19.mp p2) fun t2 q1_ l2=>?_;subst q1_;clear q;(refine aM fun hG_=>?_;clear q;refine eq__1 (eq__19.mp p3) fun t3 q1_ l3=>?_;subst q1_;refine hG_ ?_;clear hG_);exact eq__581 hx ⟨o,R.imm a o i,c,n,d⟩ l1 l2 l3 fun z t' k=>Post.same R eq__216
 |_=>exact absurd rfl hs
theorem eq__598(R:Rel prog w g W σ s.heap){x y:Val}(hs:vT T pos x y σ≠.stuck)(ra:Rep W x rx)(rb:Rep W y ry):
  wpAny (model prog w) A (binaryOp .Add rx ry) (Post prog w g Rep (vT T pos x y σ) W s) E s:=by
 intros n4 X R EQ E Ad s Ae A Aa prog Ab w Wd W St σ Ac g Pos pos Af rx Af ry Tab T Val x Val y
 unfold vT at hs⊢
 cases hl:pB σ x with
 |none=>rw[hl]at hs;exact absurd rfl hs
 |some as=>
  cases hm:pB σ y with
  |none=>rw[hl,hm]at hs;exact absurd rfl hs
  |some bs=>
   rw[hl,hm]at hs;dsimp only at hs⊢;(refine eq__25 (eq__43 R hl ra) fun a xs q1_ ha qa za=>?_;subst q1_);(refine eq__25 (eq__43 R hm rb) fun b ys q1_ hb qb zb=>?_;subst q1_);obtain⟨⟨cls,dd,data,sl⟩,ho,hc,n,hd⟩:=id ha;obtain⟨⟨cls2,dd2,data2,sl2⟩,ho2,hc2,n2,hd2⟩:_:=id hb;dsimp only at hc hd hc2 hd2;subst hc hd hc2 hd2;refine concat_meets ⟨_,ho,rfl⟩ ⟨_,ho2,rfl⟩ noFill_list_add seq_list_add PySem.F.slot_list_add PySem.F.entry_list_add (PySem.F.args_list_add_2 _ _) (list_addW a b xs.toArray ys.toArray n n2 dd dd2 sl sl2 ?_) (eq__30 ho ho2 ?_)
   ·have' this:=qa.len;have' this:=qb.len;have' this:=eq__143;have' h2:lim=1000000:=rfl;have' h3:2*lim≤sizeLine:=by decide
    simp only[cX];omega
   ·rw[show xs.toArray++ys.toArray=(xs++ys).toArray by simp];exact eq__221 R hs (qa.append qb)
theorem eq__599(R:Rel prog w g W σ s.heap){x y:Val}(hs:sQ T pos op x y σ≠.stuck)(ra:Rep W x rx)(rb:Rep W y ry):
  wpAny (model prog w) A (binaryOp op rx ry) (Post prog w g Rep (sQ T pos op x y σ) W s) E s:=by
 intros n5 X R X op EQ E Ad s Ae A Aa prog Ab w Wd W St σ Ac g Pos pos Af rx Af ry Tab T Val x Val y
 cases op with
 |Add=>
  have key:(∀r:Out St Val,tZ x y (fun x y=>.ok (.int (x+y)) σ)=r→sQ T pos .Add x y σ=r)∨sQ T pos .Add x y σ=vT T pos x y σ:=by clear hs ra;cases x<;>first|exact .inl fun _ e=>e|exact .inr rfl
  refine cD (key) (fun e=>?_) fun e=>?_;·rw[e _ rfl]at hs⊢;exact eq__145 ra rb hs fun a b t u _=>oH (Post.same R (eq__20.mpr ⟨_,rfl⟩))
  ·rw[e]at hs⊢;exact eq__598 R hs ra rb
 |Sub=>exact eq__145 ra rb hs fun a b t u _=>oK (Post.same R (eq__20.mpr ⟨_,rfl⟩))
 |FloorDiv=>
  refine eq__145 ra rb hs fun a b t u hs=>?_;obtain⟨hb,e⟩:_:=eq__144 hs;rw[e];refine nK (by omega) ?_ (.inl (PyProof.noPylong_of_log2 ?_))
  ·rw[Int.fdiv_eq_ediv_of_nonneg _ (by omega)];exact Post.same R (eq__20.mpr ⟨_,rfl⟩)
  ·have' this:b.natAbs<2^40:=by omega
   exact gG ((Nat.log2_lt (by omega)).mpr this) (by decide)
 |Mod=>
  have key:(∃z,x=.str z)∨sQ T pos .Mod x y σ=tZ x y fun x y=>if 0<y then .ok (.int (x%y)) σ else .stuck:=by clear hs ra;cases x<;>first|exact .inl ⟨_,rfl⟩|exact .inr rfl
  rcases key with⟨z,rfl⟩|e;·refine eq__1 (eq__19.mp ra) fun t q1_ _=>?_;subst q1_;exact eq__597 R hs rb
  ·rw[e]at hs⊢;refine eq__145 ra rb hs fun a b t u hs=>?_;obtain⟨hb,e⟩:_:=eq__144 hs;rw[e];refine oM (by(exact cW (Int.ne_of_lt hb))) ?_;rw[Int.fmod_eq_emod_of_nonneg _ (by(exact Int.le_of_lt hb))];exact Post.same R (eq__20.mpr ⟨_,rfl⟩)
 |Pow=>
  refine eq__145 ra rb hs fun a b t u hs=>?_;obtain⟨⟨rfl,h0,h8⟩,e⟩:_:=eq__144 hs;rw[e];exact nE h0 (by omega) (by decide) (Post.same R (eq__20.mpr ⟨_,rfl⟩))
 |_=>exact absurd rfl hs
end
variable{p:Pos}{ro:Af}
section
theorem eq__600(h:n≤lim):n+2≤sizeLine:=by
 have' h2:lim+2≤sizeLine:=by decide
 exact eq__29 [_,_,_] (.le (.a Z0 (.n 2)) Z1) (.le Z0 Z2) (.le (.a Z2 (.n 2)) Z1) rfl h h2
theorem eq__106(h:n≤lim):n≤sizeLine:=aL h eq__143
theorem eq__601{value slice:Ag}(ns:∀o i,subscripted slice false o i=operate [o,i] (getItem o i))(h:wpAny (model prog w) A (eval value env) (fun o s₁=>wpAny (model prog w) A (eval slice env) (fun i s₂=>SubscriptOn (model prog w) A o i Q E s₂) E s₁) E s):
  wpAny (model prog w) A (eval (.Subscript value slice pos) env) Q E s:=by
 skip
 refine a8 (aE h (fun o s₁ h₁=>a8 (c6 (aE h₁ (fun i s₂ h₂=>a8 (cP ?_)) fun _ _ x=>x))) fun _ _ x=>x)
 obtain⟨T,id,hl,hT,hg⟩:_:=h₂
 exact tail_any hT hl hg (ns o i)
theorem eq__602{value:Ag}{lo hi:Option Ag}(h:wpAny (model prog w) A (eval value env) (fun o s₁=>wpAny (model prog w) A (evalPart lo env) (fun vl s₂=>wpAny (model prog w) A (evalPart hi env) (fun vu s₃=>
   ∃l items lo hi,o=.ref l∧s₃.heap.IsList l items∧items.size≤sizeLine∧IsPart vl lo∧IsPart vu hi∧
    Q (.ref (s₃.heap.objs.size+1)) {s₃ with heap:=(s₃.heap.push {cls:=.type "slice",data:=.fields #[vl,vu,.none]}).push {cls:=.type "list",data:=.seq (slicePick items lo hi none)}}) E s₂) E s₁) E s):
  wpAny (model prog w) A (eval (.Subscript value (.Slice lo hi none p) pos) env) Q E s:=by
 intros n2 X s EQ E Ae A EQ Q Aa prog Ab w Pos pos Ai env Pos p Ag value OE lo OE hi
 skip
 refine a8 (aE h (fun o s₁ h₁=>a8 (c6 (wpAny_Slice (aE h₁ (fun vl s₂ h₂=>aE h₂ (fun vu s₃ h₃=>?_) fun _ _ e=>e) fun _ _ e=>e)))) fun _ _ x=>x)
 clear h₂ h₁;(refine eq__71 h₃ fun l items lo hi q1_ hl hsz pl pu hQ=>?_;subst q1_)
 skip
 refine aS (a8 (cP ?_))
 refine tail_any (hl.push _).typeIs slot_list_getitem.lookup ?_ rfl
 refine wpAny_getItem_list_slice (hl.push _) (oU ..) pl pu .none (by decide) ?_ hsz
 simp only[gO]
 exact hQ
set_option tactic.hygienic true in
theorem eq__603(R:Rel prog w g W σ s.heap){o i:Val}{ri:Af}(e:r8 σ o i=some v)(ra:Rep W o ro)(rb:Rep W i ri)(h:∀rv tk,Rep W v rv→Q rv {s with toks:=tk}):
  SubscriptOn (model prog w) A ro ri Q E s:=by
 intros n6 X g X R X e X ra X rb EQ E Ad s Ae A EQ Q Aa prog Ab w Wd W Val v St σ Af ro Val o Val i Af ri
 have viaList:∀(k:Int)(t:Tok)(a:Addr)(vs:List Val)(rvs:List Af),0≤k→vs[k.toNat]?=some v→s.heap.IsList a rvs.toArray→RepL W vs rvs→vs.length≤lim→SubscriptOn (model prog w) A (.ref a) (.int k t) Q E s:=
  fun k t a vs rvs h0 hk il q z=>by
   refine eq__1 (q.get hk) fun rv hr rep=>?_;have' hlt:k.toNat<vs.length:=(bA.mp hk).1;have' this:=eq__95 z;exact⟨"list",_,slot_list_getitem.lookup,il.typeIs,wpAny_getItem_list il h0 (by omega) (by simpa using hr) (h rv s.toks rep)⟩
 unfold r8 at e
 cases hi:tE i with
 |some k=>
  rw[hi]at e;rcases eq__72 hi with rfl;rcases eq__20.mp rb with⟨t,rfl⟩;replace e:=eq__87 (show(if 0≤k then _ else none)=some v from e);have h0:=e.1;replace e:=e.2;cases ht:vF o with
  |some vs=>
   rw[ht]at e;rcases eq__210 ht with rfl;replace e:vs[k.toNat]?=some v:=e;(refine eq__71 (eq__80.mp ra) fun a ob rvs n q1_ im c d q z=>?_;subst q1_);obtain⟨rv,hr,rep⟩:_:=q.get e;have hlt:k.toNat<vs.length:=(bA.mp e).1;have' this:=eq__95 z;have' hl:=q.len;have' it:IsTup s.heap a rvs.toArray:=⟨ob,R.imm a ob im,c,n,d⟩;refine⟨"tuple",_,PySem.F.slot_tuple_getitem.lookup,⟨ob,R.imm a ob im,c⟩,nF it (j:=k.toNat) (by omega) (by omega) ?_ (by simpa using hr) (h rv s.toks rep)⟩;unfold seqIndex?;skip;have' this:¬k<0:=by omega
   simp[this];omega
  |none=>
   rw[ht]at e;cases hx:s4 o with
   |some x=>
    rw[hx]at e;clear ht;rcases eq__58 hx with rfl;refine eq__1 (eq__19.mp ra) fun u q1_ z=>?_;subst q1_;replace e:(x.cps[k.toNat]?).map (fun c=>Val.str ⟨#[c]⟩)=some v:=e;rw[aJ]at e;clear viaList;obtain⟨c,hc,rfl⟩:=e;refine(?_:(k.toNat<x.cps.size)→_) ?_;rotate_left;·
     rw[fR]at hc;exact hc.1
    intro hlt;have' hl:x.length=x.cps.size:=rfl;have' this:=eq__95 z;refine⟨"str",_,PySem.F.slot_str_getitem.lookup,e8 _ _ _,o0 (c:=c) ?_ ?_ (h _ _ (eq__19.mpr (eq__2 _ rfl ?_)))⟩
    ·simp only[fO,decide_eq_false_iff_not];omega
    ·have e1:seqIndex? k x.length=some k.toNat:=by
      unfold seqIndex?;have' this:¬k<0:=by omega
      simp[this];omega
     exact(e1)▸hc
    ·refine(?_:1≤lim);decide
   |none=>
    rw[hx]at e;refine eq__1 (aB.mp e) fun vs hl e=>?_;(refine eq__25 (eq__43 R hl ra) fun a rvs q1_ il q z=>?_;subst q1_);exact viaList _ t a vs rvs h0 e il q z
 |none=>
  rw[hi]at e;(refine aM fun hG_=>?_;refine eq__1 (aB.mp e) fun k hk e=>?_;refine eq__1 (aB.mp e) fun x hx e=>?_;refine eq__1 (aB.mp e) fun es hd e3=>?_;rcases eq__317 hd with⟨ep,hk'⟩;refine hG_ ?_;clear hG_);rcases eq__141 hk with rfl;clear e hi;rcases eq__58 hx with rfl;replace hk:=hk';refine eq__1 (eq__35.mp ra) fun a q1_ i=>?_;subst q1_;refine eq__1 (eq__19.mp rb) fun t q1_ _=>?_;subst q1_;refine eq__1 (R.cell a k i) fun c hc q=>?_;rw[hk]at hc;(injection hc with hq_;subst hq_);obtain⟨rvs,hd,q,_,hne,_⟩:_:=q;have' dl:=eq__218 (x:=x) q;rw[e3]at dl;obtain⟨rv,p,rep⟩:_:=dl;exact⟨"dict",_,PySem.F.slot_dict_getitem.lookup,hd.dictOf.typeIs,wpAny_getItem_of (eq__172 x t) hd.dictOf.mapOf p (h _ _ rep)⟩
theorem eq__326(i:Int)(n:Nat)(h:0≤i):max 0 (min (if i<0 then i+n else i) n)=((min i.toNat n:Nat):Int):=by
 rcases jM h with⟨k,rfl⟩
 rw[if_neg (Int.not_lt.mpr h),dO]
 refine cD (Nat.le_total k n) (fun q=>?_) fun q=>?_
 ·rw[jR q,Int.min_eq_left (o4.mpr q),mC h]
 ·rw[j5 q,Int.min_eq_right (o4.mpr q),mC (lG n)]
theorem eq__604(items:List Af)(lo hi:Option Int)(h1:lo.all (0≤·)=true)(h2:hi.all (0≤·)=true):
  slicePick items.toArray lo hi none=((items.take ((hi.map dL).getD items.length)).drop ((lo.map dL).getD 0)).toArray:=by
 intros n4 X lo X hi LVl items
 have key:∀a b:Nat,a≤items.length→b≤items.length→sliceBounds lo hi none items.toArray.size=((a:Int),(b:Int),1)→slicePick items.toArray lo hi none=((items.take b).drop a).toArray:=fun a b ha hb e=>by
  unfold slicePick;rw[e];simp only[sliceRange_one,pick_run];simp only[List.drop_take]
 have lo0:∃a:Nat,a≤items.length∧(lo.elim (0:Int) (fun i=>max 0 (min (if i<0 then i+items.length else i) items.length))=(a:Int))∧∀l:List Af,l.length≤items.length→l.drop a=l.drop ((lo.map dL).getD 0):=by
  clear key;cases lo with
  |none=>exact eq__7 0 (bN _) rfl (fun _ _=>rfl)
  |some i=>
   have h0:0≤i:=by simpa using h1
   refine eq__7 (min i.toNat items.length) (j6 _ _) ?_ (fun l hl=>?_);·exact eq__326 _ _ h0
   ·simp only[aD,eF];by_cases q:i.toNat≤items.length;·rw[jR q]
    ·rw[j5 (gY q),jX hl,jX (aL hl (gY q))]
 refine(?_:(∃b:Nat,b≤items.length∧(hi.elim (items.length:Int) (fun i=>max 0 (min (if i<0 then i+items.length else i) items.length))=(b:Int))∧items.take b=items.take ((hi.map dL).getD items.length))→_) ?_
 rotate_left
 ·
  clear key;cases hi with
  |none=>exact eq__7 items.length (aN _) rfl rfl
  |some i=>
   have h0:0≤i:=by simpa using h2
   refine eq__7 (min i.toNat items.length) (j6 _ _) ?_ ?_;·exact eq__326 _ _ h0
   ·simp only[aD,eF];by_cases q:i.toNat≤items.length;·rw[jR q]
    ·rw[j5 (gY q),gW (aN _),gW (gY q)]
 intro hi0
 (refine eq__76 lo0 fun a ha ea da=>?_)
 obtain⟨b,hb,eb,tb⟩:=hi0
 rw[key a b ha hb ?_,da _ (by rw[bP];exact j6 _ _),tb]
 skip
 skip
 clear key;cases lo<;>cases hi<;>exact o5 ea (o5 eb rfl)
theorem RepL.take:∀{vs:List Val}{rs:List Af}(n:Nat),RepL W vs rs→RepL W (vs.take n) (rs.take n)
 |[],_,n,h=>by simp only[RepL.nil.mp h];simp[RepL.nil]
 |_::_,_,0,_=>by simp[RepL.nil]
 |_::_,_,n+1,h=>by
  (refine eq__17 (RepL.cons.mp h) fun r rs' q1_ a b=>?_;subst q1_);exact RepL.cons.mpr (eq__24 r (rs'.take n) rfl a (b.take n))
theorem RepL.drop:∀{vs:List Val}{rs:List Af}(n:Nat),RepL W vs rs→RepL W (vs.drop n) (rs.drop n)
 |[],_,n,h=>by simp only[RepL.nil.mp h];simp[RepL.nil]
 |_::_,_,0,h=>h
 |_::_,_,n+1,h=>by
  refine eq__17 (RepL.cons.mp h) fun r rs' q1_ a b=>?_;subst q1_;exact b.drop n
theorem eq__327{p:Val}{q:Option Int}{rp:Af}(e:sC p=some q)(r:Rep W p rp):IsPart rp q:=by
 cases p with
 |none=>rcases a6 e with rfl;exact(eq__53.mp r)▸.none
 |int i=>rcases a6 e with rfl;rcases eq__20.mp r with⟨t,rfl⟩;exact .int _ _
 |_=>(injection e)
end
structure Kit(K:Frag)(T:Tab):Prop where
 get:∀C x,T.hasAttr C x=true→plainGet K C x=true∧hasDictIn K C=true∧∃attr,findIn K (.ref C) x=some attr∧noGet K attr=true
 gete:∀C x,T.hasAttrE C x=true→findIn K (.ref C) "__getattribute__"=some (some (.builtin "BaseException.__getattribute__"))∧findIn K (.ref C) "__getattr__"=some none∧mroIn K C (.type "BaseException")=some true∧hasDictIn K C=true∧∃attr,findIn K (.ref C) x=some attr∧noGet K attr=true
 set:∀C x,T.hasAttr C x=true→(T.meth.lookup C).isSome=true→findIn K (.ref C) "__setattr__"=some (some (.builtin "object.__setattr__"))∧plainOver K C=true∧takerIn K C x=some none
 meth:∀C x f,(T.meth.lookup C).bind (look x)=some f→plainGet K C x=true∧findIn K (.ref C) x=some (some (.ref f))∧isFn K (.ref f)=true
 stat:∀C x f,(T.stat.lookup C).bind (look x)=some f→plainGet K C x=true∧hasDictIn K C=true∧∃p rest mc,findIn K (.ref C) x=some (some (.ref p))∧typeIn K (.ref p)=some (.type "staticmethod")∧
  specialIn K (.ref p) "__get__"=some (some (.builtin "staticmethod.__get__"))∧takesIn K (.ref p)=some false∧copiedNames.contains x=false∧recIn K p "staticmethod"=some (.ref f::rest)∧
  specialIn K (.ref C) "__getattribute__"=some (some (.builtin "type.__getattribute__"))∧readsIn K C mc=true∧findCls K (.ref C) mc x=some (.get (.builtin "staticmethod.__get__") (.ref p) .none (.ref C))
 isStr:∀C,(T.meth.lookup C).isSome=true→kin_notT K C "str"=true∧plainGet K C "__class__"=true∧hasDictIn K C=true∧findIn K (.ref C) "__class__"=some (some (.builtin "object.__class__"))∧
  specialIn K (.builtin "object.__class__") "__get__"=some (some (.builtin "getset_descriptor.__get__"))∧takesIn K (.builtin "object.__class__")=some true∧mroIn K C (.type "object")=some true
 keep:∀a,(T.call a).isSome=true∨(T.make a).isSome=true→keepIn K (.ref a)=true
variable{K:Frag}{C:Addr}{name:Str}{ep:Nat}{expr:Bool}
section
theorem Rel.kin(R:Rel prog w g W σ s.heap)(X:K.In g):K.In s.heap:=X.keeps R.stays
theorem eq__328{o:Obj}{es:Array DictEntry}{x:Str}(hd:o.data=.dict es ep)(sk:StrKeys es)(f:∀x,nsFind es x=m x):lookIn x o=some (m x):=by
 unfold lookIn
 rw[hd]
 dsimp only
 have' e:=f x
 unfold nsFind findBy at e
 rw[←lH]at e
 cases q:es.toList.find? (fun e=>e.key.isStr x)with
 |some en=>rw[q]at e;rw[←e];rfl
 |none=>
  rw[q]at e;have :es.toList.any (·.refKey)=false:=by
   rw[lU];intro en hen;(refine eq__103 (sk en (by simpa using hen)) fun n t hk=>?_);simp[mD,hk]
  rw[this,←e];rfl
theorem eq__174(q:CellRel prog w W s.heap k a (.inst C fs)):
  ∃d od m,W d=.dic k∧s.heap.get? a=some (instObj C d)∧s.heap.get? d=some od∧InstAt s.heap a (instObj C d) C (some od)∧(∀x,lookIn x od=some (m x))∧FldRel W fs m:=by
 intros n1 Ad s Aa prog Ab w Addr a Wd W Nat k LD fs Addr C
 obtain⟨d,m,hd,ha,⟨es,ep,ho,sk,f,_⟩,hf⟩:_:=q
 exact eq__298 d _ m hd ha ho ⟨ha,rfl,rfl,ho⟩ (fun x=>eq__328 rfl sk f) hf
theorem eq__605(R:Rel prog w g W σ s.heap)(X:K.In g)(KT:Kit K T){x:Str}(q:CellRel prog w W s.heap k a (.inst C fs))(hx:look x fs=some v)(hT:T.hasAttr C x=true)(h:∀rv tk,Rep W v rv→Q rv {s with toks:=tk}):wpAny (model prog w) A (getAttr (.ref a) x expr) Q E s:=by
 (refine eq__202 (eq__174 q) fun d od m _ _ _ I hl hf=>?_)
 obtain⟨hg,hd,attr,ha,hn⟩:_:=KT.get C x hT
 have' this:=hf x
 rw[hx]at this
 refine eq__76 this fun rv e rep hi=>?_
 exact get_value (R.kin X) I (fX hg).1 (findObj_own hd ha hn (by rw[hl x,e])) hi (h rv _ rep)
theorem eq__606(self:Af):bindSpecial (.builtin "BaseException.__getattribute__") self=pure (.builtin "BaseException.__getattribute__",[self]):=by kernel_rfl
theorem eq__607:plainId "BaseException.__getattribute__"=true:=by decide+kernel
theorem eq__608:builtinKind "BaseException.__getattribute__"=some .slot:=by decide+kernel
theorem eq__609:splitId "BaseException.__getattribute__"=some ("BaseException","__getattribute__"):=by decide+kernel
theorem eq__610{x:Addr}{ox:Obj}{od:Option Obj}{v:Af}(X:K.In s.heap)(I:InstAt s.heap x ox C od)(hga:findIn K (.ref C) "__getattribute__"=some (some (.builtin "BaseException.__getattribute__")))(hgt:findIn K (.ref C) "__getattr__"=some none)(hb:mroIn K C (.type "BaseException")=some true)(hf:findObj K C od name=some (.value v))(hh:handedIn v=true)(h:Q v {s with toks:=s.toks+1}):wpAny (model prog w) A (getAttr (.ref x) name expr) Q E s:=by
 intros n9 X s EQ E Ae A EQ Q Aa prog Ab w Frag K Addr C Str name Bool expr Addr x Obj ox OB od Af v
 rcases s with⟨hp,g,d,t,os⟩
 intros n7 X hp X g X d X os Nat t
 have' L0:=I.type (M:=model prog w)
 have' L1:=j7 (M:=model prog w) X hga
 have' L2:=j7 (M:=model prog w) X hgt
 have' LF:=looks_find (M:=model prog w) X I hf
 have' LI:Looks (model prog w) hp (isInstance (.ref x) (.type "BaseException")) true:=L0.andThen (m4 X hb)
 have hx0:(expr&&onTheHeap (fQ "BaseException.__getattribute__"))=false:=by cases expr<;>rfl
 have' hx2:(fQ "BaseException.__getattribute__"==fQ "object.__getattribute__")=false:=by decide+kernel
 have hx1:(onTheHeap (dT C)&&fQ "BaseException.__getattribute__"==fQ "object.__getattribute__")=false:=by refine a9 (hx2) ?_;rfl
 have' hx3:onTheHeap (dT C)=true:=rfl
 unfold getAttr getAttrBy
 refine a8 (wpAny_mkText (c6 (a8 (L0.at (a8 (L1.at ?_))))))
 dsimp only[hx1,bR,if_false]
 unfold getAttrByItsOwn hookBefore
 skip
 refine a8 (L2.at ?_)
 unfold callGetattribute
 simp only[hx0,bR,if_false]
 unfold boundAndCalled
 rw[eq__606]
 refine a8 (wpAny_attempt (c6 (a8 (aS (fN ?_)))))
 refine(?_:codeAny _ _ (.call (.builtin "BaseException.__getattribute__") ⟨.ref x::[.str name t],[]⟩) _ _)
 refine i6 eq__607 F.entry_bexc_ga ?_
 have' hargs:=F.args_bexc_ga (.ref x) (.str name t)
 refine@check_slot (model prog w) _ _ ⟨hp,g,d,t+1,os⟩ "BaseException.__getattribute__" "BaseException" "__getattribute__" (.ref x) [.str name t] [] _ eq__608 eq__609 LI hargs ?_
 refine a8 (aS (a8 (aS (a8 (L0.at (a8 (LF.at ?_)))))))
 refine aS ?_
 refine(?_:wpAny _ _ (handedOut v) _ _ _)
 exact(handedOut_of hh)▸aS h
theorem eq__611(R:Rel prog w g W σ s.heap)(X:K.In g)(KT:Kit K T){x:Str}(q:CellRel prog w W s.heap k a (.exn C fs))(hx:look x fs=some v)(hT:T.hasAttrE C x=true)(h:∀rv tk,Rep W v rv→Q rv {s with toks:=tk}):wpAny (model prog w) A (getAttr (.ref a) x expr) Q E s:=by
 intros n10 X g X σ X T X R X X X KT EQ E Ad s Ae A EQ Q Aa prog Ab w Addr a Wd W Val v Nat k LD fs Frag K Addr C Bool expr Str x
 obtain⟨ob,vs,ho,hc,hdt,_,q⟩:_:=q
 refine eq__293 (KT.gete C x hT) fun hg hgt hmb hd q1_=>?_;rcases q1_ with⟨attr,ha,hn⟩
 rcases q with⟨_,rfl⟩|⟨d,m,_,hdd,⟨od,es,ep,hod,hde,sk,f⟩,hf⟩
 ·(injection hx)
 ·have' this:=hf x;rw[hx]at this;refine eq__76 this fun rv e rep hi=>?_;have I:InstAt s.heap a ob C (some od):=⟨ho,hc,by unfold notCls;rw[hdt],by exact(hdd)▸hod⟩;exact eq__610 (R.kin X) I hg hgt hmb (findObj_own hd ha hn (by rw[eq__328 hde sk f,e])) hi (h rv _ rep)
noncomputable def mkF(m:MK)(o:Af):Af×List Af:=match m with
 |.app=>(.builtin "list.append",[o])|.ext=>(.builtin "list.extend",[o])|.pop=>(.builtin "list.pop",[o])
 |.starts=>(.builtin "str.startswith",[o])|.ends=>(.builtin "str.endswith",[o])|.split=>(.builtin "str.split",[o])|.find=>(.builtin "str.find",[o])
 |.fn f=>(.ref f,[o])|.stat f=>(.ref f,[])
theorem eq__60{c:Prop}[Decidable c]{x m:MK}{y:Option MK}(h:(if c then some x else y)=some m):(c∧x=m)∨y=some m:=by
 by_cases q:c
 ·exact .inl ⟨q,a6 ((if_pos q).symm.trans h)⟩
 ·exact .inr ((if_neg q).symm.trans h)
theorem eq__175{C:Addr→MK}{f:Addr}{m:MK}(h:fnM T C f=some m):(T.call f).isSome=true∧C f=m:=let⟨a,b⟩:=eq__87 h;⟨a,a6 b⟩
theorem eq__222{x:Str}{m:MK}(h:stM T C x=some m):∃f,(T.stat.lookup C).bind (look x)=some f∧(T.call f).isSome=true∧.stat f=m:=by
 rcases aB.mp h with⟨f,hf,h⟩
 exact eq__7 f hf (eq__175 h).1 (eq__175 h).2
theorem eq__329{x:Str}{m:MK}(h:vQ T C fs x=some m):look x fs=none∧((∃f,(T.meth.lookup C).bind (look x)=some f∧(T.call f).isSome=true∧.fn f=m)∨stM T C x=some m):=by
 unfold vQ at h
 cases hx:look x fs with
 |some v=>rw[hx]at h;(injection h)
 |none=>
  rw[hx]at h;refine⟨rfl,?_⟩;cases hf:(T.meth.lookup C).bind (look x)with
  |some f=>rw[hf]at h;exact .inl (eq__7 f rfl (eq__175 h).1 (eq__175 h).2)
  |none=>rw[hf]at h;exact .inr h
theorem eq__330{x:Str}{m:MK}{f:Addr}(h:wO x=some m):.fn f≠m∧.stat f≠m:=by
 rcases eq__60 h with⟨_,rfl⟩|h
 ·exact⟨nofun,nofun⟩
 rcases eq__60 h with⟨_,rfl⟩|h
 ·exact⟨nofun,nofun⟩
 rcases eq__60 h with⟨_,rfl⟩|h
 ·exact⟨nofun,nofun⟩
 ·(injection h)
theorem eq__331{x:Str}{m:MK}{f:Addr}(h:x0 x=some m):.fn f≠m∧.stat f≠m:=by
 rcases eq__60 h with⟨_,rfl⟩|h
 ·exact⟨nofun,nofun⟩
 rcases eq__60 h with⟨_,rfl⟩|h
 ·exact⟨nofun,nofun⟩
 rcases eq__60 h with⟨_,rfl⟩|h
 ·exact⟨nofun,nofun⟩
 rcases eq__60 h with⟨_,rfl⟩|h
 ·exact⟨nofun,nofun⟩
 ·(injection h)
theorem eq__332{f:Addr}{x:Str}{m:MK}(h:stM T C x=some m)(q:m=.fn f∨m=.stat f):(T.call f).isSome=true:=by
 rcases eq__222 h with⟨f',_,hc,rfl⟩
 rcases q with q|q
 ·(injection q)
 ·(injection q with q);exact q▸hc
theorem eq__333{o:Val}{f:Addr}{m:MK}(e:rQ T σ o name=some m)(q:m=.fn f∨m=.stat f):(T.call f).isSome=true:=by
 cases o with
 |ref k=>
  rcases aB.mp e with⟨c,hc,e⟩;cases c with
  |list vs=>exact(q.elim (fun q=>absurd q.symm (eq__330 e).1) fun q=>absurd q.symm (eq__330 e).2)
  |inst C fs=>
   rcases(eq__329 e).2 with⟨f',_,hc,rfl⟩|e
   ·rcases q with q|q;·(injection q with q);exact q▸hc
    ·(injection q)
   ·exact eq__332 e q
  |_=>(injection e)
 |imm v=>cases v with
  |ref C=>exact eq__332 e q
  |_=>(injection e)
 |str y=>exact(q.elim (fun q=>absurd q.symm (eq__331 e).1) fun q=>absurd q.symm (eq__331 e).2)
 |_=>(injection e)
theorem eq__334{o:Val}{f:Addr}(e:rQ T σ o name=some (.fn f)∨rQ T σ o name=some (.stat f)):(T.call f).isSome=true:=e.elim (fun e=>eq__333 e (.inl rfl)) fun e=>eq__333 e (.inr rfl)
set_option tactic.hygienic true in
theorem eq__612(R:Rel prog w g W σ s.heap)(X:K.In g)(KT:Kit K T){o:Val}{m:MK}{pl:Sem Bool}(e:rQ T σ o name=some m)(rep:Rep W o ro){Q:Af×List Af→Ad→Prop}(h:∀tk,Q (mkF m ro) {s with toks:=tk}):wpAny (model prog w) A (getMethod ro name pl) Q E s:=by
 intros n9 X R X X X KT X m X pl X Q EQ E Ad s Ae A Aa prog Ab w Wd W St σ Ac g Tab T Af ro Frag K Str name Val o
 cases o with
 |ref k=>
  rcases eq__35.mp rep with⟨a,rfl,i⟩;rcases aB.mp e with⟨c,hk,e⟩;rcases R.cell a k i with⟨c',hc,q⟩;rcases a6 (hk.symm.trans hc)with rfl;clear hk hc rep;cases c with
  |list vs=>
   rcases q with⟨rvs,n,il,q,z⟩;have L:=eq__206 il;have nd:s.heap.NoDictAt (.ref a):=⟨_,il,rfl⟩;clear il q z;rcases eq__60 e with⟨rfl,rfl⟩|e;·exact iS gJ PySem.F.type_list_append L nd (h s.toks)
   rcases eq__60 e with⟨rfl,rfl⟩|e;·exact iS j8 PySem.F.type_list_extend L nd (h s.toks)
   rcases eq__60 e with⟨rfl,rfl⟩|e;·exact iS kB PySem.F.type_list_pop L nd (h s.toks)
   ·(injection e)
  |inst C fs=>
   (refine eq__202 (eq__174 q) fun d od m' _ _ _ I hl hf=>?_);rcases eq__329 e with⟨hx,e⟩;have hm:=hf name;rw[hx]at hm;rcases e with⟨f,hf',_,rfl⟩|e
   ·obtain⟨h1,h2,h3⟩:_:=KT.meth C name f hf';exact method_fn (R.kin X) I (fX h1).1 (fX h1).2 h2 (beq_iff_eq.mp h3) (by refine(?_:(lookIn name od).map _=_);rw[hl name,show m' name=none from hm];rfl) (h s.toks)
   ·rcases eq__222 e with⟨f,hf',_,rfl⟩;obtain⟨h1,hh,p,rest,mc,h2,h3,h4,h5,h6,h7,_⟩:_:=KT.stat C name f hf';exact method_usual (r:=some (.ref p)) (R.kin X) I (fX h1).1 (fX h1).2 h2 (by simp only[mP,h3,Option.any_some];decide+kernel)
     (get_bind (R.kin X) I (fX h1).1 (findObj_fn hh h2 h4 h5 h6 (by rw[hl name,show m' name=none from hm])) (fX h1).2
      (fN (sm_get (s:={s with toks:=s.toks+1}) (R.kin X) h7 (handed_on rfl (h _)))))
  |_=>(injection e)
 |imm v=>cases v with
  |ref C=>
   rcases eq__88.mp rep with rfl;rcases eq__222 e with⟨f,hf',_,rfl⟩;obtain⟨h1,hh,p,rest,mc,h2,h3,h4,h5,h6,h7,h8,h9,h10⟩:_:=KT.stat C name f hf';exact method_cls (R.kin X) h8 (cls_bind (R.kin X) h9 h10 (fN (sm_get (s:={s with toks:=s.toks+1}) (R.kin X) h7 (handed_on rfl (h _)))))
  |_=>(injection e)
 |str y=>
  refine eq__1 (eq__19.mp rep) fun t q1_ _=>?_;subst q1_;clear rep;rcases eq__60 e with⟨rfl,rfl⟩|e;·refine(?_:wpAny _ _ (getMethod _ (a5 "startswith") _) _ _ _);exact GM.startswith (h s.toks)
  rcases eq__60 e with⟨rfl,rfl⟩|e;·refine(?_:wpAny _ _ (getMethod _ (a5 "endswith") _) _ _ _);exact GM.endswith (h s.toks)
  rcases eq__60 e with⟨rfl,rfl⟩|e;·refine(?_:wpAny _ _ (getMethod _ (a5 "split") _) _ _ _);exact GM.split (h s.toks)
  rcases eq__60 e with⟨rfl,rfl⟩|e;·refine(?_:wpAny _ _ (getMethod _ (a5 "find") _) _ _ _);exact GM.find (h s.toks)
  ·(injection e)
 |_=>(injection e)
end
section
theorem eq__223(R:Rel prog w g W σ s.heap){vs':List Val}{rvs':List Af}{f:Array Af→Array Af}{tk:Nat}(i:W a=.obj k)(il:s.heap.get? a=some (tV rvs n))(hf:f rvs.toArray=rvs'.toArray)(q:RepL W vs' rvs')(z:vs'.length≤lim)(rep:Rep W v rv):
  Post prog w g Rep (.ok v (σ.set k (.list vs'))) W s rv {s with heap:=s.heap.update a (i7 f),toks:=tk}:=by
 have' il':IsL s.heap a rvs.toArray n:=il
 have' up:=il'.update f
 have' ot:∀b o,b≠a→s.heap.get? b=some o→(s.heap.update a (i7 f)).get? b=some o:=fun b o hb e=>(dI _ _ (cW hb)).trans e
 rw[hf]at up
 exact Post.at (eq__140 (.inl ⟨k,i⟩) ot ⟨_,up⟩) (R.setCell i (.inl rfl) ot ⟨_,up⟩ ⟨rvs',_,up,q,z⟩) rep
theorem eq__613{x y:Str}{t u:Tok}(hy:(y.length==0)=false)(h:∀l k,l.map (·.1)=Txt.split x y→Q (.ref s.heap.objs.size) {s with heap:=s.heap.push (tV (strValues l) 0),toks:=k})(hsz:x.length+2≤sizeLine):wpAny (model prog w) A (call (.builtin "str.split") [.str x t,.str y u]) Q E s:=by
 intros n3 EQ E Ad s Ae A EQ Q Aa prog Ab w Str x Str y Tok t Tok u
 have hn:(j9 x (gQ x y 0 x.length (x.length+1)) y.length).length≤sizeLine:=by
  have' e1:=StrLaws.occ_length_le x y 0 x.length (x.length+1);rw[length_partsBetween];(exact fits_base_add e1 hsz)
 cases h1:(decide (x.length<y.length)||decide (kX x<kX y))
 ·cases hf:(gQ x y 0 x.length (x.length+1)).isEmpty
  ·refine fK gX (e8 _ _ _) gR (gK _ _) (meets_str_split_sep x y t u h1 hy hf (by(exact Nat.le_of_add_right_le hsz)) hn) ?_;show wants Q E _ {s with toks:=_,heap:=s.heap.push {cls:=.type "list",data:=.seq (strsFrom s.toks (j9 x (gQ x y 0 x.length (x.length+1)) y.length)).toArray}};rw[strsFrom_eq];exact h (numbered s.toks _) _ ((numbered_texts _ _).trans ((if_neg (ne_true_of_eq_false h1)).trans (if_neg (ne_true_of_eq_false hf))).symm)
  ·exact fK gX (e8 _ _ _) gR (gK _ _) (meets_str_split_not_found x y t u h1 hy hf)
    (h [(x,t)] s.toks ((if_neg (ne_true_of_eq_false h1)).trans (if_pos hf)).symm)
 ·exact fK gX (e8 _ _ _) gR (gK _ _) (meets_str_split_cannot_occur x y t u h1)
   (h [(x,t)] s.toks (if_pos h1).symm)
theorem eq__614(l b:Addr)(items items2:Array Af)(n n2:Nat)(dd2:Option Addr)(sl2:Array (Option Af))(hc0:¬(!items.isEmpty&&jA (items.size+items2.size))=true)(hc1:items.size≤sizeLine)(hs2:items.size+items2.size≤sizeLine+1):
  Meets (Builtin.«list.extend» ⟨[.ref l,.ref b],[]⟩) (fun _ R s=>s.heap.get? l=some {cls:=.type "list",dict:=none,data:=.seq items n,slots:=#[]}∧s.heap.get? b=some {cls:=.type "list",dict:=dd2,data:=.seq items2 n2,slots:=sl2}∧R (.ok (.ret fM)) {s with heap:=s.heap.update l (i7 fun x=>x++items2),toks:=s.toks}):=
 by
 intros n9 X items X items2 X n X n2 X dd2 X sl2 Addr l Addr b
 exact .of_wp fun prog w A R s h=>by
  rcases s with⟨hp,g,d,tk,os⟩;obtain⟨hl,hb,h⟩:_:=h;have f1:=AutoSeq1.idx_int;have f2:=AutoSeq1.sub_tuple_tuple;have f3:=AutoSeq1.sub_list_list;have f4:=AutoSeq1.sub_tuple_list;have f5:=AutoSeq1.sub_list_tuple;
  have' hz':(items++items2).size≤sizeLine+1:=by exact(Array.size_append)▸hs2
  wp_walk using(wpAny_updateSeq hl rfl (hz:=hc1) (_hz':=hz')),jB hl,jB hb;exact eq__2 _ rfl h
theorem eq__335:∀(l:List (Str×Tok)),(∀a∈l.map (·.1),a.length≤lim)→RepL W ((l.map (·.1)).map .str) (strValues l)
 |[],_=>RepL.nil.mpr rfl
 |p::r,h=>RepL.cons.mpr (eq__24 _ _ rfl (eq__19.mpr ⟨_,rfl,h _ ((aO ..))⟩) (eq__335 r fun a ha=>h a (by rw[aG,bC];exact .inr ha)))
noncomputable def MK.blt:MK→Bool|.fn _|.stat _=>false|_=>true
set_option tactic.hygienic true in
theorem eq__615(R:Rel prog w g W σ s.heap){m:MK}{o:Val}{args:List Val}(hb:m.blt=true)(hs:qX T pos m o args σ≠.stuck)(ra:Rep W o ro)(q:RepL W args rvs):
  wpAny (model prog w) A (call (mkF m ro).1 ((mkF m ro).2++rvs)) (Post prog w g Rep (qX T pos m o args σ) W s) E s:=by
 intros n6 X R X m EQ E Ad s Ae A Aa prog Ab w Wd W LVl rvs St σ Ac g Pos pos Tab T Af ro Val o LV args
 have' l1:=eq__143
 generalize hr:qX T pos m o args σ=r at hs⊢
 cases m with
 |app=>
  refine eq__1 (eq__18 hr hs) fun k hk hr=>?_;refine eq__1 (eq__18 hr hs) fun x hx hr=>?_;refine eq__1 (eq__18 hr hs) fun vs hv hr=>?_;refine eq__14 (eq__86 hr hs) fun hz q1_=>?_;subst q1_;rcases eq__141 hk with rfl;clear hr;rcases eq__78 hx with rfl;have hk:=eq__209 hv;refine eq__1 (eq__35.mp ra) fun a q1_ i=>?_;subst q1_;(refine eq__17 (RepL.cons.mp q) fun rx _ q1_ px pn=>?_;subst q1_);clear q;rcases RepL.nil.mp pn with rfl;(refine eq__1 (R.cell a k i) fun c hc cr=>?_);rw[hk]at hc;rcases a6 hc with rfl;rcases cr with⟨eq__22,n,il,qi,zi⟩;have' hl:=qi.len;refine fK gJ ⟨_,il,rfl⟩ iY (iM _ _) (list_append a eq__22.toArray n rx (by skip;exact eq__47 [_,_,_,_] (.le Z0 Z1) (.le Z2 Z1) (.lt Z3 Z2) (.eq Z0 Z3) rfl l1 hz hl)) ⟨il,?_⟩;exact eq__223 R i il (rvs':=eq__22++[rx]) (by simp) (qi.append (RepL.one px)) (by simp;(exact Nat.succ_le_of_lt hz)) (eq__53.mpr rfl)
 |ext=>
  refine eq__1 (eq__18 hr hs) fun k hk hr=>?_;refine eq__1 (eq__18 hr hs) fun x hx hr=>?_;refine eq__1 (eq__18 hr hs) fun vs hv hr=>?_;refine eq__1 (eq__18 hr hs) fun us hu hr=>?_;refine eq__14 (eq__86 hr hs) fun hz q1_=>?_;subst q1_;rcases eq__141 hk with rfl;clear hr;rcases eq__78 hx with rfl;have hk:=eq__209 hv;refine eq__1 (eq__35.mp ra) fun a q1_ i=>?_;subst q1_;refine eq__17 (RepL.cons.mp q) fun rx _ q1_ px pn=>?_;subst q1_;clear q;rcases RepL.nil.mp pn with rfl;refine eq__1 (R.cell a k i) fun c hc cr=>?_;rw[hk]at hc;rcases a6 hc with rfl;rcases cr with⟨eq__22,n,il,qi,zi⟩;have hl:=qi.len;(refine eq__25 (eq__43 R hu px) fun b jvs q1_ jl qj zj=>?_;subst q1_);have' hl2:=qj.len;obtain⟨⟨cls2,dd2,data2,sl2⟩,ho2,hc2,n2,hd2⟩:=id jl;simp only at hc2 hd2;subst hc2 hd2;have' hz1:eq__22.length≤sizeLine:=by exact eq__47 [_,_,_,_] (.le Z0 Z1) (.le Z2 Z1) (.le Z3 Z2) (.eq Z0 Z3) rfl l1 zi hl
  have hz2:eq__22.length+jvs.length≤sizeLine:=by exact eq__165 [_,_,_,_,_,_] (.le (.a Z0 Z1) Z2) (.le Z3 Z2) (.le (.a Z4 Z5) Z3) (.eq Z0 Z4) (.eq Z1 Z5) rfl l1 hz hl hl2
  refine(?_:(¬(!eq__22.toArray.isEmpty&&jA (eq__22.toArray.size+jvs.toArray.size))=true)→_) ?_;rotate_left;·
   skip;exact extend_door (hz2)
  intro door;refine fK j8 ⟨_,il,rfl⟩ PySem.F.entry_list_extend (PySem.F.args_list_extend_2 _ _) (eq__614 a b eq__22.toArray jvs.toArray n n2 dd2 sl2 door (hz1) (by skip;(exact Nat.le_add_right_of_le hz2))) (eq__30 il ho2 ?_);exact eq__223 R i il (rvs':=eq__22++jvs) (by simp) (qi.append qj) (by simpa using hz) (eq__53.mpr rfl)
 |pop=>
  refine eq__1 (eq__18 hr hs) fun k hk hr=>?_;refine eq__1 (eq__18 hr hs) fun x hx hr=>?_;refine eq__1 (eq__18 hr hs) fun i0 hi hr=>?_;refine eq__14 (eq__86 hr hs) fun q1_ hr=>?_;subst q1_;refine eq__1 (eq__18 hr hs) fun vs hv hr=>?_;rcases eq__18 hr hs with⟨⟨v,r'⟩,hu,rfl⟩;rcases eq__141 hk with rfl;clear hr;rcases eq__78 hx with rfl;clear hr hx;rcases eq__72 hi with rfl;rcases eq__167 hu with rfl;have hk:=eq__209 hv;refine eq__1 (eq__35.mp ra) fun a q1_ i=>?_;subst q1_;refine eq__17 (RepL.cons.mp q) fun rx _ q1_ px pn=>?_;subst q1_;clear q;rcases RepL.nil.mp pn with rfl;rcases eq__20.mp px with⟨u,rfl⟩;obtain⟨c,hc,cr⟩:_:=R.cell a k i;rw[hk]at hc;rcases a6 hc with rfl;rcases cr with⟨eq__22,n,il,qi,zi⟩;have' hl:=qi.len;(refine eq__17 (RepL.cons.mp qi) fun rv eq__22 q1_ pv pr=>?_;subst q1_);refine fK kB ⟨_,il,rfl⟩ PySem.F.entry_list_pop (PySem.F.args_list_pop_2 _ _) (MeetsSeq.list_pop_at a (rv::eq__22).toArray n 0 u 0 rv (by decide+kernel) (by simp[seqIndex?]) rfl (by skip;exact eq__47 [_,_,_,_] (.le Z0 Z1) (.le Z2 Z1) (.le Z3 Z2) (.eq Z0 Z3) rfl l1 zi hl)) ⟨il,?_⟩;exact eq__223 R i il (rvs':=eq__22) (by simp[Array.eraseIdxIfInBounds]) pr (by simp at zi;(exact Nat.le_of_succ_le zi)) pv
 |starts=>
  rcases eq__18 hr hs with⟨x,hx,hr⟩;rcases eq__18 hr hs with⟨a,ha,hr⟩;rcases eq__18 hr hs with⟨y,hy,rfl⟩;rcases eq__58 hx with rfl;rcases eq__78 ha with rfl;rcases eq__58 hy with rfl;rcases eq__19.mp ra with⟨t,rfl,_⟩;refine eq__17 (RepL.cons.mp q) fun rx _ q1_ px pn=>?_;subst q1_;rcases RepL.nil.mp pn with rfl;clear q;refine eq__1 (eq__19.mp px) fun u q1_ _=>?_;subst q1_;exact SC.startswith (Post.still R (eq__63.mpr rfl))
 |ends=>
  rcases eq__18 hr hs with⟨x,hx,hr⟩;rcases eq__18 hr hs with⟨a,ha,hr⟩;rcases eq__18 hr hs with⟨y,hy,rfl⟩;rcases eq__58 hx with rfl;rcases eq__78 ha with rfl;rcases eq__58 hy with rfl;rcases eq__19.mp ra with⟨t,rfl,_⟩;refine eq__17 (RepL.cons.mp q) fun rx _ q1_ px pn=>?_;subst q1_;rcases RepL.nil.mp pn with rfl;clear q;refine eq__1 (eq__19.mp px) fun u q1_ _=>?_;subst q1_;exact SC.endswith (Post.still R (eq__63.mpr rfl))
 |split=>
  rcases eq__18 hr hs with⟨x,hx,hr⟩;rcases eq__18 hr hs with⟨a,ha,hr⟩;rcases eq__18 hr hs with⟨y,hya,hr⟩;refine eq__14 (eq__86 hr hs) fun hy q1_=>?_;subst q1_;rcases eq__58 hx with rfl;clear hr;rcases eq__78 ha with rfl;clear hr;rcases eq__58 hya with rfl;rcases eq__19.mp ra with⟨t,rfl,z⟩;refine eq__17 (RepL.cons.mp q) fun rx _ q1_ px pn=>?_;subst q1_;clear q;rcases RepL.nil.mp pn with rfl;obtain⟨u,rfl,_⟩:_:=eq__19.mp px;refine eq__613 hy (fun l k e=>?_) (eq__600 z);rw[←e]at hs⊢;exact eq__221 R hs (eq__335 l fun a ha=>aL (part_short (e▸ha)) z)
 |find=>
  refine eq__1 (eq__18 hr hs) fun x hx hr=>?_;rcases eq__18 hr hs with⟨⟨a,as⟩,ha,hr⟩;refine eq__1 (eq__18 hr hs) fun y hy hr=>?_;refine eq__1 (eq__18 hr hs) fun b hb' hr=>?_;refine eq__1 (eq__18 hr hs) fun i hi q1_=>?_;subst q1_;rcases eq__58 hx with rfl;rcases eq__58 hy with rfl;clear hr hy;rcases eq__78 hb' with rfl;rcases eq__72 hi with rfl;rcases eq__167 ha with rfl;refine eq__1 (eq__19.mp ra) fun t q1_ _=>?_;subst q1_;refine eq__17 (RepL.cons.mp q) fun rx _ q1_ px pn=>?_;subst q1_;clear q;rcases RepL.cons.mp pn with⟨ry,_,rfl,py,pn⟩;rcases RepL.nil.mp pn with rfl;refine eq__1 (eq__19.mp px) fun u q1_ _=>?_;subst q1_;rcases eq__20.mp py with⟨v,rfl⟩;exact SC.find3 (Post.same R (eq__20.mpr ⟨_,rfl⟩))
 |fn f=>(injection hb)
 |stat f=>(injection hb)
end
section
theorem eq__616(R:Rel prog w g W σ s.heap){x:Val}(e:vG σ x=some n)(ra:Rep W x rx)(h:∀tk tk',Q (.int n tk') {s with toks:=tk}):
  wpAny (model prog w) A (call (.builtin "len") [rx]) Q E s:=by
 intros n5 X g X R X e X ra EQ E Nat n Ad s Ae A EQ Q Aa prog Ab w Wd W St σ Af rx Val x
 revert e
 refine(?_:(s4 x).elim ((vF x).elim ((pB σ x).map fW) fun vs=>some vs.length) (fun s=>some s.length)=some n→_)
 cases hs:s4 x with
 |some y=>
  intro e;rcases eq__58 hs with rfl;refine eq__1 (eq__19.mp ra) fun t q1_ z=>?_;subst q1_;(injection e with hq_;subst hq_);have' this:=eq__95 z;exact oN (by omega) (h _ _)
 |none=>cases ht:vF x with
 |some us=>
  intro e;rcases eq__210 ht with rfl;(refine eq__71 (eq__80.mp ra) fun a o rvs m q1_ i c d q z=>?_;subst q1_);rcases a6 e with rfl;have' hl:=q.len;have' this:=eq__95 z;have :=oB (prog:=prog) (w:=w) (A:=A) (E:=E) (s:=s) (t:=a) (items:=rvs.toArray) (Q:=Q) ⟨o,R.imm a o i,c,m,d⟩ (by rw[cX];omega);simp only[cX,hl]at this;exact this (h _ _)
 |none=>
  intro e;replace e:=aJ.mp e;obtain⟨vs,e,rfl⟩:=e;(refine eq__25 (eq__43 R e ra) fun a rvs q1_ il q z=>?_;subst q1_);have' hl:=q.len;have' this:=eq__95 z;have :=oG (prog:=prog) (w:=w) (A:=A) (E:=E) (s:=s) (Q:=Q) il (by rw[cX];omega);simp only[cX,hl]at this;exact this (h _ _)
theorem eq__617(R:Rel prog w g W σ s.heap){x:Val}{m:String}(e:sS σ x=some (.type m))(ra:Rep W x rx):
  (m="str"∧∃y t,rx=.str y t)∨(m="list"∧∃a items,rx=.ref a∧s.heap.IsList a items):=by
 intros n5 X g X R X m Ad s Aa prog Ab w Wd W St σ Af rx Val x
 cases x with
 |str y=>
  refine eq__1 (eq__19.mp ra) fun t q1_ z=>?_;subst q1_;obtain rfl:"str"=m:=kC (a6 e);exact .inl (eq__51 rfl (eq__54 _ _ rfl))
 |lst vs=>
  obtain rfl:"list"=m:=kC (a6 e);rcases eq__43 R (v:=.lst _) rfl ra with⟨a,rvs,rfl,il,_⟩;exact .inr ⟨rfl,_,_,rfl,il⟩
 |ref k=>
  refine eq__1 (aB.mp e) fun c hk e=>?_;cases c with
  |list vs=>
   obtain rfl:"list"=m:=kC (a6 e);rcases eq__43 R (v:=.ref k) (vs:=vs) (by exact congrArg (fun o=>o.bind r4) hk) ra with⟨a,rvs,rfl,il,_⟩;exact .inr ⟨rfl,_,_,rfl,il⟩
  |inst C fs=>(injection e with hq_;injection hq_)
  |_=>(injection e)
 |_=>(injection e)
theorem eq__618(R:Rel prog w g W σ s.heap){x:Val}(e:sS σ x=some (.ref C))(ra:Rep W x rx):
  ∃k a fs,rx=.ref a∧CellRel prog w W s.heap k a (.inst C fs):=by
 intros n4 X g X R Ad s Aa prog Ab w Wd W St σ Af rx Addr C Val x
 cases x with
 |ref k=>
  (refine eq__1 (aB.mp e) fun c hk e=>?_);(refine eq__1 (eq__35.mp ra) fun a q1_ i=>?_;subst q1_);cases c with
  |inst D fs=>
   obtain rfl:D=C:=Value.ref.inj (a6 e);obtain⟨c,hc,q⟩:_:=R.cell a k i;exact eq__570 k a fs rfl ((a6 (hk.symm.trans hc))▸q)
  |list vs=>(injection e with hq_;injection hq_)
  |_=>(injection e)
 |str y=>(injection e with hq_;injection hq_)
 |lst y=>(injection e with hq_;injection hq_)
 |_=>(injection e)
theorem eq__336(R:Rel prog w g W σ s.heap)(X:K.In g)(KT:Kit K T){x:Val}{t:Af}(e:s5 T σ x t=some b)(ra:Rep W x rx)(h:∀tk,Q (.bool b) {s with toks:=tk}):
  wpAny (model prog w) A (call (.builtin "isinstance") [rx,t]) Q E s:=by
 intros n6 X R X X X KT X e X ra EQ E Ad s Ae A EQ Q Aa prog Ab w Wd W St σ Ac g Bool b Af rx Tab T Frag K Val x Af t
 (refine eq__1 (aB.mp e) fun c hx e=>?_)
 unfold isT at e
 cases hC:u0 c with
 |some C=>
  rcases eq__105 hC with rfl;replace e:=hC▸e;(refine eq__569 (eq__618 R hx ra) fun k a fs q1_ q=>?_;subst q1_);(refine eq__163 (eq__174 q) fun d od m _ _ _ I _=>?_);cases hD:u0 t with
  |some D=>
   rcases eq__105 hD with rfl;clear hD;refine eq__14 (eq__87 (show(if C=D then some true else none)=some b from e)) fun q1_ eb=>?_;subst q1_;clear e;rcases a6 eb with rfl;exact isi_call (K:=K) (R.kin X) (fun M=>I.type) (by simp[isIn]) (by intro q;(injection q)) (h s.toks)
  |none=>
   replace e:=hD▸e;refine eq__1 (aB.mp e) fun n hn e=>?_;clear hD;rcases eq__168 hn with rfl;refine eq__14 (eq__87 e) fun q1_ eb=>?_;rcases q1_ with⟨rfl,hm⟩;clear e;rcases a6 eb with rfl;obtain⟨h1,h2,h3,h4,h5,h6,h7⟩:_:=KT.isStr C hm;exact kin_callT (R.kin X) I h1 (by kernel_rfl) h2 h3 h4 h5 h6 h7 (h _)
 |none=>
  replace e:=hC▸e;(refine aM fun hG_=>?_;refine eq__1 (aB.mp e) fun m hm e=>?_;refine eq__1 (aB.mp e) fun n hn e=>?_;refine hG_ ?_;clear hG_);clear hC;rcases eq__168 hm with rfl;rcases eq__168 hn with rfl;refine eq__14 (eq__87 e) fun hn eb=>?_;rcases a6 eb with rfl;rcases eq__617 R hx ra with⟨rfl,y,u,rfl⟩|⟨rfl,a,items,rfl,il⟩
  ·clear eb e;rcases hn with rfl|rfl;·exact call_isinstance_yes (e8 _ _ _) (by kernel_rfl) isSubtype_str_str (h s.toks)
   ·exact call_isinstance (isinstance_false_str (by decide) (by kernel_rfl) (by rw[isSubtype_type];kernel_rfl)) (h _)
  ·clear eb;rcases hn with rfl|rfl;·exact IsiPair.isList_str il (fun _ _ e=>e) (h _)
   ·exact IsiPair.isList_list il (fun _ _ e=>e) (h s.toks)
theorem eq__619(R:Rel prog w g W σ s.heap)(X:K.In g)(KT:Kit K T)(hh:A.handled=none){f:Af}{args:List Val}(hs:pL T pos f args σ≠.stuck)(q:RepL W args rvs):
  wpAny (model prog w) A (call f rvs) (Post prog w g Rep (pL T pos f args σ) W s) E s:=by
 intros n7 X K X R X X X KT X hh EQ E Ad s Ae A Aa prog Ab w Wd W LVl rvs St σ Ac g Pos pos Tab T Af f LV args
 generalize hr:pL T pos f args σ=r at hs⊢
 unfold pL at hr
 cases hb:biO f with
 |some id=>
  rcases eq__588 hb with rfl;replace hr:(if id="isinstance" then orS (unc args) fun p=>orS (tR p.2) fun y=>orS (wN y) fun t=>orS (s5 T σ p.1 t) fun b=>.ok (.bool b) σ
   else orS (tR args) fun x=>if id="len" then orS (vG σ x) fun n=>.ok (.int n) σ else if id="abs" then orS (tE x) fun i=>.ok (.int i.natAbs) σ else .stuck)=r:=hr;by_cases hid:id="isinstance"
  ·clear hb;subst hid;rcases eq__18 (if_pos rfl▸hr) hs with⟨⟨x,l⟩,hp,hr⟩;refine eq__1 (eq__18 hr hs) fun y hy hr=>?_;refine eq__1 (eq__18 hr hs) fun t ht hr=>?_;refine eq__1 (eq__18 hr hs) fun b hi q1_=>?_;subst q1_;rcases eq__586 ht with rfl;clear hr;rcases eq__78 hy with rfl;rcases eq__167 hp with rfl;refine eq__17 (RepL.cons.mp q) fun rx _ q1_ px pn=>?_;subst q1_;clear q;rcases RepL.cons.mp pn with⟨rt,_,rfl,pt,pn⟩;rcases RepL.nil.mp pn with rfl;rcases eq__88.mp pt with rfl;exact eq__336 R X KT hi px fun tk=>Post.same R (eq__63.mpr rfl)
  ·refine eq__1 (eq__18 ((if_neg hid).symm.trans hr) hs) fun x hx hr2=>?_;clear hr;rcases eq__78 hx with rfl;refine eq__17 (RepL.cons.mp q) fun rx _ q1_ px pn=>?_;subst q1_;clear q;rcases RepL.nil.mp pn with rfl;by_cases hl:id="len"
   ·subst hl;refine eq__1 (eq__18 ((if_pos rfl).symm.trans hr2) hs) fun n hn q1_=>?_;subst q1_;exact eq__616 R hn px fun tk tk'=>Post.same R (eq__20.mpr ⟨_,rfl⟩)
   ·refine eq__14 (eq__86 ((if_neg hl).symm.trans hr2) hs) fun q1_ hr3=>?_;subst q1_;refine eq__1 (eq__18 hr3 hs) fun i hi q1_=>?_;subst q1_;rcases eq__72 hi with rfl;rcases eq__20.mp px with⟨t,rfl⟩;refine nM fun u tk=>Post.same R (eq__20.mpr ⟨u,?_⟩);congr 1;omega
 |none=>
  refine eq__1 (eq__18 (show orS (tyO f) _=r from hb▸hr) hs) fun n hn hr2=>?_;refine eq__1 (eq__18 hr2 hs) fun x hx hr3=>?_;clear hr2;refine eq__14 (eq__86 hr3 hs) fun q1_ hr4=>?_;subst q1_;clear hb;rcases eq__168 hn with rfl;rcases eq__78 hx with rfl;refine eq__17 (RepL.cons.mp q) fun rx _ q1_ px pn=>?_;subst q1_;clear q;rcases RepL.nil.mp pn with rfl;cases hl:pB σ x with
  |some vs=>
   rw[hl]at hr4;obtain rfl:mkList T pos vs σ=r:=hr4;(refine eq__25 (eq__43 R hl px) fun a rvs q1_ q2_ qv z=>?_;subst q1_;rcases q2_ with⟨o,ho,hc,c,hd⟩);have' hlen:=qv.len;refine call_list_seq a (.inl rfl) ho hc hd (fun h' c' k e=>?_) (by simp only[cX,hlen];exact eq__106 z);exact eq__173 (tk:=s.toks) R hs qv (eq__48 _) k e
  |none=>
   rw[hl]at hr4;refine eq__1 (eq__18 hr4 hs) fun k hk hr5=>?_;refine eq__1 (eq__18 hr5 hs) fun es hd q1_=>?_;subst q1_;rcases eq__141 hk with rfl;rcases eq__317 hd with⟨ep,hk⟩;refine eq__1 (eq__35.mp px) fun a q1_ i=>?_;subst q1_;refine eq__1 (R.cell a k i) fun c hc cr=>?_;rw[hk]at hc;rcases a6 hc with rfl;obtain⟨rvs,hd,qv,z,hne,hkey⟩:=cr;have' hlen:=qv.len;have hzip:((es.map (·.1)).zip rvs).length=es.length:=by
    rw[g0,a7,hlen,a7];(exact jC es.length)
   refine kdl_call (kdl_dict (knd:=bI prog w) hne) hh hd (by exact(hzip)▸eq__106 z) (fun h' tk acc' c' kk e hi=>?_);refine eq__173 (rvs:=acc'.toList) (n:=c') R hs ?_ (eq__48 _) kk (by rw[tV,i4];exact e);obtain⟨hsz,hat⟩:_:=hi;refine RepL.of_get (by rw[Array.length_toList,hsz,hzip,a7]) fun j v r hv hr=>?_;refine eq__31 (hat j r (by refine a9 (bH (Array.getElem?_toList)) ?_;exact hr)) fun y x h1 h2=>?_;clear hr;rw[aK,aJ]at hv;rcases hv with⟨en,hen,rfl⟩;refine(?_:((es.map (·.1))[j]?=some y)→_) ?_;rotate_left;·
    rw[iZ]at h1;exact h1.1
   intro h3;rw[aK,hen]at h3;clear h1;rcases a6 h3 with rfl;clear hr;rcases Value.isStrOf_shape h2 with⟨t,rfl⟩;exact eq__19.mpr (eq__2 t rfl (hkey en (aT hen)))
end
section
variable(prog:Aa)(w:Ab)(g:Ac)(K:Frag)(T:Tab)(D:Nat)
structure At(A:Ae)(fl:List Ai)(fr:Fr)(env:Ai)(O:List Addr)(W:Wd)(σ:St)(h:Ac):Prop where
 ok:Ok A D fl
 fs:Frames W h fl
 rel:Rel prog w g W σ h
 fr:FrRel W fr env O h
 top:∃e₀ r,fl=e₀::r∧e₀.frame=env.frame
def FnOk(a:Addr)(m:List Val→EM):Prop:=∀(A:Ae)(fl:List Ai)(W:Wd)(σ:St)(s:Ad)(vs:List Val)(rvs:List Af),
 Ok A D fl→Frames W s.heap fl→Rel prog w g W σ s.heap→RepL W vs rvs→m vs σ≠.stuck→Snd prog w g Rep A (call (.ref a) rvs) (m vs σ) W s
def CloOk(n:CloD)(m:List Val→List Val→EM):Prop:=∀(A:Ae)(fl:List Ai)(W:Wd)(σ:St)(s:Ad)(cap vs:List Val)(f:Af)(rvs:List Af),
 Ok A D fl→Frames W s.heap fl→Rel prog w g W σ s.heap→Rep W (.clo n cap) f→RepL W vs rvs→m cap vs σ≠.stuck→Snd prog w g Rep A (call f rvs) (m cap vs σ) W s
def u8(a:Addr)(m:List Val→List (Str×Val)→EM):Prop:=∀(A:Ae)(fl:List Ai)(W:Wd)(σ:St)(s:Ad)(vs:List Val)(rvs:List Af)(ks:List (Str×Val))(rks:List Af),
 Ok A D fl→Frames W s.heap fl→Rel prog w g W σ s.heap→RepL W vs rvs→RepL W (ks.map (·.2)) rks→m vs ks σ≠.stuck→Snd prog w g Rep A (call (.ref a) rvs ((ks.map (·.1)).zip rks)) (m vs ks σ) W s
structure pS:Prop where
 kin:K.In g
 kit:Kit K T
 sys:∃b o,g.get? b=some o∧sysModules<b
 lim:g.NoLimit
 nest:CodeHd g 343 339
 bm:∃mg,g.Ns mainGlobals mg∧g.BuiltinsAt mg 339
 glob:∃mg mb,g.Ns mainGlobals mg∧g.Ns builtinsNs mb∧∀x v,look x T.glob=some v→∃rv,(mg x=some rv∨(mg x=none∧mb x=some rv))∧∀W:Wd,(∀a o,g.get? a=some o→W a=.imm o)→Rep W v rv
 call:∀a m,T.call a=some m→FnOk prog w g D a m
 clo:∀n m,T.clo n=some m→CloOk prog w g D n m
 make:∀a m,T.make a=some m→u8 prog w g D a m
def rO(n:Nat):Prop:=∀(fr:Fr)(e:Ag)(σ:St)(W:Wd)(s:Ad)(env:Ai)(O:List Addr)(A:Ae)(fl:List Ai),
 At prog w g D A fl fr env O W σ s.heap→ev T n fr e σ≠.stuck→Snd prog w g Rep A (eval e env) (ev T n fr e σ) W s
def sI(n:Nat):Prop:=∀(fr:Fr)(e:Ag)(σ:St)(W:Wd)(s:Ad)(env:Ai)(O:List Addr)(A:Ae)(fl:List Ai),
 At prog w g D A fl fr env O W σ s.heap→tst T n fr e σ≠.stuck→Snd prog w g (fun _(a b:Bool)=>a=b) A (isTrue e env (eval e env)) (tst T n fr e σ) W s
def sG(n:Nat):Prop:=∀(fr:Fr)(op:BoolOp)(es:List Ag)(σ:St)(W:Wd)(s:Ad)(env:Ai)(O:List Addr)(A:Ae)(fl:List Ai),
 At prog w g D A fl fr env O W σ s.heap→qE T n fr op es σ≠.stuck→Snd prog w g (fun _(a b:Bool)=>a=b) A (allTrue op es env) (qE T n fr op es σ) W s
def tM(n:Nat):Prop:=∀(fr:Fr)(op:BoolOp)(es:List Ag)(pos:Pos)(σ:St)(W:Wd)(s:Ad)(env:Ai)(O:List Addr)(A:Ae)(fl:List Ai),
 At prog w g D A fl fr env O W σ s.heap→pX T n fr op es σ≠.stuck→Snd prog w g Rep A (boolOp pos op (evalEach es env)) (pX T n fr op es σ) W s
def sY(n:Nat):Prop:=∀(fr:Fr)(e:Option Ag)(σ:St)(W:Wd)(s:Ad)(env:Ai)(O:List Addr)(A:Ae)(fl:List Ai),
 At prog w g D A fl fr env O W σ s.heap→qT T n fr e σ≠.stuck→Snd prog w g Rep A (evalPart e env) (qT T n fr e σ) W s
end
variable{D:Nat}{α':Type}
section
theorem At.step(a:At prog w g D A fl fr env O W σ s.heap)(x:Ext [] W s.heap W' h')(R:Rel prog w g W' σ' h'):At prog w g D A fl fr env O W' σ' h':=
 ⟨a.ok,a.fs.ext x,R,a.fr.ext (a.rel.le x) x,a.top⟩
theorem eq__96{δ β':Type}{R1:Wd→α→α'→Prop}{R2:Wd→β→β'→Prop}{R3:Wd→γ→δ→Prop}{t1:Sem α'}{t2:α'→Sem β'}{r1:Out St α}{F1:α→St→Out St β}{F2:α→β→St→Out St γ}{G:α'→β'→(δ→Ad→Prop)→(Af→Ad→Prop)→Ad→Prop}(mono:∀{W:Wd}{W':Wd}{a:α}{b:α'},W.le W'→R1 W a b→R1 W' a b)(gm:∀{a b Q Q' E E' s},G a b Q E s→(∀v s',Q v s'→Q' v s')→(∀v s',E v s'→E' v s')→G a b Q' E' s)(hs:(r1.bind fun a σ₁=>(F1 a σ₁).bind fun b σ₂=>F2 a b σ₂)≠.stuck)(p1:r1≠.stuck→Snd prog w g R1 A t1 r1 W s)(p2:∀a σ₁ W₁ h₁ tk₁ ra,F1 a σ₁≠.stuck→Ext [] W s.heap W₁ h₁→Rel prog w g W₁ σ₁ h₁→R1 W₁ a ra→Snd prog w g R2 A (t2 ra) (F1 a σ₁) W₁ {s with heap:=h₁,toks:=tk₁})(p3:∀a b σ₂ W₂ h₂ tk₂ ra rb,F2 a b σ₂≠.stuck→Ext [] W s.heap W₂ h₂→Rel prog w g W₂ σ₂ h₂→R1 W₂ a ra→R2 W₂ b rb→
   G ra rb (Post prog w g R3 (F2 a b σ₂) W₂ {s with heap:=h₂,toks:=tk₂}) (PostX prog w g (F2 a b σ₂) W₂ {s with heap:=h₂,toks:=tk₂}) {s with heap:=h₂,toks:=tk₂}):
  wpAny (model prog w) A t1 (fun ra s₁=>wpAny (model prog w) A (t2 ra) (fun rb s₂=>G ra rb (Post prog w g R3 (r1.bind fun a σ₁=>(F1 a σ₁).bind fun b σ₂=>F2 a b σ₂) W s)
   (PostX prog w g (r1.bind fun a σ₁=>(F1 a σ₁).bind fun b σ₂=>F2 a b σ₂) W s) s₂) (PostX prog w g (r1.bind fun a σ₁=>(F1 a σ₁).bind fun b σ₂=>F2 a b σ₂) W s) s₁)
   (PostX prog w g (r1.bind fun a σ₁=>(F1 a σ₁).bind fun b σ₂=>F2 a b σ₂) W s) s:=by
 have h1:r1≠.stuck:=fun e=>hs (by rw[e];rfl)
 refine(p1 h1).bindQ (fun a σ₁ W₁ h₁ tk₁ ra e₁ x₁ R₁ rep₁=>?_) fun e s' q=>q.bind
 clear h1 p1;subst e₁
 simp only[Out.bind_ok]at hs⊢
 have h2:F1 a σ₁≠.stuck:=fun e=>hs (by rw[e];rfl)
 refine(p2 a σ₁ W₁ h₁ tk₁ ra h2 x₁ R₁ rep₁).bindQ (fun b σ₂ W₂ h₂ tk₂ rb e₂ x₂ R₂ rep₂=>?_) fun e s' q=>(q.bind).back x₁
 rw[e₂]at hs⊢
 simp only[Out.bind_ok]at hs⊢
 exact gm (p3 a b σ₂ W₂ h₂ tk₂ ra rb hs (x₁.trans x₂) R₂ (mono (R₁.le x₂) rep₁) rep₂) (fun v s' q=>(q.back (tk:=tk₂) x₂).back (tk:=tk₁) x₁) fun v s' q=>(q.back (tk:=tk₂) x₂).back (tk:=tk₁) x₁
theorem one{δ:Type}{R1:Wd→α→α'→Prop}{R3:Wd→γ→δ→Prop}{t1:Sem α'}{r1:Out St α}{F1:α→St→Out St γ}{G:α'→(δ→Ad→Prop)→(Af→Ad→Prop)→Ad→Prop}(gm:∀{a Q Q' E E' s},G a Q E s→(∀v s',Q v s'→Q' v s')→(∀v s',E v s'→E' v s')→G a Q' E' s)(hs:(r1.bind F1)≠.stuck)(p1:r1≠.stuck→Snd prog w g R1 A t1 r1 W s)(p2:∀a σ₁ W₁ h₁ tk₁ ra,F1 a σ₁≠.stuck→Ext [] W s.heap W₁ h₁→Rel prog w g W₁ σ₁ h₁→R1 W₁ a ra→
   G ra (Post prog w g R3 (F1 a σ₁) W₁ {s with heap:=h₁,toks:=tk₁}) (PostX prog w g (F1 a σ₁) W₁ {s with heap:=h₁,toks:=tk₁}) {s with heap:=h₁,toks:=tk₁}):
  wpAny (model prog w) A t1 (fun ra s₁=>G ra (Post prog w g R3 (r1.bind F1) W s) (PostX prog w g (r1.bind F1) W s) s₁) (PostX prog w g (r1.bind F1) W s) s:=by
 have h1:r1≠.stuck:=fun e=>hs (by rw[e];rfl)
 refine(p1 h1).bindQ (fun a σ₁ W₁ h₁ tk₁ ra e₁ x₁ R₁ rep₁=>?_) fun e s' q=>q.bind
 clear h1 p1;subst e₁
 skip
 exact gm (p2 a σ₁ W₁ h₁ tk₁ ra hs x₁ R₁ rep₁) (fun v s' q=>q.back (tk:=tk₁) x₁) fun v s' q=>q.back (tk:=tk₁) x₁
theorem At.units(a:At prog w g D A fl fr env O W σ s.heap):A.units+2<cLine:=by
 have' this:=a.ok.un
 skip
 exact eq__3 [_,_] (.lt (.a Z0 (.n 2)) (.n 9900)) (.le (.a Z0 (.m 100 Z1)) (.n 9000)) rfl this
theorem eq__620(H:rO prog w g T D n)(a:At prog w g D A fl fr env O W σ s.heap){l r:Ag}(hs:((ev T n fr l σ).bind fun a σ₁=>(ev T n fr r σ₁).bind fun b σ₂=>sQ T pos op a b σ₂)≠.stuck):
  Snd prog w g Rep A (eval (.BinOp l op r pos) env) ((ev T n fr l σ).bind fun a σ₁=>(ev T n fr r σ₁).bind fun b σ₂=>sQ T pos op a b σ₂) W s:=by
 refine wpAny_BinOp (eq__96 (G:=fun ra rb Q E s=>wpAny (model prog w) A (binaryOp op ra rb) Q E s) (fun l r=>r.mono l) aE hs (fun h=>H _ _ _ _ _ _ _ _ _ a h) (fun v σ₁ W₁ h₁ tk₁ ra h x R rep=>H _ _ _ _ _ _ _ _ _ (a.step x R) h) fun x y σ₂ W₂ h₂ tk₂ ra rb h x R rep rep'=>eq__599 R h rep rep')
theorem eq__621(H:rO prog w g T D n)(a:At prog w g D A fl fr env O W σ s.heap){l r:Ag}{op:CmpOp}(hm:behindInMarks op r=false)(hs:((ev T n fr l σ).bind fun a σ₁=>(ev T n fr r σ₁).bind fun b σ₂=>(match qN σ₂ op a b with|some c=>(.ok (.bool c) σ₂:Out St Val)|none=>.stuck))≠.stuck):
  Snd prog w g Rep A (eval (.Compare l [op] [r] pos) env) ((ev T n fr l σ).bind fun a σ₁=>(ev T n fr r σ₁).bind fun b σ₂=>(match qN σ₂ op a b with|some c=>(.ok (.bool c) σ₂:Out St Val)|none=>.stuck)) W s:=by
 refine wpAny_Compare1 (eq__96 (G:=fun ra rb Q E s=>wpAny (model prog w) A (compareOp op ra rb) Q E s) (fun l r=>r.mono l) aE hs (fun h=>H _ _ _ _ _ _ _ _ _ a h) (fun v σ₁ W₁ h₁ tk₁ ra h x R rep=>H _ _ _ _ _ _ _ _ _ (a.step x R) h) fun x y σ₂ W₂ h₂ tk₂ ra rb h x R rep rep'=>?_) hm
 split at h
 ·rename_i c hc;exact eq__219 R hc rep rep' a.units fun tk=>Post.same R (eq__63.mpr rfl)
 ·exact absurd rfl h
theorem eq__622(H:rO prog w g T D n)(a:At prog w g D A fl fr env O W σ s.heap){l r:Ag}{op:CmpOp}{whole:Sem Af}(hm:behindInMarks op r=false)(hs:((ev T n fr l σ).bind fun a σ₁=>(ev T n fr r σ₁).bind fun b σ₂=>(match qN σ₂ op a b with|some c=>(.ok c σ₂:Out St Bool)|none=>.stuck))≠.stuck):
  Snd prog w g (fun _(a b:Bool)=>a=b) A (isTrue (.Compare l [op] [r] pos) env whole) ((ev T n fr l σ).bind fun a σ₁=>(ev T n fr r σ₁).bind fun b σ₂=>(match qN σ₂ op a b with|some c=>(.ok c σ₂:Out St Bool)|none=>.stuck)) W s:=by
 refine wpAny_isTrue_Compare1 (eq__96 (G:=fun ra rb Q E s=>wpAny (model prog w) A (compareOp op ra rb) (fun c s₃=>wpAny (model prog w) A (truthy c) Q E s₃) E s) (fun l r=>r.mono l)
  (fun h q e=>aE h (fun _ _ h=>aE h q e) e) hs (fun h=>H _ _ _ _ _ _ _ _ _ a h) (fun v σ₁ W₁ h₁ tk₁ ra h x R rep=>H _ _ _ _ _ _ _ _ _ (a.step x R) h) fun x y σ₂ W₂ h₂ tk₂ ra rb h x R rep rep'=>?_) hm
 split at h
 ·rename_i c hc;exact eq__219 R hc rep rep' a.units fun tk=>lT (Post.same R rfl)
 ·exact absurd rfl h
set_option tactic.hygienic true in
theorem eq__623{t:Sem Af}{r:Out St Val}(hs:(r.bind fun v σ₁=>(match pN σ₁ v with|some b=>(.ok b σ₁:Out St Bool)|none=>.stuck))≠.stuck)(p:r≠.stuck→Snd prog w g Rep A t r W s):
  wpAny (model prog w) A t (fun v s₁=>wpAny (model prog w) A (truthy v) (Post prog w g (fun _(a b:Bool)=>a=b) (r.bind fun v σ₁=>(match pN σ₁ v with|some b=>(.ok b σ₁:Out St Bool)|none=>.stuck)) W s)
   (PostX prog w g (r.bind fun v σ₁=>(match pN σ₁ v with|some b=>(.ok b σ₁:Out St Bool)|none=>.stuck)) W s) s₁) (PostX prog w g (r.bind fun v σ₁=>(match pN σ₁ v with|some b=>(.ok b σ₁:Out St Bool)|none=>.stuck)) W s) s:=by
 refine one (G:=fun ra Q E s=>wpAny (model prog w) A (truthy ra) Q E s) aE hs p fun v σ₁ W₁ h₁ tk₁ ra h x R rep=>?_
 split at h
 ·rename_i b hb;exact eq__220 R hb rep fun tk=>Post.same R rfl
 ·exact absurd rfl h
end
variable{o:Ag}{es:List Ag}
section
theorem eq__337(B:pS prog w g K T D)(R:Rel prog w g W σ s.heap)(F:FrRel W fr env O s.heap){x:Str}(hx:look x T.glob=some v)(hk:fr.kind x=some .globalImplicit)(hn:notDebug x=true)(h:∀rv,Rep W v rv→Q rv s):wpAny (model prog w) A (eval (.Name x pos) env) Q E s:=by
 simp only[notDebug,aF,dE]at hn
 have kk:env.kindOf x=fr.kind x:=by unfold e9 Fr.kind;rw[F.scope]
 (refine eq__17 B.glob fun mg mb h1 h2 h3=>?_)
 refine eq__1 (h3 x v hx) fun rv e rep=>?_
 refine Calls.Name_function_global F.kind (kk.trans hk) ?_ hn.1
 have q:=h rv (rep W R.gnd)
 rcases e with e|⟨e,e'⟩
 ·exact Calls.loadGlobal_global (by exact(F.glob)▸h1.keeps R.stays) e q
 ·exact Calls.loadGlobal_builtin (by rw[F.glob];exact h1.keeps R.stays) e (by exact(F.bi)▸h2.keeps R.stays) e' q
theorem eq__97(B:pS prog w g K T D)(R:Rel prog w g W σ s.heap)(F:FrRel W fr env O s.heap){x:Str}(e:nameV T fr x=some v)(h:∀rv,Rep W v rv→Q rv s):
  wpAny (model prog w) A (eval (.Name x pos) env) Q E s:=by
 intros n11 X g X K X D X W X σ X O X B X R X F EQ E Ad s Ae A EQ Q Aa prog Ab w Val v Pos pos Fr fr Ai env Tab T Str x
 unfold nameV at e
 by_cases hn:notDebug x=true
 ·rw[if_pos hn]at e;cases hu:look x fr.vars with
  |some u=>
   rw[hu]at e;dsimp only at e;by_cases hk:fr.kind x=some .local∨fr.kind x=some .cell∨fr.kind x=some .free;·rw[if_pos hk]at e;exact eq__207 F (hu.trans e) hk hn h
   ·rw[if_neg hk]at e;(injection e)
  |none=>
   rw[hu]at e;have' e:(if fr.kind x=some .globalImplicit∧notDebug x=true then look x T.glob else none)=some v:=e;by_cases hk:fr.kind x=some .globalImplicit∧notDebug x=true
   ·rw[if_pos hk]at e;exact eq__337 B R F e hk.1 hk.2 h
   ·rw[if_neg hk]at e;(injection e)
 ·rw[if_neg hn]at e;(injection e)
theorem eq__624(H:rO prog w g T D n):sY prog w g T D (n+1):=fun fr e σ W s env O A fl a hs=>by
 cases e with
 |none=>exact lI (Post.still a.rel (eq__53.mpr rfl))
 |some e=>exact evalPart_some_step (H _ _ _ _ _ _ _ _ _ a hs)
theorem eq__625:sY prog w g T D 0:=fun fr e σ W s env O A fl a hs=>by
 cases e with
 |none=>exact lI (Post.still a.rel (eq__53.mpr rfl))
 |some e=>exact absurd rfl hs
theorem eq__626{h:Ag→EM}{e:Ag}{r:List Ag}:pQ h (e::r) σ=(h e σ).bind fun v σ'=>(pQ h r σ').bind fun vs σ''=>.ok (v::vs) σ'':=rfl
theorem eq__627{h:Ag→EM}{x:Str}{e:Ag}{r:List Keyword}:rR h (⟨some x,e,p⟩::r) σ=(h e σ).bind fun v σ'=>(rR h r σ').bind fun vs σ''=>.ok ((x,v)::vs) σ'':=rfl
theorem eq__893(h:¬b=true):b=false:=by cases b;rfl;exact absurd rfl h
set_option tactic.hygienic true in
theorem eq__338{attr:Str}{x:Sem Af}(hb:pO o=true):attributeBase o attr env x=x:=by
 cases o<;>first|rfl|skip
 rename_i f args kws p
 cases f<;>first|rfl|skip
 cases args<;>first|rfl|skip
 cases kws<;>first|rfl|exact(aC hb).elim
theorem eq__146(H:rO prog w g T D n):∀(es:List Ag)(σ:St)(W:Wd)(s:Ad)(pos:Pos),es.any pA=false→At prog w g D A fl fr env O W σ s.heap→pQ (ev T n fr) es σ≠.stuck→
  Snd prog w g RepL A (spliced (backTo pos (starEach es env))) (pQ (ev T n fr) es σ) W s
 |[],σ,W,s,pos,_,a,_=>dP (Post.still a.rel (RepL.nil.mpr rfl))
 |e::r,σ,W,s,pos,hst,a,hs=>by
  simp only[bS,fO]at hst;refine(?_:(backTo pos (starEach (e::r) env)=(false,eval e env)::backTo pos (starEach r env))→_) ?_;rotate_left;·
   clear hs;cases e<;>first|rfl|exact(aC hst.1.symm).elim
  intro e1;rw[e1];rw[eq__626]at hs⊢;refine dM (eq__96 (G:=fun ra rb Q E s=>Q (ra::rb) s) (fun l r=>r.mono l) (fun h q _=>q _ _ h) hs (fun h=>H _ _ _ _ _ _ _ _ _ a h) (fun v σ₁ W₁ h₁ tk₁ ra h x R rep=>eq__146 H r σ₁ W₁ _ pos hst.2 (a.step x R) h) fun x y σ₂ W₂ h₂ tk₂ ra rb h x R rep rep'=>?_);exact Post.still R (RepL.cons.mpr (eq__24 _ _ rfl rep rep'))
theorem eq__339(H:rO prog w g T D n)(pos:Pos):∀(ks:List Keyword)(σ:St)(W:Wd)(s:Ad),ks.all (fun k=>k.arg.isSome)=true→At prog w g D A fl fr env O W σ s.heap→rR (ev T n fr) ks σ≠.stuck→
  Snd prog w g (fun W(a:List (Str×Val))b=>RepL W (a.map (·.2)) b∧a.map (·.1)=ks.filterMap (·.arg)) A (evalAll ((backToKw pos (keywordEach ks env)).map (·.2))) (rR (ev T n fr) ks σ) W s
 |[],σ,W,s,_,a,_=>dF (Post.still a.rel ⟨RepL.nil.mpr rfl,rfl⟩)
 |⟨none,e,p⟩::r,σ,W,s,hk,a,hs=>by simp at hk
 |⟨some x,e,p⟩::r,σ,W,s,hk,a,hs=>by
  have' hk':r.all (fun k=>k.arg.isSome)=true:=hk;rw[eq__627]at hs⊢;have e1:(backToKw pos (keywordEach (⟨some x,e,p⟩::r) env)).map (·.2)=(do let v←eval e env;standAt pos;pure v)::(backToKw pos (keywordEach r env)).map (·.2):=rfl;simp only[e1];refine wpAny_evalAll_cons (a8 (aE (eq__96 (R3:=fun W(a:List (Str×Val))b=>RepL W (a.map (·.2)) b∧a.map (·.1)=(⟨some x,e,p⟩::r:List Keyword).filterMap (·.arg)) (G:=fun ra rb Q E s=>Q (ra::rb) s) (fun l r=>r.mono l) (fun h q _=>q _ _ h) hs (fun h=>H _ _ _ _ _ _ _ _ _ a h)
   (fun v σ₁ W₁ h₁ tk₁ ra h x R rep=>eq__339 H pos r σ₁ W₁ _ hk' (a.step x R) h) fun u us σ₂ W₂ h₂ tk₂ ra rb h x R rep rep'=>?_) (fun v s₁ h₁=>a8 (cP (aS h₁))) fun _ _ x=>x));exact Post.still R ⟨RepL.cons.mpr (eq__24 _ _ rfl rep rep'.1),by simp[rep'.2]⟩
theorem eq__628(H:rO prog w g T D n)(a:At prog w g D A fl fr env O W σ s.heap)(hst:es.any pA=false)(hs:((pQ (ev T n fr) es σ).bind fun vs σ₁=>mkList T pos vs σ₁)≠.stuck):
  Snd prog w g Rep A (eval (.List es pos) env) ((pQ (ev T n fr) es σ).bind fun vs σ₁=>mkList T pos vs σ₁) W s:=by
 refine wpAny_List (one (G:=fun(rvs:List Af)(Q:Af→Ad→Prop)(E:Af→Ad→Prop)s₁=>rvs.length≤sizeLine∧Q (.ref s₁.heap.objs.size) {s₁ with heap:=s₁.heap.push {cls:=.type "list",data:=.seq rvs.toArray}}) (fun h q _=>⟨h.1,q _ _ h.2⟩) hs
  (fun h=>eq__146 H es σ W s pos hst a h) fun vs σ₁ W₁ h₁ tk₁ rvs h x R rep=>⟨?_,eq__221 R h rep⟩)
 have' hl:=rep.len
 unfold mkList at h
 split at h
 ·rename_i hz;exact(hl)▸eq__106 hz
 ·exact absurd rfl h
theorem eq__629(H:rO prog w g T D n)(a:At prog w g D A fl fr env O W σ s.heap)(hst:es.any pA=false)(hs:((pQ (ev T n fr) es σ).bind fun vs σ₁=>if vs.length≤lim then(.ok (.tup vs) σ₁:Out St Val)else .stuck)≠.stuck):
  Snd prog w g Rep A (eval (.Tuple es k pos) env) ((pQ (ev T n fr) es σ).bind fun vs σ₁=>if vs.length≤lim then(.ok (.tup vs) σ₁:Out St Val)else .stuck) W s:=by
 refine wpAny_Tuple (one (G:=fun(rvs:List Af)(Q:Af→Ad→Prop)(E:Af→Ad→Prop)s₁=>rvs.length≤sizeLine∧Q (.ref s₁.heap.objs.size) {s₁ with heap:=s₁.heap.push {cls:=.type "tuple",data:=.seq rvs.toArray}}) (fun h q _=>⟨h.1,q _ _ h.2⟩) hs
  (fun h=>eq__146 H es σ W s pos hst a h) fun vs σ₁ W₁ h₁ tk₁ rvs h x R rep=>?_)
 have' hl:=rep.len
 split at h
 ·rename_i hz;rw[if_pos hz];refine⟨by exact(hl)▸eq__106 hz,?_⟩;obtain⟨R',x',l⟩:_:=R.newImm (eq__48 h₁) (eq__138 _) (bO h₁ (o:={cls:=.type "tuple",data:=.seq rvs.toArray}) rfl);exact Post.at x' R' (eq__80.mpr (eq__67 _ _ rvs 0 ⟨rfl,Wd.put_self ..,rfl,rfl,rep.mono l,hz⟩))
 ·exact absurd rfl h
theorem eq__630(B:pS prog w g K T D)(a:At prog w g D A fl fr env O W σ s.heap):
  Snd prog w g Rep A (eval (.Dict [] [] pos) env) (if T.chg pos then .ok (.ref σ.length) (σ++[.dict [] 0])else .ok .dct0 σ) W s:=by
 intros n9 X K X D X A X env X fl X fr X O X B X a Ad s Aa prog Ab w Wd W St σ Ac g Pos pos Tab T
 refine wpAny_Dict_empty ?_
 have R:=a.rel
 have ne:(s.heap.objs.size==sysModules)=false:=by
  refine eq__31 B.sys fun b o e lt=>?_;have' this:=cG (R.stays _ _ e);exact beq_eq_false_iff_ne.mpr (eE (Nat.lt_trans lt this))
 have e:(s.heap.push {cls:=.type "dict",data:=.dict #[]}).get? s.heap.objs.size=some {cls:=.type "dict",data:=.dict #[]}:=bO _ rfl
 split
 ·refine eq__56 (R.newCell (c:=.dict [] 0) (eq__48 _) (eq__138 _) ⟨_,e⟩
   ⟨[],⟨_,#[],e,⟨rfl,rfl,rfl⟩,rfl,(by intro e he;simp at he),.nil,by decide⟩,RepL.nil.mpr rfl,(by decide),ne,(by decide)⟩) fun R' x' l=>?_;exact Post.at (tk:=s.toks) x' R' (eq__35.mpr ⟨_,rfl,Wd.put_self ..⟩)
 ·refine eq__56 (R.newImm (eq__48 _) (eq__138 _) e) fun R' x' l=>?_;exact Post.at (tk:=s.toks) x' R' (eq__170.mpr (eq__7 _ rfl (Wd.put_self ..) ne))
theorem eq__340{value:Ag}{attr:Str}(hb:pO value=true)(h:wpAny (model prog w) A (eval value env) (fun o s₁=>wpAny (model prog w) A (getAttr o attr true) Q E s₁) E s):wpAny (model prog w) A (eval (.Attribute value attr pos) env) Q E s:=by
 show wpAny _ _ (do
  let o←attributeBase value attr env (eval value env)
  standAt pos.atName
  let r←holding [o] (getAttr o attr true)
  letTemporaryGo value o r
  pure r) _ _ _
 rw[eq__338 hb]
 refine a8 (aE h (fun o s₁ h₁=>a8 (cP (a8 (c6 (aE h₁ (fun r s₂ h₂=>a8 (wpAny_letTemporaryGo (aS h₂))) fun _ _ x=>x))))) fun _ _ x=>x)
end
variable{P:Ag→Prop}{ov:Val}
section
theorem eq__98{r:Out St α}{F:α→St→Out St β}{v:β}(h:r.bind F=.ok v σ'):∃a σ₁,r=.ok a σ₁∧F a σ₁=.ok v σ':=by
 cases r with
 |ok a σ₁=>exact eq__28 a σ₁ rfl h
 |exc k σ₁=>(injection h)
 |stuck=>(injection h)
theorem eq__68{v:α}{P:Prop}(h:(Out.stuck:Out St α)=.ok v σ'):P:=by(injection h)
theorem eq__341{x:Str}{r:Out St Val}(he:sH T σ ov x=r)(hs:r≠.stuck):∃v k C fs,r=.ok v σ∧ov=.ref k∧look x fs=some v∧((σ[k]?=some (.inst C fs)∧T.hasAttr C x=true)∨(σ[k]?=some (.exn C fs)∧T.hasAttrE C x=true)):=by
 intros n4 X ov X r St σ Tab T Str x
 cases ov with
 |ref k=>
  intros n3 X r Nat k;have' he:(match σ[k]? with|some (.inst C fs)=>(match look x fs with|some v=>if T.hasAttr C x then Out.ok v σ else .stuck|none=>.stuck)|some (.exn C fs)=>(match look x fs with|some v=>if T.hasAttrE C x then .ok v σ else .stuck|none=>.stuck)|_=>.stuck)=r:=he;have one:∀{fs:List (Str×Val)}{t:Bool},(match look x fs with|some v=>if t then Out.ok v σ else .stuck|none=>.stuck)=r→∃v,r=.ok v σ∧look x fs=some v∧t=true:=fun{fs t}h=>by
   cases hl:look x fs with
   |none=>rw[hl]at h;exact absurd h.symm hs
   |some u=>
    replace h:=(hl)▸h;cases t with
    |false=>exact absurd h.symm hs
    |true=>exact eq__7 u h.symm rfl rfl
  cases hk:σ[k]? with
  |none=>rw[hk]at he;exact absurd he.symm hs
  |some c=>
   replace he:=(hk)▸he;cases c with
   |inst C fs=>rcases one he with⟨v,h1,h2,h3⟩;exact⟨v,k,C,fs,h1,rfl,h2,.inl ⟨hk,h3⟩⟩
   |exn C fs=>rcases one he with⟨v,h1,h2,h3⟩;exact⟨v,k,C,fs,h1,rfl,h2,.inr ⟨hk,h3⟩⟩
   |_=>exact absurd he.symm hs
 |_=>exact absurd he.symm hs
theorem eq__342(B:pS prog w g K T D)(R:Rel prog w g W σ s.heap){expr:Bool}{r:Out St Val}(rep:Rep W ov ro)(he:sH T σ ov name=r)(hs:r≠.stuck):∃v,r=.ok v σ∧∀{Q:Af→Ad→Prop},(∀rv tk,Rep W v rv→Q rv {s with toks:=tk})→wpAny (model prog w) A (getAttr ro name expr) Q E s:=by
 (refine eq__303 (eq__341 he hs) fun v k C fs e1 q1_ hl h=>?_;subst q1_)
 refine eq__2 v e1 (fun{Q}hQ=>?_)
 refine eq__1 (eq__35.mp rep) fun a q1_ hw=>?_;subst q1_
 refine eq__1 (R.cell a k hw) fun c hcell q=>?_
 rcases h with⟨hk,hT⟩|⟨hk,hT⟩
 ·rw[hk]at hcell;rcases a6 hcell with rfl;exact eq__605 R B.kin B.kit q hl hT hQ
 ·rw[hk]at hcell;rcases a6 hcell with rfl;exact eq__611 R B.kin B.kit q hl hT hQ
theorem eq__631(B:pS prog w g K T D)(R:Rel prog w g W σ s.heap)(rep:Rep W ov ro)(hs:sH T σ ov name≠.stuck):
  wpAny (model prog w) A (getAttr ro name expr) (Post prog w g Rep (sH T σ ov name) W s) E s:=by
 (refine eq__1 (eq__342 (A:=A) (E:=E) (expr:=expr) B R rep rfl hs) fun v e1 h=>?_)
 exact(e1)▸h fun rv tk r=>Post.same R r
theorem eq__632(B:pS prog w g K T D)(H:rO prog w g T D n)(a:At prog w g D A fl fr env O W σ s.heap)(hb:pO o=true)(hs:((ev T n fr o σ).bind fun ov σ₁=>sH T σ₁ ov name)≠.stuck):
  Snd prog w g Rep A (eval (.Attribute o name pos) env) ((ev T n fr o σ).bind fun ov σ₁=>sH T σ₁ ov name) W s:=
 eq__340 hb (one (G:=fun ra Q E s=>wpAny (model prog w) A (getAttr ra name true) Q E s) aE hs (fun h=>H _ _ _ _ _ _ _ _ _ a h) fun v σ₁ W₁ h₁ tk₁ ra h x R rep=>eq__631 B R rep h)
theorem eq__633(H:rO prog w g T D n)(a:At prog w g D A fl fr env O W σ s.heap){i:Ag}(ns:∀x y,subscripted i false x y=operate [x,y] (getItem x y))(hs:((ev T n fr o σ).bind fun ov σ₁=>(ev T n fr i σ₁).bind fun iv σ₂=>(match r8 σ₂ ov iv with|some v=>(.ok v σ₂:Out St Val)|none=>.stuck))≠.stuck):
  Snd prog w g Rep A (eval (.Subscript o i pos) env) ((ev T n fr o σ).bind fun ov σ₁=>(ev T n fr i σ₁).bind fun iv σ₂=>(match r8 σ₂ ov iv with|some v=>(.ok v σ₂:Out St Val)|none=>.stuck)) W s:=by
 refine eq__601 ns (eq__96 (G:=fun ra rb Q E s=>SubscriptOn (model prog w) A ra rb Q E s) (fun l r=>r.mono l) (fun h q e=>eq__17 h fun T id h1 h2 h3=>⟨T,id,h1,h2,aE h3 q e⟩) hs (fun h=>H _ _ _ _ _ _ _ _ _ a h)
  (fun v σ₁ W₁ h₁ tk₁ ra h x R rep=>H _ _ _ _ _ _ _ _ _ (a.step x R) h) fun x y σ₂ W₂ h₂ tk₂ ra rb h x R rep rep'=>?_)
 split at h
 ·rename_i v hv;exact eq__603 R hv rep rep' fun rv tk r=>Post.same R r
 ·exact absurd rfl h
theorem eq__634{l u:Val}{r:Out St Val}(hr:qS T pos σ ov l u=r)(hs:r≠.stuck):
  ∃vs lo hi,pB σ ov=some vs∧sC l=some lo∧sC u=some hi∧((lo.all (0≤·))=true∧(hi.all (0≤·))=true)∧r=mkList T pos ((vs.take ((hi.map dL).getD vs.length)).drop ((lo.map dL).getD 0)) σ:=by
 intros n3 X r St σ Pos pos Tab T Val ov Val l Val u
 have' hr:(match pB σ ov,sC l,sC u with|some vs,some l,some u=>(match tW vs l u with|some r=>mkList T pos r σ|none=>.stuck)|_,_,_=>.stuck)=r:=hr
 cases hv:pB σ ov with
 |none=>rw[hv]at hr;exact absurd hr.symm hs
 |some vs=>
  cases hl:sC l with
  |none=>rw[hv,hl]at hr;exact absurd hr.symm hs
  |some lo=>
   cases hu:sC u with
   |none=>rw[hv,hl,hu]at hr;exact absurd hr.symm hs
   |some hi=>
    rw[hv,hl,hu]at hr;have' hr:(match(if((lo.all (0≤·))&&(hi.all (0≤·)))=true then some ((vs.take ((hi.map dL).getD vs.length)).drop ((lo.map dL).getD 0))else none)with|some r=>mkList T pos r σ|none=>.stuck)=r:=hr;by_cases hb:((lo.all (0≤·))&&(hi.all (0≤·)))=true
    ·rw[if_pos hb]at hr;exact eq__201 vs lo hi rfl rfl rfl (eA.mp hb) hr.symm
    ·rw[if_neg hb]at hr;exact absurd hr.symm hs
theorem eq__635(H:rO prog w g T D n)(P:sY prog w g T D n)(a:At prog w g D A fl fr env O W σ s.heap){lo hi:Option Ag}(hs:((ev T n fr o σ).bind fun ov σ₁=>(qT T n fr lo σ₁).bind fun l σ₂=>(qT T n fr hi σ₂).bind fun u σ₃=>qS T pos σ₃ ov l u)≠.stuck):
  Snd prog w g Rep A (eval (.Subscript o (.Slice lo hi none p) pos) env) ((ev T n fr o σ).bind fun ov σ₁=>(qT T n fr lo σ₁).bind fun l σ₂=>(qT T n fr hi σ₂).bind fun u σ₃=>qS T pos σ₃ ov l u) W s:=by
 refine eq__602 (one (R1:=Rep) (R3:=Rep) (G:=fun ra Q E s=>wpAny (model prog w) A (evalPart lo env) (fun vl s₂=>wpAny (model prog w) A (evalPart hi env) (fun vu s₃=>
   ∃l items lo hi,ra=.ref l∧s₃.heap.IsList l items∧items.size≤sizeLine∧IsPart vl lo∧IsPart vu hi∧
    Q (.ref (s₃.heap.objs.size+1)) {s₃ with heap:=(s₃.heap.push {cls:=.type "slice",data:=.fields #[vl,vu,.none]}).push {cls:=.type "list",data:=.seq (slicePick items lo hi none)}}) E s₂) E s)
  (fun h q e=>aE h (fun _ _ h=>aE h (fun _ _ h=>eq__71 h fun l items lo hi h1 h2 h3 h4 h5 h6=>(eq__67 l items lo hi ⟨h1,h2,h3,h4,h5,q _ _ h6⟩)) e) e) hs (fun h=>H _ _ _ _ _ _ _ _ _ a h) fun ov σ₁ W₁ h₁ tk₁ ra h x R rep=>?_)
 refine eq__96 (R1:=Rep) (R2:=Rep) (R3:=Rep) (G:=fun vl vu Q E s₃=>∃l items lo hi,ra=.ref l∧s₃.heap.IsList l items∧items.size≤sizeLine∧IsPart vl lo∧IsPart vu hi∧
    Q (.ref (s₃.heap.objs.size+1)) {s₃ with heap:=(s₃.heap.push {cls:=.type "slice",data:=.fields #[vl,vu,.none]}).push {cls:=.type "list",data:=.seq (slicePick items lo hi none)}})
  (fun l r=>r.mono l) (fun h q _=>eq__71 h fun l items lo hi h1 h2 h3 h4 h5 h6=>(eq__67 l items lo hi ⟨h1,h2,h3,h4,h5,q _ _ h6⟩)) h (fun h=>P _ _ _ _ _ _ _ _ _ (a.step x R) h)
  (fun v σ₁ W₁ h₁ tk₁ ra h x' R' rep=>P _ _ _ _ _ _ _ _ _ ((a.step (s:=s) x R).step (s:={s with heap:=_,toks:=tk₁}) x' R') h) fun l u σ₃ W₃ h₃ tk₃ rl ru h x' R' rep1 rep2=>?_
 (refine eq__163 (eq__634 rfl h) fun vs lo' hi' hv hl hu hb e0=>?_)
 rw[e0]at h⊢
 (refine eq__25 (eq__43 (s:={s with heap:=h₃,toks:=tk₃}) R' hv (rep.mono (R.le x'))) fun b rvs q1_ il q z=>?_;subst q1_)
 have' hlen:=q.len
 refine eq__67 b rvs.toArray lo' hi' ⟨rfl,il,by simp only[cX,hlen];exact eq__106 z,eq__327 hl rep1,eq__327 hu rep2,?_⟩
 rw[eq__604 _ _ _ hb.1 hb.2,hlen]
 have e1:(h₃.push {cls:=.type "slice",data:=.fields #[rl,ru,.none]}).objs.size=h₃.objs.size+1:=gO ..
 have' k1:=fun b o(e:h₃.get? b=some o)=>bE {cls:=.type "slice",data:=.fields #[rl,ru,.none]} e
 refine(?_:(h₃.get? (h₃.objs.size+1)=none)→_) ?_
 rotate_left
 ·
  cases e:h₃.get? (h₃.objs.size+1)with
  |none=>rfl
  |some o'=>exact absurd (cG e) (Nat.not_lt_of_le (fY _))
 intro fresh
 generalize h₃.push {cls:=.type "slice",data:=.fields #[rl,ru,.none]}=h₄ at e1 k1⊢
 exact eq__173 (s:={s with heap:=h₃,toks:=tk₃}) (tk:=tk₃) (pos:=pos) (T:=T) R' h (q:=((q.take ((hi'.map dL).getD vs.length)).drop ((lo'.map dL).getD 0))) (a:=h₃.objs.size+1)
  (h':=h₄.push (tV ((rvs.take ((hi'.map dL).getD vs.length)).drop ((lo'.map dL).getD 0)) 0)) (n:=0) fresh (fun b o e=>bE _ (k1 b o e)) (by refine a9 (congrArg _ (bH (e1))) ?_;exact bO _ rfl)
def PartsAt(prog:Aa)(w:Ab)(g:Ac)(T:Tab)(D n:Nat)(fr:Fr)(env:Ai)(O:List Addr)(A:Ae)(fl:List Ai)(ps:List Ag):Prop:=∀(m:Nat)(out:Str)(σ:St)(W:Wd)(s:Ad),out.length≤m→m≤10000→At prog w g D A fl fr env O W σ s.heap→pI (ev T n fr) ps m σ≠.stuck→
  Snd prog w g (fun _ _ _=>True) A (joinParts out (evalEach ps env)) (pI (ev T n fr) ps m σ) W s
theorem PartsAt.go{r:List Ag}(ih:PartsAt prog w g T D n fr env O A fl r){m:Nat}{out y:Str}{tk:Nat}(ho:out.length≤m)(hk:y.length+m≤10000)(a:At prog w g D A fl fr env O W σ s.heap)(hs:pI (ev T n fr) r (y.length+m) σ≠.stuck):
  (out++y).length≤sizeLine∧wpAny (model prog w) A (joinParts (out++y) (evalEach r env)) (Post prog w g (fun _ _ _=>True) (pI (ev T n fr) r (y.length+m) σ) W s) (PostX prog w g (pI (ev T n fr) r (y.length+m) σ) W s) {s with toks:=tk}:=by
 have' big:10000≤sizeLine:=by decide
 have hl:(out++y).length≤y.length+m:=by rw[Str.length_append];exact eq__3 [_,_,_] (.le (.a Z0 Z1) (.a Z1 Z2)) (.le Z0 Z2) rfl ho
 exact⟨aL hl (aL hk big),aE (ih (y.length+m) (out++y) σ W {s with toks:=tk} hl hk a hs) (fun _ _ q=>q.back (tk:=tk) (Ext.refl _ _ _)) fun _ _ q=>q.back (tk:=tk) (Ext.refl _ _ _)⟩
set_option backward.match.sparseCases true in
def StrThen(P:Str→Ad→Prop)(v:Af)(s:Ad):Prop:=match v with|.str y _=>P y s|_=>False
set_option tactic.hygienic true in
theorem StrThen.mono{P P':Str→Ad→Prop}{v:Af}(h:∀y s,P y s→P' y s):StrThen P v s→StrThen P' v s:=by cases v<;>first|exact h _ _|exact id
theorem eq__636{r:List Ag}(ih:PartsAt prog w g T D n fr env O A fl r){x:Str}{q:Pos}:PartsAt prog w g T D n fr env O A fl (.Constant (.str x) k q::r):=by
 intro m out σ W s ho hm a hs
 have' e0:pI (ev T n fr) (.Constant (.str x) k q::r) m σ=if x.length+m≤10000 then pI (ev T n fr) r (x.length+m) σ else .stuck:=rfl
 rw[e0]at hs⊢
 by_cases hx:x.length+m≤10000
 ·rw[if_pos hx]at hs⊢;exact joinParts_cons (iI (ih.go ho hx a hs))
 ·rw[if_neg hx]at hs;exact absurd rfl hs
theorem eq__637(H:rO prog w g T D n){r:List Ag}(ih:PartsAt prog w g T D n fr env O A fl r){e:Ag}{c:Int}{q:Pos}:PartsAt prog w g T D n fr env O A fl (.FormattedValue e c none q::r):=by
 intros n5 X D X fl X O X H X ih Nat n Ae A Aa prog Ab w Ac g Fr fr Ai env Tab T LE r Ag e Int c Pos q
 intro m out σ W s ho hm a hs
 have' e0:pI (ev T n fr) (.FormattedValue e c none q::r) m σ=if c=-1 then(ev T n fr e σ).bind fun v σ'=>(match rY v m with|some m=>pI (ev T n fr) r m σ'|none=>.stuck)else .stuck:=rfl
 rw[e0]at hs⊢
 by_cases hc:c=-1
 ·clear e0;subst hc;rw[if_pos rfl]at hs⊢;refine joinParts_cons (FormattedValue_plain (one (R1:=Rep) (R3:=fun _ _ _=>True) (G:=fun ra Q E s=>wpAny (model prog w) A (formatField ra Str.empty) (StrThen fun y s₁=>(out++y).length≤sizeLine∧wpAny (model prog w) A (joinParts (out++y) (evalEach r env)) Q E s₁) E s)
   (fun h q e=>aE h (fun v s₁ h=>h.mono fun y s h=>⟨h.1,aE h.2 q e⟩) e) hs (fun h=>H _ _ _ _ _ _ _ _ _ a h) fun v σ₁ W₁ h₁ tk₁ rv h x R rep=>?_));refine(?_:(∃y,v=.str y∧y.length+m≤10000∧(match rY v m with|some m=>pI (ev T n fr) r m σ₁|none=>.stuck)=pI (ev T n fr) r (y.length+m) σ₁)→_) ?_;rotate_left;·
   clear rep;cases v with
   |str y=>
    have e1:rY (.str y) m=if y.length+m≤10000 then some (y.length+m)else none:=rfl;rw[e1]at h⊢;by_cases hy:y.length+m≤10000;·rw[if_pos hy];exact eq__7 y rfl hy rfl
    ·rw[if_neg hy]at h;exact absurd rfl h
   |_=>exact absurd rfl h
  intro plen;rcases plen with⟨y,rfl,hy,e2⟩;rw[e2]at h⊢;obtain⟨t,rfl,z⟩:_:=eq__19.mp rep;exact formatField_str (fun t' tk=>ih.go (s:={s with heap:=h₁,toks:=tk₁}) ho hy (a.step x R) h) (eq__106 z)
 ·rw[if_neg hc]at hs;exact absurd rfl hs
theorem eq__638(h1:∀x k q,P (.Constant (.str x) k q))(h2:∀e c q,P (.FormattedValue e c none q))(bad:∀p,(∀(h:Ag→EM)r m σ,pI h (p::r) m σ=.stuck)→P p)(p:Ag):P p:=by
 cases p with
 |Constant c k q=>
  cases c with
  |str x=>exact h1 _ _ _
  |_=>exact bad _ fun _ _ _ _=>rfl
 |FormattedValue e c spec q=>
  cases spec with
  |none=>exact h2 _ _ _
  |some _=>exact bad _ fun _ _ _ _=>rfl
 |_=>exact bad _ fun _ _ _ _=>rfl
theorem eq__224(H:rO prog w g T D n):∀ps:List Ag,PartsAt prog w g T D n fr env O A fl ps
 |[]=>fun m out σ W s ho hm a _=>joinParts_nil (Post.same a.rel trivial) (aL (aL ho hm) (by decide))
 |p::r=>eq__638 (P:=fun p=>PartsAt prog w g T D n fr env O A fl (p::r)) (fun _ _ _=>eq__636 (eq__224 H r)) (fun _ _ _=>eq__637 H (eq__224 H r)) (fun p h m out σ W s _ _ _ hs=>absurd (h _ _ _ _) hs) p
end
variable{args:List Ag}{kws:List Keyword}{fd:FuncData}
section
theorem eq__123:∀{es:List Ag}{pos:Pos},es.any pA=false→(backTo pos (starEach es env)).any (·.1)=false
 |[],_,_=>rfl
 |e::r,pos,hst=>by
  simp only[bS,fO]at hst;refine(?_:(backTo pos (starEach (e::r) env)=(false,eval e env)::backTo pos (starEach r env))→_) ?_;rotate_left;·
   cases e<;>first|rfl|(injection hst.1)
  intro e1;rw[e1,bS,eq__123 hst.2];rfl
theorem eq__225:∀(ks:List Keyword)(pos:Pos),ks.all (fun k=>k.arg.isSome)=true→((backToKw pos (keywordEach ks env)).all (·.1.isSome)=true∧(backToKw pos (keywordEach ks env)).any (·.1.isNone)=false∧(backToKw pos (keywordEach ks env)).filterMap (·.1)=ks.filterMap (·.arg))
 |[],_,_=>(eq__30 rfl rfl rfl)
 |⟨none,e,p⟩::r,pos,h=>by simp at h
 |⟨some x,e,p⟩::r,pos,h=>by
  have' h':r.all (fun k=>k.arg.isSome)=true:=h;obtain⟨a,b,c⟩:_:=eq__225 r pos h';have e1:backToKw pos (keywordEach (⟨some x,e,p⟩::r) env)=(some x,do let v←eval e env;standAt pos;pure v)::backToKw pos (keywordEach r env):=rfl;rw[e1,cA,bS,a,b];refine eq__30 rfl rfl ?_;rw[bB,bB,c]
theorem eq__99{f:Af}{Q:Args→Ad→Prop}(hst:args.any pA=false)(hk:kws.all (fun k=>k.arg.isSome)=true)(h:wpAny (model prog w) A (spliced (backTo pos (starEach args env))) (fun vs s₁=>wpAny (model prog w) A (evalAll ((backToKw pos (keywordEach kws env)).map (·.2))) (fun ks s₂=>Q ⟨vs,(kws.filterMap (·.arg)).zip ks⟩ s₂) E s₁) E s):
  wpAny (model prog w) A (evalArgs f true (backTo pos (starEach args env)) (backToKw pos (keywordEach kws env))) Q E s:=by
 intros n6 X s X E X Q Ae A Aa prog Ab w Pos pos Ai env LE args LK kws Af f
 refine eq__56 (eq__225 (env:=env) kws pos hk) fun a _ c=>?_
 replace h:=(bH (c))▸h
 cases args with
 |nil=>
  have' h0:wpAny (model prog w) A (spliced []) (fun vs s₁=>wpAny (model prog w) A (evalAll ((backToKw pos (keywordEach kws env)).map (·.2))) (fun ks s₂=>Q ⟨vs,((backToKw pos (keywordEach kws env)).filterMap (·.1)).zip ks⟩ s₂) E s₁) E s:=h;exact evalArgs_kw_nil a (by
   intro Γ p hΓ;exact h0 Γ p hΓ Γ p hΓ)
 |cons e r=>
  simp only[bS,fO]at hst;refine(?_:(backTo pos (starEach (e::r) env)=(false,eval e env)::backTo pos (starEach r env))→_) ?_;rotate_left;·
   clear h;cases e<;>first|rfl|(injection hst.1)
  intro e1;rw[e1]at h⊢;exact evalArgs_kw a h
theorem eq__639(H:rO prog w g T D n)(a:At prog w g D A fl fr env O W σ s.heap){f:Af}{first:List Af}{F:List Val→List (Str×Val)→St→Out St Val}{P:Ac→Prop}(hst:args.any pA=false)(hk:kws.all (fun k=>k.arg.isSome)=true)(hP:∀h,P h→∃k,(k=jD∨k=iF∨k=gT)∧Looks (model prog w) h (keeperOf f) k)(hs:((pQ (ev T n fr) args σ).bind fun vs σ₁=>(rR (ev T n fr) kws σ₁).bind fun ks σ₂=>F vs ks σ₂)≠.stuck)(p:∀vs ks σ₂ W₂ h₂ tk₂ rvs rks,F vs ks σ₂≠.stuck→Ext [] W s.heap W₂ h₂→Rel prog w g W₂ σ₂ h₂→RepL W₂ vs rvs→RepL W₂ (ks.map (·.2)) rks→P h₂∧
   Snd prog w g Rep A (call f (first++rvs) ((ks.map (·.1)).zip rks)) (F vs ks σ₂) W₂ {s with heap:=h₂,toks:=tk₂}):
  Snd prog w g Rep A (callWith pos f first (backTo pos (starEach args env)) (backToKw pos (keywordEach kws env))) ((pQ (ev T n fr) args σ).bind fun vs σ₁=>(rR (ev T n fr) kws σ₁).bind fun ks σ₂=>F vs ks σ₂) W s:=by
 obtain⟨_,b,_⟩:_:=eq__225 (env:=env) kws pos hk
 refine eR (P:=P) (by rw[eq__123 hst,b];rfl) hP (eq__99 hst hk ?_)
 refine eq__96 (R1:=RepL) (R2:=fun W(a:List (Str×Val))b=>RepL W (a.map (·.2)) b∧a.map (·.1)=kws.filterMap (·.arg)) (R3:=Rep)
  (G:=fun(rvs:List Af)(rks:List Af)(Q:Af→Ad→Prop)(E:Af→Ad→Prop)(s:Ad)=>P s.heap∧wpAny (model prog w) A (call f (first++rvs) ((kws.filterMap (fun k:Keyword=>k.arg)).zip rks)) Q E s) (fun l r=>r.mono l) (fun h q e=>⟨h.1,aE h.2 q e⟩) hs
  (fun h=>eq__146 H args σ W s pos hst a h) (fun vs σ₁ W₁ h₁ tk₁ rvs h x R rep=>eq__339 H pos kws σ₁ W₁ _ hk (a.step x R) h) fun vs ks σ₂ W₂ h₂ tk₂ rvs rks h x R rep rep'=>?_
 have' this:=p vs ks σ₂ W₂ h₂ tk₂ rvs rks h x R rep rep'.1
 replace this:=(rep'.2)▸this
 exact this
theorem eq__107{f:Af}(hf:∀a,f≠.ref a)(h:Ac)(_:True):∃k,(k=jD∨k=iF∨k=gT)∧Looks M h (keeperOf f) k:=by
 refine eq__2 .machine (.inr (.inl rfl)) ?_
 refine(?_:(keeperOf f=pure .machine)→_) ?_
 rotate_left
 ·
  skip;cases f<;>first|rfl|exact absurd rfl (hf _)
 intro this
 exact(this)▸.now
theorem eq__640{o:Obj}(hd:o.data=.func fd)(h:Ac)(e:h.get? a=some o):∃k,(k=jD∨k=iF∨k=gT)∧Looks M h (keeperOf (.ref a)) k:=by
 refine eq__2 .frame (.inl rfl) ?_
 skip
 refine(Looks.ld (part:=none) e).andThen ?_
 exact(hd)▸.now
theorem eq__343{apos:Pos}(hb:pO o=true)(hst:args.any pA=false)(hlen:args.length<20)(hline:(apos.endLine==pos.line)=true)(h:wpAny (model prog w) A (eval o env) (fun ov s₁=>∀pl,wpAny (model prog w) A (getMethod ov name pl) (fun fx s₂=>wpAny (model prog w) A (callWith pos fx.1 fx.2 (backTo pos (starEach args env)) (backToKw pos (keywordEach [] env))) Q E s₂) E s₁) E s):
  wpAny (model prog w) A (eval (.Call (.Attribute o name apos) args [] pos) env) Q E s:=by
 intros n6 X s EQ E Ae A EQ Q Aa prog Ab w Pos pos Ai env Str name Ag o LE args Pos apos
 have hform:methodCallForm (args.length+([]:List Keyword).length) (backTo pos (starEach args env)) (backToKw pos (keywordEach [] env))=true:=by
  unfold methodCallForm;have' h1:=eq__123 (env:=env) (pos:=pos) hst;have h2:(backTo pos (starEach args env)).all (fun x=>!x.1)=true:=by
   rw[lU]at h1;rw[aP];intro x hx;have' this:=h1 x hx;simpa using this
  have h3:decide (args.length+([]:List Keyword).length+(if(backToKw pos (keywordEach [] env)).isEmpty=true then 0 else 1)<30)=true:=by
   have' this:(backToKw pos (keywordEach [] env)).isEmpty=true:=rfl;rw[if_pos this];simp only[bG,decide_eq_true_eq];exact eq__3 [_] (.lt (.a (.a Z0 (.n 0)) (.n 0)) (.n 30)) (.lt Z0 (.n 20)) rfl hlen
  rw[h2,h3];rfl
 have hpos:methodCallPos true o env apos pos=pure pos:=by unfold methodCallPos;simp[hline]
 show wpAny _ _ (do
  let ov←attributeBase o name env (eval o env)
  standAt apos.atName
  methodCall o name apos pos env ov (args.length+([]:List Keyword).length) (backTo pos (starEach args env)) (backToKw pos (keywordEach [] env))) _ _ _
 rw[eq__338 hb]
 refine a8 (aE h (fun ov s₁ h₁=>a8 (cP ?_)) fun _ _ x=>x)
 unfold methodCall
 rw[hform]
 refine a8 (c6 (aE (h₁ _) (fun fx s₂ h₂=>?_) fun _ _ x=>x))
 exact a8 (iG hpos h₂)
end
variable{f:Str}
section
theorem eq__641:∀{l:List Str}{rvs:List Af},qH vs=some l→RepL W vs rvs→l.length=rvs.length∧∀(j:Nat)(x:Str),l[j]?=some x→∃t,rvs[j]?=some (jO x t):=by
 intros n1 X vs Wd W
 induction vs with
 |nil=>
  intro l rvs e q;(injection e with hq_;subst hq_);exact(RepL.nil.mp q)▸⟨rfl,fun j x h=>by simp at h⟩
 |cons v vs ih=>
  intro l rvs e q;(refine eq__17 (RepL.cons.mp q) fun r rs q1_ a b=>?_;subst q1_);clear q;cases v with
  |str z=>
   rcases(aJ (x:=qH vs) (f:=(z::·))).mp e with⟨l',e',rfl⟩;obtain⟨h1,h2⟩:_:=ih e' b;refine eq__1 (eq__19.mp a) fun t q1_ _=>?_;subst q1_;refine⟨by simp[h1],fun j x hj=>?_⟩;cases j with
   |zero=>simp at hj;subst hj;exact⟨t,rfl⟩
   |succ j=>simpa using h2 j x (by simpa using hj)
  |_=>(injection e)
set_option tactic.hygienic true in
theorem eq__124(B:pS prog w g K T D)(R:Rel prog w g W σ s.heap)(F:FrRel W fr env O s.heap){x:Str}{v:Af}(e:pV T fr x=some v)(h:Q v s):
  wpAny (model prog w) A (eval (.Name x pos) env) Q E s:=by
 intros n11 X g X K X D X W X σ X O X B X R X F EQ E Ad s Ae A EQ Q Aa prog Ab w Pos pos Fr fr Ai env Tab T Str x Af v
 unfold pV at e
 cases hv:look x fr.vars with
 |some u=>rw[hv]at e;(injection e)
 |none=>
 rw[hv]at e
 cases hg:globV T fr x with
 |none=>rw[hg]at e;(injection e)
 |some u=>
  rw[hg]at e;cases u with
  |imm u=>
  rcases a6 e with rfl;unfold globV at hg;split at hg
  ·rename_i hk;exact eq__337 B R F hg hk.1 hk.2 fun rv rep=>by exact(eq__88.mp rep)▸h
  ·(injection hg)
  |_=>(injection e)
theorem eq__894(f:Str)(p pos:Pos)(args:List Ag)(kws:List Keyword):
  eval (.Call (.Name f p) args kws pos) env=(do callWith pos (←eval (.Name f p) env) [] (backTo pos (starEach args env)) (backToKw pos (keywordEach kws env))):=rfl
set_option tactic.hygienic true in
theorem eq__642(B:pS prog w g K T D)(H:rO prog w g T D n)(a:At prog w g D A fl fr env O W σ s.heap){f':Str}{p' pos':Pos}{x:Ag}(hx:pA x=false)(h1:pV T fr f=some (.builtin "len"))(h2:pV T fr f'=some (.type "set"))(hs:((ev T n fr x σ).bind fun v σ₁=>qQ σ₁ v)≠.stuck):
  Snd prog w g Rep A (eval (.Call (.Name f p) [.Call (.Name f' p') [x] [] pos'] [] pos) env) ((ev T n fr x σ).bind fun v σ₁=>qQ σ₁ v) W s:=by
 intros n13 X K X D X fl X O X B X H X a X f X p Nat n Ad s Ae A Aa prog Ab w Wd W St σ Ac g Pos pos Fr fr Ai env Tab T Str f' Pos p' Pos pos' Ag x
 skip
 skip
 refine a8 (eq__124 B a.rel a.fr h1 ?_)
 refine eR (P:=fun _=>True) rfl (eq__107 (by intro _ e;(injection e))) (eq__99 (args:=[.Call (.Name f' p') [x] [] pos']) (kws:=[]) rfl rfl ?_)
 refine dM ?_
 refine(?_:wpAny _ _ (eval (.Call (.Name f' p') [x] [] pos') env) _ _ _)
 skip
 refine a8 (eq__124 B a.rel a.fr h2 ?_)
 refine eR (P:=fun _=>True) (by refine(?_:((backTo pos' (starEach [x] env)).any (·.1)||false)=false);rw[eq__123 (by simp[hx])];rfl) (eq__107 (by intro _ e;(injection e))) (eq__99 (args:=[x]) (kws:=[]) (by simp[hx]) rfl ?_)
 have e1:backTo pos' (starEach [x] env)=[(false,eval x env)]:=by clear hs;cases x<;>first|rfl|(injection hx)
 rw[e1]
 have core:=one (prog:=prog) (w:=w) (g:=g) (W:=W) (s:=s) (t1:=eval x env) (r1:=ev T n fr x σ) (F1:=fun v σ₁=>qQ σ₁ v) (R1:=Rep) (R3:=Rep)
  (G:=fun(ra:Af)(Q:Af→Ad→Prop)(E:Af→Ad→Prop)(s:Ad)=>wpAny (model prog w) A (call (.type "set") [ra]) (fun rs s₁=>wpAny (model prog w) A (call (.builtin "len") [rs]) Q E s₁) E s)
  (fun h q e=>aE h (fun _ _ h=>aE h q e) e) hs (fun h=>H _ _ _ _ _ _ _ _ _ a h) (fun v σ₁ W₁ h₁ tk₁ ra h xx R rep=>?_)
 ·refine dM (aE core (fun v s₁ h₁=>dP (dF ⟨trivial,aE h₁ (fun u s₂ h₂=>dP (dF ⟨trivial,h₂⟩)) fun _ _ e=>e⟩)) fun _ _ e=>e)
 ·generalize hr:qQ σ₁ v=r at h⊢;unfold qQ at hr;cases hl:pB σ₁ v with
  |none=>rw[hl]at hr;exact absurd hr.symm h
  |some vs=>
   rw[hl]at hr;simp only[bL]at hr;split at hr
   ·rename_i l hst;split at hr<;>subst hr
    ·rename_i hz;(refine eq__25 (eq__43 (s:={s with heap:=h₁,toks:=tk₁}) R hl rep) fun b rvs q1_ il q z=>?_;subst q1_);obtain⟨hn,hi⟩:_:=eq__641 hst q;refine eq__582 (s:={s with heap:=h₁,toks:=tk₁}) (xs:=l) (by exact a.ok.hd) il (hn) (fun j y hj=>by simpa using hi j y hj) (by skip;exact eq__3 [_] (.lt (.a Z0 (.n 1)) (.n 4096)) (.lt Z0 (.n 4000)) rfl hz) fun h' tk hS k=>?_;obtain⟨R',x'⟩:_:=R.grow k;exact eq__583 (s:={s with heap:=h',toks:=tk}) hS fun tk' tk''=>Post.at x' R' (eq__20.mpr ⟨_,rfl⟩)
    ·exact absurd rfl h
   ·exact absurd hr.symm h
end
section
variable(prog:Aa)(w:Ab)(g:Ac)(T:Tab)(D:Nat)
def u9(n:Nat):Prop:=∀(fr:Fr)(f:Str)(p pos:Pos)(args:List Ag)(kws:List Keyword)(σ:St)(W:Wd)(s:Ad)(env:Ai)(O:List Addr)(A:Ae)(fl:List Ai),
 At prog w g D A fl fr env O W σ s.heap→q9 T n fr f args kws pos σ≠.stuck→Snd prog w g Rep A (eval (.Call (.Name f p) args kws pos) env) (q9 T n fr f args kws pos σ) W s
end
section
theorem eq__125(H:rO prog w g T D n)(a:At prog w g D A fl fr env O W σ s.heap){f:Af}{first:List Af}{F:List Val→St→Out St Val}{P:Ac→Prop}(hst:args.any pA=false)(hP:∀h,P h→∃k,(k=jD∨k=iF∨k=gT)∧Looks (model prog w) h (keeperOf f) k)(hs:((pQ (ev T n fr) args σ).bind fun vs σ₁=>F vs σ₁)≠.stuck)(p:∀vs σ₂ W₂ h₂ tk₂ rvs,F vs σ₂≠.stuck→Ext [] W s.heap W₂ h₂→Rel prog w g W₂ σ₂ h₂→RepL W₂ vs rvs→P h₂∧
   Snd prog w g Rep A (call f (first++rvs)) (F vs σ₂) W₂ {s with heap:=h₂,toks:=tk₂}):
  Snd prog w g Rep A (callWith pos f first (backTo pos (starEach args env)) (backToKw pos (keywordEach [] env))) ((pQ (ev T n fr) args σ).bind fun vs σ₁=>F vs σ₁) W s:=by
 refine eR (P:=P) (by rw[eq__123 hst];rfl) hP (eq__99 (kws:=[]) hst rfl ?_)
 have core:=one (prog:=prog) (w:=w) (g:=g) (W:=W) (s:=s) (A:=A) (R1:=RepL) (R3:=Rep) (t1:=spliced (backTo pos (starEach args env))) (r1:=pQ (ev T n fr) args σ) (F1:=F)
  (G:=fun(rvs:List Af)(Q:Af→Ad→Prop)(E:Af→Ad→Prop)(s:Ad)=>P s.heap∧wpAny (model prog w) A (call f (first++rvs)) Q E s) (fun h q e=>⟨h.1,aE h.2 q e⟩) hs
  (fun h=>eq__146 H args σ W s pos hst a h) (fun vs σ₂ W₂ h₂ tk₂ rvs h x R rep=>p vs σ₂ W₂ h₂ tk₂ rvs h x R rep)
 exact aE core (fun vs s₁ h=>dF h) fun _ _ e=>e
theorem eq__147(s:args.any pA=false)(hn:nameV T fr f=some v):q9 T (n+1) fr f args kws pos σ=ckV T (ev T n fr) args kws pos σ v:=by
 refine(if_neg (by rw[s];exact aC)).trans ?_
 rw[hn]
 rfl
set_option tactic.hygienic true in
theorem eq__643(hs:¬args.any pA=true)(hn:nameV T fr f=some (.imm u))(h:u0 u=none):
  q9 T (n+1) fr f args kws pos σ=ckF (ev T n fr) args kws σ (pL T pos u):=by
 refine(if_neg hs).trans ?_
 rw[hn]
 cases u<;>first|rfl|(injection h)
theorem eq__644(B:pS prog w g K T D)(H:rO prog w g T D n):u9 prog w g T D (n+1):=by
 intros n2 Nat n Aa prog Ab w Ac g Tab T Frag K Nat D
 exact fun fr f p pos args kws σ W s env O A fl a hs=>by
  generalize hr0:q9 T (n+1) fr f args kws pos σ=r at hs⊢;by_cases hst0:args.any pA=true;·exact absurd ((if_pos hst0).symm.trans hr0).symm hs
  · have hst:args.any pA=false:=eT.mpr hst0;have hr:=(if_neg hst0).symm.trans hr0;revert hr;cases hn:nameV T fr f with
    |none=>exact fun hr=>absurd hr.symm hs
    |some v=>
      cases v with
      |clo c vs=>
        clear hr0;intro hr;rcases eq__86 hr hs with⟨hk,hr⟩;obtain rfl:kws=[]:=cK.mp hk;subst hr;refine a8 (eq__97 B a.rel a.fr hn fun rf rep=>?_);(refine eq__303 rep fun fa fo fd _ q1_ hw hfd _=>?_;subst q1_);refine eq__125 H a hst (eq__640 hfd) hs fun as σ₂ W₂ h₂ tk₂ rvs h x R rp=>?_;refine⟨R.imm _ _ ((a.rel.le x).imm hw),?_⟩;revert h;cases hm:T.clo c with
        |none=>exact fun h=>absurd rfl h
        |some m=>exact fun h=>B.clo c m hm A fl W₂ σ₂ _ vs as _ rvs a.ok (a.fs.ext x) R (rep.mono (a.rel.le x)) rp h
      |imm u=>
        cases hv:u0 u with
        |none=>
          intro hr;clear hr;rcases eq__86 ((eq__643 hst0 hn hv).symm.trans hr0) hs with⟨hk,hr2⟩;clear hr0;obtain rfl:kws=[]:=cK.mp hk;subst hr2;refine a8 (eq__97 B a.rel a.fr hn fun rf rep=>?_);rcases eq__88.mp rep with rfl;exact eq__125 H a hst (P:=fun _=>True) (eq__107 (fun b e=>by rw[e]at hv;injection hv)) hs fun as σ₂ W₂ h₂ tk₂ rvs h x R rp=>⟨trivial,eq__619 R B.kin B.kit a.ok.hd h rp⟩
        |some fa=>
          rcases eq__105 hv with rfl;clear hr0;refine(?_:(T.call fa).elim ((T.make fa).elim .stuck (ckM (ev T n fr) args kws σ)) (ckF (ev T n fr) args kws σ)=r→_);cases hm:T.call fa with
          |some m=>
            intro hr;rcases eq__86 hr hs with⟨hk,hr⟩;obtain rfl:kws=[]:=cK.mp hk;subst hr;refine a8 (eq__97 B a.rel a.fr hn fun rf rep=>?_);rcases eq__88.mp rep with rfl;exact eq__125 H a hst (lP (B.kit.keep fa (.inl (by refine a9 (congrArg _ (hm)) ?_;rfl)))) hs fun as σ₂ W₂ h₂ tk₂ rvs h x R rp=>⟨R.kin (s:={s with heap:=h₂,toks:=tk₂}) B.kin,B.call fa m hm A fl W₂ σ₂ _ as rvs a.ok (a.fs.ext x) R rp h⟩
          |none=>
            refine(?_:(T.make fa).elim .stuck (ckM (ev T n fr) args kws σ)=r→_);cases hm:T.make fa with
            |none=>exact fun hr=>absurd hr.symm hs
            |some m=>
              intro hr;by_cases hk:kws.all (fun k=>k.arg.isSome)=false;·exact absurd ((if_pos hk).symm.trans hr).symm hs
              · replace hr:=(if_neg hk).symm.trans hr;subst hr;refine a8 (eq__97 B a.rel a.fr hn fun rf rep=>?_);rcases eq__88.mp rep with rfl;exact eq__639 H a hst (eq_true_of_ne_false hk) (lP (B.kit.keep fa (.inr (by refine a9 (congrArg _ (hm)) ?_;rfl)))) hs fun as ks σ₂ W₂ h₂ tk₂ rvs rks h x R rp rk=>⟨R.kin (s:={s with heap:=h₂,toks:=tk₂}) B.kin,B.make fa m hm A fl W₂ σ₂ _ as rvs ks rks a.ok (a.fs.ext x) R rp rk h⟩
      |_=>exact fun hr=>absurd hr.symm hs
theorem eq__645(B:pS prog w g K T D)(H:rO prog w g T D n)(a:At prog w g D A fl fr env O W σ s.heap){apos:Pos}(hb:pO o=true)(hst:args.any pA=false)(hlen:args.length<20)(hline:(apos.endLine==pos.line)=true)(hs:((ev T n fr o σ).bind fun ov σ₁=>(match rQ T σ₁ ov name with
    |some m=>(pQ (ev T n fr) args σ₁).bind fun vs σ₂=>qX T pos m ov vs σ₂
    |none=>.stuck))≠.stuck):
  Snd prog w g Rep A (eval (.Call (.Attribute o name apos) args [] pos) env) ((ev T n fr o σ).bind fun ov σ₁=>(match rQ T σ₁ ov name with
    |some m=>(pQ (ev T n fr) args σ₁).bind fun vs σ₂=>qX T pos m ov vs σ₂
    |none=>.stuck)) W s:=by
 intros n13 X W X σ X O X B X H X a X o X apos Nat n Ad s Ae A Aa prog Ab w Ac g Pos pos LN fl Fr fr Ai env Tab T Frag K Str name Nat D LE args
 refine eq__343 hb hst hlen hline (one (R1:=Rep) (R3:=Rep) (G:=fun(ro:Af)(Q:Af→Ad→Prop)(E:Af→Ad→Prop)(s:Ad)=>∀pl,wpAny (model prog w) A (getMethod ro name pl) (fun fx s₂=>wpAny (model prog w) A (callWith pos fx.1 fx.2 (backTo pos (starEach args env)) (backToKw pos (keywordEach [] env))) Q E s₂) E s)
  (fun h q e pl=>aE (h pl) (fun _ _ h=>aE h q e) e) hs (fun h=>H _ _ _ _ _ _ _ _ _ a h) fun ov σ₁ W₁ h₁ tk₁ ro h x R rep pl=>?_)
 cases hm:rQ T σ₁ ov name with
 |none=>rw[hm]at h;exact absurd rfl h
 |some m=>
  simp only[hm]at h⊢;have' a₁:=a.step (s:=s) x R;refine eq__612 (s:={s with heap:=h₁,toks:=tk₁}) R B.kin B.kit hm rep fun tk=>?_;intros n22 X W X σ X O X o X apos X ov X σ₁ X W₁ X h₁ X ro X x X R X rep X pl X m X a₁ Nat tk₁ Nat tk;have back:∀{r:Out St Val}{t:Sem Af},Snd prog w g Rep A t r W₁ {s with heap:=h₁,toks:=tk}→wpAny (model prog w) A t (Post prog w g Rep r W₁ {s with heap:=h₁,toks:=tk₁}) (PostX prog w g r W₁ {s with heap:=h₁,toks:=tk₁}) {s with heap:=h₁,toks:=tk}:=fun q=>
   aE q (fun _ _ q=>Post.back (s:={s with heap:=h₁,toks:=tk₁}) (tk:=tk) (Ext.refl _ _ _) q) fun _ _ q=>PostX.back (s:={s with heap:=h₁,toks:=tk₁}) (tk:=tk) (Ext.refl _ _ _) q;cases hmb:m.blt with
  |true=>
   refine back (eq__125 (s:={s with heap:=h₁,toks:=tk}) (F:=fun vs σ₂=>qX T pos m ov vs σ₂) (P:=fun _=>True) H a₁ hst (eq__107 ?_) h fun vs σ₂ W₂ h₂ tk₂ rvs hh x' R' rp=>⟨trivial,eq__615 R' hmb hh (rep.mono (R.le x')) rp⟩);intro b e;cases m<;>first|(contradiction;done)|(cases e;done)
  |false=>
   cases m with
   |fn f=>
    cases hc:T.call f with
    |none=>have :=eq__334 (.inl hm);rw[hc]at this;(injection this)
    |some mm=>
     rw[show(fun vs σ₂=>qX T pos (.fn f) ov vs σ₂)=fun vs σ₂=>mm (ov::vs) σ₂ from funext fun vs=>funext fun σ₂=>by show orS (T.call f) _=_;rw[hc];rfl]at h⊢;exact back (eq__125 (s:={s with heap:=h₁,toks:=tk}) (F:=fun vs σ₂=>mm (ov::vs) σ₂) H a₁ hst (lP (B.kit.keep f (.inl (by rw[hc];rfl)))) h fun vs σ₂ W₂ h₂ tk₂ rvs hh x' R' rp=>
      ⟨R'.kin (s:={s with heap:=h₂,toks:=tk₂}) B.kin,B.call f mm hc A fl W₂ σ₂ _ (ov::vs) (ro::rvs) a.ok (a₁.fs.ext x') R' (RepL.cons.mpr (eq__24 _ _ rfl (rep.mono (R.le x')) rp)) hh⟩)
   |stat f=>
    cases hc:T.call f with
    |none=>have :=eq__334 (.inr hm);rw[hc]at this;(injection this)
    |some mm=>
     rw[show(fun vs σ₂=>qX T pos (.stat f) ov vs σ₂)=fun vs σ₂=>mm vs σ₂ from funext fun vs=>funext fun σ₂=>by show orS (T.call f) _=_;rw[hc];rfl]at h⊢;exact back (eq__125 (s:={s with heap:=h₁,toks:=tk}) (F:=fun vs σ₂=>mm vs σ₂) H a₁ hst (lP (B.kit.keep f (.inl (by rw[hc];rfl)))) h fun vs σ₂ W₂ h₂ tk₂ rvs hh x' R' rp=>
      ⟨R'.kin (s:={s with heap:=h₂,toks:=tk₂}) B.kin,B.call f mm hc A fl W₂ σ₂ _ vs rvs a.ok (a₁.fs.ext x') R' rp hh⟩)
   |_=>(injection hmb)
end
section
theorem eq__646(H:rO prog w g T D n)(HB:tM prog w g T D n):tM prog w g T D (n+1):=by
 intros n3 X D Nat n Aa prog Ab w Ac g Tab T
 exact fun fr op es pos σ W s env O A fl a hs=>by
  cases es with
  |nil=>exact absurd rfl hs
  |cons e r=>
    cases r with
    |nil=>
      exact H _ _ _ _ _ _ _ _ _ a hs
    |cons e' r=>
      have' e0:pX T (n+1) fr op (e::e'::r) σ=(ev T n fr e σ).bind fun v σ₁=>(match op,pN σ₁ v with|.And,some true=>pX T n fr op (e'::r) σ₁|.And,some false=>.ok v σ₁|.Or,some true=>.ok v σ₁|.Or,some false=>pX T n fr op (e'::r) σ₁|_,none=>.stuck):=rfl;rw[e0]at hs⊢
      set_option backward.match.sparseCases true in show wpAny _ _ (do
        let v←eval e env
        standAt pos
        let t←holding [v] (truthy v)
        match op,t with
        |.And,false|.Or,true=>pure v
        |_,_=>boolOp pos op (evalEach (e':: r) env)) _ _ _
      have core:=one (prog:=prog) (w:=w) (g:=g) (W:=W) (s:=s) (A:=A) (R1:=Rep) (R3:=Rep) (t1:=eval e env) (r1:=ev T n fr e σ)
        (G:=fun(v:Af)(Q:Af→Ad→Prop)(E:Af→Ad→Prop)(s:Ad)=>wpAny (model prog w) A (truthy v) (fun t s₁=>wpAny (model prog w) A (set_option backward.match.sparseCases true in match(generalizing:=false)op,t with
          |.And,false|.Or,true=>pure v
          |_,_=>boolOp pos op (evalEach (e'::r) env)) Q E s₁) E s) (fun h q e=>aE h (fun _ _ h=>aE h q e) e) hs
        (fun h=>H _ _ _ _ _ _ _ _ _ a h) (fun v σ₁ W₁ h₁ tk₁ rv h x R rep=>?_);·exact a8 (aE core (fun v s₁ h₁=>a8 (cP (a8 (c6 h₁)))) fun _ _ e=>e)
      · have back:∀{r:Out St Val}{t:Sem Af}{tk:Nat},Snd prog w g Rep A t r W₁ {s with heap:=h₁,toks:=tk}→wpAny (model prog w) A t (Post prog w g Rep r W₁ {s with heap:=h₁,toks:=tk₁}) (PostX prog w g r W₁ {s with heap:=h₁,toks:=tk₁}) {s with heap:=h₁,toks:=tk}:=fun q=>
          aE q (fun _ _ q=>Post.back (s:={s with heap:=h₁,toks:=tk₁}) (Ext.refl _ _ _) q) fun _ _ q=>PostX.back (s:={s with heap:=h₁,toks:=tk₁}) (Ext.refl _ _ _) q;cases ht:pN σ₁ v with
        |none=>replace h:=(ht)▸h;clear e0 hs;cases op<;>exact absurd rfl h
        |some b=>
          rw[ht]at h;refine eq__220 R ht rep fun tk=>?_;have' a₁:=a.step (s:=s) x R;cases op<;>cases b<;>simp only at h⊢;·exact aS (Post.same R rep)
          ·exact back (HB fr .And (e'::r) pos σ₁ W₁ {s with heap:=h₁,toks:=tk} env O A fl a₁ h)
          ·exact back (HB fr .Or (e'::r) pos σ₁ W₁ {s with heap:=h₁,toks:=tk} env O A fl a₁ h)
          ·exact aS (Post.same R rep)
theorem eq__647(H:rO prog w g T D n)(HT:sI prog w g T D n)(a:At prog w g D A fl fr env O W σ s.heap){b:Ag}(hs:((tst T n fr t σ).bind fun c σ₁=>if c then ev T n fr b σ₁ else ev T n fr o σ₁)≠.stuck):
  Snd prog w g Rep A (eval (.IfExp t b o pos) env) ((tst T n fr t σ).bind fun c σ₁=>if c then ev T n fr b σ₁ else ev T n fr o σ₁) W s:=by
 refine wpAny_IfExp (one (R1:=fun _(a b:Bool)=>a=b) (R3:=Rep) (G:=fun(c:Bool)(Q:Af→Ad→Prop)(E:Af→Ad→Prop)(s:Ad)=>if c then wpAny (model prog w) A (eval b env) Q E s else wpAny (model prog w) A (eval o env) Q E s)
  (fun{c}{Q Q' E E'}{s}h q e=>by cases c<;>exact aE h q e) hs (fun h=>HT _ _ _ _ _ _ _ _ _ a h) fun c σ₁ W₁ h₁ tk₁ c' h x R rep=>?_)
 subst rep
 cases c
 ·exact H _ _ _ _ _ _ _ _ _ (a.step (s:=s) x R) h
 ·exact H _ _ _ _ _ _ _ _ _ (a.step (s:=s) x R) h
theorem eq__648(HT:sI prog w g T D n)(HA:sG prog w g T D n):sG prog w g T D (n+1):=by
 intros n3 X D Nat n Aa prog Ab w Ac g Tab T
 exact fun fr op es σ W s env O A fl a hs=>by
  cases es with
  |nil=>
    clear hs;cases op;·exact wpAny_allTrue_And_nil (Post.still a.rel rfl)
    ·exact wpAny_allTrue_Or_nil (Post.still a.rel rfl)
  |cons e r=>
    cases op
    · refine wpAny_allTrue_And_cons (one (prog:=prog) (w:=w) (g:=g) (W:=W) (s:=s) (A:=A) (R1:=fun _(a b:Bool)=>a=b) (R3:=fun _(a b:Bool)=>a=b) (t1:=isTrue e env (eval e env)) (r1:=tst T n fr e σ)
        (G:=fun(b':Bool)(Q:Bool→Ad→Prop)(E:Af→Ad→Prop)(s:Ad)=>if b' then wpAny (model prog w) A (allTrue .And r env) Q E s else Q false s)
        (fun{c}{Q Q' E E'}{s}h q e=>by cases c;exact q _ _ h;exact aE h q e) hs (fun h=>HT _ _ _ _ _ _ _ _ _ a h) fun b σ₁ W₁ h₁ tk₁ b' h x R e=>?_);subst e;cases b;·exact Post.still (s:={s with heap:=h₁,toks:=tk₁}) R rfl
      ·exact HA _ _ _ _ _ _ _ _ _ _ (a.step (s:=s) x R) h
    · refine wpAny_allTrue_Or_cons (one (prog:=prog) (w:=w) (g:=g) (W:=W) (s:=s) (A:=A) (R1:=fun _(a b:Bool)=>a=b) (R3:=fun _(a b:Bool)=>a=b) (t1:=isTrue e env (eval e env)) (r1:=tst T n fr e σ)
        (G:=fun(b':Bool)(Q:Bool→Ad→Prop)(E:Af→Ad→Prop)(s:Ad)=>if b' then Q true s else wpAny (model prog w) A (allTrue .Or r env) Q E s)
        (fun{c}{Q Q' E E'}{s}h q e=>by cases c;exact aE h q e;exact q _ _ h) hs (fun h=>HT _ _ _ _ _ _ _ _ _ a h) fun b σ₁ W₁ h₁ tk₁ b' h x R e=>?_);subst e;cases b;·exact HA _ _ _ _ _ _ _ _ _ _ (a.step (s:=s) x R) h
      ·exact Post.still (s:={s with heap:=h₁,toks:=tk₁}) R rfl
end
theorem eq__176(h:uV t=true):∃x p,t=.Name x p:=by cases t<;>first|exact eq__54 _ _ rfl|exact eG h
theorem eq__344(h:tF t=true):∃es k p,t=.Tuple es k p:=by cases t<;>first|exact eq__34 _ _ _ rfl|exact eG h
theorem eq__345(h:s4 v=none):qP σ v i=(pB σ v).map fun vs=>vs[i]?:=by cases v<;>first|rfl|(injection h)
noncomputable def IterM(W:Wd)(h:Ac)(i:Nat)(I:Addr)(S:List Addr):Src→Prop
 |.val v=>S=[I]∧match s4 v with
  |some x=>∃t,h.IsStrIter I "str_ascii_iterator" x t i∨h.IsStrIter I "str_iterator" x t i
  |none=>∃a,Rep W v (.ref a)∧h.IsListIter I a i
 |.rng n=>S=[I]∧IsRangeIter h I (i:Nat) ((if 0≤n then n else 0)-(i:Nat)) 1
 |.enm v=>∃J a old,S=[I,J]∧I≠J∧Rep W v (.ref a)∧IsEnum h I J (i:Nat) old∧h.IsListIter J a i
 |.vals k n ep=>S=[I]∧∃a,W a=.obj k∧h.IsValIter I a i n ep
def IterAt(W:Wd)(h:Ac)(sr:Src)(i:Nat)(I:Addr)(S:List Addr):Prop:=I∈S∧(∀b∈S,W b=.free∧∃o,h.get? b=some o)∧IterM W h i I S sr
variable{S:List Addr}{sr:Src}{I:Addr}{it:Af}
section
theorem IterM.ext(hI:I∈S)(l:W.le W')(keep:∀b∈S,∀o,h.get? b=some o→h'.get? b=some o)(m:IterM W h i I S sr):IterM W' h' i I S sr:=by
 intros n5 X sr Wd W Nat i Wd W' Ac h Ac h' LA S Addr I
 have' kI:=keep I hI
 cases sr with
 |val v=>
  refine⟨m.1,?_⟩;have' m:=m.2;cases hv:s4 v with
  |some x=>
   rw[hv]at m;exact m.imp fun t c=>c.imp (fun hF=>eq__1 hF fun o ho r=>⟨o,kI o ho,r⟩) fun hF=>eq__1 hF fun o ho r=>⟨o,kI o ho,r⟩
  |none=>
   replace m:=(hv)▸m;exact m.imp fun a hF=>⟨hF.1.mono l,eq__1 hF.2 fun o ho q=>⟨o,kI o ho,q⟩⟩
 |rng n=>exact⟨m.1,kI _ m.2⟩
 |enm v=>
  obtain⟨J,a,old,e,ne,r,q,o,ho,q'⟩:_:=m;exact⟨J,a,old,e,ne,r.mono l,kI _ q,o,keep J (by rw[e];simp) o ho,q'⟩
 |vals k n ep=>
  intros n1 Nat n Nat k Nat ep;obtain⟨e,a,r,o,ho,q⟩:_:=m;exact⟨e,a,l.obj r,o,kI o ho,q⟩
theorem IterAt.ext(t:IterAt W h sr i I S)(R:Rel prog w g W σ h)(x:Ext O W h W' h')(no:∀b∈S,b∉O):IterAt W' h' sr i I S:=by
 have keep:∀b∈S,∀o,h.get? b=some o→h'.get? b=some o∧W' b=.free:=fun b hb o e=>by
  have :=x.stillAt e (by refine a9 (congrArg _ ((t.2.1 b hb).1)) ?_;rfl) (no b hb);exact⟨this.1,by rw[this.2,(t.2.1 b hb).1]⟩
 refine⟨t.1,fun b hb=>?_,IterM.ext t.1 (R.le x) (fun b hb o e=>(keep b hb o e).1) t.2.2⟩
 obtain⟨_,o,e⟩:_:=t.2.1 b hb
 exact⟨(keep b hb o e).2,o,(keep b hb o e).1⟩
theorem eq__108(R:Rel prog w g W σ h)(fI:W I=.free)(k:∀b o,b≠I→h.get? b=some o→h'.get? b=some o):
  Rel prog w g W σ h'∧Ext [I] W h W h':=by
 refine⟨R.step (Wd.le.refl W) (fun _=>.inl rfl) (fun a o n1 _ e=>k a o (by clear k;rintro rfl;exact n1 fI) e) (fun a e=>?_),Wd.le.refl W,fun a o e=>⟨fun _=>rfl,?_⟩⟩
 ·obtain⟨o,p⟩:=R.live a (by rw[e];intro q;(injection q));exact⟨o,k a o (by clear k;rintro rfl;rw[fI]at e;(injection e)) p⟩
 ·by_cases q:a=I
  ·clear k;subst q;exact .inl ⟨fI,aA.mpr rfl⟩
  ·exact .inr (eq__27 o (k a o q e) (fun _ _=>rfl) (fun _ n=>n) (fun _ _=>⟨o.slots,rfl⟩))
theorem eq__148{x:Str}{v:Af}{Q:Unit→Ad→Prop}(h:Q () s):wpAny (model prog w) A (letOwnedTupleGo (.Name x p) it v) Q E s:=aS h
theorem IterAt.mk1(fI:W I=.free)(ex:∃o,h.get? I=some o)(m:IterM W h i I [I] sr):IterAt W h sr i I [I]:=
 ⟨aA.mpr rfl,fun b hb=>by clear m;rcases aA.mp hb with rfl;exact⟨fI,ex⟩,m⟩
noncomputable def Drawn(prog:Aa)(w:Ab)(A:Ae)(t:Ag)(I:Addr)(N:Ad→Prop)(Y:Af→Ad→Prop)(E:Af→Ad→Prop):Option Af→Ad→Prop
 |none,s₁=>N s₁
 |some v,s₁=>wpAny (model prog w) A (letOwnedTupleGo t (.ref I) v) (fun _ s'=>Y v s') E s₁
def sJ(I:Addr)(h h':Ac):Prop:=∀b o,b≠I→h.get? b=some o→h'.get? b=some o
theorem eq__149(x:gM I h h'):sJ I h h':=fun b o hb e=>(x.2 b hb).trans e
section
variable{N:Ad→Prop}{Y:Af→Ad→Prop}
theorem eq__649{n:Int}(hh:A.handled=none)(ht:uV t=true)(hit:IsRangeIter s.heap I (i:Nat) ((if 0≤n then n else 0)-(i:Nat)) 1)(fin:¬(i:Int)<n→∀h',sJ I s.heap h'→N {s with heap:=h'})(go:(i:Int)<n→∀h' tk u,sJ I s.heap h'→(∃t,u=.int i t)→IsRangeIter h' I ((i+1:Nat):Int) ((if 0≤n then n else 0)-((i+1:Nat):Int)) 1→Y u {s with heap:=h',toks:=tk}):
  wpAny (model prog w) A (pyNext (.ref I)) (Drawn prog w A t I N Y E) E s:=by
 (refine eq__103 (eq__176 ht) fun x p q1_=>?_;subst q1_)
 by_cases hlt:(i:Int)<n
 ·refine wpAny_pyNext_range_item hit (by split<;>omega) fun h' hit' sb=>eq__148 (go hlt h' _ _ (eq__149 sb) ⟨_,rfl⟩ ?_);have' e1:((i:Nat):Int)+1=((i+1:Nat):Int):=by(exact kD i)
  have' e2:(if 0≤n then n else 0)-(i:Nat)-1=(if 0≤n then n else 0)-((i+1:Nat):Int):=by omega
  rw[e1,e2]at hit';exact hit'
 ·exact wpAny_pyNext_range_end hh hit (by split<;>omega) fun h' sb=>fin hlt h' fun b o hb e=>sb b o hb e
theorem eq__650{x:Str}{tk0:Tok}(hh:A.handled=none)(ht:uV t=true)(hit:s.heap.IsStrIter I "str_ascii_iterator" x tk0 i∨s.heap.IsStrIter I "str_iterator" x tk0 i)(fin:x.cps[i]?=none→∀h',sJ I s.heap h'→N {s with heap:=h'})(go:∀c,x.cps[i]?=some c→∀h' tk u,sJ I s.heap h'→(∃t,u=.str ⟨#[c]⟩ t)→(h'.IsStrIter I "str_ascii_iterator" x tk0 (i+1)∨h'.IsStrIter I "str_iterator" x tk0 (i+1))→Y u {s with heap:=h',toks:=tk}):
  wpAny (model prog w) A (pyNext (.ref I)) (Drawn prog w A t I N Y E) E s:=by
 (refine eq__103 (eq__176 ht) fun y p q1_=>?_;subst q1_)
 cases hc:x.cps[i]? with
 |none=>exact hit.elim (fun hit=>wpAny_pyNext_ascii_end hh hit hc fun h' sb=>fin hc h' fun b o hb e=>sb b o hb e) fun hit=>wpAny_pyNext_wide_end hh hit hc fun h' sb=>fin hc h' fun b o hb e=>sb b o hb e
 |some c=>exact hit.elim (fun hit=>wpAny_pyNext_ascii_item hit hc fun h' hit' sb=>eq__148 (go c hc h' _ _ (eq__149 sb) ⟨_,rfl⟩ (.inl hit'))) fun hit=>wpAny_pyNext_wide_item hit hc fun h' hit' sb=>eq__148 (go c hc h' _ _ (eq__149 sb) ⟨_,rfl⟩ (.inr hit'))
theorem eq__651(v:Af):(∃b,v=.ref b)∨∀b,v≠.ref b:=by cases v<;>first|exact .inl ⟨_,rfl⟩|exact .inr fun _ e=>nomatch e
theorem eq__652{v:Af}(h:∀b,v≠.ref b):letOwnedTupleGo (.Tuple es k p) it v=pure ():=by
 intros n2 X v Nat k Pos p LE es Af it
 cases v<;>first|exact absurd rfl (h _)|(cases it<;>rfl)
theorem eq__653(hh:A.handled=none)(ht:(uV t||tF t)=true)(hit:s.heap.IsListIter I a i)(il:s.heap.IsList a rvs.toArray)(fin:rvs[i]?=none→∀h',sJ I s.heap h'→N {s with heap:=h'})(go:∀u,rvs[i]?=some u→∀h',sJ I s.heap h'→h'.IsListIter I a (i+1)→Y u {s with heap:=h'}):wpAny (model prog w) A (pyNext (.ref I)) (Drawn prog w A t I N Y E) E s:=by
 cases hv:rvs[i]? with
 |none=>exact kA hh hit il (by simpa using hv) fun h' k=>fin hv h' fun b o hb e=>k b o hb e
 |some u=>
  refine jW hit il (x:=u) (by simpa using hv) fun h' hit' sb=>?_;have f:=go u hv h' (eq__149 sb) hit';refine(?_:wpAny _ _ _ _ _ _);rcases kY.mp ht with ht|ht;·refine eq__103 (eq__176 ht) fun x p q1_=>?_;subst q1_;exact eq__148 f
  ·refine eq__162 (eq__344 ht) fun es k p q1_=>?_;subst q1_;clear hv;rcases eq__651 u with⟨b,rfl⟩|nr;·exact wpAny_letOwnedTupleGo_listiter (s:={s with heap:=h'}) hit' f
   ·rw[eq__652 nr];exact aS f
theorem eq__654{J:Addr}{old:Af}(hh:A.handled=none)(ht:tF t=true)(ne:I≠J)(he:IsEnum s.heap I J (i:Nat) old)(hit:s.heap.IsListIter J a i)(il:s.heap.IsList a rvs.toArray)(eI:∃o,s.heap.get? I=some o)(fin:rvs[i]?=none→∀h',sJ J s.heap h'→N {s with heap:=h'})(go:∀u,rvs[i]?=some u→∀h' tk,(∀b o,b≠I→b≠J→s.heap.get? b=some o→h'.get? b=some o)→h'.get? s.heap.objs.size=some {cls:=.type "tuple",data:=.seq #[.int i s.toks,u]}→
   IsEnum h' I J ((i+1:Nat):Int) u→h'.IsListIter J a (i+1)→Y (.ref s.heap.objs.size) {s with heap:=h',toks:=tk}):wpAny (model prog w) A (pyNext (.ref I)) (Drawn prog w A t I N Y E) E s:=by
 (refine eq__162 (eq__344 ht) fun es k p q1_=>?_;subst q1_)
 cases hv:rvs[i]? with
 |none=>exact wpAny_pyNext_enum_end hh he hit il (by simpa using hv) fun h' k=>fin hv h' fun b o hb e=>k b o hb e
 |some u=>
  refine wpAny_pyNext_enum_item he hit il (x:=u) (by simpa using hv) ne fun h' he' hit' htup hsz k=>?_;refine wpAny_letOwnedTupleGo_enum (s:={s with heap:=h',toks:=s.toks+1}) he' fun h'' he'' sb=>?_;have nI:s.heap.objs.size≠I:=fun e=>by
   obtain⟨o,q⟩:_:=eI;rw[←e]at q;exact cN _ (cG q)
  refine go u hv h'' _ (fun b o h1 h2 e=>(sb.2 b h1).trans (k b o h1 h2 e)) ((sb.2 _ nI).trans htup) ?_ ?_
  ·have' e1:((i:Nat):Int)+1=((i+1:Nat):Int):=by(exact kD i)
   exact(bH (e1))▸he''
  ·obtain⟨o,ho,r⟩:_:=hit';exact⟨o,(sb.2 J (cW ne)).trans ho,r⟩
end
theorem eq__346(R:Rel prog w g W σ s.heap){N:Ad→Prop}(fI:W I=.free)(hS:[I]⊆S)(hN:∀h' tk,Ext S W s.heap W h'→Rel prog w g W σ h'→N {s with heap:=h',toks:=tk})(k:sJ I s.heap h'):N {s with heap:=h'}:=by
 obtain⟨R',x'⟩:_:=eq__108 R fI k
 exact hN h' s.toks (x'.wide hS) R'
theorem eq__347(hh:A.handled=none)(R:Rel prog w g W σ s.heap){r:Option Val}(it:IterAt W s.heap sr i I S)(hn:pG σ sr i=some r)(ht:qG sr t=true){N:Ad→Prop}{Y:Af→Ad→Prop}(hN:r=none→∀h' tk,Ext S W s.heap W h'→Rel prog w g W σ h'→N {s with heap:=h',toks:=tk})(hY:∀v,r=some v→∀W' h' tk u,Ext S W s.heap W' h'→Rel prog w g W' σ h'→Rep W' v u→IterAt W' h' sr (i+1) I S→Y u {s with heap:=h',toks:=tk}):
  wpAny (model prog w) A (pyNext (.ref I)) (Drawn prog w A t I N Y E) E s:=by
 intros n10 X E X hh X R X r X it X hn X ht X N Ad s Ae A Aa prog Ab w Wd W Nat i St σ Ac g Ag t LA S Src sr Addr I EQ Y
 obtain⟨hI,hS,m⟩:=it
 have fI:=(hS I hI).1
 have oI:=(hS I hI).2
 have one:S=[I]→∀v,r=some v→∀h' tk u,sJ I s.heap h'→Rep W v u→(∃o,h'.get? I=some o)→IterM W h' (i+1) I [I] sr→Y u {s with heap:=h',toks:=tk}:=fun e v hv h' tk u k rep o m'=>by
  obtain⟨R',x'⟩:_:=eq__108 R fI k;clear m hS hI hN;subst e;exact hY v hv W h' tk u x' R' rep (.mk1 fI o m')
 have none_:S=[I]→r=none→∀h',sJ I s.heap h'→N {s with heap:=h'}:=fun e hr h' k=>eq__346 R fI (by exact(e)▸fun _ q=>q) (hN hr) k
 cases sr with
 |rng n=>
  obtain⟨e,hit⟩:_:=m;have' hn:(if(i:Int)<n then some (Val.int i)else none)=r:=a6 hn;exact eq__649 hh ht hit (fun h h' k=>none_ e (by rw[←hn,if_neg h]) h' k) fun h h' tk u k hu hit'=>one e _ (by rw[←hn,if_pos h]) h' tk u k (eq__20.mpr hu) ⟨_,hit'⟩ ⟨rfl,hit'⟩
 |val v=>
  rcases m with⟨e,m⟩;have hn:qP σ v i=some r:=hn;cases hv:s4 v with
  |some x=>
   rw[hv]at m;rcases m with⟨tk0,hit⟩;have' ht:(uV t||(tF t&&(s4 v).isNone))=true:=ht;rw[hv]at ht;have' vx:=eq__58 hv;have hn:(x.cps[i]?).map (fun c=>Val.str ⟨#[c]⟩)=r:=by clear ht hit tk0 hv;rw[vx]at hn;exact a6 hn
   refine eq__650 hh (by simpa using ht) hit (fun h h' k=>none_ e (by rw[←hn,h];rfl) h' k) fun c hc h' tk u k hu hit'=>one e _ (by rw[←hn,hc];rfl) h' tk u k ?_ (hit'.elim (fun hF=>eq__1 hF fun o ho _=>⟨o,ho⟩) fun hF=>eq__1 hF fun o ho _=>⟨o,ho⟩) ⟨rfl,?_⟩
   ·rcases hu with⟨t,rfl⟩;exact eq__19.mpr (eq__2 t rfl (by refine(?_:1≤lim);decide))
   ·simp only[hv];exact⟨tk0,hit'⟩
  |none=>
   rw[hv]at m;rcases m with⟨a,rep,hit⟩;have ht:(uV t||(tF t&&(s4 v).isNone))=true:=ht;rw[hv]at ht;rw[eq__345 hv]at hn;rcases aJ.mp hn with⟨vs,hl,hn⟩;refine eq__25 (eq__43 R hl rep) fun b rvs eb il q z=>?_;(injection eb with hq_;subst hq_);refine eq__653 hh (by simpa using ht) hit il (fun h h' k=>none_ e ?_ h' k) fun u hu h' k hit'=>?_;·refine a9 (bH (hn)) ?_;have' this:=q.len;rw[gA]at h⊢;omega
   ·refine eq__1 (q.getR hu) fun v' hv' rep'=>?_;exact one e v' (hn.symm.trans hv') h' s.toks u k rep' (let⟨o,ho,_⟩:=hit';⟨o,ho⟩) ⟨rfl,by rw[hv];exact eq__2 a rep hit'⟩
 |enm v=>
  rcases m with⟨J,a,old,e,ne,rep,he,hit⟩;refine eq__1 (aJ.mp hn) fun vs hl hn=>?_;refine eq__25 (eq__43 R hl rep) fun b rvs eb il q z=>?_;(injection eb with hq_;subst hq_);have mJ:J∈S:=by rw[e];simp
  have fJ:=(hS J mJ).1;have oJ:=(hS J mJ).2;refine eq__654 hh ht ne he hit il oI (fun h h' k=>eq__346 R fJ (by simp only[e];simp) (hN ?_) k) fun u hu h'' tk k htup he'' hit''=>?_
  ·refine a9 (bH (hn)) ?_;have' this:=q.len;rw[gA]at h;refine a9 (congrArg _ (cE (by omega))) ?_;rfl
  (refine eq__1 (q.getR hu) fun v' hv' rep'=>?_);have' fS:=R.freeSize;have' new:∀b,(∃o,s.heap.get? b=some o)→b≠s.heap.objs.size:=fun b hF e=>hF.elim fun o q=>cN _ (cG (e▸q));have' l:=Wd.put_le (.imm {cls:=.type "tuple",data:=.seq #[.int i s.toks,u]}) fS;refine(?_:(Rel prog w g (W.put s.heap.objs.size (.imm {cls:=.type "tuple",data:=.seq #[.int i s.toks,u]})) σ h'')→_) ?_;rotate_left;·
   refine R.step l (fun b=>?_) (fun b o n1 n2 e=>k b o (by clear he'' k he ne one hY none_ oI hI;rintro rfl;exact n1 fI) (by clear hit'' he'' k oJ mJ hit he ne;rintro rfl;exact n1 fJ) e) (fun b eb=>?_)
   ·by_cases q:b=s.heap.objs.size;·rw[q];exact .inr (.inl (eq__2 _ (Wd.put_self ..) htup))
    ·exact .inl (Wd.put_ne _ _ q)
   ·obtain⟨o,q⟩:=R.live b (by rw[eb];intro q;(injection q));exact⟨o,k b o (by clear he'' k he ne e one hY none_ oI hI;rintro rfl;rw[fI]at eb;(injection eb)) (by clear hit'' he'' k oJ mJ hit he ne e;rintro rfl;rw[fJ]at eb;(injection eb)) q⟩
  intro R';refine(?_:(Ext S W s.heap (W.put s.heap.objs.size (.imm {cls:=.type "tuple",data:=.seq #[.int i s.toks,u]})) h'')→_) ?_;rotate_left;·
   refine⟨l,fun b o ho=>⟨fun _=>Wd.put_ne _ _ (new b ⟨o,ho⟩),?_⟩⟩;by_cases q1:b=I;·exact(q1)▸.inl ⟨fI,hI⟩
   ·by_cases q2:b=J;·rw[q2];exact .inl ⟨fJ,mJ⟩
    ·exact .inr (eq__27 o (k b o q1 q2 ho) (fun _ _=>rfl) (fun _ n=>n) (fun _ _=>⟨o.slots,rfl⟩))
  intro x';refine hY (.tup [.int i,v']) (hn.symm.trans (by refine a9 (congrArg _ (hv')) ?_;rfl)) _ h'' tk _ x' R' (eq__80.mpr (eq__67 _ _ ([.int i s.toks,u]) 0 ⟨rfl,Wd.put_self ..,rfl,rfl,RepL.cons.mpr ⟨_,_,rfl,eq__20.mpr ⟨_,rfl⟩,RepL.one (rep'.mono l)⟩,(by refine(?_:2≤lim);decide)⟩)) ⟨hI,fun b hb=>?_,J,a,u,e,ne,rep.mono l,he'',hit''⟩;have hb':b=I∨b=J:=by rw[e]at hb;simpa using hb
  rcases hb' with hb|hb;·rw[hb];exact⟨by refine a9 (Wd.put_ne _ _ (new I oI)) ?_;exact fI,_,he''⟩
  ·rw[hb];exact⟨by refine a9 (Wd.put_ne _ _ (new J oJ)) ?_;exact fJ,let⟨o,ho,_⟩:=hit'';⟨o,ho⟩⟩
 |vals k n ep=>
  rcases m with⟨e,a,hw,hit⟩;refine eq__103 (eq__176 ht) fun y p q1_=>?_;subst q1_;(refine eq__1 (R.cell a k hw) fun c hc q=>?_);have' hn:(match σ[k]? with|some (.dict es ep')=>if ep'=ep∧es.length=n then some ((es[i]?).map (·.2))else none|_=>none)=some r:=hn;replace hn:=(hc)▸hn;clear hc;cases c with
  |dict es ep'=>
   by_cases hcc:ep'=ep∧es.length=n
   ·have hn:(es[i]?).map (·.2)=r:=a6 ((if_pos hcc).symm.trans hn);obtain⟨rvs,hd,q,z,hne,_⟩:=q;have' hlen:=q.len;rw[a7]at hlen;have hzip:((es.map (·.1)).zip rvs).length=n:=by
     rw[g0,a7,hlen,jC,hcc.2]
    replace hd:=(hcc.1)▸hd;replace hit:=(bH (hzip))▸hit;cases hv:es[i]? with
    |none=>
     refine(?_:(((es.map (·.1)).zip rvs)[i]?=none)→_) ?_;rotate_left;·
      rw[gA]at hv⊢;rw[hzip,←hcc.2];exact hv
     intro this;exact wpAny_pyNext_values_end hh hit hd this fun h' k=>none_ e (by rw[←hn,hv];rfl) h' fun b o hb e=>k b o hb e
    |some en=>
     refine eq__1 (q.get (show(es.map (·.2))[i]?=some en.2 by rw[aK,hv];rfl)) fun rv hr rep=>?_;refine wpAny_pyNext_values_item hit hd (iZ.mpr ⟨by rw[aK,hv];rfl,hr⟩) fun h' hit' sb=>eq__148 ?_;rw[hzip]at hit';exact one e en.2 (by rw[←hn,hv];rfl) h' s.toks rv (eq__149 sb) rep (let⟨o,ho,_⟩:=hit';⟨o,ho⟩) ⟨rfl,a,hw,hit'⟩
   ·rw[show(match some (Cell.dict es ep')with|some (.dict es ep')=>if ep'=ep∧es.length=n then some ((es[i]?).map (·.2))else none|_=>none)=none from if_neg hcc]at hn;(injection hn)
  |_=>(injection hn)
theorem eq__655{r:Option Val}{Q:Option Af→Ad→Prop}{Y:Af→Ad→Prop}(hq:∀v s₁,wpAny (model prog w) A (letOwnedTupleGo t (.ref I) v) (fun _ s'=>Y v s') E s₁→Q (some v) s₁)(hh:A.handled=none)(R:Rel prog w g W σ s.heap)(it:IterAt W s.heap sr i I S)(hn:pG σ sr i=some r)(ht:qG sr t=true)(hN:r=none→∀h' tk,Ext S W s.heap W h'→Rel prog w g W σ h'→Q none {s with heap:=h',toks:=tk})(hY:∀v,r=some v→∀W' h' tk u,Ext S W s.heap W' h'→Rel prog w g W' σ h'→Rep W' v u→IterAt W' h' sr (i+1) I S→Y u {s with heap:=h',toks:=tk}):
  wpAny (model prog w) A (pyNext (.ref I)) Q E s:=
 aE (eq__347 hh R it hn ht (N:=Q none) (Y:=Y) hN hY) (fun r s₁ h=>match r,h with|none,h=>h|some v,h=>hq v s₁ h) fun _ _ e=>e
end
section
variable(prog:Aa)(w:Ab)(g:Ac)(T:Tab)(D:Nat)
inductive PostI(r:Out St Src)(W:Wd)(s:Ad)(it:Af)(s':Ad):Prop
 |mk(sr:Src)(σ':St)(W':Wd)(h':Ac)(tk:Nat)(I:Addr)(S:List Addr)(e1:r=.ok sr σ')(e2:s'={s with heap:=h',toks:=tk})(x:Ext [] W s.heap W' h')(q:Rel prog w g W' σ' h')(e3:it=.ref I)(i:IterAt W' h' sr 0 I S)(n:∀b∈S,s.heap.get? b=none)
def tG(n:Nat):Prop:=∀(fr:Fr)(e:Ag)(σ:St)(W:Wd)(s:Ad)(env:Ai)(O:List Addr)(A:Ae)(fl:List Ai),
 At prog w g D A fl fr env O W σ s.heap→src T n fr e σ≠.stuck→
 wpAny (model prog w) A (eval e env) (fun x s₁=>wpAny (model prog w) A (pyIter x) (PostI prog w g (src T n fr e σ) W s) (PostX prog w g (src T n fr e σ) W s) s₁) (PostX prog w g (src T n fr e σ) W s) s
end
section
theorem PostI.back{r:Out St Src}{tk:Nat}(x:Ext [] W s.heap W' h')(p:PostI prog w g r W' {s with heap:=h',toks:=tk} it s'):PostI prog w g r W s it s':=by
 rcases p with⟨sr,σ',W₂,h₂,t₂,I,S,e,e',x',R',e3,i,n⟩
 refine⟨sr,σ',W₂,h₂,t₂,I,S,e,e',x.trans x',R',e3,i,fun b hb=>x.none (n b hb)⟩
theorem eq__109(n:h.objs.size≤a):h.get? a=none:=by
 cases e:h.get? a with
 |none=>rfl
 |some o=>exact absurd (cG e) (Nat.not_lt.mpr n)
theorem eq__110(R:Rel prog w g W σ h)(o:Obj):Rel prog w g W σ (h.push o)∧Ext [] W h W (h.push o):=R.grow (eq__138 o)
theorem eq__656(R:Rel prog w g W σ s.heap)(hs:tB σ v≠.stuck)(rep:Rep W v rv):wpAny (model prog w) A (pyIter rv) (PostI prog w g (tB σ v) W s) E s:=by
 intros n3 X R EQ E Ad s Ae A Aa prog Ab w Wd W Val v St σ Ac g Af rv
 cases hn:(qP σ v 0).isSome with
 |false=>exact absurd (if_neg (by rw[hn];decide)) hs
 |true=>
  have' e0:tB σ v=.ok (.val v) σ:=if_pos hn;rw[e0];have fin:∀o:Obj,(s.heap.push o).get? s.heap.objs.size=some o→IterM W (s.heap.push o) 0 s.heap.objs.size [s.heap.objs.size] (.val v)→PostI prog w g (.ok (.val v) σ) W s (.ref s.heap.objs.size) {s with heap:=s.heap.push o}:=fun o e m=>
   have⟨R',x'⟩:=eq__110 R o
   ⟨_,σ,W,_,s.toks,s.heap.objs.size,[s.heap.objs.size],rfl,rfl,x',R',rfl,.mk1 R.freeSize ⟨_,e⟩ m,fun b hb=>by refine a9 (congrArg _ (aA.mp hb)) ?_;exact eq__48 _⟩;clear hs e0;cases hv:s4 v with
  |some x=>
   have' vx:=eq__58 hv;refine eq__1 (eq__19.mp (vx▸rep)) fun t q1_ z=>?_;subst q1_;have' e:=bO s.heap (o:={cls:=.type (strIterType x),data:=.fields #[.str x t,.int 0 0]}) rfl;refine wpAny_pyIter_strU (fin _ e ⟨rfl,?_⟩);simp only[hv];refine⟨t,?_⟩;have hc:strIterType x="str_ascii_iterator"∨strIterType x="str_iterator":=by unfold strIterType;split;exact .inl rfl;exact .inr rfl
   exact hc.imp (fun h=>⟨_,e,congrArg iX h,rfl⟩) fun h=>⟨_,e,congrArg iX h,rfl⟩
  |none=>
   rw[eq__345 hv,lV]at hn;rcases bM.mp hn with⟨vs,hl⟩;refine eq__25 (eq__43 R hl rep) fun a rvs ea il q z=>?_;have' e:=bO s.heap (o:={cls:=.type "list_iterator",data:=.fields #[.ref a,.int 0 0]}) rfl;rw[ea]at rep⊢;refine lR il (fin _ e ⟨rfl,?_⟩);rw[hv];exact eq__2 a rep ⟨_,e,rfl,rfl⟩
theorem eq__348{x:Ag}{T':String}(B:pS prog w g K T D)(a:At prog w g D A fl fr env O W σ s.heap)(hx:pA x=false)(h2:pV T fr f=some (.type T'))(h:wpAny (model prog w) A (eval x env) (fun v s₁=>wpAny (model prog w) A (call (.type T') [v]) Q E s₁) E s):wpAny (model prog w) A (eval (.Call (.Name f p) [x] [] pos) env) Q E s:=by
 skip
 refine a8 (eq__124 B a.rel a.fr h2 ?_)
 refine eR (P:=fun _=>True) (by refine(?_:((backTo pos (starEach [x] env)).any (·.1)||false)=false);rw[eq__123 (by simp[hx])];rfl) (eq__107 (by intro _ e;(injection e))) (eq__99 (args:=[x]) (kws:=[]) (by simp[hx]) rfl ?_)
 have e1:backTo pos (starEach [x] env)=[(false,eval x env)]:=by clear h;cases x<;>first|rfl|(injection hx)
 exact(e1)▸dM (aE h (fun v s₁ h₁=>dP (dF ⟨trivial,h₁⟩)) fun _ _ e=>e)
noncomputable def vW(T:Tab)(fr:Fr)(e:Ag):vU→Prop
 |.plain=>True
 |.vals o=>∃apos pos,e=.Call (.Attribute o (nOf "values") apos) [] [] pos∧pO o=true∧(apos.endLine==pos.line)=true
 |.rng x=>∃f p pos,e=.Call (.Name f p) [x] [] pos∧pA x=false∧pV T fr f=some (.type "range")
 |.enm x=>∃f p pos,e=.Call (.Name f p) [x] [] pos∧pA x=false∧pV T fr f=some (.type "enumerate")
set_option tactic.hygienic true in
theorem eq__657(T:Tab)(fr:Fr)(e:Ag):vW T fr e (pR T fr e):=by
 intros n0 Tab T Fr fr Ag e
 cases e with
 |Call g args kws pos=>
  cases kws with
  |cons _ _=>cases g<;>first|exact trivial|(cases args<;>first|exact trivial|(rename_i q;cases q<;>exact trivial))
  |nil=>
   cases g with
   |Attribute o name apos=>
    cases args with
    |cons _ _=>trivial
    |nil=>
     have' e:pR T fr (.Call (.Attribute o name apos) [] [] pos)=if name=nOf "values"∧pO o=true∧(apos.endLine==pos.line)=true then .vals o else .plain:=rfl;simp only[e];by_cases h:name=nOf "values"∧pO o=true∧(apos.endLine==pos.line)=true;·rw[if_pos h];exact⟨apos,pos,by rw[h.1],h.2⟩
     ·rw[if_neg h];trivial
   |Name f p=>
    cases args with
    |nil=>trivial
    |cons x more=>
     cases more with
     |cons _ _=>trivial
     |nil=>
      have' e:pR T fr (.Call (.Name f p) [x] [] pos)=if pA x=true then .plain else if pV T fr f=some (.type "range")then .rng x else if pV T fr f=some (.type "enumerate")then .enm x else .plain:=rfl;simp only[e];by_cases hx:pA x=true;·rw[if_pos hx];trivial
      ·rw[if_neg hx];by_cases h1:pV T fr f=some (.type "range");·rw[if_pos h1];exact⟨f,p,pos,rfl,by simpa using hx,h1⟩
       ·rw[if_neg h1];by_cases h2:pV T fr f=some (.type "enumerate");·rw[if_pos h2];exact⟨f,p,pos,rfl,by simpa using hx,h2⟩
        ·rw[if_neg h2];trivial
   |_=>first|exact trivial|(cases args<;>first|exact trivial|(rename_i q;cases q<;>exact trivial))
 |_=>trivial
section
theorem eq__658{apos:Pos}(H:rO prog w g T D n)(a:At prog w g D A fl fr env O W σ s.heap)(hb:pO o=true)(hline:(apos.endLine==pos.line)=true)(hs:(ev T n fr o σ).bind (fun v σ₁=>rZ σ₁ v)≠.stuck):
  wpAny (model prog w) A (eval (.Call (.Attribute o (nOf "values") apos) [] [] pos) env) (fun x s₁=>wpAny (model prog w) A (pyIter x) (PostI prog w g ((ev T n fr o σ).bind fun v σ₁=>rZ σ₁ v) W s) (PostX prog w g ((ev T n fr o σ).bind fun v σ₁=>rZ σ₁ v) W s) s₁)
   (PostX prog w g ((ev T n fr o σ).bind fun v σ₁=>rZ σ₁ v) W s) s:=by
 intros n9 X D X fl X O X apos Nat n Ad s Ae A Aa prog Ab w Wd W St σ Ac g Pos pos Fr fr Ai env Tab T Ag o
 have h1:ev T n fr o σ≠.stuck:=fun q=>hs (by rw[q];rfl)
 refine eq__343 hb rfl (by decide) hline ((H _ _ _ _ _ _ _ _ _ a h1).bindQ (fun v σ₁ W₁ h₁ tk₁ rv e₁ x₁ R₁ rep₁ pl=>?_) fun e s' q=>q.bind)
 have e2:(ev T n fr o σ).bind (fun v σ₁=>rZ σ₁ v)=rZ σ₁ v:=by rw[e₁];rfl
 rw[e2]at hs⊢
 clear e2
 generalize PostX prog w g (rZ σ₁ v) W s=E
 clear e₁ H a h1
 cases v with
 |ref k=>
  intros n14 X fl X O X apos X σ₁ X W₁ X h₁ X rv X pl X E Nat D Nat tk₁ Nat k;refine eq__1 (eq__35.mp rep₁) fun d q1_ i=>?_;subst q1_;refine eq__1 (R₁.cell d k i) fun c hc q=>?_;have e5:rZ σ₁ (.ref k)=match some c with|some (.dict es ep)=>.ok (.vals k es.length ep) σ₁|_=>.stuck:=by rw[←hc];rfl
  clear hc;rw[e5]at hs⊢;cases c with
  |dict es ep=>
   obtain⟨rvs,hd,q,z,hne,_⟩:_:=q;have' hlen:=q.len;refine(?_:(((es.map (·.1)).zip rvs).length=es.length)→_) ?_;rotate_left;·
    rw[g0,a7,hlen,a7,jC]
   intro hzip;refine getMethod_builtin (s:={s with heap:=h₁,toks:=tk₁}) hd.dictOf.typeIs PySem.F.plainAttrs_dict jE PySem.F.type_dict_values hd.dictOf.mapOf.noDict ?_;refine eR (P:=fun _=>True) rfl (eq__107 (by intro _ e;(injection e))) (eq__99 (args:=[]) (kws:=[]) rfl rfl (dP (dF ⟨trivial,?_⟩)));refine call_meetsIn (s:={s with heap:=h₁,toks:=tk₁}) jE hd.dictOf.typeIs PySem.F.entry_dict_values (PySem.F.args_dict_values_1 _) (meets_dict_values (bI prog w) d hne) ⟨⟨_,hd.dictOf⟩,?_⟩;have⟨R₂,x₂⟩:=eq__110 R₁ {cls:=.type "dict_values",data:=.fields #[.ref d]};have' e2:=bO h₁ (o:={cls:=.type "dict_values",data:=.fields #[.ref d]}) rfl;refine wpAny_pyIter_values (s:={s with heap:=h₁.push {cls:=.type "dict_values",data:=.fields #[.ref d]},toks:=tk₁}) (knd:=bI prog w) ⟨_,e2,rfl,rfl⟩ (hd.push _) ?_;rw[hzip];generalize hh2:h₁.push {cls:=.type "dict_values",data:=.fields #[.ref d]}=h₂ at R₂ x₂;have⟨R₃,x₃⟩:=eq__110 R₂ {cls:=.type "dict_valueiterator",data:=.fields #[.ref d,.int 0 0,.int es.length 0,.int ep 0]};have' e3:=bO h₂ (o:={cls:=.type "dict_valueiterator",data:=.fields #[.ref d,.int 0 0,.int es.length 0,.int ep 0]}) rfl;have nx:∀b∈[h₂.objs.size],s.heap.get? b=none:=fun b hb=>by
    refine a9 (congrArg _ (aA.mp hb)) ?_;exact(x₁.trans x₂).none (eq__48 _)
   exact⟨_,σ₁,W₁,_,tk₁,_,[h₂.objs.size],rfl,rfl,x₁.trans (x₂.trans x₃),R₃,rfl,.mk1 R₂.freeSize ⟨_,e3⟩ ⟨rfl,d,i,⟨_,e3,rfl,rfl⟩⟩,nx⟩
  |_=>exact absurd rfl hs
 |_=>exact absurd rfl hs
theorem eq__659(R₁:Rel prog w g W σ s.heap)(hs:vR σ v≠.stuck)(rep₁:Rep W v rv):wpAny (model prog w) A (call (.type "range") [rv]) (fun x s₁=>wpAny (model prog w) A (pyIter x) (PostI prog w g (vR σ v) W s) E s₁) E s:=by
 intros n3 EQ E Ad s Ae A Aa prog Ab w Wd W Val v St σ Ac g Af rv
 cases v with
 |int i=>
  intros n2 Int i;by_cases hi:-1000≤i∧i≤1000
  ·have' e0:vR σ (.int i)=.ok (.rng i) σ:=if_pos hi;rw[e0];clear e0 hs;rcases eq__20.mp rep₁ with⟨t,rfl⟩;refine call_range_1 ?_;have⟨R₂,x₂⟩:=eq__110 R₁ {cls:=.type "range",data:=.fields #[.int 0 s.toks,.int i t,.int 1 (s.toks+1)]};have rs:jN 0 i 1=if 0≤i then i else 0:=by
    unfold jN;simp only[show(1:Int)>0 by decide,if_true,Int.ediv_one];split<;>split<;>omega
   have fits:∀z:Int,-2000≤z→z≤2000→iJ z=true:=fun z h1 h2=>by
    unfold iJ;simp only[aF,decide_eq_true_eq];omega
   refine(?_:(kZ 0 i 1=true)→_) ?_;rotate_left;·
    unfold kZ;rw[rs,fits 0 (by decide) (by decide),fits i (by omega) (by omega),fits 1 (by decide) (by decide),fits (if 0≤i then i else 0) (by split<;>omega) (by split<;>omega)];simp only[nG,iN,cZ,show(1:Int)>0 by decide,if_true];right;exact fits _ (by omega) (by omega)
   intro sm;refine wpAny_pyIter_range (IsRange.new s.heap 0 i 1 _ _ _) sm ?_;rw[rs];generalize hh2:s.heap.push {cls:=.type "range",data:=.fields #[.int 0 s.toks,.int i t,.int 1 (s.toks+1)]}=h₂ at R₂ x₂;have⟨R₃,x₃⟩:=eq__110 R₂ {cls:=.type "range_iterator",data:=.fields #[rawInt 0,rawInt (if 0≤i then i else 0),rawInt 1]};have' e3:=bO h₂ (o:={cls:=.type "range_iterator",data:=.fields #[rawInt 0,rawInt (if 0≤i then i else 0),rawInt 1]}) rfl;have nx:∀b∈[h₂.objs.size],s.heap.get? b=none:=fun b hb=>by
    refine a9 (congrArg _ (aA.mp hb)) ?_;exact x₂.none (eq__48 _)
   refine⟨_,σ,W,_,_,_,[h₂.objs.size],rfl,rfl,x₂.trans x₃,R₃,rfl,.mk1 R₂.freeSize ⟨_,e3⟩ ⟨rfl,?_⟩,nx⟩;have' e4:(if 0≤i then i else 0)-((0:Nat):Int)=if 0≤i then i else 0:=by omega
   rw[e4];exact e3
  ·exact absurd (if_neg hi) hs
 |_=>exact absurd rfl hs
theorem eq__660(R₁:Rel prog w g W σ s.heap)(hs:vH σ v≠.stuck)(rep₁:Rep W v rv):wpAny (model prog w) A (call (.type "enumerate") [rv]) (fun x s₁=>wpAny (model prog w) A (pyIter x) (PostI prog w g (vH σ v) W s) E s₁) E s:=by
 intros n3 EQ E Ad s Ae A Aa prog Ab w Wd W Val v St σ Ac g Af rv
 cases hl:(pB σ v).isSome with
 |false=>exact absurd (if_neg (by rw[hl];decide)) hs
 |true=>
  have' e0:vH σ v=.ok (.enm v) σ:=if_pos hl;rw[e0];clear e0 hs;obtain⟨vs,hl⟩:=bM.mp hl;(refine eq__25 (eq__43 (s:=s) R₁ hl rep₁) fun b rvs q1_ il q z=>?_;subst q1_);refine call_enumerate_list il fun h₂ he hit hsz k=>?_;refine lW he ?_;have⟨R₂,x₂⟩:=R₁.grow k;refine⟨_,σ,W,h₂,s.toks,s.heap.objs.size+1,[s.heap.objs.size+1,s.heap.objs.size],rfl,rfl,x₂,R₂,rfl,⟨(aO ..),fun c hc=>?_,s.heap.objs.size,b,.none,rfl,jF _,rep₁,he,hit⟩,fun c hc=>?_⟩
  ·have' hc':c=s.heap.objs.size+1∨c=s.heap.objs.size:=by simpa using hc
   exact hc'.elim (fun q=>by rw[q];exact⟨R₁.freeAt (eq__109 (fY _)),_,he⟩) fun q=>by rw[q];exact⟨R₁.freeSize,let⟨o,ho,_⟩:=hit;⟨o,ho⟩⟩
  ·have' hc':c=s.heap.objs.size+1∨c=s.heap.objs.size:=by simpa using hc
   exact hc'.elim (fun q=>by rw[q];exact eq__109 (fY _)) fun q=>by rw[q];exact eq__48 _
end
theorem eq__349(H:rO prog w g T D n)(a:At prog w g D A fl fr env O W σ s.heap){x:Ag}{F:Val→St→Out St Src}{Y:Af→Sem Af}(hs:(ev T n fr x σ).bind F≠.stuck)(k:∀{v:Val}{σ₁:St}{W₁:Wd}{s₁:Ad}{rv:Af},Rel prog w g W₁ σ₁ s₁.heap→F v σ₁≠.stuck→Rep W₁ v rv→wpAny (model prog w) A (Y rv) (fun y s₂=>wpAny (model prog w) A (pyIter y) (PostI prog w g (F v σ₁) W₁ s₁) (fun _ _=>False) s₂) (fun _ _=>False) s₁):
  wpAny (model prog w) A (eval x env) (fun v s₁=>wpAny (model prog w) A (Y v) (fun y s₂=>wpAny (model prog w) A (pyIter y) (PostI prog w g ((ev T n fr x σ).bind F) W s) (PostX prog w g ((ev T n fr x σ).bind F) W s) s₂) (PostX prog w g ((ev T n fr x σ).bind F) W s) s₁)
   (PostX prog w g ((ev T n fr x σ).bind F) W s) s:=by
 have h1:ev T n fr x σ≠.stuck:=fun q=>hs (by rw[q];rfl)
 refine(H _ _ _ _ _ _ _ _ _ a h1).bindQ (fun v σ₁ W₁ h₁ tk₁ rv e₁ x₁ R₁ rep₁=>?_) fun e s' q=>q.bind
 have e2:(ev T n fr x σ).bind F=F v σ₁:=by rw[e₁];rfl
 rw[e2]at hs⊢
 exact aE (k (s₁:={s with heap:=h₁,toks:=tk₁}) R₁ hs rep₁) (fun _ _ q=>aE q (fun _ _ q=>PostI.back x₁ q) fun _ _ q=>q.elim) fun _ _ q=>q.elim
theorem eq__661(B:pS prog w g K T D)(H:rO prog w g T D n):tG prog w g T D (n+1):=by
 intros n4 X K X D Nat n Aa prog Ab w Ac g Tab T
 exact fun fr e σ W s env O A fl a hs=>by
  have' f:=eq__657 T fr e;have e0:src T (n+1) fr e σ=match pR T fr e with
    |.vals o=>(ev T n fr o σ).bind fun v σ₁=>rZ σ₁ v
    |.rng x=>(ev T n fr x σ).bind fun v σ₁=>vR σ₁ v
    |.enm x=>(ev T n fr x σ).bind fun v σ₁=>vH σ₁ v
    |.plain=>(ev T n fr e σ).bind fun v σ₁=>tB σ₁ v:=rfl;rw[e0]at hs⊢;cases hf:pR T fr e with
  |plain=>
    rw[hf]at hs;have hs:(ev T n fr e σ).bind (fun v σ₁=>tB σ₁ v)≠.stuck:=hs;refine(?_:wpAny _ _ _ (fun x s₁=>wpAny _ _ _ (PostI prog w g ((ev T n fr e σ).bind fun v σ₁=>tB σ₁ v) W s) (PostX prog w g ((ev T n fr e σ).bind fun v σ₁=>tB σ₁ v) W s) s₁) (PostX prog w g ((ev T n fr e σ).bind fun v σ₁=>tB σ₁ v) W s) _);have h1:ev T n fr e σ≠.stuck:=fun q=>hs (by rw[q];rfl);refine(H _ _ _ _ _ _ _ _ _ a h1).bindQ (fun v σ₁ W₁ h₁ tk₁ rv e₁ x₁ R₁ rep₁=>?_) fun e s' q=>q.bind;rw[e₁]at hs⊢;exact aE (eq__656 (s:={s with heap:=h₁,toks:=tk₁}) (E:=fun _ _=>False) R₁ hs rep₁) (fun _ _ q=>PostI.back x₁ q) fun _ _ q=>q.elim
  |vals o=>
    rw[hf]at hs f;clear hf e0;obtain⟨apos,pos,rfl,hb,hline⟩:=f;exact eq__658 H a hb hline hs
  |rng x=>
    rw[hf]at hs f;clear hf e0;rcases f with⟨f,p,pos,rfl,hx,h2⟩;exact eq__348 B a hx h2 (eq__349 H a hs fun R hs rep=>eq__659 R hs rep)
  |enm x=>
    rw[hf]at hs f;clear hf e0;rcases f with⟨f,p,pos,rfl,hx,h2⟩;exact eq__348 B a hx h2 (eq__349 H a hs fun R hs rep=>eq__660 R hs rep)
end
inductive FlyN(W:Wd)(h₀:Ac)(k:Nat)(e:Af)(h:Ac):Prop
 |mk(a:Addr)(ob:Obj)(vs:Array Af)(T:Addr)(oT:Obj)(ts:Array Af)(ea:e=.ref a)(hw:W a=.obj k)(n:h₀.get? a=none)(ho:h.get? a=some ob)(hd:ob.data=.fields vs)
  (e1:vs[1]?=some (.ref T))(ne:T≠a)(f:W T=.free)(nT:h₀.get? T=none)(hoT:h.get? T=some oT)(hdT:oT.data=.fields ts)(hz:3<ts.size)
theorem FlyN.fly(x:FlyN W h₀ k e h):Fly W h₀ k e h:=by
 rcases x with⟨a,ob,vs,T,oT,ts,e1,e2,n,e3,e4,e5,q1,q2,q3,q4,q5,q6⟩
 exact⟨a,ob,vs,e1,e2,n,e3,e4,.inr ⟨T,oT,ts,e5,q1,q2,q3,q4,q5,q6⟩⟩
variable{L:Addr}{e₀:Ai}
section
theorem eq__662(R:Rel prog w g W σ h){ob:Obj}{vs vs':Array Af}(hw:W a=.obj k)(ho:h.get? a=some ob)(hd:ob.data=.fields vs)(h1:1<vs.size)(hsz:vs'.size=vs.size)(ot:∀b o,b≠a→h.get? b=some o→h'.get? b=some o){ob':Obj}(ho':h'.get? a=some ob')(hd':ob'.data=.fields vs')(hc:ob'.cls=ob.cls)(hdi:ob'.dict=ob.dict)(hsl:ob'.slots=ob.slots):Rel prog w g W σ h'∧Ext [] W h W h':=by
 intros n14 X R X vs X vs' X hw X ho X hd X h1 X hsz X ot Aa prog Ab w Addr a Wd W Nat k Ac h Ac h' St σ Ac g Obj ob Obj ob'
 (refine eq__1 (R.cell a k hw) fun c hk q=>?_)
 have e1:σ.set k c=σ:=by
  obtain⟨hlt,e⟩:_:=bA.mp hk;rw[←e,kE]
 refine⟨?_,eq__140 (.inl ⟨k,hw⟩) ot ⟨_,ho'⟩⟩
 rw[←e1]
 refine R.setCell hw (.inl rfl) ot ⟨_,ho'⟩ ?_
 clear e1 hk;cases c with
 |list us=>
  rcases q with⟨rvs,n,il,_⟩;clear right;rw[ho]at il;clear ho hsl hdi hc;(injection il with hq_;subst hq_);(injection hd)
 |dict es ep=>
  obtain⟨rvs,⟨o,es',e2,_,e3,_⟩,_⟩:=q;clear right_1 left;rw[ho]at e2;rcases a6 e2 with rfl;rw[hd]at e3;(injection e3)
 |inst C fs=>
  obtain⟨d,m,_,e2,_⟩:=q;rw[ho]at e2;clear ho hsl hdi hc;rcases a6 e2 with rfl;(injection hd)
 |tab made=>
  rcases q with⟨e2,e3,ps,e5⟩;refine⟨e2,fun e4=>?_,vs',?_⟩
  ·have' this:=e3 e4;replace this:=(ho)▸this;clear ho hsl hdi hc;rcases a6 this with rfl;clear hsz;(injection hd with hq_;subst hq_);exact absurd h1 (by decide)
  ·rw[ho]at e5;clear hd ho;(injection e5 with hq_;subst hq_);rcases ob' with⟨c',d',dt',sl'⟩;dsimp only at hc hdi hsl hd';subst hc hdi hsl hd';exact ho'
 |exn C fs=>
  obtain⟨ob₂,vs₂,e2,e3,e4,e5,e6⟩:=q;rw[ho]at e2;rcases a6 e2 with rfl;rw[hd]at e4;(injection e4);refine⟨ob',vs',ho',hc.trans e3,hd',by(exact gI h1 (id (bH hsz))),?_⟩;rw[hdi];refine e6.imp id ?_;(intro hp1_;refine aM fun hG_=>?_;refine eq__25 hp1_ fun d m h1 h2 h3 h4=>?_;refine hG_ ?_;clear hG_);refine eq__39 d m h1 h2 ?_ h4;obtain⟨o,es,ep,h5,h6⟩:=h3;refine⟨o,es,ep,ot d o ?_ h5,h6⟩;clear ot ho ho';rintro rfl;rw[hw]at h1;(injection h1)
theorem eq__663(o:Obj)(f:Array Af→Array Af):(o.mapFields f).slots=o.slots:=by
 rcases o with⟨c,d,dt,sl⟩
 cases dt<;>rfl
theorem eq__664(o:Obj)(f:Array Af→Array Af):(o.mapFields f).dict=o.dict:=by
 rcases o with⟨c,d,dt,sl⟩
 cases dt<;>rfl
theorem eq__665(R:Rel prog w g W σ h)(F:Frames W h fl)(x:Heap.SlotsOnly (fl.filterMap (·.frame)) h h'):Rel prog w g W σ h'∧Ext [] W h W h':=by
 intros n6 X w X g X σ Aa prog Wd W Ac h Ac h' LN fl
 have isF:∀b,b∈fl.filterMap (·.frame)→W b=.frame:=fun b hb=>by
  refine eq__1 (c9.mp hb) fun en he hf=>?_;obtain⟨_,L,o,hf',hw,_⟩:=F en he;rw[hf']at hf;clear hb;rcases a6 hf with rfl;exact hw
 have keep:∀b o,W b≠.frame→h.get? b=some o→h'.get? b=some o:=fun b o nf e=>(x.2.1 b (fun hm=>nf (isF b hm))).trans e
 refine⟨R.step (Wd.le.refl W) (fun _=>.inl rfl) (fun a o _ nf e=>keep a o nf e) (fun a e=>?_),Wd.le.refl W,fun a o ea=>⟨fun _=>rfl,.inr ?_⟩⟩
 ·obtain⟨o,q⟩:=R.live a (by rw[e];intro q;(injection q));obtain⟨sl,q'⟩:_:=x.2.2 a o q;exact⟨_,q'⟩
 ·obtain⟨sl,q'⟩:_:=x.2.2 a o ea;refine eq__27 _ q' (fun st _=>?_) (fun _ nd=>nd) (fun _ _=>⟨sl,rfl⟩);have :=keep a o (by intro q;rw[q]at st;(injection st)) ea;rw[q']at this;exact a6 this
theorem eq__666(F:Frames W h fl):h.FunFrames {} fl:=by
 intros n2 X fl Wd W Ac h
 induction fl with
 |nil=>trivial
 |cons en r ih=>
  obtain⟨hk,L,o,hf,_,ho,hd⟩:_:=F en aO;exact⟨hk,(eq__54 L o ⟨hf,rfl,ho,hd⟩),ih fun e he=>F e (aU _ he)⟩
theorem eq__667(h:e₀.frame=env.frame):iO env=iO e₀:=by
 unfold iO
 rw[h]
def NsKeep(W:Wd)(h h':Ac):Prop:=∀C m,W C=.free→h.Ns C m→h'.Ns C m
theorem NsKeep.refl(W:Wd)(h:Ac):NsKeep W h h:=fun _ _ _ x=>x
theorem NsKeep.trans{h₂ h₃:Ac}(x:NsKeep W h₁ h₂)(y:NsKeep W h₂ h₃):NsKeep W h₁ h₃:=fun C m f n=>y C m f (x C m f n)
theorem eq__350{T:Addr}{oT:Obj}{ts:Array Af}(hoT:h.get? T=some oT)(hd:oT.data=.fields ts)(k:∀b o,b≠T→h.get? b=some o→h'.get? b=some o):NsKeep W h h':=fun C m _⟨o,es,ep,ho,hde,q⟩=>
 ⟨o,es,ep,k C o (by clear k;rintro rfl;rw[hoT]at ho;rcases a6 ho with rfl;rw[hd]at hde;(injection hde)) ho,hde,q⟩
theorem eq__351{r:List Ai}{ob:Obj}{vs:Array Af}{head:Af}{hadNext:Bool}(hA:A.frames=some (e₀::r))(F:Frames W s.heap (e₀::r))(hf:env.frame=some L)(h0:e₀.frame=env.frame)(R:Rel prog w g W σ s.heap)(x₀:Ext [] W₀ h₀ W s.heap)(hw:W a=.obj k)(hn:h₀.get? a=none)(ho:s.heap.get? a=some ob)(hd:ob.data=.fields vs)(hsz:1<vs.size){Q:Unit→Ad→Prop}(h:∀h',Ext [] W₀ h₀ W h'→Rel prog w g W σ h'→FlyN W h₀ k (.ref a) h'→NsKeep W s.heap h'→Q () {s with heap:=h'}):
  wpAny (model prog w) A (do let a'←iO env;let pl←entryPlaceOf L hadNext;let b←l4 head a' .none (rawInt L) .none pl;setField (.ref a) 1 b) Q E s:=by
 intros n18 X E X env X ob X vs X hadNext X Q Ad s Ae A Aa prog Ab w Addr a Wd W Nat k St σ Ac g Ac h₀ Wd W₀ Addr L Ai e₀ LN r Af head
 rw[eq__667 h0]
 refine a8 (wpAny_frameOf_fun (base:={}) hA (eq__666 F) (h0.trans hf) fun h₁ sl=>?_)
 obtain⟨R₁,x₁⟩:_:=eq__665 R F sl
 refine a8 (wpAny_entryPlaceOf fun pl hpl=>?_)
 unfold l4 newFields
 refine a8 (wpAny_newObj_type ?_ (hpl.sizeOk5 _ _ _ _ _))
 generalize hts:([head,.ref L,.none,rawInt L,.none]++(if pl.isEmpty then List.replicate 6 fM else pl)).toArray=ts
 have hts3:3<ts.size:=by simp only[←hts];simp only[cX,aH,aR,bG];exact eq__52 [_] (.lt (.n 3) (.a (.a (.a (.a (.a (.a (.n 0) (.n 1)) (.n 1)) (.n 1)) (.n 1)) (.n 1)) Z0)) rfl
 have notF:a∉(e₀::r).filterMap (·.frame):=fun hb=>by
  rcases c9.mp hb with⟨en,he,hf'⟩;rcases F en he with⟨_,L',o,hf'',hw',_⟩;clear right o;rw[hf'']at hf';(injection hf' with hq_;subst hq_);rw[hw]at hw';(injection hw')
 have ho₁:h₁.get? a=some ob:=(sl.2.1 a notF).trans ho
 obtain⟨R₂,x₂⟩:_:=eq__110 R₁ {cls:=.type "traceback",data:=.fields ts}
 have' ho₂:=bE (h:=h₁) {cls:=.type "traceback",data:=.fields ts} ho₁
 refine wpAny_setField ho₂ hd hsz ?_
 have hT:h₁.objs.size≠a:=eE (cG ho₁)
 have' hd₃:=lJ hd (·.setIfInBounds 1 (dT h₁.objs.size))
 have' ho₃:=d6 (iP (·.setIfInBounds 1 (dT h₁.objs.size))) ho₂ (kF hd₃)
 have ot:∀b o,b≠a→(h₁.push {cls:=.type "traceback",data:=.fields ts}).get? b=some o→((h₁.push {cls:=.type "traceback",data:=.fields ts}).update a (iP (·.setIfInBounds 1 (dT h₁.objs.size)))).get? b=some o:=
  fun b o hb e=>(dI _ _ (cW hb)).trans e
 obtain⟨R₃,x₃⟩:_:=eq__662 R₂ hw ho₂ hd hsz (by simp) ot ho₃ hd₃ (Obj.cls_mapFields _ _) (eq__664 _ _) (eq__663 _ _)
 have hTn:s.heap.get? h₁.objs.size=none:=by refine a9 (congrArg _ (sl.1)) ?_;exact eq__48 _
 refine h _ ((x₀.trans x₁).trans (x₂.trans x₃)) R₃ ⟨a,_,_,h₁.objs.size,_,ts,rfl,hw,hn,ho₃,hd₃,by simp[hsz],hT,R.freeAt hTn,x₀.none hTn,ot _ _ hT (bO _ rfl),rfl,hts3⟩ fun C m hC hns=>?_
 obtain⟨o,es,ep,hoC,q⟩:=hns
 refine⟨o,es,ep,ot C o (by clear x₃ R₃ ot ho₃ hT ho₂ ho₁ notF h ho hn;rintro rfl;rw[hw]at hC;(injection hC)) (bE _ ((sl.2.1 C fun hb=>?_).trans hoC)),q⟩
 rcases c9.mp hb with⟨en,he,hf'⟩
 rcases F en he with⟨_,L',o',hf'',hw',_⟩
 rw[hf'']at hf';clear hb hoC;(injection hf' with hq_;subst hq_);rw[hC]at hw';(injection hw')
theorem eq__352(R:Rel prog w g W σ s.heap)(x₀:Ext [] W₀ h₀ W s.heap){T:Addr}{ob oT:Obj}{vs ts:Array Af}{v:Af}(hw:W a=.obj k)(hn:h₀.get? a=none)(ho:s.heap.get? a=some ob)(hd:ob.data=.fields vs)(h1:vs[1]?=some (.ref T))(hT:T≠a)(hf:W T=.free)(hTn:h₀.get? T=none)(hoT:s.heap.get? T=some oT)(hdT:oT.data=.fields ts)(h3:3<ts.size){Q:Unit→Ad→Prop}(h:∀h',Ext [] W₀ h₀ W h'→Rel prog w g W σ h'→h'.get? a=some ob→(∃oT' ts',h'.get? T=some oT'∧oT'.data=.fields ts'∧ts'.size=ts.size)→(∀b o,b≠T→s.heap.get? b=some o→h'.get? b=some o)→Q () {s with heap:=h'}):
  wpAny (model prog w) A (setField (.ref T) 3 v) Q E s:=by
 refine wpAny_setField hoT hdT h3 ?_
 have' hd₂:=lJ hdT (·.setIfInBounds 3 v)
 have' e₂:=d6 (iP (·.setIfInBounds 3 v)) hoT (kF hd₂)
 have ot:∀b o,b≠T→s.heap.get? b=some o→(s.heap.update T (iP (·.setIfInBounds 3 v))).get? b=some o:=fun b o hb e=>(dI _ _ (cW hb)).trans e
 obtain⟨R',x'⟩:_:=eq__108 R hf ot
 exact h _ ((x₀.nil.trans (x'.wide (O':=[]++[T]) (by simp))).narrow (by intro b hb;refine a9 (congrArg _ (aA.mp hb)) ?_;exact hTn)) R' (ot a ob (cW hT) ho) (eq__24 _ _ e₂ hd₂ (by simp)) ot
theorem eq__353{r:List Ai}(hA:A.frames=some (e₀::r))(F:Frames W s.heap (e₀::r))(hf:env.frame=some L)(h0:e₀.frame=env.frame)(R:Rel prog w g W σ s.heap)(x₀:Ext [] W₀ h₀ W s.heap)(f:Fly W h₀ k e s.heap){Q:Unit→Ad→Prop}(h:∀h',Ext [] W₀ h₀ W h'→Rel prog w g W σ h'→FlyN W h₀ k e h'→NsKeep W s.heap h'→Q () {s with heap:=h'}):wpAny (model prog w) A (noteFrame e env) Q E s:=by
 intros n13 X E X e X r X e₀ X Q Ad s Ae A Aa prog Ab w Wd W Nat k St σ Ac g Ai env Ac h₀ Wd W₀ Addr L
 rcases f with⟨a,ob,vs,rfl,hw,hn,ho,hd,c⟩
 unfold noteFrame
 rw[hf]
 rcases c with h1|⟨T,oT,ts,h1,hT,hfT,hTn,hoT,hdT,h3⟩
 ·refine a8 (iH ho hd h1 ?_);rw[if_neg (by decide)];exact eq__351 hA F hf h0 R x₀ hw hn ho hd (fR.mp h1).1 h
 ·refine a8 (iH ho hd h1 ?_);rw[if_pos (show(dT T !=fM)=true from by trivial)];refine a8 (iH hoT hdT (j1 h3) ?_);by_cases hc:(ts[3]==rawInt L)=true
  ·rw[if_pos hc];exact aS (h s.heap x₀ R ⟨a,ob,vs,T,oT,ts,rfl,hw,hn,ho,hd,h1,hT,hfT,hTn,hoT,hdT,h3⟩ (NsKeep.refl _ _))
  ·rw[if_neg hc];refine a8 (eq__352 R x₀ hw hn ho hd h1 hT hfT hTn hoT hdT h3 fun h' x' R' ho' _ ot=>?_);have F':Frames W h' (e₀::r):=fun en he=>by
    obtain⟨hk,L',o,hf',hw',ho'',hd'⟩:=F en he;exact eq__51 hk (eq__39 L' o hf' hw' (ot L' o (by clear ot hoT hTn hT h1;rintro rfl;rw[hfT]at hw';(injection hw')) ho'') hd')
   exact eq__351 (s:={s with heap:=h'}) hA F' hf h0 R' x' hw hn ho' hd (fR.mp h1).1 fun h'' a b c d=>h h'' a b c ((eq__350 hoT hdT ot).trans d)
theorem eq__177{fo:Option Addr}(R:Rel prog w g W σ s.heap)(x₀:Ext [] W₀ h₀ W s.heap)(f:FlyN W h₀ k e s.heap){Q:Unit→Ad→Prop}(h:∀h',Ext [] W₀ h₀ W h'→Rel prog w g W σ h'→FlyN W h₀ k e h'→NsKeep W s.heap h'→Q () {s with heap:=h'}):wpAny (model prog w) A (setFlight e fo) Q E s:=by
 rcases f with⟨a,ob,vs,T,oT,ts,rfl,hw,hn,ho,hd,h1,hT,hfT,hTn,hoT,hdT,h3⟩
 skip
 refine a8 (iH ho hd h1 ?_)
 rw[if_pos (show(dT T !=fM)=true from by trivial)]
 exact eq__352 R x₀ hw hn ho hd h1 hT hfT hTn hoT hdT h3 fun h' x' R' ho'⟨oT',ts',e1,e2,e3⟩ot=>h h' x' R' ⟨a,ob,vs,T,oT',ts',rfl,hw,hn,ho',hd,h1,hT,hfT,hTn,e1,e2,by(exact gI h3 (id (bH e3)))⟩ (eq__350 hoT hdT ot)
theorem eq__226(f:FlyN W h₀ k e s.heap)(h:∀v,(v==fM)=false→Q v s):wpAny (model prog w) A (field e 1) Q E s:=by
 rcases f with⟨a,ob,vs,T,oT,ts,rfl,hw,hn,ho,hd,h1,_⟩
 exact iH ho hd h1 (h _ rfl)
end
section
variable(prog:Aa)(w:Ab)(g:Ac)
inductive PostN{α:Type}(r:Out St α)(W:Wd)(s:Ad)(e:Af)(s':Ad):Prop
 |mk(k:Nat)(σ':St)(W':Wd)(h':Ac)(tk:Nat)(e1:r=.exc k σ')(e2:s'={s with heap:=h',toks:=tk})(x:Ext [] W s.heap W' h')(q:Rel prog w g W' σ' h')(f:FlyN W' s.heap k e h')
end
section
variable{r:Out St α}
theorem PostN.x{s':Ad}(p:PostN prog w g r W s e s'):PostX prog w g r W s e s':=by
 obtain⟨k,σ',W',h',tk,e1,e2,x,R,f⟩:=p
 exact⟨k,σ',W',h',tk,e1,e2,x,R,f.fly⟩
theorem eq__668{what:String}{Q:β→Ad→Prop}{E':Af→Ad→Prop}(p:PostN prog w g r W s e s')(h:∀s'',PostN prog w g r W s e s''→E' e s''):wpAny (model prog w) A (o6 what e env) Q E' s':=by
 rcases p with⟨k,σ',W',h',tk,e1,rfl,x,R,f⟩
 skip
 refine a8 (eq__226 (s:={s with heap:=h',toks:=tk}) f fun v hv=>?_)
 rw[hv,if_neg (by decide)]
 refine a8 (eq__177 (s:={s with heap:=h',toks:=tk}) R x f fun h'' x' R' f' _=>?_)
 exact wpAny_throw (h _ ⟨k,σ',W',h'',tk,e1,rfl,x',R',f'⟩)
end
section
variable(prog:Aa)(w:Ab)(g:Ac)
inductive PostY{α:Type}(C:Addr)(r:Out St α)(W:Wd)(s:Ad)(e:Af)(s':Ad):Prop
 |mk(k:Nat)(σ':St)(W':Wd)(h':Ac)(tk:Nat)(e1:r=.exc k σ')(e2:s'={s with heap:=h',toks:=tk})(x:Ext [] W s.heap W' h')(q:Rel prog w g W' σ' h')(f:Fly W' s.heap k e h')(fC:W' C=.free)(m:Str→Option Af)(nm:h'.Ns C m)
inductive PostC{α:Type}(C:Addr)(r:Out St α)(W:Wd)(s:Ad)(e:Af)(s':Ad):Prop
 |mk(k:Nat)(σ':St)(W':Wd)(h':Ac)(tk:Nat)(e1:r=.exc k σ')(e2:s'={s with heap:=h',toks:=tk})(x:Ext [] W s.heap W' h')(q:Rel prog w g W' σ' h')(f:FlyN W' s.heap k e h')(fC:W' C=.free)(m:Str→Option Af)(nm:h'.Ns C m)
end
section
variable{r:Out St α}
theorem PostC.y(p:PostC prog w g C r W s e s'):PostY prog w g C r W s e s':=by
 obtain⟨k,σ',W',h',tk,e1,e2,x,R,f,q1,q2,q3⟩:=p
 exact⟨k,σ',W',h',tk,e1,e2,x,R,f.fly,q1,q2,q3⟩
theorem PostY.bind{F:α→St→Out St β}(p:PostY prog w g C r W s e s'):PostY prog w g C (r.bind F) W s e s':=by
 obtain⟨k,σ',W',h',tk,e1,q1,q2,q3,q4,q5,q6,q7⟩:=p
 exact⟨k,σ',W',h',tk,by rw[e1];rfl,q1,q2,q3,q4,q5,q6,q7⟩
theorem PostC.tok{tk:Nat}(p:PostC prog w g C r W {s with toks:=tk} e s'):PostC prog w g C r W s e s':=by
 rcases p with⟨k,σ',W',h',tk,e1,e2,x,R,f,q1,q2,q3⟩
 exact⟨k,σ',W',h',tk,e1,e2,x,R,f,q1,q2,q3⟩
theorem eq__669{rs:List Ai}(hA:A.frames=some (e₀::rs))(F:Frames W s.heap (e₀::rs))(hf:env.frame=some L)(h0:e₀.frame=env.frame)(p:PostY prog w g C r W s e s')(h:∀s'',PostC prog w g C r W s e s''→Q e s''):notedBy (model prog w) A env Q e s':=by
 rcases p with⟨k,σ',W',h',tk,e1,rfl,x,R,f,fC,m,nm⟩
 exact eq__353 (s:={s with heap:=h',toks:=tk}) hA (F.ext x) hf h0 R x f fun h'' x' R' f' nk=>h _ ⟨k,σ',W',h'',tk,e1,rfl,x',R',f',fC,m,nk C m fC nm⟩
theorem eq__670(p:PostC prog w g C r W s e s')(h:∀s'',PostC prog w g C r W s e s''→Q e s''):cameBackBy (model prog w) A env Q e s':=by
 rcases p with⟨k,σ',W',h',tk,e1,rfl,x,R,f,fC,m,nm⟩
 refine a8 (eq__226 (s:={s with heap:=h',toks:=tk}) f fun v hv=>?_)
 rw[hv,if_neg (by decide)]
 exact eq__177 (s:={s with heap:=h',toks:=tk}) R x f fun h'' x' R' f' nk=>h _ ⟨k,σ',W',h'',tk,e1,rfl,x',R',f',fC,m,nk C m fC nm⟩
end
variable{sc:Ah}
section
theorem eq__354(R:Rel prog w g W σ s.heap)(t:IterAt W s.heap sr i I S)(h:Q (.ref I) s):wpAny (model prog w) A (pyIter (.ref I)) Q E s:=by
 intros n6 X g X σ X R X sr X t EQ E Ad s Ae A EQ Q Aa prog Ab w Wd W Nat i LA S Addr I
 have m:=t.2.2
 cases sr with
 |val v=>
  have' m:=m.2;cases hv:s4 v with
  |some x=>
   rw[hv]at m;rcases m with⟨t,hit|hit⟩;·exact wpAny_pyIter_striter_ascii hit h
   ·exact wpAny_pyIter_striter_wide hit h
  |none=>
   rw[hv]at m;(refine eq__1 m fun a _ hit=>?_);exact wpAny_pyIter_listiter hit h
 |rng n=>exact wpAny_pyIter_rangeiter m.2 h
 |enm v=>
  obtain⟨J,a,old,_,_,_,he,_⟩:_:=m;exact lW he h
 |vals k n ep=>
  obtain⟨_,a,ha,hit⟩:_:=m;exact wpAny_pyIter_valiter hit h
theorem eq__671(F:FrRel W fr env O h):relabel sc env=rE fr sc:=by
 intros n4 X W X O X h Fr fr Ai env Ah sc
 unfold relabel rE
 have hk:(env.scope.kind==ScopeKind.function)=true:=by rw[F.kind];rfl
 congr 1
 apply l5
 rintro⟨x,k⟩_
 have kk:env.kindOf x=fr.kind x:=by unfold e9 Fr.kind;rw[F.scope]
 simp only[hk,kk,nH]
theorem eq__227(R:Rel prog w g W σ s.heap)(F:FrRel W fr env O s.heap){x:Str}{Q:Unit→Ad→Prop}(hp:fr.mayPut x=true)(rep:Rep W v rv)(h:∀h' tk,Rel prog w g W σ h'→Ext O W s.heap W h'→FrRel W (fr.put x v) env O h'→Q () {s with heap:=h',toks:=tk}):wpAny (model prog w) A (storeName env x rv) Q E s:=by
 unfold Fr.mayPut at hp
 refine cD (kY.mp hp) (fun hp=>?_) fun hp=>?_
 ·exact eq__208 R F rep (beq_iff_eq.mp hp) h
 ·simp only[aF,dE,beq_iff_eq]at hp;exact eq__585 R F rep hp.1.2 hp.1.1 (by simpa using hp.2) h
end
section
inductive uA(prog:Aa)(w:Ab)(g:Ac)(W:Wd)(σ:St)(fr':Fr)(env:Ai)(O:List Addr)(s:Ad)(_:Unit)(s':Ad):Prop
 |mk(h':Ac)(tk:Nat)(e2:s'={s with heap:=h',toks:=tk})(q:Rel prog w g W σ h')(x:Ext O W s.heap W h')(f:FrRel W fr' env O h')
theorem eq__355:∀(ts:List Ag)(vs:List Val)(fr:Fr),s6 ts vs fr=some fr'→(assignEach ts env).length=vs.length∧(assignEach ts env).findIdx? (·.1)=none
 |[],[],fr,e=>⟨rfl,rfl⟩
 |[],_::_,_,e=>by injection e
 |t::ts,vs,fr,e=>by
  rcases eq__212 e with⟨x,pos,v,vs',rfl,rfl,hp,e⟩;refine eq__14 (eq__355 ts vs' _ e) fun h1 h2=>?_;have' e1:assignEach (.Name x pos::ts) env=(false,fun u=>assign (.Name x pos) env u)::assignEach ts env:=rfl;rw[e1];exact⟨by simp[h1],by rw[List.findIdx?_cons,h2];rfl⟩
theorem eq__356:∀(ts:List Ag)(vs:List Val)(fr:Fr)(rvs:List Af)(s:Ad),s6 ts vs fr=some fr'→RepL W vs rvs→Rel prog w g W σ s.heap→FrRel W fr env O s.heap→
  wpAny (model prog w) A (assignInOrder ((assignEach ts env).map (·.2)) rvs) (uA prog w g W σ fr' env O s) E s
 |[],[],fr,rvs,s,e,q,R,F=>by
  rcases a6 e with rfl;exact(RepL.nil.mp q)▸aS ⟨s.heap,s.toks,rfl,R,Ext.refl _ _ _,F⟩
 |[],_::_,_,_,_,e,_,_,_=>by injection e
 |t::ts,vs,fr,rvs,s,e,q,R,F=>by
  obtain⟨x,pos,v,vs',rfl,rfl,hp,e⟩:=eq__212 e;obtain⟨rv,rvs,rfl,p,q⟩:=RepL.cons.mp q;refine(?_:wpAny _ _ (holding rvs (assign (.Name x pos) env rv)>>=fun _=>assignInOrder ((assignEach ts env).map (·.2)) rvs) _ _ _);refine a8 (c6 (iT (eq__227 R F hp p fun h' tk R' x' F'=>?_)));refine aE (eq__356 ts vs' (fr.put x v) rvs {s with heap:=h',toks:=tk} e q R' F') (fun _ s' z=>?_) fun _ _ e=>e;rcases z with⟨h'',tk',rfl,R'',x'',F''⟩;exact⟨h'',tk',rfl,R'',x'.trans x'',F''⟩
theorem eq__357(hh:A.handled=none)(e:rF t v fr=some fr')(p:Rep W v rv)(R:Rel prog w g W σ s.heap)(F:FrRel W fr env O s.heap):
  wpAny (model prog w) A (assign t env rv) (uA prog w g W σ fr' env O s) E s:=by
 rcases eq__319 e with⟨x,pos,rfl,hp,rfl⟩|⟨ts,k,pos,vs,rfl,rfl,e⟩
 ·exact iT (eq__227 R F hp p fun h' tk R' x' F'=>⟨h',tk,rfl,R',x',F'⟩)
 ·(refine eq__71 (eq__80.mp p) fun a o rvs m q1_ i c d q z=>?_;subst q1_);rcases eq__355 (env:=env) _ _ _ e with⟨h1,h2⟩;refine assign_Tuple_tuple hh (items:=rvs.toArray) ⟨o,R.imm a o i,c,m,d⟩ (by refine a9 (h1) ?_;simpa using q.len.symm) h2 fun h' k=>?_;have' k':∀b o,s.heap.get? b=some o→h'.get? b=some o:=fun b o e=>k b o (dH (cG e)) e;refine eq__14 (R.grow k') fun R' x'=>?_;refine aE (eq__356 _ _ _ rvs {s with heap:=h'} e q R' (F.ext (Wd.le.refl W) x')) (fun _ s' z=>?_) fun _ _ e=>e;rcases z with⟨h'',tk',rfl,R'',x'',F''⟩;exact⟨h'',tk',rfl,R'',x'.nil.trans x'',F''⟩
theorem eq__358(F:FrRel W fr env O h)(hc:pD fr sc=true):∃cl,closureFor sc env=pure cl∧∀x,(x,eK)∈sc.names→cl.lookup x=env.cells.lookup x:=by
 have cells:∀nk∈sc.names,nk.2=.free→∃c,env.cells.lookup nk.1=some c:=fun nk hnk hf=>by
  unfold pD at hc;have' this:=aP.mp hc nk hnk;rw[hf]at this;simp only[bne_self_eq_false,kT,aF,cZ,beq_iff_eq]at this;refine eq__14 this fun h1 h2=>?_;rcases bM.mp h1 with⟨v,hv⟩;(refine eq__31 (F.cel nk.1 v hv h2) fun c _ e _=>?_);exact⟨c,e⟩
 have gen:∀(l:List (Str×NameKind))(acc:List (Str×Addr)),(∀nk∈l,nk.2=.free→∃c,env.cells.lookup nk.1=some c)→(∀x c,acc.lookup x=some c→env.cells.lookup x=some c)→
   ∃cl,(forIn l acc fun nk cs=>if nk.2==.free then(do let a←cellOf env nk.1;pure (ForInStep.yield ((nk.1,a)::cs)))else pure (ForInStep.yield cs):Sem (List (Str×Addr)))=pure cl∧
    (∀x c,cl.lookup x=some c→env.cells.lookup x=some c)∧(∀x,(acc.lookup x).isSome→(cl.lookup x).isSome)∧∀x,(x,eK)∈l→(cl.lookup x).isSome:=by
  intro l;induction l with
  |nil=>exact fun acc _ ha=>(eq__27 acc (by rw[List.forIn_nil]) ha (fun _ h=>h) (fun _ h=>nomatch h))
  |cons nk l ih=>
   intro acc hl ha;rcases nk with⟨x,k⟩;simp only[jS];by_cases hf:k=.free
   ·subst hf;rcases hl (x,.free) aO rfl with⟨c,ec⟩;refine eq__134 (ih ((x,c)::acc) (fun nk h=>hl nk (aU _ h)) (fun y c' h=>by
     rw[bQ]at h;by_cases q:(y==x)=true;·rw[q]at h;rcases a6 h with rfl;exact(beq_iff_eq.mp q)▸ec
     ·rw[Bool.not_eq_true]at q;rw[q]at h;exact ha y c' h)) fun cl e1 e2 e3 e4=>?_;have ece:cellOf env x=pure c:=by unfold cellOf;rw[ec]
    refine eq__27 cl ?_ e2 (fun y h=>e3 y ?_) (fun y h=>?_);·simp only[beq_self_eq_true,if_true,ece,pure_bind];exact e1
    ·simp only[bQ];split;·rfl
     ·exact h
    ·refine cD (bC.mp h) (fun q=>?_) fun q=>?_
     ·clear h;cases q;exact e3 x (by skip;simp)
     ·exact e4 y q
   ·have hb:(k==eK)=false:=by clear hl;cases k<;>first|rfl|exact absurd rfl hf
    (refine eq__134 (ih acc (fun nk h=>hl nk (aU _ h)) ha) fun cl e1 e2 e3 e4=>?_);refine eq__27 cl ?_ e2 e3 (fun y h=>?_);·simp only[hb,bR,if_false,pure_bind];exact e1
    ·refine cD (bC.mp h) (fun q=>?_) fun q=>?_;·clear h hb hl;(injection q with hq_ hr_;subst hq_;subst hr_);exact absurd rfl hf
     ·exact e4 y q
 (refine eq__134 (gen sc.names [] cells (fun _ _ h=>nomatch h)) fun cl e1 e2 _ e4=>?_)
 refine eq__2 cl ?_ (fun x hx=>?_)
 ·unfold closureFor;first
   |(dsimp only[bind_pure_comp];simpa using e1)
   |exact e1
 ·rcases bM.mp (e4 x hx)with⟨c,ec⟩;rw[ec,e2 x c ec]
end
variable{cenv:Ai}
section
theorem eq__228{α β:Type}{f:Str×α→Option (Str×β)}(hf:∀nk p,f nk=some p→p.1=nk.1){x:Str}{v:β}:∀{l:List (Str×α)},look x (l.filterMap f)=some v→∃nk∈l,f nk=some (x,v)
 |[],h=>by(injection h)
 |nk::l,h=>by
  rw[bB]at h;cases e:f nk with
  |none=>
   rw[e]at h;obtain⟨nk',h1,h2⟩:=eq__228 hf h;exact eq__2 nk' (aU _ h1) h2
  |some p=>
   rw[e]at h;rcases p with⟨y,u⟩;rw[eq__46]at h;split at h
   ·rename_i q;subst q;rcases a6 h with rfl;exact eq__2 nk aO e
   ·obtain⟨nk',h1,h2⟩:_:=eq__228 hf h;exact eq__2 nk' (aU _ h1) h2
theorem eq__111{α:Type}{x:Str}{k:α}:∀{l:List (Str×α)},(l.map (·.1)).Nodup→(x,k)∈l→l.lookup x=some k
 |[],_,h=>by cases h
 |(y,k')::l,nd,h=>by
  rw[aG,eP]at nd;refine a9 (bQ) ?_;rcases bC.mp h with q|q;·clear h nd;(injection q with hq_ hr_;subst hq_;subst hr_);simp
  ·have :(x==y)=false:=by
    rw[beq_eq_false_iff_ne];clear h;rintro rfl;exact nd.1 (cQ.mpr (eq__2 _ q rfl))
   exact(this)▸eq__111 nd.2 q
theorem eq__672(F:FrRel W fr env O h)(hs:pW sc=true)(hcap:pD fr sc=true){cl:List (Str×Addr)}(hcl:∀x,(x,eK)∈sc.names→cl.lookup x=env.cells.lookup x)(hw:W C=.free)(hC:h.Ns C fun _=>none)(h1:cenv.scope=rE fr sc)(h2:cenv.locals=C)(h3:cenv.globals=env.globals)(h4:cenv.builtins=env.builtins)(h5:cenv.cells=cl)(hO:C∈O'):FrRel W (pZ fr sc) cenv O' h:=by
 intros n16 X O X F X hs X hcap X cl X hcl X C X hw X hC X O' Wd W Ac h Fr fr Ai env Ah sc Ai cenv
 simp only[pW,aF,decide_eq_true_eq,beq_iff_eq]at hs
 obtain⟨⟨hk,hnd⟩,hcell⟩:_:=hs
 have fm:∀(nk:Str×NameKind)(p:Str×Val),(if nk.2==.free then(look nk.1 fr.vars).map (nk.1,·)else none)=some p→p.1=nk.1:=fun nk p e=>by
  split at e
  ·rw[aJ]at e;rcases e with⟨v,_,rfl⟩;rfl
  ·(injection e)
 have vars:∀x v,look x (pZ fr sc).vars=some v→(x,eK)∈sc.names∧look x fr.vars=some v:=fun x v e=>by
  unfold pZ at e;obtain⟨⟨y,k⟩,hm,e2⟩:=eq__228 fm e;simp only at e2;split at e2
  ·rename_i hf;rw[aJ]at e2;rcases e2 with⟨u,hu,e3⟩;clear e;(injection e3 with hq_ hr_;subst hq_;subst hr_);have' this:k=.free:=by simpa using hf
   clear hf;subst this;exact⟨hm,hu⟩
  ·(injection e2)
 have kind:∀x,(x,eK)∈sc.names→(pZ fr sc).kind x=some (if fr.kind x==some .cell then .cell else .free):=fun x hx=>by
  unfold Fr.kind pZ rE;simp only;refine eq__111 ?_ ?_
  ·simp only[c8];refine(?_:(((·.1)∘fun nk:Str×NameKind=>if(nk.2==eK&&fr.kind nk.1==some fT)=true then(nk.1,fT)else nk)=(·.1))→_) ?_;rotate_left;·
    funext nk;simp only[Function.comp];split<;>rfl
   intro this;rw[this];exact hnd
  ·refine cQ.mpr (eq__2 _ hx ?_);unfold Fr.kind;simp only[beq_self_eq_true,iN];split<;>simp_all
 refine⟨h1,by refine a9 (congrArg _ (h1)) ?_;exact hk,h3.trans F.glob,h4.trans F.bi,(eq__2 _ (h2▸hC) (fun x v e k=>?_)),fun x v e _=>?_,.inl (h2▸hw),h2▸hO,fun hf=>?_,fun hf=>?_⟩
 ·refine eq__14 (vars x v e) fun hx _=>?_;rw[kind x hx]at k;split at k<;>contradiction
 ·refine eq__14 (vars x v e) fun hx hv=>?_;have kk:fr.kind x=some .cell∨fr.kind x=some .free:=by
   unfold pD at hcap;have' this:=aP.mp hcap _ hx;simp only[bne_self_eq_false,kT,aF,cZ,beq_iff_eq]at this;exact this.2
  refine eq__25 (F.cel x v hv kk) fun c rv e1 i r st=>?_;exact eq__39 c rv (by rw[h5,hcl x hx];exact e1) i r st
 ·(injection hf)
 ·(injection hf)
theorem eq__359{cenv:Ai}:∀(ifs:List Ag){Q:Bool→Ad→Prop}{s:Ad},Q false s→
  wpAny (model prog w) A (forIn ifs false fun c r=>if r=true then do let ok←isTrue c cenv (eval c cenv);pure (ForInStep.yield ok)else pure (ForInStep.yield r)) Q E s
 |[],_,_,h=>aS h
 |c::r,Q,s,h=>by
  rw[jS];skip;exact a8 (aS (eq__359 r h))
theorem eq__360(HT:sI prog w g T D n){cenv:Ai}{cfr:Fr}:∀(ifs:List Ag)(σ:St)(W:Wd)(s:Ad),At prog w g D A fl cfr cenv O W σ s.heap→rI (tst T n) cfr ifs σ≠.stuck→
  Snd prog w g (fun _(a b:Bool)=>a=b) A (forIn ifs true fun c r=>if r=true then do let ok←isTrue c cenv (eval c cenv);pure (ForInStep.yield ok)else pure (ForInStep.yield r)) (rI (tst T n) cfr ifs σ) W s
 |[],σ,W,s,a,hs=>wpAny_tests_nil (Post.still a.rel rfl)
 |c::r,σ,W,s,a,hs=>by
  skip;skip;rw[jS];skip;have core:=one (prog:=prog) (w:=w) (g:=g) (W:=W) (s:=s) (A:=A) (R1:=fun _(a b:Bool)=>a=b) (R3:=fun _(a b:Bool)=>a=b) (t1:=isTrue c cenv (eval c cenv)) (r1:=tst T n cfr c σ)
   (G:=fun(b:Bool)(Q:Bool→Ad→Prop)(E:Af→Ad→Prop)(s:Ad)=>wpAny (model prog w) A (forIn r b fun c r=>if r=true then do let ok←isTrue c cenv (eval c cenv);pure (ForInStep.yield ok)else pure (ForInStep.yield r)) Q E s)
   aE hs (fun h=>HT _ _ _ _ _ _ _ _ _ a h) (fun b σ₁ W₁ h₁ tk₁ b' h x R e=>?_);·exact a8 (a8 (aE core (fun b s₁ h=>aS h) fun _ _ e=>e))
  ·subst e;cases b with
   |false=>exact eq__359 r (Post.still (s:={s with heap:=h₁,toks:=tk₁}) R rfl)
   |true=>exact eq__360 HT r σ₁ W₁ _ (a.step (s:=s) x R) h
end
noncomputable abbrev tN(ifs:List Ag)(env:Ai):Sem Bool:=forIn ifs true fun c r=>if r=true then do let ok←isTrue c env (eval c env);pure (ForInStep.yield ok)else pure (ForInStep.yield r)
variable{gens:List Comprehension}{scope:Ah}{elt target:Ag}{ifs:List Ag}
theorem eq__673{d:Nat}{iter:Ag}{acc:Af}(hg:gens[d]?=some ⟨target,iter,ifs,0⟩)(hn:gens[d+1]?=none):
  compTurn (.ListComp elt gens scope pos) d it acc env=(do
   standAt iter.pos
   match←pyNext it with
   |none=>pure (.done .next)
   |some v=>
    letOwnedTupleGo target it v
    assign target env v
    let ok←tN ifs env
    if ok=true then do
     (do
      let x←eval elt env
      let _←call (.builtin "list.append") [acc,x]
      pure ():Sem Unit)
     again (.compLoop (.ListComp elt gens scope pos) d it acc env)
    else again (.compLoop (.ListComp elt gens scope pos) d it acc env)):=by
 intros n2 Pos pos Ai env Af it LC gens Ah scope Ag elt Ag target LE ifs Nat d Ag iter Af acc
 unfold compTurn
 simp only[hg,hn]
 rfl
theorem eq__674{d:Nat}{iter t' i':Ag}{f':List Ag}{acc:Af}(hg:gens[d]?=some ⟨target,iter,ifs,0⟩)(hn:gens[d+1]?=some ⟨t',i',f',0⟩):
  compTurn (.ListComp elt gens scope pos) d it acc env=(do
   standAt iter.pos
   match←pyNext it with
   |none=>pure (.done .next)
   |some v=>
    letOwnedTupleGo target it v
    assign target env v
    let ok←tN ifs env
    if ok=true then do
     let x←eval i' env
     standAt i'.pos
     let x←foldedSetIterable i' env x
     let it'←holding [x] (pyIter x)
     let _←runOwn (.compStart (.ListComp elt gens scope pos) (d+1) it' acc env) env
     again (.compLoop (.ListComp elt gens scope pos) d it acc env)
    else again (.compLoop (.ListComp elt gens scope pos) d it acc env)):=by
 intros n2 Pos pos Ai env Af it LC gens Ah scope Ag elt Ag target LE ifs Nat d Ag iter Ag t' Ag i' LE f' Af acc
 unfold compTurn
 simp only[hg,hn]
 rfl
section
variable{R:Result→Ad→Prop}
theorem eq__675{d:Nat}{acc:Af}(h:wpAny (model prog w) A (compTurn (.ListComp elt gens scope pos) d it acc env) (fun fin s'=>match fin with|.done f=>R (.ok f) s'|.again c'=>c'.quiet=true∧codeAny (model prog w) A c' R s') (notedBy (model prog w) A env fun e s'=>R (.error e) s') s):
  codeAny (model prog w) A (.compLoop (.ListComp elt gens scope pos) d it acc env) R s:=by
 refine jQ ?_
 have' e:A.under (.compLoop (.ListComp elt gens scope pos) d it acc env)=A:=jY rfl
 rw[e]
 show wpAny _ A ((compTurn (.ListComp elt gens scope pos) d it acc env).onRaise (fun x=>do noteFrame x env;theTreesLotGoes x)) _ _ s
 exact wpAny_noted h
theorem eq__361{d:Nat}{acc:Af}{c:Comprehension}(hg:gens[d]?=some c)(ha:c.is_async=0)(h0:codeAny (model prog w) A (.compLoop (.ListComp elt gens scope pos) d it acc env) R s)(h:wpAny (model prog w) A (pyIter it) (fun it' s'=>codeAny (model prog w) A (.compLoop (.ListComp elt gens scope pos) d it' acc env) R s') (fun _ _=>False) s):
  codeAny (model prog w) A (.compStart (.ListComp elt gens scope pos) d it acc env) R s:=by
 intros n7 X s X R X c Ae A Aa prog Ab w Pos pos Ai env Af it LC gens Ah scope Ag elt Nat d Af acc
 refine jQ ?_
 have' e:A.under (.compStart (.ListComp elt gens scope pos) d it acc env)=A:=jY rfl
 rw[e]
 show wpAny _ A ((compStart (.ListComp elt gens scope pos) d it acc env).onRaise (fun x=>do noteFrame x env;standAt theWindowsPlace)) _ _ s
 refine wpAny_onRaise (aE (E:=fun _ _=>False) (Q:=(fun fin s'=>match fin with|.done f=>R (.ok f) s'|.again c'=>c'.quiet=true∧codeAny (model prog w) A c' R s')) ?_ (fun _ _ h=>h) fun _ _ f=>f.elim)
 unfold compStart
 have' hc:(clausesOf (.ListComp elt gens scope pos))[d]?=some c:=hg
 rw[hc,Option.elim_some,ha]
 refine(?_:wpAny _ _ (ask>>=_) _ _ s)
 refine a8 (mE (eM ?_))
 split
 ·first
   |exact aS ⟨rfl,h0⟩
   |exact a8 (aS (aS ⟨rfl,h0⟩))
 ·refine a8 (mQ ?_);exact a8 (cP (a8 (aE h (fun it' s' h'=>aS ⟨rfl,h'⟩) fun _ _ f=>f)))
end
section
variable(prog:Aa)(w:Ab)(g:Ac)(D:Nat)
structure CompAt(A:Ae)(fl:List Ai)(cenv:Ai)(L:Addr)(W₀:Wd)(h₀:Ac)(cfr:Fr)(acc:List Val)(σ:St)(W:Wd)(h:Ac):Prop where
 at_:At prog w g D A fl cfr cenv [cenv.locals] W σ h
 fC:W cenv.locals=.free
 fL:W L=.free
 list:∃rvs nl,h.get? L=some (tV rvs nl)∧RepL W acc rvs
 len:acc.length≤lim
 ne:L≠cenv.locals
 base:Ext [] W₀ h₀ W h
 fs₀:Frames W₀ h₀ fl
 nL:h₀.get? L=none
 nC:h₀.get? cenv.locals=none
inductive uS(A:Ae)(fl:List Ai)(cenv:Ai)(L:Addr)(W₀:Wd)(h₀:Ac)(r:Out St (List Val×Fr))(W:Wd)(s:Ad)(s':Ad):Prop
 |mk(acc':List Val)(cfr':Fr)(σ':St)(W':Wd)(h':Ac)(tk:Nat)(e1:r=.ok (acc',cfr') σ')(e2:s'={s with heap:=h',toks:=tk})(x:Ext [L,cenv.locals] W s.heap W' h')(c:CompAt prog w g D A fl cenv L W₀ h₀ cfr' acc' σ' W' h')
def tH(A:Ae)(fl:List Ai)(cenv:Ai)(L:Addr)(W₀:Wd)(h₀:Ac)(M:Sem Unit)(inner:Fr→List Val→St→Out St (List Val×Fr)):Prop:=∀(cfr:Fr)(acc:List Val)(σ:St)(W:Wd)(s:Ad),
 CompAt prog w g D A fl cenv L W₀ h₀ cfr acc σ W s.heap→inner cfr acc σ≠.stuck→
 wpAny (model prog w) A M (fun _ s'=>uS prog w g D A fl cenv L W₀ h₀ (inner cfr acc σ) W s s') (fun e s'=>PostY prog w g cenv.locals (inner cfr acc σ) W₀ {s with heap:=h₀} e s') s
def sZ(A:Ae)(fl:List Ai)(cenv:Ai)(L:Addr)(W₀:Wd)(h₀:Ac)(code:Addr→Code)(sr:Src)(i:Nat)(r:Fr→List Val→St→Out St (List Val×Fr)):Prop:=∀(cfr:Fr)(acc:List Val)(σ:St)(W:Wd)(s:Ad)(I:Addr)(S:List Addr)(R:Result→Ad→Prop),
 CompAt prog w g D A fl cenv L W₀ h₀ cfr acc σ W s.heap→IterAt W s.heap sr i I S→L∉S→cenv.locals∉S→(∀b∈S,h₀.get? b=none)→r cfr acc σ≠.stuck→
 (∀acc' cfr' σ' W' h' tk,r cfr acc σ=.ok (acc',cfr') σ'→Ext (S++[L,cenv.locals]) W s.heap W' h'→CompAt prog w g D A fl cenv L W₀ h₀ cfr' acc' σ' W' h'→R (.ok .next) {s with heap:=h',toks:=tk})→
 (∀e s',PostC prog w g cenv.locals (r cfr acc σ) W₀ {s with heap:=h₀} e s'→R (.error e) s')→codeAny (model prog w) A (code I) R s
end
variable{cfr':Fr}
section
variable{acc:List Val}
theorem CompAt.move(c:CompAt prog w g D A fl cenv L W₀ h₀ cfr acc σ W h)(x:Ext O W h W' h')(R:Rel prog w g W' σ' h')(nL:L∉O)(hO:∀b∈O,h₀.get? b=none)(fC':W' cenv.locals=.free)(F:FrRel W' cfr' cenv [cenv.locals] h'):
  CompAt prog w g D A fl cenv L W₀ h₀ cfr' acc σ' W' h':=by
 (refine eq__31 c.list fun rvs nl e q=>?_)
 refine eq__14 (x.stillAt e (by refine a9 (congrArg _ (c.fL)) ?_;rfl) nL) fun e' r'=>?_
 have' b':Ext [] W₀ h₀ W' h':=(c.base.nil.trans (x.wide (O':=[]++O) (fun b hb=>hb))).narrow hO
 exact⟨⟨c.at_.ok,c.at_.fs.ext x,R,F,c.at_.top⟩,fC',by rw[r',c.fL],(eq__28 rvs nl e' (q.mono (c.at_.rel.le x))),c.len,c.ne,b',c.fs₀,c.nL,c.nC⟩
theorem CompAt.step(c:CompAt prog w g D A fl cenv L W₀ h₀ cfr acc σ W h)(x:Ext [] W h W' h')(R:Rel prog w g W' σ' h'):CompAt prog w g D A fl cenv L W₀ h₀ cfr acc σ' W' h':=by
 obtain⟨m,⟨o,_,_,ho,_⟩,_⟩:=c.at_.fr.loc
 exact c.move x R (by simp) (by simp) (by rw[(x.stillAt ho (by refine a9 (congrArg _ (c.fC)) ?_;rfl) (by simp)).2,c.fC]) (c.at_.fr.ext (c.at_.rel.le x) x)
theorem CompAt.toY{r:Out St α}(c:CompAt prog w g D A fl cenv L W₀ h₀ cfr acc σ W s.heap)(p:PostX prog w g r W s e s'):PostY prog w g cenv.locals r W₀ {s with heap:=h₀} e s':=by
 obtain⟨k,σk,Wk,hk,tkk,ek,e5,x5,R5,f5⟩:=p
 obtain⟨m,⟨o,es,ep,ho,q⟩,_⟩:=c.at_.fr.loc
 have st:=x5.stillAt ho (by refine a9 (congrArg _ (c.fC)) ?_;rfl) (by simp)
 exact⟨k,σk,Wk,hk,tkk,ek,e5,c.base.trans x5,R5,f5.back c.base,by rw[st.2,c.fC],m,o,es,ep,st.1,q⟩
theorem eq__362{r:Out St α}(c:CompAt prog w g D A fl cenv L W₀ h₀ cfr acc σ W h)(s₀:Ad)(hs₀:s₀.heap=h₀)(p:PostY prog w g cenv.locals r W₀ s₀ e s')(hq:∀s'',PostC prog w g cenv.locals r W₀ s₀ e s''→Q e s''):notedBy (model prog w) A cenv Q e s':=by
 obtain⟨e₀,rs,hfl,hfr⟩:=c.at_.top
 subst hfl
 obtain⟨_,L',_,hf',_⟩:=c.fs₀ e₀ aO
 exact eq__669 c.at_.ok.fr (by exact(hs₀)▸c.fs₀) (hfr.symm.trans hf') hfr p hq
theorem _root_.Mine.FrRel.extO(F:FrRel W fr env O h)(l:W.le W')(x:Ext O' W h W' h')(nL:env.locals∉O')(nc:∀c v,h.IsCell c v→c∉O'):FrRel W' fr env O h':=by
 have roleL:W' env.locals=W env.locals:=by
  obtain⟨m,n,_⟩:=F.loc;rcases n with⟨o,_,_,ho,_⟩;exact(x.2 _ o ho).1 nL
 refine⟨F.scope,F.kind,F.glob,F.bi,?_,fun y v e k=>?_,?_,F.locO,fun hf y k=>?_,F.apart⟩
 ·refine eq__1 F.loc fun m n q=>?_;refine eq__2 m (eq__315 n fun o ho=>?_) (fun y v e k=>?_)
  ·rcases(x.2 _ o ho).2 with⟨_,m⟩|⟨o',e',s,_,f⟩;·exact absurd m nL
   rcases F.locW with r|r;·have :=s (by refine a9 (congrArg _ (r)) ?_;rfl) nL;exact⟨o.slots,by rw[e',this]⟩
   ·obtain⟨sl,q⟩:_:=f r nL;exact⟨sl,by rw[e',q]⟩
  ·obtain⟨rv,a,b⟩:_:=q y v e k;exact eq__2 rv a (b.mono l)
 ·(refine eq__25 (F.cel y v e k) fun c rv a q1_ b st=>?_;rcases q1_ with⟨o,ho,hd⟩);obtain⟨e',r⟩:_:=x.stillAt ho st (nc c _ ⟨o,ho,hd⟩);exact eq__39 c rv a ⟨o,e',hd⟩ (b.mono l) (by refine a9 (congrArg _ (r)) ?_;exact st)
 ·exact(roleL)▸F.locW
 ·obtain⟨c,v₀,a,⟨o,ho,hd⟩,st,b,f⟩:=F.own hf y k;obtain⟨e',r⟩:_:=x.stillAt ho st (nc c _ ⟨o,ho,hd⟩);exact eq__61 c v₀ a ⟨o,e',hd⟩ (by refine a9 (congrArg _ (r)) ?_;exact st) b (fun n=>by refine a9 (r) ?_;exact f n)
theorem IterAt.fields(t:IterAt W h sr i I S):∀b∈S,∃o vs,h.get? b=some o∧o.data=.fields vs:=by
 intros n2 X sr Wd W Nat i Ac h LA S Addr I
 have one:S=[I]→(∃o vs,h.get? I=some o∧o.data=.fields vs)→∀b∈S,∃o vs,h.get? b=some o∧o.data=.fields vs:=fun e q b hb=>by
  rw[e]at hb;exact(aA.mp hb)▸q
 have m:=t.2.2
 cases sr with
 |val v=>
  refine one m.1 ?_;have' m:=m.2;cases hv:s4 v with
  |some x=>
   rw[hv]at m;rcases m with⟨t,⟨o,ho,_,hd⟩|⟨o,ho,_,hd⟩⟩;·exact⟨o,_,ho,hd⟩
   ·exact⟨o,_,ho,hd⟩
  |none=>
   rw[hv]at m;obtain⟨a,_,o,ho,_,hd⟩:=m;exact⟨o,_,ho,hd⟩
 |rng n=>exact one m.1 (eq__28 _ _ m.2 rfl)
 |enm v=>
  obtain⟨J,a,old,e,_,_,he,o,ho,_,hd⟩:=m;intro b hb;have :b=I∨b=J:=by rw[e]at hb;simpa using hb
  rcases this with q|q;·rw[q];exact eq__28 _ _ he rfl
  ·rw[q];exact eq__28 o _ ho hd
 |vals k n ep=>
  intros n2 Nat n Nat k Nat ep;obtain⟨e,a,_,o,ho,_,hd⟩:_:=m;exact one e (eq__28 o _ ho hd)
theorem IterAt.frel(t:IterAt W h sr i I S)(F:FrRel W fr env O h)(x:Ext S W h W' h'):env.locals∉S∧FrRel W' fr env O h':=by
 have nL:env.locals∉S:=fun hm=>by
  refine eq__1 F.loc fun m q1_ _=>?_;rcases q1_ with⟨o,es,ep,ho,hd,_⟩;refine eq__31 (t.fields _ hm) fun o' vs ho' hd'=>?_;rw[ho]at ho';rcases a6 ho' with rfl;rw[hd]at hd';(injection hd')
 refine⟨nL,F.extO x.1 x nL fun c v hF hm=>eq__1 hF fun o ho hd=>?_⟩
 refine eq__31 (t.fields _ hm) fun o' vs ho' hd'=>?_
 rw[ho]at ho';rcases a6 ho' with rfl;rw[hd]at hd';(injection hd')
theorem eq__363{d:Nat}{iter:Ag}{thenB:Af→Sem oV}{M:Sem Unit}{inner:Fr→List Val→St→Out St (List Val×Fr)}(HT:sI prog w g T D n)(ht:qG sr target=true)(eqn:∀it,compTurn (.ListComp elt gens scope pos) d it (.ref L) cenv=(do
   standAt iter.pos
   match←pyNext it with
   |none=>pure (.done .next)
   |some v=>
    letOwnedTupleGo target it v
    assign target cenv v
    let ok←tN ifs cenv
    if ok=true then thenB it
    else again (.compLoop (.ListComp elt gens scope pos) d it (.ref L) cenv)))(hT:∀(it:Af)(Q:oV→Ad→Prop)(E:Af→Ad→Prop)(s₁:Ad),wpAny (model prog w) A M (fun _ s₂=>wpAny (model prog w) A (again (.compLoop (.ListComp elt gens scope pos) d it (.ref L) cenv)) Q E s₂) E s₁→wpAny (model prog w) A (thenB it) Q E s₁)(hM:tH prog w g D A fl cenv L W₀ h₀ M inner)(f:Nat):∀i:Nat,sZ prog w g D A fl cenv L W₀ h₀ (fun I=>.compLoop (.ListComp elt gens scope pos) d (.ref I) (.ref L) cenv) sr i (fun cfr acc σ=>rG sr (pH (tst T n) target ifs inner) f i cfr acc σ):=by
 intros n9 X thenB X M X inner X f Nat n Ae A Aa prog Ab w Ac g Pos pos LN fl Ac h₀ Wd W₀ Tab T Nat D Src sr Addr L Ai cenv LC gens Ah scope Ag elt Ag target LE ifs Nat d Ag iter
 induction f with
 |zero=>intro i cfr acc σ W s I S R _ _ _ _ _ hs _ _;exact absurd rfl hs
 |succ f ih=>
  intro i cfr acc σ W s I S R c it nLS nCS nS hs ok er;dsimp only at hs ok er⊢;refine eq__675 ?_;rw[eqn];refine a8 (cP (a8 ?_));generalize hr:rG sr (pH (tst T n) target ifs inner) (f+1) i cfr acc σ=r at hs ok er;rw[eq__142]at hr;cases hn:pG σ sr i with
  |none=>rw[hn]at hr;exact absurd hr.symm hs
  |some rr=>
   rw[hn]at hr;have keep:∀{W' h'},Ext S W s.heap W' h'→Rel prog w g W' σ h'→CompAt prog w g D A fl cenv L W₀ h₀ cfr acc σ W' h':=fun{W' h'}x R'=>by
    (refine eq__1 c.at_.fr.loc fun m q1_ _=>?_;rcases q1_ with⟨o,_,_,ho,_⟩);have hC:=x.stillAt ho (by refine a9 (congrArg _ (c.fC)) ?_;rfl) nCS;exact c.move x R' nLS nS (by rw[hC.2,c.fC]) (it.frel c.at_.fr x).2
   refine aE (eq__347 (N:=fun s'=>R (.ok .next) s') (Y:=fun u s'=>wpAny (model prog w) A (do
     assign target cenv u
     let ok←tN ifs cenv
     if ok=true then thenB (.ref I)
     else again (.compLoop (.ListComp elt gens scope pos) d (.ref I) (.ref L) cenv)) (fun fin s'=>match fin with|.done f=>R (.ok f) s'|.again c'=>c'.quiet=true∧codeAny (model prog w) A c' R s') (notedBy (model prog w) A cenv fun e s'=>R (.error e) s') s')
     c.at_.ok.hd c.at_.rel it hn ht (fun hnone h' tk x R'=>?_) (fun v hv W' h' tk u x R' rep it'=>?_)) (fun rv s₁ h₁=>?_) fun _ _ e=>e;·clear hn;(refine aM fun hG_=>?_;subst hnone;refine hG_ ?_;clear hG_);simp only at hr;clear er hs;subst hr;exact ok acc cfr σ W h' tk rfl (x.wide fun b hb=>cV _ hb) (keep x R')
   ·clear hn;(refine aM fun hG_=>?_;subst hv;refine hG_ ?_;clear hG_);simp only at hr;have' c₁:=keep x R';cases hb:rF target v cfr with
    |none=>
     have e0:pH (tst T n) target ifs inner v cfr acc σ=.stuck:=by unfold pH;rw[hb]
     rw[e0]at hr;exact absurd hr.symm hs
    |some cfr'=>
     have e0:pH (tst T n) target ifs inner v cfr acc σ=(rI (tst T n) cfr' ifs σ).bind fun b σ₁=>if b then inner cfr' acc σ₁ else .ok (acc,cfr') σ₁:=by unfold pH;simp only[hb]
     rw[e0]at hr;refine a8 (aE (eq__357 (s:={s with heap:=h',toks:=tk}) (E:=fun _ _=>False) c.at_.ok.hd hb rep c₁.at_.rel c₁.at_.fr) (fun _ s₂ z=>?_) fun _ _ f=>f.elim);rcases z with⟨h₂,tk₂,rfl,R₂,x₂,F₂⟩;have nCS':∀b∈S,b∉[cenv.locals]:=fun b hb hm=>by rw[aA.mp hm]at hb;exact nCS hb
     have c₂:=c₁.move (cfr':=cfr') x₂ R₂ (by simpa using c.ne) (by intro b hb;refine a9 (congrArg _ (aA.mp hb)) ?_;exact c.nC) c₁.fC F₂;have' it₂:=it'.ext R' x₂ nCS';have e02:Ext (S++[L,cenv.locals]) W s.heap W' h₂:=(x.wide fun b hb=>cV _ hb).trans (x₂.wide fun b hb=>by simp only[aA.mp hb];simp);have ht2:rI (tst T n) cfr' ifs σ≠.stuck:=fun q=>by rw[q]at hr;exact hs hr.symm
     refine a8 ((eq__360 HT ifs σ W' {s with heap:=h₂,toks:=tk₂} c₂.at_ ht2).bindQ (fun b σ₃ W₃ h₃ tk₃ b' e₃ x₃ R₃ eb=>?_) fun e s' q=>?_);rotate_left
     ·refine eq__362 c₂ {s with heap:=h₀} rfl (r:=r) ?_ fun s'' p=>er e s'' p;rcases c₂.toY (s:={s with heap:=h₂,toks:=tk₂}) q with⟨k,σk,Wk,hk,tkk,ek,e5,x5,R5,f5,q1,q2,q3⟩;exact⟨k,σk,Wk,hk,tkk,by rw[←hr,ek];rfl,e5,x5,R5,f5,q1,q2,q3⟩
     ·subst eb;rw[e₃]at hr;simp only[Out.bind_ok]at hr;have c₃:=c₂.step x₃ R₃;have it₃:=it₂.ext R₂ x₃ (by simp);have e03:=e02.trans x₃.nil;clear e₃;cases b with
      |false=>
       simp only[bR,if_false,Out.bind_ok]at hr;skip;refine aS ⟨rfl,?_⟩;have :=ih (i+1) cfr' acc σ₃ W₃ {s with heap:=h₃,toks:=tk₃} I S R c₃ it₃ nLS nCS nS (by dsimp only;exact(hr)▸hs)
        (fun acc' cfr'' σ' W' h' tk e x' c'=>ok acc' cfr'' σ' W' h' tk (by refine a9 (bH (hr)) ?_;exact e) (e03.trans x') c') (fun e s' p=>er e s' (by exact(bH (hr))▸p.tok));exact this
      |true=>
       simp only[if_true]at hr⊢;have hin:inner cfr' acc σ₃≠.stuck:=fun q=>by rw[q]at hr;exact hs hr.symm
       refine hT _ _ _ _ (aE (hM cfr' acc σ₃ W₃ {s with heap:=h₃,toks:=tk₃} c₃ hin) (fun _ s₄ z=>?_) fun e s' q=>?_)
       ·rcases z with⟨acc₄,cfr₄,σ₄,W₄,h₄,tk₄,e₄,rfl,x₄,c₄⟩;replace hr:=(e₄)▸hr;simp only[Out.bind_ok]at hr;have it₄:=it₃.ext R₃ x₄ (fun b hb hm=>by
         have' this:b=L∨b=cenv.locals:=by simpa using hm
         clear hm c₄ x₄ e03 c₃ e02 c₂ c₁ keep ok c ih hM hT eqn;rcases this with rfl|rfl;·exact nLS hb
         ·exact nCS hb);have' e04:=e03.trans (x₄.wide fun b hb=>cR _ hb);refine aS ⟨rfl,?_⟩;exact ih (i+1) cfr₄ acc₄ σ₄ W₄ {s with heap:=h₄,toks:=tk₄} I S R c₄ it₄ nLS nCS nS (by dsimp only;exact(hr)▸hs)
         (fun acc' cfr'' σ' W' h' tk e x' c'=>ok acc' cfr'' σ' W' h' tk (by refine a9 (bH (hr)) ?_;exact e) (e04.trans x') c') (fun e s' p=>er e s' (by exact(bH (hr))▸p.tok))
       ·refine eq__362 c₃ {s with heap:=h₀} rfl (r:=r) ?_ fun s'' p=>er e s'' p;obtain⟨k,σk,Wk,hk,tkk,ek,e5,x5,R5,f5,q1,q2,q3⟩:=q;exact⟨k,σk,Wk,hk,tkk,by rw[←hr,ek];rfl,e5,x5,R5,f5,q1,q2,q3⟩
   ·cases rv with
    |none=>exact aS h₁
    |some v=>exact a8 (aE h₁ (fun _ s₂ h₂=>h₂) fun _ _ e=>e)
end
section
variable{acc:List Val}
theorem eq__229{e:Ag}{x:Af}(hs:src T n fr e σ≠.stuck):foldedSetIterable e env x=pure x:=by
 cases e<;>first|rfl|skip
 exfalso
 apply hs
 clear hs;cases n with
 |zero=>rfl
 |succ n=>
  cases n with
  |zero=>rfl
  |succ n=>rfl
theorem eq__676(H:rO prog w g T D n):tH prog w g D A fl cenv L W₀ h₀ (do let x←eval elt cenv;let _←call (.builtin "list.append") [.ref L,x];pure ()) (qF (ev T n) elt):=by
 intros n2 X elt Nat n Ae A Aa prog Ab w Ac g LN fl Ac h₀ Wd W₀ Tab T Nat D Addr L Ai cenv
 exact fun cfr acc σ W s c hs=>by
  unfold qF at hs⊢;have h1:ev T n cfr elt σ≠.stuck:=fun q=>hs (by simp only[q];rfl);refine a8 ((H _ _ _ _ _ _ _ _ _ c.at_ h1).bindQ (fun v σ₁ W₁ h₁ tk₁ rv e₁ x₁ R₁ rep₁=>?_) fun e s' q=>?_)
  · rw[e₁]at hs⊢;simp only[Out.bind_ok]at hs⊢;split at hs
    · rename_i hz;rw[if_pos hz];have c₁:=c.step x₁ R₁;(refine eq__31 c₁.list fun rvs nl e q=>?_);have' l1:=eq__143;have' hl:=q.len;have' il:IsL h₁ L rvs.toArray nl:=e;have' up:=il.update (·.push rv);have' e2:rvs.toArray.push rv=(rvs++[rv]).toArray:=by simp
      rw[e2]at up;have' ot:∀b o,b≠L→h₁.get? b=some o→(h₁.update L (i7 fun xs=>xs.push rv)).get? b=some o:=fun b o hb e=>(dI _ _ (cW hb)).trans e;refine eq__14 (eq__108 R₁ c₁.fL ot) fun R₂ x₂=>?_;refine a8 (fK (s:={s with heap:=h₁,toks:=tk₁}) gJ ⟨_,e,rfl⟩ iY (iM _ _) (list_append L rvs.toArray nl rv (by skip;exact eq__47 [_,_,_,_] (.le Z0 Z1) (.lt Z2 Z3) (.le Z3 Z1) (.eq Z0 Z2) rfl hz l1 hl)) ⟨e,?_⟩);have F₂:FrRel W₁ cfr cenv [cenv.locals] (h₁.update L (i7 fun xs=>xs.push rv)):=c₁.at_.fr.extO x₂.1 x₂ (by simpa using cW c₁.ne) fun cc v hF hm=>eq__1 hF fun o ho hd=>by
        rw[aA.mp hm]at ho;rw[e]at ho;rcases a6 ho with rfl;(injection hd)
      have b₂:Ext [] W₀ h₀ W₁ (h₁.update L (i7 fun xs=>xs.push rv)):=(c₁.base.nil.trans (x₂.wide (O':=[]++[L]) (by simp))).narrow (by intro b hb;refine a9 (congrArg _ (aA.mp hb)) ?_;exact c₁.nL);refine aS ⟨acc++[v],cfr,σ₁,W₁,_,tk₁,rfl,rfl,x₁.nil.trans (x₂.wide (by simp)),⟨⟨c₁.at_.ok,c₁.at_.fs.ext x₂,R₂,F₂,c₁.at_.top⟩,c₁.fC,c₁.fL,(eq__28 (rvs++[rv]) _ up (q.append (RepL.one rep₁))),by simp;exact eq__3 [_,_] (.le (.a Z0 (.n 1)) Z1) (.lt Z0 Z1) rfl hz,c₁.ne,b₂,c₁.fs₀,c₁.nL,c₁.nC⟩⟩
    ·exact absurd rfl hs
  ·exact(c.toY q).bind
theorem eq__677(HS:tG prog w g T D n){t' i':Ag}{f':List Ag}{d:Nat}{rec:Src→Fr→List Val→St→Out St (List Val×Fr)}(hn:gens[d]?=some ⟨t',i',f',0⟩)(ih:∀sr,sZ prog w g D A fl cenv L W₀ h₀ (fun I=>.compLoop (.ListComp elt gens scope pos) d (.ref I) (.ref L) cenv) sr 0 (rec sr)):
  tH prog w g D A fl cenv L W₀ h₀ (do
     let x←eval i' cenv
     standAt i'.pos
     let x←foldedSetIterable i' cenv x
     let it'←holding [x] (pyIter x)
     let _←runOwn (.compStart (.ListComp elt gens scope pos) d it' (.ref L) cenv) cenv
     pure ()) (fun cfr acc σ=>(src T n cfr i' σ).bind fun sr' σ₂=>rec sr' cfr acc σ₂):=by
 intros n6 X HS X t' X f' X rec Nat n Ae A Aa prog Ab w Ac g Pos pos LN fl Ac h₀ Wd W₀ Tab T Nat D Addr L Ai cenv LC gens Ah scope Ag elt Ag i' Nat d
 intro cfr₁ acc₁ σ₁ W₁ s₁ c₁ hs₁
 dsimp only at hs₁⊢
 have h1:src T n cfr₁ i' σ₁≠.stuck:=fun q=>hs₁ (by rw[q];rfl)
 generalize hr:(src T n cfr₁ i' σ₁).bind (fun sr' σ₂=>rec sr' cfr₁ acc₁ σ₂)=r at hs₁
 have toY:∀{W:Wd}{s:Ad}{σ:St}{e:Af}{s':Ad},CompAt prog w g D A fl cenv L W₀ h₀ cfr₁ acc₁ σ W s.heap→PostX prog w g (src T n cfr₁ i' σ₁) W s e s'→PostY prog w g cenv.locals r W₀ {s with heap:=h₀} e s':=fun c q=>by rw[←hr];exact(c.toY q).bind
 refine a8 (aE (HS _ _ _ _ _ _ _ _ _ c₁.at_ h1) (fun x s₂ hx=>?_) fun e s' q=>toY c₁ q)
 refine a8 (cP (a8 (iG (eq__229 h1) (a8 (c6 (aE hx (fun itv s₃ hi=>?_) fun e s' q=>toY c₁ q))))))
 clear toY
 rcases hi with⟨sr',σ₂,W₂,h₂,tk₂,I',S',e₂,rfl,x₂,R₂,rfl,it₂,nS'⟩
 rw[e₂]at hr
 have' hr:rec sr' cfr₁ acc₁ σ₂=r:=hr
 have c₂:=c₁.step x₂ R₂
 refine eq__31 c₁.list fun rvs₁ nl₁ eL _=>?_
 obtain⟨m₁,⟨oC,_,_,eC,_⟩,_⟩:=c₁.at_.fr.loc
 have nL':L∉S':=fun q=>by rw[nS' L q]at eL;(injection eL)
 have nC':cenv.locals∉S':=fun q=>by rw[nS' _ q]at eC;(injection eC)
 refine a8 (wpAny_runOwn ?_)
 have key:∀{R:Result→Ad→Prop},codeAny (model prog w) A (.compLoop (.ListComp elt gens scope pos) d (.ref I') (.ref L) cenv) R {s₁ with heap:=h₂,toks:=tk₂}→codeAny (model prog w) A (.compStart (.ListComp elt gens scope pos) d (.ref I') (.ref L) cenv) R {s₁ with heap:=h₂,toks:=tk₂}:=
  fun fin=>eq__361 hn rfl fin (eq__354 c₂.at_.rel it₂ fin)
 refine key (ih sr' cfr₁ acc₁ σ₂ W₂ {s₁ with heap:=h₂,toks:=tk₂} I' S' _ c₂ it₂ nL' nC' (fun b hb=>c₁.base.none (nS' b hb)) (by exact(hr)▸hs₁) (fun acc' cfr' σ' W' h' tk e x' c'=>?_) fun e s' p=>?_)
 ·exact aS ⟨acc',cfr',σ',W',h',tk,by refine a9 (bH (hr)) ?_;exact e,rfl,((x₂.nil.trans (x'.wide (O':=[L,cenv.locals]++S') fun b hb=>(bW.mp hb).elim (cR _) (cV _)))).narrow nS',c'⟩
 ·exact eq__670 (s:={s₁ with heap:=h₀}) (r:=r) (by exact(bH (hr))▸p.tok) fun s'' p=>p.y
theorem eq__678(H:rO prog w g T D n)(HT:sI prog w g T D n)(HS:tG prog w g T D n)(hz:∀c∈gens,c.is_async=0)(rest:List Comprehension):
  ∀d:Nat,gens.drop d=rest→∀sr:Src,sZ prog w g D A fl cenv L W₀ h₀ (fun I=>.compLoop (.ListComp elt gens scope pos) d (.ref I) (.ref L) cenv) sr 0 (fun cfr acc σ=>q8 (ev T n) (tst T n) (src T n) elt rest sr cfr acc σ):=by
 intros n5 X H X HT X HS X rest Nat n Ae A Aa prog Ab w Ac g Pos pos LN fl Ac h₀ Wd W₀ Tab T Nat D Addr L Ai cenv LC gens Ah scope Ag elt
 induction rest with
 |nil=>intro d _ sr cfr acc σ W s I S R _ _ _ _ _ hs _ _;exact absurd rfl hs
 |cons c rest ih=>
  intro d hd sr;intros n5 X c X rest X sr Nat d;have hg:gens[d]?=some c:=by
   have' this:=congrArg (·[0]?) hd;simpa using this
  rcases c with⟨target,iter,ifs,as⟩;have' has:as=0:=hz _ (aT hg);subst has;have run:∀{inner:Fr→List Val→St→Out St (List Val×Fr)},(qG sr target=true→sZ prog w g D A fl cenv L W₀ h₀ (fun I=>.compLoop (.ListComp elt gens scope pos) d (.ref I) (.ref L) cenv) sr 0 (fun cfr acc σ=>rG sr (pH (tst T n) target ifs inner) qC 0 cfr acc σ))→
    sZ prog w g D A fl cenv L W₀ h₀ (fun I=>.compLoop (.ListComp elt gens scope pos) d (.ref I) (.ref L) cenv) sr 0 (fun cfr acc σ=>if(0:Int)≠0∨qG sr target=false then .stuck else rG sr (pH (tst T n) target ifs inner) qC 0 cfr acc σ):=fun{inner}k=>by
   cases ht:qG sr target with
   |false=>intro cfr acc σ W s I S R _ _ _ _ _ hs _ _;exact absurd (if_pos (.inr rfl)) hs
   |true=>
    have' e:(fun(cfr:Fr)(acc:List Val)(σ:St)=>if(0:Int)≠0∨true=false then Out.stuck else rG sr (pH (tst T n) target ifs inner) qC 0 cfr acc σ)=_:=funext fun cfr=>funext fun acc=>funext fun σ=>if_neg (by decide);skip;exact k ht
  cases rest with
  |nil=>
   have hn:gens[d+1]?=none:=by
    have' this:=congrArg (·[1]?) hd;simpa using this
   exact run fun ht=>eq__363 HT ht (fun it=>eq__673 hg hn) (fun it Q E s₁ h=>a8 h) (eq__676 H) qC 0
  |cons c' more=>
   have hn:gens[d+1]?=some c':=by
    have' this:=congrArg (·[1]?) hd;simpa using this
   have hd':gens.drop (d+1)=c'::more:=by
    rw[←List.drop_drop,hd];rfl
   have' ih:=ih (d+1) hd';clear hd' hd;rcases c' with⟨t',i',f',as'⟩;have has':as'=0:=hz _ (aT hn);subst has';exact run fun ht=>eq__363 (iter:=iter) HT ht (fun it=>eq__674 hg hn) (fun it Q E s₁ h=>by
    have' this:=a8 h;simpa only[bind_assoc,pure_bind]using this) (eq__677 HS hn ih) qC 0
end
variable{gs:List Comprehension}
section
variable{acc:List Val}
theorem eq__679(R:Rel prog w g W σ h')(x:Ext [] W₀ s.heap W h'){nl:Nat}{tk:Nat}(hs:mkList T pos vs σ≠.stuck)(q:RepL W vs rvs)(fr:W a=.free)(nn:s.heap.get? a=none)(e:h'.get? a=some (tV rvs nl)):Post prog w g Rep (mkList T pos vs σ) W₀ s (.ref a) {s with heap:=h',toks:=tk}:=by
 intros n7 X R X x Ad s Aa prog Ab w Addr a Wd W LV vs Ac h' LVl rvs St σ Ac g Pos pos Wd W₀ Tab T Nat nl Nat tk
 unfold mkList at hs⊢
 have nar:∀{r:Role},Ext [a] W h' (W.put a r) h'→Ext [] W₀ s.heap (W.put a r) h':=fun x'=>(x.nil.trans (x'.wide (O':=[]++[a]) (by simp))).narrow (by intro b hb;refine a9 (congrArg _ (aA.mp hb)) ?_;exact nn)
 by_cases hz:vs.length≤lim
 ·rw[if_pos hz]at hs⊢;by_cases hp:T.chg pos=true;·rw[if_pos hp];obtain⟨R',x'⟩:_:=R.adopt (c:=.list vs) fr ⟨_,e⟩ ⟨rvs,nl,e,q.mono (Wd.put_le _ fr),hz⟩;exact Post.at (nar x') R' (eq__35.mpr ⟨a,rfl,Wd.put_self ..⟩)
  ·rw[if_neg hp];obtain⟨R',x'⟩:_:=R.freeze fr e;exact Post.at (nar x') R' (eq__94.mpr (eq__67 a _ rvs nl ⟨rfl,Wd.put_self ..,rfl,rfl,q.mono (Wd.put_le _ fr),hz⟩))
 ·rw[if_neg hz]at hs;exact absurd rfl hs
inductive tO(prog:Aa)(w:Ab)(g:Ac)(r:Out St (List Val×Fr))(W:Wd)(s:Ad)(accv:Af)(C:Addr)(s':Ad):Prop
 |mk(vs:List Val)(cfr:Fr)(σ':St)(W':Wd)(h':Ac)(tk:Nat)(L:Addr)(rvs:List Af)(nl:Nat)(m:Str→Option Af)(e1:r=.ok (vs,cfr) σ')(e2:s'={s with heap:=h',toks:=tk})(x:Ext [] W s.heap W' h')(q:Rel prog w g W' σ' h')(e3:accv=.ref L)(fL:W' L=.free)(nL:s.heap.get? L=none)
  (eL:h'.get? L=some (tV rvs nl))(rep:RepL W' vs rvs)(ne:L≠C)(fC:W' C=.free)(nC:s.heap.get? C=none)(nm:h'.Ns C m)
theorem eq__364(H:rO prog w g T D n)(HT:sI prog w g T D n)(HS:tG prog w g T D n)(a:At prog w g D A fl fr env O W σ s.heap){c:Comprehension}{pos':Pos}{use:Option (Af→Sem Unit)}(hsc:pW scope=true)(hcap:pD fr scope=true)(hz:∀c'∈c::gs,c'.is_async=0)(hs:((src T n fr c.iter σ).bind fun sr σ₁=>q8 (ev T n) (tst T n) (src T n) elt (c::gs) sr (pZ fr scope) [] σ₁)≠.stuck)(ok:∀accv C s',tO prog w g ((src T n fr c.iter σ).bind fun sr σ₁=>q8 (ev T n) (tst T n) (src T n) elt (c::gs) sr (pZ fr scope) [] σ₁) W s accv C s'→compPost (model prog w) A E use Q accv C (.ok .next) s')(er:∀e s',PostX prog w g ((src T n fr c.iter σ).bind fun sr σ₁=>q8 (ev T n) (tst T n) (src T n) elt (c::gs) sr (pZ fr scope) [] σ₁) W s e s'→E e s'):
  wpAny (model prog w) A (comprehension (.ListComp elt (c::gs) scope pos) scope env pos' (newList []) false (eval c.iter env) use) Q E s:=by
 intros n17 X σ X O X H X HT X HS X a X c X gs X pos X pos' X use EQ E Nat n Ad s Ae A EQ Q Aa prog Ab w Wd W Ac g LN fl Fr fr Ai env Tab T Nat D Ah scope Ag elt
 have' hsc':=hsc
 simp only[pW,aF,decide_eq_true_eq,beq_iff_eq]at hsc'
 obtain⟨⟨hk,hnd⟩,hcell⟩:_:=hsc'
 have h1:src T n fr c.iter σ≠.stuck:=fun q=>hs (by rw[q];rfl)
 (refine eq__1 (eq__358 a.fr hcap) fun cl hcl hcl'=>?_)
 refine wpAny_comprehension_free (g:=c) (gs:=gs) rfl (fun x=>eq__229 h1) hcl hk (fun x hx hl=>eq__111 hnd (by exact(bH (hl))▸hx)) ?_
 refine aE (HS _ _ _ _ _ _ _ _ _ a h1) (fun x s₁ hx=>aE hx (fun it s₂ hi=>?_) fun e s' q=>er e s' q.bind) fun e s' q=>er e s' q.bind
 rcases hi with⟨sr,σ₂,W₂,h₂,tk₂,I,S,e₂,rfl,x₂,R₂,rfl,it₂,nS⟩
 rw[e₂]at hs ok er
 simp only[Out.bind_ok]at hs ok er
 refine wpAny_newList ?_ (by decide)
 have' a₂:=a.step (s:=s) x₂ R₂
 generalize hh3:h₂.push {cls:=.type "list",data:=.seq ([]:List Af).toArray}=h₃
 have' eL:h₃.get? h₂.objs.size=some (tV [] 0):=by exact(bH (hh3))▸bO _ rfl
 have z3:h₃.objs.size=h₂.objs.size+1:=by exact(bH (hh3))▸gO ..
 obtain⟨R₃,x₃⟩:Rel prog w g W₂ σ₂ h₃∧Ext [] W₂ h₂ W₂ h₃:=by exact(bH (hh3))▸eq__110 R₂ _
 refine kN (fun x hx=>by
  have' this:=aP.mp hcell x hx;simpa using this) (by intro y hy;simp at hy) (fun h₄ hC sb=>?_) hk
 skip
 have k₄:∀b o,h₃.get? b=some o→h₄.get? b=some o:=fun b o e=>sb.extBut b o (dH (cG e)) (bE _ e)
 obtain⟨R₄,x₄⟩:_:=R₃.grow k₄
 have' nL:s.heap.get? h₂.objs.size=none:=x₂.none (eq__48 _)
 have nC:s.heap.get? h₃.objs.size=none:=x₂.none (eq__109 (by simp only[z3];exact fY _))
 have' fL:W₂ h₂.objs.size=.free:=R₂.freeSize
 have' fC:W₂ h₃.objs.size=.free:=R₃.freeSize
 have' x04:Ext [] W s.heap W₂ h₄:=x₂.trans (x₃.trans x₄)
 obtain⟨cenv,hce⟩:∃ce:Ai,({newEnv scope h₃.objs.size env.globals cl env.qual none .none (some env) builtinsNs with scope:=relabel scope env}:Ai)=ce:=⟨_,rfl⟩
 have Fc:FrRel W₂ (pZ fr scope) cenv [h₃.objs.size] h₄:=
  eq__672 (C:=h₃.objs.size) (cenv:=cenv) (O':=[h₃.objs.size]) ((a₂.step (s:={s with heap:=h₂,toks:=tk₂}) x₃ R₃).step (s:={s with heap:=h₃,toks:=tk₂}) x₄ R₄).fr hsc hcap hcl' fC hC (by refine a9 (congrArg _ (bH (hce))) ?_;exact eq__671 a.fr) (by refine a9 (congrArg _ (bH (hce))) ?_;rfl) (by refine a9 (congrArg _ (bH (hce))) ?_;rfl) (by refine a9 (congrArg _ (bH (hce))) ?_;rfl) (by refine a9 (congrArg _ (bH (hce))) ?_;rfl) (aA.mpr rfl)
 have hloc:cenv.locals=h₃.objs.size:=by refine a9 (congrArg _ (bH (hce))) ?_;rfl
 have hfr:cenv.frame=env.frame:=by refine a9 (congrArg _ (bH (hce))) ?_;rfl
 obtain⟨e₀,rs,hfl,hfe⟩:_:=a.top
 have c₄:CompAt prog w g D A fl cenv h₂.objs.size W s.heap (pZ fr scope) [] σ₂ W₂ h₄:=
  ⟨⟨a.ok,a.fs.ext x04,R₄,by rw[hloc];exact Fc,(eq__28 e₀ rs hfl (hfe.trans hfr.symm))⟩,by refine a9 (congrArg _ (hloc)) ?_;exact fC,fL,(eq__28 ([]) 0 (k₄ _ _ eL) (RepL.nil.mpr rfl)),by simp,by rw[hloc,z3];exact dH (cU _),x04,a.fs,nL,by refine a9 (congrArg _ (hloc)) ?_;exact nC⟩
 have' it₄:=(it₂.ext R₂ x₃ (by simp)).ext R₃ x₄ (by simp)
 have nLS:h₂.objs.size∉S:=fun q=>by
  obtain⟨_,o,e⟩:=it₂.2.1 _ q;exact cN _ (cG e)
 have nCS:cenv.locals∉S:=fun q=>by
  rw[hloc]at q;obtain⟨_,o,e⟩:_:=it₂.2.1 _ q;have' this:=cG e;rw[z3]at this;exact absurd this (Nat.not_lt.mpr (fY _))
 have fin:∀tk₄,codeAny (model prog w) A (.compLoop (.ListComp elt (c::gs) scope pos) 0 (.ref I) (.ref h₂.objs.size) cenv) (compPost (model prog w) A E use Q (.ref h₂.objs.size) cenv.locals) {s with heap:=h₄,toks:=tk₄}:=fun tk₄=>by
  refine eq__678 H HT HS hz (c::gs) 0 rfl sr (pZ fr scope) [] σ₂ W₂ {s with heap:=h₄,toks:=tk₄} I S _ c₄ it₄ nLS nCS nS hs (fun acc' cfr' σ' W' h' tk e x' c'=>?_) fun e s' p=>?_;·refine eq__31 c'.list fun rvs nl eL' q=>?_;refine eq__1 c'.at_.fr.loc fun m nsm _=>?_;exact ok _ _ _ ⟨acc',cfr',σ',W',h',tk,h₂.objs.size,rvs,nl,m,e,rfl,c'.base,c'.at_.rel,rfl,c'.fL,nL,eL',q,c'.ne,c'.fC,by refine a9 (congrArg _ (hloc)) ?_;exact nC,nsm⟩
  ·rcases p with⟨k,σ',W',h',tk,e1,rfl,x',R',f',fC',m,nm⟩;have key:∃m,h'.Ns cenv.locals m∧∀h'',gM cenv.locals h' h''→∀ce:Ai,ce.locals=cenv.locals→wpAny (model prog w) A (o6 "comprehension.variables-let-go" e ce:Sem Af) (fun _ _=>False) E {s with heap:=h'',toks:=tk}:=by
    refine eq__2 m nm (fun h'' sb ce _=>?_);refine eq__14 (eq__108 R' fC' (fun b o hb e=>(sb.2 b hb).trans e)) fun R'' x''=>?_;have base:Ext [] W s.heap W' h'':=(x'.nil.trans (x''.wide (O':=[]++[cenv.locals]) (by simp))).narrow (by intro b hb;rw[aA.mp hb,hloc];exact nC);refine(?_:(FlyN W' s.heap k e h'')→_) ?_;rotate_left;·
     rcases f' with⟨aa,ob,vs,TT,oT,ts,rfl,hw,hn,ho,hd,h1,hT,hfT,hTn,hoT,hdT,h3⟩;obtain⟨oC,es,ep,hoC,hdC,_⟩:=nm;have n1:aa≠cenv.locals:=by clear hT ho hn;rintro rfl;rw[hw]at fC';(injection fC')
     have n2:TT≠cenv.locals:=by clear hTn hfT hT h1;rintro rfl;rw[hoT]at hoC;rcases a6 hoC with rfl;rw[hdT]at hdC;(injection hdC)
     exact⟨aa,ob,vs,TT,oT,ts,rfl,hw,hn,(sb.2 aa n1).trans ho,hd,h1,hT,hfT,hTn,(sb.2 TT n2).trans hoT,hdT,h3⟩
    intro f'';exact eq__668 (s:=s) (r:=q8 (ev T n) (tst T n) (src T n) elt (c::gs) sr (pZ fr scope) [] σ₂) ⟨k,σ',W',h'',tk,e1,rfl,base,R'',f''⟩ fun s'' p=>er e s'' p.x
   skip;clear ok;cases use<;>exact key
 have' this:=eq__361 (s:={s with heap:=h₄,toks:=tk₂}) (gens:=c::gs) (d:=0) rfl (hz c ((aO ..))) (fin _) (eq__354 R₄ it₄ (fin _))
 rw[←hce]at this
 exact this
end
section
variable{acc:List Val}
theorem Out.bind_assoc{S:Type}(m:Out S α)(f:α→S→Out S β)(k:β→S→Out S γ):(m.bind f).bind k=m.bind fun a s=>(f a s).bind k:=by cases m<;>rfl
theorem eq__680{r:Out St (List Val×Fr)}{accv:Af}(d:tO prog w g r W s accv C s')(hs:(r.bind fun q σ₂=>mkList T pos q.1 σ₂)≠.stuck){h'':Ac}(sb:gM C s'.heap h''):
  Post prog w g Rep (r.bind fun q σ₂=>mkList T pos q.1 σ₂) W s accv {s' with heap:=h''}:=by
 rcases d with⟨vs,cfr,σ',W',h',tk,L,rvs,nl,m,e,rfl,x,R,rfl,fL,nL,eL,q,ne,fC,nC,ns⟩
 rw[e]at hs⊢
 skip
 refine eq__14 (eq__108 R fC (fun b o hb e=>(sb.2 b hb).trans e)) fun R' x'=>?_
 have base:Ext [] W s.heap W' h'':=(x.nil.trans (x'.wide (O':=[]++[C]) (by simp))).narrow (by intro b hb;refine a9 (congrArg _ (aA.mp hb)) ?_;exact nC)
 exact eq__679 (tk:=tk) R' base hs q fL nL ((sb.2 L ne).trans eL)
theorem eq__681(H:rO prog w g T D n)(HT:sI prog w g T D n)(HS:tG prog w g T D n)(a:At prog w g D A fl fr env O W σ s.heap){c:Comprehension}(hsc:pW scope=true)(hcap:pD fr scope=true)(hz:∀c'∈c::gs,c'.is_async=0)(hs:((src T n fr c.iter σ).bind fun sr σ₁=>(q8 (ev T n) (tst T n) (src T n) elt (c::gs) sr (pZ fr scope) [] σ₁).bind fun r σ₂=>mkList T pos r.1 σ₂)≠.stuck):
  Snd prog w g Rep A (eval (.ListComp elt (c::gs) scope pos) env) ((src T n fr c.iter σ).bind fun sr σ₁=>(q8 (ev T n) (tst T n) (src T n) elt (c::gs) sr (pZ fr scope) [] σ₁).bind fun r σ₂=>mkList T pos r.1 σ₂) W s:=by
 intros n16 X D X W X σ X env X fl X O X H X HT X HS X a X c X gs Nat n Ad s Ae A Aa prog Ab w Ac g Pos pos Fr fr Tab T Ah scope Ag elt
 rw[←Out.bind_assoc]at hs⊢
 skip
 simp only[eval_ListComp]
 have e1:firstAsync (c::gs)=false:=by
  have :=hz c ((aO ..));clear hs hz;rcases c with⟨t,i,f,as⟩;simp only at this;subst this;rfl
 have e2:firstIter (c::gs) env=eval c.iter env:=by clear e1 hs hz;rcases c with⟨t,i,f,as⟩;rfl
 rw[e1,e2]
 refine eq__364 H HT HS a hsc hcap hz (fun q=>hs (by rw[q];rfl)) (fun accv C s' d=>?_) fun e s' p=>p.bind
 rcases id d with⟨vs,cfr,σ',W',h',tk,L,rvs,nl,m,e,rfl,x,R,rfl,fL,nL,eL,q,ne,fC,nC,ns⟩
 exact⟨m,ns,fun h'' sb=>eq__680 d hs sb⟩
end
section
set_option tactic.hygienic true in
theorem eq__682{q:Pos}(sp:∀f' p'' x pos',args=[.Call (.Name f' p'') [x] [] pos']→kws≠[]):ev T (n+1) fr (.Call (.Name f p) args kws q) σ=q9 T n fr f args kws q σ:=by
 intros n2 X args Nat n St σ Fr fr Tab T Pos p LK kws Str f Pos q
 cases args with
 |nil=>rfl
 |cons e more=>
  cases e<;>first|rfl|skip
  rename_i g as ks r;cases g<;>first|rfl|skip
  cases as<;>first|rfl|skip
  rename_i x xs;cases xs<;>first|rfl|skip
  cases ks<;>first|rfl|skip
  cases more<;>first|rfl|skip
  cases kws<;>first|rfl|exact absurd rfl (sp _ _ _ _ rfl)
theorem eq__683(args:List Ag)(kws:List Keyword):(∃f' p x q,args=[.Call (.Name f' p) [x] [] q]∧kws=[])∨∀f' p'' x pos',args=[.Call (.Name f' p'') [x] [] pos']→kws≠[]:=by
 by_cases h:∃f' p x q,args=[.Call (.Name f' p) [x] [] q]∧kws=[]
 ·exact .inl h
 ·exact .inr fun f' p x q e k=>h (eq__302 f' p x q e k)
theorem eq__684(h1:∀c k p,P (.Constant c k p))(h2:∀x p,P (.Name x p))(h3:∀op vs p,P (.BoolOp op vs p))(h4:∀l op r p,P (.BinOp l op r p))(h5:∀t b o p,P (.IfExp t b o p))(h6:∀p,P (.Dict [] [] p))(h7:∀es p,P (.List es p))(h8:∀es k p,P (.Tuple es k p))(h9:∀e c gs sc p,P (.ListComp e (c::gs) sc p))(h10:∀o x p,P (.Attribute o x p))(h11:∀ps p,P (.JoinedStr ps p))(h12:∀l op r p,P (.Compare l [op] [r] p))(h13:∀o lo hi q p,P (.Subscript o (.Slice lo hi none q) p))(h14:∀o i p,(∀x y,subscripted i false x y=operate [x,y] (getItem x y))→(∀T n fr σ,ev T (n+1) fr (.Subscript o i p) σ=(ev T n fr o σ).bind fun ov σ₁=>(ev T n fr i σ₁).bind fun iv σ₂=>(match r8 σ₂ ov iv with|some v=>.ok v σ₂|none=>.stuck))→P (.Subscript o i p))(h15:∀o x q as p,P (.Call (.Attribute o x q) as [] p))(h16:∀f p f' p' x q r,P (.Call (.Name f p) [.Call (.Name f' p') [x] [] q] [] r))(h17:∀f p as ks q,(∀T n fr σ,ev T (n+1) fr (.Call (.Name f p) as ks q) σ=q9 T n fr f as ks q σ)→P (.Call (.Name f p) as ks q))(bad:∀e,(∀T n fr σ,ev T (n+1) fr e σ=.stuck)→P e)(e:Ag):P e:=by
 cases e with
 |Constant c k p=>exact h1 _ _ _
 |Name x p=>exact h2 _ _
 |BoolOp op vs p=>exact h3 _ _ _
 |BinOp l op r p=>exact h4 _ _ _ _
 |IfExp t b o p=>exact h5 _ _ _ _
 |Dict ks vs p=>
  cases ks with
  |nil=>cases vs with
   |nil=>exact h6 _
   |cons _ _=>exact bad _ fun _ _ _ _=>rfl
  |cons _ _=>exact bad _ fun _ _ _ _=>rfl
 |List es p=>exact h7 _ _
 |Tuple es k p=>exact h8 _ _ _
 |ListComp elt gens scope p=>
  cases gens with
  |nil=>exact bad _ fun _ _ _ _=>rfl
  |cons c gs=>exact h9 _ _ _ _ _
 |Attribute o x p=>exact h10 _ _ _
 |JoinedStr ps p=>exact h11 _ _
 |Compare l ops rs p=>
  cases ops with
  |nil=>exact bad _ fun _ _ _ _=>rfl
  |cons op ops=>
   cases ops with
   |cons _ _=>exact bad _ fun _ _ _ _=>rfl
   |nil=>
    cases rs with
    |nil=>exact bad _ fun _ _ _ _=>rfl
    |cons r rs=>
     cases rs with
     |nil=>exact h12 _ _ _ _
     |cons _ _=>exact bad _ fun _ _ _ _=>rfl
 |Subscript o i p=>
  cases i with
  |Slice lo hi st p'=>
   cases st with
   |none=>exact h13 _ _ _ _ _
   |some st=>exact h14 _ _ _ (fun _ _=>rfl) fun _ _ _ _=>rfl
  |_=>exact h14 _ _ _ (fun _ _=>rfl) fun _ _ _ _=>rfl
 |Call f args kws p=>
  cases f with
  |Attribute o name apos=>
   cases kws with
   |nil=>exact h15 _ _ _ _ _
   |cons _ _=>exact bad _ fun _ _ _ _=>rfl
  |Name f p'=>
   rcases eq__683 args kws with⟨f',p,x,q,e1,e2⟩|h;·rw[e1,e2];exact h16 _ _ _ _ _ _ _
   ·exact h17 _ _ _ _ _ fun _ _ _ _=>eq__682 h
  |_=>exact bad _ fun _ _ _ _=>rfl
 |_=>exact bad _ fun _ _ _ _=>rfl
theorem eq__126{c:Prop}[Decidable c]{r:Out St Val}{P:Out St Val→Prop}(hs:(if c then .stuck else r)≠.stuck)(k:¬c→r≠.stuck→P r):P (if c then .stuck else r):=by
 by_cases h:c
 ·rw[if_pos h]at hs;exact absurd rfl hs
 ·rw[if_neg h]at hs⊢;exact k h hs
theorem eq__230{c:Prop}[Decidable c]{r:Out St Val}{P:Out St Val→Prop}(hs:(if c then r else .stuck)≠.stuck)(k:c→r≠.stuck→P r):P (if c then r else .stuck):=by
 by_cases h:c
 ·rw[if_pos h]at hs⊢;exact k h hs
 ·rw[if_neg h]at hs;exact absurd rfl hs
theorem eq__178(h:¬b=true):b=false:=by cases b;rfl;exact absurd rfl h
theorem eq__685(H:rO prog w g T D n)(a:At prog w g D A fl fr env O W σ s.heap){ps:List Ag}(hlen:¬ps.length<2)(hs:((pI (ev T n fr) ps 0 σ).bind fun _ σ₁=>(.ok .any σ₁:Out St Val))≠.stuck):
  Snd prog w g Rep A (eval (.JoinedStr ps p) env) ((pI (ev T n fr) ps 0 σ).bind fun _ σ₁=>.ok .any σ₁) W s:=by
 match ps,hlen with
 |p1::p2::r,_=>
  refine JoinedStr_many ?_;have h1:pI (ev T n fr) (p1::p2::r) 0 σ≠.stuck:=fun q=>hs (by rw[q];rfl);refine(eq__224 H (p1::p2::r) 0 Str.empty σ W s (aN 0) (by decide) a h1).bindQ (fun u σ₁ W₁ h₁ tk₁ rv e₁ x₁ R₁ _=>?_) fun e s' q=>q.bind;exact(e₁)▸Post.at x₁ R₁ eq__216
 |[],h=>exact absurd (by decide) h
 |[_],h=>exact absurd (by simp) h
theorem eq__686(B:pS prog w g K T D)(H:rO prog w g T D n)(HT:sI prog w g T D n)(HB:tM prog w g T D n)(HC:u9 prog w g T D n)(HP:sY prog w g T D n)(HS:tG prog w g T D n):rO prog w g T D (n+1):=by
 intros n9 X K X D Nat n Aa prog Ab w Ac g Tab T
 exact fun fr e σ W s env O A fl a=>
 eq__684 (P:=fun e=>ev T (n+1) fr e σ≠.stuck→Snd prog w g Rep A (eval e env) (ev T (n+1) fr e σ) W s)
  (fun c k p hs=>by
   cases c with
   |none=>exact l6 (Post.still a.rel (eq__53.mpr rfl))
   |bool b=>exact l8 (Post.still a.rel (eq__63.mpr rfl))
   |int i=>exact lK (Post.same a.rel (eq__20.mpr ⟨_,rfl⟩))
   |str x=>exact eq__230 (P:=fun r=>Snd prog w g Rep A (eval (.Constant (.str x) k p) env) r W s) hs fun hz _=>iI (Post.same a.rel (eq__19.mpr (eq__2 _ rfl hz)))
   |_=>exact absurd rfl hs)
  (fun x p hs=>by
   have' e:ev T (n+1) fr (.Name x p) σ=(match nameV T fr x with|some v=>.ok v σ|none=>.stuck):=rfl;rw[e]at hs⊢;cases hv:nameV T fr x with
   |none=>replace hs:=(hv)▸hs;exact absurd rfl hs
   |some v=>exact eq__97 B a.rel a.fr hv fun rv r=>Post.still a.rel r)
  (fun op vs p hs=>HB _ _ _ p _ _ _ _ _ _ _ a hs) (fun _ _ _ _ hs=>eq__620 H a hs) (fun _ _ _ _ hs=>eq__647 H HT a hs) (fun _ hs=>eq__630 B a)
  (fun es p hs=>eq__126 (P:=fun r=>Snd prog w g Rep A (eval (.List es p) env) r W s) hs fun h hs=>eq__628 H a (eq__178 h) hs) (fun es k p hs=>eq__126 (P:=fun r=>Snd prog w g Rep A (eval (.Tuple es k p) env) r W s) hs fun h hs=>eq__629 H a (eq__178 h) hs)
  (fun e c gs sc p hs=>eq__126 (P:=fun r=>Snd prog w g Rep A (eval (.ListComp e (c::gs) sc p) env) r W s) hs fun hc hs=>by
   have' h1:pW sc=true:=by cases q:pW sc with|true=>rfl|false=>exact absurd (.inl q) hc
   have' h2:pD fr sc=true:=by cases q:pD fr sc with|true=>rfl|false=>exact absurd (.inr (.inl q)) hc
   have h3:(c::gs).all (fun c=>c.is_async==0)=true:=by cases q:(c::gs).all (fun c=>c.is_async==0)with|true=>rfl|false=>exact absurd (.inr (.inr q)) hc
   exact eq__681 H HT HS a h1 h2 (fun c' hm=>by simpa using aP.mp h3 c' hm) hs)
  (fun o x p hs=>eq__126 (P:=fun r=>Snd prog w g Rep A (eval (.Attribute o x p) env) r W s) hs fun h hs=>eq__632 B H a (by cases q:pO o with|true=>rfl|false=>exact absurd q h) hs)
  (fun ps p hs=>eq__126 (P:=fun r=>Snd prog w g Rep A (eval (.JoinedStr ps p) env) r W s) hs fun h hs=>eq__685 H a h hs)
  (fun l op r p hs=>eq__126 (P:=fun q=>Snd prog w g Rep A (eval (.Compare l [op] [r] p) env) q W s) hs fun h hs=>eq__621 H a (eq__178 h) hs)
  (fun _ _ _ _ _ hs=>eq__635 H HP a hs) (fun o i p ns e hs=>by rw[e]at hs⊢;exact eq__633 H a ns hs)
  (fun o x q as p hs=>eq__230 (P:=fun r=>Snd prog w g Rep A (eval (.Call (.Attribute o x q) as [] p) env) r W s) hs fun hc hs=>eq__645 B H a hc.2.1 hc.1 hc.2.2.1 hc.2.2.2 hs)
  (fun f p f' p' x q r hs=>eq__230 (P:=fun v=>Snd prog w g Rep A (eval (.Call (.Name f p) [.Call (.Name f' p') [x] [] q] [] r) env) v W s) hs fun hc hs=>eq__642 B H a hc.2.2 hc.1 hc.2.1 hs)
  (fun f p as ks q e hs=>by rw[e]at hs⊢;exact HC _ _ _ _ _ _ _ _ _ _ _ _ _ a hs) (fun e h hs=>absurd (h _ _ _ _) hs) e
end
section
theorem eq__687(hN:∀x p,P (.UnaryOp .Not x p))(hB:∀op vs p,P (.BoolOp op vs p))(hC:∀l op r p,P (.Compare l [op] [r] p))(bad:∀e,(∀T n fr σ,tst T (n+1) fr e σ=.stuck)→P e)(plain:∀e,(∀T n fr σ,tst T (n+1) fr e σ=(ev T n fr e σ).bind fun v σ₁=>(match pN σ₁ v with|some b=>(.ok b σ₁:Out St Bool)|none=>.stuck))→(∀env,isTrue e env (eval e env)=(do let v←eval e env;standAt e.pos;holding [v] (truthy v)))→P e)(e:Ag):P e:=by
 cases e with
 |UnaryOp op x p=>
  cases op with
  |Not=>exact hN _ _
  |_=>exact plain _ (fun _ _ _ _=>rfl) fun _=>rfl
 |BoolOp op vs p=>exact hB _ _ _
 |IfExp t b o p=>exact bad _ fun _ _ _ _=>rfl
 |Compare l ops rs p=>
  cases ops with
  |nil=>exact bad _ fun _ _ _ _=>rfl
  |cons op ops=>
   cases ops with
   |cons _ _=>exact bad _ fun _ _ _ _=>rfl
   |nil=>
    cases rs with
    |nil=>exact bad _ fun _ _ _ _=>rfl
    |cons r rs=>
     cases rs with
     |nil=>exact hC _ _ _ _
     |cons _ _=>exact bad _ fun _ _ _ _=>rfl
 |_=>exact plain _ (fun _ _ _ _=>rfl) fun _=>rfl
theorem eq__688(H:rO prog w g T D n)(HT:sI prog w g T D n)(HA:sG prog w g T D n):sI prog w g T D (n+1):=fun fr e σ W s env O A fl a=>
 eq__687 (P:=fun e=>tst T (n+1) fr e σ≠.stuck→Snd prog w g (fun _(a b:Bool)=>a=b) A (isTrue e env (eval e env)) (tst T (n+1) fr e σ) W s)
  (fun x p hs=>wpAny_isTrue_Not (one (R1:=fun _(a b:Bool)=>a=b) (R3:=fun _(a b:Bool)=>a=b) (G:=fun(b:Bool)(Q:Bool→Ad→Prop)(E:Af→Ad→Prop)(s:Ad)=>Q (!b) s) (fun h q _=>q _ _ h) hs (fun h=>HT _ _ _ _ _ _ _ _ _ a h) fun b σ₁ W₁ h₁ tk₁ b' h x R e=>by
   subst e;exact Post.still (s:={s with heap:=h₁,toks:=tk₁}) R rfl))
  (fun op vs p hs=>wpAny_isTrue_BoolOp (HA _ _ _ _ _ _ _ _ _ _ a hs))
  (fun l op r p hs=>by
   have' e:tst T (n+1) fr (.Compare l [op] [r] p) σ=if behindInMarks op r=true then .stuck else(ev T n fr l σ).bind fun a σ₁=>(ev T n fr r σ₁).bind fun b σ₂=>(match qN σ₂ op a b with|some c=>.ok c σ₂|none=>.stuck):=rfl;rw[e]at hs⊢;by_cases hb:behindInMarks op r=true;·rw[if_pos hb]at hs;exact absurd rfl hs
   ·rw[if_neg hb]at hs⊢;exact eq__622 H a (eq__178 hb) hs)
  (fun e h hs=>absurd (h _ _ _ _) hs)
  (fun e h1 h2 hs=>by
   rw[h1]at hs⊢;exact wpAny_isTrue_value (eq__623 hs fun h=>H _ _ _ _ _ _ _ _ _ a h) (h2 env)) e
structure rM(prog:Aa)(w:Ab)(g:Ac)(T:Tab)(D n:Nat):Prop where
 ev:rO prog w g T D n
 tst:sI prog w g T D n
 all:sG prog w g T D n
 bool:tM prog w g T D n
 part:sY prog w g T D n
 call:u9 prog w g T D n
 src:tG prog w g T D n
theorem eq__231(B:pS prog w g K T D):∀n,rM prog w g T D n
 |0=>⟨fun _ _ _ _ _ _ _ _ _ _ h=>absurd rfl h,fun _ _ _ _ _ _ _ _ _ _ h=>absurd rfl h,fun _ _ _ _ _ _ _ _ _ _ _ h=>absurd rfl h,fun _ _ _ _ _ _ _ _ _ _ _ _ h=>absurd rfl h,eq__625,
   fun _ _ _ _ _ _ _ _ _ _ _ _ _ _ h=>absurd rfl h,fun _ _ _ _ _ _ _ _ _ _ h=>absurd rfl h⟩
 |n+1=>by
  have' p:=eq__231 B n;exact⟨eq__686 B p.ev p.tst p.bool p.call p.part p.src,eq__688 p.ev p.tst p.all,eq__648 p.tst p.all,eq__646 p.ev p.bool,eq__624 p.ev,eq__644 B p.ev,eq__661 B p.ev⟩
end
noncomputable def uW(W:Wd):Flo→Flow→Prop
 |.next,f=>f=.next
 |.cont,f=>f=.cont
 |.ret v,f=>∃rv,f=.ret rv∧Rep W v rv
noncomputable def Flo.goes:Flo→Prop
 |.ret _=>False
 |_=>True
section
variable(prog:Aa)(w:Ab)(g:Ac)(D:Nat)
structure StAt(A:Ae)(fl:List Ai)(env:Ai)(O:List Addr)(W₀:Wd)(h₀:Ac)(fr:Fr)(σ:St)(W:Wd)(h:Ac):Prop where
 at_:At prog w g D A fl fr env O W σ h
 base:Ext [] W₀ h₀ W h
 nO:∀b∈O,h₀.get? b=none
 fn:fr.fn=true
 cod:fr.code≠0→env.code=.ref fr.code
 oIs:∀b∈O,b=env.locals∨∃x,env.kindOf x=some .cell∧env.cells.lookup x=some b
inductive PostS(A:Ae)(fl:List Ai)(env:Ai)(O:List Addr)(W₀:Wd)(h₀:Ac)(r:Out SS Flo)(W:Wd)(s:Ad)(f:Flow)(s':Ad):Prop
 |mk(fo:Flo)(fr':Fr)(σ':St)(W':Wd)(h':Ac)(tk:Nat)(e1:r=.ok fo (fr',σ'))(e2:s'={s with heap:=h',toks:=tk})(x:fo.goes→Ext O W s.heap W' h')(c:StAt prog w g D A fl env O W₀ h₀ fr' σ' W' h')(rf:uW W' fo f)
inductive PostE(A:Ae)(fl:List Ai)(env:Ai)(O:List Addr)(W₀:Wd)(h₀:Ac){α:Type}(r:Out SS α)(s:Ad)(e:Af)(s':Ad):Prop
 |mk(k:Nat)(fr':Fr)(σ':St)(W':Wd)(h':Ac)(tk:Nat)(e1:r=.exc k (fr',σ'))(e2:s'={s with heap:=h',toks:=tk})(c:StAt prog w g D A fl env O W₀ h₀ fr' σ' W' h')(f:Fly W' h₀ k e h')
end
section
theorem StAt.step(c:StAt prog w g D A fl env O W₀ h₀ fr σ W h)(x:Ext [] W h W' h')(R:Rel prog w g W' σ' h'):StAt prog w g D A fl env O W₀ h₀ fr σ' W' h':=
 ⟨c.at_.step (s:={heap:=h}) x R,c.base.trans x,c.nO,c.fn,c.cod,c.oIs⟩
theorem StAt.put(c:StAt prog w g D A fl env O W₀ h₀ fr σ W h)(x:Ext O W h W' h')(R:Rel prog w g W' σ' h')(F:FrRel W' fr' env O h')(hf:fr'.fn=true)(hc:fr'.code=fr.code):StAt prog w g D A fl env O W₀ h₀ fr' σ' W' h':=
 ⟨⟨c.at_.ok,c.at_.fs.ext x,R,F,c.at_.top⟩,(c.base.nil.trans (x.wide (O':=[]++O) (fun b hb=>hb))).narrow c.nO,c.nO,hf,by exact(hc)▸c.cod,c.oIs⟩
theorem PostX.st{r:Out St α}(c:StAt prog w g D A fl env O W₀ h₀ fr σ W s.heap)(p:PostX prog w g r W s e s'):PostE prog w g D A fl env O W₀ h₀ (qD fr r) s e s':=by
 obtain⟨k,σ',W',h',tk,e1,e2,x,R,f⟩:=p
 exact⟨k,fr,σ',W',h',tk,by refine a9 (congrArg _ (e1)) ?_;rfl,e2,c.step x R,f.back c.base⟩
theorem PostE.bind{r:Out SS α}{F:α→SS→Out SS β}(p:PostE prog w g D A fl env O W₀ h₀ r s e s'):PostE prog w g D A fl env O W₀ h₀ (r.bind F) s e s':=by
 obtain⟨k,fr',σ',W',h',tk,e1,q1,q2,q3⟩:=p
 exact⟨k,fr',σ',W',h',tk,by rw[e1];rfl,q1,q2,q3⟩
theorem PostE.back{r:Out SS α}{tk:Nat}(p:PostE prog w g D A fl env O W₀ h₀ r {s with heap:=h',toks:=tk} e s'):PostE prog w g D A fl env O W₀ h₀ r s e s':=by
 rcases p with⟨k,fr',σ',W',h',tk,e1,q1,q2,q3⟩
 exact⟨k,fr',σ',W',h',tk,e1,q1,q2,q3⟩
theorem PostS.back{r:Out SS Flo}{f:Flow}{tk:Nat}(x:Ext O W s.heap W' h')(p:PostS prog w g D A fl env O W₀ h₀ r W' {s with heap:=h',toks:=tk} f s'):PostS prog w g D A fl env O W₀ h₀ r W s f s':=by
 rcases p with⟨k,fr',σ',W₂,h₂,tk,e1,e2,x2,q1,q2⟩
 exact⟨k,fr',σ',W₂,h₂,tk,e1,e2,fun go=>x.trans (x2 go),q1,q2⟩
end
section
variable(prog:Aa)(w:Ab)(g:Ac)(T:Tab)(D:Nat)
def wP(n:Nat):Prop:=∀(st:Stmt)(fr:Fr)(σ:St)(W:Wd)(s:Ad)(env:Ai)(O:List Addr)(A:Ae)(fl:List Ai)(W₀:Wd)(h₀:Ac),
 StAt prog w g D A fl env O W₀ h₀ fr σ W s.heap→ex T n st fr σ≠.stuck→
 wpAny (model prog w) A (exec st env) (PostS prog w g D A fl env O W₀ h₀ (ex T n st fr σ) W s) (PostE prog w g D A fl env O W₀ h₀ (ex T n st fr σ) s) s
def rS(n:Nat):Prop:=∀(ss:List Stmt)(fr:Fr)(σ:St)(W:Wd)(s:Ad)(env:Ai)(O:List Addr)(A:Ae)(fl:List Ai)(W₀:Wd)(h₀:Ac),
 StAt prog w g D A fl env O W₀ h₀ fr σ W s.heap→exs T n ss fr σ≠.stuck→
 wpAny (model prog w) A (execs ss env) (PostS prog w g D A fl env O W₀ h₀ (exs T n ss fr σ) W s) (PostE prog w g D A fl env O W₀ h₀ (exs T n ss fr σ) s) s
end
section
theorem eq__127{R1:Wd→α→α'→Prop}{t:Sem α'}{r:Out St α}{F:α→SS→Out SS Flo}{Y:α'→Ad→Prop}(c:StAt prog w g D A fl env O W₀ h₀ fr σ W s.heap)(hs:((qD fr r).bind F)≠.stuck)(p:r≠.stuck→Snd prog w g R1 A t r W s)(k:∀v σ₁ W₁ h₁ tk₁ rv,F v (fr,σ₁)≠.stuck→(qD fr r).bind F=F v (fr,σ₁)→Ext O W s.heap W₁ h₁→StAt prog w g D A fl env O W₀ h₀ fr σ₁ W₁ h₁→R1 W₁ v rv→Y rv {s with heap:=h₁,toks:=tk₁}):
  wpAny (model prog w) A t Y (PostE prog w g D A fl env O W₀ h₀ ((qD fr r).bind F) s) s:=by
 have h1:r≠.stuck:=fun q=>hs (by rw[q];rfl)
 refine(p h1).bindQ (fun v σ₁ W₁ h₁ tk₁ rv e₁ x₁ R₁ rep=>?_) fun e s' q=>(q.st c).bind
 have e2:(qD fr r).bind F=F v (fr,σ₁):=by rw[e₁];rfl
 exact k v σ₁ W₁ h₁ tk₁ rv (by rw[←e2];exact hs) e2 x₁.nil (c.step x₁ R₁) rep
theorem eq__689(B:rM prog w g T D n)(c:StAt prog w g D A fl env O W₀ h₀ fr σ W s.heap){e:Ag}(hs:((qD fr (ev T n fr e σ)).bind fun v q=>(.ok (.ret v) q:Out SS Flo))≠.stuck):
  wpAny (model prog w) A (exec (.Return (some e) pos) env) (PostS prog w g D A fl env O W₀ h₀ ((qD fr (ev T n fr e σ)).bind fun v q=>(.ok (.ret v) q:Out SS Flo)) W s) (PostE prog w g D A fl env O W₀ h₀ ((qD fr (ev T n fr e σ)).bind fun v q=>(.ok (.ret v) q:Out SS Flo)) s) s:=
 iU (eq__127 c hs (fun h=>B.ev _ _ _ _ _ _ _ _ _ c.at_ h) fun v σ₁ W₁ h₁ tk₁ rv _ e2 x c' rep=>⟨.ret v,fr,σ₁,W₁,h₁,tk₁,e2,rfl,fun _=>x,c',rv,rfl,rep⟩)
theorem eq__690(B:rM prog w g T D n)(HX:rS prog w g T D n)(c:StAt prog w g D A fl env O W₀ h₀ fr σ W s.heap){b o:List Stmt}(hs:((qD fr (tst T n fr t σ)).bind fun d q=>if d then exs T n b q.1 q.2 else exs T n o q.1 q.2)≠.stuck):
  wpAny (model prog w) A (exec (.If t b o pos) env) (PostS prog w g D A fl env O W₀ h₀ ((qD fr (tst T n fr t σ)).bind fun d q=>if d then exs T n b q.1 q.2 else exs T n o q.1 q.2) W s)
   (PostE prog w g D A fl env O W₀ h₀ ((qD fr (tst T n fr t σ)).bind fun d q=>if d then exs T n b q.1 q.2 else exs T n o q.1 q.2) s) s:=by
 intros n5 X B X HX X c X pos Nat n Ad s Ae A Aa prog Ab w Wd W LA O St σ Ac g LN fl Fr fr Ai env Ag t Ac h₀ Wd W₀ Tab T Nat D LSm b LSm o
 refine wpAny_If (eq__127 c hs (fun h=>B.tst _ _ _ _ _ _ _ _ _ c.at_ h) fun v σ₁ W₁ h₁ tk₁ rv h e2 x c' rep=>?_)
 rw[e2]
 subst rep
 clear e2;cases v
 ·exact aE (HX o fr σ₁ W₁ {s with heap:=h₁,toks:=tk₁} env O A fl W₀ h₀ c' h) (fun _ _ p=>p.back x) fun _ _ p=>p.back
 ·exact aE (HX b fr σ₁ W₁ {s with heap:=h₁,toks:=tk₁} env O A fl W₀ h₀ c' h) (fun _ _ p=>p.back x) fun _ _ p=>p.back
theorem eq__691(HE:wP prog w g T D n)(HX:rS prog w g T D n):rS prog w g T D (n+1):=by
 intros n2 Nat n Aa prog Ab w Ac g Tab T Nat D
 exact fun ss fr σ W s env O A fl W₀ h₀ c hs=>by
  cases ss with
  |nil=>exact gB ⟨.next,fr,σ,W,s.heap,s.toks,rfl,rfl,fun _=>Ext.refl _ _ _,c,rfl⟩
  |cons st rest=>
    have h1:ex T n st fr σ≠.stuck:=fun q=>hs (by refine(?_:(match ex T n st fr σ with|.ok .next q=>exs T n rest q.1 q.2|o=>o)=_);rw[q]);refine gZ (aE (HE st fr σ W s env O A fl W₀ h₀ c h1) (fun f s' p=>?_) fun e s' p=>?_)
    · rcases p with⟨fo,fr',σ',W',h',tk,e,rfl,x,c',rf⟩;cases fo with
      |next=>
        subst rf;have e2:exs T (n+1) (st::rest) fr σ=exs T n rest fr' σ':=by refine(?_:(match ex T n st fr σ with|.ok .next q=>exs T n rest q.1 q.2|o=>o)=_);rw[e]
        rw[e2]at hs⊢;exact aE (HX rest fr' σ' W' {s with heap:=h',toks:=tk} env O A fl W₀ h₀ c' hs) (fun _ _ p=>p.back (x trivial)) fun _ _ p=>p.back
      |cont=>
        subst rf;exact⟨.cont,fr',σ',W',h',tk,by refine(?_:(match ex T n st fr σ with|.ok .next q=>exs T n rest q.1 q.2|o=>o)=_);rw[e],rfl,x,c',rfl⟩
      |ret v=>
        obtain⟨rv,rfl,rep⟩:_:=rf;exact⟨.ret v,fr',σ',W',h',tk,by refine(?_:(match ex T n st fr σ with|.ok .next q=>exs T n rest q.1 q.2|o=>o)=_);rw[e],rfl,x,c',rv,rfl,rep⟩
    · rcases p with⟨k,fr',σ',W',h',tk,e,q1,q2,q3⟩;exact⟨k,fr',σ',W',h',tk,by refine(?_:(match ex T n st fr σ with|.ok .next q=>exs T n rest q.1 q.2|o=>o)=_);rw[e],q1,q2,q3⟩
end
set_option tactic.hygienic true
section
theorem eq__365(B:rM prog w g T D n)(c:StAt prog w g D A fl env O W₀ h₀ fr σ W s.heap){x:Str}{e:Ag}(sw:swapsWith e (some (.Name x p)) pos.line env=pure false)(hs:((qD fr (ev T n fr e σ)).bind fun v q=>if q.1.mayPut x then(.ok .next (q.1.put x v,q.2):Out SS Flo)else .stuck)≠.stuck):
  wpAny (model prog w) A (exec (.Assign [.Name x p] e pos) env) (PostS prog w g D A fl env O W₀ h₀ ((qD fr (ev T n fr e σ)).bind fun v q=>if q.1.mayPut x then(.ok .next (q.1.put x v,q.2):Out SS Flo)else .stuck) W s)
   (PostE prog w g D A fl env O W₀ h₀ ((qD fr (ev T n fr e σ)).bind fun v q=>if q.1.mayPut x then(.ok .next (q.1.put x v,q.2):Out SS Flo)else .stuck) s) s:=by
 refine wpAny_Assign_Name (eq__127 c hs (fun h=>B.ev _ _ _ _ _ _ _ _ _ c.at_ h) fun v σ₁ W₁ h₁ tk₁ rv h e2 x₁ c' rep=>?_) sw
 split at h
 ·rename_i hp;refine eq__227 (s:={s with heap:=h₁,toks:=tk₁}) c'.at_.rel c'.at_.fr hp rep fun h₂ tk₂ R₂ x₂ F₂=>?_;exact⟨.next,fr.put x v,σ₁,W₁,h₂,tk₂,by rw[e2];exact if_pos hp,rfl,fun _=>x₁.trans x₂,c'.put x₂ R₂ F₂ c.fn rfl,rfl⟩
 ·exact absurd rfl h
end
set_option tactic.hygienic false
section
theorem FrRel.only(F:FrRel W fr env O h):FrRel W {fr with fn:=false} env [env.locals] h:=
 ⟨F.scope,F.kind,F.glob,F.bi,F.loc,F.cel,F.locW,aA.mpr rfl,fun e=>(nomatch e),fun e=>(nomatch e)⟩
theorem eq__366{x:Str}{Q:Unit→Ad→Prop}(R:Rel prog w g W σ s.heap)(F:FrRel W fr env O s.heap)(rep:Rep W v rv)(hk:fr.kind x=some .local)(h:∀h' tk,Rel prog w g W σ h'→Ext [env.locals] W s.heap W h'→FrRel W (fr.put x v) env O h'→Q () {s with heap:=h',toks:=tk}):wpAny M A (storeName env x rv) Q E s:=by
 refine eq__208 (fr:={fr with fn:=false}) (O:=[env.locals]) R F.only rep hk fun h' tk R' x' F'=>h h' tk R' x' ⟨F'.scope,F'.kind,F'.glob,F'.bi,F'.loc,F'.cel,F'.locW,F.locO,fun hf y k=>?_,F.apart⟩
 obtain⟨c,v₀,a,⟨o,ho,hd⟩,st,b,f⟩:=F.own hf y k
 have nl:c∉[env.locals]:=fun hm=>by
  refine eq__1 F.loc fun m q1_ _=>?_;rcases q1_ with⟨o',_,_,ho',hd',_⟩;rw[aA.mp hm]at ho;rw[ho]at ho';rcases a6 ho' with rfl;rw[hd]at hd';(injection hd')
 obtain⟨e',r⟩:_:=x'.stillAt ho st nl
 exact eq__61 c v₀ a ⟨o,e',hd⟩ st b f
theorem eq__692(R:Rel prog w g W σ h'){nl:Nat}(hs:mkList T pos vs σ≠.stuck)(q:RepL W vs rvs)(fr:W a=.free)(e:h'.get? a=some (tV rvs nl)):
  ∃v σ₂ r,mkList T pos vs σ=.ok v σ₂∧Rel prog w g (W.put a r) σ₂ h'∧Ext [a] W h' (W.put a r) h'∧Rep (W.put a r) v (.ref a):=by
 intros n5 X R Aa prog Ab w Addr a Wd W LV vs Ac h' LVl rvs St σ Ac g Pos pos Tab T Nat nl
 unfold mkList at hs⊢
 by_cases hz:vs.length≤lim
 ·rw[if_pos hz]at hs⊢;by_cases hp:T.chg pos=true;·rw[if_pos hp];obtain⟨R',x'⟩:_:=R.adopt (c:=.list vs) fr ⟨_,e⟩ ⟨rvs,nl,e,q.mono (Wd.put_le _ fr),hz⟩;exact eq__34 _ _ _ ⟨rfl,R',x',eq__35.mpr ⟨a,rfl,Wd.put_self ..⟩⟩
  ·rw[if_neg hp];obtain⟨R',x'⟩:_:=R.freeze fr e;exact eq__34 _ _ _ ⟨rfl,R',x',eq__94.mpr ⟨a,_,rvs,nl,rfl,Wd.put_self ..,rfl,rfl,q.mono (Wd.put_le _ fr),hz⟩⟩
 ·rw[if_neg hz]at hs;exact absurd rfl hs
theorem eq__693(B:rM prog w g T D n)(c:StAt prog w g D A fl env O W₀ h₀ fr σ W s.heap){x:Str}{cpos:Pos}{cl:Comprehension}(sw:swapsWith (.ListComp elt (cl::gs) scope cpos) (some (.Name x p)) pos.line env=pure true)(hk:fr.kind x=some .local)(hsc:pW scope=true)(hcap:pD fr scope=true)(hz:∀c'∈cl::gs,c'.is_async=0)(hs:((qD fr ((src T n fr cl.iter σ).bind fun sr σ₁=>(q8 (ev T n) (tst T n) (src T n) elt (cl::gs) sr (pZ fr scope) [] σ₁).bind fun r σ₂=>mkList T cpos r.1 σ₂)).bind fun v q=>if q.1.mayPut x then(.ok .next (q.1.put x v,q.2):Out SS Flo)else .stuck)≠.stuck):
  wpAny (model prog w) A (exec (.Assign [.Name x p] (.ListComp elt (cl::gs) scope cpos) pos) env)
   (PostS prog w g D A fl env O W₀ h₀ ((qD fr ((src T n fr cl.iter σ).bind fun sr σ₁=>(q8 (ev T n) (tst T n) (src T n) elt (cl::gs) sr (pZ fr scope) [] σ₁).bind fun r σ₂=>mkList T cpos r.1 σ₂)).bind fun v q=>if q.1.mayPut x then(.ok .next (q.1.put x v,q.2):Out SS Flo)else .stuck) W s)
   (PostE prog w g D A fl env O W₀ h₀ ((qD fr ((src T n fr cl.iter σ).bind fun sr σ₁=>(q8 (ev T n) (tst T n) (src T n) elt (cl::gs) sr (pZ fr scope) [] σ₁).bind fun r σ₂=>mkList T cpos r.1 σ₂)).bind fun v q=>if q.1.mayPut x then(.ok .next (q.1.put x v,q.2):Out SS Flo)else .stuck) s) s:=by
 intros n9 X B X c X cl Nat n Ad s Ae A Aa prog Ab w Wd W LA O St σ Ac g Pos pos LN fl Fr fr Ai env Ac h₀ Wd W₀ Tab T Pos p Nat D Ah scope Ag elt LC gs Str x Pos cpos
 rw[←Out.bind_assoc]at hs⊢
 have e1:firstAsync (cl::gs)=false:=by
  have :=hz cl ((aO ..));clear hs hz sw;rcases cl with⟨t,i,f,as⟩;simp only at this;subst this;rfl
 have e2:firstIter (cl::gs) env=eval cl.iter env:=by clear e1 hs hz sw;rcases cl with⟨t,i,f,as⟩;rfl
 rw[exec_Assign_Name_used _ _ _ _ sw,arm_evalThenUse_ListComp]
 rw[e1,e2]
 refine a8 (cP (a8 (a8 ?_)))
 generalize hr1:((src T n fr cl.iter σ).bind fun sr σ₁=>q8 (ev T n) (tst T n) (src T n) elt (cl::gs) sr (pZ fr scope) [] σ₁)=r1 at hs⊢
 have h1:r1≠.stuck:=fun q=>hs (by rw[q];rfl)
 refine aE (Q:=fun _ s'=>PostS prog w g D A fl env O W₀ h₀ ((qD fr (r1.bind fun r σ₂=>mkList T cpos r.1 σ₂)).bind fun v q=>if q.1.mayPut x then(.ok .next (q.1.put x v,q.2):Out SS Flo)else .stuck) W s .next s')
  (eq__364 B.ev B.tst B.src c.at_ hsc hcap hz (by rw[hr1];exact h1) (fun accv C s' d=>?_) fun e s' p=>?_) (fun _ s' hq=>aS (aS hq)) fun _ _ e=>e
 ·rw[hr1]at d;rcases d with⟨vs,cfr,σ',W',h',tk,L,rvs,nl,m,e,rfl,x',R,rfl,fL,nL,eL,q,ne,fC,nC,ns⟩;rw[e]at hs⊢;simp only[Out.bind_ok]at hs⊢;have hm:mkList T cpos vs σ'≠.stuck:=fun q=>hs (by rw[q];rfl);(refine eq__571 (eq__692 R hm q fL eL) fun v σ₂ r ek R₂ x₂ rep=>?_);have fC₂:(W'.put L r) C=.free:=by refine a9 (Wd.put_ne _ _ (cW ne)) ?_;exact fC
  have base:Ext [] W s.heap (W'.put L r) h':=(x'.nil.trans (x₂.wide (O':=[]++[L]) (by simp))).narrow (by intro b hb;refine a9 (congrArg _ (aA.mp hb)) ?_;exact nL);have' c₂:=c.step base R₂;clear x₂;rw[ek]at hs⊢;have mp:fr.mayPut x=true:=by unfold Fr.mayPut;rw[hk];rfl
  refine(?_:wpAny _ A (assign (.Name x p) env (.ref L)) _ _ _);refine iT (eq__366 (s:={s with heap:=h',toks:=tk}) R₂ c₂.at_.fr rep hk fun h₃ tk₃ R₃ x₃ F₃=>?_);have neC:C∉[env.locals]:=fun hm=>by
   refine eq__1 c.at_.fr.loc fun m q1_ _=>?_;rcases q1_ with⟨o',_,_,ho',_⟩;rw[aA.mp hm]at nC;rw[nC]at ho';(injection ho')
  obtain⟨oC,es,ep,hoC,hdC,hqC⟩:=ns;obtain⟨hoC',rC⟩:=x₃.stillAt hoC (by refine a9 (congrArg _ (fC₂)) ?_;rfl) neC;refine eq__2 m ⟨oC,es,ep,hoC',hdC,hqC⟩ (fun h₄ sb=>?_);(refine eq__14 (eq__108 (h':=h₄) R₃ fC₂ (fun b o hb e=>(sb.2 b hb).trans e)) fun R₄ x₄=>?_);have x₃':Ext O (W'.put L r) h' (W'.put L r) h₃:=x₃.wide (by intro b hb;simp only[aA.mp hb];exact c.at_.fr.locO);have F₄:FrRel (W'.put L r) (fr.put x v) env O h₄:=F₃.extO (Wd.le.refl _) x₄ (fun hm=>neC (by rw[aA.mp hm];simp)) fun cc vc hF hm=>eq__1 hF fun o ho hd=>by
   rw[aA.mp hm]at ho;have' this:h₃.get? C=some oC:=hoC';rw[this]at ho;rcases a6 ho with rfl;rw[hdC]at hd;(injection hd)
  have x₀₄:Ext O W s.heap (W'.put L r) h₄:=((base.nil.trans x₃').wide (O':=O++[C]) (fun b hb=>cV _ hb)|>.trans (x₄.wide (O':=O++[C]) (fun b hb=>cR _ hb))).narrow (by intro b hb;refine a9 (congrArg _ (aA.mp hb)) ?_;exact nC);exact⟨.next,fr.put x v,σ₂,W'.put L r,h₄,tk₃,if_pos mp,rfl,fun _=>x₀₄,c.put x₀₄ R₄ F₄ c.fn rfl,rfl⟩
 ·rw[hr1]at p;exact((p.bind).st c).bind
end
section
theorem eq__694{kvs:List (Str×Af)}{k:Str}{key v:Af}{Q:Unit→Ad→Prop}(hkey:(bI prog w).is k key=true)(hm:s.heap.DictAt (bI prog w) d kvs ep)(hsz:kvs.length≤sizeLine)(hQ:∀h',h'.DictAt (bI prog w) d (stored kvs k v) (if(kvs.any fun kv=>kv.1=k)=true then ep else ep+1)→gM d s.heap h'→Q () {s with heap:=h',toks:=s.toks+1}):
  wpAny (model prog w) A (dictSet d key v) Q E s:=by
 intros n7 X E X kvs X Q Ad s Ae A Aa prog Ab w Addr d Nat ep Str k Af key Af v
 obtain⟨o,es,ho,hc,hd,hk,hp,hn⟩:=hm
 have hes:es.size≤sizeLine:=by
  have' e1:=hp.length;have' e2:es.toList.length=es.size:=rfl;exact eq__47 [_,_,_,_] (.le Z0 Z1) (.le Z2 Z1) (.eq Z3 Z2) (.qe Z3 Z0) rfl hsz e1 e2
 skip
 refine c6 (a8 ((bI prog w).pyHash hkey ?_))
 skip
 refine c6 (a8 (wpAny_dictFind_of (s:={s with toks:=s.toks+1}) hkey ho hd hk ?_))
 have hidx:(es.findIdx? fun e=>(bI prog w).is k e.key)=kvs.findIdx? fun kv=>decide (kv.1=k):=by
  simp only[←hp.findIdx k];clear hes hp hk hd;rcases es with⟨l⟩;simp
 cases hi:es.findIdx? fun e=>(bI prog w).is k e.key with
 |some i=>
  have hany:(kvs.any fun kv=>decide (kv.1=k))=true:=any_of_findIdx_some (hidx▸hi);clear hidx hes;rw[if_pos hany]at hQ;refine a8 (mQ (a8 (wpAny_updateDict (s:={s with toks:=s.toks+1}) ho hd (wpAny_point (hQ _ ⟨_,_,d6 _ ho (l9 (mF hd _)),
   hc.mapDict _,mF hd _,hk.modify _ _,?_,?_⟩ (iB ..))))))
  ·rw[stored,if_pos hany];have hl:(es.toList.findIdx? fun e=>(bI prog w).is k e.key)=some i:=by simp only[←hi];obtain⟨l⟩:=es;simp
   have' this:=hp.modify hn hl v;obtain⟨l⟩:_:=es;simpa using this
  ·rw[stored,if_pos hany,keys_map_store];exact hn
 |none=>
  have hnot:k∉kvs.map (·.1):=not_mem_of_findIdx_none (hidx▸hi);have hany:¬(kvs.any fun kv=>decide (kv.1=k))=true:=by
   rw[hG];rintro⟨kv,hkv,he⟩;exact hnot (cQ.mpr (eq__2 kv hkv (of_decide_eq_true he)))
  clear hi hidx;rw[if_neg hany]at hQ;refine a8 (mQ (wpAny_updateDictKeys (hz:=hes) (s:={s with toks:=s.toks+1}) ho hd (hQ _ ⟨_,_,d6 _ ho (l9 (kO hd _)),
   hc.mapDictKeys _,kO hd _,hk.push hkey _,?_,?_⟩ (iB ..))))
  ·rw[stored,if_neg hany];have :=hp.append hkey ((bI prog w).hash k) v;obtain⟨l⟩:_:=es;simpa using this
  ·rw[stored,if_neg hany,aY,cL];refine eq__30 hn (by simp) ?_;intro a ha b hb;simp only[aG,aQ,aA]at hb;subst hb;rintro rfl;exact hnot ha
theorem eq__695{kvs:List (Str×Af)}{k:Str}{key v:Af}{Q:Unit→Ad→Prop}(hkey:(bI prog w).is k key=true)(hm:s.heap.DictAt (bI prog w) d kvs ep)(hsz:kvs.length≤sizeLine)(hQ:∀h',h'.DictAt (bI prog w) d (stored kvs k v) (if(kvs.any fun kv=>kv.1=k)=true then ep else ep+1)→gM d s.heap h'→Q () {s with heap:=h',toks:=s.toks+1}):
  wpAny (model prog w) A (setItem (.ref d) key v) Q E s:=by
 intros n8 X E X kvs X ep X Q Ad s Ae A Aa prog Ab w Addr d Str k Af key Af v
 have' hT:=hm.dictOf.typeIs
 skip
 refine c6 (a8 (wpAny_sequenceKey hT (by decide) ?_))
 refine a8 (wpAny_callSpecial?_slot (name:=a5 "__setitem__") hT lX (wpAny_call_entry lX hT entry_dict_setitem ?_ (args_dict_setitem _ _ _)))
 refine(?_:wpAny _ _ (o8 "__setitem__" ⟨[.ref d,key,v],[]⟩>>=_) _ _ s)
 refine a8 (wpAny_notOrdered_dict hT ?_)
 refine(?_:wpAny _ _ (dictSet d key v>>=_) _ _ s)
 exact a8 (eq__694 hkey hm hsz fun h' hm' hs'=>aS (eq__2 .none rfl (aS (hQ h' hm' hs'))))
theorem eq__150{α:Type}:∀(es:List (Str×Val))(x:Str)(v:Val),look x es=none→setV x v es=es++[(x,v)]
 |[],_,_,_=>rfl
 |(y,u)::r,x,v,h=>by
  rw[eq__46]at h;split at h;·(injection h)
  ·rename_i ne;rw[eq__85];rw[if_neg ne,eq__150 (α:=α) r x v h];rfl
theorem eq__112{α:Type}:∀(es:List (Str×α))(x:Str),look x es=none↔x∉es.map (·.1)
 |[],_=>⟨fun _=>c7,fun _=>rfl⟩
 |(y,u)::r,x=>by
  rw[eq__46];by_cases h:y=x;·simp[h]
  ·rw[if_neg h,eq__112 r x];simp[cW h]
theorem eq__696{x:Str}(rep:Rep W v rv):∀(es:List (Str×Val))(rvs:List Af),(es.map (·.1)).Nodup→RepL W (es.map (·.2)) rvs→
  ∃rvs',stored ((es.map (·.1)).zip rvs) x rv=((setV x v es).map (·.1)).zip rvs'∧RepL W ((setV x v es).map (·.2)) rvs':=by
 intro es rvs nd q
 have' hlen:=q.len
 rw[a7]at hlen
 by_cases hx:look x es=none
 ·have' hnot:=(eq__112 es x).mp hx;refine eq__2 (rvs++[rv]) ?_ ?_
  ·unfold stored;rw[if_neg,eq__150 (α:=Unit) es x v hx,aY,List.zip_append (by rw[a7,hlen])];·rfl
   ·rw[hG];rintro⟨⟨a,b⟩,hm,he⟩;have' this:a=x:=of_decide_eq_true he;clear he hx;subst this;exact hnot (gC hm).1
  ·rw[eq__150 (α:=Unit) es x v hx,aY];exact q.append (RepL.one rep)
 ·have hin:x∈es.map (·.1):=by
   apply aM;intro h;exact hx ((eq__112 es x).mpr h)
  have gen:∀(es:List (Str×Val))(rvs:List Af),(es.map (·.1)).Nodup→x∈es.map (·.1)→RepL W (es.map (·.2)) rvs→
    (((es.map (·.1)).zip rvs).any fun kv=>decide (kv.1=x))=true∧∃rvs',((es.map (·.1)).zip rvs).map (fun kv=>if kv.1=x then(kv.1,rv)else kv)=((setV x v es).map (·.1)).zip rvs'∧RepL W ((setV x v es).map (·.2)) rvs':=by
   intro es;induction es with
   |nil=>intro _ _ h;contradiction
   |cons e r ih=>
    intro rvs nd hin q;rcases e with⟨y,u⟩;rw[aG]at q nd hin;obtain⟨ru,rvs,rfl,p,q⟩:=RepL.cons.mp q;have' nd':=eP.mp nd;by_cases h:y=x
    ·clear hin ih hx;subst h;refine eq__51 (by simp) (eq__2 (rv::rvs) ?_ ?_)
     ·rw[eq__85];rw[if_pos rfl];simp only[aG,bJ,if_true];congr 1;rw[l5 (g:=id)];·simp
      ·rintro⟨a,b⟩hm;have :a≠y:=by rintro rfl;exact nd'.1 (gC hm).1
       simp[this]
     ·rw[eq__85];rw[if_pos rfl];exact RepL.cons.mpr (eq__24 rv rvs rfl rep q)
    ·have hin':x∈r.map (·.1):=by
      refine cD (bC.mp hin) (fun e=>?_) fun e=>?_;·exact absurd e.symm h
      ·exact e
     obtain⟨h1,rvs',h2,h3⟩:_:=ih rvs nd'.2 hin' q;refine eq__51 ?_ (eq__2 (ru::rvs') ?_ ?_);·simp only[aG,bJ,bS,h1,jG]
     ·rw[eq__85];rw[if_neg h];simp only[aG,bJ,if_neg h];simp only[h2]
     ·rw[eq__85];rw[if_neg h];exact RepL.cons.mpr (eq__24 ru rvs' rfl p h3)
  obtain⟨h1,rvs',h2,h3⟩:_:=gen es rvs nd hin q;exact eq__2 rvs' (by skip;refine a9 (if_pos h1) ?_;exact h2) h3
end
section
theorem eq__367{v:Af}{Q:Unit→Ad→Prop}(N:NsN s.heap d m k)(hQ:∀h',NsN h' d (fun x=>if x=name then some v else m x) (if(m name).isSome=true then k else k+1)→gM d s.heap h'→Q () {s with heap:=h',toks:=s.toks+1}):wpAny M A (nsSet d name v) Q E s:=by
 intros n7 X M X A X E X m X Q Ad s Nat k Addr d Str name Af v
 obtain⟨es,ep,ho,hk,hm,hz⟩:_:=N
 have hany:es.any (·.refKey)=false:=by
  rw[Array.any_eq_false'];intro e he;refine eq__103 (hk e he) fun n t h=>?_;simp[mD,h]
 have' hnm:=hm name
 unfold nsFind at hnm
 rw[findBy_of_findIdx?]at hnm
 skip
 refine a8 (a8 (mE (aS (a8 (wpAny_mkText (a8 (kG (s:={s with toks:=s.toks+1}) ho ?_)))))))
 dsimp only
 rw[aRefKeyMayBeTheName_at,hany,mZ]
 refine wpAny_updatePart (s:={s with toks:=s.toks+1}) ho (hQ _ ?_ (iB ..))
 cases hi:es.findIdx? (·.key.isStr name)with
 |some i=>
  refine(?_:((m name).isSome=true)→_) ?_;rotate_left;·
   refine a9 (congrArg _ (bH (hnm))) ?_;simp only[hi];have :i<es.size:=by
    clear hnm hany hz hm hk ho;rcases es with⟨l⟩;have :=List.findIdx?_eq_some_iff_getElem.mp (by simpa using hi);exact this.1
   rw[j1 this];rfl
  intro hn;rw[if_pos hn];have key:∀hash key,oD name hash key v {cls:=.type "dict",data:=.dict es ep}={cls:=.type "dict",data:=.dict (es.modify i fun e=>{e with val:=v}) ep}:=fun hash key=>by
   rw[nA];simp only[lL,hi]
  refine⟨es.modify i fun e=>{e with val:=v},ep,?_,hk.modify _ _,fun x=>?_,by rw[Array.size_modify];exact hz⟩;·exact(d6 _ ho (by rw[key];rfl)).trans (congrArg some (key _ _))
  show _=if x=name then some v else m x;rw[←hm];exact findBy_modify (fun n v=>v.isStr n) Value.isStr_inj es name x v i hi
 |none=>
  have hn:¬(m name).isSome=true:=by
   rw[←hnm];simp only[hi];decide
  rw[if_neg hn];have key:∀hash key,oD name hash key v {cls:=.type "dict",data:=.dict es ep}={cls:=.type "dict",data:=.dict (es.push ⟨hash,key,v⟩) (ep+1)}:=fun hash key=>by
   rw[nA];simp only[lL,hi]
  refine⟨_,ep+1,(d6 _ ho (by rw[key];rfl)).trans (congrArg some (key _ _)),hk.push _ _ _ _,fun x=>?_,by rw[Array.size_push];(exact dC hz 1)⟩;show _=if x=name then some v else m x;rw[←hm];exact findBy_push (fun n v=>v.isStr n) es name x _ _ v (fun y=>by
   refine(?_:(name==y)=decide (y=name));by_cases h:y=name;·cases h;simp
   ·have :¬name=y:=fun e=>h e.symm;simp[h,this]) hi
theorem eq__368(hp:rN v=true)(rep:Rep W v rv):handedIn rv=true:=by
 intros n3 X v Wd W Af rv
 cases v with
 |none=>refine a9 (congrArg _ (eq__53.mp rep)) ?_;rfl
 |bool b=>refine a9 (congrArg _ (eq__63.mp rep)) ?_;rfl
 |int i=>rcases eq__20.mp rep with⟨t,rfl⟩;rfl
 |str x=>refine eq__1 (eq__19.mp rep) fun t q1_ _=>?_;subst q1_;rfl
 |tup vs=>refine eq__120 (eq__80.mp rep) fun a o rvs n q1_ _=>?_;subst q1_;rfl
 |lst vs=>refine eq__120 (eq__94.mp rep) fun a o rvs n q1_ _=>?_;subst q1_;rfl
 |dct0=>refine eq__1 (eq__170.mp rep) fun a q1_ _=>?_;subst q1_;rfl
 |ref k=>refine eq__1 (eq__35.mp rep) fun a q1_ _=>?_;subst q1_;rfl
 |clo d vs=>skip;refine eq__120 rep fun a o fd rvs q1_ _=>?_;subst q1_;rfl
 |imm v=>(injection hp)
 |any=>(injection hp)
theorem eq__232:∀(fs:List (Str×Val))(x:Str)(v:Val),(setV x v fs).length=if(look x fs).isSome=true then fs.length else fs.length+1
 |[],_,_=>rfl
 |(y,u)::r,x,v=>by
  rw[eq__85,eq__46];by_cases h:y=x;·simp[h]
  ·rw[if_neg h,if_neg h,aR,eq__232 r x v];split<;>simp
set_option tactic.hygienic true in
theorem FldRel.put(F:FldRel W fs m){x:Str}(rep:Rep W v rv)(hi:handedIn rv=true):FldRel W (setV x v fs) (fun y=>if y=x then some rv else m y):=by
 intros n6 X fs X m X F X v Wd W Af rv Str x
 exact fun y=>by
  rw[eq__8];by_cases h:x=y;· rw[if_pos h];exact eq__7 rv (if_pos h.symm) rep hi
  · rw[if_neg h];have' this:=F y;have' h':¬y=x:=fun e=>h e.symm;split at this;· rename_i u hu;obtain⟨ru,a,b,c⟩:_:=this;exact eq__7 ru ((if_neg h').trans a) b c
    · rename_i hu;refine(?_:(if y=x then some rv else m y)=none);refine a9 (if_neg h') ?_;exact this
set_option tactic.hygienic true in
theorem FldRel.some(F:FldRel W fs m)(x:Str):(m x).isSome=(look x fs).isSome:=by
 have' this:=F x
 split at this
 ·rename_i v hv;obtain⟨rv,a,_⟩:_:=this;rw[a,hv];rfl
 ·rename_i hv;rw[this,hv];rfl
theorem eq__697(R:Rel prog w g W σ s.heap)(X:K.In g)(KT:Kit K T){x:Str}{Q:Unit→Ad→Prop}(hw:W a=.obj k)(hk:σ[k]?=some (.inst C fs))(hlen:fs.length<900)(hT:T.hasAttr C x=true)(hmeth:(T.meth.lookup C).isSome=true)(hp:rN v=true)(rep:Rep W v rv)(h:∀h' tk,Rel prog w g W (σ.set k (.inst C (setV x v fs))) h'→Ext [] W s.heap W h'→Q () {s with heap:=h',toks:=tk}):wpAny (model prog w) A (setAttr (.ref a) x rv) Q E s:=by
 intros n14 X g X T X R X X X KT X Q EQ E Ad s Ae A Aa prog Ab w Addr a Wd W Val v Nat k LD fs St σ Af rv Frag K Addr C Str x
 refine eq__1 (R.cell a k hw) fun c hc q=>?_
 rw[hk]at hc;rcases a6 hc with rfl
 refine eq__56 (KT.set C x hT hmeth) fun hs hpo ht=>?_
 obtain⟨_,hdi,_⟩:_:=KT.get C x hT
 refine eq__202 (eq__174 q) fun d od m _ _ _ I _ _=>?_
 have KI:=R.kin (s:=s) X
 refine set_plain KI I hs (osa_open KI I hpo ht fun b=>?_)
 obtain⟨d,m,hd,ha,hn,hf⟩:=q
 obtain⟨cd,hcd,hdd⟩:_:=any_some hdi
 refine a8 (aS (a8 (a8 (kG (s:={s with toks:=s.toks+1}) ha (a8 (i8 (s:={s with toks:=s.toks+1}) (m5 KI hcd) ?_))))))
 rw[hdd]
 refine aS (a:=some d) (a8 (aS (a8 ?_)))
 refine eq__367 (s:={s with toks:=s.toks+1}) hn fun h' hn' sb=>?_
 rcases id hn' with⟨es,ep,ho,hk',hm,hz⟩
 have len:es.size≤1000:=by
  split at hz<;>omega
 refine a8 (mG (s:={s with heap:=h',toks:=s.toks+1+1}) ho (mH (by rw[sizeLine_eq];exact eq__3 [_] (.le Z0 (.a (.n 16777216) (.n 1))) (.le Z0 (.n 1000)) rfl len)) ?_)
 refine aS (h h' _ ?_ (eq__140 (.inr ⟨k,hd⟩) (fun b o hb e=>(sb.2 b hb).trans e) ⟨_,ho⟩))
 have ne:a≠d:=by clear ho sb hn' hn ha;rintro rfl;rw[hw]at hd;(injection hd)
 refine R.setCell hw (.inr hd) (fun b o hb e=>(sb.2 b hb).trans e) ⟨_,ho⟩ ⟨d,_,hd,(sb.2 a ne).trans ha,?_,hf.put rep (eq__368 hp rep)⟩
 simp only[eq__232]
 rw[hf.some x]at hn'
 exact hn'
theorem eq__698(R:Rel prog w g W σ s.heap){es:List (Str×Val)}{x:Str}{t:Tok}{Q:Unit→Ad→Prop}(hw:W a=.obj k)(hk:σ[k]?=some (.dict es ep))(hlen:es.length<lim)(hx:x.length≤lim)(rep:Rep W v rv)(h:∀h' tk,Rel prog w g W (σ.set k (.dict (setV x v es) (if(look x es).isSome then ep else ep+1))) h'→Ext [] W s.heap W h'→Q () {s with heap:=h',toks:=tk}):wpAny (model prog w) A (setItem (.ref a) (.str x t) rv) Q E s:=by
 intros n11 X A X E X R X rv X Q Ad s Aa prog Ab w Addr a Wd W Val v Nat k St σ Ac g Nat ep LD es Str x Tok t
 refine eq__1 (R.cell a k hw) fun c hc q=>?_
 rw[hk]at hc;rcases a6 hc with rfl
 obtain⟨rvs,hd,q,z,hsys,hkl⟩:=q
 have hlq:=q.len
 rw[a7]at hlq
 have nd:(es.map (·.1)).Nodup:=by
  have :=hd.nodup;rw[mI (by rw[a7,hlq];exact aN _)]at this;exact this
 refine eq__695 (eq__172 x t) hd ?_ fun h' hd' sb=>?_
 ·rw[g0,a7,hlq,jC];have' this:=eq__143;(exact eq__106 z)
 ·rcases eq__696 rep es rvs nd q with⟨rvs',e1,q'⟩;have any:(((es.map (·.1)).zip rvs).any fun kv=>decide (kv.1=x))=(look x es).isSome:=by
   rw[eO,hG];constructor;·rintro⟨⟨y,r⟩,hm,he⟩;have' this:y=x:=of_decide_eq_true he;clear he q' e1 hd' h hx;subst this;cases hl:look y es with
    |some _=>rfl
    |none=>exact absurd (gC hm).1 ((eq__112 es y).mp hl)
   ·intro hl;refine(?_:(x∈es.map (·.1))→_) ?_;rotate_left;·
     apply aM;intro hn;rw[(eq__112 es x).mpr hn]at hl;(injection hl)
    intro hin;rcases iC hin with⟨i,hi,e⟩;have hi2:i<rvs.length:=by rw[a7]at hi;(exact gI hi (id (bH hlq)))
    refine eq__2 (x,rvs[i]) ?_ (by simp);rw[List.mem_iff_getElem];exact⟨i,by simp only[g0];omega,by rw[List.getElem_zip,e]⟩
  rw[e1,any]at hd';obtain⟨o,_,ho,_⟩:_:=id hd';refine h h' _ (R.setCell hw (.inl rfl) (fun b o hb e=>(sb.2 b hb).trans e) ⟨o,ho⟩ ⟨rvs',hd',q',?_,hsys,?_⟩) (eq__140 (.inl ⟨k,hw⟩) (fun b o hb e=>(sb.2 b hb).trans e) ⟨o,ho⟩)
  ·rw[eq__232];split<;>omega
  ·refine(?_:(∀(es:List (Str×Val)),(∀e∈es,e.1.length≤lim)→∀e∈setV x v es,e.1.length≤lim)→_) ?_;rotate_left;·
    intro es;induction es with
    |nil=>intro _ e he;exact(aA.mp he)▸hx
    |cons p r ih=>
     rcases p with⟨y,u⟩;intro hl e he;rw[eq__85]at he;split at he
     ·rcases bC.mp he with rfl|he;·exact hx
      ·exact hl e (aU _ he)
     ·rcases bC.mp he with rfl|he;·exact hl _ aO
      ·exact ih (fun e he=>hl e (aU _ he)) e he
   intro gen;exact gen es hkl
end
section
theorem eq__699{e:Ag}{a:Str}{l:Nat}:swapsWith e (some (.Attribute o a p)) l env=pure false:=by cases e<;>rfl
theorem eq__700{e i:Ag}{l:Nat}:swapsWith e (some (.Subscript o i p)) l env=pure false:=by cases e<;>rfl
theorem eq__233{R1:Wd→α→α'→Prop}{t:Sem α'}{r:Out St α}{F:α→SS→Out SS Flo}{whole:Out SS Flo}{Y:α'→Ad→Prop}{tk₁:Nat}(x:Ext O W s.heap W₁ h₁)(c:StAt prog w g D A fl env O W₀ h₀ fr σ W₁ h₁)(hw:whole=(qD fr r).bind F)(hs:((qD fr r).bind F)≠.stuck)(p:r≠.stuck→Snd prog w g R1 A t r W₁ {s with heap:=h₁,toks:=tk₁})(k:∀v σ₂ W₂ h₂ tk₂ rv,F v (fr,σ₂)≠.stuck→whole=F v (fr,σ₂)→Ext O W s.heap W₂ h₂→W₁.le W₂→StAt prog w g D A fl env O W₀ h₀ fr σ₂ W₂ h₂→R1 W₂ v rv→Y rv {s with heap:=h₂,toks:=tk₂}):
  wpAny (model prog w) A t Y (PostE prog w g D A fl env O W₀ h₀ whole s) {s with heap:=h₁,toks:=tk₁}:=by
 subst hw
 have h1:r≠.stuck:=fun q=>hs (by rw[q];rfl)
 refine(p h1).bindQ (fun v σ₂ W₂ h₂ tk₂ rv e₁ x₂ R₂ rep=>?_) fun e s' q=>((q.st (s:={s with heap:=h₁,toks:=tk₁}) c).bind).back
 have e2:(qD fr r).bind F=F v (fr,σ₂):=by rw[e₁];rfl
 exact k v σ₂ W₂ h₂ tk₂ rv (by rw[←e2];exact hs) e2 (x.trans x₂.nil) (c.at_.rel.le x₂) (c.step x₂ R₂) rep
set_option tactic.hygienic true in
theorem eq__701(B:rM prog w g T D n)(TB:pS prog w g K T D)(c:StAt prog w g D A fl env O W₀ h₀ fr σ W s.heap){e:Ag}{a:Str}(hs:((qD fr (ev T n fr e σ)).bind fun v q=>(qD q.1 (ev T n q.1 o q.2)).bind fun ov q'=>(match ov with
   |.ref k=>(match qZ T k a v q'.2 with|some σ'=>(.ok .next (q'.1,σ'):Out SS Flo)|none=>.stuck)
   |_=>.stuck))≠.stuck):
  wpAny (model prog w) A (exec (.Assign [.Attribute o a p] e pos) env)
   (PostS prog w g D A fl env O W₀ h₀ ((qD fr (ev T n fr e σ)).bind fun v q=>(qD q.1 (ev T n q.1 o q.2)).bind fun ov q'=>(match ov with
   |.ref k=>(match qZ T k a v q'.2 with|some σ'=>(.ok .next (q'.1,σ'):Out SS Flo)|none=>.stuck)
   |_=>.stuck)) W s)
   (PostE prog w g D A fl env O W₀ h₀ ((qD fr (ev T n fr e σ)).bind fun v q=>(qD q.1 (ev T n q.1 o q.2)).bind fun ov q'=>(match ov with
   |.ref k=>(match qZ T k a v q'.2 with|some σ'=>(.ok .next (q'.1,σ'):Out SS Flo)|none=>.stuck)
   |_=>.stuck)) s) s:=by
 intros n7 X K X B X TB X c X p X pos Nat n Ad s Ae A Aa prog Ab w Wd W LA O St σ Ac g LN fl Fr fr Ai env Ac h₀ Wd W₀ Tab T Nat D Ag o Ag e Str a
 refine i2 (eq__127 c hs (fun h=>B.ev _ _ _ _ _ _ _ _ _ c.at_ h) fun v σ₁ W₁ h₁ tk₁ rv h e2 x₁ c₁ rep=>?_) eq__699
 refine eq__233 x₁ c₁ e2 h (fun h=>B.ev _ _ _ _ _ _ _ _ _ c₁.at_ h) fun ov σ₂ W₂ h₂ tk₂ rov h' e3 x₂ l₂ c₂ rep₂=>?_
 simp only[e3]
 clear e3;split at h'
 ·rename_i k;try dsimp only at h'⊢
  split at h'
  ·rename_i σ' hp;try simp only[hp]
   refine eq__1 (eq__35.mp rep₂) fun ra q1_ hw=>?_;subst q1_;unfold qZ at hp;split at hp
   ·rename_i C fs hk;split at hp
    ·rename_i hc;clear h';rcases a6 hp with rfl;refine eq__697 (s:={s with heap:=h₂,toks:=tk₂}) c₂.at_.rel TB.kin TB.kit hw hk hc.1 hc.2.1 hc.2.2.2 hc.2.2.1 (rep.mono l₂) fun h₃ tk₃ R₃ x₃=>?_;exact⟨.next,fr,_,W₂,h₃,tk₃,rfl,rfl,fun _=>x₂.trans x₃.nil,c₂.step x₃ R₃,rfl⟩
    ·(injection hp)
   ·(injection hp)
  ·exact absurd rfl h'
 ·exact absurd rfl h'
set_option tactic.hygienic true in
theorem eq__702(B:rM prog w g T D n)(c:StAt prog w g D A fl env O W₀ h₀ fr σ W s.heap){i e:Ag}(hs:((qD fr (ev T n fr e σ)).bind fun v q=>(qD q.1 (ev T n q.1 o q.2)).bind fun ov q'=>(qD q'.1 (ev T n q'.1 i q'.2)).bind fun iv q''=>(match ov,iv with
   |.ref k,.str x=>(match r9 k x v q''.2 with|some σ'=>(.ok .next (q''.1,σ'):Out SS Flo)|none=>.stuck)
   |_,_=>.stuck))≠.stuck):
  wpAny (model prog w) A (exec (.Assign [.Subscript o i p] e pos) env)
   (PostS prog w g D A fl env O W₀ h₀ ((qD fr (ev T n fr e σ)).bind fun v q=>(qD q.1 (ev T n q.1 o q.2)).bind fun ov q'=>(qD q'.1 (ev T n q'.1 i q'.2)).bind fun iv q''=>(match ov,iv with
   |.ref k,.str x=>(match r9 k x v q''.2 with|some σ'=>(.ok .next (q''.1,σ'):Out SS Flo)|none=>.stuck)
   |_,_=>.stuck)) W s)
   (PostE prog w g D A fl env O W₀ h₀ ((qD fr (ev T n fr e σ)).bind fun v q=>(qD q.1 (ev T n q.1 o q.2)).bind fun ov q'=>(qD q'.1 (ev T n q'.1 i q'.2)).bind fun iv q''=>(match ov,iv with
   |.ref k,.str x=>(match r9 k x v q''.2 with|some σ'=>(.ok .next (q''.1,σ'):Out SS Flo)|none=>.stuck)
   |_,_=>.stuck)) s) s:=by
 intros n5 X B X c X p X pos Nat n Ad s Ae A Aa prog Ab w Wd W LA O St σ Ac g LN fl Fr fr Ai env Ac h₀ Wd W₀ Tab T Nat D Ag o Ag i Ag e
 refine wpAny_Assign_Subscript (eq__127 c hs (fun h=>B.ev _ _ _ _ _ _ _ _ _ c.at_ h) fun v σ₁ W₁ h₁ tk₁ rv h e2 x₁ c₁ rep=>?_) eq__700
 refine eq__233 x₁ c₁ e2 h (fun h=>B.ev _ _ _ _ _ _ _ _ _ c₁.at_ h) fun ov σ₂ W₂ h₂ tk₂ rov h' e3 x₂ l₂ c₂ rep₂=>?_
 refine eq__233 x₂ c₂ e3 h' (fun h=>B.ev _ _ _ _ _ _ _ _ _ c₂.at_ h) fun iv σ₃ W₃ h₃ tk₃ riv h'' e4 x₃ l₃ c₃ rep₃=>?_
 rw[e4]
 clear e4 e3 h';split at h''
 ·rename_i k x;try dsimp only at h''⊢
  split at h''
  ·rename_i σ' hp;try simp only[hp]
   refine eq__1 (eq__35.mp (rep₂.mono l₃)) fun ra q1_ hw=>?_;subst q1_;refine eq__1 (eq__19.mp rep₃) fun t q1_ hx=>?_;subst q1_;unfold r9 at hp;split at hp
   ·rename_i es ep hk;split at hp
    ·rename_i hc;clear h'';rcases a6 hp with rfl;refine eq__698 (s:={s with heap:=h₃,toks:=tk₃}) c₃.at_.rel hw hk hc hx ((rep.mono l₂).mono l₃) fun h₄ tk₄ R₄ x₄=>?_;exact⟨.next,fr,_,W₃,h₄,tk₄,rfl,rfl,fun _=>x₃.trans x₄.nil,c₃.step x₄ R₄,rfl⟩
    ·(injection hp)
   ·(injection hp)
  ·exact absurd rfl h''
 ·exact absurd rfl h''
theorem eq__703(B:rM prog w g T D n)(c:StAt prog w g D A fl env O W₀ h₀ fr σ W s.heap){f:Ag}{eq__13:Pos}(hs:((qD fr (ev T n fr (.Call f args kws eq__13) σ)).bind fun _ q=>(.ok .next q:Out SS Flo))≠.stuck):
  wpAny (model prog w) A (exec (.Expr (.Call f args kws eq__13) pos) env) (PostS prog w g D A fl env O W₀ h₀ ((qD fr (ev T n fr (.Call f args kws eq__13) σ)).bind fun _ q=>(.ok .next q:Out SS Flo)) W s)
   (PostE prog w g D A fl env O W₀ h₀ ((qD fr (ev T n fr (.Call f args kws eq__13) σ)).bind fun _ q=>(.ok .next q:Out SS Flo)) s) s:=by
 refine wpAny_Expr_any (eq__127 c hs (fun h=>B.ev _ _ _ _ _ _ _ _ _ c.at_ h) fun v σ₁ W₁ h₁ tk₁ rv h e2 x₁ c₁ rep=>⟨.next,fr,σ₁,W₁,h₁,tk₁,e2,rfl,fun _=>x₁,c₁,rfl⟩) ?_
 unfold interactive
 rw[c.at_.fr.kind]
 rfl
end
section
theorem eq__369(x₀:Ext [] W₀ h₀ W h)(n:∀b∈S,h₀.get? b=none):Ext [] W₀ h₀ W (hideAll h S):=by
 intros n2 Wd W Ac h Ac h₀ Wd W₀ LA S
 exact⟨x₀.1,fun a o e=>by
 obtain⟨r,c⟩:_:=x₀.2 a o e
 refine⟨r,?_⟩
 rcases c with⟨_,m⟩|⟨o',e',q⟩
 ·contradiction
 ·exact .inr (eq__2 o' (jZ _ e' (fun hm=>by rw[n a hm]at e;(injection e))) q)⟩
theorem eq__234:Ext [] W (hideAll h S) W h:=⟨Wd.le.refl W,fun a o e=>⟨fun _=>rfl,.inr (eq__27 o (of_hideAll _ e) (fun _ _=>rfl) (fun _ n=>n) (fun _ _=>⟨o.slots,rfl⟩))⟩⟩
theorem eq__370(x₀:Ext [] W₀ h₀ W h)(n:∀b∈S,h₀.get? b=none){b:Addr}(e:(hideAll h S).get? b=none):h₀.get? b=none:=(eq__369 x₀ n).none e
theorem FrRel.hide(F:FrRel W fr env O h)(nS:∀b∈S,∃o vs,h.get? b=some o∧o.data=.fields vs):FrRel W fr env O (hideAll h S):=by
 intros n2 Wd W LA O Ac h Fr fr Ai env LA S
 have cell:∀c v,h.IsCell c v→(hideAll h S).IsCell c v:=fun c v hF=>eq__1 hF fun o ho hd=>⟨o,jZ _ ho (fun hm=>by
  refine eq__31 (nS c hm) fun o' vs ho' hd'=>?_;rw[ho]at ho';rcases a6 ho' with rfl;rw[hd]at hd';(injection hd')),hd⟩
 refine⟨F.scope,F.kind,F.glob,F.bi,?_,fun y v e k=>?_,F.locW,F.locO,fun hf y k=>?_,F.apart⟩
 ·(refine eq__1 F.loc fun m q1_ r=>?_;rcases q1_ with⟨o,es,ep,ho,hd,q⟩);exact eq__2 m ⟨o,es,ep,jZ _ ho (fun hm=>by
   rcases nS _ hm with⟨o',vs,ho',hd'⟩;rw[ho]at ho';rcases a6 ho' with rfl;rw[hd]at hd';(injection hd')),hd,q⟩ r
 ·refine eq__17 (F.cel y v e k) fun c rv a i b=>?_;exact eq__24 c rv a (cell _ _ i) b
 ·obtain⟨c,v₀,a,i,b⟩:_:=F.own hf y k;exact eq__24 c v₀ a (cell _ _ i) b
end
section
variable(prog:Aa)(w:Ab)(g:Ac)(D:Nat)
inductive PostEN(A:Ae)(fl:List Ai)(env:Ai)(O:List Addr)(W₀:Wd)(h₀:Ac){α:Type}(r:Out SS α)(s:Ad)(e:Af)(s':Ad):Prop
 |mk(k:Nat)(fr':Fr)(σ':St)(W':Wd)(h':Ac)(tk:Nat)(e1:r=.exc k (fr',σ'))(e2:s'={s with heap:=h',toks:=tk})(c:StAt prog w g D A fl env O W₀ h₀ fr' σ' W' h')(f:FlyN W' h₀ k e h')
end
section
variable{r:Out SS α}
theorem PostEN.pe(p:PostEN prog w g D A fl env O W₀ h₀ r s e s'):PostE prog w g D A fl env O W₀ h₀ r s e s':=by
 obtain⟨k,fr',σ',W',h',tk,e1,e2,c,f⟩:=p
 exact⟨k,fr',σ',W',h',tk,e1,e2,c,f.fly⟩
theorem Fly.hide(x₀:Ext [] W₀ h₀ W h)(f:Fly W h₀ k e h):∃S:List Addr,(∀b∈S,h₀.get? b=none)∧(∀b∈S,∃o vs,h.get? b=some o∧o.data=.fields vs)∧Fly W (hideAll h S) k e h:=by
 intros n4 X W₀ X e Wd W Nat k Ac h Ac h₀
 rcases f with⟨a,ob,vs,rfl,hw,hn,ho,hd,c⟩
 rcases c with h1|⟨T,oT,ts,h1,hT,hfT,hTn,hoT,hdT,h3⟩
 ·exact eq__7 ([a]) (fun b hb=>by refine a9 (congrArg _ (aA.mp hb)) ?_;exact hn) (fun b hb=>by exact(aA.mp hb)▸⟨ob,vs,ho,hd⟩) ⟨a,ob,vs,rfl,hw,eY _ (by simp),ho,hd,.inl h1⟩
 ·refine eq__7 ([a,T]) (fun b hb=>?_) (fun b hb=>?_) ⟨a,ob,vs,rfl,hw,eY _ ((aO ..)),ho,hd,.inr ⟨T,oT,ts,h1,hT,hfT,eY _ ((aU _ (aO ..))),hoT,hdT,h3⟩⟩
  ·have :b=a∨b=T:=by simpa using hb
   clear hb hT ho hw;rcases this with rfl|rfl;·exact hn
   ·exact hTn
  ·have :b=a∨b=T:=by simpa using hb
   clear hb hT hn hw;rcases this with rfl|rfl;·exact eq__28 ob vs ho hd
   ·exact eq__28 oT ts hoT hdT
theorem FlyN.base(x₀:Ext [] W₀ h₀ W h)(n:∀b∈S,h₀.get? b=none)(f:FlyN W (hideAll h S) k e h'):FlyN W h₀ k e h':=by
 rcases f with⟨a,ob,vs,T,oT,ts,e1,hw,hn,ho,hd,h1,hT,hfT,hTn,q1,q2,q3⟩
 exact⟨a,ob,vs,T,oT,ts,e1,hw,eq__370 x₀ n hn,ho,hd,h1,hT,hfT,eq__370 x₀ n hTn,q1,q2,q3⟩
theorem StAt.noted(c:StAt prog w g D A fl env O W₀ h₀ fr σ W h)(n:∀b∈S,h₀.get? b=none)(nS:∀b∈S,∃o vs,h.get? b=some o∧o.data=.fields vs)(x:Ext [] W (hideAll h S) W h')(R:Rel prog w g W σ h'):StAt prog w g D A fl env O W₀ h₀ fr σ W h':=by
 refine⟨⟨c.at_.ok,?_,R,(c.at_.fr.hide nS).ext (Wd.le.refl W) x,c.at_.top⟩,(eq__369 c.base n).trans x,c.nO,c.fn,c.cod,c.oIs⟩
 have F:Frames W (hideAll h S) fl:=fun en he=>by
  obtain⟨hk,L',o,hf',hw',ho',hd'⟩:=c.at_.fs en he;refine eq__51 hk (eq__39 L' o hf' hw' (jZ _ ho' (fun hm=>?_)) hd');refine eq__31 (nS _ hm) fun o' vs ho'' hd''=>?_;rw[ho']at ho'';rcases a6 ho'' with rfl;exact hd' vs hd''
 exact F.ext x
theorem FlyN.hide(f:FlyN W h₀ k e h):∃S:List Addr,(∀b∈S,h₀.get? b=none)∧(∀b∈S,∃o vs,h.get? b=some o∧o.data=.fields vs)∧FlyN W (hideAll h S) k e h:=by
 obtain⟨a,ob,vs,T,oT,ts,rfl,hw,hn,ho,hd,h1,hT,hfT,hTn,hoT,hdT,h3⟩:=f
 refine eq__7 ([a,T]) (fun b hb=>?_) (fun b hb=>?_) ⟨a,ob,vs,T,oT,ts,rfl,hw,eY _ ((aO ..)),ho,hd,h1,hT,hfT,eY _ ((aU _ (aO ..))),hoT,hdT,h3⟩
 ·have :b=a∨b=T:=by simpa using hb
  clear hb hT ho hw;rcases this with rfl|rfl;·exact hn
  ·exact hTn
 ·have :b=a∨b=T:=by simpa using hb
  clear hb hT hn hw;rcases this with rfl|rfl;·exact eq__28 ob vs ho hd
  ·exact eq__28 oT ts hoT hdT
theorem eq__235{Q:Unit→Ad→Prop}(p:PostE prog w g D A fl env O W₀ h₀ r s e s')(h:∀s'',PostEN prog w g D A fl env O W₀ h₀ r s e s''→Q () s''):wpAny (model prog w) A (noteFrame e env) Q E s':=by
 rcases p with⟨k,fr',σ',W',h',tk,e1,rfl,c,f⟩
 (refine eq__76 (f.hide c.base) fun S n nS f'=>?_)
 obtain⟨e₀,rs,hfl,hfe⟩:=c.at_.top
 subst hfl
 obtain⟨_,L,_,hL,_⟩:_:=c.at_.fs e₀ aO
 exact eq__353 (s:={s with heap:=h',toks:=tk}) c.at_.ok.fr c.at_.fs (hfe.symm.trans hL) hfe c.at_.rel eq__234 f' fun h'' x' R' f'' _=>h _ ⟨k,fr',σ',W',h'',tk,e1,rfl,c.noted n nS x' R',f''.base c.base n⟩
theorem eq__236{Q:Unit→Ad→Prop}{fo:Option Addr}(p:PostEN prog w g D A fl env O W₀ h₀ r s e s')(h:∀s'',PostEN prog w g D A fl env O W₀ h₀ r s e s''→Q () s''):wpAny (model prog w) A (setFlight e fo) Q E s':=by
 rcases p with⟨k,fr',σ',W',h',tk,e1,rfl,c,f⟩
 (refine eq__76 f.hide fun S n nS f'=>?_)
 exact eq__177 (s:={s with heap:=h',toks:=tk}) c.at_.rel eq__234 f' fun h'' x' R' f'' _=>h _ ⟨k,fr',σ',W',h'',tk,e1,rfl,c.noted n nS x' R',f''.base c.base n⟩
theorem eq__237(p:PostE prog w g D A fl env O W₀ h₀ r s e s')(h:∀s'',PostEN prog w g D A fl env O W₀ h₀ r s e s''→Q e s''):notedBy (model prog w) A env Q e s':=eq__235 p h
theorem eq__238(p:PostEN prog w g D A fl env O W₀ h₀ r s e s')(h:∀s'',PostEN prog w g D A fl env O W₀ h₀ r s e s''→Q e s''):cameBackBy (model prog w) A env Q e s':=by
 rcases id p with⟨k,fr',σ',W',h',tk,e1,rfl,c,f⟩
 refine a8 (eq__226 (s:={s with heap:=h',toks:=tk}) f fun v hv=>?_)
 rw[hv,if_neg (by decide)]
 exact eq__236 p h
end
variable{body:List Stmt}
section
theorem eq__371:∀(ts:List Ag)(vs:List Val)(f₁ f₂:Fr),s6 ts vs f₁=some f₂→f₂.fn=f₁.fn∧f₂.code=f₁.code
 |[],[],_,_,e=>by rcases a6 e with rfl;exact⟨rfl,rfl⟩
 |[],_::_,_,_,e=>by injection e
 |t::ts,vs,f₁,f₂,e=>by
  rcases eq__212 e with⟨x,pos,v,vs',rfl,rfl,hp,e⟩;exact eq__371 ts vs' (f₁.put x v) f₂ e
theorem eq__704(e:rF t v fr=some fr'):fr'.fn=fr.fn∧fr'.code=fr.code:=by
 rcases eq__319 e with⟨x,p,rfl,_,rfl⟩|⟨ts,k,p,vs,rfl,rfl,e⟩
 ·exact⟨rfl,rfl⟩
 ·exact eq__371 _ _ _ _ e
theorem PostE.as{r:Out SS α}{r':Out SS β}(f:∀k q,r=.exc k q→r'=.exc k q)(p:PostE prog w g D A fl env O W₀ h₀ r s e s'):PostE prog w g D A fl env O W₀ h₀ r' s e s':=by
 rcases p with⟨k,fr',σ',W',h',tk,e1,q1,q2,q3⟩
 exact⟨k,fr',σ',W',h',tk,f _ _ e1,q1,q2,q3⟩
theorem StAt.off(c:StAt prog w g D A fl env O W₀ h₀ fr σ W h)(it:IterAt W h sr i I S):∀b∈S,b∉O:=fun b hb hO=>by
 refine eq__31 (it.fields b hb) fun o vs ho hd=>?_
 rcases c.oIs b hO with rfl|⟨x,hk,hl⟩
 ·(refine eq__1 c.at_.fr.loc fun m q1_ _=>?_;rcases q1_ with⟨o',_,_,ho',hd',_⟩);rw[ho]at ho';rcases a6 ho' with rfl;rw[hd]at hd';(injection hd')
 ·have hk':fr.kind x=some .cell:=by unfold Fr.kind;exact(bH (c.at_.fr.scope))▸hk
  rcases c.at_.fr.own c.fn x hk' with⟨cc,v₀,hl',⟨o',ho',hd'⟩,_⟩;clear right;rw[hl]at hl';rcases a6 hl' with rfl;rw[ho]at ho';rcases a6 ho' with rfl;rw[hd]at hd';(injection hd')
theorem StAt.iter(c:StAt prog w g D A fl env O W₀ h₀ fr σ W h)(it:IterAt W h sr i I S)(x:Ext S W h W' h')(R:Rel prog w g W' σ h')(nS:∀b∈S,h₀.get? b=none):StAt prog w g D A fl env O W₀ h₀ fr σ W' h':=
 ⟨⟨c.at_.ok,c.at_.fs.ext x,R,(it.frel c.at_.fr x).2,c.at_.top⟩,(c.base.nil.trans (x.wide (O':=[]++S) (fun b hb=>hb))).narrow nS,c.nO,c.fn,c.cod,c.oIs⟩
noncomputable def r5(T:Tab)(n:Nat)(target:Ag)(body:List Stmt):Val→Fr→St→Out SS Flo:=fun v fr' σ'=>match rF target v fr' with
 |none=>.stuck
 |some fr''=>exs T n body fr'' σ'
inductive vJ(prog:Aa)(w:Ab)(g:Ac)(T:Tab)(D n:Nat)(A:Ae)(fl:List Ai)(env:Ai)(O:List Addr)(W₀:Wd)(h₀:Ac)(target:Ag)(body:List Stmt)(sr:Src)(I:Addr)(S:List Addr)(whole:Out SS Flo)(W:Wd)(s:Ad)(m:Nat)(s':Ad):Prop
 |mk(i:Nat)(fr':Fr)(σ':St)(W':Wd)(h':Ac)(tk:Nat)(e2:s'={s with heap:=h',toks:=tk})(hg:qY sr (r5 T n target body) m i fr' σ'=whole)(x:Ext O W s.heap W' h')(c:StAt prog w g D A fl env O W₀ h₀ fr' σ' W' h')(it:IterAt W' h' sr i I S)
theorem eq__705{whole:Out SS Flo}{f:Nat}{fo:Flow}{tk:Nat}{r:Out SS Flo}(c':StAt prog w g D A fl env O W₀ h₀ fr' σ' W' h')(it:IterAt W' h' sr i I S)(x:Ext O W s.heap W' h')(hr:(match r with|.ok (.ret v) q=>.ok (.ret v) q|.ok _ q=>qY sr (r5 T n target body) f i q.1 q.2|.exc k q=>.exc k q|.stuck=>.stuck)=whole)(z:PostS prog w g D A fl env O W₀ h₀ r W' {s with heap:=h',toks:=tk} fo s'):
  match(generalizing:=false)fo with
   |.next|.cont=>∃m,m<f+1∧vJ prog w g T D n A fl env O W₀ h₀ target body sr I S whole W s m s'
   |.brk=>PostS prog w g D A fl env O W₀ h₀ whole W s .next s'
   |.ret v=>PostS prog w g D A fl env O W₀ h₀ whole W s (.ret v) s':=by
 intros n12 X W X σ' X fr' X whole X fo X s' X r Nat n Ad s Ae A Aa prog Ab w Nat i Wd W' LA O Ac h' Ac g LN fl Ai env Ac h₀ Wd W₀ Tab T Nat D LA S Src sr Addr I Ag target LSm body Nat f Nat tk
 rcases z with⟨fo',fr₄,σ₄,W₄,h₄,tk₄,e4,rfl,x₄,c₄,rf⟩
 replace hr:=(e4)▸hr
 have wC:fo'.goes→qY sr (r5 T n target body) f i fr₄ σ₄=whole→∃m,m<f+1∧vJ prog w g T D n A fl env O W₀ h₀ target body sr I S whole W s m {s with heap:=h₄,toks:=tk₄}:=
  fun go hg=>(eq__2 f (cU f) ⟨i,fr₄,σ₄,W₄,h₄,tk₄,rfl,hg,x.trans (x₄ go),c₄,it.ext c'.at_.rel (x₄ go) (c'.off it)⟩)
 clear x₄ e4;cases fo' with
 |next=>subst rf;exact wC trivial hr
 |cont=>subst rf;exact wC trivial hr
 |ret v=>obtain⟨rv,rfl,rep⟩:_:=rf;exact⟨.ret v,fr₄,σ₄,W₄,h₄,tk₄,hr.symm,rfl,fun q=>q.elim,c₄,rv,rfl,rep⟩
theorem eq__706(B:rM prog w g T D n)(HX:rS prog w g T D n)(c:StAt prog w g D A fl env O W₀ h₀ fr σ W s.heap){iter:Ag}(hs:((qD fr (src T n fr iter σ)).bind fun sr q=>if qG sr target=false then .stuck else qY sr (r5 T n target body) qC 0 q.1 q.2)≠.stuck):
  wpAny (model prog w) A (exec (.For target iter body [] pos) env) (PostS prog w g D A fl env O W₀ h₀ ((qD fr (src T n fr iter σ)).bind fun sr q=>if qG sr target=false then .stuck else qY sr (r5 T n target body) qC 0 q.1 q.2) W s)
   (PostE prog w g D A fl env O W₀ h₀ ((qD fr (src T n fr iter σ)).bind fun sr q=>if qG sr target=false then .stuck else qY sr (r5 T n target body) qC 0 q.1 q.2) s) s:=by
 intros n5 X B X HX X c X pos Nat n Ad s Ae A Aa prog Ab w Wd W LA O St σ Ac g LN fl Fr fr Ai env Ac h₀ Wd W₀ Tab T Nat D Ag target LSm body Ag iter
 have h1:src T n fr iter σ≠.stuck:=fun q=>hs (by rw[q];rfl)
 generalize hW:((qD fr (src T n fr iter σ)).bind fun sr q=>if qG sr target=false then .stuck else qY sr (r5 T n target body) qC 0 q.1 q.2)=whole at hs⊢
 have st:∀{e:Af}{s':Ad},PostX prog w g (src T n fr iter σ) W s e s'→PostE prog w g D A fl env O W₀ h₀ whole s e s':=fun q=>by rw[←hW];exact(q.st c).bind
 refine wpAny_For (aE (B.src _ _ _ _ _ _ _ _ _ c.at_ h1) (fun x s₁ hx=>aE hx (fun it s₂ hi=>?_) fun e s' q=>st q) fun e s' q=>st q) (fun x=>eq__229 h1)
 clear st
 rcases hi with⟨sr,σ₂,W₂,h₂,tk₂,I,S,e₂,rfl,x₂,R₂,rfl,it₂,nS⟩
 have hW:(if qG sr target=false then .stuck else qY sr (r5 T n target body) qC 0 fr σ₂)=whole:=by rw[←hW,e₂];rfl
 by_cases ht:qG sr target=false
 ·rw[if_pos ht]at hW;exact absurd hW.symm hs
 rw[if_neg ht]at hW
 have ht:qG sr target=true:=by simpa using ht
 have nS₀:∀b∈S,h₀.get? b=none:=fun b hb=>c.base.none (nS b hb)
 refine codeAny_forLoop_any (vJ prog w g T D n A fl env O W₀ h₀ target body sr I S whole W s) ?_ qC
  ⟨0,fr,σ₂,W₂,h₂,tk₂,rfl,hW,x₂.nil,c.step x₂ R₂,it₂⟩
 rintro m s'⟨i,fr',σ',W',h',tk,rfl,hg,x',c',it'⟩
 cases m with
 |zero=>exact absurd hg.symm hs
 |succ f=>
  rw[eq__213]at hg;cases hn:pG σ' sr i with
  |none=>rw[hn]at hg;exact absurd hg.symm hs
  |some r=>
   rw[hn]at hg;have back:∀{W'':Wd}{h'':Ac},Ext S W' h' W'' h''→Ext O W s.heap W'' h'':=fun x''=>((x'.wide (O':=O++S) (fun b hb=>cV _ hb)).trans (x''.wide (O':=O++S) (fun b hb=>cR _ hb))).narrow nS;refine eq__655 (s:={s with heap:=h',toks:=tk}) (fun _ _ h=>h) c'.at_.ok.hd c'.at_.rel it' hn ht (fun hr h'' tk'' x'' R''=>?_) (fun v hr W'' h'' tk'' u x'' R'' rep it''=>?_)
   ·rw[hr]at hg;exact gB ⟨.next,fr',σ',W',h'',tk'',hg.symm,rfl,fun _=>back x'',c'.iter it' x'' R'' nS₀,rfl⟩
   ·rw[hr]at hg;have c'':=c'.iter it' x'' R'' nS₀;have' xx:=back x'';have hg:(match r5 T n target body v fr' σ' with|.ok (.ret v) q=>.ok (.ret v) q|.ok _ q=>qY sr (r5 T n target body) f (i+1) q.1 q.2|.exc k q=>.exc k q|.stuck=>.stuck)=whole:=hg;clear back x' c' it' hn x'' hr;cases hb:rF target v fr' with
    |none=>rw[show r5 T n target body v fr' σ'=.stuck by unfold r5;rw[hb]]at hg;exact absurd hg.symm hs
    |some fr₃=>
     rw[show r5 T n target body v fr' σ'=exs T n body fr₃ σ' by unfold r5;rw[hb]]at hg;obtain⟨sf,sc⟩:_:=eq__704 hb;refine aE (eq__357 (s:={s with heap:=h'',toks:=tk''}) (E:=fun _ _=>False) c''.at_.ok.hd hb rep R'' c''.at_.fr) (fun _ s₃ z=>?_) fun _ _ z=>z.elim;rcases z with⟨h₃,tk₃,rfl,R₃,x₃,F₃⟩;have c₃:=c''.put x₃ R₃ F₃ (by refine a9 (sf) ?_;exact c''.fn) sc;have' it₃:=it''.ext R'' x₃ (c''.off it'');have' hx:exs T n body fr₃ σ'≠.stuck:=fun q=>hs (by rw[←hg,q]);exact aE (HX body fr₃ σ' W'' {s with heap:=h₃,toks:=tk₃} env O A fl W₀ h₀ c₃ hx) (fun fo s₄ z=>eq__705 c₃ it₃ (xx.trans x₃) hg z) fun e s₄ z=>
      eq__237 (PostE.back (PostE.as (fun k q e4=>by rw[e4]at hg;exact hg.symm) z)) fun s₅ z=>eq__238 z fun s₆ z=>z.pe
end
section
theorem eq__707(B:rM prog w g T D n)(HX:rS prog w g T D n)(c:StAt prog w g D A fl env O W₀ h₀ fr σ W s.heap){test:Ag}(hs:qL (fun fr σ=>tst T n fr test σ) (fun fr σ=>exs T n body fr σ) qC fr σ≠.stuck):
  wpAny (model prog w) A (exec (.While test body [] pos) env) (PostS prog w g D A fl env O W₀ h₀ (qL (fun fr σ=>tst T n fr test σ) (fun fr σ=>exs T n body fr σ) qC fr σ) W s)
   (PostE prog w g D A fl env O W₀ h₀ (qL (fun fr σ=>tst T n fr test σ) (fun fr σ=>exs T n body fr σ) qC fr σ) s) s:=by
 intros n5 X B X HX X c X pos Nat n Ad s Ae A Aa prog Ab w Wd W LA O St σ Ac g LN fl Fr fr Ai env Ac h₀ Wd W₀ Tab T Nat D LSm body Ag test
 refine wpAny_While ?_
 generalize hW:qL (fun fr σ=>tst T n fr test σ) (fun fr σ=>exs T n body fr σ) qC fr σ=whole at hs⊢
 refine codeAny_whileLoop (fun m s'=>∃fr' σ' W' h' tk,s'={s with heap:=h',toks:=tk}∧qL (fun fr σ=>tst T n fr test σ) (fun fr σ=>exs T n body fr σ) m fr' σ'=whole∧Ext O W s.heap W' h'∧StAt prog w g D A fl env O W₀ h₀ fr' σ' W' h') ?_ qC
  (eq__574 fr σ W s.heap s.toks rfl hW (Ext.refl _ _ _) c)
 (intro m s' hp1_;refine aM fun hG_=>?_;refine eq__573 hp1_ fun fr' σ' W' h' tk q1_ hg x' c'=>?_;subst q1_;refine hG_ ?_;clear hG_)
 cases m with
 |zero=>exact absurd hg.symm hs
 |succ f=>
  rw[eq__214]at hg;have h1:tst T n fr' test σ'≠.stuck:=fun q=>hs (by rw[←hg,q];rfl);refine(B.tst _ _ _ _ {s with heap:=h',toks:=tk} _ _ _ _ c'.at_ h1).bindQ (fun b σ₂ W₂ h₂ tk₂ b' e₁ x₂ R₂ rep=>?_) fun e s' q=>?_;·subst rep;rw[e₁]at hg;have c₂:=c'.step x₂ R₂;have xx:=x'.trans x₂.nil;clear e₁;cases b with
   |false=>
    exact gB ⟨.next,fr',σ₂,W₂,h₂,tk₂,hg.symm,rfl,fun _=>xx,c₂,rfl⟩
   |true=>
    have hg:(match exs T n body fr' σ₂ with
     |.ok (.ret v) q=>(.ok (.ret v) q:Out SS Flo)
     |.ok _ q=>qL (fun fr σ=>tst T n fr test σ) (fun fr σ=>exs T n body fr σ) f q.1 q.2
     |.exc k q=>.exc k q
     |.stuck=>.stuck)=whole:=hg;have' hx:exs T n body fr' σ₂≠.stuck:=fun q=>hs (by rw[←hg,q]);refine aE (HX body fr' σ₂ W₂ {s with heap:=h₂,toks:=tk₂} env O A fl W₀ h₀ c₂ hx) (fun fo s₄ z=>?_) fun e s₄ z=>?_
    ·rcases z with⟨fo',fr₄,σ₄,W₄,h₄,tk₄,e4,rfl,x₄,c₄,rf⟩;rw[e4]at hg;clear e4;cases fo' with
     |next=>cases rf;exact⟨f,cU f,fr₄,σ₄,W₄,h₄,tk₄,rfl,hg,xx.trans (x₄ trivial),c₄⟩
     |cont=>cases rf;exact⟨f,cU f,fr₄,σ₄,W₄,h₄,tk₄,rfl,hg,xx.trans (x₄ trivial),c₄⟩
     |ret v=>rcases rf with⟨rv,rfl,rep⟩;exact⟨.ret v,fr₄,σ₄,W₄,h₄,tk₄,hg.symm,rfl,fun q=>q.elim,c₄,rv,rfl,rep⟩
    ·exact eq__237 (PostE.back (PostE.as (fun k q e4=>by rw[e4]at hg;exact hg.symm) z)) fun s₅ z=>eq__238 z fun s₆ z=>z.pe
  ·have p:=q.st c';exact eq__237 (PostE.back (PostE.as (fun k q e4=>by
    cases ht:tst T n fr' test σ' with
    |ok b σ₂=>rw[ht]at e4;(injection e4)
    |stuck=>exact absurd ht h1
    |exc k σ₂=>rw[ht]at e4 hg;(injection e4 with hq_ hr_;subst hq_;subst hr_);exact hg.symm) p)) fun s₅ z=>eq__238 z fun s₆ z=>z.pe
end
inductive uB(g:Ac)(C:Addr):Prop
 |mk(nm q:Str)(N:Addr)(bs bm:List Af)(hdct:Bool)(sn:List Str)(sub:List Af)(ab:Bool)(col:Option Bool)(dd:Option Addr)(k0 k1 k2 k3 k5:Option Af)(newId:String)
  (hC:g.get? C=some (excClassObj nm q C N bs bm hdct sn sub ab col dd k0 k1 k2 k3 k5 newId))(hb:bm.contains (.type "BaseException")=true)
noncomputable def uC(C t:Addr)(dct:Option Addr):Obj:={cls:=.ref C,dict:=dct,data:=.fields #[.ref t,.none,.none,.none,.bool false,.none]}
inductive vX(g:Ac)(C:Addr)(E:Af→Ad→Prop)(v:Af)(s:Ad):Prop
 |mk(e t:Addr)(dct:Option Addr)(ev:v=.ref e)(st:∀o,g.get? C=some o→s.heap.get? C=some o)(he:s.heap.get? e=some (uC C t dct))(hE:E (.ref e) s)
theorem eq__708(X:uB g C){x:Sem Af}{Q:Flow→Ad→Prop}(hh:A.handled=none)(h:wpAny M A x (vX g C E) E s):wpAny M A (raiseStmt env (some x) none) Q E s:=by
 skip
 refine a8 (aE h (fun v s₁ h₁=>?_) fun _ _ x=>x)
 rcases h₁ with⟨e,t,dct,rfl,st,he,hE⟩
 rcases X with⟨nm,q,N,bs,bm,hdct,sn,sub,ab,col,dd,k0,k1,k2,k3,k5,newId,hC,hbase⟩
 have' hC:=st _ hC
 have' hcB:(dT C::bm).contains (.type "BaseException")=true:=by rw[eN,hbase,jG]
 unfold uC at he
 clear st;rcases s₁ with⟨hp,g,d,tk,os⟩
 repeat(first|with_reducible refine gU he ?_|with_reducible refine gU hC ?_|(with_reducible refine lC hC ?_;rw[hcB])|wp_step)
 exact wpAny_raiseNew_none hh hE
inductive vK(prog:Aa)(w:Ab)(g:Ac)(C:Addr)(fs:List (Str×Val))(W:Wd)(σ:St)(s:Ad)(ev:Af)(s':Ad):Prop
 |mk(a t:Addr)(dct:Option Addr)(W':Wd)(h':Ac)(tk:Nat)(e1:ev=.ref a)(e2:s'={s with heap:=h',toks:=tk})(n:s.heap.get? a=none)(x:Ext [] W s.heap W' h')(q:Rel prog w g W' (σ++[.exn C fs]) h')(hw:W' a=.obj σ.length)(ho:h'.get? a=some (uC C t dct))
section
variable(prog:Aa)(w:Ab)(g:Ac)(K:Frag)(D:Nat)
structure ExnOk(C:Addr)(own:Option Str):Prop where
 keep:keepIn K (.ref C)=true
 cls:uB g C
 made:∀(A:Ae)(fl:List Ai)(W:Wd)(σ:St)(s:Ad)(v:Val)(rv:Af)(fs:List (Str×Val)),Ok A D fl→Frames W s.heap fl→Rel prog w g W σ s.heap→Rep W v rv→s8 own v=some fs→
  wpAny (model prog w) A (call (.ref C) [rv]) (vK prog w g C fs W σ s) (fun _ _=>False) s
end
variable{own:Option Str}{np:Pos}
section
theorem eq__709(B:rM prog w g T D n)(TB:pS prog w g K T D)(c:StAt prog w g D A fl env O W₀ h₀ fr σ W s.heap){x:Str}{cpos:Pos}{e:Ag}(X:ExnOk prog w g K D C own)(hst:pA e=false)(hg:pV T fr x=some (.ref C)){r:Out SS Flo}(hr:((qD fr (ev T n fr e σ)).bind fun v q=>(match s8 own v with|some fs=>(.exc q.2.length (q.1,q.2++[.exn C fs]):Out SS Flo)|none=>.stuck))=r)(hs:r≠.stuck):
  wpAny (model prog w) A (exec (.Raise (some (.Call (.Name x np) [e] [] cpos)) none pos) env) (PostS prog w g D A fl env O W₀ h₀ r W s) (PostE prog w g D A fl env O W₀ h₀ r s) s:=by
 intros n11 X W X B X TB X c X own X r Nat n Ad s Ae A Aa prog Ab w LA O St σ Ac g Pos pos LN fl Fr fr Ai env Ac h₀ Wd W₀ Tab T Frag K Addr C Nat D Pos np Str x Pos cpos Ag e
 have h1:ev T n fr e σ≠.stuck:=fun q=>hs (by rw[←hr,q];rfl)
 refine eq__215 fun P E _ hE=>?_
 skip
 refine a8 (cP (eq__708 X.cls c.at_.ok.hd (a8 (aE ?_ (fun v s₃ h₃=>a8 (cP (aS h₃))) fun _ _ x=>x))))
 skip
 refine a8 (eq__124 TB c.at_.rel c.at_.fr hg ?_)
 have e1:backTo cpos (starEach [e] env)=[(false,eval e env)]:=by clear h1 hr;cases e<;>first|rfl|exact(aC hst.symm).elim
 refine eR (P:=K.In) (by refine(?_:((backTo cpos (starEach [e] env)).any (·.1)||false)=false);rw[e1];rfl) (lP X.keep) (eq__99 (args:=[e]) (kws:=[]) (by rw[bS,hst];rfl) rfl ?_)
 simp only[e1]
 refine dM ((B.ev _ _ _ _ _ _ _ _ _ c.at_ h1).bindQ (fun v σ₁ W₁ h₁ tk₁ rv e2 x₁ R₁ rep=>?_) fun e s' q=>hE _ _ (by exact(bH (hr))▸(q.st c).bind))
 have c₁:=c.step x₁ R₁
 have hr:(match s8 own v with|some fs=>Out.exc σ₁.length (fr,σ₁++[.exn C fs])|none=>.stuck)=r:=by rw[←hr,e2];rfl
 refine dP (dF ⟨R₁.kin (s:={s with heap:=h₁,toks:=tk₁}) TB.kin,?_⟩)
 cases hf:s8 own v with
 |none=>rw[hf]at hr;exact absurd hr.symm hs
 |some fs=>
  rw[hf]at hr;refine aE (X.made A fl W₁ σ₁ {s with heap:=h₁,toks:=tk₁} v rv fs c₁.at_.ok c₁.at_.fs R₁ rep hf) (fun ev s' z=>?_) fun _ _ z=>z.elim;rcases z with⟨a,t,dct,W₂,h₂,tk₂,rfl,rfl,hn,x₂,R₂,hw,ho⟩;exact⟨a,t,dct,rfl,fun o=>R₂.stays C o,ho,hE _ _ ⟨σ₁.length,fr,_,W₂,h₂,tk₂,hr.symm,rfl,c₁.step x₂ R₂,a,_,_,rfl,hw,c₁.base.none hn,ho,rfl,.inl rfl⟩⟩
end
variable{A':Ae}{z:Str}
section
def Calm(W:Wd)(v:Val)(s:Ad)(rv:Af)(s':Ad):Prop:=Rep W v rv∧∃tk,s'={s with toks:=tk}
theorem Calm.tok{tk:Nat}(c:Calm W v {s with toks:=tk} rv s'):Calm W v s rv s':=by
 intros n1 Ad s Wd W Val v Af rv Ad s' Nat tk
 rcases c with⟨a,t,rfl⟩
 exact⟨a,t,rfl⟩
def sD(prog:Aa)(w:Ab)(g:Ac)(T:Tab)(W:Wd)(A:Ae)(E:Af→Ad→Prop)(env:Ai)(fr:Fr)(O:List Addr)(σ:St)(n:Nat)(e:Ag):Prop:=∀(v:Val)(σ':St)(s:Ad),Rel prog w g W σ s.heap→FrRel W fr env O s.heap→ev T n fr e σ=.ok v σ'→
  σ'=σ∧wpAny (model prog w) A (eval e env) (Calm W v s) E s
theorem eq__372{c:Prop}[Decidable c]{r:Out St α}{v:α}(h:(if c then .stuck else r)=.ok v σ'):¬c∧r=.ok v σ':=by
 by_cases hc:c
 ·rw[if_pos hc]at h;(injection h)
 ·rw[if_neg hc]at h;exact⟨hc,h⟩
theorem eq__710{c:Const}:sD prog w g T W A E env fr O σ (n+1) (.Constant c k p):=fun v σ' s R F he=>by
 cases c with
 |none=>(injection he with hq_ hr_;subst hq_;subst hr_);exact⟨rfl,l6 ⟨eq__53.mpr rfl,s.toks,rfl⟩⟩
 |bool b=>(injection he with hq_ hr_;subst hq_;subst hr_);exact⟨rfl,l8 ⟨eq__63.mpr rfl,s.toks,rfl⟩⟩
 |int i=>(injection he with hq_ hr_;subst hq_;subst hr_);exact⟨rfl,lK ⟨eq__20.mpr ⟨_,rfl⟩,_,rfl⟩⟩
 |str x=>
  have' he:(if x.length≤lim then Out.ok (.str x) σ else .stuck)=.ok v σ':=he;by_cases hz:x.length≤lim
  ·rw[if_pos hz]at he;(injection he with hq_ hr_;clear he;subst hq_;subst hr_);exact⟨rfl,iI ⟨eq__19.mpr (eq__2 _ rfl hz),_,rfl⟩⟩
  ·rw[if_neg hz]at he;exact eq__68 he
 |_=>exact eq__68 he
theorem eq__711(TB:pS prog w g K T D){x:Str}:sD prog w g T W A E env fr O σ (n+1) (.Name x p):=fun v σ' s R F he=>by
 have' he:(match nameV T fr x with|some v=>Out.ok v σ|none=>.stuck)=.ok v σ':=he
 cases hu:nameV T fr x with
 |none=>replace he:=(hu)▸he;exact eq__68 he
 |some u=>rw[hu]at he;(injection he with hq_ hr_;clear he;subst hq_;subst hr_);exact⟨rfl,eq__97 TB R F hu fun rv r=>⟨r,s.toks,rfl⟩⟩
theorem eq__712{a b:Ag}(ia:∀n,sD prog w g T W A E env fr O σ n a)(ib:∀n,sD prog w g T W A E env fr O σ n b):sD prog w g T W A E env fr O σ (n+1) (.BoolOp .And [a,b] p):=by
 intros n4 X n X σ EQ E Ae A Aa prog Ab w Wd W LA O Ac g Fr fr Ai env Tab T Pos p Ag a Ag b
 exact fun v σ' s R F he=>by
  cases n with
  |zero=>exact eq__68 he
  |succ n=>
    intros n9 X σ X v X σ' X s Nat n;have he:(ev T n fr a σ).bind (fun v σ₁=>(match pN σ₁ v with
      |some true=>pX T n fr .And [b] σ₁
      |some false=>.ok v σ₁
      |none=>.stuck))=.ok v σ':=by rw[←he];exact congrArg (Out.bind _) (funext fun v=>funext fun σ₁=>by cases pN σ₁ v with|none=>rfl|some b=>cases b<;>rfl)
    (refine eq__31 (eq__98 he) fun va σ₁ ha he2=>?_);clear he;clear he;obtain⟨rfl,pa⟩:_:=ia n va σ₁ s R F ha;have go:∀{Q:Af→Ad→Prop}{t:Bool},pN σ₁ va=some t→(∀rv tk,Rep W va rv→wpAny (model prog w) A (set_option backward.match.sparseCases true in match(generalizing:=false)oO,t with
        |.And,false|.Or,true=>pure rv
        |_,_=>boolOp p .And (evalEach [b] env)) Q E {s with toks:=tk})→wpAny (model prog w) A (eval (.BoolOp .And [a,b] p) env) Q E s:=fun{Q t}ht k=>by
      set_option backward.match.sparseCases true in
      show wpAny _ _ (do
        let v←eval a env
        standAt p
        let t←holding [v] (truthy v)
        match oO,t with
        |.And,false|.Or,true=>pure v
        |_,_=>boolOp p .And (evalEach [b] env)) _ _ _;refine a8 (aE pa (fun rv s₁ z=>?_) fun _ _ z=>z);obtain⟨rep,tk,rfl⟩:_:=z;exact a8 (cP (a8 (c6 (eq__220 (s:={s with toks:=tk}) R ht rep fun tk'=>k rv tk' rep))))
    cases ht:pN σ₁ va with
    |none=>replace he2:=(ht)▸he2;exact eq__68 he2
    |some t=>
      rw[ht]at he2;cases t with
      |false=>(injection he2 with hq_ hr_;subst hq_;subst hr_);exact⟨rfl,go ht fun rv tk rep=>aS ⟨rep,tk,rfl⟩⟩
      |true=>
        cases n with
        |zero=>exact eq__68 he2
        |succ n=>
          refine⟨(ib n v σ' s R F he2).1,go ht fun rv tk rep=>?_⟩;refine(?_:wpAny _ _ (eval b env) _ _ _);exact aE (ib n v σ' {s with toks:=tk} R F he2).2 (fun _ _ z=>z.tok) fun _ _ z=>z
theorem eq__713(hu:A.units+2<cLine){l r:Ag}{op:CmpOp}(il:∀n,sD prog w g T W A E env fr O σ n l)(ir:∀n,sD prog w g T W A E env fr O σ n r):sD prog w g T W A E env fr O σ (n+1) (.Compare l [op] [r] p):=by
 intros n5 X hu X op X p EQ E Nat n Ae A Aa prog Ab w Wd W LA O St σ Ac g Fr fr Ai env Tab T Ag l Ag r
 exact fun v σ' s R F he=>by
  obtain⟨hb,he1⟩:_:=eq__372 he;clear he;(refine eq__31 (eq__98 he1) fun vl σ₁ hl he2=>?_);clear he1;obtain⟨rfl,pl⟩:_:=il n vl σ₁ s R F hl;(refine eq__31 (eq__98 he2) fun vr σ₂ hr he=>?_);clear he2;clear hl il;obtain⟨rfl,_⟩:_:=ir n vr σ₂ s R F hr;cases hcm:qN σ₂ op vl vr with
  |none=>replace he:=(hcm)▸he;exact eq__68 he
  |some c=>
    rw[hcm]at he;(injection he with hq_ hr_;subst hq_;subst hr_);refine⟨rfl,wpAny_Compare1 (aE pl (fun rl s₁ z=>?_) fun _ _ z=>z) (by simpa using hb)⟩;rcases z with⟨repl,tk,rfl⟩;refine aE (ir n vr _ {s with toks:=tk} R F hr).2 (fun rr s₂ z=>?_) fun _ _ z=>z;rcases z with⟨repr,tk',rfl⟩;exact eq__219 (s:={s with toks:=tk'}) R hcm repl repr hu fun tk''=>⟨eq__63.mpr rfl,tk'',rfl⟩
theorem eq__714(TB:pS prog w g K T D){x:Str}(io:∀n,sD prog w g T W A E env fr O σ n o):sD prog w g T W A E env fr O σ (n+1) (.Attribute o x p):=by
 intros n4 X K X D X TB EQ E Nat n Ae A Aa prog Ab w Wd W LA O St σ Ac g Fr fr Ai env Tab T Pos p Ag o Str x
 exact fun v σ' s R F he=>by
  obtain⟨hb,he1⟩:_:=eq__372 he;clear he;(refine eq__31 (eq__98 he1) fun vo σ₁ ho he=>?_);clear he1;obtain⟨rfl,po⟩:_:=io n vo σ₁ s R F ho;obtain⟨v',k,C,fs,e1,_⟩:=eq__341 he (fun q=>by cases q);clear right ho io;(injection e1 with hq_ hr_;subst hq_;subst hr_);refine⟨rfl,eq__340 (by simpa using hb) (aE po (fun ro s₁ z=>?_) fun _ _ z=>z)⟩;rcases z with⟨rep,tk,rfl⟩;refine eq__1 (eq__342 (s:={s with toks:=tk}) (A:=A) (E:=E) (expr:=true) TB R rep he (fun q=>by(injection q))) fun v2 e2 g=>?_;(injection e2 with hq_;subst hq_);exact g fun rv tk' rep=>⟨rep,tk',rfl⟩
theorem eq__715(hg:pV T fr f=some u):nameV T fr f=some (.imm u):=by
 intros n1 Fr fr Af u Tab T Str f
 have' hg:(match look f fr.vars,globV T fr f with|none,some (.imm v)=>some v|_,_=>none)=some u:=hg
 have e:nameV T fr f=if notDebug f then(match look f fr.vars with
  |some v=>if fr.kind f=some .local∨fr.kind f=some .cell∨fr.kind f=some .free then some v else none
  |none=>globV T fr f)else none:=rfl
 have' e2:globV T fr f=if fr.kind f=some .globalImplicit∧notDebug f=true then look f T.glob else none:=rfl
 cases hl:look f fr.vars with
 |some v=>rw[hl]at hg;(injection hg)
 |none=>
  cases hv:globV T fr f with
  |none=>rw[hl,hv]at hg;(injection hg)
  |some v=>
   rw[hl,hv]at hg;cases v with
   |imm v=>
    (injection hg with hq_;clear hg;subst hq_);have hd:notDebug f=true:=by
     by_cases h:fr.kind f=some .globalImplicit∧notDebug f=true;·exact h.2
     ·rw[e2,if_neg h]at hv;(injection hv)
    rw[e,if_pos hd,hl];exact hv
   |_=>(injection hg)
theorem eq__373{y:Str}{yp:Pos}{u:Val}(h:ev T (n+1) fr (.Name y yp) σ=.ok u σ'):σ'=σ∧nameV T fr y=some u:=by
 have' h:(match nameV T fr y with|some v=>Out.ok v σ|none=>.stuck)=.ok u σ':=h
 cases hu:nameV T fr y with
 |none=>replace h:=(hu)▸h;exact eq__68 h
 |some u=>rw[hu]at h;(injection h with hq_ hr_;clear h;subst hq_;subst hr_);exact⟨rfl,rfl⟩
theorem eq__716{y:Str}{yp zp:Pos}{as:List Val}(h:pQ (ev T n fr) [.Name y yp,.Name z zp] σ=.ok as σ'):σ'=σ∧∃u v,as=[u,v]∧nameV T fr y=some u∧nameV T fr z=some v:=by
 intros n1 Nat n St σ Fr fr St σ' Tab T Str z Str y Pos yp Pos zp LV as
 (refine eq__31 (eq__98 h) fun vx σ₂ hx ha1=>?_)
 (refine eq__31 (eq__98 ha1) fun vs σ₃ ht1 ha=>?_)
 (refine eq__31 (eq__98 ht1) fun vt σ₄ ht hz=>?_)
 clear ht1 ha1 h;cases n with
 |zero=>exact eq__68 hx
 |succ n=>
  have' a:=eq__373 hx;have' b:=eq__373 ht;(injection hz with hq_ hr_;subst hq_;subst hr_);(injection ha with hq_ hr_;subst hq_;subst hr_);exact eq__51 (b.1.trans a.1) (eq__24 _ _ rfl a.2 b.2)
theorem eq__717(TB:pS prog w g K T D){x t:Str}{fp xp eq__89:Pos}(hg:pV T fr f=some (.builtin "isinstance")):sD prog w g T W A E env fr O σ (n+1) (.Call (.Name f fp) [.Name x xp,.Name t eq__89] [] p):=by
 intros n8 X K X D X n X σ X E X O X TB Ae A Aa prog Ab w Wd W Ac g Fr fr Ai env Tab T Pos p Str f Str x Str t Pos fp Pos xp Pos eq__89
 exact fun v σ' s R F he=>by
  cases n with
  |zero=>exact eq__68 he
  |succ n=>
    intros n11 X K X σ X E X O X TB X v X σ' X s Nat D Nat n;have' he:(pQ (ev T n fr) [.Name x xp,.Name t eq__89] σ).bind (pL T p (.builtin "isinstance"))=.ok v σ':=(eq__147 (n:=n) (args:=[.Name x xp,.Name t eq__89]) (kws:=[]) (pos:=p) (σ:=σ) rfl (eq__715 hg)).symm.trans he;(refine eq__31 (eq__98 he) fun as σ₁ ha he1=>?_);clear he;(refine aM fun hG_=>?_;clear he;refine eq__14 (eq__716 ha) fun q1_ q2_=>?_;subst q1_;rcases q2_ with⟨vx,vt,rfl,hx',ht'⟩;refine hG_ ?_;clear hG_);clear ha;cases vt with
    |imm u=>
      rw[eq__121]at he1;cases hi:s5 T σ₁ vx u with
      |none=>rw[hi]at he1;exact eq__68 he1
      |some b=>
        rw[hi]at he1;(injection he1 with hq_ hr_;subst hq_;subst hr_);refine⟨rfl,?_⟩;skip;refine a8 (eq__124 TB R F hg ?_);refine eR (P:=fun _=>True) rfl (eq__107 (by intro _ e;(injection e))) (eq__99 (args:=[.Name x xp,.Name t eq__89]) (kws:=[]) rfl rfl ?_);refine dM (eq__97 TB R F hx' fun rx repx=>dM (eq__97 TB R F ht' fun rt rept=>dP (dF ⟨trivial,?_⟩)));obtain rfl:=eq__88.mp rept;exact eq__336 R TB.kin TB.kit hi repx fun tk=>⟨eq__63.mpr rfl,tk,rfl⟩
    |_=>exact eq__68 he1
theorem eq__718{m:Nat}{e:Ag}(h:qV T fr (m+1) e=true)(h1:∀c k p,P (.Constant c k p))(h2:∀x p,P (.Name x p))(h3:∀a b p,qV T fr m a=true→qV T fr m b=true→P (.BoolOp .And [a,b] p))(h4:∀l r p,qV T fr m l=true→qV T fr m r=true→P (.Compare l [.Eq] [r] p))(h5:∀o x p,qV T fr m o=true→P (.Attribute o x p))(h6:∀f fp x xp t eq__89 p,pV T fr f=some (.builtin "isinstance")→P (.Call (.Name f fp) [.Name x xp,.Name t eq__89] [] p)):P e:=by
 intros n9 X P X e Fr fr Tab T Nat m
 cases e with
 |Constant c k p=>exact h1 _ _ _
 |Name x p=>exact h2 _ _
 |BoolOp op vs p=>
  cases op with
  |Or=>exact(aC h).elim
  |And=>
   cases vs with
   |nil=>exact(aC h).elim
   |cons a vs=>cases vs with
    |nil=>exact(aC h).elim
    |cons b vs=>cases vs with
     |cons _ _=>exact(aC h).elim
     |nil=>have h:=eA.mp h;exact h3 _ _ _ h.1 h.2
 |Compare l ops rs p=>
  cases ops with
  |nil=>exact(aC h).elim
  |cons op ops=>
   cases op<;>first|exact(aC h).elim|skip
   cases ops with
   |cons _ _=>exact(aC h).elim
   |nil=>cases rs with
    |nil=>exact(aC h).elim
    |cons r rs=>cases rs with
     |cons _ _=>exact(aC h).elim
     |nil=>have h:=eA.mp h;exact h4 _ _ _ h.1 h.2
 |Attribute o x p=>exact h5 _ _ _ h
 |Call f args kws p=>
  cases f<;>first|exact(aC h).elim|skip
  cases args with
  |nil=>exact(aC h).elim
  |cons a args=>
   cases a<;>first|exact(aC h).elim|skip
   cases args with
   |nil=>exact(aC h).elim
   |cons b args=>
    cases b<;>first|exact(aC h).elim|skip
    cases args with
    |cons _ _=>exact(aC h).elim
    |nil=>cases kws with
     |cons _ _=>exact(aC h).elim
     |nil=>exact h6 _ _ _ _ _ _ _ (of_decide_eq_true h)
 |_=>exact(aC h).elim
theorem eq__113(TB:pS prog w g K T D)(hu:A.units+2<cLine):∀(m:Nat)(e:Ag),qV T fr m e=true→∀n,sD prog w g T W A E env fr O σ n e
 |0,_,h=>by(injection h)
 |m+1,e,h=>fun n=>by
  cases n with
  |zero=>intro v σ' s R F he;(injection he)
  |succ n=>
   exact eq__718 h (fun _ _ _=>eq__710) (fun _ _=>eq__711 TB) (fun a b _ ha hb=>eq__712 (eq__113 TB hu m a ha) (eq__113 TB hu m b hb)) (fun l r _ hl hr=>eq__713 hu (eq__113 TB hu m l hl) (eq__113 TB hu m r hr))
    (fun o _ _ ho=>eq__714 TB (eq__113 TB hu m o ho)) fun _ _ _ _ _ _ _ hg=>eq__717 TB hg
end
section
variable{nm q:Str}{N D:Addr}{bs bm:List Af}{hdct:Bool}{sn:List Str}{sub:List Af}{ab:Bool}{col:Option Bool}{dd:Option Addr}{k0 k1 k2 k3 k5:Option Af}{newId:String}
theorem eq__719{e:Addr}{oe:Obj}{Q:Bool→Ad→Prop}(X:K.In s.heap)(hC:s.heap.get? C=some (excClassObj nm q C N bs bm hdct sn sub ab col dd k0 k1 k2 k3 k5 newId))(he:s.heap.get? e=some oe)(hcls:oe.cls=.ref D)(hbase:bm.contains (.type "BaseException")=true)(hm:mroIn K D (.ref C)=some b)(hq:Q b s):wpAny M A (excMatches (.ref e) (.ref C)) Q E s:=by
 intros n21 X M X A X E X ab X col X dd X k0 X k1 X k2 X k3 X k5 X newId X s X Q Bool b Frag K Addr C Str nm Str q Addr N Addr D LVl bs LVl bm Bool hdct LS sn LVl sub Addr e Obj oe
 have' hcB:(dT C::bm).contains (.type "BaseException")=true:=by rw[eN,hbase,jG]
 have' f:=tc_notTuple
 rcases s with⟨hp,g,d,tk,os⟩
 unfold excMatches
 repeat(first|(with_reducible refine gU he ?_;rw[hcls])|with_reducible refine gU hC ?_|(with_reducible refine lC hC ?_;rw[hcB])|(refine(m4 (M:=M) (h:=hp) X hm).here (s:=⟨hp,g,d,tk,os⟩) ?_)|wp_step)
 clear hm;cases b
 ·exact aS (aS (aS hq))
 ·exact aS (aS (aS hq))
end
section
variable(prog:Aa)(w:Ab)(g:Ac)(K:Frag)(T:Tab)(D:Nat)
structure rP:Prop where
 ok:∀C own,T.exn.lookup C=some own→ExnOk prog w g K D C own
 sub:∀C C',(T.exn.lookup C).isSome=true→(T.exn.lookup C').isSome=true→mroIn K C' (.ref C)=some (C==C')
end
section
theorem eq__374{Q:Unit→Ad→Prop}{fo:Option Addr}(c:StAt prog w g D A fl env O W₀ h₀ fr σ W s.heap)(f:FlyN W h₀ k e s.heap)(h:∀h'',StAt prog w g D A fl env O W₀ h₀ fr σ W h''→FlyN W h₀ k e h''→Q () {s with heap:=h''}):wpAny (model prog w) A' (setFlight e fo) Q E s:=by
 (refine eq__76 f.hide fun S n nS f'=>?_)
 exact eq__177 c.at_.rel eq__234 f' fun h'' x' R' f'' _=>h _ (c.noted n nS x' R') (f''.base c.base n)
theorem eq__720{y:Str}{u:Val}{Q:Unit→Ad→Prop}(R:Rel prog w g W σ s.heap)(F:FrRel W (fr.put y u) env O s.heap)(hk:fr.kind y=some .local)(hn:look y fr.vars=none)(h:∀h' tk,Rel prog w g W σ h'→Ext O W s.heap W h'→FrRel W fr env O h'→Q () {s with heap:=h',toks:=tk}):wpAny M A (do bindName env y .none;unbindBehindTheSuite env y pos) Q E s:=by
 intros n13 X w X g X σ X M X A X E X pos X Q Ad s Aa prog Wd W LA O Fr fr Ai env Str y Val u
 have kk:env.kindOf y=fr.kind y:=by
  have' this:=F.scope;unfold e9 Fr.kind;rw[this];rfl
 (refine eq__1 F.loc fun m n q=>?_)
 refine wpAny_nameGoes_keeps (kk.trans hk) n (by rw[F.kind];rfl) fun h' v n' sb=>h h' _ ?_ ?_ ?_
 ·refine R.step (Wd.le.refl W) (fun _=>.inl rfl) (fun a o n1 n2 e=>?_) (fun a e=>?_)
  ·refine(sb.2 a ?_).trans e;clear e;rintro rfl;refine cD (F.locW) (fun r=>?_) fun r=>?_;·exact n1 r
   ·exact n2 r
  ·by_cases r:a=env.locals
   ·clear e;(refine aM fun hG_=>?_;subst r;refine hG_ ?_;clear hG_);obtain⟨o,_,_,ho,_⟩:=n';exact⟨o,ho⟩
   ·obtain⟨o,p⟩:=R.live a (by rw[e];intro q;(injection q));exact⟨o,(sb.2 a r).trans p⟩
 ·refine⟨Wd.le.refl W,fun a o e=>⟨fun _=>rfl,.inr ?_⟩⟩;by_cases r:a=env.locals
  ·subst r;obtain⟨o',es,ep,ho,hd,_⟩:=n';exact eq__27 o' ho (fun _ q=>absurd F.locO q) (by intro _ _ vs q;rw[hd]at q;(injection q)) (fun _ q=>absurd F.locO q)
  ·exact eq__27 o ((sb.2 a r).trans e) (fun _ _=>rfl) (fun _ n=>n) (fun _ _=>⟨o.slots,rfl⟩)
 ·have nc:∀c vc,s.heap.IsCell c vc→h'.IsCell c vc:=fun c vc hF=>eq__1 hF fun o ho hd=>⟨o,(sb.2 c (by
   rintro rfl;rcases n with⟨o',_,_,ho',hd',_⟩;rw[ho]at ho';rcases a6 ho' with rfl;rw[hd]at hd';(injection hd'))).trans ho,hd⟩;have lk:∀x v,look x fr.vars=some v→x≠y∧look x (fr.put y u).vars=some v:=fun x v hx=>by
   have ne:x≠y:=by clear n' q kk hk F;rintro rfl;rw[hn]at hx;(injection hx)
   refine⟨ne,?_⟩;unfold Fr.put;rw[eq__8];refine a9 (if_neg (cW ne)) ?_;exact hx
  refine⟨F.scope,F.kind,F.glob,F.bi,(eq__2 _ n' (fun x v e k=>?_)),fun x v e k=>?_,F.locW,F.locO,fun hf x k=>?_,F.apart⟩
  ·obtain⟨ne,e'⟩:_:=lk x v e;obtain⟨rv,a,b⟩:_:=q x v e' k;exact eq__2 rv ((if_neg ne).trans a) b
  ·refine eq__17 (F.cel x v (lk x v e).2 k) fun c rv a i b=>?_;exact eq__24 c rv a (nc _ _ i) b
  ·obtain⟨c,v₀,a,i,b⟩:_:=F.own hf x k;exact eq__24 c v₀ a (nc _ _ i) b
set_option tactic.hygienic true in
theorem eq__721{x:Str}(hx:rU T fr σ k x=some b):∃C C' fs,pV T fr x=some (.ref C)∧σ[k]?=some (.exn C' fs)∧(T.exn.lookup C).isSome=true∧(T.exn.lookup C').isSome=true∧b=(C==C'):=by
 intros n1 Nat k St σ Fr fr Bool b Tab T Str x
 unfold rU at hx
 cases hg:pV T fr x with
 |none=>rw[hg]at hx;(injection hx)
 |some u=>cases u with
 |ref C=>cases hk:σ[k]? with
  |none=>rw[hg,hk]at hx;(injection hx)
  |some c=>cases c with
  |exn C' fs=>
   rw[hg,hk]at hx;rcases eq__87 hx with⟨hex,hx⟩;rw[aF]at hex;exact eq__34 C C' fs ⟨rfl,rfl,hex.1,hex.2,(a6 hx).symm⟩
  |_=>rw[hg,hk]at hx;(injection hx)
 |_=>rw[hg]at hx;(injection hx)
theorem eq__375{r:Out St Val}{res:Out SS Flo}(h:rB fr r=res)(hq:res≠.stuck):∃v σ',r=.ok v σ'∧res=.ok (.ret v) (fr,σ'):=by
 cases r with
 |ok v σ'=>exact eq__28 v σ' rfl h.symm
 |_=>exact absurd h.symm hq
theorem eq__722(TB:pS prog w g K T D){name:Option Str}{e':Ag}{rp:Pos}{res:Out SS Flo}{P:Flow→Ad→Prop}{R:Result→Ad→Prop}(c:StAt prog w g D A fl env O W₀ h₀ fr σ W s.heap)(f:FlyN W h₀ k (.ref a) s.heap)(hw:W a=.obj k)(hr:(match name with
    |none=>if qV T fr 5 e' then rB fr (ev T n fr e' σ)else .stuck
    |some y=>if fr.kind y=some .local∧look y fr.vars=none∧qV T (fr.put y (.ref k)) 5 e'=true then rB fr (ev T n (fr.put y (.ref k)) e' σ)else .stuck)=res)(hq:res≠.stuck)(leaf:∀v h' tk rv,res=.ok (.ret v) (fr,σ)→StAt prog w g D A fl env O W₀ h₀ fr σ W h'→Rep W v rv→P (.ret rv) {s with heap:=h',toks:=tk})(hR:∀f s₂,(match name with|none=>P f s₂|some y=>wpAny (model prog w) A (do bindName env y .none;unbindBehindTheSuite env y pos) (fun _ s₃=>P f s₃) (fun _ _=>False) s₂)→R (.ok f) s₂):
  codeAny (model prog w) (A.mark (some (.ref a))) (.handlers (.ref a) [.ExceptHandler none name [.Return (some e') rp] pos] env) R s:=by
 intros n12 X TB X name X res X P X R Nat n Ad s Ae A Aa prog Ab w Addr a Wd W Nat k LA O St σ Ac g Pos pos LN fl Fr fr Ai env Ac h₀ Wd W₀ Tab T Frag K Nat D Ag e' Pos rp
 have' hu:(A.mark (some (.ref a))).units+2<cLine:=c.at_.units
 cases name with
 |none=>
  by_cases hcalm:qV T fr 5 e'=true
  ·(refine eq__31 (eq__375 ((if_pos hcalm).symm.trans hr) hq) fun v σ₂ hev hres=>?_);refine codeAny_handlers_suite (eq__374 c f fun h₂ c₂ f₂=>?_);rcases eq__113 (A:=A.mark (some (.ref a))) (E:=fun _ _=>False) TB hu 5 e' hcalm n v σ₂ {s with heap:=h₂} c₂.at_.rel c₂.at_.fr hev with⟨e2,p⟩;rw[e2]at hres;refine gZ (iU (aE p (fun rv s₃ z=>hR _ _ ?_) fun _ _ z=>z.elim));obtain⟨rep,tk,rfl⟩:_:=z;exact leaf v h₂ tk rv hres c₂ rep
  ·exact absurd (hr.symm.trans (if_neg hcalm)) hq
 |some y=>
  by_cases hc:fr.kind y=some .local∧look y fr.vars=none∧qV T (fr.put y (.ref k)) 5 e'=true
  ·(refine eq__31 (eq__375 ((if_pos hc).symm.trans hr) hq) fun v σ₂ hev hres=>?_);refine eq__56 hc fun hky hly hcalm=>?_;refine codeAny_handlers_suite_as (eq__374 c f fun h₂ c₂ f₂=>?_);refine eq__366 (s:={s with heap:=h₂}) c₂.at_.rel c₂.at_.fr (v:=.ref k) (eq__35.mpr ⟨a,rfl,hw⟩) hky fun h₃ tk₃ R₃ x₃ F₃=>?_;have c₃:=c₂.put (x₃.wide (O':=O) (by intro b hb;simp only[aA.mp hb];exact c.at_.fr.locO)) R₃ F₃ c.fn rfl;obtain⟨e2,p⟩:_:=eq__113 (A:=A.mark (some (.ref a))) (E:=fun _ _=>False) TB hu 5 e' hcalm n v σ₂ {s with heap:=h₃,toks:=tk₃} R₃ F₃ hev;rw[e2]at hres;refine gZ (iU (aE p (fun rv s₄ z=>hR _ _ ?_) fun _ _ z=>z.elim));obtain⟨rep,tk,rfl⟩:_:=z;exact eq__720 (s:={s with heap:=h₃,toks:=tk}) R₃ F₃ hky hly fun h₄ tk₄ R₄ x₄ F₄=>leaf v h₄ tk₄ rv hres (c₃.put x₄ R₄ F₄ c.fn rfl) rep
  ·exact absurd (hr.symm.trans (if_neg hc)) hq
theorem eq__376{P:ExceptHandler→Prop}(h:∀x np nm e rp pos,P (.ExceptHandler (some (.Name x np)) nm [.Return (some e) rp] pos))(bad:∀hd,(∀T evE k r fr σ,pP T evE k (hd::r) fr σ=.stuck)→P hd)(hd:ExceptHandler):P hd:=by
 rcases hd with⟨ty,name,body,pos⟩
 cases ty with
 |none=>exact bad _ fun _ _ _ _ _ _=>rfl
 |some t=>
  cases t with
  |Name x np=>
   cases body with
   |nil=>exact bad _ fun _ _ _ _ _ _=>rfl
   |cons b0 more=>
    cases b0 with
    |Return o rp=>
     cases o with
     |none=>exact bad _ fun _ _ _ _ _ _=>rfl
     |some e'=>
      cases more with
      |nil=>exact h _ _ _ _ _ _
      |cons _ _=>exact bad _ fun _ _ _ _ _ _=>rfl
    |_=>exact bad _ fun _ _ _ _ _ _=>rfl
  |_=>exact bad _ fun _ _ _ _ _ _=>rfl
def tP(prog:Aa)(w:Ab)(g:Ac)(T:Tab)(D n:Nat)(A:Ae)(fl:List Ai)(env:Ai)(O:List Addr)(W₀:Wd)(h₀:Ac)(fr:Fr)(σ:St)(W:Wd)(k:Nat)(e:Af)(hs:List ExceptHandler):Prop:=
 ∀(W₁:Wd)(s:Ad),StAt prog w g D A fl env O W₀ h₀ fr σ W s.heap→FlyN W h₀ k e s.heap→pP T (ev T n) k hs fr σ≠.stuck→
  wpAny (model prog w) A (handleBy e env hs) (PostS prog w g D A fl env O W₀ h₀ (pP T (ev T n) k hs fr σ) W₁ s) (PostE prog w g D A fl env O W₀ h₀ (pP T (ev T n) k hs fr σ) s) s
theorem eq__723(TB:pS prog w g K T D)(XT:rP prog w g K T D){r:List ExceptHandler}{x:Str}{rp:Pos}{name:Option Str}{e':Ag}(ih:tP prog w g T D n A fl env O W₀ h₀ fr σ W k e r):
  tP prog w g T D n A fl env O W₀ h₀ fr σ W k e (.ExceptHandler (some (.Name x np)) name [.Return (some e') rp] pos::r):=by
 intros n6 X K X TB X XT X r X name Nat n Ae A Aa prog Ab w Wd W Nat k LA O St σ Ac g Pos pos LN fl Fr fr Ai env Ac h₀ Af e Wd W₀ Tab T Nat D Pos np Str x Pos rp Ag e'
 intro W₁ s c f hq
 have hr:(match rU T fr σ k x with
  |none=>.stuck
  |some false=>pP T (ev T n) k r fr σ
  |some true=>(match(generalizing:=false)name with
    |none=>if qV T fr 5 e' then rB fr (ev T n fr e' σ)else .stuck
    |some y=>if fr.kind y=some .local∧look y fr.vars=none∧qV T (fr.put y (.ref k)) 5 e'=true then rB fr (ev T n (fr.put y (.ref k)) e' σ)else .stuck))=pP T (ev T n) k (.ExceptHandler (some (.Name x np)) name [.Return (some e') rp] pos::r) fr σ:=rfl
 generalize pP T (ev T n) k (.ExceptHandler (some (.Name x np)) name [.Return (some e') rp] pos::r) fr σ=res at hr hq⊢
 refine eq__215 fun P E hP hE=>?_
 cases hx:rU T fr σ k x with
 |none=>rw[hx]at hr;exact absurd hr.symm hq
 |some b=>
  rw[hx]at hr;(refine eq__163 (eq__721 hx) fun C C' fs hg hk h1 h2 q1_=>?_;subst q1_);have' f':=f;rcases f' with⟨a,ob,vs,TT,oT,ts,rfl,hw,hn,ho,_,_,_,_,_,_,_,_⟩;obtain⟨own,hown⟩:_:=bM.mp h1;refine eq__1 (c.at_.rel.cell a k hw) fun cell hcell q=>?_;rw[hk]at hcell;rcases a6 hcell with rfl;obtain⟨ob',vs',ho',hcls,_⟩:=q;clear right;rw[ho]at ho';rcases a6 ho' with rfl;rcases(XT.ok C own hown).cls with⟨nm,qn,N,bs,bm,hdct,sn,sub,ab,col,dd,k0,k1,k2,k3,k5,newId,hC,hbase⟩;refine wpAny_handleBy_cons (codeAny_handlers_test (eq__124 TB c.at_.rel c.at_.fr hg (eq__719 (c.at_.rel.kin (s:=s) TB.kin) (c.at_.rel.stays _ _ hC) ho hcls hbase (XT.sub C C' h1 h2) ?_))) (by intro q;(injection q));clear hC hbase hcls ho hn hown hx hk hg h1 h2 XT;cases hb:(C==C')with
  |false=>
   replace hr:=(hb)▸hr;have' hr:pP T (ev T n) k r fr σ=res:=hr;(refine aM fun hG_=>?_;subst hr;refine hG_ ?_;clear hG_);exact aE (ih W₁ s c f hq) hP hE
  |true=>
   replace hr:=(hb)▸hr;refine eq__722 TB c f hw hr hq (P:=P) (fun v h' tk rv e1 c' rep=>hP _ _ ⟨.ret v,fr,_,W,h',tk,e1,rfl,fun q=>q.elim,c',rv,rfl,rep⟩) fun f s₂ z=>?_;clear hr;cases name with
   |none=>exact z
   |some y=>exact aE z (fun _ _ z=>z) fun _ _ z=>z.elim
theorem eq__377(TB:pS prog w g K T D)(XT:rP prog w g K T D):∀hs:List ExceptHandler,tP prog w g T D n A fl env O W₀ h₀ fr σ W k e hs
 |[]=>fun _ _ _ _ h=>absurd rfl h
 |hd::r=>eq__376 (P:=fun hd=>tP prog w g T D n A fl env O W₀ h₀ fr σ W k e (hd::r)) (fun _ _ _ _ _ _=>eq__723 TB XT (eq__377 TB XT r)) (fun hd b _ _ _ _ h=>absurd (b _ _ _ _ _ _) h) hd
end
variable{hs:List ExceptHandler}{hd:ExceptHandler}
section
theorem eq__378{evE:Fr→Ag→EM}:∀(hs:List ExceptHandler)(fo:Flo)(q:SS),pP T evE k hs fr σ=.ok fo q→∃v,fo=.ret v
 |[],_,_,h=>by(injection h)
 |hd::r,fo,q,h=>by
  have cl:∀{fr₀:Fr}{o:Out St Val},rB fr₀ o=.ok fo q→∃v,fo=.ret v:=fun{fr₀ o}h=>by
   cases o with
   |ok v σ'=>(injection h with hq_;clear h;subst hq_);exact⟨_,rfl⟩
   |_=>(injection h)
  revert h;refine eq__376 (P:=fun hd=>pP T evE k (hd::r) fr σ=.ok fo q→∃v,fo=.ret v) (fun x np nm e rp pos h=>?_) (fun hd b h=>by rw[b]at h;(injection h)) hd;have h:(match rU T fr σ k x with
   |none=>Out.stuck
   |some false=>pP T evE k r fr σ
   |some true=>(match(generalizing:=false)nm with
    |none=>if qV T fr 5 e then rB fr (evE fr e σ)else .stuck
    |some y=>if fr.kind y=some NameKind.local∧look y fr.vars=none∧qV T (fr.put y (.ref k)) 5 e=true then rB fr (evE (fr.put y (.ref k)) e σ)else .stuck))=.ok fo q:=h;cases hx:rU T fr σ k x with
  |none=>replace h:=(hx)▸h;(injection h)
  |some b=>
   rw[hx]at h;clear hx;cases b with
   |false=>exact eq__378 r fo q h
   |true=>
    cases nm with
    |none=>
     by_cases hc:qV T fr 5 e=true;·exact cl ((if_pos hc).symm.trans h)
     ·exact absurd ((if_neg hc).symm.trans h) (by intro q;(injection q))
    |some y=>
     by_cases hc:fr.kind y=some NameKind.local∧look y fr.vars=none∧qV T (fr.put y (.ref k)) 5 e=true;·exact cl ((if_pos hc).symm.trans h)
     ·exact absurd ((if_neg hc).symm.trans h) (by intro q;(injection q))
theorem eq__724(B:rM prog w g T D n)(TB:pS prog w g K T D)(XT:rP prog w g K T D)(HX:rS prog w g T D n)(c:StAt prog w g D A fl env O W₀ h₀ fr σ W s.heap)(hns:(match exs T n body fr σ with|.exc k q=>pP T (ev T n) k (hd::hs) q.1 q.2|r=>r)≠.stuck):
  wpAny (model prog w) A (exec (.Try body (hd::hs) [] [] pos) env) (PostS prog w g D A fl env O W₀ h₀ (match exs T n body fr σ with|.exc k q=>pP T (ev T n) k (hd::hs) q.1 q.2|r=>r) W s)
   (PostE prog w g D A fl env O W₀ h₀ (match exs T n body fr σ with|.exc k q=>pP T (ev T n) k (hd::hs) q.1 q.2|r=>r) s) s:=by
 intros n10 X K X B X TB X XT X HX X c X hd X hs X pos Nat n Ad s Ae A Aa prog Ab w Wd W LA O St σ Ac g LN fl Fr fr Ai env Ac h₀ Wd W₀ Tab T Nat D LSm body
 have' hx:exs T n body fr σ≠.stuck:=fun q=>hns (by rw[q])
 refine wpAny_Try_except (aE (HX body fr σ W s env O A fl W₀ h₀ c hx) (fun f s₁ p=>?_) fun e s₁ p=>?_)
 ·rcases p with⟨fo,fr',σ',W',h',tk,e1,rfl,x,c',rf⟩;rw[e1];have q:PostS prog w g D A fl env O W₀ h₀ (.ok fo (fr',σ')) W s f {s with heap:=h',toks:=tk}:=⟨fo,fr',σ',W',h',tk,rfl,rfl,x,c',rf⟩;clear x e1;cases fo with
  |next=>subst rf;exact gB q
  |cont=>subst rf;exact q
  |ret v=>rcases rf with⟨rv,rfl,rep⟩;exact q
 ·refine eq__235 p fun s₂ p₂=>eq__236 p₂ fun s₃ p₃=>?_;obtain⟨k,fr',σ',W',h',tk,e1,rfl,c',f'⟩:_:=p₃;rw[e1]at hns⊢;refine aE (eq__377 TB XT (hd::hs) W' {s with heap:=h',toks:=tk} c' f' hns) (fun f s₄ z=>?_) fun e s₄ z=>PostE.back z;rcases z with⟨fo,fr₄,σ₄,W₄,h₄,tk₄,e4,rfl,_,c₄,rf⟩;clear x;obtain⟨v,rfl⟩:=eq__378 (hd::hs) fo _ e4;exact⟨.ret v,fr₄,σ₄,W₄,h₄,tk₄,e4,rfl,fun q=>q.elim,c₄,rf⟩
end
noncomputable def Wd.frz(W:Wd)(N:List Addr)(h:Ac):Wd:=fun a=>if a∈N then(match h.get? a with|some o=>.imm o|none=>W a)else W a
variable{N:List Addr}
section
theorem Wd.frz_out(n:a∉N):W.frz N h a=W a:=if_neg n
theorem Wd.frz_in{o:Obj}(n:a∈N)(e:h.get? a=some o):W.frz N h a=.imm o:=by unfold Wd.frz;rw[if_pos n,e]
theorem Rel.frz(R:Rel prog w g W σ h)(hN:∀a∈N,W a=.free∧∃o,h.get? a=some o):Rel prog w g (W.frz N h) σ h∧W.le (W.frz N h):=by
 have' l:W.le (W.frz N h):=fun a na=>Wd.frz_out fun hm=>na (hN a hm).1
 refine⟨R.step l (fun a=>?_) (fun a o _ _ e=>e) (fun a e=>R.live a (by rw[e];intro q;(injection q))),l⟩
 by_cases hm:a∈N
 ·obtain⟨_,o,e⟩:_:=hN a hm;exact .inr (.inl (eq__2 o (Wd.frz_in hm e) e))
 ·exact .inl (Wd.frz_out hm)
theorem Wd.frz_still(hN:∀a∈N,∃o,h.get? a=some o)(st:(W a).still=true):(W.frz N h a).still=true:=by
 by_cases hm:a∈N
 ·obtain⟨o,e⟩:_:=hN a hm;refine a9 (congrArg _ (Wd.frz_in hm e)) ?_;rfl
 ·refine a9 (congrArg _ (Wd.frz_out hm)) ?_;exact st
theorem FrRel.frz{X:List Str}(F:FrRel W fr env O h)(hz:fr.frozen=[])(hN:∀a∈N,W a=.free∧∃o,h.get? a=some o)(nL:env.locals∉N)(hX:∀x c,env.cells.lookup x=some c→fr.kind x=some .cell→c∈N→x∈X):
  FrRel (W.frz N h) {fr with frozen:=X} env O h:=by
 intros n5 Wd W LA O Ac h Fr fr Ai env LA N LS X
 have l:W.le (W.frz N h):=fun a na=>Wd.frz_out fun hm=>na (hN a hm).1
 refine⟨F.scope,F.kind,F.glob,F.bi,?_,fun x v e k=>?_,by exact(Wd.frz_out nL)▸F.locW,F.locO,fun hf x k=>?_,F.apart⟩
 ·refine eq__1 F.loc fun m ns q=>?_;exact eq__2 m ns (fun x v e k=>(q x v e k).imp fun rv hF=>⟨hF.1,hF.2.mono l⟩)
 ·refine eq__25 (F.cel x v e k) fun c rv a i b st=>?_;exact eq__39 c rv a i (b.mono l) (Wd.frz_still (fun a hm=>(hN a hm).2) st)
 ·obtain⟨c,v₀,a,i,st,cO,fz⟩:_:=F.own hf x k;refine eq__61 c v₀ a i (Wd.frz_still (fun a hm=>(hN a hm).2) st) cO (fun nx=>?_);refine a9 (Wd.frz_out fun hm=>nx (hX x c a k hm)) ?_;exact fz (by exact(hz)▸fun q=>nomatch q)
set_option tactic.hygienic true in
theorem eq__379(F:FrRel W fr env O h):∀(l:List Str)(vs:List Val),s9 fr l=some vs→∃rvs,RepL W vs rvs∧(∀x∈l,fr.kind x=some .cell)∧
  ∀(i:Nat)(x:Str)(rv:Af),l[i]?=some x→rvs[i]?=some rv→∃c,env.cells.lookup x=some c∧h.IsCell c (some rv)
 |[],vs,e=>by
  skip;rcases a6 e with rfl;exact eq__7 ([]) (RepL.nil.mpr rfl) (fun _ q=>(nomatch q)) (fun i x rv e=>by simp at e)
 |x::r,vs,e=>by
  rcases aB.mp e with⟨v,hv,e⟩;rcases aB.mp e with⟨us,hr,e⟩
  ·split at e
   ·rename_i hk;rw[aF,beq_iff_eq]at hk;rcases a6 e with rfl;(refine eq__76 (eq__379 F r us hr) fun rvs q kc f=>?_);(refine eq__25 (F.cel x v hv (.inl hk.1)) fun c rv hc i rep _=>?_);refine eq__7 (rv::rvs) (RepL.cons.mpr ⟨rv,rvs,rfl,rep,q⟩) (fun y hy=>?_) (fun j y u e1 e2=>?_)
    ·clear hc hv;rcases bC.mp hy with rfl|hy;·exact hk.1
     ·exact kc y hy
    ·cases j with
     |zero=>rcases a6 e1 with rfl;rcases a6 e2 with rfl;exact eq__2 c hc i
     |succ j=>exact f j y u (by simpa using e1) (by simpa using e2)
   ·(injection e)
theorem eq__725{a:Arguments}(ha:rV a=true):annTrees a none env=[]:=by
 rcases a with⟨po,as,va,ko,kd,kwa,df⟩
 unfold rV at ha
 simp only[aF,cK,gD]at ha
 rcases ha with⟨⟨⟨⟨⟨⟨rfl,rfl⟩,rfl⟩,rfl⟩,rfl⟩,rfl⟩,ha⟩
 refine(?_:(∀l:List Arg,(l.all fun x=>x.annotation.isNone)=true→annotationsOf l env=[])→_) ?_
 rotate_left
 ·
  intro l;induction l with
  |nil=>intro _;rfl
  |cons x r ih=>
   intro h;rcases x with⟨nm,an,ps⟩;simp only[cA,aF,gD]at h;rcases h with⟨rfl,h⟩;refine(?_:annotationsOf r env=[]);exact ih h
 intro gen
 unfold annTrees
 simp only[dG,Option.toList]
 rw[gen as ha]
 rfl
theorem eq__726(TB:pS prog w g K T D)(c:StAt prog w g D A fl env O W₀ h₀ fr σ W s.heap){bind:Str}{args:Arguments}(hg:s9 fr (pF scope)=some vs)(hc:name=bind∧fr.code=343∧rV args=true∧pD fr scope=true∧fr.frozen=[]∧fr.kind bind=some .local∧fr.fn=true∧s7 σ=true):
  wpAny (model prog w) A (exec (.FunctionDef name args body [] none [] scope none bind pos) env)
   (PostS prog w g D A fl env O W₀ h₀ (.ok .next ({fr.put bind (.clo ⟨args,body,scope⟩ vs)with frozen:=pF scope},σ.set 0 (Cell.tab true))) W s) E s:=by
 intros n9 X K X T X E X TB X c X args X vs Ad s Ae A Aa prog Ab w Wd W LA O St σ Ac g Pos pos LN fl Fr fr Ai env Ac h₀ Wd W₀ Str name Nat D Ah scope LSm body Str bind
 refine eq__567 hc fun q1_ hcode hargs hcap hfz hkb hfn htab=>?_;subst q1_
 have' hargs':=hargs
 unfold rV at hargs'
 simp only[aF,cK]at hargs'
 refine nestDef_K hargs'.1.2 hargs'.1.1.2 (eq__725 hargs) ?_
 (refine eq__1 (eq__358 c.at_.fr hcap) fun cl hcl hlook=>?_)
 refine(?_:(σ[0]?=some (.tab false))→_) ?_
 rotate_left
 ·
  unfold s7 at htab;split at htab;·rename_i q;exact q
  ·(injection htab)
 intro h0
 have' lt0:0<σ.length:=(bA.mp h0).1
 rcases c.at_.rel.has 0 lt0 with⟨a0,hw0⟩
 obtain⟨cc,hcc,q0⟩:_:=c.at_.rel.cell a0 0 hw0
 rw[h0]at hcc;rcases a6 hcc with rfl
 obtain⟨rfl,ht,_⟩:_:=q0
 have' hP:s.heap.get? 339=some (tabObj #[]):=ht rfl
 have hce:env.code=.ref 343:=by have :=c.cod (by rw[hcode];decide);rw[hcode]at this;exact this
 (refine eq__1 TB.bm fun mg hmg hbm=>?_)
 have' stays:=c.at_.rel.stays
 have hbm':s.heap.BuiltinsAt mg 339:=by
  obtain⟨bm,ob,h1,h2,h3,h4,h5,h6⟩:_:=hbm;exact⟨bm,ob,h1,h2,h3,h4,stays _ _ h5,h6⟩
 refine makeFunction_K hcl c.at_.fr.glob (hmg.keeps stays) hce (TB.nest.keeps stays) hP trivial rfl (by decide) hbm' fun c' ctv doc h₁ tk hx hge hlt hrec hP'=>?_
 refine eq__76 (eq__379 c.at_.fr _ _ hg) fun rvs qv kc cells=>?_
 generalize hfo:fnMade name (qualnameIn env name name) args body scope cl doc ((mg "__name__").getD .none) c' ctv=fo
 generalize hH:h₁.push fo=H
 have keepH:∀b o,b≠339→s.heap.get? b=some o→H.get? b=some o:=fun b o nb e=>by rw[←hH];exact bE _ (hx b o nb e)
 have fH:H.get? h₁.objs.size=some fo:=by rw[←hH];exact bO _ (by refine a9 (congrArg _ (bH (hfo))) ?_;rfl)
 have PH:H.get? 339=some (tabObj #[rawInt pos.line,rawInt pos.col,.ref c']):=by rw[←hH];exact bE _ (hP')
 obtain⟨c₂,oc,ws,tq,e2,hoc,hwd,hw1⟩:=hrec
 (injection e2 with hq_;subst hq_)
 have cH:H.get? c'=some oc:=by exact(bH (hH))▸bE _ hoc
 have' lt_:s.heap.objs.size≤h₁.objs.size:=eZ (iK hge hlt)
 have nf:s.heap.get? h₁.objs.size=none:=eq__109 lt_
 have nc:s.heap.get? c'=none:=eq__109 hge
 have' R₁:Rel prog w g W (σ.set 0 (Cell.tab true)) H:=c.at_.rel.setCell hw0 (.inl rfl) (fun b o nb e=>keepH b o nb e) ⟨_,PH⟩ ⟨rfl,(fun q=>nomatch q),_,PH⟩
 have x₁:Ext [] W s.heap W H:=eq__140 (.inl ⟨0,hw0⟩) (fun b o nb e=>keepH b o nb e) ⟨_,PH⟩
 have' F₁:FrRel W fr env O H:=c.at_.fr.ext (Wd.le.refl W) x₁
 generalize hN:h₁.objs.size::c'::(pF scope).filterMap (fun x=>env.cells.lookup x)=N
 have inN:∀a,a∈N↔a=h₁.objs.size∨a=c'∨∃x∈pF scope,env.cells.lookup x=some a:=fun a=>by
  simp only[←hN];simp only[bC,c9]
 have own:∀x∈pF scope,∃cx,env.cells.lookup x=some cx∧W cx=.free∧cx∈O∧∃v,H.IsCell cx v:=fun x hx=>by
  obtain⟨cx,v₀,a1,i,_,cO,fz⟩:=F₁.own c.fn x (kc x hx);exact eq__27 cx a1 (fz (by exact(hfz)▸fun q=>nomatch q)) cO ⟨v₀,i⟩
 have frN:∀a∈N,W a=.free∧∃o,H.get? a=some o:=fun a ha=>by
  rcases(inN a).mp ha with rfl|rfl|⟨x,hx,e⟩;·exact⟨c.at_.rel.freeAt nf,_,fH⟩
  ·exact⟨c.at_.rel.freeAt nc,_,cH⟩
  ·obtain⟨cx,a1,a2,_,v,o,ho,_⟩:=own x hx;clear right v left;rw[e]at a1;rcases a6 a1 with rfl;exact⟨a2,o,ho⟩
 have nL:env.locals∉N:=fun hm=>by
  (refine eq__1 c.at_.fr.loc fun m q1_ _=>?_;rcases q1_ with⟨ol,_,_,hol,hdl,_⟩);rcases(inN _).mp hm with q|q|⟨x,hx,e⟩;·rw[q,nf]at hol;(injection hol)
  ·rw[q,nc]at hol;(injection hol)
  ·rcases own x hx with⟨cx,a1,_,_,v,o,ho,hd⟩;clear left_1 left;rw[e]at a1;rcases a6 a1 with rfl;have :H.get? env.locals=some ol:=keepH _ _ (fun q=>by
    rw[q]at hol;rw[hP]at hol;rcases a6 hol with rfl;(injection hdl)) hol;rw[this]at ho;(injection ho with hq_;subst hq_);rw[hdl]at hd;(injection hd)
 refine eq__14 (R₁.frz frN) fun R₂ l₂=>?_
 have F₂:FrRel (W.frz N H) {fr with frozen:=pF scope} env O H:=F₁.frz hfz frN nL fun x cx h1 h2 hm=>by
  rcases(inN _).mp hm with q|q|⟨y,hy,e⟩
  ·obtain⟨cx',_,a1,⟨o,ho,_⟩,_⟩:=c.at_.fr.own c.fn x h2;rw[h1]at a1;clear right;rcases a6 a1 with rfl;rw[q,nf]at ho;(injection ho)
  ·rcases c.at_.fr.own c.fn x h2 with⟨cx',_,a1,⟨o,ho,_⟩,_⟩;clear right_1 right;rw[h1]at a1;rcases a6 a1 with rfl;rw[q,nc]at ho;(injection ho)
  ·simp only[c.at_.fr.apart c.fn x y cx h2 h1 e];exact hy
 have x₂:Ext O W s.heap (W.frz N H) H:=⟨l₂,fun a o e=>by
  by_cases hm:a∈N
  ·rcases(inN a).mp hm with q|q|⟨y,hy,e'⟩;·rw[q,nf]at e;(injection e)
   ·rw[q,nc]at e;(injection e)
   ·obtain⟨cx,a1,a2,a3,_⟩:_:=own y hy;clear hZrrrr;rw[e']at a1;rcases a6 a1 with rfl;exact⟨fun q=>absurd a3 q,.inl ⟨a2,a3⟩⟩
  ·obtain⟨r,q⟩:_:=x₁.2 a o e;refine⟨fun _=>Wd.frz_out hm,q.imp (fun⟨_,m⟩=>nomatch m) ?_⟩;(intro hp1_;refine aM fun hG_=>?_;refine eq__134 hp1_ fun o' e' s' f' g'=>?_;refine hG_ ?_;clear hG_);exact eq__27 o' e' (fun st _=>s' st (fun q=>nomatch q)) f' (fun wf _=>g' wf (fun q=>nomatch q))⟩
 have rep:Rep (W.frz N H) (.clo ⟨args,body,scope⟩ vs) (.ref h₁.objs.size):=by
  skip;refine eq__306 h₁.objs.size fo _ rvs rfl (Wd.frz_in ((inN _).mpr (.inl rfl)) fH) (by rw[←hfo]) ⟨rfl,rfl,rfl,rfl,rfl,rfl,rfl⟩ ⟨c',oc,ws,tq,rfl,Wd.frz_in ((inN _).mpr (.inr (.inl rfl))) cH,hwd,hw1⟩ (qv.mono l₂) (fun i x rv h1 h2=>?_);have' hmem:x∈pF scope:=aT h1;(refine eq__1 (cells i x rv h1 h2) fun cx a1 q1_=>?_;rcases q1_ with⟨o,ho,hd⟩);have ho':H.get? cx=some o:=keepH _ _ (fun q=>by rw[q,hP]at ho;rcases a6 ho with rfl;(injection hd)) ho;refine eq__24 cx o ?_ (Wd.frz_in ((inN _).mpr (.inr (.inr ⟨x,hmem,a1⟩))) ho') hd;rw[hlook x ?_];·exact a1
  ·unfold pF at hmem;rcases c9.mp hmem with⟨⟨y,kk⟩,hy,hq⟩;simp only at hq;split at hq
   ·rename_i hk;clear a1 hmem h1;rcases a6 hq with rfl;exact(bH (beq_iff_eq.mp hk))▸hy
   ·(injection hq)
 refine eq__208 (s:={s with heap:=H,toks:=tk}) R₂ F₂ rep hkb fun h₃ tk₃ R₃ x₃ F₃=>?_
 exact⟨.next,_,_,W.frz N H,h₃,tk₃,rfl,rfl,fun _=>x₂.trans x₃,c.put (x₂.trans x₃) R₃ F₃ c.fn rfl,rfl⟩
end
section
theorem eq__727(AO:∀n,rM prog w g T D n)(c:StAt prog w g D A fl env O W₀ h₀ fr σ W s.heap){x:Str}{e:Ag}(hs:((qD fr (ev T n fr e σ)).bind fun v q=>if q.1.mayPut x then(.ok .next (q.1.put x v,q.2):Out SS Flo)else .stuck)≠.stuck):
  wpAny (model prog w) A (exec (.Assign [.Name x p] e pos) env) (PostS prog w g D A fl env O W₀ h₀ ((qD fr (ev T n fr e σ)).bind fun v q=>if q.1.mayPut x then(.ok .next (q.1.put x v,q.2):Out SS Flo)else .stuck) W s)
   (PostE prog w g D A fl env O W₀ h₀ ((qD fr (ev T n fr e σ)).bind fun v q=>if q.1.mayPut x then(.ok .next (q.1.put x v,q.2):Out SS Flo)else .stuck) s) s:=by
 intros n3 X AO X c Nat n Ad s Ae A Aa prog Ab w Wd W LA O St σ Ac g Pos pos LN fl Fr fr Ai env Ac h₀ Wd W₀ Tab T Pos p Nat D Str x Ag e
 cases e with
 |ListComp elt gens scope eq__13=>
  have' hsw:swapsWith (.ListComp elt gens scope eq__13) (some (.Name x p)) pos.line env=pure (env.blockKind==.function&&env.kindOf x==some .local&&p.line==eq__13.line&&!(scope.names.any fun(n,k)=>n==x&&(k==.local||k==.cell))):=rfl;cases hb:(env.blockKind==.function&&env.kindOf x==some .local&&p.line==eq__13.line&&!(scope.names.any fun(n,k)=>n==x&&(k==.local||k==.cell)))with
  |false=>rw[hb]at hsw;exact eq__365 (AO n) c hsw hs
  |true=>
   replace hsw:=(hb)▸hsw;simp only[aF,beq_iff_eq]at hb;have hk:fr.kind x=some .local:=by
    have' this:=hb.1.1.2;unfold e9 at this;unfold Fr.kind;exact(bH (c.at_.fr.scope))▸this
   cases n with
   |zero=>exact absurd rfl hs
   |succ m=>
    cases gens with
    |nil=>exact absurd rfl hs
    |cons cl gs=>
     have' e0:ev T (m+1) fr (.ListComp elt (cl::gs) scope eq__13) σ=if pW scope=false∨pD fr scope=false∨(cl::gs).all (fun c=>c.is_async==0)=false then .stuck else(src T m fr cl.iter σ).bind fun s σ₁=>(q8 (ev T m) (tst T m) (src T m) elt (cl::gs) s (pZ fr scope) [] σ₁).bind fun r σ₂=>mkList T eq__13 r.1 σ₂:=rfl;rw[e0]at hs⊢;by_cases hc:pW scope=false∨pD fr scope=false∨(cl::gs).all (fun c=>c.is_async==0)=false;·rw[if_pos hc]at hs;exact absurd rfl hs
     ·rw[if_neg hc]at hs⊢;have' h1:pW scope=true:=by cases q:pW scope with|true=>rfl|false=>exact absurd (.inl q) hc
      have' h2:pD fr scope=true:=by cases q:pD fr scope with|true=>rfl|false=>exact absurd (.inr (.inl q)) hc
      have' h3:(cl::gs).all (fun c=>c.is_async==0)=true:=by cases q:(cl::gs).all (fun c=>c.is_async==0)with|true=>rfl|false=>exact absurd (.inr (.inr q)) hc
      exact eq__693 (AO m) c hsw hk h1 h2 (fun c' hm=>by simpa using aP.mp h3 c' hm) hs
 |SetComp _ _ _ _=>cases n<;>exact absurd rfl hs
 |DictComp _ _ _ _ _=>cases n<;>exact absurd rfl hs
 |_=>exact eq__365 (AO n) c rfl hs
set_option tactic.hygienic true in
theorem eq__728{x y:Ag}:ex T (n+1) (.Raise (some x) (some y) pos) fr σ=.stuck:=by
 cases x<;>first|rfl|skip
 rename_i f args kws eq__13
 cases f<;>first|rfl|skip
 cases args<;>first|rfl|skip
 rename_i more
 cases more<;>first|rfl|skip
 cases kws<;>rfl
theorem eq__729{P:Stmt→Prop}(hE:∀f args kws eq__13 pos,P (.Expr (.Call f args kws eq__13) pos))(hC:∀pos,P (.Continue pos))(hP:∀pos,P (.Pass pos))(h0:∀pos,P (.Return none pos))(h1:∀e pos,P (.Return (some e) pos))(hN:∀x p e pos,P (.Assign [.Name x p] e pos))(hA:∀o a p e pos,P (.Assign [.Attribute o a p] e pos))(hS:∀o i p e pos,P (.Assign [.Subscript o i p] e pos))(hI:∀t b o pos,P (.If t b o pos))(hF:∀t i b pos,P (.For t i b [] pos))(hW:∀t b pos,P (.While t b [] pos))(hR:∀x np e eq__13 pos,P (.Raise (some (.Call (.Name x np) [e] [] eq__13)) none pos))(hT:∀b hd hs pos,P (.Try b (hd::hs) [] [] pos))(hD:∀n a b sc bd pos,P (.FunctionDef n a b [] none [] sc none bd pos))(bad:∀st,(∀T n fr σ,ex T (n+1) st fr σ=.stuck)→P st)(st:Stmt):P st:=by
 cases st with
 |Expr e pos=>
  cases e with
  |Call f args kws eq__13=>exact hE _ _ _ _ _
  |_=>exact bad _ fun _ _ _ _=>rfl
 |Continue pos=>exact hC _
 |Pass pos=>exact hP _
 |Return o pos=>
  cases o with
  |none=>exact h0 _
  |some e=>exact h1 _ _
 |Assign ts e pos=>
  cases ts with
  |nil=>exact bad _ fun _ _ _ _=>rfl
  |cons t more=>
   cases more with
   |cons _ _=>exact bad _ fun _ _ _ _=>by cases t<;>rfl
   |nil=>
    cases t with
    |Name x p=>exact hN _ _ _ _
    |Attribute o a p=>exact hA _ _ _ _ _
    |Subscript o i p=>exact hS _ _ _ _ _
    |_=>exact bad _ fun _ _ _ _=>rfl
 |If t b o pos=>exact hI _ _ _ _
 |For target iter body orelse pos=>
  cases orelse with
  |nil=>exact hF _ _ _ _
  |cons _ _=>exact bad _ fun _ _ _ _=>rfl
 |While t body orelse pos=>
  cases orelse with
  |nil=>exact hW _ _ _
  |cons _ _=>exact bad _ fun _ _ _ _=>rfl
 |Raise exc cause pos=>
  cases exc with
  |none=>exact bad _ fun _ _ _ _=>rfl
  |some x=>
   cases cause with
   |some _=>exact bad _ fun _ _ _ _=>eq__728
   |none=>
    cases x with
    |Call f args kws eq__13=>
     cases f with
     |Name x np=>
      cases args with
      |nil=>exact bad _ fun _ _ _ _=>rfl
      |cons e more=>
       cases more with
       |cons _ _=>exact bad _ fun _ _ _ _=>rfl
       |nil=>
        cases kws with
        |cons _ _=>exact bad _ fun _ _ _ _=>rfl
        |nil=>exact hR _ _ _ _ _
     |_=>exact bad _ fun _ _ _ _=>rfl
    |_=>exact bad _ fun _ _ _ _=>rfl
 |Try body hds orelse final pos=>
  cases hds with
  |nil=>exact bad _ fun _ _ _ _=>rfl
  |cons hd hds=>
   cases orelse with
   |cons _ _=>exact bad _ fun _ _ _ _=>rfl
   |nil=>
    cases final with
    |cons _ _=>exact bad _ fun _ _ _ _=>rfl
    |nil=>exact hT _ _ _ _
 |FunctionDef name args body decs ret tps scope tsc bind pos=>
  cases decs with
  |cons _ _=>exact bad _ fun _ _ _ _=>rfl
  |nil=>
   cases ret with
   |some _=>exact bad _ fun _ _ _ _=>rfl
   |none=>
    cases tps with
    |cons _ _=>exact bad _ fun _ _ _ _=>rfl
    |nil=>
     cases tsc with
     |some _=>exact bad _ fun _ _ _ _=>rfl
     |none=>exact hD _ _ _ _ _ _
 |_=>exact bad _ fun _ _ _ _=>rfl
theorem eq__730(AO:∀n,rM prog w g T D n)(TB:pS prog w g K T D)(XT:rP prog w g K T D)(c:StAt prog w g D A fl env O W₀ h₀ fr σ W s.heap){x:Str}{eq__13:Pos}{e:Ag}{r:Out SS Flo}(e1:(if pA e then .stuck else(match pV T fr x with
   |some (.ref C)=>(match T.exn.lookup C with
    |some own=>(qD fr (ev T n fr e σ)).bind fun v q=>(match s8 own v with
     |some fs=>.exc q.2.length (q.1,q.2++[.exn C fs])
     |none=>.stuck)
    |none=>.stuck)
   |_=>.stuck))=r)(hs:r≠.stuck):
  wpAny (model prog w) A (exec (.Raise (some (.Call (.Name x np) [e] [] eq__13)) none pos) env) (PostS prog w g D A fl env O W₀ h₀ r W s) (PostE prog w g D A fl env O W₀ h₀ r s) s:=by
 intros n10 X K X W X s X AO X TB X XT X c X r Nat n Ae A Aa prog Ab w LA O St σ Ac g Pos pos LN fl Fr fr Ai env Ac h₀ Wd W₀ Tab T Nat D Pos np Str x Pos eq__13 Ag e
 by_cases hst:pA e=true
 ·rw[if_pos hst]at e1;exact absurd e1.symm hs
 replace e1:=(if_neg hst)▸e1
 cases hg:pV T fr x with
 |none=>replace e1:=(hg)▸e1;exact absurd e1.symm hs
 |some v=>
  replace e1:=(hg)▸e1;cases v with
  |ref C=>
   dsimp only at e1;cases ho:T.exn.lookup C with
   |none=>replace e1:=(ho)▸e1;exact absurd e1.symm hs
   |some own=>
    rw[ho]at e1;exact eq__709 (AO n) TB c (XT.ok C own ho) (by simpa using hst) hg e1 hs
  |_=>exact absurd e1.symm hs
theorem eq__731(TB:pS prog w g K T D)(c:StAt prog w g D A fl env O W₀ h₀ fr σ W s.heap){bind:Str}{args:Arguments}{r:Out SS Flo}(e1:(match s9 fr (pF scope)with
    |some vs=>if name=bind∧fr.code=343∧rV args=true∧pD fr scope=true∧fr.frozen=[]∧fr.kind bind=some .local∧fr.fn=true∧s7 σ=true then
      .ok .next ({fr.put bind (.clo ⟨args,body,scope⟩ vs)with frozen:=pF scope},σ.set 0 (Cell.tab true))else .stuck
    |none=>.stuck)=r)(hs:r≠.stuck):
  wpAny (model prog w) A (exec (.FunctionDef name args body [] none [] scope none bind pos) env) (PostS prog w g D A fl env O W₀ h₀ r W s) (PostE prog w g D A fl env O W₀ h₀ r s) s:=by
 cases hg:s9 fr (pF scope)with
 |none=>rw[hg]at e1;exact absurd e1.symm hs
 |some vs=>
  rw[hg]at e1;dsimp only at e1;by_cases hc:name=bind∧fr.code=343∧rV args=true∧pD fr scope=true∧fr.frozen=[]∧fr.kind bind=some .local∧fr.fn=true∧s7 σ=true
  ·rw[if_pos hc]at e1;rw[←e1];exact eq__726 TB c hg hc
  ·rw[if_neg hc]at e1;exact absurd e1.symm hs
theorem eq__732(AO:∀n,rM prog w g T D n)(TB:pS prog w g K T D)(XT:rP prog w g K T D)(HX:rS prog w g T D n):wP prog w g T D (n+1):=fun st fr σ W s env O A fl W₀ h₀ c=>
 have nxt:∀fo f,uW W fo f→PostS prog w g D A fl env O W₀ h₀ (.ok fo (fr,σ)) W s f s:=fun fo f r=>⟨fo,fr,σ,W,s.heap,s.toks,rfl,rfl,fun _=>Ext.refl _ _ _,c,r⟩
 eq__729 (P:=fun st=>ex T (n+1) st fr σ≠.stuck→wpAny (model prog w) A (exec st env) (PostS prog w g D A fl env O W₀ h₀ (ex T (n+1) st fr σ) W s) (PostE prog w g D A fl env O W₀ h₀ (ex T (n+1) st fr σ) s) s)
  (fun _ _ _ _ _ hs=>eq__703 (AO n) c hs) (fun _ _=>wpAny_Continue (nxt .cont .cont rfl)) (fun _ _=>wpAny_Pass (nxt .next .next rfl)) (fun _ _=>wpAny_Return_none (nxt (.ret .none) (.ret .none) ⟨_,rfl,eq__53.mpr rfl⟩)) (fun _ _ hs=>eq__689 (AO n) c hs)
  (fun _ _ _ _ hs=>eq__727 AO c hs) (fun _ _ _ _ _ hs=>eq__701 (AO n) TB c hs) (fun _ _ _ _ _ hs=>eq__702 (AO n) c hs) (fun _ _ _ _ hs=>eq__690 (AO n) HX c hs) (fun _ _ _ _ hs=>eq__706 (AO n) HX c hs) (fun _ _ _ hs=>eq__707 (AO n) HX c hs)
  (fun _ _ _ _ _ hs=>eq__730 AO TB XT c rfl hs) (fun _ _ _ _ hs=>eq__724 (AO n) TB XT HX c hs) (fun _ _ _ _ _ _ hs=>eq__731 TB c rfl hs) (fun st h hs=>absurd (h _ _ _ _) hs) st
theorem eq__239(AO:∀n,rM prog w g T D n)(TB:pS prog w g K T D)(XT:rP prog w g K T D):∀n,wP prog w g T D n∧rS prog w g T D n
 |0=>⟨fun _ _ _ _ _ _ _ _ _ _ _ _ h=>absurd rfl h,fun _ _ _ _ _ _ _ _ _ _ _ _ h=>absurd rfl h⟩
 |n+1=>by
  obtain⟨a,b⟩:_:=eq__239 AO TB XT n;exact⟨eq__732 AO TB XT b,eq__691 a b⟩
end
noncomputable def sE:Out SS Flo→Out St Val
 |.ok (.ret v) q=>.ok v q.2
 |.ok .next q=>.ok .none q.2
 |.ok .cont _=>.stuck
 |.exc k q=>.exc k q.2
 |.stuck=>.stuck
theorem eq__151(T:Tab)(n:Nat)(code:Addr)(scope:Ah)(binds:List (Str×Val))(body:List Stmt)(σ:St):
  tL T n code scope binds body σ=sE (exs T n body {scope:=scope,fn:=true,vars:=binds,code:=code} σ):=by
 unfold tL
 generalize exs T n body {scope:=scope,fn:=true,vars:=binds,code:=code} σ=o
 match o with
 |.ok (.ret v) q=>rfl
 |.ok .next q=>rfl
 |.ok .cont _=>rfl
 |.exc k q=>rfl
 |.stuck=>rfl
theorem eq__152:∀(names:List (Str×NameKind))(n:Nat)(acc:List (Str×Addr))(x:Str),((x,fT)∈names∨(acc.lookup x).isSome=true)→((cellsFrom n names acc).lookup x).isSome=true
 |[],_,_,_,h=>by
  rcases h with h|h;·contradiction
  ·exact h
 |(y,k)::r,n,acc,x,h=>by
  unfold cellsFrom;by_cases hk:(k==fT)=true
  ·rw[if_pos hk];refine eq__152 r (n+1) ((y,n)::acc) x ?_;rcases h with h|h
   ·rcases bC.mp h with e|e;·clear h;(injection e with hq_;subst hq_);exact .inr (by skip;simp)
    ·exact .inl e
   ·refine .inr ?_;simp only[bQ];split;·rfl
    ·exact h
  ·rw[if_neg hk];refine eq__152 r n acc x ?_;rcases h with h|h
   ·rcases bC.mp h with e|e;·clear h;(injection e with hq_ hr_;subst hq_;subst hr_);exact absurd rfl hk
    ·exact .inl e
   ·exact .inr h
theorem eq__69{α:Type}:∀(l:List (Str×α))(x:Str)(v:α),look x l=some v→(x,v)∈l
 |[],_,_,h=>by(injection h)
 |(y,u)::r,x,v,h=>by
  rw[eq__46]at h;split at h;·rename_i e;rcases a6 h with rfl;exact(e)▸aO
  ·exact aU _ (eq__69 r x v h)
theorem eq__380{k:Str→Option NameKind}:∀(l:List (Str×Af))(m:Str→Option Af)(x:Str),x∉l.map (·.1)→bindL k l m x=m x
 |[],_,_,_=>rfl
 |(y,u)::r,m,x,h=>by
  skip;refine a9 (eq__380 r _ x fun q=>h (aU _ q)) ?_;split;·exact if_neg (by rintro rfl;exact h aO)
  ·rfl
theorem eq__381{k:Str→Option NameKind}:∀(l:List (Str×Af))(m:Str→Option Af)(x:Str)(v:Af),(l.map (·.1)).Nodup→k x=some .local→look x l=some v→bindL k l m x=some v
 |[],_,_,_,_,_,h=>by(injection h)
 |(y,u)::r,m,x,v,nd,hk,h=>by
  rw[aG,eP]at nd;rw[eq__46]at h;unfold bindL;split at h
  ·rename_i e;rcases a6 h with rfl;subst e;rw[eq__380 r _ y nd.1,if_pos hk,if_pos rfl]
  ·exact eq__381 r _ x v nd.2 hk h
theorem eq__382{k:Str→Option NameKind}:∀(l:List (Str×Af))(m:Str→Option Af)(x:Str),x∉l.map (·.1)→bindC k l m x=m x
 |[],_,_,_=>rfl
 |(y,u)::r,m,x,h=>by
  skip;refine a9 (eq__382 r _ x fun q=>h (aU _ q)) ?_;split;·rfl
  ·exact if_neg (by rintro rfl;exact h aO)
theorem eq__383{k:Str→Option NameKind}:∀(l:List (Str×Af))(m:Str→Option Af)(x:Str)(v:Af),(l.map (·.1)).Nodup→k x≠some .local→look x l=some v→bindC k l m x=some v
 |[],_,_,_,_,_,h=>by(injection h)
 |(y,u)::r,m,x,v,nd,hk,h=>by
  rw[aG,eP]at nd;rw[eq__46]at h;unfold bindC;split at h
  ·rename_i e;rcases a6 h with rfl;subst e;rw[eq__382 r _ y nd.1,if_neg hk,if_pos rfl]
  ·exact eq__383 r _ x v nd.2 hk h
theorem eq__240{W:Wd}:∀(ps:List Str)(vs:List Val)(rvs:List Af)(x:Str)(v:Val),RepL W vs rvs→look x (ps.zip vs)=some v→∃rv,look x (ps.zip rvs)=some rv∧Rep W v rv
 |[],_,_,_,_,_,h=>by(injection h)
 |p::ps,[],_,_,_,_,h=>by(injection h)
 |p::ps,v₀::vs,rvs,x,v,q,h=>by
  (refine eq__17 (RepL.cons.mp q) fun r rs q1_ a b=>?_;subst q1_);rw[bJ]at h⊢;rw[eq__46]at h⊢;split at h;·rename_i e;rcases a6 h with rfl;exact eq__2 r (if_pos e) a
  ·rename_i e;exact(if_neg e)▸eq__240 ps vs rs x v b h
noncomputable def rK(ps:List Str)(sc:Ah):Bool:=sc.kind==.function&&!sc.isCoroutine&&!sc.isGenerator&&decide (sc.names.map (·.1)).Nodup&&decide ps.Nodup&&ps.all fun x=>sc.names.lookup x==some .local||sc.names.lookup x==some .cell
section
variable(prog:Aa)(w:Ab)(g:Ac)(K:Frag)
structure uD(a code:Addr)(d:qU)(o:Obj)(fd:FuncData):Prop where
 at_:g.get? a=some o
 fn:o.data=.func fd
 body:fd.body=.stmts d.body
 scope:fd.scope=d.scope
 glob:fd.globals=mainGlobals
 bi:fd.builtins=builtinsNs
 clo:fd.closure=[]
 rec_:g.CodeRec fd.code fd.qualname
 cod:code≠0→fd.code=.ref code
 ok:rK d.pars d.scope=true
end
variable{code:Addr}
section
theorem eq__384(HX:rS prog w g T D n){tk:Nat}(c:StAt prog w g D A fl env O W s.heap fr σ W' h')(hs:sE (exs T n body fr σ)≠.stuck):
  wpAny (model prog w) A (execs body env) (fun f s'=>Post prog w g Rep (sE (exs T n body fr σ)) W s (set_option backward.match.sparseCases true in match f with|.ret v=>v|_=>.none) s')
   (fun e s'=>wpAny (model prog w) A (leaving env e) (fun _ s''=>PostX prog w g (sE (exs T n body fr σ)) W s e s'') (fun _ _=>False) s') {s with heap:=h',toks:=tk}:=by
 intros n3 X HX Nat n Ad s Ae A Aa prog Ab w Wd W Wd W' LA O Ac h' St σ Ac g LN fl Fr fr Ai env Tab T Nat D LSm body Nat tk
 have hx:exs T n body fr σ≠.stuck:=fun q=>hs (by refine a9 (congrArg _ (q)) ?_;rfl)
 refine aE (HX body fr σ W' {s with heap:=h',toks:=tk} env O A fl W s.heap c hx) (fun f s' p=>?_) fun e s' p=>?_
 ·rcases p with⟨fo,fr',σ',W₂,h₂,tk₂,e1,rfl,_,c₂,rf⟩;clear x;rw[e1]at hs⊢;cases fo with
  |next=>subst rf;exact⟨.none,σ',W₂,h₂,tk₂,rfl,rfl,c₂.base,c₂.at_.rel,eq__53.mpr rfl⟩
  |cont=>exact absurd rfl hs
  |ret v=>obtain⟨rv,rfl,rep⟩:_:=rf;exact⟨v,σ',W₂,h₂,tk₂,rfl,rfl,c₂.base,c₂.at_.rel,rep⟩
 ·skip;refine a8 (eq__235 p fun s₂ p₂=>eq__236 p₂ fun s₃ p₃=>?_);obtain⟨k,fr',σ',W₂,h₂,tk₂,e1,rfl,c₂,f⟩:_:=p₃;exact⟨k,σ',W₂,h₂,tk₂,by refine a9 (congrArg _ (e1)) ?_;rfl,rfl,c₂.base,c₂.at_.rel,f.fly⟩
theorem Ok.deeper(o:Ok A (D+1) fl)(env:Ai):Ok (A.deeper env) D (env::fl):=
 ⟨o.hd,by have :=o.dp;refine(?_:A.depth+1+4*D≤900);exact eq__3 [_,_] (.le (.a (.a Z0 (.n 1)) (.m 4 Z1)) (.n 900)) (.le (.a Z0 (.m 4 (.a Z1 (.n 1)))) (.n 900)) rfl this,by have :=o.un;refine(?_:A.units+3+100*D≤9000);exact eq__3 [_,_] (.le (.a (.a Z0 (.n 3)) (.m 100 Z1)) (.n 9000)) (.le (.a Z0 (.m 100 (.a Z1 (.n 1)))) (.n 9000)) rfl this,by refine(?_:A.frames.map (env::·)=_);refine a9 (congrArg _ (o.fr)) ?_;rfl⟩
theorem eq__385(R:Rel prog w g W σ h)(F:Frames W h fl){oL:Obj}(nL:h.get? L=none)(k:∀a o,h.get? a=some o→h'.get? a=some o)(eL:h'.get? L=some oL)(hd:∀vs,oL.data≠.fields vs)(hf:env.frame=some L)(hk:env.scope.kind≠.module):
  Rel prog w g (W.put L .frame) σ h'∧Ext [] W h (W.put L .frame) h'∧Frames (W.put L .frame) h' (env::fl):=by
 have l:=Wd.put_le .frame (R.freeAt nL)
 have x:Ext [] W h (W.put L .frame) h':=eq__139 l (fun a o e=>Wd.put_ne _ _ (by clear l hf eL;rintro rfl;rw[nL]at e;(injection e))) k
 refine eq__30 (R.step l (fun a=>?_) (fun a o _ _ e=>k a o e) (fun a e=>by obtain⟨o,q⟩:=R.live a (by rw[e];intro q;(injection q));exact⟨o,k a o q⟩)) x (fun en he=>?_)
 ·by_cases q:a=L;·clear x l hf nL;subst q;exact .inr (.inr ⟨Wd.put_self ..,_,eL⟩)
  ·exact .inl (Wd.put_ne _ _ q)
 ·rcases bC.mp he with rfl|he;·exact eq__51 hk (eq__39 L oL hf (Wd.put_self ..) eL hd)
  ·exact F.ext x en he
structure tI(W:Wd)(d:qU)(vars:List (Str×Val))(binds:List (Str×Af)):Prop where
 nd:(binds.map (·.1)).Nodup
 kind:∀x∈binds,d.scope.names.lookup x.1=some .local∨d.scope.names.lookup x.1=some .cell
 val:∀y v,look y vars=some v→∃rv,look y binds=some rv∧Rep W v rv
theorem eq__386(TB:pS prog w g K T D){d:qU}{o:Obj}(X:uD g a code d o fd){vars:List (Str×Val)}{binds:List (Str×Af)}{args:Args}{R':Result→Ad→Prop}(ok:Ok A (D+1) fl)(fs:Frames W s.heap fl)(R:Rel prog w g W σ s.heap)(hb:BindsTo s fd args binds)(hB:tI W d vars binds)(kk:∀(env:Ai)(O:List Addr)(W':Wd)(h':Ac)(tk:Nat),StAt prog w g D (A.deeper env) (env::fl) env O W s.heap {scope:=d.scope,fn:=true,vars:=vars,code:=code} σ W' h'→W.le W'→W'=W.put s.heap.objs.size .frame→(∀a o,s.heap.get? a=some o→h'.get? a=some o)→
   wpAny (model prog w) (A.deeper env) (execs d.body env) (fun f s'=>R' (.ok (.ret (set_option backward.match.sparseCases true in match f with|.ret v=>v|_=>.none))) s')
    (fun e s'=>wpAny (model prog w) (A.deeper env) (leaving env e) (fun _ s''=>R' (.error e) s'') (fun e' s''=>R' (.error e') s'') s') {s with heap:=h',toks:=tk}):
  codeAny (model prog w) A (.call (.ref a) args) R' s:=by
  intros n21 X K X T X D X σ X fl X TB X code X d X o X fd X vars X binds X args X R' Ad s Ae A Aa prog Ab w Addr a Wd W Ac g;have' hok:=X.ok;simp only[rK,aF,beq_iff_eq,dE,decide_eq_true_eq,aP,cZ]at hok;obtain⟨⟨⟨⟨⟨hk,hco⟩,hgen⟩,hnd⟩,hpn⟩,hpk⟩:=hok;have hkc:∀x∈binds,fd.scope.names.lookup x.1=some .local∨(fd.scope.names.lookup x.1=some .cell∧((cellsFrom (s.heap.objs.size+1) fd.scope.names []).lookup x.1).isSome=true):=fun x hx=>by
   rw[X.scope];refine cD (hB.kind x hx) (fun e=>?_) fun e=>?_;·exact .inl e
   ·exact .inr ⟨e,eq__152 _ _ _ _ (.inl (mem_of_lookup e))⟩
  refine kJ (by have :=ok.dp;refine(?_:A.depth<1000);exact eq__3 [_,_] (.lt Z0 (.n 1000)) (.le (.a Z0 (.m 4 (.a Z1 (.n 1)))) (.n 900)) rfl this) (R.stays _ _ X.at_) X.fn (by refine a9 (congrArg _ (X.scope)) ?_;exact hco) (by refine a9 (congrArg _ (X.scope)) ?_;exact hgen) X.body (X.rec_.keeps R.stays) ?_;refine hb _ _ _ _ ?_;rw[X.clo];refine wpAny_newFunctionEnv_cells (by refine a9 (congrArg _ (X.scope)) ?_;exact hk) hkc fun env he s₁ x=>⟨(TB.lim.keeps R.stays).keeps x.toInCall.keep,codeAny_func ?_⟩;(refine eq__103 x.toInCall.same fun h₁ tk₁ hs1=>?_);subst hs1;have ns:=x.toInCall.ns;have' keep:=x.toInCall.keep;have eloc:env.locals=s.heap.objs.size:=by refine a9 (congrArg _ (he)) ?_;rfl
  have ecells:env.cells=cellsFrom (s.heap.objs.size+1) fd.scope.names []:=by refine a9 (congrArg _ (he)) ?_;rfl
  have escope:env.scope=d.scope:=by refine a9 (congrArg _ (he)) ?_;exact X.scope
  have eframe:env.frame=some s.heap.objs.size:=by refine a9 (congrArg _ (he)) ?_;rfl
  have ekind:env.kindOf=fun y=>d.scope.names.lookup y:=by unfold e9;rw[escope]
  obtain⟨oL,es,ep,hoL,hdL,skL,hmL⟩:=id ns;rw[eloc]at hoL;refine eq__56 (eq__385 (env:=env) R fs (eq__48 s.heap) keep hoL (fun vs q=>by rw[hdL]at q;(injection q)) eframe (by rw[escope,hk];decide)) fun R₁ x₁ F₁=>?_;have freshC:∀y cy,env.cells.lookup y=some cy→s.heap.objs.size<cy∧s.heap.get? cy=none∧(W.put s.heap.objs.size .frame) cy=.free:=fun y cy e=>by
   have' lt:=x.above y cy (mem_of_lookup e);replace lt:=(eloc)▸lt;have' n:s.heap.get? cy=none:=eq__109 (eZ lt);exact eq__30 lt n (by refine a9 (Wd.put_ne _ _ (eE lt)) ?_;exact R.freeAt n)
  refine kk env (s.heap.objs.size::d.scope.names.filterMap fun nk=>if nk.2==.cell then env.cells.lookup nk.1 else none) (W.put s.heap.objs.size .frame) h₁ tk₁
   ⟨⟨ok.deeper env,F₁,R₁,⟨escope,by refine a9 (congrArg _ (escope)) ?_;exact hk,by refine a9 (congrArg _ (he)) ?_;exact X.glob,by refine a9 (congrArg _ (he)) ?_;exact X.bi,(eq__2 _ ns (fun y v e k=>?_)),fun y v e k=>?_,.inr (by refine a9 (congrArg _ (eloc)) ?_;exact Wd.put_self ..),by exact(eloc)▸aO,fun _ y k=>?_,fun _ y z c _ e1 e2=>?_⟩,env,fl,rfl,rfl⟩,x₁,fun b hbO=>?_,rfl,fun hc0=>?_,fun b hbO=>?_⟩ x₁.1 rfl keep
  ·obtain⟨rv,e',rep⟩:_:=hB.val y v e;refine eq__2 rv (eq__381 _ _ _ _ hB.nd ?_ e') (rep.mono x₁.1);rw[ekind];exact k
  ·refine eq__1 (hB.val y v e) fun rv e' rep=>?_;have hkl:env.kindOf y=some .cell:=by
    rw[ekind];refine cD (k) (fun k=>?_) fun k=>?_;·exact k
    ·exfalso;have' k:d.scope.names.lookup y=some .free:=k;rcases hB.kind _ (eq__69 _ _ _ e')with e|e<;>(rw[k]at e;contradiction)
   have hmem:(y,fT)∈d.scope.names:=mem_of_lookup (by rw[ekind]at hkl;exact hkl);rcases bM.mp (eq__152 d.scope.names (s.heap.objs.size+1) [] y (.inl hmem))with⟨cy,hcy⟩;have hcy:env.cells.lookup y=some cy:=by rw[ecells,X.scope];exact hcy
   have' ic:=x.cell y cy hcy;rw[eq__383 _ _ _ _ hB.nd (by rw[hkl];decide) e']at ic;exact eq__39 cy rv hcy ic (rep.mono x₁.1) (by refine a9 (congrArg _ ((freshC y cy hcy).2.2)) ?_;rfl)
  ·have hmem:(y,fT)∈d.scope.names:=mem_of_lookup k;rcases bM.mp (eq__152 d.scope.names (s.heap.objs.size+1) [] y (.inl hmem))with⟨cy,hcy⟩;have hcy:env.cells.lookup y=some cy:=by rw[ecells,X.scope];exact hcy
   refine eq__61 cy _ hcy (x.cell y cy hcy) (by refine a9 (congrArg _ ((freshC y cy hcy).2.2)) ?_;rfl) (aU _ (c9.mpr ⟨(y,.cell),hmem,?_⟩)) (fun _=>(freshC y cy hcy).2.2);skip;exact hcy
  ·exact name_of_addr x.apart (mem_of_lookup e1) (mem_of_lookup e2)
  ·rcases bC.mp hbO with rfl|hbO;·exact eq__48 _
   ·rcases c9.mp hbO with⟨⟨y,kk⟩,_,e⟩;simp only at e;split at e;·exact(freshC y b e).2.1
    ·(injection e)
  ·refine a9 (congrArg _ (he)) ?_;exact X.cod hc0
  ·rcases bC.mp hbO with rfl|hbO;·exact .inl eloc.symm
   ·rcases c9.mp hbO with⟨⟨y,kk⟩,hm,e⟩;simp only at e;split at e
    ·rename_i hkk;refine .inr ⟨y,?_,e⟩;rw[ekind];exact eq__111 hnd (by exact(bH (beq_iff_eq.mp hkk))▸hm)
    ·(injection e)
theorem eq__387(TB:pS prog w g K T D)(HX:rS prog w g T D n){d:qU}{o:Obj}(X:uD g a code d o fd){vars:List (Str×Val)}{binds:List (Str×Af)}{args:Args}{R':Result→Ad→Prop}(ok:Ok A (D+1) fl)(fs:Frames W s.heap fl)(R:Rel prog w g W σ s.heap)(hb:BindsTo s fd args binds)(hB:tI W d vars binds)(hs:sE (exs T n d.body {scope:=d.scope,fn:=true,vars:=vars,code:=code} σ)≠.stuck)(h1:∀v s',Post prog w g Rep (sE (exs T n d.body {scope:=d.scope,fn:=true,vars:=vars,code:=code} σ)) W s v s'→R' (.ok (.ret v)) s')(h2:∀e s',PostX prog w g (sE (exs T n d.body {scope:=d.scope,fn:=true,vars:=vars,code:=code} σ)) W s e s'→R' (.error e) s'):
  codeAny (model prog w) A (.call (.ref a) args) R' s:=
 eq__386 TB X ok fs R hb hB fun env O W' h' tk c _ _ _=>aE (eq__384 HX c hs) (fun f s' p=>h1 _ _ p) fun e s' p=>aE p (fun _ _ p=>h2 _ _ p) fun _ _ z=>z.elim
theorem eq__733(TB:pS prog w g K T D)(HX:rS prog w g T D n){d:qU}{o:Obj}(X:uD g a code d o fd)(hb:∀(s:Ad)(rvs:List Af),K.In s.heap→rvs.length=d.pars.length→BindsTo s fd ⟨rvs,[]⟩ (d.pars.zip rvs)):FnOk prog w g (D+1) a (callD T n code d):=by
 intro A fl W σ s vs rvs ok fs R q hs
 dsimp only[callD,rJ]at hs⊢
 by_cases hl:d.pars.length=vs.length
 ·rw[if_pos hl]at hs⊢;dsimp only[eq__151]at hs⊢;have' hok:=X.ok;simp only[rK,aF,beq_iff_eq,dE,decide_eq_true_eq,aP,cZ]at hok;have hlr:rvs.length=d.pars.length:=by rw[q.len,hl]
  have keys:(d.pars.zip rvs).map (·.1)=d.pars:=mI (by simp only[hlr];exact aN _);refine fN (eq__387 TB HX X ok fs R (hb s rvs (R.kin TB.kin) hlr) ⟨by simp only[keys];exact hok.1.2,fun x hx=>hok.2 x.1 (by exact(bH (keys))▸cY hx),fun y v e=>eq__240 d.pars vs rvs y v q e⟩ hs (fun v s' p=>p) fun e s' p=>p)
 ·rw[if_neg hl]at hs;exact absurd rfl hs
end
noncomputable def sR(ps:List Str)(sc:Ah):Bool:=sc.kind==.function&&!sc.isCoroutine&&!sc.isGenerator&&decide (sc.names.map (·.1)).Nodup&&decide ps.Nodup&&ps.all (fun x=>sc.names.lookup x==some .local)&&sc.names.all (·.2 !=.cell)
noncomputable def cloT(T:Tab)(n:Nat)(d:CloD):Option (List Val→List Val→EM):=match d.args with
 |⟨[],[⟨a,none,_⟩,⟨b,none,_⟩],none,[],[],none,[]⟩=>if a=nOf "seq"∧b=nOf "f_name"∧sR [a,b] d.scope=true then some (sP T n d)else none
 |_=>none
set_option tactic.hygienic true in
theorem eq__734{m:α}(r:Str→Pos→Str→Pos→Option α):∀(x:Arguments),cloT.match_1 (fun _=>Option α) x r (fun _=>none)=some m→∃a pa b pb,x=⟨[],[⟨a,none,pa⟩,⟨b,none,pb⟩],none,[],[],none,[]⟩∧r a pa b pb=some m
 |⟨_::_,_,_,_,_,_,_⟩,h=>by injection h
 |⟨[],[],_,_,_,_,_⟩,h=>by injection h
 |⟨[],⟨_,some _,_⟩::_,_,_,_,_,_⟩,h=>by injection h
 |⟨[],⟨a,none,pa⟩::l,v,ko,kd,kw,df⟩,h=>by
  cases l with
  |nil=>injection h
  |cons b l=>
  rcases b with⟨b,o,pb⟩;cases o with
  |some _=>injection h
  |none=>
  cases l with
  |cons _ _=>injection h
  |nil=>
  cases v with
  |some _=>injection h
  |none=>
  cases ko with
  |cons _ _=>injection h
  |nil=>
  cases kd with
  |cons _ _=>injection h
  |nil=>
  cases kw with
  |some _=>injection h
  |none=>
  cases df with
  |cons _ _=>injection h
  |nil=>exact eq__302 a pa b pb rfl h
theorem eq__388{α:Type}:∀(xs:List Str)(vs:List α)(y:Str)(v:α),look y (xs.zip vs)=some v→∃i:Nat,xs[i]?=some y∧vs[i]?=some v
 |[],_,_,_,h=>by(injection h)
 |x::xs,[],_,_,h=>by(injection h)
 |x::xs,u::vs,y,v,h=>by
  rw[bJ]at h;rw[eq__46]at h;split at h;·rename_i e;rcases a6 h with rfl;exact eq__2 0 (by simp[e]) rfl
  ·refine eq__1 (eq__388 xs vs y v h) fun i a b=>?_;exact eq__2 (i+1) a b
theorem eq__389{α:Type}:∀(l m:List (Str×α))(x:Str),look x (l++m)=(look x l).or (look x m)
 |[],_,_=>rfl
 |(y,u)::r,m,x=>by
  simp only[c0];rw[eq__46,eq__46];split;·rfl
  ·exact eq__389 r m x
theorem eq__735:∀(l:List (Str×α))(x:Str)(v:α),(l.map (·.1)).Nodup→(x,v)∈l→l.reverse.lookup x=some v:=by
 intro l x v nd hm
 have nd':(l.reverse.map (·.1)).Nodup:=by simp only[List.map_reverse];exact List.pairwise_reverse.mpr (nd.imp cW)
 exact eq__111 nd' (List.mem_reverse.mpr hm)
section
theorem eq__736{a b:Str}{q:Pos}{x y:Af}(hp:fd.params=⟨[],[⟨a,none,p⟩,⟨b,none,q⟩],none,[],[],none,[]⟩)(ha:a=nOf "seq")(hb:b=nOf "f_name")(hd:fd.defaults=.none)(hk:fd.kwdefaults=.none)(s:Ad):
  BindsTo s fd ⟨[x,y],[]⟩ [(a,x),(b,y)]:=by
 subst ha hb
 rcases fd with⟨nm,qn,pr,bd,sc,gl,cl,df,kd,dc,pm,an,cd,ct,bi⟩
 dsimp only at hp hd hk
 subst hp hd hk
 exact .of_eq (by kernel_rfl)
set_option tactic.hygienic true in
theorem eq__737(TB:pS prog w g K T D)(HX:rS prog w g T D n){d:CloD}{m:List Val→List Val→EM}(hm:cloT T n d=some m):CloOk prog w g (D+1) d m:=by
 intros n6 X K X d X m Nat n Aa prog Ab w Ac g Tab T Nat D
 rcases eq__734 _ _ hm with⟨a,pa,b,pb,hargs,hm⟩
 ·split at hm
  ·rename_i hc;rcases a6 hm with rfl;refine eq__56 hc fun ha hb hsc=>?_;intro A fl W σ s cap vs f rvs ok fs R rep q hs;simp only[sP,hargs,aG,aQ,rJ]at hs⊢;by_cases hl:[a,b].length=vs.length
   ·rw[if_pos hl]at hs⊢;by_cases hl2:(pF d.scope).length=cap.length
    ·rw[if_pos hl2]at hs⊢;dsimp only[eq__151]at hs⊢;skip;(refine eq__305 rep fun fa fo fd crv q1_ hwf hfd q2_ q3_ qc hcl=>?_;subst q1_;rcases q2_ with⟨e1,e2,e3,e4,e5,e6,e7⟩;rcases q3_ with⟨cc,oc,ws,tq,ec,hwc,hwd,hw1⟩);have' hok:=hsc;simp only[sR,aF,beq_iff_eq,dE,decide_eq_true_eq,aP,bne_iff_ne]at hok;obtain⟨⟨⟨⟨⟨⟨hk,hco⟩,hgen⟩,hnd⟩,hpn⟩,hpk⟩,hnc⟩:=hok;have' hlr:=q.len;replace hlr:=(bH (hl))▸hlr;obtain⟨x,y,rfl⟩:∃x y,rvs=[x,y]:=by
      exact eq__584 hlr
     refine fN (kJ (by have :=ok.dp;refine(?_:A.depth<1000);exact eq__3 [_,_] (.lt Z0 (.n 1000)) (.le (.a Z0 (.m 4 (.a Z1 (.n 1)))) (.n 900)) rfl this) (R.imm _ _ hwf) hfd (by refine a9 (congrArg _ (e3)) ?_;exact hco) (by refine a9 (congrArg _ (e3)) ?_;exact hgen) e2 ⟨cc,oc,ws,tq,ec,R.imm _ _ hwc,hwd,hw1⟩ ?_);refine eq__736 (e1.trans hargs) ha hb e6 e7 s _ _ _ _ ?_;refine kN (by rw[e3];exact hnc) (fun z hz=>?_) (fun h₁ ns sb=>?_) (by refine a9 (congrArg _ (e3)) ?_;exact hk)
     ·rw[e3];have' this:z=(a,x)∨z=(b,y):=by simpa using hz
      clear hz;rcases this with rfl|rfl;·exact hpk a ((aO ..))
      ·exact hpk b ((aU _ (aO ..)))
     ·have keep:∀b o,s.heap.get? b=some o→h₁.get? b=some o:=fun b o e=>sb.extBut b o (dH (cG e)) (bE _ e);refine⟨(TB.lim.keeps R.stays).keeps keep,codeAny_func ?_⟩;dsimp only;obtain⟨env,he⟩:∃ce:Ai,newEnv fd.scope s.heap.objs.size fd.globals fd.closure (fd.qualname++".<locals>.") (some fa) fd.code none fd.builtins=ce:=⟨_,rfl⟩;rw[he];have eloc:env.locals=s.heap.objs.size:=by refine a9 (congrArg _ (bH (he))) ?_;rfl
      have ecells:env.cells=fd.closure:=by refine a9 (congrArg _ (bH (he))) ?_;rfl
      have escope:env.scope=d.scope:=by refine a9 (congrArg _ (bH (he))) ?_;exact e3
      have eframe:env.frame=some s.heap.objs.size:=by refine a9 (congrArg _ (bH (he))) ?_;rfl
      have ekind:env.kindOf=fun y=>d.scope.names.lookup y:=by unfold e9;rw[escope]
      obtain⟨oL,es,ep,hoL,hdL,skL,hmL⟩:=id ns;refine eq__56 (eq__385 (env:=env) R fs (eq__48 s.heap) keep hoL (fun vs q=>by rw[hdL]at q;(injection q)) eframe (by rw[escope,hk];decide)) fun R₁ x₁ F₁=>?_;have' nocell:∀z,d.scope.names.lookup z=some .cell→False:=fun z hz=>hnc (z,.cell) (mem_of_lookup hz) rfl;have mids:∀z v,look z (([a,b].zip vs)++(pF d.scope).zip cap)=some v→(look z ([a,b].zip vs)=some v∧d.scope.names.lookup z=some .local)∨(look z ((pF d.scope).zip cap)=some v∧d.scope.names.lookup z=some .free):=fun z v hz=>by
       rw[eq__389]at hz;cases h1:look z ([a,b].zip vs)with
       |some u=>
        rw[h1]at hz;rcases a6 hz with rfl;have' this:=(gC (eq__69 _ _ _ h1)).1;exact .inl ⟨rfl,hpk z this⟩
       |none=>
        rw[h1,Option.none_or]at hz;refine .inr ⟨hz,?_⟩;have :=(gC (eq__69 _ _ _ hz)).1;unfold pF at this;obtain⟨⟨z',kk⟩,hz',hq⟩:=c9.mp this;simp only at hq;split at hq;·rename_i hkk;(injection hq with hq_;cases hq_);exact eq__111 hnd (by exact(bH (beq_iff_eq.mp hkk))▸hz')
        ·(injection hq)
      refine aE (eq__384 (env:=env) (A:=A.deeper env) (fl:=env::fl) (O:=[s.heap.objs.size]) (W':=W.put s.heap.objs.size .frame) (h':=h₁) HX
       ⟨⟨ok.deeper env,F₁,R₁,⟨escope,by refine a9 (congrArg _ (escope)) ?_;exact hk,by refine a9 (congrArg _ (bH (he))) ?_;exact e4,by refine a9 (congrArg _ (bH (he))) ?_;exact e5,(eq__2 _ (by simp only[eloc];exact ns) (fun z v e k=>?_)),fun z v e k=>?_,.inr (by refine a9 (congrArg _ (eloc)) ?_;exact Wd.put_self ..),by simp only[eloc];exact aO,fun _ z k=>?_,fun _ z z' c k=>?_⟩,env,fl,rfl,rfl⟩,x₁,fun b hbO=>?_,rfl,fun hc0=>absurd rfl hc0,fun b hbO=>?_⟩ hs) (fun f s' p=>p) fun e s' p=>aE p (fun _ _ p=>p) fun _ _ z=>z.elim
      ·have k:d.scope.names.lookup z=some .local:=k;rcases mids z v e with⟨e',_⟩|⟨_,k'⟩
       ·obtain⟨rv,e'',rp⟩:_:=eq__240 [a,b] vs [x,y] z v q e';refine eq__2 rv (eq__735 _ _ _ ?_ (eq__69 _ _ _ e'')) (rp.mono x₁.1);simpa using hpn
       ·rw[k]at k';contradiction
      ·have k:d.scope.names.lookup z=some .cell∨d.scope.names.lookup z=some .free:=k;rcases mids z v e with⟨_,k'⟩|⟨e',_⟩;·rcases k with k|k<;>(rw[k]at k';contradiction)
       ·refine eq__1 (eq__388 _ _ _ _ e') fun i h1 h2=>?_;(refine eq__1 (qc.get h2) fun rv h3 rp=>?_);refine eq__17 (hcl i z rv h1 h3) fun c oc' hl' hwc' hdc=>?_;have' hwc'':=x₁.1.imm hwc';exact eq__39 c rv (by refine a9 (congrArg _ (ecells)) ?_;exact hl') ⟨oc',R₁.imm _ _ hwc'',hdc⟩ (rp.mono x₁.1) (by refine a9 (congrArg _ (hwc'')) ?_;rfl)
      ·exact(nocell z k).elim
      ·exact(nocell z k).elim
      ·refine a9 (congrArg _ (aA.mp hbO)) ?_;exact eq__48 _
      ·exact(aA.mp hbO)▸.inl eloc.symm
    ·rw[if_neg hl2]at hs;exact absurd rfl hs
   ·rw[if_neg hl]at hs;exact absurd rfl hs
  ·(injection hm)
end
section
theorem Ok.less(o:Ok A (D+1) fl):Ok A D fl:=⟨o.hd,by have :=o.dp;exact eq__3 [_,_] (.le (.a Z0 (.m 4 Z1)) (.n 900)) (.le (.a Z0 (.m 4 (.a Z1 (.n 1)))) (.n 900)) rfl this,by have :=o.un;exact eq__3 [_,_] (.le (.a Z0 (.m 100 Z1)) (.n 9000)) (.le (.a Z0 (.m 100 (.a Z1 (.n 1)))) (.n 9000)) rfl this,o.fr⟩
theorem eq__895(C:Addr)(rest:List Af)(kw:List (Str×Af)):(jH "type.__call__" ⟨.ref C::rest,kw⟩).weight=1:=rfl
theorem eq__896(C:Addr)(rest:List Af)(kw:List (Str×Af)):(jH "type.__call__" ⟨.ref C::rest,kw⟩).cUnits=1:=rfl
theorem Ok.under(o:Ok A (D+1) fl)(C:Addr)(rest:List Af)(kw:List (Str×Af)):Ok (A.under (.builtin "type.__call__" ⟨.ref C::rest,kw⟩)) D fl:=
 ⟨o.hd,by have :=o.dp;refine(?_:A.depth+(jH "type.__call__" ⟨.ref C::rest,kw⟩).weight+4*D≤900);skip;exact eq__3 [_,_] (.le (.a (.a Z0 (.n 1)) (.m 4 Z1)) (.n 900)) (.le (.a Z0 (.m 4 (.a Z1 (.n 1)))) (.n 900)) rfl this,by have :=o.un;refine(?_:A.units+(jH "type.__call__" ⟨.ref C::rest,kw⟩).cUnits+100*D≤9000);skip;exact eq__3 [_,_] (.le (.a (.a Z0 (.n 1)) (.m 100 Z1)) (.n 9000)) (.le (.a Z0 (.m 100 (.a Z1 (.n 1)))) (.n 9000)) rfl this,o.fr⟩
noncomputable def uE(k:Nat):Val→St→Out St Val:=fun r σ'=>match r with|.none=>.ok (.ref k) σ'|_=>.stuck
theorem eq__390(TB:pS prog w g K T D)(HX:rS prog w g T D n){fI:Addr}{d:qU}{o:Obj}(X:uD g fI code d o fd)(hm:makesIn K C=true)(hi:findIn K (.ref C) "__init__"=some (some (.ref fI)))(hf:typeIn K (.ref fI)=some (.type "function"))(ok:Ok A (D+2) fl)(fs:Frames W s.heap fl)(R:Rel prog w g W σ s.heap){rest:List Af}{kw:List (Str×Af)}(binds:Addr→List (Str×Af))(hb:∀x(s':Ad),K.In s'.heap→BindsTo s' fd ⟨.ref x::rest,kw⟩ (binds x))(hB:∀(W':Wd)x,W.le W'→W' x=.obj σ.length→tI W' d (d.pars.zip (.ref σ.length::vs)) (binds x))(hs:((callD T n code d (.ref σ.length::vs) (σ++[.inst C []])).bind (uE σ.length))≠.stuck):
  Snd prog w g Rep A (call (.ref C) rest kw) ((callD T n code d (.ref σ.length::vs) (σ++[.inst C []])).bind (uE σ.length)) W s:=by
 intros n20 X D X s X fl X TB X HX X d X o X fd X X X hm X hi X hf X ok X fs X R X kw X binds Nat n Ae A Aa prog Ab w Wd W LV vs St σ Ac g Tab T Frag K Addr C Addr code Addr fI LVl rest
 refine fN ?_
 dsimp only[callD,rJ]at hs⊢
 by_cases hl:d.pars.length=(Val.ref σ.length::vs).length
 ·rw[if_pos hl]at hs⊢;simp only[eq__151]at hs⊢;have' KI:=R.kin (s:=s) TB.kin;rcases s with⟨hh,gn,dr,tk,os⟩;intros n21 X fl X TB X HX X d X o X fd X ok X kw X binds X hh X gn X dr X os Nat D Nat tk;refine make_core (makes_of KI hm) (j7 KI hi) (fun self=>bind_fn KI self hf) (.inl rfl) ?_;have' R:Rel prog w g W σ hh:=R;have' fs:Frames W hh fl:=fs;generalize hH:(hh.push emptyDict).push (instObj C hh.objs.size)=H;have kH:∀b o,hh.get? b=some o→H.get? b=some o:=fun b o e=>by rw[←hH];exact bE _ (bE _ e)
  have eD:H.get? hh.objs.size=some emptyDict:=by rw[←hH];exact bE _ (bO _ rfl)
  refine(?_:(H.get? (hh.objs.size+1)=some (instObj C hh.objs.size))→_) ?_;rotate_left;·
   rw[←hH];have :=bO (hh.push emptyDict) (o:=instObj C hh.objs.size) rfl;rw[gO]at this;exact this
  intro eX;have' nX:hh.get? (hh.objs.size+1)=none:=eq__109 (fY _);have' ne:hh.objs.size≠hh.objs.size+1:=dH (cU _);refine eq__56 (R.newInst (h':=H) (a:=hh.objs.size+1) (d:=hh.objs.size) (c:=.inst C []) nX (eq__48 hh) ne kH ⟨_,eX⟩ ⟨_,eD⟩
   ⟨hh.objs.size,fun _=>none,by rw[Wd.put_ne _ _ ne,Wd.put_self],eX,⟨#[],0,eD,fun e he=>by simp at he,fun _=>rfl,aN _⟩,fun y=>rfl⟩) fun R₁ x₁ l₁=>?_;generalize hV:(W.put hh.objs.size (.dic σ.length)).put (hh.objs.size+1) (.obj σ.length)=V at R₁ x₁ l₁;have hVx:V (hh.objs.size+1)=.obj σ.length:=by rw[←hV];exact Wd.put_self ..
  have' ok':Ok (A.under (.builtin "type.__call__" ⟨.ref C::rest,kw⟩)) (D+1) fl:=ok.under _ _ _;have hs1:sE (exs T n d.body {scope:=d.scope,fn:=true,vars:=d.pars.zip (.ref σ.length::vs),code:=code} (σ++[.inst C []]))≠.stuck:=fun q=>hs (by rw[q];rfl);refine eq__387 (s:=⟨H,gn,dr,tk,os⟩) TB HX X ok' (fs.ext x₁) R₁ (hb _ _ (R₁.kin (s:=⟨H,gn,dr,tk,os⟩) TB.kin)) (hB V _ l₁ hVx) hs1 (fun v s' p=>?_) fun e s' p=>?_
  ·rcases p with⟨u,σ₂,W₂,h₂,tk₂,e1,rfl,x₂,R₂,rep⟩;rw[e1]at hs⊢;clear e1;cases u with
   |none=>
    refine⟨eq__53.mp rep,?_⟩;exact⟨.ref σ.length,σ₂,W₂,h₂,tk₂,rfl,rfl,x₁.trans x₂,R₂,eq__35.mpr (eq__2 _ rfl (x₂.1.obj hVx))⟩
   |_=>exact absurd rfl hs
  ·exact PostX.bind (PostX.back (s:=⟨hh,gn,dr,tk,os⟩) (tk:=tk) x₁ p)
 ·rw[if_neg hl]at hs;exact absurd rfl hs
end
noncomputable def sK:List Af:=[.type "Exception",.type "BaseException",.type "object"]
noncomputable def vY:Data→Option ClassData
 |.cls c=>some c
 |_=>none
theorem eq__738{d:Data}{c:ClassData}(h:vY d=some c):d=.cls c:=by cases d<;>first|exact congrArg Data.cls (a6 h)|(injection h)
noncomputable def six{α:Type}(l:List α):Option α:=f0 l none fun _ l=>f0 l none fun _ l=>f0 l none fun _ l=>f0 l none fun _ l=>f0 l none fun y l=>f0 l none fun _ l=>f0 l (some y) fun _ _=>none
theorem eq__739{l:List α}{x:α}(h:six l=some x):∃a b c d f,l=[a,b,c,d,x,f]:=by
 rcases l with _|⟨a,_|⟨b,_|⟨c,_|⟨d,_|⟨y,_|⟨f,_|⟨g,t⟩⟩⟩⟩⟩⟩⟩<;>first|exact eq__575 a b c d f (congrArg (fun z=>[a,b,c,d,z,f]) (a6 h))|(injection h)
theorem eq__740(h:(!b)=true):b=false:=by cases b<;>first|rfl|exact eG h
noncomputable def rW(K:Frag)(C:Addr)(init:Option Af):Bool:=(K.lookup C).any fun o=>o.cls==.type "type"&&(six o.slots.toList==some (some (.builtin "Exception.__new__"))&&
 (vY o.data).any fun cd=>cd.mro==.ref C::sK&&(!cd.hasDel&&(nsOkIn K cd.ns&&nsIn K cd.ns "__init__"==some init)))
variable{mg:Str→Option Af}
set_option tactic.hygienic true in
theorem eq__179{N:Addr}{n:Str}{v:Af}(X:K.In h)(G:h.Ns N mg)(e:nsIn K N n=some (some v)):mg n=some v:=by
 intros n4 X mg Ac h Frag K Addr N Str n Af v
 obtain⟨o,es,ep,ho,hd,_,hf⟩:=G
 revert e;unfold nsIn
 cases q:K.lookup N with
 |none=>exact fun e=>by cases e
 |some o'=>
  rcases a6 (ho.symm.trans (X _ _ q))with rfl;rcases o with⟨c,sl,d',n'⟩;obtain rfl:d'=_:=hd;intro e;refine(?_:(match es.toList.find? (·.key.isStr n)with|some e=>some (some e.val)|none=>if es.toList.any (·.refKey)then none else some none)=some (some v)→_) e;rw[←hf];unfold nsFind findBy;rw[←lH];cases es.toList.find? (·.key.isStr n)with
  |some e'=>exact fun e=>a6 e
  |none=>exact fun e=>by by_cases hq:es.toList.any (·.refKey)=true<;>first|cases(if_pos hq).symm.trans e|cases(if_neg hq).symm.trans e
inductive wQ(h:Ac)(C:Addr)(init:Option Af):Prop
 |mk(nm qn:Str)(N:Addr)(bs:List Af)(hdct:Bool)(sn:List Str)(sub:List Af)(ab:Bool)(col:Option Bool)(dd:Option Addr)(k0 k1 k2 k3 k5:Option Af)(mN:Str→Option Af)
  (hC:h.get? C=some (excClassObj nm qn C N bs sK hdct sn sub ab col dd k0 k1 k2 k3 k5 "Exception.__new__"))(hN:h.Ns N mN)(e:mN "__init__"=init)
set_option tactic.hygienic true in
theorem eq__153{a:Bool}(h:(a&&b)=true):a=true∧b=true:=by cases a<;>first|exact⟨rfl,h⟩|exact eG h
theorem eq__180{init:Option Af}(X:K.In h)(q:rW K C init=true):wQ h C init:=by
 intros n2 Ac h Frag K Addr C OV init
 unfold rW at q
 cases hl:K.lookup C with
 |none=>replace q:=(hl)▸q;exact(aC q).elim
 |some o=>
  replace q:=(hl)▸q;rcases o with⟨ocls,dd,dat,sl⟩;have q1:=eq__153 q;have e1:=eq_of_beq q1.1;have q2:=eq__153 q1.2;refine eq__572 (eq__739 (eq_of_beq q2.1)) fun k0 k1 k2 k3 k5 hsl=>?_;have q4:=q2.2;cases hdt:vY dat with
  |none=>rw[show vY (Obj.mk ocls dd dat sl).data=none from hdt]at q4;exact(aC q4).elim
  |some cd=>
   rw[show vY (Obj.mk ocls dd dat sl).data=some cd from hdt]at q4;have e2:=eq__738 hdt;have q5:=eq__153 q4;have q6:=eq__153 q5.2;have q7:=eq__153 q6.2;have hns:h.Ns cd.ns (h.nsMap cd.ns):=.of_isNs (isNs_of_in X q7.1);have hni:=eq_of_beq q7.2;have ec:cd=⟨cd.name,cd.bases,.ref C::sK,cd.ns,cd.qualname,cd.hasDict,cd.slotNames,cd.subclasses,cd.abstract,cd.collection,false⟩:=by
    rw[←eq_of_beq q5.1,←eq__740 q6.1]
   have eo:Obj.mk ocls dd dat sl=⟨.type "type",dd,.cls ⟨cd.name,cd.bases,.ref C::sK,cd.ns,cd.qualname,cd.hasDict,cd.slotNames,cd.subclasses,cd.abstract,cd.collection,false⟩,#[k0,k1,k2,k3,some (.builtin "Exception.__new__"),k5]⟩:=by
    rw[show ocls=.type "type" from e1,e2,←ec,show sl=#[k0,k1,k2,k3,some (.builtin "Exception.__new__"),k5]from congrArg Array.mk hsl]
   refine⟨_,_,_,_,_,_,_,_,_,dd,k0,k1,k2,k3,k5,_,(X _ _ hl).trans (congrArg some eo),hns,?_⟩;clear q7 q6 q5 q4 q2 q1 q;cases init with
   |none=>exact ns_none_of X hns hni
   |some v=>exact eq__179 X hns hni
section
theorem eq__391{init:Option Af}(X:K.In g)(q:rW K C init=true):uB g C:=by
 rcases eq__180 X q with⟨nm,qn,N,bs,hdct,sn,sub,ab,col,dd,k0,k1,k2,k3,k5,mN,h1,_⟩
 exact⟨nm,qn,N,bs,_,hdct,sn,sub,ab,col,dd,k0,k1,k2,k3,k5,_,h1,by decide+kernel⟩
theorem eq__392(R:Rel prog w g W σ h){t:Addr}(n:h.get? a=none)(k:∀a o,h.get? a=some o→h'.get? a=some o)(ho:h'.get? a=some (uC C t none)):
  Rel prog w g (W.put a (.obj σ.length)) (σ++[.exn C []]) h'∧Ext [] W h (W.put a (.obj σ.length)) h'∧W.le (W.put a (.obj σ.length)):=
 R.newCell n k ⟨_,ho⟩ ⟨_,_,ho,rfl,rfl,by simp,.inl ⟨rfl,rfl⟩⟩
theorem eq__393(X:K.In g)(hk:keepIn K (.ref C)=true)(q:rW K C none=true):ExnOk prog w g K D C none:=by
 refine⟨hk,eq__391 X q,fun A fl W σ s v rv fs ok fr R rep hf=>?_⟩
 rcases a6 hf with rfl
 rcases eq__180 (R.kin (s:=s) X) q with⟨nm,qn,N,bs,hdct,sn,sub,ab,col,dd,k0,k1,k2,k3,k5,mN,hC,hN,hni⟩
 clear fr;rcases s with⟨hp,gn,d,t,os⟩
 refine wpAny_call_exc_sub j2 hC hN hni (fun h' e hm=>?_) (by refine(?_:1≤sizeLine);decide)
 (refine eq__1 hm.there fun tt he _=>?_)
 obtain⟨R',x',_⟩:_:=eq__392 (C:=C) R hm.new hm.keeps he
 exact⟨e,tt,none,_,h',t,rfl,rfl,hm.new,x',R',Wd.put_self ..,he⟩
theorem eq__741(self:Af):refuseLoop self "__setattr__" sK=pure ():=by kernel_rfl
theorem eq__742(R:Rel prog w g W σ h)(nodic:∀b,W b≠.dic k){t:Addr}{x:Str}{V:Wd}(hw:W a=.obj k)(nd:h.get? d=none)(Vd:V d=.dic k)(Vo:∀b,b≠d→V b=W b)(l:W.le V)(k2:∀b o,b≠a→h.get? b=some o→h'.get? b=some o)(oa:h'.get? a=some (uC C t (some d)))(nm:h'.Ns d m)(hF:FldRel V [(x,v)] m):Rel prog w g V (σ.set k (.exn C [(x,v)])) h'∧Ext [] W h V h':=by
 intros n13 X g X R X nodic X m Aa prog Ab w Addr a Wd W Val v Nat k Ac h Ac h' Addr d St σ Addr C Addr t Str x Wd V
 have obj:∀b j,V b=.obj j→W b=.obj j:=fun b j e=>by
  by_cases r:b=d;·rw[r,Vd]at e;(injection e)
  ·rw[Vo b r]at e;exact e
 have dic:∀b j,V b=.dic j→(b=d∧j=k)∨(b≠d∧W b=.dic j):=fun b j e=>by
  by_cases r:b=d;·rw[r,Vd]at e;(injection e with hq_;subst hq_);exact .inl ⟨r,rfl⟩
  ·rw[Vo b r]at e;exact .inr ⟨r,e⟩
 have lt:=R.kOf hw
 refine⟨⟨fun b o e=>l.imm (R.gnd b o e),fun b o e=>?_,fun b nb=>?_,fun b j e=>?_,fun j hj=>?_,fun y z j ey ez=>R.uniq y z j (obj y j ey) (obj z j ez),fun y z j ey ez=>?_,fun y j e=>?_⟩,l,fun b o e=>?_⟩
 ·by_cases r:b=d;·rw[r,Vd]at e;(injection e)
  ·replace e:=(Vo b r)▸e;exact k2 b o (fun q=>by rw[q,hw]at e;(injection e)) (R.imm b o e)
 ·by_cases r:b=d;·obtain⟨o,_,_,ho,_⟩:=nm;exact(r)▸⟨o,ho⟩
  ·rw[Vo b r]at nb;by_cases ra:b=a;·rw[ra];exact⟨_,oa⟩
   ·obtain⟨o,p⟩:_:=R.live b nb;exact⟨o,k2 b o ra p⟩
 ·have' e':=obj b j e;by_cases r:j=k
  ·rw[r]at e'⊢;rw[R.uniq _ _ _ e' hw];exact eq__2 _ (gV lt) ⟨_,_,oa,rfl,rfl,(by refine(?_:1<6);decide),.inr ⟨_,_,Vd,rfl,nm,hF⟩⟩
  ·(refine eq__1 (R.cell b j e') fun c hc p=>?_);refine eq__2 c (by refine a9 (aX (cW r)) ?_;exact hc) (p.keep l fun y o hy ey=>k2 y o (fun q=>?_) ey);rw[q]at hy;rcases hy with hy|hy;·clear q ey o y p hc c;rw[←hy,hw]at e';(injection e' with hq_;subst hq_);exact r rfl
   ·rw[hw]at hy;(injection hy)
 ·rw[fZ]at hj;obtain⟨b,e⟩:_:=R.has j hj;exact⟨b,l.obj e⟩
 ·rcases dic y j ey with⟨y1,y2⟩|⟨_,ey⟩<;>rcases dic z _ ez with⟨z1,z2⟩|⟨_,ez⟩;·rw[y1,z1]
  ·rw[y2]at ez;exact absurd ez (nodic _)
  ·rw[z2]at ey;exact absurd ey (nodic _)
  ·exact R.duniq y z j ey ez
 ·rw[fZ];rcases dic y j e with⟨_,q⟩|⟨_,e⟩;·exact(q)▸lt
  ·exact R.dlt y j e
 ·have nb:b≠d:=fun q=>by rw[q,nd]at e;(injection e)
  refine⟨fun _=>Vo b nb,.inr ?_⟩;by_cases r:b=a
  ·rw[r];exact eq__27 _ oa (fun st=>by rw[hw]at st;(injection st)) (fun f=>by rw[hw]at f;(injection f)) (fun f=>by rw[hw]at f;(injection f))
  ·exact eq__27 o (k2 b o r e) (fun _ _=>rfl) (fun _ n=>n) (fun _ _=>⟨o.slots,rfl⟩)
theorem eq__743(R:Rel prog w g W σ s.heap)(nodic:∀b,W b≠.dic k)(X:K.In g){t:Addr}{x:Str}{Q:Unit→Ad→Prop}(hw:W a=.obj k)(ho:s.heap.get? a=some (uC C t none))(hs:findIn K (.ref C) "__setattr__"=some (some (.builtin "object.__setattr__")))(hx:findIn K (.ref C) x=some none)(hd:hasDictIn K C=true){init:Option Af}(q:rW K C init=true)(hob:mroIn K C (.type "object")=some true)(hp:rN v=true)(rep:Rep W v rv)(h:∀W' h' tk d,Rel prog w g W' (σ.set k (.exn C [(x,v)])) h'→Ext [] W s.heap W' h'→W.le W'→h'.get? a=some (uC C t (some d))→Q () {s with heap:=h',toks:=tk}):
  wpAny (model prog w) A (setAttr (.ref a) x rv) Q E s:=by
 intros n18 X g X σ X R X nodic X X X v X Q X init EQ E Ad s Ae A Aa prog Ab w Addr a Wd W Nat k Af rv Frag K Addr C Addr t Str x
 have KI:=R.kin (s:=s) X
 have' I:InstAt s.heap a (uC C t none) C none:=⟨ho,rfl,rfl,trivial⟩
 have' SF:=PySem.F.store_object
 refine set_plain KI I hs ?_
 have' sub1:Looks (model prog w) s.heap (isInstance (.ref a) (.type "object")) true:=I.type.andThen (m4 KI hob)
 refine i6 SF.slot.plain SF.entry (@check_slot (model prog w) _ _ {s with toks:=s.toks+1} "object.__setattr__" "object" "__setattr__" (.ref a) [.str x s.toks,rv] [] _ SF.kind SF.split sub1 (SF.args (.ref a) (.str x s.toks) rv) ?_)
 obtain⟨cd,hcd,hdd⟩:_:=any_some hd
 have hmro:cd.mro=.ref C::sK:=by
  rcases eq__180 KI q with⟨nm,qn,N,bs,hdct,sn,sub,ab,col,dd,k0,k1,k2,k3,k5,mN,hC,_⟩;revert hcd;unfold PySem.W.clsIn;cases ho':K.lookup C with
  |none=>exact fun e=>by cases e
  |some o'=>
   rcases a6 (hC.symm.trans (KI _ _ ho'))with rfl;exact fun e=>by rcases a6 e with rfl;rfl
 have hm:Looks (model prog w) s.heap (mroOf (.ref C)) (.ref C::sK):=by simp only[←hmro];exact(m5 KI hcd).andThen .now
 rw[osa_eq,refuse_eq]
 refine a8 (a8 (i8 (s:={s with toks:=s.toks+1}) I.type (a8 (i8 (s:={s with toks:=s.toks+1}) hm ?_))))
 rw[refuseLoop_ref,eq__741]
 refine aS (a8 (i8 (s:={s with toks:=s.toks+1}) I.type (a8 (i8 (s:={s with toks:=s.toks+1}) (j7 KI hx) (a8 (aS ?_))))))
 refine a8 (aS (a8 (a8 (kG (s:={s with toks:=s.toks+1}) ho (a8 (i8 (s:={s with toks:=s.toks+1}) (m5 KI hcd) ?_))))))
 rw[hdd]
 refine(?_:wpAny _ _ ((alloc emptyDict>>=fun d=>(update a (fun o=>{o with dict:=some d})>>=fun _=>dictMade (.ref C) a d))) _ _ _)
 clear hmro hm hcd hdd sub1 hob hd hx hs q SF I KI
 refine a8 (wpAny_alloc (s:={s with toks:=s.toks+1}) ?_)
 have' nd:s.heap.get? s.heap.objs.size=none:=eq__48 _
 have' ne:a≠s.heap.objs.size:=dH (cG ho)
 have' ho1:(s.heap.push emptyDict).get? a=some (uC C t none):=bE _ ho
 refine a8 (wpAny_update (s:={s with heap:=s.heap.push emptyDict,toks:=s.toks+1}) ho1 ?_)
 refine aS (a:=some s.heap.objs.size) (a8 (aS (a8 ?_)))
 have k1:∀b o,b≠a→s.heap.get? b=some o→((s.heap.push emptyDict).update a (fun o=>{o with dict:=some s.heap.objs.size})).get? b=some o:=fun b o nb e=>
  (dI _ _ (cW nb)).trans (bE _ e)
 have oa:((s.heap.push emptyDict).update a (fun o=>{o with dict:=some s.heap.objs.size})).get? a=some (uC C t (some s.heap.objs.size)):=
  d6 (fun o=>{o with dict:=some s.heap.objs.size}) ho1 rfl
 have od:((s.heap.push emptyDict).update a (fun o=>{o with dict:=some s.heap.objs.size})).get? s.heap.objs.size=some emptyDict:=
  (dI _ _ ne).trans (bO _ rfl)
 generalize(s.heap.push emptyDict).update a (fun o=>{o with dict:=some s.heap.objs.size})=h₁ at k1 oa od⊢
 generalize s.heap.objs.size=d at nd ne od oa⊢
 refine eq__367 (s:={s with heap:=h₁,toks:=s.toks+1}) (d:=d) (m:=fun _=>none) (k:=0) ⟨#[],0,od,fun e he=>by simp at he,fun _=>rfl,aN _⟩ fun h₂ hn₂ sb=>?_
 rcases id hn₂ with⟨es,ep,ho₂,hk',hm',hz⟩
 refine a8 (mG (s:={s with heap:=h₂,toks:=s.toks+1+1}) ho₂ (mH (by rw[sizeLine_eq];simp at hz;exact eq__3 [_] (.le Z0 (.a (.n 16777216) (.n 1))) (.le Z0 (.n 1)) rfl hz)) ?_)
 have l:=Wd.put_le (.dic k) (R.freeAt nd)
 have k2:∀b o,b≠a→s.heap.get? b=some o→h₂.get? b=some o:=fun b o nb e=>(sb.2 b (by clear l ho₂ sb hn₂ oa od ne;rintro rfl;rw[nd]at e;(injection e))).trans (k1 b o nb e)
 have oa2:h₂.get? a=some (uC C t (some d)):=(sb.2 a ne).trans oa
 obtain⟨R',x'⟩:_:=eq__742 (x:=x) (v:=v) R nodic hw nd (Wd.put_self ..) (fun b nb=>Wd.put_ne _ _ nb) l k2 oa2 hn₂.ns (FldRel.put (fs:=[]) (m:=fun _=>none) (fun y=>rfl) (rep.mono l) (eq__368 hp rep))
 exact aS (h _ h₂ _ d R' x' l oa2)
theorem eq__744(TB:pS prog w g K T D){fI:Addr}{d:qU}{o:Obj}(X:uD g fI code d o fd){slf nf attr:Str}{p1 p2 p3:Pos}(hk:keepIn K (.ref C)=true)(q:rW K C (some (.ref fI))=true)(hfc:o.cls=.type "function")(hbody:d.body=[.Assign [.Attribute (.Name slf p1) attr p2] (.Name nf p3) pos])(k1:d.scope.names.lookup slf=some .local)(k2:d.scope.names.lookup nf=some .local)(n1:notDebug slf=true)(n2:notDebug nf=true)(ne:slf≠nf)(hb:∀(s:Ad)x y,K.In s.heap→BindsTo s fd ⟨[x,y],[]⟩ [(slf,x),(nf,y)])(hs:findIn K (.ref C) "__setattr__"=some (some (.builtin "object.__setattr__")))(hx:findIn K (.ref C) attr=some none)(hd:hasDictIn K C=true)(hob:mroIn K C (.type "object")=some true):ExnOk prog w g K (D+2) C (some attr):=by
 refine⟨hk,eq__391 TB.kin q,fun A fl W σ s v rv fs ok fr R rep hf=>?_⟩
 have hp:rN v=true:=by
  cases hp:rN v with
  |true=>rfl
  |false=>have hf:(if rN v then some [(attr,v)]else none)=some fs:=hf;replace hf:=(hp)▸hf;(injection hf)
 obtain rfl:[(attr,v)]=fs:=by
  have' hf:(if rN v then some [(attr,v)]else none)=some fs:=hf;rw[if_pos hp]at hf;exact a6 hf
 clear hf
 refine eq__215 fun P E hP _=>?_
 rcases eq__180 (R.kin (s:=s) TB.kin) q with⟨nm,qn,N,bs,hdct,sn,sub,ab,col,dd,k0,k1',k2',k3,k5,mN,hC,hN,hni⟩
 rcases s with⟨hh,gn,dr,t,os⟩
 have' R:Rel prog w g W σ hh:=R
 have' fr:Frames W hh fl:=fr
 refine wpAny_call_exc_init j2 hC hN hni (R.stays _ _ X.at_) hfc (fun h' e hm=>?_) (by refine(?_:1≤sizeLine);decide)
 clear hC hN hni
 (refine eq__1 hm.there fun tt he _=>?_)
 refine eq__56 (eq__392 (C:=C) R hm.new hm.keeps he) fun R₁ x₁ l₁=>?_
 have' hVe:=Wd.put_self W e (.obj σ.length)
 have' Vo:∀b,b≠e→W.put e (.obj σ.length) b=W b:=fun b nb=>Wd.put_ne _ _ nb
 generalize W.put e (.obj σ.length)=V at R₁ x₁ l₁ hVe Vo
 have' fx:=fr.ext x₁
 have' hn:=hm.new
 clear fr hm
 refine fN (eq__386 (s:=⟨h',gn,dr,t,os⟩) TB X (vars:=[(slf,.ref σ.length),(nf,v)]) (ok.under C [rv] []) fx R₁ (hb _ _ _ (R₁.kin (s:=⟨h',gn,dr,t,os⟩) TB.kin)) ⟨by simp[ne],fun z hz=>?_,fun y u e'=>?_⟩ fun env O W' h'' tk c l₂ hW' keep=>?_)
 ·rcases bC.mp hz with hz|hz;·rw[hz];exact .inl k1
  ·rw[aA.mp hz];exact .inl k2
 ·have' e':(if slf=y then some (Val.ref σ.length)else if nf=y then some v else none)=some u:=e';refine(?_:∃rv',(if slf=y then some (dT e)else if nf=y then some rv else none)=some rv'∧_);by_cases q1:slf=y
  ·rw[if_pos q1]at e'⊢;rcases a6 e' with rfl;exact eq__2 _ rfl (eq__35.mpr ⟨e,rfl,hVe⟩)
  ·rw[if_neg q1]at e'⊢;by_cases q2:nf=y
   ·rw[if_pos q2]at e'⊢;rcases a6 e' with rfl;exact eq__2 _ rfl (rep.mono l₁)
   ·rw[if_neg q2]at e';(injection e')
 ·rw[hbody];refine gZ (i2 ?_);refine eq__207 (s:=⟨h'',gn,dr,tk,os⟩) (v:=v) c.at_.fr (show(if slf=nf then some (Val.ref σ.length)else if nf=nf then some v else none)=some v by rw[if_neg ne,if_pos rfl]) (.inl k2) n2 fun rv' rep'=>?_;refine eq__207 (s:=⟨h'',gn,dr,tk,os⟩) (v:=.ref σ.length) c.at_.fr (if_pos rfl) (.inl k1) n1 fun ro rep₂=>?_;have' hWe:W' e=.obj σ.length:=l₂.obj hVe;refine eq__1 (eq__35.mp rep₂) fun e₂ q1_ hwe₂=>?_;subst q1_;rcases c.at_.rel.uniq _ _ _ hwe₂ hWe with rfl;have nodic:∀b,W' b≠.dic σ.length:=fun b hb'=>by
   rw[hW']at hb';by_cases r1:b=h'.objs.size;·rw[r1,Wd.put_self]at hb';(injection hb')
   ·rw[Wd.put_ne _ _ r1]at hb';by_cases r2:b=e₂;·rw[r2,hVe]at hb';(injection hb')
    ·rw[Vo b r2]at hb';exact absurd (R.dlt _ _ hb') (cN _)
  refine eq__743 (s:=⟨h'',gn,dr,tk,os⟩) c.at_.rel nodic TB.kin hWe (keep _ _ he) hs hx hd q hob hp rep' fun W₃ h₃ tk₃ dd R₃ x₃ l₃ ho₃=>?_;refine gB ⟨rfl,?_⟩;rw[show(σ++[Cell.exn C []]).set σ.length (.exn C [(attr,v)])=σ++[.exn C [(attr,v)]]by simp]at R₃;exact hP _ _ ⟨e₂,tt,_,W₃,h₃,tk₃,rfl,rfl,hn,x₁.trans (c.base.trans x₃),R₃,l₃.obj hWe,ho₃⟩
end
noncomputable def defsL:List (Addr×qU):=[(289,pY (nOf "matches")),(485,pY (nOf "_law_names")),(492,pY (nOf "_law_like")),(497,pY (nOf "_law_spec")),(502,pY (nOf "_law_refusal")),(507,pY (nOf "_law_needs")),(512,pY (nOf "_law_selected")),(517,pY (nOf "_law_made")),
 (144,pJ (nOf "Task") (nOf "_init_deps")),(151,pJ (nOf "Task") (nOf "_init_targets")),(158,pJ (nOf "Task") (nOf "_init_uptodate")),(165,pJ (nOf "Task") (nOf "_expand_file_dep")),(172,pJ (nOf "Task") (nOf "_expand_task_dep")),(201,pJ (nOf "Task") (nOf "init_options")),
 (310,pJ (nOf "TaskControl") (nOf "_check_dep_names")),(317,pJ (nOf "TaskControl") (nOf "set_implicit_deps")),(327,pJ (nOf "TaskControl") (nOf "add_implicit_task_dep")),(337,pJ (nOf "TaskControl") (nOf "_get_wild_tasks")),
 (344,pJ (nOf "TaskControl") (nOf "_process_filter")),(351,pJ (nOf "TaskControl") (nOf "_filter_tasks")),(358,pJ (nOf "TaskControl") (nOf "process"))]
noncomputable def sA(a:Addr):Addr:=if a=344 then 343 else 0
noncomputable def dTask:qU:=pJ (nOf "Task") (nOf "__init__")
noncomputable def dControl:qU:=pJ (nOf "TaskControl") (nOf "__init__")
noncomputable def makeTask(T:Tab)(pos:List Val)(kws:List (Str×Val))(σ:St):Out St Val:=match pos,kws with
 |[n,a],[(k1,t),(k2,u),(k3,g),(k4,f)]=>if k1=nOf "task_dep"∧k2=nOf "setup"∧k3=nOf "targets"∧k4=nOf "file_dep" then
   (callD T 60 0 dTask [.ref σ.length,n,a,f,g,t,.tup [],.tup [],u,.none,.bool false,.none] (σ++[.inst 223 []])).bind (uE σ.length)else .stuck
 |_,_=>.stuck
theorem eq__745{d:β}(r:Val→Val→Str→Val→Str→Val→Str→Val→Str→Val→β):∀(p:List Val)(k:List (Str×Val)),makeTask.match_1 (fun _ _=>β) p k r (fun _ _=>d)≠d→∃n a k1 t k2 u k3 g k4 f,p=[n,a]∧k=[(k1,t),(k2,u),(k3,g),(k4,f)]
 |[],_,h=>absurd rfl h
 |[_],_,h=>absurd rfl h
 |_::_::_::_,_,h=>absurd rfl h
 |[n,a],k,h=>by
  cases k with
  |nil=>exact absurd rfl h
  |cons x1 k=>
  cases k with
  |nil=>exact absurd rfl h
  |cons x2 k=>
  cases k with
  |nil=>exact absurd rfl h
  |cons x3 k=>
  cases k with
  |nil=>exact absurd rfl h
  |cons x4 k=>
  cases k with
  |cons _ _=>exact absurd rfl h
  |nil=>exact⟨n,a,x1.1,x1.2,x2.1,x2.2,x3.1,x3.2,x4.1,x4.2,rfl,rfl⟩
noncomputable def qM(T:Tab)(pos:List Val)(kws:List (Str×Val))(σ:St):Out St Val:=match pos,kws with
 |[l],[]=>(callD T 60 0 dControl [.ref σ.length,l] (σ++[.inst 368 []])).bind (uE σ.length)
 |_,_=>.stuck
noncomputable def tS(T:Tab)(C:Addr):Option (List Val→List (Str×Val)→EM):=if C=223 then some (makeTask T)else if C=368 then some (qM T)else none
noncomputable def tX:Nat→(Addr→Option (List Val→EM))×(Addr→Option (List Val→List (Str×Val)→EM))×(CloD→Option (List Val→List Val→EM))
 |0=>(fun _=>none,fun _=>none,fun _=>none)
 |k+1=>(fun a=>(defsL.lookup a).map fun d=>callD (sX (tX k).1 (tX k).2.1 (tX k).2.2) 60 (sA a) d,tS (sX (tX k).1 (tX k).2.1 (tX k).2.2),cloT (sX (tX k).1 (tX k).2.1 (tX k).2.2) 60)
noncomputable def Tn(k:Nat):Tab:=sX (tX k).1 (tX k).2.1 (tX k).2.2
structure sB(prog:Aa)(w:Ab)(g:Ac)(K:Frag):Prop where
 kin:K.In g
 kit:Kit K (Tn 0)
 keepF:∀a,(defsL.lookup a).isSome=true∨a=223∨a=368→keepIn K (.ref a)=true
 sys:∃b o,g.get? b=some o∧sysModules<b
 lim:g.NoLimit
 nest:CodeHd g 343 339
 bm:∃mg,g.Ns mainGlobals mg∧g.BuiltinsAt mg 339
 glob:∃mg mb,g.Ns mainGlobals mg∧g.Ns builtinsNs mb∧∀x v,look x qI=some v→∃rv,(mg x=some rv∨(mg x=none∧mb x=some rv))∧∀W:Wd,(∀a o,g.get? a=some o→W a=.imm o)→Rep W v rv
 fns:∀a d,defsL.lookup a=some d→∃o fd,uD g a (sA a) d o fd∧∀(s:Ad)(rvs:List Af),K.In s.heap→rvs.length=d.pars.length→BindsTo s fd ⟨rvs,[]⟩ (d.pars.zip rvs)
 task:∃o fd,uD g 137 0 dTask o fd∧makesIn K 223=true∧findIn K (.ref 223) "__init__"=some (some (.ref 137))∧typeIn K (.ref 137)=some (.type "function")∧
  ∃e1 e2:Af,(∀W:Wd,(∀a o,g.get? a=some o→W a=.imm o)→Rep W (.tup []) e1∧Rep W (.tup []) e2)∧
   ∀(s:Ad)(x n a t u gg f:Af),K.In s.heap→BindsTo s fd ⟨[x,n,a],[(nOf "task_dep",t),(nOf "setup",u),(nOf "targets",gg),(nOf "file_dep",f)]⟩
    [(nOf "self",x),(nOf "name",n),(nOf "actions",a),(nOf "file_dep",f),(nOf "targets",gg),(nOf "task_dep",t),(nOf "uptodate",e1),(nOf "calc_dep",e2),(nOf "setup",u),(nOf "subtask_of",.none),(nOf "has_subtask",.bool false),(nOf "getargs",.none)]
 control:∃o fd,uD g 303 0 dControl o fd∧makesIn K 368=true∧findIn K (.ref 368) "__init__"=some (some (.ref 303))∧typeIn K (.ref 303)=some (.type "function")∧
  ∀(s:Ad)(x l:Af),K.In s.heap→BindsTo s fd ⟨[x,l],[]⟩ [(nOf "self",x),(nOf "task_list",l)]
 taskPars:dTask.pars=["self","name","actions","file_dep","targets","task_dep","uptodate","calc_dep","setup","subtask_of","has_subtask","getargs"].map nOf
 taskKind:∀x∈dTask.pars,dTask.scope.names.lookup x=some .local∨dTask.scope.names.lookup x=some .cell
 controlPars:dControl.pars=[nOf "self",nOf "task_list"]
 controlKind:∀x∈dControl.pars,dControl.scope.names.lookup x=some .local∨dControl.scope.names.lookup x=some .cell
section
theorem FnOk.up{m:List Val→EM}(h:FnOk prog w g D a m):FnOk prog w g (D+1) a m:=fun A fl W σ s vs rvs ok=>h A fl W σ s vs rvs ok.less
theorem CloOk.up{d:CloD}{m:List Val→List Val→EM}(h:CloOk prog w g D d m):CloOk prog w g (D+1) d m:=fun A fl W σ s cap vs f rvs ok=>h A fl W σ s cap vs f rvs ok.less
theorem eq__746(P:sB prog w g K):∀k,Kit K (Tn k)
 |0=>P.kit
 |k+1=>⟨P.kit.get,P.kit.gete,P.kit.set,P.kit.meth,P.kit.stat,P.kit.isStr,fun a h=>P.keepF a (by
   rcases h with h|h
   ·refine .inl ?_;have' h:((defsL.lookup a).map fun d=>callD (Tn k) 60 (sA a) d).isSome=true:=h;rw[lV]at h;exact h
   ·refine .inr ?_;have' h:(tS (Tn k) a).isSome=true:=h;unfold tS at h;split at h;·rename_i e;exact .inl e
    ·split at h;·rename_i e;exact .inr e
     ·(injection h))⟩
set_option tactic.hygienic true in
theorem eq__747(P:sB prog w g K)(TB:pS prog w g K T D)(HX:rS prog w g T D 60):u8 prog w g (D+2) 223 (makeTask T):=by
 intros n4 X D Aa prog Ab w Ac g Tab T Frag K
 intro A fl W σ s vs rvs ks rks ok fs R q qk hs
 unfold makeTask at hs⊢
 rcases eq__745 _ _ _ hs with⟨n,a,k1,t,k2,u,k3,gg,k4,f,rfl,rfl⟩
 ·dsimp only at hs⊢;split at hs
  ·rename_i hk;rw[if_pos hk];rcases hk with⟨rfl,rfl,rfl,rfl⟩;(refine eq__297 P.task fun o fd X hm hi hf q1_=>?_;rcases q1_ with⟨e1,e2,he,hb⟩);obtain⟨rn,_,rfl,pn,q⟩:=RepL.cons.mp q;obtain⟨ra,_,rfl,pa,q⟩:=RepL.cons.mp q;rcases RepL.nil.mp q with rfl;simp only[aG,aQ]at qk⊢;obtain⟨rt,_,rfl,pt,qk⟩:=RepL.cons.mp qk;obtain⟨ru,_,rfl,pu,qk⟩:=RepL.cons.mp qk;obtain⟨rg,_,rfl,pg,qk⟩:=RepL.cons.mp qk;obtain⟨rf,_,rfl,pf,qk⟩:=RepL.cons.mp qk;rcases RepL.nil.mp qk with rfl;skip;refine eq__390 TB HX X hm hi hf ok fs R _ (fun x s' K'=>hb s' (.ref x) rn ra rt ru rg rf K') (fun W' x l hx=>?_) hs;have ge:∀a o,g.get? a=some o→W' a=.imm o:=fun a o e=>l.imm (R.gnd a o e);refine⟨by simp only[aG,aQ];decide+kernel,fun y hy=>?_,fun y v e=>?_⟩
   ·refine P.taskKind y.1 ?_;rw[P.taskPars];have' this:=cY (f:=(·.1)) hy;exact this
   ·replace e:=(P.taskPars)▸e;have' key:∀(z:Str)(vv:Val)(rr:Af),Rep W' vv rr→∃rv,some rr=some rv∧Rep W' vv rv:=fun z vv rr h=>⟨rr,rfl,h⟩;have' hx':Rep W' (.ref σ.length) (.ref x):=eq__35.mpr (eq__2 x rfl hx);have' h1:=pn.mono l;have' h2:=pa.mono l;have' h3:=pt.mono l;have h4:=pu.mono l;have h5:=pg.mono l;have h6:=pf.mono l;have h7:=(he W' ge).1;have h8:=(he W' ge).2;have' hm:=eq__69 _ _ _ e;simp only[aG,aQ,bJ,bT,bC,c7,or_false,dX]at hm;clear e;rcases hm with⟨rfl,rfl⟩|⟨rfl,rfl⟩|⟨rfl,rfl⟩|⟨rfl,rfl⟩|⟨rfl,rfl⟩|⟨rfl,rfl⟩|⟨rfl,rfl⟩|⟨rfl,rfl⟩|⟨rfl,rfl⟩|⟨rfl,rfl⟩|⟨rfl,rfl⟩|⟨rfl,rfl⟩;·exact eq__2 _ (by rfl) hx'
    ·exact eq__2 _ (by rfl) h1
    ·exact eq__2 _ (by rfl) h2
    ·exact eq__2 _ (by rfl) h6
    ·exact eq__2 _ (by rfl) h5
    ·exact eq__2 _ (by rfl) h3
    ·exact eq__2 _ (by rfl) h7
    ·exact eq__2 _ (by rfl) h8
    ·exact eq__2 _ (by rfl) h4
    ·exact eq__2 _ (by rfl) (eq__53.mpr rfl)
    ·exact eq__2 _ (by rfl) (eq__63.mpr rfl)
    ·exact eq__2 _ (by rfl) (eq__53.mpr rfl)
  ·exact absurd rfl hs
set_option tactic.hygienic true in
theorem eq__748(P:sB prog w g K)(TB:pS prog w g K T D)(HX:rS prog w g T D 60):u8 prog w g (D+2) 368 (qM T):=by
 intros n4 X D Aa prog Ab w Ac g Tab T Frag K
 intro A fl W σ s vs rvs ks rks ok fs R q qk hs
 unfold qM at hs⊢
 split at hs
 ·rename_i lst;refine eq__297 P.control fun o fd X hm hi hf hb=>?_;obtain⟨rl,_,rfl,pl,q⟩:=RepL.cons.mp q;rcases RepL.nil.mp q with rfl;skip;rcases RepL.nil.mp qk with rfl;skip;refine eq__390 TB HX X hm hi hf ok fs R _ (fun x s' K'=>hb s' (.ref x) rl K') (fun W' x l hx=>?_) hs;refine⟨by simp only[aG,aQ];decide+kernel,fun y hy=>?_,fun y v e=>?_⟩
  ·refine P.controlKind y.1 ?_;rw[P.controlPars];have' this:=cY (f:=(·.1)) hy;simpa using this
  ·replace e:=(P.controlPars)▸e;have' hm:=eq__69 _ _ _ e;simp only[bJ,bT,bC,c7,or_false,dX]at hm;clear e;rcases hm with⟨rfl,rfl⟩|⟨rfl,rfl⟩;·exact eq__2 _ (by rfl) (eq__35.mpr ⟨x,rfl,hx⟩)
   ·exact eq__2 _ (by rfl) (pl.mono l)
 ·exact absurd rfl hs
theorem eq__394(P:sB prog w g K)(D:Nat):pS prog w g K (Tn 0) D:=⟨P.kin,P.kit,P.sys,P.lim,P.nest,P.bm,P.glob,(fun _ _ h=>by(injection h)),(fun _ _ h=>by(injection h)),(fun _ _ h=>by(injection h))⟩
theorem eq__395(P:sB prog w g K)(XT:∀k,rP prog w g K (Tn k) (2*k+2)):∀k,pS prog w g K (Tn k) (2*k+2)
 |0=>eq__394 P 2
 |k+1=>by
  have' TB:=eq__395 P XT k;have HX:=(eq__239 (fun n=>eq__231 TB n) TB (XT k) 60).2;refine⟨P.kin,eq__746 P (k+1),P.sys,P.lim,P.nest,P.bm,P.glob,fun a m h=>?_,fun d m h=>?_,fun a m h=>?_⟩
  ·have' h:((defsL.lookup a).map fun d=>callD (Tn k) 60 (sA a) d)=some m:=h;refine eq__1 (aJ.mp h) fun d hd q1_=>?_;subst q1_;(refine eq__31 (P.fns a d hd) fun o fd X hb=>?_);exact(eq__733 TB HX X hb).up
  ·exact(eq__737 TB HX h).up
  ·have' h:tS (Tn k) a=some m:=h;unfold tS at h;split at h;·rename_i e;rcases a6 h with rfl;subst e;exact eq__747 P TB HX
   ·split at h;·rename_i e;rcases a6 h with rfl;subst e;exact eq__748 P TB HX
    ·(injection h)
end
set_option tactic.hygienic true
theorem eq__114{x:Option α}{p:α→Bool}(h:x.any p=true):∃a,x=some a∧p a=true:=by
 cases x with
 |none=>injection h
 |some a=>exact eq__2 a rfl h
noncomputable def dFn:Data→Option FuncData|.func fd=>some fd|_=>none
noncomputable def xA:Data→Option (Array Af)|.fields vs=>some vs|_=>none
noncomputable def wR:Data→Option (Array Af)|.seq vs _=>some vs|_=>none
noncomputable def wS:Af→Option Str|.str q _=>some q|_=>none
theorem eq__749{d:Data}{x:FuncData}(h:dFn d=some x):d=.func x:=by cases d<;>first|exact congrArg Data.func (a6 h)|(injection h)
theorem eq__750{d:Data}{x:Array Af}(h:xA d=some x):d=.fields x:=by cases d<;>first|exact congrArg Data.fields (a6 h)|(injection h)
theorem eq__396{d:Data}{x:Array Af}(h:wR d=some x):∃n,d=.seq x n:=by cases d<;>first|exact⟨_,congrArg (fun z=>Data.seq z _) (a6 h)⟩|(injection h)
theorem eq__397{v:Af}{x:Str}(h:wS v=some x):∃t,v=.str x t:=by cases v<;>first|exact⟨_,congrArg (fun z=>jO z _) (a6 h)⟩|(injection h)
noncomputable def uX(K:Frag)(a:Addr):Option FuncData:=(K.lookup a).bind fun o=>if(o.cls==.type "function")=true then dFn o.data else none
theorem eq__751(h:uX K a=some fd):∃o,K.lookup a=some o∧o.cls=.type "function"∧o.data=.func fd:=by
 rcases aB.mp h with⟨o,ho,h⟩
 rcases eq__87 h with⟨h1,h2⟩
 exact eq__7 o ho (beq_iff_eq.mp h1) (eq__749 h2)
noncomputable def xB(K:Frag)(fd:FuncData):Bool:=((u0 fd.code).bind fun c=>(K.lookup c).bind fun o=>(xA o.data).bind fun vs=>vs[(1:Nat)]?.bind wS)==some fd.qualname
theorem eq__752(X:K.In g)(h:xB K fd=true):g.CodeRec fd.code fd.qualname:=by
 rcases aB.mp (beq_iff_eq.mp h)with⟨c,hc,h⟩
 rcases aB.mp h with⟨o,ho,h⟩
 rcases aB.mp h with⟨vs,hv,h⟩
 rcases aB.mp h with⟨u,hu,h⟩
 rcases eq__397 h with⟨t,ht⟩
 exact⟨c,o,vs,t,eq__105 hc,X _ _ ho,eq__750 hv,ht▸hu⟩
noncomputable def fnB(K:Frag)(a code:Addr):Bool:=match uX K a with
 |some fd=>fd.globals==mainGlobals&&fd.builtins==builtinsNs&&fd.closure.isEmpty&&xB K fd&&(code==0||fd.code==.ref code)
 |none=>false
noncomputable def uF(K:Frag)(a:Addr):Option (FuncBody×Ah):=(uX K a).map fun fd=>(fd.body,fd.scope)
noncomputable def sL(K:Frag)(a:Addr)(args:Args)(S:Setting):Option (List (Str×Af)):=(uX K a).bind fun fd=>peek K S (bindArgs fd args)
theorem eq__115{α:Type}:∀{l:List (Addr×α)}{a:Addr}{v:α},l.lookup a=some v→(a,v)∈l
 |[],_,_,h=>by(injection h)
 |(b,u)::r,a,v,h=>by
  rw[bQ]at h;split at h;·rename_i e;cases h;rw[beq_iff_eq.mp e];exact aO
  ·exact aU _ (eq__115 h)
theorem eq__753{d:qU}(X:K.In g)(h1:fnB K a code=true)(h2:uF K a=some (.stmts d.body,d.scope))(h3:rK d.pars d.scope=true):
  ∃o fd,uD g a code d o fd∧uX K a=some fd∧o.cls=.type "function":=by
 have h1':=h1
 unfold fnB at h1
 split at h1
 ·rename_i fd hf;unfold uF at h2;rw[hf]at h2;simp only[aD,oX,dX]at h2;simp only[aF,beq_iff_eq,cK,cZ]at h1;refine eq__14 h1 fun q1_ g5=>?_;rcases q1_ with⟨⟨⟨g1,g2⟩,g3⟩,g4⟩;have hf':=hf;rcases eq__751 hf with⟨o,ho,hc,hd⟩;refine eq__24 o fd ⟨X _ _ ho,hd,h2.1,h2.2,g1,g2,g3,eq__752 X g4,fun hc=>?_,h3⟩ hf' hc
  ·refine cD (g5) (fun g5=>?_) fun g5=>?_;·exact absurd g5 hc
   ·exact g5
 ·(injection h1)
theorem eq__398{args:Args}{binds:List (Str×Af)}(hf:uX K a=some fd)(X:K.In s.heap)(h:∀S,sL K a args S=some binds):BindsTo s fd args binds:=by
 refine kp_binds X fun S=>?_
 have :=h S
 unfold sL at this
 rw[hf]at this
 exact this
noncomputable def dInv:qU:=pJ (nOf "InvalidCommand") (nOf "__init__")
noncomputable def defsA:List (Addr×qU):=(36,dInv)::(303,dControl)::defsL
noncomputable def defsT:List (Addr×qU):=(137,dTask)::defsA
noncomputable def tA(n:Nat)(x y z u:Af):List Af:=[x,y,z,u].take n
theorem eq__754:∀{l:List Af},l.length≤4→tA l.length (l.getD 0 .none) (l.getD 1 .none) (l.getD 2 .none) (l.getD 3 .none)=l
 |[],_=>rfl
 |[_],_=>rfl
 |[_,_],_=>rfl
 |[_,_,_],_=>rfl
 |[_,_,_,_],_=>rfl
 |_::_::_::_::_::_,h=>by simp at h
noncomputable def wG(K:Frag)(C:Addr)(x:Str):Bool:=plainGet K C x&&hasDictIn K C&&(match findIn K (.ref C) x with|some attr=>noGet K attr|none=>false)
noncomputable def wH(K:Frag)(C:Addr)(x:Str):Bool:=findIn K (.ref C) "__setattr__"==some (some (.builtin "object.__setattr__"))&&plainOver K C&&takerIn K C x==some none
noncomputable def vL(K:Frag)(C:Addr)(x:Str)(f:Addr):Bool:=plainGet K C x&&findIn K (.ref C) x==some (some (.ref f))&&isFn K (.ref f)
noncomputable def xC:CFound→Option (Af×Af×Af×Af)|.get g a o t=>some (g,a,o,t)|_=>none
theorem eq__755{f:CFound}{g a o t:Af}(h:xC f=some (g,a,o,t)):f=.get g a o t:=by
 cases f with
 |val v=>injection h
 |get g' a' o' t'=>injection h with h;injection h with h1 h;injection h with h2 h;injection h with h3 h4;rw[h1,h2,h3,h4]
noncomputable def vM(K:Frag)(C:Addr)(x:Str)(f:Addr):Bool:=plainGet K C x&&hasDictIn K C&&(((findIn K (.ref C) x).bind id).bind u0).any fun p=>
 typeIn K (.ref p)==some (.type "staticmethod")&&specialIn K (.ref p) "__get__"==some (some (.builtin "staticmethod.__get__"))&&takesIn K (.ref p)==some false&&!copiedNames.contains x&&
  ((recIn K p "staticmethod").bind List.head?==some (.ref f))&&specialIn K (.ref C) "__getattribute__"==some (some (.builtin "type.__getattribute__"))&&readsIn K C (.type "type")&&
  ((findCls K (.ref C) (.type "type") x).bind xC==some (.builtin "staticmethod.__get__",.ref p,.none,.ref C))
theorem eq__756{f:Addr}{x:Str}(e:vM K C x f=true):plainGet K C x=true∧hasDictIn K C=true∧∃p rest mc,findIn K (.ref C) x=some (some (.ref p))∧typeIn K (.ref p)=some (.type "staticmethod")∧
  specialIn K (.ref p) "__get__"=some (some (.builtin "staticmethod.__get__"))∧takesIn K (.ref p)=some false∧copiedNames.contains x=false∧recIn K p "staticmethod"=some (.ref f::rest)∧
  specialIn K (.ref C) "__getattribute__"=some (some (.builtin "type.__getattribute__"))∧readsIn K C mc=true∧findCls K (.ref C) mc x=some (.get (.builtin "staticmethod.__get__") (.ref p) .none (.ref C)):=by
 have e:=(aF _ _).mp e
 have e12:=(aF _ _).mp e.1
 rcases eq__114 e.2 with⟨p,hp,e3⟩
 rcases aB.mp hp with⟨u,hu,hr⟩
 rcases aB.mp hu with⟨u',hu',rfl⟩
 simp only[aF,beq_iff_eq,dE]at e3
 rcases e3 with⟨⟨⟨⟨⟨⟨⟨h1,h2⟩,h3⟩,h4⟩,h5⟩,h6⟩,h7⟩,h8⟩
 rcases aB.mp h5 with⟨l,hl,hh⟩
 rcases aB.mp h8 with⟨r,hf,hg⟩
 cases l with
 |nil=>injection hh
 |cons v rest=>
  exact eq__30 e12.1 e12.2 (eq__34 p rest (.type "type") ⟨eq__105 hr▸hu',h1,h2,h3,h4,a6 hh▸hl,h6,h7,eq__755 hg▸hf⟩)
noncomputable def wT(K:Frag)(v:Af):Bool:=((u0 v).bind fun a=>K.lookup a).any fun o=>(o.cls==.type "tuple")&&(wR o.data).any Array.isEmpty
theorem eq__399(X:K.In g){v:Af}(h:wT K v=true)(W:Wd)(hW:∀a o,g.get? a=some o→W a=.imm o):Rep W (.tup []) v:=by
 rcases eq__114 h with⟨o,ho,h⟩
 rcases aB.mp ho with⟨a,ha,ho⟩
 have h:=(aF _ _).mp h
 rcases eq__114 h.2 with⟨vs,hv,he⟩
 rcases eq__396 hv with⟨n,hd⟩
 exact eq__80.mpr (eq__67 a o [] n ⟨eq__105 ha,hW _ _ (X _ _ ho),beq_iff_eq.mp h.1,Array.isEmpty_iff.mp he▸hd,RepL.nil.mpr rfl,bN _⟩)
noncomputable def xD(p:Af×Str):Bool:=(wS p.1).any fun y=>y==p.2&&decide (y.length≤lim)
noncomputable def wU(K:Frag)(x:Str)(l:List Str):Bool:=(((nsIn K mainGlobals x).bind id).bind u0).any fun a=>(K.lookup a).any fun o=>(o.cls==.type "list")&&(wR o.data).any fun vs=>vs.toList.length==l.length&&(vs.toList.zip l).all xD
theorem eq__400{W:Wd}:∀(us:List Af)(l:List Str),us.length=l.length→(us.zip l).all xD=true→RepL W (l.map Val.str) us
 |[],[],_,_=>RepL.nil.mpr rfl
 |[],_::_,h,_=>by injection h
 |_::_,[],h,_=>by injection h
 |u::us,y::l,h,a=>by
  have a:=(aF _ _).mp a;rcases eq__114 a.1 with⟨z,hz,e⟩;have e:=(aF _ _).mp e;rcases eq__397 hz with⟨t,ht⟩;have q:z=y:=beq_iff_eq.mp e.1;exact RepL.cons.mpr (eq__24 u us rfl (eq__19.mpr (eq__2 t (q▸ht) (q▸of_decide_eq_true e.2))) (eq__400 us l (j4 h) a.2))
theorem eq__401(X:K.In g){x:Str}(hl:l.length≤lim)(h:wU K x l=true):∃a,nsIn K mainGlobals x=some (some (.ref a))∧∀W:Wd,(∀a o,g.get? a=some o→W a=.imm o)→Rep W (.lst (l.map .str)) (.ref a):=by
 rcases eq__114 h with⟨a,hp,h⟩
 rcases aB.mp hp with⟨u,hu,hr⟩
 rcases aB.mp hu with⟨u',hu',rfl⟩
 rcases eq__114 h with⟨o,ho,h⟩
 have h:=(aF _ _).mp h
 rcases eq__114 h.2 with⟨vs,hv,e⟩
 rcases eq__396 hv with⟨n,hd⟩
 have e:=(aF _ _).mp e
 exact eq__2 a (eq__105 hr▸hu') fun W hW=>eq__94.mpr ⟨a,o,vs.toList,n,rfl,hW _ _ (X _ _ ho),beq_iff_eq.mp h.1,hd,eq__400 _ _ (beq_iff_eq.mp e.1) e.2,by rw[a7];exact hl⟩
noncomputable def globR:List (Str×Addr):=[(nOf "Task",223),(nOf "TaskControl",368),(nOf "InvalidCommand",39),(nOf "InvalidDodoFile",52),(nOf "InvalidTask",78),
 (nOf "matches",289),(nOf "_law_names",485),(nOf "_law_like",492),(nOf "_law_spec",497),(nOf "_law_refusal",502),(nOf "_law_needs",507),(nOf "_law_selected",512),(nOf "_law_made",517)]
noncomputable def globB:List (Str×Af):=[(nOf "len",.builtin "len"),(nOf "abs",.builtin "abs"),(nOf "isinstance",.builtin "isinstance"),(nOf "list",.type "list"),(nOf "str",.type "str"),(nOf "set",.type "set"),(nOf "range",.type "range"),(nOf "enumerate",.type "enumerate")]
noncomputable def vZ(K:Frag):Bool:=(attrT.all fun p=>p.2.all fun x=>wG K p.1 x&&wH K p.1 x)
noncomputable def uY(K:Frag):Bool:=(methT.all fun p=>p.2.all fun q=>vL K p.1 q.1 q.2)
noncomputable def uZ(K:Frag):Bool:=(statT.all fun p=>p.2.all fun q=>vM K p.1 q.1 q.2)
noncomputable def uG(K:Frag):Bool:=([223,368].all fun C=>kin_notT K C "str"&&plainGet K C "__class__"&&hasDictIn K C&&findIn K (.ref C) "__class__"==some (some (.builtin "object.__class__"))&&
  specialIn K (.builtin "object.__class__") "__get__"==some (some (.builtin "getset_descriptor.__get__"))&&takesIn K (.builtin "object.__class__")==some true&&mroIn K C (.type "object")==some true)
noncomputable def uH(K:Frag):Bool:=(findIn K (.ref 39) "__getattribute__"==some (some (.builtin "BaseException.__getattribute__"))&&findIn K (.ref 39) "__getattr__"==some none&&mroIn K 39 (.type "BaseException")==some true&&hasDictIn K 39&&
  (match findIn K (.ref 39) (nOf "not_found")with|some attr=>noGet K attr|none=>false))
noncomputable def vA(K:Frag):Bool:=(((defsL.map fun p=>p.1)++([223,368,39,52,78]:List Addr)).all fun a=>keepIn K (.ref a))
noncomputable def w1(K:Frag):Bool:=(K.lookup 289).isSome
noncomputable def vN(K:Frag):Bool:=(rW K 52 none&&rW K 78 none&&rW K 39 (some (.ref 36)))
noncomputable def w2(K:Frag):Bool:=([39,52,78].all fun C=>[39,52,78].all fun D=>mroIn K D (.ref C)==some (C==D))
noncomputable def vO(K:Frag):Bool:=(findIn K (.ref 39) "__setattr__"==some (some (.builtin "object.__setattr__"))&&findIn K (.ref 39) (nOf "not_found")==some none&&hasDictIn K 39&&mroIn K 39 (.type "object")==some true)
noncomputable def tQ(K:Frag):Bool:=(makesIn K 223&&findIn K (.ref 223) "__init__"==some (some (.ref 137))&&typeIn K (.ref 137)==some (.type "function")&&makesIn K 368&&findIn K (.ref 368) "__init__"==some (some (.ref 303))&&typeIn K (.ref 303)==some (.type "function"))
noncomputable def w3(K:Frag):Bool:=(wU K (nOf "_law_patterns") (["*","a*","*b","*a*b*","a:*","ab*ab","a*ba","*ba*ab*"].map nOf)&&wU K (nOf "_law_files") (["f","g","h","a"].map nOf))
noncomputable def uI(K:Frag):Bool:=(globR.all fun p=>nsIn K mainGlobals p.1==some (some (.ref p.2)))
noncomputable def uJ(K:Frag):Bool:=(globB.all fun p=>nsIn K mainGlobals p.1==some none)
noncomputable def w6(K:Frag):Bool:=wT K (.ref 127)&&wT K (.ref 128)
noncomputable def xE(K:Frag):Bool:=defsT.all fun p=>fnB K p.1 (sA p.1)
noncomputable def w7(K:Frag):Bool:=codeHdIn K 343 339&&noTabs K
noncomputable def tBody(K:Frag):List (Option (FuncBody×Ah)):=defsT.map fun p=>uF K p.1
noncomputable def tBind(K:Frag):List (Setting→Af→Af→Af→Af→Option (List (Str×Af))):=defsA.map fun p S x y z u=>sL K p.1 ⟨tA p.2.pars.length x y z u,[]⟩ S
noncomputable def w8:List (Setting→Af→Af→Af→Af→Option (List (Str×Af))):=defsA.map fun p _ x y z u=>some (p.2.pars.zip (tA p.2.pars.length x y z u))
noncomputable def tTask(K:Frag):Setting→Af→Af→Af→Af→Af→Af→Af→Option (List (Str×Af)):=fun S x n a t u gg f=>sL K 137 ⟨[x,n,a],[(nOf "task_dep",t),(nOf "setup",u),(nOf "targets",gg),(nOf "file_dep",f)]⟩ S
noncomputable def w9:Setting→Af→Af→Af→Af→Af→Af→Af→Option (List (Str×Af)):=fun _ x n a t u gg f=>some
  [(nOf "self",x),(nOf "name",n),(nOf "actions",a),(nOf "file_dep",f),(nOf "targets",gg),(nOf "task_dep",t),(nOf "uptodate",.ref 127),(nOf "calc_dep",.ref 128),(nOf "setup",u),(nOf "subtask_of",.none),(nOf "has_subtask",.bool false),(nOf "getargs",.none)]
structure Ks(K:Frag):Prop where
 get_:vZ K=true
 meth_:uY K=true
 stat_:uZ K=true
 isstr_:uG K=true
 gete_:uH K=true
 keep_:vA K=true
 sys_:w1 K=true
 exc_:vN K=true
 exm_:w2 K=true
 inv_:vO K=true
 make_:tQ K=true
 lst_:w3 K=true
 globR_:uI K=true
 globB_:uJ K=true
 dfl_:w6 K=true
 fb_:xE K=true
 tab_:w7 K=true
 body:tBody K=defsT.map fun p=>some (.stmts p.2.body,p.2.scope)
 bind:tBind K=w8
 tsk:tTask K=w9
noncomputable def Obs:Type:=List Bool×List (Option (FuncBody×Ah))×List (Setting→Af→Af→Af→Af→Option (List (Str×Af)))×(Setting→Af→Af→Af→Af→Af→Af→Af→Option (List (Str×Af)))
noncomputable def xF(K:Frag):Obs:=([vZ K,uY K,uZ K,uG K,uH K,vA K,w1 K,vN K,w2 K,vO K,tQ K,w3 K,uI K,uJ K,w6 K,xE K,w7 K],tBody K,tBind K,tTask K)
noncomputable def xG:Obs:=([true,true,true,true,true,true,true,true,true,true,true,true,true,true,true,true,true],(defsT.map fun p=>some (.stmts p.2.body,p.2.scope)),w8,w9)
theorem eq__757(h:xF K=xG):Ks K:=by
 refine eq__14 (eS h) fun h1 h2=>?_
 refine eq__14 (eS h2) fun h2 h3=>?_
 refine eq__14 (eS h3) fun h3 h4=>?_
 simp only[List.cons.injEq,and_true]at h1
 exact⟨h1.1,h1.2.1,h1.2.2.1,h1.2.2.2.1,h1.2.2.2.2.1,h1.2.2.2.2.2.1,h1.2.2.2.2.2.2.1,h1.2.2.2.2.2.2.2.1,h1.2.2.2.2.2.2.2.2.1,h1.2.2.2.2.2.2.2.2.2.1,h1.2.2.2.2.2.2.2.2.2.2.1,h1.2.2.2.2.2.2.2.2.2.2.2.1,h1.2.2.2.2.2.2.2.2.2.2.2.2.1,h1.2.2.2.2.2.2.2.2.2.2.2.2.2.1,h1.2.2.2.2.2.2.2.2.2.2.2.2.2.2.1,h1.2.2.2.2.2.2.2.2.2.2.2.2.2.2.2.1,h1.2.2.2.2.2.2.2.2.2.2.2.2.2.2.2.2,h2,h3,h4⟩
theorem eq__241{l:List (Addr×List Str)}{x:Str}{p:Addr→Str→Bool}(h:((l.lookup C).map fun l=>l.contains x).getD false=true)(a:(l.all fun q=>q.2.all fun x=>p q.1 x)=true):p C x=true:=by
 cases hl:l.lookup C with
 |none=>rw[hl]at h;(injection h)
 |some xs=>
  rw[hl]at h;simp only[aD,eF,bF]at h;have :=aP.mp a (C,xs) (eq__115 hl);exact aP.mp this x h
theorem eq__402{l:List (Addr×List (Str×Addr))}{f:Addr}{x:Str}{p:Addr→Str→Addr→Bool}(h:(l.lookup C).bind (look x)=some f)(a:(l.all fun q=>q.2.all fun y=>p q.1 y.1 y.2)=true):p C x f=true:=by
 refine eq__1 (aB.mp h) fun xs h1 h2=>?_
 have :=aP.mp a (C,xs) (eq__115 h1)
 exact aP.mp this (x,f) (eq__69 _ _ _ h2)
theorem eq__758:(defsT.all fun p=>rK p.2.pars p.2.scope)=true:=by decide+kernel
theorem eq__759:(defsA.all fun p=>oF p.2.pars.length 4)=true:=by decide+kernel
theorem eq__181(X:K.In g)(k:Ks K){p:Addr×qU}(h:p∈defsT):∃o fd,uD g p.1 (sA p.1) p.2 o fd∧uX K p.1=some fd∧o.cls=.type "function":=
 eq__753 (d:=p.2) X (aP.mp k.fb_ p h) (lY.mp k.body p h) (aP.mp eq__758 p h)
theorem eq__242(k:Ks K){p:Addr×qU}(h:p∈defsA)(hf:uX K p.1=some fd)(X:K.In s.heap)(hl:rvs.length=p.2.pars.length):BindsTo s fd ⟨rvs,[]⟩ (p.2.pars.zip rvs):=by
 refine eq__398 hf X fun S=>?_
 have h4:rvs.length≤4:=hl▸dU (aP.mp eq__759 p h)
 have e:=congrFun (congrFun (congrFun (congrFun (congrFun (lY.mp k.bind p h) S) (rvs.getD 0 .none)) (rvs.getD 1 .none)) (rvs.getD 2 .none)) (rvs.getD 3 .none)
 have e:sL K p.1 ⟨tA p.2.pars.length _ _ _ _,[]⟩ S=some (p.2.pars.zip (tA p.2.pars.length _ _ _ _)):=e
 rw[←hl,eq__754 h4]at e
 exact e
theorem eq__760{q:Addr×qU}(h:q∈defsL):q∈defsA:=aU _ (aU _ h)
theorem eq__243{q:Addr×qU}(h:q∈defsA):q∈defsT:=aU _ h
theorem eq__403:((303,dControl):Addr×qU)∈defsA:=by skip;exact aU _ aO
theorem eq__404:((36,dInv):Addr×qU)∈defsA:=by skip;exact aO
theorem eq__761(X:K.In g)(k:Ks K):∀a d,defsL.lookup a=some d→∃o fd,uD g a (sA a) d o fd∧∀(s:Ad)(rvs:List Af),K.In s.heap→rvs.length=d.pars.length→BindsTo s fd ⟨rvs,[]⟩ (d.pars.zip rvs):=by
 intro a d h
 have hm:=eq__760 (eq__115 h)
 refine eq__17 (eq__181 X k (eq__243 hm)) fun o fd F hf _=>?_
 exact eq__28 o fd F (fun s rvs X' hl=>eq__242 k hm hf X' hl)
theorem eq__762(k:Ks K):Kit K (Tn 0)where
 get:=fun C x h=>by
  have :=eq__241 (p:=fun C x=>wG K C x&&wH K C x) h k.get_;simp only[aF,wG]at this;rcases this with⟨⟨⟨h1,h2⟩,h3⟩,_⟩;split at h3
  ·rename_i attr ha;exact eq__30 h1 h2 (eq__2 attr ha h3)
  ·(injection h3)
 gete:=fun C x h=>by
  have hC:C=39∧x=nOf "not_found":=by
   have h:((eattrT.lookup C).map fun l=>l.contains x).getD false=true:=h;have :=eq__241 (p:=fun C x=>decide (C=39∧x=nOf "not_found")) h (by decide+kernel);simpa using this
  clear h;rcases hC with⟨rfl,rfl⟩;have :=k.gete_;unfold uH at this;simp only[aF,beq_iff_eq]at this;refine eq__14 this fun q1_ h5=>?_;rcases q1_ with⟨⟨⟨h1,h2⟩,h3⟩,h4⟩;split at h5;·rename_i attr ha;exact eq__294 h1 h2 h3 h4 (eq__2 attr ha h5)
  ·(injection h5)
 set:=fun C x h _=>by
  have :=eq__241 (p:=fun C x=>wG K C x&&wH K C x) h k.get_;simp only[aF,wH,beq_iff_eq]at this;exact eq__30 this.2.1.1 this.2.1.2 this.2.2
 meth:=fun C x f h=>by
  have :=eq__402 (p:=fun C x f=>vL K C x f) h k.meth_;simp only[aF,vL,beq_iff_eq]at this;exact eq__30 this.1.1 this.1.2 this.2
 stat:=fun C x f h=>eq__756 (eq__402 (p:=fun C x f=>vM K C x f) h k.stat_)
 isStr:=fun C h=>by
  have hC:C∈([223,368]:List Addr):=by
   rcases bM.mp h with⟨v,hv⟩;have :=cY (f:=(·.1)) (eq__115 hv);exact this
  have :=aP.mp k.isstr_ C hC;simp only[aF,beq_iff_eq]at this;exact eq__566 this.1.1.1.1.1.1 this.1.1.1.1.1.2 this.1.1.1.1.2 this.1.1.1.2 this.1.1.2 this.1.2 this.2
 keep:=fun a h=>by rcases h with h|h<;>(injection h)
theorem eq__89:dTask.pars=["self","name","actions","file_dep","targets","task_dep","uptodate","calc_dep","setup","subtask_of","has_subtask","getargs"].map nOf:=by kernel_rfl
theorem tk:(dTask.pars.all fun x=>dTask.scope.names.lookup x==some .local||dTask.scope.names.lookup x==some .cell)=true:=by kernel_rfl
theorem eq__13:dControl.pars=[nOf "self",nOf "task_list"]:=by kernel_rfl
theorem eq__182:(dControl.pars.all fun x=>dControl.scope.names.lookup x==some .local||dControl.scope.names.lookup x==some .cell)=true:=by kernel_rfl
theorem eq__763:∀p∈globB,bootBuiltins p.1=some p.2∧p.1≠"__name__":=by
 intro p hp
 simp only[globB,bC,c7,or_false]at hp
 rcases hp with rfl|rfl|rfl|rfl|rfl|rfl|rfl|rfl
 ·exact⟨PyProof.Rows.Boot.«len»,by decide+kernel⟩
 ·exact⟨PyProof.Rows.Boot.«abs»,by decide+kernel⟩
 ·exact⟨PyProof.Rows.Boot.«isinstance»,by decide+kernel⟩
 ·exact⟨PyProof.Rows.Boot.«list»,by decide+kernel⟩
 ·exact⟨PyProof.Rows.Boot.«str»,by decide+kernel⟩
 ·exact⟨PyProof.Rows.Boot.«set»,by decide+kernel⟩
 ·exact⟨PyProof.Rows.Boot.«range»,by decide+kernel⟩
 ·exact⟨PyProof.Rows.Boot.«enumerate»,by decide+kernel⟩
theorem eq__764:qI=(globR.take 5).map (fun p=>(p.1,Val.imm (.ref p.2)))++((globR.drop 5).take 2).map (fun p=>(p.1,Val.imm (.ref p.2)))++[(nOf "_law_patterns",Val.lst ((["*","a*","*b","*a*b*","a:*","ab*ab","a*ba","*ba*ab*"].map nOf).map Val.str)),(nOf "_law_files",.lst ((["f","g","h","a"].map nOf).map Val.str))]++
  (globR.drop 7).map (fun p=>(p.1,Val.imm (.ref p.2)))++globB.map (fun p=>(p.1,Val.imm p.2)):=rfl
theorem eq__765{mb:Str→Option Af}(X:K.In g)(k:Ks K)(hg:g.Ns mainGlobals mg)(hb:g.Ns builtinsNs mb)(hbb:∀x:Str,x≠"__name__"→mb x=bootBuiltins x):
  ∀x v,look x qI=some v→∃rv,(mg x=some rv∨(mg x=none∧mb x=some rv))∧∀W:Wd,(∀a o,g.get? a=some o→W a=.imm o)→Rep W v rv:=by
 intro x v h
 have hm:=eq__69 _ _ _ h
 have inR:∀p∈globR,∃rv,(mg p.1=some rv∨(mg p.1=none∧mb p.1=some rv))∧∀W:Wd,(∀a o,g.get? a=some o→W a=.imm o)→Rep W (.imm (.ref p.2)) rv:=fun p hp=>
  (eq__2 (.ref p.2) (.inl (eq__179 X hg (beq_iff_eq.mp (aP.mp k.globR_ p hp)))) (fun W _=>eq__88.mpr rfl))
 rw[eq__764]at hm
 simp only[bW,cQ,bC,c7,or_false,dX]at hm
 have hl:(_&&_)=true:=k.lst_
 rw[aF]at hl
 clear h;rcases hm with(((⟨p,hp,rfl,rfl⟩|⟨p,hp,rfl,rfl⟩)|(⟨rfl,rfl⟩|⟨rfl,rfl⟩))|⟨p,hp,rfl,rfl⟩)|⟨p,hp,rfl,rfl⟩
 ·exact inR p (i9 hp)
 ·exact inR p (kP (i9 hp))
 ·refine eq__1 (eq__401 X (by decide+kernel) hl.1) fun a h1 h2=>?_;exact eq__2 _ (.inl (eq__179 X hg h1)) h2
 ·refine eq__1 (eq__401 X (by decide+kernel) hl.2) fun a h1 h2=>?_;exact eq__2 _ (.inl (eq__179 X hg h1)) h2
 ·exact inR p (kP hp)
 ·rcases eq__763 p hp with⟨h1,h2⟩;exact eq__2 p.2 (.inr ⟨ns_none_of X hg (beq_iff_eq.mp (aP.mp k.globB_ p hp)),(hbb p.1 h2).trans h1⟩) (fun W _=>eq__88.mpr rfl)
theorem prog_ok{mb:Str→Option Af}(X:K.In g)(k:Ks K)(hg:g.Ns mainGlobals mg)(hb:g.Ns builtinsNs mb)(hbb:∀x:Str,x≠"__name__"→mb x=bootBuiltins x)(hl:g.NoLimit)(hn:CodeHd g 343 339)(hbm:g.BuiltinsAt mg 339):sB prog w g K where
 kin:=X
 kit:=eq__762 k
 keepF:=fun a h=>by
  refine aP.mp k.keep_ a ?_;rcases h with h|h|h
  ·rcases bM.mp h with⟨d,hd⟩;exact cV _ (cY (f:=fun p=>p.1) (eq__115 hd))
  ·subst h;exact cR _ (by decide)
  ·subst h;exact cR _ (by decide)
 sys:=by
  rcases bM.mp k.sys_ with⟨o,ho⟩;exact eq__28 289 o (X _ _ ho) (by decide)
 lim:=hl
 nest:=hn
 bm:=(eq__2 mg hg hbm)
 glob:=(eq__24 mg mb hg hb (eq__765 X k hg hb hbb))
 fns:=eq__761 X k
 task:=by
  refine eq__17 (eq__181 X k (p:=(137,dTask)) (by skip;exact aO)) fun o fd F hf _=>?_;have :=k.make_;unfold tQ at this;simp only[aF,beq_iff_eq]at this;have hd:(_&&_)=true:=k.dfl_;rw[aF]at hd;exact eq__61 o fd F this.1.1.1.1.1 this.1.1.1.1.2 this.1.1.1.2 (eq__28 _ _ (fun W hW=>⟨eq__399 X hd.1 W hW,eq__399 X hd.2 W hW⟩) (fun s x n a t u gg f X'=>eq__398 hf X' fun S=>congrFun (congrFun (congrFun (congrFun (congrFun (congrFun (congrFun (congrFun k.tsk S) x) n) a) t) u) gg) f))
 control:=by
  refine eq__17 (eq__181 X k (p:=(303,dControl)) (eq__243 eq__403)) fun o fd F hf _=>?_;have :=k.make_;unfold tQ at this;simp only[aF,beq_iff_eq]at this;refine eq__61 o fd F this.1.1.2 this.1.2 this.2 (fun s x l X'=>?_);have e:=eq__242 k eq__403 hf (rvs:=[x,l]) X' (by skip;rw[eq__13];rfl);rw[show((303,dControl):Addr×qU).2=dControl from rfl,eq__13]at e;exact e
 taskPars:=eq__89
 taskKind:=fun x hx=>by
  have :=aP.mp tk x hx;simp only[cZ,beq_iff_eq]at this;exact this
 controlPars:=eq__13
 controlKind:=fun x hx=>by
  have :=aP.mp eq__182 x hx;simp only[cZ,beq_iff_eq]at this;exact this
theorem ExnOk.up(h:ExnOk prog w g K D C own):∀j,ExnOk prog w g K (D+j) C own
 |0=>h
 |j+1=>⟨h.keep,h.cls,fun A fl W σ s v rv fs ok=>(h.up j).made A fl W σ s v rv fs (Ok.less (D:=D+j) ok)⟩
theorem eq__405:dInv.pars=[nOf "self",nOf "not_found"]:=by kernel_rfl
theorem eq__766:∃p1 p2 p3 pos,dInv.body=[.Assign [.Attribute (.Name (nOf "self") p1) (nOf "not_found") p2] (.Name (nOf "not_found") p3) pos]:=(eq__67 _ _ _ _ rfl)
theorem eq__767(TB:pS prog w g K (Tn 0) 0)(k:Ks K)(i j:Nat):rP prog w g K (Tn i) (2+j):=by
 have exs:(Tn i).exn=vV:=rfl
 have he:=k.exc_
 unfold vN at he
 simp only[aF]at he
 have mem:∀C own,(Tn i).exn.lookup C=some own→(C,own)∈vV:=fun C own h=>eq__115 (exs▸h)
 refine⟨fun C own h=>?_,fun C C' h h'=>?_⟩
 ·have hm:=mem C own h;simp only[vV,bC,dX,c7,or_false]at hm;have kp:∀a∈([39,52,78]:List Addr),keepIn K (.ref a)=true:=fun a ha=>aP.mp k.keep_ a (cR _ (by
   have :∀z∈([39,52,78]:List Addr),z∈([223,368,39,52,78]:List Addr):=by decide
   exact this a ha));clear h;rcases hm with⟨rfl,rfl⟩|⟨rfl,rfl⟩|⟨rfl,rfl⟩
  ·refine eq__17 (eq__181 TB.kin k (p:=(36,dInv)) (eq__243 eq__404)) fun o fd F hf hc=>?_;have :=k.inv_;unfold vO at this;simp only[aF,beq_iff_eq]at this;refine eq__301 eq__766 fun p1 p2 p3 pos hb=>?_;exact(eq__744 TB F (kp 39 (by decide)) he.2 hc hb (by decide+kernel) (by decide+kernel) (by decide+kernel) (by decide+kernel) (by decide+kernel) (fun s x y X'=>by have e:=eq__242 k eq__404 hf (rvs:=[x,y]) X' (by refine(?_:2=dInv.pars.length);rw[eq__405];rfl);rw[show((36,dInv):Addr×qU).2=dInv from rfl,eq__405]at e;exact e) this.1.1.1 this.1.1.2 this.1.2 this.2).up j
  ·exact eq__393 TB.kin (kp 52 (by decide)) he.1.1
  ·exact eq__393 TB.kin (kp 78 (by decide)) he.1.2
 ·rcases bM.mp h with⟨o1,h1⟩;rcases bM.mp h' with⟨o2,h2⟩;have m1:C∈([39,52,78]:List Addr):=by have :=cY (f:=fun p=>p.1) (mem C o1 h1);exact this
  have m2:C'∈([39,52,78]:List Addr):=by have :=cY (f:=fun p=>p.1) (mem C' o2 h2);exact this
  exact beq_iff_eq.mp (aP.mp (aP.mp k.exm_ C m1) C' m2)
theorem eq__768(Q:sB prog w g K)(k:Ks K)(i:Nat):pS prog w g K (Tn i) (2*i+2)∧rP prog w g K (Tn i) (2*i+2):=by
 have XT:∀i,rP prog w g K (Tn i) (2*i+2):=fun i=>by have :=eq__767 (eq__394 Q 0) k i (2*i);rwa[nN]at this
 exact⟨eq__395 Q XT i,XT i⟩
noncomputable abbrev pr:Aa:=dD.row.toRowW.1
noncomputable def wI:Ai:={scope:=pr.main.scope,locals:=mainNs,globals:=mainNs,cells:=[],code:=.ref 13,frame:=some 14}
noncomputable def tr0(P:Params):BT:=
 let st(x:String)(t:Nat):Af:=.str (a5 x) t
 .node (boot_o_0 P)
  (.node (boot_o_1 P)
   (.node (boot_o_3 P) (.node (boot_o_7 P) .nil .nil) (.node {cls:=.type "tuple",data:=.seq #[]} .nil .nil))
   (.node (boot_o_5 P) (.node (boot_o_9 P) .nil .nil) (.node {cls:=.type "code",data:=.fields #[st "<module>" 182,st "<module>" 183,st "/claim/cut.py" 184,.int 1 0,.int 0 0,.int 0 0,.int 0 0,.int 0 0,.ref 11,.bool false,.int 181 0,.ref 12,.none,.none,.none,.none,.int 185 0,.int 1 0,st "/claim/cut.py" 186]} .nil .nil)))
  (.node (boot_o_2 P)
   (.node (boot_o_4 P) (.node (boot_o_8 P) .nil .nil) (.node {cls:=.none,data:=.fields #[]} .nil .nil))
   (.node (boot_o_6 P) (.node (boot_o_10 P) .nil .nil) (.node {cls:=.type "frame",slots:=#[some (.ref 13),some (.ref 3),some (.ref 3),none,some (st "__main__" 164),none,some (.ref 0)]} .nil .nil)))
noncomputable def zp:Pos:=⟨0,0,0,0⟩
noncomputable def pE:Pos:=⟨536,0,575,87⟩
noncomputable def cdT:Code:=.body (behindTheImports pr) wI
noncomputable def st0(w:Ab)(os:OsState):SharedT:=⟨tr0 w.params,15,{},#[],{},187,os⟩
noncomputable def qv:Aa:=view pr [27]
noncomputable def lz:List Str:=["_wall","InvalidCommand","InvalidDodoFile","HoldOn","InvalidTask","UptodateCalculator","Task","result_dep","matches","TaskControl","ExecNode","TaskDispatcher","_law_names","_law_patterns","_law_files","_law_like","_law_spec","_law_refusal","_law_needs","_law_selected","_law_made"].map a5
noncomputable def xt(s:Ad):Bool:=xlAt qv [] s&&recOk dD.row.records s
noncomputable def wV(o:Obj):Bool:=match o.cls,o.data with|.none,.fields _=>true|_,_=>false
noncomputable def Kof(h:Ac):Frag:=(dJ 523).filterMap fun a=>match h.get? a with
 |some o=>if wV o then none else some (a,o)
 |none=>none
theorem eq__769(h:Ac):(Kof h).In h:=fun a o e=>by
 rcases c9.mp (mem_of_lookupK e)with⟨b,_,hb⟩
 split at hb
 ·rename_i o' ho;split at hb;·(injection hb)
  ·cases hb;exact ho
 ·(injection hb)
noncomputable def yf(s:Ad):Obs×Option Obj:=(xF (Kof s.heap),s.heap.get? 339)
noncomputable def ya:Obs×Option Obj:=(xG,some (tabObj #[]))
def wA(_:Ab)(h:Ac):Prop:=∃K:Frag,K.In h∧Ks K∧h.get? 339=some (tabObj #[])
theorem eq__770(w:Ab)(os:OsState):fB bV pr w 11 (some (.ref 6)) 12 ⟨fD w.params,#[],boot_drawn,boot_toks,os⟩ (topStub pr)=some ((st0 w os).abs,⟨fE bV cdT,cdT,zp,[topFrame zp]⟩):=by kernel_rfl
theorem eq__771(w:Ab)(os:OsState):segRun treeTable pr w 11 (some (.ref 6)) 1 1 (st0 w os).abs (blockOf (behindTheImports pr) wI cdT zp [topFrame zp])=some (.next,(st0 w os).abs,cdT,zp):=by kernel_rfl
noncomputable def run(w:Ab)(os:OsState):Option (Flow×SharedT×Code×Pos):=fF bV pr w 11 (some (.ref 6)) 1 4200 (st0 w os) (piecesOf (behindTheImports pr) wI cdT zp [topFrame zp])
noncomputable def fin(w:Ab)(s:SharedT):Option Ad:=fG bV pr w 11 (some (.ref 6)) 2 s.abs ⟨doneF .next,cdT,pE,[topFrame zp]⟩
theorem eq__772(w:Ab)(os:OsState):(run w os).map (fun r=>(r.1,r.2.2.1,r.2.2.2,(fin w r.2.1).map fun s=>
  ((staticsOk (importedModules pr.main.body) (fD w.params) s.heap&&namesBound pr s.heap&&gensDone s&&laidKept (fD w.params) s.heap),fU qv lz (importedModules pr.main.body) xt true s)))=
  some (Flow.next,cdT,pE,some (true,openGood qv lz)):=by kernel_rfl
theorem eq__773(w:Ab)(os:OsState):(run w os).map (fun r=>(fin w r.2.1).map yf)=some (some ya):=by kernel_rfl
theorem eq__774(w:Ab):((fD w.params).isNs mainGlobals&&(#[]:Array GenState).size==0)=true∧(fD w.params).objs.size=11∧(fD w.params).nsMap mainGlobals "__annotations__"=some (.ref 6):=⟨by kernel_rfl,by kernel_rfl,by kernel_rfl⟩
theorem eq__775:@segRunT=fF:=Fast.te10110043849684766642
theorem eq__244:treeTable=bV:=Fast.te14364793385576792824
theorem eq__776:@topRun=fG:=Fast.te14082659384304107361
theorem eq__777:@topGo=fB:=Fast.te15667345088766844465
theorem eq__778:@denote=fE:=Fast.te11892475500146522536
theorem eq__779:@openSeen=fU:=Fast.te4187177175401517315
variable{ann:Option Af}{m₀:Nat}
theorem eq__780{p q:Aa}{loose:List Str}{Xt:Ad→Bool}{Yf:Ad→α}{y:α}{N M:Nat}{H₀:Params→Ac}{d:PySem.Drawn}(open_:∀w:Ab,(fencedOpening treeTable p w N).map (fun s=>(s.heap,s.gens,s.drawn,s.toks))=some (H₀ w.params,#[],d,k))(size:∀w:Ab,((H₀ w.params).isNs mainGlobals&&(#[]:Array GenState).size==0)=true∧(H₀ w.params).objs.size=m₀∧(H₀ w.params).nsMap mainGlobals "__annotations__"=ann)(run:∀(w:Ab)(os:OsState),∃s₁,topRun treeTable p w m₀ ann M ⟨H₀ w.params,#[],d,k,os⟩ (topStub p)=some s₁∧
   (staticsOk (importedModules p.main.body) (H₀ w.params) s₁.heap&&namesBound p s₁.heap&&gensDone s₁&&laidKept (H₀ w.params) s₁.heap)=true∧openSeen q loose (importedModules p.main.body) Xt true s₁=openGood q loose∧Yf s₁=y)(le:oF M N=true):LeftO p q loose Xt Yf (fun _=>y) N:=fun w=>by
 rcases aJ.mp (open_ w)with⟨⟨h,gs,d',k',os⟩,e,e'⟩
 obtain⟨rfl,rfl,rfl,rfl⟩:h=H₀ w.params∧gs=#[]∧d'=d∧k'=k:=by simpa using e'
 rcases size w with⟨z1,z2,z3⟩
 rcases run w os with⟨s₁,r,l1,l2,l3⟩
 have r:=topRun_mono (N-M) _ _ _ _ r
 rw[show M+(N-M)=N by have :=dU le;omega]at r
 have t:topFrom treeTable p w N ⟨H₀ w.params,#[],d',k',os⟩=some s₁:=by
  unfold topFrom;skip;rw[z1,z2,z3,r];refine(?_:(match staticsOk (importedModules p.main.body) (H₀ w.params) s₁.heap&&namesBound p s₁.heap&&gensDone s₁&&laidKept (H₀ w.params) s₁.heap with|true=>_|false=>_)=_);rw[l1]
 unfold openEnds
 rw[e]
 refine(?_:(topFrom treeTable p w N _).map _=_)
 rw[t]
 exact congrArg some (o5 l2 l3)
theorem eq__781{p:Aa}{z e:Pos}{b:List Stmt}{c:Code}{s₀ s₁:Ad}{a st:SharedT}{n1 n2 n3 n4:Nat}(hc:.body b env=c)(p1:topGo treeTable p w m₀ ann n1 s₀ (topStub p)=some (a.abs,⟨denote treeTable c,c,z,[topFrame z]⟩))(p2:segRun treeTable p w m₀ ann 1 n2 a.abs (blockOf b env c z [topFrame z])=some (.next,a.abs,c,z))(p3:segRunT treeTable p w m₀ ann 1 n3 a (piecesOf b env c z [topFrame z])=some (.next,st,c,e))(p4:topRun treeTable p w m₀ ann n4 st.abs ⟨doneF .next,c,e,[topFrame z]⟩=some s₁):
  topRun treeTable p w m₀ ann (n1+(n2+(n3+n4))) s₀ (topStub p)=some s₁:=by
 subst hc
 have q:=piece_app (rest:=[]) (segRun_of p3) (N:=n4) (r:=s₁) p4
 rw[dG]at q
 exact go_top p1 (piece_block p2 q)
theorem eq__782{p:Aa}{a:SharedT}{t:Thread}{r:Option (Flow×SharedT×Code×Pos)}(h:fF bV p w m₀ ann 1 n a t=r):segRunT treeTable p w m₀ ann 1 n a t=r:=by rw[eq__775,eq__244];exact h
theorem eq__783{p:Aa}{a:Ad}{t:Thread}{r:Option Ad}(h:fG bV p w m₀ ann n a t=r):topRun treeTable p w m₀ ann n a t=r:=by rw[eq__776,eq__244];exact h
theorem eq__784{p:Aa}{a a':Ad}{t:Thread}{c:Code}{z:Pos}{B:List Frame}(h:fB bV p w m₀ ann n a t=some (a',⟨fE bV c,c,z,B⟩)):topGo treeTable p w m₀ ann n a t=some (a',⟨denote treeTable c,c,z,B⟩):=by rw[eq__777,eq__778,eq__244];exact h
theorem eq__785{q:Aa}{m:List Str}{x:Ad→Bool}{r}(h:fU q l m x true s=r):openSeen q l m x true s=r:=by rw[eq__779];exact h
theorem eq__786(w:Ab)(os:OsState):∃s₁,topRun treeTable pr w 11 (some (.ref 6)) (12+(1+(4200+2))) ⟨fD w.params,#[],boot_drawn,boot_toks,os⟩ (topStub pr)=some s₁∧
   (staticsOk (importedModules pr.main.body) (fD w.params) s₁.heap&&namesBound pr s₁.heap&&gensDone s₁&&laidKept (fD w.params) s₁.heap)=true∧openSeen qv lz (importedModules pr.main.body) xt true s₁=openGood qv lz∧yf s₁=ya:=by
 rcases aJ.mp (eq__772 w os)with⟨⟨f,st,c,ps⟩,e1,e2⟩
 rcases eS e2 with⟨rfl,e2⟩
 rcases eS e2 with⟨rfl,e2⟩
 rcases eS e2 with⟨rfl,e2⟩
 rcases aJ.mp e2 with⟨s₁,e3,e4⟩
 rcases eS e4 with⟨l1,l2⟩
 rcases aJ.mp (eq__773 w os)with⟨⟨f',st',c',ps'⟩,e5,o⟩
 rw[e1]at e5
 obtain rfl:st=st':=congrArg (fun x:Flow×SharedT×Code×Pos=>x.2.1) (a6 e5)
 rcases aJ.mp o with⟨s₂,e6,o⟩
 obtain rfl:s₁=s₂:=a6 (e3.symm.trans e6)
 exact⟨s₁,eq__781 (b:=behindTheImports pr) (env:=wI) rfl (eq__784 (eq__770 w os)) (eq__771 w os) (eq__782 e1) (eq__783 e3),l1,eq__785 l2,o⟩
theorem left:LeftO pr qv lz xt yf (fun _=>ya) 8296:=
 eq__780 (boot_open (p:=pr) (N:=8296) (by kernel_rfl) (by decide) (fun s=>rfl)) eq__774 eq__786 (by decide)
noncomputable abbrev rw_:OpenLaw:=dD
theorem eq__787:iQ rw_=true:=by kernel_rfl
theorem eq__788:rw_.wellSaid=true:=by
 have e:@OpenLaw.wellSaid=iQ:=Fast.te9446332074065402090
 rw[e];exact eq__787
set_option tactic.hygienic false
noncomputable def lawD:qU:=pY (nOf "law")
def uK(nums:List Int):Prop:=∃fr' σ' b,exs (Tn 5) 60 lawD.body {scope:=lawD.scope,fn:=true,vars:=[(nOf "script",.lst (nums.map .int))],code:=0} [.tab false]=.ok (.ret (.bool true)) (fr',σ')∧σ'[0]?=some (.tab b)
noncomputable def names8:List Str:=["a","ab","ba","a:x","aba","xab","abab","c=d"].map nOf
noncomputable def pats8:List Str:=["*","a*","*b","*a*b*","a:*","ab*ab","a*ba","*ba*ab*"].map nOf
noncomputable def files4:List Str:=["f","g","h","a"].map nOf
section
variable(c:Addr→Option (List Val→EM))(m:Addr→Option (List Val→List (Str×Val)→EM))(f:CloD→Option (List Val→List Val→EM))(σ:St)
theorem eq__789:callD (sX c m f) 60 0 (pY (nOf "_law_names")) [] σ=.ok (.lst (names8.map .str)) σ:=by kernel_rfl
noncomputable def tJ(n p:Str):Bool:=match callD (Tn 0) 60 0 (pY (nOf "matches")) [.str n,.str p] []with|.ok (.bool b) _=>b|_=>false
set_option maxHeartbeats 4000000 in
theorem eq__790:∀n∈names8,∀p∈pats8,callD (sX c m f) 60 0 (pY (nOf "matches")) [.str n,.str p] σ=.ok (.bool (tJ n p)) σ:=by
 intro n hn p hp
 simp only[names8,pats8,aG,aQ,bC,c7,or_false]at hn hp
 rcases hn with rfl|rfl|rfl|rfl|rfl|rfl|rfl|rfl<;>rcases hp with rfl|rfl|rfl|rfl|rfl|rfl|rfl|rfl<;>kernel_rfl
set_option maxHeartbeats 4000000 in
theorem eq__791:∀n∈names8,∀p∈pats8,callD (sX c m f) 60 0 (pY (nOf "_law_like")) [.str n,.str p] σ=.ok (.bool (tJ n p)) σ:=by
 intro n hn p hp
 simp only[names8,pats8,aG,aQ,bC,c7,or_false]at hn hp
 rcases hn with rfl|rfl|rfl|rfl|rfl|rfl|rfl|rfl<;>rcases hp with rfl|rfl|rfl|rfl|rfl|rfl|rfl|rfl<;>kernel_rfl
end
set_option tactic.hygienic true
noncomputable def sM(g:Ac)(L:Addr):Wd:=fun a=>if a=L then .frame else if a=339 then .obj 0 else match g.get? a with|some o=>.imm o|none=>.free
theorem eq__406{W:Wd}:∀{vs:List Af}{ns:List Int},IntsAre vs ns→RepL W (ns.map Val.int) vs
 |_,_,.nil=>RepL.nil.mpr rfl
 |_,_,.cons n t h=>RepL.cons.mpr (eq__24 _ _ rfl (eq__20.mpr ⟨t,rfl⟩) (eq__406 h))
theorem eq__792:(lawD.scope.names.all fun nk=>nk.2==.local||nk.2==.globalImplicit||nk.2==.cell)=true∧(lawD.scope.names.filter (·.2==.cell)).map (·.1)=[nOf "specs",nOf "names",nOf "made"]∧lawD.scope.kind=.function∧
  lawD.scope.names.lookup (nOf "script")=some .local∧(lawD.scope.names.map (·.1)).Nodup:=by
 refine eq__294 (by kernel_rfl) (by kernel_rfl) (by kernel_rfl) (by kernel_rfl) (by decide+kernel)
theorem eq__793(L:Addr):cellsFrom (L+1) lawD.scope.names []=[(nOf "made",L+1+1+1),(nOf "names",L+1+1),(nOf "specs",L+1)]:=by kernel_rfl
theorem bm_of{p:Aa}{loose:List Str}{mean:ExcName→Option Af}{mb:Str→Option Af}(T:Top p loose mean mg mb g)(n:g.get? 339=none):g.BuiltinsAt mg 339:=by
 refine eq__568 T.bmain fun bm ob b1 b2 b3 b4 b5 b6=>?_
 refine⟨bm,ob,b1,b2,fun q=>?_,fun q=>?_,b3,b4,b5,b6⟩
 ·rcases T.g with⟨o,es,ep,e,hd,_⟩;rw[q,e]at b3;clear e;cases b3;rw[hd]at b6;cases b6
 ·rw[q,n]at b3;cases b3
variable{nums:List Int}
theorem join_ok(Q:sB prog w g K)(k:Ks K){w5 fa:Addr}{cd:Af}{w4:List Af}(F:mR g L s.heap m)(hm:m (nOf "script")=some (.ref w5))(lst:g.IsList w5 w4.toArray)(IA:IntsAre w4 nums)(len:nums.length≤63)(c1:s.heap.IsCell (L+1) none)(c2:s.heap.IsCell (L+1+1) none)(c3:s.heap.IsCell (L+1+1+1) none)(tab:s.heap.get? 339=some (tabObj #[]))(g339:g.get? 339=none)(lt339:339<L){nm:Str}(hsc:sc=lawD.scope)(hbd:body=lawD.body)(law:uK nums){Q':Flow→Ad→Prop}{E':Af→Ad→Prop}(hQ:∀h' tk m',mR g L h' m'→GrownAt 339 h'→Q' (.ret (.bool true)) {s with heap:=h',toks:=tk}):
  wpAny (model prog w) (callerA.deeper (envOfC nm sc L fa cd)) (execs body (envOfC nm sc L fa cd)) Q' E' s:=by
 subst hsc hbd
 obtain⟨env,he⟩:∃e:Ai,envOfC nm lawD.scope L fa cd=e:=⟨_,rfl⟩
 rw[he]
 refine eq__293 eq__792 fun n1 n2 n3 n4 n5=>?_
 refine eq__14 (eq__768 Q k 5) fun TB XT=>?_
 have HX:=(eq__239 (fun n=>eq__231 TB n) TB XT 60).2
 have gL:g.get? L=none:=kQ F.above
 have fresh:∀j,g.get? (L+j)=none:=fun j=>kQ (aL F.above (eB _ _))
 generalize hW:sM g L=W
 have WL:W L=.frame:=by rw[←hW];unfold sM;rw[if_pos rfl]
 have W339:W 339=.obj 0:=by rw[←hW];unfold sM;rw[if_neg (dH lt339),if_pos rfl]
 have Wg:∀a o,g.get? a=some o→W a=.imm o:=fun a o e=>by
  rw[←hW];unfold sM;rw[if_neg (by clear WL hW fresh he hQ lt339 c3 c2 c1 F;rintro rfl;rw[gL]at e;cases e),if_neg (by rintro rfl;rw[g339]at e;cases e),e]
 have Wf:∀a,a≠L→a≠339→g.get? a=none→W a=.free:=fun a h1 h2 e=>by
  rw[←hW];unfold sM;rw[if_neg h1,if_neg h2,e]
 have inv:∀a,(a=L∧W a=.frame)∨(a=339∧W a=.obj 0)∨(∃o,g.get? a=some o∧W a=.imm o)∨W a=.free:=fun a=>by
  by_cases h1:a=L;·clear Wf hW fresh gL he hQ lt339 c3 c2 c1 F;subst h1;exact .inl ⟨rfl,WL⟩
  ·by_cases h2:a=339;·clear h1;subst h2;exact .inr (.inl ⟨rfl,W339⟩)
   ·cases e:g.get? a with
    |some o=>exact .inr (.inr (.inl (eq__2 o rfl (Wg a o e))))
    |none=>exact .inr (.inr (.inr (Wf a h1 h2 e)))
 have W0j:∀a k,W a=.obj k→a=339∧k=0:=fun a k e=>by
  rcases inv a with⟨_,q⟩|⟨rfl,q⟩|⟨o,_,q⟩|q<;>rw[e]at q<;>cases q;exact⟨rfl,rfl⟩
 have noDic:∀a k,W a≠.dic k:=fun a k e=>by
  rcases inv a with⟨_,q⟩|⟨rfl,q⟩|⟨o,_,q⟩|q<;>rw[e]at q<;>cases q
 rcases id F.ns with⟨oL,es,ep,hoL,hdL,skL,hmL⟩
 have R:Rel prog w g W [.tab false] s.heap:=by
  refine⟨Wg,fun a o e=>?_,fun a nf=>?_,fun a k e=>?_,fun k hk=>⟨339,?_⟩,fun a b k ea eb=>by rw[(W0j a k ea).1,(W0j b k eb).1],fun a b k ea=>absurd ea (noDic a k),fun a k ea=>absurd ea (noDic a k)⟩
  ·rcases inv a with⟨_,q⟩|⟨rfl,q⟩|⟨o',e',q⟩|q;·rw[e]at q;cases q
   ·rw[e]at q;cases q
   ·rw[e]at q;cases q;exact F.keep a o e'
   ·rw[e]at q;cases q
  ·clear Wf WL hW fresh gL he hQ lt339 c3 c2 c1;rcases inv a with⟨rfl,_⟩|⟨rfl,_⟩|⟨o',e',_⟩|q;·exact⟨oL,hoL⟩
   ·exact⟨_,tab⟩
   ·exact⟨o',F.keep a o' e'⟩
   ·exact absurd q nf
  ·refine eq__14 (W0j a k e) fun q1_ q2_=>?_;subst q1_;subst q2_;exact eq__2 (.tab false) rfl ⟨rfl,fun _=>tab,_,tab⟩
  ·have :k=0:=by simpa using hk
   rw[this];exact W339
 have eloc:env.locals=L:=by rw[←he];rfl
 have escope:env.scope=lawD.scope:=by rw[←he];rfl
 have ecells:env.cells=[(nOf "made",L+1+1+1),(nOf "names",L+1+1),(nOf "specs",L+1)]:=by rw[←he];exact eq__793 L
 have ekind:env.kindOf=fun y=>lawD.scope.names.lookup y:=by unfold e9;rw[escope]
 have Fs:Frames W s.heap [env]:=fun e hm'=>by
  rw[aA.mp hm'];exact eq__51 (by rw[escope,n3];decide) (eq__39 L oL (by rw[←he];rfl) WL hoL (fun vs q=>by rw[hdL]at q;cases q))
 have ok:Ok (callerA.deeper env) 12 [env]:=⟨rfl,by show 1+claimMargin+1+4*12≤900;decide,by show 4+3+100*12≤9000;decide,rfl⟩
 rcases lst with⟨oW,hoW,hcW,nW,hdW⟩
 have rep:Rep W (.lst (nums.map .int)) (.ref w5):=eq__94.mpr (eq__203 w5 oW w4 nW rfl (Wg _ _ hoW) hcW hdW (eq__406 IA) (by rw[a7];exact aL len (by decide)))
 have kindCell:∀y,lawD.scope.names.lookup y=some .cell→y=nOf "specs"∨y=nOf "names"∨y=nOf "made":=fun y hy=>by
  have hmem:y∈(lawD.scope.names.filter (·.2==.cell)).map (·.1):=cY (f:=(·.1)) (bU.mpr ⟨iD hy,rfl⟩);rw[n2]at hmem;simpa using hmem
 have ne1:(nOf "specs"==nOf "made")=false:=by decide+kernel
 have ne2:(nOf "specs"==nOf "names")=false:=by decide+kernel
 have ne3:(nOf "names"==nOf "made")=false:=by decide+kernel
 have lk1:env.cells.lookup (nOf "specs")=some (L+1):=by rw[ecells];simp only[bQ,ne1,ne2,beq_self_eq_true]
 have lk2:env.cells.lookup (nOf "names")=some (L+1+1):=by rw[ecells];simp only[bQ,ne3,beq_self_eq_true]
 have lk3:env.cells.lookup (nOf "made")=some (L+1+1+1):=by rw[ecells];simp only[bQ,beq_self_eq_true]
 have lt:L≠339:=eE lt339
 have d1:L+1+1+1≠L+1+1:=jF _
 have d2:L+1+1≠L+1:=jF _
 have d3:L+1+1+1≠L+1:=eE (gG (cU (L+1)) (fY _))
 have freeJ:∀j,0<j→W (L+j)=.free:=fun j hj=>Wf _ (eE (Nat.lt_add_of_pos_right hj)) (eE (gG lt339 (eB _ _))) (fresh j)
 have F₀:FrRel W {scope:=lawD.scope,fn:=true,vars:=[(nOf "script",.lst (nums.map .int))],code:=0} env [L,L+1,L+1+1,L+1+1+1] s.heap:=by
  refine⟨escope,by rw[escope];exact n3,by rw[←he];rfl,by rw[←he];rfl,(eq__2 m (by rw[eloc];exact F.ns) (fun y v e k=>?_)),fun y v e k=>?_,.inr (by rw[eloc];exact WL),by rw[eloc];exact aO,fun _ y k=>?_,fun _ y z c k h1 h2=>?_⟩
  ·have hy:=eq__69 _ _ _ e;simp only[aA,dX]at hy;clear k e;rcases hy with⟨rfl,rfl⟩;exact eq__2 _ hm rep
  ·have hy:=eq__69 _ _ _ e;simp only[aA,dX]at hy;clear e;rcases hy with⟨rfl,rfl⟩;have k:lawD.scope.names.lookup (nOf "script")=some .cell∨lawD.scope.names.lookup (nOf "script")=some .free:=k;rw[n4]at k;rcases k with k|k<;>cases k
  ·rcases kindCell y k with rfl|rfl|rfl;·exact eq__61 _ _ lk1 c1 (by rw[freeJ 1 (by decide)];rfl) (by simp) (fun _=>freeJ 1 (by decide))
   ·exact eq__61 _ _ lk2 c2 (by rw[freeJ 2 (by decide)];rfl) (by simp) (fun _=>freeJ 2 (by decide))
   ·exact eq__61 _ _ lk3 c3 (by rw[freeJ 3 (by decide)];rfl) (by simp) (fun _=>freeJ 3 (by decide))
  ·have m1:=iD h1;have m2:=iD h2;rw[ecells]at m1 m2;simp only[bC,dX,c7,or_false]at m1 m2;rcases m1 with⟨rfl,q⟩|⟨rfl,q⟩|⟨rfl,q⟩<;>rcases m2 with⟨rfl,r⟩|⟨rfl,r⟩|⟨rfl,r⟩<;>first|rfl|exact absurd (q.symm.trans r) d1|exact absurd (q.symm.trans r) d2|exact absurd (q.symm.trans r) d3|exact absurd (r.symm.trans q) d1|exact absurd (r.symm.trans q) d2|exact absurd (r.symm.trans q) d3
 rcases law with⟨fr',σ',b,hlaw,h0⟩
 have c:StAt prog w g 12 (callerA.deeper env) [env] env [L,L+1,L+1+1,L+1+1+1] (fun a=>if a=L then .free else W a) g {scope:=lawD.scope,fn:=true,vars:=[(nOf "script",.lst (nums.map .int))],code:=0} [.tab false] W s.heap:=by
  refine⟨⟨ok,Fs,R,F₀,env,[],rfl,rfl⟩,⟨fun a na=>?_,fun a o e=>⟨fun _=>?_,.inr (eq__27 o (F.keep a o e) (fun _ _=>rfl) (fun _ n=>n) (fun _ _=>⟨o.slots,rfl⟩))⟩⟩,fun b' hb'=>?_,rfl,fun q=>absurd rfl q,fun b' hb'=>?_⟩
  ·dsimp only at na⊢;by_cases q:a=L;·rw[if_pos q]at na;exact absurd rfl na
   ·rw[if_neg q]
  ·dsimp only;rw[if_neg (by clear F₀ freeJ d3 d2 d1 lt lk3 lk2 lk1 ecells eloc hoL inv Wf WL hW fresh he hQ lt339 c3 c2 c1 F;rintro rfl;rw[gL]at e;cases e)]
  ·simp only[bC,c7,or_false]at hb';clear F₀ freeJ d3 d2 d1 lt lk3 lk2 lk1 ecells eloc hoL inv Wf WL hW he hQ lt339 c3 c2 c1 F;rcases hb' with rfl|rfl|rfl|rfl;·exact gL
   ·exact fresh 1
   ·exact fresh 2
   ·exact fresh 3
  ·simp only[bC,c7,or_false]at hb';rw[ekind];have cellK:∀y,y∈(lawD.scope.names.filter (·.2==.cell)).map (·.1)→lawD.scope.names.lookup y=some .cell:=fun y hy=>by
    rcases cQ.mp hy with⟨⟨y',k⟩,h1,rfl⟩;refine eq__14 (bU.mp h1) fun h2 h3=>?_;exact eq__111 n5 (by rw[←beq_iff_eq.mp h3];exact h2)
   clear F₀ freeJ d3 d2 d1 lt ecells hoL inv Wf WL hW fresh gL he hQ lt339 c3 c2 c1 F;rcases hb' with rfl|rfl|rfl|rfl;·exact .inl eloc.symm
   ·exact .inr (eq__2 (nOf "specs") (cellK _ (by rw[n2];simp)) lk1)
   ·exact .inr (eq__2 (nOf "names") (cellK _ (by rw[n2];simp)) lk2)
   ·exact .inr (eq__2 (nOf "made") (cellK _ (by rw[n2];simp)) lk3)
 refine aE (HX lawD.body _ _ W s env _ _ _ _ _ c (by rw[hlaw];intro q;cases q)) (fun f s' p=>?_) fun e s' p=>?_
 ·rcases p with⟨fo,fr₂,σ₂,W₂,h₂,tk₂,e1,rfl,_,c₂,rf⟩;rw[hlaw]at e1;cases e1;rcases rf with⟨rv,rfl,rp⟩;rcases eq__63.mp rp with rfl;refine eq__1 c₂.at_.fr.loc fun m' ns' _=>?_;rw[eloc]at ns';refine hQ h₂ tk₂ m' ⟨ns',c₂.at_.rel.stays,F.above⟩ ?_;rcases bA.mp h0 with⟨lt0,_⟩;rcases c₂.at_.rel.has 0 lt0 with⟨a,ha⟩;refine eq__1 (c₂.at_.rel.cell a 0 ha) fun cc hcc q=>?_;rw[h0]at hcc;cases hcc;clear ha;rcases q with⟨rfl,_,ps,hps⟩;exact⟨ps,hps⟩
 ·rcases p with⟨k,fr₂,σ₂,W₂,h₂,tk₂,e1,_⟩;rw[hlaw]at e1;cases e1
noncomputable def lawR:DefRec:={name:=a5 "law",params:={posonlyargs:=[],args:=[{arg:=a5 "script",annotation:=none,pos:=⟨536,8,536,14⟩}],vararg:=none,kwonlyargs:=[],kw_defaults:=[],kwarg:=none,defaults:=[]},body:=lawD.body,scope:=lawD.scope,pos:=pE}
theorem eq__794(w:Ab)(s:Ad)(h:yf s=ya):wA w s.heap:=by
 rcases eS h with⟨h1,h2⟩
 exact⟨Kof s.heap,eq__769 _,eq__757 h1,h2⟩
theorem eq__795(w:Ab)(h h':Ac)(s:wA w h)(k:∀b o,h.get? b=some o→h'.get? b=some o):wA w h':=
 let⟨K,a,b,c⟩:=s;⟨K,fun x o e=>k x o (a x o e),b,k _ _ c⟩
theorem eq__796:defOf qv rw_.row.name=some (lawR,[]):=by kernel_rfl
theorem eq__797:rw_.row.prog.theDef rw_.row.name=some (lawR.params,lawR.body,lawR.scope):=by kernel_rfl
theorem eq__798:(chainsOk qv&&opensWell rw_.row.prog&&(frees rw_.row.toRowW&&rw_.row.toRowW.within.isEmpty))=true:=by kernel_rfl
theorem eq__799:rw_.row.prog.bare:=⟨rfl,rfl,rfl,rfl,rfl,by decide+kernel⟩
theorem hd_(walk:WalkO qv lz (XL qv []) wA rw_.row.toRowW lawR [] fun f vs=>PySem.call f vs):dD.Holds:=
 holds_law eq__788 fun said=>holds_open (q:=qv) (loose:=lz) (Xt:=xt) (XP:=XL qv []) (Yf:=yf) (Ya:=fun _=>ya) (YP:=wA) (N:=8296) left eq__794 eq__795 (fun s e=>xl_of s (eA.mp e).1) XL.keeps eq__796 eq__797 (by rfl) (fun s e=>recFacts_of (eA.mp e).2) (by rfl) said eq__798 eq__799 ⟨[.list []],by decide+kernel,by decide+kernel⟩ walk
set_option tactic.hygienic false
variable{r:List Stmt}{σ₂ σ₃:St}
section
variable{s:Stmt}{q:SS}{e:Ag}{x:Str}
theorem eq__183:exs T (n+1) (s::r) fr σ=(match ex T n s fr σ with|.ok .next q=>exs T n r q.1 q.2|o=>o):=rfl
theorem eq__800(h:ex T n s fr σ=.ok .next q):exs T (n+1) (s::r) fr σ=exs T n r q.1 q.2:=by rw[eq__183,h]
theorem eq__801(h:ex T n s fr σ=.ok (.ret v) q):exs T (n+1) (s::r) fr σ=.ok (.ret v) q:=by rw[eq__183,h]
theorem eq__802(h:ex T n s fr σ=.ok .cont q):exs T (n+1) (s::r) fr σ=.ok .cont q:=by rw[eq__183,h]
theorem eq__154(h:ex T n s fr σ=.exc k q):exs T (n+1) (s::r) fr σ=.exc k q:=by rw[eq__183,h]
theorem eq__897:exs T (n+1) [] fr σ=.ok .next (fr,σ):=rfl
theorem eq__90{f:Val→SS→Out SS β}{m:Out St Val}(h:m=.ok v σ'):(qD fr m).bind f=f v (fr,σ'):=by rw[h];rfl
theorem eq__245{f:Val→SS→Out SS β}{m:Out St Val}(h:m=.exc k σ'):(qD fr m).bind f=.exc k (fr,σ'):=by rw[h];rfl
theorem eq__803(h:ev T n fr e σ=.ok v σ')(hp:fr.mayPut x=true):ex T (n+1) (.Assign [.Name x p] e pos) fr σ=.ok .next (fr.put x v,σ'):=(eq__90 h).trans (if_pos hp)
theorem eq__804{b o:List Stmt}{c:Bool}(h:tst T n fr t σ=.ok c σ'):ex T (n+1) (.If t b o pos) fr σ=if c then exs T n b fr σ' else exs T n o fr σ':=by
 have e:ex T (n+1) (.If t b o pos) fr σ=(qD fr (tst T n fr t σ)).bind fun c q=>if c then exs T n b q.1 q.2 else exs T n o q.1 q.2:=rfl
 rw[e,h];rfl
theorem eq__805(h:ev T n fr e σ=.ok v σ'):ex T (n+1) (.Return (some e) pos) fr σ=.ok (.ret v) (fr,σ'):=eq__90 h
theorem eq__806{g:Ag}{eq__13:Pos}(h:ev T n fr (.Call g args kws eq__13) σ=.ok v σ'):ex T (n+1) (.Expr (.Call g args kws eq__13) pos) fr σ=.ok .next (fr,σ'):=eq__90 h
theorem eq__807{g:Ag}{eq__13:Pos}(h:ev T n fr (.Call g args kws eq__13) σ=.exc k σ'):ex T (n+1) (.Expr (.Call g args kws eq__13) pos) fr σ=.exc k (fr,σ'):=by
 have e:ex T (n+1) (.Expr (.Call g args kws eq__13) pos) fr σ=(qD fr (ev T n fr (.Call g args kws eq__13) σ)).bind fun _ q=>.ok .next q:=rfl
 rw[e,h];rfl
theorem eq__808{a:Str}(h:ev T n fr e σ=.ok v σ')(h2:ev T n fr o σ'=.ok (.ref k) σ₂)(h3:qZ T k a v σ₂=some σ₃):ex T (n+1) (.Assign [.Attribute o a p] e pos) fr σ=.ok .next (fr,σ₃):=by
 refine(eq__90 h).trans ((eq__90 h2).trans ?_)
 dsimp only
 rw[h3]
theorem eq__809{i:Ag}{y:Str}{σ₄:St}(h:ev T n fr e σ=.ok v σ')(h2:ev T n fr o σ'=.ok (.ref k) σ₂)(h3:ev T n fr i σ₂=.ok (.str y) σ₃)(h4:r9 k y v σ₃=some σ₄):ex T (n+1) (.Assign [.Subscript o i p] e pos) fr σ=.ok .next (fr,σ₄):=by
 refine(eq__90 h).trans ((eq__90 h2).trans ((eq__90 h3).trans ?_))
 dsimp only
 rw[h4]
theorem eq__810{iter:Ag}(h:src T n fr iter σ=.ok sr σ')(ht:qG sr target=true):ex T (n+1) (.For target iter body [] pos) fr σ=qY sr (r5 T n target body) qC 0 fr σ':=by
 have e:ex T (n+1) (.For target iter body [] pos) fr σ=(qD fr (src T n fr iter σ)).bind fun s q=>if qG s target=false then .stuck else qY s (r5 T n target body) qC 0 q.1 q.2:=rfl
 rw[e,h]
 exact if_neg (by rw[ht];exact eG)
theorem eq__811(h:rF target v fr=some fr'):r5 T n target body v fr σ=exs T n body fr' σ:=by simp only[r5,h]
theorem eq__246:ex T (n+1) (.Try body (hd::hs) [] [] pos) fr σ=(match exs T n body fr σ with|.exc k q=>pP T (ev T n) k (hd::hs) q.1 q.2|r=>r):=rfl
theorem eq__812{fo:Flo}(h:exs T n body fr σ=.ok fo q):ex T (n+1) (.Try body (hd::hs) [] [] pos) fr σ=.ok fo q:=by
 rw[eq__246,h]
theorem eq__813(h:exs T n body fr σ=.exc k q):ex T (n+1) (.Try body (hd::hs) [] [] pos) fr σ=pP T (ev T n) k (hd::hs) q.1 q.2:=by
 rw[eq__246,h]
theorem eq__814{e:Ag}{eq__13:Pos}(hg:pV T fr x=some (.ref C))(ho:T.exn.lookup C=some own)(hst:pA e=false)(h:ev T n fr e σ=.ok v σ')(hf:s8 own v=some fs):
  ex T (n+1) (.Raise (some (.Call (.Name x np) [e] [] eq__13)) none pos) fr σ=.exc σ'.length (fr,σ'++[.exn C fs]):=by
 refine(if_neg (by rw[hst];exact eG)).trans ?_
 rw[hg]
 dsimp only
 rw[ho]
 refine(eq__90 h).trans ?_
 rw[hf]
end
theorem eq__407(k:Nat):(Tn k).glob=qI:=rfl
theorem eq__408(k:Nat):(Tn k).meth=methT:=rfl
theorem eq__409(k:Nat):(Tn k).stat=statT:=rfl
theorem eq__247(k:Nat):(Tn k).attr=attrT:=rfl
theorem eq__815(k:Nat):(Tn k).eattr=eattrT:=rfl
theorem eq__410(k:Nat):(Tn k).exn=vV:=rfl
theorem eq__411(k:Nat)(p:Pos):(Tn k).chg p=x9 p:=rfl
theorem eq__898(k:Nat)(a:Addr):(Tn (k+1)).call a=(defsL.lookup a).map fun d=>callD (Tn k) 60 (sA a) d:=rfl
theorem eq__899(k:Nat)(a:Addr):(Tn (k+1)).make a=tS (Tn k) a:=rfl
theorem eq__816(k:Nat)(d:CloD):(Tn (k+1)).clo d=cloT (Tn k) 60 d:=rfl
theorem eq__184(k:Nat):∃c m f,Tn k=sX c m f:=⟨_,_,_,rfl⟩
theorem eq__412(k:Nat)(σ:St):callD (Tn k) 60 0 (pY (nOf "_law_names")) [] σ=.ok (.lst (names8.map .str)) σ:=by intros n0 Nat k St σ;rcases eq__184 k with⟨c,m,f,e⟩;rw[e];exact eq__789 c m f σ
theorem eq__413(k:Nat)(σ:St){n p:Str}(hn:n∈names8)(hp:p∈pats8):callD (Tn k) 60 0 (pY (nOf "matches")) [.str n,.str p] σ=.ok (.bool (tJ n p)) σ:=by intros n2 Nat k St σ Str n Str p;rcases eq__184 k with⟨c,m,f,e⟩;rw[e];exact eq__790 c m f σ n hn p hp
theorem eq__414(k:Nat)(σ:St){n p:Str}(hn:n∈names8)(hp:p∈pats8):callD (Tn k) 60 0 (pY (nOf "_law_like")) [.str n,.str p] σ=.ok (.bool (tJ n p)) σ:=by intros n2 Nat k St σ Str n Str p;rcases eq__184 k with⟨c,m,f,e⟩;rw[e];exact eq__791 c m f σ n hn p hp
variable{τ:St}
theorem get_app(h:σ[k]?=some c):(σ++τ)[k]?=some c:=by rw[bD (bA.mp h).1];exact h
theorem get_new:(σ++[c])[σ.length]?=some c:=by simp
theorem eq__248{d:Cell}:(σ++[c]).set σ.length d=σ++[d]:=by simp
variable{j:Nat}
theorem eq__5{d:Cell}(h:σ[k]?=some c)(ne:j≠k):(σ.set j d)[k]?=some c:=by rw[aX ne];exact h
theorem eq__44{d:Cell}(h:σ[k]?=some c):(σ.set k d)[k]?=some d:=gV (bA.mp h).1
theorem eq__50(h:σ[k]?=some c):k<σ.length:=(bA.mp h).1
theorem eq__415:look (a5 "Task") qI=some (.imm (.ref 223)):=by kernel_rfl
theorem eq__416:look (a5 "TaskControl") qI=some (.imm (.ref 368)):=by kernel_rfl
theorem eq__417:look (a5 "InvalidCommand") qI=some (.imm (.ref 39)):=by kernel_rfl
theorem eq__418:look (a5 "InvalidDodoFile") qI=some (.imm (.ref 52)):=by kernel_rfl
theorem eq__419:look (a5 "InvalidTask") qI=some (.imm (.ref 78)):=by kernel_rfl
theorem eq__420:look (a5 "matches") qI=some (.imm (.ref 289)):=by kernel_rfl
theorem eq__421:look (a5 "_law_names") qI=some (.imm (.ref 485)):=by kernel_rfl
theorem gl_ulawupatterns:look (a5 "_law_patterns") qI=some (.lst (pats8.map .str)):=by kernel_rfl
theorem gl_ulawufiles:look (a5 "_law_files") qI=some (.lst (files4.map .str)):=by kernel_rfl
theorem eq__422:look (a5 "_law_like") qI=some (.imm (.ref 492)):=by kernel_rfl
theorem eq__423:look (a5 "_law_spec") qI=some (.imm (.ref 497)):=by kernel_rfl
theorem eq__424:look (a5 "_law_refusal") qI=some (.imm (.ref 502)):=by kernel_rfl
theorem eq__425:look (a5 "_law_needs") qI=some (.imm (.ref 507)):=by kernel_rfl
theorem eq__426:look (a5 "_law_selected") qI=some (.imm (.ref 512)):=by kernel_rfl
theorem eq__427:look (a5 "_law_made") qI=some (.imm (.ref 517)):=by kernel_rfl
theorem eq__428:look (a5 "len") qI=some (.imm (.builtin "len")):=by kernel_rfl
theorem eq__429:look (a5 "abs") qI=some (.imm (.builtin "abs")):=by kernel_rfl
theorem eq__430:look (a5 "isinstance") qI=some (.imm (.builtin "isinstance")):=by kernel_rfl
theorem eq__431:look (a5 "list") qI=some (.imm (.type "list")):=by kernel_rfl
theorem eq__432:look (a5 "str") qI=some (.imm (.type "str")):=by kernel_rfl
theorem eq__433:look (a5 "set") qI=some (.imm (.type "set")):=by kernel_rfl
theorem eq__434:look (a5 "range") qI=some (.imm (.type "range")):=by kernel_rfl
theorem eq__435:look (a5 "enumerate") qI=some (.imm (.type "enumerate")):=by kernel_rfl
noncomputable abbrev xN:qU:=pY (nOf "matches")
theorem eq__436(k:Nat):(Tn (k+1)).call 289=some (callD (Tn k) 60 0 xN):=rfl
noncomputable abbrev xO:qU:=pY (nOf "_law_names")
theorem eq__128(k:Nat):(Tn (k+1)).call 485=some (callD (Tn k) 60 0 xO):=rfl
noncomputable abbrev xP:qU:=pY (nOf "_law_like")
theorem eq__900(k:Nat):(Tn (k+1)).call 492=some (callD (Tn k) 60 0 xP):=rfl
noncomputable abbrev d497:qU:=pY (nOf "_law_spec")
theorem eq__901(k:Nat):(Tn (k+1)).call 497=some (callD (Tn k) 60 0 d497):=rfl
noncomputable abbrev d502:qU:=pY (nOf "_law_refusal")
theorem eq__902(k:Nat):(Tn (k+1)).call 502=some (callD (Tn k) 60 0 d502):=rfl
noncomputable abbrev d507:qU:=pY (nOf "_law_needs")
theorem eq__817(k:Nat):(Tn (k+1)).call 507=some (callD (Tn k) 60 0 d507):=rfl
noncomputable abbrev d512:qU:=pY (nOf "_law_selected")
theorem eq__903(k:Nat):(Tn (k+1)).call 512=some (callD (Tn k) 60 0 d512):=rfl
noncomputable abbrev d517:qU:=pY (nOf "_law_made")
theorem eq__904(k:Nat):(Tn (k+1)).call 517=some (callD (Tn k) 60 0 d517):=rfl
noncomputable abbrev d144:qU:=pJ (nOf "Task") (nOf "_init_deps")
theorem eq__905(k:Nat):(Tn (k+1)).call 144=some (callD (Tn k) 60 0 d144):=rfl
noncomputable abbrev d151:qU:=pJ (nOf "Task") (nOf "_init_targets")
theorem eq__906(k:Nat):(Tn (k+1)).call 151=some (callD (Tn k) 60 0 d151):=rfl
noncomputable abbrev xH:qU:=pJ (nOf "Task") (nOf "_init_uptodate")
theorem eq__907(k:Nat):(Tn (k+1)).call 158=some (callD (Tn k) 60 0 xH):=rfl
noncomputable abbrev d165:qU:=pJ (nOf "Task") (nOf "_expand_file_dep")
theorem eq__818(k:Nat):(Tn (k+1)).call 165=some (callD (Tn k) 60 0 d165):=rfl
noncomputable abbrev d172:qU:=pJ (nOf "Task") (nOf "_expand_task_dep")
theorem eq__819(k:Nat):(Tn (k+1)).call 172=some (callD (Tn k) 60 0 d172):=rfl
noncomputable abbrev d201:qU:=pJ (nOf "Task") (nOf "init_options")
theorem eq__908(k:Nat):(Tn (k+1)).call 201=some (callD (Tn k) 60 0 d201):=rfl
noncomputable abbrev d310:qU:=pJ (nOf "TaskControl") (nOf "_check_dep_names")
theorem eq__909(k:Nat):(Tn (k+1)).call 310=some (callD (Tn k) 60 0 d310):=rfl
noncomputable abbrev d317:qU:=pJ (nOf "TaskControl") (nOf "set_implicit_deps")
theorem eq__910(k:Nat):(Tn (k+1)).call 317=some (callD (Tn k) 60 0 d317):=rfl
noncomputable abbrev d327:qU:=pJ (nOf "TaskControl") (nOf "add_implicit_task_dep")
theorem eq__911(k:Nat):(Tn (k+1)).call 327=some (callD (Tn k) 60 0 d327):=rfl
noncomputable abbrev d337:qU:=pJ (nOf "TaskControl") (nOf "_get_wild_tasks")
theorem eq__912(k:Nat):(Tn (k+1)).call 337=some (callD (Tn k) 60 0 d337):=rfl
noncomputable abbrev d344:qU:=pJ (nOf "TaskControl") (nOf "_process_filter")
theorem eq__913(k:Nat):(Tn (k+1)).call 344=some (callD (Tn k) 60 343 d344):=rfl
noncomputable abbrev d351:qU:=pJ (nOf "TaskControl") (nOf "_filter_tasks")
theorem eq__914(k:Nat):(Tn (k+1)).call 351=some (callD (Tn k) 60 0 d351):=rfl
noncomputable abbrev d358:qU:=pJ (nOf "TaskControl") (nOf "process")
theorem eq__915(k:Nat):(Tn (k+1)).call 358=some (callD (Tn k) 60 0 d358):=rfl
theorem eq__916(k:Nat):(Tn (k+1)).call 223=none:=rfl
theorem eq__917(k:Nat):(Tn (k+1)).call 368=none:=rfl
theorem eq__918(k:Nat):(Tn (k+1)).call 39=none:=rfl
theorem eq__919(k:Nat):(Tn (k+1)).call 52=none:=rfl
theorem eq__920(k:Nat):(Tn (k+1)).call 78=none:=rfl
theorem mk_223(k:Nat):(Tn (k+1)).make 223=some (makeTask (Tn k)):=rfl
theorem mk_368(k:Nat):(Tn (k+1)).make 368=some (qM (Tn k)):=rfl
theorem eq__921:(methT.lookup 223).bind (look (a5 "_init_deps"))=some 144:=by kernel_rfl
theorem eq__922:(methT.lookup 223).bind (look (a5 "_init_targets"))=some 151:=by kernel_rfl
theorem eq__923:(methT.lookup 223).bind (look (a5 "_init_uptodate"))=some 158:=by kernel_rfl
theorem eq__820:(methT.lookup 223).bind (look (a5 "_expand_file_dep"))=some 165:=by kernel_rfl
theorem eq__821:(methT.lookup 223).bind (look (a5 "_expand_task_dep"))=some 172:=by kernel_rfl
theorem eq__924:(methT.lookup 223).bind (look (a5 "init_options"))=some 201:=by kernel_rfl
theorem eq__925:(methT.lookup 368).bind (look (a5 "_check_dep_names"))=some 310:=by kernel_rfl
theorem eq__926:(methT.lookup 368).bind (look (a5 "_get_wild_tasks"))=some 337:=by kernel_rfl
theorem eq__927:(methT.lookup 368).bind (look (a5 "_process_filter"))=some 344:=by kernel_rfl
theorem eq__928:(methT.lookup 368).bind (look (a5 "_filter_tasks"))=some 351:=by kernel_rfl
theorem eq__929:(methT.lookup 368).bind (look (a5 "process"))=some 358:=by kernel_rfl
theorem eq__930:(statT.lookup 368).bind (look (a5 "set_implicit_deps"))=some 317:=by kernel_rfl
theorem eq__931:(methT.lookup 368).bind (look (a5 "set_implicit_deps"))=none:=by kernel_rfl
theorem eq__932:(statT.lookup 368).bind (look (a5 "add_implicit_task_dep"))=some 327:=by kernel_rfl
theorem eq__933:(methT.lookup 368).bind (look (a5 "add_implicit_task_dep"))=none:=by kernel_rfl
theorem eq__437(k:Nat)(C:Addr)(x:Str):(Tn k).hasAttr C x=((attrT.lookup C).map fun l=>l.contains x).getD false:=by unfold Tab.hasAttr;rw[eq__247]
theorem eq__438(k:Nat)(C:Addr)(x:Str):(Tn k).hasAttrE C x=((eattrT.lookup C).map fun l=>l.contains x).getD false:=by unfold Tab.hasAttrE;rw[eq__815]
noncomputable abbrev Keep(G:Prop):Prop:=G→G
noncomputable abbrev Turn(G G':Prop):Prop:=(G=G')→G'→G
def qA(o:Out SS Flo)(Q:Out SS Flo→Prop):Prop:=Q o
noncomputable def vB(T:Tab)(n:Nat)(r:List Stmt)(Q:Out SS Flo→Prop):Out SS Flo→Prop
 |.ok .next q=>qA (exs T n r q.1 q.2) Q
 |o=>Q o
noncomputable def Out.leaves:Out SS Flo→Prop
 |.ok (.ret _) _=>True
 |.exc _ _=>True
 |_=>False
variable{k':Nat}
section
variable{s:Stmt}{q:SS}{e:Ag}{x:Str}{Q:Out SS Flo→Prop}
theorem eq__249(k:qA (ex T n s fr σ) (vB T n r Q)):qA (exs T (n+1) (s::r) fr σ) Q:=by
 unfold qA at*
 dsimp only[exs]
 match h:ex T n s fr σ with
 |.ok .next q=>rw[h]at k;exact k
 |.ok .cont q=>rw[h]at k;exact k
 |.ok (.ret v) q=>rw[h]at k;exact k
 |.exc k' q=>rw[h]at k;exact k
 |.stuck=>rw[h]at k;exact k
theorem eq__4(k:Q (.ok .next (fr,σ))):qA (exs T (n+1) [] fr σ) Q:=k
theorem eq__73{o o':Out SS Flo}(h:o=o')(k:qA o' Q):qA o Q:=h▸k
theorem eq__129(h:ex T n s fr σ=.ok .next q)(k:qA (exs T n r q.1 q.2) Q):qA (exs T (n+1) (s::r) fr σ) Q:=eq__73 (eq__800 h) k
theorem eq__12(h:ev T n fr e σ=.ok v σ')(hp:fr.mayPut x=true)(k:qA (exs T (n+1) r (fr.put x v) σ') Q):qA (exs T (n+2) (.Assign [.Name x p] e pos::r) fr σ) Q:=eq__129 (eq__803 h hp) k
theorem eq__33{g:Ag}{eq__13:Pos}(h:ev T n fr (.Call g args kws eq__13) σ=.ok v σ')(k:qA (exs T (n+1) r fr σ') Q):qA (exs T (n+2) (.Expr (.Call g args kws eq__13) pos::r) fr σ) Q:=eq__129 (eq__806 h) k
theorem eq__250{g:Ag}{eq__13:Pos}(h:ev T n fr (.Call g args kws eq__13) σ=.exc k' σ')(k:Q (.exc k' (fr,σ'))):qA (exs T (n+2) (.Expr (.Call g args kws eq__13) pos::r) fr σ) Q:=eq__73 (eq__154 (eq__807 h)) k
theorem eq__49(h:ev T n fr e σ=.ok v σ')(k:Q (.ok (.ret v) (fr,σ'))):qA (exs T (n+2) (.Return (some e) pos::r) fr σ) Q:=eq__73 (eq__801 (eq__805 h)) k
theorem eq__251{b o:List Stmt}{c:Bool}(h:tst T n fr t σ=.ok c σ')(k:qA (if c then exs T n b fr σ' else exs T n o fr σ') (vB T (n+1) r Q)):qA (exs T (n+2) (.If t b o pos::r) fr σ) Q:=eq__249 (eq__73 (eq__804 h) k)
theorem eq__26{b o:List Stmt}(h:tst T n fr t σ=.ok true σ')(k:qA (exs T n b fr σ') (vB T (n+1) r Q)):qA (exs T (n+2) (.If t b o pos::r) fr σ) Q:=eq__251 h k
theorem eq__23{b o:List Stmt}(h:tst T n fr t σ=.ok false σ')(k:qA (exs T n o fr σ') (vB T (n+1) r Q)):qA (exs T (n+2) (.If t b o pos::r) fr σ) Q:=eq__251 h k
theorem eq__36{a:Str}(h:ev T n fr e σ=.ok v σ')(h2:ev T n fr o σ'=.ok (.ref k') σ₂)(h3:qZ T k' a v σ₂=some σ₃)(k:qA (exs T (n+1) r fr σ₃) Q):qA (exs T (n+2) (.Assign [.Attribute o a p] e pos::r) fr σ) Q:=eq__129 (eq__808 h h2 h3) k
theorem eq__439{i:Ag}{y:Str}{σ₄:St}(h:ev T n fr e σ=.ok v σ')(h2:ev T n fr o σ'=.ok (.ref k') σ₂)(h3:ev T n fr i σ₂=.ok (.str y) σ₃)(h4:r9 k' y v σ₃=some σ₄)(k:qA (exs T (n+1) r fr σ₄) Q):
  qA (exs T (n+2) (.Assign [.Subscript o i p] e pos::r) fr σ) Q:=eq__129 (eq__809 h h2 h3 h4) k
theorem eq__130{e:Ag}{eq__13:Pos}(hg:pV T fr x=some (.ref C))(ho:T.exn.lookup C=some own)(hst:pA e=false)(h:ev T n fr e σ=.ok v σ')(hf:s8 own v=some fs)(k:Q (.exc σ'.length (fr,σ'++[.exn C fs]))):
  qA (exs T (n+2) (.Raise (some (.Call (.Name x np) [e] [] eq__13)) none pos::r) fr σ) Q:=eq__73 (eq__154 (eq__814 hg ho hst h hf)) k
theorem eq__440(k:Q (.ok .cont (fr,σ))):qA (exs T (n+2) (.Continue pos::r) fr σ) Q:=eq__73 (eq__802 (q:=(fr,σ)) rfl) k
end
theorem eq__822{body:Val→Fr→St→Out SS Flo}(I:Nat→Fr→St→Prop)(X:Out SS Flo→Prop)(vs:List Val)(hn:∀i fr σ,I i fr σ→pG σ sr i=some vs[i]?)(step:∀i v fr σ,I i fr σ→vs[i]?=some v→qA (body v fr σ) fun o=>(∃fo fr' σ',o=.ok fo (fr',σ')∧fo.goes∧I (i+1) fr' σ')∨(o.leaves∧X o)):
  ∀(k i:Nat)(f:Nat)(fr:Fr)(σ:St),i+k=vs.length→k<f→I i fr σ→(∃fr' σ',qY sr body f i fr σ=.ok .next (fr',σ')∧I vs.length fr' σ')∨((qY sr body f i fr σ).leaves∧X (qY sr body f i fr σ)):=by
 intro k
 induction k with
 |zero=>
  intro i f fr σ hi hf h;cases f with
  |zero=>omega
  |succ f=>
   have hi:i=vs.length:=by omega
   subst hi;refine .inl (eq__28 fr σ ?_ h);rw[eq__213,hn _ _ _ h,cE (aN _)]
 |succ k ih=>
  intro i f fr σ hi hf h;cases f with
  |zero=>omega
  |succ f=>
   have lt:i<vs.length:=by omega
   have e0:qY sr body (f+1) i fr σ=match body vs[i] fr σ with
     |.ok (.ret v) q=>.ok (.ret v) q
     |.ok _ q=>qY sr body f (i+1) q.1 q.2
     |.exc k q=>.exc k q
     |.stuck=>.stuck:=by
    rw[eq__213,hn _ _ _ h,aW lt];try rfl
   rw[e0];rcases step i _ fr σ h (aW lt)with⟨fo,fr',σ',e,go,h'⟩|⟨lv,hx⟩
   ·rw[e];clear e;cases fo with
    |next=>exact ih (i+1) f fr' σ' (by omega) (by omega) h'
    |cont=>exact ih (i+1) f fr' σ' (by omega) (by omega) h'
    |ret v=>exact go.elim
   ·match hb:body vs[i] fr σ with
    |.ok (.ret v) q=>rw[hb]at lv hx;exact .inr ⟨lv,hx⟩
    |.exc k q=>rw[hb]at lv hx;exact .inr ⟨lv,hx⟩
    |.ok .next q=>rw[hb]at lv;exact lv.elim
    |.ok .cont q=>rw[hb]at lv;exact lv.elim
    |.stuck=>rw[hb]at lv;exact lv.elim
section
variable{Q:Out SS Flo→Prop}
theorem eq__81{iter:Ag}(h:src T n fr iter σ=.ok sr σ')(ht:qG sr target=true)(vs:List Val)(I:Nat→Fr→St→Prop)(X:Out SS Flo→Prop)(hl:vs.length<1000)(h0:I 0 fr σ')(hn:∀i fr σ,I i fr σ→pG σ sr i=some vs[i]?)(step:∀i v fr σ,I i fr σ→vs[i]?=some v→∃fr₁,rF target v fr=some fr₁∧qA (exs T n body fr₁ σ) fun o=>(∃fo fr' σ',o=.ok fo (fr',σ')∧fo.goes∧I (i+1) fr' σ')∨(o.leaves∧X o))(k:∀fr' σ',I vs.length fr' σ'→qA (exs T (n+1) r fr' σ') Q)(kx:∀o,o.leaves→X o→Q o):qA (exs T (n+2) (.For target iter body [] pos::r) fr σ) Q:=by
 refine eq__249 (eq__73 (eq__810 h ht) ?_)
 rcases eq__822 (body:=r5 T n target body) I X vs hn (fun i v fr σ hi hv=>by
  refine eq__1 (step i v fr σ hi hv) fun fr₁ hb g=>?_;exact eq__73 (eq__811 hb) g) vs.length 0 qC fr σ' (by omega) hl h0 with⟨fr',σ'',e,hi⟩|⟨lv,hx⟩
 ·skip;rw[e];exact k fr' σ'' hi
 ·skip;have :=kx _ lv hx;match hb:qY sr (r5 T n target body) qC 0 fr σ' with
  |.ok (.ret v) q=>rw[hb]at this;exact this
  |.exc k q=>rw[hb]at this;exact this
  |.ok .next q=>rw[hb]at lv;exact lv.elim
  |.ok .cont q=>rw[hb]at lv;exact lv.elim
  |.stuck=>rw[hb]at lv;exact lv.elim
theorem eq__57{iter:Ag}(h:src T n fr iter σ=.ok sr σ')(ht:qG sr target=true)(vs:List Val)(I:Nat→Fr→St→Prop)(hl:vs.length<1000)(h0:I 0 fr σ')(hn:∀i fr σ,I i fr σ→pG σ sr i=some vs[i]?)(step:∀i v fr σ,I i fr σ→vs[i]?=some v→∃fr₁,rF target v fr=some fr₁∧qA (exs T n body fr₁ σ) fun o=>∃fo fr' σ',o=.ok fo (fr',σ')∧fo.goes∧I (i+1) fr' σ')(k:∀fr' σ',I vs.length fr' σ'→qA (exs T (n+1) r fr' σ') Q):qA (exs T (n+2) (.For target iter body [] pos::r) fr σ) Q:=
 eq__81 h ht vs I (fun _=>False) hl h0 hn (fun i v fr σ hi hv=>by refine eq__1 (step i v fr σ hi hv) fun fr₁ hb g=>?_;exact eq__2 fr₁ hb (.inl g)) k fun _ _ x=>x.elim
end
theorem eq__40{d:qU}{R:Out St Val→Prop}(hl:d.pars.length=vs.length)(h:qA (exs T n d.body {scope:=d.scope,fn:=true,vars:=d.pars.zip vs,code:=code} σ) fun o=>R (sE o)):R (callD T n code d vs σ):=by
 simp only[callD,rJ,hl,if_true,eq__151]
 exact h
variable{evE:Fr→Ag→EM}
section
variable{q r:Pos}{k:Int}
theorem eq__441{t:Nat}:ev T (n+1) fr (.Constant .none t p) σ=.ok .none σ:=rfl
theorem eq__442{t:Nat}{b:Bool}:ev T (n+1) fr (.Constant (.bool b) t p) σ=.ok (.bool b) σ:=rfl
theorem eq__443{t:Nat}{i:Int}:ev T (n+1) fr (.Constant (.int i) t p) σ=.ok (.int i) σ:=rfl
theorem eq__252{t:Nat}{x:Str}:ev T (n+1) fr (.Constant (.str x) t p) σ=if x.length≤lim then .ok (.str x) σ else .stuck:=rfl
theorem eq__185{x:Str}:ev T (n+1) fr (.Name x p) σ=(match nameV T fr x with|some v=>.ok v σ|none=>.stuck):=rfl
theorem eq__444{op:BoolOp}{vs:List Ag}:ev T (n+1) fr (.BoolOp op vs p) σ=pX T n fr op vs σ:=rfl
theorem eq__253{l r:Ag}{op:Operator}:ev T (n+1) fr (.BinOp l op r p) σ=(ev T n fr l σ).bind fun a σ₁=>(ev T n fr r σ₁).bind fun b σ₂=>sQ T p op a b σ₂:=rfl
theorem eq__155{t b o:Ag}:ev T (n+1) fr (.IfExp t b o p) σ=(tst T n fr t σ).bind fun c σ₁=>if c then ev T n fr b σ₁ else ev T n fr o σ₁:=rfl
theorem eq__186:ev T (n+1) fr (.Dict [] [] p) σ=if T.chg p then .ok (.ref σ.length) (σ++[.dict [] 0])else .ok .dct0 σ:=rfl
theorem eq__254{es:List Ag}:ev T (n+1) fr (.List es p) σ=if es.any pA then .stuck else(pQ (ev T n fr) es σ).bind fun vs σ₁=>mkList T p vs σ₁:=rfl
theorem eq__255{es:List Ag}{t:Nat}:ev T (n+1) fr (.Tuple es t p) σ=if es.any pA then .stuck else(pQ (ev T n fr) es σ).bind fun vs σ₁=>if vs.length≤lim then .ok (.tup vs) σ₁ else .stuck:=rfl
theorem eq__256{l r:Ag}{op:CmpOp}:ev T (n+1) fr (.Compare l [op] [r] p) σ=if behindInMarks op r=true then .stuck else(ev T n fr l σ).bind fun a σ₁=>(ev T n fr r σ₁).bind fun b σ₂=>(match qN σ₂ op a b with|some c=>.ok (.bool c) σ₂|none=>.stuck):=rfl
theorem eq__257{o:Ag}{m:Str}{as:List Ag}:ev T (n+1) fr (.Call (.Attribute o m q) as [] p) σ=if as.any pA=false∧pO o=true∧as.length<20∧(q.endLine==p.line)=true then(ev T n fr o σ).bind fun ov σ₁=>(match rQ T σ₁ ov m with|some k=>(pQ (ev T n fr) as σ₁).bind fun vs σ₂=>qX T p k ov vs σ₂|none=>.stuck)else .stuck:=rfl
theorem eq__258{f g:Str}{x:Ag}{u:Pos}:ev T (n+1) fr (.Call (.Name f q) [.Call (.Name g r) [x] [] u] [] p) σ=if pV T fr f=some (.builtin "len")∧pV T fr g=some (.type "set")∧pA x=false then(ev T n fr x σ).bind fun v σ₁=>qQ σ₁ v else .stuck:=rfl
theorem eq__445{f:Str}{ks:List Keyword}:ev T (n+1) fr (.Call (.Name f q) [] ks p) σ=q9 T n fr f [] ks p σ:=rfl
theorem eq__446{f x:Str}:ev T (n+1) fr (.Call (.Name f q) [.Name x r] [] p) σ=q9 T n fr f [.Name x r] [] p σ:=rfl
theorem eq__447{f x:Str}{o:Ag}:ev T (n+1) fr (.Call (.Name f q) [.Attribute o x r] [] p) σ=q9 T n fr f [.Attribute o x r] [] p σ:=rfl
theorem eq__448{f:Str}{o i:Ag}:ev T (n+1) fr (.Call (.Name f q) [.Subscript o i r] [] p) σ=q9 T n fr f [.Subscript o i r] [] p σ:=rfl
theorem eq__449{f:Str}{o i:Ag}{op:Operator}:ev T (n+1) fr (.Call (.Name f q) [.BinOp o op i r] [] p) σ=q9 T n fr f [.BinOp o op i r] [] p σ:=rfl
theorem eq__450{f x:Str}{y:Ag}{es:List Ag}{ks:List Keyword}:ev T (n+1) fr (.Call (.Name f q) (.Name x r::y::es) ks p) σ=q9 T n fr f (.Name x r::y::es) ks p σ:=rfl
theorem eq__451{f:Str}{o i y:Ag}{es:List Ag}{ks:List Keyword}:ev T (n+1) fr (.Call (.Name f q) (.Subscript o i r::y::es) ks p) σ=q9 T n fr f (.Subscript o i r::y::es) ks p σ:=rfl
theorem eq__452{f:Str}{y:Ag}{es ts:List Ag}{t:Nat}{ks:List Keyword}:ev T (n+1) fr (.Call (.Name f q) (.Tuple ts t r::y::es) ks p) σ=q9 T n fr f (.Tuple ts t r::y::es) ks p σ:=rfl
theorem eq__187{o:Ag}{m:Str}:ev T (n+1) fr (.Attribute o m p) σ=if pO o=false then .stuck else(ev T n fr o σ).bind fun ov σ₁=>sH T σ₁ ov m:=rfl
theorem eq__259{o:Ag}{lo hi:Option Ag}:ev T (n+1) fr (.Subscript o (.Slice lo hi none q) p) σ=(ev T n fr o σ).bind fun ov σ₁=>(qT T n fr lo σ₁).bind fun l σ₂=>(qT T n fr hi σ₂).bind fun u σ₃=>qS T p σ₃ ov l u:=rfl
theorem eq__260{o:Ag}{t:Nat}{c:Const}:ev T (n+1) fr (.Subscript o (.Constant c t q) p) σ=(ev T n fr o σ).bind fun ov σ₁=>(ev T n fr (.Constant c t q) σ₁).bind fun iv σ₂=>(match r8 σ₂ ov iv with|some v=>.ok v σ₂|none=>.stuck):=rfl
theorem eq__261{o:Ag}{x:Str}:ev T (n+1) fr (.Subscript o (.Name x q) p) σ=(ev T n fr o σ).bind fun ov σ₁=>(ev T n fr (.Name x q) σ₁).bind fun iv σ₂=>(match r8 σ₂ ov iv with|some v=>.ok v σ₂|none=>.stuck):=rfl
theorem eq__262{o l r:Ag}{op:Operator}:ev T (n+1) fr (.Subscript o (.BinOp l op r q) p) σ=(ev T n fr o σ).bind fun ov σ₁=>(ev T n fr (.BinOp l op r q) σ₁).bind fun iv σ₂=>(match r8 σ₂ ov iv with|some v=>.ok v σ₂|none=>.stuck):=rfl
theorem eq__263{ps:List Ag}:ev T (n+1) fr (.JoinedStr ps p) σ=if ps.length<2 then .stuck else(pI (ev T n fr) ps 0 σ).bind fun _ σ₁=>.ok .any σ₁:=rfl
theorem eq__453:qT T (n+1) fr none σ=.ok .none σ:=rfl
theorem eq__454{x:Ag}:qT T (n+1) fr (some x) σ=ev T n fr x σ:=rfl
theorem eq__455{op:BoolOp}{x:Ag}:pX T (n+1) fr op [x] σ=ev T n fr x σ:=rfl
theorem eq__116{op:BoolOp}{x y:Ag}{es:List Ag}:pX T (n+1) fr op (x::y::es) σ=(ev T n fr x σ).bind fun v σ₁=>(match op,pN σ₁ v with|.And,some true=>pX T n fr op (y::es) σ₁|.And,some false=>.ok v σ₁|.Or,some true=>.ok v σ₁|.Or,some false=>pX T n fr op (y::es) σ₁|_,none=>.stuck):=rfl
theorem eq__156{x:Ag}:tst T (n+1) fr (.UnaryOp .Not x p) σ=(tst T n fr x σ).bind fun b σ₁=>.ok (!b) σ₁:=rfl
theorem eq__456{op:BoolOp}{vs:List Ag}:tst T (n+1) fr (.BoolOp op vs p) σ=qE T n fr op vs σ:=rfl
theorem eq__264{l r:Ag}{op:CmpOp}:tst T (n+1) fr (.Compare l [op] [r] p) σ=if behindInMarks op r=true then .stuck else(ev T n fr l σ).bind fun a σ₁=>(ev T n fr r σ₁).bind fun b σ₂=>(match qN σ₂ op a b with|some c=>.ok c σ₂|none=>.stuck):=rfl
theorem eq__265{x:Str}:tst T (n+1) fr (.Name x p) σ=(ev T n fr (.Name x p) σ).bind fun v σ₁=>(match pN σ₁ v with|some b=>.ok b σ₁|none=>.stuck):=rfl
theorem eq__266{o:Ag}{x:Str}:tst T (n+1) fr (.Attribute o x p) σ=(ev T n fr (.Attribute o x p) σ).bind fun v σ₁=>(match pN σ₁ v with|some b=>.ok b σ₁|none=>.stuck):=rfl
theorem eq__267{f:Ag}{as:List Ag}{ks:List Keyword}:tst T (n+1) fr (.Call f as ks p) σ=(ev T n fr (.Call f as ks p) σ).bind fun v σ₁=>(match pN σ₁ v with|some b=>.ok b σ₁|none=>.stuck):=rfl
theorem eq__457{t:Nat}{c:Const}:tst T (n+1) fr (.Constant c t p) σ=(ev T n fr (.Constant c t p) σ).bind fun v σ₁=>(match pN σ₁ v with|some b=>.ok b σ₁|none=>.stuck):=rfl
theorem eq__268{o i:Ag}:tst T (n+1) fr (.Subscript o i p) σ=(ev T n fr (.Subscript o i p) σ).bind fun v σ₁=>(match pN σ₁ v with|some b=>.ok b σ₁|none=>.stuck):=rfl
theorem eq__458{op:BoolOp}:qE T (n+1) fr op [] σ=.ok (op==.And) σ:=rfl
theorem eq__117{op:BoolOp}{x:Ag}{es:List Ag}:qE T (n+1) fr op (x::es) σ=(tst T n fr x σ).bind fun b σ₁=>(match op,b with|.And,true=>qE T n fr op es σ₁|.And,false=>.ok false σ₁|.Or,true=>.ok true σ₁|.Or,false=>qE T n fr op es σ₁):=rfl
theorem eq__157{x:Ag}:src T (n+1) fr x σ=(match pR T fr x with|.vals o=>(ev T n fr o σ).bind fun v σ₁=>rZ σ₁ v|.rng x=>(ev T n fr x σ).bind fun v σ₁=>vR σ₁ v|.enm x=>(ev T n fr x σ).bind fun v σ₁=>vH σ₁ v|.plain=>(ev T n fr x σ).bind fun v σ₁=>tB σ₁ v):=rfl
theorem eq__459{o:Ag}{m:Str}:pR T fr (.Call (.Attribute o m q) [] [] p)=if m=nOf "values"∧pO o=true∧(q.endLine==p.line)=true then .vals o else .plain:=rfl
theorem eq__460{f:Str}{x:Ag}:pR T fr (.Call (.Name f q) [x] [] p)=if pA x=true then .plain else if pV T fr f=some (.type "range")then .rng x else if pV T fr f=some (.type "enumerate")then .enm x else .plain:=rfl
theorem eq__461{x:Str}:pR T fr (.Name x p)=.plain:=rfl
theorem eq__462{o:Ag}{x:Str}:pR T fr (.Attribute o x p)=.plain:=rfl
theorem eq__463{o i:Ag}:pR T fr (.Subscript o i p)=.plain:=rfl
theorem eq__464{t b o:Ag}:pR T fr (.IfExp t b o p)=.plain:=rfl
theorem eq__465{l r:Ag}{op:Operator}:pR T fr (.BinOp l op r p)=.plain:=rfl
theorem eq__466{o x:Ag}{m:Str}{es:List Ag}{ks:List Keyword}:pR T fr (.Call (.Attribute o m q) (x::es) ks p)=.plain:=rfl
theorem eq__467{f:Str}{ks:List Keyword}:pR T fr (.Call (.Name f q) [] ks p)=.plain:=rfl
theorem eq__468{f:Str}{x y:Ag}{es:List Ag}{ks:List Keyword}:pR T fr (.Call (.Name f q) (x::y::es) ks p)=.plain:=rfl
theorem eq__469{x:Ag}{gs:List Comprehension}{sc:Ah}:pR T fr (.ListComp x gs sc p)=.plain:=rfl
theorem eq__470{h:Ag→EM}:pQ h [] σ=.ok [] σ:=rfl
theorem eq__269{h:Ag→EM}{x:Ag}{es:List Ag}:pQ h (x::es) σ=(h x σ).bind fun v σ₁=>(pQ h es σ₁).bind fun vs σ₂=>.ok (v::vs) σ₂:=rfl
theorem eq__471{h:Ag→EM}:rR h [] σ=.ok [] σ:=rfl
theorem eq__270{h:Ag→EM}{x:Str}{y:Ag}{ks:List Keyword}:rR h (⟨some x,y,p⟩::ks) σ=(h y σ).bind fun v σ₁=>(rR h ks σ₁).bind fun vs σ₂=>.ok ((x,v)::vs) σ₂:=rfl
theorem eq__11:(∀{T h as p σ a},ckV T h as [] p σ (.imm (.ref a))=(T.call a).elim ((T.make a).elim .stuck (ckM h as [] σ)) (ckF h as [] σ))∧(∀{T h as p σ b},ckV T h as [] p σ (.imm (.builtin b))=ckF h as [] σ (pL T p (.builtin b)))∧(∀{T h as p σ b},ckV T h as [] p σ (.imm (.type b))=ckF h as [] σ (pL T p (.type b)))∧(∀{h as σ m},ckF h as [] σ m=(pQ h as σ).bind m)∧∀{α:Type}{v:α}{a:Out St Val}{f:α→Out St Val},(some v).elim a f=f v:=⟨rfl,rfl,rfl,rfl,rfl⟩
theorem eq__472:pN σ (.bool b)=some b:=rfl
theorem eq__21:(∀{op x p},behindInMarks op (.Name x p)=false)∧(∀{op c t p},behindInMarks op (.Constant c t p)=false)∧(∀{op f a k p},behindInMarks op (.Call f a k p)=false)∧(∀{op o x p},behindInMarks op (.Attribute o x p)=false)∧(∀{op o i p},behindInMarks op (.Subscript o i p)=false)∧∀{op es p},behindInMarks op (.List es p)=false:=⟨rfl,rfl,rfl,rfl,rfl,rfl⟩
theorem eq__473{f:Str}{as:List Ag}{ks:List Keyword}:q9 T (n+1) fr f as ks p σ=if as.any pA then .stuck else(nameV T fr f).elim .stuck (ckV T (ev T n fr) as ks p σ):=rfl
theorem eq__474{x:Str}:pO (.Name x p)=true:=rfl
theorem eq__475{x:Str}:pA (.Name x p)=false:=rfl
theorem eq__476{o:Ag}{x:Str}:pO (.Attribute o x p)=true:=rfl
theorem eq__477{o:Ag}{x:Str}:pA (.Attribute o x p)=false:=rfl
theorem eq__478{o i:Ag}:pO (.Subscript o i p)=true:=rfl
theorem eq__479{o i:Ag}:pA (.Subscript o i p)=false:=rfl
theorem eq__480{t:Nat}{c:Const}:pO (.Constant c t p)=true:=rfl
theorem eq__481{t:Nat}{c:Const}:pA (.Constant c t p)=false:=rfl
theorem eq__482{l r:Ag}{op:Operator}:pO (.BinOp l op r p)=true:=rfl
theorem eq__483{l r:Ag}{op:Operator}:pA (.BinOp l op r p)=false:=rfl
theorem eq__484{es:List Ag}:pO (.List es p)=true:=rfl
theorem eq__485{es:List Ag}:pA (.List es p)=false:=rfl
theorem eq__486{es:List Ag}{t:Nat}:pO (.Tuple es t p)=true:=rfl
theorem eq__487{es:List Ag}{t:Nat}:pA (.Tuple es t p)=false:=rfl
theorem eq__488{u:Str}{x:Ag}{es:List Ag}{ks:List Keyword}:pO (.Call (.Name u q) (x::es) ks p)=true:=rfl
theorem eq__489{o:Ag}{x:Str}{es:List Ag}{ks:List Keyword}:pO (.Call (.Attribute o x q) es ks p)=true:=rfl
theorem eq__490{f:Ag}{es:List Ag}{ks:List Keyword}:pA (.Call f es ks p)=false:=rfl
theorem eq__491{es:List Ag}:pA (.JoinedStr es p)=false:=rfl
theorem eq__492{l:Ag}{ops:List CmpOp}{es:List Ag}:pA (.Compare l ops es p)=false:=rfl
theorem eq__493{t b o:Ag}:pA (.IfExp t b o p)=false:=rfl
theorem eq__494{x:Ag}{gs:List Comprehension}{sc:Ah}:pA (.ListComp x gs sc p)=false:=rfl
theorem eq__495{op:BoolOp}{es:List Ag}:pA (.BoolOp op es p)=false:=rfl
theorem eq__496{op:UnaryOp}{x:Ag}:pA (.UnaryOp op x p)=false:=rfl
theorem eq__497{ks:List (Option Ag)}{vs:List Ag}:pA (.Dict ks vs p)=false:=rfl
theorem eq__498:isNone .none=some true:=rfl
theorem eq__499{k:Nat}:isNone (.ref k)=some false:=rfl
theorem eq__500{vs:List Val}:isNone (.lst vs)=some false:=rfl
theorem eq__501{s:Str}:isNone (.str s)=some false:=rfl
theorem eq__502{vs:List Val}:isNone (.tup vs)=some false:=rfl
theorem eq__503{i:Int}:isNone (.int i)=some false:=rfl
theorem eq__504{b:Bool}:isNone (.bool b)=some false:=rfl
theorem eq__505:isNone .dct0=some false:=rfl
theorem eq__506{x y:Int}:sQ T p .Add (.int x) (.int y) σ=.ok (.int (x+y)) σ:=rfl
theorem eq__507{x y:Int}:sQ T p .Sub (.int x) (.int y) σ=.ok (.int (x-y)) σ:=rfl
theorem eq__508{x y:Int}:sQ T p .FloorDiv (.int x) (.int y) σ=if 0<y∧y<1000000000000 then .ok (.int (x/y)) σ else .stuck:=rfl
theorem eq__509{x y:Int}:sQ T p .Mod (.int x) (.int y) σ=if 0<y then .ok (.int (x%y)) σ else .stuck:=rfl
theorem eq__510{x y:Int}:sQ T p .Pow (.int x) (.int y) σ=if x=5∧0≤y∧y<8 then .ok (.int (x^y.toNat)) σ else .stuck:=rfl
theorem eq__511{x y:Str}:sQ T p .Mod (.str x) (.str y) σ=if x=sT then .ok .any σ else .stuck:=rfl
theorem eq__512{x:Str}{vs:List Val}:sQ T p .Mod (.str x) (.tup vs) σ=if x=sU∧(qH vs).isSome∧vs.length=3 then .ok .any σ else .stuck:=rfl
theorem eq__513{as bs:List Val}:sQ T p .Add (.lst as) (.lst bs) σ=mkList T p (as++bs) σ:=rfl
theorem eq__514{as:List Val}{k:Nat}:sQ T p .Add (.lst as) (.ref k) σ=(match pB σ (.lst as)with|some a=>(match pB σ (.ref k)with|some b=>mkList T p (a++b) σ|none=>.stuck)|none=>.stuck):=rfl
theorem eq__515{as:List Val}{k:Nat}:sQ T p .Add (.ref k) (.lst as) σ=(match pB σ (.ref k)with|some a=>(match pB σ (.lst as)with|some b=>mkList T p (a++b) σ|none=>.stuck)|none=>.stuck):=rfl
theorem eq__516{a b:Val}:qN σ .Eq a b=eqV σ a b:=rfl
theorem eq__517{a b:Val}:qN σ .NotEq a b=(eqV σ a b).map (!·):=rfl
theorem eq__518{x y:Int}:qN σ .Lt (.int x) (.int y)=some (decide (x<y)):=rfl
theorem eq__519{x y:Int}:qN σ .Gt (.int x) (.int y)=some (decide (x>y)):=rfl
theorem eq__520{x y:Int}:qN σ .GtE (.int x) (.int y)=some (decide (x≥y)):=rfl
theorem eq__521{a b:Val}:qN σ .In a b=uN σ a b:=rfl
theorem eq__522{a b:Val}:qN σ .NotIn a b=(uN σ a b).map (!·):=rfl
theorem eq__523{a:Val}:qN σ .Is a .none=isNone a:=rfl
theorem eq__524{a:Val}:qN σ .IsNot a .none=(isNone a).map (!·):=rfl
theorem eq__271{x:Str}:pV T fr x=(match look x fr.vars,globV T fr x with|none,some (.imm v)=>some v|_,_=>none):=rfl
theorem eq__188{k:Nat}{m:Str}:sH T σ (.ref k) m=(match σ[k]? with|some (.inst C fs)=>(match look m fs with|some v=>if T.hasAttr C m then .ok v σ else .stuck|none=>.stuck)|some (.exn C fs)=>(match look m fs with|some v=>if T.hasAttrE C m then .ok v σ else .stuck|none=>.stuck)|_=>.stuck):=rfl
theorem eq__272{tstE:Fr→Ag→St→Out St Bool}{srcE:Fr→Ag→St→Out St Src}{it:Ag}{as:Int}{acc:List Val}:
  q8 evE tstE srcE elt [⟨target,it,ifs,as⟩] sr cfr acc σ=if as≠0∨qG sr target=false then .stuck else rG sr (pH tstE target ifs (qF evE elt)) qC 0 cfr acc σ:=rfl
theorem eq__823{tstE:Fr→Ag→St→Out St Bool}{srcE:Fr→Ag→St→Out St Src}{it t' i':Ag}{f':List Ag}{as a':Int}{acc:List Val}:
  q8 evE tstE srcE elt [⟨target,it,ifs,as⟩,⟨t',i',f',a'⟩] sr cfr acc σ=if as≠0∨qG sr target=false then .stuck else rG sr (pH tstE target ifs (fun cfr' acc σ₁=>(srcE cfr' i' σ₁).bind fun src' σ₂=>q8 evE tstE srcE elt [⟨t',i',f',a'⟩] src' cfr' acc σ₂)) qC 0 cfr acc σ:=rfl
theorem eq__824{a b:Val}{as:List Val}:r7 (a::as) (b::bs)=match qK a b,r7 as bs with|some x,some y=>some (x&&y)|_,_=>none:=rfl
theorem eq__525{a b:Val}{as:List Val}:rT σ (a::as) (b::bs)=match eq1 σ a b,rT σ as bs with|some x,some y=>some (x&&y)|_,_=>none:=rfl
theorem eq__91:(∀{x y:Str},qK (.str x) (.str y)=some (x==y))∧(∀{x y:Int},qK (.int x) (.int y)=some (x==y))∧(∀{u:List Val}{b:Val},qK (.lst u) b=none)∧∀{k:Nat}{b:Val},qK (.ref k) b=none:=⟨rfl,rfl,rfl,rfl⟩
theorem eq__526{k:Nat}{m:Str}:rQ T σ (.ref k) m=(match σ[k]? with|some (.list _)=>if m=nOf "append" then some .app else if m=nOf "extend" then some .ext else if m=nOf "pop" then some .pop else none|some (.inst C fs)=>(match look m fs with|some _=>none|none=>(match(T.meth.lookup C).bind (look m)with|some f=>if(T.call f).isSome then some (.fn f)else none|none=>(match(T.stat.lookup C).bind (look m)with|some f=>if(T.call f).isSome then some (.stat f)else none|none=>none)))|_=>none):=by
 refine(?_:σ[k]?.bind (wE T m)=_)
 cases σ[k]? with
 |none=>rfl
 |some c=>cases c with
  |inst C fs=>
   refine(?_:vQ T C fs m=match look m fs with|some _=>none|none=>(match(T.meth.lookup C).bind (look m)with|some f=>if(T.call f).isSome then some (.fn f)else none|none=>(match(T.stat.lookup C).bind (look m)with|some f=>if(T.call f).isSome then some (.stat f)else none|none=>none)));unfold vQ stM fnM;cases look m fs with
   |some v=>rfl
   |none=>cases(T.meth.lookup C).bind (look m)with
    |some f=>rfl
    |none=>cases(T.stat.lookup C).bind (look m)<;>rfl
  |_=>rfl
theorem eq__527{C:Addr}{m:Str}:rQ T σ (.imm (.ref C)) m=(match(T.stat.lookup C).bind (look m)with|some f=>if(T.call f).isSome then some (.stat f)else none|none=>none):=by
 refine(?_:stM T C m=_)
 unfold stM fnM
 cases(T.stat.lookup C).bind (look m)<;>rfl
theorem eq__528{s m:Str}:rQ T σ (.str s) m=if m=nOf "startswith" then some .starts else if m=nOf "endswith" then some .ends else if m=nOf "split" then some .split else if m=nOf "find" then some .find else none:=rfl
end
theorem evs:type_of%@eq__441∧type_of%@eq__442∧type_of%@eq__443∧type_of%@eq__252∧type_of%@eq__185∧type_of%@eq__444∧type_of%@eq__253∧type_of%@eq__155∧type_of%@eq__186∧type_of%@eq__254∧type_of%@eq__255∧type_of%@eq__256∧type_of%@eq__257∧type_of%@eq__258∧type_of%@eq__445∧type_of%@eq__446∧type_of%@eq__447∧type_of%@eq__448∧type_of%@eq__449∧type_of%@eq__450∧type_of%@eq__451∧type_of%@eq__452∧type_of%@eq__187∧type_of%@eq__259∧type_of%@eq__260∧type_of%@eq__261∧type_of%@eq__262∧type_of%@eq__263∧type_of%@eq__453∧type_of%@eq__454∧type_of%@eq__455∧type_of%@eq__116∧type_of%@eq__156∧type_of%@eq__456∧type_of%@eq__264∧type_of%@eq__265∧type_of%@eq__266∧type_of%@eq__267∧type_of%@eq__457∧type_of%@eq__268∧type_of%@eq__458∧type_of%@eq__117∧type_of%@eq__157∧type_of%@eq__459∧type_of%@eq__460∧type_of%@eq__461∧type_of%@eq__462∧type_of%@eq__463∧type_of%@eq__464∧type_of%@eq__465∧type_of%@eq__466∧type_of%@eq__467∧type_of%@eq__468∧type_of%@eq__469∧type_of%@eq__470∧type_of%@eq__269∧type_of%@eq__471∧type_of%@eq__270∧type_of%@eq__473∧type_of%@eq__474∧type_of%@eq__475∧type_of%@eq__476∧type_of%@eq__477∧type_of%@eq__478∧type_of%@eq__479∧type_of%@eq__480∧type_of%@eq__481∧type_of%@eq__482∧type_of%@eq__483∧type_of%@eq__484∧type_of%@eq__485∧type_of%@eq__486∧type_of%@eq__487∧type_of%@eq__488∧type_of%@eq__489∧type_of%@eq__490∧type_of%@eq__491∧type_of%@eq__492∧type_of%@eq__493∧type_of%@eq__494∧type_of%@eq__495∧type_of%@eq__496∧type_of%@eq__497∧type_of%@eq__498∧type_of%@eq__499∧type_of%@eq__500∧type_of%@eq__501∧type_of%@eq__502∧type_of%@eq__503∧type_of%@eq__504∧type_of%@eq__505∧type_of%@eq__506∧type_of%@eq__507∧type_of%@eq__508∧type_of%@eq__509∧type_of%@eq__510∧type_of%@eq__511∧type_of%@eq__512∧type_of%@eq__513∧type_of%@eq__514∧type_of%@eq__515∧type_of%@eq__516∧type_of%@eq__517∧type_of%@eq__518∧type_of%@eq__519∧type_of%@eq__520∧type_of%@eq__521∧type_of%@eq__522∧type_of%@eq__523∧type_of%@eq__524∧type_of%@eq__271∧type_of%@eq__188∧type_of%@eq__526∧type_of%@eq__527∧type_of%@eq__528∧type_of%@nameV.eq_1∧type_of%@globV.eq_1∧type_of%@Fr.kind.eq_1∧type_of%@Fr.put.eq_1∧type_of%@Fr.mayPut.eq_1∧type_of%@eq__314∧type_of%@eq__85∧type_of%@notDebug.eq_1∧type_of%@mkList.eq_1∧type_of%@eq__407∧type_of%@eq__408∧type_of%@eq__409∧type_of%@eq__247∧type_of%@eq__410∧type_of%@eq__411∧type_of%@eq__437∧type_of%@eq__438∧type_of%@eq__415∧type_of%@eq__416∧type_of%@eq__417∧type_of%@eq__418∧type_of%@eq__419∧type_of%@eq__420∧type_of%@eq__421∧type_of%@gl_ulawupatterns∧type_of%@gl_ulawufiles∧type_of%@eq__422∧type_of%@eq__423∧type_of%@eq__424∧type_of%@eq__425∧type_of%@eq__426∧type_of%@eq__427∧type_of%@eq__428∧type_of%@eq__429∧type_of%@eq__430∧type_of%@eq__431∧type_of%@eq__432∧type_of%@eq__433∧type_of%@eq__434∧type_of%@eq__435:=
 ⟨@eq__441,@eq__442,@eq__443,@eq__252,@eq__185,@eq__444,@eq__253,@eq__155,@eq__186,@eq__254,@eq__255,@eq__256,@eq__257,@eq__258,@eq__445,@eq__446,@eq__447,@eq__448,@eq__449,@eq__450,@eq__451,@eq__452,@eq__187,@eq__259,@eq__260,@eq__261,@eq__262,@eq__263,@eq__453,@eq__454,@eq__455,@eq__116,@eq__156,@eq__456,@eq__264,@eq__265,@eq__266,@eq__267,@eq__457,@eq__268,@eq__458,@eq__117,@eq__157,@eq__459,@eq__460,@eq__461,@eq__462,@eq__463,@eq__464,@eq__465,@eq__466,@eq__467,@eq__468,@eq__469,@eq__470,@eq__269,@eq__471,@eq__270,@eq__473,@eq__474,@eq__475,@eq__476,@eq__477,@eq__478,@eq__479,@eq__480,@eq__481,@eq__482,@eq__483,@eq__484,@eq__485,@eq__486,@eq__487,@eq__488,@eq__489,@eq__490,@eq__491,@eq__492,@eq__493,@eq__494,@eq__495,@eq__496,@eq__497,@eq__498,@eq__499,@eq__500,@eq__501,@eq__502,@eq__503,@eq__504,@eq__505,@eq__506,@eq__507,@eq__508,@eq__509,@eq__510,@eq__511,@eq__512,@eq__513,@eq__514,@eq__515,@eq__516,@eq__517,@eq__518,@eq__519,@eq__520,@eq__521,@eq__522,@eq__523,@eq__524,@eq__271,@eq__188,@eq__526,@eq__527,@eq__528,@nameV.eq_1,@globV.eq_1,@Fr.kind.eq_1,@Fr.put.eq_1,@Fr.mayPut.eq_1,@eq__314,@eq__85,@notDebug.eq_1,@mkList.eq_1,@eq__407,@eq__408,@eq__409,@eq__247,@eq__410,@eq__411,@eq__437,@eq__438,@eq__415,@eq__416,@eq__417,@eq__418,@eq__419,@eq__420,@eq__421,@gl_ulawupatterns,@gl_ulawufiles,@eq__422,@eq__423,@eq__424,@eq__425,@eq__426,@eq__427,@eq__428,@eq__429,@eq__430,@eq__431,@eq__432,@eq__433,@eq__434,@eq__435⟩
section
variable{x y m:Str}{q r s u:Pos}{e:Ag}
theorem eq__189:pP T evE k (.ExceptHandler (some (.Name x p)) none [.Return (some e) q] r::hs) fr σ=(match rU T fr σ k x with|none=>.stuck|some false=>pP T evE k hs fr σ|some true=>if qV T fr 5 e then rB fr (evE fr e σ)else .stuck):=rfl
theorem eq__273:pP T evE k (.ExceptHandler (some (.Name x p)) (some y) [.Return (some e) q] r::hs) fr σ=(match rU T fr σ k x with|none=>.stuck|some false=>pP T evE k hs fr σ|some true=>if fr.kind y=some .local∧look y fr.vars=none∧qV T (fr.put y (.ref k)) 5 e=true then rB fr (evE (fr.put y (.ref k)) e σ)else .stuck):=rfl
theorem eq__529{c:Const}{t:Nat}:qV T fr (n+1) (.Constant c t p)=true:=rfl
theorem eq__530:qV T fr (n+1) (.Name x p)=true:=rfl
theorem eq__274:qV T fr (n+1) (.BoolOp .And [e,o] p)=(qV T fr n e&&qV T fr n o):=rfl
theorem eq__275:qV T fr (n+1) (.Compare e [.Eq] [o] p)=(qV T fr n e&&qV T fr n o):=rfl
theorem eq__531:qV T fr (n+1) (.Attribute o m p)=qV T fr n o:=rfl
theorem eq__276:qV T fr (n+1) (.Call (.Name f q) [.Name x r,.Name y s] [] p)=decide (pV T fr f=some (.builtin "isinstance")):=rfl
end
theorem eq__934:type_of%@eq__189∧type_of%@eq__273∧type_of%@eq__529∧type_of%@eq__530∧type_of%@eq__274∧type_of%@eq__275∧type_of%@eq__531∧type_of%@eq__276:=(eq__295 (@eq__189) (@eq__273) (@eq__529) (@eq__530) (@eq__274) (@eq__275) (@eq__531) (@eq__276))
inductive A3(p1 p2 p3:Prop):Prop|mk:p1→p2→p3→A3 p1 p2 p3
inductive A4(p1 p2 p3 p4:Prop):Prop|mk:p1→p2→p3→p4→A4 p1 p2 p3 p4
inductive A5(p1 p2 p3 p4 p5:Prop):Prop|mk:p1→p2→p3→p4→p5→A5 p1 p2 p3 p4 p5
inductive A6(p1 p2 p3 p4 p5 p6:Prop):Prop|mk:p1→p2→p3→p4→p5→p6→A6 p1 p2 p3 p4 p5 p6
inductive A7(p1 p2 p3 p4 p5 p6 p7:Prop):Prop|mk:p1→p2→p3→p4→p5→p6→p7→A7 p1 p2 p3 p4 p5 p6 p7
inductive A8(p1 p2 p3 p4 p5 p6 p7 p8:Prop):Prop|mk:p1→p2→p3→p4→p5→p6→p7→p8→A8 p1 p2 p3 p4 p5 p6 p7 p8
inductive A9(p1 p2 p3 p4 p5 p6 p7 p8 p9:Prop):Prop|mk:p1→p2→p3→p4→p5→p6→p7→p8→p9→A9 p1 p2 p3 p4 p5 p6 p7 p8 p9
inductive A10(p1 p2 p3 p4 p5 p6 p7 p8 p9 p10:Prop):Prop|mk:p1→p2→p3→p4→p5→p6→p7→p8→p9→p10→A10 p1 p2 p3 p4 p5 p6 p7 p8 p9 p10
inductive A11(p1 p2 p3 p4 p5 p6 p7 p8 p9 p10 p11:Prop):Prop|mk:p1→p2→p3→p4→p5→p6→p7→p8→p9→p10→p11→A11 p1 p2 p3 p4 p5 p6 p7 p8 p9 p10 p11
inductive A12(p1 p2 p3 p4 p5 p6 p7 p8 p9 p10 p11 p12:Prop):Prop|mk:p1→p2→p3→p4→p5→p6→p7→p8→p9→p10→p11→p12→A12 p1 p2 p3 p4 p5 p6 p7 p8 p9 p10 p11 p12
inductive A13(p1 p2 p3 p4 p5 p6 p7 p8 p9 p10 p11 p12 p13:Prop):Prop|mk:p1→p2→p3→p4→p5→p6→p7→p8→p9→p10→p11→p12→p13→A13 p1 p2 p3 p4 p5 p6 p7 p8 p9 p10 p11 p12 p13
inductive A14(p1 p2 p3 p4 p5 p6 p7 p8 p9 p10 p11 p12 p13 p14:Prop):Prop|mk:p1→p2→p3→p4→p5→p6→p7→p8→p9→p10→p11→p12→p13→p14→A14 p1 p2 p3 p4 p5 p6 p7 p8 p9 p10 p11 p12 p13 p14
inductive A15(p1 p2 p3 p4 p5 p6 p7 p8 p9 p10 p11 p12 p13 p14 p15:Prop):Prop|mk:p1→p2→p3→p4→p5→p6→p7→p8→p9→p10→p11→p12→p13→p14→p15→A15 p1 p2 p3 p4 p5 p6 p7 p8 p9 p10 p11 p12 p13 p14 p15
inductive A16(p1 p2 p3 p4 p5 p6 p7 p8 p9 p10 p11 p12 p13 p14 p15 p16:Prop):Prop|mk:p1→p2→p3→p4→p5→p6→p7→p8→p9→p10→p11→p12→p13→p14→p15→p16→A16 p1 p2 p3 p4 p5 p6 p7 p8 p9 p10 p11 p12 p13 p14 p15 p16
inductive A17(p1 p2 p3 p4 p5 p6 p7 p8 p9 p10 p11 p12 p13 p14 p15 p16 p17:Prop):Prop|mk:p1→p2→p3→p4→p5→p6→p7→p8→p9→p10→p11→p12→p13→p14→p15→p16→p17→A17 p1 p2 p3 p4 p5 p6 p7 p8 p9 p10 p11 p12 p13 p14 p15 p16 p17
inductive A18(p1 p2 p3 p4 p5 p6 p7 p8 p9 p10 p11 p12 p13 p14 p15 p16 p17 p18:Prop):Prop|mk:p1→p2→p3→p4→p5→p6→p7→p8→p9→p10→p11→p12→p13→p14→p15→p16→p17→p18→A18 p1 p2 p3 p4 p5 p6 p7 p8 p9 p10 p11 p12 p13 p14 p15 p16 p17 p18
inductive A19(p1 p2 p3 p4 p5 p6 p7 p8 p9 p10 p11 p12 p13 p14 p15 p16 p17 p18 p19:Prop):Prop|mk:p1→p2→p3→p4→p5→p6→p7→p8→p9→p10→p11→p12→p13→p14→p15→p16→p17→p18→p19→A19 p1 p2 p3 p4 p5 p6 p7 p8 p9 p10 p11 p12 p13 p14 p15 p16 p17 p18 p19
noncomputable def wB(fr:Fr)(x:Str):Bool:=notDebug x&&(fr.kind x==some .local||fr.kind x==some .cell||fr.kind x==some .free)
noncomputable def glV(T:Tab)(fr:Fr)(x:Str):Option Val:=if notDebug x then globV T fr x else none
noncomputable def atV(T:Tab)(C:Addr)(fs:List (Str×Val))(m:Str):Option Val:=if T.hasAttr C m then look m fs else none
variable{ed:List (Str×Val)}{us:List Val}{σ₁:St}
section
variable{C:Nat}{q r u:Pos}{x m:Str}{w v₁ v₂:Val}{e i:Ag}{c:Bool}{V:List (Str×Val)}{mk:MK}{o':Option Val}
theorem q_eq:look x (setV x v V)=some v:=by rw[eq__8,if_pos rfl]
theorem q_ne{y:Str}(h:(x==y)=false)(k:look x V=o'):look x (setV y v V)=o':=by rw[eq__8,if_neg (by intro e;clear k;subst e;simp at h)];exact k
theorem q_pe:look x (fr.put x v).vars=some v:=q_eq
theorem q_pn{y:Str}(h:(x==y)=false)(k:look x fr.vars=o'):look x (fr.put y v).vars=o':=q_ne h k
theorem r_nm(h:look x fr.vars=some v)(k:wB fr x=true):ev T (n+1) fr (.Name x p) σ=.ok v σ:=by
 unfold wB at k
 rw[aF,cZ,beq_iff_eq]at k
 rw[eq__185]
 unfold nameV
 rw[if_pos k.1,h]
 dsimp only
 rw[if_pos (by simpa[or_assoc]using k.2)]
theorem r_gl(h:look x fr.vars=none)(k:glV T fr x=some v):ev T (n+1) fr (.Name x p) σ=.ok v σ:=by
 intros n4 X n X p Val v St σ Fr fr Tab T Str x
 unfold glV at k
 rw[eq__185]
 unfold nameV
 split at k
 ·rename_i d;rw[if_pos d,h];dsimp only;rw[k]
 ·cases k
theorem eq__825(h:ev T n fr o σ=.ok (.ref k) σ₁)(hb:pO o=true)(g:σ₁[k]?=some (.inst C fs))(a:atV T C fs m=some v):ev T (n+1) fr (.Attribute o m p) σ=.ok v σ₁:=by
 intros n7 X σ X p X o Nat n Val v Nat k LD fs Fr fr Tab T St σ₁ Nat C Str m
 rw[eq__187,hb,h]
 unfold atV at a
 split at a
 ·rename_i d;refine(?_:sH T σ₁ (.ref k) m=_);rw[eq__188,g];dsimp only;rw[a];exact if_pos d
 ·cases a
theorem r_co{op:CmpOp}(h:ev T n fr e σ=.ok v σ₁)(h2:ev T n fr o σ₁=.ok w σ₂)(hb:behindInMarks op o=false)(c:qN σ₂ op v w=some b):ev T (n+1) fr (.Compare e [op] [o] p) σ=.ok (.bool b) σ₂:=by
 rw[eq__256,hb,h,Out.bind_ok,h2,Out.bind_ok,c];rfl
theorem r_tc{op:CmpOp}(h:ev T n fr e σ=.ok v σ₁)(h2:ev T n fr o σ₁=.ok w σ₂)(hb:behindInMarks op o=false)(c:qN σ₂ op v w=some b):tst T (n+1) fr (.Compare e [op] [o] p) σ=.ok b σ₂:=by
 rw[eq__264,hb,h,Out.bind_ok,h2,Out.bind_ok,c];rfl
theorem eq__935(h:tst T n fr e σ=.ok true σ₁):tst T (n+1) fr (.UnaryOp .Not e p) σ=.ok false σ₁:=by rw[eq__156,h];rfl
theorem eq__936(h:tst T n fr e σ=.ok false σ₁):tst T (n+1) fr (.UnaryOp .Not e p) σ=.ok true σ₁:=by rw[eq__156,h];rfl
noncomputable def cnV:Const→Option Val
 |.none=>some .none
 |.bool b=>some (.bool b)
 |.int i=>some (.int i)
 |.str x=>if x.length≤lim then some (.str x)else none
 |_=>none
theorem r_cn{c:Const}{t:Nat}(h:cnV c=some v):ev T (n+1) fr (.Constant c t p) σ=.ok v σ:=by
 intros n2 X c Nat n Val v St σ Fr fr Tab T Pos p Nat t
 cases c with
 |none=>cases h;rfl
 |bool b=>cases h;rfl
 |int i=>cases h;rfl
 |str x=>
  rw[eq__252];have h:(if x.length≤lim then some (Val.str x)else none)=some v:=h;split at h;·rename_i d;rw[if_pos d];cases h;rfl
  ·(injection h)
 |_=>(injection h)
theorem r_l0:pQ (ev T n fr) [] σ=.ok [] σ:=rfl
theorem r_l1(h:ev T n fr e σ=.ok v σ₁)(h2:pQ (ev T n fr) es σ₁=.ok vs σ₂):pQ (ev T n fr) (e::es) σ=.ok (v::vs) σ₂:=by rw[eq__269,h,Out.bind_ok,h2];rfl
variable{R:Out St Val}{ks:List Keyword}{kv:List (Str×Val)}{a:Str}{A:Addr}{cs:List Cell}
theorem r_w0:rR (ev T n fr) [] σ=.ok [] σ:=rfl
theorem r_w1(h:ev T n fr e σ=.ok v σ₁)(h2:rR (ev T n fr) ks σ₁=.ok kv σ₂):rR (ev T n fr) (⟨some x,e,p⟩::ks) σ=.ok ((x,v)::kv) σ₂:=by rw[eq__270,h,Out.bind_ok,h2];rfl
theorem r_li(h:pQ (ev T n fr) es σ=.ok vs σ₁)(k:es.any pA=false)(g:mkList T p vs σ₁=R):ev T (n+1) fr (.List es p) σ=R:=by rw[eq__254,k,h];exact g
theorem r_tu{t:Nat}(h:pQ (ev T n fr) es σ=.ok vs σ₁)(k:es.any pA=false)(g:vs.length≤lim):ev T (n+1) fr (.Tuple es t p) σ=.ok (.tup vs) σ₁:=by rw[eq__255,k,h];exact if_pos g
theorem r_bi(h:ev T n fr e σ=.ok v σ₁)(h2:ev T n fr o σ₁=.ok w σ₂)(g:sQ T p op v w σ₂=R):ev T (n+1) fr (.BinOp e op o p) σ=R:=by rw[eq__253,h,Out.bind_ok,h2];exact g
theorem eq__937(h:tst T n fr i σ=.ok true σ₁)(g:ev T n fr e σ₁=R):ev T (n+1) fr (.IfExp i e o p) σ=R:=by rw[eq__155,h];exact g
theorem eq__938(h:tst T n fr i σ=.ok false σ₁)(g:ev T n fr o σ₁=R):ev T (n+1) fr (.IfExp i e o p) σ=R:=by rw[eq__155,h];exact g
theorem r_sC{t:Nat}{c:Const}(h:ev T n fr o σ=.ok v σ₁)(h2:ev T n fr (.Constant c t q) σ₁=.ok w σ₂)(g:r8 σ₂ v w=some v₁):ev T (n+1) fr (.Subscript o (.Constant c t q) p) σ=.ok v₁ σ₂:=by rw[eq__260,h,Out.bind_ok,h2,Out.bind_ok,g]
theorem r_sN(h:ev T n fr o σ=.ok v σ₁)(h2:ev T n fr (.Name x q) σ₁=.ok w σ₂)(g:r8 σ₂ v w=some v₁):ev T (n+1) fr (.Subscript o (.Name x q) p) σ=.ok v₁ σ₂:=by rw[eq__261,h,Out.bind_ok,h2,Out.bind_ok,g]
theorem r_sB{l r':Ag}(h:ev T n fr o σ=.ok v σ₁)(h2:ev T n fr (.BinOp l op r' q) σ₁=.ok w σ₂)(g:r8 σ₂ v w=some v₁):ev T (n+1) fr (.Subscript o (.BinOp l op r' q) p) σ=.ok v₁ σ₂:=by rw[eq__262,h,Out.bind_ok,h2,Out.bind_ok,g]
theorem r_p0:qT T (n+1) fr none σ=.ok .none σ:=rfl
theorem r_p1(h:ev T n fr e σ=R):qT T (n+1) fr (some e) σ=R:=h
theorem r_sl{lo hi:Option Ag}(h:ev T n fr o σ=.ok v σ₁)(h1:qT T n fr lo σ₁=.ok v₁ σ₂)(h2:qT T n fr hi σ₂=.ok v₂ σ₃)(g:qS T p σ₃ v v₁ v₂=R):ev T (n+1) fr (.Subscript o (.Slice lo hi none q) p) σ=R:=by rw[eq__259,h,Out.bind_ok,h1,Out.bind_ok,h2];exact g
theorem r_bo{op:BoolOp}(h:pX T n fr op es σ=R):ev T (n+1) fr (.BoolOp op es p) σ=R:=h
theorem r_b1{op:BoolOp}(h:ev T n fr e σ=R):pX T (n+1) fr op [e] σ=R:=h
theorem eq__939(h:ev T n fr e σ=.ok v σ₁)(t:pN σ₁ v=some true)(g:pX T n fr .And (o::es) σ₁=R):pX T (n+1) fr .And (e::o::es) σ=R:=by rw[eq__116,h,Out.bind_ok,t];exact g
theorem eq__940(h:ev T n fr e σ=.ok v σ₁)(t:pN σ₁ v=some false):pX T (n+1) fr .And (e::o::es) σ=.ok v σ₁:=by rw[eq__116,h,Out.bind_ok,t]
theorem eq__941(h:ev T n fr e σ=.ok v σ₁)(t:pN σ₁ v=some true):pX T (n+1) fr .Or (e::o::es) σ=.ok v σ₁:=by rw[eq__116,h,Out.bind_ok,t]
theorem eq__942(h:ev T n fr e σ=.ok v σ₁)(t:pN σ₁ v=some false)(g:pX T n fr .Or (o::es) σ₁=R):pX T (n+1) fr .Or (e::o::es) σ=R:=by rw[eq__116,h,Out.bind_ok,t];exact g
variable{B:Out St Bool}
theorem r_tb{op:BoolOp}(h:qE T n fr op es σ=B):tst T (n+1) fr (.BoolOp op es p) σ=B:=h
theorem r_a0:qE T (n+1) fr .And [] σ=.ok true σ:=rfl
theorem r_o0:qE T (n+1) fr .Or [] σ=.ok false σ:=rfl
theorem eq__943(h:tst T n fr e σ=.ok true σ₁)(g:qE T n fr .And es σ₁=B):qE T (n+1) fr .And (e::es) σ=B:=by rw[eq__117,h];exact g
theorem eq__944(h:tst T n fr e σ=.ok false σ₁):qE T (n+1) fr .And (e::es) σ=.ok false σ₁:=by rw[eq__117,h];rfl
theorem eq__945(h:tst T n fr e σ=.ok true σ₁):qE T (n+1) fr .Or (e::es) σ=.ok true σ₁:=by rw[eq__117,h];rfl
theorem eq__946(h:tst T n fr e σ=.ok false σ₁)(g:qE T n fr .Or es σ₁=B):qE T (n+1) fr .Or (e::es) σ=B:=by rw[eq__117,h];exact g
theorem r_tN(h:ev T n fr (.Name x p) σ=.ok v σ₁)(t:pN σ₁ v=some b):tst T (n+1) fr (.Name x p) σ=.ok b σ₁:=by rw[eq__265,h,Out.bind_ok,t]
theorem r_tA(h:ev T n fr (.Attribute o x p) σ=.ok v σ₁)(t:pN σ₁ v=some b):tst T (n+1) fr (.Attribute o x p) σ=.ok b σ₁:=by rw[eq__266,h,Out.bind_ok,t]
theorem r_tC(h:ev T n fr (.Call o es ks p) σ=.ok v σ₁)(t:pN σ₁ v=some b):tst T (n+1) fr (.Call o es ks p) σ=.ok b σ₁:=by rw[eq__267,h,Out.bind_ok,t]
theorem r_tS(h:ev T n fr (.Subscript o i p) σ=.ok v σ₁)(t:pN σ₁ v=some b):tst T (n+1) fr (.Subscript o i p) σ=.ok b σ₁:=by rw[eq__268,h,Out.bind_ok,t]
noncomputable def xI(o:Ag)(as:List Ag)(q p:Pos):Bool:=!as.any pA&&pO o&&decide (as.length<20)&&(q.endLine==p.line)
theorem r_me(h:ev T n fr o σ=.ok v σ₁)(c:xI o es q p=true)(k:rQ T σ₁ v m=some mk)(h2:pQ (ev T n fr) es σ₁=.ok vs σ₂)(g:qX T p mk v vs σ₂=R):ev T (n+1) fr (.Call (.Attribute o m q) es [] p) σ=R:=by
 unfold xI at c
 simp only[aF,dE,decide_eq_true_eq]at c
 rw[eq__257,if_pos (eq__83 c.1.1.1 c.1.1.2 c.1.2 c.2),h,Out.bind_ok,k]
 skip
 rw[h2]
 exact g
noncomputable def mkV(T:Tab)(C:Addr)(fs:List (Str×Val))(m:Str):Option MK:=vQ T C fs m
noncomputable def mlV(m:Str):Option MK:=wO m
theorem k_in(g:σ[k]?=some (.inst C fs))(h:mkV T C fs m=some mk):rQ T σ (.ref k) m=some mk:=(congrArg (fun z=>oE z (wE T m)) g).trans h
theorem k_li(g:σ[k]?=some (.list vs))(h:mlV m=some mk):rQ T σ (.ref k) m=some mk:=(congrArg (fun z=>oE z (wE T m)) g).trans h
theorem m_fn{F:List Val→EM}(c:T.call A=some F)(h:F (v::vs) σ=R):qX T p (.fn A) v vs σ=R:=by
 refine(?_:orS (T.call A) _=_)
 rw[c];exact h
theorem m_st{F:List Val→EM}(c:T.call A=some F)(h:F vs σ=R):qX T p (.stat A) v vs σ=R:=by
 refine(?_:orS (T.call A) _=_)
 rw[c];exact h
theorem m_ap(g:σ[k]?=some (.list vs))(l:vs.length<lim)(e:vs++[v]=us):qX T p .app (.ref k) [v] σ=.ok .none (σ.set k (.list us)):=by
 subst e;rw[eq__59.1,g];exact if_pos l
theorem m_ex{ws:List Val}(g:σ[k]?=some (.list vs))(u:pB σ v=some us)(l:vs.length+us.length≤lim)(e:vs++us=ws):qX T p .ext (.ref k) [v] σ=.ok .none (σ.set k (.list ws)):=by
 subst e;rw[eq__59.2.1,g,u];exact if_pos l
theorem m_po(g:σ[k]?=some (.list (v::vs))):qX T p .pop (.ref k) [.int 0] σ=.ok v (σ.set k (.list vs)):=by
 refine(?_:orS (σ[k]?.bind r4) _=_)
 rw[g];rfl
theorem r_k(s:ev T (n+1) fr (.Call (.Name f q) es ks p) σ=q9 T n fr f es ks p σ)(h:q9 T n fr f es ks p σ=R):ev T (n+1) fr (.Call (.Name f q) es ks p) σ=R:=s.trans h
noncomputable def xQ:Af→Option Addr|.ref a=>some a|_=>none
theorem eq__277(h:look f fr.vars=none)(k:glV T fr f=some v):nameV T fr f=some v:=by
 intros n2 Val v Fr fr Tab T Str f
 unfold glV at k
 unfold nameV
 split at k
 ·rename_i d;rw[if_pos d,h];exact k
 ·cases k
theorem c_fn{F:List Val→EM}(l:look f fr.vars=none)(k:glV T fr f=some (.imm (.ref A)))(c:T.call A=some F)(s:es.any pA=false)(h:pQ (ev T n fr) es σ=.ok vs σ₁)(g:F vs σ₁=R):q9 T (n+1) fr f es [] p σ=R:=by
 rw[eq__147 s (eq__277 l k)]
 refine(?_:(T.call A).elim _ _=R)
 rw[c]
 refine(?_:(pQ (ev T n fr) es σ).bind F=R)
 rw[h];exact g
theorem c_mk{F:List Val→List (Str×Val)→EM}(l:look f fr.vars=none)(k:glV T fr f=some (.imm (.ref A)))(c:T.call A=none)(d:T.make A=some F)(s:es.any pA=false)(w:ks.all (fun k=>k.arg.isSome)=true)(h:pQ (ev T n fr) es σ=.ok vs σ₁)(h2:rR (ev T n fr) ks σ₁=.ok kv σ₂)(g:F vs kv σ₂=R):q9 T (n+1) fr f es ks p σ=R:=by
 rw[eq__147 s (eq__277 l k)]
 refine(?_:(T.call A).elim _ _=R)
 rw[c]
 refine(?_:(T.make A).elim _ _=R)
 rw[d]
 refine(if_neg (by rw[w];exact fun e=>aC e.symm)).trans ?_
 rw[h,Out.bind_ok,h2];exact g
theorem c_bi{u:Af}(l:look f fr.vars=none)(k:glV T fr f=some (.imm u))(nr:xQ u=none)(s:es.any pA=false)(h:pQ (ev T n fr) es σ=.ok vs σ₁)(g:pL T p u vs σ₁=R):q9 T (n+1) fr f es [] p σ=R:=by
 intros n7 X R Nat n LV vs St σ Fr fr Tab T Pos p LE es Str f St σ₁ Af u
 rw[eq__147 s (eq__277 l k)]
 clear k;cases u with
 |ref a=>cases nr
 |_=>refine(?_:(pQ (ev T n fr) es σ).bind _=R);rw[h];exact g
theorem s_pl(s:pR T fr e=.plain)(h:ev T n fr e σ=.ok v σ₁)(g:(qP σ₁ v 0).isSome=true):src T (n+1) fr e σ=.ok (.val v) σ₁:=by rw[eq__157,s];dsimp only;rw[h];exact if_pos g
theorem s_va(s:pR T fr e=.vals o)(h:ev T n fr o σ=.ok (.ref k) σ₁)(g:σ₁[k]?=some (.dict ed ep)):src T (n+1) fr e σ=.ok (.vals k ed.length ep) σ₁:=by
 rw[eq__157,s];dsimp only;rw[h]
 refine(?_:rZ σ₁ (.ref k)=_)
 unfold rZ;dsimp only
 rw[g]
theorem s_en(s:pR T fr e=.enm o)(h:ev T n fr o σ=.ok v σ₁)(g:(pB σ₁ v).isSome=true):src T (n+1) fr e σ=.ok (.enm v) σ₁:=by rw[eq__157,s];dsimp only;rw[h];exact if_pos g
theorem l_re(g:σ[k]?=some (.list vs)):pB σ (.ref k)=some vs:=congrArg (fun o=>o.bind r4) g
theorem eq__532(g:σ[k]?=some (.list vs))(h:vs.isEmpty=!b):pN σ (.ref k)=some b:=by
 refine(?_:dR _ (pB σ (.ref k))=_)
 rw[l_re g,aD,h,f6]
theorem h_di(g:σ[k]?=some (.dict ed ep))(h:(look x ed).isSome=b):qN σ .In (.str x) (.ref k)=some b:=by
 refine(?_:(σ[k]?.bind fun c=>uU c x)=_)
 rw[g];exact congrArg _ h
theorem eq__533(g:σ[k]?=some (.dict ed ep))(h:(look x ed).isSome=!b):qN σ .NotIn (.str x) (.ref k)=some b:=by
 have :=h_di g h
 refine(?_:dR _ (qN σ .In (.str x) (.ref k))=_)
 rw[this,aD,f6]
theorem eq__64:∀l:List Str,qH (l.map .str)=some l
 |[]=>rfl
 |_::l=>by refine(?_:dR _ (qH (l.map .str))=_);rw[eq__64 l];rfl
theorem h_li(g:σ[k]?=some (.list (l.map .str)))(h:l.contains x=b):qN σ .In (.str x) (.ref k)=some b:=by
 refine(?_:(σ[k]?.bind fun c=>uU c x)=_)
 rw[g]
 refine(?_:dR _ (qH (l.map .str))=_)
 rw[eq__64,aD,h]
theorem eq__534(g:σ[k]?=some (.list (l.map .str)))(h:l.contains x=!b):qN σ .NotIn (.str x) (.ref k)=some b:=by
 have :=h_li g h
 refine(?_:dR _ (qN σ .In (.str x) (.ref k))=_)
 rw[this,aD,f6]
theorem h_ls(h:l.contains x=b):qN σ .In (.str x) (.lst (l.map .str))=some b:=by
 refine(?_:dR _ (qH (l.map .str))=_)
 rw[eq__64,aD,h]
theorem eq__535(h:l.contains x=!b):qN σ .NotIn (.str x) (.lst (l.map .str))=some b:=by
 have :=h_ls (σ:=σ) h
 refine(?_:dR _ (qN σ .In (.str x) (.lst (l.map .str)))=_)
 rw[this,aD,f6]
theorem i_di(g:σ[k]?=some (.dict ed ep))(h:look x ed=some v):r8 σ (.ref k) (.str x)=some v:=by
 refine(?_:(σ[k]?.bind sW).bind _=_)
 rw[g];exact h
theorem b_is(g:σ[k]?=some (.inst C fs)):pL T p (.builtin "isinstance") [.ref k,.imm (.ref C)] σ=.ok (.bool true) σ:=by
 have e:sS σ (.ref k)=some (.ref C):=by refine(?_:σ[k]?.bind uQ=_);rw[g];rfl
 have e3:s5 T σ (.ref k) (.ref C)=some true:=by refine(?_:(sS σ (.ref k)).bind _=_);rw[e];exact if_pos rfl
 rw[eq__121,e3];rfl
theorem g_i{u:Af}(h:look x fr.vars=none)(k:glV T fr x=some (.imm u)):pV T fr x=some u:=by
 intros n2 Fr fr Tab T Str x Af u
 unfold glV at k
 split at k
 ·rw[eq__271,h,k]
 ·cases k
noncomputable def pOk(T:Tab)(C:Addr)(a:Str)(v:Val)(fs:List (Str×Val)):Bool:=decide (fs.length<900)&&T.hasAttr C a&&rN v&&(T.meth.lookup C).isSome
theorem p_at{fs':List (Str×Val)}(g:σ[k]?=some (.inst C fs))(h:pOk T C a v fs=true)(e:setV a v fs=fs'):qZ T k a v σ=some (σ.set k (.inst C fs')):=by
 unfold pOk at h
 simp only[aF,decide_eq_true_eq]at h
 unfold qZ
 rw[g,←e]
 exact if_pos (eq__83 h.1.1.1 h.1.1.2 h.1.2 h.2)
theorem p_a0{fs':List (Str×Val)}(h:pOk T C a v fs=true)(e:setV a v fs=fs'):qZ T σ.length a v (σ++.inst C fs::cs)=some (σ++.inst C fs'::cs):=by
 have g:(σ++.inst C fs::cs)[σ.length]?=some (.inst C fs):=by rw[bX (aN _),gN];rfl
 rw[p_at g h e,hU _ _ (aN _),gN];rfl
theorem n_0{c:Cell}:(σ++c::cs)[σ.length]?=some c:=by rw[bX (aN _),gN];rfl
theorem n_j{c:Cell}(h:cs[j]?=some c):(σ++cs)[σ.length+j]?=some c:=by rw[bX (eB _ _),gS];exact h
theorem d_nw{cs':List Cell}(h:T.chg p=true)(l:cs.length=j)(e:cs++[.dict [] 0]=cs'):ev T (n+1) fr (.Dict [] [] p) (σ++cs)=.ok (.ref (σ.length+j)) (σ++cs'):=by
 rw[eq__186,if_pos h,aH,l,bK,e]
theorem d_0(h:T.chg p=false):ev T (n+1) fr (.Dict [] [] p) σ=.ok .dct0 σ:=by rw[eq__186,h];rfl
theorem n_lo(g:pB σ v=some vs):(qP σ v 0).isSome=true:=by
 intros n2 X v LV vs St σ
 cases v with
 |str x=>cases g
 |_=>exact congrArg (fun o=>(dR (fun vs=>vs[(0:Nat)]?) o).isSome) g
theorem c_t{x y:Int}(h:x=y):qN σ .Eq (.int x) (.int y)=some true:=congrArg some (beq_iff_eq.mpr h)
theorem c_f{x y:Int}(h:¬x=y):qN σ .Eq (.int x) (.int y)=some false:=congrArg some (beq_eq_false_iff_ne.mpr h)
theorem c_b{x y:Int}(h:(x==y)=b):qN σ .Eq (.int x) (.int y)=some b:=congrArg some h
theorem c_s{x y:Str}(h:(x==y)=b):qN σ .Eq (.str x) (.str y)=some b:=congrArg some h
theorem c_lt{x y:Int}(h:x<y):qN σ .Lt (.int x) (.int y)=some true:=congrArg some (decide_eq_true h)
theorem c_lf{x y:Int}(h:¬x<y):qN σ .Lt (.int x) (.int y)=some false:=congrArg some (decide_eq_false h)
theorem c_ss{x y:Str}(h:(!(aI x y 0 x.length 1).isEmpty)=b):qN σ .In (.str y) (.str x)=some b:=congrArg some h
theorem eq__536{x y:Str}(h:(!(aI x y 0 x.length 1).isEmpty)=!b):qN σ .NotIn (.str y) (.str x)=some b:=by
 refine(?_:some (!_)=_)
 rw[h,f6]
theorem l_1000(h:n≤1000):n≤lim:=by have :lim=1000000:=rfl;omega
theorem ml_l(h:vs.length≤lim)(c:T.chg p=false):mkList T p vs σ=.ok (.lst vs) σ:=by unfold mkList;rw[if_pos h,c];rfl
theorem ml_r(h:vs.length≤lim)(c:T.chg p=true):mkList T p vs σ=.ok (.ref σ.length) (σ++[.list vs]):=by unfold mkList;rw[if_pos h,c];rfl
theorem ml_j{cs':List Cell}(h:vs.length≤lim)(c:T.chg p=true)(l:cs.length=j)(e:cs++[.list vs]=cs'):mkList T p vs (σ++cs)=.ok (.ref (σ.length+j)) (σ++cs'):=by
 rw[ml_r h c,aH,l,bK,e]
theorem eq__826(h:look f fr.vars=some v)(k:wB fr f=true):nameV T fr f=some v:=by
 unfold wB at k
 rw[aF,cZ,beq_iff_eq]at k
 unfold nameV
 rw[if_pos k.1,h]
 exact if_pos (by simpa[or_assoc]using k.2)
theorem c_cl{c:CloD}{F:List Val→List Val→EM}(l:look f fr.vars=some (.clo c us))(k:wB fr f=true)(cl:T.clo c=some F)(s:es.any pA=false)(h:pQ (ev T n fr) es σ=.ok vs σ₁)(g:F us vs σ₁=R):q9 T (n+1) fr f es [] p σ=R:=by
 rw[eq__147 s (eq__826 l k)]
 refine(?_:(pQ (ev T n fr) es σ).bind _=R)
 rw[h,Out.bind_ok,cl];exact g
theorem u_0:rI (tst T n) fr [] σ=.ok true σ:=rfl
theorem eq__827(h:tst T n fr e σ=.ok true σ₁)(g:rI (tst T n) fr es σ₁=B):rI (tst T n) fr (e::es) σ=B:=by
 refine(?_:(tst T n fr e σ).bind _=_)
 rw[h];exact g
theorem eq__828(h:tst T n fr e σ=.ok false σ₁):rI (tst T n) fr (e::es) σ=.ok false σ₁:=by
 refine(?_:(tst T n fr e σ).bind _=_)
 rw[h];rfl
theorem b_le(g:pB σ v=some vs)(l:vs.length=k):pL T p (.builtin "len") [v] σ=.ok (.int k) σ:=by
 intros n2 Val v LV vs Nat k St σ Tab T Pos p
 have e:vG σ v=some k:=by
  cases v with
  |str x=>cases g
  |tup x=>cases g
  |_=>exact(congrArg (dR fW) g).trans (congrArg some l)
 rw[eq__211,e];rfl
theorem b_li(g:pB σ v=some vs)(h:mkList T p vs σ=R):pL T p (.type "list") [v] σ=R:=by
 intros n3 X R Val v LV vs St σ Tab T Pos p
 rw[eq__169,g];exact h
theorem b_ld(g:σ[k]?=some (.dict ed ep))(h:mkList T p (ed.map fun e=>.str e.1) σ=R):pL T p (.type "list") [.ref k] σ=R:=by
 have e:pB σ (.ref k)=none:=congrArg (fun o=>o.bind r4) g
 rw[eq__169,e]
 refine(?_:orS (σ[k]?.bind sW) _=_)
 rw[g];exact h
theorem b_sr{nm:String}(g:σ[k]?=some (.list vs))(h:decide (nm="str"∨nm="list")=true)(d:decide ("list"=nm)=b):pL T p (.builtin "isinstance") [.ref k,.imm (.type nm)] σ=.ok (.bool b) σ:=by
 have e:sS σ (.ref k)=some (.type "list"):=by refine(?_:σ[k]?.bind uQ=_);rw[g];rfl
 have e3:s5 T σ (.ref k) (.type nm)=some b:=by refine(?_:(sS σ (.ref k)).bind _=_);rw[e];exact(if_pos (of_decide_eq_true h)).trans (congrArg some d)
 rw[eq__121,e3];rfl
theorem b_si(g:σ[k]?=some (.inst C fs))(h:(T.meth.lookup C).isSome=true):pL T p (.builtin "isinstance") [.ref k,.imm (.type "str")] σ=.ok (.bool false) σ:=by
 have e:sS σ (.ref k)=some (.ref C):=by refine(?_:σ[k]?.bind uQ=_);rw[g];rfl
 have e3:s5 T σ (.ref k) (.type "str")=some false:=by refine(?_:(sS σ (.ref k)).bind _=_);rw[e];exact if_pos ⟨rfl,h⟩
 rw[eq__121,e3];rfl
variable{E:Ag→EM}{U:Out St Unit}
theorem j_s(h:pI (ev T n fr) es 0 σ=.ok () σ₁)(l:decide (es.length<2)=false):ev T (n+1) fr (.JoinedStr es p) σ=.ok .any σ₁:=by
 rw[eq__263,if_neg (of_decide_eq_false l),h];rfl
theorem j_0:pI E [] j σ=.ok () σ:=by skip;rfl
theorem j_c{t:Nat}(l:x.length+j≤10000)(h:pI E es (x.length+j) σ=U):pI E (.Constant (.str x) t p::es) j σ=U:=by
 have e2:pI E (.Constant (.str x) t p::es) j σ=if x.length+j≤10000 then pI E es (x.length+j) σ else .stuck:=rfl
 rw[e2,if_pos l];exact h
theorem j_f{t:Int}(g:E e σ=.ok (.str x) σ₁)(c:t=-1)(l:x.length+j≤10000)(h:pI E es (x.length+j) σ₁=U):pI E (.FormattedValue e t none p::es) j σ=U:=by
 have e2:pI E (.FormattedValue e t none p::es) j σ=if t=-1 then(E e σ).bind fun v σ'=>match rY v j with
   |some m=>pI E es m σ'
   |none=>.stuck
  else .stuck:=rfl
 rw[e2,if_pos c,g,Out.bind_ok,show rY (.str x) j=some (x.length+j)from if_pos l];exact h
theorem t_l1(g:σ[k]?=some (.list vs))(h:vs.isEmpty=false):pN σ (.ref k)=some true:=eq__532 g h
theorem t_l0(g:σ[k]?=some (.list vs))(h:vs.isEmpty=true):pN σ (.ref k)=some false:=eq__532 g h
theorem h_d1(g:σ[k]?=some (.dict ed ep))(h:(look x ed).isSome=false):qN σ .NotIn (.str x) (.ref k)=some true:=eq__533 g h
theorem h_d0(g:σ[k]?=some (.dict ed ep))(h:(look x ed).isSome=true):qN σ .NotIn (.str x) (.ref k)=some false:=eq__533 g h
theorem h_l1(g:σ[k]?=some (.list (l.map .str)))(h:l.contains x=false):qN σ .NotIn (.str x) (.ref k)=some true:=eq__534 g h
theorem h_l0(g:σ[k]?=some (.list (l.map .str)))(h:l.contains x=true):qN σ .NotIn (.str x) (.ref k)=some false:=eq__534 g h
theorem h_m1(h:l.contains x=false):qN σ .NotIn (.str x) (.lst (l.map .str))=some true:=eq__535 h
theorem h_m0(h:l.contains x=true):qN σ .NotIn (.str x) (.lst (l.map .str))=some false:=eq__535 h
theorem c_s1{x y:Str}(h:(!(aI x y 0 x.length 1).isEmpty)=false):qN σ .NotIn (.str y) (.str x)=some true:=eq__536 h
theorem c_s0{x y:Str}(h:(!(aI x y 0 x.length 1).isEmpty)=true):qN σ .NotIn (.str y) (.str x)=some false:=eq__536 h
theorem c_g1{x y:Int}(h:x>y):qN σ .Gt (.int x) (.int y)=some true:=congrArg some (decide_eq_true h)
theorem c_g0{x y:Int}(h:¬x>y):qN σ .Gt (.int x) (.int y)=some false:=congrArg some (decide_eq_false h)
theorem b_lm{l:List α}{F:α→Val}(g:pB σ v=some (l.map F)):pL T p (.builtin "len") [v] σ=.ok (.int l.length) σ:=b_le g (a7 _)
theorem s_2{a b:Int}{r:List Val}(g:pB σ v=some vs)(h:(decide (0≤a)&&decide (0≤b))=true)(c:(vs.take b.toNat).drop a.toNat=r)(m:mkList T p r σ=R):qS T p σ v (.int a) (.int b)=R:=by
 unfold qS
 rw[g]
 refine(?_:(match tW vs (some a) (some b)with|some r=>mkList T p r σ|none=>Out.stuck)=R)
 have e:tW vs (some a) (some b)=some r:=(if_pos h).trans (congrArg some c)
 rw[e];exact m
theorem s_0(g:pB σ v=some vs)(m:mkList T p vs σ=R):qS T p σ v .none .none=R:=by
 unfold qS
 rw[g]
 refine(?_:(match tW vs none none with|some r=>mkList T p r σ|none=>Out.stuck)=R)
 have e:tW vs none none=some vs:=(if_pos rfl).trans (congrArg some (by simp))
 rw[e];exact m
theorem s_a{a:Int}{r:List Val}(g:pB σ v=some vs)(h:decide (0≤a)=true)(c:vs.drop a.toNat=r)(m:mkList T p r σ=R):qS T p σ v (.int a) .none=R:=by
 unfold qS
 rw[g]
 refine(?_:(match tW vs (some a) none with|some r=>mkList T p r σ|none=>Out.stuck)=R)
 have e:tW vs (some a) none=some r:=(if_pos (by rw[aF];exact⟨h,rfl⟩)).trans (congrArg some (by rw[←c];simp))
 rw[e];exact m
theorem s_b{b:Int}{r:List Val}(g:pB σ v=some vs)(h:decide (0≤b)=true)(c:vs.take b.toNat=r)(m:mkList T p r σ=R):qS T p σ v .none (.int b)=R:=by
 unfold qS
 rw[g]
 refine(?_:(match tW vs none (some b)with|some r=>mkList T p r σ|none=>Out.stuck)=R)
 have e:tW vs none (some b)=some r:=(if_pos (by rw[aF];exact⟨rfl,h⟩)).trans (congrArg some (by rw[←c];simp))
 rw[e];exact m
theorem l_m{l:List α}{F:α→Val}(h:l.length≤lim):(l.map F).length≤lim:=by rw[a7];exact h
theorem l_n{l:List α}{F:α→Val}(h:l.length<lim):(l.map F).length<lim:=by rw[a7];exact h
theorem i_li{a:Int}(z:0≤a)(h:vs[a.toNat]?=some v):r8 σ (.lst vs) (.int a)=some v:=by
 refine(?_:(if 0≤a then(some vs).bind fun vs=>vs[a.toNat]? else none)=_)
 rw[if_pos z];exact h
theorem i_lc{a c:Int}(e:a=c)(z:decide (0≤c)=true)(h:vs[c.toNat]?=some v):r8 σ (.lst vs) (.int a)=some v:=by
 subst e;exact i_li (of_decide_eq_true z) h
theorem g_v(c:(notDebug x&&fr.kind x==some .globalImplicit)=true)(h:look x T.glob=some v):glV T fr x=some v:=by
 rw[aF,beq_iff_eq]at c
 unfold glV globV
 rw[if_pos c.1,if_pos ⟨c.2,c.1⟩]
 exact h
theorem eq__829{nk:Str×NameKind}(h:nk∈sc.names)(f:nk.2=.free):nk.1∈pF sc:=c9.mpr (eq__2 nk h (by rw[f];rfl))
theorem eq__278(h:∀y∈pF sc,(look y fr.vars).isSome=true∧(fr.kind y==some .cell||fr.kind y==some .free)=true):pD fr sc=true:=by
 refine aP.mpr fun nk hm=>?_
 by_cases f:nk.2=.free
 ·have :=h nk.1 (eq__829 hm f);rw[this.1,this.2,iN,jG]
 ·rw[show(nk.2 !=.free)=true from bne_iff_ne.mpr f,Bool.true_or]
theorem cap_0(f:pF sc=[]):pD fr sc=true:=eq__278 fun y hy=>by rw[f]at hy;cases hy
theorem cap_1{y:Str}(f:pF sc=[y])(k:(fr.kind y==some .cell||fr.kind y==some .free)=true)(h:look y fr.vars=some v):pD fr sc=true:=eq__278 fun z hz=>by
 rw[f,aA]at hz;clear f;subst hz;rw[h];exact⟨rfl,k⟩
theorem cap_2{y:Str}(f:pF sc=[y,z])(k:((fr.kind y==some .cell||fr.kind y==some .free)&&(fr.kind z==some .cell||fr.kind z==some .free))=true)(h:look y fr.vars=some v)(g:look z fr.vars=some w):pD fr sc=true:=eq__278 fun u hu=>by
 rw[aF]at k
 rw[f,bC,aA]at hu
 clear f;rcases hu with rfl|rfl
 ·rw[h];exact⟨rfl,k.1⟩
 ·rw[g];exact⟨rfl,k.2⟩
theorem eq__190:(pZ fr sc).vars=(pF sc).filterMap fun y=>(look y fr.vars).map (y,·):=by
 refine(?_:sc.names.filterMap _=_)
 unfold pF
 rw[List.filterMap_filterMap]
 congr 1
 funext nk
 by_cases f:(nk.2==.free)=true
 ·rw[if_pos f,if_pos f];rfl
 ·rw[if_neg f,if_neg f];rfl
theorem ck_1(f:pF sc=[x])(h:look x fr.vars=some v):look x (pZ fr sc).vars=some v:=by
 rw[eq__190,f,bB,h];exact if_pos rfl
theorem ck_2(f:pF sc=[x,z])(h:look x fr.vars=some v):look x (pZ fr sc).vars=some v:=by
 rw[eq__190,f,bB,h];exact if_pos rfl
theorem ck_3(f:pF sc=[z,x])(ne:(x==z)=false)(g:look z fr.vars=some w)(h:look x fr.vars=some v):look x (pZ fr sc).vars=some v:=by
 rw[eq__190,f,bB,g,bB,h]
 exact(if_neg (by intro e;clear h f;subst e;simp at ne)).trans (if_pos rfl)
theorem ck_n{ys:List Str}(f:pF sc=ys)(n:ys.contains x=false):look x (pZ fr sc).vars=none:=by
 intros n4 X sc X ys Fr fr Str x
 rw[eq__190,f]
 clear f
 induction ys with
 |nil=>rfl
 |cons y r ih=>
  have n1:y≠x:=fun e=>by clear ih;subst e;simp at n
  have n2:r.contains x=false:=by simp at n⊢;exact n.2
  rw[bB];cases look y fr.vars with
  |none=>exact ih n2
  |some v=>exact(if_neg n1).trans (ih n2)
theorem r_len{g:Str}{e:Ag}(c:pV T fr f=some (.builtin "len"))(d:pV T fr g=some (.type "set"))(s:pA e=false)(h:ev T n fr e σ=.ok v σ₁)(k:pB σ₁ v=some (l.map .str))(sm:l.length<4000):ev T (n+1) fr (.Call (.Name f q) [.Call (.Name g r) [e] [] u] [] p) σ=.ok (.int (rD [] l).length) σ₁:=by
 rw[eq__258,if_pos (eq__30 c d s),h,Out.bind_ok]
 unfold qQ
 rw[k,bL,eq__64]
 exact if_pos sm
theorem m_an(l:vs.length<lim)(e:vs++[v]=us):qX T p .app (.ref σ.length) [v] (σ++[.list vs])=.ok .none (σ++[.list us]):=by
 rw[m_ap n_0 l e,eq__248]
theorem m_as{c:Cell}(g:σ[k]?=some c)(l:vs.length<lim)(e:vs++[v]=us):qX T p .app (.ref k) [v] (σ.set k (.list vs))=.ok .none (σ.set k (.list us)):=by
 rw[m_ap (eq__44 g) l e,jI]
theorem ex_is{C D:Addr}(g:pV T fr x=some (.ref C))(t:σ[k]?=some (.exn D fs))(o:((T.exn.lookup C).isSome&&(T.exn.lookup D).isSome)=true)(e:(C==D)=b):rU T fr σ k x=some b:=by
 unfold rU
 rw[g,t]
 exact(if_pos o).trans (congrArg some e)
variable{y:Str}
theorem y_n(c:rU T fr σ k x=some true)(m:qV T fr 5 e=true)(h:evE fr e σ=.ok v σ₁):pP T evE k (.ExceptHandler (some (.Name x p)) none [.Return (some e) q] r::hs) fr σ=.ok (.ret v) (fr,σ₁):=by
 rw[eq__189,c]
 exact(if_pos m).trans (by rw[h];rfl)
theorem y_s(c:rU T fr σ k x=some true)(l:(fr.kind y==some .local)=true)(d:look y fr.vars=none)(m:qV T (fr.put y (.ref k)) 5 e=true)(h:evE (fr.put y (.ref k)) e σ=.ok v σ₁):pP T evE k (.ExceptHandler (some (.Name x p)) (some y) [.Return (some e) q] r::hs) fr σ=.ok (.ret v) (fr,σ₁):=by
 rw[eq__273,c]
 exact(if_pos (eq__30 (beq_iff_eq.mp l) d m)).trans (by rw[h];rfl)
theorem y_f{O:Out SS Flo}(c:rU T fr σ k x=some false)(h:pP T evE k hs fr σ=O):pP T evE k (.ExceptHandler (some (.Name x p)) none [.Return (some e) q] r::hs) fr σ=O:=by
 rw[eq__189,c];exact h
theorem cm_a(a:qV T fr n e=true)(b:qV T fr n o=true):qV T fr (n+1) (.BoolOp .And [e,o] p)=true:=by rw[eq__274,a,b];rfl
theorem cm_e(a:qV T fr n e=true)(b:qV T fr n o=true):qV T fr (n+1) (.Compare e [.Eq] [o] p)=true:=by rw[eq__275,a,b];rfl
theorem cm_o(a:qV T fr n o=true):qV T fr (n+1) (.Attribute o m p)=true:=a
theorem cm_i(g:pV T fr f=some (.builtin "isinstance")):qV T fr (n+1) (.Call (.Name f q) [.Name x r,.Name z u] [] p)=true:=by rw[eq__276];exact decide_eq_true g
theorem eqs_same:∀l:List Str,rT σ (l.map .str) (l.map .str)=some true
 |[]=>rfl
 |x::l=>by
  have e:rT σ (Val.str x::l.map .str) (Val.str x::l.map .str)=(match eq1 σ (.str x) (.str x),rT σ (l.map .str) (l.map .str)with|some x,some y=>some (x&&y)|_,_=>none):=rfl;have e1:eq1 σ (.str x) (.str x)=some true:=congrArg some (beq_self_eq_true x);rw[aG,e,e1,eqs_same l];rfl
theorem c_eq{a d:Val}{ws:List Val}(n:qK a d=none)(g:pB σ a=some us)(h:pB σ d=some ws)(e:rT σ us ws=some b):qN σ .Eq a d=some b:=by
 refine(?_:eqV σ a d=_)
 unfold eqV
 rw[n,g,h];exact e
theorem eq__947{a d:Val}{ws:List Val}(n:qK a d=none)(g:pB σ a=some us)(h:pB σ d=some ws)(e:rT σ us ws=some (!b)):qN σ .NotEq a d=some b:=by
 refine(?_:(qN σ .Eq a d).map (!·)=_)
 rw[c_eq n g h e,aD,f6]
theorem c_s1'{x:Str}:qN σ .Eq (.str x) (.str x)=some true:=congrArg some (beq_self_eq_true x)
noncomputable def aeV(T:Tab)(C:Addr)(fs:List (Str×Val))(m:Str):Option Val:=if T.hasAttrE C m then look m fs else none
theorem eq__830(h:ev T n fr o σ=.ok (.ref k) σ₁)(hb:pO o=true)(g:σ₁[k]?=some (.exn C fs))(a:aeV T C fs m=some v):ev T (n+1) fr (.Attribute o m p) σ=.ok v σ₁:=by
 intros n7 X σ X p X o Nat n Val v Nat k LD fs Fr fr Tab T St σ₁ Nat C Str m
 rw[eq__187,hb,h]
 unfold aeV at a
 split at a
 ·rename_i d;refine(?_:sH T σ₁ (.ref k) m=_);rw[eq__188,g];dsimp only;rw[a];exact if_pos d
 ·cases a
noncomputable def axV(T:Tab)(c:Cell)(m:Str):Option Val:=match c with
 |.inst C fs=>atV T C fs m
 |.exn C fs=>aeV T C fs m
 |_=>none
theorem r_ax{c:Cell}(h:ev T n fr o σ=.ok (.ref k) σ₁)(hb:pO o=true)(g:σ₁[k]?=some c)(a:axV T c m=some v):ev T (n+1) fr (.Attribute o m p) σ=.ok v σ₁:=by
 cases c with
 |inst C fs=>exact eq__825 h hb g a
 |exn C fs=>exact eq__830 h hb g a
 |_=>cases a
theorem r_nx(h:tst T n fr e σ=.ok b σ₁)(hc:(!b)=c):tst T (n+1) fr (.UnaryOp .Not e p) σ=.ok c σ₁:=by rw[eq__156,h,←hc];rfl
noncomputable def wC(op:BoolOp)(b:Bool):Bool:=match op with|.And=>b|.Or=>!b
theorem o_t{x y z:β}{d:Bool}(e:d=true)(k:x=z):cond d x y=z:=by rw[e];exact k
theorem o_f{x y z:β}{d:Bool}(e:d=false)(k:y=z):cond d x y=z:=by rw[e];exact k
theorem r_bx{op:BoolOp}(h:ev T n fr e σ=.ok v σ₁)(t:pN σ₁ v=some b)(g:cond (wC op b) (pX T n fr op (o::es) σ₁) (.ok v σ₁)=R):pX T (n+1) fr op (e::o::es) σ=R:=by
 rw[eq__116,h,Out.bind_ok,t]
 clear t;cases op<;>cases b<;>exact g
theorem r_ay{op:BoolOp}(h:tst T n fr e σ=.ok b σ₁)(g:cond (wC op b) (qE T n fr op es σ₁) (.ok b σ₁)=B):qE T (n+1) fr op (e::es) σ=B:=by
 rw[eq__117,h]
 clear h;cases op<;>cases b<;>exact g
theorem r_ix(h:tst T n fr i σ=.ok b σ₁)(g:cond b (ev T n fr e σ₁) (ev T n fr o σ₁)=R):ev T (n+1) fr (.IfExp i e o p) σ=R:=by
 rw[eq__155,h]
 clear h;cases b<;>exact g
theorem u_y(h:tst T n fr e σ=.ok b σ₁)(g:cond b (rI (tst T n) fr es σ₁) (.ok false σ₁)=B):rI (tst T n) fr (e::es) σ=B:=by
 cases b with
 |true=>exact eq__827 h g
 |false=>exact(eq__828 h).trans g
end
noncomputable def tK(T:Tab)(n:Nat)(fr:Fr)(elt:Ag)(gens:List Comprehension)(scope:Ah)(pos:Pos)(σ:St):Out St Val:=ev T (n+1) fr (.ListComp elt gens scope pos) σ
theorem ev_compE:ev T (n+1) fr (.ListComp elt gens scope pos) σ=tK T n fr elt gens scope pos σ:=rfl
local macro_rules (kind:=Lean.Parser.Tactic.tacticInfer_instance)|_x=>pure Mine.sg
local macro_rules (kind:=Array.tacticArray_get_dec)|_x=>pure Mine.lo
local macro_rules (kind:=Lean.Parser.Tactic.tacticNofun)|_x=>pure Mine.ru
local macro_rules (kind:=Lean.Parser.Tactic.simpAllArith)|x=>Mine.fs Mine.el x "( 'simp ( ( ( ( '( decide ':= true ') )T.valConfigItem )T.configItem )null )T.optConfig ( )null ( 'only )null ( '[ ( $ )null '] )null ( )null )T.simp"
local macro_rules (kind:=Lean.Parser.Tactic.simpAllArithBang)|x=>Mine.fs Mine.ml x "( 'simp ( ( ( ( '( decide ':= true ') )T.valConfigItem )T.configItem )null )T.optConfig ( )null ( 'only )null ( '[ ( $ )null '] )null ( )null )T.simp"
local macro_rules (kind:=Lean.Parser.Tactic.simpArithBang)|x=>Mine.fs Mine.el x "( '( { ( 'refine ( ( L% ( '? $2 )U.syntheticHole ': ( ( Keep ( ( '_ )U.hole )null )U.app )null ') )U.typeAscription ( ( '? $3 )U.syntheticHole )null )U.app )T.refine '; ( '( { ( 'case ( ( ( $3 )Lean.binderIdent ( )null )T.caseArg )null '=> { ( '( { ( '( { ( 'try { ( 'simp ( ( ( ( '( decide ':= true ') )T.valConfigItem )T.configItem )null )T.optConfig ( )null ( 'only )null ( '[ ( $ )null '] )null ( )null )T.simp } )T.tacticTry_ } ') )T.paren '; ( 'try { ( 'rfl )T.tacticRfl } )T.tacticTry_ } ') )T.paren } )T.case } ') )T.paren '; ( '( { ( 'case ( ( ( $2 )Lean.binderIdent ( )null )T.caseArg )null '=> { ( '( { ( 'intro ( ( '_ )U.hole )null )T.intro '; ( 'kernel_rfl )tacticKernel_rfl } ') )T.paren } )T.case } ') )T.paren } ') )T.paren"
local macro_rules (kind:=Lean.Parser.Tactic.simpArith)|x=>Mine.fs Mine.el x "( '( { ( 'refine ( ( L% ( '? $2 )U.syntheticHole ': ( ( Turn ( ( '_ )U.hole ( '_ )U.hole )null )U.app )null ') )U.typeAscription ( ( '? $3 )U.syntheticHole ( '? $4 )U.syntheticHole )null )U.app )T.refine '; ( '( { ( 'case ( ( ( $3 )Lean.binderIdent ( )null )T.caseArg )null '=> { ( '( { ( 'conv ( )null ( )null '=> ( ( ( ( 'lhs )T.Conv.lhs '; ( 'lhs )T.Conv.lhs '; ( 'simp ( ( ( ( '( decide ':= true ') )T.valConfigItem )T.configItem )null )T.optConfig ( )null ( 'only )null ( '[ ( $ )null '] )null )T.Conv.simp )null )T.Conv.convSeq1Indented )T.Conv.convSeq )T.Conv.conv } ') )T.paren } )T.case } ') )T.paren '; ( '( { ( 'case ( ( ( $2 )Lean.binderIdent ( )null )T.caseArg )null '=> { ( '( { ( 'intro ( ( '_ )U.hole hK_ )null )T.intro '; ( 'refine ( Eq.mp ( ( '? '_ )U.syntheticHole hK_ )null )U.app )T.refine '; ( 'kernel_rfl )tacticKernel_rfl } ') )T.paren } )T.case } ') )T.paren } ') )T.paren"
local macro_rules (kind:=Lean.Parser.Tactic.simpa)|x=>do
 let a:=x[3][3][0][1].getArgs.toList
 if x[3][3][0].isMissing then Lean.Macro.throwUnsupported
 let b:=x[3][4][1][1].getArgs.toList.map fun t=>if t.isAtom then t else Mine.rs [[t]] "( ( )null ( )null $ )T.simpLemma"
 pure (Mine.rs [a,a++.atom .none ","::b] "( '( { ( '( { ( 'try { ( 'simp_arith ( ( )null )T.optConfig ( )null ( )null ( '[ ( $1 )null '] )null ( )null )T.simpArith } )T.tacticTry_ } ') )T.paren '; ( '( { ( 'try { ( 'simp_all_arith! ( ( )null )T.optConfig ( )null ( )null ( '[ ( $2 )null '] )null )T.simpAllArithBang } )T.tacticTry_ } ') )T.paren '; ( '( { ( 'try { ( 'simp_arith ( ( )null )T.optConfig ( )null ( )null ( '[ ( $1 )null '] )null ( )null )T.simpArith } )T.tacticTry_ } ') )T.paren '; ( '( { ( 'try { ( 'simp_all_arith! ( ( )null )T.optConfig ( )null ( )null ( '[ ( $2 )null '] )null )T.simpAllArithBang } )T.tacticTry_ } ') )T.paren '; ( '( { ( 'try { ( 'simp_arith ( ( )null )T.optConfig ( )null ( )null ( '[ ( $1 )null '] )null ( )null )T.simpArith } )T.tacticTry_ } ') )T.paren '; ( '( { ( 'try { ( 'simp_all_arith ( ( )null )T.optConfig ( )null ( )null ( '[ ( $2 )null '] )null )T.simpAllArith } )T.tacticTry_ } ') )T.paren } ') )T.paren")
local macro_rules (kind:=Lean.Parser.Tactic.tacticSimpa!_)|x=>pure (Mine.rs [[.node .none `Lean.Parser.Tactic.simpa #[.atom .none "simpa",.node .none `null #[],.node .none `null #[],x[1]]]] "( '( { $ '; ( 'try { ( 'rfl )T.tacticRfl } )T.tacticTry_ } ') )T.paren")
noncomputable def pU(xs:List Str)(p:Str):List Str:=xs.filter fun n=>tJ n p
theorem eq__537(k:Nat){s d:Nat}{p:Str}(h1:σ[s]?=some (.inst 368 fs))(h2:look (a5 "_def_order") fs=some (.ref d))(h3:σ[d]?=some (.list (xs.map .str)))(hx:∀x∈xs,x∈names8)(hl:xs.length<1000)(hp:p∈pats8):callD (Tn (k+1)) 60 0 d337 [.ref s,.str p] σ=.ok (.ref σ.length) (σ++[.list ((pU xs p).map .str)]):=by
 intros n7 X fs LS xs St σ Nat k Nat s Nat d Str p
 have hB:d337.body=d337.body:=rfl
 conv at hB=>rhs;whnf
 have hS:d337.scope=d337.scope:=rfl
 conv at hS=>rhs;whnf
 have hP:d337.pars=d337.pars:=rfl
 conv at hP=>rhs;whnf
 refine eq__40 (R:=fun o=>o=_) (by simp_arith[hP,aG,aQ];rfl) ?_
 simp_arith[hP,hB,hS,aG,aQ,bJ,bT]
 refine eq__12 (by simpa[decide_true]using[decide_true];rfl) (by(nofun;done)) ?_
 simp_arith[]
 have l1:s<σ.length:=eq__50 h1
 have l3:d<σ.length:=eq__50 h3
 refine eq__57 (sr:=.val (.ref d)) (σ':=σ++[.list []]) (by(nofun;done)) rfl (xs.map .str)
  (fun i fr σ'=>σ'=σ++[.list ((pU (xs.take i) p).map .str)]∧∃o,fr={scope:=d337.scope,fn:=true,vars:=[(a5 "self",.ref s),(a5 "pattern",.str p),(a5 "wild_list",.ref σ.length)]++o,code:=0}∧(o=[]∨∃x,o=[(a5 "t_name",.str x)])) (by simpa using hl) ⟨rfl,[],by rw[hS];rfl,.inl rfl⟩ ?_ ?_ ?_
 ·rintro i fr σ'⟨rfl,_⟩;simp only[eq__9,get_app h3,aD]
 ·rintro i v fr σ'⟨rfl,o,rfl,ho⟩hv;intros n7 X fs X v X o Nat i;obtain⟨x,hx1,rfl⟩:∃x,xs[i]?=some x∧v=.str x:=by
   rw[aK]at hv;refine eq__1 (aJ.mp hv) fun x h1 h2=>?_;exact eq__2 x h1 h2.symm
  have hxm:x∈names8:=hx x (aT hx1);have htk:xs.take (i+1)=xs.take i++[x]:=by rw[lZ,hx1];rfl
  refine eq__2 ({scope:=d337.scope,fn:=true,vars:=[(a5 "self",.ref s),(a5 "pattern",.str p),(a5 "wild_list",.ref σ.length),(a5 "t_name",.str x)],code:=0}) ?_ ?_;·rcases ho with rfl|⟨y,rfl⟩<;>(nofun;done)
  ·have hll:(pU (xs.take i) p).length<lim:=by
    have h1:(pU (xs.take i) p).length≤(xs.take i).length:=b9 _ _;rw[bP]at h1;have :lim=1000000:=rfl;omega
   cases hlk:tJ x p with
   |false=>
    refine eq__23 (σ':=σ++[.list ((pU (xs.take i) p).map .str)]) (by simpa[hS,eq__436,eq__11,eq__472]using[eq__413 _ _ hxm hp,hlk]) ?_;refine eq__4 ⟨.next,_,_,rfl,trivial,?_,_,rfl,.inr ⟨x,rfl⟩⟩;rw[htk];unfold pU;rw[dN,cB,if_neg (by rw[hlk];decide)];simp
   |true=>
    refine eq__26 (σ':=σ++[.list ((pU (xs.take i) p).map .str)]) (by simpa[hS,eq__436,eq__11,eq__472]using[eq__413 _ _ hxm hp,hlk]) ?_;refine eq__33 (σ':=σ++[.list ((pU (xs.take (i+1)) p).map .str)]) (v:=.none) ?_ ?_;·(nofun;all_goals(try(((try simp_all_arith[hS,nOf,eq__59,get_new,a7,hll,eq__248]);try rfl);done)));rw[htk];unfold pU;rw[dN,cB,if_pos hlk];simp
    ·exact eq__4 ⟨.next,_,_,rfl,trivial,rfl,_,rfl,.inr ⟨x,rfl⟩⟩
 ·rintro fr' σ'⟨rfl,o,rfl,ho⟩;refine eq__49 (v:=.ref σ.length) (σ':=σ++[.list ((pU xs p).map .str)]) ?_ rfl;simpa[hS,c0]using[a7,b8]
theorem eq__65(h:(xs.map Val.str)[i]?=some v):∃x,xs[i]?=some x∧v=.str x:=by
 rw[aK]at h
 refine eq__1 (aJ.mp h) fun x h1 h2=>?_
 exact eq__2 x h1 h2.symm
theorem eq__37{xs:List α}{x:α}(h:xs[i]?=some x):xs.take (i+1)=xs.take i++[x]:=by rw[lZ,h];rfl
theorem small(h:n<1000):n<lim:=by have :lim=1000000:=rfl;exact eq__29 [_,_] (.lt Z0 Z1) (.lt Z0 (.n 1000)) (.qe Z1 (.n 1000000)) rfl h this
theorem eq__191{xs:List α}(h:xs.length<1000):(xs.take i).length<lim:=by rw[bP];have :lim=1000000:=rfl;omega
noncomputable def pM(x:Str):Bool:=!(aI x (a5 "*") 0 x.length 1).isEmpty
theorem eq__948(x:Str)(h:["name","options","setup_tasks","actions","getargs","value_savers","uptodate","targets","subtask_of","has_subtask","result","values","executed","dep_changed","file_dep","task_dep","wild_dep","calc_dep"].map a5|>.contains x):((attrT.lookup 223).map fun l=>l.contains x).getD false=true:=by
 exact h
theorem eq__279(h:σ[k]?=some c):σ.set k c=σ:=by
 rcases bA.mp h with⟨hlt,e⟩
 rw[←e,kE]
theorem eq__831{xs:List α}{x:α}(nd:xs.Nodup)(h:xs[i]?=some x):x∉xs.take i:=fun hc=>by
 rcases iC hc with⟨j,hj,e⟩
 rw[List.getElem_take]at e
 rw[bP]at hj
 rcases bA.mp h with⟨hi,e2⟩
 exact(List.pairwise_iff_getElem.mp nd) j i (by omega) hi (by omega) (e.trans e2.symm)
theorem eq__832(k:Nat){s d:Nat}(h1:σ[s]?=some (.inst 223 fs))(h2:look (a5 "file_dep") fs=some (.ref d))(h3:σ[d]?=some (.list []))(sd:d≠s)(hl:xs.length<1000)(nd:xs.Nodup):
  callD (Tn k) 60 0 d165 [.ref s,.lst (xs.map .str)] σ=.ok .none (σ.set d (.list (xs.map .str))):=by
 intros n7 X fs LS xs St σ Nat k Nat s Nat d
 have hB:d165.body=d165.body:=rfl
 conv at hB=>rhs;whnf
 have hS:d165.scope=d165.scope:=rfl
 conv at hS=>rhs;whnf
 have hP:d165.pars=d165.pars:=rfl
 conv at hP=>rhs;whnf
 refine eq__40 (R:=fun o=>o=_) (by simp_arith[hP,aG,aQ];rfl) ?_
 (nofun;all_goals(try(((try simp_all_arith[hP,hB,hS,aG,aQ,bJ,bT]);try rfl);done)))
 refine eq__57 (sr:=.val (.lst (xs.map .str))) (σ':=σ) (by(nofun;done)) rfl (xs.map .str)
  (fun i fr σ'=>σ'=σ.set d (.list ((xs.take i).map .str))∧∃o,fr={scope:=d165.scope,fn:=true,vars:=[(a5 "self",.ref s),(a5 "file_dep",.lst (xs.map .str))]++o,code:=0}∧(o=[]∨∃x,o=[(a5 "dep",.str x)])) (by simpa using hl) ⟨?_,[],by rw[hS];rfl,.inl rfl⟩ ?_ ?_ ?_
 ·rw[f7,aQ];exact(eq__279 h3).symm
 ·rintro i fr σ'⟨rfl,_⟩;rfl
 ·rintro i v fr σ'⟨rfl,o,rfl,ho⟩hv;intros n7 X fs X v X o Nat i;refine eq__1 (eq__65 hv) fun x hx1 q1_=>?_;subst q1_;have g1:(σ.set d (.list ((xs.take i).map .str)))[s]?=some (.inst 223 fs):=eq__5 h1 sd;have g3:(σ.set d (.list ((xs.take i).map .str)))[d]?=some (.list ((xs.take i).map .str)):=eq__44 h3;have nin:((xs.take i).contains x)=false:=by
   rw[eT];intro hc;rw[bF]at hc;exact eq__831 nd hx1 hc
  refine eq__2 ({scope:=d165.scope,fn:=true,vars:=[(a5 "self",.ref s),(a5 "file_dep",.lst (xs.map .str)),(a5 "dep",.str x)],code:=0}) ?_ ?_;·rcases ho with rfl|⟨y,rfl⟩<;>(nofun;done)
  ·refine eq__26 (σ':=σ.set d (.list ((xs.take i).map .str))) (by(nofun;done)) ?_;refine eq__26 (σ':=σ.set d (.list ((xs.take i).map .str))) (by(nofun;done)) ?_;refine eq__33 (σ':=σ.set d (.list ((xs.take (i+1)).map .str))) (v:=.none) ?_ ?_
   ·(nofun;all_goals(try(((try simp_all_arith[hS,g1,h2,g3,nOf,eq__59,a7,eq__191 hl,jI]);try rfl);done)));rw[eq__37 hx1,aY];rfl
   ·exact eq__4 ⟨.next,_,_,rfl,trivial,rfl,_,rfl,.inr ⟨x,rfl⟩⟩
 ·rintro fr' σ'⟨rfl,o,rfl,ho⟩;refine eq__4 ?_;rw[a7,b8];rfl
theorem eq__833(k:Nat){s d w:Nat}(h1:σ[s]?=some (.inst 223 fs))(h2:look (a5 "task_dep") fs=some (.ref d))(h2':look (a5 "wild_dep") fs=some (.ref w))(h3:σ[d]?=some (.list []))(h4:σ[w]?=some (.list []))(sd:d≠s)(sw:w≠s)(dw:w≠d)(hl:xs.length<1000):
  callD (Tn k) 60 0 d172 [.ref s,.lst (xs.map .str)] σ=.ok .none ((σ.set d (.list ((xs.filter (!pM ·)).map .str))).set w (.list ((xs.filter pM).map .str))):=by
 intros n9 LS xs LD fs St σ Nat k Nat s Nat d Nat w
 have hB:d172.body=d172.body:=rfl
 conv at hB=>rhs;whnf
 have hS:d172.scope=d172.scope:=rfl
 conv at hS=>rhs;whnf
 have hP:d172.pars=d172.pars:=rfl
 conv at hP=>rhs;whnf
 refine eq__40 (R:=fun o=>o=_) (by simp_arith[hP,aG,aQ];rfl) ?_
 (nofun;all_goals(try(((try simp_all_arith[hP,hB,hS,aG,aQ,bJ,bT]);try rfl);done)))
 refine eq__57 (sr:=.val (.lst (xs.map .str))) (σ':=σ) (by(nofun;done)) rfl (xs.map .str)
  (fun i fr σ'=>σ'=(σ.set d (.list (((xs.take i).filter (!pM ·)).map .str))).set w (.list (((xs.take i).filter pM).map .str))∧∃o,fr={scope:=d172.scope,fn:=true,vars:=[(a5 "self",.ref s),(a5 "task_dep",.lst (xs.map .str))]++o,code:=0}∧(o=[]∨∃x,o=[(a5 "dep",.str x)])) (by simpa using hl) ⟨?_,[],by rw[hS];rfl,.inl rfl⟩ ?_ ?_ ?_
 ·rw[f7,jT,jT,aQ,eq__279 h3,eq__279 h4]
 ·rintro i fr σ'⟨rfl,_⟩;rfl
 ·rintro i v fr σ'⟨rfl,o,rfl,ho⟩hv;intros n4 X v X o Nat i;refine eq__1 (eq__65 hv) fun x hx1 q1_=>?_;subst q1_;generalize hA:((xs.take i).filter (!pM ·))=As;generalize hB':((xs.take i).filter pM)=Bs;have lA:As.length<lim:=by rw[←hA];exact iK (b9 _ _) (eq__191 hl)
  have lB:Bs.length<lim:=by rw[←hB'];exact iK (b9 _ _) (eq__191 hl)
  have g1:((σ.set d (.list (As.map .str))).set w (.list (Bs.map .str)))[s]?=some (.inst 223 fs):=eq__5 (eq__5 h1 sd) sw;have g3:((σ.set d (.list (As.map .str))).set w (.list (Bs.map .str)))[d]?=some (.list (As.map .str)):=eq__5 (eq__44 h3) dw;have g4:((σ.set d (.list (As.map .str))).set w (.list (Bs.map .str)))[w]?=some (.list (Bs.map .str)):=eq__44 (eq__5 h4 (cW dw));refine eq__2 ({scope:=d172.scope,fn:=true,vars:=[(a5 "self",.ref s),(a5 "task_dep",.lst (xs.map .str)),(a5 "dep",.str x)],code:=0}) ?_ ?_;·rcases ho with rfl|⟨y,rfl⟩<;>(nofun;done)
  ·cases hst:pM x with
   |true=>
    refine eq__26 (σ':=(σ.set d (.list (As.map .str))).set w (.list (Bs.map .str))) (by
     have hst':(!(aI x (a5 "*") 0 x.length 1).isEmpty)=true:=hst;simpa[hS,eq__42,eq__21]using[hst']) ?_;refine eq__33 (σ':=(σ.set d (.list (As.map .str))).set w (.list ((Bs++[x]).map .str))) (v:=.none) ?_ ?_;·(nofun;all_goals((try simp_all_arith[hS,g1,h2',g4,nOf,eq__59,a7,lB,jI,aY,aG,aQ]);try rfl);done)
    ·refine eq__4 ⟨.next,_,_,rfl,trivial,?_,_,rfl,.inr ⟨x,rfl⟩⟩;rw[eq__37 hx1,dN,dN,hA,hB'];simp[hst]
   |false=>
    refine eq__23 (σ':=(σ.set d (.list (As.map .str))).set w (.list (Bs.map .str))) (by
     have hst':(!(aI x (a5 "*") 0 x.length 1).isEmpty)=false:=hst;simpa[hS,eq__42,eq__21]using[hst']) ?_;refine eq__33 (σ':=((σ.set d (.list ((As++[x]).map .str))).set w (.list (Bs.map .str)))) (v:=.none) ?_ ?_;·simp_all_arith[hS,g1,h2,g3,nOf,eq__59,a7,lA,aY,aG,aQ];rw[List.set_comm _ _ dw,jI]
    ·refine eq__4 ⟨.next,_,_,rfl,trivial,?_,_,rfl,.inr ⟨x,rfl⟩⟩;rw[eq__37 hx1,dN,dN,hA,hB'];simp[hst]
 ·rintro fr' σ'⟨rfl,o,rfl,ho⟩;refine eq__4 ?_;rw[a7,b8];rfl
theorem eq__834(k:Nat){s:Nat}(hl:xs.length<1000):callD (Tn k) 60 0 d151 [.ref s,.lst (xs.map .str)] σ=.ok (.ref σ.length) (σ++[.list (xs.map .str)]):=by
 intros n1 LS xs St σ Nat k Nat s
 have hB:d151.body=d151.body:=rfl
 conv at hB=>rhs;whnf
 have hS:d151.scope=d151.scope:=rfl
 conv at hS=>rhs;whnf
 have hP:d151.pars=d151.pars:=rfl
 conv at hP=>rhs;whnf
 refine eq__40 (R:=fun o=>o=_) (by simp_arith[hP,aG,aQ];rfl) ?_
 (nofun;all_goals(try(((try simp_all_arith[hP,hB,hS,aG,aQ,bJ,bT]);try rfl);done)))
 refine eq__12 (by simpa[decide_true]using[decide_true];rfl) (by(nofun;done)) ?_
 simp_arith[]
 refine eq__57 (sr:=.val (.lst (xs.map .str))) (σ':=σ++[.list []]) (by(nofun;done)) rfl (xs.map .str)
  (fun i fr σ'=>σ'=σ++[.list ((xs.take i).map .str)]∧∃o,fr={scope:=d151.scope,fn:=true,vars:=[(a5 "self",.ref s),(a5 "items",.lst (xs.map .str)),(a5 "targets",.ref σ.length)]++o,code:=0}∧(o=[]∨∃x,o=[(a5 "target",.str x)])) (by simpa using hl) ⟨rfl,[],by rw[hS];rfl,.inl rfl⟩ ?_ ?_ ?_
 ·rintro i fr σ'⟨rfl,_⟩;rfl
 ·rintro i v fr σ'⟨rfl,o,rfl,ho⟩hv;intros n4 X v X o Nat i;refine eq__1 (eq__65 hv) fun x hx1 q1_=>?_;subst q1_;refine eq__2 ({scope:=d151.scope,fn:=true,vars:=[(a5 "self",.ref s),(a5 "items",.lst (xs.map .str)),(a5 "targets",.ref σ.length),(a5 "target",.str x)],code:=0}) ?_ ?_;·rcases ho with rfl|⟨y,rfl⟩<;>(nofun;done)
  ·refine eq__26 (σ':=σ++[.list ((xs.take i).map .str)]) (by(nofun;done)) ?_;refine eq__33 (σ':=σ++[.list ((xs.take (i+1)).map .str)]) (v:=.none) ?_ ?_;·(nofun;all_goals(try(((try simp_all_arith[hS,nOf,eq__59,get_new,a7,eq__191 hl,eq__248]);try rfl);done)));rw[eq__37 hx1,aY];rfl
   ·exact eq__4 ⟨.next,_,_,rfl,trivial,rfl,_,rfl,.inr ⟨x,rfl⟩⟩
 ·rintro fr' σ'⟨rfl,o,rfl,ho⟩;refine eq__49 (v:=.ref σ.length) (σ':=σ++[.list (xs.map .str)]) ?_ rfl;simpa[hS,c0]using[a7,b8]
theorem eq__949(k:Nat){s:Nat}:callD (Tn k) 60 0 xH [.ref s,.lst []] σ=.ok (.lst []) σ:=by
 intros n0 St σ Nat k Nat s
 refine eq__162 (eq__184 k) fun c m f e=>?_
 rw[e]
 kernel_rfl
theorem eq__92:(σ++τ)[σ.length]?=τ[0]?:=by rw[bX (aN _),gN]
theorem eq__66:(σ++τ)[σ.length+j]?=τ[j]?:=by rw[bX (eB _ _),gS]
theorem eq__100:(σ++τ).set σ.length c=σ++τ.set 0 c:=by rw[hU _ _ (aN _),gN]
theorem eq__101:(σ++τ).set (σ.length+j) c=σ++τ.set j c:=by rw[hU _ _ (eB _ _),gS]
theorem eq__15{Q:Out SS Flo→Prop}(k:qA (exs T n r fr σ) Q):vB T n r Q (.ok .next (fr,σ)):=k
noncomputable def fs0(n:Str)(su:List Str):List (Str×Val):=[(a5 "name",.str n),(a5 "options",.none),(a5 "setup_tasks",.lst (su.map .str)),(a5 "actions",.lst [])]
noncomputable def fs1(b:Nat)(n:Str)(su:List Str):List (Str×Val):=fs0 n su++[(a5 "dep_changed",.none),(a5 "file_dep",.ref (b+1)),(a5 "task_dep",.ref (b+2)),(a5 "wild_dep",.ref (b+3)),(a5 "calc_dep",.lst [])]
theorem eq__835(k:Nat){n:Str}{su fi de:List Str}(lf:fi.length<1000)(nf:fi.Nodup)(ld:de.length<1000):
  callD (Tn (k+1)) 60 0 d144 [.ref σ.length,.lst (fi.map .str),.lst (de.map .str),.tup []] (σ++[.inst 223 (fs0 n su)])=
   .ok .none (σ++[.inst 223 (fs1 σ.length n su),.list (fi.map .str),.list ((de.filter (!pM ·)).map .str),.list ((de.filter pM).map .str)]):=by
 intros n3 St σ Nat k Str n LS su LS fi LS de
 have hB:d144.body=d144.body:=rfl
 conv at hB=>rhs;whnf
 have hS:d144.scope=d144.scope:=rfl
 conv at hS=>rhs;whnf
 have hP:d144.pars=d144.pars:=rfl
 conv at hP=>rhs;whnf
 refine eq__40 (R:=fun o=>o=_) (by nofun) ?_
 simp_arith[hP,hB,hS,aG,aQ,bJ,bT,fs0]
 refine eq__36 (by nofun) (by nofun) (by nofun) ?_
 refine eq__36 (by nofun) (by nofun) (by nofun) ?_
 refine eq__33 (v:=.none) (by
  simpa[b7,aV,d8,d9,c0,cI,aR,bG,cF,eH,dY,eq__820,eq__818,eq__11,aZ,eq__59]using[eq__92,eq__66,eq__100,eq__101,bK,aH];exact eq__832 k (d:=σ.length+1) (by nofun) (by nofun) (by nofun) (by simp) lf nf) ?_
 simpa[b7,aV,d8,d9,c0,cI,aR,bG,cF,eH,dY]using[eq__92,eq__66,eq__100,eq__101,bK,aH]
 refine eq__36 (by nofun) (by nofun) (by nofun) ?_
 refine eq__36 (by nofun) (by nofun) (by nofun) ?_
 simp_arith[eq__92,eq__66,eq__100,eq__101,b7,aV,d8,d9,bK,c0,cI,aH,aR,bG,cF,eH,dY]
 have rest:∀(A B:List Str),A=de.filter (!pM ·)→B=de.filter pM→qA (exs (Tn (k+1)) 54 (d144.body.drop 6) {scope:=d144.scope,fn:=true,vars:=[(a5 "self",.ref σ.length),(a5 "file_dep",.lst (fi.map .str)),(a5 "task_dep",.lst (de.map .str)),(a5 "calc_dep",.tup [])],code:=0}
   (σ++[.inst 223 (fs0 n su++[(a5 "dep_changed",.none),(a5 "file_dep",.ref (σ.length+1)),(a5 "task_dep",.ref (σ.length+2)),(a5 "wild_dep",.ref (σ.length+3))]),.list (fi.map .str),.list (A.map .str),.list (B.map .str)]))
   fun o=>sE o=.ok .none (σ++[.inst 223 (fs1 σ.length n su),.list (fi.map .str),.list ((de.filter (!pM ·)).map .str),.list ((de.filter pM).map .str)]):=by
  rintro A B rfl rfl;refine eq__36 (by nofun) (by nofun) (by nofun) ?_;refine eq__23 (by nofun) ?_;refine eq__4 ?_;refine eq__15 ?_;exact eq__4 rfl
 cases de with
 |nil=>
  refine eq__23 (by nofun) ?_;refine eq__4 ?_;have :=rest [] [] rfl rfl;simp(decide:=true)only[evs,Out.bind_ok,Out.bind_exc,Out.bind_stuck,↓reduceIte,decide_true,decide_false,if_true,if_false,bR,c4,look,bQ,cJ,bS,dA,cA,dB,hB,hS,bZ,c5,fs0,c0,cI]at this;exact this
 |cons d0 dr=>
  refine eq__26 (by nofun) ?_;refine eq__33 (v:=.none) (by
   simpa[b7,aV,d8,d9,c0,cI,aR,bG,cF,eH,dY,eq__821,eq__819,eq__11,aZ,eq__59]using[eq__92,eq__66,eq__100,eq__101,bK,aH];exact eq__833 k (xs:=d0::dr) (d:=σ.length+2) (w:=σ.length+3) (by nofun) (by nofun) (by nofun) (by nofun) (by nofun) (by simp) (by simp) (by simp) ld) ?_;refine eq__4 ?_;have :=rest _ _ rfl rfl;simp(decide:=true)only[evs,Out.bind_ok,Out.bind_exc,Out.bind_stuck,↓reduceIte,decide_true,decide_false,if_true,if_false,bR,c4,look,bQ,cJ,bS,dA,cA,dB,hB,hS,bZ,c5,fs0,c0,cI]at this;simpa[b7,aV,d8,d9,c0,cI,aR,bG,cF,eH,dY]using[eq__92,eq__66,eq__100,eq__101,bK,aH];exact this
noncomputable def eqs(x:Str):Bool:=!(aI x (a5 "=") 0 x.length 1).isEmpty
structure Spec where
 name:Str
 deps:List Str
 setup:List Str
 targets:List Str
 files:List Str
noncomputable def tSpec:Ty:=⟨Spec,⟨⟨default,[],[],[],[]⟩⟩⟩
noncomputable abbrev LSp:=List Spec
noncomputable def tLSp:Ty:=⟨LSp,⟨[]⟩⟩
noncomputable def Spec.val(s:Spec):Val:=.tup [.str s.name,.lst (s.deps.map .str),.lst (s.setup.map .str),.lst (s.targets.map .str),.lst (s.files.map .str)]
noncomputable def qB(b:Nat)(n:Str)(su:List Str)(op:Val):List (Str×Val):=[(a5 "name",.str n),(a5 "options",op),(a5 "setup_tasks",.lst (su.map .str)),(a5 "actions",.lst []),
 (a5 "dep_changed",.none),(a5 "file_dep",.ref (b+1)),(a5 "task_dep",.ref (b+2)),(a5 "wild_dep",.ref (b+3)),(a5 "calc_dep",.lst []),
 (a5 "getargs",.dct0),(a5 "value_savers",.lst []),(a5 "uptodate",.lst []),(a5 "targets",.ref (b+4)),(a5 "subtask_of",.none),(a5 "has_subtask",.bool false),(a5 "result",.none),(a5 "values",.dct0),(a5 "executed",.bool false)]
noncomputable def r6(b:Nat)(s:Spec):St:=[.inst 223 (qB b s.name s.setup .none),.list (s.files.map .str),.list ((s.deps.filter (!pM ·)).map .str),.list ((s.deps.filter pM).map .str),.list (s.targets.map .str)]
structure SpecOk(s:Spec):Prop where
 name:s.name∈names8
 deps:∀d∈s.deps,(pM d=false∧d∈names8)∨(pM d=true∧d∈pats8)
 depl:s.deps.length≤2
 setup:∀d∈s.setup,d∈names8
 setupl:s.setup.length≤1
 targ:∀d∈s.targets,d∈files4
 targl:s.targets.length≤1
 file:∀d∈s.files,d∈files4
 filed:s.files.Nodup
 filel:s.files.length≤4
theorem eq__158:∀n∈names8,n.length≤10:=by decide
theorem eq__6(h:n≤1000):n≤lim:=by have :lim=1000000:=rfl;exact eq__29 [_,_] (.le Z0 Z1) (.le Z0 (.n 1000)) (.qe Z1 (.n 1000000)) rfl h this
noncomputable def rL(σ:St)(s:Spec):List Val:=[.ref σ.length,.str s.name,.none,.lst (s.files.map .str),.lst (s.targets.map .str),.lst (s.deps.map .str),.tup [],.tup [],.lst (s.setup.map .str),.none,.bool false,.none]
theorem eq__836(k:Nat){s:Spec}(ok:SpecOk s)(he:eqs s.name=false):callD (Tn (k+2)) 60 0 dTask (rL σ s) (σ++[.inst 223 []])=.ok .none (σ++r6 σ.length s):=by
 intros n2 St σ Nat k Spec s
 have' hB:dTask.body=dTask.body:=rfl
 conv at hB=>rhs;whnf
 have' hS:dTask.scope=dTask.scope:=rfl
 conv at hS=>rhs;whnf
 have' hP:dTask.pars=dTask.pars:=rfl
 conv at hP=>rhs;whnf
 refine eq__40 (R:=fun o=>o=_) (by nofun) ?_
 simp_arith[hP,hB,hS,aG,aQ,bJ,bT,rL]
 have' he':(!(aI s.name (a5 "=") 0 s.name.length 1).isEmpty)=false:=he
 refine eq__12 (v:=.dct0) (by nofun) (by nofun) ?_
 refine eq__23 (by nofun) ?_
 refine eq__4 ?_
 refine eq__15 ?_
 refine eq__36 (by nofun) (by nofun) (by nofun) ?_
 refine eq__36 (by nofun) (by nofun) (by nofun) ?_
 refine eq__36 (by nofun;all_goals((try simp_all_arith[eq__92,eq__66,eq__100,eq__101,b7,aV,d8,d9,bK,c0,cI,aH,aR,bG,cF,eH,dY,eq__122,eq__11,eq__9,a7,eq__6 (aL ok.setupl (by decide))]);try rfl)) (by nofun) (by nofun) ?_
 refine eq__26 (by nofun) ?_
 refine eq__36 (by nofun) (by nofun) (by nofun) ?_
 refine eq__4 ?_
 refine eq__15 ?_
 refine eq__33 (v:=.none) (by
  nofun;exact eq__835 k (n:=s.name) (su:=s.setup) (fi:=s.files) (de:=s.deps) (by have :=ok.filel;exact eq__3 [_] (.lt Z0 (.n 1000)) (.le Z0 (.n 4)) rfl this) ok.filed (by have :=ok.depl;exact eq__3 [_] (.lt Z0 (.n 1000)) (.le Z0 (.n 2)) rfl this)) ?_
 refine eq__12 (v:=.lst []) (by nofun) (by nofun) ?_
 refine eq__36 (by nofun) (by nofun) (by nofun) ?_
 refine eq__23 (by nofun) ?_
 refine eq__4 ?_
 refine eq__15 ?_
 refine eq__36 (by nofun) (by nofun) (by nofun) ?_
 refine eq__36 (v:=.lst []) (by
  (nofun;done)) (by nofun) (by nofun) ?_
 refine eq__36 (v:=.ref (σ.length+4)) (by
  nofun;refine(eq__834 _ (xs:=s.targets) (by have :=ok.targl;exact eq__3 [_] (.lt Z0 (.n 1000)) (.le Z0 (.n 1)) rfl this)).trans ?_;(nofun;all_goals((try simp_all_arith[b7,aV,d8,d9,c0,cI,aR,bG,cF,eH,dY,eq__92,eq__66,eq__100,eq__101,bK,aH]);try rfl);done);try rfl) (by nofun) (by nofun) ?_
 refine eq__36 (by nofun) (by nofun) (by nofun) ?_
 refine eq__36 (by nofun) (by nofun) (by nofun) ?_
 refine eq__36 (by nofun) (by nofun) (by nofun) ?_
 refine eq__36 (by nofun) (by nofun) (by nofun) ?_
 refine eq__36 (by nofun) (by nofun) (by nofun) ?_
 exact eq__4 rfl
theorem eq__837(k:Nat){s:Spec}(ok:SpecOk s)(he:eqs s.name=true):callD (Tn k) 60 0 dTask (rL σ s) (σ++[.inst 223 []])=.exc (σ.length+1) (σ++[.inst 223 [],.exn 78 []]):=by
 intros n3 X k St σ Spec s
 have' hB:dTask.body=dTask.body:=rfl
 conv at hB=>rhs;whnf
 have' hS:dTask.scope=dTask.scope:=rfl
 conv at hS=>rhs;whnf
 have' hP:dTask.pars=dTask.pars:=rfl
 conv at hP=>rhs;whnf
 refine eq__40 (R:=fun o=>o=_) (by nofun) ?_
 simp_arith[hP,hB,hS,aG,aQ,bJ,bT,rL]
 have' he':(!(aI s.name (a5 "=") 0 s.name.length 1).isEmpty)=true:=he
 refine eq__12 (v:=.dct0) (by nofun) (by nofun) ?_
 refine eq__26 (by nofun) ?_
 have' h8:=eq__158 _ ok.name
 refine eq__130 (own:=none) (v:=.any) (fs:=[]) (by nofun) (by nofun) rfl (by
  exact j_s (j_c (by decide) (j_f (x:=s.name) rfl rfl (aL (dC h8 _) (by decide)) (j_c (aL (cC (dC h8 _) _) (by decide)) j_0))) rfl) rfl ?_
 refine(?_:Out.exc _ _=_)
 (nofun;all_goals((try simp_all_arith[b7,aV,d8,d9,c0,cI,aR,bG,cF,eH,dY,eq__92,eq__66,eq__100,eq__101,bK,aH]);try rfl);done)
noncomputable def tT(s:Spec):List (Str×Val):=[(nOf "task_dep",.lst (s.deps.map .str)),(nOf "setup",.lst (s.setup.map .str)),(nOf "targets",.lst (s.targets.map .str)),(nOf "file_dep",.lst (s.files.map .str))]
theorem eq__838(k:Nat){s:Spec}(ok:SpecOk s)(he:eqs s.name=false):makeTask (Tn (k+2)) [.str s.name,.none] (tT s) σ=.ok (.ref σ.length) (σ++r6 σ.length s):=by
 unfold makeTask tT
 dsimp only
 rw[if_pos (eq__83 rfl rfl rfl rfl),show[Val.ref σ.length,.str s.name,.none,.lst (s.files.map .str),.lst (s.targets.map .str),.lst (s.deps.map .str),.tup [],.tup [],.lst (s.setup.map .str),.none,.bool false,.none]=rL σ s from rfl,eq__836 k ok he]
 rfl
theorem eq__839(k:Nat){s:Spec}(ok:SpecOk s)(he:eqs s.name=true):makeTask (Tn k) [.str s.name,.none] (tT s) σ=.exc (σ.length+1) (σ++[.inst 223 [],.exn 78 []]):=by
 unfold makeTask tT
 dsimp only
 rw[if_pos (eq__83 rfl rfl rfl rfl),show[Val.ref σ.length,.str s.name,.none,.lst (s.files.map .str),.lst (s.targets.map .str),.lst (s.deps.map .str),.tup [],.tup [],.lst (s.setup.map .str),.none,.bool false,.none]=rL σ s from rfl,eq__837 k ok he]
 rfl
structure Wp where
 b:Nat
 c:Nat
 ss:List Spec
 td:Nat→List Str
 op:Nat→Val
 m:Nat
 mo:Nat
 tg:List (Str×Str)
 sel:Val
 rho:Nat→Option Cell
 t:Bool
noncomputable abbrev RhoT:=Nat→Option Cell
noncomputable def tRhoT:Ty:=⟨RhoT,⟨fun _=>none⟩⟩
noncomputable abbrev LSS:=List (Str×Str)
noncomputable def tLSS:Ty:=⟨LSS,⟨[]⟩⟩
noncomputable abbrev FSS:=Nat→List Str
noncomputable abbrev LI:=List Int
noncomputable def tLI:Ty:=⟨LI,⟨[]⟩⟩
noncomputable def tWp:Ty:=⟨Wp,⟨⟨0,0,[],fun _=>[],fun _=>.none,0,0,[],.none,fun _=>none,false⟩⟩⟩
noncomputable def rH(b:Nat)(ss:List Spec):List (Str×Val):=ss.mapIdx fun i s=>(s.name,Val.ref (b+5*i))
noncomputable def pT(c:Nat)(sel:Val):List (Str×Val):=[(a5 "tasks",.ref (c+1)),(a5 "targets",.ref (c+2)),(a5 "_def_order",.ref (c+3)),(a5 "selected_tasks",sel)]
noncomputable def tC(tg:List (Str×Str)):List (Str×Val):=tg.map fun p=>(p.1,Val.str p.2)
noncomputable def upd{α:Type}(f:Nat→α)(i:Nat)(x:α):Nat→α:=fun j=>if j=i then x else f j
theorem eq__192{f:Nat→α}{x:α}:upd f i x i=x:=if_pos rfl
theorem eq__280{f:Nat→α}{x:α}(h:j≠i):upd f i x j=f j:=if_neg h
structure Wrl(σ:St)(w:Wp):Prop where
 b0:0<w.b
 bc:w.b+5*w.ss.length≤w.c
 inst:∀{i s},w.ss[i]?=some s→σ[w.b+5*i]?=some (.inst 223 (qB (w.b+5*i) s.name s.setup (w.op i)))
 file:∀{i s},w.ss[i]?=some s→σ[w.b+5*i+1]?=some (.list (s.files.map .str))
 dep:∀{i s},w.ss[i]?=some s→σ[w.b+5*i+2]?=some (.list ((w.td i).map .str))
 wild:∀{i s},w.ss[i]?=some s→σ[w.b+5*i+3]?=some (.list ((s.deps.filter pM).map .str))
 targ:∀{i s},w.ss[i]?=some s→σ[w.b+5*i+4]?=some (.list (s.targets.map .str))
 ctl:σ[w.c]?=some (.inst 368 (pT w.c w.sel))
 tasks:σ[w.c+1]?=some (.dict (rH w.b (w.ss.take w.m)) w.m)
 targs:σ[w.c+2]?=some (.dict (tC w.tg) w.tg.length)
 order:σ[w.c+3]?=some (.list (((w.ss.take w.mo).map (·.name)).map .str))
 pre:∀{k},0<k→k<w.b→σ[k]?=w.rho k
 tab:σ[0]?=some (.tab w.t)
theorem eq__10{l:List α}{x:α}(h:l[i]?=some x):i<l.length:=(bA.mp h).1
section
variable{w:Wp}
theorem Wrl.app(h:Wrl σ w)(τ:St):Wrl (σ++τ) w:=
 ⟨h.b0,h.bc,fun e=>get_app (h.inst e),fun e=>get_app (h.file e),fun e=>get_app (h.dep e),fun e=>get_app (h.wild e),fun e=>get_app (h.targ e),get_app h.ctl,get_app h.tasks,get_app h.targs,get_app h.order,fun{k}k0 kb=>by
  rw[bD (by have :=eq__50 h.ctl;have :=h.bc;omega)];exact h.pre k0 kb,get_app h.tab⟩
theorem Wrl.other(h:Wrl σ w){d:Cell}(hk:w.c+3<k):Wrl (σ.set k d) w:=by
 have bc:=h.bc
 have b0:=h.b0
 refine⟨h.b0,h.bc,fun e=>?_,fun e=>?_,fun e=>?_,fun e=>?_,fun e=>?_,?_,?_,?_,?_,fun{k}k0 kb=>?_,?_⟩
 ·have :=eq__10 e;exact eq__5 (h.inst e) (by exact fun hN_=>eq__84 [_,_,_,_,_] 0 .ff 1 (.eq Z0 (.a Z1 (.m 5 Z2))) 1 (.lt (.a Z3 (.n 3)) Z0) 1 (.le (.a Z1 (.m 5 Z4)) Z3) 5 (.lt Z2 Z4) rfl hN_ hk bc this)
 ·have :=eq__10 e;exact eq__5 (h.file e) (by exact fun hN_=>eq__84 [_,_,_,_,_] 0 .ff 1 (.eq Z0 (.a (.a Z1 (.m 5 Z2)) (.n 1))) 1 (.lt (.a Z3 (.n 3)) Z0) 1 (.le (.a Z1 (.m 5 Z4)) Z3) 5 (.lt Z2 Z4) rfl hN_ hk bc this)
 ·have :=eq__10 e;exact eq__5 (h.dep e) (by exact fun hN_=>eq__84 [_,_,_,_,_] 0 .ff 1 (.eq Z0 (.a (.a Z1 (.m 5 Z2)) (.n 2))) 1 (.lt (.a Z3 (.n 3)) Z0) 1 (.le (.a Z1 (.m 5 Z4)) Z3) 5 (.lt Z2 Z4) rfl hN_ hk bc this)
 ·have :=eq__10 e;exact eq__5 (h.wild e) (by exact fun hN_=>eq__84 [_,_,_,_,_] 0 .ff 1 (.eq Z0 (.a (.a Z1 (.m 5 Z2)) (.n 3))) 1 (.lt (.a Z3 (.n 3)) Z0) 1 (.le (.a Z1 (.m 5 Z4)) Z3) 5 (.lt Z2 Z4) rfl hN_ hk bc this)
 ·have :=eq__10 e;exact eq__5 (h.targ e) (by exact fun hN_=>eq__84 [_,_,_,_,_] 0 .ff 1 (.eq Z0 (.a (.a Z1 (.m 5 Z2)) (.n 4))) 1 (.lt (.a Z3 (.n 3)) Z0) 1 (.le (.a Z1 (.m 5 Z4)) Z3) 5 (.lt Z2 Z4) rfl hN_ hk bc this)
 ·exact eq__5 h.ctl (by exact fun hN_=>eq__38 [_,_] 0 .ff 1 (.eq Z0 Z1) 1 (.lt (.a Z1 (.n 3)) Z0) rfl hN_ hk)
 ·exact eq__5 h.tasks (by exact fun hN_=>eq__38 [_,_] 0 .ff 1 (.eq Z0 (.a Z1 (.n 1))) 1 (.lt (.a Z1 (.n 3)) Z0) rfl hN_ hk)
 ·exact eq__5 h.targs (by exact fun hN_=>eq__38 [_,_] 0 .ff 1 (.eq Z0 (.a Z1 (.n 2))) 1 (.lt (.a Z1 (.n 3)) Z0) rfl hN_ hk)
 ·exact eq__5 h.order (by exact fun hN_=>eq__38 [_,_] 0 .ff 1 (.eq Z0 (.a Z1 (.n 3))) 1 (.lt (.a Z1 (.n 3)) Z0) rfl hN_ hk)
 ·rw[aX (by exact fun hN_=>eq__84 [_,_,_,_,_] 0 .ff 1 (.eq Z0 Z1) 1 (.lt (.a Z2 (.n 3)) Z0) 1 (.le (.a Z3 (.m 5 Z4)) Z2) 1 (.lt Z1 Z3) rfl hN_ hk bc kb)];exact h.pre k0 kb
 ·exact eq__5 h.tab (by exact fun hN_=>eq__38 [_,_] 0 .ff 1 (.eq Z0 (.n 0)) 1 (.lt (.a Z1 (.n 3)) Z0) rfl hN_ hk)
theorem Wrl.setDep(h:Wrl σ w){s:Spec}(l:List Str)(hi:w.ss[i]?=some s):Wrl (σ.set (w.b+5*i+2) (.list (l.map .str))) {w with td:=upd w.td i l}:=by
 intros n3 X h X s Nat i St σ Wp w LS l
 have bc:=h.bc
 have b0:=h.b0
 have li:=eq__10 hi
 refine⟨h.b0,h.bc,fun e=>?_,fun e=>?_,fun{j _}e=>?_,fun e=>?_,fun e=>?_,?_,?_,?_,?_,fun{k}k0 kb=>?_,?_⟩<;>dsimp only at*
 ·have :=eq__10 e;exact eq__5 (h.inst e) (by omega)
 ·have :=eq__10 e;exact eq__5 (h.file e) (by omega)
 ·have :=eq__10 e;rcases Nat.decEq j i with ne|rfl;·rw[eq__280 ne];exact eq__5 (h.dep e) (by omega)
  ·rw[eq__192];exact eq__44 (h.dep e)
 ·have :=eq__10 e;exact eq__5 (h.wild e) (by omega)
 ·have :=eq__10 e;exact eq__5 (h.targ e) (by omega)
 ·exact eq__5 h.ctl (by exact fun hN_=>eq__16 [_,_,_,_] 0 .ff 1 (.qe (.a (.a Z0 (.m 5 Z1)) (.n 2)) Z2) 1 (.le (.a Z0 (.m 5 Z3)) Z2) 5 (.lt Z1 Z3) rfl hN_ bc li)
 ·exact eq__5 h.tasks (by exact fun hN_=>eq__16 [_,_,_,_] 0 .ff 1 (.qe (.a (.a Z0 (.m 5 Z1)) (.n 2)) (.a Z2 (.n 1))) 1 (.le (.a Z0 (.m 5 Z3)) Z2) 5 (.lt Z1 Z3) rfl hN_ bc li)
 ·exact eq__5 h.targs (by exact fun hN_=>eq__16 [_,_,_,_] 0 .ff 1 (.qe (.a (.a Z0 (.m 5 Z1)) (.n 2)) (.a Z2 (.n 2))) 1 (.le (.a Z0 (.m 5 Z3)) Z2) 5 (.lt Z1 Z3) rfl hN_ bc li)
 ·exact eq__5 h.order (by exact fun hN_=>eq__16 [_,_,_,_] 0 .ff 1 (.qe (.a (.a Z0 (.m 5 Z1)) (.n 2)) (.a Z2 (.n 3))) 1 (.le (.a Z0 (.m 5 Z3)) Z2) 5 (.lt Z1 Z3) rfl hN_ bc li)
 ·rw[aX (by exact fun hN_=>eq__38 [_,_,_] 0 .ff 1 (.eq (.a (.a Z0 (.m 5 Z1)) (.n 2)) Z2) 1 (.lt Z2 Z0) rfl hN_ kb)];exact h.pre k0 kb
 ·exact eq__5 h.tab (by exact fun hN_=>eq__32 [_,_] 0 .ff 1 (.eq (.a (.a Z0 (.m 5 Z1)) (.n 2)) (.n 0)) rfl hN_)
theorem Wrl.setOp(h:Wrl σ w){s:Spec}(v:Val)(hi:w.ss[i]?=some s):Wrl (σ.set (w.b+5*i) (.inst 223 (qB (w.b+5*i) s.name s.setup v))) {w with op:=upd w.op i v}:=by
 intros n2 X h Nat i St σ Wp w Spec s Val v
 have bc:=h.bc
 have b0:=h.b0
 have li:=eq__10 hi
 refine⟨h.b0,h.bc,fun{j _}e=>?_,fun e=>?_,fun e=>?_,fun e=>?_,fun e=>?_,?_,?_,?_,?_,fun{k}k0 kb=>?_,?_⟩<;>dsimp only at*
 ·have :=eq__10 e;rcases Nat.decEq j i with ne|rfl;·rw[eq__280 ne];exact eq__5 (h.inst e) (by omega)
  ·rw[eq__192];cases e.symm.trans hi;exact eq__44 (h.inst e)
 ·have :=eq__10 e;exact eq__5 (h.file e) (by omega)
 ·have :=eq__10 e;exact eq__5 (h.dep e) (by omega)
 ·have :=eq__10 e;exact eq__5 (h.wild e) (by omega)
 ·have :=eq__10 e;exact eq__5 (h.targ e) (by omega)
 ·exact eq__5 h.ctl (by exact fun hN_=>eq__16 [_,_,_,_] 0 .ff 1 (.qe (.a Z0 (.m 5 Z1)) Z2) 1 (.le (.a Z0 (.m 5 Z3)) Z2) 5 (.lt Z1 Z3) rfl hN_ bc li)
 ·exact eq__5 h.tasks (by exact fun hN_=>eq__16 [_,_,_,_] 0 .ff 1 (.qe (.a Z0 (.m 5 Z1)) (.a Z2 (.n 1))) 1 (.le (.a Z0 (.m 5 Z3)) Z2) 5 (.lt Z1 Z3) rfl hN_ bc li)
 ·exact eq__5 h.targs (by exact fun hN_=>eq__16 [_,_,_,_] 0 .ff 1 (.qe (.a Z0 (.m 5 Z1)) (.a Z2 (.n 2))) 1 (.le (.a Z0 (.m 5 Z3)) Z2) 5 (.lt Z1 Z3) rfl hN_ bc li)
 ·exact eq__5 h.order (by exact fun hN_=>eq__16 [_,_,_,_] 0 .ff 1 (.qe (.a Z0 (.m 5 Z1)) (.a Z2 (.n 3))) 1 (.le (.a Z0 (.m 5 Z3)) Z2) 5 (.lt Z1 Z3) rfl hN_ bc li)
 ·rw[aX (by exact fun hN_=>eq__38 [_,_,_] 0 .ff 1 (.eq (.a Z0 (.m 5 Z1)) Z2) 1 (.lt Z2 Z0) rfl hN_ kb)];exact h.pre k0 kb
 ·exact eq__5 h.tab (by exact fun hN_=>eq__38 [_,_] 0 .ff 1 (.eq (.a Z0 (.m 5 Z1)) (.n 0)) 1 (.lt (.n 0) Z0) rfl hN_ b0)
theorem Wrl.setM(h:Wrl σ w)(m:Nat):Wrl (σ.set (w.c+1) (.dict (rH w.b (w.ss.take m)) m)) {w with m:=m}:=by
 intros n1 X h St σ Wp w Nat m
 have bc:=h.bc
 have b0:=h.b0
 refine⟨h.b0,h.bc,fun e=>?_,fun e=>?_,fun e=>?_,fun e=>?_,fun e=>?_,?_,?_,?_,?_,fun{k}k0 kb=>?_,?_⟩<;>dsimp only at*
 ·have :=eq__10 e;exact eq__5 (h.inst e) (by exact fun hN_=>eq__16 [_,_,_,_] 0 .ff 1 (.eq (.a Z0 (.n 1)) (.a Z1 (.m 5 Z2))) 1 (.le (.a Z1 (.m 5 Z3)) Z0) 5 (.lt Z2 Z3) rfl hN_ bc this)
 ·have :=eq__10 e;exact eq__5 (h.file e) (by exact fun hN_=>eq__16 [_,_,_,_] 0 .ff 1 (.eq (.a Z0 (.n 1)) (.a (.a Z1 (.m 5 Z2)) (.n 1))) 1 (.le (.a Z1 (.m 5 Z3)) Z0) 5 (.lt Z2 Z3) rfl hN_ bc this)
 ·have :=eq__10 e;exact eq__5 (h.dep e) (by exact fun hN_=>eq__16 [_,_,_,_] 0 .ff 1 (.eq (.a Z0 (.n 1)) (.a (.a Z1 (.m 5 Z2)) (.n 2))) 1 (.le (.a Z1 (.m 5 Z3)) Z0) 5 (.lt Z2 Z3) rfl hN_ bc this)
 ·have :=eq__10 e;exact eq__5 (h.wild e) (by exact fun hN_=>eq__16 [_,_,_,_] 0 .ff 1 (.eq (.a Z0 (.n 1)) (.a (.a Z1 (.m 5 Z2)) (.n 3))) 1 (.le (.a Z1 (.m 5 Z3)) Z0) 5 (.lt Z2 Z3) rfl hN_ bc this)
 ·have :=eq__10 e;exact eq__5 (h.targ e) (by exact fun hN_=>eq__16 [_,_,_,_] 0 .ff 1 (.eq (.a Z0 (.n 1)) (.a (.a Z1 (.m 5 Z2)) (.n 4))) 1 (.le (.a Z1 (.m 5 Z3)) Z0) 5 (.lt Z2 Z3) rfl hN_ bc this)
 ·exact eq__5 h.ctl (by exact fun hN_=>eq__32 [_] 0 .ff 1 (.eq (.a Z0 (.n 1)) Z0) rfl hN_)
 ·exact eq__44 h.tasks
 ·exact eq__5 h.targs (by exact fun hN_=>eq__32 [_] 0 .ff 1 (.qe (.a Z0 (.n 1)) (.a Z0 (.n 2))) rfl hN_)
 ·exact eq__5 h.order (by exact fun hN_=>eq__32 [_] 0 .ff 1 (.qe (.a Z0 (.n 1)) (.a Z0 (.n 3))) rfl hN_)
 ·rw[aX (by exact fun hN_=>eq__16 [_,_,_,_] 0 .ff 1 (.eq (.a Z0 (.n 1)) Z1) 1 (.le (.a Z2 (.m 5 Z3)) Z0) 1 (.lt Z1 Z2) rfl hN_ bc kb)];exact h.pre k0 kb
 ·exact eq__5 h.tab (by exact fun hN_=>eq__32 [_] 0 .ff 1 (.eq (.a Z0 (.n 1)) (.n 0)) rfl hN_)
theorem Wrl.setMo(h:Wrl σ w)(m:Nat):Wrl (σ.set (w.c+3) (.list (((w.ss.take m).map (·.name)).map .str))) {w with mo:=m}:=by
 intros n1 X h St σ Wp w Nat m
 have bc:=h.bc
 have b0:=h.b0
 refine⟨h.b0,h.bc,fun e=>?_,fun e=>?_,fun e=>?_,fun e=>?_,fun e=>?_,?_,?_,?_,?_,fun{k}k0 kb=>?_,?_⟩<;>dsimp only at*
 ·have :=eq__10 e;exact eq__5 (h.inst e) (by exact fun hN_=>eq__16 [_,_,_,_] 0 .ff 1 (.eq (.a Z0 (.n 3)) (.a Z1 (.m 5 Z2))) 1 (.le (.a Z1 (.m 5 Z3)) Z0) 5 (.lt Z2 Z3) rfl hN_ bc this)
 ·have :=eq__10 e;exact eq__5 (h.file e) (by exact fun hN_=>eq__16 [_,_,_,_] 0 .ff 1 (.eq (.a Z0 (.n 3)) (.a (.a Z1 (.m 5 Z2)) (.n 1))) 1 (.le (.a Z1 (.m 5 Z3)) Z0) 5 (.lt Z2 Z3) rfl hN_ bc this)
 ·have :=eq__10 e;exact eq__5 (h.dep e) (by exact fun hN_=>eq__16 [_,_,_,_] 0 .ff 1 (.eq (.a Z0 (.n 3)) (.a (.a Z1 (.m 5 Z2)) (.n 2))) 1 (.le (.a Z1 (.m 5 Z3)) Z0) 5 (.lt Z2 Z3) rfl hN_ bc this)
 ·have :=eq__10 e;exact eq__5 (h.wild e) (by exact fun hN_=>eq__16 [_,_,_,_] 0 .ff 1 (.eq (.a Z0 (.n 3)) (.a (.a Z1 (.m 5 Z2)) (.n 3))) 1 (.le (.a Z1 (.m 5 Z3)) Z0) 5 (.lt Z2 Z3) rfl hN_ bc this)
 ·have :=eq__10 e;exact eq__5 (h.targ e) (by exact fun hN_=>eq__16 [_,_,_,_] 0 .ff 1 (.eq (.a Z0 (.n 3)) (.a (.a Z1 (.m 5 Z2)) (.n 4))) 1 (.le (.a Z1 (.m 5 Z3)) Z0) 5 (.lt Z2 Z3) rfl hN_ bc this)
 ·exact eq__5 h.ctl (by exact fun hN_=>eq__32 [_] 0 .ff 1 (.eq (.a Z0 (.n 3)) Z0) rfl hN_)
 ·exact eq__5 h.tasks (by exact fun hN_=>eq__32 [_] 0 .ff 1 (.eq (.a Z0 (.n 3)) (.a Z0 (.n 1))) rfl hN_)
 ·exact eq__5 h.targs (by exact fun hN_=>eq__32 [_] 0 .ff 1 (.eq (.a Z0 (.n 3)) (.a Z0 (.n 2))) rfl hN_)
 ·exact eq__44 h.order
 ·rw[aX (by exact fun hN_=>eq__16 [_,_,_,_] 0 .ff 1 (.eq (.a Z0 (.n 3)) Z1) 1 (.le (.a Z2 (.m 5 Z3)) Z0) 1 (.lt Z1 Z2) rfl hN_ bc kb)];exact h.pre k0 kb
 ·exact eq__5 h.tab (by exact fun hN_=>eq__32 [_] 0 .ff 1 (.eq (.a Z0 (.n 3)) (.n 0)) rfl hN_)
theorem Wrl.setTg(h:Wrl σ w)(tg:List (Str×Str)):Wrl (σ.set (w.c+2) (.dict (tC tg) tg.length)) {w with tg:=tg}:=by
 intros n1 X h St σ Wp w LSS tg
 have bc:=h.bc
 have b0:=h.b0
 refine⟨h.b0,h.bc,fun e=>?_,fun e=>?_,fun e=>?_,fun e=>?_,fun e=>?_,?_,?_,?_,?_,fun{k}k0 kb=>?_,?_⟩<;>dsimp only at*
 ·have :=eq__10 e;exact eq__5 (h.inst e) (by exact fun hN_=>eq__16 [_,_,_,_] 0 .ff 1 (.eq (.a Z0 (.n 2)) (.a Z1 (.m 5 Z2))) 1 (.le (.a Z1 (.m 5 Z3)) Z0) 5 (.lt Z2 Z3) rfl hN_ bc this)
 ·have :=eq__10 e;exact eq__5 (h.file e) (by exact fun hN_=>eq__16 [_,_,_,_] 0 .ff 1 (.eq (.a Z0 (.n 2)) (.a (.a Z1 (.m 5 Z2)) (.n 1))) 1 (.le (.a Z1 (.m 5 Z3)) Z0) 5 (.lt Z2 Z3) rfl hN_ bc this)
 ·have :=eq__10 e;exact eq__5 (h.dep e) (by exact fun hN_=>eq__16 [_,_,_,_] 0 .ff 1 (.eq (.a Z0 (.n 2)) (.a (.a Z1 (.m 5 Z2)) (.n 2))) 1 (.le (.a Z1 (.m 5 Z3)) Z0) 5 (.lt Z2 Z3) rfl hN_ bc this)
 ·have :=eq__10 e;exact eq__5 (h.wild e) (by exact fun hN_=>eq__16 [_,_,_,_] 0 .ff 1 (.eq (.a Z0 (.n 2)) (.a (.a Z1 (.m 5 Z2)) (.n 3))) 1 (.le (.a Z1 (.m 5 Z3)) Z0) 5 (.lt Z2 Z3) rfl hN_ bc this)
 ·have :=eq__10 e;exact eq__5 (h.targ e) (by exact fun hN_=>eq__16 [_,_,_,_] 0 .ff 1 (.eq (.a Z0 (.n 2)) (.a (.a Z1 (.m 5 Z2)) (.n 4))) 1 (.le (.a Z1 (.m 5 Z3)) Z0) 5 (.lt Z2 Z3) rfl hN_ bc this)
 ·exact eq__5 h.ctl (by exact fun hN_=>eq__32 [_] 0 .ff 1 (.eq (.a Z0 (.n 2)) Z0) rfl hN_)
 ·exact eq__5 h.tasks (by exact fun hN_=>eq__32 [_] 0 .ff 1 (.eq (.a Z0 (.n 2)) (.a Z0 (.n 1))) rfl hN_)
 ·exact eq__44 h.targs
 ·exact eq__5 h.order (by exact fun hN_=>eq__32 [_] 0 .ff 1 (.qe (.a Z0 (.n 2)) (.a Z0 (.n 3))) rfl hN_)
 ·rw[aX (by exact fun hN_=>eq__16 [_,_,_,_] 0 .ff 1 (.eq (.a Z0 (.n 2)) Z1) 1 (.le (.a Z2 (.m 5 Z3)) Z0) 1 (.lt Z1 Z2) rfl hN_ bc kb)];exact h.pre k0 kb
 ·exact eq__5 h.tab (by exact fun hN_=>eq__32 [_] 0 .ff 1 (.eq (.a Z0 (.n 2)) (.n 0)) rfl hN_)
theorem Wrl.setSel(h:Wrl σ w)(v:Val):Wrl (σ.set w.c (.inst 368 (pT w.c v))) {w with sel:=v}:=by
 intros n1 X h St σ Wp w Val v
 have bc:=h.bc
 have b0:=h.b0
 refine⟨h.b0,h.bc,fun e=>?_,fun e=>?_,fun e=>?_,fun e=>?_,fun e=>?_,?_,?_,?_,?_,fun{k}k0 kb=>?_,?_⟩<;>dsimp only at*
 ·have :=eq__10 e;exact eq__5 (h.inst e) (by exact fun hN_=>eq__16 [_,_,_,_] 0 .ff 1 (.eq Z0 (.a Z1 (.m 5 Z2))) 1 (.le (.a Z1 (.m 5 Z3)) Z0) 5 (.lt Z2 Z3) rfl hN_ bc this)
 ·have :=eq__10 e;exact eq__5 (h.file e) (by exact fun hN_=>eq__16 [_,_,_,_] 0 .ff 1 (.eq Z0 (.a (.a Z1 (.m 5 Z2)) (.n 1))) 1 (.le (.a Z1 (.m 5 Z3)) Z0) 5 (.lt Z2 Z3) rfl hN_ bc this)
 ·have :=eq__10 e;exact eq__5 (h.dep e) (by exact fun hN_=>eq__16 [_,_,_,_] 0 .ff 1 (.eq Z0 (.a (.a Z1 (.m 5 Z2)) (.n 2))) 1 (.le (.a Z1 (.m 5 Z3)) Z0) 5 (.lt Z2 Z3) rfl hN_ bc this)
 ·have :=eq__10 e;exact eq__5 (h.wild e) (by exact fun hN_=>eq__16 [_,_,_,_] 0 .ff 1 (.eq Z0 (.a (.a Z1 (.m 5 Z2)) (.n 3))) 1 (.le (.a Z1 (.m 5 Z3)) Z0) 5 (.lt Z2 Z3) rfl hN_ bc this)
 ·have :=eq__10 e;exact eq__5 (h.targ e) (by exact fun hN_=>eq__16 [_,_,_,_] 0 .ff 1 (.eq Z0 (.a (.a Z1 (.m 5 Z2)) (.n 4))) 1 (.le (.a Z1 (.m 5 Z3)) Z0) 5 (.lt Z2 Z3) rfl hN_ bc this)
 ·exact eq__44 h.ctl
 ·exact eq__5 h.tasks (by exact fun hN_=>eq__32 [_] 0 .ff 1 (.qe Z0 (.a Z0 (.n 1))) rfl hN_)
 ·exact eq__5 h.targs (by exact fun hN_=>eq__32 [_] 0 .ff 1 (.qe Z0 (.a Z0 (.n 2))) rfl hN_)
 ·exact eq__5 h.order (by exact fun hN_=>eq__32 [_] 0 .ff 1 (.qe Z0 (.a Z0 (.n 3))) rfl hN_)
 ·rw[aX (by exact fun hN_=>eq__16 [_,_,_,_] 0 .ff 1 (.eq Z0 Z1) 1 (.le (.a Z2 (.m 5 Z3)) Z0) 1 (.lt Z1 Z2) rfl hN_ bc kb)];exact h.pre k0 kb
 ·exact eq__5 h.tab (by exact fun hN_=>eq__16 [_,_,_] 0 .ff 1 (.eq Z0 (.n 0)) 1 (.le (.a Z1 (.m 5 Z2)) Z0) 1 (.lt (.n 0) Z1) rfl hN_ bc b0)
theorem Wrl.setTab(h:Wrl σ w)(t:Bool):Wrl (σ.set 0 (.tab t)) {w with t:=t}:=by
 intros n1 X h St σ Wp w Bool t
 have bc:=h.bc
 have b0:=h.b0
 refine⟨h.b0,h.bc,fun e=>?_,fun e=>?_,fun e=>?_,fun e=>?_,fun e=>?_,?_,?_,?_,?_,fun{k}k0 kb=>?_,?_⟩<;>dsimp only at*
 ·have :=eq__10 e;exact eq__5 (h.inst e) (by exact fun hN_=>eq__38 [_,_] 0 .ff 1 (.qe (.n 0) (.a Z0 (.m 5 Z1))) 1 (.lt (.n 0) Z0) rfl hN_ b0)
 ·have :=eq__10 e;exact eq__5 (h.file e) (by exact fun hN_=>eq__32 [_,_] 0 .ff 1 (.qe (.n 0) (.a (.a Z0 (.m 5 Z1)) (.n 1))) rfl hN_)
 ·have :=eq__10 e;exact eq__5 (h.dep e) (by exact fun hN_=>eq__32 [_,_] 0 .ff 1 (.qe (.n 0) (.a (.a Z0 (.m 5 Z1)) (.n 2))) rfl hN_)
 ·have :=eq__10 e;exact eq__5 (h.wild e) (by exact fun hN_=>eq__32 [_,_] 0 .ff 1 (.qe (.n 0) (.a (.a Z0 (.m 5 Z1)) (.n 3))) rfl hN_)
 ·have :=eq__10 e;exact eq__5 (h.targ e) (by exact fun hN_=>eq__32 [_,_] 0 .ff 1 (.qe (.n 0) (.a (.a Z0 (.m 5 Z1)) (.n 4))) rfl hN_)
 ·exact eq__5 h.ctl (by exact fun hN_=>eq__16 [_,_,_] 0 .ff 1 (.qe (.n 0) Z0) 1 (.le (.a Z1 (.m 5 Z2)) Z0) 1 (.lt (.n 0) Z1) rfl hN_ bc b0)
 ·exact eq__5 h.tasks (by exact fun hN_=>eq__32 [_] 0 .ff 1 (.qe (.n 0) (.a Z0 (.n 1))) rfl hN_)
 ·exact eq__5 h.targs (by exact fun hN_=>eq__32 [_] 0 .ff 1 (.qe (.n 0) (.a Z0 (.n 2))) rfl hN_)
 ·exact eq__5 h.order (by exact fun hN_=>eq__32 [_] 0 .ff 1 (.qe (.n 0) (.a Z0 (.n 3))) rfl hN_)
 ·rw[aX (by exact fun hN_=>eq__38 [_] 0 .ff 1 (.qe (.n 0) Z0) 1 (.lt (.n 0) Z0) rfl hN_ k0)];exact h.pre k0 kb
 ·exact eq__44 h.tab
end
theorem eq__281{α:Type}:∀{l:List (Str×α)}{x:Str}{v:α},look x l=some v→∃i:Nat,l[i]?=some (x,v)
 |[],_,_,h=>by(injection h)
 |(y,u)::r,x,v,h=>by
  rw[eq__46]at h;by_cases e:y=x;·subst e;rw[if_pos rfl]at h;cases h;exact⟨0,rfl⟩
  ·rw[if_neg e]at h;rcases eq__281 h with⟨i,hi⟩;exact⟨i+1,(hi)⟩
theorem eq__538(b:Nat)(ss:List Spec):(rH b ss).map (·.1)=ss.map (·.name):=by
 apply m0
 intro i
 unfold rH
 simp[kR,kK,iV]
theorem eq__102(b:Nat)(ss:List Spec):(rH b ss).length=ss.length:=by unfold rH;simp
theorem eq__193(b:Nat)(ss:List Spec)(i:Nat):(rH b ss)[i]?=(ss[i]?).map fun s=>(s.name,Val.ref (b+5*i)):=by unfold rH;simp[kR]
theorem eq__840(b:Nat)(ss:List Spec)(s:Spec):rH b (ss++[s])=rH b ss++[(s.name,.ref (b+5*ss.length))]:=by unfold rH;simp
theorem eq__74(b:Nat)(ss:List Spec)(x:Str):(look x (rH b ss)).isSome=(ss.map (·.name)).contains x:=by
 intros n0 Nat b LSp ss Str x
 cases h:look x (rH b ss)with
 |none=>
  have :=(eq__112 _ _).mp h;rw[eq__538]at this;skip;exact(eT.mpr fun hc=>this (bF.mp hc)).symm
 |some v=>
  rcases eq__281 h with⟨i,hi⟩;rw[eq__193]at hi;refine eq__1 (aJ.mp hi) fun s h1 h2=>?_;clear hi h;cases h2;skip;exact(bF.mpr (cQ.mpr (eq__2 s (aT h1) rfl))).symm
variable{ss:List Spec}
theorem eq__841{b:Nat}{x:Str}(h:look x (rH b ss)=some v):∃i s,ss[i]?=some s∧s.name=x∧v=.ref (b+5*i):=by
 intros n1 Val v LSp ss Nat b Str x
 rcases eq__281 h with⟨i,hi⟩
 rw[eq__193]at hi
 refine eq__1 (aJ.mp hi) fun s h1 h2=>?_
 clear hi h;cases h2
 exact eq__24 i s h1 rfl rfl
theorem eq__131(tg:List (Str×Str))(x:Str):look x (tC tg)=(look x tg).map .str:=by
 induction tg with
 |nil=>rfl
 |cons p r ih=>
  unfold tC at*;rw[aG];rcases p with⟨y,z⟩;refine(?_:(if y=x then _ else _)=dR _ (if y=x then _ else _));by_cases e:y=x;·rw[if_pos e,if_pos e];rfl
  ·rw[if_neg e,if_neg e];exact ih
noncomputable def nms(ss:List Spec):List Str:=ss.map (·.name)
noncomputable def sN(w:Wp)(i:Nat):Bool:=(w.td i).all (fun d=>(nms w.ss).contains d)&&(((w.ss[i]?).map fun s=>s.setup.all fun d=>(nms w.ss).contains d).getD true)
noncomputable def s0(w:Wp):Bool:=(dJ w.ss.length).all (sN w)
structure WOk(w:Wp):Prop where
 ok:∀s∈w.ss,SpecOk s
 few:w.ss.length≤8
 tdl:∀i,(w.td i).length≤100
 tds:∀i,∀d∈w.td i,d∈names8
theorem eq__159{b:Nat}(h:((rH b ss).map (·.2))[i]?=some v):∃s,ss[i]?=some s∧v=.ref (b+5*i):=by
 intros n1 Val v Nat i LSp ss Nat b
 rw[aK,eq__193,kK]at h
 refine eq__1 (aJ.mp h) fun s h1 h2=>?_
 exact eq__2 s h1 h2.symm
theorem eq__160{l:List α}{p:α→Bool}{x:α}(h:x∈l)(hp:p x=false):l.all p=false:=by
 rw[eT]
 intro hc
 have :=aP.mp hc x h
 rw[hp]at this
 cases this
theorem eq__842(k:Nat){w:Wp}(W:Wrl σ w)(O:WOk w)(hm:w.m=w.ss.length):
  callD (Tn k) 60 0 d310 [.ref w.c] σ=if s0 w then .ok .none σ else .exc σ.length (σ++[.exn 78 []]):=by
 intros n3 St σ Nat k Wp w
 have hB:d310.body=d310.body:=rfl
 conv at hB=>rhs;whnf
 have hS:d310.scope=d310.scope:=rfl
 conv at hS=>rhs;whnf
 have hP:d310.pars=d310.pars:=rfl
 conv at hP=>rhs;whnf
 have tasks:=W.tasks
 rw[hm,b8]at tasks
 have ctl:=W.ctl
 have few:=O.few
 refine eq__40 (R:=fun o=>o=_) (by nofun) ?_
 refine eq__81 (sr:=.vals (w.c+1) (rH w.b w.ss).length w.ss.length) (σ':=σ) (by nofun) rfl ((rH w.b w.ss).map (·.2))
  (fun i fr σ'=>A3 (σ=σ') ((∀j,j<i→sN w j=true)) (∃V,A3 (fr={scope:=d310.scope,fn:=true,vars:=V,code:=0}) (look (a5 "self") V=some (.ref w.c)) (look (a5 "InvalidTask") V=none)))
  (fun o=>s0 w=false∧∃fr,o=.exc σ.length (fr,σ++[.exn 78 []]))
  (by rw[a7,eq__102];exact eq__3 [_] (.lt Z0 (.n 1000)) (.le Z0 (.n 8)) rfl few) ⟨rfl,fun j h=>absurd h (by exact eq__52 [_] (.nlt Z0 (.n 0)) rfl),_,rfl,by rfl,by rfl⟩ ?_ ?_ ?_ ?_
 ·rintro i fr σ'⟨rfl,_⟩;simp only[pG,tasks,eq__102,and_self,if_true,aK]
 ·rintro i v fr σ'⟨rfl,hj,V,rfl,v1,v2⟩hv;intros n6 X v X V Nat i;refine eq__1 (eq__159 hv) fun s hs q1_=>?_;subst q1_;have inst:=W.inst hs;have dep:=W.dep hs;have li:=eq__10 hs;have oks:=O.ok s (aT hs);refine eq__2 ({scope:=d310.scope,fn:=true,vars:=setV (a5 "task") (.ref (w.b+5*i)) V,code:=0}) (by nofun) ?_;refine eq__81 (sr:=.val (.ref (w.b+5*i+2))) (σ':=σ) (by nofun) rfl ((w.td i).map .str)
   (fun i' fr σ'=>A3 (σ=σ') ((∀d∈(w.td i).take i',d∈nms w.ss)) (∃V,A4 (fr={scope:=d310.scope,fn:=true,vars:=V,code:=0}) (look (a5 "self") V=some (.ref w.c)) (look (a5 "InvalidTask") V=none) (look (a5 "task") V=some (.ref (w.b+5*i)))))
   (fun o=>s0 w=false∧∃fr,o=.exc σ.length (fr,σ++[.exn 78 []]))
   (by have :=O.tdl i;rw[a7];exact eq__3 [_] (.lt Z0 (.n 1000)) (.le Z0 (.n 100)) rfl this) ⟨rfl,fun d h=>absurd h (by simp),_,(by first|rfl|rw[hS]),(by nofun),(by nofun),(by nofun)⟩ ?_ ?_ ?_ ?_
  ·rintro i' fr σ'⟨rfl,_⟩;simp only[eq__9,dep,aD]
  ·rintro i' v fr σ'⟨rfl,hj',V,rfl,v1,v2,v3⟩hv;rcases eq__65 hv with⟨d,hd,rfl⟩;refine eq__2 ({scope:=d310.scope,fn:=true,vars:=setV (a5 "dep") (.str d) V,code:=0}) (by nofun) ?_;cases hc:(nms w.ss).contains d with
   |true=>
    refine eq__23 (σ':=σ) (by nofun;all_goals((try simp_all_arith[hS,eq__8,v1,v2,v3,ctl,pT,eq__21,eq__42,tasks,eq__74,hc,aD,dZ,show w.ss.map (·.name)=nms w.ss from rfl]);try rfl)) ?_;refine eq__4 (eq__15 (eq__4 (.inl (eq__34 .next _ _ ⟨rfl,trivial,rfl,?_,_,(by first|rfl|rw[hS]),(by nofun),(by nofun),(by nofun)⟩))));intro d' h';rw[eq__37 hd,bW,aA]at h';rcases h' with h'|rfl;·exact hj' _ h'
    ·exact bF.mp hc
   |false=>
    have l1:=eq__158 _ oks.name;have l2:=eq__158 _ (O.tds i d (aT hd));refine eq__26 (σ':=σ) (by nofun;all_goals((try simp_all_arith[hS,eq__8,v1,v2,v3,ctl,pT,eq__21,eq__42,tasks,eq__74,hc,aD,f8,show w.ss.map (·.name)=nms w.ss from rfl]);try rfl)) ?_;refine eq__12 (v:=.any) (σ':=σ) (by
     exact j_s (j_f (x:=s.name) (by nofun) rfl (aL l1 (by decide)) (j_c (aL (cC l1 _) (by decide)) (j_f (x:=d) (by nofun) rfl (aL (eV l2 (cC l1 _)) (by decide))
      (j_c (aL (cC (eV l2 (cC l1 _)) _) (by decide)) j_0)))) rfl) (by nofun) ?_;refine eq__130 (own:=none) (v:=.any) (fs:=[]) (by nofun) (by nofun) rfl (by nofun) rfl (.inr (eq__30 trivial ?_ ⟨_,rfl⟩));exact eq__160 (f9.mpr li) (by unfold sN;rw[eq__160 (aT hd) hc];rfl)
  ·rintro fr' σ'⟨rfl,hdd,V,rfl,v1,v2,v3⟩;rw[a7,b8]at hdd;refine eq__81 (sr:=.val (.lst (s.setup.map .str))) (σ':=σ) (by nofun) rfl (s.setup.map .str)
    (fun i' fr σ'=>A3 (σ=σ') ((∀d∈s.setup.take i',d∈nms w.ss)) (∃V,A4 (fr={scope:=d310.scope,fn:=true,vars:=V,code:=0}) (look (a5 "self") V=some (.ref w.c)) (look (a5 "InvalidTask") V=none) (look (a5 "task") V=some (.ref (w.b+5*i)))))
    (fun o=>s0 w=false∧∃fr,o=.exc σ.length (fr,σ++[.exn 78 []]))
    (by have :=oks.setupl;rw[a7];exact eq__3 [_] (.lt Z0 (.n 1000)) (.le Z0 (.n 1)) rfl this) ⟨rfl,fun d h=>absurd h (by simp),_,(by first|rfl|rw[hS]),(by nofun),(by nofun),(by nofun)⟩ ?_ ?_ ?_ ?_;·rintro i' fr σ'⟨rfl,_⟩;simp only[eq__9,aD]
   ·rintro i' v fr σ'⟨rfl,hj',V,rfl,v1,v2,v3⟩hv;rcases eq__65 hv with⟨d,hd,rfl⟩;refine eq__2 ({scope:=d310.scope,fn:=true,vars:=setV (a5 "setup_task") (.str d) V,code:=0}) (by nofun) ?_;cases hc:(nms w.ss).contains d with
    |true=>
     refine eq__23 (σ':=σ) (by nofun;all_goals((try simp_all_arith[hS,eq__8,v1,v2,v3,ctl,pT,eq__21,eq__42,tasks,eq__74,hc,aD,dZ,show w.ss.map (·.name)=nms w.ss from rfl]);try rfl)) ?_;refine eq__4 (eq__15 (eq__4 (.inl (eq__34 .next _ _ ⟨rfl,trivial,rfl,?_,_,(by first|rfl|rw[hS]),(by nofun),(by nofun),(by nofun)⟩))));intro d' h';rw[eq__37 hd,bW,aA]at h';rcases h' with h'|rfl;·exact hj' _ h'
     ·exact bF.mp hc
    |false=>
     have l1:=eq__158 _ oks.name;have l2:=eq__158 _ (oks.setup d (aT hd));refine eq__26 (σ':=σ) (by nofun;all_goals((try simp_all_arith[hS,eq__8,v1,v2,v3,ctl,pT,eq__21,eq__42,tasks,eq__74,hc,aD,f8,show w.ss.map (·.name)=nms w.ss from rfl]);try rfl)) ?_;refine eq__12 (v:=.any) (σ':=σ) (by
      exact j_s (j_c (by decide) (j_f (x:=s.name) (by nofun) rfl (aL (dC l1 _) (by decide)) (j_c (aL (cC (dC l1 _) _) (by decide)) (j_f (x:=d) (by nofun) rfl (aL (eV l2 (cC (dC l1 _) _)) (by decide))
       (j_c (aL (cC (eV l2 (cC (dC l1 _) _)) _) (by decide)) j_0))))) rfl) (by nofun) ?_;refine eq__130 (own:=none) (v:=.any) (fs:=[]) (by nofun) (by nofun) rfl (by nofun) rfl (.inr (eq__30 trivial ?_ ⟨_,rfl⟩));refine eq__160 (f9.mpr li) ?_;unfold sN;rw[hs,aD,eF,eq__160 (aT hd) hc,mZ]
   ·rintro fr' σ'⟨rfl,hdd',V,rfl,v1,v2,v3⟩;clear v3;rw[a7,b8]at hdd';refine eq__4 (.inl (eq__34 .next _ _ ⟨rfl,trivial,rfl,?_,_,(by first|rfl|rw[hS]),v1,v2⟩));intro j hj2;rcases Nat.lt_succ_iff_lt_or_eq.mp hj2 with h|rfl;·exact hj j h
    ·unfold sN;rw[hs,aD,eF,aF];exact⟨aP.mpr fun d h=>bF.mpr (hdd d h),aP.mpr fun d h=>bF.mpr (hdd' d h)⟩
   ·rintro o lv⟨h1,fr,rfl⟩;exact .inr ⟨trivial,h1,fr,rfl⟩
  ·rintro o lv⟨h1,fr,rfl⟩;exact .inr ⟨trivial,h1,fr,rfl⟩
 ·rintro fr' σ'⟨rfl,hd,V,rfl,v1,v2⟩;refine eq__4 ?_;rw[if_pos];·rfl
  ·rw[a7,eq__102]at hd;exact aP.mpr fun j hj=>hd j (f9.mp hj)
 ·rintro o lv⟨h1,fr,rfl⟩;rw[h1,if_neg aC];rfl
noncomputable def tY(tg:List (Str×Str))(r:List Str)(f:Str):List Str:=match look f tg with
 |some t=>if r.contains t then r else r++[t]
 |none=>r
noncomputable def tD(tg:List (Str×Str))(r:List Str)(fs:List Str):List Str:=fs.foldl (tY tg) r
theorem eq__843(tg:List (Str×Str))(r:List Str)(f:Str):(tY tg r f).length≤r.length+1:=by
 intros n0 LSS tg LS r Str f
 unfold tY
 split
 ·split;·omega
  ·simp
 ·omega
theorem eq__539(tg:List (Str×Str)):∀(fs r:List Str),(tD tg r fs).length≤r.length+fs.length
 |[],r=>aN _
 |f::fs,r=>by
  skip;skip;have' h1:=eq__539 tg fs (tY tg r f);have' h2:=eq__843 tg r f;unfold tD at h1;skip;exact eq__29 [_,_,_,_] (.le Z0 (.a Z1 (.a Z2 (.n 1)))) (.le Z0 (.a Z3 Z2)) (.le Z3 (.a Z1 (.n 1))) rfl h1 h2
theorem eq__844(tg:List (Str×Str))(fs r:List Str)(f:Str):tD tg r (fs++[f])=tY tg (tD tg r fs) f:=by skip;refine a9 (iW) ?_;rfl
theorem eq__540{f:Nat→α}:upd f i (f i)=f:=by
 funext j
 unfold upd
 split
 ·rename_i h;simp only[h]
 ·rfl
theorem eq__541{f:Nat→α}{x y:α}:upd (upd f i x) i y=upd f i y:=by
 funext j
 unfold upd
 split<;>rfl
theorem eq__845(k:Nat){w:Wp}(W:Wrl σ w){s:Spec}(hs:w.ss[i]?=some s)(tdl:(w.td i).length≤100)(fl:s.files.length≤4):
  ∃σ',callD (Tn k) 60 0 d327 [.ref (w.c+2),.ref (w.b+5*i),.ref (w.b+5*i+1)] σ=.ok .none σ'∧Wrl σ' {w with td:=upd w.td i (tD w.tg (w.td i) s.files)}:=by
 intros n5 X σ X W Nat i Nat k Wp w Spec s
 have' hB:d327.body=d327.body:=rfl
 conv at hB=>rhs;whnf
 have' hS:d327.scope=d327.scope:=rfl
 conv at hS=>rhs;whnf
 have' hP:d327.pars=d327.pars:=rfl
 conv at hP=>rhs;whnf
 refine eq__40 (d:=d327) (R:=fun o=>∃σ',o=.ok .none σ'∧Wrl σ' {w with td:=upd w.td i (tD w.tg (w.td i) s.files)}) (by nofun) ?_
 refine eq__57 (sr:=.val (.ref (w.b+5*i+1))) (σ':=σ) (by nofun;all_goals((try simp_all_arith[W.file hs,tB,eq__9,aD,aZ]);try rfl)) rfl (s.files.map .str)
  (fun i' fr σ'=>Wrl σ' {w with td:=upd w.td i (tD w.tg (w.td i) (s.files.take i'))}∧∃V,A3 (fr={scope:=d327.scope,fn:=true,vars:=V,code:=0}) (look (a5 "targets") V=some (.ref (w.c+2))) (look (a5 "task") V=some (.ref (w.b+5*i))))
  (by rw[a7];exact eq__3 [_] (.lt Z0 (.n 1000)) (.le Z0 (.n 4)) rfl fl) ⟨by
   rw[show upd w.td i (tD w.tg (w.td i) (s.files.take 0))=w.td from eq__540];exact W,_,(by first|rfl|rw[hS]),rfl,rfl⟩ ?_ ?_ ?_
 ·rintro i' fr σ'⟨W',_⟩;have' this:=W'.file (i:=i) hs;dsimp only at this;simp only[eq__9,this,aD]
 ·(intro i' v fr σ' hp1_;intros n6 X σ X v X fr X σ' Nat i';obtain⟨W',V,rfl,v1,v2⟩:=hp1_;intro hv);(refine eq__1 (eq__65 hv) fun d hd q1_=>?_;subst q1_);refine eq__2 ({scope:=d327.scope,fn:=true,vars:=setV (a5 "dep") (.str d) V,code:=0}) (by nofun) ?_;simp_arith[hS];generalize hr:tD w.tg (w.td i) (s.files.take i')=row at W';have' inst:=W'.inst (i:=i) hs;have' dep:=W'.dep (i:=i) hs;have' targs:=W'.targs;dsimp only at inst dep targs;rw[eq__192]at dep;have lr:row.length<lim:=by
   have' this:=eq__539 w.tg (s.files.take i') (w.td i);rw[hr,bP]at this;have' this:lim=1000000:=rfl;omega
  have fin:∀σ'',Wrl σ'' {w with td:=upd w.td i (tY w.tg row d)}→Wrl σ'' {w with td:=upd w.td i (tD w.tg (w.td i) (s.files.take (i'+1)))}:=by
   intro σ'' h;rw[eq__37 hd,eq__844,hr];exact h
  cases hl:look d w.tg with
  |none=>
   have gl:look d (tC w.tg)=none:=by rw[eq__131,hl];rfl
   refine eq__23 (σ':=σ') (by nofun;all_goals((try simp_all_arith[hS,eq__8,v1,v2,targs,inst,qB,dep,eq__42,eq__21,gl,eQ]);try rfl)) ?_;refine eq__4 (eq__15 (eq__4 (eq__135 .next _ _ rfl trivial (fin _ ?_) ⟨_,(by first|rfl|rw[hS]),(by nofun),(by nofun)⟩)));unfold tY;exact(hl)▸W'
  |some t=>
   have gl:look d (tC w.tg)=some (.str t):=by rw[eq__131,hl];rfl
   cases hc:row.contains t with
   |true=>
    refine eq__23 (σ':=σ') (by nofun;all_goals((try simp_all_arith[hS,eq__8,v1,v2,targs,inst,qB,dep,eq__42,eq__21,gl,aZ,eq__22,eq__64,aD,hc,dZ]);try rfl)) ?_;refine eq__4 (eq__15 (eq__4 (eq__135 .next _ _ rfl trivial (fin _ ?_) ⟨_,(by first|rfl|rw[hS]),(by nofun),(by nofun)⟩)));unfold tY;rw[hl];dsimp only;rw[hc,if_pos rfl];exact W'
   |false=>
    refine eq__26 (σ':=σ') (by nofun;all_goals((try simp_all_arith[hS,eq__8,v1,v2,targs,inst,qB,dep,eq__42,eq__21,gl,aZ,eq__22,eq__64,aD,hc,f8]);try rfl)) ?_;refine eq__33 (v:=.none) (σ':=σ'.set (w.b+5*i+2) (.list ((row++[t]).map .str))) (by nofun;all_goals((try simp_all_arith[hS,eq__8,v1,v2,targs,inst,qB,dep,eq__22,gl,nOf,eq__59,a7,lr,aY,aG,aQ]);try rfl)) ?_;refine eq__4 (eq__15 (eq__4 (eq__135 .next _ _ rfl trivial (fin _ ?_) ⟨_,(by first|rfl|rw[hS]),(by nofun),(by nofun)⟩)));unfold tY;rw[hl];dsimp only;rw[hc,if_neg aC];have' this:=W'.setDep (row++[t]) (i:=i) hs;dsimp only at this;rw[eq__541]at this;exact this
 ·(intro fr' σ' hp1_;obtain⟨W',V,rfl,v1,v2⟩:=hp1_);rw[a7,b8]at W';exact eq__4 (eq__2 σ' rfl W')
noncomputable def qO(ss:List Spec):List (Str×Str):=ss.flatMap fun s=>s.targets.map (·,s.name)
noncomputable def tdI(w:Wp)(tg:List (Str×Str))(n:Nat):Nat→List Str:=fun i=>match w.ss[i]? with
 |some s=>if i<n then tD tg (w.td i) s.files else w.td i
 |none=>w.td i
theorem eq__846(w:Wp)(tg:List (Str×Str)):tdI w tg 0=w.td:=by
 funext i
 unfold tdI
 split
 ·exact(if_neg (mS i))
 ·rfl
theorem eq__542(w:Wp)(tg:List (Str×Str))(i:Nat):tdI w tg i i=w.td i:=by
 intros n0 Wp w LSS tg Nat i
 unfold tdI
 split
 ·exact(if_neg (cN i))
 ·rfl
theorem eq__847(w:Wp)(tg:List (Str×Str)){s:Spec}(hs:w.ss[i]?=some s):upd (tdI w tg i) i (tD tg (w.td i) s.files)=tdI w tg (i+1):=by
 funext j
 skip
 by_cases e:j=i
 ·subst e;refine a9 (if_pos rfl) ?_;unfold tdI;rw[hs];dsimp only;rw[if_pos (cU j)]
 ·refine a9 (if_neg e) ?_;unfold tdI;split
  ·by_cases h:j<i;·rw[if_pos h,if_pos (by exact eq__3 [_,_] (.lt Z0 (.a Z1 (.n 1))) (.lt Z0 Z1) rfl h)]
   ·rw[if_neg h,if_neg (by omega)]
  ·rfl
theorem eq__848(ss:List Spec)(s:Spec):qO (ss++[s])=qO ss++s.targets.map (·,s.name):=by unfold qO;simp
theorem eq__543(ss:List Spec):(qO ss).map (·.1)=ss.flatMap (·.targets):=by
 skip
 refine a9 (mK) ?_
 congr 1
 funext s
 refine a9 (c8) ?_
 simp[iV]
noncomputable def qR(b:Nat)(ss:List Spec):List Val:=(rH b ss).map (·.2)
theorem eq__93(b:Nat)(ss:List Spec):(qR b ss).length=ss.length:=by unfold qR;rw[a7,eq__102]
theorem eq__118(σ:St)(vs:List Val)(i:Nat):pG σ (.val (.lst vs)) i=some vs[i]?:=rfl
theorem eq__282:∀(ss:List Spec),(∀s∈ss,s.targets.length≤1)→(qO ss).length≤ss.length
 |[],_=>aN _
 |s::r,h=>by
  have h1:=eq__282 r fun s hs=>h s (aU _ hs);have h2:=h s (aO ..);unfold qO at*;rw[cM,aH,a7,aR];exact eq__29 [_,_,_] (.le (.a Z0 Z1) (.a Z2 (.n 1))) (.le Z1 Z2) (.le Z0 (.n 1)) rfl h1 h2
theorem eq__849(k:Nat){w:Wp}(W:Wrl σ w)(O:WOk w)(htg:w.tg=[]):
  (∃σ',callD (Tn (k+1)) 60 0 d317 [.ref (w.c+2),.lst (qR w.b w.ss)] σ=.ok .none σ'∧(w.ss.flatMap (·.targets)).Nodup∧Wrl σ' {w with tg:=qO w.ss,td:=tdI w (qO w.ss) w.ss.length})∨
  (∃k' σ' tg,callD (Tn (k+1)) 60 0 d317 [.ref (w.c+2),.lst (qR w.b w.ss)] σ=.exc k' σ'∧¬(w.ss.flatMap (·.targets)).Nodup∧σ'[k']?=some (.exn 78 [])∧Wrl σ' {w with tg:=tg}):=by
 intros n4 X σ Nat k Wp w
 have hB:d317.body=d317.body:=rfl
 conv at hB=>rhs;whnf
 have hS:d317.scope=d317.scope:=rfl
 conv at hS=>rhs;whnf
 have hP:d317.pars=d317.pars:=rfl
 conv at hP=>rhs;whnf
 have few:=O.few
 refine eq__40 (d:=d317) (vs:=[.ref (w.c+2),.lst (qR w.b w.ss)]) (σ:=σ) (T:=Tn (k+1)) (n:=60) (code:=0) (R:=fun o=>(∃σ',o=.ok .none σ'∧(w.ss.flatMap (·.targets)).Nodup∧Wrl σ' {w with tg:=qO w.ss,td:=tdI w (qO w.ss) w.ss.length})∨(∃k' σ' tg,o=.exc k' σ'∧¬(w.ss.flatMap (·.targets)).Nodup∧σ'[k']?=some (.exn 78 [])∧Wrl σ' {w with tg:=tg})) (by nofun) ?_
 refine eq__81 (sr:=.val (.lst (qR w.b w.ss))) (σ':=σ) (by nofun) rfl (qR w.b w.ss)
  (fun i fr σ'=>A3 (Wrl σ' {w with tg:=qO (w.ss.take i)}) (((w.ss.take i).flatMap (·.targets)).Nodup) (∃V,A5 (fr={scope:=d317.scope,fn:=true,vars:=V,code:=0}) (look (a5 "targets") V=some (.ref (w.c+2))) (look (a5 "task_list") V=some (.lst (qR w.b w.ss))) (look (a5 "InvalidTask") V=none) (look (a5 "TaskControl") V=none)))
  (fun o=>∃k' fr σ' tg,A4 (o=.exc k' (fr,σ')) (¬(w.ss.flatMap (·.targets)).Nodup) (σ'[k']?=some (.exn 78 [])) (Wrl σ' {w with tg:=tg}))
  (by rw[eq__93];omega) ⟨by rw[f7,show qO []=w.tg from htg.symm];exact W,gP,_,(by first|rfl|rw[hS]),rfl,rfl,rfl,rfl⟩ ?_ ?_ ?_ ?_
 ·rintro i fr σ' _;exact eq__118 _ _ _
 ·(intro i v fr σ' hp1_;intros n6 X σ X v X fr X σ' Nat i;obtain⟨W',nd,V,rfl,v1,v2,v3,v4⟩:=hp1_;intro hv);(refine eq__1 (eq__159 hv) fun s hs q1_=>?_;subst q1_);have oks:=O.ok s (aT hs);have inst:=W'.inst (i:=i) hs;have targ:=W'.targ (i:=i) hs;dsimp only at inst targ;refine eq__2 ({scope:=d317.scope,fn:=true,vars:=setV (a5 "task") (.ref (w.b+5*i)) V,code:=0}) (by nofun) ?_;refine eq__81 (sr:=.val (.ref (w.b+5*i+4))) (σ':=σ') (by nofun) rfl (s.targets.map .str)
   (fun i' fr σ'=>A3 (Wrl σ' {w with tg:=qO (w.ss.take i)++(s.targets.take i').map (·,s.name)}) (((w.ss.take i).flatMap (·.targets)++s.targets.take i').Nodup) (∃V,A6 (fr={scope:=d317.scope,fn:=true,vars:=V,code:=0}) (look (a5 "targets") V=some (.ref (w.c+2))) (look (a5 "task_list") V=some (.lst (qR w.b w.ss))) (look (a5 "InvalidTask") V=none) (look (a5 "TaskControl") V=none) (look (a5 "task") V=some (.ref (w.b+5*i)))))
   (fun o=>∃k' fr σ' tg,A4 (o=.exc k' (fr,σ')) (¬(w.ss.flatMap (·.targets)).Nodup) (σ'[k']?=some (.exn 78 [])) (Wrl σ' {w with tg:=tg}))
   (by have :=oks.targl;rw[a7];exact eq__3 [_] (.lt Z0 (.n 1000)) (.le Z0 (.n 1)) rfl this) ⟨by rw[f7,aQ,dG];exact W',by rw[f7,dG];exact nd,_,(by first|rfl|rw[hS]),(by nofun),(by nofun),(by nofun),(by nofun),(by nofun)⟩ ?_ ?_ ?_ ?_
  ·rintro i' fr σ''⟨W'',_⟩;have :=W''.targ (i:=i) hs;dsimp only at this;simp only[eq__9,this,aD]
  ·(intro i' v fr σ'' hp1_;obtain⟨W'',nd'',V,rfl,v1,v2,v3,v4,v5⟩:=hp1_;intro hv);(refine eq__1 (eq__65 hv) fun d hd q1_=>?_;subst q1_);refine eq__2 ({scope:=d317.scope,fn:=true,vars:=setV (a5 "target") (.str d) V,code:=0}) (by nofun) ?_;have inst:=W''.inst (i:=i) hs;have targs:=W''.targs;dsimp only at inst targs;generalize htgs:qO (w.ss.take i)++(s.targets.take i').map (·,s.name)=tg at W'' targs;have keys:tg.map (·.1)=(w.ss.take i).flatMap (·.targets)++s.targets.take i':=by
    rw[←htgs,aY,eq__543,c8];congr 1;simp[iV]
   cases hl:look d tg with
   |some t=>
    have gl:look d (tC tg)=some (.str t):=by rw[eq__131,hl];rfl
    refine eq__26 (σ':=σ'') (by nofun;all_goals((try simp_all_arith[hS,eq__8,v1,v2,targs,eq__42,eq__21,gl,aZ]);try rfl)) ?_;refine eq__12 (v:=.str sU) (σ':=σ'') (by nofun) (by nofun) ?_;refine eq__130 (own:=none) (v:=.any) (fs:=[]) (σ':=σ'') (by nofun) (by nofun) rfl (by nofun) rfl (.inr (eq__51 trivial (eq__67 _ _ _ tg ⟨rfl,?_,get_new,W''.app _⟩)));intro hn;have hm:d∈(w.ss.take i).flatMap (·.targets)++s.targets.take i':=by
     rw[←keys];have :=eq__69 _ _ _ hl;exact cQ.mpr (eq__2 _ this rfl)
    have h1:((w.ss.take i).flatMap (·.targets)++s.targets.take (i'+1)).Nodup:=by
     have e:w.ss.flatMap (·.targets)=(w.ss.take i).flatMap (·.targets)++(s.targets.take (i'+1)++(s.targets.drop (i'+1)++(w.ss.drop (i+1)).flatMap (·.targets))):=by
      conv=>lhs;rw[←dW i w.ss,gE (eq__10 hs)]
      rw[dQ,cM,(bA.mp hs).2,←bK (s.targets.take (i'+1)),dW]
     rw[e,←bK]at hn;exact(cL.mp hn).1
    rw[eq__37 hd,←bK]at h1;have :=(cL.mp h1).2.2 d hm d (aA.mpr rfl);exact this rfl
   |none=>
    have gl:look d (tC tg)=none:=by rw[eq__131,hl];rfl
    have dl:(tC tg).length<lim:=by
     have h1:(tC tg).length=tg.length:=by unfold tC;rw[a7]
     have h2:(qO (w.ss.take i)).length≤8:=aL (eq__282 _ fun s h=>(O.ok s (i9 h)).targl) (by rw[bP];omega);have h3:=oks.targl;have h4:(s.targets.take i').length≤1:=by rw[bP];omega
     rw[h1,←htgs,aH,a7];have :lim=1000000:=rfl;exact eq__47 [_,_,_] (.lt (.a Z0 Z1) Z2) (.le Z0 (.n 8)) (.le Z1 (.n 1)) (.qe Z2 (.n 1000000)) rfl h2 h4 this
    refine eq__23 (σ':=σ'') (by nofun;all_goals((try simp_all_arith[hS,eq__8,v1,v2,targs,eq__42,eq__21,gl,eQ]);try rfl)) ?_;refine eq__4 (eq__15 ?_);refine eq__439 (v:=.str s.name) (σ':=σ'') (σ₂:=σ'') (σ₃:=σ'') (σ₄:=σ''.set (w.c+2) (.dict (tC (tg++[(d,s.name)])) (tg++[(d,s.name)]).length)) (k':=w.c+2) (y:=d) (by nofun) (by nofun) (by nofun) (by
     simpa[r9,eQ]using[targs,dl,gl,eq__150 (α:=Unit) _ _ _ gl];unfold tC;rw[aY,aH];rfl) ?_;refine eq__4 (.inl (eq__34 .next _ _ ⟨rfl,trivial,?_,?_,_,(by first|rfl|rw[hS]),(by nofun),(by nofun),(by nofun),(by nofun),(by nofun)⟩));·have :=W''.setTg (tg++[(d,s.name)]);dsimp only at this;rw[eq__37 hd,aY,←bK,htgs];exact this
    ·rw[eq__37 hd,←bK];refine cL.mpr (eq__30 nd'' (by simp) ?_);rintro a ha b hb rfl;rw[aA]at hb;subst hb;rw[←keys]at ha;exact(eq__112 _ _).mp hl ha
  ·(intro fr' σ'' hp1_;obtain⟨W'',nd'',V,rfl,v1,v2,v3,v4,v5⟩:=hp1_);rw[a7,b8]at W'' nd'';refine eq__4 (.inl (eq__34 .next _ _ ⟨rfl,trivial,?_,?_,_,(by first|rfl|rw[hS]),v1,v2,v3,v4⟩));·rw[eq__37 hs,eq__848];exact W''
   ·rw[eq__37 hs,dQ];simpa using nd''
  ·(intro o lv hp1_;obtain⟨k',fr,σ'',tg,rfl,h1,h2,h3⟩:=hp1_);exact .inr (eq__51 trivial (eq__67 k' fr σ'' tg ⟨rfl,h1,h2,h3⟩))
 ·(intro fr' σ' hp1_;obtain⟨W',nd,V,rfl,v1,v2,v3,v4⟩:=hp1_);rw[eq__93,b8]at W' nd;refine eq__57 (sr:=.val (.lst (qR w.b w.ss))) (σ':=σ') (by nofun) rfl (qR w.b w.ss)
   (fun i fr σ'=>Wrl σ' {w with tg:=qO w.ss,td:=tdI w (qO w.ss) i}∧∃V,A3 (fr={scope:=d317.scope,fn:=true,vars:=V,code:=0}) (look (a5 "targets") V=some (.ref (w.c+2))) (look (a5 "TaskControl") V=none))
   (by rw[eq__93];omega) ⟨by rw[eq__846];exact W',V,(by first|rfl|rw[hS]),v1,v4⟩ ?_ ?_ ?_
  ·rintro i fr σ' _;exact eq__118 _ _ _
  ·(intro i v fr σ' hp1_;obtain⟨W',V,rfl,v1,v2⟩:=hp1_;intro hv);(refine eq__1 (eq__159 hv) fun s hs q1_=>?_;subst q1_);have oks:=O.ok s (aT hs);have inst:=W'.inst (i:=i) hs;dsimp only at inst;refine eq__1 (eq__845 k W' (i:=i) hs (by refine(?_:(tdI w _ i i).length≤100);rw[eq__542];exact O.tdl i) oks.filel) fun σ'' e W''=>?_;dsimp only at e W'';rw[eq__542,eq__847 w _ hs]at W'';refine eq__2 ({scope:=d317.scope,fn:=true,vars:=setV (a5 "task") (.ref (w.b+5*i)) V,code:=0}) (by nofun) ?_;refine eq__33 (v:=.none) (σ':=σ'') (by nofun) ?_;exact eq__4 (eq__34 .next _ _ ⟨rfl,trivial,W'',_,(by first|rfl|rw[hS]),(by nofun),(by nofun)⟩)
  ·rintro fr' σ'⟨W',_⟩;rw[eq__93]at W';exact eq__4 (.inl (eq__7 σ' rfl nd W'))
 ·(intro o lv hp1_;obtain⟨k',fr,σ',tg,rfl,h1,h2,h3⟩:=hp1_);exact .inr (eq__34 k' σ' tg ⟨rfl,h1,h2,h3⟩)
set_option tactic.hygienic true
structure Tasks(σ:St)(b:Nat)(ss:List Spec)(rho:Nat→Option Cell)(t:Bool):Prop where
 b0:0<b
 len:σ.length=b+5*ss.length
 inst:∀{i s},ss[i]?=some s→σ[b+5*i]?=some (.inst 223 (qB (b+5*i) s.name s.setup .none))
 file:∀{i s},ss[i]?=some s→σ[b+5*i+1]?=some (.list (s.files.map .str))
 dep:∀{i s},ss[i]?=some s→σ[b+5*i+2]?=some (.list ((s.deps.filter (!pM ·)).map .str))
 wild:∀{i s},ss[i]?=some s→σ[b+5*i+3]?=some (.list ((s.deps.filter pM).map .str))
 targ:∀{i s},ss[i]?=some s→σ[b+5*i+4]?=some (.list (s.targets.map .str))
 pre:∀{k},0<k→k<b→σ[k]?=rho k
 tab:σ[0]?=some (.tab t)
variable{rho:Nat→Option Cell}
theorem Tasks.more{b:Nat}{t:Bool}(h:Tasks σ b ss rho t)(s:Spec):Tasks (σ++r6 σ.length s) b (ss++[s]) rho t:=by
 intros n3 X rho X t X h St σ LSp ss Nat b Spec s
 have hl:=h.len
 have key:∀{i:Nat}{s':Spec},(ss++[s])[i]?=some s'→ss[i]?=some s'∨(i=ss.length∧s'=s):=by
  intro i s' e;by_cases hi:i<ss.length;·rw[bD hi]at e;exact .inl e
  ·rw[bX (by exact eq__3 [_,_] (.le Z0 Z1) (.nlt Z1 Z0) rfl hi)]at e;have h0:i-ss.length=0:=by
    have :=(bA.mp e).1;simp at this;omega
   rw[h0]at e;cases e;exact .inr ⟨by omega,rfl⟩
 have at0:∀j,(σ++r6 σ.length s)[b+5*ss.length+j]?=(r6 σ.length s)[j]?:=fun j=>by rw[←hl];exact eq__66
 refine⟨h.b0,by rw[aH,aH,hl];skip;exact cS (eq__52 [_,_] (.le (.a (.a Z0 (.m 5 Z1)) (.a (.a (.a (.a (.a (.n 0) (.n 1)) (.n 1)) (.n 1)) (.n 1)) (.n 1))) (.a Z0 (.m 5 (.a Z1 (.a (.n 0) (.n 1)))))) rfl) (eq__52 [_,_] (.le (.a Z0 (.m 5 (.a Z1 (.a (.n 0) (.n 1))))) (.a (.a Z0 (.m 5 Z1)) (.a (.a (.a (.a (.a (.n 0) (.n 1)) (.n 1)) (.n 1)) (.n 1)) (.n 1)))) rfl),fun e=>?_,fun e=>?_,fun e=>?_,fun e=>?_,fun e=>?_,fun k0 kb=>?_,get_app h.tab⟩
 ·rcases key e with e|⟨rfl,rfl⟩;·exact get_app (h.inst e)
  ·exact(at0 0).trans (by rw[hl];rfl)
 ·rcases key e with e|⟨rfl,rfl⟩;·exact get_app (h.file e)
  ·exact(at0 1).trans (by rw[hl];rfl)
 ·rcases key e with e|⟨rfl,rfl⟩;·exact get_app (h.dep e)
  ·exact(at0 2).trans (by rw[hl];rfl)
 ·rcases key e with e|⟨rfl,rfl⟩;·exact get_app (h.wild e)
  ·exact(at0 3).trans (by rw[hl];rfl)
 ·rcases key e with e|⟨rfl,rfl⟩;·exact get_app (h.targ e)
  ·exact(at0 4).trans (by rw[hl];rfl)
 ·rw[bD (by exact eq__29 [_,_,_,_] (.lt Z0 Z1) (.qe Z1 (.a Z2 (.m 5 Z3))) (.lt Z0 Z2) rfl hl kb)];exact h.pre k0 kb
noncomputable def pK(ss:List Spec)(s:Spec)(n:Nat):List Str:=s.deps.filter (!pM ·)++((s.deps.filter pM).take n).flatMap (pU (nms ss))
noncomputable def tdW(ss:List Spec)(n:Nat):Nat→List Str:=fun i=>match ss[i]? with
 |some s=>if i<n then pK ss s (s.deps.filter pM).length else pK ss s 0
 |none=>[]
noncomputable def w0(b c:Nat)(ss:List Spec)(rho:Nat→Option Cell)(t:Bool):Wp:=⟨b,c,ss,tdW ss 0,fun _=>.none,0,0,[],.none,rho,t⟩
theorem eq__544(ss:List Spec)(s:Spec):pK ss s 0=s.deps.filter (!pM ·):=by unfold pK;simp
theorem Tasks.world{b:Nat}{t:Bool}(h:Tasks σ b ss rho t):Wrl (σ++[.inst 368 (pT σ.length .none),.dict [] 0,.dict [] 0,.list []]) (w0 b σ.length ss rho t):=by
 intros n1 St σ LSp ss RhoT rho Nat b Bool t
 have hl:=h.len
 refine⟨h.b0,by refine(?_:b+5*ss.length≤σ.length);exact eq__3 [_,_,_] (.le (.a Z0 (.m 5 Z1)) Z2) (.qe Z2 (.a Z0 (.m 5 Z1))) rfl hl,fun e=>get_app (h.inst e),fun e=>get_app (h.file e),fun{i s}e=>?_,fun e=>get_app (h.wild e),fun e=>get_app (h.targ e),eq__92,eq__66,eq__66,eq__66,fun k0 kb=>?_,get_app h.tab⟩
 ·have e1:(w0 b σ.length ss rho t).td i=s.deps.filter (!pM ·):=by
   have e:ss[i]?=some s:=e;refine(?_:tdW ss 0 i=_);unfold tdW;rw[e];dsimp only;rw[if_neg (mS i),eq__544]
  rw[e1];exact get_app (h.dep e)
 ·have kb:_<b:=kb;rw[bD (by exact eq__29 [_,_,_,_] (.lt Z0 Z1) (.qe Z1 (.a Z2 (.m 5 Z3))) (.lt Z0 Z2) rfl hl kb)];exact h.pre k0 kb
theorem eq__850(ss:List Spec){s:Spec}(hs:ss[i]?=some s):tdW ss i i=pK ss s 0:=by
 unfold tdW
 rw[hs]
 exact if_neg (cN i)
theorem eq__851(ss:List Spec){s:Spec}(hs:ss[i]?=some s):upd (tdW ss i) i (pK ss s (s.deps.filter pM).length)=tdW ss (i+1):=by
 funext j
 unfold upd
 by_cases e:j=i
 ·subst e;rw[if_pos rfl];unfold tdW;rw[hs];dsimp only;rw[if_pos (cU j)]
 ·rw[if_neg e];unfold tdW;split
  ·by_cases h:j<i;·rw[if_pos h,if_pos (by exact eq__3 [_,_] (.lt Z0 (.a Z1 (.n 1))) (.lt Z0 Z1) rfl h)]
   ·rw[if_neg h,if_neg (by omega)]
  ·rfl
theorem eq__545(ss:List Spec)(s:Spec){p:Str}(hp:(s.deps.filter pM)[n]?=some p):pK ss s (n+1)=pK ss s n++pU (nms ss) p:=by
 unfold pK
 rw[eq__37 hp,dQ]
 simp
theorem eq__132(xs:List Str)(p:Str):(pU xs p).length≤xs.length:=b9 _ _
theorem eq__283(ss:List Spec)(s:Spec)(few:ss.length≤8)(hd:s.deps.length≤2)(n:Nat):(pK ss s n).length≤20:=by
 unfold pK
 rw[aH]
 have h1:(s.deps.filter (!pM ·)).length≤s.deps.length:=b9 _ _
 have h2:((s.deps.filter pM).take n).length≤s.deps.length:=by
  rw[bP];have :=b9 pM s.deps;omega
 have h3:∀l:List Str,(l.flatMap (pU (nms ss))).length≤l.length*8:=by
  intro l;induction l with
  |nil=>exact aN _
  |cons a r ih=>
   rw[cM,aH,aR];have :=eq__132 (nms ss) a;unfold nms at this;rw[a7]at this;skip;exact eq__47 [_,_,_,_] (.le (.a Z0 Z1) (.r (.a Z2 (.n 1)) 8)) (.le Z3 (.n 8)) (.le Z1 (.r Z2 8)) (.le Z0 Z3) rfl few ih this
 have :=h3 ((s.deps.filter pM).take n)
 exact eq__84 [_,_,_,_] 1 (.le (.a Z0 Z1) (.n 20)) 9 (.le Z2 (.n 2)) 1 (.le Z0 Z2) 8 (.le Z3 Z2) 1 (.le Z1 (.r Z3 8)) rfl hd h1 h2 this
theorem eq__852(ss:List Spec)(s:Spec)(n:Nat)(hn:∀x∈ss,SpecOk x)(ok:SpecOk s):∀d∈pK ss s n,d∈names8:=by
 intro d hd
 unfold pK at hd
 refine cD (bW.mp hd) (fun h=>?_) fun h=>?_
 ·rw[bU]at h;refine cD (ok.deps d h.1) (fun h'=>?_) fun h'=>?_;·exact h'.2
  ·have :=h.2;rw[h'.1]at this;cases this
 ·refine eq__1 (jJ.mp h) fun p hp h=>?_;skip;clear hd;refine eq__1 (cQ.mp (bU.mp h).1) fun x hx q1_=>?_;subst q1_;exact(hn x hx).name
theorem eq__853(w:Wp)(hw:w.ss=ss)(ht:w.td=tdW ss n)(hn:∀x∈ss,SpecOk x)(few:ss.length≤8):WOk w:=by
 refine⟨by rw[hw];exact hn,by rw[hw];exact few,fun i=>?_,fun i d hd=>?_⟩
 ·rw[ht];unfold tdW;split
  ·rename_i s hs;have :=(hn s (aT hs)).depl;split<;>exact aL (eq__283 ss s few this _) (by decide)
  ·exact bN _
 ·rw[ht]at hd;unfold tdW at hd;split at hd
  ·rename_i s hs;have ok:=hn s (aT hs);split at hd<;>exact eq__852 ss s _ hn ok d hd
  ·cases hd
set_option tactic.hygienic false
def Keeps(b:Nat)(rho:Nat→Option Cell)(t:Bool)(σ:St):Prop:=(∀k,0<k→k<b→σ[k]?=rho k)∧σ[0]?=some (.tab t)
theorem Wrl.keeps{w:Wp}(W:Wrl σ w):Keeps w.b w.rho w.t σ:=⟨fun _=>W.pre,W.tab⟩
noncomputable def vC(b c:Nat)(ss:List Spec)(rho:Nat→Option Cell)(t:Bool):Wp:=
 let w:Wp:={w0 b c ss rho t with m:=ss.length,mo:=ss.length,td:=tdW ss ss.length}
 {w with tg:=qO ss,td:=tdI w (qO ss) ss.length}
noncomputable def rX(b c:Nat)(ss:List Spec)(rho:Nat→Option Cell)(t:Bool):Bool:=s0 {w0 b c ss rho t with m:=ss.length,mo:=ss.length,td:=tdW ss ss.length}
def xJ(b c:Nat)(ss:List Spec)(rho:Nat→Option Cell)(t:Bool)(o:Out St Val):Prop:=
 (∃σ',o=.ok .none σ'∧(nms ss).Nodup∧rX b c ss rho t=true∧(ss.flatMap (·.targets)).Nodup∧Wrl σ' (vC b c ss rho t))∨
 (∃k' σ',o=.exc k' σ'∧¬(nms ss).Nodup∧σ'[k']?=some (.exn 52 [])∧Keeps b rho t σ')∨
 (∃k' σ',o=.exc k' σ'∧(nms ss).Nodup∧(rX b c ss rho t=false∨¬(ss.flatMap (·.targets)).Nodup)∧σ'[k']?=some (.exn 78 [])∧Keeps b rho t σ')
theorem eq__854(k:Nat){b:Nat}{t:Bool}(h:Tasks σ b ss rho t)(hn:∀x∈ss,SpecOk x)(few:ss.length≤8):
  xJ b σ.length ss rho t (callD (Tn (k+2)) 60 0 dControl [.ref σ.length,.lst (qR b ss)] (σ++[.inst 368 []])):=by
 intros n3 St σ LSp ss RhoT rho Nat k Nat b Bool t
 have' hB:dControl.body=dControl.body:=rfl
 conv at hB=>rhs;whnf
 have' hS:dControl.scope=dControl.scope:=rfl
 conv at hS=>rhs;whnf
 have' hP:dControl.pars=dControl.pars:=rfl
 conv at hP=>rhs;whnf
 refine eq__40 (d:=dControl) (R:=xJ b σ.length ss rho t) (by nofun) ?_
 refine eq__36 (by nofun) (by nofun) (by nofun) ?_
 refine eq__36 (by nofun) (by nofun) (by nofun) ?_
 refine eq__36 (by nofun) (by nofun) (by nofun) ?_
 refine eq__36 (by nofun) (by nofun) (by nofun) ?_
 have' W:=h.world
 unfold pT at W
 generalize σ++[Cell.inst 368 _,Cell.dict [] 0,Cell.dict [] 0,Cell.list []]=σ₁ at W⊢
 generalize σ.length=c at W⊢
 refine eq__81 (sr:=.val (.lst (qR b ss))) (σ':=σ₁) (by nofun) rfl (qR b ss)
  (fun i fr σ'=>A3 (Wrl σ' {w0 b c ss rho t with m:=i,mo:=i}) ((nms (ss.take i)).Nodup) (∃V,A6 (fr={scope:=dControl.scope,fn:=true,vars:=V,code:=0}) (look (a5 "self") V=some (.ref c)) (look (a5 "task_list") V=some (.lst (qR b ss))) (look (a5 "Task") V=none) (look (a5 "InvalidDodoFile") V=none) (look (a5 "isinstance") V=none)))
  (fun o=>∃k' fr σ',A4 (o=.exc k' (fr,σ')) (¬(nms ss).Nodup) (σ'[k']?=some (.exn 52 [])) (Keeps b rho t σ'))
  (by rw[eq__93];omega) ⟨W,gP,_,(by first|rfl|rw[hS]),rfl,rfl,rfl,rfl,rfl⟩ ?_ ?_ ?_ ?_
 ·rintro i fr σ' _;exact eq__118 _ _ _
 ·(intro i v fr σ' hp1_;intros n6 X σ₁ X W X v X fr X σ' Nat c Nat i;obtain⟨W',nd,V,rfl,v1,v2,v3,v4,v5⟩:=hp1_;intro hv);(refine eq__1 (eq__159 hv) fun s hs q1_=>?_;subst q1_);have li:=eq__10 hs;have' inst:σ'[b+5*i]?=some (.inst 223 (qB (b+5*i) s.name s.setup .none)):=W'.inst (i:=i) hs;have' ctl:σ'[c]?=some (.inst 368 (pT c .none)):=W'.ctl;have tasks:σ'[c+1]?=some (.dict (rH b (ss.take i)) i):=W'.tasks;have' order:σ'[c+3]?=some (.list ((nms (ss.take i)).map .str)):=W'.order;refine eq__2 ({scope:=dControl.scope,fn:=true,vars:=setV (a5 "task") (.ref (b+5*i)) V,code:=0}) (by nofun) ?_;refine eq__23 (σ':=σ') (by nofun) ?_;refine eq__4 (eq__15 ?_);have' hm:∀s',(ss.take i).map (·.name)=nms s'∨True:=fun _=>.inr trivial;cases hc:(nms (ss.take i)).contains s.name with
  |true=>
   refine eq__26 (σ':=σ') (by nofun;all_goals((try simp_all_arith[hS,eq__8,v1,v2,v3,v5,inst,qB,ctl,pT,tasks,eq__42,eq__21,eq__74,show(ss.take i).map (·.name)=nms (ss.take i)from rfl,hc]);try rfl)) ?_;refine eq__12 (v:=.str sT) (σ':=σ') (by nofun) (by nofun) ?_;refine eq__130 (own:=none) (v:=.any) (fs:=[]) (σ':=σ') (by nofun) (by nofun) rfl (by nofun) rfl (.inr (eq__51 trivial (eq__34 _ _ _ ⟨rfl,?_,get_new,(W'.app _).keeps⟩)));intro hn;refine(?_:(nms ss=nms (ss.take i)++(s.name::nms (ss.drop (i+1))))→_) ?_;rotate_left;·
    unfold nms;conv=>lhs;rw[←dW i ss,gE li]
    rw[aY,aG,(bA.mp hs).2]
   intro e;rw[e]at hn;exact(cL.mp hn).2.2 s.name (bF.mp hc) s.name (aO ..) rfl
  |false=>
   have gl:look s.name (rH b (ss.take i))=none:=by
    have' this:=eq__74 b (ss.take i) s.name;rw[show(ss.take i).map (·.name)=nms (ss.take i)from rfl,hc]at this;exact Option.isSome_eq_false_iff.mp this|>gD.mp
   have tl:(ss.take i).length=i:=by refine a9 (bP) ?_;omega
   refine(?_:((rH b (ss.take i)).length<lim)→_) ?_;rotate_left;·
    rw[eq__102,tl];have :lim=1000000:=rfl;exact eq__47 [_,_,_] (.lt Z0 Z1) (.le Z2 (.n 8)) (.lt Z0 Z2) (.qe Z1 (.n 1000000)) rfl few li this
   intro dl;refine(?_:((nms (ss.take i)).length<lim)→_) ?_;rotate_left;·
    unfold nms;rw[a7,tl];have :lim=1000000:=rfl;exact eq__47 [_,_,_] (.lt Z0 Z1) (.le Z2 (.n 8)) (.lt Z0 Z2) (.qe Z1 (.n 1000000)) rfl few li this
   intro ol;have' tk:=eq__37 hs;have W1:=W'.setM (i+1);have' W2:=W1.setMo (i+1);dsimp only[w0]at W1 W2;have' order1:(σ'.set (c+1) (.dict (rH b (ss.take (i+1))) (i+1)))[c+3]?=some (.list ((nms (ss.take i)).map .str)):=W1.order;have' inst1:(σ'.set (c+1) (.dict (rH b (ss.take (i+1))) (i+1)))[b+5*i]?=some (.inst 223 (qB (b+5*i) s.name s.setup .none)):=W1.inst (i:=i) hs;have' ctl1:(σ'.set (c+1) (.dict (rH b (ss.take (i+1))) (i+1)))[c]?=some (.inst 368 (pT c .none)):=W1.ctl;refine eq__23 (σ':=σ') (by nofun;all_goals((try simp_all_arith[hS,eq__8,v1,v2,v3,v5,inst,qB,ctl,pT,tasks,eq__42,eq__21,eq__74,show(ss.take i).map (·.name)=nms (ss.take i)from rfl,hc]);try rfl)) ?_;refine eq__4 (eq__15 ?_);refine eq__439 (v:=.ref (b+5*i)) (σ':=σ') (σ₂:=σ') (σ₃:=σ') (σ₄:=σ'.set (c+1) (.dict (rH b (ss.take (i+1))) (i+1))) (k':=c+1) (y:=s.name) (by nofun) (by nofun) (by nofun) (by
    simpa[r9,eQ]using[tasks,dl,gl,eq__150 (α:=Unit) _ _ _ gl];rw[tk,eq__840,tl]) ?_;refine eq__33 (v:=.none) (σ':=(σ'.set (c+1) (.dict (rH b (ss.take (i+1))) (i+1))).set (c+3) (.list (((ss.take (i+1)).map (·.name)).map .str))) (by
    nofun;rw[tk,aY,aY];rfl) ?_;refine eq__4 (.inl (eq__34 .next _ _ ⟨rfl,trivial,W2,?_,_,(by first|rfl|rw[hS]),(by nofun),(by nofun),(by nofun),(by nofun),(by nofun)⟩));rw[tk];unfold nms;rw[aY];refine cL.mpr (eq__30 nd (by simp) ?_);rintro a ha b hb rfl;rw[aG,aQ,aA]at hb;subst hb;exact aC (hc.symm.trans (bF.mpr ha))
 ·(intro fr' σ' hp1_;obtain⟨W',nd,V,rfl,v1,v2,v3,v4,v5⟩:_:=hp1_);rw[eq__93,b8]at nd;rw[eq__93]at W';have tasksA:σ'[c+1]?=some (.dict (rH b ss) ss.length):=by have :=W'.tasks;dsimp only[w0]at this;rw[b8]at this;exact this
  have' ctlA:σ'[c]?=some (.inst 368 (pT c .none)):=W'.ctl;refine eq__57 (sr:=.vals (c+1) (rH b ss).length ss.length) (σ':=σ') (by nofun) rfl (qR b ss)
   (fun i fr σ'=>Wrl σ' {w0 b c ss rho t with m:=ss.length,mo:=ss.length,td:=tdW ss i}∧∃V,A3 (fr={scope:=dControl.scope,fn:=true,vars:=V,code:=0}) (look (a5 "self") V=some (.ref c)) (look (a5 "task_list") V=some (.lst (qR b ss))))
   (by rw[eq__93];omega) ⟨W',_,(by first|rfl|rw[hS]),v1,v2⟩ ?_ ?_ ?_
  ·rintro i fr σ'⟨W',_⟩;have tasksA:σ'[c+1]?=some (.dict (rH b ss) ss.length):=by have :=W'.tasks;dsimp only[w0]at this;rw[b8]at this;exact this
   unfold qR;simp only[pG,tasksA,eq__102,and_self,if_true,aK]
  ·(intro i v fr σ' hp1_;obtain⟨W',V,rfl,v1,v2⟩:=hp1_;intro hv);(refine eq__1 (eq__159 hv) fun s hs q1_=>?_;subst q1_);have oks:=hn s (aT hs);have' inst:σ'[b+5*i]?=some (.inst 223 (qB (b+5*i) s.name s.setup .none)):=W'.inst (i:=i) hs;have' wild:σ'[b+5*i+3]?=some (.list ((s.deps.filter pM).map .str)):=W'.wild (i:=i) hs;refine eq__2 ({scope:=dControl.scope,fn:=true,vars:=setV (a5 "task") (.ref (b+5*i)) V,code:=0}) (by nofun) ?_;refine eq__57 (sr:=.val (.ref (b+5*i+3))) (σ':=σ') (by nofun) rfl ((s.deps.filter pM).map .str)
    (fun i' fr σ'=>Wrl σ' {w0 b c ss rho t with m:=ss.length,mo:=ss.length,td:=upd (tdW ss i) i (pK ss s i')}∧∃V,A4 (fr={scope:=dControl.scope,fn:=true,vars:=V,code:=0}) (look (a5 "self") V=some (.ref c)) (look (a5 "task_list") V=some (.lst (qR b ss))) (look (a5 "task") V=some (.ref (b+5*i))))
    (by have :=b9 pM s.deps;have :=oks.depl;rw[a7];omega) ⟨by rw[←eq__850 ss hs,eq__540];exact W',_,(by first|rfl|rw[hS]),(by nofun),(by nofun),(by nofun)⟩ ?_ ?_ ?_;·rintro i' fr σ''⟨W'',_⟩;have' this:σ''[b+5*i+3]?=some (.list ((s.deps.filter pM).map .str)):=W''.wild (i:=i) hs;simp only[eq__9,this,aD]
   ·(intro i' v fr σ'' hp1_;obtain⟨W'',V,rfl,v1,v2,v3⟩:=hp1_;intro hv);(refine eq__1 (eq__65 hv) fun p hp q1_=>?_;subst q1_);refine(?_:(p∈pats8)→_) ?_;rotate_left;·
     have :=bU.mp (aT hp);refine cD (oks.deps p this.1) (fun h=>?_) fun h=>?_;·rw[h.1]at this;exact absurd this.2 aC
     ·exact h.2
    intro hp8;have ctl:σ''[c]?=some (.inst 368 (pT c .none)):=W''.ctl;have order:σ''[c+3]?=some (.list ((nms ss).map .str)):=by have :=W''.order;dsimp only[w0]at this;rw[b8]at this;exact this
    have e:=eq__537 k (s:=c) (d:=c+3) (xs:=nms ss) (p:=p) ctl rfl order (fun x hx=>by
     refine eq__1 (cQ.mp hx) fun s' h1 q1_=>?_;subst q1_;exact(hn s' h1).name) (by unfold nms;rw[a7];omega) hp8;have' W3:=W''.app [Cell.list ((pU (nms ss) p).map .str)];have' inst:σ''[b+5*i]?=some (.inst 223 (qB (b+5*i) s.name s.setup .none)):=W''.inst (i:=i) hs;have dep:σ''[b+5*i+2]?=some (.list ((pK ss s i').map .str)):=by have :=W''.dep (i:=i) hs;dsimp only[w0]at this;rw[eq__192]at this;exact this
    have' dep3:=get_app (τ:=[Cell.list ((pU (nms ss) p).map .str)]) dep;refine(?_:((pK ss s i').length+(pU (nms ss) p).length≤lim)→_) ?_;rotate_left;·
     have h1:=eq__283 ss s few oks.depl i';have h2:=eq__132 (nms ss) p;unfold nms at h2;rw[a7]at h2;have :lim=1000000:=rfl;skip;exact eq__165 [_,_,_,_] (.le (.a Z0 Z1) Z2) (.le Z3 (.n 8)) (.le Z0 (.n 20)) (.le Z1 Z3) (.qe Z2 (.n 1000000)) rfl few h1 h2 this
    intro ll;refine eq__2 ({scope:=dControl.scope,fn:=true,vars:=setV (a5 "pattern") (.str p) V,code:=0}) (by nofun) ?_;refine eq__33 (v:=.none) (σ':=(σ''++[Cell.list ((pU (nms ss) p).map .str)]).set (b+5*i+2) (.list ((pK ss s (i'+1)).map .str))) (by
     nofun;·rwa[a7,a7]
     ·rw[eq__545 ss s hp,aY]) ?_;have' W4:=W3.setDep (pK ss s (i'+1)) (i:=i) hs;dsimp only[w0]at W4;rw[eq__541]at W4;exact eq__4 (eq__135 .next _ _ rfl trivial W4 ⟨_,(by first|rfl|rw[hS]),(by nofun),(by nofun),(by nofun)⟩)
   ·(intro fr' σ'' hp1_;obtain⟨W'',V,rfl,v1,v2,v3⟩:=hp1_);rw[a7,eq__851 ss hs]at W'';exact eq__4 (eq__135 .next _ _ rfl trivial W'' ⟨V,(by first|rfl|rw[hS]),v1,v2⟩)
  ·(intro fr' σ' hp1_;obtain⟨W',V,rfl,v1,v2⟩:=hp1_);rw[eq__93]at W';have' O:=eq__853 {w0 b c ss rho t with m:=ss.length,mo:=ss.length,td:=tdW ss ss.length} rfl rfl hn few;have' eq__182:=eq__842 (k+1) W' O rfl;have ctl:σ'[c]?=some (.inst 368 (pT c .none)):=W'.ctl;cases hd:rX b c ss rho t with
   |false=>
    have hd':=hd;unfold rX at hd';rw[hd',if_neg aC]at eq__182;refine eq__250 (k':=σ'.length) (σ':=σ'++[.exn 78 []]) (by nofun) ?_;exact .inr (.inr (eq__61 _ _ rfl nd (.inl hd) get_new ((W'.app _).keeps)))
   |true=>
    have hd':=hd;unfold rX at hd';rw[hd',if_pos rfl]at eq__182;refine eq__33 (v:=.none) (σ':=σ') (by nofun) ?_;rcases eq__849 k W' O rfl with⟨σ'',e,h1,h2⟩|⟨k',σ'',tg,e,h1,h2,h3⟩;·refine eq__33 (v:=.none) (σ':=σ'') (by nofun) ?_;exact eq__4 (.inl (eq__296 σ'' rfl nd hd h1 h2))
    ·refine eq__250 (k':=k') (σ':=σ'') (by nofun) ?_;exact .inr (.inr (eq__61 k' σ'' rfl nd (.inr h1) h2 h3.keeps))
 ·(intro o lv hp1_;clear lv;refine eq__162 hp1_ fun k' fr σ' q1_=>?_;rcases q1_ with⟨rfl,h1,h2,h3⟩);exact .inr (.inl (eq__39 k' σ' rfl h1 h2 h3))
theorem eq__855(k:Nat){a:Nat}{bb:Nat}{n:Str}{su:List Str}(h:σ[a]?=some (.inst 223 (qB bb n su .none))):callD (Tn k) 60 0 d201 [.ref a,v] σ=.ok v (σ.set a (.inst 223 (qB bb n su .dct0))):=by
 have hB:d201.body=d201.body:=rfl
 conv at hB=>rhs;whnf
 have hS:d201.scope=d201.scope:=rfl
 conv at hS=>rhs;whnf
 have hP:d201.pars=d201.pars:=rfl
 conv at hP=>rhs;whnf
 refine eq__40 (R:=fun o=>o=_) (by nofun) ?_
 refine eq__26 (σ':=σ) (by nofun) ?_
 refine eq__36 (v:=.dct0) (σ':=σ) (k':=a) (σ₂:=σ) (σ₃:=σ.set a (.inst 223 (qB bb n su .dct0))) (by nofun) (by nofun) (by nofun) ?_
 exact eq__49 (v:=v) (σ':=σ.set a (.inst 223 (qB bb n su .dct0))) (by nofun) rfl
theorem eq__856(k:Nat){a:Nat}{bb:Nat}{n:Str}{su:List Str}(h:σ[a]?=some (.inst 223 (qB bb n su .dct0))):callD (Tn k) 60 0 d201 [.ref a,v] σ=.ok .none σ:=by
 have hB:d201.body=d201.body:=rfl
 conv at hB=>rhs;whnf
 have hS:d201.scope=d201.scope:=rfl
 conv at hS=>rhs;whnf
 have hP:d201.pars=d201.pars:=rfl
 conv at hP=>rhs;whnf
 refine eq__40 (R:=fun o=>o=_) (by nofun) ?_
 refine eq__23 (σ':=σ) (by nofun) ?_
 exact eq__4 (eq__15 (eq__4 rfl))
noncomputable def nestD:CloD:=(d344.body.findSome? fun s=>match s with
 |.FunctionDef _ a b _ _ _ sc _ _ _=>some (CloD.mk a b sc)
 |_=>none).getD ⟨default,[],default⟩
theorem eq__857{d:CloD}{cap:List Val}{R:Out St Val→Prop}(hl:(d.args.args.map (·.arg)).length=vs.length)(hc:(pF d.scope).length=cap.length)(h:qA (exs T n d.body {scope:=d.scope,fn:=true,vars:=(d.args.args.map (·.arg)).zip vs++(pF d.scope).zip cap,code:=0} σ) fun o=>R (sE o)):R (sP T n d cap vs σ):=by
 simp only[sP,rJ,hl,hc,if_true,eq__151]
 exact h
theorem eq__950(k:Nat):(Tn (k+1)).clo nestD=some (sP (Tn k) 60 nestD):=by
 rw[eq__816]
 rfl
noncomputable abbrev vP(q c:Nat):Val:=.clo nestD [.ref q,.ref c]
theorem eq__858(k:Nat){w:Wp}(W:Wrl σ w)(hm:w.m=w.ss.length){q:Nat}{L:List Val}(hq:w.c+3<q)(hL:σ[q]?=some (.list L))(ll:L.length<1000)(hop:∀i,w.op i=.none∨w.op i=.dct0):
  (sP (Tn (k+1)) 60 nestD [.ref q,.ref w.c] [v,.str f] σ=.ok v (σ.set q (.list (L++[.str f])))∧f∉nms w.ss)∨
  (∃i s,w.ss[i]?=some s∧s.name=f∧w.op i=.none∧sP (Tn (k+1)) 60 nestD [.ref q,.ref w.c] [v,.str f] σ=.ok v ((σ.set q (.list (L++[.str f]))).set (w.b+5*i) (.inst 223 (qB (w.b+5*i) s.name s.setup .dct0))))∨
  (∃i s,w.ss[i]?=some s∧s.name=f∧w.op i=.dct0∧sP (Tn (k+1)) 60 nestD [.ref q,.ref w.c] [v,.str f] σ=.ok .none (σ.set q (.list (L++[.str f])))):=by
 intros n6 X W X hm Val v St σ Str f Nat k Wp w Nat q LV L
 have hB:nestD.body=nestD.body:=rfl
 conv at hB=>rhs;whnf
 have hS:nestD.scope=nestD.scope:=rfl
 conv at hS=>rhs;whnf
 have hA:nestD.args.args.map (·.arg)=[nOf "seq",nOf "f_name"]:=by kernel_rfl
 have hF:pF nestD.scope=[nOf "filter_list",nOf "self"]:=by kernel_rfl
 have W1:=W.other (k:=q) (d:=.list (L++[.str f])) hq
 have ctl:=W.ctl
 have ctl1:=W1.ctl
 have tasks1:=W1.tasks
 rw[hm,b8]at tasks1
 have l0:=small ll
 have start:∀R:Out St Val→Prop,qA (exs (Tn (k+1)) 59 (nestD.body.drop 1) {scope:=nestD.scope,fn:=true,vars:=[(a5 "seq",v),(a5 "f_name",.str f),(a5 "filter_list",.ref q),(a5 "self",.ref w.c)],code:=0} (σ.set q (.list (L++[.str f])))) (fun o=>R (sE o))→R (sP (Tn (k+1)) 60 nestD [.ref q,.ref w.c] [v,.str f] σ):=by
  intro R h;refine eq__857 (by rw[hA];rfl) (by rw[hF];rfl) ?_;rw[hA,hF];simp(decide:=true)only[evs,Out.bind_ok,Out.bind_exc,Out.bind_stuck,↓reduceIte,decide_true,decide_false,if_true,if_false,bR,c4,look,bQ,cJ,bS,dA,cA,dB,hB,hS,bZ,c5]at h;refine eq__33 (v:=.none) (σ':=σ.set q (.list (L++[.str f]))) (by nofun) ?_;exact h
 cases hc:(nms w.ss).contains f with
 |false=>
  refine .inl ⟨start (fun o=>o=_) ?_,fun h=>aC (hc.symm.trans (bF.mpr h))⟩;refine eq__23 (by nofun;all_goals((try simp_all_arith[ctl1,pT,tasks1,eq__21,eq__42,eq__74,show w.ss.map (·.name)=nms w.ss from rfl,hc]);try rfl)) ?_;refine eq__4 (eq__15 ?_);exact eq__49 (v:=v) (σ':=σ.set q (.list (L++[.str f]))) (by nofun) rfl
 |true=>
  have hs:(look f (rH w.b w.ss)).isSome=true:=by rw[eq__74];exact hc
  rcases bM.mp hs with⟨v',hv'⟩;(refine aM fun hG_=>?_;refine eq__17 (eq__841 hv') fun i s hi hn q1_=>?_;subst q1_;intros n4 X s Nat i;refine hG_ ?_;clear hG_);have inst1:=W1.inst hi;refine .inr ?_;refine cD (hop i) (fun ho=>?_) fun ho=>?_
  ·refine .inl (eq__39 i s hi hn ho (start (fun o=>o=_) ?_));rw[ho]at inst1;simp_arith[hB,hS,bZ,c5];refine eq__26 (by nofun) ?_;refine eq__12 (v:=.ref (w.b+5*i)) (by nofun) (by nofun) ?_;simp_arith[];refine eq__12 (v:=v) (σ':=(σ.set q (.list (L++[.str f]))).set (w.b+5*i) (.inst 223 (qB (w.b+5*i) s.name s.setup .dct0))) (by
    have e:=eq__855 k (v:=v) inst1;skip;(nofun;done)) (by nofun) ?_;refine eq__4 (eq__15 ?_);refine eq__49 (v:=v) (by nofun) ?_;rfl
  ·refine .inr (eq__39 i s hi hn ho (start (fun o=>o=_) ?_));rw[ho]at inst1;simp_arith[hB,hS,bZ,c5];refine eq__26 (by nofun) ?_;refine eq__12 (v:=.ref (w.b+5*i)) (by nofun) (by nofun) ?_;simp_arith[];refine eq__12 (v:=.none) (σ':=σ.set q (.list (L++[.str f]))) (by
    have e:=eq__856 k (v:=v) inst1;skip;(nofun;done)) (by nofun) ?_;refine eq__4 (eq__15 ?_);refine eq__49 (v:=.none) (by nofun) ?_;rfl
theorem Wrl.sameOp{w:Wp}(W:Wrl σ w):Wrl σ {w with op:=w.op}:=W
theorem eq__546(k:Nat){w:Wp}(W:Wrl σ w)(hm:w.m=w.ss.length){q:Nat}{L:List Val}(v:Val)(hq:w.c+3<q)(hL:σ[q]?=some (.list L))(ll:L.length<1000)(hop:∀i,w.op i=.none∨w.op i=.dct0):
  ∃r σ' op',sP (Tn (k+1)) 60 nestD [.ref q,.ref w.c] [v,.str f] σ=.ok r σ'∧Wrl σ' {w with op:=op'}∧σ'[q]?=some (.list (L++[.str f]))∧(∀j,w.c+3<j→j≠q→σ'[j]?=σ[j]?)∧(∀i,op' i=.none∨op' i=.dct0)∧
   (∀i s,w.ss[i]?=some s→s.name≠f→op' i=w.op i)∧((∀i s,w.ss[i]?=some s→s.name=f→w.op i=.none)→r=v):=by
 intros n6 X W X hm St σ Str f Nat k Wp w Nat q LV L Val v
 have W1:=W.other (k:=q) (d:=.list (L++[.str f])) hq
 have' bc:=W.bc
 rcases eq__858 k W hm (v:=v) (f:=f) hq hL ll hop with⟨e,hf⟩|⟨i,s,hi,hn,ho,e⟩|⟨i,s,hi,hn,ho,e⟩
 ·exact eq__34 v _ w.op ⟨e,W1,eq__44 hL,fun j _ hj=>by rw[aX (cW hj)],hop,fun _ _ _ _=>rfl,fun _=>rfl⟩
 ·have li:=eq__10 hi;refine eq__300 v _ (upd w.op i .dct0) e (W1.setOp .dct0 hi) (eq__5 (eq__44 hL) (by exact fun hN_=>eq__84 [_,_,_,_,_] 0 .ff 1 (.qe (.a Z0 (.m 5 Z1)) Z2) 1 (.lt (.a Z3 (.n 3)) Z2) 1 (.le (.a Z0 (.m 5 Z4)) Z3) 5 (.lt Z1 Z4) rfl hN_ hq bc li)) (fun j h1 hj=>by rw[aX (by exact fun hN_=>eq__84 [_,_,_,_,_] 0 .ff 1 (.qe (.a Z0 (.m 5 Z1)) Z2) 1 (.le (.a Z0 (.m 5 Z3)) Z4) 5 (.lt Z1 Z3) 1 (.lt (.a Z4 (.n 3)) Z2) rfl hN_ bc li h1),aX (cW hj)]) (fun j=>?_) (fun j s' hj hne=>?_) (fun _=>rfl)
  ·unfold upd;split;·exact .inr rfl
   ·exact hop j
  ·refine eq__280 fun h=>?_;clear li e ho;subst h;cases hj.symm.trans hi;exact hne hn
 ·exact eq__300 .none _ w.op e W1 (eq__44 hL) (fun j _ hj=>by rw[aX (cW hj)]) hop (fun _ _ _ _=>rfl) (fun h=>by rw[h i s hi hn]at ho;(injection ho))
theorem eq__547{α:Type}{test:Fr→St→Out St Bool}{body:Fr→St→Out SS Flo}(I:List α→Fr→St→Prop)
  (h0:∀fr σ,I [] fr σ→test fr σ=.ok false σ)(h1:∀x r fr σ,I (x::r) fr σ→test fr σ=.ok true σ∧qA (body fr σ) fun o=>∃fo fr' σ',o=.ok fo (fr',σ')∧fo.goes∧I r fr' σ'):
  ∀(xs:List α)(f:Nat)(fr:Fr)(σ:St),xs.length<f→I xs fr σ→∃fr' σ',qL test body f fr σ=.ok .next (fr',σ')∧I [] fr' σ'
 |[],0,_,_,h,_=>absurd h (by exact eq__52 [_] (.nlt Z0 (.n 0)) rfl)
 |[],f+1,fr,σ,_,hi=>(eq__28 fr σ (by rw[eq__214,h0 _ _ hi];rfl) hi)
 |x::r,0,_,_,h,_=>absurd h (by exact eq__52 [_] (.nlt Z0 (.n 0)) rfl)
 |x::r,f+1,fr,σ,h,hi=>by
  obtain⟨ht,fo,fr',σ',e,go,hi'⟩:=h1 x r fr σ hi;refine eq__31 (eq__547 I h0 h1 r f fr' σ' (by rw[aR]at h;exact eq__3 [_,_] (.lt Z0 Z1) (.lt (.a Z0 (.n 1)) (.a Z1 (.n 1))) rfl h) hi') fun fr₂ σ₂ e2 h2=>?_;refine eq__28 fr₂ σ₂ ?_ h2;refine(?_:(qL test body (f+1) fr σ=qL test body f fr' σ')→_) ?_;rotate_left;·
   rw[eq__214,ht];simp only[qD,Out.bind_ok,if_true,e];clear e;cases fo with
   |next=>rfl
   |cont=>rfl
   |ret v=>exact go.elim
  intro e3;refine a9 (e3) ?_;exact e2
theorem eq__859{Q:Out SS Flo→Prop}(I:List α→Fr→St→Prop)(xs:List α)(hl:xs.length<1000)(hi:I xs fr σ)(h0:∀fr σ,I [] fr σ→tst T n fr t σ=.ok false σ)(h1:∀x r fr σ,I (x::r) fr σ→tst T n fr t σ=.ok true σ∧qA (exs T n body fr σ) fun o=>∃fo fr' σ',o=.ok fo (fr',σ')∧fo.goes∧I r fr' σ')(k:∀fr' σ',I [] fr' σ'→qA (exs T (n+1) r fr' σ') Q):qA (exs T (n+2) (.While t body [] pos::r) fr σ) Q:=by
 refine eq__31 (eq__547 (test:=fun fr σ=>tst T n fr t σ) (body:=fun fr σ=>exs T n body fr σ) I h0 h1 xs qC fr σ hl hi) fun fr' σ' e h=>?_
 refine eq__129 (q:=(fr',σ')) ?_ (k fr' σ' h)
 exact e
theorem eq__860{Q:Out SS Flo→Prop}{bind:Str}{a:Arguments}{b:List Stmt}(hg:s9 fr (pF sc)=some vs)(hc:(name=bind∧fr.code=343∧rV a=true∧pD fr sc=true∧fr.frozen=[]∧fr.kind bind=some .local∧fr.fn=true∧s7 σ=true))(k:qA (exs T (n+1) r {fr.put bind (.clo ⟨a,b,sc⟩ vs)with frozen:=pF sc} (σ.set 0 (Cell.tab true))) Q):qA (exs T (n+2) (.FunctionDef name a b [] none [] sc none bind pos::r) fr σ) Q:=by
 refine eq__129 (q:=({fr.put bind (.clo ⟨a,b,sc⟩ vs)with frozen:=pF sc},σ.set 0 (Cell.tab true))) ?_ k
 have e:ex T (n+1) (.FunctionDef name a b [] none [] sc none bind pos) fr σ=(match s9 fr (pF sc)with
  |some vs=>if name=bind∧fr.code=343∧rV a=true∧pD fr sc=true∧fr.frozen=[]∧fr.kind bind=some .local∧fr.fn=true∧s7 σ=true then .ok .next ({fr.put bind (.clo ⟨a,b,sc⟩ vs)with frozen:=pF sc},σ.set 0 (Cell.tab true))else .stuck
  |none=>.stuck):=rfl
 rw[e,hg]
 exact if_pos hc
noncomputable def flt(ns:List Str)(xs:List Str):List Str:=xs.flatMap fun x=>if pM x then pU ns x else[x]
theorem eq__194(ns:List Str)(hn:ns.length≤8):∀xs:List Str,(flt ns xs).length≤xs.length*9
 |[]=>aN _
 |x::r=>by
  have' ih:=eq__194 ns hn r;unfold flt at*;rw[cM,aH,aR];refine(?_:((if pM x then pU ns x else[x]).length≤9)→_) ?_;rotate_left;·
   split;·have :=eq__132 ns x;exact eq__29 [_,_] (.le Z0 (.n 9)) (.le Z1 (.n 8)) (.le Z0 Z1) rfl hn this
   ·exact gF 1 8
  intro this;exact eq__29 [_,_,_] (.le (.a Z0 Z1) (.r (.a Z2 (.n 1)) 9)) (.le Z1 (.r Z2 9)) (.le Z0 (.n 9)) rfl ih this
theorem eq__548(ns:List Str)(x:Str)(r:List Str):flt ns (x::r)=(if pM x then pU ns x else[x])++flt ns r:=by skip;exact(cM)
theorem eq__861(k:Nat){w:Wp}(W:Wrl σ w)(O:∀s∈w.ss,SpecOk s)(few:w.ss.length≤8)(hm:w.m=w.ss.length)(hmo:w.mo=w.ss.length)(ht:w.t=false)(hop:∀i,w.op i=.none)(xl:xs.length<30)(xd:(xs.filter (!pM ·)).Nodup)(xm:xs.Pairwise fun x y=>pM x=true→pM y=true)(xp:∀x∈xs,pM x=true→x∈pats8):
  ∃r σ' op',callD (Tn (k+2)) 60 343 d344 [.ref w.c,.lst (xs.map .str)] σ=.ok (.ref r) σ'∧σ'[r]?=some (.list ((flt (nms w.ss) xs).map .str))∧Wrl σ' {w with op:=op',t:=true}∧σ.length≤r∧∀j,w.c+3<j→j<σ.length→σ'[j]?=σ[j]?:=by
 intros n11 X W X O X few X hm X hmo X ht X hop LS xs St σ Nat k Wp w
 have' hB:d344.body=d344.body:=rfl
 conv at hB=>rhs;whnf
 have' hS:d344.scope=d344.scope:=rfl
 conv at hS=>rhs;whnf
 have' hP:d344.pars=d344.pars:=rfl
 conv at hP=>rhs;whnf
 refine eq__40 (d:=d344) (R:=fun o=>∃r σ' op',o=.ok (.ref r) σ'∧σ'[r]?=some (.list ((flt (nms w.ss) xs).map .str))∧Wrl σ' {w with op:=op',t:=true}∧σ.length≤r∧∀j,w.c+3<j→j<σ.length→σ'[j]?=σ[j]?) (vs:=[.ref w.c,.lst (xs.map .str)]) (σ:=σ) (T:=Tn (k+2)) (n:=60) (code:=343) (by nofun) ?_
 have' hF:pF nestD.scope=[nOf "filter_list",nOf "self"]:=by kernel_rfl
 refine eq__12 (v:=.ref σ.length) (σ':=σ++[Cell.list []]) (by nofun) (by nofun) ?_
 have' W1:=W.app [Cell.list []]
 have' tb:=W1.tab
 rw[ht]at tb
 refine eq__860 (vs:=[.ref σ.length,.ref w.c]) (by kernel_rfl) (eq__295 rfl rfl (by decide) (by kernel_rfl) rfl (by nofun) rfl (by unfold s7;rw[tb])) ?_
 have' hN:nestD=nestD:=rfl
 have' W2:=W1.setTab true
 have ql:((σ++[Cell.list []]).set 0 (.tab true)).length=σ.length+1:=by rw[fZ,aH];rfl
 have cq:w.c+3<σ.length:=eq__50 W.order
 have' q1:((σ++[Cell.list []]).set 0 (.tab true))[σ.length]?=some (.list []):=eq__5 get_new (by exact fun hN_=>eq__38 [_,_] 0 .ff 1 (.qe (.n 0) Z0) 1 (.lt (.a Z1 (.n 3)) Z0) rfl hN_ cq)
 have' p0:∀j,w.c+3<j→j<σ.length→((σ++[Cell.list []]).set 0 (.tab true))[j]?=σ[j]?:=fun j h1 h2=>by rw[aX (by exact fun hN_=>eq__38 [_,_] 0 .ff 1 (.qe (.n 0) Z0) 1 (.lt (.a Z1 (.n 3)) Z0) rfl hN_ h1),bD h2]
 refine(?_:qA (exs (Tn (k+2)) 58 (d344.body.drop 2) {scope:=d344.scope,fn:=true,vars:=[(a5 "self",.ref w.c),(a5 "task_selection",.lst (xs.map .str)),(a5 "filter_list",.ref σ.length),(a5 "add_filtered_task",vP σ.length w.c)],frozen:=[a5 "filter_list",a5 "self"],code:=343} ((σ++[Cell.list []]).set 0 (.tab true))) _)
 generalize((σ++[Cell.list []]).set 0 (.tab true))=σ₂ at*
 generalize hq:σ.length=q at*
 have' xl':xs.length≤lim:=eq__6 (by exact eq__3 [_] (.le Z0 (.n 1000)) (.lt Z0 (.n 30)) rfl xl)
 have tk0:(xs.map Val.str).take xs.length=xs.map .str:=gW (by simp only[a7];exact aN _)
 refine eq__12 (v:=.ref (q+1)) (σ':=σ₂++[Cell.list (xs.map .str)]) (by nofun;all_goals((try simp_all_arith[eq__9,qS,tW,mT,mU,mL,b8,c5,a7,tk0,xl',ql,nH]);try rfl)) (by nofun) ?_
 have nl:(nms w.ss).length≤8:=by unfold nms;rw[a7];exact few
 refine eq__859 (α:=Str) (fun rest fr σ'=>∃V op' L,A15 (fr={scope:=d344.scope,fn:=true,vars:=V,frozen:=[a5 "filter_list",a5 "self"],code:=343}) (look (a5 "self") V=some (.ref w.c)) (look (a5 "filter_list") V=some (.ref q)) (look (a5 "seq") V=some (.ref (q+1))) (look (a5 "add_filtered_task") V=some (vP q w.c)) (Wrl σ' {w with op:=op',t:=true}) (σ'[q]?=some (.list (L.map .str))) (σ'[q+1]?=some (.list (rest.map .str))) (L++flt (nms w.ss) rest=flt (nms w.ss) xs) ((∀i,op' i=.none∨op' i=.dct0)) ((∀i s,w.ss[i]?=some s→s.name∈rest→pM s.name=false→op' i=.none)) ((rest.filter (!pM ·)).Nodup) ((rest.Pairwise fun x y=>pM x=true→pM y=true)) ((∀x∈rest,pM x=true→x∈pats8)) ((∀j,w.c+3<j→j<q→σ'[j]?=σ[j]?))) xs (by exact eq__3 [_] (.lt Z0 (.n 1000)) (.lt Z0 (.n 30)) rfl xl)
  (eq__34 _ w.op ([]) ⟨(by first|rfl|rw[hS]),rfl,rfl,rfl,rfl,W2.app _,get_app q1,by refine a9 (congrArg _ (bH (ql))) ?_;exact get_new,rfl,fun i=>.inl (hop i),fun i _ _ _ _=>hop i,xd,xm,xp,fun j h1 h2=>by rw[bD (by simp only[ql];exact eq__3 [_,_] (.lt Z0 (.a Z1 (.n 1))) (.lt Z0 Z1) rfl h2)];exact p0 j h1 h2⟩) ?_ ?_ ?_
 ·(intro fr σ' hp1_;obtain⟨V,op',L,rfl,v1,v2,v3,v4,W',c1,c2,_⟩:=hp1_);(nofun;done)
 ·(intro x r fr σ' hp1_;obtain⟨V,op',L,rfl,v1,v2,v3,v4,W',c1,c2,hf,ho,hno,nd,pw,pp,pr⟩:=hp1_);refine⟨by nofun,?_⟩;have W3:=W'.other (k:=q+1) (d:=.list (r.map .str)) (by refine(?_:w.c+3<_);exact eq__3 [_,_] (.lt (.a Z0 (.n 3)) (.a Z1 (.n 1))) (.lt (.a Z0 (.n 3)) Z1) rfl cq);have' c1':(σ'.set (q+1) (.list (r.map .str)))[q]?=some (.list (L.map .str)):=eq__5 c1 (by exact fun hN_=>eq__32 [_] 0 .ff 1 (.eq (.a Z0 (.n 1)) Z0) rfl hN_);have' c2':(σ'.set (q+1) (.list (r.map .str)))[q+1]?=some (.list (r.map .str)):=eq__44 c2;refine eq__12 (v:=.str x) (σ':=σ'.set (q+1) (.list (r.map .str))) (by nofun) (by nofun) ?_;have pr3:∀j,w.c+3<j→j<q→(σ'.set (q+1) (.list (r.map .str)))[j]?=σ[j]?:=fun j h1 h2=>by refine a9 (aX (by exact fun hN_=>eq__38 [_,_] 0 .ff 1 (.eq (.a Z0 (.n 1)) Z1) 1 (.lt Z1 Z0) rfl hN_ h2)) ?_;exact pr j h1 h2
  generalize σ'.set (q+1) (.list (r.map .str))=σ₃ at*;have' fl:=eq__194 (nms w.ss) nl xs;rw[←hf,aH]at fl;cases hst:pM x with
  |true=>
   have' hx8:=pp x (aO ..) hst;have hst':(!(aI x (a5 "*") 0 x.length 1).isEmpty)=true:=hst;rw[eq__548,hst,if_pos rfl]at hf fl;rw[aH]at fl;have lk:=eq__132 (nms w.ss) x;have W3:Wrl σ₃ {w with op:=op',t:=true}:=W3;have ctl:=W3.ctl;have order:σ₃[w.c+3]?=some (.list ((nms w.ss).map .str)):=by have :=W3.order;dsimp only at this;rw[hmo,b8]at this;exact this
   have e:=eq__537 k (s:=w.c) (d:=w.c+3) (xs:=nms w.ss) (p:=x) ctl rfl order (fun y hy=>by
     (refine eq__1 (cQ.mp hy) fun s' h1 q1_=>?_;subst q1_);exact(O s' h1).name) (by exact eq__3 [_] (.lt Z0 (.n 1000)) (.le Z0 (.n 8)) rfl nl) hx8;have q2:q+1<σ₃.length:=eq__50 c2';have allst:∀y∈r,pM y=true:=fun y hy=>(iL.mp pw).1 y hy hst;refine eq__26 (σ':=σ₃) (by nofun) ?_;refine eq__57 (sr:=.val (.ref σ₃.length)) (σ':=σ₃++[Cell.list ((pU (nms w.ss) x).map .str)]) (by
    nofun) rfl ((pU (nms w.ss) x).map .str)
    (fun i fr σ'=>∃V op',A11 (fr={scope:=d344.scope,fn:=true,vars:=V,frozen:=[a5 "filter_list",a5 "self"],code:=343}) (look (a5 "self") V=some (.ref w.c)) (look (a5 "filter_list") V=some (.ref q)) (look (a5 "seq") V=some (.ref (q+1))) (look (a5 "add_filtered_task") V=some (vP q w.c)) (Wrl σ' {w with op:=op',t:=true}) (σ'[q]?=some (.list ((L++(pU (nms w.ss) x).take i).map .str))) (σ'[q+1]?=some (.list (r.map .str))) (σ'[σ₃.length]?=some (.list ((pU (nms w.ss) x).map .str))) ((∀i,op' i=.none∨op' i=.dct0)) ((∀j,w.c+3<j→j<q→σ'[j]?=σ[j]?)))
    (by rw[a7];exact eq__29 [_,_] (.lt Z0 (.n 1000)) (.le Z1 (.n 8)) (.le Z0 Z1) rfl nl lk) (eq__54 _ op' ⟨(by first|rfl|rw[hS]),(by nofun),(by nofun),(by nofun),(by nofun),W3.app _,by rw[f7,dG];exact get_app c1',get_app c2',get_new,ho,fun j h1 h2=>by refine a9 (bD (by exact eq__29 [_,_,_] (.lt Z0 Z1) (.lt (.a Z2 (.n 1)) Z1) (.lt Z0 Z2) rfl q2 h2)) ?_;exact pr3 j h1 h2⟩) ?_ ?_ ?_;·(intro i fr σ' hp1_;obtain⟨V,op',rfl,v1,v2,v3,v4,W',c1,c2,c3,_⟩:=hp1_);simp only[eq__9,c3,aD]
   ·(intro i v fr σ' hp1_;obtain⟨V,op',rfl,v1,v2,v3,v4,W',c1,c2,c3,ho,pr⟩:=hp1_;intro hv);(refine eq__1 (eq__65 hv) fun y hy q1_=>?_;subst q1_);have lt:((pU (nms w.ss) x).take i).length≤(pU (nms w.ss) x).length:=by rw[bP];omega
    refine eq__299 (eq__546 k W' hm (q:=q) (f:=y) (.tup []) (by refine(?_:w.c+3<q);exact cq) c1 (by rw[a7,aH];exact eq__16 [_,_,_,_,_] 1 (.lt (.a Z0 Z1) (.n 1000)) 9 (.lt Z2 (.n 30)) 1 (.le (.a Z0 (.a Z3 Z4)) (.r Z2 9)) 1 (.le Z1 Z3) rfl xl fl lt) ho) fun r' σ'' op'' e W'' d1 d2 d3 _ _=>?_;refine eq__2 ({scope:=d344.scope,fn:=true,vars:=setV (a5 "task_name") (.str y) V,frozen:=[a5 "filter_list",a5 "self"],code:=343}) (by nofun) ?_;refine eq__33 (v:=r') (σ':=σ'') (by
     nofun) ?_;refine eq__4 (eq__62 .next _ _ rfl trivial (eq__54 _ op'' ⟨(by first|rfl|rw[hS]),(by nofun),(by nofun),(by nofun),(by nofun),W'',?_,?_,?_,d3,fun j h1 h2=>by refine a9 (d2 _ h1 (by exact fun hN_=>eq__38 [_,_] 0 .ff 1 (.qe Z0 Z1) 1 (.lt Z0 Z1) rfl hN_ h2)) ?_;exact pr j h1 h2⟩));·rw[d1,eq__37 hy,←bK,aY (l₁:=L++_)];rfl
    ·refine a9 (d2 _ (by refine(?_:w.c+3<_);exact eq__3 [_,_] (.lt (.a Z0 (.n 3)) (.a Z1 (.n 1))) (.lt (.a Z0 (.n 3)) Z1) rfl cq) (by exact fun hN_=>eq__32 [_] 0 .ff 1 (.eq (.a Z0 (.n 1)) Z0) rfl hN_)) ?_;exact c2
    ·refine a9 (d2 _ (by refine(?_:w.c+3<_);exact eq__29 [_,_,_] (.lt (.a Z0 (.n 3)) Z1) (.lt (.a Z0 (.n 3)) Z2) (.lt (.a Z2 (.n 1)) Z1) rfl cq q2) (by exact fun hN_=>eq__38 [_,_] 0 .ff 1 (.eq Z0 Z1) 1 (.lt (.a Z1 (.n 1)) Z0) rfl hN_ q2)) ?_;exact c3
   ·(intro fr' σ' hp1_;obtain⟨V,op',rfl,v1,v2,v3,v4,W',c1,c2,c3,ho,pr⟩:=hp1_);rw[a7,b8]at c1;refine eq__4 (eq__15 (eq__4 (eq__62 .next _ _ rfl trivial (eq__34 _ op' (L++pU (nms w.ss) x) ⟨(by first|rfl|rw[hS]),v1,v2,v3,v4,W',c1,c2,by rw[bK];exact hf,ho,?_,?_,(iL.mp pw).2,fun y hy=>pp y (aU _ hy),pr⟩))))
    ·intro i s _ hin hs;rw[allst _ hin]at hs;(injection hs)
    ·rw[cB]at nd;split at nd;·exact(eP.mp nd).2
     ·exact nd
  |false=>
   have' hst':(!(aI x (a5 "*") 0 x.length 1).isEmpty)=false:=hst;rw[eq__548,hst,if_neg aC]at hf;have W3:Wrl σ₃ {w with op:=op',t:=true}:=W3;rw[cB,hst,f8,if_pos rfl,eP]at nd;refine eq__299 (eq__546 k W3 hm (q:=q) (f:=x) (.ref (q+1)) (by refine(?_:w.c+3<q);exact cq) c1' (by rw[a7];exact eq__38 [_,_,_] 1 (.lt Z0 (.n 1000)) 9 (.lt Z1 (.n 30)) 1 (.le (.a Z0 Z2) (.r Z1 9)) rfl xl fl) ho) fun r' σ'' op'' e W'' d1 d2 d3 d4 d5=>?_;have hr:r'=.ref (q+1):=d5 fun i s hi hn=>hno i s hi (by simp only[hn];exact aO ..) (by refine a9 (congrArg _ (hn)) ?_;exact hst);subst hr;refine eq__23 (σ':=σ₃) (by nofun) ?_;refine eq__12 (v:=.ref (q+1)) (σ':=σ'') (by
     nofun) (by nofun) ?_;refine eq__4 (eq__15 (eq__4 (eq__62 .next _ _ rfl trivial (eq__34 _ op'' (L++[x]) ⟨(by first|rfl|rw[hS]),(by nofun),(by nofun),(by nofun),(by nofun),W'',?_,?_,by rw[bK];exact hf,d3,?_,nd.2,(iL.mp pw).2,fun y hy=>pp y (aU _ hy),fun j h1 h2=>by refine a9 (d2 _ h1 (by exact fun hN_=>eq__38 [_,_] 0 .ff 1 (.qe Z0 Z1) 1 (.lt Z0 Z1) rfl hN_ h2)) ?_;exact pr3 j h1 h2⟩))));·rw[d1,aY];rfl
   ·refine a9 (d2 _ (by refine(?_:w.c+3<_);exact eq__3 [_,_] (.lt (.a Z0 (.n 3)) (.a Z1 (.n 1))) (.lt (.a Z0 (.n 3)) Z1) rfl cq) (by exact fun hN_=>eq__32 [_] 0 .ff 1 (.eq (.a Z0 (.n 1)) Z0) rfl hN_)) ?_;exact c2'
   ·intro i s hi hin hs;rw[d4 i s hi (fun h=>by
     clear d5 e d4 d1 hst' hst fl pp pw hno hf c2;subst h;exact nd.1 (bU.mpr ⟨hin,by refine a9 (congrArg _ (hs)) ?_;rfl⟩))];exact hno i s hi (aU _ hin) hs
 ·(intro fr σ' hp1_;obtain⟨V,op',L,rfl,v1,v2,v3,v4,W',c1,c2,hf,ho,hno,_,_,_,pr⟩:=hp1_);refine eq__49 (v:=.ref q) (σ':=σ') (by nofun) (eq__201 q σ' op' rfl ?_ W' (aN _) pr);rw[←hf];unfold flt;rw[List.flatMap_nil,dG];exact c1
noncomputable def pC(ns:List Str)(tg:List (Str×Str))(f:Str):Option Str:=if ns.contains f then some f else look f tg
def TellR(ns:List Str)(tg:List (Str×Str))(F:List Str)(f:Str):Prop:=∃i,F[i]?=some f∧pC ns tg f=none∧∀g∈F.take i,(pC ns tg g).isSome=true
noncomputable def tU(f:Str):Cell:=.exn 39 [(a5 "not_found",.str f)]
variable{tg:List (Str×Str)}
theorem eq__284{ns:List Str}(h:ns.contains f=true):pC ns tg f=some f:=if_pos h
theorem eq__549{ns:List Str}(h:ns.contains f=false):pC ns tg f=look f tg:=if_neg (by exact(h)▸aC)
theorem eq__862(k:Nat){w:Wp}(W:Wrl σ w)(O:∀s∈w.ss,SpecOk s)(few:w.ss.length≤8)(hm:w.m=w.ss.length)(hmo:w.mo=w.ss.length)(ht:w.t=false)(hop:∀i,w.op i=.none)(xl:xs.length<30)(xd:(xs.filter (!pM ·)).Nodup)(xm:xs.Pairwise fun x y=>pM x=true→pM y=true)(xp:∀x∈xs,pM x=true→x∈pats8):
  (∃r σ' op',callD (Tn (k+3)) 60 0 d351 [.ref w.c,.lst (xs.map .str)] σ=.ok (.ref r) σ'∧(∀f∈flt (nms w.ss) xs,(pC (nms w.ss) w.tg f).isSome=true)∧σ'[r]?=some (.list (((flt (nms w.ss) xs).filterMap (pC (nms w.ss) w.tg)).map .str))∧Wrl σ' {w with op:=op',t:=true}∧w.c+3<r∧(∀j,w.c+3<j→j<σ.length→σ'[j]?=σ[j]?))∨
  (∃f k' σ' op',callD (Tn (k+3)) 60 0 d351 [.ref w.c,.lst (xs.map .str)] σ=.exc k' σ'∧TellR (nms w.ss) w.tg (flt (nms w.ss) xs) f∧σ'[k']?=some (tU f)∧Wrl σ' {w with op:=op',t:=true}∧(∀j,w.c+3<j→j<σ.length→σ'[j]?=σ[j]?)):=by
 intros n11 X W X O X few X hm X hmo X ht X hop LS xs St σ Nat k Wp w
 have' hB:d351.body=d351.body:=rfl
 conv at hB=>rhs;whnf
 have' hS:d351.scope=d351.scope:=rfl
 conv at hS=>rhs;whnf
 have' hP:d351.pars=d351.pars:=rfl
 conv at hP=>rhs;whnf
 refine eq__40 (d:=d351) (vs:=[.ref w.c,.lst (xs.map .str)]) (σ:=σ) (T:=Tn (k+3)) (n:=60) (code:=0)
  (R:=fun o=>(∃r σ' op',o=.ok (.ref r) σ'∧(∀f∈flt (nms w.ss) xs,(pC (nms w.ss) w.tg f).isSome=true)∧σ'[r]?=some (.list (((flt (nms w.ss) xs).filterMap (pC (nms w.ss) w.tg)).map .str))∧Wrl σ' {w with op:=op',t:=true}∧w.c+3<r∧(∀j,w.c+3<j→j<σ.length→σ'[j]?=σ[j]?))∨
   (∃f k' σ' op',o=.exc k' σ'∧TellR (nms w.ss) w.tg (flt (nms w.ss) xs) f∧σ'[k']?=some (tU f)∧Wrl σ' {w with op:=op',t:=true}∧(∀j,w.c+3<j→j<σ.length→σ'[j]?=σ[j]?))) (by nofun) ?_
 simp_arith[hP,hB,hS,aG,aQ,bJ,bT]
 have cq:w.c+3<σ.length:=eq__50 W.order
 have' W1:=W.app [Cell.list []]
 have' ctl1:=W1.ctl
 refine eq__12 (v:=.ref σ.length) (σ':=σ++[Cell.list []]) (by nofun) (by nofun) ?_
 (refine aM fun hG_=>?_;refine eq__163 (eq__861 k W1 O few hm hmo ht hop xl xd xm xp) fun r σ₂ op' e c1 W2 cr pr=>?_;intros n7 X σ₂ X op' Nat r;refine hG_ ?_;clear hG_)
 have cs:σ₂[σ.length]?=some (.list []):=by rw[pr _ cq (by simp only[aH];exact cU _)];exact get_new
 have pr0:∀j,w.c+3<j→j<σ.length→σ₂[j]?=σ[j]?:=fun j h1 h2=>by rw[pr j h1 (by simp only[aH];exact eq__3 [_,_,_] (.lt Z0 (.a Z1 Z2)) (.lt Z0 Z1) rfl h2),bD h2]
 have rs:r≠σ.length:=fun h=>by
  rw[aH]at cr;simp at cr;exact eq__38 [_,_] 0 .ff 1 (.eq Z0 Z1) 1 (.le (.a Z1 (.n 1)) Z0) rfl h cr
 refine eq__12 (v:=.ref r) (σ':=σ₂) (by nofun) (by nofun) ?_
 have nl:(nms w.ss).length≤8:=by unfold nms;rw[a7];exact few
 have' fl:=eq__194 (nms w.ss) nl xs
 generalize hF:flt (nms w.ss) xs=F at*
 generalize hqq:σ.length=q at*
 refine eq__81 (sr:=.val (.ref r)) (σ':=σ₂) (by nofun) rfl (F.map .str)
  (fun i fr σ'=>∃V,A9 (fr={scope:=d351.scope,fn:=true,vars:=V,code:=0}) (look (a5 "self") V=some (.ref w.c)) (look (a5 "selected_task") V=some (.ref q)) (look (a5 "InvalidCommand") V=none) (Wrl σ' {w with op:=op',t:=true}) (σ'[r]?=some (.list (F.map .str))) ((∀f∈F.take i,(pC (nms w.ss) w.tg f).isSome=true)) (σ'[q]?=some (.list (((F.take i).filterMap (pC (nms w.ss) w.tg)).map .str))) ((∀j,w.c+3<j→j<q→σ'[j]?=σ[j]?)))
  (fun o=>∃f k' fr σ',A5 (o=.exc k' (fr,σ')) (TellR (nms w.ss) w.tg F f) (σ'[k']?=some (tU f)) (Wrl σ' {w with op:=op',t:=true}) ((∀j,w.c+3<j→j<q→σ'[j]?=σ[j]?)))
  (by rw[a7];exact eq__38 [_,_] 1 (.lt Z0 (.n 1000)) 9 (.lt Z1 (.n 30)) 1 (.le Z0 (.r Z1 9)) rfl xl fl) ⟨_,(by first|rfl|rw[hS]),rfl,rfl,rfl,W2,c1,fun f h=>absurd h (by simp),cs,pr0⟩ ?_ ?_ ?_ ?_
 ·(intro i fr σ' hp1_;obtain⟨V,rfl,v1,v2,v3,W',c1,_⟩:=hp1_);simp only[eq__9,c1,aD]
 ·(intro i v fr σ' hp1_;obtain⟨V,rfl,v1,v2,v3,W',c1,hs,c2,pr⟩:=hp1_;intro hv);(refine eq__1 (eq__65 hv) fun f hf q1_=>?_;subst q1_);have' ctl:σ'[w.c]?=some (.inst 368 (pT w.c w.sel)):=W'.ctl;have' targs:σ'[w.c+2]?=some (.dict (tC w.tg) w.tg.length):=W'.targs;have tasks:σ'[w.c+1]?=some (.dict (rH w.b w.ss) w.m):=by have :=W'.tasks;dsimp only at this;rw[hm,b8]at this;rw[hm];exact this
  have ll:((F.take i).filterMap (pC (nms w.ss) w.tg)).length<lim:=by
   have' h1:=jK (pC (nms w.ss) w.tg) (F.take i);have h2:(F.take i).length≤F.length:=by rw[bP];omega
   have :lim=1000000:=rfl;exact eq__579 [_,_,_,_,_] 1 (.lt Z0 Z1) 9 (.lt Z2 (.n 30)) 1 (.le Z3 (.r Z2 9)) 1 (.le Z0 Z4) 1 (.le Z4 Z3) 1 (.qe Z1 (.n 1000000)) rfl xl fl h1 h2 this
  have add:∀t,pC (nms w.ss) w.tg f=some t→Wrl (σ'.set q (.list ((((F.take i).filterMap (pC (nms w.ss) w.tg)).map .str)++[.str t]))) {w with op:=op',t:=true}∧(σ'.set q (.list ((((F.take i).filterMap (pC (nms w.ss) w.tg)).map .str)++[.str t])))[r]?=some (.list (F.map .str))∧(∀f∈F.take (i+1),(pC (nms w.ss) w.tg f).isSome=true)∧(σ'.set q (.list ((((F.take i).filterMap (pC (nms w.ss) w.tg)).map .str)++[.str t])))[q]?=some (.list (((F.take (i+1)).filterMap (pC (nms w.ss) w.tg)).map .str)):=by
   intro t ht;refine eq__83 (W'.other (by refine(?_:w.c+3<q);exact cq)) (eq__5 c1 (cW rs)) (fun g hg=>?_) ?_
   ·rw[eq__37 hf,bW,aA]at hg;rcases hg with hg|rfl;·exact hs g hg
    ·refine a9 (congrArg _ (ht)) ?_;rfl
   ·rw[eq__44 c2,eq__37 hf,i1,aY];simp[ht]
  refine eq__2 ({scope:=d351.scope,fn:=true,vars:=setV (a5 "filter_") (.str f) V,code:=0}) (by nofun) ?_;cases hc:(nms w.ss).contains f with
  |true=>
   refine eq__292 (add f (eq__284 hc)) fun a1 a2 a3 a4=>?_;refine eq__26 (σ':=σ') (by nofun;all_goals((try simp_all_arith[hS,eq__8,v1,v2,ctl,pT,tasks,eq__42,eq__21,eq__74,show w.ss.map (·.name)=nms w.ss from rfl,hc]);try rfl)) ?_;refine eq__33 (v:=.none) (σ':=σ'.set q (.list ((((F.take i).filterMap (pC (nms w.ss) w.tg)).map .str)++[.str f]))) (by nofun) ?_;exact eq__440 (.inl (eq__34 .cont _ _ ⟨rfl,trivial,_,(by first|rfl|rw[hS]),(by nofun),(by nofun),(by nofun),a1,a2,a3,a4,fun j h1 h2=>by refine a9 (aX (by omega)) ?_;exact pr j h1 h2⟩))
  |false=>
   refine eq__23 (σ':=σ') (by nofun;all_goals((try simp_all_arith[hS,eq__8,v1,v2,ctl,pT,tasks,eq__42,eq__21,eq__74,show w.ss.map (·.name)=nms w.ss from rfl,hc]);try rfl)) ?_;refine eq__4 (eq__15 ?_);have' so:=eq__549 (tg:=w.tg) hc;cases hl:look f w.tg with
   |some t=>
    rw[hl]at so;have gl:look f (tC w.tg)=some (.str t):=by rw[eq__131,hl];rfl
    obtain⟨a1,a2,a3,a4⟩:_:=add t so;refine eq__26 (σ':=σ') (by nofun;all_goals((try simp_all_arith[hS,eq__8,v1,v2,ctl,pT,targs,eq__42,eq__21,gl,aZ]);try rfl)) ?_;refine eq__33 (v:=.none) (σ':=σ'.set q (.list ((((F.take i).filterMap (pC (nms w.ss) w.tg)).map .str)++[.str t]))) (by nofun) ?_;exact eq__440 (.inl (eq__34 .cont _ _ ⟨rfl,trivial,_,(by first|rfl|rw[hS]),(by nofun),(by nofun),(by nofun),a1,a2,a3,a4,fun j h1 h2=>by refine a9 (aX (by omega)) ?_;exact pr j h1 h2⟩))
   |none=>
    replace so:=(hl)▸so;have gl:look f (tC w.tg)=none:=by rw[eq__131,hl];rfl
    refine eq__23 (σ':=σ') (by nofun;all_goals((try simp_all_arith[hS,eq__8,v1,v2,ctl,pT,targs,eq__42,eq__21,gl,eQ]);try rfl)) ?_;refine eq__4 (eq__15 ?_);exact eq__130 (own:=some (a5 "not_found")) (v:=.str f) (fs:=[(a5 "not_found",.str f)]) (σ':=σ') (by nofun) (by nofun) rfl (by nofun) rfl (.inr (eq__51 trivial (eq__67 f _ _ _ ⟨rfl,⟨i,hf,so,hs⟩,get_new,W'.app _,fun j h1 h2=>by refine a9 (bD (by have :=eq__50 c2;exact eq__29 [_,_,_] (.lt Z0 Z1) (.lt Z0 Z2) (.lt Z2 Z1) rfl h2 this)) ?_;exact pr j h1 h2⟩)))
 ·(intro fr σ' hp1_;obtain⟨V,rfl,v1,v2,v3,W',c1,hs,c2,pr⟩:=hp1_);rw[a7,b8]at hs c2;exact eq__49 (v:=.ref q) (σ':=σ') (by nofun) (.inl (eq__298 q σ' op' rfl hs c2 W' cq pr))
 ·(intro o lv hp1_;clear lv;(refine eq__301 hp1_ fun f k' fr σ' q1_=>?_;rcases q1_ with⟨rfl,h1,h2,h3,h4⟩));exact .inr (eq__304 f k' σ' op' rfl h1 h2 h3 h4)
section
variable{e:Ag}{x:Str}{Q:Out SS Flo→Prop}
theorem eq__863{a:Str}(h:ev T n fr e σ=.exc k' σ')(k:Q (.exc k' (fr,σ'))):qA (exs T (n+2) (.Assign [.Attribute o a p] e pos::r) fr σ) Q:=
 eq__73 (eq__154 (eq__245 h)) k
theorem eq__864(h:ev T n fr e σ=.exc k' σ')(k:Q (.exc k' (fr,σ'))):qA (exs T (n+2) (.Assign [.Name x p] e pos::r) fr σ) Q:=
 eq__73 (eq__154 (eq__245 h)) k
theorem eq__550(h:ev T n fr e σ=.exc k' σ')(k:Q (.exc k' (fr,σ'))):qA (exs T (n+2) (.Return (some e) pos::r) fr σ) Q:=
 eq__73 (eq__154 (eq__245 h)) k
end
theorem eq__865(k:Nat){w:Wp}(W:Wrl σ w)(O:∀s∈w.ss,SpecOk s)(few:w.ss.length≤8)(hm:w.m=w.ss.length)(hmo:w.mo=w.ss.length)(ht:w.t=false)(hop:∀i,w.op i=.none)(xl:xs.length<30)(xd:(xs.filter (!pM ·)).Nodup)(xm:xs.Pairwise fun x y=>pM x=true→pM y=true)(xp:∀x∈xs,pM x=true→x∈pats8):
  (∃r σ' op',callD (Tn (k+4)) 60 0 d358 [.ref w.c,.lst (xs.map .str)] σ=.ok .none σ'∧(∀f∈flt (nms w.ss) xs,(pC (nms w.ss) w.tg f).isSome=true)∧σ'[r]?=some (.list (((flt (nms w.ss) xs).filterMap (pC (nms w.ss) w.tg)).map .str))∧Wrl σ' {w with op:=op',t:=true,sel:=.ref r}∧(∀j,w.c+3<j→j<σ.length→σ'[j]?=σ[j]?))∨
  (∃f k' σ' op',callD (Tn (k+4)) 60 0 d358 [.ref w.c,.lst (xs.map .str)] σ=.exc k' σ'∧TellR (nms w.ss) w.tg (flt (nms w.ss) xs) f∧σ'[k']?=some (tU f)∧Wrl σ' {w with op:=op',t:=true}∧(∀j,w.c+3<j→j<σ.length→σ'[j]?=σ[j]?)):=by
 intros n11 X W X O X few X hm X hmo X ht X hop LS xs St σ Nat k Wp w
 have' hB:d358.body=d358.body:=rfl
 conv at hB=>rhs;whnf
 have' hS:d358.scope=d358.scope:=rfl
 conv at hS=>rhs;whnf
 have' hP:d358.pars=d358.pars:=rfl
 conv at hP=>rhs;whnf
 refine eq__40 (d:=d358) (vs:=[.ref w.c,.lst (xs.map .str)]) (σ:=σ) (T:=Tn (k+4)) (n:=60) (code:=0)
  (R:=fun o=>(∃r σ' op',o=.ok .none σ'∧(∀f∈flt (nms w.ss) xs,(pC (nms w.ss) w.tg f).isSome=true)∧σ'[r]?=some (.list (((flt (nms w.ss) xs).filterMap (pC (nms w.ss) w.tg)).map .str))∧Wrl σ' {w with op:=op',t:=true,sel:=.ref r}∧(∀j,w.c+3<j→j<σ.length→σ'[j]?=σ[j]?))∨
   (∃f k' σ' op',o=.exc k' σ'∧TellR (nms w.ss) w.tg (flt (nms w.ss) xs) f∧σ'[k']?=some (tU f)∧Wrl σ' {w with op:=op',t:=true}∧(∀j,w.c+3<j→j<σ.length→σ'[j]?=σ[j]?))) (by nofun) ?_
 simp_arith[hP,hB,hS,aG,aQ,bJ,bT]
 have' ctl:=W.ctl
 refine eq__26 (σ':=σ) (by nofun) ?_
 rcases eq__862 k W O few hm hmo ht hop xl xd xm xp with⟨r,σ',op',e,h1,h2,W',cr,pr⟩|⟨f,k',σ',op',e,h1,h2,W',pr⟩
 ·have' ctl':σ'[w.c]?=some (.inst 368 (pT w.c w.sel)):=W'.ctl;refine eq__36 (v:=.ref r) (σ':=σ') (k':=w.c) (σ₂:=σ') (σ₃:=σ'.set w.c (.inst 368 (pT w.c (.ref r)))) (by nofun) (by nofun) (by nofun) ?_;refine eq__4 (eq__15 (eq__4 (.inl (eq__201 r _ op' rfl h1 ?_ (W'.setSel (.ref r)) (fun j h1 h2=>by refine a9 (aX (by exact fun hN_=>eq__38 [_,_] 0 .ff 1 (.qe Z0 Z1) 1 (.lt (.a Z0 (.n 3)) Z1) rfl hN_ h1)) ?_;exact pr j h1 h2)))));refine a9 (aX (by exact fun hN_=>eq__38 [_,_] 0 .ff 1 (.qe Z0 Z1) 1 (.lt (.a Z0 (.n 3)) Z1) rfl hN_ cr)) ?_;exact h2
 ·exact eq__863 (k':=k') (σ':=σ') (by nofun) (.inr (eq__304 f k' σ' op' rfl h1 h2 W' pr))
theorem eq__866(k:Nat){w:Wp}(W:Wrl σ w):callD (Tn k) 60 0 d358 [.ref w.c,.none] σ=.ok .none (σ.set w.c (.inst 368 (pT w.c (.ref (w.c+3)))))∧Wrl (σ.set w.c (.inst 368 (pT w.c (.ref (w.c+3))))) {w with sel:=.ref (w.c+3)}:=by
 refine⟨?_,W.setSel _⟩
 have' hB:d358.body=d358.body:=rfl
 conv at hB=>rhs;whnf
 have' hS:d358.scope=d358.scope:=rfl
 conv at hS=>rhs;whnf
 have' hP:d358.pars=d358.pars:=rfl
 conv at hP=>rhs;whnf
 refine eq__40 (R:=fun o=>o=_) (by nofun) ?_
 have' ctl:=W.ctl
 refine eq__23 (σ':=σ) (by nofun) ?_
 refine eq__36 (v:=.ref (w.c+3)) (σ':=σ) (k':=w.c) (σ₂:=σ) (σ₃:=σ.set w.c (.inst 368 (pT w.c (.ref (w.c+3))))) (by nofun) (by nofun) (by nofun) ?_
 exact eq__4 (eq__15 (eq__4 rfl))
theorem eq__285{body:Val→Fr→List Val→St→Out St (List Val×Fr)}(J:Fr→Prop)(xs:List α)(F:α→Val)(g:α→List Val)(hn:∀i,pG σ sr i=some ((xs[i]?).map F))(step:∀v∈xs,∀fr acc,J fr→acc.length<1000→∃fr',body (F v) fr acc σ=.ok (acc++g v,fr') σ∧J fr')(hg:∀v∈xs,(g v).length≤1):
  ∀(k i:Nat)(f:Nat)(fr:Fr)(acc:List Val),i+k=xs.length→k<f→acc.length+k≤1000→J fr→∃fr',rG sr body f i fr acc σ=.ok (acc++(xs.drop i).flatMap g,fr') σ∧J fr':=by
 intro k
 induction k with
 |zero=>
  intro i f fr acc hi hf ha h;cases f with
  |zero=>omega
  |succ f=>
   have hi:i=xs.length:=by omega
   subst hi;refine eq__2 fr ?_ h;rw[eq__142];rw[hn,cE (aN _)];simp
 |succ k ih=>
  intro i f fr acc hi hf ha h;cases f with
  |zero=>omega
  |succ f=>
   have lt:i<xs.length:=by exact eq__3 [_,_,_] (.lt Z0 Z1) (.eq (.a Z0 (.a Z2 (.n 1))) Z1) rfl hi
   refine eq__1 (step xs[i] (fP lt) fr acc h (by exact eq__3 [_,_] (.lt Z0 (.n 1000)) (.le (.a Z0 (.a Z1 (.n 1))) (.n 1000)) rfl ha)) fun fr' e h'=>?_;refine eq__1 (ih (i+1) f fr' (acc++g xs[i]) (by exact cS (eq__3 [_,_,_] (.le (.a (.a Z0 (.n 1)) Z1) Z2) (.eq (.a Z0 (.a Z1 (.n 1))) Z2) rfl hi) (eq__3 [_,_,_] (.le Z0 (.a (.a Z1 (.n 1)) Z2)) (.qe (.a Z1 (.a Z2 (.n 1))) Z0) rfl hi)) (by exact eq__3 [_,_] (.lt Z0 Z1) (.lt (.a Z0 (.n 1)) (.a Z1 (.n 1))) rfl hf) (by rw[aH];have :=hg xs[i] (fP lt);exact eq__29 [_,_,_] (.le (.a (.a Z0 Z1) Z2) (.n 1000)) (.le (.a Z0 (.a Z2 (.n 1))) (.n 1000)) (.le Z1 (.n 1)) rfl ha this) h') fun fr₂ e2 h2=>?_;refine eq__2 fr₂ ?_ h2;rw[eq__142];rw[hn,aW lt,aD];simp only[e,Out.bind_ok];rw[e2,gE lt,cM,bK]
theorem eq__867{it:Ag}(K:List (Str×Val)→Prop)(xs:List α)(F:α→Val)(g:α→List Val)(hk:K cfr.vars)(hl:xs.length<1000)(ht:qG sr target=true)(hn:∀i,pG σ sr i=some ((xs[i]?).map F))(hg:∀v∈xs,(g v).length≤1)(step:∀v∈xs,∀V,K V→∃V',rF target (F v) {cfr with vars:=V}=some {cfr with vars:=V'}∧K V'∧∃b,rI (tst T n) {cfr with vars:=V'} ifs σ=.ok b σ∧
   (b=true→∃y,ev T n {cfr with vars:=V'} elt σ=.ok y σ∧g v=[y])∧(b=false→g v=[])):
  ∃fr',q8 (ev T n) (tst T n) (src T n) elt [⟨target,it,ifs,0⟩] sr cfr [] σ=.ok (xs.flatMap g,fr') σ:=by
 rw[eq__272]
 rw[if_neg (by rw[ht];simp)]
 refine eq__1 (eq__285 (sr:=sr) (body:=pH (tst T n) target ifs (qF (ev T n) elt)) (σ:=σ) (fun fr'=>∃V,fr'={cfr with vars:=V}∧K V) xs F g hn (fun v hv fr' acc hj ha=>by
  rcases hj with⟨V,rfl,hV⟩;rcases step v hv V hV with⟨V',hb,hK,b,ht,h1,h2⟩;refine⟨{cfr with vars:=V'},?_,V',rfl,hK⟩;simp only[pH,hb,ht,Out.bind_ok];clear ht;cases b with
  |true=>
   rcases h1 rfl with⟨y,hy,hgv⟩;simp only[if_true,qF,hy,Out.bind_ok,hgv];rw[if_pos (small ha)]
  |false=>
   rw[h2 rfl,dG];rfl) hg xs.length 0 qC cfr [] (by exact cS (eq__52 [_] (.le (.a (.n 0) Z0) Z0) rfl) (eq__52 [_] (.le Z0 (.a (.n 0) Z0)) rfl)) hl (by simp;exact eq__3 [_] (.le Z0 (.n 1000)) (.lt Z0 (.n 1000)) rfl hl) ⟨cfr.vars,rfl,hk⟩) fun fr' e _=>?_
 exact⟨fr',(e)⟩
theorem eq__286{g:Comprehension}(hsc:pW scope=true)(hcp:pD fr scope=true)(has:(g::gs).all (fun c=>c.is_async==0)=true)(hsr:src T n fr g.iter σ=.ok sr σ₁):
  tK T n fr elt (g::gs) scope pos σ=(q8 (ev T n) (tst T n) (src T n) elt (g::gs) sr (pZ fr scope) [] σ₁).bind fun r σ₂=>mkList T pos r.1 σ₂:=by
 have :tK T n fr elt (g::gs) scope pos σ=if pW scope=false∨pD fr scope=false∨(g::gs).all (fun c=>c.is_async==0)=false then .stuck else(src T n fr g.iter σ).bind fun s σ₁=>(q8 (ev T n) (tst T n) (src T n) elt (g::gs) s (pZ fr scope) [] σ₁).bind fun r σ₂=>mkList T pos r.1 σ₂:=rfl
 rw[this,hsc,hcp,has,if_neg (by decide),hsr]
 rfl
theorem eq__45{it:Ag}(K:List (Str×Val)→Prop)(xs:List α)(F:α→Val)(g:α→List Val)(hsr:src T n fr it σ=.ok sr σ₁)(hsc:pW scope=true)(hcp:pD fr scope=true)(hk:K (pZ fr scope).vars)(hl:xs.length<1000)(ht:qG sr target=true)(hn:∀i,pG σ₁ sr i=some ((xs[i]?).map F))(hg:∀v∈xs,(g v).length≤1)(step:∀v∈xs,∀V,K V→∃V',rF target (F v) {pZ fr scope with vars:=V}=some {pZ fr scope with vars:=V'}∧K V'∧∃b,rI (tst T n) {pZ fr scope with vars:=V'} ifs σ₁=.ok b σ₁∧
   (b=true→∃y,ev T n {pZ fr scope with vars:=V'} elt σ₁=.ok y σ₁∧g v=[y])∧(b=false→g v=[])):
  tK T n fr elt [⟨target,it,ifs,0⟩] scope pos σ=mkList T pos (xs.flatMap g) σ₁:=by
 rcases eq__867 (it:=it) K xs F g hk hl ht hn hg step with⟨fr',e⟩
 rw[eq__286 hsc hcp rfl hsr,e]
 rfl
variable{V:Val}
theorem eq__55{l:List Val}(h:pB σ V=some l)(i:Nat):qP σ V i=some l[i]?:=by
 intros n2 X V X h St σ LV l Nat i
 cases V<;>first
  |(injection h;done)
  |(exact congrArg (dR fun vs=>vs[i]?) h)
theorem eq__287{l:List Val}(h:pB σ V=some l){ts:List Ag}{c:Nat}:qG (.val V) (.Tuple ts c p)=true:=by
 cases V<;>first
  |rfl
  |(injection h)
theorem eq__75{l:List Val}(h:pB σ V=some l){x:Str}:qG (.val V) (.Name x p)=true:=by
 cases V<;>first
  |rfl
  |(injection h)
theorem eq__551:∀(l acc:List Str),acc.Nodup→((rD acc l).length=acc.length+l.length↔(acc++l).Nodup)
 |[],acc,h=>by rw[dG];exact⟨fun _=>h,fun _=>rfl⟩
 |x::r,acc,h=>by
  rw[eq__311];by_cases hc:acc.contains x=true
  ·rw[if_pos hc];have h1:=eq__205 r acc;constructor;·intro h2;rw[aR]at h2;omega
   ·intro h2;exact absurd rfl ((cL.mp h2).2.2 x (bF.mp hc) x (aO ..))
  ·rw[if_neg hc];have hn:(acc++[x]).Nodup:=cL.mpr (eq__30 h (by simp) (by
    rintro a ha b hb rfl;rw[aA]at hb;subst hb;exact hc (bF.mpr ha)));have :=eq__551 r (acc++[x]) hn;rw[aH,bK]at this;rw[aR,←show acc.length+[x].length+r.length=acc.length+(r.length+1)by simp;exact cS (eq__52 [_,_] (.le (.a (.a Z0 (.n 1)) Z1) (.a Z0 (.a Z1 (.n 1)))) rfl) (eq__52 [_,_] (.le (.a Z0 (.a Z1 (.n 1))) (.a (.a Z0 (.n 1)) Z1)) rfl)];exact this
theorem eq__195(l:List Str):((rD [] l).length<l.length)↔¬l.Nodup:=by
 have h1:=eq__205 l []
 have h2:=eq__551 l [] gP
 simp only[bG,cF,cI]at h1 h2
 rw[←h2]
 omega
noncomputable def missing(ns:List Str)(s:Spec):List Str:=(s.deps++s.setup).filter fun d=>!pM d&&!ns.contains d
noncomputable def rA(ss:List Spec):Str:=if(nms ss).Nodup then(if ss.all (fun s=>(missing (nms ss) s).isEmpty)then(if(ss.flatMap (·.targets)).Nodup then a5 "" else a5 "task")else a5 "task")else a5 "file"
theorem eq__82(l:List α)(f:α→Val):l.flatMap (fun x=>[f x])=l.map f:=by induction l with|nil=>rfl|cons a r ih=>rw[cM,aG,ih];rfl
theorem eq__70(l:List α)(p:α→Bool)(f:α→Val):l.flatMap (fun x=>if p x then[f x]else[])=(l.filter p).map f:=by
 induction l with
 |nil=>rfl
 |cons a r ih=>rw[cM,cB,ih];cases p a<;>rfl
theorem eq__868(l:List Str):eqV σ (.lst (l.map .str)) (.lst [])=some l.isEmpty:=by cases l<;>rfl
theorem eq__869{it target' it':Ag}(K:List (Str×Val)→Prop)(xs:List α)(F:α→Val)(ys:α→List β)(F':β→Val)(hsr:src T n fr it σ=.ok sr σ₁)(hsc:pW scope=true)(hcp:pD fr scope=true)(hk:K (pZ fr scope).vars)(hl:xs.length<1000)(ht:qG sr target=true)(hn:∀i,pG σ₁ sr i=some ((xs[i]?).map F))(hg:∀v∈xs,(ys v).length≤1)(step:∀v∈xs,∀V,K V→∃V',rF target (F v) {pZ fr scope with vars:=V}=some {pZ fr scope with vars:=V'}∧K V'∧∃sr',src T n {pZ fr scope with vars:=V'} it' σ₁=.ok sr' σ₁∧qG sr' target'=true∧(∀i,pG σ₁ sr' i=some (((ys v)[i]?).map F'))∧
   ∀y∈ys v,∀V2,K V2→∃V3,rF target' (F' y) {pZ fr scope with vars:=V2}=some {pZ fr scope with vars:=V3}∧K V3∧ev T n {pZ fr scope with vars:=V3} elt σ₁=.ok (F' y) σ₁):
  tK T n fr elt [⟨target,it,[],0⟩,⟨target',it',[],0⟩] scope pos σ=mkList T pos (xs.flatMap fun x=>(ys x).map F') σ₁:=by
 refine a9 (eq__286 hsc hcp rfl hsr) ?_
 have :∃fr',q8 (ev T n) (tst T n) (src T n) elt [⟨target,it,[],0⟩,⟨target',it',[],0⟩] sr (pZ fr scope) [] σ₁=.ok (xs.flatMap fun x=>(ys x).map F',fr') σ₁:=by
  rw[eq__823,if_neg (by rw[ht];simp)];refine eq__1 (eq__285 (sr:=sr) (body:=pH (tst T n) target [] (fun cfr' acc σ₁=>(src T n cfr' it' σ₁).bind fun src' σ₂=>q8 (ev T n) (tst T n) (src T n) elt [⟨target',it',[],0⟩] src' cfr' acc σ₂)) (σ:=σ₁) (fun fr'=>∃V,fr'={pZ fr scope with vars:=V}∧K V) xs F (fun x=>(ys x).map F') hn (fun v hv fr' acc hj ha=>by
   rcases hj with⟨V,rfl,hV⟩;rcases step v hv V hV with⟨V',hb,hK,sr',hsr',ht',hn',hin⟩;have hgv:=hg v hv;obtain⟨fr2,e2,hj2⟩:=eq__285 (sr:=sr') (body:=pH (tst T n) target' [] (qF (ev T n) elt)) (σ:=σ₁) (fun fr'=>∃V,fr'={pZ fr scope with vars:=V}∧K V) (ys v) F' (fun y=>[F' y]) hn' (fun y hy fr2 acc hj ha=>by
    rcases hj with⟨V2,rfl,hV2⟩;obtain⟨V3,hb3,hK3,he⟩:_:=hin y hy V2 hV2;refine⟨{pZ fr scope with vars:=V3},?_,V3,rfl,hK3⟩;simp only[pH,hb3,eq__79,Out.bind_ok,if_true,qF,he];exact(if_pos (small ha))) (fun _ _=>aN _) (ys v).length 0 qC {pZ fr scope with vars:=V'} acc (by exact cS (eq__52 [_] (.le (.a (.n 0) Z0) Z0) rfl) (eq__52 [_] (.le Z0 (.a (.n 0) Z0)) rfl)) (by have :qC=1000:=rfl;exact eq__29 [_,_] (.lt Z0 Z1) (.le Z0 (.n 1)) (.qe Z1 (.n 1000)) rfl hgv this) (by exact eq__29 [_,_] (.le (.a Z0 Z1) (.n 1000)) (.lt Z0 (.n 1000)) (.le Z1 (.n 1)) rfl ha hgv) ⟨V',rfl,hK⟩;refine⟨fr2,?_,hj2⟩;simp only[pH,hb,eq__79,Out.bind_ok,if_true,hsr'];rw[eq__272,if_neg (by rw[ht'];simp),e2,c5,eq__82]) (fun v hv=>by simp only[a7];exact hg v hv) xs.length 0 qC (pZ fr scope) [] (by exact cS (eq__52 [_] (.le (.a (.n 0) Z0) Z0) rfl) (eq__52 [_] (.le Z0 (.a (.n 0) Z0)) rfl)) hl (by simp;exact eq__3 [_] (.le Z0 (.n 1000)) (.lt Z0 (.n 1000)) rfl hl) ⟨_,rfl,hk⟩) fun fr' e _=>?_;exact⟨fr',e⟩
 obtain⟨fr',e⟩:_:=this
 rw[e]
 rfl
theorem eq__870(k:Nat)(hv:pB σ V=some (ss.map Spec.val))(hn:∀x∈ss,SpecOk x)(few:ss.length≤8):callD (Tn k) 60 0 d502 [V] σ=.ok (.str (rA ss)) σ:=by
 intros n3 St σ LSp ss Val V Nat k
 have' hB:d502.body=d502.body:=rfl
 conv at hB=>rhs;whnf
 have' hS:d502.scope=d502.scope:=rfl
 conv at hS=>rhs;whnf
 have' hP:d502.pars=d502.pars:=rfl
 conv at hP=>rhs;whnf
 refine eq__40 (R:=fun o=>o=_) (by nofun) ?_
 simp_arith[hP,hB,hS,aG,aQ,bJ,bT]
 have ln:(nms ss).length≤8:=by unfold nms;rw[a7];exact few
 refine eq__12 (v:=.lst ((nms ss).map .str)) (σ':=σ) (by
  simp_arith[];rw[eq__45 (sr:=.val V) (σ₁:=σ) (fun _=>True) ss Spec.val (fun s=>[.str s.name])]
  ·rw[eq__82];try simpa[decide_true]using[a7,eq__6 (aL few (by decide))]
   rw[show(ss.map fun x=>Val.str x.name)=(nms ss).map .str by unfold nms;simp only[c8];rfl]
  ·(nofun;done)
  ·decide
  ·(nofun;done)
  ·trivial
  ·omega
  ·exact eq__75 hv
  ·intro i;simp only[pG,eq__55 hv,aK]
  ·intro v _;exact aN _
  ·rintro s hs V' _;exact eq__7 (setV (a5 "spec") s.val V') (by nofun) trivial (eq__7 true rfl (fun _=>⟨.str s.name,(by nofun),rfl⟩) (fun h=>by(injection h)))) (by nofun) ?_
 by_cases nd:(nms ss).Nodup
 ·have h1:¬((rD [] (nms ss)).length<(nms ss).length):=fun h=>(eq__195 _).mp h nd;refine eq__23 (σ':=σ) (by simpa![qQ,eq__122,eq__11,eq__9,bL,aD]using[eq__64,a7,show(nms ss).length<4000 by omega,iA,h1]) ?_;refine eq__4 (eq__15 ?_);refine eq__81 (sr:=.val V) (σ':=σ) (by nofun) (eq__287 hv) (ss.map Spec.val)
   (fun i fr σ'=>A3 (σ=σ') ((∀s∈ss.take i,missing (nms ss) s=[])) (∃V',A5 (fr={scope:=d502.scope,fn:=true,vars:=V',code:=0}) (look (a5 "specs") V'=some V) (look (a5 "names") V'=some (.lst ((nms ss).map .str))) (look (a5 "len") V'=none) (look (a5 "set") V'=none)))
   (fun o=>(∃s∈ss,missing (nms ss) s≠[])∧∃fr,o=.ok (.ret (.str (a5 "task"))) (fr,σ))
   (by rw[a7];omega) ⟨rfl,fun s h=>absurd h (by simp),_,(by first|rfl|rw[hS]),rfl,rfl,rfl,rfl⟩ ?_ ?_ ?_ ?_
  ·rintro i fr σ'⟨rfl,_⟩;simp only[pG,eq__55 hv]
  ·rintro i v fr σ'⟨rfl,hm,V',rfl,v1,v2,v3,v4⟩hvi;obtain⟨s,hs,rfl⟩:∃s,ss[i]?=some s∧v=s.val:=by
    rw[aK]at hvi;obtain⟨s,h1,h2⟩:_:=aJ.mp hvi;exact⟨s,h1,h2.symm⟩
   have oks:=hn s (aT hs);refine eq__2 ({scope:=d502.scope,fn:=true,vars:=setV (a5 "files") (.lst (s.files.map .str)) (setV (a5 "targets") (.lst (s.targets.map .str)) (setV (a5 "setup") (.lst (s.setup.map .str)) (setV (a5 "deps") (.lst (s.deps.map .str)) (setV (a5 "name") (.str s.name) V')))),code:=0}) (by nofun) ?_;have dl:(s.deps++s.setup).length≤10:=by rw[aH];have :=oks.depl;have :=oks.setupl;omega
   refine eq__251 (c:=!(missing (nms ss) s).isEmpty) (σ':=σ) ?_ ?_
   ·simp_arith[hS];rw[eq__45 (sr:=.val (.lst ((s.deps++s.setup).map .str))) (σ₁:=σ) (fun V2=>look (a5 "names") V2=some (.lst ((nms ss).map .str))) (s.deps++s.setup) Val.str (fun d=>if(!pM d&&!(nms ss).contains d)then[.str d]else[])];·rw[eq__70,show(s.deps++s.setup).filter (fun d=>!pM d&&!(nms ss).contains d)=missing (nms ss) s from rfl];have' ml:(missing (nms ss) s).length≤lim:=eq__6 (aL (b9 _ _) (aL dl (by decide)));simpa[bG,aD,eq__21]using[a7,ml,bN,eq__868]
    ·simp_all_arith[eq__8,eq__9,←aY,a7,eq__6 (aL dl (by decide)),tB,aD,aZ]
    ·decide
    ·simpa![pZ,rE,pD,aG,aQ,bB,bY,aD,aZ]using[eq__8,v2]
    ·simpa![pZ,rE,pD,aG,aQ,bB,bY,aD,aZ]using[eq__8,v2]
    ·exact eq__3 [_] (.lt Z0 (.n 1000)) (.le Z0 (.n 10)) rfl dl
    ·rfl
    ·intro i;simp only[eq__9,aD,aK]
    ·intro v _;split;exact aN 1;exact bN 1
    ·rintro d hd V2 hk;refine eq__7 (setV (a5 "one") (.str d) V2) (by nofun) (by nofun) (eq__7 (!pM d&&!(nms ss).contains d) ?_ (fun h=>⟨.str d,(by nofun),if_pos h⟩) (fun h=>if_neg (by exact(h)▸aC)));cases hst:pM d with
     |true=>
      have' hst':(!(aI d (a5 "*") 0 d.length 1).isEmpty)=true:=hst;(refine(?_:_=Out.ok false _);nofun;done)
     |false=>
      have' hst':(!(aI d (a5 "*") 0 d.length 1).isEmpty)=false:=hst;cases hct:(nms ss).contains d<;>(first|(refine(?_:_=Out.ok true _);nofun;done)|(refine(?_:_=Out.ok false _);nofun;done))
   ·cases hms:(missing (nms ss) s).isEmpty with
    |true=>
     simp_arith[dZ];refine eq__4 (eq__15 (eq__4 (.inl (eq__62 .next _ _ rfl trivial ⟨rfl,?_,_,(by first|rfl|rw[hS]),(by nofun),(by nofun),(by nofun),(by nofun)⟩))));intro s' hs';rw[eq__37 hs,bW,aA]at hs';rcases hs' with hs'|rfl;·exact hm s' hs'
     ·exact cK.mp hms
    |false=>
     simp_arith[f8];exact eq__49 (v:=.str (a5 "task")) (σ':=σ) (by nofun) (.inr (eq__30 trivial ⟨s,aT hs,fun h=>by rw[h]at hms;(injection hms)⟩ ⟨_,rfl⟩))
  ·rintro fr' σ'⟨rfl,hm,V',rfl,v1,v2,v3,v4⟩;rw[a7,b8]at hm;have hall:ss.all (fun s=>(missing (nms ss) s).isEmpty)=true:=aP.mpr fun s hs=>by refine a9 (congrArg _ (hm s hs)) ?_;rfl
   have tl:(ss.flatMap (·.targets)).length≤8:=by
    have' h1:=eq__282 ss fun s hs=>(hn s hs).targl;have' h2:=congrArg fW (eq__543 ss);rw[a7]at h2;exact eq__47 [_,_,_] (.le Z0 (.n 8)) (.le Z1 (.n 8)) (.le Z2 Z1) (.qe Z2 Z0) rfl few h1 h2
   refine eq__12 (v:=.lst ((ss.flatMap (·.targets)).map .str)) (σ':=σ) (by
    simp_arith[];rw[eq__869 (sr:=.val V) (σ₁:=σ) (fun _=>True) ss Spec.val (fun s=>s.targets) Val.str]
    ·rw[←mK];simpa[decide_true]using[a7,eq__6 (aL tl (by decide))]
    ·(nofun;done)
    ·decide
    ·(nofun;done)
    ·trivial
    ·omega
    ·exact eq__75 hv
    ·intro i;simp only[pG,eq__55 hv,aK]
    ·intro v hv;exact(hn v hv).targl
    ·rintro s hs V2 _;refine eq__7 (setV (a5 "spec") s.val V2) (by nofun) trivial (eq__27 (.val (.lst (s.targets.map .str))) (by nofun) rfl (fun i=>by simp only[eq__9,aD,aK]) (fun y hy V3 _=>⟨setV (a5 "target") (.str y) V3,(by nofun),trivial,(by nofun)⟩))) (by nofun) ?_;nofun;refine eq__49 (v:=.str (rA ss)) (σ':=σ) ?_ rfl;unfold rA;rw[if_pos nd,hall,if_pos rfl];by_cases td:(ss.flatMap (·.targets)).Nodup
   ·have h2:¬((rD [] (ss.flatMap (·.targets))).length<(ss.flatMap (·.targets)).length):=fun h=>(eq__195 _).mp h td;rw[if_pos td];simp_all_arith[eq__8,v3,v4,qQ,eq__122,eq__11,eq__9,bL,aD,eq__64,a7,show(ss.flatMap (·.targets)).length<4000 by omega,iA,h2]
   ·have h2:(rD [] (ss.flatMap (·.targets))).length<(ss.flatMap (·.targets)).length:=(eq__195 _).mpr td;rw[if_neg td];simp_all_arith[eq__8,v3,v4,qQ,eq__122,eq__11,eq__9,bL,aD,eq__64,a7,show(ss.flatMap (·.targets)).length<4000 by omega,iA,h2]
  ·rintro o lv⟨⟨s,hs,hm⟩,fr,rfl⟩;have hall:ss.all (fun s=>(missing (nms ss) s).isEmpty)=false:=eq__160 hs (by rw[List.isEmpty_eq_false_iff];exact hm);refine(?_:Out.ok _ _=_);unfold rA;rw[if_pos nd,hall,if_neg aC]
 ·have h1:(rD [] (nms ss)).length<(nms ss).length:=(eq__195 _).mpr nd;refine eq__26 (σ':=σ) (by simpa![qQ,eq__122,eq__11,eq__9,bL,aD]using[eq__64,a7,show(nms ss).length<4000 by omega,iA,h1]) ?_;refine eq__49 (v:=.str (a5 "file")) (σ':=σ) (by nofun) ?_;unfold rA;rw[if_neg nd];rfl
def Pre(σ σ':St):Prop:=∀j,j<σ.length→σ'[j]?=σ[j]?
theorem Pre.refl(σ:St):Pre σ σ:=fun _ _=>rfl
theorem Pre.app(h:Pre σ σ')(hl:σ.length≤σ'.length)(τ:St):Pre σ (σ'++τ):=fun j hj=>by rw[bD (by exact eq__29 [_,_,_] (.lt Z0 Z1) (.le Z2 Z1) (.lt Z0 Z2) rfl hl hj)];exact h j hj
theorem Pre.set(h:Pre σ σ')(hk:σ.length≤k):Pre σ (σ'.set k c):=fun j hj=>by rw[aX (by exact fun hN_=>eq__16 [_,_,_] 0 .ff 1 (.eq Z0 Z1) 1 (.le Z2 Z0) 1 (.lt Z1 Z2) rfl hN_ hk hj)];exact h j hj
theorem Pre.trans{σ'':St}(h:Pre σ σ')(h':Pre σ' σ'')(hl:σ.length≤σ'.length):Pre σ σ'':=fun j hj=>(h' j (by exact eq__29 [_,_,_] (.lt Z0 Z1) (.le Z2 Z1) (.lt Z0 Z2) rfl hl hj)).trans (h j hj)
theorem Pre.lst{σ σ':St}(h:Pre σ σ'){V:Val}{l:List Val}(hv:pB σ V=some l):pB σ' V=some l:=by
 intros n3 X h X V St σ St σ' LV l
 cases V with
 |ref k=>
  have e:pB σ (.ref k)=σ[k]?.bind r4:=rfl;rw[e]at hv;have lt:k<σ.length:=by
   by_cases hk:k<σ.length;·exact hk
   ·rw[cE (by exact eq__3 [_,_] (.le Z0 Z1) (.nlt Z1 Z0) rfl hk)]at hv;(injection hv)
  refine(?_:σ'[k]?.bind r4=some l);rw[h k lt];exact hv
 |lst vs=>exact hv
 |_=>injection hv
noncomputable def qJ(ss:List Spec)(r:List Str)(f:Str):List Str:=ss.foldl (fun r sp=>if sp.targets.contains f&&!r.contains sp.name then r++[sp.name]else r) r
noncomputable def qW(ss:List Spec)(s:Spec):List Str:=s.files.foldl (qJ ss) (pK ss s (s.deps.filter pM).length)
def Rows(q:Nat)(σ:St)(rs:List Nat)(rows:List (List Str)):Prop:=rs.length=rows.length∧∀(j r:Nat)(row:List Str),rs[j]?=some r→rows[j]?=some row→σ[r]?=some (.list (row.map .str))∧q<r
theorem eq__288(h:(ss.map Spec.val)[i]?=some v):∃s,ss[i]?=some s∧v=s.val:=by
 rw[aK]at h
 refine eq__1 (aJ.mp h) fun s h1 h2=>?_
 exact eq__2 s h1 h2.symm
theorem eq__289(f:Str):∀(ss:List Spec)(r:List Str),(qJ ss r f).length≤r.length+ss.length
 |[],r=>aN _
 |s::ss,r=>by
  unfold qJ;rw[mV];have :=eq__289 f ss (if s.targets.contains f&&!r.contains s.name then r++[s.name]else r);unfold qJ at this;have h2:(if s.targets.contains f&&!r.contains s.name then r++[s.name]else r).length≤r.length+1:=by
   split;·simp
   ·exact eq__52 [_] (.le Z0 (.a Z0 (.n 1))) rfl
  rw[aR];exact eq__29 [_,_,_,_] (.le Z0 (.a Z1 (.a Z2 (.n 1)))) (.le Z0 (.a Z3 Z2)) (.le Z3 (.a Z1 (.n 1))) rfl this h2
theorem eq__552(ss:List Spec)(few:ss.length≤8):∀(fs r:List Str),(fs.foldl (qJ ss) r).length≤r.length+8*fs.length
 |[],r=>aN _
 |f::fs,r=>by
  rw[mV,aR];have h1:=eq__552 ss few fs (qJ ss r f);have h2:=eq__289 f ss r;exact eq__47 [_,_,_,_,_] (.le Z0 (.a Z1 (.m 8 (.a Z2 (.n 1))))) (.le Z3 (.n 8)) (.le Z0 (.a Z4 (.m 8 Z2))) (.le Z4 (.a Z1 Z3)) rfl few h1 h2
theorem eq__871(k:Nat)(hv:pB σ V=some (ss.map Spec.val))(hn:∀x∈ss,SpecOk x)(few:ss.length≤8):
  ∃σ' rs,callD (Tn (k+1)) 60 0 d507 [V] σ=.ok (.ref σ.length) σ'∧Pre σ σ'∧σ'[σ.length]?=some (.list (rs.map .ref))∧Rows σ.length σ' rs (ss.map (qW ss)):=by
 intros n3 St σ LSp ss Val V Nat k
 have hB:d507.body=d507.body:=rfl
 conv at hB=>rhs;whnf
 have hS:d507.scope=d507.scope:=rfl
 conv at hS=>rhs;whnf
 have hP:d507.pars=d507.pars:=rfl
 conv at hP=>rhs;whnf
 refine eq__40 (d:=d507) (vs:=[V]) (σ:=σ) (T:=Tn (k+1)) (n:=60) (code:=0) (R:=fun o=>∃σ' rs,o=.ok (.ref σ.length) σ'∧Pre σ σ'∧σ'[σ.length]?=some (.list (rs.map .ref))∧Rows σ.length σ' rs (ss.map (qW ss))) (by nofun) ?_
 refine eq__12 (v:=.ref σ.length) (σ':=σ++[Cell.list []]) (by nofun) (by nofun) ?_
 refine eq__57 (sr:=.val V) (σ':=σ++[Cell.list []]) (by nofun;all_goals((try simp_all_arith[tB,eq__55 (((Pre.refl σ).app (aN _) _).lst hv),aZ]);try rfl)) (eq__287 hv) (ss.map Spec.val)
  (fun i fr σ'=>∃U rs,A7 (fr={scope:=d507.scope,fn:=true,vars:=U,code:=0}) (look (a5 "specs") U=some V) (look (a5 "needs") U=some (.ref σ.length)) (look (a5 "_law_like") U=none) (Pre σ σ') (σ'[σ.length]?=some (.list (rs.map .ref))) (Rows σ.length σ' rs ((ss.take i).map (qW ss))))
  (by rw[a7];exact eq__3 [_] (.lt Z0 (.n 1000)) (.le Z0 (.n 8)) rfl few) (eq__54 _ ([]) ⟨(by first|rfl|rw[hS]),rfl,rfl,rfl,(Pre.refl σ).app (aN _) _,get_new,rfl,fun j r row h=>by cases h⟩) ?_ ?_ ?_
 ·rintro i fr σ'⟨U,rs,rfl,v1,v2,v3,pr,_⟩;simp only[pG,eq__55 (pr.lst hv)]
 ·rintro i v fr σ'⟨U,rs,rfl,v1,v2,v3,pr,hq,rows⟩hvi;refine eq__1 (eq__288 hvi) fun s hs q1_=>?_;subst q1_;have oks:=hn s (aT hs);have lq:σ.length<σ'.length:=eq__50 hq;refine eq__2 ({scope:=d507.scope,fn:=true,vars:=setV (a5 "files") (.lst (s.files.map .str)) (setV (a5 "targets") (.lst (s.targets.map .str)) (setV (a5 "setup") (.lst (s.setup.map .str)) (setV (a5 "deps") (.lst (s.deps.map .str)) (setV (a5 "name") (.str s.name) U)))),code:=0}) (by nofun) ?_;refine eq__12 (v:=.ref σ'.length) (σ':=σ'++[Cell.list ((s.deps.filter (!pM ·)).map .str)]) (by
   simp_arith[];rw[eq__45 (sr:=.val (.lst (s.deps.map .str))) (σ₁:=σ') (fun _=>True) s.deps Val.str (fun d=>if !pM d then[.str d]else[])];·rw[eq__70];(nofun;all_goals((try simp_all_arith[decide_true,a7,eq__6 (aL (b9 (!pM ·) s.deps) (aL oks.depl (by decide)))]);try rfl);done)
   ·(nofun;done)
   ·decide
   ·(nofun;done)
   ·trivial
   ·have :=oks.depl;omega
   ·rfl
   ·intro i;simp only[eq__9,aD,aK]
   ·intro v _;split;exact aN 1;exact bN 1
   ·rintro d hd V2 _;refine eq__7 (setV (a5 "one") (.str d) V2) (by nofun) trivial (eq__7 (!pM d) ?_ (fun h=>⟨.str d,(by nofun),if_pos h⟩) (fun h=>if_neg (by rw[h];exact aC)));cases hst:pM d with
    |true=>
     have hst':(!(aI d (a5 "*") 0 d.length 1).isEmpty)=true:=hst;(nofun;done)
    |false=>
     have hst':(!(aI d (a5 "*") 0 d.length 1).isEmpty)=false:=hst;(nofun;done)) (by nofun) ?_;have pr0:Pre σ' (σ'++[Cell.list ((s.deps.filter (!pM ·)).map .str)]):=(Pre.refl σ').app (aN _) _;have hr0:(σ'++[Cell.list ((s.deps.filter (!pM ·)).map .str)])[σ'.length]?=some (.list ((pK ss s 0).map .str)):=by rw[eq__544];exact get_new
  have wl:=eq__283 ss s few oks.depl;have fl:=oks.filel;generalize σ'++[Cell.list ((s.deps.filter (!pM ·)).map .str)]=σ₁ at*;have hv1:=(pr.trans pr0 (eZ lq)).lst hv;refine eq__57 (sr:=.val (.lst ((s.deps.filter pM).map .str))) (σ':=σ₁) (by
   simp_arith[hS];rw[eq__45 (sr:=.val (.lst (s.deps.map .str))) (σ₁:=σ₁) (fun _=>True) s.deps Val.str (fun d=>if pM d then[.str d]else[])]
   ·rw[eq__70];(nofun;all_goals((try simp_all_arith[tB,eq__9,aD,aZ,a7,eq__6 (aL (b9 pM s.deps) (aL oks.depl (by decide)))]);try rfl);done)
   ·(nofun;done)
   ·decide
   ·(nofun;done)
   ·trivial
   ·have :=oks.depl;exact eq__3 [_] (.lt Z0 (.n 1000)) (.le Z0 (.n 2)) rfl this
   ·rfl
   ·intro i;simp only[eq__9,aD,aK]
   ·intro v _;split;exact aN 1;exact bN 1
   ·rintro d hd V2 _;refine eq__7 (setV (a5 "one") (.str d) V2) (by nofun) trivial (eq__7 (pM d) ?_ (fun h=>⟨.str d,(by nofun),if_pos h⟩) (fun h=>if_neg (by rw[h];exact aC)));cases hst:pM d with
    |true=>
     have hst':(!(aI d (a5 "*") 0 d.length 1).isEmpty)=true:=hst;(nofun;done)
    |false=>
     have hst':(!(aI d (a5 "*") 0 d.length 1).isEmpty)=false:=hst;(nofun;done)) rfl ((s.deps.filter pM).map .str)
   (fun i' fr σ''=>∃U r0,A9 (fr={scope:=d507.scope,fn:=true,vars:=U,code:=0}) (look (a5 "specs") U=some V) (look (a5 "needs") U=some (.ref σ.length)) (look (a5 "_law_like") U=none) (look (a5 "files") U=some (.lst (s.files.map .str))) (look (a5 "row") U=some (.ref r0)) (σ'.length≤r0) (Pre σ' σ'') (σ''[r0]?=some (.list ((pK ss s i').map .str))))
   (by have :=b9 pM s.deps;have :=oks.depl;rw[a7];omega) (eq__54 _ σ'.length ⟨(by first|rfl|rw[hS]),(by nofun),(by nofun),(by nofun),(by nofun),(by nofun),aN _,pr0,hr0⟩) ?_ ?_ ?_
  ·rintro i' fr σ'' _;exact eq__118 _ _ _
  ·rintro i' v fr σ''⟨U,r0,rfl,v1,v2,v3,v4,v5,lr,pr2,hr⟩hvi;refine eq__1 (eq__65 hvi) fun p hp q1_=>?_;subst q1_;have hp8:p∈pats8:=by
    have :=bU.mp (aT hp);refine cD (oks.deps p this.1) (fun h=>?_) fun h=>?_;·rw[h.1]at this;exact absurd this.2 aC
    ·exact h.2
   have hv2:=(pr.trans pr2 (eZ lq)).lst hv;have lr2:=eq__50 hr;have lk:=eq__132 (nms ss) p;have ln:(nms ss).length≤8:=by unfold nms;rw[a7];exact few
   have wl':=wl i';have le:(ss.filter fun sp=>tJ sp.name p).map (fun sp=>Val.str sp.name)=(pU (nms ss) p).map .str:=by
    unfold pU nms;rw[List.filter_map,c8];rfl
   have l2:(ss.filter fun sp=>tJ sp.name p).length=(pU (nms ss) p).length:=by
    have :=congrArg fW le;rwa[a7,a7]at this
   refine eq__2 ({scope:=d507.scope,fn:=true,vars:=setV (a5 "pattern") (.str p) U,code:=0}) (by nofun) ?_;refine eq__12 (v:=.ref σ''.length) (σ':=σ''++[Cell.list ((pK ss s (i'+1)).map .str)]) (by
    simpa[hS]using[eq__8,v5];rw[eq__45 (sr:=.val V) (σ₁:=σ'') (fun V2=>look (a5 "pattern") V2=some (.str p)∧look (a5 "_law_like") V2=none) ss Spec.val (fun sp=>if tJ sp.name p then[.str sp.name]else[])]
    ·rw[eq__70,le];(nofun;all_goals((try simp_all_arith[eq__9,a7,eq__6 (aL lk (aL ln (by decide))),hr,aH,eq__6 (show(pK ss s i').length+(pU (nms ss) p).length≤1000 by exact eq__47 [_,_,_] (.le (.a Z0 Z1) (.n 1000)) (.le Z1 Z2) (.le Z2 (.n 8)) (.le Z0 (.n 20)) rfl lk ln wl'),eq__545 ss s hp,aY]);try rfl);done)
    ·(nofun;done)
    ·decide
    ·(nofun;done)
    ·exact⟨(by nofun),(by nofun)⟩
    ·exact eq__3 [_] (.lt Z0 (.n 1000)) (.le Z0 (.n 8)) rfl few
    ·exact eq__75 hv2
    ·intro i;simp only[pG,eq__55 hv2,aK]
    ·intro v _;split;exact aN 1;exact bN 1
    ·rintro sp hsp V2⟨k1,k2⟩;refine eq__7 (setV (a5 "spec") sp.val V2) (by nofun) ⟨(by nofun),(by nofun)⟩ (eq__7 (tJ sp.name p) ?_ (fun h=>⟨.str sp.name,(by nofun),if_pos h⟩) (fun h=>if_neg (by rw[h];exact aC)));have e:=eq__414 k σ'' (hn sp hsp).name hp8;cases hlk:tJ sp.name p<;>(rw[hlk]at e;(nofun;done))) (by nofun) ?_;exact eq__4 (eq__62 .next _ _ rfl trivial (eq__54 _ σ''.length ⟨(by first|rfl|rw[hS]),(by nofun),(by nofun),(by nofun),(by nofun),(by nofun),by omega,pr2.app (by omega) _,get_new⟩))
  ·rintro fr' σ''⟨U,r0,rfl,v1,v2,v3,v4,v5,lr,pr2,hr⟩;rw[a7]at hr;generalize hrow:pK ss s (s.deps.filter pM).length=row0 at hr;have lrow:row0.length≤20:=by rw[←hrow];exact wl _
   refine eq__57 (sr:=.val (.lst (s.files.map .str))) (σ':=σ'') (by nofun) rfl (s.files.map .str)
    (fun i' fr σ''=>∃U,A7 (fr={scope:=d507.scope,fn:=true,vars:=U,code:=0}) (look (a5 "specs") U=some V) (look (a5 "needs") U=some (.ref σ.length)) (look (a5 "_law_like") U=none) (look (a5 "row") U=some (.ref r0)) (Pre σ' σ'') (σ''[r0]?=some (.list (((s.files.take i').foldl (qJ ss) row0).map .str))))
    (by rw[a7];exact eq__3 [_] (.lt Z0 (.n 1000)) (.le Z0 (.n 4)) rfl fl) ⟨_,(by first|rfl|rw[hS]),v1,v2,v3,v5,pr2,hr⟩ ?_ ?_ ?_
   ·rintro i' fr σ'' _;exact eq__118 _ _ _
   ·rintro i' v fr σ''⟨U,rfl,v1,v2,v3,v4,pr2,hr⟩hvi;refine eq__1 (eq__65 hvi) fun f hf q1_=>?_;subst q1_;have hv2:=(pr.trans pr2 (eZ lq)).lst hv;have lcur:((s.files.take i').foldl (qJ ss) row0).length≤60:=by
     have h1:=eq__552 ss few (s.files.take i') row0;have h2:(s.files.take i').length≤4:=by rw[bP];omega
     exact eq__16 [_,_,_] 1 (.le Z0 (.n 60)) 1 (.le Z1 (.n 20)) 1 (.le Z0 (.a Z1 (.m 8 Z2))) 8 (.le Z2 (.n 4)) rfl lrow h1 h2
    have fin:∀cur,qJ ss cur f=qJ ss cur f:=fun _=>rfl;have hnext:(s.files.take (i'+1)).foldl (qJ ss) row0=qJ ss ((s.files.take i').foldl (qJ ss) row0) f:=by rw[eq__37 hf,iW];rfl
    rw[hnext];generalize(s.files.take i').foldl (qJ ss) row0=cur at hr lcur;refine eq__2 ({scope:=d507.scope,fn:=true,vars:=setV (a5 "one") (.str f) U,code:=0}) (by nofun) ?_;refine eq__57 (sr:=.val V) (σ':=σ'') (by nofun) (eq__75 hv2) (ss.map Spec.val)
     (fun i' fr σ''=>∃U,A8 (fr={scope:=d507.scope,fn:=true,vars:=U,code:=0}) (look (a5 "specs") U=some V) (look (a5 "needs") U=some (.ref σ.length)) (look (a5 "_law_like") U=none) (look (a5 "row") U=some (.ref r0)) (look (a5 "one") U=some (.str f)) (Pre σ' σ'') (σ''[r0]?=some (.list ((qJ (ss.take i') cur f).map .str))))
     (by rw[a7];exact eq__3 [_] (.lt Z0 (.n 1000)) (.le Z0 (.n 8)) rfl few) ⟨_,(by first|rfl|rw[hS]),(by nofun),(by nofun),(by nofun),(by nofun),(by nofun),pr2,hr⟩ ?_ ?_ ?_
    ·rintro i' fr σ''⟨U,rfl,v1,v2,v3,v4,v5,pr2,hr⟩;simp only[pG,eq__55 ((pr.trans pr2 (eZ lq)).lst hv)]
    ·rintro i' v fr σ''⟨U,rfl,v1,v2,v3,v4,v5,pr2,hr⟩hvi;refine eq__1 (eq__288 hvi) fun sp hsp q1_=>?_;subst q1_;have hnx:qJ (ss.take (i'+1)) cur f=if sp.targets.contains f&&!(qJ (ss.take i') cur f).contains sp.name then qJ (ss.take i') cur f++[sp.name]else qJ (ss.take i') cur f:=by
      unfold qJ;rw[eq__37 hsp,iW];rfl
     rw[hnx];have lc:(qJ (ss.take i') cur f).length<lim:=by
      have h1:=eq__289 f (ss.take i') cur;have h2:(ss.take i').length≤8:=by rw[bP];omega
      have :lim=1000000:=rfl;exact eq__165 [_,_,_,_] (.lt Z0 Z1) (.le Z2 (.n 60)) (.le Z0 (.a Z2 Z3)) (.le Z3 (.n 8)) (.qe Z1 (.n 1000000)) rfl lcur h1 h2 this
     generalize qJ (ss.take i') cur f=cu at hr lc;refine eq__2 ({scope:=d507.scope,fn:=true,vars:=setV (a5 "spec") sp.val U,code:=0}) (by nofun) ?_;simp_arith[hS];cases hc:sp.targets.contains f&&!cu.contains sp.name with
     |true=>
      rcases(aF _ _).mp hc with⟨h1,h2⟩;have h2:cu.contains sp.name=false:=by simpa using h2
      refine eq__26 (σ':=σ'') (by nofun) ?_;refine eq__33 (v:=.none) (σ':=σ''.set r0 (.list ((cu++[sp.name]).map .str))) (by nofun;all_goals((try simp_all_arith[hS,eq__8,v1,v2,v4,v5,Spec.val,eq__22,cT,b7,aV,hr,nOf,eq__59,a7,lc,aY,aG,aQ]);try rfl)) ?_;exact eq__4 (eq__15 (eq__4 (eq__62 .next _ _ rfl trivial ⟨_,(by first|rfl|rw[hS]),(by nofun),(by nofun),(by nofun),(by nofun),(by nofun),pr2.set lr,eq__44 hr⟩)))
     |false=>
      refine eq__23 (σ':=σ'') (by
       cases h1:sp.targets.contains f with
       |false=>(nofun;done)
       |true=>
        have h2:cu.contains sp.name=true:=by rw[h1]at hc;simpa using hc
        simpa[hS,Spec.val,eq__22,cT,b7,aV,eq__21,eq__42,eq__9,bL,aD,dZ]using[eq__8,v1,v2,v4,v5,eq__64,hr,h1,h2]) ?_;exact eq__4 (eq__15 (eq__4 (eq__62 .next _ _ rfl trivial ⟨_,(by first|rfl|rw[hS]),(by nofun),(by nofun),(by nofun),(by nofun),(by nofun),pr2,hr⟩)))
    ·rintro fr' σ''⟨U,rfl,v1,v2,v3,v4,v5,pr2,hr⟩;rw[a7,b8]at hr;exact eq__4 (eq__62 .next _ _ rfl trivial ⟨_,(by first|rfl|rw[hS]),v1,v2,v3,v4,pr2,hr⟩)
   ·rintro fr' σ''⟨U,rfl,v1,v2,v3,v4,pr2,hr⟩;rw[a7,b8]at hr;have hq2:σ''[σ.length]?=some (.list (rs.map .ref)):=(pr2 _ lq).trans hq;have rl:rs.length<lim:=by
     rw[rows.1,a7];have h2:(ss.take i).length≤8:=by rw[bP];omega
     have :lim=1000000:=rfl;exact eq__29 [_,_] (.lt Z0 Z1) (.le Z0 (.n 8)) (.qe Z1 (.n 1000000)) rfl h2 this
    refine eq__33 (v:=.none) (σ':=σ''.set σ.length (.list ((rs++[r0]).map .ref))) (by nofun;all_goals((try simp_all_arith[hS,v2,v4,hq2,nOf,eq__59,a7,rl,aY,aG,aQ]);try rfl)) ?_;refine eq__4 (eq__62 .next _ _ rfl trivial (eq__54 _ (rs++[r0]) ⟨(by first|rfl|rw[hS]),v1,v2,v3,(pr.trans pr2 (eZ lq)).set (aN _),eq__44 hq2,?_,?_⟩));·rw[eq__37 hs,aY,aH,aH,rows.1];rfl
    ·intro j r row hj hrw;rw[eq__37 hs,aY]at hrw;by_cases lj:j<rs.length
     ·rw[bD lj]at hj;rw[bD (by rw[←rows.1];exact lj)]at hrw;refine eq__14 (rows.2 j r row hj hrw) fun h1 h2=>?_;refine⟨?_,h2⟩;rw[aX (by exact fun hN_=>eq__38 [_,_] 0 .ff 1 (.qe Z0 Z1) 1 (.lt Z0 Z1) rfl hN_ h2),pr2 _ (eq__50 h1)];exact h1
     ·rw[bX (by exact eq__3 [_,_] (.le Z0 Z1) (.nlt Z1 Z0) rfl lj)]at hj;rw[bX (by rw[←rows.1];exact eq__3 [_,_] (.le Z0 Z1) (.nlt Z1 Z0) rfl lj),←rows.1]at hrw;have h0:j-rs.length=0:=by
       have :=(bA.mp hj).1;simp at this;omega
      clear lj;rw[h0]at hj hrw;cases hj;cases hrw;refine⟨?_,by exact eq__29 [_,_,_] (.lt Z0 Z1) (.lt Z0 Z2) (.le Z2 Z1) rfl lq lr⟩;rw[aX (by exact fun hN_=>eq__16 [_,_,_] 0 .ff 1 (.qe Z0 Z1) 1 (.lt Z0 Z2) 1 (.le Z2 Z1) rfl hN_ lq lr)];unfold qW;rw[hrow];exact hr
 ·rintro fr' σ'⟨U,rs,rfl,v1,v2,v3,pr,hq,rows⟩;rw[a7,b8]at rows;exact eq__49 (v:=.ref σ.length) (σ':=σ') (by nofun) (eq__39 σ' rs rfl pr hq rows)
theorem eq__872(ns:List Str)(tg:List (Str×Str))(p:Str):(pU ns p).filterMap (pC ns tg)=pU ns p∧∀f∈pU ns p,(pC ns tg f).isSome=true:=by
 intros n1 X p LS ns LSS tg
 have h:∀f∈pU ns p,pC ns tg f=some f:=fun f hf=>eq__284 (bF.mpr (bU.mp hf).1)
 refine⟨?_,fun f hf=>by refine a9 (congrArg _ (h f hf)) ?_;rfl⟩
 generalize pU ns p=l at h
 induction l with
 |nil=>rfl
 |cons a r ih=>
  rw[bB,h a (aO ..),ih fun f hf=>h f (aU _ hf)]
theorem eq__553{α:Type}(x:Str):∀(a b:List (Str×α)),look x (a++b)=(look x a).or (look x b)
 |[],b=>rfl
 |(y,v)::r,b=>by
  refine(?_:(if y=x then some v else look x (r++b))=Option.or (if y=x then some v else look x r) (look x b));by_cases e:y=x;·rw[if_pos e,if_pos e];rfl
  ·rw[if_neg e,if_neg e];exact eq__553 x r b
theorem eq__554(f n:Str):∀ts:List Str,look f (ts.map (·,n))=if ts.contains f then some n else none
 |[]=>rfl
 |t::r=>by
  refine a9 (congrArg _ (aG)) ?_;rw[eq__46];by_cases e:t=f;·subst e;simp
  ·rw[if_neg e,eq__554 f n r];have :(f==t)=false:=by rw[beq_eq_false_iff_ne];exact fun h=>e h.symm
   rw[eN,this,kT]
theorem eq__161(f:Str):∀ss:List Spec,look f (qO ss)=((ss.filter fun s=>s.targets.contains f).map (·.name)).head?
 |[]=>rfl
 |s::r=>by
  have e:qO (s::r)=s.targets.map (·,s.name)++qO r:=by skip;exact(cM)
  rw[e,eq__553,eq__554,eq__161 f r,cB];cases s.targets.contains f<;>rfl
theorem eq__873(ns xs:List Str)(x:Str):flt ns (xs++[x])=flt ns xs++(if pM x then pU ns x else[x]):=by unfold flt;refine a9 (dQ) ?_;simp
theorem eq__874(k:Nat)(hv:pB σ V=some (ss.map Spec.val))(hn:∀x∈ss,SpecOk x)(few:ss.length≤8)(xl:xs.length<30)(xp:∀x∈xs,pM x=true→x∈pats8):
  ∃σ',Pre σ σ'∧((∃r,callD (Tn (k+1)) 60 0 d512 [V,.lst (xs.map .str)] σ=.ok (.ref r) σ'∧(∀f∈flt (nms ss) xs,(pC (nms ss) (qO ss) f).isSome=true)∧σ'[r]?=some (.list (((flt (nms ss) xs).filterMap (pC (nms ss) (qO ss))).map .str))∧σ.length≤r)∨
   (∃f,callD (Tn (k+1)) 60 0 d512 [V,.lst (xs.map .str)] σ=.ok (.str f) σ'∧TellR (nms ss) (qO ss) (flt (nms ss) xs) f)):=by
 intros n5 LS xs St σ LSp ss Val V Nat k
 have' hB:d512.body=d512.body:=rfl
 conv at hB=>rhs;whnf
 have' hS:d512.scope=d512.scope:=rfl
 conv at hS=>rhs;whnf
 have' hP:d512.pars=d512.pars:=rfl
 conv at hP=>rhs;whnf
 refine eq__40 (d:=d512) (vs:=[V,.lst (xs.map .str)]) (σ:=σ) (T:=Tn (k+1)) (n:=60) (code:=0) (R:=fun o=>∃σ',Pre σ σ'∧((∃r,o=.ok (.ref r) σ'∧(∀f∈flt (nms ss) xs,(pC (nms ss) (qO ss) f).isSome=true)∧σ'[r]?=some (.list (((flt (nms ss) xs).filterMap (pC (nms ss) (qO ss))).map .str))∧σ.length≤r)∨
   (∃f,o=.ok (.str f) σ'∧TellR (nms ss) (qO ss) (flt (nms ss) xs) f))) (by nofun) ?_
 simp_arith[hP,hB,hS,aG,aQ,bJ,bT]
 have ln:(nms ss).length≤8:=by unfold nms;rw[a7];exact few
 have' fl:=eq__194 (nms ss) ln
 refine eq__12 (v:=.lst ((nms ss).map .str)) (σ':=σ) (by
  simp_arith[];rw[eq__45 (sr:=.val V) (σ₁:=σ) (fun _=>True) ss Spec.val (fun s=>[.str s.name])]
  ·rw[eq__82];try simpa[decide_true]using[a7,eq__6 (aL few (by decide))]
   rw[show(ss.map fun x=>Val.str x.name)=(nms ss).map .str by unfold nms;simp only[c8];rfl]
  ·(nofun;done)
  ·decide
  ·(nofun;done)
  ·trivial
  ·exact eq__3 [_] (.lt Z0 (.n 1000)) (.le Z0 (.n 8)) rfl few
  ·exact eq__75 hv
  ·intro i;simp only[pG,eq__55 hv,aK]
  ·intro v _;exact aN _
  ·rintro s hs V' _;exact eq__7 (setV (a5 "spec") s.val V') (by nofun) trivial (eq__7 true rfl (fun _=>⟨.str s.name,(by nofun),rfl⟩) (fun h=>by(injection h)))) (by nofun) ?_
 refine eq__12 (v:=.ref σ.length) (σ':=σ++[Cell.list []]) (by nofun) (by nofun) ?_
 refine eq__81 (sr:=.val (.lst (xs.map .str))) (σ':=σ++[Cell.list []]) (by nofun) rfl (xs.map .str)
  (fun i fr σ'=>∃U r0,fr={scope:=d512.scope,fn:=true,vars:=U,code:=0}∧look (a5 "specs") U=some V∧look (a5 "names") U=some (.lst ((nms ss).map .str))∧look (a5 "found") U=some (.ref r0)∧look (a5 "_law_like") U=none∧σ.length≤r0∧Pre σ σ'∧(∀f∈flt (nms ss) (xs.take i),(pC (nms ss) (qO ss) f).isSome=true)∧σ'[r0]?=some (.list (((flt (nms ss) (xs.take i)).filterMap (pC (nms ss) (qO ss))).map .str)))
  (fun o=>∃f fr σ',o=.ok (.ret (.str f)) (fr,σ')∧Pre σ σ'∧TellR (nms ss) (qO ss) (flt (nms ss) xs) f)
  (by rw[a7];exact eq__3 [_] (.lt Z0 (.n 1000)) (.lt Z0 (.n 30)) rfl xl) (eq__54 _ σ.length ⟨(by first|rfl|rw[hS]),rfl,rfl,rfl,rfl,aN _,(Pre.refl σ).app (aN _) _,fun f h=>(by contradiction),get_new⟩) ?_ ?_ ?_ ?_
 ·rintro i fr σ' _;exact eq__118 _ _ _
 ·rintro i v fr σ'⟨U,r0,rfl,v1,v2,v3,v4,lr,pr,hs,hr⟩hvi;refine eq__1 (eq__65 hvi) fun x hx q1_=>?_;subst q1_;have' hv2:=pr.lst hv;have' lr2:=eq__50 hr;have hcur:((flt (nms ss) (xs.take i)).filterMap (pC (nms ss) (qO ss))).length≤270:=by
   have' h1:=jK (pC (nms ss) (qO ss)) (flt (nms ss) (xs.take i));have' h2:=fl (xs.take i);have h3:(xs.take i).length≤29:=by rw[bP];omega
   exact eq__16 [_,_,_] 1 (.le Z0 (.n 270)) 1 (.le Z0 Z1) 1 (.le Z1 (.r Z2 9)) 9 (.le Z2 (.n 29)) rfl h1 h2 h3
  have' hsn:=eq__873 (nms ss) (xs.take i) x;replace hsn:=(bH (eq__37 hx))▸hsn;refine eq__2 ({scope:=d512.scope,fn:=true,vars:=setV (a5 "one") (.str x) U,code:=0}) (by nofun) ?_;cases hst:pM x with
  |true=>
   have hst':(!(aI x (a5 "*") 0 x.length 1).isEmpty)=true:=hst;have hx8:=xp x (aT hx) hst;have lk:=eq__132 (nms ss) x;obtain⟨ls1,ls2⟩:_:=eq__872 (nms ss) (qO ss) x;rw[hst,if_pos rfl]at hsn;refine eq__26 (σ':=σ') (by nofun) ?_;refine eq__12 (v:=.ref σ'.length) (σ':=σ'++[Cell.list (((flt (nms ss) (xs.take (i+1))).filterMap (pC (nms ss) (qO ss))).map .str)]) (by
    simpa[hS]using[eq__8,v3];rw[eq__45 (sr:=.val (.lst ((nms ss).map .str))) (σ₁:=σ') (fun V2=>look (a5 "one") V2=some (.str x)∧look (a5 "_law_like") V2=none) (nms ss) Val.str (fun n=>if tJ n x then[.str n]else[])]
    ·rw[eq__70,show(nms ss).filter (fun n=>tJ n x)=pU (nms ss) x from rfl];simpa[eq__9]using[a7,eq__6 (aL lk (aL ln (by decide))),hr,aH,eq__6 (show((flt (nms ss) (xs.take i)).filterMap (pC (nms ss) (qO ss))).length+(pU (nms ss) x).length≤1000 by exact eq__47 [_,_,_] (.le (.a Z0 Z1) (.n 1000)) (.le Z2 (.n 8)) (.le Z0 (.n 270)) (.le Z1 Z2) rfl ln hcur lk),hsn,i1,ls1,aY]
    ·(nofun;done)
    ·decide
    ·simpa![pZ,rE,pD,aG,aQ,bB,bY,aD,aZ,hS]using[eq__8,v4]
    ·exact⟨(by nofun),(by nofun)⟩
    ·exact eq__3 [_] (.lt Z0 (.n 1000)) (.le Z0 (.n 8)) rfl ln
    ·rfl
    ·intro i;simp only[eq__9,aD,aK]
    ·intro v _;split;exact aN 1;exact bN 1
    ·rintro n hnn V2⟨k1,k2⟩;refine(?_:(n∈names8)→_) ?_;rotate_left;·
      refine eq__1 (cQ.mp hnn) fun s' h1 q1_=>?_;subst q1_;exact(hn s' h1).name
     intro hn8;refine eq__7 (setV (a5 "name") (.str n) V2) (by nofun) ⟨(by nofun),(by nofun)⟩ (eq__7 (tJ n x) ?_ (fun h=>⟨.str n,(by nofun),if_pos h⟩) (fun h=>if_neg (by exact(h)▸aC)));have' e:=eq__414 k σ' hn8 hx8;cases hlk:tJ n x<;>(rw[hlk]at e;(nofun;done))) (by nofun) ?_;refine eq__4 (eq__15 (eq__4 (.inl (eq__34 .next _ _ ⟨rfl,trivial,_,σ'.length,(by first|rfl|rw[hS]),(by nofun),(by nofun),(by nofun),(by nofun),by omega,pr.app (by omega) _,?_,get_new⟩))));rw[hsn];intro f hf;refine cD (bW.mp hf) (fun hf=>?_) fun hf=>?_;·exact hs f hf
   ·exact ls2 f hf
  |false=>
   have hst':(!(aI x (a5 "*") 0 x.length 1).isEmpty)=false:=hst;rw[hst,if_neg aC]at hsn;refine eq__23 (σ':=σ') (by nofun) ?_;generalize hmk:(ss.filter fun s=>s.targets.contains x).map (·.name)=makers;have mlen:makers.length≤8:=by
    rw[←hmk,a7];exact aL (b9 _ _) few
   have hlk:look x (qO ss)=makers.head?:=by rw[eq__161,hmk]
   refine eq__12 (v:=.lst (makers.map .str)) (σ':=σ') (by
    simp_arith[hS,eq__8];rw[eq__45 (sr:=.val V) (σ₁:=σ') (fun V2=>look (a5 "one") V2=some (.str x)) ss Spec.val (fun s=>if s.targets.contains x then[.str s.name]else[])];·rw[eq__70,show(ss.filter fun s=>s.targets.contains x).map (fun s=>Val.str s.name)=makers.map .str by rw[←hmk,c8];rfl];simpa[decide_true]using[a7,eq__6 (aL mlen (by decide))]
    ·(nofun;done)
    ·decide
    ·simpa![pZ,rE,pD,aG,aQ,bB,bY,aD,aZ,hS]using[eq__8]
    ·simpa![pZ,rE,pD,aG,aQ,bB,bY,aD,aZ,hS]using[eq__8]
    ·exact eq__3 [_] (.lt Z0 (.n 1000)) (.le Z0 (.n 8)) rfl few
    ·exact eq__75 hv2
    ·intro i;simp only[pG,eq__55 hv2,aK]
    ·intro v _;split;exact aN 1;exact bN 1
    ·rintro s hs V2 k1;refine eq__7 (setV (a5 "spec") s.val V2) (by nofun) (by nofun) (eq__7 (s.targets.contains x) ?_ (fun h=>⟨.str s.name,(by nofun),if_pos h⟩) (fun h=>if_neg (by exact(h)▸aC)));cases hc:s.targets.contains x<;>(nofun;done)) (by nofun) ?_;have add:∀t,pC (nms ss) (qO ss) x=some t→qA (exs (Tn (k+1)) 51 [] {scope:=d512.scope,fn:=true,vars:=setV (a5 "makers") (.lst (makers.map .str)) (setV (a5 "one") (.str x) U),code:=0} (σ'.set r0 (.list ((((flt (nms ss) (xs.take i)).filterMap (pC (nms ss) (qO ss))).map .str)++[.str t])))) fun o=>(∃fo fr' σ'',o=.ok fo (fr',σ'')∧fo.goes∧∃U r0,fr'={scope:=d512.scope,fn:=true,vars:=U,code:=0}∧look (a5 "specs") U=some V∧look (a5 "names") U=some (.lst ((nms ss).map .str))∧look (a5 "found") U=some (.ref r0)∧look (a5 "_law_like") U=none∧σ.length≤r0∧Pre σ σ''∧(∀f∈flt (nms ss) (xs.take (i+1)),(pC (nms ss) (qO ss) f).isSome=true)∧σ''[r0]?=some (.list (((flt (nms ss) (xs.take (i+1))).filterMap (pC (nms ss) (qO ss))).map .str)))∨(o.leaves∧∃f fr σ',o=.ok (.ret (.str f)) (fr,σ')∧Pre σ σ'∧TellR (nms ss) (qO ss) (flt (nms ss) xs) f):=by
    intro t ht;refine eq__4 (.inl (eq__34 .next _ _ ⟨rfl,trivial,_,r0,rfl,(by nofun),(by nofun),(by nofun),(by nofun),lr,pr.set lr,?_,?_⟩))
    ·rw[hsn];intro f hf;refine cD (bW.mp hf) (fun hf=>?_) fun hf=>?_;·exact hs f hf
     ·rw[aA.mp hf,ht];rfl
    ·rw[eq__44 hr,hsn,i1,aY];simp[ht]
   have hll:((flt (nms ss) (xs.take i)).filterMap (pC (nms ss) (qO ss))).length<lim:=by
    have' this:lim=1000000:=rfl;exact eq__29 [_,_] (.lt Z0 Z1) (.le Z0 (.n 270)) (.qe Z1 (.n 1000000)) rfl hcur this
   cases hc:(nms ss).contains x with
   |true=>
    refine eq__23 (σ':=σ') (by nofun) ?_;refine eq__4 (eq__15 ?_);refine eq__33 (v:=.none) (σ':=σ'.set r0 (.list ((((flt (nms ss) (xs.take i)).filterMap (pC (nms ss) (qO ss))).map .str)++[.str x]))) (by nofun) ?_;have' this:=add x (eq__284 hc);simp(decide:=true)only[↓ev_compE,evs,Out.bind_ok,Out.bind_exc,Out.bind_stuck,↓reduceIte,decide_true,decide_false,if_true,if_false,bR,c4,look,bQ,cJ,bS,dA,cA,dB,hS]at this;exact this
   |false=>
    have' so:=eq__549 (tg:=qO ss) hc;replace so:=(hlk)▸so;clear hlk mlen hmk;cases makers with
    |nil=>
     refine eq__26 (σ':=σ') (by nofun) ?_;refine eq__49 (v:=.str x) (σ':=σ') (by nofun) (.inr (eq__51 trivial (eq__62 x _ σ' rfl pr ⟨(flt (nms ss) (xs.take i)).length,?_,so,?_⟩)))
     ·have e:flt (nms ss) xs=flt (nms ss) (xs.take (i+1))++flt (nms ss) (xs.drop (i+1)):=by
       conv=>lhs;rw[←dW (i+1) xs]
       skip;exact(dQ)
      rw[e,hsn,bK,bX (aN _),gN];rfl
     ·have e:(flt (nms ss) xs).take (flt (nms ss) (xs.take i)).length=flt (nms ss) (xs.take i):=by
       have e:flt (nms ss) xs=flt (nms ss) (xs.take i)++flt (nms ss) (xs.drop i):=by
        conv=>lhs;rw[←dW i xs]
        skip;exact(dQ)
       rw[e,List.take_left'];rfl
      rw[e];exact hs
    |cons m ms=>
     refine eq__23 (σ':=σ') (by nofun) ?_;refine eq__4 (eq__15 ?_);refine eq__33 (v:=.none) (σ':=σ'.set r0 (.list ((((flt (nms ss) (xs.take i)).filterMap (pC (nms ss) (qO ss))).map .str)++[.str m]))) (by nofun) ?_;have' this:=add m so;simp(decide:=true)only[↓ev_compE,evs,Out.bind_ok,Out.bind_exc,Out.bind_stuck,↓reduceIte,decide_true,decide_false,if_true,if_false,bR,c4,look,bQ,cJ,bS,dA,cA,dB,hS,aG]at this;exact this
 ·rintro fr' σ'⟨U,r0,rfl,v1,v2,v3,v4,lr,pr,hs,hr⟩;rw[a7,b8]at hs hr;exact eq__49 (v:=.ref r0) (σ':=σ') (by nofun) (eq__2 σ' pr (.inl ⟨r0,rfl,hs,hr,lr⟩))
 ·rintro o lv⟨f,fr,σ',rfl,h1,h2⟩;exact eq__2 σ' h1 (.inr ⟨f,rfl,h2⟩)
noncomputable def wJ(T:Tab)(n:Nat)(hs:List ExceptHandler)(r:List Stmt)(Q:Out SS Flo→Prop):Out SS Flo→Prop
 |.exc k q=>vB T (n+1) r Q (pP T (ev T n) k hs q.1 q.2)
 |o=>vB T (n+1) r Q o
theorem eq__196{Q:Out SS Flo→Prop}(k:qA (exs T n body fr σ) (wJ T n (hd::hs) r Q)):
  qA (exs T (n+2) (.Try body (hd::hs) [] [] pos::r) fr σ) Q:=by
 refine eq__249 ?_
 unfold qA at*
 match h:exs T n body fr σ with
 |.ok f q=>rw[h]at k;rw[eq__812 h];exact k
 |.exc k' q=>rw[h]at k;rw[eq__813 h];exact k
 |.stuck=>
  rw[h]at k;have :ex T (n+1) (.Try body (hd::hs) [] [] pos) fr σ=.stuck:=by rw[eq__246,h]
  rw[this];exact k
theorem eq__555{Q:Out SS Flo→Prop}(k:qA (exs T (n+1) r fr σ) Q):wJ T n hs r Q (.ok .next (fr,σ)):=k
theorem eq__875{Q:Out SS Flo→Prop}(k:Q (.ok (.ret v) (fr,σ))):wJ T n hs r Q (.ok (.ret v) (fr,σ)):=k
theorem eq__197{Q:Out SS Flo→Prop}(h:pP T (ev T n) k' hs fr σ=.ok (.ret v) (fr,σ'))(k:Q (.ok (.ret v) (fr,σ'))):wJ T n hs r Q (.exc k' (fr,σ)):=by
 refine(?_:vB T (n+1) r Q (pP T (ev T n) k' hs fr σ))
 rw[h]
 exact k
theorem eq__876{body:Val→Fr→List Val→St→Out St (List Val×Fr)}(I:Nat→St→Prop)(J:Fr→Prop)(X:Nat→St→Prop)(xs:List α)(F:α→Val)(G:Nat→Val)(hn:∀i σ,I i σ→pG σ sr i=some ((xs[i]?).map F))(step:∀i x fr acc σ,I i σ→J fr→xs[i]?=some x→acc.length<1000→(∃fr' σ',body (F x) fr acc σ=.ok (acc++[G i],fr') σ'∧J fr'∧I (i+1) σ')∨(∃k σ',body (F x) fr acc σ=.exc k σ'∧X k σ')):
  ∀(k i:Nat)(f:Nat)(fr:Fr)(acc:List Val)(σ:St),i+k=xs.length→k<f→acc.length+k≤1000→J fr→I i σ→acc=(dJ i).map G→
   (∃fr' σ',rG sr body f i fr acc σ=.ok ((dJ xs.length).map G,fr') σ'∧I xs.length σ')∨(∃k σ',rG sr body f i fr acc σ=.exc k σ'∧X k σ'):=by
 intro k
 induction k with
 |zero=>
  intro i f fr acc σ hi hf ha h hI hacc;cases f with
  |zero=>omega
  |succ f=>
   have hi:i=xs.length:=by omega
   subst hi;refine .inl (eq__28 fr σ ?_ hI);rw[eq__142];rw[hn _ _ hI,cE (aN _),hacc];rfl
 |succ k ih=>
  intro i f fr acc σ hi hf ha h hI hacc;cases f with
  |zero=>omega
  |succ f=>
   have lt:i<xs.length:=by exact eq__3 [_,_,_] (.lt Z0 Z1) (.eq (.a Z0 (.a Z2 (.n 1))) Z1) rfl hi
   have e0:rG sr body (f+1) i fr acc σ=(body (F xs[i]) fr acc σ).bind fun r σ'=>rG sr body f (i+1) r.2 r.1 σ':=by
    rw[eq__142];rw[hn _ _ hI,aW lt,aD]
   rw[e0];rcases step i _ fr acc σ hI h (aW lt) (by exact eq__3 [_,_] (.lt Z0 (.n 1000)) (.le (.a Z0 (.a Z1 (.n 1))) (.n 1000)) rfl ha)with⟨fr',σ',e,h',hI'⟩|⟨k',σ',e,hx⟩;·rw[e,Out.bind_ok];exact ih (i+1) f fr' (acc++[G i]) σ' (by exact cS (eq__3 [_,_,_] (.le (.a (.a Z0 (.n 1)) Z1) Z2) (.eq (.a Z0 (.a Z1 (.n 1))) Z2) rfl hi) (eq__3 [_,_,_] (.le Z0 (.a (.a Z1 (.n 1)) Z2)) (.qe (.a Z1 (.a Z2 (.n 1))) Z0) rfl hi)) (by exact eq__3 [_,_] (.lt Z0 Z1) (.lt (.a Z0 (.n 1)) (.a Z1 (.n 1))) rfl hf) (by rw[aH,dK];exact eq__3 [_,_] (.le (.a (.a Z0 (.n 1)) Z1) (.n 1000)) (.le (.a Z0 (.a Z1 (.n 1))) (.n 1000)) rfl ha) h' hI' (by rw[hacc,List.range_succ,aY];rfl)
   ·rw[e,Out.bind_exc];exact .inr (eq__28 k' σ' rfl hx)
theorem eq__877{it:Ag}(I:Nat→St→Prop)(K:List (Str×Val)→Prop)(X:Nat→St→Prop)(xs:List α)(F:α→Val)(G:Nat→Val)(hsr:src T n fr it σ=.ok sr σ₁)(hsc:pW scope=true)(hcp:pD fr scope=true)(hk:K (pZ fr scope).vars)(hi:I 0 σ₁)(hl:xs.length<1000)(ht:qG sr target=true)(hn:∀i σ,I i σ→pG σ sr i=some ((xs[i]?).map F))(step:∀i x V σ,I i σ→K V→xs[i]?=some x→∃V',rF target (F x) {pZ fr scope with vars:=V}=some {pZ fr scope with vars:=V'}∧K V'∧
   ((∃σ',ev T n {pZ fr scope with vars:=V'} elt σ=.ok (G i) σ'∧I (i+1) σ')∨(∃k σ',ev T n {pZ fr scope with vars:=V'} elt σ=.exc k σ'∧X k σ'))):
  (∃σ',tK T n fr elt [⟨target,it,[],0⟩] scope pos σ=mkList T pos ((dJ xs.length).map G) σ'∧I xs.length σ')∨(∃k σ',tK T n fr elt [⟨target,it,[],0⟩] scope pos σ=.exc k σ'∧X k σ'):=by
 rw[eq__286 hsc hcp rfl hsr]
 have e0:q8 (ev T n) (tst T n) (src T n) elt [⟨target,it,[],0⟩] sr (pZ fr scope) [] σ₁=rG sr (pH (tst T n) target [] (qF (ev T n) elt)) qC 0 (pZ fr scope) [] σ₁:=by
  rw[eq__272];rw[if_neg (by rw[ht];simp)]
 rw[e0]
 rcases eq__876 (sr:=sr) (body:=pH (tst T n) target [] (qF (ev T n) elt)) I (fun fr'=>∃V,fr'={pZ fr scope with vars:=V}∧K V) X xs F G hn (fun i x fr' acc σ hI hj hx ha=>by
  (refine eq__1 hj fun V q1_ hV=>?_;subst q1_);(refine eq__76 (step i x V σ hI hV hx) fun V' hb hK h=>?_);rcases h with⟨σ',e,hI'⟩|⟨k,σ',e,hX⟩
  ·refine .inl (eq__24 ({pZ fr scope with vars:=V'}) σ' ?_ ⟨V',rfl,hK⟩ hI');simp only[pH,hb,eq__79,Out.bind_ok,if_true,qF,e];rw[if_pos (small ha)]
  ·refine .inr (eq__28 k σ' ?_ hX);simp only[pH,hb,eq__79,Out.bind_ok,if_true,qF,e,Out.bind_exc]) xs.length 0 qC (pZ fr scope) [] σ₁ (by exact cS (eq__52 [_] (.le (.a (.n 0) Z0) Z0) rfl) (eq__52 [_] (.le Z0 (.a (.n 0) Z0)) rfl)) hl (by simp;exact eq__3 [_] (.le Z0 (.n 1000)) (.lt Z0 (.n 1000)) rfl hl) (eq__2 _ rfl hk) hi rfl with⟨fr',σ',e,hI⟩|⟨k,σ',e,hX⟩
 ·exact .inl (eq__2 σ' (by rw[e];rfl) hI)
 ·exact .inr (eq__28 k σ' (by rw[e];rfl) hX)
theorem eq__878{it:Ag}(I:Nat→St→Prop)(K:List (Str×Val)→Prop)(X:Nat→St→Prop)(xs:List α)(F:α→Val)(G:Nat→Val)(P:St→Prop)(hP:∀σ',I xs.length σ'→P σ')(L:List Val)(hL:(dJ xs.length).map G=L)(hsr:src T n fr it σ=.ok sr σ₁)(hsc:pW scope=true)(hcp:pD fr scope=true)(hk:K (pZ fr scope).vars)(hi:I 0 σ₁)(hl:xs.length<1000)(ht:qG sr target=true)(hc:T.chg pos=false)(hn:∀i σ,I i σ→pG σ sr i=some ((xs[i]?).map F))(step:∀i x V σ,I i σ→K V→xs[i]?=some x→∃V',rF target (F x) {pZ fr scope with vars:=V}=some {pZ fr scope with vars:=V'}∧K V'∧
   ((∃σ',ev T n {pZ fr scope with vars:=V'} elt σ=.ok (G i) σ'∧I (i+1) σ')∨(∃k σ',ev T n {pZ fr scope with vars:=V'} elt σ=.exc k σ'∧X k σ'))):
  (∃σ',ev T (n+1) fr (.ListComp elt [⟨target,it,[],0⟩] scope pos) σ=.ok (.lst L) σ'∧P σ')∨(∃k σ',ev T (n+1) fr (.ListComp elt [⟨target,it,[],0⟩] scope pos) σ=.exc k σ'∧X k σ'):=by
 rcases eq__877 (n:=n) (fr:=fr) (elt:=elt) (it:=it) (scope:=scope) (pos:=pos) I K X xs F G hsr hsc hcp hk hi hl ht hn step with⟨σ',e,h⟩|⟨k,σ',e,h⟩
 ·refine .inl (eq__2 σ' ?_ (hP σ' h));have :L.length≤lim:=by rw[←hL,a7,eU];exact eq__6 (by exact eq__3 [_] (.le Z0 (.n 1000)) (.lt Z0 (.n 1000)) rfl hl)
  rw[ev_compE,e,hL,mkList,if_pos this,hc];rfl
 ·exact .inr (eq__28 k σ' e h)
theorem eq__879{e:Ag}{x:Str}{Q:Out SS Flo→Prop}(P:St→Prop)(X:Nat→St→Prop)(h:(∃σ',ev T n fr e σ=.ok v σ'∧P σ')∨(∃k σ',ev T n fr e σ=.exc k σ'∧X k σ'))(hp:fr.mayPut x=true)(k1:∀σ',P σ'→qA (exs T (n+1) r (fr.put x v) σ') Q)(k2:∀k σ',X k σ'→Q (.exc k (fr,σ'))):qA (exs T (n+2) (.Assign [.Name x p] e pos::r) fr σ) Q:=by
 rcases h with⟨σ',e,h⟩|⟨k,σ',e,h⟩
 ·exact eq__12 e hp (k1 σ' h)
 ·exact eq__864 e (k2 k σ' h)
theorem Keeps.lst{σ σ':St}{t:Bool}(h:Keeps σ.length (fun j=>σ[j]?) t σ')(h0:σ[0]?=some (.tab t)){V:Val}{l:List Val}(hv:pB σ V=some l):pB σ' V=some l:=by
 intros n4 X h X h0 X V St σ St σ' Bool t LV l
 cases V with
 |ref k=>
  have e:pB σ (.ref k)=σ[k]?.bind r4:=rfl;rw[e]at hv;have lt:k<σ.length:=by
   by_cases hk:k<σ.length;·exact hk
   ·rw[cE (by exact eq__3 [_,_] (.le Z0 Z1) (.nlt Z1 Z0) rfl hk)]at hv;(injection hv)
  have k0:0<k:=by
   clear lt e;rcases lM k with rfl|h;·rw[h0]at hv;(injection hv)
   ·exact h
  refine(?_:σ'[k]?.bind r4=some l);rw[h.1 k k0 lt];exact hv
 |lst vs=>exact hv
 |_=>injection hv
noncomputable def sF(ss:List Spec):Bool:=ss.any fun s=>eqs s.name
def wD(b:Nat)(ss:List Spec)(rho:Nat→Option Cell)(t:Bool)(o:Out St Val):Prop:=
 (∃σ',o=.ok (.str (a5 "name")) σ'∧sF ss=true∧Keeps b rho t σ')∨
 (sF ss=false∧((∃σ',o=.ok (.str (a5 "file")) σ'∧¬(nms ss).Nodup∧Keeps b rho t σ')∨
  (∃c,(∃σ',o=.ok (.str (a5 "task")) σ'∧(nms ss).Nodup∧(rX b c ss rho t=false∨¬(ss.flatMap (·.targets)).Nodup)∧Keeps b rho t σ')∨
  (∃σ',o=.ok (.ref c) σ'∧(nms ss).Nodup∧rX b c ss rho t=true∧(ss.flatMap (·.targets)).Nodup∧Wrl σ' (vC b c ss rho t)))))
theorem eq__556(b:Nat)(ss:List Spec):(dJ ss.length).map (fun i=>Val.ref (b+5*i))=qR b ss:=by
 apply m0
 intro i
 unfold qR
 rw[aK,aK,eq__193]
 by_cases h:i<ss.length
 ·rw[lD h,aW h];rfl
 ·rw[cE (by simpa using h),cE (by simpa using h)];rfl
theorem eq__880(k:Nat){t:Bool}(hv:pB σ V=some (ss.map Spec.val))(h0:σ[0]?=some (.tab t))(hn:∀x∈ss,SpecOk x)(few:ss.length≤8):
  wD σ.length ss (fun j=>σ[j]?) t (callD (Tn (k+3)) 60 0 d517 [V] σ):=by
 intros n4 St σ LSp ss Val V Nat k Bool t
 have hB:d517.body=d517.body:=rfl
 conv at hB=>rhs;whnf
 have hS:d517.scope=d517.scope:=rfl
 conv at hS=>rhs;whnf
 have hP:d517.pars=d517.pars:=rfl
 conv at hP=>rhs;whnf
 refine eq__40 (d:=d517) (R:=wD σ.length ss (fun j=>σ[j]?) t) (by nofun) ?_
 simp_arith[hP,hB,hS,aG,aQ,bJ,bT]
 refine eq__196 ?_
 have kp0:Keeps σ.length (fun j=>σ[j]?) t σ:=⟨fun _ _ _=>rfl,h0⟩
 refine eq__879 (v:=.lst (qR σ.length ss)) (fun σ'=>Tasks σ' σ.length ss (fun j=>σ[j]?) t∧sF ss=false) (fun k' σ'=>A3 (sF ss=true) (σ'[k']?=some (.exn 78 [])) (Keeps σ.length (fun j=>σ[j]?) t σ'))
  ?_ (by nofun) ?_ ?_
 ·refine eq__878 (α:=Spec) (T:=Tn (k+3)) (sr:=.val V) (σ:=σ) (σ₁:=σ) (fun i σ'=>Tasks σ' σ.length (ss.take i) (fun j=>σ[j]?) t∧sF (ss.take i)=false) (fun U=>look (a5 "Task") U=none∧look (a5 "list") U=none) (fun k' σ'=>A3 (sF ss=true) (σ'[k']?=some (.exn 78 [])) (Keeps σ.length (fun j=>σ[j]?) t σ')) ss Spec.val (fun i=>.ref (σ.length+5*i)) _ (fun σ' h=>by rw[b8]at h;exact h) (qR σ.length ss) (eq__556 _ _) ?_ ?_ ?_ ?_ ?_ ?_ ?_ ?_ ?_ ?_;·nofun
  ·decide
  ·nofun
  ·exact⟨(by nofun),(by nofun)⟩
  ·refine⟨⟨eq__50 h0,?_,fun e=>(by(injection e)),fun e=>(by(injection e)),fun e=>(by(injection e)),fun e=>(by(injection e)),fun e=>(by(injection e)),fun _ _=>rfl,h0⟩,rfl⟩;rfl
  ·exact eq__3 [_] (.lt Z0 (.n 1000)) (.le Z0 (.n 8)) rfl few
  ·exact eq__75 hv
  ·nofun
  ·rintro i σ'⟨h,_⟩;simp only[pG,eq__55 (Keeps.lst ⟨fun _=>h.pre,h.tab⟩ h0 hv),aK]
  ·rintro i s U σ'⟨h,he⟩⟨k1,k2⟩hs;have oks:=hn s (aT hs);have hlen:σ'.length=σ.length+5*i:=by
    have :=h.len;rw[bP]at this;have :=eq__10 hs;omega
   have ld:s.deps.length≤lim:=eq__6 (aL oks.depl (by decide));have lsu:s.setup.length≤lim:=eq__6 (aL oks.setupl (by decide));have lta:s.targets.length≤lim:=eq__6 (aL oks.targl (by decide));have lfi:s.files.length≤lim:=eq__6 (aL oks.filel (by decide));refine eq__7 (setV (a5 "spec") s.val U) (by nofun) ⟨(by nofun),(by nofun)⟩ ?_;cases heq:eqs s.name with
   |false=>
    refine .inl ⟨σ'++r6 σ'.length s,?_,?_⟩
    ·have e:=eq__838 k oks heq (σ:=σ');unfold tT nOf at e;nofun;rw[←hlen];exact e
    ·rw[eq__37 hs];refine⟨h.more s,?_⟩;unfold sF at*;rw[List.any_append,he];simp[heq]
   |true=>
    refine .inr (eq__28 (σ'.length+1) (σ'++[.inst 223 [],.exn 78 []]) ?_ ⟨?_,eq__66,?_,get_app h.tab⟩)
    ·have e:=eq__839 (k+2) oks heq (σ:=σ');unfold tT nOf at e;nofun
    ·exact hG.mpr (eq__2 s (aT hs) heq)
    ·intro j j0 jb;rw[bD (by exact eq__29 [_,_,_,_] (.lt Z0 Z1) (.qe Z1 (.a Z2 (.m 5 Z3))) (.lt Z0 Z2) rfl hlen jb)];exact h.pre j0 jb
 ·rintro σ'⟨h,he⟩;simp_arith[];refine eq__4 (eq__555 ?_);refine eq__196 ?_;have ct:=eq__854 k h hn few;generalize hc:σ'.length=c at ct;have mk:∀o,callD (Tn (k+2)) 60 0 dControl [.ref c,.lst (qR σ.length ss)] (σ'++[.inst 368 []])=o→qM (Tn (k+2)) [.lst (qR σ.length ss)] [] σ'=o.bind (uE c):=by
   rintro o rfl;unfold qM;rw[hc]
  rcases ct with⟨σ₂,e,nd,hd,ht,W⟩|⟨k',σ₂,e,nd,hx,kp⟩|⟨k',σ₂,e,nd,hd,hx,kp⟩
  ·have e2:=mk _ e;refine eq__49 (v:=.ref c) (σ':=σ₂) (by
    skip;exact e2) (eq__875 (.inr ⟨he,.inr ⟨c,.inr (eq__296 σ₂ rfl nd hd ht W)⟩⟩))
  ·have e2:=mk _ e;refine eq__550 (k':=k') (σ':=σ₂) (by
    skip;exact e2) (eq__197 (v:=.str (a5 "file")) (σ':=σ₂) ?_ (.inr ⟨he,.inl (eq__7 σ₂ rfl nd kp)⟩));nofun
  ·have e2:=mk _ e;refine eq__550 (k':=k') (σ':=σ₂) (by
    skip;exact e2) (eq__197 (v:=.str (a5 "task")) (σ':=σ₂) ?_ (.inr ⟨he,.inr ⟨c,.inl (eq__27 σ₂ rfl nd hd kp)⟩⟩));nofun
 ·(intro k' σ' hp1_;obtain⟨he,hx,kp⟩:=hp1_);refine eq__197 (v:=.str (a5 "name")) (σ':=σ') ?_ ?_;·nofun
  ·exact .inl (eq__7 σ' rfl he kp)
theorem eq__557:∀n∈names8,pM n=false:=fun n h=>by
 have' this:names8.all (fun n=>!pM n)=true:=by kernel_rfl
 simpa using aP.mp this n h
theorem eq__198:∀p∈pats8,pM p=true:=fun n h=>by
 have' this:pats8.all pM=true:=by kernel_rfl
 exact aP.mp this n h
theorem eq__133{e:Ag}{x:Str}{Q:Out SS Flo→Prop}(P:Val→Prop)(h:∃v,P v∧ev T n fr e σ=.ok v σ')(hp:fr.mayPut x=true)(k:∀v,P v→qA (exs T (n+1) r (fr.put x v) σ') Q):qA (exs T (n+2) (.Assign [.Name x p] e pos::r) fr σ) Q:=by
 refine eq__1 h fun v hv h=>?_
 exact eq__12 h hp (k v hv)
theorem eq__119(l:List Str)(z:Int)(m:Int)(h0:0<m)(hm:m≤l.length):0≤z%m∧∃x∈l,(l.map Val.str)[(z%m).toNat]?=some (.str x):=by
 have' h1:=mW z (show m≠0 by omega)
 have' h2:=lN z h0
 refine⟨h1,?_⟩
 have lt:(z%m).toNat<l.length:=by omega
 refine eq__2 (l[(z%m).toNat]) (fP lt) ?_
 rw[aK,aW lt]
 rfl
theorem eq__199[Decidable (b=true)]:(if b=true then Out.ok true σ else Out.ok false σ)=Out.ok b σ:=by cases b<;>simp
theorem eq__558(x:Int):x%4=0∨x%4=1∨x%4=2∨x%4=3:=by
 have' h1:=mW x (show(4:Int)≠0 by decide)
 have' h2:=lN x (show(0:Int)<4 by decide)
 generalize x%4=r at h1 h2⊢
 rcases jM h1 with⟨k,rfl⟩
 clear h1;match k,iA.mp h2 with
 |0,_=>exact .inl rfl
 |1,_=>exact .inr (.inl rfl)
 |2,_=>exact .inr (.inr (.inl rfl))
 |3,_=>exact .inr (.inr (.inr rfl))
theorem eq__200{b:Prop}[Decidable b]:(if b then Out.ok true σ else Out.ok false σ)=Out.ok (decide b) σ:=by by_cases h:b<;>simp[h]
noncomputable def fl4(k:Nat):Str:=match k with|0=>nOf "f"|1=>nOf "g"|2=>nOf "h"|_=>nOf "a"
theorem eq__881(k:Nat)(n:Int):∃s,SpecOk s∧callD (Tn (k+1)) 60 0 d497 [.int n] σ=.ok s.val σ:=by
 intros n0 St σ Nat k Int n
 have' hB:d497.body=d497.body:=rfl
 conv at hB=>rhs;whnf
 have' hS:d497.scope=d497.scope:=rfl
 conv at hS=>rhs;whnf
 have' hP:d497.pars=d497.pars:=rfl
 conv at hP=>rhs;whnf
 refine eq__40 (d:=d497) (vs:=[.int n]) (σ:=σ) (T:=Tn (k+1)) (n:=60) (code:=0) (R:=fun o=>∃s,SpecOk s∧o=.ok s.val σ) (by nofun) ?_
 simp_arith[hP,hB,hS,aG,aQ,bJ,bT]
 refine eq__12 (v:=.int n.natAbs) (σ':=σ) (by nofun) (by nofun) ?_
 generalize(n.natAbs:Int)=v
 have' en:=eq__412 k σ
 have' ln:names8.length=8:=rfl
 have' lp:pats8.length=8:=rfl
 have' lf:files4.length=4:=rfl
 refine eq__14 (eq__119 names8 v 8 (by decide) (by rw[ln];decide)) fun z1 q1_=>?_;rcases q1_ with⟨x1,hx1,e1⟩
 refine eq__14 (eq__119 names8 (v/16) 7 (by decide) (by rw[ln];decide)) fun z2 q1_=>?_;rcases q1_ with⟨x2,hx2,e2⟩
 refine eq__14 (eq__119 pats8 (v/16) 8 (by decide) (by rw[lp];decide)) fun z3 q1_=>?_;rcases q1_ with⟨x3,hx3,e3⟩
 refine eq__14 (eq__119 pats8 (v/128) 8 (by decide) (by rw[lp];decide)) fun z4 q1_=>?_;rcases q1_ with⟨x4,hx4,e4⟩
 refine eq__14 (eq__119 names8 (v/4096) 7 (by decide) (by rw[ln];decide)) fun z5 q1_=>?_;rcases q1_ with⟨x5,hx5,e5⟩
 refine eq__14 (eq__119 files4 (v/262144) 4 (by decide) (by rw[lf];decide)) fun z6 q1_=>?_;rcases q1_ with⟨x6,hx6,e6⟩
 refine eq__133 (σ':=σ) (fun v=>∃nm∈names8,v=.str nm) ?_ (by nofun) ?_
 ·by_cases h:v%16<15;·refine⟨.str x1,(eq__2 x1 hx1 rfl),?_⟩;simpa[eq__21,eq__128,eq__11,eq__22,eq__9,bL]using[h,en,z1,e1]
  ·refine⟨.str (nOf "a"),(eq__2 (nOf "a") (by decide) rfl),?_⟩;simpa![eq__11,eq__21]using[h]
 rintro _⟨nm,hnm,rfl⟩
 refine eq__133 (σ':=σ) (fun v=>∃ds:List Str,v=.lst (ds.map .str)∧ds.length≤2∧∀d∈ds,(pM d=false∧d∈names8)∨(pM d=true∧d∈pats8)) ?_ (by nofun) ?_
 ·have' hz:=eq__558 (v/1024);have' a2:=eq__557 x2 hx2;have' a3:=eq__198 x3 hx3;have' a4:=eq__198 x4 hx4;rcases hz with hz|hz|hz|hz;·refine eq__2 (.lst []) ⟨[],rfl,by decide,fun d h=>(by contradiction)⟩ ?_;simpa[eq__128,eq__11,eq__22,eq__9,bL,aR,bG,cT,b7,aV]using[en,z2,z3,z4,e2,e3,e4,hz,bN,eq__6 (show 0+1≤1000 by decide),eq__6 (show 0+1+1≤1000 by decide),eq__6 (show 0+1+1+1+1≤1000 by decide)]
  ·refine eq__2 (.lst [.str x2]) ⟨[x2],rfl,by simp,fun d h=>by rw[aA.mp h];exact .inl ⟨a2,hx2⟩⟩ ?_;simpa[eq__128,eq__11,eq__22,eq__9,bL,aR,bG,cT,b7,aV]using[en,z2,z3,z4,e2,e3,e4,hz,bN,eq__6 (show 0+1≤1000 by decide),eq__6 (show 0+1+1≤1000 by decide),eq__6 (show 0+1+1+1+1≤1000 by decide)]
  ·refine eq__2 (.lst [.str x3]) ⟨[x3],rfl,by simp,fun d h=>by rw[aA.mp h];exact .inr ⟨a3,hx3⟩⟩ ?_;simpa[eq__128,eq__11,eq__22,eq__9,bL,aR,bG,cT,b7,aV]using[en,z2,z3,z4,e2,e3,e4,hz,bN,eq__6 (show 0+1≤1000 by decide),eq__6 (show 0+1+1≤1000 by decide),eq__6 (show 0+1+1+1+1≤1000 by decide)]
  ·refine eq__2 (.lst [.str x2,.str x4]) ⟨[x2,x4],rfl,by simp,fun d h=>by
    clear e2;rcases bC.mp h with rfl|h;·exact .inl ⟨a2,hx2⟩
    ·rw[aA.mp h];exact .inr ⟨a4,hx4⟩⟩ ?_;simpa[eq__128,eq__11,eq__22,eq__9,bL,aR,bG,cT,b7,aV]using[en,z2,z3,z4,e2,e3,e4,hz,bN,eq__6 (show 0+1≤1000 by decide),eq__6 (show 0+1+1≤1000 by decide),eq__6 (show 0+1+1+1+1≤1000 by decide)]
 rintro _⟨ds,rfl,dl,dk⟩
 refine eq__133 (σ':=σ) (fun v=>∃ds:List Str,v=.lst (ds.map .str)∧ds.length≤1∧∀d∈ds,d∈names8) ?_ (by nofun) ?_
 ·cases h:(v/32768%8==1)with
  |true=>
   refine eq__2 (.lst [.str x5]) ⟨[x5],rfl,by simp,fun d h=>by simp only[aA.mp h];exact hx5⟩ ?_;simpa[eq__21,eq__128,eq__11,eq__22,eq__9,bL,eqV,eq__91,aR,bG]using[h,en,z5,e5,bN,eq__6 (show 0+1≤1000 by decide),eq__6 (show 0+1+1≤1000 by decide),eq__6 (show 0+1+1+1+1≤1000 by decide)]
  |false=>
   refine eq__2 (.lst []) ⟨[],rfl,by decide,fun d h=>(by contradiction)⟩ ?_;simpa[eq__11,eq__21,eqV,eq__91,aR,bG]using[h,bN,eq__6 (show 0+1≤1000 by decide),eq__6 (show 0+1+1≤1000 by decide),eq__6 (show 0+1+1+1+1≤1000 by decide)]
 rintro _⟨su,rfl,sl,sk⟩
 refine eq__133 (σ':=σ) (fun v=>∃ds:List Str,v=.lst (ds.map .str)∧ds.length≤1∧∀d∈ds,d∈files4) ?_ (by nofun) ?_
 ·have hz:=eq__558 (v/7);rcases hz with hz|hz|hz|hz;·refine⟨.lst [],⟨[],rfl,by decide,fun d h=>(by cases h)⟩,?_⟩;simpa[eq__22,eq__9,bL,aR,bG,cT,b7,aV]using[z6,e6,hz,bN,eq__6 (show 0+1≤1000 by decide),eq__6 (show 0+1+1≤1000 by decide),eq__6 (show 0+1+1+1+1≤1000 by decide)]
  ·refine eq__2 (.lst [.str x6]) ⟨[x6],rfl,by simp,fun d h=>by simp only[aA.mp h];exact hx6⟩ ?_;simpa[eq__22,eq__9,bL,aR,bG,cT,b7,aV]using[z6,e6,hz,bN,eq__6 (show 0+1≤1000 by decide),eq__6 (show 0+1+1≤1000 by decide),eq__6 (show 0+1+1+1+1≤1000 by decide)]
  ·refine⟨.lst [],⟨[],rfl,by decide,fun d h=>(by cases h)⟩,?_⟩;simpa[eq__22,eq__9,bL,aR,bG,cT,b7,aV]using[z6,e6,hz,bN,eq__6 (show 0+1≤1000 by decide),eq__6 (show 0+1+1≤1000 by decide),eq__6 (show 0+1+1+1+1≤1000 by decide)]
  ·refine⟨.lst [],⟨[],rfl,by decide,fun d h=>(by cases h)⟩,?_⟩;simpa[eq__22,eq__9,bL,aR,bG,cT,b7,aV]using[z6,e6,hz,bN,eq__6 (show 0+1≤1000 by decide),eq__6 (show 0+1+1≤1000 by decide),eq__6 (show 0+1+1+1+1≤1000 by decide)]
 rintro _⟨tg,rfl,tl,tk⟩
 simp_arith[]
 refine eq__133 (σ':=σ) (fun v=>∃ds:List Str,v=.lst (ds.map .str)∧ds.length≤4∧ds.Nodup∧∀d∈ds,d∈files4) ?_ (by nofun) ?_
 ·refine eq__2 (.lst ((([0,1,2,3].filter fun k:Nat=>v/11/5^k%5==1).map fl4).map .str)) ⟨_,rfl,?_⟩ ?_;·rw[cB,cB,cB,cB,jT];cases(v/11/5^0%5==1)<;>cases(v/11/5^1%5==1)<;>cases(v/11/5^2%5==1)<;>cases(v/11/5^3%5==1)<;>decide
  ·simp_arith[];rw[eq__45 (sr:=.rng 4) (σ₁:=σ) (fun U=>look (a5 "value") U=some (.int v)∧look (a5 "_law_files") U=none∧look (a5 "range") U=none) [0,1,2,3] (fun k:Nat=>Val.int k) (fun k=>if(v/11/5^k%5==1)then[.str (fl4 k)]else[])]
   ·rw[eq__70,c8];have' this:([0,1,2,3].filter fun k:Nat=>v/11/5^k%5==1).length≤lim:=eq__6 (aL (b9 _ _) (by decide));simpa[decide_true]using[a7,this];try rfl
   ·nofun
   ·decide
   ·nofun
   ·exact eq__30 (by nofun) (by nofun) (by nofun)
   ·decide
   ·rfl
   ·intro i;rcases i with _|_|_|_|i;·rfl
    ·rfl
    ·rfl
    ·rfl
    ·refine(?_:(some (if((i+4:Nat):Int)<4 then some (Val.int ((i+4:Nat):Int))else none):Option (Option Val))=some none);rw[if_neg (by omega)]
   ·intro v _;split;exact aN 1;exact bN 1
   ·rintro j hj U⟨k1,k2,k3⟩;refine eq__7 (setV (a5 "k") (.int j) U) (by nofun) ⟨(by nofun),(by nofun),(by nofun)⟩ (eq__7 (v/11/5^j%5==1) ?_ (fun h=>⟨.str (fl4 j),?_,if_pos h⟩) (fun h=>if_neg (by exact(h)▸aC)))
    ·simp only[bC,c7,or_false]at hj;rcases hj with rfl|rfl|rfl|rfl
     ·simpa[eq__11,pZ,rE,pD,aG,aQ,bB,bY,aD,aZ,eq__79,eq__21,eqV,eq__91]using[eq__8,k1,dO];first|exact eq__199|exact eq__200
     ·simpa[eq__11,pZ,rE,pD,aG,aQ,bB,bY,aD,aZ,eq__79,eq__21,eqV,eq__91]using[eq__8,k1,dO];first|exact eq__199|exact eq__200
     ·simpa[eq__11,pZ,rE,pD,aG,aQ,bB,bY,aD,aZ,eq__79,eq__21,eqV,eq__91]using[eq__8,k1,dO];first|exact eq__199|exact eq__200
     ·simpa[eq__11,pZ,rE,pD,aG,aQ,bB,bY,aD,aZ,eq__79,eq__21,eqV,eq__91]using[eq__8,k1,dO];first|exact eq__199|exact eq__200
    ·simp only[bC,c7,or_false]at hj;clear h;rcases hj with rfl|rfl|rfl|rfl;all_goals
      simpa[pZ,rE,pD,aG,aQ,bB,bY,aD,aZ,eq__22,eq__9,files4,bL,b7,aV]using[eq__8,k2,dO];rfl
 rintro _⟨fi,rfl,fl,fd,fk⟩
 refine eq__49 (v:=Spec.val ⟨nm,ds,su,tg,fi⟩) (σ':=σ) (by nofun) (eq__2 ⟨nm,ds,su,tg,fi⟩ ⟨hnm,dk,dl,sk,sl,tk,tl,fk,fd,fl⟩ rfl)
theorem eq__559(f:Str):∀(ss:List Spec)(r:List Str),(∀s∈ss,s.targets.contains f=false)→qJ ss r f=r
 |[],_,_=>rfl
 |s::ss,r,h=>by
  have e:qJ (s::ss) r f=qJ ss (if s.targets.contains f&&!r.contains s.name then r++[s.name]else r) f:=rfl;rw[e,h s (aO ..),nB,if_neg aC];exact eq__559 f ss r fun s' hs=>h s' (aU _ hs)
theorem eq__560(f:Str):∀(ss:List Spec)(r:List Str),(ss.flatMap (·.targets)).Nodup→qJ ss r f=tY (qO ss) r f
 |[],_,_=>rfl
 |s::ss,r,nd=>by
  have e:qJ (s::ss) r f=qJ ss (if s.targets.contains f&&!r.contains s.name then r++[s.name]else r) f:=rfl;rw[cM]at nd;refine eq__56 (cL.mp nd) fun n1 n2 n3=>?_;cases hc:s.targets.contains f with
  |false=>
   rw[e,hc,nB,if_neg aC,eq__560 f ss r n2];unfold tY;rw[eq__161,eq__161,cB,hc,if_neg aC]
  |true=>
   have hno:∀s'∈ss,s'.targets.contains f=false:=fun s' hs=>by
    rw[eT];intro h;exact n3 f (bF.mp hc) f (jJ.mpr (eq__2 s' hs (bF.mp h))) rfl
   rw[e,eq__559 f ss _ hno,hc,iN];unfold tY;rw[eq__161,cB,hc,if_pos rfl,aG,List.head?_cons];dsimp only;cases r.contains s.name<;>rfl
theorem eq__882(ss:List Spec)(s:Spec)(nd:(ss.flatMap (·.targets)).Nodup):qW ss s=tD (qO ss) (pK ss s (s.deps.filter pM).length) s.files:=by
 unfold qW tD
 congr 1
 funext r f
 exact eq__560 f ss r nd
theorem eq__883{b c:Nat}{t:Bool}{s:Spec}(hs:ss[i]?=some s):(vC b c ss rho t).td i=tD (qO ss) (pK ss s (s.deps.filter pM).length) s.files:=by
 have li:=eq__10 hs
 refine(?_:tdI _ _ _ i=_)
 skip
 refine(?_:(match ss[i]? with|some s=>if i<ss.length then tD (qO ss) (tdW ss ss.length i) s.files else tdW ss ss.length i|none=>tdW ss ss.length i)=_)
 rw[hs]
 dsimp only
 rw[if_pos li]
 unfold tdW
 rw[hs]
 dsimp only
 rw[if_pos li]
theorem eq__561{b c:Nat}{t:Bool}(hn:∀x∈ss,SpecOk x):rX b c ss rho t=ss.all fun s=>(missing (nms ss) s).isEmpty:=by
 intros n1 LSp ss RhoT rho Nat b Nat c Bool t
 have key:∀i s,ss[i]?=some s→sN {w0 b c ss rho t with m:=ss.length,mo:=ss.length,td:=tdW ss ss.length} i=(missing (nms ss) s).isEmpty:=by
  intro i s hs;have oks:=hn s (aT hs);have e:sN {w0 b c ss rho t with m:=ss.length,mo:=ss.length,td:=tdW ss ss.length} i=((pK ss s (s.deps.filter pM).length).all (fun d=>(nms ss).contains d)&&s.setup.all fun d=>(nms ss).contains d):=by
   refine(?_:((tdW ss ss.length i).all (fun d=>(nms ss).contains d)&&(((ss[i]?).map fun s=>s.setup.all fun d=>(nms ss).contains d).getD true))=_);unfold tdW;rw[hs];dsimp only;rw[if_pos (eq__10 hs)];rfl
  rw[e,eO,aF,aP,aP,cK,List.eq_nil_iff_forall_not_mem];unfold missing;constructor
  ·rintro⟨h1,h2⟩d hd;rw[bU,bW,aF]at hd;refine eq__56 hd fun hd hd1 hd2=>?_;have :(nms ss).contains d=true:=by
    refine cD (hd) (fun hd=>?_) fun hd=>?_;·exact h1 d (by skip;exact cV _ (bU.mpr ⟨hd,hd1⟩))
    ·exact h2 d hd
   rw[this]at hd2;(injection hd2)
  ·intro h;refine⟨fun d hd=>?_,fun d hd=>?_⟩
   ·unfold pK at hd;refine cD (bW.mp hd) (fun hd=>?_) fun hd=>?_;·refine eq__14 (bU.mp hd) fun h1 h2=>?_;cases hc:(nms ss).contains d with
     |true=>rfl
     |false=>exact absurd (bU.mpr ⟨cV _ h1,by rw[hc,h2];rfl⟩) (h d)
    ·refine eq__1 (jJ.mp hd) fun p _ h2=>?_;exact bF.mpr (bU.mp h2).1
   ·cases hc:(nms ss).contains d with
    |true=>rfl
    |false=>exact absurd (bU.mpr ⟨cR _ hd,by rw[hc,eq__557 d (oks.setup d hd)];rfl⟩) (h d)
 unfold rX s0
 rw[eO,aP,aP]
 constructor
 ·intro h s hs;rcases iC hs with⟨i,hi,rfl⟩;have :=h i (f9.mpr hi);rwa[key i _ (aW hi)]at this
 ·intro h i hi;have hi:i<ss.length:=f9.mp hi;rw[key i _ (aW hi)];exact h _ (fP hi)
theorem TellR.one{ns:List Str}{F:List Str}{g:Str}(h:TellR ns tg F f)(h':TellR ns tg F g):f=g:=by
 intros n2 Str f LSS tg LS ns LS F Str g
 rcases h with⟨i,h1,h2,h3⟩
 rcases h' with⟨j,h4,h5,h6⟩
 have mem:∀{i j:Nat}{x:Str},i<j→F[i]?=some x→x∈F.take j:=by
  intro i j x hij hx;refine aT (i:=i) ?_;rw[List.getElem?_take,if_pos hij];exact hx
 rcases Nat.lt_trichotomy i j with h|h|h
 ·have :=h6 f (mem h h1);rw[h2]at this;cases this
 ·clear h6;subst h;exact a6 (h1.symm.trans h4)
 ·have :=h3 g (mem h h4);rw[h5]at this;cases this
theorem TellR.not{ns:List Str}{F:List Str}(h:TellR ns tg F f)(h':∀f∈F,(pC ns tg f).isSome=true):False:=by
 intros n3 X F Str f LSS tg LS ns
 rcases h with⟨i,h1,h2,h3⟩
 have :=h' f (aT h1)
 rw[h2]at this
 cases this
theorem eq__562:∀l:List Str,r7 (l.map .str) (l.map .str)=some true
 |[]=>rfl
 |x::r=>by
  rw[aG];rw[eq__824,eq__562 r,show qK (.str x) (.str x)=some true from congrArg some (beq_self_eq_true x)];rfl
theorem eq__290{σ:St}:∀l:List Str,rT σ (l.map .str) (l.map .str)=some true
 |[]=>rfl
 |x::r=>by
  rw[aG];rw[eq__525,eq__290 r,show eq1 σ (.str x) (.str x)=some true from congrArg some (beq_self_eq_true x)];rfl
theorem eq__563{σ:St}:∀(as bs:List Nat),as.length=bs.length→(∀(i a b:Nat),as[i]?=some a→bs[i]?=some b→∃l:List Str,σ[a]?=some (.list (l.map .str))∧σ[b]?=some (.list (l.map .str)))→rT σ (as.map .ref) (bs.map .ref)=some true
 |[],[],_,_=>rfl
 |a::as,b::bs,hl,h=>by
  rw[aG,aG,eq__525];refine eq__1 (h 0 a b rfl rfl) fun l h1 h2=>?_;have e:eq1 σ (.ref a) (.ref b)=some true:=by
   refine(?_:(match pB σ (.ref a),pB σ (.ref b)with|some as,some bs=>r7 as bs|_,_=>none)=_);rw[show pB σ (.ref a)=some (l.map .str)by simp only[eq__9,h1],show pB σ (.ref b)=some (l.map .str)by simp only[eq__9,h2]];exact eq__562 l
  rw[e,eq__563 as bs (by simpa using hl) (fun i a' b' ha hb=>h (i+1) a' b' ha hb)];rfl
 |[],b::bs,hl,_=>by simp at hl
 |a::as,[],hl,_=>by simp at hl
theorem Wrl.ahead{w:Wp}(h:Wrl σ w)(p:Pre σ σ'):Wrl σ' w:=
 have k:∀{j:Nat}{c:Cell},σ[j]?=some c→σ'[j]?=some c:=fun e=>(p _ (eq__50 e)).trans e
 ⟨h.b0,h.bc,fun e=>k (h.inst e),fun e=>k (h.file e),fun e=>k (h.dep e),fun e=>k (h.wild e),fun e=>k (h.targ e),k h.ctl,k h.tasks,k h.targs,k h.order,fun{j}j0 jb=>by
  rw[p j (by have :=eq__50 h.ctl;have :=h.bc;omega)];exact h.pre j0 jb,k h.tab⟩
def uL(o:Out SS Flo):Prop:=∃fr' σ' b,o=.ok (.ret (.bool true)) (fr',σ')∧σ'[0]?=some (.tab b)
structure uM(xs:List Str):Prop where
 xl:xs.length<30
 xd:(xs.filter (!pM ·)).Nodup
 xm:xs.Pairwise fun x y=>pM x=true→pM y=true
 xp:∀x∈xs,pM x=true→x∈pats8
structure GlOk(U:List (Str×Val)):Prop where
 g1:look (a5 "list") U=none
 g2:look (a5 "str") U=none
 g3:look (a5 "isinstance") U=none
 g4:look (a5 "_law_selected") U=none
 g5:look (a5 "InvalidCommand") U=none
 g6:look (a5 "_law_names") U=none
 g7:look (a5 "_law_files") U=none
 g8:look (a5 "_law_patterns") U=none
 g9:look (a5 "abs") U=none
 g10:look (a5 "_law_made") U=none
 g11:look (a5 "_law_refusal") U=none
 g12:look (a5 "_law_needs") U=none
def SpecV(b:Nat)(rho:Nat→Option Cell)(V:Val)(l:List Val):Prop:=V=.lst l∨∃j,V=.ref j∧0<j∧j<b∧rho j=some (.list l)
theorem SpecV.get{b:Nat}{l:List Val}(h:SpecV b rho V l)(hp:∀{k},0<k→k<b→σ[k]?=rho k):pB σ V=some l:=by
 rcases h with rfl|⟨j,rfl,j0,jb,hj⟩
 ·rfl
 ·refine(?_:σ[j]?.bind r4=some l);rw[hp j0 jb,hj];rfl
theorem SpecV.mk{l:List Val}{t:Bool}(h0:σ[0]?=some (.tab t))(hv:pB σ V=some l):SpecV σ.length (fun j=>σ[j]?) V l:=by
 intros n3 X V St σ LV l Bool t
 cases V with
 |ref k=>
  have e:pB σ (.ref k)=σ[k]?.bind r4:=rfl;rw[e]at hv;have lt:k<σ.length:=by
   by_cases hk:k<σ.length;·exact hk
   ·rw[cE (by exact eq__3 [_,_] (.le Z0 Z1) (.nlt Z1 Z0) rfl hk)]at hv;(injection hv)
  have k0:0<k:=by
   clear lt e;rcases lM k with rfl|h;·rw[h0]at hv;(injection hv)
   ·exact h
  refine .inr (eq__27 k rfl k0 lt ?_);exact eq__320 hv
 |lst vs=>cases hv;exact .inl rfl
 |_=>injection hv
variable{U:List (Str×Val)}
theorem eq__564{b c:Nat}{z:Int}(W:Wrl σ (vC b c ss rho false))(hsv:SpecV b rho V (ss.map Spec.val))(hn:∀x∈ss,SpecOk x)(few:ss.length≤8)(G:GlOk U)(e0:look (a5 "error") U=none)(u1:look (a5 "control") U=some (.ref c))(u2:look (a5 "specs") U=some V)(u3:look (a5 "told") U=some (.lst (xs.map .str)))(u4:look (a5 "begin") U=some (.int z))(X:uM xs):
  qA (exs (Tn 5) 47 (lawD.body.drop 13) {scope:=lawD.scope,fn:=true,vars:=U,code:=0} σ) uL:=by
 intros n11 LS xs St σ LSp ss RhoT rho Val V LD U Nat b Nat c Int z
 have hB:lawD.body=lawD.body:=rfl
 conv at hB=>rhs;whnf
 have hS:lawD.scope=lawD.scope:=rfl
 conv at hS=>rhs;whnf
 rcases G with⟨g1,g2,g3,g4,g5,g6,g7,g8,g9,g10,g11,g12⟩
 rcases X with⟨xl,xd,xm,xp⟩
 have hv:pB σ V=some (ss.map Spec.val):=hsv.get W.pre
 have ctl:σ[c]?=some (.inst 368 (pT c .none)):=W.ctl
 have ln:(nms ss).length≤8:=by unfold nms;rw[a7];exact few
 cases hz:(z/16%8==7)with
 |true=>
  refine eq__14 (eq__866 4 W) fun e W'=>?_;have e:callD (Tn 4) 60 0 d358 [.ref c,.none] σ=.ok .none (σ.set c (.inst 368 (pT c (.ref (c+3))))):=e;have ctl':(σ.set c (.inst 368 (pT c (.ref (c+3)))))[c]?=some (.inst 368 (pT c (.ref (c+3)))):=W'.ctl;have order':(σ.set c (.inst 368 (pT c (.ref (c+3)))))[c+3]?=some (.list ((nms ss).map .str)):=by
   have h:(σ.set c (.inst 368 (pT c (.ref (c+3)))))[c+3]?=some (.list (((ss.take ss.length).map (·.name)).map .str)):=W'.order;rw[b8]at h;exact h
  have hv':pB (σ.set c (.inst 368 (pT c (.ref (c+3))))) V=some (ss.map Spec.val):=hsv.get W'.pre;have tab':(σ.set c (.inst 368 (pT c (.ref (c+3)))))[0]?=some (.tab false):=W'.tab;refine eq__26 (σ':=σ) (by nofun) ?_;refine eq__33 (v:=.none) (σ':=σ.set c (.inst 368 (pT c (.ref (c+3))))) (by nofun) ?_;clear e;generalize σ.set c (.inst 368 (pT c (.ref (c+3))))=σ₂ at*;refine eq__49 (v:=.bool true) (σ':=σ₂) (by
   simpa[eq__11,pT,eq__21]using[u1,ctl'];rw[eq__45 (sr:=.val V) (σ₁:=σ₂) (fun _=>True) ss Spec.val (fun s=>[.str s.name])]
   ·rw[eq__82];try simpa[eq__11,decide_true]using[a7,eq__6 (aL few (by decide))]
    rw[show(ss.map fun x=>Val.str x.name)=(nms ss).map .str by unfold nms;rw[c8];rfl];(nofun;all_goals((try simp_all_arith[eq__11,eqV,eq__91,eq__9,order',eq__290]);try rfl);done)
   ·(nofun;done)
   ·decide
   ·(nofun;done)
   ·trivial
   ·exact eq__3 [_] (.lt Z0 (.n 1000)) (.le Z0 (.n 8)) rfl few
   ·exact eq__75 hv'
   ·intro i;simp only[pG,eq__55 hv',aK]
   ·intro v _;exact aN _
   ·rintro s hs V' _;exact eq__7 (setV (a5 "spec") s.val V') (by nofun) trivial (eq__7 true rfl (fun _=>⟨.str s.name,(by nofun),rfl⟩) (fun h=>by(injection h)))) ⟨_,σ₂,_,rfl,tab'⟩
 |false=>
  refine eq__23 (σ':=σ) (by nofun) ?_;refine eq__4 (eq__15 ?_);have xll:xs.length≤lim:=eq__6 (by exact eq__3 [_] (.le Z0 (.n 1000)) (.lt Z0 (.n 30)) rfl xl);refine eq__12 (v:=.lst (xs.map .str)) (σ':=σ) (by nofun) (by nofun) ?_;refine eq__1 (eq__874 3 (xs:=xs) hv hn few xl xp) fun σ₁ pr hd=>?_;have W1:=W.ahead pr;have ctl1:σ₁[c]?=some (.inst 368 (pT c .none)):=W1.ctl;have cs:c+3<σ.length:=eq__50 W.order;have pc:=eq__865 0 W1 hn few rfl rfl rfl (fun _=>rfl) xl xd xm xp;rcases hd with⟨r,e,h1,h2,hr⟩|⟨f,e,h1⟩
  ·refine eq__12 (v:=.ref r) (σ':=σ₁) (by nofun) (by nofun) ?_;simp_arith[];refine eq__196 ?_;rcases pc with⟨r2,σ₂,op',e2,h3,h4,W2,p2⟩|⟨f,k',σ₂,op',e2,h3,_⟩
   ·refine eq__33 (v:=.none) (σ':=σ₂) (by nofun) ?_;refine eq__4 (eq__555 ?_);have ctl2:σ₂[c]?=some (.inst 368 (pT c (.ref r2))):=W2.ctl;have hr2:σ₂[r]?=some (.list (((flt (nms ss) xs).filterMap (pC (nms ss) (qO ss))).map .str)):=by
     rw[p2 r (by skip;exact eq__29 [_,_,_] (.lt (.a Z0 (.n 3)) Z1) (.lt (.a Z0 (.n 3)) Z2) (.le Z2 Z1) rfl cs hr) (eq__50 h2)];exact h2
    have h4:σ₂[r2]?=some (.list (((flt (nms ss) xs).filterMap (pC (nms ss) (qO ss))).map .str)):=h4;refine eq__49 (v:=.bool true) (σ':=σ₂) ?_ ⟨_,σ₂,_,rfl,W2.tab⟩;nofun
   ·exact(h3.not h1).elim
  ·refine eq__12 (v:=.str f) (σ':=σ₁) (by nofun) (by nofun) ?_;simp_arith[];refine eq__196 ?_;rcases pc with⟨r2,σ₂,op',e2,h3,_⟩|⟨f',k',σ₂,op',e2,h3,h4,W2,p2⟩;·exact(h1.not h3).elim
   ·have :=h1.one h3;clear h3;subst this;refine eq__250 (k':=k') (σ':=σ₂) (by nofun) ?_;refine eq__197 (v:=.bool true) (σ':=σ₂) ?_ ⟨_,σ₂,_,rfl,W2.tab⟩;unfold tU at h4;nofun
noncomputable def glNames:List Str:=["list","str","isinstance","_law_selected","InvalidCommand","_law_names","_law_files","_law_patterns","abs","_law_made","_law_refusal","_law_needs"].map a5
theorem GlOk.put(h:GlOk U){x:Str}(hx:glNames.all (fun g=>!decide (x=g))=true):GlOk (setV x v U):=by
 have k:∀g∈glNames,look g U=none→look g (setV x v U)=none:=fun g hg e=>by
  have :=aP.mp hx g hg;rw[eq__8,if_neg (by simpa using this)];exact e
 refine⟨k _ ?_ h.g1,k _ ?_ h.g2,k _ ?_ h.g3,k _ ?_ h.g4,k _ ?_ h.g5,k _ ?_ h.g6,k _ ?_ h.g7,k _ ?_ h.g8,k _ ?_ h.g9,k _ ?_ h.g10,k _ ?_ h.g11,k _ ?_ h.g12⟩<;>decide
noncomputable def sO(n:Int):Str:=(pats8[((n.natAbs:Int)%8).toNat]?).getD default
theorem eq__565(n:Int):0≤(n.natAbs:Int)%8∧sO n∈pats8∧(pats8.map Val.str)[((n.natAbs:Int)%8).toNat]?=some (.str (sO n)):=by
 have h1:0≤(n.natAbs:Int)%8:=by omega
 have lt:((n.natAbs:Int)%8).toNat<pats8.length:=by
  have :pats8.length=8:=rfl;omega
 refine eq__30 h1 ?_ ?_
 ·unfold sO;rw[aW lt];exact fP lt
 ·unfold sO;rw[aK,aW lt];rfl
noncomputable def tell12:List Str:=names8.take 7++files4++[a5 "zz"]
theorem eq__884:∀n∈tell12,pM n=false:=fun n h=>by
 have :tell12.all (fun n=>!pM n)=true:=by kernel_rfl
 simpa using aP.mp this n h
theorem eq__885{b c:Nat}{z:Int}(W:Wrl σ (vC b c ss rho false))(hsv:SpecV b rho V (ss.map Spec.val))(hn:∀x∈ss,SpecOk x)(few:ss.length≤8)(G:GlOk U)(e0:look (a5 "error") U=none)(e1:look (a5 "len") U=none)(u1:look (a5 "control") U=some (.ref c))(u2:look (a5 "specs") U=some V)(u3:look (a5 "script") U=some (.lst (nums.map .int)))(u4:look (a5 "begin") U=some (.int z)):
  qA (exs (Tn 5) 51 (lawD.body.drop 9) {scope:=lawD.scope,fn:=true,vars:=U,code:=0} σ) uL:=by
 intros n11 St σ LI nums LSp ss RhoT rho Val V LD U Nat b Nat c Int z
 have hB:lawD.body=lawD.body:=rfl
 conv at hB=>rhs;whnf
 have hS:lawD.scope=lawD.scope:=rfl
 conv at hS=>rhs;whnf
 refine eq__12 (v:=.ref σ.length) (σ':=σ++[Cell.list []]) (by nofun) (by nofun) ?_
 have W1:=W.app [Cell.list []]
 have cs:c+3<σ.length:=eq__50 W.order
 have q1:(σ++[Cell.list []])[σ.length]?=some (.list (([]:List Str).map .str)):=get_new
 have ks:∃ks:List Int,ks.length≤6∧ks=if nums.length>8 then(nums.take 14).drop 8 else[z,z/3]:=(eq__2 _ (by
  split;·rw[jL,bP];omega
  ·exact gF 2 4) rfl)
 rcases ks with⟨ks,kl,hks⟩
 generalize hq:σ.length=q at*
 generalize σ++[Cell.list []]=σ₁ at*
 have go12:∀(U:List (Str×Val))(σ:St)(xs:List Str),Wrl σ (vC b c ss rho false)→GlOk U→look (a5 "error") U=none→look (a5 "control") U=some (.ref c)→look (a5 "specs") U=some V→look (a5 "told") U=some (.lst (xs.map .str))→look (a5 "begin") U=some (.int z)→uM xs→
   qA (exs (Tn 5) 48 (lawD.body.drop 12) {scope:=lawD.scope,fn:=true,vars:=U,code:=0} σ) uL:=by
  intro U σ xs W G e0 u1 u2 u3 u4 X;cases hz:(z/128%8==7)with
  |true=>
   refine eq__26 (σ':=σ) (by nofun) ?_;refine eq__12 (v:=.lst []) (σ':=σ) (by nofun) (by nofun) ?_;refine eq__4 (eq__15 ?_);have :=eq__564 (xs:=[]) (z:=z) W hsv hn few (G.put (x:=a5 "told") (v:=.lst []) (by decide)) (by nofun) (by nofun) (by nofun) (by nofun;all_goals((try simp_all_arith[eq__11,eq__8,aQ]);try rfl)) (by nofun) ⟨by decide,gP,oY,fun x h=>(by cases h)⟩;simp(decide:=true)only[↓ev_compE,evs,Out.bind_ok,Out.bind_exc,Out.bind_stuck,↓reduceIte,decide_true,decide_false,if_true,if_false,bR,c4,look,bQ,cJ,bS,dA,cA,dB,hB,hS,bZ,c5]at this;exact this
  |false=>
   refine eq__23 (σ':=σ) (by nofun) ?_;refine eq__4 (eq__15 ?_);have :=eq__564 (xs:=xs) (z:=z) W hsv hn few G e0 u1 u2 u3 u4 X;simp(decide:=true)only[↓ev_compE,evs,Out.bind_ok,Out.bind_exc,Out.bind_stuck,↓reduceIte,decide_true,decide_false,if_true,if_false,bR,c4,look,bQ,cJ,bS,dA,cA,dB,hB,hS,bZ,c5]at this;exact this
 have en:=eq__412 4
 refine eq__57 (sr:=.val (.lst (ks.map .int))) (σ':=σ₁) ?_ rfl (ks.map .int)
  (fun i fr σ'=>∃U xs,A13 (fr={scope:=lawD.scope,fn:=true,vars:=U,code:=0}) (Wrl σ' (vC b c ss rho false)) (GlOk U) (look (a5 "error") U=none) (look (a5 "control") U=some (.ref c)) (look (a5 "specs") U=some V) (look (a5 "told") U=some (.ref q)) (look (a5 "script") U=some (.lst (nums.map .int))) (look (a5 "begin") U=some (.int z)) (σ'[q]?=some (.list (xs.map .str))) (xs.length≤i) xs.Nodup (∀x∈xs,pM x=false))
  (by rw[a7];exact eq__3 [_] (.lt Z0 (.n 1000)) (.le Z0 (.n 6)) rfl kl) (eq__54 _ ([]) ⟨(by first|rfl|rw[hS]),W1,G.put (x:=a5 "told") (by decide),(by nofun),(by nofun),(by nofun),(by nofun),(by nofun),(by nofun),q1,aN _,gP,fun x h=>(by cases h)⟩) ?_ ?_ ?_
 ·by_cases hl:nums.length>8
  ·rw[if_pos hl]at hks;have hd:(nums.length:Int)>8:=by omega
   have hk:((nums.map Val.int).take 14).drop 8=ks.map .int:=by rw[hks,kU,iR]
   have hkl:ks.length≤lim:=eq__6 (by exact eq__3 [_] (.le Z0 (.n 1000)) (.le Z0 (.n 6)) rfl kl);(nofun;done)
  ·rw[if_neg hl]at hks;have hd:¬((nums.length:Int)>8):=by omega
   have hl2:[Val.int z,Val.int (z/3)].length≤lim:=eq__6 (gF 2 998);nofun;rw[hks];rfl
 ·rintro i fr σ' _;exact eq__118 _ _ _
 ·rintro i v fr σ'⟨U,xs,rfl,W,G,e0,u1,u2,u3,u4,u5,hq,xl,nd,hs⟩hvi;obtain⟨n,hn1,rfl⟩:∃n,ks[i]?=some n∧v=.int n:=by
   rw[aK]at hvi;refine eq__1 (aJ.mp hvi) fun s h1 h2=>?_;exact eq__2 s h1 h2.symm
  have li:=eq__10 hn1;refine eq__14 (eq__119 tell12 (n.natAbs:Int) 12 (by decide) (by rw[show tell12.length=12 from rfl];decide)) fun z1 q1_=>?_;rcases q1_ with⟨x,hx,hx1⟩;have g1:=G.g6;have g2:=G.g7;have g3:=G.g9;have en:=en σ';have t7:((names8.map Val.str).take 7).drop 0=(names8.take 7).map .str:=rfl;have l7:((names8.take 7).map Val.str).length≤lim:=eq__6 (by decide);have l11:((names8.take 7).map Val.str++files4.map Val.str).length≤lim:=eq__6 (by decide);have l12:((names8.take 7).map Val.str++files4.map Val.str++[Val.str (a5 "zz")]).length≤lim:=eq__6 (by decide);have t12:(names8.take 7).map Val.str++files4.map Val.str++[Val.str (a5 "zz")]=tell12.map .str:=rfl;refine eq__2 ({scope:=lawD.scope,fn:=true,vars:=setV (a5 "number") (.int n) U,code:=0}) (by nofun) ?_;nofun;refine eq__12 (v:=.str x) (σ':=σ') (by nofun) (by nofun) ?_;have G1:=(G.put (x:=a5 "number") (v:=.int n) (by decide)).put (x:=a5 "one") (v:=.str x) (by decide);have xll:xs.length<lim:=small (by exact eq__47 [_,_,_] (.lt Z0 (.n 1000)) (.le Z1 (.n 6)) (.le Z0 Z2) (.lt Z2 Z1) rfl kl xl li);cases hc:xs.contains x with
  |true=>
   refine eq__23 (σ':=σ') (by(nofun;done)) ?_;exact eq__4 (eq__15 (eq__4 (eq__62 .next _ _ rfl trivial (eq__54 _ xs ⟨(by first|rfl|rw[hS]),W,G1,(by nofun),(by nofun),(by nofun),(by nofun),(by nofun),(by nofun),hq,by exact eq__3 [_,_] (.le Z0 (.a Z1 (.n 1))) (.le Z0 Z1) rfl xl,nd,hs⟩))))
  |false=>
   refine eq__26 (σ':=σ') (by(nofun;done)) ?_;refine eq__33 (v:=.none) (σ':=σ'.set q (.list ((xs++[x]).map .str))) (by nofun;all_goals((try simp_all_arith[eq__11,hS,eq__8,u3,hq,nOf,eq__59,a7,xll,aY,aG,aQ]);try rfl)) ?_;refine eq__4 (eq__15 (eq__4 (eq__62 .next _ _ rfl trivial (eq__54 _ (xs++[x]) ⟨(by first|rfl|rw[hS]),W.other (by refine(?_:c+3<q);omega),G1,(by nofun),(by nofun),(by nofun),(by nofun),(by nofun),(by nofun),eq__44 hq,?_,?_,?_⟩))));·rw[aH,dK];exact eq__3 [_,_] (.le (.a Z0 (.n 1)) (.a Z1 (.n 1))) (.le Z0 Z1) rfl xl
   ·refine cL.mpr (eq__30 nd (by simp) ?_);rintro a ha b hb rfl;rw[aA]at hb;clear G1 hx1 hx;subst hb;exact aC (hc.symm.trans (bF.mpr ha))
   ·intro y hy;refine cD (bW.mp hy) (fun hy=>?_) fun hy=>?_;·exact hs y hy
    ·rw[aA.mp hy];exact eq__884 x hx
 ·rintro fr' σ'⟨U,xs,rfl,W,G,e0,u1,u2,u3,u4,u5,hq,xl,nd,hs⟩;rw[a7]at xl;have g1:=G.g8;have g2:=G.g9;have hk2:((nums.map Val.int).take 17).drop 14=((nums.take 17).drop 14).map .int:=by rw[kU,iR]
  have kl2:((nums.take 17).drop 14).length≤3:=by rw[jL,bP];omega
  generalize(nums.take 17).drop 14=ks2 at hk2 kl2;have kll:ks2.length≤lim:=eq__6 (by exact eq__3 [_] (.le Z0 (.n 1000)) (.le Z0 (.n 3)) rfl kl2);have pk:∀x∈ks2.map sO,x∈pats8:=fun x hx=>by
   refine eq__1 (cQ.mp hx) fun n _ q1_=>?_;subst q1_;exact(eq__565 n).2.1
  have sumll:xs.length+ks2.length≤lim:=eq__6 (by exact eq__47 [_,_,_] (.le (.a Z0 Z1) (.n 1000)) (.le Z2 (.n 6)) (.le Z0 Z2) (.le Z1 (.n 3)) rfl kl xl kl2);refine eq__12 (v:=.lst ((xs++ks2.map sO).map .str)) (σ':=σ') (by
   simpa[eq__11,hS]using[u3];rw[eq__45 (sr:=.val (.lst (ks2.map .int))) (σ₁:=σ') (fun U=>look (a5 "_law_patterns") U=none∧look (a5 "abs") U=none) ks2 Val.int (fun n=>[.str (sO n)])]
   ·rw[eq__82];simpa[eq__11,eq__9]using[a7,kll,hq,aH,sumll,aY,c8];rfl
   ·(nofun;done)
   ·decide
   ·(nofun;done)
   ·exact⟨(by nofun),(by nofun)⟩
   ·exact eq__3 [_] (.lt Z0 (.n 1000)) (.le Z0 (.n 3)) rfl kl2
   ·rfl
   ·intro i;simp only[eq__9,aD,aK]
   ·intro v _;exact aN 1
   ·rintro n hn V2⟨k1,k2⟩;refine eq__56 (eq__565 n) fun p1 p2 p3=>?_;exact eq__7 (setV (a5 "number") (.int n) V2) (by nofun) ⟨(by nofun),(by nofun)⟩ (eq__7 true rfl (fun _=>⟨.str (sO n),(by nofun),rfl⟩) (fun h=>by(injection h)))) (by nofun) ?_;have X:uM (xs++ks2.map sO):=by
   refine⟨by rw[aH,a7];exact eq__47 [_,_,_] (.lt (.a Z0 Z1) (.n 30)) (.le Z2 (.n 6)) (.le Z0 Z2) (.le Z1 (.n 3)) rfl kl xl kl2,?_,?_,?_⟩;·rw[dN,show(ks2.map sO).filter (!pM ·)=[]from k6.mpr (fun x hx=>by rw[eq__198 x (pk x hx)];decide),dG];exact nd.sublist List.filter_sublist
   ·rw[List.pairwise_append];refine eq__30 (hJ fun a ha b hb h=>(by rw[hs a ha]at h;cases h)) (hJ fun a ha b hb h=>eq__198 b (pk b hb)) (fun a ha b hb h=>(by rw[hs a ha]at h;cases h))
   ·intro x hx h;refine cD (bW.mp hx) (fun hx=>?_) fun hx=>?_;·rw[hs x hx]at h;(injection h)
    ·exact pk x hx
  have :=go12 (setV (a5 "told") (.lst ((xs++ks2.map sO).map .str)) U) σ' _ W (G.put (by decide)) (by nofun) (by nofun) (by nofun) (by nofun) (by nofun) X;simp(decide:=true)only[↓ev_compE,evs,Out.bind_ok,Out.bind_exc,Out.bind_stuck,↓reduceIte,decide_true,decide_false,if_true,if_false,bR,c4,look,bQ,cJ,bS,dA,cA,dB,hB,hS,bZ,c5]at this;exact this
noncomputable def vD(ss:List Spec):Str:=if sF ss then a5 "name" else rA ss
theorem eq__886{es:List (Str×Val)}:r4 (.dict es ep)=none:=rfl
theorem eq__887(l:List Val):eqV σ (.lst l) (.lst [])=some l.isEmpty:=by cases l<;>rfl
theorem eq__888(h0:σ[0]?=some (.tab false))(hv:pB σ V=some (ss.map Spec.val))(hn:∀x∈ss,SpecOk x)(few:ss.length≤8):
  ∃cv σ',callD (Tn 4) 60 0 d517 [V] σ=.ok cv σ'∧pB σ' V=some (ss.map Spec.val)∧σ'[0]?=some (.tab false)∧
   (cv=.str (vD ss)∨(∃c,cv=.ref c∧vD ss=a5 ""∧(ss.flatMap (·.targets)).Nodup∧Wrl σ' (vC σ.length c ss (fun j=>σ[j]?) false))):=by
 intros n4 St σ LSp ss Val V
 have' sv:=SpecV.mk h0 hv
 rcases eq__880 1 hv h0 hn few with⟨σ',e,he,kp⟩|⟨he,⟨σ',e,nd,kp⟩|⟨c,⟨σ',e,nd,hd,kp⟩|⟨σ',e,nd,hd,ht,W⟩⟩⟩
 ·exact eq__54 _ σ' ⟨e,sv.get (fun{k}a b=>kp.1 k a b),kp.2,.inl (by unfold vD;rw[he,if_pos rfl])⟩
 ·refine eq__54 _ σ' ⟨e,sv.get (fun{k}a b=>kp.1 k a b),kp.2,.inl ?_⟩;unfold vD rA;rw[he,if_neg aC,if_neg nd]
 ·refine eq__39 _ σ' e (sv.get (fun{k}a b=>kp.1 k a b)) kp.2 (.inl ?_);unfold vD rA;rw[he,if_neg aC,if_pos nd];refine cD (hd) (fun hd=>?_) fun hd=>?_
  ·rw[eq__561 hn]at hd;rw[hd,if_neg aC]
  ·rw[if_neg hd];split<;>rfl
 ·refine eq__39 _ σ' e (sv.get W.pre) W.tab (.inr ⟨c,rfl,?_,ht,W⟩);unfold vD rA;rw[eq__561 hn]at hd;rw[he,if_neg aC,if_pos nd,hd,if_pos rfl,if_pos ht]
theorem eq__889{z:Int}(h0:σ[0]?=some (.tab false))(hv:pB σ V=some (ss.map Spec.val))(hn:∀x∈ss,SpecOk x)(few:ss.length≤8)(G:GlOk U)(e0:look (a5 "error") U=none)(e1:look (a5 "len") U=none)(u2:look (a5 "specs") U=some V)(u3:look (a5 "script") U=some (.lst (nums.map .int)))(u4:look (a5 "begin") U=some (.int z)):
  qA (exs (Tn 5) 56 (lawD.body.drop 4) {scope:=lawD.scope,fn:=true,vars:=U,code:=0} σ) uL:=by
 intros n12 X nums X z St σ LSp ss Val V LD U
 have' hB:lawD.body=lawD.body:=rfl
 conv at hB=>rhs;whnf
 have' hS:lawD.scope=lawD.scope:=rfl
 conv at hS=>rhs;whnf
 have' sv:=SpecV.mk h0 hv
 have' g10:=G.g10
 have' g11:=G.g11
 have' g12:=G.g12
 have' g1:=G.g1
 have' g2:=G.g2
 have' g3:=G.g3
 (refine eq__25 (eq__888 h0 hv hn few) fun cv σ' e hv' h0' hd=>?_)
 have ln:(nms ss).length≤8:=by unfold nms;rw[a7];exact few
 refine eq__12 (v:=cv) (σ':=σ') (by nofun) (by nofun) ?_
 have' rf:=eq__870 4 hv' hn few
 have' fll:(ss.filter fun s=>eqs s.name).length≤lim:=eq__6 (aL (b9 _ _) (by exact eq__3 [_] (.le Z0 (.n 1000)) (.le Z0 (.n 8)) rfl few))
 refine eq__12 (v:=.str (vD ss)) (σ':=σ') (by
  refine r_ix (b:=sF ss) (σ₁:=σ') ?_ (by
   unfold vD;cases sF ss<;>(nofun;done));simp_arith[u2];rw[eq__45 (sr:=.val V) (σ₁:=σ') (fun _=>True) ss Spec.val (fun s=>if eqs s.name then[s.val]else[])]
  ·rw[eq__70];have an:((ss.filter fun s=>eqs s.name).map Spec.val).isEmpty=!sF ss:=by
    unfold sF;rw[eO,cK,List.map_eq_nil_iff,k6];simp
   simpa[eq__11,eq__21,aD,f6]using[a7,fll,eq__887,an]
  ·(nofun;done)
  ·decide
  ·(nofun;done)
  ·trivial
  ·exact eq__3 [_] (.lt Z0 (.n 1000)) (.le Z0 (.n 8)) rfl few
  ·exact eq__75 hv'
  ·intro i;simp only[pG,eq__55 hv',aK]
  ·intro v _;split;exact aN 1;exact bN 1
  ·rintro s hs V2 _;refine eq__7 (setV (a5 "spec") s.val V2) (by nofun) trivial (eq__7 (eqs s.name) ?_ (fun h=>⟨s.val,(by nofun),if_pos h⟩) (fun h=>if_neg (by exact(h)▸aC)));cases heq:eqs s.name with
   |true=>
    have heq':(!(aI s.name (a5 "=") 0 s.name.length 1).isEmpty)=true:=heq;nofun
   |false=>
    have heq':(!(aI s.name (a5 "=") 0 s.name.length 1).isEmpty)=false:=heq;nofun) (by nofun) ?_
 simp_arith[]
 rcases hd with rfl|⟨c,rfl,du,ht,W⟩
 ·refine eq__26 (σ':=σ') (by nofun) ?_;exact eq__49 (v:=.bool true) (σ':=σ') (by nofun) ⟨_,σ',_,rfl,h0'⟩
 ·have' ctl:σ'[c]?=some (.inst 368 (pT c .none)):=W.ctl;have tasks:σ'[c+1]?=some (.dict (rH σ.length ss) ss.length):=by
   have' h:σ'[c+1]?=some (.dict (rH σ.length (ss.take ss.length)) ss.length):=W.tasks;replace h:=(b8)▸h;exact h
  refine eq__23 (σ':=σ') (by(nofun;done)) ?_;refine eq__4 (eq__15 ?_);rw[du];refine eq__23 (σ':=σ') (by nofun) ?_;refine eq__4 (eq__15 ?_);(refine eq__25 (eq__871 3 hv' hn few) fun σ₂ rs e2 pr hq rows=>?_);have' W2:=W.ahead pr;have keys:(rH σ.length ss).map (fun e=>Val.str e.1)=(nms ss).map .str:=by
   have' this:=eq__538 σ.length ss;unfold nms;rw[←this,c8];rfl
  have dl:(rH σ.length ss).length≤lim:=by simp only[eq__102];exact eq__6 (by exact eq__3 [_] (.le Z0 (.n 1000)) (.le Z0 (.n 8)) rfl few)
  have' nll:(nms ss).length≤lim:=eq__6 (by exact eq__3 [_] (.le Z0 (.n 1000)) (.le Z0 (.n 8)) rfl ln);have' sll:ss.length≤lim:=eq__6 (by exact eq__3 [_] (.le Z0 (.n 1000)) (.le Z0 (.n 8)) rfl few);refine eq__23 (σ':=σ₂) (by
   simpa[eq__122,eq__11,eq__22,pT,eq__9,eq__886,Option.elim_none,uT]using[eq__8,g1,ctl,tasks,a7,dl,keys];rw[eq__45 (sr:=.val V) (σ₁:=σ') (fun _=>True) ss Spec.val (fun s=>[.str s.name])]
   ·rw[eq__82,show(ss.map fun x=>Val.str x.name)=(nms ss).map .str by unfold nms;simp only[c8];rfl];simpa[eq__11,eqV,eq__91,eq__9,aD,dZ,eq__21]using[a7,nll,eq__290];rw[eq__45 (sr:=.vals (c+1) (rH σ.length ss).length ss.length) (σ₁:=σ') (fun _=>True) (dJ ss.length) (fun i=>.ref (σ.length+5*i)) (fun i=>[.ref (σ.length+5*i+2)])]
    ·rw[eq__82];simpa[eq__817,eq__11]using[a7,eU,sll,eq__8,u2,g12];rw[e2];have e3:rT σ₂ ((dJ ss.length).map fun i=>Val.ref (σ.length+5*i+2)) (rs.map .ref)=some true:=by
      have h:=eq__563 (σ:=σ₂) ((dJ ss.length).map fun i=>σ.length+5*i+2) rs (by rw[a7,eU,rows.1,a7]) (fun i a b ha hb=>by
       replace ha:=(aK)▸ha;(refine eq__1 (aJ.mp ha) fun j hj q1_=>?_;subst q1_);have li:i<ss.length:=by
        have' this:=eq__10 hj;rwa[eU]at this
       clear ha;rw[lD li]at hj;(injection hj with hq_;subst hq_);obtain⟨h1,_⟩:=rows.2 i b (qW ss ss[i]) hb (by rw[aK,aW li];rfl);refine eq__2 (qW ss ss[i]) ?_ h1;have' h2:=W2.dep (i:=i) (s:=ss[i]) (aW li);rw[eq__883 (aW li),←eq__882 _ _ ht]at h2;exact h2);replace h:=(c8)▸h;exact h
     simpa[eq__11,eqV,eq__91,eq__9,aD,dZ]using[hq,e3];rfl
    ·(nofun;done)
    ·decide
    ·(nofun;done)
    ·trivial
    ·rw[eU];omega
    ·rfl
    ·intro i;simp only[pG,tasks,eq__102,and_self,if_true];rw[←aK,←aK,eq__556];rfl
    ·intro v _;exact aN 1
    ·rintro i hi V2 _;have' li:=f9.mp hi;have' inst:σ'[σ.length+5*i]?=some (.inst 223 (qB (σ.length+5*i) ss[i].name ss[i].setup .none)):=W.inst (i:=i) (s:=ss[i]) (aW li);exact eq__7 (setV (a5 "task") (.ref (σ.length+5*i)) V2) (by nofun) trivial (eq__7 true rfl (fun _=>⟨.ref (σ.length+5*i+2),(by nofun),rfl⟩) (fun h=>by(injection h)))
   ·(nofun;done)
   ·decide
   ·(nofun;done)
   ·trivial
   ·omega
   ·exact eq__75 hv'
   ·intro i;simp only[pG,eq__55 hv',aK]
   ·intro v _;exact aN 1
   ·rintro s hs V2 _;exact eq__7 (setV (a5 "spec") s.val V2) (by nofun) trivial (eq__7 true rfl (fun _=>⟨.str s.name,(by nofun),rfl⟩) (fun h=>by(injection h)))) ?_;refine eq__4 (eq__15 ?_);have' this:=eq__885 (U:=setV (a5 "due") (.str (a5 "")) (setV (a5 "control") (.ref c) U)) (nums:=nums) (z:=z) W2 sv hn few ((G.put (by decide)).put (by decide)) (by nofun) (by nofun) (by nofun) (by nofun) (by nofun) (by nofun);simp(decide:=true)only[↓ev_compE,evs,Out.bind_ok,Out.bind_exc,Out.bind_stuck,↓reduceIte,decide_true,decide_false,if_true,if_false,bR,c4,look,bQ,cJ,bS,dA,cA,dB,hB,hS,bZ,c5]at this;exact this
theorem SpecOk.cut{s:Spec}(h:SpecOk s)(p q r:Str→Bool):SpecOk ⟨s.name,s.deps.filter p,s.setup.filter q,s.targets.filter r,s.files⟩:=
 ⟨h.name,fun d hd=>h.deps d (bU.mp hd).1,aL (b9 _ _) h.depl,fun d hd=>h.setup d (bU.mp hd).1,aL (b9 _ _) h.setupl,fun d hd=>h.targ d (bU.mp hd).1,aL (b9 _ _) h.targl,h.file,h.filed,h.filel⟩
theorem eq__890{z:Int}(h0:σ[0]?=some (.tab false))(hv:pB σ V=some (ss.map Spec.val))(hn:∀x∈ss,SpecOk x)(few:ss.length≤8)(G:GlOk U)(e0:look (a5 "error") U=none)(e1:look (a5 "len") U=none)(u2:look (a5 "specs") U=some V)(u3:look (a5 "script") U=some (.lst (nums.map .int)))(u4:look (a5 "begin") U=some (.int z)):
  qA (exs (Tn 5) 57 (lawD.body.drop 3) {scope:=lawD.scope,fn:=true,vars:=U,code:=0} σ) uL:=by
 intros n11 X V St σ LI nums LSp ss LD U Int z
 have' hB:lawD.body=lawD.body:=rfl
 conv at hB=>rhs;whnf
 have' hS:lawD.scope=lawD.scope:=rfl
 conv at hS=>rhs;whnf
 have go4:∀(U:List (Str×Val))(σ:St)(V:Val)(ss:List Spec),σ[0]?=some (.tab false)→pB σ V=some (ss.map Spec.val)→(∀x∈ss,SpecOk x)→ss.length≤8→GlOk U→look (a5 "error") U=none→look (a5 "len") U=none→look (a5 "specs") U=some V→look (a5 "script") U=some (.lst (nums.map .int))→look (a5 "begin") U=some (.int z)→
   qA (exs (Tn 5) 56 (lawD.body.drop 4) {scope:=lawD.scope,fn:=true,vars:=U,code:=0} σ) uL:=fun U σ V ss a b c d e f g h i j=>eq__889 a b c d e f g h i j
 simp(decide:=true)only[↓ev_compE,evs,Out.bind_ok,Out.bind_exc,Out.bind_stuck,↓reduceIte,decide_true,decide_false,if_true,if_false,bR,c4,look,bQ,cJ,bS,dA,cA,dB,hB,hS,bZ,c5]at go4
 have ln:(nms ss).length≤8:=by unfold nms;rw[a7];exact few
 by_cases hz:z/4%4<3
 case neg=>
  refine eq__23 (σ':=σ) (by nofun) ?_;refine eq__4 (eq__15 ?_);exact go4 U σ V ss h0 hv hn few G e0 e1 u2 u3 u4
 refine eq__26 (σ':=σ) (by nofun) ?_
 refine eq__12 (v:=.lst ((nms ss).map .str)) (σ':=σ) (by
  simp_arith[];rw[eq__45 (sr:=.val V) (σ₁:=σ) (fun _=>True) ss Spec.val (fun s=>[.str s.name])]
  ·rw[eq__82];try simpa[eq__11,decide_true]using[a7,eq__6 (aL few (by decide))]
   rw[show(ss.map fun x=>Val.str x.name)=(nms ss).map .str by unfold nms;simp only[c8];rfl]
  ·(nofun;done)
  ·decide
  ·(nofun;done)
  ·trivial
  ·exact eq__3 [_] (.lt Z0 (.n 1000)) (.le Z0 (.n 8)) rfl few
  ·exact eq__75 hv
  ·intro i;simp only[pG,eq__55 hv,aK]
  ·intro v _;exact aN _
  ·rintro s hs V' _;exact eq__7 (setV (a5 "spec") s.val V') (by nofun) trivial (eq__7 true rfl (fun _=>⟨.str s.name,(by nofun),rfl⟩) (fun h=>by(injection h)))) (by nofun) ?_
 refine eq__12 (v:=.lst []) (σ':=σ) (by nofun) (by nofun) ?_
 refine eq__12 (v:=.ref σ.length) (σ':=σ++[Cell.list []]) (by nofun) (by nofun) ?_
 have' q0:0<σ.length:=eq__50 h0
 have' h01:(σ++[Cell.list []])[0]?=some (.tab false):=get_app h0
 have' pr1:Pre σ (σ++[Cell.list []]):=(Pre.refl σ).app (aN _) _
 have' hq1:(σ++[Cell.list []])[σ.length]?=some (.list (([]:List Spec).map Spec.val)):=get_new
 generalize hqq:σ.length=q at*
 generalize σ++[Cell.list []]=σ₁ at*
 refine eq__57 (sr:=.val V) (σ':=σ₁) (by nofun;all_goals((try simp_all_arith[eq__11,eq__8,u2,tB,eq__55 (pr1.lst hv),aZ]);try rfl)) (eq__287 hv) (ss.map Spec.val)
  (fun i fr σ'=>∃U md ks,A15 (fr={scope:=lawD.scope,fn:=true,vars:=U,code:=0}) (σ'[0]?=some (.tab false)) (Pre σ σ') (GlOk U) (look (a5 "error") U=none) (look (a5 "len") U=none) (look (a5 "script") U=some (.lst (nums.map .int))) (look (a5 "begin") U=some (.int z)) (look (a5 "names") U=some (.lst ((nms ss).map .str))) (look (a5 "kept") U=some (.ref q)) (look (a5 "made") U=some (.lst (md.map .str))) (σ'[q]?=some (.list (ks.map Spec.val))) (md.length≤i) (ks.length=i) (∀s∈ks,SpecOk s))
  (by rw[a7];exact eq__3 [_] (.lt Z0 (.n 1000)) (.le Z0 (.n 8)) rfl few) (eq__34 _ ([]) ([]) ⟨(by first|rfl|rw[hS]),h01,pr1,((G.put (by decide)).put (by decide)).put (by decide),(by nofun),(by nofun),(by nofun),(by nofun),(by nofun),(by nofun),(by nofun;all_goals((try simp_all_arith[eq__11,eq__8,aQ]);try rfl)),hq1,aN _,rfl,fun s h=>(by contradiction)⟩) ?_ ?_ ?_
 ·(intro i fr σ' hp1_;obtain⟨U,md,ks,rfl,h0,pr,_⟩:=hp1_);simp only[pG,eq__55 (pr.lst hv)]
 ·(intro i v fr σ' hp1_;obtain⟨U,md,ks,rfl,h0,pr,G,e0,e1,u1,u2,u3,u4,u5,hq,ml,kl,ko⟩:=hp1_;intro hvi);(refine eq__1 (eq__288 hvi) fun s hs q1_=>?_;subst q1_);have' oks:=hn s (aT hs);have' li:=eq__10 hs;refine eq__2 ({scope:=lawD.scope,fn:=true,vars:=setV (a5 "files") (.lst (s.files.map .str)) (setV (a5 "targets") (.lst (s.targets.map .str)) (setV (a5 "setup") (.lst (s.setup.map .str)) (setV (a5 "deps") (.lst (s.deps.map .str)) (setV (a5 "name") (.str s.name) U)))),code:=0}) (by nofun) ?_;generalize htg:s.targets.filter (fun o=>!md.contains o)=tg;have tl:tg.length≤1:=by rw[←htg];exact aL (b9 _ _) oks.targl
  refine eq__12 (v:=.lst (tg.map .str)) (σ':=σ') (by
   simp_arith[eq__11,hS];rw[eq__45 (sr:=.val (.lst (s.targets.map .str))) (σ₁:=σ') (fun U=>look (a5 "made") U=some (.lst (md.map .str))) s.targets Val.str (fun o=>if !md.contains o then[.str o]else[])]
   ·rw[eq__70,htg];(nofun;all_goals((try simp_all_arith[eq__11,decide_true,a7,eq__6 (show tg.length≤1000 by exact eq__3 [_] (.le Z0 (.n 1000)) (.le Z0 (.n 1)) rfl tl)]);try rfl);done)
   ·(nofun;done)
   ·decide
   ·(nofun;done)
   ·(nofun;done)
   ·have :=oks.targl;exact eq__3 [_] (.lt Z0 (.n 1000)) (.le Z0 (.n 1)) rfl this
   ·rfl
   ·intro i;simp only[eq__9,aD,aK]
   ·intro v _;split;exact aN 1;exact bN 1
   ·rintro d hd V2 k1;refine eq__7 (setV (a5 "one") (.str d) V2) (by nofun) (by nofun) (eq__7 (!md.contains d) ?_ (fun h=>⟨.str d,(by nofun),if_pos h⟩) (fun h=>if_neg (by rw[h];exact aC)));cases hc:md.contains d<;>simpa[eq__11,hS,pZ,rE,pD,aG,aQ,bB,bY,aD,aZ,eq__79,eq__42,eq__21,eq__9,bL,aD,dZ,f8]using[eq__8,k1,eq__64,hc]) (by nofun) ?_;refine eq__12 (v:=.lst ((md++tg).map .str)) (σ':=σ') (by nofun;all_goals((try simp_all_arith[eq__11,hS,eq__8,u5,eq__9,←aY,a7,aH,eq__6 (show md.length+tg.length≤1000 by exact eq__165 [_,_,_,_] (.le (.a Z0 Z1) (.n 1000)) (.le Z2 (.n 8)) (.le Z0 Z3) (.lt Z3 Z2) (.le Z1 (.n 1)) rfl few ml li tl)]);try rfl)) (by nofun) ?_;simp_arith[eq__11,hS];have' ks2:ks.length<lim:=small (by exact eq__47 [_,_,_] (.lt Z0 (.n 1000)) (.le Z1 (.n 8)) (.eq Z0 Z2) (.lt Z2 Z1) rfl few kl li);refine eq__33 (v:=.none) (σ':=σ'.set q (.list ((ks++[Spec.mk s.name (s.deps.filter (fun d=>pM d||(nms ss).contains d)) (s.setup.filter (fun d=>(nms ss).contains d)) tg s.files]).map Spec.val))) (by
   simpa[eq__11,hS,nOf]using[eq__8,u4,hq];rw[eq__45 (sr:=.val (.lst (s.deps.map .str))) (σ₁:=σ') (fun U=>look (a5 "names") U=some (.lst ((nms ss).map .str))) s.deps Val.str (fun d=>if(pM d||(nms ss).contains d)then[.str d]else[])]
   ·rw[eq__70];simpa[eq__11,decide_true]using[a7,eq__6 (aL (b9 (fun d=>pM d||(nms ss).contains d) s.deps) (aL oks.depl (by decide)))];rw[eq__45 (sr:=.val (.lst (s.setup.map .str))) (σ₁:=σ') (fun U=>look (a5 "names") U=some (.lst ((nms ss).map .str))) s.setup Val.str (fun d=>if(nms ss).contains d then[.str d]else[])]
    ·rw[eq__70];(nofun;all_goals((try simp_all_arith[eq__11,hS,aR,bG,eq__59,aG,aQ,Spec.val,a7,eq__6 (aL (b9 (fun d=>(nms ss).contains d) s.setup) (aL oks.setupl (by decide))),eq__8,hq,ks2,aY]);try rfl);done)
    ·(nofun;done)
    ·decide
    ·(nofun;done)
    ·(nofun;done)
    ·have :=oks.setupl;exact eq__3 [_] (.lt Z0 (.n 1000)) (.le Z0 (.n 1)) rfl this
    ·rfl
    ·intro i;simp only[eq__9,aD,aK]
    ·intro v _;split;exact aN 1;exact bN 1
    ·rintro d hd V2 k1;refine eq__7 (setV (a5 "one") (.str d) V2) (by nofun) (by nofun) (eq__7 ((nms ss).contains d) ?_ (fun h=>⟨.str d,(by nofun),if_pos h⟩) (fun h=>if_neg (by exact(h)▸aC)));cases hc:(nms ss).contains d<;>(nofun;done)
   ·(nofun;done)
   ·decide
   ·(nofun;done)
   ·(nofun;done)
   ·have :=oks.depl;exact eq__3 [_] (.lt Z0 (.n 1000)) (.le Z0 (.n 2)) rfl this
   ·rfl
   ·intro i;simp only[eq__9,aD,aK]
   ·intro v _;split;exact aN 1;exact bN 1
   ·rintro d hd V2 k1;refine eq__7 (setV (a5 "one") (.str d) V2) (by nofun) (by nofun) (eq__7 (pM d||(nms ss).contains d) ?_ (fun h=>⟨.str d,(by nofun),if_pos h⟩) (fun h=>if_neg (by exact(h)▸aC)));cases hst:pM d with
    |true=>
     have' hst':(!(aI d (a5 "*") 0 d.length 1).isEmpty)=true:=hst;(nofun;done)
    |false=>
     have' hst':(!(aI d (a5 "*") 0 d.length 1).isEmpty)=false:=hst;cases hc:(nms ss).contains d<;>((nofun;done);try rfl)) ?_;refine eq__4 (eq__62 .next _ _ rfl trivial (eq__34 _ (md++tg) _ ⟨(by first|rfl|rw[hS]),eq__5 h0 (by exact fun hN_=>eq__38 [_] 0 .ff 1 (.eq Z0 (.n 0)) 1 (.lt (.n 0) Z0) rfl hN_ q0),pr.set (by exact eq__3 [_,_] (.le Z0 Z1) (.eq Z0 Z1) rfl hqq),((((((G.put (by decide)).put (by decide)).put (by decide)).put (by decide)).put (by decide)).put (by decide)).put (by decide),(by nofun),(by nofun),(by nofun),(by nofun),(by nofun),(by nofun),(by nofun),eq__44 hq,?_,?_,?_⟩));·rw[aH];exact eq__29 [_,_,_] (.le (.a Z0 Z1) (.a Z2 (.n 1))) (.le Z0 Z2) (.le Z1 (.n 1)) rfl ml tl
  ·rw[aH,kl];rfl
  ·intro s' hs';refine cD (bW.mp hs') (fun h=>?_) fun h=>?_;·exact ko s' h
   ·rw[aA.mp h,←htg];exact oks.cut _ _ _
 ·(intro fr' σ' hp1_;obtain⟨U,md,ks,rfl,h0,pr,G,e0,e1,u1,u2,u3,u4,u5,hq,ml,kl,ko⟩:=hp1_);rw[a7]at kl;refine eq__12 (v:=.ref q) (σ':=σ') (by nofun) (by nofun) ?_;refine eq__4 (eq__15 ?_);exact go4 _ σ' (.ref q) ks h0 (by refine(?_:σ'[q]?.bind r4=_);rw[hq];rfl) ko (by exact eq__29 [_,_] (.le Z0 (.n 8)) (.le Z1 (.n 8)) (.eq Z0 Z1) rfl few kl) (G.put (by decide)) (by nofun) (by nofun) (by nofun) (by nofun) (by nofun)
theorem eq__891{z:Int}(h0:σ[0]?=some (.tab false))(hn:∀x∈ss,SpecOk x)(few:ss.length≤8)(G:GlOk U)(e0:look (a5 "error") U=none)(e1:look (a5 "len") U=none)(e2:look (a5 "enumerate") U=none)(u2:look (a5 "specs") U=some (.lst (ss.map Spec.val)))(u3:look (a5 "script") U=some (.lst (nums.map .int)))(u4:look (a5 "begin") U=some (.int z)):
  qA (exs (Tn 5) 58 (lawD.body.drop 2) {scope:=lawD.scope,fn:=true,vars:=U,code:=0} σ) uL:=by
 intros n10 St σ LI nums LSp ss LD U Int z
 have' hB:lawD.body=lawD.body:=rfl
 conv at hB=>rhs;whnf
 have' hS:lawD.scope=lawD.scope:=rfl
 conv at hS=>rhs;whnf
 have go3:∀(U:List (Str×Val))(V:Val)(ss:List Spec),pB σ V=some (ss.map Spec.val)→(∀x∈ss,SpecOk x)→ss.length≤8→GlOk U→look (a5 "error") U=none→look (a5 "len") U=none→look (a5 "specs") U=some V→look (a5 "script") U=some (.lst (nums.map .int))→look (a5 "begin") U=some (.int z)→
   qA (exs (Tn 5) 57 (lawD.body.drop 3) {scope:=lawD.scope,fn:=true,vars:=U,code:=0} σ) uL:=fun U V ss b c d e f g h i j=>eq__890 h0 b c d e f g h i j
 simp(decide:=true)only[↓ev_compE,evs,Out.bind_ok,Out.bind_exc,Out.bind_stuck,↓reduceIte,decide_true,decide_false,if_true,if_false,bR,c4,look,bQ,cJ,bS,dA,cA,dB,hB,hS,bZ,c5]at go3
 by_cases hz:z%4<3
 case neg=>
  refine eq__23 (σ':=σ) (by nofun) ?_;refine eq__4 (eq__15 ?_);exact go3 U _ ss rfl hn few G e0 e1 u2 u3 u4
 refine eq__26 (σ':=σ) (by nofun) ?_
 generalize hks:(ss.zipIdx.filter fun p=>!(nms (ss.take p.2)).contains p.1.name&&!eqs p.1.name).map (·.1)=ks
 refine(?_:(ks.length≤ss.length)→_) ?_
 rotate_left
 ·
  rw[←hks,a7];exact aL (b9 _ _) (by rw[lO];exact aN _)
 intro kl
 refine(?_:(∀x∈ks,SpecOk x)→_) ?_
 rotate_left
 ·
  intro x hx;rw[←hks]at hx;refine eq__1 (cQ.mp hx) fun p hp q1_=>?_;subst q1_;exact hn _ (List.fst_mem_of_mem_zipIdx (bU.mp hp).1)
 intro kn
 have' kll:ks.length≤lim:=eq__6 (by exact eq__29 [_,_] (.le Z0 (.n 1000)) (.le Z1 (.n 8)) (.le Z0 Z1) rfl few kl)
 refine eq__12 (v:=.lst (ks.map Spec.val)) (σ':=σ) (by
  simp_arith[eq__11,hS];rw[eq__45 (sr:=.enm (.lst (ss.map Spec.val))) (σ₁:=σ) (fun U=>look (a5 "specs") U=some (.lst (ss.map Spec.val))) ss.zipIdx (fun p=>.tup [.int p.2,p.1.val]) (fun p=>if(!(nms (ss.take p.2)).contains p.1.name&&!eqs p.1.name)then[p.1.val]else[])]
  ·rw[eq__70,show∀l:List (Spec×Nat),(l.map fun x=>x.1.val)=(l.map (·.1)).map Spec.val from fun l=>by simp only[c8];rfl,hks];(nofun)
  ·simp_all_arith[eq__11,hS,eq__8,e2,u2,vH,eq__9,aZ]
  ·decide
  ·(nofun;done)
  ·(nofun;done)
  ·rw[lO];exact eq__3 [_] (.lt Z0 (.n 1000)) (.le Z0 (.n 8)) rfl few
  ·rfl
  ·intro i;simp only[eq__9,aD,List.getElem?_zipIdx,aK,kK,cF];rfl
  ·intro v _;split;exact aN 1;exact bN 1
  ·rintro⟨s,j⟩hp U2 k1;refine eq__7 (setV (a5 "spec") s.val (setV (a5 "k") (.int j) U2)) (by nofun) (by nofun) (eq__7 (!(nms (ss.take j)).contains s.name&&!eqs s.name) ?_ (fun h=>⟨s.val,(by nofun),if_pos h⟩) (fun h=>if_neg (by skip;exact(h)▸aC)));have tl:(ss.take j).length≤8:=by rw[bP];omega
   have' tll:(ss.take j).length≤lim:=eq__6 (by exact eq__3 [_] (.le Z0 (.n 1000)) (.le Z0 (.n 8)) rfl tl);simpa[eq__11,hS,pZ,rE,pD,aG,aQ,bB,bY,aD,aZ,eq__79,Spec.val,eq__22,cT,b7,aV,eq__21]using[eq__8,k1];rw[eq__45 (sr:=.val (.lst ((ss.take j).map Spec.val))) (σ₁:=σ) (fun _=>True) (ss.take j) Spec.val (fun s=>[.str s.name])]
   ·rw[eq__82,show((ss.take j).map fun x=>Val.str x.name)=(nms (ss.take j)).map .str by unfold nms;simp only[c8];rfl];have nl:(nms (ss.take j)).length≤lim:=by unfold nms;rw[a7];exact tll
    simpa[eq__11,eq__42,eq__9,bL,aD]using[a7,nl,eq__64];unfold eqs;cases(nms (ss.take j)).contains s.name<;>cases(aI s.name (a5 "=") 0 s.name.length 1).isEmpty<;>rfl
   ·(nofun;all_goals((try simp_all_arith[eq__11,hS,pZ,rE,pD,aG,aQ,bB,bY,aD,aZ,eq__8,k1,qS,eq__9,sC,tW,mT,mP,show(0:Int)≤(j:Int)from lG j,nG,mU,mL,eF,dO,c5,←iR,a7,tll,tB,qP,aD,aZ]);try rfl))
   ·decide
   ·(nofun;done)
   ·trivial
   ·exact eq__3 [_] (.lt Z0 (.n 1000)) (.le Z0 (.n 8)) rfl tl
   ·rfl
   ·intro i;simp only[eq__9,aD,aK]
   ·intro v _;exact aN 1
   ·rintro s hs V2 _;exact eq__7 (setV (a5 "other") s.val V2) (by nofun) trivial (eq__7 true rfl (fun _=>⟨.str s.name,(by nofun),rfl⟩) (fun h=>by(injection h)))) (by nofun) ?_
 refine eq__4 (eq__15 ?_)
 exact go3 _ _ ks rfl kn (by exact eq__29 [_,_] (.le Z0 (.n 8)) (.le Z1 (.n 8)) (.le Z0 Z1) rfl few kl) (G.put (by decide)) (by nofun) (by nofun) (by nofun) (by nofun) (by nofun)
theorem all_true(nums:List Int)(hl:nums.length≤63):uK nums:=by
 intros n1 LI nums
 have' hB:lawD.body=lawD.body:=rfl
 conv at hB=>rhs;whnf
 have' hS:lawD.scope=lawD.scope:=rfl
 conv at hS=>rhs;whnf
 refine(?_:uL (exs (Tn 5) 60 lawD.body {scope:=lawD.scope,fn:=true,vars:=[(nOf "script",.lst (nums.map .int))],code:=0} [.tab false]))
 have go2:∀(U:List (Str×Val))(ss:List Spec)(z:Int),(∀x∈ss,SpecOk x)→ss.length≤8→GlOk U→look (a5 "error") U=none→look (a5 "len") U=none→look (a5 "enumerate") U=none→look (a5 "specs") U=some (.lst (ss.map Spec.val))→look (a5 "script") U=some (.lst (nums.map .int))→look (a5 "begin") U=some (.int z)→
   qA (exs (Tn 5) 58 (lawD.body.drop 2) {scope:=lawD.scope,fn:=true,vars:=U,code:=0} [.tab false]) uL:=fun U ss z a b c d e f g h i=>eq__891 rfl a b c d e f g h i
 simp(decide:=true)only[↓ev_compE,evs,Out.bind_ok,Out.bind_exc,Out.bind_stuck,↓reduceIte,decide_true,decide_false,if_true,if_false,bR,c4,look,bQ,cJ,bS,dA,cA,dB,hB,hS,bZ,c5]at go2
 suffices h:qA (exs (Tn 5) 60 lawD.body {scope:=lawD.scope,fn:=true,vars:=[(a5 "script",.lst (nums.map .int))],code:=0} [.tab false]) uL from h
 have' fmem:∀l:List Int,l.length≤63→l.length≤lim:=fun l h=>eq__6 (by exact eq__3 [_] (.le Z0 (.n 1000)) (.le Z0 (.n 63)) rfl h)
 refine eq__133 (σ':=[.tab false]) (fun v=>∃z:Int,v=.int z) ?_ (by nofun) ?_
 ·clear go2 hl;cases nums with
  |nil=>exact eq__2 (.int 5) ⟨5,rfl⟩ (by nofun)
  |cons n r=>exact eq__2 (.int n.natAbs) ⟨_,rfl⟩ (by nofun)
 rintro _⟨z,rfl⟩
 have ks:∃ks:List Int,ks.length≤7∧ks=if nums.length>1 then(nums.take 8).drop 1 else[1040,80,3]:=(eq__2 _ (by
  split;·rw[jL,bP];omega
  ·exact gF 3 4) rfl)
 rcases ks with⟨ks,kl,hks⟩
 obtain⟨sp,hsp⟩:_:=Classical.axiomOfChoice (fun n=>eq__881 3 (σ:=[.tab false]) n)
 have kll:ks.length≤lim:=eq__6 (by exact eq__3 [_] (.le Z0 (.n 1000)) (.le Z0 (.n 7)) rfl kl)
 refine eq__12 (v:=.lst ((ks.map sp).map Spec.val)) (σ':=[.tab false]) (by
  simp_arith[];rw[eq__45 (sr:=.val (.lst (ks.map .int))) (σ₁:=[.tab false]) (fun U=>look (a5 "_law_spec") U=none) ks Val.int (fun n=>[(sp n).val])]
  ·rw[eq__82,c8];simpa[eq__11,decide_true]using[a7,kll];rfl
  ·by_cases h1:nums.length>1
   ·rw[if_pos h1]at hks;have hd:(nums.length:Int)>1:=by omega
    have hk:((nums.map Val.int).take 8).drop 1=ks.map .int:=by rw[hks,kU,iR]
    (nofun;done)
   ·rw[if_neg h1]at hks;have hd:¬((nums.length:Int)>1):=by omega
    have hl2:[Val.int 1040,Val.int 80,Val.int 3].length≤lim:=eq__6 (gF 3 997);nofun;rw[hks];rfl
  ·decide
  ·(nofun;done)
  ·(nofun;done)
  ·exact eq__3 [_] (.lt Z0 (.n 1000)) (.le Z0 (.n 7)) rfl kl
  ·rfl
  ·intro i;simp only[eq__9,aD,aK]
  ·intro v _;exact aN 1
  ·rintro n _ U k1;have' e:=(hsp n).2;refine eq__7 (setV (a5 "number") (.int n) U) (by nofun) (by nofun) (eq__7 true rfl (fun _=>⟨(sp n).val,?_,rfl⟩) (fun h=>by(injection h)));(nofun;done)) (by nofun) ?_
 refine go2 _ (ks.map sp) z ?_ ?_ ⟨rfl,rfl,rfl,rfl,rfl,rfl,rfl,rfl,rfl,rfl,rfl,rfl⟩ rfl rfl rfl rfl rfl rfl
 ·intro x hx;refine eq__1 (cQ.mp hx) fun n _ q1_=>?_;subst q1_;exact(hsp n).1
 ·rw[a7];exact eq__3 [_] (.le Z0 (.n 8)) (.le Z0 (.n 7)) rfl kl
end Mine
set_option tactic.hygienic true
theorem PySem.Challenge.cw_az0002_01_holds : PySem.Challenge.rw_az0002_01.Holds :=
 Mine.hd_ (by
 intro w s₀ s₁ mg mb G Y fa o pm cd doc dV kV ho hd hcd hD hmg hg args vals as hpre hlay hrd hwl hlo
 obtain⟨K,KX,KS,T339⟩:=Y
 have X:=(oZ G).1
 have V:=(oZ G).2
 refine Ground.open G ?_
 intro T B D TE TW
 have hk:(_&&_)=true:=KS.tab_
 rw[aF]at hk
 have hT9:TabsAt [(343,339)] s₁.heap:=fun q hq=>by rw[aA.mp hq];exact⟨codeHd_of_K KX hk.1,T339⟩
 clear hmg
 wrow_args hpre hlay hrd hwl hlo
 refine enter_call ?_
 w_top on
 kn_posts
 w_call any ho hd hcd hD T F
 clear hd
 rename News _ _ _ _=>N
 have l0:=ghost_lt hT9 F
 have X':=ghost_K hT9 KX hk.2
 have T':=ghost_top hT9 T
 have N':=ghost_news hT9 F N
 have F':=ghost_fr hT9 F
 rename Heap.IsList _ _ _=>li
 have li':=ghost_list hT9 li
 have ch:=(ghost_code hT9).1
 rename IntsAre _ _=>IA
 rename_i o3 o2 o1 e1 e2 e3 _
 simp only[tabNews,aG,aQ,cI,c0]at N'
 refine Mine.join_ok (Mine.prog_ok X' KS T'.g T'.b T'.builtins T'.nolimit ch (Mine.bm_of T' (eY _ (aA.mpr rfl)))) KS F' ?_ li' IA ?_ ⟨o1,(N' (_,o1) (by simp)).1,?_⟩ ⟨o2,(N' (_,o2) (by simp)).1,?_⟩ ⟨o3,(N' (_,o3) (by simp)).1,?_⟩ (N' (339,tabObj #[]) (by simp)).1 (eY _ (aA.mpr rfl)) (l0 _ (aA.mpr rfl)) ?_ ?_ (Mine.all_true _ ?_) ?_
 ·kernel_rfl
 ·omega
 ·exact e3
 ·exact e2
 ·exact e1
 ·kernel_rfl
 ·kernel_rfl
 ·omega
 ·intro h' tk m' F' G';exact⟨goodW_bool F' (by assumption) (fun _=>rfl) (by kernel_rfl),G',trivial⟩)
