import PyProof.Rows.All
import Wide.All
import OpenK.AllK
import Wide.FinOn
import PyProof.SliceMore
import PyProof.GenQ
import KE.KNestM
import KE.KPar
import KE.KSortTup
import PyProof.StrCalls6
import PyProof.Rows.KernelRfl
import Lean
import PySem.Challenge.RW_rs0200_01
set_option Elab.async false
set_option linter.all false
set_option autoImplicit false
set_option maxRecDepth 100000
set_option bootstrap.genMatcherCode false
set_option genCtorIdx false
set_option backward.match.sparseCases false
open And renaming intro → VY
open Array renaming getElem?_eq_getElem → RO, getElem?_eq_none → Ph, getElem?_eq_some_iff → Qj, getElem?_toList → N2, isEmpty → VP, isEmpty_iff_size_eq_zero → Q4, length_toList → Oe, toList_append → PL, toList_push → UK
open Bool renaming and_eq_true → Nu, and_eq_true_iff → Rf, and_self → VT, false_and → Vw, false_eq_true → OG, false_ne_true → Ov, not_eq_true' → Qf, not_not → V5, or_eq_true → Vo, or_false → VM, true_and → P4
open Eq renaming trans → Oj
open Exists renaming intro → UY
open ForInStep renaming yield → OF
open Function renaming comp → Uj
open Int renaming add_comm → UW, add_sub_cancel → RJ, fdiv_eq_ediv_of_nonneg → Qk, fdiv_fmod_unique → Rj, fdiv_fmod_unique' → Tp, fmod_lt_of_pos → Pp, fmod_nonneg_of_pos → OS, le_of_lt → SX, le_trans → UM, lt_irrefl → VN, mul_assoc → P8, mul_nonneg → VI, mul_nonneg_of_nonpos_of_nonpos → QB, mul_one → Vh, natAbs_add_le → RZ, natAbs_eq_zero → Uo, natAbs_mul → Pq, natAbs_natCast → Ny, natAbs_neg → VG, natAbs_sub_le → U3, natCast_add → Py, natCast_ediv → Vb, natCast_emod → Vc, natCast_mul → Tc, natCast_nonneg → Nx, negSucc → TL, neg_neg → Vm, not_le → SG, not_lt → QA, ofNat_le → U1, ofNat_lt → Qq, ofNat_sub → VU, sub_add_cancel → RL, sub_mul → Vk, sub_zero → UL, toNat_natCast → NQ
open List renaming all_cons → Sf, all_eq_true → NB, all_nil → V1, any_cons → VQ, any_eq_true → U7, append_assoc → M_, append_nil → Nc, cons_append → OX, drop_append_of_le_length → Rc, drop_drop → TG, drop_eq_getElem_cons → RQ, drop_eq_nil_iff → PE, drop_left → Tz, drop_nil → Uh, drop_of_length_le → QV, drop_zero → Tu, eq_nil_of_length_eq_zero → O4, eq_of_mem_replicate → Qy, filterMap → VH, filterMap_append → Q3, filterMap_cons → Pe, filterMap_cons_none → Sb, filterMap_cons_some → Sd, filter_cons → Sq, flatten_cons → Qc, foldl_cons → S9, forIn_cons → P1, forall_mem_cons → Oc, getD_eq_getElem?_getD → Nj, getElem?_append_left → N3, getElem?_append_right → NJ, getElem?_cons_succ → OJ, getElem?_cons_zero → PR, getElem?_drop → Ut, getElem?_eq_getElem → M3, getElem?_eq_none_iff → NR, getElem?_eq_some_iff → MW, getElem?_map → Nr, getElem?_set_ne → Ou, getElem?_set_self → Nv, getElem?_take_of_lt → PJ, getElem_inj → Qm, getElem_mem → Vd, head?_drop → Rm, headD_cons → Vn, isEmpty_cons → UQ, isEmpty_nil → Qp, length_append → Ng, length_cons → NS, length_drop → Qo, length_filterMap_le → Qx, length_filter_le → Th, length_map → Nq, length_nil → Px, length_replicate → P_, length_reverse → N4, length_singleton → QZ, length_take → Pk, lookup_cons → Oo, map_append → Pz, map_congr_left → Qt, map_cons → Nz, map_filterMap → RK, map_map → Oa, map_nil → PY, map_reverse → U9, map_take → Si, mem_append → MX, mem_append_left → M7, mem_append_right → MZ, mem_cons → M5, mem_cons_of_mem → MY, mem_cons_self → Nk, mem_filterMap → Uz, mem_map → NY, mem_map_of_mem → Nt, mem_of_getElem? → Nh, mem_of_mem_drop → OI, mem_of_mem_take → O5, mem_range'_1 → QX, mem_reverse → Q6, mem_singleton → M4, nil_append → Oz, nodup_append → M6, nodup_cons → NK, nodup_nil → OQ, not_mem_nil → NI, pairwise_cons → PW, perm_middle → U8, range' → Nn, replicate → M2, replicate_succ → Oq, reverse_cons → QI, reverse_reverse → Ri, set_append_right → N7, set_getElem_self → Qa, set_set → Ru, singleton_append → Ot, size_toArray → Qd, tail_drop → RB, take_add_one → QL, take_append_drop → To, take_left → TF, take_length → Of, take_nil → VK, take_of_length_le → NU, toArray → SJ, toList_toArray → T8
open List.cons renaming inj → P5
open Nat renaming add_assoc → P6, add_comm → N6, add_le_add → VF, add_le_add_left → Ua, add_mul → OV, add_mul_div_right → Q0, add_mul_mod_self_right → RH, add_sub_cancel' → OB, add_sub_cancel_left → NZ, add_zero → QT, div_add_mod → Ox, div_div_eq_div_mul → SR, div_eq_of_lt → Q9, div_le_div_right → TQ, div_lt_of_lt_mul → Ol, eq_of_testBit_eq → TM, le_add_left → Vq, le_add_right → N_, le_antisymm → S_, le_mul_of_pos_left → SQ, le_mul_of_pos_right → O8, le_of_eq → QJ, le_of_lt → NH, le_of_lt_succ → U4, le_of_succ_le → QS, le_of_succ_le_succ → SK, le_refl → M9, le_succ → Qg, le_trans → M8, log2_lt → Tt, lt_irrefl → Q_, lt_mul_of_div_lt → TR, lt_of_le_of_lt → OH, lt_of_lt_of_eq → Us, lt_of_lt_of_le → Nm, lt_succ_of_lt → ON, lt_succ_self → OY, lt_trans → QN, min_eq_left → PZ, mod_eq_of_lt → Sw, mod_lt → O2, mul_add → PV, mul_assoc → O3, mul_comm → NL, mul_le_mul → RI, mul_le_mul_left → OT, mul_le_mul_right → NV, mul_lt_mul_of_lt_of_le → Ql, mul_one → QD, mul_pos → TN, mul_zero → UZ, ne_of_gt → UT, ne_of_lt → OA, not_le → Vu, not_lt → Pn, not_succ_le_zero → Tv, one_le_two_pow → UA, one_mul → Rg, pow_add → Ow, pow_le_pow_right → NC, pow_lt_pow_right → Rl, pow_one → RY, pow_succ → Qs, pow_succ' → VV, pow_zero → UX, sub_add_sub_cancel → SS, sub_eq_zero_iff_le → SW, sub_le → Uq, sub_le_sub_right → Rh, sub_mul → Vl, sub_self → Rv, succ_lt_succ → Q5, succ_ne_self → PT, succ_ne_zero → O1, succ_pos → OP, testBit_or → VE, two_mul → TP, two_pow_pos → NO, zero_add → PX, zero_le → NG
open Nat.succ renaming inj → V3
open Option renaming bind → Vi, bind_some → Va, elim → RX, map_eq_some_iff → QW, map_none → Vr, map_some → Pd
open Option.some renaming inj → M0, injEq → NP
open PUnit renaming unit → RG
open Prod renaming fst → UB
open Prod.mk renaming inj → Vg, injEq → Sh
open PyProof renaming noPylong_of_log2 → Sa
open PyProof.Rows renaming AllBare → QH, SortKind → Vv, tail_any → UE
open PyProof.Rows.TI renaming gone_get → TH, gone_none → SP
open PySem renaming Addr → Na, Arg → TU, Arguments → Ud, Around → NF, BindsTo → SN, Comprehension → PG, Const → V8, Env → OZ, ExcCallFacts → Rt, Expr → PK, Fin → O7, Flow → P9, FuncData → OM, GenState → Su, Heap → NX, IsEnum → U6, Keyword → VJ, NameKind → Ra, Obj → Ug, Operator → Ry, OsState → Vs, Pos → NW, Program → Rp, Protocol → VD, Result → Vz, Scope → Ve, Seg → Sx, Sem → RE, Shared → MT, Stmt → Td, Str → NT, Tok → Vt, TriplesOk → TV, Value → MU, World → Tr, call → N5, callWith_function_kw → PC, call_enumerate_str → Uv, call_meets → SD, concat_meets → Rq, noFill_tuple_add → Sk, seg_again → U_, seg_execs_cons → OR, seg_execs_nil → OL, seg_wrap → UR, seq_tuple_add → Ui, sizeLine_eq → RV, sliceBounds_plain → UH, slot_list_getitem → UG, slot_list_setitem → UP, typeIs_int → Sz, typeIs_str → Up, wpAny_Assign_Name → PF, wpAny_BinOp → Vf, wpAny_Call_Name_kw → O0, wpAny_Call_method_lateS → Sp, wpAny_Constant_int → Uy, wpAny_Constant_str → Po, wpAny_Expr → VB, wpAny_If → UO, wpAny_Name → Q7, wpAny_assign_Name → RW, wpAny_bind → MV, wpAny_builtinsFor → QU, wpAny_callSpecial?_slot → O6, wpAny_call_entry → PN, wpAny_execs_cons → N1, wpAny_field → Rd, wpAny_functionCodeX → T9, wpAny_functionCode_hit → SM, wpAny_holding → OE, wpAny_isInstance → Sv, wpAny_isTrue_Compare1 → Pu, wpAny_isTrue_value → Uu, wpAny_list_append_plain → So, wpAny_loadName_cell → T4, wpAny_loadName_local → Qh, wpAny_mono → Og, wpAny_newObj_type → Oi, wpAny_newTextTuple → Uw, wpAny_nsGet → TA, wpAny_of_eq → Vj, wpAny_pure → Nb, wpAny_pyIter_enum → PD, wpAny_pyIter_list → Qe, wpAny_pyIter_listiter → Tg, wpAny_pyIter_revIter → Tw, wpAny_raiseNew_none → Ro, wpAny_rule → VA, wpAny_standAt → N9, wpAny_storeName_local → Pr, wpAny_truthy_bool → Ob, wpAny_typeOf → UJ
open PySem.Around renaming frames_deeper → TJ
open PySem.BindsTo renaming of_eq → Ul
open PySem.Builtin renaming bitAnd → QG, bitNot → OD, bitOr → R_, bitXor → Rz
open PySem.Builtin.Generator renaming genWake → RP
open PySem.Builtin.Int renaming intBits → M1
open PySem.Builtin.List renaming listFitsIndex → RD
open PySem.Builtin.SmallTypes renaming nextOf → OW
open PySem.Builtin.Str renaming occurrences → Sl, tooLong → TZ
open PySem.Calls renaming callWith_builtin → QO, evalArgs_plain → Qi, spliced_cons → Pj, spliced_nil → PB
open PySem.CmpOp renaming NotEq → RU
open PySem.Const renaming bool → PM, int → OU, str → Qz
open PySem.Draws renaming strAscii → Vy, strWide → VS
open PySem.Env renaming blockKind → VO
open PySem.ExceptHandler renaming ExceptHandler → Pw
open PySem.Expr renaming Call → O9, Compare → RC, Constant → Np, Name → ND, Tuple → U5, UnaryOp → Um
open PySem.F renaming args_list_add_2 → Sj, args_tuple_add_2 → Qv, entry_list_add → Sy, entry_tuple_add → QC, excCall_ValueError → RM, excRaise_ValueError → Rw, excStr_ValueError → RT, plainAttrs_list → PO, plainAttrs_str → QM, slot_enumerate_next → Tn, slot_int_bit_length → Rr, slot_int_rmul → Tf, slot_list_add → Te, slot_list_count → Sn, slot_list_insert → Se, slot_list_reverse → RN, slot_str_ascii_iterator_next → Q8, slot_str_iterator_next → Sg, slot_tuple_add → QK
open PySem.Flow renaming next → TX
open PySem.Heap renaming ExtBut → PU, FlyingW → V4, MadeExc → UU, SameBut → Pf, get?_push_ne → UI, get?_push_of_some → Ni, get?_push_size → Nl, get?_update_ne → TY, get?_update_self → Ti, lt_size → Od, size_push → Om
open PySem.Heap.IsSliceOf renaming new → V_
open PySem.Heap.PlainList renaming isList → OC
open PySem.Heap.SameBut renaming update → Rn
open PySem.Heap.UpToSlots renaming of_keeps → VZ
open PySem.IsRange renaming new → V7
open PySem.NameKind renaming cell → P7, free → PI
open PySem.Obj renaming data_mapFields → Ux, isFreed_of_fields → Tj, mapSeq → Pc
open PySem.Operator renaming Sub → V9
open PySem.PyData renaming canLayAll0 → UC, depthAll → Vp, eqvAll → VL, str → Vx
open PySem.Sem renaming bind_eq_wrap → Oh, bind_eq_wrap' → US, onRaise_eq_wrap → Qu, wrap_wrap → Qw
open PySem.Shared renaming setGen → Uk
open PySem.Spec renaming countIn → V0
open PySem.Stmt renaming Expr → SY, If → Ue, Raise → QY, Return → PA, Try → Tq
open PySem.Str renaming empty → VW, length → Qn, ofString → QF
open PySem.StrLaws renaming found_one → UD
open PySem.Txt renaming join → V6
open PySem.UnaryOp renaming USub → Un
open PySem.Value renaming int → Sm, none → O_, ref → Rx, str → VX
open PySem.W renaming CodeHd → VC, Frag → T_, codeHd_of_K → TS, kas_sort → QE
open PySem.W.WShape renaming has → Wa
open PySem.Walks renaming list → Ur
open PySem.WalksT renaming enumerateD → UN
namespace Internal

section
set_option genSizeOfSpec false
set_option genSizeOf false
set_option genInjectivity false
namespace Rk
open PySem
theorem bc{p:Prop}(h:¬p→False):p:=Classical.byContradiction h
set_option genCtorIdx true in
inductive BI where
 |len|sum|min|max|abs|divmod|sorted|list|range|enumerate|zip|reversed|str|HK|ve
 deriving DecidableEq
set_option genCtorIdx true in
set_option genInjectivity true in
inductive V where
 |none|bool (b:Bool)|int (i:Int)|str (l:List Nat)
 |tup (l:List V)|lst (l:List V)
 |ref (i:Nat)|fn (g:Nat)|jt (f:Nat) (γ:List Nat)|bi (b:BI)
 deriving Inhabited
set_option genCtorIdx true in
inductive Mt where
 |append|insert|reverse|count|replace|join|dG
 deriving DecidableEq
noncomputable def Mt.z5:Mt→Bool
 |.replace=>true
 |_=>false
noncomputable def dc(k:Nat):NT:=QF ((["_div2n1n","_div3n2n","_int2digits","_digits2int","_divmod_pos","int_divmod","insort_right","bisect_right","insort_left","bisect_left","_iter_escaped_chars","_strip_quoted_realnames","_check_parenthesis","_pre_parse_validation","_law_first","_law_row","_law_dress","_law_ways","_law_hits","_law_words","_law_levels","_law_swept","_law_room","_law_fall","law","len","sum","min","max","abs","divmod","sorted","list","range","enumerate","zip","reversed","str","ZeroDivisionError","ValueError","_DIV_LIMIT"]:List String).getD k "")
noncomputable def cH:Nat→V
 |25=>.bi .len
 |26=>.bi .sum
 |27=>.bi .min
 |28=>.bi .max
 |29=>.bi .abs
 |30=>.bi .divmod
 |31=>.bi .sorted
 |32=>.bi .list
 |33=>.bi .range
 |34=>.bi .enumerate
 |35=>.bi .zip
 |36=>.bi .reversed
 |37=>.bi .str
 |38=>.bi .HK
 |39=>.bi .ve
 |40=>.int 4000
 |k=>.fn k
set_option genInjectivity true in
set_option genCtorIdx true in
inductive SE where
 |lc (n:NT)|ce (n:NT)|fe (n:NT) (outer:Nat)|gl (k:Nat)
noncomputable abbrev Sc:=List SE
noncomputable def SE.name:SE→NT
 |.lc n=>n|.ce n=>n|.fe n _=>n|.gl k=>dc k
noncomputable def SE.kind:SE→Ra
 |.lc _=>.local|.ce _=>.cell|.fe _ _=>.free|.gl _=>.globalImplicit
inductive T where
 |bM (i:Nat) (p:NW)
 |tup (l:List (Nat×NW)) (k:Nat) (p:NW)
set_option genCtorIdx true in
mutual
inductive E where
 |bH
 |cN (k:Nat) (p:NW)
 |cB (b:Bool) (k:Nat) (p:NW)
 |cI (i:Int) (k:Nat) (p:NW)
 |cS (l:List Nat) (k:Nat) (p:NW)
 |var (i:Nat) (p:NW)
 |bin (op:Ry) (a b:E) (p:NW)
 |tR (a b:E) (p:NW)
 |un (op:UnaryOp) (a:E) (p:NW)
 |cmp (op:CmpOp) (a b:E) (p:NW)
 |qv (t a b:E) (p:NW)
 |qQ (op:BoolOp) (l:Es) (p:NW)
 |jD (l:Es) (p:NW)
 |tup (l:Es) (k:Nat) (p:NW)
 |idx (a i:E) (p:NW)
 |slc (a lo hi st:E) (q p:NW)
 |call (f:E) (l:Es) (key:E) (q p:NW)
 |d8 (o:E) (m:Mt) (l:Es) (q p:NW)
 |comp (elt:E) (g:Gs) (sc:Sc) (p:NW)
inductive Es where
 |nil
 |cons (e:E) (r:Es)
inductive Gs where
 |nil
 |cons (t:T) (it:E) (ifs:Es) (r:Gs)
end
mutual
inductive S where
 |raw (s:Td)
 |expr (e:E) (p:NW)
 |asg (t:T) (e:E) (p:NW)
 |tP (sw:Bool) (l:List (Nat×NW)) (k:Nat) (q:NW) (es:Es) (k2:Nat) (q2 p:NW)
 |sub (a i e:E) (q p:NW)
 |aug (i:Nat) (op:Ry) (e:E) (q p:NW)
 |ite (t:E) (a b:Ss) (p:NW)
 |yN (t:E) (b:Ss) (p:NW)
 |gB (t:T) (e:E) (b:Ss) (p:NW)
 |ret (e:E) (p:NW)
 |qw (p:NW)
 |defn (id:Nat) (i:Nat) (p:NW)
inductive Ss where
 |nil
 |cons (s:S) (r:Ss)
end
noncomputable def Ss.ofList:List S→Ss
 |[]=>.nil
 |e::r=>.cons e (ofList r)
noncomputable def Sc.scope(sc:Sc):Ve:={ kind:=.function,names:=sc.map fun x=>(x.name,x.kind),isGenerator:=false,isCoroutine:=false }
noncomputable def Mt.name:Mt→NT
 |.append=>"append"|.insert=>"insert"|.reverse=>"reverse"|.count=>"count"|.replace=>"replace"|.join=>"join"|.dG=>"bit_length"
noncomputable def nm(sc:Sc)(i:Nat):NT:=match sc[i]? with|some x=>x.name|none=>VW
noncomputable def jE(sc:Sc):List (Nat×NW)→List PK
 |[]=>[]
 |x::r=>.Name (nm sc x.1) x.2::jE sc r
noncomputable def toT(sc:Sc):T→PK
 |.bM i p=>.Name (nm sc i) p
 |.tup l k p=>.Tuple (jE sc l) k p
noncomputable def dS:E→Bool
 |.bH=>true
 |_=>false
mutual
noncomputable def bw:E→Sc→PK
 |.bH,_=>.Constant .none 0 default
 |.cN k p,_=>.Constant .none k p
 |.cB b k p,_=>.Constant (.bool b) k p
 |.cI i k p,_=>.Constant (.int i) k p
 |.cS l k p,_=>.Constant (.str ⟨l.toArray⟩) k p
 |.var i p,sc=>.Name (nm sc i) p
 |.bin op a b p,sc=>.BinOp (bw a sc) op (bw b sc) p
 |.tR a b p,sc=>.BinOp (bw a sc) .Add (bw b sc) p
 |.un op a p,sc=>.UnaryOp op (bw a sc) p
 |.cmp op a b p,sc=>.Compare (bw a sc) [op] [bw b sc] p
 |.qv t a b p,sc=>.IfExp (bw t sc) (bw a sc) (bw b sc) p
 |.qQ op l p,sc=>.BoolOp op (b9 l sc) p
 |.jD l p,sc=>.List (b9 l sc) p
 |.tup l k p,sc=>.Tuple (b9 l sc) k p
 |.idx a i p,sc=>.Subscript (bw a sc) (bw i sc) p
 |.slc a lo hi st q p,sc=>.Subscript (bw a sc) (.Slice (cond (dS lo) none (some (bw lo sc))) (cond (dS hi) none (some (bw hi sc))) (cond (dS st) none (some (bw st sc))) q) p
 |.call f l key q p,sc=>.Call (bw f sc) (b9 l sc) (cond (dS key) [] [⟨some "key",bw key sc,q⟩]) p
 |.d8 o m l q p,sc=>.Call (.Attribute (bw o sc) m.name q) (b9 l sc) [] p
 |.comp elt g s p,sc=>.ListComp (bw elt s) (n6 g sc s) s.scope p
noncomputable def b9:Es→Sc→List PK
 |.nil,_=>[]
 |.cons e r,sc=>bw e sc::b9 r sc
noncomputable def n6:Gs→Sc→Sc→List PG
 |.nil,_,_=>[]
 |.cons t it ifs r,sc,s=>⟨toT s t,bw it sc,b9 ifs s,0⟩::toG r s
noncomputable def toG:Gs→Sc→List PG
 |.nil,_=>[]
 |.cons t it ifs r,s=>⟨toT s t,bw it s,b9 ifs s,0⟩::toG r s
end
noncomputable def Kd(e:E)(sc:Sc):Option PK:=cond (dS e) none (some (bw e sc))
structure Nf where
 name:NT
 args:Ud
 sc:Sc
 np:Nat
 body:Ss
 code:List Td
mutual
noncomputable def toS(N:Nat→Nf):S→Sc→Td
 |.raw s,_=>s
 |.expr e p,sc=>.Expr (bw e sc) p
 |.asg t e p,sc=>.Assign [toT sc t] (bw e sc) p
 |.tP _ l k q es k2 q2 p,sc=>.Assign [.Tuple (jE sc l) k q] (.Tuple (b9 es sc) k2 q2) p
 |.sub a i e q p,sc=>.Assign [.Subscript (bw a sc) (bw i sc) q] (bw e sc) p
 |.aug i op e q p,sc=>.AugAssign (.Name (nm sc i) q) op (bw e sc) p
 |.ite t a b p,sc=>.If (bw t sc) (dH N a sc) (dH N b sc) p
 |.yN t b p,sc=>.While (bw t sc) (dH N b sc) [] p
 |.gB t e b p,sc=>.For (toT sc t) (bw e sc) (dH N b sc) [] p
 |.ret e p,sc=>.Return (some (bw e sc)) p
 |.qw p,_=>.Return none p
 |.defn id i p,sc=>.FunctionDef (N id).name (N id).args (N id).code [] none [] (N id).sc.scope none (nm sc i) p
noncomputable def dH(N:Nat→Nf):Ss→Sc→List Td
 |.nil,_=>[]
 |.cons s r,sc=>toS N s sc::dH N r sc
end
mutual
noncomputable def oE:V→V→Bool
 |.none,.none=>true
 |.bool a,.bool b=>a == b
 |.int a,.int b=>a == b
 |.bool a,.int b=>(if a then 1 else 0) == b
 |.int a,.bool b=>a == (if b then 1 else 0)
 |.str a,.str b=>decide (a=b)
 |.tup a,.tup b=>lE a b
 |.lst a,.lst b=>lE a b
 |_,_=>false
noncomputable def lE:List V→List V→Bool
 |[],[]=>true
 |a::r,b::t=>oE a b&&lE r t
 |_,_=>false
end
mutual
noncomputable def V.data:V→Bool
 |.none|.bool _|.int _=>true
 |.str l=>l.all (· <1114112)
 |.tup l=>bA l
 |.lst l=>bA l
 |_=>false
noncomputable def bA:List V→Bool
 |[]=>true
 |v::r=>v.data&&bA r
end
mutual
noncomputable def V.dep:V→Nat
 |.tup l=>fV l+1
 |.lst l=>fV l+1
 |_=>0
noncomputable def fV:List V→Nat
 |[]=>0
 |v::r=>Nat.max v.dep (fV r)
end
structure ao where
 κ:List (Option V)
 σ:List (List V)
noncomputable def aJ(st:ao):V→V
 |.ref i=>match st.σ[i]? with|some l=>.lst l|none=>.ref i
 |v=>v
noncomputable def oh:V→Option Bool
 |.none=>some false
 |.bool b=>some b
 |.int i=>some (i != 0)
 |.str l=>some (!l.isEmpty)
 |.tup l=>some (!l.isEmpty)
 |.lst l=>some (!l.isEmpty)
 |_=>none
noncomputable def lid:Nat:=1048576
noncomputable def gC(i:Int):Bool:=decide (i.natAbs<2^200000)
noncomputable def fE:V→Option Int
 |.int a=>some a
 |_=>none
noncomputable def ju:V→Option (List Nat)
 |.str a=>some a
 |_=>none
noncomputable def iy:V→Option (List V)
 |.lst a=>some a
 |_=>none
noncomputable def z6:V→Option (List V)
 |.tup a=>some a
 |_=>none
noncomputable def Eg:V→Option (List V)
 |.tup a=>some a
 |.lst a=>some a
 |_=>none
theorem ns{α:Type}{a:α}{p:Prop}(h:none=some a):p:=by cases h
theorem bO{x:V}{a:Int}(h:fE x=some a):x= .int a:=by cases x<;>first|exact ns h|exact congrArg _ (M0 h)
theorem eT{x:V}{a:List Nat}(h:ju x=some a):x= .str a:=by cases x<;>first|exact ns h|exact congrArg _ (M0 h)
theorem fK{x:V}{a:List V}(h:iy x=some a):x= .lst a:=by cases x<;>first|exact ns h|exact congrArg _ (M0 h)
theorem yO{x:V}{a:List V}(h:Eg x=some a):x= .tup a∨x= .lst a:=by cases x<;>first|exact ns h|exact .inl (congrArg _ (M0 h))|exact .inr (congrArg _ (M0 h))
theorem qT{x:V}{a:List V}(h:z6 x=some a):x= .tup a:=by cases x<;>first|exact ns h|exact congrArg _ (M0 h)
noncomputable def HL:V→Option Nat
 |.fn g=>some g
 |_=>none
theorem z7{x:V}{a:Nat}(h:HL x=some a):x= .fn a:=by cases x<;>first|exact ns h|exact congrArg _ (M0 h)
inductive HM {α β:Type} (o:Option α) (f:α→Option β) (r:β):Prop
 |mk (a:α) (h1:o=some a) (h2:f a=some r)
theorem af{α β:Type}{o:Option α}{f:α→Option β}{r:β}(h:o.bind f=some r):HM o f r:=by
 cases o with
 |none=>cases h
 |some a=>exact⟨a,rfl,h⟩
theorem aP{α β:Type}{a c:α}{b d:β}(h:some (a,b)=some (c,d)):a=c∧b=d:=by cases h;exact⟨rfl,rfl⟩
theorem dX{α:Type}{p:Prop}[Decidable p]{a r:α}(h:(if p then some a else none)=some r):p∧a=r:=by
 by_cases hp:p
 ·rw[if_pos hp]at h;exact⟨hp,M0 h⟩
 ·rw[if_neg hp]at h;cases h
theorem xB{α:Type}{p:Prop}[Decidable p]{a r:α}(h:(if p then none else some a)=some r):¬p∧a=r:=by
 by_cases hp:p
 ·rw[if_pos hp]at h;cases h
 ·rw[if_neg hp]at h;exact⟨hp,M0 h⟩
noncomputable def ints2{β:Type}(f:Int→Int→Option β)(x y:V):Option β:=(fE x).bind fun a=>(fE y).bind fun b=>f a b
inductive E2 {β:Type} (f:Int→Int→Option β) (x y:V) (r:β):Prop
 |mk (a b:Int) (h1:x= .int a) (h2:y= .int b) (h3:f a b=some r)
theorem m7{β:Type}{f:Int→Int→Option β}{x y:V}{r:β}(h:ints2 f x y=some r):E2 f x y r:=by
 obtain⟨a,h1,h⟩:=af h
 obtain⟨b,h2,h⟩:=af h
 exact⟨a,b,bO h1,bO h2,h⟩
noncomputable def bnd{α β γ:Type}(o:Option (α×β))(f:α→β→Option γ):Option γ:=match o with
 |some (a,b)=>f a b
 |none=>none
inductive Ke {α β γ:Type} (o:Option (α×β)) (f:α→β→Option γ) (r:γ):Prop
 |mk (a:α) (b:β) (h1:o=some (a,b)) (h2:f a b=some r)
theorem az{α β γ:Type}{o:Option (α×β)}{f:α→β→Option γ}{r:γ}(h:bnd o f=some r):Ke o f r:=by
 cases o with
 |none=>cases h
 |some p=>exact⟨p.1,p.2,rfl,h⟩
theorem aA{α β γ:Type}{o:Option (α×β)}{f:α→β→Option γ}{a:α}{b:β}{r:Option γ}(h:o=some (a,b))(k:f a b=r):bnd o f=r:=by subst h;exact k
noncomputable def n7{α β δ γ:Type}(o:Option (α×β×δ))(f:α→β→δ→Option γ):Option γ:=match o with
 |some (a,b,c)=>f a b c
 |none=>none
inductive HN {α β δ γ:Type} (o:Option (α×β×δ)) (f:α→β→δ→Option γ) (r:γ):Prop
 |mk (a:α) (b:β) (c:δ) (h1:o=some (a,b,c)) (h2:f a b c=some r)
theorem d9{α β δ γ:Type}{o:Option (α×β×δ)}{f:α→β→δ→Option γ}{r:γ}(h:n7 o f=some r):HN o f r:=by
 cases o with
 |none=>cases h
 |some p=>exact⟨p.1,p.2.1,p.2.2,rfl,h⟩
theorem fT{α β δ γ:Type}{o:Option (α×β×δ)}{f:α→β→δ→Option γ}{a:α}{b:β}{c:δ}{r:Option γ}(h:o=some (a,b,c))(k:f a b c=r):n7 o f=r:=by subst h;exact k
theorem bind_eq{α β:Type}{o:Option α}{f:α→Option β}{a:α}{r:Option β}(h:o=some a)(k:f a=r):o.bind f=r:=by subst h;exact k
theorem fh{α β γ:Type}{a d:α}{b e:β}{c f:γ}(h:some (a,b,c)=some (d,e,f)):a=d∧b=e∧c=f:=by cases h;exact⟨rfl,rfl,rfl⟩
inductive Kf {α β:Type} (o:Option α) (f:α→β) (r:β):Prop
 |mk (a:α) (h1:o=some a) (h2:f a=r)
theorem iR{α β:Type}{o:Option α}{f:α→β}{r:β}(h:o.map f=some r):Kf o f r:=by
 cases o with
 |none=>cases h
 |some a=>exact⟨a,rfl,M0 h⟩
theorem gk{α:Type}{p:Prop}[Decidable p]{o:Option α}{r:α}(h:(if p then o else none)=some r):p∧o=some r:=by
 by_cases hp:p
 ·rw[if_pos hp]at h;exact⟨hp,h⟩
 ·rw[if_neg hp]at h;cases h
theorem band{a b:Bool}(h:(a&&b)=true):a=true∧b=true:=by
 cases a
 ·cases h
 ·exact⟨rfl,h⟩
noncomputable def HO(st:ao)(x y:V):Option (V×ao):=match x with
 |.int a=>(fE y).bind fun b=>some (.int (a+b),st)
 |.str a=>(ju y).bind fun b=>if a.length+b.length≤lid then some (.str (a++b),st)else none
 |.lst a=>(iy y).bind fun b=>if a.length+b.length≤lid then some (.lst (a++b),st)else none
 |.tup a=>(z6 y).bind fun b=>if a.length+b.length≤lid then some (.tup (a++b),st)else none
 |_=>none
noncomputable def jF:List V→Option V
 |[a]=>some a
 |_=>none
theorem dM{l:List V}{a:V}(h:jF l=some a):l=[a]:=by
 match l,h with
 |[x],h=>cases h;rfl
noncomputable def HP(st:ao)(x y:V):Option (V×ao):=match x with
 |.int a=>(fE y).bind fun b=>if gC a&&gC b then some (.int (a*b),st)else none
 |.str a=>(fE y).bind fun n=>if 0≤n∧n.toNat≤lid∧a.length*n.toNat≤lid then some (.str (M2 n.toNat a).flatten,st)else none
 |.lst l=>(fE y).bind fun n=>(jF l).bind fun a=>if 0≤n∧n.toNat≤lid∧a.data=true then some (.ref st.σ.length,{ st with σ:=st.σ++[M2 n.toNat a] })else none
 |_=>none
noncomputable def d_(st:ao)(op:Ry)(x y:V):Option (V×ao):=match op with
 |.Add=>HO st x y
 |.Sub=>ints2 (fun a b=>some (.int (a-b),st)) x y
 |.Mult=>HP st x y
 |.FloorDiv=>ints2 (fun a b=>if b=0∨2^60≤b.natAbs then none else some (.int (a.fdiv b),st)) x y
 |.Mod=>ints2 (fun a b=>if b=0 then none else some (.int (a.fmod b),st)) x y
 |.Pow=>ints2 (fun a n=>if 0≤n∧n.toNat≤100000∧a.natAbs<2^64 then some (.int (a^n.toNat),st)else none) x y
 |.LShift=>ints2 (fun a n=>if 0≤n∧n.toNat≤100000∧gC a=true then some (.int (a*2^n.toNat),st)else none) x y
 |.RShift=>ints2 (fun a n=>if 0≤n∧n.toNat≤100000 then some (.int (a.fdiv (2^n.toNat)),st)else none) x y
 |.BitAnd=>ints2 (fun a b=>some (.int (QG a b),st)) x y
 |.BitOr=>ints2 (fun a b=>some (.int (R_ a b),st)) x y
 |.BitXor=>ints2 (fun a b=>some (.int (Rz a b),st)) x y
 |_=>none
noncomputable def L6(op:UnaryOp)(x:V):Option V:=match op with
 |.USub=>(fE x).bind fun a=>some (.int (-a))
 |.Invert=>(fE x).bind fun a=>some (.int (OD a))
 |_=>none
noncomputable def vz(x:V):List V→Bool
 |[]=>false
 |y::r=>oE y x || vz x r
mutual
noncomputable def V.noBool:V→Bool
 |.bool _=>false
 |.tup l=>kC l
 |.lst l=>kC l
 |_=>true
noncomputable def kC:List V→Bool
 |[]=>true
 |v::r=>v.noBool&&kC r
end
noncomputable def isNone:V→Bool
 |.none=>true
 |_=>false
noncomputable def iz(a b:V):Bool:=a.data&&b.data&&decide (a.dep≤8)&&decide (b.dep≤8)
noncomputable def okIn(x:V)(l:List V):Bool:=x.data&&bA l&&x.noBool&&kC l&&decide (x.dep≤8)&&decide (fV l≤8)
noncomputable def z8:List Nat→Option Nat
 |[c]=>some c
 |_=>none
theorem lY{l:List Nat}{a:Nat}(h:z8 l=some a):l=[a]:=by
 match l,h with
 |[x],h=>cases h;rfl
noncomputable def z9:V→Option Bool
 |.bool b=>some b
 |_=>none
theorem vA{x:V}{a:Bool}(h:z9 x=some a):x= .bool a:=by cases x<;>first|exact ns h|exact congrArg _ (M0 h)
noncomputable def ltV(x y:V):Option Bool:=match x with
 |.int a=>(fE y).bind fun b=>some (decide (a<b))
 |.str a=>(ju y).bind fun b=>some (decide (a<b))
 |_=>none
noncomputable def J2(x y:V):Option Bool:=match y with
 |.str b=>(ju x).bind fun a=>(z8 a).bind fun c=>some (decide (c∈b))
 |.tup l=>if okIn x l then some (vz x l)else none
 |_=>none
noncomputable def LK(x y:V):Option Bool:=match y with
 |.none=>some (isNone x)
 |.bool b=>(z9 x).bind fun a=>some (a == b)
 |_=>none
noncomputable def iU(op:CmpOp)(x y:V):Option Bool:=match op with
 |.Eq=>if iz x y then some (oE x y)else none
 |.NotEq=>if iz x y then some (!oE x y)else none
 |.Lt=>ltV x y
 |.LtE=>ints2 (fun a b=>some (decide (a≤b))) x y
 |.Gt=>ints2 (fun a b=>some (decide (b<a))) x y
 |.GtE=>ints2 (fun a b=>some (decide (b≤a))) x y
 |.In=>J2 x y
 |.NotIn=>(J2 x y).map (!·)
 |.Is=>LK x y
 |_=>none
noncomputable def m9{α:Type}(l:List α)(i:Int):Option α:=
 if 0≤i then l[i.toNat]? else if 0≤i+l.length then l[(i+l.length).toNat]? else none
noncomputable def lZ(x y:V):Option V:=(fE y).bind fun i=>match x with
 |.lst l=>m9 l i
 |.tup l=>m9 l i
 |.str l=>(m9 l i).map fun c=>.str [c]
 |_=>none
noncomputable def xC:V→Option (Option Int)
 |.none=>some none
 |.int i=>some (some i)
 |_=>none
noncomputable def iV{α:Type}(l:List α)(lo hi:Option Int):List α:=
 (l.drop (lo.elim 0 (clipAt l.length))).take (hi.elim l.length (clipAt l.length)-lo.elim 0 (clipAt l.length))
noncomputable def xD{α:Type}(l:List α)(lo hi:Option Int)(st:Int):List α:=
 (sliceRange (sliceBounds lo hi (some st) l.length).1 (sliceBounds lo hi (some st) l.length).2.1 (sliceBounds lo hi (some st) l.length).2.2).filterMap (l[·]?)
noncomputable def qx(x lo hi st:V):Option V:=(xC lo).bind fun lo=>(xC hi).bind fun hi=>(xC st).bind fun k=>match x with
 |.lst l=>k.elim (some (.lst (iV l lo hi))) fun k=>if k=0 then none else some (.lst (xD l lo hi k))
 |.str l=>k.elim (some (.str (iV l lo hi))) fun _=>none
 |_=>none
noncomputable def intsOf:List V→Option (List Int)
 |[]=>some []
 |.int i::r=>(intsOf r).map (i:: ·)
 |_=>none
noncomputable def sf:List V→Option (V×V)
 |[a,b]=>some (a,b)
 |_=>none
theorem jG{l:List V}{p:V×V}(h:sf l=some p):l=[p.1,p.2]:=by
 match l,h with
 |[x,y],h=>cases h;rfl
noncomputable def Eh(v:V):Option (Int×Int):=(z6 v).bind fun l=>(sf l).bind fun p=>(fE p.1).bind fun a=>(fE p.2).bind fun b=>some (a,b)
theorem yP{v:V}{q:Int×Int}(h:Eh v=some q):v= .tup [.int q.1,.int q.2]:=by
 obtain⟨l,h1,h⟩:=af h
 obtain⟨p,h2,h⟩:=af h
 obtain⟨a,h3,h⟩:=af h
 obtain⟨b,h4,h⟩:=af h
 rw[qT h1,jG h2,bO h3,bO h4,←M0 h]
noncomputable def pairsOf:List V→Option (List (Int×Int))
 |[]=>some []
 |v::r=>(Eh v).bind fun p=>(pairsOf r).map (p:: ·)
noncomputable def m_(x:Int):List Int→List Int
 |[]=>[x]
 |y::r=>if x<y then x::y::r else y::m_ x r
noncomputable def iW:List Int→List Int
 |[]=>[]
 |x::r=>m_ x (iW r)
noncomputable def sj(a b:Int×Int):Bool:=decide (a.1<b.1) || (a.1 == b.1&&decide (a.2<b.2))
noncomputable def tT{α:Type}(lt:Nat→Nat→Bool):PySem.W.KasT α→α
 |.ret a=>a
 |.ask i j k=>tT lt (k (lt i j))
noncomputable def fj(ps:List (Int×Int)):List Nat:=(tT (fun i j=>sj (ps.getD i (0,0)) (ps.getD j (0,0))) (QE 4)).toList
noncomputable def vB(l:List V):Option V:=(pairsOf l).bind fun ps=>if l.length=4∧(fj ps).length≤lid then some (.lst ((fj ps).map fun i=>l.getD i .none))else none
noncomputable def strsOf:List V→Option (List (List Nat))
 |[]=>some []
 |.str l::r=>(strsOf r).map (l:: ·)
 |_=>none
noncomputable def oF:Int→List Int→Int
 |m,[]=>m
 |m,x::r=>oF (if m<x then x else m) r
noncomputable def qy:Int→List Int→Int
 |m,[]=>m
 |m,x::r=>qy (if x<m then x else m) r
noncomputable def HQ:List Int→Option (Int×List Int)
 |x::r=>some (x,r)
 |[]=>none
theorem z_{l:List Int}{p:Int×List Int}(h:HQ l=some p):l=p.1::p.2:=by
 cases l with
 |nil=>cases h
 |cons x r=>cases h;rfl
noncomputable def HR(x:V):Option V:=match x with
 |.lst l=>some (.int l.length)
 |.tup l=>some (.int l.length)
 |.str l=>some (.int l.length)
 |_=>none
noncomputable def xE(f:Int→Int→Int)(g:Int→List Int→Int)(args:List V):Option V:=match sf args with
 |some p=>ints2 (fun a b=>some (.int (f a b))) p.1 p.2
 |none=>(jF args).bind fun x=>(iy x).bind fun l=>(intsOf l).bind fun xs=>(HQ xs).bind fun p=>some (.int (g p.1 p.2))
noncomputable def xF(b:BI)(args:List V):Option V:=match b with
 |.len=>(jF args).bind HR
 |.sum=>(jF args).bind fun x=>(iy x).bind fun l=>(intsOf l).bind fun xs=>some (.int xs.sum)
 |.min=>xE (fun a b=>if b<a then b else a) qy args
 |.max=>xE (fun a b=>if a<b then b else a) oF args
 |.abs=>(jF args).bind fun x=>(fE x).bind fun a=>some (.int a.natAbs)
 |.divmod=>(sf args).bind fun p=>ints2 (fun a b=>if b=0∨9000≤b.natAbs.log2 then none else some (.tup [.int (a.fdiv b),.int (a.fmod b)])) p.1 p.2
 |.sorted=>(jF args).bind fun x=>(iy x).bind fun l=>if l.length<64 then (intsOf l).elim (vB l) fun xs=>some (.lst ((iW xs).map .int))else none
 |_=>none
noncomputable def ic(x:V):List V→Nat
 |[]=>0
 |y::r=>(if oE y x then 1 else 0)+ic x r
noncomputable def fL(c:Nat):List Nat→Nat
 |[]=>0
 |y::r=>(if y=c then 1 else 0)+fL c r
noncomputable def sq(st:ao)(x:V):Option (Nat×List V):=match x with
 |.ref i=>(st.σ[i]?).bind fun l=>some (i,l)
 |_=>none
theorem fW{st:ao}{x:V}{p:Nat×List V}(h:sq st x=some p):x= .ref p.1∧st.σ[p.1]? =some p.2:=by
 cases x with
 |ref i=>obtain⟨l,h1,h2⟩:=af h;have h2:=M0 h2;subst h2;exact⟨rfl,h1⟩
 |_=>exact ns h
noncomputable def isNil{α:Type}:List α→Option Unit
 |[]=>some ()
 |_=>none
theorem iA{α:Type}{l:List α}{u:Unit}(h:isNil l=some u):l=[]:=by
 cases l with
 |nil=>rfl
 |cons a r=>cases h
noncomputable def sr(st:ao)(o x:V):Option (V×ao):=match o with
 |.lst l=>if okIn x l then some (.int (ic x l),st)else none
 |.str l=>(ju x).bind fun a=>(z8 a).bind fun c=>some (.int (fL c l),st)
 |_=>none
noncomputable def eG(st:ao)(m:Mt)(x:V)(args:List V):Option (V×ao):=match m with
 |.append=>(jF args).bind fun v=>(sq st x).bind fun p=>if v.data∧p.2.length<lid then some (.none,{ st with σ:=st.σ.set p.1 (p.2++[v]) })else none
 |.insert=>(sf args).bind fun q=>(fE q.1).bind fun k=>(sq st x).bind fun p=>if q.2.data∧p.2.length<lid∧0≤k∧k≤p.2.length then some (.none,{ st with σ:=st.σ.set p.1 (p.2.take k.toNat++q.2::p.2.drop k.toNat) })else none
 |.reverse=>(isNil args).bind fun _=>(sq st x).bind fun p=>some (.none,{ st with σ:=st.σ.set p.1 p.2.reverse })
 |.count=>(jF args).bind fun v=>sr st (aJ st x) v
 |.join=>(ju x).bind fun t=>(isNil t).bind fun _=>(jF args).bind fun o=>(iy (aJ st o)).bind fun l=>(strsOf l).bind fun xs=>if xs.flatten.length≤lid then some (.str xs.flatten,st)else none
 |.dG=>(fE x).bind fun i=>(isNil args).bind fun _=>some (.int (M1 i),st)
 |.replace=>(ju x).bind fun t=>(sf args).bind fun q=>(ju q.1).bind fun a=>(z8 a).bind fun c=>(ju q.2).bind fun b=>(isNil b).bind fun _=>some (.str (t.filter fun y=> !(y == c)),st)
set_option genCtorIdx true in
set_option genInjectivity true in
inductive SV where
 |loc (v:Option V)|fB (k:Nat)|cY (v:V)
structure En where
 ρ:List SV
 kb:Nat
noncomputable def cC(en:En)(st:ao)(i:Nat):Option V:=match en.ρ[i]? with
 |some (.loc v)=>v
 |some (.fB k)=>(st.κ[k]?).getD none
 |some (.cY v)=>some v
 |none=>none
noncomputable def fC(en:En)(st:ao)(i:Nat)(v:V):Option (En×ao):=match en.ρ[i]? with
 |some (.loc _)=>some ({ en with ρ:=en.ρ.set i (.loc (some v)) },st)
 |some (.fB k)=>if en.kb≤k∧k<st.κ.length then some (en,{ st with κ:=st.κ.set k (some v) })else none
 |_=>none
noncomputable def jH:List (Nat×NW)→List V→En→ao→Option (En×ao)
 |[],vs,en,st=>(isNil vs).bind fun _=>some (en,st)
 |x::l,vs,en,st=>match vs with
  |[]=>none
  |v::r=>bnd (fC en st x.1 v) fun en st=>jH l r en st
noncomputable def gU(t:T)(v:V)(en:En)(st:ao):Option (En×ao):=match t with
 |.bM i _=>fC en st i v
 |.tup l _ _=>(Eg v).bind fun xs=>jH l xs en st
noncomputable def aV:Sc→List (Option V)→List Nat→List (Option V)→List SV×List (Option V)
 |[],_,_,κ=>([],κ)
 |.lc _::r,a,f,κ=>(.loc (a.headD none)::(aV r a.tail f κ).1,(aV r a.tail f κ).2)
 |.ce _::r,a,f,κ=>(.fB κ.length::(aV r a.tail f (κ++[a.headD none])).1,(aV r a.tail f (κ++[a.headD none])).2)
 |.fe _ _::r,a,f,κ=>(.fB (f.headD 0)::(aV r a.tail f.tail κ).1,(aV r a.tail f.tail κ).2)
 |.gl k::r,a,f,κ=>(.cY (cH k)::(aV r a.tail f κ).1,(aV r a.tail f κ).2)
noncomputable def Ei:Option SV→Option Nat
 |some (.fB k)=>some k
 |_=>none
theorem yQ{o:Option SV}{k:Nat}(h:Ei o=some k):o=some (.fB k):=by
 cases o with
 |none=>cases h
 |some v=>cases v<;>first|exact ns h|exact congrArg (fun x=>some (SV.fB x)) (M0 h)
noncomputable def eL(en:En):Sc→Option (List Nat)
 |[]=>some []
 |x::r=>match x with
  |.fe _ o=>(Ei en.ρ[o]?).bind fun k=>(eL en r).bind fun ks=>some (k::ks)
  |_=>eL en r
structure cQ where
 call:V→List V→Option V→ao→Option (V×ao)
 gen:V→List V→Option (List V)
set_option genCtorIdx true in
inductive Md where
 |val|test|iter
 deriving DecidableEq
set_option genCtorIdx true in
inductive Fl where
 |bU|ret (v:V)
noncomputable def cA(a:Int):Nat→List V
 |0=>[]
 |n+1=>.int a::cA (a+1) n
noncomputable def eU:Int→List V→List V
 |_,[]=>[]
 |i,v::r=>.tup [.int i,v]::eU (i+1) r
noncomputable def ig:V→Option (List V)
 |.lst l=>some l
 |.tup l=>some l
 |.str l=>some (l.map fun c=>.str [c])
 |_=>none
noncomputable def vC(args:List V):Option (List V):=match sf args with
 |some p=>ints2 (fun a b=>if 0≤a∧a≤lid∧ -(lid:Int)≤b∧b≤lid then some (cA a (b-a).toNat)else none) p.1 p.2
 |none=>(jF args).bind fun x=>(fE x).bind fun b=>if -(lid:Int)≤b∧b≤lid then some (cA 0 b.toNat)else none
noncomputable def Ej(args:List V):Option (List V):=(jF args).bind fun x=>match x with
 |.lst l=>some (eU 0 l)
 |.str l=>some (eU 0 (l.map fun c=>.str [c]))
 |_=>none
noncomputable def HS(args:List V):Option (List V):=(jF args).bind fun x=>(iy x).bind fun a=>some a.reverse
noncomputable def tU(O:cQ)(f:V)(args:List V):Option (List V):=match f with
 |.bi b=>match b with
  |.range=>vC args
  |.enumerate=>Ej args
  |.reversed=>HS args
  |_=>none
 |.fn g=>O.gen (.fn g) args
 |_=>none
noncomputable def l0(t:T)(turn:En→ao→List V→Option (En×ao×List V)):List V→En→ao→List V→Option (En×ao×List V)
 |[],en,st,acc=>some (en,st,acc)
 |v::r,en,st,acc=>bnd (gU t v en st) fun en st=>n7 (turn en st acc) fun en st acc=>l0 t turn r en st acc
noncomputable def xG(i:Nat)(t:T)(turn:En→ao→List V→Option (En×ao×List V)):Nat→Nat→En→ao→List V→Option (En×ao×List V)
 |0,_,_,_,_=>none
 |n+1,j,en,st,acc=>(st.σ[i]?).bind fun l=>match l[j]? with
  |none=>some (en,st,acc)
  |some v=>bnd (gU t v en st) fun en st=>n7 (turn en st acc) fun en st acc=>xG i t turn n (j+1) en st acc
noncomputable def xH(t:T)(turn:En→ao→List V→Option (En×ao×List V))(src:V)(en:En)(st:ao)(acc:List V):Option (En×ao×List V):=match src with
 |.ref i=>xG i t turn 100 0 en st acc
 |src=>(ig src).bind fun l=>l0 t turn l en st acc
noncomputable def oG(O:cQ)(f:V)(args:List V)(k:Option V)(st:ao):Option (V×ao):=match f with
 |.bi b=>k.elim ((xF b (args.map (aJ st))).map (·,st)) fun _=>none
 |.fn g=>O.call (.fn g) args k st
 |.jt f γ=>O.call (.jt f γ) args k st
 |_=>none
noncomputable def Md.jI:Md→Bool
 |.test=>true
 |_=>false
noncomputable def Md.Aa:Md→Bool
 |.iter=>true
 |_=>false
noncomputable def fM(O:cQ)(md:Md)(vf:V)(args:List V)(k:Option V)(st:ao):Option (V×ao):=
 cond (md.Aa&&k.isNone) ((tU O vf args).elim (oG O vf args k st) fun l=>some (.lst l,st)) (oG O vf args k st)
noncomputable def a_(r:Option (V×ao)):Option (Bool×ao):=bnd r fun v st=>(oh (aJ st v)).bind fun b=>some (b,st)
noncomputable def Ab:UnaryOp→Bool
 |.Not=>true
 |_=>false
noncomputable def oH:BoolOp→Bool
 |.And=>true
 |.Or=>false
noncomputable def Kg(b:BI):Option V→Bool
 |some (.bi c)=>decide (c=b)
 |_=>false
theorem HT{b:BI}{o:Option V}(h:Kg b o=true):o=some (.bi b):=by
 cases o with
 |none=>cases h
 |some v=>cases v<;>first|exact congrArg (fun x=>some (V.bi x)) (of_decide_eq_true h)|exact nomatch (show false=true from h)
noncomputable def fN:Es→Bool
 |.nil=>true
 |_=>false
mutual
noncomputable def ak(O:cQ):E→Md→En→ao→Option (V×ao)
 |.bH,_,_,st=>some (.none,st)
 |.cN _ _,_,_,st=>some (.none,st)
 |.cB b _ _,_,_,st=>some (.bool b,st)
 |.cI i _ _,_,_,st=>some (.int i,st)
 |.cS l _ _,_,_,st=>some (.str l,st)
 |.var i _,_,en,st=>(cC en st i).bind fun v=>some (v,st)
 |.bin op a b _,_,en,st=>bnd (ak O a .val en st) fun x st=>bnd (ak O b .val en st) fun y st=>d_ st op (aJ st x) (aJ st y)
 |.tR a b _,_,en,st=>bnd (ak O a .val en st) fun x st=>bnd (ak O b .val en st) fun y st=>(iy (aJ st x)).bind fun l=>(iy (aJ st y)).bind fun r=>
   if l.length+r.length≤lid∧bA l=true∧bA r=true then some (.ref st.σ.length,{ st with σ:=st.σ++[l++r] })else none
 |.un op a _,md,en,st=>cond (Ab op&&md.jI) (bnd (a_ (ak O a .test en st)) fun b st=>some (.bool (!b),st)) (bnd (ak O a .val en st) fun x st=>(L6 op x).bind fun v=>some (v,st))
 |.cmp op a b _,_,en,st=>bnd (ak O a .val en st) fun x st=>bnd (ak O b .val en st) fun y st=>(iU op (aJ st x) (aJ st y)).bind fun b=>some (.bool b,st)
 |.qv t a b _,md,en,st=>cond md.jI none (bnd (a_ (ak O t .test en st)) fun c st=>cond c (ak O a .val en st) (ak O b .val en st))
 |.qQ op l _,md,en,st=>cond md.jI (bnd (oJ O op l en st) fun b st=>some (.bool b,st)) none
 |.jD l _,_,en,st=>cond (fN l) (some (.ref st.σ.length,{ st with σ:=st.σ++[[]] })) (bnd (b8 O l en st) fun xs st=>if bA xs=true then some (.lst xs,st)else none)
 |.tup l _ _,_,en,st=>bnd (b8 O l en st) fun xs st=>some (.tup xs,st)
 |.idx a i _,_,en,st=>bnd (ak O a .val en st) fun x st=>bnd (ak O i .val en st) fun y st=>(lZ (aJ st x) y).bind fun v=>some (v,st)
 |.slc a lo hi s _ _,_,en,st=>bnd (ak O a .val en st) fun x st=>bnd (ak O lo .val en st) fun l st=>bnd (ak O hi .val en st) fun h st=>bnd (ak O s .val en st) fun k st=>(qx (aJ st x) l h k).bind fun v=>some (v,st)
 |.call f l key _ _,md,en,st=>bnd (ak O f .val en st) fun vf st=>bnd (b8 O l en st) fun args st=>cond (dS key) (fM O md vf args none st) (bnd (ak O key .val en st) fun v st=>fM O md vf args (some v) st)
 |.d8 o m l _ _,_,en,st=>bnd (ak O o .val en st) fun x st=>bnd (b8 O l en st) fun args st=>eG st m x args
 |.comp elt g sc _,_,en,st=>match g with
  |.nil=>none
  |.cons t it ifs rest=>bnd (ak O it .iter en st) fun src st=>(eL en sc).bind fun fr=>
    n7 (xH t (fun en st acc=>bnd (oJ O .And ifs en st) fun b st=>cond b (CD O (fun en st=>ak O elt .val en st) rest en st acc) (some (en,st,acc))) src ⟨(aV sc [] fr st.κ).1,st.κ.length⟩ { st with κ:=(aV sc [] fr st.κ).2 } []) fun _ st' acc=>
     if acc.length≤lid∧bA acc=true then some (.lst acc.reverse,{ st' with κ:=st.κ })else none
noncomputable def CD(O:cQ)(elt:En→ao→Option (V×ao)):Gs→En→ao→List V→Option (En×ao×List V)
 |.nil,en,st,acc=>bnd (elt en st) fun v st=>if v.data=true∧acc.length<lid then some (en,st,v::acc)else none
 |.cons t it ifs rest,en,st,acc=>bnd (ak O it .iter en st) fun src st=>xH t (fun en st acc=>bnd (oJ O .And ifs en st) fun b st=>cond b (CD O elt rest en st acc) (some (en,st,acc))) src en st acc
noncomputable def oJ(O:cQ):BoolOp→Es→En→ao→Option (Bool×ao)
 |op,.nil,_,st=>some (oH op,st)
 |op,.cons e r,en,st=>bnd (a_ (ak O e .test en st)) fun b st=>cond (b == oH op) (oJ O op r en st) (some (b,st))
noncomputable def b8(O:cQ):Es→En→ao→Option (List V×ao)
 |.nil,_,st=>some ([],st)
 |.cons e r,en,st=>bnd (ak O e .val en st) fun x st=>bnd (b8 O r en st) fun xs st=>some (x::xs,st)
end
noncomputable def jJ(O:cQ)(elt:E)(ifs:Es)(rest:Gs)(en:En)(st:ao)(acc:List V):Option (En×ao×List V):=
 bnd (oJ O .And ifs en st) fun b st=>cond b (CD O (fun en st=>ak O elt .val en st) rest en st acc) (some (en,st,acc))
noncomputable def Fl.go{β:Type}(fl:Fl)(a:β)(b:V→β):β:=match fl with
 |.bU=>a
 |.ret v=>b v
noncomputable def fk(t:T)(body:En→ao→Option (Fl×En×ao)):List V→En→ao→Option (Fl×En×ao)
 |[],en,st=>some (.bU,en,st)
 |v::r,en,st=>bnd (gU t v en st) fun en st=>n7 (body en st) fun fl en st=>fl.go (fk t body r en st) fun v=>some (.ret v,en,st)
noncomputable def forR(i:Nat)(t:T)(body:En→ao→Option (Fl×En×ao)):Nat→Nat→En→ao→Option (Fl×En×ao)
 |0,_,_,_=>none
 |n+1,j,en,st=>(st.σ[i]?).bind fun l=>match l[j]? with
  |none=>some (.bU,en,st)
  |some v=>bnd (gU t v en st) fun en st=>n7 (body en st) fun fl en st=>fl.go (forR i t body n (j+1) en st) fun v=>some (.ret v,en,st)
noncomputable def qz(test:En→ao→Option (Bool×ao))(body:En→ao→Option (Fl×En×ao)):Nat→En→ao→Option (Fl×En×ao)
 |0,_,_=>none
 |n+1,en,st=>bnd (test en st) fun b st=>cond b (n7 (body en st) fun fl en st=>fl.go (qz test body n en st) fun v=>some (.ret v,en,st)) (some (.bU,en,st))
noncomputable def tV(op:Ry)(x y:V):Option V:=match op with
 |.Add=>ints2 (fun a b=>some (.int (a+b))) x y
 |.Sub=>ints2 (fun a b=>some (.int (a-b))) x y
 |.LShift=>ints2 (fun a n=>if 0≤n∧n.toNat≤100000∧gC a=true then some (.int (a*2^n.toNat))else none) x y
 |.RShift=>ints2 (fun a n=>if 0≤n∧n.toNat≤100000 then some (.int (a.fdiv (2^n.toNat)))else none) x y
 |_=>none
noncomputable def iB:Nat:=100
noncomputable def E3(t:T)(body:En→ao→Option (Fl×En×ao))(src:V)(en:En)(st:ao):Option (Fl×En×ao):=match src with
 |.ref i=>forR i t body iB 0 en st
 |src=>(ig src).bind fun items=>fk t body items en st
mutual
noncomputable def aX(O:cQ)(N:Nat→Nf):S→En→ao→Option (Fl×En×ao)
 |.raw _,_,_=>none
 |.expr e _,en,st=>bnd (ak O e .val en st) fun v st=>cond (isNone v) (some (.bU,en,st)) none
 |.asg t e _,en,st=>bnd (ak O e .val en st) fun v st=>bnd (gU t v en st) fun en st=>some (.bU,en,st)
 |.tP sw l _ _ es _ _ _,en,st=>bnd (b8 O es en st) fun vs st=>bnd (cond sw (jH l.reverse vs.reverse en st) (jH l vs en st)) fun en st=>some (.bU,en,st)
 |.sub a i e _ _,en,st=>bnd (ak O e .val en st) fun v st=>bnd (ak O a .val en st) fun x st=>bnd (ak O i .val en st) fun y st=>(sq st x).bind fun p=>(fE y).bind fun k=>
   if v.data=true∧0≤k∧k<p.2.length then some (.bU,en,{ st with σ:=st.σ.set p.1 (p.2.set k.toNat v) })else none
 |.aug i op e _ _,en,st=>(cC en st i).bind fun x=>bnd (ak O e .val en st) fun y st=>(tV op x y).bind fun v=>bnd (fC en st i v) fun en st=>some (.bU,en,st)
 |.ite t a b _,en,st=>bnd (a_ (ak O t .test en st)) fun c st=>cond c (aE O N a en st) (aE O N b en st)
 |.yN t b _,en,st=>qz (fun en st=>a_ (ak O t .test en st)) (fun en st=>aE O N b en st) iB en st
 |.gB t e b _,en,st=>bnd (ak O e .iter en st) fun src st=>E3 t (fun en st=>aE O N b en st) src en st
 |.ret e _,en,st=>bnd (ak O e .val en st) fun v st=>some (.ret v,en,st)
 |.qw _,en,st=>some (.ret .none,en,st)
 |.defn id i _,en,st=>(eL en (N id).sc).bind fun fr=>bnd (fC en st i (.jt id fr)) fun en st=>some (.bU,en,st)
noncomputable def aE(O:cQ)(N:Nat→Nf):Ss→En→ao→Option (Fl×En×ao)
 |.nil,en,st=>some (.bU,en,st)
 |.cons s r,en,st=>n7 (aX O N s en st) fun fl en st=>fl.go (aE O N r en st) fun v=>some (.ret v,en,st)
end
structure Fd where
 np:Nat
 key:Bool
 dflt:List V
 sc:Sc
 body:Ss
structure Pg where
 F:Nat→Fd
 N:Nat→Nf
 gen:V→List V→Option (List V)
 jv:Nat→Bool
noncomputable def gh(fd:Fd)(args:List V)(key:Option V):Option (List V):=
 if args.length≤fd.np∧fd.np≤args.length+fd.dflt.length then
  match fd.key,key with
  |true,k=>some (args++fd.dflt.drop (args.length+fd.dflt.length-fd.np)++[k.getD .none])
  |false,none=>some (args++fd.dflt.drop (args.length+fd.dflt.length-fd.np))
  |false,some _=>none
 else none
mutual
noncomputable def freeze(n:Nat)(st:ao):V→V
 |.ref i=>if i<n then .ref i else match st.σ[i]? with|some l=>.lst l|none=>.ref i
 |.tup l=>.tup (gZ n st l)
 |v=>v
noncomputable def gZ(n:Nat)(st:ao):List V→List V
 |[]=>[]
 |v::r=>freeze n st v::gZ n st r
end
noncomputable def CE:Fl→V
 |.ret v=>v
 |.bU=>.none
mutual
noncomputable def oK:V→Bool
 |.jt .. =>false
 |.tup l=>vD l
 |.lst l=>bA l
 |_=>true
noncomputable def vD:List V→Bool
 |[]=>true
 |v::r=>oK v&&vD r
end
noncomputable def CF(O:cQ)(N:Nat→Nf)(sc:Sc)(vals:List V)(fr:List Nat)(body:Ss)(st:ao):Option (V×ao):=
 n7 (aE O N body ⟨(aV sc (vals.map some) fr st.κ).1,st.κ.length⟩ { st with κ:=(aV sc (vals.map some) fr st.κ).2 }) fun fl _ st'=>
  if oK (CE fl)=true then some (freeze st.σ.length st' (CE fl),{ κ:=st.κ,σ:=st'.σ.take st.σ.length })else none
noncomputable def aO(P:Pg):Nat→V→List V→Option V→ao→Option (V×ao)
 |0,_,_,_,_=>none
 |n+1,f,args,key,st=>match f with
  |.fn g=>cond (P.jv g) none ((gh (P.F g) args key).bind fun vals=>CF ⟨aO P n,P.gen⟩ P.N (P.F g).sc vals [] (P.F g).body st)
  |.jt i γ=>key.elim (if args.length=(P.N i).np then CF ⟨aO P n,P.gen⟩ P.N (P.N i).sc args γ (P.N i).body st else none) fun _=>none
  |_=>none
noncomputable def jK(P:Pg)(n:Nat):cQ:=⟨aO P n,P.gen⟩
noncomputable def cK:Int→Bool→List Nat→List V
 |p,true,[]=>[.tup [.int (p-1),.str [92]]]
 |_,false,[]=>[]
 |p,true,c::r=>.tup [.int p,.str [92,c]]::cK (p+1) false r
 |p,false,c::r=>if c=92 then cK (p+1) true r else .tup [.int p,.str [c]]::cK (p+1) false r
noncomputable def fX(l:List Nat):List V:=cK 0 false l
theorem kD:bA []=true:=rfl
theorem g6(v:V)(r:List V):bA (v::r)=(v.data&&bA r):=rfl
theorem vE:fV []=0:=rfl
theorem su(v:V)(r:List V):fV (v::r)=Nat.max v.dep (fV r):=rfl
theorem Ac(l:List Nat):(V.str l).dep=0:=rfl
theorem Ae(i:Int):(V.int i).dep=0:=rfl
theorem Af(l:List V):(V.tup l).dep=fV l+1:=rfl
theorem Ag(l:List V):(V.lst l).dep=fV l+1:=rfl
theorem Ah(l:List Nat):(V.str l).data=l.all (· <1114112):=rfl
theorem Ai(a:V)(r:List V)(b:V)(t:List V):lE (a::r) (b::t)=(oE a b&&lE r t):=rfl
theorem Aj(a b:List Nat):oE (.str a) (.str b)=decide (a=b):=rfl
theorem Ak(a b:Int):oE (.int a) (.int b)=(a == b):=rfl
theorem Al:strsOf []=some []:=rfl
theorem Am(l:List Nat)(r:List V):strsOf (.str l::r)=(strsOf r).map (l:: ·):=rfl
theorem An:intsOf []=some []:=rfl
theorem Ao(i:Int)(r:List V):intsOf (.int i::r)=(intsOf r).map (i:: ·):=rfl
theorem l5(a:Int):cA a 0=[]:=rfl
theorem l6(a:Int)(n:Nat):cA a (n+1)= .int a::cA (a+1) n:=rfl
theorem kE(i:Int):eU i []=[]:=rfl
theorem kF(i:Int)(v:V)(r:List V):eU i (v::r)= .tup [.int i,v]::eU (i+1) r:=rfl
theorem Aq(m x:Int)(r:List Int):oF m (x::r)=oF (if m<x then x else m) r:=rfl
theorem Ar(m:Int):oF m []=m:=rfl
theorem As(m x:Int)(r:List Int):qy m (x::r)=qy (if x<m then x else m) r:=rfl
theorem Au(m:Int):qy m []=m:=rfl
theorem bW(n:Nat)(st:ao)(i:Int):freeze n st (.int i)= .int i:=rfl
theorem bX(n:Nat)(st:ao)(b:Bool):freeze n st (.bool b)= .bool b:=rfl
theorem bY(n:Nat)(st:ao)(l:List Nat):freeze n st (.str l)= .str l:=rfl
theorem bZ(n:Nat)(st:ao):freeze n st .none= .none:=rfl
theorem b6(n:Nat)(st:ao)(l:List V):freeze n st (.lst l)= .lst l:=rfl
theorem b7(n:Nat)(st:ao)(l:List V):freeze n st (.tup l)= .tup (gZ n st l):=rfl
theorem bP(n:Nat)(st:ao)(i:Nat):freeze n st (.ref i)=if i<n then .ref i else match st.σ[i]? with|some l=>.lst l|none=>.ref i:=rfl
theorem eV(n:Nat)(st:ao):gZ n st []=[]:=rfl
theorem eY(n:Nat)(st:ao)(v:V)(r:List V):gZ n st (v::r)=freeze n st v::gZ n st r:=rfl
theorem eZ(v:V):CE (.ret v)=v:=rfl
theorem fF:CE .bU= .none:=rfl
theorem sy(p:Int):cK p false []=[]:=rfl
theorem sA(p:Int)(c:Nat)(r:List Nat):cK p true (c::r)= .tup [.int p,.str [92,c]]::cK (p+1) false r:=rfl
theorem jL(p:Int)(c:Nat)(r:List Nat):cK p false (c::r)=if c=92 then cK (p+1) true r else .tup [.int p,.str [c]]::cK (p+1) false r:=rfl
theorem iX(a:List (Option V))(f:List Nat)(κ:List (Option V)):aV [] a f κ=([],κ):=rfl
theorem iY(n:NT)(r:Sc)(a:List (Option V))(f:List Nat)(κ:List (Option V)):aV (.lc n::r) a f κ=(.loc (a.headD none)::(aV r a.tail f κ).1,(aV r a.tail f κ).2):=rfl
theorem iZ(n:NT)(r:Sc)(a:List (Option V))(f:List Nat)(κ:List (Option V)):aV (.ce n::r) a f κ=(.fB κ.length::(aV r a.tail f (κ++[a.headD none])).1,(aV r a.tail f (κ++[a.headD none])).2):=rfl
theorem i0(n:NT)(o:Nat)(r:Sc)(a:List (Option V))(f:List Nat)(κ:List (Option V)):aV (.fe n o::r) a f κ=(.fB (f.headD 0)::(aV r a.tail f.tail κ).1,(aV r a.tail f.tail κ).2):=rfl
theorem i6(k:Nat)(r:Sc)(a:List (Option V))(f:List Nat)(κ:List (Option V)):aV (.gl k::r) a f κ=(.cY (cH k)::(aV r a.tail f κ).1,(aV r a.tail f κ).2):=rfl
theorem sC(sc:Sc):jE sc []=[]:=rfl
theorem sD(sc:Sc)(x:Nat×NW)(r:List (Nat×NW)):jE sc (x::r)= .Name (nm sc x.1) x.2::jE sc r:=rfl
theorem cP(st:ao)(i:Nat):aJ st (.ref i)=match st.σ[i]? with|some l=>.lst l|none=>.ref i:=rfl
theorem vF(x y:V):iU .Eq x y=if iz x y then some (oE x y)else none:=rfl
theorem nc(x y:V):iU .NotEq x y=if iz x y then some (!oE x y)else none:=rfl
theorem CG(l:List Nat):ju (.str l)=some l:=rfl
theorem CH(l:List V):iy (.lst l)=some l:=rfl
theorem CJ{α:Type}:isNil ([]:List α)=some ():=rfl
theorem E4(a:V):jF [a]=some a:=rfl
theorem CK(st:ao)(x:V)(args:List V):eG st .join x args=(ju x).bind fun t=>(isNil t).bind fun _=>(jF args).bind fun o=>(iy (aJ st o)).bind fun l=>(strsOf l).bind fun xs=>if xs.flatten.length≤lid then some (.str xs.flatten,st)else none:=rfl
theorem jM{α:Type}{l r:List α}{i:Nat}{c:α}(h:l.drop i=c::r):l[i]? =some c∧l.drop (i+1)=r:=
 ⟨by rw[←Rm,h];rfl,by rw[←RB,h];rfl⟩
end Rk
end

section
namespace Rk.av
open PySem
noncomputable abbrev q (l a b : Nat) : Pos := ⟨l, a, l, b⟩
noncomputable def L7:Sc:=[.lc "a",.lc "b",.lc "n",.lc "pad",.lc "half_n",.lc "mask",.lc "b1",.lc "b2",.lc "q1",.lc "r",.lc "q2",.gl 40,.gl 30,.gl 1]
noncomputable def HA:Ss:=Ss.ofList [(.ite (.cmp .LtE (.bin .Sub (.d8 (.var 0 (q 4 7 8)) .dG .nil (q 4 7 19) (q 4 7 21)) (.var 2 (q 4 24 25)) (q 4 7 25)) (.var 11 (q 4 29 39)) (q 4 7 39)) (.cons (.ret (.call (.var 12 (q 5 15 21)) (.cons (.var 0 (q 5 22 23)) (.cons (.var 1 (q 5 25 26)) .nil)) .bH default (q 5 15 27)) (q 5 8 27)) .nil) .nil ⟨4,4,5,27⟩),
 (.asg (.bM 3 (q 6 4 7)) (.bin .BitAnd (.var 2 (q 6 10 11)) (.cI 1 0 (q 6 14 15)) (q 6 10 15)) (q 6 4 15)),
 (.ite (.var 3 (q 7 7 10)) (.cons (.aug 0 .LShift (.cI 1 0 (q 8 14 15)) (q 8 8 9) (q 8 8 15)) (.cons (.aug 1 .LShift (.cI 1 0 (q 9 14 15)) (q 9 8 9) (q 9 8 15)) (.cons (.aug 2 .Add (.cI 1 0 (q 10 13 14)) (q 10 8 9) (q 10 8 14)) .nil))) .nil ⟨7,4,10,14⟩),
 (.asg (.bM 4 (q 11 4 10)) (.bin .RShift (.var 2 (q 11 13 14)) (.cI 1 0 (q 11 18 19)) (q 11 13 19)) (q 11 4 19)),
 (.asg (.bM 5 (q 12 4 8)) (.bin .Sub (.bin .LShift (.cI 1 0 (q 12 12 13)) (.var 4 (q 12 17 23)) (q 12 12 23)) (.cI 1 0 (q 12 27 28)) (q 12 11 28)) (q 12 4 28)),
 (.tP true [(6,(q 13 4 6)),(7,(q 13 8 10))] 0 (q 13 4 10) (.cons (.bin .RShift (.var 1 (q 13 14 15)) (.var 4 (q 13 19 25)) (q 13 14 25)) (.cons (.bin .BitAnd (.var 1 (q 13 27 28)) (.var 5 (q 13 31 35)) (q 13 27 35)) .nil)) 0 (q 13 13 36) (q 13 4 36)),
 (.asg (.tup [(8,(q 14 4 6)),(9,(q 14 8 9))] 0 (q 14 4 9)) (.call (.var 13 (q 14 12 20)) (.cons (.bin .RShift (.var 0 (q 14 21 22)) (.var 2 (q 14 26 27)) (q 14 21 27)) (.cons (.bin .BitAnd (.bin .RShift (.var 0 (q 14 29 30)) (.var 4 (q 14 34 40)) (q 14 29 40)) (.var 5 (q 14 43 47)) (q 14 29 47)) (.cons (.var 1 (q 14 49 50)) (.cons (.var 6 (q 14 52 54)) (.cons (.var 7 (q 14 56 58)) (.cons (.var 4 (q 14 60 66)) .nil)))))) .bH default (q 14 12 67)) (q 14 4 67)),
 (.asg (.tup [(10,(q 15 4 6)),(9,(q 15 8 9))] 0 (q 15 4 9)) (.call (.var 13 (q 15 12 20)) (.cons (.var 9 (q 15 21 22)) (.cons (.bin .BitAnd (.var 0 (q 15 24 25)) (.var 5 (q 15 28 32)) (q 15 24 32)) (.cons (.var 1 (q 15 34 35)) (.cons (.var 6 (q 15 37 39)) (.cons (.var 7 (q 15 41 43)) (.cons (.var 4 (q 15 45 51)) .nil)))))) .bH default (q 15 12 52)) (q 15 4 52)),
 (.ite (.var 3 (q 16 7 10)) (.cons (.aug 9 .RShift (.cI 1 0 (q 17 14 15)) (q 17 8 9) (q 17 8 15)) .nil) .nil ⟨16,4,17,15⟩),
 (.ret (.tup (.cons (.bin .BitOr (.bin .LShift (.var 8 (q 18 12 14)) (.var 4 (q 18 18 24)) (q 18 12 24)) (.var 10 (q 18 27 29)) (q 18 12 29)) (.cons (.var 9 (q 18 31 32)) .nil)) 0 (q 18 11 33)) (q 18 4 33))]
noncomputable def L8:Fd:=⟨3,false,[],L7,HA⟩
noncomputable def gf:Sc:=[.lc "a12",.lc "a3",.lc "b",.lc "b1",.lc "b2",.lc "n",.lc "q",.lc "r",.gl 0]
noncomputable def Kh:Ss:=Ss.ofList [(.ite (.cmp .Eq (.bin .RShift (.var 0 (q 20 7 10)) (.var 5 (q 20 14 15)) (q 20 7 15)) (.var 3 (q 20 19 21)) (q 20 7 21)) (.cons (.tP true [(6,(q 21 8 9)),(7,(q 21 11 12))] 0 (q 21 8 12) (.cons (.bin .Sub (.bin .LShift (.cI 1 0 (q 21 17 18)) (.var 5 (q 21 22 23)) (q 21 17 23)) (.cI 1 0 (q 21 27 28)) (q 21 16 28)) (.cons (.bin .Add (.bin .Sub (.var 0 (q 21 30 33)) (.bin .LShift (.var 3 (q 21 37 39)) (.var 5 (q 21 43 44)) (q 21 37 44)) (q 21 30 45)) (.var 3 (q 21 48 50)) (q 21 30 50)) .nil)) 0 (q 21 15 51) (q 21 8 51)) .nil) (.cons (.asg (.tup [(6,(q 23 8 9)),(7,(q 23 11 12))] 0 (q 23 8 12)) (.call (.var 8 (q 23 15 23)) (.cons (.var 0 (q 23 24 27)) (.cons (.var 3 (q 23 29 31)) (.cons (.var 5 (q 23 33 34)) .nil))) .bH default (q 23 15 35)) (q 23 8 35)) .nil) ⟨20,4,23,35⟩),
 (.asg (.bM 7 (q 24 4 5)) (.bin .Sub (.bin .BitOr (.bin .LShift (.var 7 (q 24 9 10)) (.var 5 (q 24 14 15)) (q 24 9 15)) (.var 1 (q 24 18 20)) (q 24 9 20)) (.bin .Mult (.var 6 (q 24 24 25)) (.var 4 (q 24 28 30)) (q 24 24 30)) (q 24 8 30)) (q 24 4 30)),
 (.yN (.cmp .Lt (.var 7 (q 25 10 11)) (.cI 0 0 (q 25 14 15)) (q 25 10 15)) (.cons (.aug 6 .Sub (.cI 1 0 (q 26 13 14)) (q 26 8 9) (q 26 8 14)) (.cons (.aug 7 .Add (.var 2 (q 27 13 14)) (q 27 8 9) (q 27 8 14)) .nil)) ⟨25,4,27,14⟩),
 (.ret (.tup (.cons (.var 6 (q 28 12 13)) (.cons (.var 7 (q 28 15 16)) .nil)) 0 (q 28 11 17)) (q 28 4 17))]
noncomputable def L_:Fd:=⟨6,false,[],gf,Kh⟩
noncomputable def J3:Sc:=[.lc "a",.ce "n",.ce "a_digits",.ce "inner",.gl 25]
noncomputable def HU:Sc:=[.lc "x",.lc "L",.lc "R",.lc "mid",.lc "shift",.lc "upper",.lc "lower",.fe "a_digits" 2,.fe "inner" 3,.fe "n" 1]
noncomputable def HV:Ss:=Ss.ofList [(.ite (.cmp .Eq (.bin .Add (.var 1 (q 33 11 12)) (.cI 1 0 (q 33 15 16)) (q 33 11 16)) (.var 2 (q 33 20 21)) (q 33 11 21)) (.cons (.sub (.var 7 (q 34 12 20)) (.var 1 (q 34 21 22)) (.var 0 (q 34 26 27)) (q 34 12 23) (q 34 12 27)) (.cons (.qw (q 35 12 18)) .nil)) .nil ⟨33,8,35,18⟩),
 (.asg (.bM 3 (q 36 8 11)) (.bin .RShift (.bin .Add (.var 1 (q 36 14 15)) (.var 2 (q 36 18 19)) (q 36 14 19)) (.cI 1 0 (q 36 23 24)) (q 36 14 24)) (q 36 8 24)),
 (.asg (.bM 4 (q 37 8 13)) (.bin .Mult (.bin .Sub (.var 3 (q 37 17 20)) (.var 1 (q 37 23 24)) (q 37 17 24)) (.var 9 (q 37 28 29)) (q 37 16 29)) (q 37 8 29)),
 (.asg (.bM 5 (q 38 8 13)) (.bin .RShift (.var 0 (q 38 16 17)) (.var 4 (q 38 21 26)) (q 38 16 26)) (q 38 8 26)),
 (.asg (.bM 6 (q 39 8 13)) (.bin .BitXor (.var 0 (q 39 16 17)) (.bin .LShift (.var 5 (q 39 20 25)) (.var 4 (q 39 29 34)) (q 39 20 34)) (q 39 16 34)) (q 39 8 34)),
 (.expr (.call (.var 8 (q 40 8 13)) (.cons (.var 6 (q 40 14 19)) (.cons (.var 1 (q 40 21 22)) (.cons (.var 3 (q 40 24 27)) .nil))) .bH default (q 40 8 28)) (q 40 8 28)),
 (.expr (.call (.var 8 (q 41 8 13)) (.cons (.var 5 (q 41 14 19)) (.cons (.var 3 (q 41 21 24)) (.cons (.var 2 (q 41 26 27)) .nil))) .bH default (q 41 8 28)) (q 41 8 28))]
noncomputable def Kl:Nf:={ name:="inner",args:={ posonlyargs:=[],args:=[{ arg:="x",annotation:=none,pos:=(q 32 14 15):TU },{ arg:="L",annotation:=none,pos:=(q 32 17 18):TU },{ arg:="R",annotation:=none,pos:=(q 32 20 21):TU }],vararg:=none,kwonlyargs:=[],kw_defaults:=[],kwarg:=none,defaults:=[]:Ud },sc:=HU,np:=3,body:=HV,code:=dH (fun _=>⟨"",⟨[],[],none,[],[],none,[]⟩,[],0,.nil,[]⟩) HV HU }
noncomputable def Ma:Ss:=Ss.ofList [(.asg (.bM 2 (q 30 4 12)) (.bin .Mult (.jD (.cons (.cI 0 0 (q 30 16 17)) .nil) (q 30 15 18)) (.bin .FloorDiv (.bin .Sub (.bin .Add (.d8 (.var 0 (q 30 23 24)) .dG .nil (q 30 23 35) (q 30 23 37)) (.var 1 (q 30 40 41)) (q 30 23 41)) (.cI 1 0 (q 30 44 45)) (q 30 23 45)) (.var 1 (q 30 50 51)) (q 30 22 51)) (q 30 15 52)) (q 30 4 52)),
 (.defn 0 3 ⟨32,4,41,28⟩),
 (.ite (.var 0 (q 42 7 8)) (.cons (.expr (.call (.var 3 (q 43 8 13)) (.cons (.var 0 (q 43 14 15)) (.cons (.cI 0 0 (q 43 17 18)) (.cons (.call (.var 4 (q 43 20 23)) (.cons (.var 2 (q 43 24 32)) .nil) .bH default (q 43 20 33)) .nil))) .bH default (q 43 8 34)) (q 43 8 34)) .nil) .nil ⟨42,4,43,34⟩),
 (.ret (.var 2 (q 44 11 19)) (q 44 4 19))]
noncomputable def Mb:Fd:=⟨2,false,[],J3,Ma⟩
noncomputable def J4:Sc:=[.ce "digits",.ce "n",.ce "inner",.gl 25]
noncomputable def HW:Sc:=[.lc "L",.lc "R",.lc "mid",.lc "shift",.fe "digits" 0,.fe "inner" 2,.fe "n" 1]
noncomputable def HX:Ss:=Ss.ofList [(.ite (.cmp .Eq (.bin .Add (.var 0 (q 48 11 12)) (.cI 1 0 (q 48 15 16)) (q 48 11 16)) (.var 1 (q 48 20 21)) (q 48 11 21)) (.cons (.ret (.idx (.var 4 (q 49 19 25)) (.var 0 (q 49 26 27)) (q 49 19 28)) (q 49 12 28)) .nil) .nil ⟨48,8,49,28⟩),
 (.asg (.bM 2 (q 50 8 11)) (.bin .RShift (.bin .Add (.var 0 (q 50 14 15)) (.var 1 (q 50 18 19)) (q 50 14 19)) (.cI 1 0 (q 50 23 24)) (q 50 14 24)) (q 50 8 24)),
 (.asg (.bM 3 (q 51 8 13)) (.bin .Mult (.bin .Sub (.var 2 (q 51 17 20)) (.var 0 (q 51 23 24)) (q 51 17 24)) (.var 6 (q 51 28 29)) (q 51 16 29)) (q 51 8 29)),
 (.ret (.bin .Add (.bin .LShift (.call (.var 5 (q 52 16 21)) (.cons (.var 2 (q 52 22 25)) (.cons (.var 1 (q 52 27 28)) .nil)) .bH default (q 52 16 29)) (.var 3 (q 52 33 38)) (q 52 16 38)) (.call (.var 5 (q 52 42 47)) (.cons (.var 0 (q 52 48 49)) (.cons (.var 2 (q 52 51 54)) .nil)) .bH default (q 52 42 55)) (q 52 15 55)) (q 52 8 55))]
noncomputable def Km:Nf:={ name:="inner",args:={ posonlyargs:=[],args:=[{ arg:="L",annotation:=none,pos:=(q 47 14 15):TU },{ arg:="R",annotation:=none,pos:=(q 47 17 18):TU }],vararg:=none,kwonlyargs:=[],kw_defaults:=[],kwarg:=none,defaults:=[]:Ud },sc:=HW,np:=2,body:=HX,code:=dH (fun _=>⟨"",⟨[],[],none,[],[],none,[]⟩,[],0,.nil,[]⟩) HX HW }
noncomputable def Mc:Ss:=Ss.ofList [(.defn 1 2 ⟨47,4,52,55⟩),
 (.ret (.qv (.var 0 (q 53 36 42)) (.call (.var 2 (q 53 11 16)) (.cons (.cI 0 0 (q 53 17 18)) (.cons (.call (.var 3 (q 53 20 23)) (.cons (.var 0 (q 53 24 30)) .nil) .bH default (q 53 20 31)) .nil)) .bH default (q 53 11 32)) (.cI 0 0 (q 53 48 49)) (q 53 11 49)) (q 53 4 49))]
noncomputable def Me:Fd:=⟨2,false,[],J4,Mc⟩
noncomputable def Mf:Sc:=[.lc "a",.lc "b",.lc "n",.lc "a_digits",.lc "r",.lc "q_digits",.lc "a_digit",.lc "q_digit",.lc "q",.gl 2,.gl 36,.gl 0,.gl 3]
noncomputable def Kn:Ss:=Ss.ofList [(.asg (.bM 2 (q 55 4 5)) (.d8 (.var 1 (q 55 8 9)) .dG .nil (q 55 8 20) (q 55 8 22)) (q 55 4 22)),
 (.asg (.bM 3 (q 56 4 12)) (.call (.var 9 (q 56 15 26)) (.cons (.var 0 (q 56 27 28)) (.cons (.var 2 (q 56 30 31)) .nil)) .bH default (q 56 15 32)) (q 56 4 32)),
 (.asg (.bM 4 (q 57 4 5)) (.cI 0 0 (q 57 8 9)) (q 57 4 9)),
 (.asg (.bM 5 (q 58 4 12)) (.jD .nil (q 58 15 17)) (q 58 4 17)),
 (.gB (.bM 6 (q 59 8 15)) (.call (.var 10 (q 59 19 27)) (.cons (.var 3 (q 59 28 36)) .nil) .bH default (q 59 19 37)) (.cons (.asg (.tup [(7,(q 60 8 15)),(4,(q 60 17 18))] 0 (q 60 8 18)) (.call (.var 11 (q 60 21 29)) (.cons (.bin .Add (.bin .LShift (.var 4 (q 60 31 32)) (.var 2 (q 60 36 37)) (q 60 31 37)) (.var 6 (q 60 41 48)) (q 60 30 48)) (.cons (.var 1 (q 60 50 51)) (.cons (.var 2 (q 60 53 54)) .nil))) .bH default (q 60 21 55)) (q 60 8 55)) (.cons (.expr (.d8 (.var 5 (q 61 8 16)) .append (.cons (.var 7 (q 61 24 31)) .nil) (q 61 8 23) (q 61 8 32)) (q 61 8 32)) .nil)) ⟨59,4,61,32⟩),
 (.expr (.d8 (.var 5 (q 62 4 12)) .reverse .nil (q 62 4 20) (q 62 4 22)) (q 62 4 22)),
 (.asg (.bM 8 (q 63 4 5)) (.call (.var 12 (q 63 8 19)) (.cons (.var 5 (q 63 20 28)) (.cons (.var 2 (q 63 30 31)) .nil)) .bH default (q 63 8 32)) (q 63 4 32)),
 (.ret (.tup (.cons (.var 8 (q 64 12 13)) (.cons (.var 4 (q 64 15 16)) .nil)) 0 (q 64 11 17)) (q 64 4 17))]
noncomputable def Mg:Fd:=⟨2,false,[],Mf,Kn⟩
noncomputable def HY:Sc:=[.lc "a",.lc "b",.lc "q",.lc "r",.gl 38,.gl 5,.gl 4]
noncomputable def LL:Ss:=Ss.ofList [(.ite (.cmp .Eq (.var 1 (q 66 7 8)) (.cI 0 0 (q 66 12 13)) (q 66 7 13)) (.cons (.raw (QY (some (ND "ZeroDivisionError" (q 67 14 31))) none (q 67 8 31))) .nil) (.cons (.ite (.cmp .Lt (.var 1 (q 68 9 10)) (.cI 0 0 (q 68 13 14)) (q 68 9 14)) (.cons (.asg (.tup [(2,(q 69 8 9)),(3,(q 69 11 12))] 0 (q 69 8 12)) (.call (.var 5 (q 69 15 25)) (.cons (.un .USub (.var 0 (q 69 27 28)) (q 69 26 28)) (.cons (.un .USub (.var 1 (q 69 31 32)) (q 69 30 32)) .nil)) .bH default (q 69 15 33)) (q 69 8 33)) (.cons (.ret (.tup (.cons (.var 2 (q 70 16 17)) (.cons (.un .USub (.var 3 (q 70 20 21)) (q 70 19 21)) .nil)) 0 (q 70 15 22)) (q 70 8 22)) .nil)) (.cons (.ite (.cmp .Lt (.var 0 (q 71 9 10)) (.cI 0 0 (q 71 13 14)) (q 71 9 14)) (.cons (.asg (.tup [(2,(q 72 8 9)),(3,(q 72 11 12))] 0 (q 72 8 12)) (.call (.var 5 (q 72 15 25)) (.cons (.un .Invert (.var 0 (q 72 27 28)) (q 72 26 28)) (.cons (.var 1 (q 72 30 31)) .nil)) .bH default (q 72 15 32)) (q 72 8 32)) (.cons (.ret (.tup (.cons (.un .Invert (.var 2 (q 73 17 18)) (q 73 16 18)) (.cons (.bin .Add (.var 1 (q 73 20 21)) (.un .Invert (.var 3 (q 73 25 26)) (q 73 24 26)) (q 73 20 26)) .nil)) 0 (q 73 15 27)) (q 73 8 27)) .nil)) (.cons (.ret (.call (.var 6 (q 75 15 26)) (.cons (.var 0 (q 75 27 28)) (.cons (.var 1 (q 75 30 31)) .nil)) .bH default (q 75 15 32)) (q 75 8 32)) .nil) ⟨71,4,75,32⟩) .nil) ⟨68,4,75,32⟩) .nil) ⟨66,4,75,32⟩)]
noncomputable def Mh:Fd:=⟨2,false,[],HY,LL⟩
noncomputable def HZ:Sc:=[.lc "a",.lc "x",.lc "lo",.lc "hi",.lc "key",.gl 7]
noncomputable def LM:Ss:=Ss.ofList [(.ite (.cmp .Is (.var 4 (q 78 7 10)) (.cN 0 (q 78 14 18)) (q 78 7 18)) (.cons (.asg (.bM 2 (q 79 8 10)) (.call (.var 5 (q 79 13 25)) (.cons (.var 0 (q 79 26 27)) (.cons (.var 1 (q 79 29 30)) (.cons (.var 2 (q 79 32 34)) (.cons (.var 3 (q 79 36 38)) .nil)))) .bH default (q 79 13 39)) (q 79 8 39)) .nil) (.cons (.asg (.bM 2 (q 81 8 10)) (.call (.var 5 (q 81 13 25)) (.cons (.var 0 (q 81 26 27)) (.cons (.call (.var 4 (q 81 29 32)) (.cons (.var 1 (q 81 33 34)) .nil) .bH default (q 81 29 35)) (.cons (.var 2 (q 81 37 39)) (.cons (.var 3 (q 81 41 43)) .nil)))) (.var 4 (q 81 49 52)) (q 81 45 52) (q 81 13 53)) (q 81 8 53)) .nil) ⟨78,4,81,53⟩),
 (.expr (.d8 (.var 0 (q 82 4 5)) .insert (.cons (.var 2 (q 82 13 15)) (.cons (.var 1 (q 82 17 18)) .nil)) (q 82 4 12) (q 82 4 19)) (q 82 4 19))]
noncomputable def Mi:Fd:=⟨4,true,[(.int 0),.none],HZ,LM⟩
noncomputable def H6:Sc:=[.lc "a",.lc "x",.lc "lo",.lc "hi",.lc "key",.lc "mid",.gl 39,.gl 25]
noncomputable def Cw:Ss:=Ss.ofList [(.ite (.cmp .Lt (.var 2 (q 84 7 9)) (.cI 0 0 (q 84 12 13)) (q 84 7 13)) (.cons (.raw (QY (exc:=(some (O9 (func:=(ND "ValueError" (q 85 14 24))) (args:=[(Np (Qz "lo must be non-negative") 0 (q 85 25 50))]) (keywords:=[]) (pos:=(q 85 14 51))))) (cause:=none) (pos:=(q 85 8 51)))) .nil) .nil ⟨84,4,85,51⟩),
 (.ite (.cmp .Is (.var 3 (q 86 7 9)) (.cN 0 (q 86 13 17)) (q 86 7 17)) (.cons (.asg (.bM 3 (q 87 8 10)) (.call (.var 7 (q 87 13 16)) (.cons (.var 0 (q 87 17 18)) .nil) .bH default (q 87 13 19)) (q 87 8 19)) .nil) .nil ⟨86,4,87,19⟩),
 (.ite (.cmp .Is (.var 4 (q 88 7 10)) (.cN 0 (q 88 14 18)) (q 88 7 18)) (.cons (.yN (.cmp .Lt (.var 2 (q 89 14 16)) (.var 3 (q 89 19 21)) (q 89 14 21)) (.cons (.asg (.bM 5 (q 90 12 15)) (.bin .FloorDiv (.bin .Add (.var 2 (q 90 19 21)) (.var 3 (q 90 24 26)) (q 90 19 26)) (.cI 2 0 (q 90 31 32)) (q 90 18 32)) (q 90 12 32)) (.cons (.ite (.cmp .Lt (.var 1 (q 91 15 16)) (.idx (.var 0 (q 91 19 20)) (.var 5 (q 91 21 24)) (q 91 19 25)) (q 91 15 25)) (.cons (.asg (.bM 3 (q 92 16 18)) (.var 5 (q 92 21 24)) (q 92 16 24)) .nil) (.cons (.asg (.bM 2 (q 94 16 18)) (.bin .Add (.var 5 (q 94 21 24)) (.cI 1 0 (q 94 27 28)) (q 94 21 28)) (q 94 16 28)) .nil) ⟨91,12,94,28⟩) .nil)) ⟨89,8,94,28⟩) .nil) (.cons (.yN (.cmp .Lt (.var 2 (q 96 14 16)) (.var 3 (q 96 19 21)) (q 96 14 21)) (.cons (.asg (.bM 5 (q 97 12 15)) (.bin .FloorDiv (.bin .Add (.var 2 (q 97 19 21)) (.var 3 (q 97 24 26)) (q 97 19 26)) (.cI 2 0 (q 97 31 32)) (q 97 18 32)) (q 97 12 32)) (.cons (.ite (.cmp .Lt (.var 1 (q 98 15 16)) (.call (.var 4 (q 98 19 22)) (.cons (.idx (.var 0 (q 98 23 24)) (.var 5 (q 98 25 28)) (q 98 23 29)) .nil) .bH default (q 98 19 30)) (q 98 15 30)) (.cons (.asg (.bM 3 (q 99 16 18)) (.var 5 (q 99 21 24)) (q 99 16 24)) .nil) (.cons (.asg (.bM 2 (q 101 16 18)) (.bin .Add (.var 5 (q 101 21 24)) (.cI 1 0 (q 101 27 28)) (q 101 21 28)) (q 101 16 28)) .nil) ⟨98,12,101,28⟩) .nil)) ⟨96,8,101,28⟩) .nil) ⟨88,4,101,28⟩),
 (.ret (.var 2 (q 102 11 13)) (q 102 4 13))]
noncomputable def Mj:Fd:=⟨4,true,[(.int 0),.none],H6,Cw⟩
noncomputable def H7:Sc:=[.lc "a",.lc "x",.lc "lo",.lc "hi",.lc "key",.gl 9]
noncomputable def LN:Ss:=Ss.ofList [(.ite (.cmp .Is (.var 4 (q 104 7 10)) (.cN 0 (q 104 14 18)) (q 104 7 18)) (.cons (.asg (.bM 2 (q 105 8 10)) (.call (.var 5 (q 105 13 24)) (.cons (.var 0 (q 105 25 26)) (.cons (.var 1 (q 105 28 29)) (.cons (.var 2 (q 105 31 33)) (.cons (.var 3 (q 105 35 37)) .nil)))) .bH default (q 105 13 38)) (q 105 8 38)) .nil) (.cons (.asg (.bM 2 (q 107 8 10)) (.call (.var 5 (q 107 13 24)) (.cons (.var 0 (q 107 25 26)) (.cons (.call (.var 4 (q 107 28 31)) (.cons (.var 1 (q 107 32 33)) .nil) .bH default (q 107 28 34)) (.cons (.var 2 (q 107 36 38)) (.cons (.var 3 (q 107 40 42)) .nil)))) (.var 4 (q 107 48 51)) (q 107 44 51) (q 107 13 52)) (q 107 8 52)) .nil) ⟨104,4,107,52⟩),
 (.expr (.d8 (.var 0 (q 108 4 5)) .insert (.cons (.var 2 (q 108 13 15)) (.cons (.var 1 (q 108 17 18)) .nil)) (q 108 4 12) (q 108 4 19)) (q 108 4 19))]
noncomputable def Mk:Fd:=⟨4,true,[(.int 0),.none],H7,LN⟩
noncomputable def H8:Sc:=[.lc "a",.lc "x",.lc "lo",.lc "hi",.lc "key",.lc "mid",.gl 39,.gl 25]
noncomputable def Cy:Ss:=Ss.ofList [(.ite (.cmp .Lt (.var 2 (q 110 7 9)) (.cI 0 0 (q 110 12 13)) (q 110 7 13)) (.cons (.raw (QY (exc:=(some (O9 (func:=(ND "ValueError" (q 111 14 24))) (args:=[(Np (Qz "lo must be non-negative") 0 (q 111 25 50))]) (keywords:=[]) (pos:=(q 111 14 51))))) (cause:=none) (pos:=(q 111 8 51)))) .nil) .nil ⟨110,4,111,51⟩),
 (.ite (.cmp .Is (.var 3 (q 112 7 9)) (.cN 0 (q 112 13 17)) (q 112 7 17)) (.cons (.asg (.bM 3 (q 113 8 10)) (.call (.var 7 (q 113 13 16)) (.cons (.var 0 (q 113 17 18)) .nil) .bH default (q 113 13 19)) (q 113 8 19)) .nil) .nil ⟨112,4,113,19⟩),
 (.ite (.cmp .Is (.var 4 (q 114 7 10)) (.cN 0 (q 114 14 18)) (q 114 7 18)) (.cons (.yN (.cmp .Lt (.var 2 (q 115 14 16)) (.var 3 (q 115 19 21)) (q 115 14 21)) (.cons (.asg (.bM 5 (q 116 12 15)) (.bin .FloorDiv (.bin .Add (.var 2 (q 116 19 21)) (.var 3 (q 116 24 26)) (q 116 19 26)) (.cI 2 0 (q 116 31 32)) (q 116 18 32)) (q 116 12 32)) (.cons (.ite (.cmp .Lt (.idx (.var 0 (q 117 15 16)) (.var 5 (q 117 17 20)) (q 117 15 21)) (.var 1 (q 117 24 25)) (q 117 15 25)) (.cons (.asg (.bM 2 (q 118 16 18)) (.bin .Add (.var 5 (q 118 21 24)) (.cI 1 0 (q 118 27 28)) (q 118 21 28)) (q 118 16 28)) .nil) (.cons (.asg (.bM 3 (q 120 16 18)) (.var 5 (q 120 21 24)) (q 120 16 24)) .nil) ⟨117,12,120,24⟩) .nil)) ⟨115,8,120,24⟩) .nil) (.cons (.yN (.cmp .Lt (.var 2 (q 122 14 16)) (.var 3 (q 122 19 21)) (q 122 14 21)) (.cons (.asg (.bM 5 (q 123 12 15)) (.bin .FloorDiv (.bin .Add (.var 2 (q 123 19 21)) (.var 3 (q 123 24 26)) (q 123 19 26)) (.cI 2 0 (q 123 31 32)) (q 123 18 32)) (q 123 12 32)) (.cons (.ite (.cmp .Lt (.call (.var 4 (q 124 15 18)) (.cons (.idx (.var 0 (q 124 19 20)) (.var 5 (q 124 21 24)) (q 124 19 25)) .nil) .bH default (q 124 15 26)) (.var 1 (q 124 29 30)) (q 124 15 30)) (.cons (.asg (.bM 2 (q 125 16 18)) (.bin .Add (.var 5 (q 125 21 24)) (.cI 1 0 (q 125 27 28)) (q 125 21 28)) (q 125 16 28)) .nil) (.cons (.asg (.bM 3 (q 127 16 18)) (.var 5 (q 127 21 24)) (q 127 16 24)) .nil) ⟨124,12,127,24⟩) .nil)) ⟨122,8,127,24⟩) .nil) ⟨114,4,127,24⟩),
 (.ret (.var 2 (q 128 11 13)) (q 128 4 13))]
noncomputable def Ml:Fd:=⟨4,true,[(.int 0),.none],H8,Cy⟩
noncomputable def Ko:Sc:=[.lc "addr",.lc "pos",.lc "escape",.lc "ch",.gl 34]
noncomputable def Kp:Ss:=.nil
noncomputable def Kq:Fd:=⟨1,false,[],Ko,Kp⟩
noncomputable def Kr:Sc:=[.lc "addr",.lc "start",.lc "open_pos",.lc "result",.lc "pos",.lc "ch",.gl 10,.gl 25]
noncomputable def tW:Ss:=Ss.ofList [(.ite (.cmp .NotIn (.cS [34] 0 (q 144 7 10)) (.var 0 (q 144 18 22)) (q 144 7 22)) (.cons (.ret (.var 0 (q 145 15 19)) (q 145 8 19)) .nil) .nil ⟨144,4,145,19⟩),
 (.asg (.bM 1 (q 146 4 9)) (.cI 0 0 (q 146 12 13)) (q 146 4 13)),
 (.asg (.bM 2 (q 147 4 12)) (.cN 0 (q 147 15 19)) (q 147 4 19)),
 (.asg (.bM 3 (q 148 4 10)) (.jD .nil (q 148 13 15)) (q 148 4 15)),
 (.gB (.tup [(4,(q 149 8 11)),(5,(q 149 13 15))] 0 (q 149 8 15)) (.call (.var 6 (q 149 19 38)) (.cons (.var 0 (q 149 39 43)) .nil) .bH default (q 149 19 44)) (.cons (.ite (.cmp .Eq (.var 5 (q 150 11 13)) (.cS [34] 0 (q 150 17 20)) (q 150 11 20)) (.cons (.ite (.cmp .Is (.var 2 (q 151 15 23)) (.cN 0 (q 151 27 31)) (q 151 15 31)) (.cons (.asg (.bM 2 (q 152 16 24)) (.var 4 (q 152 27 30)) (q 152 16 30)) .nil) (.cons (.ite (.cmp .NotEq (.var 1 (q 154 19 24)) (.var 2 (q 154 28 36)) (q 154 19 36)) (.cons (.expr (.d8 (.var 3 (q 155 20 26)) .append (.cons (.slc (.var 0 (q 155 34 38)) (.var 1 (q 155 39 44)) (.var 2 (q 155 45 53)) .bH (q 155 39 53) (q 155 34 54)) .nil) (q 155 20 33) (q 155 20 55)) (q 155 20 55)) .nil) .nil ⟨154,16,155,55⟩) (.cons (.asg (.bM 1 (q 156 16 21)) (.bin .Add (.var 4 (q 156 24 27)) (.cI 1 0 (q 156 30 31)) (q 156 24 31)) (q 156 16 31)) (.cons (.asg (.bM 2 (q 157 16 24)) (.cN 0 (q 157 27 31)) (q 157 16 31)) .nil))) ⟨151,12,157,31⟩) .nil) .nil ⟨150,8,157,31⟩) .nil) ⟨149,4,157,31⟩),
 (.ite (.cmp .Lt (.var 1 (q 158 7 12)) (.call (.var 7 (q 158 15 18)) (.cons (.var 0 (q 158 19 23)) .nil) .bH default (q 158 15 24)) (q 158 7 24)) (.cons (.expr (.d8 (.var 3 (q 159 8 14)) .append (.cons (.slc (.var 0 (q 159 22 26)) (.var 1 (q 159 27 32)) .bH .bH (q 159 27 33) (q 159 22 34)) .nil) (q 159 8 21) (q 159 8 35)) (q 159 8 35)) .nil) .nil ⟨158,4,159,35⟩),
 (.ret (.d8 (.cS [] 0 (q 160 11 13)) .join (.cons (.var 3 (q 160 19 25)) .nil) (q 160 11 18) (q 160 11 26)) (q 160 4 26))]
noncomputable def Ks:Fd:=⟨1,false,[],Kr,tW⟩
noncomputable def Ku:Sc:=[.lc "addr",.lc "opens",.lc "pos",.lc "ch",.gl 11,.gl 10]
noncomputable def E5:Ss:=Ss.ofList [(.asg (.bM 0 (q 162 4 8)) (.call (.var 4 (q 162 11 34)) (.cons (.var 0 (q 162 35 39)) .nil) .bH default (q 162 11 40)) (q 162 4 40)),
 (.asg (.bM 1 (q 163 4 9)) (.cI 0 0 (q 163 12 13)) (q 163 4 13)),
 (.gB (.tup [(2,(q 164 8 11)),(3,(q 164 13 15))] 0 (q 164 8 15)) (.call (.var 5 (q 164 19 38)) (.cons (.var 0 (q 164 39 43)) .nil) .bH default (q 164 19 44)) (.cons (.ite (.cmp .Eq (.var 3 (q 165 11 13)) (.cS [40] 0 (q 165 17 20)) (q 165 11 20)) (.cons (.aug 1 .Add (.cI 1 0 (q 166 21 22)) (q 166 12 17) (q 166 12 22)) .nil) (.cons (.ite (.cmp .Eq (.var 3 (q 167 13 15)) (.cS [41] 0 (q 167 19 22)) (q 167 13 22)) (.cons (.aug 1 .Sub (.cI 1 0 (q 168 21 22)) (q 168 12 17) (q 168 12 22)) (.cons (.ite (.cmp .Lt (.var 1 (q 169 15 20)) (.cI 0 0 (q 169 23 24)) (q 169 15 24)) (.cons (.ret (.cB false 0 (q 170 23 28)) (q 170 16 28)) .nil) .nil ⟨169,12,170,28⟩) .nil)) .nil ⟨167,8,170,28⟩) .nil) ⟨165,8,170,28⟩) .nil) ⟨164,4,170,28⟩),
 (.ret (.cmp .Eq (.var 1 (q 171 11 16)) (.cI 0 0 (q 171 20 21)) (q 171 11 21)) (q 171 4 21))]
noncomputable def Kv:Fd:=⟨1,false,[],Ku,E5⟩
noncomputable def Kw:Sc:=[.lc "email_header_fields",.lc "accepted_values",.lc "v",.gl 12]
noncomputable def E6:Ss:=Ss.ofList [(.asg (.bM 1 (q 173 4 19)) (.jD .nil (q 173 22 24)) (q 173 4 24)),
 (.gB (.bM 2 (q 174 8 9)) (.var 0 (q 174 13 32)) (.cons (.ite (.un .Not (.call (.var 3 (q 175 15 33)) (.cons (.var 2 (q 175 34 35)) .nil) .bH default (q 175 15 36)) (q 175 11 36)) (.cons (.asg (.bM 2 (q 176 12 13)) (.cS [40,39,39,44,32,39,39,41] 0 (q 176 16 26)) (q 176 12 26)) .nil) .nil ⟨175,8,176,26⟩) (.cons (.expr (.d8 (.var 1 (q 177 8 23)) .append (.cons (.var 2 (q 177 31 32)) .nil) (q 177 8 30) (q 177 8 33)) (q 177 8 33)) .nil)) ⟨174,4,177,33⟩),
 (.ret (.var 1 (q 178 11 26)) (q 178 4 26))]
noncomputable def Kx:Fd:=⟨1,false,[],Kw,E6⟩
noncomputable def H9:Sc:=[.lc "pair"]
noncomputable def Ky:Ss:=Ss.ofList [(.ret (.idx (.var 0 (q 181 11 15)) (.cI 0 0 (q 181 16 17)) (q 181 11 18)) (q 181 4 18))]
noncomputable def Kz:Fd:=⟨1,false,[],H9,Ky⟩
noncomputable def n8:Sc:=[.lc "cells",.lc "row",.lc "cell",.lc "sign"]
noncomputable def CL:Ss:=Ss.ofList [(.asg (.bM 1 (q 183 4 7)) (.jD .nil (q 183 10 12)) (q 183 4 12)),
 (.gB (.bM 2 (q 184 8 12)) (.var 0 (q 184 16 21)) (.cons (.asg (.bM 3 (q 185 8 12)) (.qv (.cmp .Eq (.bin .Mod (.var 2 (q 185 22 26)) (.cI 2 0 (q 185 29 30)) (q 185 22 30)) (.cI 1 0 (q 185 34 35)) (q 185 22 35)) (.cS [41] 0 (q 185 15 18)) (.cS [40] 0 (q 185 41 44)) (q 185 15 44)) (q 185 8 44)) (.cons (.expr (.d8 (.var 1 (q 186 8 11)) .append (.cons (.qv (.cmp .Lt (.d8 (.var 1 (q 186 27 30)) .count (.cons (.var 3 (q 186 37 41)) .nil) (q 186 27 36) (q 186 27 42)) (.cI 4 0 (q 186 45 46)) (q 186 27 46)) (.var 3 (q 186 19 23)) (.d8 (.cS [40,41] 0 (q 186 52 56)) .replace (.cons (.var 3 (q 186 65 69)) (.cons (.cS [] 0 (q 186 71 73)) .nil)) (q 186 52 64) (q 186 52 74)) (q 186 19 74)) .nil) (q 186 8 18) (q 186 8 75)) (q 186 8 75)) .nil)) ⟨184,4,186,75⟩),
 (.ret (.var 1 (q 187 11 14)) (q 187 4 14))]
noncomputable def KA:Fd:=⟨1,false,[],n8,CL⟩
noncomputable def KC:Sc:=[.lc "cells",.lc "row",.lc "pieces",.lc "text",.lc "left",.lc "units",.lc "k",.lc "piece",.lc "plain",.gl 33,.gl 25]
noncomputable def E7:Ss:=Ss.ofList [(.asg (.bM 2 (q 189 4 10)) (.jD (.cons (.cS [] 0 (q 189 14 16)) (.cons (.cS [97] 0 (q 189 18 21)) (.cons (.cS [34,41,34] 0 (q 189 23 28)) (.cons (.cS [34,41,34,34,40,34] 0 (q 189 30 38)) (.cons (.cS [92,40] 0 (q 189 40 45)) (.cons (.cS [92,41] 0 (q 189 47 52)) (.cons (.cS [92,34] 0 (q 189 54 59)) (.cons (.cS [92,92] 0 (q 189 61 67)) .nil)))))))) (q 189 13 68)) (q 189 4 68)),
 (.tP true [(3,(q 190 4 8)),(4,(q 190 10 14)),(5,(q 190 16 21))] 0 (q 190 4 21) (.cons (.cS [] 0 (q 190 25 27)) (.cons (.cS [] 0 (q 190 29 31)) (.cons (.jD .nil (q 190 33 35)) .nil))) 0 (q 190 24 36) (q 190 4 36)),
 (.gB (.bM 6 (q 191 8 9)) (.call (.var 9 (q 191 13 18)) (.cons (.cI 8 0 (q 191 19 20)) .nil) .bH default (q 191 13 21)) (.cons (.asg (.bM 7 (q 192 8 13)) (.idx (.var 2 (q 192 16 22)) (.bin .Mod (.bin .FloorDiv (.idx (.var 0 (q 192 23 28)) (.var 6 (q 192 29 30)) (q 192 23 31)) (.cI 2 0 (q 192 35 36)) (q 192 23 36)) (.cI 8 0 (q 192 39 40)) (q 192 23 40)) (q 192 16 41)) (q 192 8 41)) (.cons (.ite (.qQ .And (.cons (.cmp .Eq (.var 6 (q 193 11 12)) (.cI 7 0 (q 193 16 17)) (q 193 11 17)) (.cons (.cmp .Eq (.bin .Mod (.bin .FloorDiv (.idx (.var 0 (q 193 22 27)) (.cI 7 0 (q 193 28 29)) (q 193 22 30)) (.cI 16 0 (q 193 34 36)) (q 193 22 36)) (.cI 2 0 (q 193 39 40)) (q 193 22 40)) (.cI 1 0 (q 193 44 45)) (q 193 22 45)) .nil)) (q 193 11 45)) (.cons (.expr (.d8 (.var 5 (q 194 12 17)) .append (.cons (.tup (.cons (.call (.var 10 (q 194 26 29)) (.cons (.var 4 (q 194 30 34)) .nil) .bH default (q 194 26 35)) (.cons (.cS [34] 0 (q 194 37 40)) .nil)) 0 (q 194 25 41)) .nil) (q 194 12 24) (q 194 12 42)) (q 194 12 42)) (.cons (.tP true [(3,(q 195 12 16)),(4,(q 195 18 22)),(7,(q 195 24 29))] 0 (q 195 12 29) (.cons (.bin .Add (.var 3 (q 195 33 37)) (.cS [34] 0 (q 195 40 43)) (q 195 33 43)) (.cons (.bin .Add (.var 4 (q 195 45 49)) (.cS [34] 0 (q 195 52 55)) (q 195 45 55)) (.cons (.cS [] 0 (q 195 57 59)) .nil))) 0 (q 195 32 60) (q 195 12 60)) .nil)) .nil ⟨193,8,195,60⟩) (.cons (.asg (.bM 8 (q 196 8 13)) (.qv (.cmp .Eq (.slc (.var 7 (q 196 22 27)) .bH (.cI 1 0 (q 196 29 30)) .bH (q 196 28 30) (q 196 22 31)) (.cS [34] 0 (q 196 35 38)) (q 196 22 38)) (.cS [] 0 (q 196 16 18)) (.var 7 (q 196 44 49)) (q 196 16 49)) (q 196 8 49)) (.cons (.tP true [(3,(q 197 8 12)),(4,(q 197 14 18)),(5,(q 197 20 25))] 0 (q 197 8 25) (.cons (.bin .Add (.bin .Add (.var 3 (q 197 29 33)) (.idx (.var 1 (q 197 36 39)) (.var 6 (q 197 40 41)) (q 197 36 42)) (q 197 29 42)) (.var 7 (q 197 45 50)) (q 197 29 50)) (.cons (.bin .Add (.bin .Add (.var 4 (q 197 52 56)) (.idx (.var 1 (q 197 59 62)) (.var 6 (q 197 63 64)) (q 197 59 65)) (q 197 52 65)) (.var 8 (q 197 68 73)) (q 197 52 73)) (.cons (.tR (.var 5 (q 197 75 80)) (.jD (.cons (.tup (.cons (.call (.var 10 (q 197 85 88)) (.cons (.var 4 (q 197 89 93)) .nil) .bH default (q 197 85 94)) (.cons (.idx (.var 1 (q 197 96 99)) (.var 6 (q 197 100 101)) (q 197 96 102)) .nil)) 0 (q 197 84 103)) .nil) (q 197 83 104)) (q 197 75 104)) .nil))) 0 (q 197 28 105) (q 197 8 105)) (.cons (.ite (.cmp .NotEq (.var 8 (q 198 11 16)) (.cS [] 0 (q 198 20 22)) (q 198 11 22)) (.cons (.expr (.d8 (.var 5 (q 199 12 17)) .append (.cons (.tup (.cons (.bin .Sub (.call (.var 10 (q 199 26 29)) (.cons (.var 4 (q 199 30 34)) .nil) .bH default (q 199 26 35)) (.cI 1 0 (q 199 38 39)) (q 199 26 39)) (.cons (.var 8 (q 199 41 46)) .nil)) 0 (q 199 25 47)) .nil) (q 199 12 24) (q 199 12 48)) (q 199 12 48)) .nil) .nil ⟨198,8,199,48⟩) .nil))))) ⟨191,4,199,48⟩),
 (.ret (.tup (.cons (.var 3 (q 200 12 16)) (.cons (.var 4 (q 200 18 22)) (.cons (.var 5 (q 200 24 29)) .nil))) 0 (q 200 11 30)) (q 200 4 30))]
noncomputable def KD:Fd:=⟨2,false,[],KC,E7⟩
noncomputable def KG:Sc:=[.ce "row",.lc "ways",.lc "k",.ce "opens",.ce "sizes",.gl 33]
noncomputable def KH:Ss:=Ss.ofList [(.asg (.bM 1 (q 202 4 8)) (.jD (.cons (.tup .nil 0 (q 202 12 14)) .nil) (q 202 11 15)) (q 202 4 15)),
 (.gB (.bM 2 (q 203 8 9)) (.call (.var 5 (q 203 13 18)) (.cons (.cI 8 0 (q 203 19 20)) .nil) .bH default (q 203 13 21)) (.cons (.ite (.cmp .Eq (.idx (.var 0 (q 204 11 14)) (.var 2 (q 204 15 16)) (q 204 11 17)) (.cS [41] 0 (q 204 21 24)) (q 204 11 24)) (.cons (.asg (.bM 3 (q 205 12 17)) (.comp (.var 1 (q 205 21 24)) (.cons (.bM 1 (q 205 29 32)) (.call (.var 5 (q 205 36 41)) (.cons (.var 2 (q 205 42 43)) .nil) .bH default (q 205 36 44)) (.cons (.cmp .Eq (.idx (.var 2 (q 205 48 51)) (.var 1 (q 205 52 55)) (q 205 48 56)) (.cS [40] 0 (q 205 60 63)) (q 205 48 63)) .nil) .nil) [.lc ".0",.lc "one",.fe "row" 0] (q 205 20 64)) (q 205 12 64)) (.cons (.asg (.bM 1 (q 206 12 16)) (.bin .Add (.var 1 (q 206 19 23)) (.comp (.bin .Add (.var 1 (q 206 27 30)) (.tup (.cons (.var 2 (q 206 34 37)) .nil) 0 (q 206 33 39)) (q 206 27 39)) (.cons (.bM 1 (q 206 44 47)) (.var 1 (q 206 51 55)) .nil (.cons (.bM 2 (q 206 60 63)) (.var 3 (q 206 67 72)) (.cons (.cmp .NotIn (.var 2 (q 206 76 79)) (.var 1 (q 206 87 90)) (q 206 76 90)) .nil) .nil)) [.lc ".0",.lc "way",.lc "one",.fe "opens" 3] (q 206 26 91)) (q 206 19 91)) (q 206 12 91)) .nil)) .nil ⟨204,8,206,91⟩) .nil) ⟨203,4,206,91⟩),
 (.asg (.bM 4 (q 207 4 9)) (.comp (.call (.var 2 (q 207 13 16)) (.cons (.var 1 (q 207 17 20)) .nil) .bH default (q 207 13 21)) (.cons (.bM 1 (q 207 26 29)) (.var 1 (q 207 33 37)) .nil .nil) [.lc ".0",.lc "way",.gl 25] (q 207 12 38)) (q 207 4 38)),
 (.ret (.comp (.d8 (.var 2 (q 208 12 17)) .count (.cons (.var 1 (q 208 24 28)) .nil) (q 208 12 23) (q 208 12 29)) (.cons (.bM 1 (q 208 34 38)) (.call (.var 5 (q 208 42 47)) (.cons (.cI 5 0 (q 208 48 49)) .nil) .bH default (q 208 42 50)) .nil .nil) [.lc ".0",.lc "size",.fe "sizes" 4] (q 208 11 51)) (q 208 4 51))]
noncomputable def KI:Fd:=⟨1,false,[],KG,KH⟩
noncomputable def KJ:Sc:=[.ce "row",.ce "opens",.ce "closes",.lc "orders",.lc "step",.ce "goods",.gl 33]
noncomputable def KL:Ss:=Ss.ofList [(.asg (.tup [(1,(q 210 4 9)),(2,(q 210 11 17))] 0 (q 210 4 17)) (.comp (.comp (.var 1 (q 210 22 23)) (.cons (.bM 1 (q 210 28 29)) (.call (.var 2 (q 210 33 38)) (.cons (.cI 8 0 (q 210 39 40)) .nil) .bH default (q 210 33 41)) (.cons (.cmp .Eq (.idx (.var 2 (q 210 45 48)) (.var 1 (q 210 49 50)) (q 210 45 51)) (.var 3 (q 210 55 59)) (q 210 45 59)) .nil) .nil) [.lc ".0",.lc "k",.fe "row" 3,.fe "sign" 1] (q 210 21 60)) (.cons (.bM 1 (q 210 65 69)) (.cS [40,41] 0 (q 210 73 77)) .nil .nil) [.lc ".0",.ce "sign",.gl 33,.fe "row" 0] (q 210 20 78)) (q 210 4 78)),
 (.asg (.bM 3 (q 211 4 10)) (.jD (.cons (.tup .nil 0 (q 211 14 16)) .nil) (q 211 13 17)) (q 211 4 17)),
 (.gB (.bM 4 (q 212 8 12)) (.call (.var 6 (q 212 16 21)) (.cons (.cI 4 0 (q 212 22 23)) .nil) .bH default (q 212 16 24)) (.cons (.asg (.bM 3 (q 213 8 14)) (.comp (.bin .Add (.var 1 (q 213 18 23)) (.tup (.cons (.var 2 (q 213 27 30)) .nil) 0 (q 213 26 32)) (q 213 18 32)) (.cons (.bM 1 (q 213 37 42)) (.var 3 (q 213 46 52)) .nil (.cons (.bM 2 (q 213 57 60)) (.var 3 (q 213 64 69)) (.cons (.cmp .NotIn (.var 2 (q 213 73 76)) (.var 1 (q 213 84 89)) (q 213 73 89)) .nil) .nil)) [.lc ".0",.lc "order",.lc "one",.fe "opens" 1] (q 213 17 90)) (q 213 8 90)) .nil) ⟨212,4,213,90⟩),
 (.asg (.bM 5 (q 214 4 9)) (.comp (.call (.var 2 (q 214 13 16)) (.cons (.comp (.var 1 (q 214 18 19)) (.cons (.bM 1 (q 214 24 25)) (.call (.var 3 (q 214 29 34)) (.cons (.cI 4 0 (q 214 35 36)) .nil) .bH default (q 214 29 37)) (.cons (.cmp .Lt (.idx (.var 3 (q 214 41 46)) (.var 1 (q 214 47 48)) (q 214 41 49)) (.idx (.var 2 (q 214 52 58)) (.var 1 (q 214 59 60)) (q 214 52 61)) (q 214 41 61)) .nil) .nil) [.lc ".0",.lc "k",.fe "closes" 4,.fe "order" 1] (q 214 17 62)) .nil) .bH default (q 214 13 63)) (.cons (.bM 1 (q 214 68 73)) (.var 3 (q 214 77 83)) .nil .nil) [.lc ".0",.ce "order",.gl 25,.gl 33,.fe "closes" 2] (q 214 12 84)) (q 214 4 84)),
 (.ret (.comp (.d8 (.var 2 (q 215 12 17)) .count (.cons (.var 1 (q 215 24 28)) .nil) (q 215 12 23) (q 215 12 29)) (.cons (.bM 1 (q 215 34 38)) (.call (.var 6 (q 215 42 47)) (.cons (.cI 5 0 (q 215 48 49)) .nil) .bH default (q 215 42 50)) .nil .nil) [.lc ".0",.lc "good",.fe "goods" 5] (q 215 11 51)) (q 215 4 51))]
noncomputable def KN:Fd:=⟨1,false,[],KJ,KL⟩
noncomputable def iC:Sc:=[.lc "script",.ce "told",.lc "k",.lc "cells",.ce "row",.ce "text",.lc "left",.lc "units",.ce "ways",.ce "hits",.lc "total",.lc "tail",.lc "seen",.ce "signs",.ce "shut",.lc "due",.ce "ahead",.lc "columns",.lc "rows",.lc "i",.ce "low",.ce "high",.lc "near",.lc "laid",.lc "error",.lc "x",.lc "side",.ce "wide",.lc "value",.lc "rest",.lc "number",.ce "fields",.lc "given",.ce "none",.lc "kept",.lc "answer",.gl 34,.gl 15,.gl 16,.gl 17,.gl 18,.gl 26,.gl 11,.gl 10,.gl 25,.gl 33,.gl 7,.gl 6,.gl 14,.gl 8,.gl 39,.gl 37,.gl 31,.gl 5,.gl 29,.gl 38,.gl 2,.gl 28,.gl 3,.gl 13,.gl 12]
noncomputable def yR:S:=(.asg (.bM 1 (q 217 4 8)) (.slc (.var 0 (q 217 11 17)) .bH (.cI 60 0 (q 217 19 21)) .bH (q 217 18 21) (q 217 11 22)) (q 217 4 22))
noncomputable def vG:S:=(.asg (.bM 3 (q 218 4 9)) (.comp (.bin .Add (.var 2 (q 218 13 16)) (.call (.var 3 (q 218 19 22)) (.cons (.slc (.var 4 (q 218 23 27)) (.var 1 (q 218 28 29)) .bH (.cI 8 0 (q 218 31 32)) (q 218 28 32) (q 218 23 33)) .nil) .bH default (q 218 19 34)) (q 218 13 34)) (.cons (.tup [(1,(q 218 39 40)),(2,(q 218 42 45))] 0 (q 218 39 45)) (.call (.var 36 (q 218 49 58)) (.cons (.jD (.cons (.cI 4 0 (q 218 60 61)) (.cons (.cI 9 0 (q 218 63 64)) (.cons (.cI 17 0 (q 218 66 68)) (.cons (.cI 14 0 (q 218 70 72)) (.cons (.cI 12 0 (q 218 74 76)) (.cons (.cI 7 0 (q 218 78 79)) (.cons (.cI 2 0 (q 218 81 82)) (.cons (.cI 11 0 (q 218 84 86)) .nil)))))))) (q 218 59 87)) .nil) .bH default (q 218 49 88)) .nil .nil) [.lc ".0",.lc "k",.lc "one",.gl 26,.fe "told" 1] (q 218 12 89)) (q 218 4 89))
noncomputable def vH:S:=(.asg (.bM 4 (q 219 4 7)) (.call (.var 37 (q 219 10 18)) (.cons (.var 3 (q 219 19 24)) .nil) .bH default (q 219 10 25)) (q 219 4 25))
noncomputable def yS:S:=(.asg (.tup [(5,(q 220 4 8)),(6,(q 220 10 14)),(7,(q 220 16 21))] 0 (q 220 4 21)) (.call (.var 38 (q 220 24 34)) (.cons (.var 3 (q 220 35 40)) (.cons (.var 4 (q 220 42 45)) .nil)) .bH default (q 220 24 46)) (q 220 4 46))
noncomputable def yT:S:=(.tP false [(8,(q 221 4 8)),(9,(q 221 10 14)),(10,(q 221 16 21)),(11,(q 221 23 27))] 0 (q 221 4 27) (.cons (.call (.var 39 (q 221 31 40)) (.cons (.var 4 (q 221 41 44)) .nil) .bH default (q 221 31 45)) (.cons (.call (.var 40 (q 221 47 56)) (.cons (.var 4 (q 221 57 60)) .nil) .bH default (q 221 47 61)) (.cons (.call (.var 41 (q 221 63 66)) (.cons (.var 3 (q 221 67 72)) .nil) .bH default (q 221 63 73)) (.cons (.idx (.jD (.cons (.cS [] 0 (q 221 76 78)) (.cons (.cS [92] 0 (q 221 80 84)) .nil)) (q 221 75 85)) (.bin .Mod (.bin .FloorDiv (.idx (.var 3 (q 221 86 91)) (.cI 3 0 (q 221 92 93)) (q 221 86 94)) (.cI 16 0 (q 221 98 100)) (q 221 86 100)) (.cI 2 0 (q 221 103 104)) (q 221 86 104)) (q 221 75 105)) .nil)))) 0 (q 221 30 106) (q 221 4 106))
noncomputable def yU:S:=(.ite (.cmp .NotEq (.call (.var 42 (q 222 7 30)) (.cons (.bin .Add (.var 5 (q 222 31 35)) (.var 11 (q 222 38 42)) (q 222 31 42)) .nil) .bH default (q 222 7 43)) (.bin .Add (.var 6 (q 222 47 51)) (.var 11 (q 222 54 58)) (q 222 47 58)) (q 222 7 58)) (.cons (.ret (.cB false 0 (q 223 15 20)) (q 223 8 20)) .nil) .nil ⟨222,4,223,20⟩)
noncomputable def vJ:S:=(.asg (.bM 12 (q 224 4 8)) (.comp (.var 1 (q 224 12 16)) (.cons (.bM 1 (q 224 21 25)) (.call (.var 43 (q 224 29 48)) (.cons (.bin .Add (.var 6 (q 224 49 53)) (.var 11 (q 224 56 60)) (q 224 49 60)) .nil) .bH default (q 224 29 61)) .nil .nil) [.lc ".0",.lc "pair"] (q 224 11 62)) (q 224 4 62))
noncomputable def yV:S:=(.ite (.cmp .NotEq (.var 12 (q 225 7 11)) (.bin .Add (.var 7 (q 225 15 20)) (.qv (.cmp .NotEq (.var 11 (q 225 47 51)) (.cS [] 0 (q 225 55 57)) (q 225 47 57)) (.jD (.cons (.tup (.cons (.call (.var 44 (q 225 26 29)) (.cons (.var 6 (q 225 30 34)) .nil) .bH default (q 225 26 35)) (.cons (.var 11 (q 225 37 41)) .nil)) 0 (q 225 25 42)) .nil) (q 225 24 43)) (.jD .nil (q 225 63 65)) (q 225 24 65)) (q 225 15 66)) (q 225 7 66)) (.cons (.ret (.cB false 0 (q 226 15 20)) (q 226 8 20)) .nil) .nil ⟨225,4,226,20⟩)
noncomputable def vK:S:=(.asg (.bM 13 (q 227 4 9)) (.comp (.var 2 (q 227 13 17)) (.cons (.tup [(1,(q 227 22 27)),(2,(q 227 29 33))] 0 (q 227 22 33)) (.var 12 (q 227 37 41)) (.cons (.cmp .In (.var 2 (q 227 45 49)) (.tup (.cons (.cS [40] 0 (q 227 54 57)) (.cons (.cS [41] 0 (q 227 59 62)) .nil)) 0 (q 227 53 63)) (q 227 45 63)) .nil) .nil) [.lc ".0",.lc "place",.lc "sign"] (q 227 12 64)) (q 227 4 64))
noncomputable def qA:S:=(.asg (.bM 14 (q 228 4 8)) (.comp (.d8 (.slc (.var 2 (q 228 12 17)) .bH (.var 1 (q 228 19 20)) .bH (q 228 18 20) (q 228 12 21)) .count (.cons (.cS [41] 0 (q 228 28 31)) .nil) (q 228 12 27) (q 228 12 32)) (.cons (.bM 1 (q 228 37 38)) (.call (.var 45 (q 228 42 47)) (.cons (.cI 8 0 (q 228 48 49)) .nil) .bH default (q 228 42 50)) (.cons (.cmp .Eq (.idx (.var 2 (q 228 54 59)) (.var 1 (q 228 60 61)) (q 228 54 62)) (.cS [40] 0 (q 228 66 69)) (q 228 54 69)) .nil) .nil) [.lc ".0",.lc "k",.fe "signs" 13] (q 228 11 70)) (q 228 4 70))
noncomputable def oM:S:=(.tP false [(15,(q 229 4 7)),(16,(q 229 9 14)),(17,(q 229 16 23)),(18,(q 229 25 29))] 0 (q 229 4 29) (.cons (.bin .Add (.jD (.cons (.cI 0 0 (q 229 34 35)) .nil) (q 229 33 36)) (.comp (.d8 (.slc (.var 2 (q 229 40 43)) .bH (.var 1 (q 229 45 46)) .bH (q 229 44 46) (q 229 40 47)) .count (.cons (.cS [40] 0 (q 229 54 57)) .nil) (q 229 40 53) (q 229 40 58)) (.cons (.bM 1 (q 229 63 64)) (.call (.var 45 (q 229 68 73)) (.cons (.cI 8 0 (q 229 74 75)) .nil) .bH default (q 229 68 76)) (.cons (.cmp .Eq (.idx (.var 2 (q 229 80 83)) (.var 1 (q 229 84 85)) (q 229 80 86)) (.cS [41] 0 (q 229 90 93)) (q 229 80 93)) .nil) .nil) [.lc ".0",.lc "k",.fe "row" 4] (q 229 39 94)) (q 229 33 94)) (.cons (.jD .nil (q 229 96 98)) (.cons (.jD .nil (q 229 100 102)) (.cons (.jD .nil (q 229 104 106)) .nil)))) 0 (q 229 32 107) (q 229 4 107))
noncomputable def oN:S:=(.gB (.bM 19 (q 230 8 9)) (.call (.var 45 (q 230 13 18)) (.cons (.cI 4 0 (q 230 19 20)) .nil) .bH default (q 230 13 21)) (.cons (.expr (.d8 (.var 16 (q 231 8 13)) .append (.cons (.call (.var 46 (q 231 21 33)) (.cons (.var 14 (q 231 34 38)) (.cons (.var 19 (q 231 40 41)) (.cons (.qv (.cmp .NotEq (.var 16 (q 231 56 61)) (.jD .nil (q 231 65 67)) (q 231 56 67)) (.idx (.var 16 (q 231 43 48)) (.un .USub (.cI 1 0 (q 231 50 51)) (q 231 49 51)) (q 231 43 52)) (.cI 0 0 (q 231 73 74)) (q 231 43 74)) .nil))) .bH default (q 231 21 75)) .nil) (q 231 8 20) (q 231 8 76)) (q 231 8 76)) .nil) ⟨230,4,231,76⟩)
noncomputable def qU:S:=(.ite (.qQ .Or (.cons (.cmp .NotEq (.var 16 (q 232 7 12)) (.slc (.var 15 (q 232 16 19)) (.cI 1 0 (q 232 20 21)) .bH .bH (q 232 20 22) (q 232 16 23)) (q 232 7 23)) (.cons (.cmp .NotEq (.comp (.call (.var 2 (q 232 28 39)) (.cons (.var 3 (q 232 40 44)) (.cons (.var 1 (q 232 46 47)) .nil)) .bH default (q 232 28 48)) (.cons (.bM 1 (q 232 53 54)) (.call (.var 45 (q 232 58 63)) (.cons (.cI 5 0 (q 232 64 65)) .nil) .bH default (q 232 58 66)) .nil .nil) [.lc ".0",.lc "i",.gl 9,.fe "shut" 14] (q 232 27 67)) (.var 15 (q 232 71 74)) (q 232 27 74)) .nil)) (q 232 7 74)) (.cons (.ret (.cB false 0 (q 233 15 20)) (q 233 8 20)) .nil) .nil ⟨232,4,233,20⟩)
noncomputable def l7:S:=(.gB (.tup [(20,(q 234 8 11)),(21,(q 234 13 17))] 0 (q 234 8 17)) (.comp (.tup (.cons (.var 1 (q 234 23 26)) (.cons (.var 2 (q 234 28 33)) .nil)) 0 (q 234 22 34)) (.cons (.bM 1 (q 234 39 42)) (.call (.var 45 (q 234 46 51)) (.cons (.cI 5 0 (q 234 52 53)) .nil) .bH default (q 234 46 54)) .nil (.cons (.bM 2 (q 234 59 64)) (.call (.var 3 (q 234 68 73)) (.cons (.var 1 (q 234 74 77)) (.cons (.cI 5 0 (q 234 79 80)) .nil)) .bH default (q 234 68 81)) .nil .nil)) [.lc ".0",.lc "one",.lc "other",.gl 33] (q 234 21 82)) (.cons (.asg (.bM 22 (q 235 8 12)) (.comp (.call (.var 2 (q 235 16 19)) (.cons (.call (.var 3 (q 235 20 23)) (.cons (.var 5 (q 235 24 27)) (.cons (.var 1 (q 235 29 32)) .nil)) .bH default (q 235 20 33)) (.cons (.var 4 (q 235 35 39)) .nil)) .bH default (q 235 16 40)) (.cons (.bM 1 (q 235 45 48)) (.var 15 (q 235 52 55)) .nil .nil) [.lc ".0",.lc "one",.gl 27,.gl 28,.fe "high" 21,.fe "low" 20] (q 235 15 56)) (q 235 8 56)) (.cons (.ite (.qQ .Or (.cons (.cmp .NotEq (.comp (.call (.var 2 (q 236 12 23)) (.cons (.var 5 (q 236 24 28)) (.cons (.var 1 (q 236 30 31)) (.cons (.var 4 (q 236 33 36)) (.cons (.var 3 (q 236 38 42)) .nil)))) .bH default (q 236 12 43)) (.cons (.bM 1 (q 236 48 49)) (.call (.var 45 (q 236 53 58)) (.cons (.cI 5 0 (q 236 59 60)) .nil) .bH default (q 236 53 61)) .nil .nil) [.lc ".0",.lc "i",.gl 9,.fe "high" 21,.fe "low" 20,.fe "shut" 14] (q 236 11 62)) (.var 22 (q 236 66 70)) (q 236 11 70)) (.cons (.cmp .NotEq (.comp (.call (.var 2 (q 236 75 87)) (.cons (.var 5 (q 236 88 92)) (.cons (.bin .Sub (.var 1 (q 236 94 95)) (.cI 1 0 (q 236 98 99)) (q 236 94 99)) (.cons (.var 4 (q 236 101 104)) (.cons (.var 3 (q 236 106 110)) .nil)))) .bH default (q 236 75 111)) (.cons (.bM 1 (q 236 116 117)) (.call (.var 45 (q 236 121 126)) (.cons (.cI 5 0 (q 236 127 128)) .nil) .bH default (q 236 121 129)) .nil .nil) [.lc ".0",.lc "i",.gl 7,.fe "high" 21,.fe "low" 20,.fe "shut" 14] (q 236 74 130)) (.var 22 (q 236 134 138)) (q 236 74 138)) .nil)) (q 236 11 138)) (.cons (.ret (.cB false 0 (q 237 19 24)) (q 237 12 24)) .nil) .nil ⟨236,8,237,24⟩) .nil)) ⟨234,4,237,24⟩)
noncomputable def oO:S:=(.gB (.bM 19 (q 238 8 9)) (.call (.var 45 (q 238 13 18)) (.cons (.cI 4 0 (q 238 19 20)) .nil) .bH default (q 238 13 21)) (.cons (.asg (.bM 23 (q 239 8 12)) (.tup (.cons (.call (.var 47 (q 239 16 28)) (.cons (.var 17 (q 239 29 36)) (.cons (.tup (.cons (.bin .Sub (.idx (.var 16 (q 239 39 44)) (.var 19 (q 239 45 46)) (q 239 39 47)) (.var 19 (q 239 50 51)) (q 239 39 51)) (.cons (.var 19 (q 239 53 54)) .nil)) 0 (q 239 38 55)) .nil)) (.var 48 (q 239 61 71)) (q 239 57 71) (q 239 16 72)) (.cons (.call (.var 49 (q 239 74 85)) (.cons (.var 18 (q 239 86 90)) (.cons (.tup (.cons (.bin .Sub (.bin .Sub (.cI 4 0 (q 239 93 94)) (.idx (.var 14 (q 239 97 101)) (.bin .Sub (.cI 3 0 (q 239 102 103)) (.var 19 (q 239 106 107)) (q 239 102 107)) (q 239 97 108)) (q 239 93 108)) (.var 19 (q 239 111 112)) (q 239 93 112)) (.cons (.var 19 (q 239 114 115)) .nil)) 0 (q 239 92 116)) .nil)) (.var 48 (q 239 122 132)) (q 239 118 132) (q 239 74 133)) .nil)) 0 (q 239 15 134)) (q 239 8 134)) (.cons (.ite (.cmp .NotEq (.var 23 (q 240 11 15)) (.tup (.cons (.cN 0 (q 240 20 24)) (.cons (.cN 0 (q 240 26 30)) .nil)) 0 (q 240 19 31)) (q 240 11 31)) (.cons (.ret (.cB false 0 (q 241 19 24)) (q 241 12 24)) .nil) .nil ⟨240,8,241,24⟩) .nil)) ⟨238,4,241,24⟩)
noncomputable def Av:S:=(.raw (Tq (body:=[(SY (value:=(O9 (func:=(ND "insort_left" (q 243 8 19))) (args:=[(ND "rows" (q 243 20 24)),(U5 (elts:=[(Np (OU 0) 0 (q 243 27 28)),(Np (OU 4) 0 (q 243 30 31))]) (k:=0) (pos:=(q 243 26 32))),(PySem.Expr.BinOp (left:=(Um (op:=Un) (operand:=(Np (OU 1) 0 (q 243 35 36))) (pos:=(q 243 34 36)))) (op:=V9) (right:=(PySem.Expr.Subscript (value:=(ND "ahead" (q 243 39 44))) (slice:=(Np (OU 3) 0 (q 243 45 46))) (pos:=(q 243 39 47)))) (pos:=(q 243 34 47)))]) (keywords:=[{ arg:=(some "key"),value:=(ND "_law_first" (q 243 53 63)),pos:=(q 243 49 63):VJ }]) (pos:=(q 243 8 64)))) (pos:=(q 243 8 64))),(PA (value:=(some (Np (PM false) 0 (q 244 15 20)))) (pos:=(q 244 8 20)))]) (handlers:=[(Pw (type:=(some (ND "ValueError" (q 245 11 21)))) (name:=(some "error")) (body:=[(Ue (test:=(RC (left:=(O9 (func:=(ND "str" (q 246 11 14))) (args:=[(ND "error" (q 246 15 20))]) (keywords:=[]) (pos:=(q 246 11 21)))) (ops:=[RU]) (comparators:=[(Np (Qz "lo must be non-negative") 0 (q 246 25 50))]) (pos:=(q 246 11 50)))) (body:=[(PA (value:=(some (Np (PM false) 0 (q 247 19 24)))) (pos:=(q 247 12 24)))]) (orelse:=[]) (pos:=⟨246,8,247,24⟩))]) (pos:=⟨245,4,247,24⟩))]) (orelse:=[]) (finalbody:=[]) (pos:=⟨242,4,247,24⟩)))
noncomputable def Aw:S:=(.raw (Tq (body:=[(SY (value:=(O9 (func:=(ND "insort_right" (q 249 8 20))) (args:=[(ND "columns" (q 249 21 28)),(U5 (elts:=[(Np (OU 0) 0 (q 249 31 32)),(Np (OU 4) 0 (q 249 34 35))]) (k:=0) (pos:=(q 249 30 36))),(Um (op:=Un) (operand:=(Np (OU 1) 0 (q 249 39 40))) (pos:=(q 249 38 40))),(Np (OU 4) 0 (q 249 42 43))]) (keywords:=[{ arg:=(some "key"),value:=(ND "_law_first" (q 249 49 59)),pos:=(q 249 45 59):VJ }]) (pos:=(q 249 8 60)))) (pos:=(q 249 8 60))),(PA (value:=(some (Np (PM false) 0 (q 250 15 20)))) (pos:=(q 250 8 20)))]) (handlers:=[(Pw (type:=(some (ND "ValueError" (q 251 11 21)))) (name:=(some "error")) (body:=[(Ue (test:=(RC (left:=(O9 (func:=(ND "str" (q 252 11 14))) (args:=[(ND "error" (q 252 15 20))]) (keywords:=[]) (pos:=(q 252 11 21)))) (ops:=[RU]) (comparators:=[(Np (Qz "lo must be non-negative") 0 (q 252 25 50))]) (pos:=(q 252 11 50)))) (body:=[(PA (value:=(some (Np (PM false) 0 (q 253 19 24)))) (pos:=(q 253 12 24)))]) (orelse:=[]) (pos:=⟨252,8,253,24⟩))]) (pos:=⟨251,4,253,24⟩))]) (orelse:=[]) (finalbody:=[]) (pos:=⟨248,4,253,24⟩)))
noncomputable def nH:S:=(.ite (.qQ .Or (.cons (.cmp .NotEq (.var 17 (q 254 7 14)) (.call (.var 52 (q 254 18 24)) (.cons (.comp (.tup (.cons (.bin .Sub (.idx (.var 2 (q 254 27 32)) (.var 1 (q 254 33 34)) (q 254 27 35)) (.var 1 (q 254 38 39)) (q 254 27 39)) (.cons (.var 1 (q 254 41 42)) .nil)) 0 (q 254 26 43)) (.cons (.bM 1 (q 254 48 49)) (.call (.var 45 (q 254 53 58)) (.cons (.cI 4 0 (q 254 59 60)) .nil) .bH default (q 254 53 61)) .nil .nil) [.lc ".0",.lc "i",.fe "ahead" 16] (q 254 25 62)) .nil) .bH default (q 254 18 63)) (q 254 7 63)) (.cons (.cmp .NotEq (.var 18 (q 254 67 71)) (.comp (.tup (.cons (.var 1 (q 254 77 81)) (.cons (.un .USub (.var 2 (q 254 84 85)) (q 254 83 85)) .nil)) 0 (q 254 76 86)) (.cons (.tup [(1,(q 254 91 95)),(2,(q 254 97 98))] 0 (q 254 91 98)) (.call (.var 52 (q 254 102 108)) (.cons (.comp (.tup (.cons (.bin .Sub (.bin .Sub (.cI 4 0 (q 254 111 112)) (.idx (.var 2 (q 254 115 119)) (.bin .Sub (.cI 3 0 (q 254 120 121)) (.var 1 (q 254 124 125)) (q 254 120 125)) (q 254 115 126)) (q 254 111 126)) (.var 1 (q 254 129 130)) (q 254 111 130)) (.cons (.un .USub (.var 1 (q 254 133 134)) (q 254 132 134)) .nil)) 0 (q 254 110 135)) (.cons (.bM 1 (q 254 140 141)) (.call (.var 45 (q 254 145 150)) (.cons (.cI 4 0 (q 254 151 152)) .nil) .bH default (q 254 145 153)) .nil .nil) [.lc ".0",.lc "i",.fe "shut" 14] (q 254 109 154)) .nil) .bH default (q 254 102 155)) .nil .nil) [.lc ".0",.lc "root",.lc "i"] (q 254 75 156)) (q 254 67 156)) .nil)) (q 254 7 156)) (.cons (.ret (.cB false 0 (q 255 15 20)) (q 255 8 20)) .nil) .nil ⟨254,4,255,20⟩)
noncomputable def tX:S:=(.tP false [(25,(q 256 4 5)),(26,(q 256 7 11)),(27,(q 256 13 17))] 0 (q 256 4 17) (.cons (.bin .Add (.cI 200 0 (q 256 21 24)) (.bin .Mod (.var 10 (q 256 27 32)) (.bin .Pow (.cI 10 0 (q 256 35 37)) (.cI 6 0 (q 256 41 42)) (q 256 35 42)) (q 256 27 42)) (q 256 21 42)) (.cons (.idx (.jD (.cons (.cI 1 0 (q 256 45 46)) (.cons (.un .USub (.cI 1 0 (q 256 49 50)) (q 256 48 50)) .nil)) (q 256 44 51)) (.bin .Mod (.bin .FloorDiv (.idx (.var 3 (q 256 52 57)) (.cI 2 0 (q 256 58 59)) (q 256 52 60)) (.cI 16 0 (q 256 64 66)) (q 256 52 66)) (.cI 2 0 (q 256 69 70)) (q 256 52 70)) (q 256 44 71)) (.cons (.bin .Add (.cI 5 0 (q 256 73 74)) (.bin .Mod (.var 10 (q 256 77 82)) (.cI 50 0 (q 256 85 87)) (q 256 77 87)) (q 256 73 87)) .nil))) 0 (q 256 20 88) (q 256 4 88))
noncomputable def l8:S:=(.asg (.bM 25 (q 257 4 5)) (.bin .Mult (.bin .Mult (.var 25 (q 257 8 9)) (.qv (.cmp .Eq (.bin .Mod (.bin .FloorDiv (.idx (.var 3 (q 257 26 31)) (.cI 0 0 (q 257 32 33)) (q 257 26 34)) (.cI 16 0 (q 257 38 40)) (q 257 26 40)) (.cI 3 0 (q 257 43 44)) (q 257 26 44)) (.cI 2 0 (q 257 48 49)) (q 257 26 49)) (.bin .Pow (.cI 2 0 (q 257 13 14)) (.cI 4099 0 (q 257 18 22)) (q 257 13 22)) (.cI 1 0 (q 257 55 56)) (q 257 13 56)) (q 257 8 57)) (.idx (.jD (.cons (.cI 1 0 (q 257 61 62)) (.cons (.un .USub (.cI 1 0 (q 257 65 66)) (q 257 64 66)) .nil)) (q 257 60 67)) (.bin .Mod (.bin .FloorDiv (.idx (.var 3 (q 257 68 73)) (.cI 1 0 (q 257 74 75)) (q 257 68 76)) (.cI 16 0 (q 257 80 82)) (q 257 68 82)) (.cI 2 0 (q 257 85 86)) (q 257 68 86)) (q 257 60 87)) (q 257 8 87)) (q 257 4 87))
noncomputable def tY:S:=(.asg (.bM 28 (q 258 4 9)) (.bin .Mult (.bin .Mult (.bin .Mult (.bin .Mult (.var 26 (q 258 12 16)) (.bin .Add (.var 25 (q 258 20 21)) (.idx (.idx (.var 18 (q 258 24 28)) (.cI 0 0 (q 258 29 30)) (q 258 24 31)) (.cI 0 0 (q 258 32 33)) (q 258 24 34)) (q 258 20 34)) (q 258 12 35)) (.bin .Add (.var 25 (q 258 39 40)) (.idx (.idx (.var 18 (q 258 43 47)) (.cI 1 0 (q 258 48 49)) (q 258 43 50)) (.cI 0 0 (q 258 51 52)) (q 258 43 53)) (q 258 39 53)) (q 258 12 54)) (.bin .Add (.var 25 (q 258 58 59)) (.idx (.idx (.var 18 (q 258 62 66)) (.cI 2 0 (q 258 67 68)) (q 258 62 69)) (.cI 0 0 (q 258 70 71)) (q 258 62 72)) (q 258 58 72)) (q 258 12 73)) (.bin .Add (.var 25 (q 258 77 78)) (.idx (.idx (.var 18 (q 258 81 85)) (.cI 3 0 (q 258 86 87)) (q 258 81 88)) (.cI 0 0 (q 258 89 90)) (q 258 81 91)) (q 258 77 91)) (q 258 12 92)) (q 258 4 92))
noncomputable def qV:S:=(.gB (.bM 2 (q 259 8 9)) (.call (.var 45 (q 259 13 18)) (.cons (.cI 4 0 (q 259 19 20)) .nil) .bH default (q 259 13 21)) (.cons (.asg (.tup [(28,(q 260 8 13)),(29,(q 260 15 19))] 0 (q 260 8 19)) (.call (.var 53 (q 260 22 32)) (.cons (.var 28 (q 260 33 38)) (.cons (.bin .Sub (.var 25 (q 260 40 41)) (.var 2 (q 260 44 45)) (q 260 40 45)) .nil)) .bH default (q 260 22 46)) (q 260 8 46)) (.cons (.ite (.qQ .Or (.cons (.cmp .Lt (.bin .Mult (.var 29 (q 261 11 15)) (.bin .Sub (.var 25 (q 261 19 20)) (.var 2 (q 261 23 24)) (q 261 19 24)) (q 261 11 25)) (.cI 0 0 (q 261 28 29)) (q 261 11 29)) (.cons (.cmp .GtE (.call (.var 54 (q 261 33 36)) (.cons (.var 29 (q 261 37 41)) .nil) .bH default (q 261 33 42)) (.call (.var 54 (q 261 46 49)) (.cons (.bin .Sub (.var 25 (q 261 50 51)) (.var 2 (q 261 54 55)) (q 261 50 55)) .nil) .bH default (q 261 46 56)) (q 261 33 56)) .nil)) (q 261 11 56)) (.cons (.ret (.cB false 0 (q 262 19 24)) (q 262 12 24)) .nil) .nil ⟨261,8,262,24⟩) (.cons (.ite (.cmp .Gt (.bin .Mult (.cI 2 0 (q 263 11 12)) (.call (.var 54 (q 263 15 18)) (.cons (.var 29 (q 263 19 23)) .nil) .bH default (q 263 15 24)) (q 263 11 24)) (.call (.var 54 (q 263 27 30)) (.cons (.bin .Sub (.var 25 (q 263 31 32)) (.var 2 (q 263 35 36)) (q 263 31 36)) .nil) .bH default (q 263 27 37)) (q 263 11 37)) (.cons (.tP true [(28,(q 264 12 17)),(29,(q 264 19 23))] 0 (q 264 12 23) (.cons (.bin .Add (.var 28 (q 264 27 32)) (.cI 1 0 (q 264 35 36)) (q 264 27 36)) (.cons (.bin .Sub (.var 29 (q 264 38 42)) (.bin .Sub (.var 25 (q 264 46 47)) (.var 2 (q 264 50 51)) (q 264 46 51)) (q 264 38 52)) .nil)) 0 (q 264 26 53) (q 264 12 53)) .nil) .nil ⟨263,8,264,53⟩) (.cons (.ite (.cmp .NotEq (.var 29 (q 265 11 15)) (.bin .Mult (.var 26 (q 265 19 23)) (.idx (.var 8 (q 265 26 30)) (.bin .Sub (.cI 4 0 (q 265 31 32)) (.var 2 (q 265 35 36)) (q 265 31 36)) (q 265 26 37)) (q 265 19 37)) (q 265 11 37)) (.cons (.ret (.cB false 0 (q 266 19 24)) (q 266 12 24)) .nil) .nil ⟨265,8,266,24⟩) .nil)))) ⟨259,4,266,24⟩)
noncomputable def tZ:S:=(.ite (.qQ .Or (.cons (.cmp .NotEq (.var 28 (q 267 7 12)) (.var 26 (q 267 16 20)) (q 267 7 20)) (.cons (.cmp .NotEq (.call (.var 53 (q 267 24 34)) (.cons (.cI 0 0 (q 267 35 36)) (.cons (.var 25 (q 267 38 39)) .nil)) .bH default (q 267 24 40)) (.tup (.cons (.cI 0 0 (q 267 45 46)) (.cons (.cI 0 0 (q 267 48 49)) .nil)) 0 (q 267 44 50)) (q 267 24 50)) .nil)) (q 267 7 50)) (.cons (.ret (.cB false 0 (q 268 15 20)) (q 268 8 20)) .nil) .nil ⟨267,4,268,20⟩)
noncomputable def Ax:S:=(.raw (Tq (body:=[(SY (value:=(O9 (func:=(ND "int_divmod" (q 270 8 18))) (args:=[(ND "side" (q 270 19 23)),(Np (OU 0) 0 (q 270 25 26))]) (keywords:=[]) (pos:=(q 270 8 27)))) (pos:=(q 270 8 27))),(PA (value:=(some (Np (PM false) 0 (q 271 15 20)))) (pos:=(q 271 8 20)))]) (handlers:=[(Pw (type:=(some (ND "ZeroDivisionError" (q 272 11 28)))) (name:=(some "error")) (body:=[(Ue (test:=(RC (left:=(O9 (func:=(ND "str" (q 273 11 14))) (args:=[(ND "error" (q 273 15 20))]) (keywords:=[]) (pos:=(q 273 11 21)))) (ops:=[RU]) (comparators:=[(Np (Qz "") 0 (q 273 25 27))]) (pos:=(q 273 11 27)))) (body:=[(PA (value:=(some (Np (PM false) 0 (q 274 19 24)))) (pos:=(q 274 12 24)))]) (orelse:=[]) (pos:=⟨273,8,274,24⟩))]) (pos:=⟨272,4,274,24⟩))]) (orelse:=[]) (finalbody:=[]) (pos:=⟨269,4,274,24⟩)))
noncomputable def oQ:S:=(.asg (.bM 30 (q 275 4 10)) (.call (.var 41 (q 275 13 16)) (.cons (.comp (.bin .Mult (.bin .Mult (.idx (.var 2 (q 275 18 22)) (.var 1 (q 275 23 24)) (q 275 18 25)) (.idx (.jD (.cons (.cI 24 0 (q 275 29 31)) (.cons (.cI 6 0 (q 275 33 34)) (.cons (.cI 2 0 (q 275 36 37)) (.cons (.cI 1 0 (q 275 39 40)) (.cons (.cI 1 0 (q 275 42 43)) .nil))))) (q 275 28 44)) (.var 1 (q 275 45 46)) (q 275 28 47)) (q 275 18 47)) (.bin .Pow (.bin .Sub (.bin .Pow (.cI 2 0 (q 275 51 52)) (.var 3 (q 275 56 60)) (q 275 51 60)) (.cI 1 0 (q 275 63 64)) (q 275 51 64)) (.var 1 (q 275 69 70)) (q 275 50 70)) (q 275 18 70)) (.cons (.bM 1 (q 275 75 76)) (.call (.var 45 (q 275 80 85)) (.cons (.cI 5 0 (q 275 86 87)) .nil) .bH default (q 275 80 88)) .nil .nil) [.lc ".0",.lc "k",.fe "ways" 8,.fe "wide" 27] (q 275 17 89)) .nil) .bH default (q 275 13 90)) (q 275 4 90))
noncomputable def qW:S:=(.ite (.qQ .Or (.cons (.cmp .NotEq (.call (.var 56 (q 276 7 18)) (.cons (.var 30 (q 276 19 25)) (.cons (.var 27 (q 276 27 31)) .nil)) .bH default (q 276 7 32)) (.slc (.var 9 (q 276 36 40)) .bH (.bin .Add (.cI 1 0 (q 276 42 43)) (.call (.var 57 (q 276 46 49)) (.cons (.comp (.var 1 (q 276 51 55)) (.cons (.bM 1 (q 276 60 64)) (.call (.var 45 (q 276 68 73)) (.cons (.cI 5 0 (q 276 74 75)) .nil) .bH default (q 276 68 76)) (.cons (.cmp .Gt (.idx (.var 2 (q 276 80 84)) (.var 1 (q 276 85 89)) (q 276 80 90)) (.cI 0 0 (q 276 93 94)) (q 276 80 94)) .nil) .nil) [.lc ".0",.lc "good",.fe "hits" 9] (q 276 50 95)) .nil) .bH default (q 276 46 96)) (q 276 42 96)) .bH (q 276 41 96) (q 276 36 97)) (q 276 7 97)) (.cons (.cmp .NotEq (.call (.var 58 (q 276 101 112)) (.cons (.var 9 (q 276 113 117)) (.cons (.var 27 (q 276 119 123)) .nil)) .bH default (q 276 101 124)) (.var 30 (q 276 128 134)) (q 276 101 134)) .nil)) (q 276 7 134)) (.cons (.ret (.cB false 0 (q 277 15 20)) (q 277 8 20)) .nil) .nil ⟨276,4,277,20⟩)
noncomputable def qX:S:=(.asg (.bM 31 (q 278 4 10)) (.bin .Add (.comp (.bin .Add (.bin .Add (.bin .Mult (.cS [40] 0 (q 278 14 17)) (.var 1 (q 278 20 21)) (q 278 14 21)) (.var 2 (q 278 24 28)) (q 278 14 28)) (.bin .Mult (.cS [41] 0 (q 278 31 34)) (.var 1 (q 278 37 38)) (q 278 31 38)) (q 278 14 38)) (.cons (.bM 1 (q 278 43 44)) (.call (.var 45 (q 278 48 53)) (.cons (.cI 5 0 (q 278 54 55)) .nil) .bH default (q 278 48 56)) .nil .nil) [.lc ".0",.lc "j",.fe "text" 5] (q 278 13 57)) (.jD (.cons (.bin .Add (.bin .Add (.cS [40,40,40,40,40] 0 (q 278 61 68)) (.var 5 (q 278 71 75)) (q 278 61 75)) (.cS [41,41,41,41] 0 (q 278 78 84)) (q 278 61 84)) (.cons (.bin .Add (.bin .Add (.cS [40,40,40,40] 0 (q 278 86 92)) (.var 5 (q 278 95 99)) (q 278 86 99)) (.cS [41,41,41,41,41] 0 (q 278 102 109)) (q 278 86 109)) .nil)) (q 278 60 110)) (q 278 13 110)) (q 278 4 110))
noncomputable def t6:S:=(.tP false [(32,(q 279 4 9)),(33,(q 279 11 15))] 0 (q 279 4 15) (.cons (.slc (.var 31 (q 279 19 25)) .bH .bH .bH (q 279 26 27) (q 279 19 28)) (.cons (.cS [40,39,39,44,32,39,39,41] 0 (q 279 30 40)) .nil)) 0 (q 279 18 41) (q 279 4 41))
noncomputable def qY:S:=(.asg (.bM 34 (q 280 4 8)) (.bin .Add (.comp (.qv (.cmp .Gt (.idx (.var 4 (q 280 25 29)) (.bin .Sub (.cI 4 0 (q 280 30 31)) (.var 1 (q 280 34 35)) (q 280 30 35)) (q 280 25 36)) (.cI 0 0 (q 280 39 40)) (q 280 25 40)) (.idx (.var 2 (q 280 12 18)) (.var 1 (q 280 19 20)) (q 280 12 21)) (.var 3 (q 280 46 50)) (q 280 12 50)) (.cons (.bM 1 (q 280 55 56)) (.call (.var 45 (q 280 60 65)) (.cons (.cI 5 0 (q 280 66 67)) .nil) .bH default (q 280 60 68)) .nil .nil) [.lc ".0",.lc "j",.fe "fields" 31,.fe "none" 33,.fe "ways" 8] (q 280 11 69)) (.jD (.cons (.var 33 (q 280 73 77)) (.cons (.var 33 (q 280 79 83)) .nil)) (q 280 72 84)) (q 280 11 84)) (q 280 4 84))
noncomputable def t7:S:=(.ite (.qQ .Or (.cons (.cmp .NotEq (.call (.var 59 (q 281 7 28)) (.cons (.var 31 (q 281 29 35)) .nil) .bH default (q 281 7 36)) (.var 34 (q 281 40 44)) (q 281 7 44)) (.cons (.cmp .NotEq (.var 31 (q 281 48 54)) (.var 32 (q 281 58 63)) (q 281 48 63)) .nil)) (q 281 7 63)) (.cons (.ret (.cB false 0 (q 282 15 20)) (q 282 8 20)) .nil) .nil ⟨281,4,282,20⟩)
noncomputable def t8:S:=(.asg (.bM 35 (q 283 4 10)) (.call (.var 60 (q 283 13 31)) (.cons (.bin .Add (.var 5 (q 283 32 36)) (.var 11 (q 283 39 43)) (q 283 32 43)) .nil) .bH default (q 283 13 44)) (q 283 4 44))
noncomputable def t9:S:=(.ret (.cmp .Eq (.jD (.cons (.cmp .Is (.var 35 (q 284 12 18)) (.cB true 0 (q 284 22 26)) (q 284 12 26)) (.cons (.cmp .Is (.var 35 (q 284 28 34)) (.cB false 0 (q 284 38 43)) (q 284 28 43)) .nil)) (q 284 11 44)) (.jD (.cons (.cmp .Gt (.idx (.var 8 (q 284 49 53)) (.cI 4 0 (q 284 54 55)) (q 284 49 56)) (.cI 0 0 (q 284 59 60)) (q 284 49 60)) (.cons (.cmp .Eq (.idx (.var 8 (q 284 62 66)) (.cI 4 0 (q 284 67 68)) (q 284 62 69)) (.cI 0 0 (q 284 73 74)) (q 284 62 74)) .nil)) (q 284 48 75)) (q 284 11 75)) (q 284 4 75))
noncomputable def E8:E:=(.call (.var 49 (q 243 8 19)) (.cons (.var 18 (q 243 20 24)) (.cons (.tup (.cons (.cI 0 0 (q 243 27 28)) (.cons (.cI 4 0 (q 243 30 31)) .nil)) 0 (q 243 26 32)) (.cons (.bin .Sub (.un .USub (.cI 1 0 (q 243 35 36)) (q 243 34 36)) (.idx (.var 16 (q 243 39 44)) (.cI 3 0 (q 243 45 46)) (q 243 39 47)) (q 243 34 47)) .nil))) (.var 48 (q 243 53 63)) (q 243 49 63) (q 243 8 64))
noncomputable def E9:E:=(.call (.var 47 (q 249 8 20)) (.cons (.var 17 (q 249 21 28)) (.cons (.tup (.cons (.cI 0 0 (q 249 31 32)) (.cons (.cI 4 0 (q 249 34 35)) .nil)) 0 (q 249 30 36)) (.cons (.un .USub (.cI 1 0 (q 249 39 40)) (q 249 38 40)) (.cons (.cI 4 0 (q 249 42 43)) .nil)))) (.var 48 (q 249 49 59)) (q 249 45 59) (q 249 8 60))
noncomputable def E_:E:=(.call (.var 53 (q 270 8 18)) (.cons (.var 26 (q 270 19 23)) (.cons (.cI 0 0 (q 270 25 26)) .nil)) .bH default (q 270 8 27))
noncomputable def Fb:Ss:=Ss.ofList [yR,vG,vH,yS,yT,yU,vJ,yV,vK,qA,oM,oN,qU,l7,oO,Av,Aw,nH,tX,l8,tY,qV,tZ,Ax,oQ,qW,qX,t6,qY,t7,t8,t9]
noncomputable def KO:Fd:=⟨1,false,[],iC,Fb⟩
noncomputable abbrev jN:Nat:=10
noncomputable def F:Nat→Fd
 |0=>L8
 |1=>L_
 |2=>Mb
 |3=>Me
 |4=>Mg
 |5=>Mh
 |6=>Mi
 |7=>Mj
 |8=>Mk
 |9=>Ml
 |10=>Kq
 |11=>Ks
 |12=>Kv
 |13=>Kx
 |14=>Kz
 |15=>KA
 |16=>KD
 |17=>KI
 |18=>KN
 |_=>KO
noncomputable def N:Nat→Nf
 |0=>Kl
 |_=>Km
noncomputable def P:Pg:=⟨F,N,fun f args=>(HL f).bind fun g=>(jF args).bind fun x=>(ju x).bind fun l=>if g=jN then some (fX l)else none,fun g=> !([0,1,2,3,4,5,6,7,8,9,11,12,13,14,15,16,17,18,24].any (· == g))⟩
noncomputable def gq(i:Nat):NW:=([(q 131 4 7),(q 131 10 11),(q 131 4 11),(q 132 4 10),(q 132 13 18),(q 132 4 18),(q 133 8 11),(q 133 13 15),(q 133 8 15),(q 133 19 28),(q 133 29 33),(q 133 19 34),(q 134 11 17),(q 135 19 22),(q 135 24 28),(q 135 31 33),(q 135 24 33),(q 135 18 34),(q 135 12 34),(q 135 12 34),(q 136 12 18),(q 136 21 26),(q 136 12 26),(q 137 13 15),(q 137 19 23),(q 137 13 23),(q 138 12 18),(q 138 21 25),(q 138 12 25),(q 140 19 22),(q 140 24 26),(q 140 18 27),(q 140 12 27),(q 140 12 27),⟨137,8,140,27⟩,⟨134,8,140,27⟩,(q 141 7 13),(q 142 15 18),(q 142 20 24),(q 142 14 25),(q 142 8 25),(q 142 8 25),⟨133,4,140,27⟩]:List NW).getD i ⟨141,4,142,25⟩
end Rk.av
end

section
set_option genSizeOfSpec false
set_option genSizeOf false
set_option genInjectivity false
namespace Rk
open PySem PySem.W PySem.Calls PyProof.Rows
structure Tb where
 c:Na
 P:Na
 id:Nat
 pos:NW
 q:NT
structure Cx where
 prog:Rp
 w:Tr
 h₁:NX
 os:Vs
 P:Pg
 addr:Nat→Na
 tabs:List Tb
 mg:NT→Option MU
 mb:NT→Option MU
 bN:List Nat
noncomputable def Cx.ta(C:Cx):List Na:=C.tabs.map (·.P)
structure Wt where
 ay:List Na
 aB:List Na
 X:List Na
noncomputable def Wt.all(W:Wt):List Na:=W.ay++(W.aB++W.X)
noncomputable def fD(C:Cx)(W:Wt)(a:Na):Prop:=a∉W.all∧a∉C.ta
noncomputable def ee:BI→MU
 |.len=>.builtin "len"|.sum=>.builtin "sum"|.min=>.builtin "min"|.max=>.builtin "max"|.abs=>.builtin "abs"|.divmod=>.builtin "divmod"
 |.sorted=>.builtin "sorted"|.list=>.type "list"|.range=>.type "range"|.enumerate=>.type "enumerate"|.zip=>.type "zip"
 |.reversed=>.type "reversed"|.str=>.type "str"|.HK=>.type "ZeroDivisionError"|.ve=>.type "ValueError"
noncomputable def bQ(μ:List Na):Sc→List Nat→List (NT×Na)→List (NT×Na)
 |[],_,acc=>acc
 |.fe n _::r,ks,acc=>bQ μ r ks.tail ((n,μ.getD (ks.headD 0) 0)::acc)
 |_::r,ks,acc=>bQ μ r ks acc
theorem dh(μ:List Na)(k:List Nat)(acc:List (NT×Na)):bQ μ [] k acc=acc:=rfl
theorem cL(μ:List Na)(n:NT)(o:Nat)(r:Sc)(k:List Nat)(acc:List (NT×Na)):bQ μ (.fe n o::r) k acc=bQ μ r k.tail ((n,μ.getD (k.headD 0) 0)::acc):=rfl
theorem di(μ:List Na)(n:NT)(r:Sc)(k:List Nat)(acc:List (NT×Na)):bQ μ (.lc n::r) k acc=bQ μ r k acc:=rfl
theorem dj(μ:List Na)(n:NT)(r:Sc)(k:List Nat)(acc:List (NT×Na)):bQ μ (.ce n::r) k acc=bQ μ r k acc:=rfl
theorem dw(μ:List Na)(n:Nat)(r:Sc)(k:List Nat)(acc:List (NT×Na)):bQ μ (.gl n::r) k acc=bQ μ r k acc:=rfl
noncomputable def frees:Sc→Nat
 |[]=>0
 |.fe _ _::r=>frees r+1
 |_::r=>frees r
theorem sG:frees []=0:=rfl
theorem sH(n:NT)(o:Nat)(r:Sc):frees (.fe n o::r)=frees r+1:=rfl
inductive xJ (C:Cx) (W:Wt) (h:NX) (a:Na) (f:Nat) (γ:List Nat):Prop
 |mk (hl:γ.length=frees (C.P.N f).sc) (hk:∀k∈γ,k<W.aB.length) (o:Ug) (fd:OM) (c':Na) (ho:h.get? a=some o) (hd:o.data= .func fd) (hb:fd.body= .stmts (C.P.N f).code) (hs:fd.scope=Sc.scope (C.P.N f).sc)
  (hc:fd.closure=bQ W.aB (C.P.N f).sc γ []) (hg:fd.globals=mainGlobals) (hbu:fd.builtins=builtinsNs) (hp:fd.params=(C.P.N f).args) (hdf:fd.defaults= .none) (hkd:fd.kwdefaults= .none)
  (hcd:fd.code= .ref c') (hf:fD C W c') (hr:h.CodeRec (.ref c') fd.qualname)
inductive SeqAt (C:Cx) (W:Wt) (is:Na→Array MU→Prop) (R:List MU→Prop) (n:Nat) (c:MU):Prop
 |mk (a:Na) (cs:Array MU) (e:c= .ref a) (hf:fD C W a) (hi:is a cs) (hv:R cs.toList) (hl:n≤lid)
inductive Ay (P:MU→Prop) (R:List MU→Prop) (cs:List MU):Prop
 |mk (c:MU) (cr:List MU) (e:cs=c::cr) (h1:P c) (h2:R cr)
inductive H_ (l:List Nat) (c:MU):Prop
 |mk (t:Vt) (e:c= .str ⟨l.toArray⟩ t) (hl:l.length≤lid)
inductive FnAt (C:Cx) (W:Wt) (h:NX) (f:Nat) (γ:List Nat) (c:MU):Prop
 |mk (a:Na) (e:c= .ref a) (hf:fD C W a) (hc:xJ C W h a f γ)
inductive vL (C:Cx) (fd:OM):Prop
 |mk (c:Na) (oc:Ug) (vs:Array MU) (t:Vt) (hcd:fd.code= .ref c) (hct:c∉C.ta) (hoc:C.h₁.get? c=some oc) (hdc:oc.data= .fields vs) (hq:vs[1]? =some (.str fd.qualname t))
mutual
noncomputable def VR(C:Cx)(W:Wt)(h:NX):V→MU→Prop
 |.none,c=>c= .none
 |.bool b,c=>c= .bool b
 |.int i,c=>∃t,c= .int i t
 |.str l,c=>H_ l c
 |.tup l,c=>SeqAt C W h.IsTuple (aY C W h l) l.length c
 |.lst l,c=>SeqAt C W h.PlainList (aY C W h l) l.length c
 |.ref i,c=>∃a,W.ay[i]? =some a∧c= .ref a
 |.fn g,c=>c= .ref (C.addr g)
 |.jt f γ,c=>FnAt C W h f γ c
 |.bi b,c=>c=ee b
noncomputable def aY(C:Cx)(W:Wt)(h:NX):List V→List MU→Prop
 |[],cs=>cs=[]
 |v::r,cs=>Ay (VR C W h v) (aY C W h r) cs
end
noncomputable def J5(C:Cx)(W:Wt)(h:NX):Option V→Option MU→Prop
 |none,_=>True
 |some v,some c=>VR C W h v c
 |some _,none=>False
noncomputable def CM(C:Cx)(W:Wt)(h:NX)(T:Tb):Prop:=
 ∃ps,h.get? T.P=some (tabObj ps)∧TV ps.toList∧
  (codeAmong T.pos ps.toList=none∨ ∃c',codeAmong T.pos ps.toList=some (.ref c')∧fD C W c'∧h.CodeRec (.ref c') T.q)
structure Rel (C:Cx) (W:Wt) (st:ao) (h:NX):Prop where
 keep:∀a o,C.h₁.get? a=some o→a∉C.ta→h.get? a=some o
 tabs:∀T∈C.tabs,CM C W h T
 grown:∀T∈C.tabs,∃ps ps',C.h₁.get? T.P=some (tabObj ps)∧h.get? T.P=some (tabObj (ps++ps'))
 jC:W.ay.length=st.σ.length
 ng:W.aB.length=st.κ.length
 σ:∀(i:Nat) l a,st.σ[i]? =some l→W.ay[i]? =some a→ ∃cs,h.PlainList a cs∧aY C W h l cs.toList∧l.length≤lid∧bA l=true
 κ:∀(k:Nat) ov a,st.κ[k]? =some ov→W.aB[k]? =some a→ ∃oc,h.IsCell a oc∧J5 C W h ov oc
 nodup:W.all.Nodup
 lo:∀a∈W.all,C.h₁.get? a=none∧ ∃o,h.get? a=some o
structure au (C:Cx) (W:Wt) (st:ao) (s:MT):Prop where
 r:Rel C W st s.heap
 os:s.os=C.os
 bare:QH s.gens
structure Step (C:Cx) (U:List Na) (W:Wt) (s:MT) (W':Wt) (s':MT):Prop where
 mZ:∀a o,s.heap.get? a=some o→ ∃o',s'.heap.get? a=some o'
 keep:∀a o,s.heap.get? a=some o→a∉U→a∉C.ta→s'.heap.get? a=some o
 ay:∃new,W'.ay=W.ay++new∧ ∀a∈new,s.heap.get? a=none
 aB:W'.aB=W.aB
 X:W'.X=W.X
 gens:∀(g:Nat) gs,s.gens[g]? =some gs→s'.gens[g]? =some gs
theorem aC{h:NX}{a:Na}(ha:h.objs.size≤a):h.get? a=none:=by
 cases e:h.get? a with
 |none=>rfl
 |some o=>exact absurd (Od e) (Pn.mpr ha)
theorem fD.xK{C:Cx}{W W':Wt}{h:NX}{a:Na}{o:Ug}(hf:fD C W a)(ha:h.get? a=some o)(hn:∀b∈W'.all,b∈W.all∨h.get? b=none):fD C W' a:=by
 refine⟨fun hm=>?_,hf.2⟩
 rcases hn a hm with h|h
 ·exact hf.1 h
 ·rw[ha]at h;cases h
section
variable {C:Cx} {W W' W'':Wt} {h h':NX} {s s' s'':MT} {U U':List Na}
theorem gD{μ μ':List Na}(hp:∀k,k<μ.length→μ'.getD k 0=μ.getD k 0):∀(sc:Sc) (γ:List Nat) acc,(∀k∈γ,k<μ.length)→γ.length=frees sc→bQ μ' sc γ acc=bQ μ sc γ acc
 |[],_,_,_,_=>rfl
 |.fe n _::r,[],acc,_,hl=>by simp[sG,sH]at hl
 |.fe n _::r,k::ks,acc,hk,hl=>by
  simp only[dh,di,dj,cL,dw,Vn,List.tail_cons]
  rw[hp k (hk k (Nk ..))]
  exact gD hp r ks _ (fun j hj=>hk j (MY _ hj)) (by simp[sG,sH]at hl;omega)
 |.lc _::r,γ,acc,hk,hl=>gD hp r γ acc hk hl
 |.ce _::r,γ,acc,hk,hl=>gD hp r γ acc hk hl
 |.gl _::r,γ,acc,hk,hl=>gD hp r γ acc hk hl
theorem t_{μ μ' new:List Na}(e:μ'=μ++new){k:Nat}(hk:k<μ.length):μ'.getD k 0=μ.getD k 0:=by
 subst e;simp[Nj,N3 hk]
structure Ext (C:Cx) (W:Wt) (h:NX) (W':Wt) (h':NX):Prop where
 σ:∃new,W'.ay=W.ay++new
 κ:∃new,W'.aB=W.aB++new
 f:∀a o,fD C W a→h.get? a=some o→fD C W' a∧h'.get? a=some o
theorem xJ.ext(x:Ext C W h W' h'){a:Na}{f:Nat}{γ:List Nat}(ha:fD C W a)(r:xJ C W h a f γ):xJ C W' h' a f γ:=by
 refine bc fun hN0=>?_
 obtain⟨hl,hk,o,fd,c',ho,hd,hb,hs,hc,hg,hbu,hp,hdf,hkd,hcd,hf,hr⟩:=r
 obtain⟨nk,ek⟩:=x.κ
 obtain⟨c2,oc,vs,t,e,g,dd,q⟩:=hr
 cases e
 refine hN0 ?_
 refine⟨hl,fun k hk'=>by rw[ek,Ng];exact Nm (hk k hk') (N_ _ _),o,fd,_,(x.f a o ha ho).2,hd,hb,hs,?_,hg,hbu,hp,hdf,hkd,hcd,(x.f _ _ hf g).1,⟨_,oc,vs,t,rfl,(x.f _ _ hf g).2,dd,q⟩⟩
 rw[hc,gD (fun k hk'=>t_ ek hk') _ _ _ hk hl]
mutual
theorem VR.ext(x:Ext C W h W' h'):∀{v:V} {c:MU},VR C W h v c→VR C W' h' v c
 |.none,_,r=>r
 |.bool _,_,r=>r
 |.int _,_,r=>r
 |.str _,_,r=>r
 |.tup l,c,r=>by
  obtain⟨a,cs,rfl,hf,⟨o,ho,ht,n,hd⟩,hv,hl⟩:=r
  exact⟨a,cs,rfl,(x.f a o hf ho).1,⟨o,(x.f a o hf ho).2,ht,n,hd⟩,aY.ext x hv,hl⟩
 |.lst l,c,r=>by
  obtain⟨a,cs,rfl,hf,⟨n,ho⟩,hv,hl⟩:=r
  exact⟨a,cs,rfl,(x.f a _ hf ho).1,⟨n,(x.f a _ hf ho).2⟩,aY.ext x hv,hl⟩
 |.ref i,c,r=>by
  obtain⟨a,ha,rfl⟩:=r
  obtain⟨new,e⟩:=x.σ
  refine⟨a,?_,rfl⟩
  rw[e,N3 (MW.mp ha).1];exact ha
 |.fn _,_,r=>r
 |.jt f γ,c,r=>by
  obtain⟨a,rfl,hf,hc⟩:=r
  obtain⟨hl,hk,o,fd,c',ho,rest⟩:=id hc
  exact⟨a,rfl,(x.f a o hf ho).1,hc.ext x hf⟩
 |.bi _,_,r=>r
theorem aY.ext(x:Ext C W h W' h'):∀{l:List V} {cs:List MU},aY C W h l cs→aY C W' h' l cs
 |[],_,r=>r
 |v::l,cs,r=>by
  obtain⟨c,cr,rfl,h1,h2⟩:=r
  exact⟨c,cr,rfl,VR.ext x h1,aY.ext x h2⟩
end
theorem J5.ext(x:Ext C W h W' h'){v:Option V}{c:Option MU}(r:J5 C W h v c):J5 C W' h' v c:=by
 cases v with
 |none=>trivial
 |some v=>cases c with
  |none=>exact r.elim
  |some c=>exact VR.ext x r
theorem Step.ext(S:Step C U W s W' s')(hU:∀a∈U,a∈W.all):Ext C W s.heap W' s'.heap where
 σ:=let ⟨new,e,_⟩:=S.ay;⟨new,e⟩
 κ:=⟨[],by rw[S.aB,Nc]⟩
 f a o hf ho:=by
  obtain⟨new,e,hn⟩:=S.ay
  refine⟨hf.xK ho fun b hb=>?_,S.keep a o ho (fun q=>hf.1 (hU a q)) hf.2⟩
  simp only[Wt.all,e,S.aB,S.X,MX]at hb ⊢
  rcases hb with(hb|hb)|hb
  ·exact .inl (.inl hb)
  ·exact .inr (hn b hb)
  ·exact .inl (.inr hb)
theorem Step.refl:Step C U W s W s:=⟨fun _ o e=>⟨o,e⟩,fun _ _ e _ _=>e,⟨[],by simp,by simp⟩,rfl,rfl,fun _ _ e=>e⟩
theorem Step.trans(S:Step C U W s W' s')(S':Step C U' W' s' W'' s'')(hU:∀a∈U',a∈U∨s.heap.get? a=none):Step C U W s W'' s'' where
 mZ a o e:=let ⟨o',e'⟩:=S.mZ a o e;S'.mZ a o' e'
 keep a o e hu ht:=S'.keep a o (S.keep a o e hu ht) (fun q=>by
  rcases hU a q with q|q
  ·exact hu q
  ·rw[e]at q;cases q) ht
 ay:=by
  obtain⟨n1,e1,h1⟩:=S.ay
  obtain⟨n2,e2,h2⟩:=S'.ay
  refine⟨n1++n2,by rw[e2,e1,M_],fun a ha=>?_⟩
  rcases MX.mp ha with ha|ha
  ·exact h1 a ha
  ·have hn:=h2 a ha
   cases e:s.heap.get? a with
   |none=>rfl
   |some o=>
    obtain⟨o',e'⟩:=S.mZ a o e
    rw[hn]at e';cases e'
 aB:=S'.aB.trans S.aB
 X:=S'.X.trans S.X
 gens g gs e:=S'.gens g gs (S.gens g gs e)
theorem Step.mono(S:Step C U W s W' s')(hU:∀a∈U,a∈U'):Step C U' W s W' s':=
 ⟨S.mZ,fun a o e hu ht=>S.keep a o e (fun q=>hu (hU a q)) ht,S.ay,S.aB,S.X,S.gens⟩
end
end Rk
end

section
namespace Rk
open PySem PySem.W PySem.Calls PyProof.Rows
structure PS (s s':MT):Prop where
 keep:∀a o,s.heap.get? a=some o→s'.heap.get? a=some o
 gens:s'.gens=s.gens
 os:s'.os=s.os
theorem PS.refl(s:MT):PS s s:=⟨fun _ _ e=>e,rfl,rfl⟩
theorem PS.tok(s:MT)(t:Nat):PS s { s with toks:=t }:=⟨fun _ _ e=>e,rfl,rfl⟩
theorem PS.push(s:MT)(o:Ug)(t:Nat):PS s { s with heap:=s.heap.push o,toks:=t }:=
 ⟨fun _ _ e=>Ni _ e,rfl,rfl⟩
theorem PS.heap{s:MT}{h':NX}(t:Nat)(hk:∀a o,s.heap.get? a=some o→h'.get? a=some o):PS s { s with heap:=h',toks:=t }:=
 ⟨hk,rfl,rfl⟩
theorem PS.trans{s s' s'':MT}(x:PS s s')(y:PS s' s''):PS s s'':=
 ⟨fun a o e=>y.keep a o (x.keep a o e),y.gens.trans x.gens,y.os.trans x.os⟩
section
variable {C:Cx} {W W' W'':Wt} {st st':ao} {h h':NX} {s s' s'':MT} {U U':List Na}
theorem PS.step(x:PS s s'):Step C U W s W s':=⟨fun a o e=>⟨o,x.keep a o e⟩,fun a o e _ _=>x.keep a o e,⟨[],by simp,by simp⟩,rfl,rfl,fun _ _ e=>by rw[x.gens];exact e⟩
theorem PS.ext(x:PS s s'):Ext C W s.heap W s'.heap:=⟨⟨[],by simp⟩,⟨[],by simp⟩,fun a o f e=>⟨f,x.keep a o e⟩⟩
theorem CM.ext(x:Ext C W h W' h'){T:Tb}(hP:∀o,h.get? T.P=some o→h'.get? T.P=some o)(r:CM C W h T):CM C W' h' T:=by
 obtain⟨ps,h1,h2,h3⟩:=r
 refine⟨ps,hP _ h1,h2,h3.imp id ?_⟩
 rintro⟨c',e,f,c2,oc,vs,t,e2,g,dd,q⟩
 cases e2
 exact⟨_,e,(x.f _ _ f g).1,_,oc,vs,t,rfl,(x.f _ _ f g).2,dd,q⟩
theorem au.ps(R:au C W st s)(x:PS s s'):au C W st s' where
 r:={
  keep:=fun a o e t=>x.keep a o (R.r.keep a o e t)
  tabs:=fun T hT=>(R.r.tabs T hT).ext x.ext (fun o e=>x.keep _ o e)
  grown:=fun T hT=>let ⟨ps,ps',e1,e2⟩:=R.r.grown T hT;⟨ps,ps',e1,x.keep _ _ e2⟩
  jC:=R.r.jC
  ng:=R.r.ng
  σ:=fun i l a e1 e2=>by
   obtain⟨cs,⟨n,ho⟩,h2,h3⟩:=R.r.σ i l a e1 e2
   exact⟨cs,⟨n,x.keep _ _ ho⟩,aY.ext x.ext h2,h3⟩
  κ:=fun k ov a e1 e2=>by
   obtain⟨oc,⟨o,ho,hd⟩,h2⟩:=R.r.κ k ov a e1 e2
   exact⟨oc,⟨o,x.keep _ _ ho,hd⟩,h2.ext x.ext⟩
  nodup:=R.r.nodup
  lo:=fun a ha=>⟨(R.r.lo a ha).1,let ⟨o,e⟩:=(R.r.lo a ha).2;⟨o,x.keep a o e⟩⟩ }
 os:=x.os.trans R.os
 bare:=by rw[x.gens];exact R.bare
theorem Rel.nh(R:Rel C W st h){a:Na}(ha:a∈C.ta):∃o,h.get? a=some o:=by
 obtain⟨T,hT,rfl⟩:=NY.mp ha
 obtain⟨ps,e,_⟩:=R.tabs T hT
 exact⟨_,e⟩
theorem Rel.fresh(R:Rel C W st h){a:Na}(ha:h.get? a=none):fD C W a:=
 ⟨fun hm=>(by obtain⟨o,e⟩:=(R.lo a hm).2;rw[ha]at e;cases e),fun hm=>(by obtain⟨o,e⟩:=R.nh hm;rw[ha]at e;cases e)⟩
noncomputable def Post(C:Cx)(U:List Na)(W:Wt)(s:MT)(st':ao)(v:V)(Q:MU→MT→Prop):Prop:=
 ∀c s' W',Step C U W s W' s'→au C W' st' s'→VR C W' s'.heap v c→Q c s'
theorem Post.ps{Q:MU→MT→Prop}{v:V}{c:MU}(h:Post C U W s st v Q)(R:au C W st s)(x:PS s s')(r:VR C W s'.heap v c):Q c s':=h c s' W x.step (R.ps x) r
theorem VR.vM{l:List V}{cs:Array MU}{t:Nat}{o:Ug}(R:au C W st s)(hc:o.cls= .type "tuple")(hd:∃n,o.data= .seq cs n)(r:aY C W s.heap l cs.toList)(hl:l.length≤lid):
  VR C W ({ s with heap:=s.heap.push o,toks:=t }:MT).heap (.tup l) (.ref s.heap.objs.size):=by
 obtain⟨n,hd⟩:=hd
 refine⟨_,cs,rfl,R.r.fresh (aC (M9 _)),⟨_,Nl _ (by obtain⟨c,d,dt,sl⟩:=o;subst hd;rfl),hc,n,hd⟩,aY.ext (PS.push s o t).ext r,hl⟩
theorem VR.vN{l:List V}{cs:Array MU}{t n:Nat}(R:au C W st s)(r:aY C W s.heap l cs.toList)(hl:l.length≤lid):
  VR C W ({ s with heap:=s.heap.push { cls:=.type "list",data:=.seq cs n },toks:=t }:MT).heap (.lst l) (.ref s.heap.objs.size):=
 ⟨_,cs,rfl,R.r.fresh (aC (M9 _)),⟨n,Nl _ rfl⟩,aY.ext (PS.push s _ t).ext r,hl⟩
theorem aY.append:∀{l l':List V} {cs cs':List MU},aY C W h l cs→aY C W h l' cs'→aY C W h (l++l') (cs++cs')
 |[],_,_,_,r,r'=>by subst r;exact r'
 |v::l,l',cs,cs',r,r'=>by
  obtain⟨c,cr,rfl,h1,h2⟩:=r
  exact⟨c,cr++cs',rfl,h1,aY.append h2 r'⟩
theorem aY.length:∀{l:List V} {cs:List MU},aY C W h l cs→cs.length=l.length
 |[],_,r=>by subst r;rfl
 |v::l,cs,r=>by
  obtain⟨c,cr,rfl,h1,h2⟩:=r
  exact congrArg (· +1) (aY.length h2)
theorem aY.of:∀{l:List V} {cs:List MU} {i:Nat} {c:MU},aY C W h l cs→cs[i]? =some c→ ∃v,l[i]? =some v∧VR C W h v c
 |[],_,i,c,r,e=>by subst r;exact nomatch e
 |x::l,cs,0,c,r,e=>by
  obtain⟨c',cr,rfl,h1,h2⟩:=r
  exact⟨x,rfl,M0 e▸h1⟩
 |x::l,cs,i+1,v,r,e=>by
  obtain⟨c',cr,rfl,h1,h2⟩:=r
  exact aY.of (i:=i) h2 e
theorem aY.get:∀{l:List V} {cs:List MU} {i:Nat} {v:V},aY C W h l cs→l[i]? =some v→ ∃c,cs[i]? =some c∧VR C W h v c
 |[],_,i,v,_,e=>nomatch e
 |x::l,cs,0,v,r,e=>by
  obtain⟨c,cr,rfl,h1,h2⟩:=r
  exact⟨c,rfl,M0 e▸h1⟩
 |x::l,cs,i+1,v,r,e=>by
  obtain⟨c,cr,rfl,h1,h2⟩:=r
  exact aY.get (i:=i) h2 e
theorem aY.take:∀{l:List V} {cs:List MU} (n:Nat),aY C W h l cs→aY C W h (l.take n) (cs.take n)
 |[],_,n,r=>by subst r;rw[VK,VK];rfl
 |v::l,cs,0,r=>rfl
 |v::l,cs,n+1,r=>by
  obtain⟨c,cr,rfl,h1,h2⟩:=r
  exact⟨c,cr.take n,rfl,h1,aY.take n h2⟩
theorem aY.drop:∀{l:List V} {cs:List MU} (n:Nat),aY C W h l cs→aY C W h (l.drop n) (cs.drop n)
 |[],_,n,r=>by subst r;rw[Uh,Uh];rfl
 |v::l,cs,0,r=>r
 |v::l,cs,n+1,r=>by
  obtain⟨c,cr,rfl,h1,h2⟩:=r
  exact aY.drop n h2
theorem aY.reverse:∀{l:List V} {cs:List MU},aY C W h l cs→aY C W h l.reverse cs.reverse
 |[],_,r=>by subst r;rfl
 |v::l,cs,r=>by
  obtain⟨c,cr,rfl,h1,h2⟩:=r
  rw[QI,QI]
  exact aY.append (aY.reverse h2) ⟨c,[],rfl,h1,rfl⟩
theorem aY.replicate{v:V}{c:MU}(r:VR C W h v c):∀n,aY C W h (M2 n v) (M2 n c)
 |0=>rfl
 |n+1=>⟨c,_,rfl,r,aY.replicate r n⟩
theorem aY.set:∀{l:List V} {cs:List MU} (i:Nat) {v:V} {c:MU},aY C W h l cs→VR C W h v c→aY C W h (l.set i v) (cs.set i c)
 |[],_,_,_,_,r,_=>by subst r;rfl
 |x::l,cs,0,v,c,r,r'=>by
  obtain⟨c',cr,rfl,h1,h2⟩:=r
  exact⟨c,cr,rfl,r',h2⟩
 |x::l,cs,i+1,v,c,r,r'=>by
  obtain⟨c',cr,rfl,h1,h2⟩:=r
  exact⟨c',_,rfl,h1,aY.set i h2 r'⟩
theorem aY.one{v:V}{c:MU}(r:VR C W h v c):aY C W h [v] [c]:=⟨c,[],rfl,r,rfl⟩
inductive LstAt (C:Cx) (W:Wt) (h:NX) (l:List V) (c:MU):Prop
 |mk (a:Na) (cs:Array MU) (e:c= .ref a) (hL:h.PlainList a cs) (hv:aY C W h l cs.toList) (hl:l.length≤lid)
noncomputable def DR(C:Cx)(W:Wt)(h:NX):V→MU→Prop
 |.lst l,c=>LstAt C W h l c
 |v,c=>VR C W h v c
@[elab_as_elim] theorem DR.iD {M:MU→Prop} {x:V} {a:Int} {c:MU} (r:DR C W h x c) (e:x= .int a) (k:∀t,M (.int a t)):M c:=by
 subst e;obtain⟨t,rfl⟩:=r;exact k t
@[elab_as_elim] theorem VR.iD {M:MU→Prop} {x:V} {a:Int} {c:MU} (r:VR C W h x c) (e:x= .int a) (k:∀t,M (.int a t)):M c:=by
 subst e;obtain⟨t,rfl⟩:=r;exact k t
@[elab_as_elim] theorem VR.kU {M:MU→Prop} {x:V} {l:List Nat} {c:MU} (r:VR C W h x c) (e:x= .str l) (k:∀t,l.length≤lid→M (.str ⟨l.toArray⟩ t)):M c:=by
 subst e;obtain⟨t,rfl,hl⟩:=r;exact k t hl
@[elab_as_elim] theorem VR.KP {M:MU→Prop} {x:V} {i:Nat} {c:MU} (r:VR C W h x c) (e:x= .ref i) (k:∀a,W.ay[i]? =some a→M (.ref a)):M c:=by
 subst e;obtain⟨a,ha,rfl⟩:=r;exact k a ha
@[elab_as_elim] theorem DR.kU {M:MU→Prop} {x:V} {l:List Nat} {c:MU} (r:DR C W h x c) (e:x= .str l) (k:∀t,l.length≤lid→M (.str ⟨l.toArray⟩ t)):M c:=by
 subst e;obtain⟨t,rfl,hl⟩:=r;exact k t hl
@[elab_as_elim] theorem DR.ua {M:MU→Prop} {x:V} {l:List V} {c:MU} (r:DR C W h x c) (e:x= .lst l)
  (k:∀a cs n,h.get? a=some { cls:=.type "list",data:=.seq cs n }→cs.size=l.length→aY C W h l cs.toList→l.length≤lid→M (.ref a)):M c:=by
 subst e;obtain⟨a,cs,rfl,⟨n,ho⟩,hv,hl⟩:=r;exact k a cs n ho (by rw[←hv.length,Oe]) hv hl
@[elab_as_elim] theorem DR.Ib {M:MU→Prop} {x:V} {l:List V} {c:MU} (r:DR C W h x c) (e:x= .tup l)
  (k:∀a cs d sl n,h.get? a=some ⟨.type "tuple",d,.seq cs n,sl⟩→cs.size=l.length→aY C W h l cs.toList→l.length≤lid→M (.ref a)):M c:=by
 subst e;obtain⟨a,cs,rfl,_,⟨⟨cls,d,data,sl⟩,ho,hc,n,hd⟩,hv,hl⟩:=r
 have hc:cls=_:=hc
 have hd:data=_:=hd
 subst hc hd
 exact k a cs d sl n ho (by rw[←hv.length,Oe]) hv hl
@[elab_as_elim] theorem DR.Ic {M:MU→Prop} {l:List V} {c:MU} (r:DR C W h (.tup l) c)
  (k:∀a cs d sl n,h.get? a=some ⟨.type "tuple",d,.seq cs n,sl⟩→cs.size=l.length→aY C W h l cs.toList→VR C W h (.tup l) (.ref a)→M (.ref a)):M c:=
 r.Ib rfl (M:=fun c=>VR C W h (.tup l) c→M c) (fun a cs d sl n ho z v _ r=>k a cs d sl n ho z v r) r
@[elab_as_elim] theorem DR.dI {M:MU→MU→Prop} {β:Type} {f:Int→Int→Option β} {x y:V} {p:β} {cx cy:MU} (e:ints2 f x y=some p) (rx:DR C W h x cx) (ry:DR C W h y cy) (k:∀a b t u,f a b=some p→M (.int a t) (.int b u)):M cx cy:=by
 obtain⟨a,b,h1,h2,e⟩:=m7 e
 exact rx.iD h1 fun t=>ry.iD h2 fun u=>k a b t u e
@[elab_as_elim] theorem VR.dI {M:MU→MU→Prop} {β:Type} {f:Int→Int→Option β} {x y:V} {p:β} {cx cy:MU} (e:ints2 f x y=some p) (rx:VR C W h x cx) (ry:VR C W h y cy) (k:∀a b t u,f a b=some p→M (.int a t) (.int b u)):M cx cy:=by
 obtain⟨a,b,h1,h2,e⟩:=m7 e
 exact rx.iD h1 fun t=>ry.iD h2 fun u=>k a b t u e
theorem Post.of{st1:ao}{a v:V}{Q:MU→MT→Prop}(h:Post C U W s st' v Q)(e:some (a,st1)=some (v,st')):Post C U W s st1 a Q:=by
 have e:=M0 e
 rw[show a=v from congrArg UB e,show st1=st' from congrArg Prod.snd e];exact h
theorem Post.Cz{a v:V}{Q:MU→MT→Prop}(h:Post C U W s st v Q)(e:some a=some v):Post C U W s st a Q:=M0 e▸h
theorem Post.xM{p:Prop}[Decidable p]{st1:ao}{a v:V}{Q:MU→MT→Prop}(h:Post C U W s st' v Q)(e:(if p then some (a,st1)else none)=some (v,st')):p∧Post C U W s st1 a Q:=by
 by_cases hp:p
 ·rw[if_pos hp]at e;exact⟨hp,h.of e⟩
 ·rw[if_neg hp]at e;exact ns e
theorem Post.LO{p:Prop}[Decidable p]{st1:ao}{a v:V}{Q:MU→MT→Prop}(h:Post C U W s st' v Q)(e:(if p then none else some (a,st1))=some (v,st')):¬p∧Post C U W s st1 a Q:=by
 by_cases hp:p
 ·rw[if_pos hp]at e;exact ns e
 ·rw[if_neg hp]at e;exact⟨hp,h.of e⟩
theorem VR.dr(R:Rel C W st h):∀{v:V} {c:MU},VR C W h v c→DR C W h (aJ st v) c
 |.none,_,r=>r
 |.bool _,_,r=>r
 |.int _,_,r=>r
 |.str _,_,r=>r
 |.tup l,c,r=>r
 |.lst l,c,r=>by
  obtain⟨a,cs,rfl,_,h1,h2,h3⟩:=r
  exact⟨a,cs,rfl,h1,h2,h3⟩
 |.ref i,c,r=>by
  obtain⟨a,ha,rfl⟩:=r
  simp only[cP]
  cases e:st.σ[i]? with
  |none=>
   exact⟨a,ha,rfl⟩
  |some l=>
   obtain⟨cs,h1,h2,h3,_⟩:=R.σ i l a e ha
   exact⟨a,cs,rfl,h1,h2,h3⟩
 |.fn _,_,r=>r
 |.jt f γ,c,r=>r
 |.bi _,_,r=>r
theorem au.vO{l:List V}{cs:Array MU}{t n:Nat}{o:Ug}(R:au C W st s)(ho':o={ cls:=.type "list",data:=.seq cs n })(r:aY C W s.heap l cs.toList)(hl:l.length≤lid)(hdat:bA l=true):
  Step C U W s { W with ay:=W.ay++[s.heap.objs.size] } { s with heap:=s.heap.push o,toks:=t }∧au C { W with ay:=W.ay++[s.heap.objs.size] } { st with σ:=st.σ++[l] } { s with heap:=s.heap.push o,toks:=t }∧
   VR C { W with ay:=W.ay++[s.heap.objs.size] } ({ s with heap:=s.heap.push o,toks:=t }:MT).heap (.ref st.σ.length) (.ref s.heap.objs.size):=by
 have P:=PS.push s o t
 have S:Step C U W s { W with ay:=W.ay++[s.heap.objs.size] } { s with heap:=s.heap.push o,toks:=t }:=
  ⟨fun a o e=>⟨o,P.keep a o e⟩,fun a o e _ _=>P.keep a o e,⟨[s.heap.objs.size],rfl,fun a ha=>by simp at ha;exact aC (QJ ha.symm)⟩,rfl,rfl,fun _ _ e=>e⟩
 have S0:Step C [] W s { W with ay:=W.ay++[s.heap.objs.size] } { s with heap:=s.heap.push o,toks:=t }:=
  ⟨fun a o e=>⟨o,P.keep a o e⟩,fun a o e _ _=>P.keep a o e,⟨[s.heap.objs.size],rfl,fun a ha=>by simp at ha;exact aC (QJ ha.symm)⟩,rfl,rfl,fun _ _ e=>e⟩
 have X:=S0.ext (fun a ha=>by cases ha)
 have hfr:o.isFreed=false:=by rw[ho'];rfl
 have hnew:(s.heap.push o).get? s.heap.objs.size=some o:=Nl _ hfr
 have R':=R.ps P
 refine⟨S,⟨⟨R'.r.keep,fun T hT=>(R.r.tabs T hT).ext X (fun o e=>P.keep _ o e),R'.r.grown,?_,R.r.ng,?_,?_,?_,?_⟩,R.os,R.bare⟩,⟨_,by simp[←R.r.jC],rfl⟩⟩
 ·simp[R.r.jC]
 ·intro i l' a e1 e2
  by_cases hi:i<st.σ.length
  ·rw[N3 hi]at e1
   rw[N3 (by rw[R.r.jC];exact hi)]at e2
   refine bc fun hN0=>?_
   obtain⟨cs,⟨n,ho⟩,h2,h3⟩:=R.r.σ i l' a e1 e2
   refine hN0 ?_
   exact⟨cs,⟨n,P.keep _ _ ho⟩,aY.ext X h2,h3⟩
  ·rw[NJ (Pn.mp hi)]at e1
   rw[NJ (by rw[R.r.jC];exact Pn.mp hi)]at e2
   have h0:i-st.σ.length=0:=by
    have:=(MW.mp e1).1
    simp at this;exact this
   rw[h0]at e1
   rw[R.r.jC,h0]at e2
   simp at e1 e2
   subst e1;subst e2
   exact⟨cs,⟨n,ho'▸hnew⟩,aY.ext X r,hl,hdat⟩
 ·intro k ov a e1 e2
  refine bc fun hN1=>?_
  obtain⟨oc,⟨o',ho,hd⟩,h2⟩:=R.r.κ k ov a e1 e2
  refine hN1 ?_
  exact⟨oc,⟨o',P.keep _ _ ho,hd⟩,h2.ext X⟩
 ·have hn:=R.r.nodup
  simp only[Wt.all,M_]at hn ⊢
  rw[M6]at hn ⊢
  refine⟨hn.1,?_,?_⟩
  ·rw[Ot,NK]
   exact⟨fun hm=>(by obtain⟨o,e⟩:=(R.r.lo _ (by simp only[Wt.all];exact MZ _ hm)).2;rw[aC (M9 _)]at e;cases e),hn.2.1⟩
  ·intro a ha b hb
   rw[Ot,M5]at hb
   rcases hb with rfl|hb
   ·exact fun e=>by obtain⟨o,e2⟩:=(R.r.lo a (by simp only[Wt.all];exact M7 _ ha)).2;rw[e,aC (M9 _)]at e2;cases e2
   ·exact hn.2.2 a ha b hb
 ·intro a ha
  simp only[Wt.all,M_,MX,M4]at ha
  rcases ha with ha|rfl|ha
  ·have:=R'.r.lo a (by simp only[Wt.all,MX];exact .inl ha);exact this
  ·refine⟨?_,o,hnew⟩
   cases e:C.h₁.get? s.heap.objs.size with
   |none=>rfl
   |some o1=>
    by_cases ht:s.heap.objs.size∈C.ta
    ·obtain⟨o2,e2⟩:=R.r.nh ht;rw[aC (M9 _)]at e2;cases e2
    ·have e2:=R.r.keep _ _ e ht;rw[aC (M9 _)]at e2;cases e2
  ·have:=R'.r.lo a (by simp only[Wt.all,MX];exact .inr ha);exact this
theorem bj{a:Na}(h:a∈W.ay):a∈W.all:=by simp only[Wt.all,MX];exact .inl h
theorem cg{a:Na}(h:a∈W.aB):a∈W.all:=by simp only[Wt.all,MX];exact .inr (.inl h)
theorem aF{a:Na}(h:a∈W.X):a∈W.all:=by simp only[Wt.all,MX];exact .inr (.inr h)
theorem kY{l:List Na}(hn:l.Nodup){i j:Nat}{a:Na}(hi:l[i]? =some a)(hj:l[j]? =some a):i=j:=by
 have h1:=MW.mp hi
 have h2:=MW.mp hj
 exact(Qm hn).mp (h1.2.trans h2.2.symm)
theorem au.sI{i:Nat}{l':List V}{a:Na}{cs':Array MU}{t:Nat}{h':NX}(R:au C W st s)(ha:W.ay[i]? =some a)(hs:Pf a s.heap h')(hL:h'.PlainList a cs')
  (r:aY C W s.heap l' cs'.toList) (hl:l'.length≤lid) (hdat:bA l'=true):
  Step C W.ay W s W { s with heap:=h',toks:=t }∧au C W { st with σ:=st.σ.set i l' } { s with heap:=h',toks:=t }:=by
 have hmem:a∈W.ay:=Nh ha
 have S:Step C W.ay W s W { s with heap:=h',toks:=t }:=
  ⟨fun b o e=>if hb:b=a then (let ⟨n',ho'⟩:=hL;⟨_,hb▸ho'⟩)else⟨o,(hs.2 b hb).trans e⟩,fun b o e hu _=>(hs.2 b (fun q=>hu (q▸hmem))).trans e,⟨[],by simp,by simp⟩,rfl,rfl,fun _ _ e=>e⟩
 have X:=S.ext (fun a ha=>bj ha)
 have hne:∀b o,C.h₁.get? b=some o→b≠a:=fun b o hb e=>by have:=(R.r.lo a (bj hmem)).1;rw[←e,hb]at this;cases this
 have hnt:∀b∈C.ta,b≠a:=fun b hb e=>by
  clear ha hs hL hl hdat hmem X
  obtain⟨T,hT,rfl⟩:=NY.mp hb
  obtain⟨ps,ps',e1,e2⟩:=R.r.grown T hT
  exact hne _ _ e1 e
 have hnd:=R.r.nodup
 simp only[Wt.all]at hnd
 rw[M6]at hnd
 refine⟨S,⟨⟨fun b o e t=>(hs.2 b (hne b o e)).trans (R.r.keep b o e t),fun T hT=>(R.r.tabs T hT).ext X (fun o e=>(hs.2 _ (hnt _ (Nt hT))).trans e),
  fun T hT=>let ⟨ps,ps',e1,e2⟩:=R.r.grown T hT;⟨ps,ps',e1,(hs.2 _ (hnt _ (Nt hT))).trans e2⟩,by simp[R.r.jC],R.r.ng,?_,?_,R.r.nodup,fun b hb=>⟨(R.r.lo b hb).1,let ⟨o,e⟩:=(R.r.lo b hb).2;S.mZ b o e⟩⟩,R.os,R.bare⟩⟩
 ·intro j l b e1 e2
  by_cases hj:j=i
  ·clear hs hmem hne hnd
   subst hj
   rw[ha]at e2;cases e2
   have:l=l':=by
    rw[Nv (by rw[←R.r.jC];exact(MW.mp ha).1)]at e1
    exact(M0 e1).symm
   clear ha e1
   subst this
   exact⟨cs',hL,aY.ext X r,hl,hdat⟩
  ·rw[Ou (fun e=>hj e.symm)]at e1
   obtain⟨cs,⟨n,ho⟩,h2,h3⟩:=R.r.σ j l b e1 e2
   have hb:b≠a:=fun e=>hj (kY hnd.1 e2 (e▸ha))
   exact⟨cs,⟨n,(hs.2 b hb).trans ho⟩,aY.ext X h2,h3⟩
 ·intro k ov b e1 e2
  obtain⟨oc,⟨o',ho,hd⟩,h2⟩:=R.r.κ k ov b e1 e2
  have hb:b≠a:=fun e=>hnd.2.2 a hmem b (M7 _ (Nh e2)) e.symm
  exact⟨oc,⟨o',(hs.2 b hb).trans ho,hd⟩,h2.ext X⟩
end
end Rk
end

section
namespace Rk
open PySem PySem.W PySem.Calls PyProof.Rows
structure bL (n:Nat) (A:NF):Prop where
 depth:A.depth+n+5<recursionLimit
 units:A.units+4*n+200<cLine
 handled:A.handled=none
section
variable {C:Cx} {W W' W'':Wt} {st st':ao} {h h':NX} {s s' s'':MT} {U:List Na} {A:NF} {E:MU→MT→Prop} {Q:MU→MT→Prop}
theorem i7:lid≤sizeLine:=by decide
theorem i_{i:Int}(h:gC i=true):M1 i≤200000:=by
 have h:=of_decide_eq_true h
 unfold M1
 split
 ·lia
 ·rename_i h0
  have hn:i.natAbs≠0:=by intro e;apply h0;simpa using Uo.mp e
  have:=(Tt hn).mpr h
  lia
theorem log2_small{n:Nat}(h:¬2^60≤n):n.log2<9000:=by
 by_cases h0:n=0
 ·rw[h0];decide
 ·exact Nm ((Tt h0).mpr (Vu.mp h)) (by decide)
theorem ud(l:List Nat):∀n,(M2 n l).flatten.length=n*l.length
 |0=>by simp
 |n+1=>by rw[Oq,Qc,Ng,ud l n,Nat.succ_mul,N6]
theorem oR(l:List Nat):∀(k:Nat) (acc:Array Nat),(M2 k l.toArray).foldl (· ++ ·) acc=(acc.toList++(M2 k l).flatten).toArray
 |0,acc=>by simp
 |k+1,acc=>by
  rw[Oq,S9,oR l k,Oq,Qc]
  simp[M_]
theorem CN{l:List Nat}{n:Int}(h0:0≤n):Txt.mul ⟨l.toArray⟩ n=⟨((M2 n.toNat l).flatten).toArray⟩:=by
 unfold Txt.mul
 split
 ·have:n.toNat=0:=by lia
  rw[this];rfl
 ·split
  ·rename_i h1 h2
   rw[Vo]at h2
   rcases h2 with h2|h2
   ·have:n=1:=by simpa using h2
    subst this;simp
   ·have:l=[]:=by simpa[Qn]using h2
    subst this
    have e:∀k,(M2 k ([]:List Nat)).flatten=[]:=fun k=>by induction k with
     |zero=>rfl
     |succ k ih=>rw[Oq,Qc,ih];rfl
    rw[e]
  ·rw[oR];rfl
theorem jw{v:V}(h:v.data=true):∀n,bA (M2 n v)=true
 |0=>rfl
 |n+1=>by rw[Oq];show(v.data&&bA (M2 n v))=true;rw[h,jw h n];rfl
theorem yW{x y:V}{v:V}{cx cy:MU}(R:au C W st s)(e:HO st x y=some (v,st'))(rx:DR C W s.heap x cx)(ry:DR C W s.heap y cy)
  (h:Post C W.ay W s st' v Q):wpAny (model C.prog C.w) A (binaryOp .Add cx cy) Q E s:=by
 have:=i7
 cases x with
 |int a=>
  obtain⟨b,hb,e⟩:=af e
  exact rx.iD rfl fun t=>ry.iD (bO hb) fun u=>add_int ((h.of e).ps R (PS.tok ..) ⟨_,rfl⟩)
 |str a=>
  obtain⟨b,hb,e⟩:=af e
  obtain⟨hl,h⟩:=h.xM e
  refine rx.kU rfl fun t h1=>ry.kU (eT hb) fun u h2=>add_str (fun t' tk=>h.ps R (PS.tok ..) ⟨t',?_,by simpa using hl⟩) ?_
  ·rw[←List.append_toArray];rfl
  ·show a.length+b.length≤_;exact M8 hl this
 |lst la=>
  obtain⟨lb,hb,e⟩:=af e
  obtain⟨hl,h⟩:=h.xM e
  refine rx.ua rfl fun a cs n ho z1 r1 l1=>ry.ua (fK hb) fun b ds n2 ho2 z2 r2 l2=>?_
  refine Rq ⟨_,ho,rfl⟩ ⟨_,ho2,rfl⟩ noFill_list_add seq_list_add Te Sy (Sj _ _) (list_addW a b cs ds n n2 _ _ _ _ (by rw[z1,z2];exact M8 hl this)) ⟨ho,ho2,?_⟩
  exact h.ps R (PS.push s _ s.toks) (VR.vN R (by rw[PL];exact r1.append r2) (by rw[Ng];exact hl))
 |tup la=>
  obtain⟨lb,hb,e⟩:=af e
  obtain⟨hl,h⟩:=h.xM e
  have ry:DR C W s.heap (.tup lb) cy:=qT hb▸ry
  refine DR.Ic rx fun a cs d sl n ho z1 r1 rx=>DR.Ic ry fun b ds d2 sl2 n2 ho2 z2 r2 ry=>?_
  by_cases hv:cs.isEmpty=true
  ·refine Rq ⟨_,ho,rfl⟩ ⟨_,ho2,rfl⟩ Sk Ui QK QC (Qv _ _) (tuple_addW0 a b cs ds n n2 d d2 sl sl2 hv) ⟨ho,ho2,?_⟩
   rw[O4 (z1.symm.trans (Q4.mp hv))]at h
   exact h.ps R (PS.refl s) ry
  ·by_cases hw:ds.isEmpty=true
   ·refine Rq ⟨_,ho,rfl⟩ ⟨_,ho2,rfl⟩ Sk Ui QK QC (Qv _ _) (tuple_addW1 a b cs ds n n2 d d2 sl sl2 hv hw) ⟨ho,ho2,?_⟩
    rw[O4 (z2.symm.trans (Q4.mp hw)),Nc]at h
    exact h.ps R (PS.refl s) rx
   ·refine Rq ⟨_,ho,rfl⟩ ⟨_,ho2,rfl⟩ Sk Ui QK QC (Qv _ _) (tuple_addW2 a b cs ds n n2 d d2 sl sl2 hv hw (by rw[z1,z2];exact M8 hl this)) ⟨ho,ho2,?_⟩
    exact h.ps R (PS.push s _ s.toks) (VR.vM R rfl ⟨_,rfl⟩ (by rw[PL];exact r1.append r2) (by rw[Ng];exact hl))
 |_=>exact ns e
theorem CO{c:MU}{cs:Array MU}{n:Nat}(h:cs.toList=[c]):(List.foldl (fun x1 x2=>x1++x2) #[] (M2 (if cs.isEmpty=true then 0 else n) cs)).toList=M2 n c:=by
 have h0:cs= #[c]:=by rw[←cs.toArray_toList,h]
 clear h
 subst h0
 simp only[listMul_foldl]
 show(M2 n [c]).flatten=_
 induction n with
 |zero=>rfl
 |succ m ih=>rw[Oq,Qc,ih];rfl
theorem yX{x y:V}{v:V}{cx cy:MU}(R:au C W st s)(e:HP st x y=some (v,st'))(rx:DR C W s.heap x cx)(ry:DR C W s.heap y cy)
  (h:Post C W.ay W s st' v Q):wpAny (model C.prog C.w) A (binaryOp .Mult cx cy) Q E s:=by
 cases x with
 |int a=>
  obtain⟨b,hb,e⟩:=af e
  obtain⟨hl,h⟩:=h.xM e
  obtain⟨k1,k2⟩:=band hl
  exact rx.iD rfl fun t=>ry.iD (bO hb) fun u=>mul_int (h.ps R (PS.tok ..) ⟨_,rfl⟩) (IntMulOk.of_bits (M8 (i_ k1) (by decide)) (M8 (i_ k2) (by decide)))
 |str a=>
  obtain⟨n,hb,e⟩:=af e
  obtain⟨hl,h⟩:=h.xM e
  refine rx.kU rfl fun t h1=>ry.iD (bO hb) fun u=>?_
  refine SB.mul (mulOk_of (x:=⟨_⟩) _ n.toNat (M9 _) (by lia) (by lia) (by have:=hl.2.1;unfold lid at this;lia) ?_) fun t' k=>h.ps R (PS.tok ..) ⟨t',?_,?_⟩
  ·show a.length*_≤_;have:=hl.2.2;unfold lid at this;lia
  ·rw[CN hl.1]
  ·rw[ud];have:=hl.2.2;rw[NL];exact this
 |lst l=>
  obtain⟨n,hb,e⟩:=af e
  obtain⟨v0,h0,e⟩:=af e
  obtain⟨hl,h⟩:=h.xM e
  refine rx.ua (congrArg V.lst (dM h0)) fun a cs k ho z1 r1 l1=>ry.iD (bO hb) fun u=>?_
  obtain⟨c,cr,hcs,r1,rfl⟩:=r1
  have hlid:=hl.2.1
  unfold lid at hlid
  have z1:cs.size=1:=z1
  refine wpAny_binaryOp_repeat_ref (T:="list") (U:="int") (by decide) ⟨_,ho,rfl⟩ (fun s'=>Sz s' _ u) noFill_list_mul PySem.F.fills_int_mul Tf repeat_list PySem.F.slot_int_index.lookup
   (SD Tf (Sz s _ u) PySem.F.entry_int_rmul (PySem.F.args_int_rmul_2 _ _) (lm_int_rmul_list_any _ u a cs k _ _)
    ⟨ho,rfl,⟨_,ho,rfl⟩,SD PySem.F.slot_list_mul ⟨_,ho,rfl⟩ PySem.F.entry_list_mul (PySem.F.args_list_mul_2 _ _)
     (lm_list_mul_any a cs k _ _ _ u (by simp[RD];lia) (by rw[z1];lia) (by simp[Builtin.List.listTooLong,sizeLine,z1];lia)) ⟨ho,?_⟩⟩)
  obtain⟨S,R',r'⟩:=au.vO (U:=W.ay) (t:=s.toks) R rfl (by rw[CO hcs];exact aY.replicate r1 _) (by simpa using hl.2.1) (jw hl.2.2 n.toNat)
  exact h _ _ _ S R' r'
 |_=>exact ns e
theorem vP{op:Ry}{x y:V}{v:V}{cx cy:MU}(R:au C W st s)(e:d_ st op x y=some (v,st'))(rx:DR C W s.heap x cx)(ry:DR C W s.heap y cy)
  (h:Post C W.ay W s st' v Q):wpAny (model C.prog C.w) A (binaryOp op cx cy) Q E s:=by
 cases op with
 |Add=>exact yW R e rx ry h
 |Mult=>exact yX R e rx ry h
 |Sub=>exact DR.dI e rx ry fun a b t u e=>sub_int ((h.of e).ps R (PS.tok ..) ⟨_,rfl⟩)
 |FloorDiv=>
  refine DR.dI e rx ry fun a b t u e=>?_
  obtain⟨hb,h⟩:=h.LO e
  exact floordiv_int (fun q=>hb (.inl q)) (h.ps R (PS.tok ..) ⟨_,rfl⟩) (.inl (Sa (log2_small fun q=>hb (.inr q))))
 |Mod=>
  refine DR.dI e rx ry fun a b t u e=>?_
  obtain⟨hb,h⟩:=h.LO e
  exact mod_int' hb (h.ps R (PS.tok ..) ⟨_,rfl⟩)
 |Pow=>
  refine DR.dI e rx ry fun a b t u e=>?_
  obtain⟨hb,h⟩:=h.xM e
  exact pow_int_small hb.1 (by lia) hb.2.2 (h.ps R (PS.tok ..) ⟨_,rfl⟩)
 |LShift=>
  refine DR.dI e rx ry fun a b t u e=>?_
  obtain⟨hb,h⟩:=h.xM e
  exact lshift_int hb.1 (by have:=i_ hb.2.2;lia) (h.ps R (PS.tok ..) ⟨_,rfl⟩)
 |RShift=>
  refine DR.dI e rx ry fun a b t u e=>?_
  obtain⟨hb,h⟩:=h.xM e
  exact rshift_int hb.1 (h.ps R (PS.tok ..) ⟨_,rfl⟩)
 |BitAnd=>exact DR.dI e rx ry fun a b t u e=>and_int ((h.of e).ps R (PS.tok ..) ⟨_,rfl⟩)
 |BitOr=>exact DR.dI e rx ry fun a b t u e=>or_int ((h.of e).ps R (PS.tok ..) ⟨_,rfl⟩)
 |BitXor=>exact DR.dI e rx ry fun a b t u e=>xor_int ((h.of e).ps R (PS.tok ..) ⟨_,rfl⟩)
 |_=>exact ns e
end
end Rk
end

section
namespace Rk
open PySem PySem.W PySem.Calls PyProof.Rows PySem.SeqAt
mutual
noncomputable def dat:V→PyData
 |.bool b=>.bool b
 |.int i=>.int i
 |.str l=>.str ⟨l.toArray⟩
 |.tup l=>.tuple (kW l)
 |.lst l=>.list (kW l)
 |_=>.none
noncomputable def kW:List V→List PyData
 |[]=>[]
 |v::r=>dat v::kW r
end
theorem Fc:kW []=[]:=rfl
theorem Fe(v:V)(r:List V):kW (v::r)=dat v::kW r:=rfl
mutual
theorem kG:∀{v:V},v.data=true→(dat v).canLay0=true
 |.none,_=>rfl
 |.bool _,_=>rfl
 |.int _,_=>rfl
 |.str l,h=>by
  simp only[Ah]at h
  show(l.toArray).all (· <0x110000)=true
  simpa using h
 |.tup l,h=>jO h
 |.lst l,h=>jO h
 |.ref _,h=>by cases h
 |.fn _,h=>by cases h
 |.jt _ _,h=>by cases h
 |.bi _,h=>by cases h
theorem jO:∀{l:List V},bA l=true→UC (kW l)=true
 |[],_=>rfl
 |v::r,h=>by
  obtain⟨h1,h2⟩:=band h
  show((dat v).canLay0&&UC (kW r))=true
  rw[kG h1,jO h2];rfl
end
mutual
theorem gx:∀(v:V),(dat v).depth=v.dep
 |.none=>rfl
 |.bool _=>rfl
 |.int _=>rfl
 |.str _=>rfl
 |.tup l=>congrArg (· +1) (gE l)
 |.lst l=>congrArg (· +1) (gE l)
 |.ref _=>rfl
 |.fn _=>rfl
 |.jt _ _=>rfl
 |.bi _=>rfl
theorem gE:∀(l:List V),Vp (kW l)=fV l
 |[]=>rfl
 |v::r=>by simp only[Fc,Fe,Vp,vE,su,gx v,gE r,Nat.max_def]
end
theorem CP(a b:List Nat):((⟨a.toArray⟩:NT) == ⟨b.toArray⟩)=decide (a=b):=by
 rw[Bool.eq_iff_iff,beq_iff_eq,decide_eq_true_eq]
 constructor
 ·intro h
  have:=congrArg (fun x:NT=>x.cps.toList) h
  simpa using this
 ·intro h;rw[h]
mutual
theorem l9:∀(a b:V),a.data=true→b.data=true→(dat a).eqv (dat b)=oE a b
 |.none,b,_,hb=>by cases b<;>first|rfl|cases hb
 |.bool _,b,_,hb=>by cases b<;>first|rfl|cases hb
 |.int _,b,_,hb=>by cases b<;>first|rfl|cases hb
 |.str x,b,_,hb=>by
  cases b with
  |str y=>exact CP x y
  |_=>first|rfl|cases hb
 |.tup x,b,ha,hb=>by
  cases b with
  |tup y=>exact oS x y ha hb
  |_=>first|rfl|cases hb
 |.lst x,b,ha,hb=>by
  cases b with
  |lst y=>exact oS x y ha hb
  |_=>first|rfl|cases hb
 |.ref _,_,ha,_=>by cases ha
 |.fn _,_,ha,_=>by cases ha
 |.jt _ _,_,ha,_=>by cases ha
 |.bi _,_,ha,_=>by cases ha
theorem oS:∀(a b:List V),bA a=true→bA b=true→VL (kW a) (kW b)=lE a b
 |[],[],_,_=>rfl
 |[],_::_,_,_=>rfl
 |_::_,[],_,_=>rfl
 |a::r,b::t,ha,hb=>by
  obtain⟨ha,ha'⟩:=band ha
  obtain⟨hb,hb'⟩:=band hb
  show((dat a).eqv (dat b)&&VL (kW r) (kW t))=(oE a b&&lE r t)
  rw[l9 a b ha hb,oS r t ha' hb']
end
section
variable {C:Cx} {W W' W'':Wt} {st st':ao} {h h':NX} {s s' s'':MT} {U:List Na} {A:NF} {E:MU→MT→Prop} {Q:MU→MT→Prop}
mutual
theorem VR.reads:∀{v:V} {c:MU},v.data=true→VR C W h v c→ ∃as,Reads h c (dat v) as
 |.none,_,_,r=>by subst r;exact⟨_,.none⟩
 |.bool _,_,_,r=>by subst r;exact⟨_,.bool _⟩
 |.int _,_,_,r=>by obtain⟨t,rfl⟩:=r;exact⟨_,.int _ _⟩
 |.str _,_,_,r=>by obtain⟨t,rfl,_⟩:=r;exact⟨_,.str _ _⟩
 |.tup l,_,d,r=>by
  obtain⟨a,cs,rfl,_,⟨o,ho,hc,n,hd⟩,rs,_⟩:=r
  obtain⟨as,ra⟩:=aY.reads d rs
  exact⟨_,.tuple ho hc hd ra⟩
 |.lst l,_,d,r=>by
  obtain⟨a,cs,rfl,_,⟨n,ho⟩,rs,_⟩:=r
  obtain⟨as,ra⟩:=aY.reads d rs
  exact⟨_,.list ho rfl rfl ra⟩
 |.ref _,_,d,_=>by cases d
 |.fn _,_,d,_=>by cases d
 |.jt _ _,_,d,_=>by cases d
 |.bi _,_,d,_=>by cases d
theorem aY.reads:∀{l:List V} {cs:List MU},bA l=true→aY C W h l cs→ ∃as,ReadsAll h cs (kW l) as
 |[],_,_,r=>by subst r;exact⟨_,.nil⟩
 |v::l,cs,d,r=>by
  obtain⟨c,cr,rfl,h1,h2⟩:=r
  obtain⟨d1,d2⟩:=band d
  obtain⟨as,ra⟩:=VR.reads d1 h1
  obtain⟨bs,rb⟩:=aY.reads d2 h2
  exact⟨_,.cons ra rb⟩
end
theorem DR.reads{v:V}{c:MU}(d:v.data=true)(r:DR C W h v c):∃as,Reads h c (dat v) as:=by
 cases v with
 |lst l=>
  obtain⟨a,cs,rfl,⟨n,ho⟩,rs,_⟩:=r
  obtain⟨as,ra⟩:=aY.reads d rs
  exact⟨_,.list ho rfl rfl ra⟩
 |_=>exact VR.reads (C:=C) (W:=W) d r
theorem kH{v:V}(d:v.data=true)(hd:v.dep≤8):shaped (dat v)=true:=by
 unfold shaped
 rw[kG d,gx,P4,decide_eq_true_eq]
 lia
theorem oU(x:V)(hx:x.data=true):∀(l:List V),bA l=true→(kW l).any (fun y=>y.eqv (dat x))=vz x l
 |[],_=>rfl
 |y::r,h=>by
  obtain⟨h1,h2⟩:=band h
  show((dat y).eqv (dat x) || (kW r).any _)=(oE y x || vz x r)
  rw[oU x hx r h2,l9 y x h1 hx]
theorem CA{b b':Bool}(h:Q (.bool b) s)(e:some b'=some b):Q (.bool b') s:=M0 e▸h
theorem qZ{x y:V}(h:iz x y=true):(x.data=true∧x.dep≤8)∧y.data=true∧y.dep≤8:=by
 obtain⟨h,h4⟩:=band h
 obtain⟨h,h3⟩:=band h
 obtain⟨h1,h2⟩:=band h
 exact⟨⟨h1,of_decide_eq_true h3⟩,h2,of_decide_eq_true h4⟩
theorem l_{x:V}{l:List V}(h:okIn x l=true):x.data=true∧bA l=true∧x.dep≤8∧fV l≤8:=by
 obtain⟨h,h4⟩:=band h
 obtain⟨h,h3⟩:=band h
 obtain⟨h,_⟩:=band h
 obtain⟨h,_⟩:=band h
 obtain⟨h1,h2⟩:=band h
 exact⟨h1,h2,of_decide_eq_true h3,of_decide_eq_true h4⟩
theorem VR.sJ{x:V}(hx:isNone x=false)(r:VR C W h x .none):False:=by
 cases x with
 |none=>exact nomatch (hx:true=false)
 |bool b=>exact nomatch (r:O_= .bool b)
 |int b=>obtain⟨t,e⟩:=r;exact nomatch e
 |str b=>obtain⟨t,e,_⟩:=r;exact nomatch e
 |tup b=>obtain⟨a,cs,e,_⟩:=r;exact nomatch e
 |lst b=>obtain⟨a,cs,e,_⟩:=r;exact nomatch e
 |ref i=>obtain⟨a,_,e⟩:=r;exact nomatch e
 |fn g=>exact nomatch (r:O_= .ref _)
 |jt f g=>obtain⟨a,e,_⟩:=r;exact nomatch e
 |bi b=>cases b<;>exact nomatch (r:O_=_)
theorem DR.sJ{x:V}(hx:isNone x=false)(r:DR C W h x .none):False:=by
 cases x with
 |lst b=>obtain⟨a,cs,e,_⟩:=r;exact nomatch e
 |_=>exact VR.sJ (C:=C) (W:=W) (h:=h) hx r
theorem Az{x y:V}{b:Bool}{n:Nat}{cx cy:MU}(RA:bL n A)(e:J2 x y=some b)(rx:DR C W s.heap x cx)(ry:DR C W s.heap y cy)
  (h:Q (.bool b) s):wpAny (model C.prog C.w) A (compareOp .In cx cy) Q E s:=by
 cases y with
 |str l=>
  obtain⟨a,ha,e⟩:=af e
  obtain⟨c,hc,e⟩:=af e
  refine rx.kU ((eT ha).trans (congrArg V.str (lY hc))) fun t _=>ry.kU rfl fun u _=>in_str ?_
  show Q (.bool (!(Sl _ ⟨#[_]⟩ 0 _ 1).isEmpty)) s;rw[UD];exact CA h e
 |tup l=>
  obtain⟨hd,e⟩:=gk e
  obtain⟨h1,h2,h3,h4⟩:=l_ hd
  obtain⟨as,ra⟩:=rx.reads h1
  obtain⟨bs,rb⟩:=DR.reads (v:=.tup _) h2 ry
  have:=RA.units
  refine in_tuple_reads rb ra (jO h2) (kG h1) ?_ (by rw[oU _ h1 _ h2];exact CA h e)
  rw[gE,gx];lia
 |_=>exact ns e
theorem ue{x y:V}{b:Bool}{n:Nat}{cx cy:MU}(RA:bL n A)(e:J2 x y=some b)(rx:DR C W s.heap x cx)(ry:DR C W s.heap y cy)
  (h:Q (.bool (!b)) s):wpAny (model C.prog C.w) A (compareOp .NotIn cx cy) Q E s:=by
 cases y with
 |str l=>
  obtain⟨a,ha,e⟩:=af e
  obtain⟨c,hc,e⟩:=af e
  refine rx.kU ((eT ha).trans (congrArg V.str (lY hc))) fun t _=>ry.kU rfl fun u _=>notIn_str ?_
  show Q (.bool (!(!(Sl _ ⟨#[_]⟩ 0 _ 1).isEmpty))) s;rw[UD,show decide _=b from M0 e];exact h
 |tup l=>
  obtain⟨hd,e⟩:=gk e
  obtain⟨h1,h2,h3,h4⟩:=l_ hd
  obtain⟨as,ra⟩:=rx.reads h1
  obtain⟨bs,rb⟩:=DR.reads (v:=.tup _) h2 ry
  have:=RA.units
  refine notIn_tuple_reads rb ra (jO h2) (kG h1) ?_ (by rw[oU _ h1 _ h2,show vz x l=b from M0 e];exact h)
  rw[gE,gx];lia
 |_=>exact ns e
theorem AA{x y:V}{b:Bool}{cx cy:MU}(e:LK x y=some b)(rx:DR C W s.heap x cx)(ry:DR C W s.heap y cy)
  (h:Q (.bool b) s):wpAny (model C.prog C.w) A (compareOp .Is cx cy) Q E s:=by
 cases y with
 |none=>
  have hy:cy= .none:=ry
  have e:isNone x=b:=M0 e
  subst hy
  cases b with
  |false=>exact is_none_ne (fun q=>DR.sJ e (q▸rx)) h
  |true=>
   cases x with
   |none=>have hx:cx= .none:=rx;subst hx;exact wpAny_is_self rfl h
   |_=>exact nomatch (e:false=true)
 |bool q=>
  obtain⟨p,hp,ez1⟩:=af e
  have:=vA hp;subst this
  have hx:cx= .bool p:=rx
  have hy:cy= .bool q:=ry
  clear e hp
  subst hx;subst hy
  refine wpAny_is_plain rfl ?_
  have:((Value.bool p) == (Value.bool q))=(p == q):=by cases p<;>cases q<;>rfl
  rw[this];exact CA h ez1
 |_=>exact ns e
theorem lF{op:CmpOp}{x y:V}{b:Bool}{n:Nat}{cx cy:MU}(RA:bL n A)(e:iU op x y=some b)(rx:DR C W s.heap x cx)(ry:DR C W s.heap y cy)
  (h:Q (.bool b) s):wpAny (model C.prog C.w) A (compareOp op cx cy) Q E s:=by
 have hu:A.units+64<cLine:=by have:=RA.units;lia
 cases op with
 |Eq=>
  obtain⟨hd,e⟩:=gk e
  obtain⟨⟨h1,h2⟩,h3,h4⟩:=qZ hd
  obtain⟨as,ra⟩:=rx.reads h1
  obtain⟨bs,rb⟩:=ry.reads h3
  exact compareEq_shaped ra rb (kH h1 h2) (kH h3 h4) hu (by rw[l9 _ _ h1 h3];exact CA h e)
 |NotEq=>
  obtain⟨hd,e⟩:=gk e
  obtain⟨⟨h1,h2⟩,h3,h4⟩:=qZ hd
  obtain⟨as,ra⟩:=rx.reads h1
  obtain⟨bs,rb⟩:=ry.reads h3
  exact compareNe_shaped ra rb (kH h1 h2) (kH h3 h4) hu (by rw[l9 _ _ h1 h3];exact CA h e)
 |Lt=>
  cases x with
  |int a=>
   obtain⟨c,hb,e⟩:=af e
   exact rx.iD rfl fun t=>ry.iD (bO hb) fun u=>lt_int (CA h e)
  |str a=>
   obtain⟨c,hb,e⟩:=af e
   exact rx.kU rfl fun t _=>ry.kU (eT hb) fun u _=>lt_str (by have:=CA h e;simpa using this)
  |_=>exact ns e
 |LtE=>exact DR.dI e rx ry fun a b t u e=>le_int (CA h e)
 |Gt=>exact DR.dI e rx ry fun a b t u e=>gt_int (CA h e)
 |GtE=>exact DR.dI e rx ry fun a b t u e=>ge_int (CA h e)
 |In=>exact Az RA e rx ry h
 |NotIn=>
  obtain⟨b0,e0,e⟩:=iR e
  exact ue RA e0 rx ry (e▸h)
 |Is=>exact AA e rx ry h
 |_=>exact ns e
end
end Rk
end

section
namespace Rk
open PySem PySem.W PySem.Calls PyProof.Rows PySem.SeqAt
inductive Ie {α:Type} (l:List α) (i:Int) (v:α):Prop
 |mk (j:Nat) (h1:seqIndex? i l.length=some j) (h2:l[j]? =some v) (h3: -(2^63)≤i) (h4:i<2^63) (h5:0≤i→j=i.toNat) (h6:i<0→ -(l.length:Int)≤i∧j=(i+l.length).toNat)
theorem oV{α:Type}{l:List α}{i:Int}{v:α}(e:m9 l i=some v)(hl:l.length≤lid):Ie l i v:=by
 unfold m9 at e
 have hlid:lid=1048576:=rfl
 split at e
 ·rename_i h0
  have hj:=(MW.mp e).1
  have hn:¬i<0:=by lia
  refine⟨i.toNat,?_,e,by lia,by lia,fun _=>rfl,fun h=>absurd h hn⟩
  unfold seqIndex?
  rw[if_neg hn]
  have h2:(decide (0≤i)&&decide (i<(l.length:Int)))=true:=by simp;lia
  simp only[h2,if_true]
 ·rename_i h0
  split at e
  ·rename_i h1
   have hj:=(MW.mp e).1
   have hn:i<0:=by lia
   refine⟨(i+l.length).toNat,?_,e,by lia,by lia,fun h=>absurd h h0,fun _=>⟨by lia,rfl⟩⟩
   unfold seqIndex?
   rw[if_pos hn]
   have h2:(decide (0≤i+(l.length:Int))&&decide (i+(l.length:Int)<(l.length:Int)))=true:=by simp;lia
   simp only[h2,if_true]
  ·cases e
section
variable {C:Cx} {W W' W'':Wt} {st st':ao} {h h':NX} {s s' s'':MT} {U:List Na} {A:NF} {E:MU→MT→Prop} {Q:MU→MT→Prop}
inductive Ff (slice:PK) (o i:MU):Prop
 |mk (ops:List MU) (e:subscripted slice false o i=operate ops (getItem o i))
theorem dN(slice:PK)(o i:MU):Ff slice o i:=by
 cases slice with
 |Slice l u st p=>cases st<;>exact⟨_,rfl⟩
 |_=>exact⟨_,rfl⟩
theorem fits_of{i:Int}(h3: -(2^63)≤i)(h4:i<2^63):(decide (i< -(2^63:Int)) || decide (i≥2^63))=false:=by
 rw[decide_eq_false (QA.mpr h3),decide_eq_false (SG.mpr h4)];rfl
theorem Fg{i:Int}{n j:Nat}(h:¬0≤i)(h2:i<0→ -(n:Int)≤i∧j=(i+n).toNat):i<0∧ -(n:Int)≤i∧j=(i+n).toNat:=⟨SG.mp h,h2 (SG.mp h)⟩
theorem vQ{value slice:PK}{x y v:V}{cx cy:MU}(R:au C W st s)(e:lZ x y=some v)(rx:DR C W s.heap x cx)(ry:VR C W s.heap y cy)(h:Post C U W s st v Q):
  wpAny (model C.prog C.w) A (subscriptTail value slice cx cy) Q E s:=by
 obtain⟨i,hy,e'⟩:=af e
 refine ry.iD (bO hy) fun t=>?_
 clear e hy
 cases x with
 |lst l=>
  refine rx.ua rfl fun a cs n ho hz r hl=>?_
  have hL:=OC ⟨n,ho⟩
  obtain⟨j,h1,h2,h3,h4,h5,h6⟩:=oV e' hl
  obtain⟨c,hc,rc⟩:=r.get h2
  obtain⟨ops,ho⟩:=dN slice (Rx a) (.int _ t)
  refine UE hL.typeIs UG.lookup ?_ ho
  rw[N2]at hc
  by_cases h0:0≤i
  ·exact wpAny_getItem_list hL h0 h4 (by rw[←h5 h0];exact hc) (h.ps R (.refl s) rc)
  ·obtain⟨h6z1,h7,h8⟩:=Fg h0 h6
   exact wpAny_getItem_list_neg hL h6z1 (by rw[hz];exact h7) h3 (by rw[hz,←h8];exact hc) (h.ps R (.refl s) rc)
 |tup l=>
  obtain⟨a,cs,rfl,hf,hL,r,hl⟩:=rx
  obtain⟨j,h1,h2,h3,h4,h5,h6⟩:=oV e' hl
  obtain⟨c,hc,rc⟩:=r.get h2
  rw[N2]at hc
  obtain⟨ops,ho⟩:=dN slice (Rx a) (.int _ t)
  exact UE hL.typeIs slot_tuple_getitem.lookup (getItem_tuple hL h3 h4 (by rw[show cs.size=l.length by rw[←r.length];rfl];exact h1) hc (h.ps R (.refl s) rc)) ho
 |str l=>
  obtain⟨n,e2,e'z1⟩:=iR e'
  clear e'
  subst e'z1
  refine rx.kU rfl fun u hl=>?_
  obtain⟨j,h1,h2,h3,h4,h5,h6⟩:=oV e2 hl
  obtain⟨ops,ho⟩:=dN slice (VX ⟨l.toArray⟩ u) (.int i t)
  refine UE (Up s _ u) slot_str_getitem.lookup (getItem_str (fits_of h3 h4) ?_ (h.ps R (.tok ..) ⟨_,rfl,by show 1≤lid;decide⟩)) ho
  show(seqIndex? i (l.toArray).size).bind _=_
  rw[Qd,h1];show(l.toArray)[j]? =_;rw[List.getElem?_toArray];exact h2
 |_=>exact ns e'
inductive lG (c:MU) (p:Option Int):Prop
 |mk (i:IsPart c p) (q:Option (Int×Vt)) (e:c=partValue q) (m:q.map (·.1)=p)
theorem oW{v:V}{p:Option Int}{c:MU}(e:xC v=some p)(r:VR C W h v c):lG c p:=by
 cases v with
 |none=>
  have r:c= .none:=r
  subst r
  exact M0 e▸⟨.none,none,rfl,rfl⟩
 |int i=>exact M0 e▸r.iD rfl fun t=>⟨.int _ _,some (i,t),rfl,rfl⟩
 |_=>exact ns e
theorem aY.pick{l:List V}{cs:Array MU}(r:aY C W h l cs.toList):∀idx:List Nat,aY C W h (idx.filterMap (l[·]?)) (idx.filterMap (cs[·]?))
 |[]=>rfl
 |j::idx=>by
  have hlen:=r.length
  cases e:l[j]? with
  |none=>
   have e2:cs[j]? =none:=by
    rw[NR]at e
    exact Ph (M8 (QJ hlen) e)
   rw[Sb e,Sb e2]
   exact aY.pick r idx
  |some v=>
   obtain⟨c,hc,rc⟩:=r.get e
   have e2:cs[j]? =some c:=by simpa using hc
   rw[Sd e,Sd e2]
   exact⟨c,_,rfl,rc,aY.pick r idx⟩
theorem uf{α:Type}(l:List α)(lo hi:Option Int):(iV l lo hi).length≤l.length:=by
 exact M8 (List.length_take_le' ..) (by rw[Qo];exact Uq ..)
theorem vR{l:List Nat}{lo hi:Option Int}(h:hi.elim l.length (clipAt l.length)-lo.elim 0 (clipAt l.length)=l.length):iV l lo hi=l:=by
 unfold iV
 rw[h]
 cases l with
 |nil=>rfl
 |cons x r=>
  have h0:lo.elim 0 (clipAt (x::r).length)=0:=by
   have hb:hi.elim (x::r).length (clipAt (x::r).length)≤(x::r).length:=by
    clear h
    cases hi with
    |none=>exact M9 _
    |some i=>have:=clipAt_cast (x::r).length i;show clipAt _ i≤_;omega
   generalize lo.elim 0 (clipAt (x::r).length)=a at h ⊢
   generalize hi.elim (x::r).length (clipAt (x::r).length)=b at h hb
   rw[NS]at h hb
   clear lo hi
   omega
  rw[h0,Tu,Of]
theorem slice_list{value slice:PK}{lo hi:Option Int}{kk:Option Int}{l:List V}{cx vl vu vk:MU}{sl:Na}(R:au C W st s)(rx:DR C W s.heap (.lst l) cx)
  (p1:lG vl lo) (p2:lG vu hi) (p3:lG vk kk) (hk:kk≠some 0) (hs:s.heap.IsSliceOf sl vl vu vk) (res:List V) (hr:∀cs:Array MU,cs.size=l.length→aY C W s.heap l cs.toList→aY C W s.heap res (slicePick cs lo hi kk).toList)
  (h:Post C U W s st (.lst res) Q):
  wpAny (model C.prog C.w) A (subscriptTail value slice cx (.ref sl)) Q E s:=by
 refine rx.ua rfl fun a cs n ho hz r hl=>?_
 refine bc fun hN0=>?_
 have hL:=OC ⟨n,ho⟩
 obtain⟨ops,ho⟩:=dN slice (Rx a) (.ref sl)
 obtain⟨p1⟩:=p1
 obtain⟨p2⟩:=p2
 obtain⟨p3⟩:=p3
 refine hN0 ?_
 refine UE hL.typeIs UG.lookup (wpAny_getItem_list_slice hL hs p1 p2 p3 hk ?_ (hz▸M8 hl i7)) ho
 have hp:=hr cs hz r
 exact h.ps R (.push s _ s.toks) (VR.vN R hp (hp.length▸M8 (slicePick_size_le cs lo hi kk) (hz▸hl)))
theorem yY{value slice:PK}{lo hi:Option Int}{l:List Nat}{cx vl vu vk:MU}{sl:Na}(R:au C W st s)(rx:DR C W s.heap (.str l) cx)
  (q1:lG vl lo) (q2:lG vu hi) (q3:lG vk none)
  (hs:s.heap.IsSliceOf sl vl vu vk) (h:Post C U W s st (.str (iV l lo hi)) Q):
  wpAny (model C.prog C.w) A (subscriptTail value slice cx (.ref sl)) Q E s:=by
 obtain⟨t,rfl,hl⟩:=rx
 obtain⟨_,q1,rfl,m1⟩:=q1
 obtain⟨_,q2,rfl,m2⟩:=q2
 obtain⟨_,q3,rfl,m3⟩:=q3
 obtain⟨ops,ho⟩:=dN slice (VX ⟨l.toArray⟩ t) (.ref sl)
 have hpick:(slicePicked ⟨l.toArray⟩ q1 q2 q3)=sliceRange (sliceBounds lo hi none l.length).1 (sliceBounds lo hi none l.length).2.1 (sliceBounds lo hi none l.length).2.2:=by
  unfold slicePicked
  rw[m1,m2,m3];rfl
 have hrun:(slicePicked ⟨l.toArray⟩ q1 q2 q3).filterMap ((⟨l.toArray⟩:NT).cps[·]?)=iV l lo hi:=by
  rw[hpick,UH]
  simp only[sliceRange_one,pick_run]
  rfl
 have hpl:(slicePicked ⟨l.toArray⟩ q1 q2 q3).length=hi.elim l.length (clipAt l.length)-lo.elim 0 (clipAt l.length):=by
  rw[hpick,UH]
  simp[sliceRange_one]
 refine UE (Up s _ t) slot_str_getitem.lookup (wpAny_getItem_str_slice hs (by rw[m3];rfl) ?_) ho
 have hle:=uf l lo hi
 have hll:l.length≤1048576:=hl
 unfold sliceMade
 refine post_val_or_made (fun _=>?_) fun t' k=>h.ps R (.tok ..) ⟨t',?_,M8 hle hl⟩
 ·rw[hrun];exact M8 (M8 hle hll) (by decide)
 ·rw[hrun]
  split
  ·rename_i hc
   rw[m3]at hc
   have hc:=eq_of_beq (band hc).2
   rw[vR (by rw[←hpl,hc];rfl)]
  ·rfl
theorem vS{value slice:PK}{x lo hi k v:V}{cx vl vu vk:MU}{sl:Na}(R:au C W st s)(e:qx x lo hi k=some v)(rx:DR C W s.heap x cx)
  (r1:VR C W s.heap lo vl) (r2:VR C W s.heap hi vu) (r3:VR C W s.heap k vk) (hs:s.heap.IsSliceOf sl vl vu vk) (h:Post C U W s st v Q):
  wpAny (model C.prog C.w) A (subscriptTail value slice cx (.ref sl)) Q E s:=by
 obtain⟨lo',e1,ez1⟩:=af e
 obtain⟨hi',e2,ez1z1⟩:=af ez1
 obtain⟨k',e3,e'⟩:=af ez1z1;clear ez1z1
 have p1:=oW e1 r1;have p2:=oW e2 r2;have p3:=oW e3 r3
 clear e1 e2 e3 r1 r2 r3
 cases x with
 |lst l=>cases k' with
  |none=>
   exact slice_list R rx p1 p2 p3 nofun hs _ (fun cs hz r=>by rw[slicePick_plain,hz];exact aY.take _ (aY.drop _ r)) (h.Cz e')
  |some k=>
   obtain⟨hk,ez1z1⟩:=xB e'
   clear e'
   subst ez1z1
   exact slice_list R rx p1 p2 p3 (fun q=>hk (M0 q)) hs _ (fun cs hz r=>by unfold xD slicePick;rw[hz];exact aY.pick r _) h
 |str l=>cases k' with
  |none=>exact yY R rx p1 p2 p3 hs (h.Cz e')
  |some k=>exact ns e'
 |_=>exact ns e'
end
end Rk
end

section
namespace Rk
open PySem PySem.W PySem.Calls PyProof.Rows PySem.SeqAt
noncomputable def tQ{α:Type}(n:Nat):KasT α→Bool
 |.ret _=>true
 |.ask i j k=>decide (i<n)&&decide (j<n)&&tQ n (k true)&&tQ n (k false)
theorem ug{α:Type}{n:Nat}{lt:Nat→Nat→Bool}{cmp:Nat→Nat→(Bool→MT→Prop)→MT→Prop}{s:MT}{Q:α→MT→Prop}(h:∀i j (C:Bool→MT→Prop),i<n→j<n→C (lt i j) s→cmp i j C s):
  ∀t:KasT α,tQ n t=true→Q (tT lt t) s→t.kasWp cmp Q s
 |.ret _,_,q=>q
 |.ask i j k,w,q=>by
  obtain⟨w,w4⟩:=band w
  obtain⟨w,w3⟩:=band w
  refine h i j _ (of_decide_eq_true (band w).1) (of_decide_eq_true (band w).2) (ug h (k (lt i j)) ?_ q)
  cases lt i j<;>assumption
theorem CQ:tQ 4 (QE 4)=true:=by kernel_rfl
section
variable {prog:Rp} {w:Tr} {A:NF} {E:MU→MT→Prop} {s:MT}
theorem yZ{lt:Nat→Nat→Bool}{κ:Vv}{a:Na}{vs:List MU}{n:Nat}{P:Fin→MT→Prop}(ho:s.heap.get? a=some (seqObj "list" vs.toArray n))(h2:2≤vs.length)(h64:vs.length<64)(hok:tQ vs.length (QE vs.length)=true)
  (hkind:∀(H:NX) (Q:Vv→MT→Prop),(∀b o,b≠a→s.heap.get? b=some o→H.get? b=some o)→Q κ { s with heap:=H }→wpAny (model prog w) A (keyKind' vs.toArray) Q (fun _ _=>False) { s with heap:=H })
  (hask:∀(H:NX) i j (C:Bool→MT→Prop),(∀b o,b≠a→s.heap.get? b=some o→H.get? b=some o)→i<vs.length→j<vs.length→C (lt i j) { s with heap:=H }→kas_ask prog w A κ vs i j C { s with heap:=H })
  (h:P (.done (.ret .none)) { s with heap:=sortedHeap s.heap a vs (SJ ((tT lt (QE vs.length)).toList.map fun i=>vs.getD i O_)) }):
  wpAny (model prog w) A (Builtin.«list.sort» ⟨[.ref a],[]⟩) P E s:=by
 have ha:a<s.heap.objs.size:=Od ho
 obtain⟨e1,ho1⟩:∃e1,(s.heap.update a (Pc fun _=>(#[]:Array MU))).get? a=some (seqObj "list" #[] e1):=⟨_,get?_update_seq ho fun _=> #[]⟩
 have ho6:(((s.heap.update a (Pc fun _=> #[])).push (seqObj "tuple" vs.toArray 0)).push (seqObj "list" #[] 0)).get? a=some (seqObj "list" #[] e1):=
  Ni _ (Ni _ ho1)
 have keep:∀b o,b≠a→s.heap.get? b=some o→(((s.heap.update a (Pc fun _=>(#[]:Array MU))).push (seqObj "tuple" vs.toArray 0)).push (seqObj "list" #[] 0)).get? b=some o:=fun b o hb e=>
  Ni _ (Ni _ ((TY _ _ _ _ hb).trans e))
 rw[list_sort_plain]
 refine MV (listItems_at ho rfl ?_)
 refine MV (listUpdate_at ho rfl ?_ (by rw[Qd,RV];lia) (NG _))
 refine MV (seqEpoch_at ho1 rfl ?_)
 refine MV (wpAny_newTuple ?_ (by show vs.length≤_;rw[RV];lia))
 refine MV (wpAny_newList ?_ (NG _))
 refine OE ?_
 show wpAny (model prog w) A _ P E { s with heap:=((s.heap.update a (Pc fun _=>(#[]:Array MU))).push (seqObj "tuple" vs.toArray 0)).push (seqObj "list" #[] 0) }
 dsimp only
 have hn2:¬vs.toArray.size<2:=by rw[Qd];lia
 rw[if_neg hn2,if_neg hn2]
 refine MV (Og (hkind _ (fun q s'=>q=κ∧s'={ s with heap:=((s.heap.update a (Pc fun _=>(#[]:Array MU))).push (seqObj "tuple" vs.toArray 0)).push (seqObj "list" #[] 0) }) keep ⟨rfl,rfl⟩) ?_ fun _ _ x=>x.elim)
 rintro _ _ ⟨rfl,rfl⟩
 refine MV (Og (kat_run (Q:=fun st' s'=>s'={ s with heap:=((s.heap.update a (Pc fun _=>(#[]:Array MU))).push (seqObj "tuple" vs.toArray 0)).push (seqObj "list" #[] 0) }∧
   arrOf st'=(tT lt (QE vs.length)).map (kas_item (vs.toArray.zip vs.toArray))∧failedOf st'=none∧(tT lt (QE vs.length)).size=vs.length)
  (G:=fun p s'=>s'={ s with heap:=((s.heap.update a (Pc fun _=>(#[]:Array MU))).push (seqObj "tuple" vs.toArray 0)).push (seqObj "list" #[] 0) }∧p=tT lt (QE vs.length))
  rfl h2 h64 (fun p' st' s' a1 a2 a3 a4=>⟨a4.1,a4.2▸a2,a3,a4.2▸a1⟩) (ug (fun i j C hi hj hc=>hask _ i j C keep hi hj hc) _ hok ⟨rfl,rfl⟩)) ?_ fun _ _ e=>e)
 rintro⟨⟨⟩,st'⟩ s' ⟨rfl,har,hf,hz⟩
 dsimp only
 have hout:=kat_snds rfl har
 rw[hout]
 refine MV (seqEpoch_at ho6 rfl ?_)
 refine MV (listUpdate_at ho6 rfl ?_ (NG _) (by rw[Qd,Nq,Oe,hz,RV];lia))
 rw[hf]
 simp only[bne_self_eq_false,OG,if_false]
 exact Nb h
theorem uh{lt:Nat→Nat→Bool}{κ:Vv}{l:Na}{vs:List MU}{Q:MU→MT→Prop}(hl:s.heap.IsList l vs.toArray)(h2:2≤vs.length)(h64:vs.length<64)(hok:tQ vs.length (QE vs.length)=true)
  (hkind:∀(H:NX) (Q:Vv→MT→Prop),(∀b o,s.heap.get? b=some o→H.get? b=some o)→Q κ { s with heap:=H }→wpAny (model prog w) A.in1.in1 (keyKind' vs.toArray) Q (fun _ _=>False) { s with heap:=H })
  (hask:∀(H:NX) i j (C:Bool→MT→Prop),(∀b o,s.heap.get? b=some o→H.get? b=some o)→i<vs.length→j<vs.length→C (lt i j) { s with heap:=H }→kas_ask prog w A.in1.in1 κ vs i j C { s with heap:=H })
  {ord:List Nat} (hord:(tT lt (QE vs.length)).toList=ord) (h:Q (.ref (s.heap.objs.size+1)) { s with heap:=sortedAll s.heap vs (SJ (ord.map fun i=>vs.getD i O_)) }):
  wpAny (model prog w) A (call (.builtin "sorted") [.ref l]) Q E s:=by
 subst hord
 refine Calls.call_function_entry kind_sorted plain_sorted entry_sorted (args_sorted1 _) ?_
 unfold Builtin.«sorted»
 refine MV (m:=checkCount "sorted" 1 1 _) (Nb ?_)
 refine MV (collect_list hl ?_ (by rw[RV];lia))
 refine MV (wpAny_newList ?_ (by rw[RV];lia))
 have hsz:((s.heap.push (seqObj "list" #[] 0)).update s.heap.objs.size (Pc (· ++vs.toArray))).objs.size=s.heap.objs.size+1:=by
  rw[Heap.size_update,size_push']
 have hoL:(((s.heap.push (seqObj "list" #[] 0)).update s.heap.objs.size (Pc (· ++vs.toArray))).push (seqObj "list" vs.toArray 0)).get? (s.heap.objs.size+1)=some (seqObj "list" vs.toArray 0):=by
  rw[←hsz];exact Nl _ rfl
 have keep:∀b o,s.heap.get? b=some o→b≠s.heap.objs.size+1∧(((s.heap.push (seqObj "list" #[] 0)).update s.heap.objs.size (Pc (· ++vs.toArray))).push (seqObj "list" vs.toArray 0)).get? b=some o:=fun b o q=>by
  have hlt:b<s.heap.objs.size:=Od q
  refine⟨OA (ON hlt),?_⟩
  rw[UI _ _ _ (by rw[hsz];exact OA (ON hlt)),TY _ _ _ _ (OA hlt),UI _ _ _ (OA hlt)]
  exact q
 show wpAny _ _ _ _ _ { s with heap:=((s.heap.push (seqObj "list" #[] 0)).update s.heap.objs.size (Pc (· ++vs.toArray))).push (seqObj "list" vs.toArray 0) }
 rw[hsz]
 refine MV (OE (PN slot_list_sort ⟨_,hoL,rfl⟩ entry_list_sort (yZ (lt:=lt) (κ:=κ) hoL h2 h64 hok
  (fun H Q k q=>hkind H Q (fun b o e=>k b o (keep b o e).1 (keep b o e).2) q) (fun H i j C k hi hj q=>hask H i j C (fun b o e=>k b o (keep b o e).1 (keep b o e).2) hi hj q) ⟨_,rfl,?_⟩) (args_list_sort _)))
 exact Nb ⟨_,rfl,h⟩
end
section
variable {C:Cx} {W:Wt} {st:ao} {h:NX} {s:MT} {A:NF} {E:MU→MT→Prop} {U:List Na} {Q:MU→MT→Prop}
inductive jb (h:NX) (p:Int×Int) (c:MU):Prop
 |mk (a:Na) (d:Option Na) (sl:Array (Option MU)) (n:Nat) (t u:Vt) (e:c= .ref a) (ho:h.get? a=some ⟨.type "tuple",d,.seq #[.int p.1 t,.int p.2 u] n,sl⟩)
theorem CR{q:Int×Int}{c:MU}(h1:VR C W h (.tup [.int q.1,.int q.2]) c):jb h q c:=by
 refine bc fun hN=>?_
 obtain⟨x,ds,e0,_,⟨⟨cls,d,data,sl⟩,ho,hc,n,hd⟩,hv,_⟩:=h1
 have hc:cls=_:=hc
 have hd:data=_:=hd
 subst hc hd
 obtain⟨c1,r1,e1,⟨t,e2⟩,c2,r2,e3,⟨u,e4⟩,e5⟩:=hv
 have e5:r2=[]:=e5
 rw[e3,e5,e2,e4]at e1
 have:ds= #[Sm q.1 t,Sm q.2 u]:=by rw[←Array.toArray_toList (xs:=ds),e1]
 rw[this]at ho
 exact hN ⟨x,d,sl,n,t,u,e0,ho⟩
theorem pairs_at{l:List V}:∀{ps:List (Int×Int)} {cs:List MU} {i:Nat},pairsOf l=some ps→aY C W h l cs→i<l.length→jb h (ps.getD i (0,0)) (cs.getD i .none):=by
 induction l with
 |nil=>exact fun _ _ hi=>nomatch hi
 |cons v r ih=>
  intro ps cs i e hv hi
  obtain⟨q,e1,e⟩:=af e
  obtain⟨qs,e2,e⟩:=iR e
  obtain⟨c,cr,e3,h1,h2⟩:=hv
  rw[←e,e3]
  cases i with
  |zero=>rw[yP e1]at h1;exact CR h1
  |succ i=>exact ih (ps:=qs) (cs:=cr) (i:=i) e2 h2 (Nat.lt_of_succ_lt_succ hi)
theorem CS{p q:Int×Int}{x y:MU}{C':Bool→MT→Prop}{prog:Rp}{w:Tr}(hx:jb s.heap p x)(hy:jb s.heap q y)(hc:C' (sj p q) s):wpAny (model prog w) A (keyLt' (tuples' true) x y) C' E s:=by
 obtain⟨a,d,sl,n,t,u,rfl,ho⟩:=hx
 obtain⟨b,d',sl',n',t',u',rfl,ho'⟩:=hy
 refine kat_lt ho rfl ho' rfl ?_
 show KatLex prog w A true false C' [(.int p.1 t,.int q.1 t'),(.int p.2 u,.int q.2 u')] 0 s
 refine kat_cons (wpAny_eqBool_int ?_)
 unfold sj at hc
 cases h1:p.1 == q.1 with
 |false=>
  rw[h1,Vw,VM]at hc
  exact kat_no (oneLt_int hc)
 |true=>
  have e1:p.1=q.1:=eq_of_beq h1
  rw[h1,decide_eq_false (by rw[e1];exact VN _),Bool.false_or,P4]at hc
  refine kat_yes (kat_cons (wpAny_eqBool_int ?_))
  cases h2:p.2 == q.2 with
  |true=>
   have e2:p.2=q.2:=eq_of_beq h2
   rw[decide_eq_false (by rw[e2];exact VN _)]at hc
   exact kat_yes (kat_nil hc)
  |false=>exact kat_no (kat_one _ _ (P.lt_int hc))
theorem vU{ps:List (Int×Int)}:∀{cs:List MU},(∀i,i<cs.length→jb h (ps.getD i (0,0)) (cs.getD i .none))→ ∃fs,KatTups h cs fs∧fs.length=cs.length∧ ∀v∈fs,∃i t,v= .int i t:=by
 intro cs
 induction cs generalizing ps with
 |nil=>intro _;exact⟨[],trivial,rfl,by simp⟩
 |cons c cs ih=>
  intro hp
  obtain⟨a,d,sl,n,t,u,e,ho⟩:=hp 0 (OP _)
  obtain⟨fs,k1,k2,k3⟩:=ih (ps:=ps.tail) fun i hi=>by
   have:=hp (i+1) (Q5 hi)
   clear hp e ho
   cases ps with
   |nil=>simpa using this
   |cons p r=>simpa using this
  have e:c= .ref a:=e
  clear hp
  subst e
  refine⟨.int (ps.getD 0 (0,0)).1 t::fs,⟨⟨a,_,_,n,rfl,ho,rfl,rfl,rfl⟩,k1⟩,congrArg (· +1) k2,fun v hv=>?_⟩
  clear e ho
  rcases M5.mp hv with rfl|hv
  ·exact⟨_,_,rfl⟩
  ·exact k3 v hv
theorem jb.keep{h':NX}{p:Int×Int}{c:MU}(k:∀b o,h.get? b=some o→h'.get? b=some o)(x:jb h p c):jb h' p c:=by
 obtain⟨a,d,sl,n,t,u,e,ho⟩:=x
 exact⟨a,d,sl,n,t,u,e,k _ _ ho⟩
theorem aY.Ek{l:List V}{cs:List MU}(r:aY C W h l cs):∀p:List Nat,aY C W h (p.map fun i=>l.getD i .none) (p.map fun i=>cs.getD i .none)
 |[]=>rfl
 |i::p=>by
  refine⟨_,_,rfl,?_,aY.Ek r p⟩
  cases e:l[i]? with
  |none=>
   have e2:cs[i]? =none:=NR.mpr (r.length▸NR.mp e)
   show VR C W h (l.getD i .none) (cs.getD i .none)
   rw[Nj,Nj,e,e2];rfl
  |some v=>
   obtain⟨c,e2,k⟩:=r.get e
   show VR C W h (l.getD i .none) (cs.getD i .none)
   rw[Nj,Nj,e,e2];exact k
theorem sL{l:List V}{v:V}{c:MU}(R:au C W st s)(e:vB l=some v)(r:DR C W s.heap (.lst l) c)(h:Post C U W s st v Q):wpAny (model C.prog C.w) A (call (.builtin "sorted") [c]) Q E s:=by
 obtain⟨ps,e1,ez1⟩:=af e
 obtain⟨⟨hz,hr⟩,ez1z1⟩:=dX ez1
 clear e ez1
 obtain⟨a,cs,rfl,hL,rs,hl⟩:=r
 have hlen:cs.toList.length=4:=rs.length.trans hz
 have hp:∀i,i<cs.toList.length→jb s.heap (ps.getD i (0,0)) (cs.toList.getD i .none):=fun i hi=>pairs_at e1 rs (by rw[hz];exact hlen▸hi)
 refine uh (vs:=cs.toList) (κ:=tuples' true) (lt:=fun i j=>sj (ps.getD i (0,0)) (ps.getD j (0,0))) (ord:=fj ps) (by simpa using hL.isList) (by rw[hlen];decide) (by rw[hlen];decide) (by rw[hlen];exact CQ) (fun H Q k q=>?_) (fun H i j C k hi hj q=>?_) (by rw[hlen];rfl) ?_
 ·obtain⟨fs,k1,k2,k3⟩:=vU (h:=H) fun i hi=>(hp i hi).keep k
  refine kat_kind (T:=.type "int") k1 (by rw[k2,hlen];decide) (fun v hv=>?_) rfl q
  clear h e1 hz hr ez1z1 hL hl hlen hp k1 k2
  obtain⟨i,t,rfl⟩:=k3 v hv
  exact fun _ _ _ _ _ q=>UJ (Sz _ _ _) q
 ·exact CS ((hp i hi).keep k) ((hp j hj).keep k) q
 ·obtain⟨m,hm⟩:=sortedAll_at s.heap cs.toList (SJ ((fj ps).map fun i=>cs.toList.getD i O_))
  have P:PS s { s with heap:=sortedAll s.heap cs.toList (SJ ((fj ps).map fun i=>cs.toList.getD i O_)) }:=⟨fun a o ez1z1=>sortedAll_old ez1z1,rfl,rfl⟩
  clear e1 hz hL hl hlen hp
  subst ez1z1
  exact h.ps R P ⟨_,_,rfl,R.r.fresh (aC (Qg _)),⟨m,hm⟩,aY.ext P.ext (rs.Ek _),by rw[Nq];exact hr⟩
end
end Rk
end

section
namespace Rk
open PySem PySem.W PySem.Calls PyProof.Rows PySem.SeqAt
theorem jP(x:Int):∀l,(m_ x l).Perm (x::l)
 |[]=>.refl _
 |y::r=>by
  show(if x<y then x::y::r else y::m_ x r).Perm _
  split
  ·exact .refl _
  ·exact((jP x r).cons y).trans (.swap x y r)
theorem jd:∀l,(iW l).Perm l
 |[]=>.refl _
 |x::r=>(jP x _).trans ((jd r).cons x)
theorem kZ(x:Int):∀l,l.Pairwise (· ≤ ·)→(m_ x l).Pairwise (· ≤ ·)
 |[],_=>List.pairwise_singleton _ _
 |y::r,h=>by
  rw[PW]at h
  show(if x<y then x::y::r else y::m_ x r).Pairwise _
  split
  ·rename_i hx
   refine PW.mpr ⟨fun z hz=>?_,PW.mpr h⟩
   rcases M5.mp hz with rfl|hz
   ·lia
   ·have:=h.1 z hz;lia
  ·rename_i hx
   refine PW.mpr ⟨fun z hz=>?_,kZ x r h.2⟩
   rcases M5.mp ((jP x r).mem_iff.mp hz)with rfl|hz
   ·lia
   ·exact h.1 z hz
theorem jQ:∀l,(iW l).Pairwise (· ≤ ·)
 |[]=>.nil
 |x::r=>kZ x _ (jQ r)
theorem k_:∀{a b:List Int},a.Perm b→a.Pairwise (· ≤ ·)→b.Pairwise (· ≤ ·)→a=b
 |[],b,p,_,_=>by simpa using p.symm.eq_nil
 |x::r,[],p,_,_=>by have:=p.eq_nil;cases this
 |x::r,y::t,p,h1,h2=>by
  rw[PW]at h1 h2
  have e:x=y:=by
   have a1:x∈y::t:=p.mem_iff.mp (Nk ..)
   have a2:y∈x::r:=p.mem_iff.mpr (Nk ..)
   rcases M5.mp a1 with e|a1
   ·exact e
   ·rcases M5.mp a2 with e|a2
    ·exact e.symm
    ·have:=h1.1 y a2;have:=h2.1 x a1;lia
  subst e
  rw[k_ (p.cons_inv) h1.2 h2.2]
theorem um(m:Int):∀r:List Int,∀x,oF m (r++[x])=if oF m r<x then x else oF m r
 |[],x=>rfl
 |y::r,x=>by simp only[OX,Ar,Aq];exact um _ r x
theorem uo(m:Int):∀r:List Int,∀x,qy m (r++[x])=if x<qy m r then x else qy m r
 |[],x=>rfl
 |y::r,x=>by simp only[OX,Au,As];exact uo _ r x
section
variable {C:Cx} {W W' W'':Wt} {st st':ao} {h h':NX} {s s' s'':MT} {U:List Na} {A:NF} {E:MU→MT→Prop} {Q:MU→MT→Prop}
theorem aY.intz:∀{l:List V} {cs:List MU} {xs:List Int},aY C W h l cs→intsOf l=some xs→IntsAre cs xs
 |[],cs,xs,r,e=>by have r:cs=[]:=r;subst r;exact M0 e▸ .nil
 |v::l,cs,xs,r,e=>by
  cases v with
  |int i=>
   obtain⟨c,cr,rfl,⟨t,rfl⟩,h2⟩:=r
   obtain⟨ys,e2,e⟩:=iR e
   subst e
   exact .cons i t (aY.intz h2 e2)
  |_=>exact ns e
theorem AB:∀{cs:List MU} {xs:List Int},IntsAre cs xs→aY C W h (xs.map .int) cs
 |_,_,.nil=>rfl
 |_,_,.cons n t r=>⟨_,_,rfl,⟨t,rfl⟩,AB r⟩
theorem eH:∀{l:List V} {xs:List Int},intsOf l=some xs→xs.length=l.length
 |[],xs,e=>by exact M0 e▸rfl
 |v::l,xs,e=>by
  cases v with
  |int i=>
   obtain⟨ys,e2,e⟩:=iR e
   subst e
   exact congrArg (· +1) (eH e2)
  |_=>exact ns e
theorem ints_get:∀{cs:List MU} {xs:List Int} {i:Nat} {v:MU},IntsAre cs xs→cs[i]? =some v→ ∃t,v= .int (xs.getD i 0) t
 |_,_,i,v,.nil,e=>nomatch e
 |_,_,0,v,.cons n t r,e=>⟨t,(M0 e).symm⟩
 |_,_,i+1,v,.cons n t r,e=>ints_get (i:=i) r e
theorem preSum_eq(xs:List Int):∀n,n≤xs.length→preSum (fun i=>xs.getD i 0) n=(xs.take n).sum
 |0,_=>by simp[preSum]
 |n+1,hn=>by
  have ih:=preSum_eq xs n (by lia)
  have e:xs.take (n+1)=xs.take n++[xs[n]'(by lia)]:=by simp
  have e2:xs.getD n 0=xs[n]'(by lia):=by simp[Nj,M3 (by lia:n<xs.length)]
  rw[preSum,ih,e,List.sum_append,e2];simp
theorem nI(xs:List Int):∀n,n<xs.length→xs.getD (argBest (fun i j=>decide (xs.getD j 0<xs.getD i 0)) n) 0=oF (xs.getD 0 0) ((xs.take (n+1)).drop 1)
 |0,hn=>by cases xs<;>simp[argBest,Ar,Aq]
 |n+1,hn=>by
  have ih:=nI xs n (by lia)
  rw[argBest]
  have e:(xs.take (n+1+1)).drop 1=(xs.take (n+1)).drop 1++[xs.getD (n+1) 0]:=by
   rw[QL,M3 hn,Rc (by simp;lia)]
   simp[Nj,M3 hn]
  rw[e,um,←ih]
  by_cases hc:xs.getD (argBest (fun i j=>decide (xs.getD j 0<xs.getD i 0)) n) 0<xs.getD (n+1) 0
  ·rw[if_pos hc,if_pos (decide_eq_true hc)]
  ·rw[if_neg hc,if_neg (by rw[decide_eq_false hc];exact Ov)]
theorem nJ(xs:List Int):∀n,n<xs.length→xs.getD (argBest (fun i j=>decide (xs.getD i 0<xs.getD j 0)) n) 0=qy (xs.getD 0 0) ((xs.take (n+1)).drop 1)
 |0,hn=>by cases xs<;>simp[argBest,Au,As]
 |n+1,hn=>by
  have ih:=nJ xs n (by lia)
  rw[argBest]
  have e:(xs.take (n+1+1)).drop 1=(xs.take (n+1)).drop 1++[xs.getD (n+1) 0]:=by
   rw[QL,M3 hn,Rc (by simp;lia)]
   simp[Nj,M3 hn]
  rw[e,uo,←ih]
  by_cases hc:xs.getD (n+1) 0<xs.getD (argBest (fun i j=>decide (xs.getD i 0<xs.getD j 0)) n) 0
  ·rw[if_pos hc,if_pos (decide_eq_true hc)]
  ·rw[if_neg hc,if_neg (by rw[decide_eq_false hc];exact Ov)]
theorem PS.moved{I _l:Na}{o:Ug}{t:Nat}{s s':MT}(hI:I=s.heap.objs.size)(m:Moved [I] (fun a b=>b=a) { s with heap:=s.heap.push o,toks:=t } s'):PS s s':=
 ⟨fun a ob e=>m.heap a ob (fun hm=>by
   simp only[M4]at hm
   subst hm;subst hI
   rw[aC (M9 _)]at e;cases e) (Ni _ e),m.gens,m.os⟩
theorem y9{l:List V}{xs:List Int}{c:MU}{n:Nat}(RA:bL n A)(R:au C W st s)(e:intsOf l=some xs)(r:DR C W s.heap (.lst l) c)(h:Post C U W s st (.int xs.sum) Q):
  wpAny (model C.prog C.w) A (call (.builtin "sum") [c]) Q E s:=by
 obtain⟨a,cs,rfl,hL,rs,hl⟩:=r
 have hI:=rs.intz e
 have hlen:=rs.length
 have hx:=eH e
 have hne:a≠s.heap.objs.size:=fun q=>by obtain⟨k,ho⟩:=hL;rw[q,aC (M9 _)]at ho;cases ho
 refine call_sum_walkAnyS (Qe hL.isList ?_)
 refine⟨_,_,_,_,_,_,_,fun i=>xs.getD i 0,rfl,(Ur (A:=A.in1) RA.handled s.heap.objs.size a hne cs).toS,?_,?_,?_,?_⟩
 ·exact⟨⟨_,Nl _ rfl,rfl,rfl⟩,(hL.isList).push _⟩
 ·intro b hb
  simp only[M5,NI,or_false]at hb
  rcases hb with rfl|rfl
  ·rw[Om];exact OY _
  ·obtain⟨k,ho⟩:=hL;rw[Om];exact ON (Od ho)
 ·intro i v hv
  exact ints_get hI (N2.trans hv)
 ·intro s' t' m
  refine h.ps R (PS.moved (_l:=a) rfl m) ⟨t',?_⟩
  rw[preSum_eq xs cs.size (by simp at hlen;lia),NU (by simp at hlen;lia)]
theorem y_{l:List V}{x:Int}{xs:List Int}{c:MU}{n:Nat}(RA:bL n A)(R:au C W st s)(e:intsOf l=some (x::xs))(r:DR C W s.heap (.lst l) c)(h:Post C U W s st (.int (oF x xs)) Q):
  wpAny (model C.prog C.w) A (call (.builtin "max") [c]) Q E s:=by
 obtain⟨a,cs,rfl,hL,rs,hl⟩:=r
 have hI:=rs.intz e
 have hlen:=rs.length
 have hx:=eH e
 have hz:cs.size=xs.length+1:=by simp at hlen hx;lia
 have hne:a≠s.heap.objs.size:=fun q=>by obtain⟨k,ho⟩:=hL;rw[q,aC (M9 _)]at ho;cases ho
 refine call_max_walkS (Qe hL.isList ?_)
 refine⟨_,_,_,_,_,_,_,fun i j=>decide ((x::xs).getD j 0<(x::xs).getD i 0),rfl,(Ur (A:=A.in1) RA.handled s.heap.objs.size a hne cs).toS,?_,?_,Us (OP _) hz.symm,?_,?_⟩
 ·exact⟨⟨_,Nl _ rfl,rfl,rfl⟩,(hL.isList).push _⟩
 ·intro b hb
  simp only[M5,NI,or_false]at hb
  rcases hb with rfl|rfl
  ·rw[Om];exact OY _
  ·obtain⟨k,ho⟩:=hL;rw[Om];exact ON (Od ho)
 ·intro i j vi vj s Q E hi hj hq
  obtain⟨t,rfl⟩:=ints_get hI (N2.trans hi)
  obtain⟨u,rfl⟩:=ints_get hI (N2.trans hj)
  exact gt_int hq
 ·intro v s' hv m
  obtain⟨t,rfl⟩:=ints_get hI (N2.trans hv)
  refine h.ps R (PS.moved (_l:=a) rfl m) ⟨t,?_⟩
  rw[nI (x::xs) (cs.size-1) (by simp;lia),NU (by simp;lia)]
  rfl
theorem za{l:List V}{x:Int}{xs:List Int}{c:MU}{n:Nat}(RA:bL n A)(R:au C W st s)(e:intsOf l=some (x::xs))(r:DR C W s.heap (.lst l) c)(h:Post C U W s st (.int (qy x xs)) Q):
  wpAny (model C.prog C.w) A (call (.builtin "min") [c]) Q E s:=by
 obtain⟨a,cs,rfl,hL,rs,hl⟩:=r
 have hI:=rs.intz e
 have hlen:=rs.length
 have hx:=eH e
 have hz:cs.size=xs.length+1:=by simp at hlen hx;lia
 have hne:a≠s.heap.objs.size:=fun q=>by obtain⟨k,ho⟩:=hL;rw[q,aC (M9 _)]at ho;cases ho
 refine call_min_walkS (Qe hL.isList ?_)
 refine⟨_,_,_,_,_,_,_,fun i j=>decide ((x::xs).getD i 0<(x::xs).getD j 0),rfl,(Ur (A:=A.in1) RA.handled s.heap.objs.size a hne cs).toS,?_,?_,Us (OP _) hz.symm,?_,?_⟩
 ·exact⟨⟨_,Nl _ rfl,rfl,rfl⟩,(hL.isList).push _⟩
 ·intro b hb
  simp only[M5,NI,or_false]at hb
  rcases hb with rfl|rfl
  ·rw[Om];exact OY _
  ·obtain⟨k,ho⟩:=hL;rw[Om];exact ON (Od ho)
 ·intro i j vi vj s Q E hi hj hq
  obtain⟨t,rfl⟩:=ints_get hI (N2.trans hi)
  obtain⟨u,rfl⟩:=ints_get hI (N2.trans hj)
  exact lt_int hq
 ·intro v s' hv m
  obtain⟨t,rfl⟩:=ints_get hI (N2.trans hv)
  refine h.ps R (PS.moved (_l:=a) rfl m) ⟨t,?_⟩
  rw[nJ (x::xs) (cs.size-1) (by simp;lia),NU (by simp;lia)]
  rfl
theorem sM{l:List V}{xs:List Int}{c:MU}{n:Nat}(RA:bL n A)(R:au C W st s)(h64:l.length<64)(e:intsOf l=some xs)(r:DR C W s.heap (.lst l) c)(h:Post C U W s st (.lst ((iW xs).map .int)) Q):
  wpAny (model C.prog C.w) A (call (.builtin "sorted") [c]) Q E s:=by
 obtain⟨a,cs,rfl,hL,rs,hl⟩:=r
 have hI:=rs.intz e
 have hlen:=rs.length
 have hx:=eH e
 refine sorted_ints (vs:=cs.toList) (ns:=xs) (by simpa using hL.isList) hI (by lia) fun out ns' a1 a2 a3=>?_
 have hs:ns'=iW xs:=k_ (a2.trans (jd xs).symm) a3 (jQ xs)
 subst hs
 have P:PS s { s with heap:=sortedAll s.heap cs.toList out }:=⟨fun a o e=>sortedAll_old e,rfl,rfl⟩
 obtain⟨k,hk⟩:=sortedAll_at s.heap cs.toList out
 have hp:=(jd xs).length_eq
 exact h.ps R P ⟨_,out,rfl,R.r.fresh (aC (Qg _)),⟨k,hk⟩,AB a1,by simp;lia⟩
@[elab_as_elim] theorem aY.zb {M:List MU→Prop} {args:List V} {cs:List MU} {x:V} (r:aY C W s.heap args cs) (R:au C W st s) (hx:args.map (aJ st)=[x]) (k:∀c,DR C W s.heap x c→M [c]):M cs:=by
 cases args with
 |nil=>exact nomatch hx
 |cons a l=>
  obtain⟨c,cr,rfl,h1,h2⟩:=r
  have:=List.map_eq_nil_iff.mp (P5 hx).2
  subst this
  have:cr=[]:=h2
  subst this
  exact k c ((P5 hx).1▸h1.dr R.r)
@[elab_as_elim] theorem aY.Ig {M:List MU→Prop} {args:List V} {cs:List MU} {x y:V} (r:aY C W s.heap args cs) (R:au C W st s) (hx:args.map (aJ st)=[x,y]) (k:∀c d,DR C W s.heap x c→DR C W s.heap y d→M [c,d]):M cs:=by
 cases args with
 |nil=>exact nomatch hx
 |cons a l=>
  obtain⟨c,cr,rfl,h1,h2⟩:=r
  exact h2.zb (M:=fun cr=>M (c::cr)) R (P5 hx).2 fun d hd=>k c d ((P5 hx).1▸h1.dr R.r) hd
theorem zc{x v:V}{c:MU}(R:au C W st s)(e:HR x=some v)(r:DR C W s.heap x c)(h:Post C U W s st v Q):wpAny (model C.prog C.w) A (call (.builtin "len") [c]) Q E s:=by
 have hlid:lid=1048576:=rfl
 cases x with
 |lst l=>exact r.ua rfl fun a xs n ho hz rs hl=>len_list (OC ⟨n,ho⟩) (by lia) ((h.Cz e).ps R (PS.tok ..) ⟨s.toks+1,by rw[hz]⟩)
 |tup l=>exact r.Ib rfl fun a xs d sl n ho hz rs hl=>len_tuple ⟨_,ho,rfl,n,rfl⟩ (by lia) ((h.Cz e).ps R (PS.tok ..) ⟨s.toks+1,by rw[hz]⟩)
 |str l=>exact r.kU rfl fun t hl=>len_str (by show¬((l.length:Nat):Int)≥2^63;lia) ((h.Cz e).ps R (PS.tok ..) ⟨s.toks+1,rfl⟩)
 |_=>exact ns e
theorem xN{α:Type}{args:List V}{f:List Int→Option α}{v:α}(e:((jF args).bind fun x=>(iy x).bind fun l=>(intsOf l).bind f)=some v):∃l xs,args=[.lst l]∧intsOf l=some xs∧f xs=some v:=by
 refine bc fun hN0=>?_
 obtain⟨x,he,e⟩:=af e
 obtain⟨l,hl,e⟩:=af e
 obtain⟨xs,e2,e⟩:=af e
 refine hN0 ?_
 exact⟨l,xs,(dM he).trans (by rw[fK hl]),e2,e⟩
theorem oX{f:Int→Int→Int}{g:Int→List Int→Int}{args:List V}{cs:List MU}{v:V}{b:BI}(R:au C W st s)(e:xE f g (args.map (aJ st))=some v)(r:aY C W s.heap args cs)(h:Post C U W s st v Q)
  (k2:∀a b' t u,Post C U W s st (.int (f a b')) Q→wpAny (model C.prog C.w) A (call (ee b) [.int a t,.int b' u]) Q E s)
  (k1:∀l x xs c,intsOf l=some (x::xs)→DR C W s.heap (.lst l) c→Post C U W s st (.int (g x xs)) Q→wpAny (model C.prog C.w) A (call (ee b) [c]) Q E s):wpAny (model C.prog C.w) A (call (ee b) cs) Q E s:=by
 unfold xE at e
 cases hp:sf (args.map (aJ st))with
 |some p=>
  rw[hp]at e
  refine r.Ig R (jG hp) fun c d rc rd=>?_
  exact DR.dI e rc rd fun a b' t u e=>k2 a b' t u (h.Cz e)
 |none=>
  rw[hp]at e
  refine bc fun hN0=>?_
  obtain⟨l,xs,he,e2,e⟩:=xN e
  obtain⟨q,hq,e⟩:=af e
  refine hN0 ?_
  exact r.zb R he fun c rc=>k1 l q.1 q.2 c (e2.trans (congrArg some (z_ hq))) rc (h.Cz e)
theorem zd{b:BI}{args:List V}{cs:List MU}{v:V}{n:Nat}(RA:bL n A)(R:au C W st s)(e:xF b (args.map (aJ st))=some v)(r:aY C W s.heap args cs)
  (h:Post C U W s st v Q):wpAny (model C.prog C.w) A (call (ee b) cs) Q E s:=by
 cases b with
 |len=>
  obtain⟨x,he,ez1⟩:=af e
  exact r.zb R (dM he) fun c rc=>zc R ez1 rc h
 |sum=>
  obtain⟨l,xs,he,e2,ez2⟩:=xN e
  exact r.zb R he fun c rc=>y9 RA R e2 rc (h.Cz ez2)
 |min=>
  refine oX (b:=.min) R e r h (fun a b t u h=>min_two_ints RA.handled fun h' tk hk=>h.ps R (PS.heap tk hk) ?_) fun l x xs c e2 rc h=>za RA R e2 rc h
  by_cases hc:b<a
  ·simp only[hc,if_true];exact⟨_,rfl⟩
  ·simp only[hc,if_false];exact⟨_,rfl⟩
 |max=>
  refine oX (b:=.max) R e r h (fun a b t u h=>max_two_ints RA.handled fun h' tk hk=>h.ps R (PS.heap tk hk) ?_) fun l x xs c e2 rc h=>y_ RA R e2 rc h
  by_cases hc:a<b
  ·simp only[hc,show b>a from hc,if_true];exact⟨_,rfl⟩
  ·simp only[hc,show¬b>a from hc,if_false];exact⟨_,rfl⟩
 |abs=>
  obtain⟨x,he,ez3⟩:=af e
  obtain⟨a,ha,ez3z1⟩:=af ez3
  refine r.zb R (dM he) fun c rc=>rc.iD (bO ha) fun t=>call_abs_int fun u tk=>(h.Cz ez3z1).ps R (PS.tok ..) ⟨u,?_⟩
  congr 1
  split<;>lia
 |divmod=>
  obtain⟨p,hp,ez4⟩:=af e
  refine r.Ig R (jG hp) fun c d rc rd=>DR.dI ez4 rc rd fun a b t u ez4=>?_
  obtain⟨hb,ez4z1⟩:=xB ez4
  clear e hp ez4
  clear ez4
  subst ez4z1
  exact divmod_int (fun q=>hb (.inl q)) (h.ps R (PS.push ..) (VR.vM R rfl ⟨_,rfl⟩ ⟨_,_,rfl,⟨_,rfl⟩,aY.one ⟨_,rfl⟩⟩ (by show 2≤lid;decide))) (.inl (Sa (Vu.mp fun q=>hb (.inr q))))
 |sorted=>
  obtain⟨x,he,ez5⟩:=af e
  obtain⟨l,hl,ez5z1⟩:=af ez5
  obtain⟨h64,ez5z1z1⟩:=gk ez5z1
  refine r.zb R ((dM he).trans (by rw[fK hl])) fun c rc=>?_
  cases e2:intsOf l with
  |none=>rw[e2]at ez5z1z1;exact sL R ez5z1z1 rc h
  |some xs=>rw[e2]at ez5z1z1;exact sM RA R h64 e2 rc (h.Cz ez5z1z1)
 |_=>exact ns e
end
end Rk
end

section
namespace Rk
open PySem PySem.W PySem.Calls PyProof.Rows PySem.SeqAt
section
variable {C:Cx} {W W' W'':Wt} {st st':ao} {h h':NX} {s s' s'':MT} {U:List Na} {A:NF} {E:MU→MT→Prop} {Q:MU→MT→Prop}
noncomputable def J6(f:MU→Option V):List MU→Option (List V)
 |[]=>some []
 |c::r=>(f c).bind fun v=>(J6 f r).map (v:: ·)
noncomputable def Ih:Data→Option (Array MU)
 |.seq cs _=>some cs
 |_=>none
noncomputable def rd(h:NX):Nat→MU→Option V
 |0,_=>none
 |n+1,c=>match c with
  |.none=>some .none
  |.bool b=>some (.bool b)
  |.int i _=>some (.int i)
  |.str s _=>some (.str s.cps.toList)
  |.ref a=>(h.get? a).bind fun o=>(Ih o.data).bind fun cs=>(J6 (rd h n) cs.toList).map (cond (o.cls == .type "tuple") V.tup V.lst)
  |_=>none
theorem AD{a:Na}{o:Ug}{cs:Array MU}{k n:Nat}{l:List V}(ho:h.get? a=some o)(hd:o.data= .seq cs k)(hl:J6 (rd h n) cs.toList=some l):rd h (n+1) (.ref a)=some ((cond (o.cls == .type "tuple") V.tup V.lst) l):=by
 refine bind_eq ho (bind_eq (a:=cs) (by rw[hd];rfl) ?_)
 rw[hl];rfl
mutual
theorem VR.rd:∀{v:V} {c:MU} {n:Nat},v.data=true→v.dep≤n→VR C W h v c→Rk.rd h (n+1) c=some v
 |.none,c,_,_,_,r=>by have hc:c= .none:=r;subst hc;rfl
 |.bool b,c,_,_,_,r=>by have hc:c= .bool b:=r;subst hc;rfl
 |.int b,c,_,_,_,r=>by obtain⟨t0,rfl⟩:=r;rfl
 |.str b,c,_,_,_,r=>by obtain⟨t0,rfl,_⟩:=r;rfl
 |.tup l,c,n,d,k,r=>by
  obtain⟨a,cs,rfl,_,⟨o,ho,hc,n',hd⟩,rs,_⟩:=r
  cases n with
  |zero=>exact absurd k (Tv _)
  |succ n=>rw[AD ho hd (aY.rd d (SK k) rs),hc];rfl
 |.lst l,c,n,d,k,r=>by
  obtain⟨a,cs,rfl,_,⟨n',ho⟩,rs,_⟩:=r
  cases n with
  |zero=>exact absurd k (Tv _)
  |succ n=>exact AD ho rfl (aY.rd d (SK k) rs)
 |.ref _,_,_,d,_,_=>nomatch d
 |.fn _,_,_,d,_,_=>nomatch d
 |.jt _ _,_,_,d,_,_=>nomatch d
 |.bi _,_,_,d,_,_=>nomatch d
theorem aY.rd:∀{l:List V} {cs:List MU} {n:Nat},bA l=true→fV l≤n→aY C W h l cs→J6 (Rk.rd h (n+1)) cs=some l
 |[],cs,_,_,_,r=>by have r:cs=[]:=r;subst r;rfl
 |v::l,cs,n,d,k,r=>by
  obtain⟨c,cr,rfl,h1,h2⟩:=r
  obtain⟨d1,d2⟩:=band d
  refine bind_eq (VR.rd d1 (M8 (Nat.le_max_left ..) k) h1) ?_
  rw[aY.rd d2 (M8 (Nat.le_max_right ..) k) h2];rfl
end
theorem VR.det{v v':V}{c:MU}(d:v.data=true)(d':v'.data=true)(r:VR C W h v c)(r':VR C W h v' c):v=v':=
 M0 ((r.rd d (N_ v.dep v'.dep)).symm.trans (r'.rd d' (Vq ..)))
noncomputable def El:Mt→Bool→String×String
 |.append,_=>("list","list.append")
 |.insert,_=>("list","list.insert")
 |.reverse,_=>("list","list.reverse")
 |.count,true=>("str","str.count")
 |.count,false=>("list","list.count")
 |.join,_=>("str","str.join")
 |.replace,_=>("str","str.replace")
 |.dG,_=>("int","int.bit_length")
noncomputable def lH:V→Bool
 |.str _=>true
 |_=>false
theorem q4{st:ao}{o:V}{l:List Nat}(e:aJ st o= .str l):lH o=true:=by
 cases o with
 |str=>rfl
 |ref i=>
  have e:(match st.σ[i]? with|some l=>V.lst l|none=>.ref i)= .str l:=e
  cases h:st.σ[i]? <;>rw[h]at e<;>cases e
 |_=>exact nomatch e
theorem ze{st:ao}{o:V}{l:List V}(e:aJ st o= .lst l):lH o=false:=by
 cases o with
 |str=>exact nomatch e
 |_=>rfl
noncomputable def MethAt(C:Cx)(A:NF)(E:MU→MT→Prop)(b:Bool)(m:Mt)(co:MU)(cs:List MU)(Q:MU→MT→Prop)(s:MT):Prop:=wpAny (model C.prog C.w) A (call (.builtin (El m b).2) (co::cs)) Q E s
structure Fi (T:String) (name:NT) (id:String):Prop where
 p:PlainAttrs T
 s:Slot T name id
 t:typeOf (.builtin id)=pure (.type "method_descriptor")
theorem q5(m:Mt)(b:Bool):Fi (El m b).1 m.name (El m b).2:=by
 cases m with
 |append=>exact⟨PO,PySem.F.slot_list_append,PySem.F.type_list_append⟩
 |insert=>exact⟨PO,Se,PySem.F.type_list_insert⟩
 |reverse=>exact⟨PO,RN,PySem.F.type_list_reverse⟩
 |count=>
  cases b
  ·exact⟨PO,Sn,PySem.F.type_list_count⟩
  ·exact⟨QM,PySem.F.slot_str_count,PySem.F.type_str_count⟩
 |join=>exact⟨QM,PySem.F.slot_str_join,PySem.F.type_str_join⟩
 |replace=>exact⟨QM,PySem.F.slot_str_replace,PySem.F.type_str_replace⟩
 |dG=>exact⟨PySem.F.plainAttrs_int,Rr,PySem.F.type_int_bit_length⟩
inductive Ii (C:Cx) (W:Wt) (h:NX) (i:Nat) (l:List V) (c:MU):Prop
 |mk (a:Na) (cs:Array MU) (n:Nat) (e:c= .ref a) (ha:W.ay[i]? =some a) (ho:h.get? a=some { cls:=.type "list",data:=.seq cs n }) (hz:cs.size=l.length) (rs:aY C W h l cs.toList) (hl:l.length≤lid) (hd:bA l=true)
@[elab_as_elim] theorem aY.CT {M:List MU→Prop} {args:List V} {cs:List MU} {x:V} (r:aY C W h args cs) (hx:args=[x]) (k:∀c,VR C W h x c→M [c]):M cs:=by
 subst hx;obtain⟨c,cr,rfl,h1,h2⟩:=r
 have h2:cr=[]:=h2
 subst h2;exact k c h1
theorem aY.Ij{args:List V}{cs:List MU}(r:aY C W h args cs)(hx:args=[]):cs=[]:=by subst hx;exact r
theorem VR.xO(R:au C W st s){i:Nat}{l:List V}{c:MU}(e:st.σ[i]? =some l)(r:VR C W s.heap (.ref i) c):Ii C W s.heap i l c:=by
 obtain⟨a,ha,rfl⟩:=r
 obtain⟨cs,⟨n,ho⟩,h2,h3,h4⟩:=R.r.σ i l a e ha
 exact⟨a,cs,n,rfl,ha,ho,by rw[←h2.length,Oe],h2,h3,h4⟩
theorem gm:∀{l l':List V},bA l=true→bA l'=true→bA (l++l')=true
 |[],_,_,h=>h
 |v::l,l',h,h'=>by
  obtain⟨h1,h2⟩:=band h
  show(v.data&&bA (l++l'))=true
  rw[h1,gm h2 h'];rfl
theorem bG:∀{l:List V},bA l=true ↔ ∀v∈l,v.data=true
 |[]=>by simp[kD,g6]
 |v::l=>by simp[kD,g6,bG (l:=l)]
theorem je{l:Na}{items:Array MU}{n:Nat}{h:NX}(e:h.get? l=some { cls:=.type "list",data:=.seq items n })(f:Array MU→Array MU):
  (h.update l (Pc f)).PlainList l (f items)∧Pf l h (h.update l (Pc f)):=
 ⟨⟨_,IsL.update e f⟩,Rn ..⟩
theorem zf{v:V}(hd:v.data=true):bA [v]=true:=by rw[g6,hd];rfl
theorem mh{i:Nat}{v:V}{l:List V}{co c:MU}(R:au C W st s)(e:st.σ[i]? =some l)(hd:v.data=true)(hl:l.length<lid)(ro:VR C W s.heap (.ref i) co)(rv:VR C W s.heap v c)
  (h:Post C W.ay W s { st with σ:=st.σ.set i (l++[v]) } .none Q):MethAt C A E false .append co [c] Q s:=by
 obtain⟨a,cs,n,rfl,ha,ho,hz,rs,h3,h4⟩:=VR.xO R e ro
 have hL:s.heap.PlainList a cs:=⟨n,ho⟩
 show wpAny _ _ (call (.builtin _) _) _ _ _
 refine So hL (fun h' hL' hs=>?_) (hz▸NH (Nm hl i7))
 obtain⟨S,R'⟩:=au.sI (t:=s.toks) R ha hs hL' (l':=l++[v]) (by rw[UK];exact rs.append (.one rv)) (by rw[Ng];exact hl) (gm h4 (zf hd))
 exact h _ _ _ S R' rfl
theorem lI{l:List V}(h:bA l=true){l':List V}(hs:∀v∈l',v∈l):bA l'=true:=bG.mpr fun x hx=>bG.mp h x (hs x hx)
theorem sN{i:Nat}{v:V}{k:Int}{l:List V}{co ck c:MU}(R:au C W st s)(e:st.σ[i]? =some l)(hd:v.data=true)(hl:l.length<lid)(hk:0≤k)(hk2:k≤l.length)
  (ro:VR C W s.heap (.ref i) co) (rk:VR C W s.heap (.int k) ck) (rv:VR C W s.heap v c)
  (h:Post C W.ay W s { st with σ:=st.σ.set i (l.take k.toNat++v::l.drop k.toNat) } .none Q):MethAt C A E false .insert co [ck,c] Q s:=by
 obtain⟨a,cs,n,rfl,ha,ho,hz,rs,h3,h4⟩:=VR.xO R e ro
 refine rk.iD rfl fun t=>?_
 have hL:=OC ⟨n,ho⟩
 have hl:l.length<1048576:=hl
 show wpAny _ _ (call (.builtin _) _) _ _ _
 refine SD Se hL.typeIs PySem.F.entry_list_insert (PySem.F.args_list_insert_3 _ _ _) (AutoListH.list_insert_list_int_val_1 a cs n k t c (by simp[RD];lia) (by rw[hz];exact NH (Nm hl i7))) ⟨ho,?_⟩
 obtain⟨p1,p2⟩:=je ho (fun xs=>let k':=if k<0 then (k+xs.size).toNat else min k.toNat xs.size;(xs.extract 0 k').push c++xs.extract k')
 have hmin:(if k<0 then (k+cs.size).toNat else min k.toNat cs.size)=k.toNat:=by rw[if_neg (QA.mpr hk),hz];exact PZ (Int.toNat_le.mpr hk2)
 have hlist:((cs.extract 0 k.toNat).push c++cs.extract k.toNat).toList=cs.toList.take k.toNat++c::cs.toList.drop k.toNat:=by
  simp[Array.toList_extract,List.extract_eq_take_drop]
  rw[NU (by simp)]
 obtain⟨S,R'⟩:=au.sI (t:=s.toks) R ha p2 p1 (l':=l.take k.toNat++v::l.drop k.toNat)
  (by simp only[hmin];rw[hlist];exact(aY.take _ rs).append ⟨c,_,rfl,rv,aY.drop _ rs⟩) (by simp;unfold lid;lia)
  (gm (lI h4 fun x hx=>O5 hx) (by rw[g6,hd];exact lI h4 fun x hx=>OI hx))
 exact h _ _ _ S R' rfl
theorem qB{i:Nat}{l:List V}{co:MU}(R:au C W st s)(e:st.σ[i]? =some l)
  (ro:VR C W s.heap (.ref i) co) (h:Post C W.ay W s { st with σ:=st.σ.set i l.reverse } .none Q):MethAt C A E false .reverse co [] Q s:=by
 obtain⟨a,cs,n,rfl,ha,ho,hz,rs,h3,h4⟩:=VR.xO R e ro
 have hL:=OC ⟨n,ho⟩
 show wpAny _ _ (call (.builtin _) _) _ _ _
 refine SD RN hL.typeIs PySem.F.entry_list_reverse (PySem.F.args_list_reverse_1 _) (AutoListH.list_reverse_list_0 a cs n (hz▸M8 h3 i7)) ⟨ho,?_⟩
 obtain⟨p1,p2⟩:=je ho (fun xs=>xs.reverse)
 obtain⟨S,R'⟩:=au.sI (t:=s.toks) R ha p2 p1 (l':=l.reverse) (by rw[Array.toList_reverse];exact rs.reverse) (by rw[N4];exact h3) (lI h4 fun x hx=>Q6.mp hx)
 exact h _ _ _ S R' rfl
open Classical in
theorem AE{x v:V}{c:MU}(d:v.data=true)(r:VR C W h v c):decide (∃v,VR C W h v c∧v.data=true∧oE v x=true)=oE v x:=by
 cases hq:oE v x with
 |true=>exact decide_eq_true ⟨v,r,d,hq⟩
 |false=>
  refine decide_eq_false ?_
  rintro⟨v',r',d',q'⟩
  rw[←VR.det d d' r r',hq]at q';exact nomatch q'
open Classical in
theorem countP_eq{x:V}:∀{l:List V} {cs:List MU},bA l=true→aY C W h l cs→
  cs.countP (fun y=>decide (∃v,VR C W h v y∧v.data=true∧oE v x=true))=ic x l
 |[],cs,_,r=>by subst r;rfl
 |v::l,cs,d,r=>by
  obtain⟨c,cr,rfl,h1,h2⟩:=r
  obtain⟨d1,d2⟩:=band d
  rw[List.countP_cons,countP_eq d2 h2,N6,AE d1 h1];rfl
open Classical in
theorem mj{x:V}{l:List V}{co c:MU}{n:Nat}(RA:bL n A)(hx:x.data=true)(hl:bA l=true)(dx:x.dep≤8)(dl:fV l≤8)
  (ro:DR C W s.heap (.lst l) co) (rx:VR C W s.heap x c) (h:Q (.int (ic x l) s.toks) { s with toks:=s.toks+1 }):MethAt C A E false .count co [c] Q s:=by
 refine ro.ua rfl fun a cs n ho hz rs h3=>?_
 have hL:=OC ⟨n,ho⟩
 show wpAny _ _ (call (.builtin _) _) _ _ _
 refine SD Sn hL.typeIs PySem.F.entry_list_count (PySem.F.args_list_count_2 _ _)
   (list_countAt a cs n none #[] c (fun y=>decide (∃v,VR C W s.heap v y∧v.data=true∧oE v x=true))) ⟨ho,fun y hy=>?_,?_⟩
 ·refine bc fun hN0=>?_
  obtain⟨j,hj⟩:=List.mem_iff_getElem?.mp (Array.mem_toList_iff.mpr hy)
  obtain⟨v,e1,r1⟩:=rs.of hj
  have hd:=bG.mp hl v (Nh e1)
  obtain⟨as,ra⟩:=r1.reads hd
  obtain⟨bs,rb⟩:=rx.reads hx
  refine hN0 ?_
  rw[AE hd r1,←l9 _ _ hd hx]
  refine eqAt_reads _ _ _ _ _ _ _ _ ra rb (kG hd) (kG hx) ?_
  rw[gx,gx]
  have:=RA.units
  show A.units+1+_<_
  lia
 ·show Q (.int ((cs.toList.countP _:Nat):Int) s.toks) _
  rw[countP_eq hl rs]
  exact h
theorem sO{x:V}{l:List V}{co c:MU}{n:Nat}(RA:bL n A)(R:au C W st s)(hx:x.data=true)(hl:bA l=true)(dx:x.dep≤8)(dl:fV l≤8)
  (ro:DR C W s.heap (.lst l) co) (rx:VR C W s.heap x c) (h:Post C U W s st (.int (ic x l)) Q):MethAt C A E false .count co [c] Q s:=
 mj RA hx hl dx dl ro rx (h.ps R (PS.tok ..) ⟨_,rfl⟩)
theorem AF(c y:Nat)(r:List Nat):fL c (y::r)=(if y=c then 1 else 0)+fL c r:=rfl
theorem nK(c:Nat):∀l:List Nat,V0 (.str ⟨#[c]⟩) (l.map fun n=>Vx ⟨#[n]⟩)=(fL c l:Int)
 |[]=>rfl
 |y::l=>by
  simp only[Nz,V0,AF,nK c l]
  have:Spec.same (Vx (⟨#[y]⟩:NT)) (Vx ⟨#[c]⟩)=decide (y=c):=by
   rw[PyProof.V.same_str]
   by_cases hc:y=c
   ·subst hc;simp
   ·rw[decide_eq_false hc,decide_eq_false]
    intro e;apply hc;simpa using e
  rw[this]
  by_cases hc:y=c<;>simp[hc]<;>lia
theorem AG:∀{l:List V} {cs:List MU} {xs:List (List Nat)},aY C W h l cs→strsOf l=some xs→ ∃p:List (NT×Vt),cs=strValues p∧p.map (·.1)=xs.map fun x=>⟨x.toArray⟩
 |[],cs,xs,r,e=>by have r:cs=[]:=r;subst r;exact M0 e▸⟨[],rfl,rfl⟩
 |v::l,cs,xs,r,e=>by
  cases v with
  |str x=>
   obtain⟨c,cr,rfl,⟨t,rfl,_⟩,h2⟩:=r
   obtain⟨ys,e2,e⟩:=iR e
   subst e
   obtain⟨p,rfl,hp⟩:=AG h2 e2
   exact⟨(⟨x.toArray⟩,t)::p,rfl,congrArg (_:: ·) hp⟩
  |_=>exact ns e
theorem mq:∀(xs:List (List Nat)) (acc:Array Nat),(xs.map fun x=>(⟨x.toArray⟩:NT)).foldl (fun acc p=>acc++(⟨#[]⟩:NT).cps++p.cps) acc=(acc.toList++xs.flatten).toArray
 |[],acc=>by simp
 |x::xs,acc=>by
  rw[Nz,S9,mq xs]
  simp
theorem zg(xs:List (List Nat)):V6 ⟨#[]⟩ (xs.map fun x=>⟨x.toArray⟩)=⟨xs.flatten.toArray⟩:=by
 unfold V6 Builtin.Str.glued
 cases xs with
 |nil=>rfl
 |cons x xs=>
  simp only[Nz,List.drop_succ_cons,Tu,Vn]
  rw[mq]
  simp
theorem AH:∀(xs:List (List Nat)) (k:Nat),(xs.map fun x=>(⟨x.toArray⟩:NT)).foldl (fun x1 x2=>x1+x2.length+(⟨#[]⟩:NT).length) k=k+xs.flatten.length
 |[],k=>by simp
 |x::xs,k=>by
  rw[Nz,S9,AH xs]
  simp[Qn];lia
theorem sP{x y v:V}{cx c:MU}{n:Nat}(RA:bL n A)(R:au C W st s)(e:sr st (aJ st x) y=some (v,st'))(rx:VR C W s.heap x cx)(ry:VR C W s.heap y c)
  (h:Post C W.ay W s st' v Q):MethAt C A E (lH x) .count cx [c] Q s:=by
 have rd:=rx.dr R.r
 cases hd:aJ st x with
 |lst l=>
  rw[hd]at e rd
  obtain⟨hi,h⟩:=h.xM e
  obtain⟨h1,h2,h3,h4⟩:=l_ hi
  rw[ze hd]
  exact sO RA R h1 h2 h3 h4 rd ry h
 |str l=>
  rw[hd]at e rd
  obtain⟨a,ha,e⟩:=af e
  obtain⟨c0,hc,e⟩:=af e
  rw[q4 hd]
  refine ry.kU ((eT ha).trans (congrArg V.str (lY hc))) fun u _=>rd.kU rfl fun t _=>?_
  show wpAny _ _ (call (.builtin _) _) _ _ _
  refine SC.count ((h.of e).ps R (PS.tok ..) ⟨s.toks,?_⟩)
  have hc:=PyProof.Rows.count_is ⟨l.toArray⟩ c0
  rw[show(⟨l.toArray⟩:NT).cps.toList=l from rfl,nK]at hc
  show Sm (Txt.count ⟨l.toArray⟩ ⟨#[c0]⟩) _=_
  rw[hc]
 |_=>rw[hd]at e;exact ns e
theorem CU(xs:List (List Nat))(hz:xs.flatten.length≤lid):JoinOk ⟨#[]⟩ (xs.map fun x=>⟨x.toArray⟩):=by
 unfold JoinOk
 rw[List.foldl_toArray]
 show(!TZ ((xs.map fun x=>(⟨x.toArray⟩:NT)).foldl (fun x1 x2=>x1+x2.length+(⟨#[]⟩:NT).length) 0))=true
 rw[AH,PX]
 unfold TZ
 rw[decide_eq_false (by have:=i7;lia)];rfl
theorem uq{m:Mt}{x v:V}{args:List V}{cx:MU}{cs:List MU}{n:Nat}(hm:m.z5=false)(RA:bL n A)(R:au C W st s)(e:eG st m x args=some (v,st'))(rx:VR C W s.heap x cx)(r:aY C W s.heap args cs)
  (h:Post C W.ay W s st' v Q):MethAt C A E (lH x) m cx cs Q s:=by
 cases m with
 |append=>
  obtain⟨y,hy,ez1⟩:=af e
  obtain⟨p,hp,ez1z1⟩:=af ez1
  obtain⟨hd,hz1⟩:=h.xM ez1z1
  obtain⟨hx,hl⟩:=fW hp
  clear hm e h ez1 hp ez1z1
  subst hx
  exact r.CT (dM hy) fun c rc=>mh R hl hd.1 hd.2 rx rc hz1
 |insert=>
  obtain⟨q,hq,ez2⟩:=af e
  obtain⟨k,hk,ez2z1⟩:=af ez2
  obtain⟨p,hp,ez2z1z1⟩:=af ez2z1
  obtain⟨hd,hz2⟩:=h.xM ez2z1z1
  obtain⟨hx,hl⟩:=fW hp
  clear hm e h ez2 ez2z1 hp ez2z1z1
  subst hx
  rw[jG hq,bO hk]at r
  clear hq hk
  obtain⟨c,cr,rfl,h1,h2⟩:=r
  exact h2.CT (M:=fun cr=>MethAt C A E _ _ _ (c::cr) Q s) rfl fun d rd=>sN R hl hd.1 hd.2.1 hd.2.2.1 hd.2.2.2 rx h1 rd hz2
 |reverse=>
  obtain⟨_,hn,ez3⟩:=af e
  obtain⟨p,hp,ez3z1⟩:=af ez3
  obtain⟨hx,hl⟩:=fW hp
  have h:=h.of ez3z1
  clear hm e ez3 hp ez3z1
  subst hx
  rw[r.Ij (iA hn)]
  exact qB R hl rx h
 |count=>
  obtain⟨y,hy,ez4⟩:=af e
  exact r.CT (dM hy) fun c rc=>sP RA R ez4 rx rc h
 |join=>
  obtain⟨t0,ht,ez5⟩:=af e
  obtain⟨_,hn,ez5z1⟩:=af ez5
  obtain⟨o,ho,ez5z1z1⟩:=af ez5z1
  obtain⟨l,hl,ez5z1z1z1⟩:=af ez5z1z1
  obtain⟨xs,hx,ez5z1z1z1z1⟩:=af ez5z1z1z1
  obtain⟨hz,hz3⟩:=h.xM ez5z1z1z1z1
  have ht:=(eT ht).trans (congrArg V.str (iA hn))
  clear hm e h ez5 hn ez5z1 ez5z1z1 ez5z1z1z1 ez5z1z1z1z1
  subst ht
  refine r.CT (dM ho) fun c rc=>(rc.dr R.r).ua (fK hl) fun a ds k ha _ rs _=>rx.kU rfl fun t _=>?_
  obtain⟨p,hp,hp2⟩:=AG rs hx
  show wpAny _ _ (call (.builtin _) _) _ _ _
  refine SC.join (l:=p) (texts:=xs.map fun x=>⟨x.toArray⟩) (by rw[←hp];exact OC ⟨k,ha⟩) hp2 (CU xs hz) fun t' k=>hz3.ps R (PS.tok ..) ⟨t',?_,hz⟩
  show VX (V6 ⟨#[]⟩ _) _=_
  rw[zg]
 |dG=>
  obtain⟨i,hi,ez6⟩:=af e
  obtain⟨_,hn,ez6z1⟩:=af ez6
  have hi:=bO hi
  have h:=h.of ez6z1
  clear hm e ez6 ez6z1
  subst hi
  rw[r.Ij (iA hn)]
  refine rx.iD rfl fun t=>?_
  show wpAny _ _ (call (.builtin "int.bit_length") _) _ _ _
  exact call_gives Rr (Sz _ _ _) PySem.F.entry_int_bit_length (PySem.F.args_int_bit_length_1 _) (AutoIntG2.int_bit_length_int_0 i t) (h.ps R (PS.tok ..) ⟨_,rfl⟩)
 |replace=>exact nomatch hm
end
end Rk
end

section
namespace Rk
open PySem PySem.W PySem.Calls PyProof.Rows PySem.SeqAt
noncomputable def oY(n:NT):Bool:=(n == ("__debug__":NT)) == false&&(n == ("__classdict__":NT)) == false&&true
noncomputable def Mm(C:Cx)(env:OZ):SE→Prop
 |.lc n=>env.kindOf n=some .local
 |.ce n=>env.kindOf n=some .cell
 |.fe n _=>env.kindOf n=some .free∨env.kindOf n=some .cell
 |.gl k=>env.kindOf (dc k)=some .globalImplicit∧k∈C.bN
structure dF (C:Cx) (sc:Sc) (env:OZ):Prop where
 kind:env.scope.kind= .function
 names:∀(i:Nat) x,sc[i]? =some x→Mm C env x∧oY x.name=true
 nodup:(sc.map SE.name).Nodup
 globals:env.globals=mainGlobals
 builtins:env.builtins=builtinsNs
structure bF (C:Cx):Prop where
 mg:C.h₁.Ns mainGlobals C.mg
 mb:C.h₁.Ns builtinsNs C.mb
 cY:∀k∈C.bN,∃c,(C.mg (dc k)=some c∨(C.mg (dc k)=none∧C.mb (dc k)=some c))∧ ∀W h,VR C W h (cH k) c
 limit:C.h₁.NoLimit
 nt:mainGlobals∉C.ta∧builtinsNs∉C.ta∧cStatics∉C.ta
noncomputable def CB(W:Wt)(en:En)(env:OZ):SE→SV→Prop
 |.lc _,.loc _=>True
 |.ce n,.fB k=>∃a,env.cells.lookup n=some a∧W.aB[k]? =some a
 |.fe n _,.fB k=>k<en.kb∧ ∃a,env.cells.lookup n=some a∧W.aB[k]? =some a
 |.gl k,.cY v=>v=cH k
 |_,_=>False
theorem CB.at{W W':Wt}{en en':En}{env:OZ}(hμ:W'.aB=W.aB)(hk:en'.kb=en.kb):∀{x:SE} {w:SV},CB W en env x w→CB W' en' env x w
 |.lc _,.loc _,h=>h
 |.ce _,.fB _,h=>let ⟨a,h1,h2⟩:=h;⟨a,h1,hμ▸h2⟩
 |.fe _ _,.fB _,h=>let ⟨h0,a,h1,h2⟩:=h;⟨hk▸h0,a,h1,hμ▸h2⟩
 |.gl _,.cY _,h=>h
structure Fr (C:Cx) (W:Wt) (sc:Sc) (en:En) (env:OZ) (h:NX):Prop where
 len:en.ρ.length=sc.length
 loc:env.locals∈W.X
 ns:∃m,h.Ns env.locals m∧ ∀(i:Nat) n v,sc[i]? =some (.lc n)→en.ρ[i]? =some (.loc (some v))→ ∃c,m n=some c∧VR C W h v c
 vy:∀(i:Nat) x w,sc[i]? =some x→en.ρ[i]? =some w→CB W en env x w
structure At (C:Cx) (sc:Sc) (env:OZ) (en:En) (W:Wt) (st:ao) (s:MT):Prop where
 r:au C W st s
 fr:Fr C W sc en env s.heap
section
variable {C:Cx} {W W' W'':Wt} {st st':ao} {h h':NX} {s s' s'':MT} {U U':List Na} {A:NF} {E:MU→MT→Prop} {sc:Sc} {env:OZ} {en en':En}
theorem cU(R:au C W st s){a:Na}(ha:a∈W.X):a∉W.ay:=fun hm=>by
 have hn:=R.r.nodup
 simp only[Wt.all]at hn
 exact(M6.mp hn).2.2 a hm a (MZ _ ha) rfl
theorem eJ(R:au C W st s){a:Na}(ha:a∈W.X):a∉W.aB:=fun hm=>by
 have hn:=R.r.nodup
 simp only[Wt.all]at hn
 exact(M6.mp (M6.mp hn).2.1).2.2 a hm a ha rfl
theorem kI(R:au C W st s){a:Na}(ha:a∈W.aB):a∉W.ay:=fun hm=>by
 have hn:=R.r.nodup
 simp only[Wt.all]at hn
 exact(M6.mp hn).2.2 a hm a (M7 _ ha) rfl
theorem bB(R:au C W st s){a:Na}(ha:a∈W.all):a∉C.ta:=fun hm=>by
 obtain⟨T,hT,rfl⟩:=NY.mp hm
 obtain⟨ps,ps',e1,e2⟩:=R.r.grown T hT
 have:=(R.r.lo _ ha).1
 rw[e1]at this;cases this
theorem Fr.step(F:Fr C W sc en env s.heap)(R:au C W st s)(S:Step C U W s W' s')(hU:∀a∈U,a∈W.all)(hL:env.locals∉U):Fr C W' sc en env s'.heap where
 len:=F.len
 loc:=S.X▸F.loc
 ns:=by
  obtain⟨m,hn,hv⟩:=F.ns
  refine⟨m,hn.at' fun o e=>S.keep _ o e hL (bB R (aF F.loc)),fun i n v h1 h2=>?_⟩
  obtain⟨c,h3,h4⟩:=hv i n v h1 h2
  exact⟨c,h3,VR.ext (S.ext hU) h4⟩
 vy:=fun i x w h1 h2=>by
  exact CB.at (S.aB) rfl (F.vy i x w h1 h2)
theorem At.step(X:At C sc env en W st s)(S:Step C W.ay W s W' s')(R':au C W' st' s'):At C sc env en W' st' s':=
 ⟨R',X.fr.step X.r S (fun _ h=>bj h) (cU X.r X.fr.loc)⟩
theorem Step.after(S:Step C W.ay W s W' s')(S':Step C W'.ay W' s' W'' s''):Step C W.ay W s W'' s'':=
 S.trans S' fun a ha=>by
  obtain⟨new,e,hn⟩:=S.ay
  rw[e]at ha
  rcases MX.mp ha with ha|ha
  ·exact .inl ha
  ·exact .inr (hn a ha)
theorem Post.after{st2:ao}{v:V}{Q:MU→MT→Prop}(S:Step C W.ay W s W' s')(h:Post C W.ay W s st2 v Q):Post C W'.ay W' s' st2 v Q:=
 fun c s2 W2 S2 R2 V2=>h c s2 W2 (S.after S2) R2 V2
theorem Ik(ok:bF C)(R:Rel C W st h):h.Ns mainGlobals C.mg∧h.Ns builtinsNs C.mb:=
 ⟨ok.mg.at' fun o e=>R.keep _ o e ok.nt.1,ok.mb.at' fun o e=>R.keep _ o e ok.nt.2.1⟩
theorem kJ(ok:bF C)(R:Rel C W st h):h.NoLimit:=ok.limit.at fun o e=>R.keep _ o e ok.nt.2.2
theorem ni{i:Nat}{v:V}(e:cC en st i=some v):∃w,en.ρ[i]? =some w∧(w= .loc (some v)∨(∃k,w= .fB k∧st.κ[k]? =some (some v))∨w= .cY v):=by
 unfold cC at e
 cases hw:en.ρ[i]? with
 |none=>rw[hw]at e;cases e
 |some w=>
  rw[hw]at e
  clear hw
  refine⟨_,rfl,?_⟩
  cases w with
  |loc o=>exact .inl (congrArg SV.loc e)
  |fB k=>
   refine .inr (.inl ⟨k,rfl,?_⟩)
   replace e:(st.κ[k]?).getD none=some v:=e
   cases e2:st.κ[k]? with
   |none=>rw[e2]at e;cases e
   |some ov=>rw[e2]at e;exact congrArg some e
  |cY w=>exact .inr (.inr (congrArg SV.cY (M0 e)))
theorem lg{i:Nat}{x:SE}(e:sc[i]? =some x):nm sc i=x.name:=by unfold nm;rw[e]
theorem ef(ok:bF C)(B:dF C sc env)(X:At C sc env en W st s){i:Nat}{v:V}{Q:MU→MT→Prop}(e:cC en st i=some v)(h:∀c,VR C W s.heap v c→Q c s):
  wpAny (model C.prog C.w) A (loadName env (nm sc i)) Q E s:=by
 obtain⟨w,hw,hc⟩:=ni e
 have hi:i<sc.length:=X.fr.len▸(MW.mp hw).1
 obtain⟨x,hx⟩:∃x,sc[i]? =some x:=⟨_,M3 hi⟩
 obtain⟨hk,hg⟩:=B.names i x hx
 have hs:=X.fr.vy i x w hx hw
 rw[lg hx]
 have hcell:∀(n:NT) (k:Nat) (a:Na),env.cells.lookup n=some a→W.aB[k]? =some a→st.κ[k]? =some (some v)→ ∃c,s.heap.IsCell a (some c)∧VR C W s.heap v c:=fun n k a h1 h2 h3=>by
  obtain⟨oc,h4,h5⟩:=X.r.r.κ k _ a h3 h2
  clear X e h hw hi hx hg hs
  cases oc with
  |none=>exact h5.elim
  |some c=>exact⟨c,h4,h5⟩
 clear e hi
 rcases hc with rfl|⟨k,rfl,hk2⟩|rfl
 ·clear hg
  cases x with
  |lc n=>
   obtain⟨m,hn,hv⟩:=X.fr.ns
   obtain⟨c,h3,h4⟩:=hv i n v hx hw
   exact Qh B.kind hk hn h3 (h c h4)
  |_=>exact hs.elim
 ·clear X hw hx
  cases x with
  |ce n=>
   obtain⟨a,h1,h2⟩:=hs
   obtain⟨c,h3,h4⟩:=hcell n k a h1 h2 hk2
   exact T4 B.kind hk h1 h3 (h c h4)
  |fe n o=>
   obtain⟨_,a,h1,h2⟩:=hs
   obtain⟨c,h3,h4⟩:=hcell n k a h1 h2 hk2
   rcases hk with hk|hk
   ·have hg:=eq_of_beq (band (band hg).1).2
    exact wpAny_loadName_free B.kind hk h1 h3 (h c h4) hg
   ·exact T4 B.kind hk h1 h3 (h c h4)
  |_=>exact hs.elim
 ·clear hw hx hg
  cases x with
  |gl k=>
   obtain⟨hkz1,hm⟩:=hk
   have hs:v=cH k:=hs
   subst hs
   obtain⟨c,h1,h2⟩:=ok.cY k hm
   have N:=Ik ok X.r.r
   have hbk:env.blockKind= .function:=by unfold VO;rw[B.kind];rfl
   unfold loadName
   rw[B.kind,hbk,show env.kindOf (SE.gl k).name=_ from hkz1]
   show wpAny _ _ (loadGlobal env (dc k)) _ _ _
   rcases h1 with h1|⟨h1,h1'⟩
   ·exact loadGlobal_global (B.globals▸N.1) h1 (h c (h2 W s.heap))
   ·exact loadGlobal_builtin (B.globals▸N.1) h1 (B.builtins▸N.2) h1' (h c (h2 W s.heap))
  |_=>exact hs.elim
noncomputable def Ub(W:Wt)(kb:Nat)(L:Na):List Na:=W.ay++(W.aB.drop kb++[L])
theorem jR(F:Fr C W sc en env h):∀a∈Ub W en.kb env.locals,a∈W.all:=fun a ha=>by
 simp only[Ub,MX,M4]at ha
 rcases ha with ha|ha|rfl
 ·exact bj ha
 ·exact cg (OI ha)
 ·exact aF F.loc
noncomputable def AI(C:Cx)(sc:Sc)(env:OZ)(en en':En)(W:Wt)(st':ao)(s:MT)(Q:MT→Prop):Prop:=
 ∀s',Step C (Ub W en.kb env.locals) W s W s'→At C sc env en' W st' s'→en'.kb=en.kb→Q s'
noncomputable def lj(C:Cx)(sc:Sc)(env:OZ)(en en':En)(W:Wt)(st':ao)(s:MT)(Q:MT→Prop):Prop:=
 ∀s' W',Step C (Ub W en.kb env.locals) W s W' s'→At C sc env en' W' st' s'→en'.kb=en.kb→Q s'
theorem Step.ub{kb:Nat}{L:Na}(S:Step C W.ay W s W' s'):Step C (Ub W kb L) W s W' s':=S.mono fun a ha=>by simp only[Ub,MX];exact .inl ha
theorem Step.bl{kb:Nat}{L:Na}(S:Step C (Ub W kb L) W s W' s')(S':Step C (Ub W' kb L) W' s' W'' s''):Step C (Ub W kb L) W s W'' s'':=
 S.trans S' fun a ha=>by
  obtain⟨new,e,hn⟩:=S.ay
  simp only[Ub,MX,e,S.aB]at ha ⊢
  rcases ha with(ha|ha)|ha
  ·exact .inl (.inl ha)
  ·exact .inr (hn a ha)
  ·exact .inl (.inr ha)
theorem au.zh{a:Na}{t:Nat}(R:au C W st s)(ha:a∈W.X)(hs:Pf a s.heap h')(ho:∃o,h'.get? a=some o):
  (∀U,a∈U→Step C U W s W { s with heap:=h',toks:=t })∧au C W st { s with heap:=h',toks:=t }:=by
 have S:∀U,a∈U→Step C U W s W { s with heap:=h',toks:=t }:=fun U hU=>
  ⟨fun b o e=>if hb:b=a then hb▸ho else⟨o,(hs.2 b hb).trans e⟩,fun b o e hu _=>(hs.2 b (fun q=>hu (q▸hU))).trans e,⟨[],by simp,by simp⟩,rfl,rfl,fun _ _ e=>e⟩
 have X:=(S [a] (by simp)).ext (fun b hb=>by simp at hb;subst hb;exact aF ha)
 have hne:∀b o,C.h₁.get? b=some o→b≠a:=fun b o hb e=>by have:=(R.r.lo a (aF ha)).1;rw[←e,hb]at this;cases this
 have hnt:∀b∈C.ta,b≠a:=fun b hb e=>bB R (aF ha) (e▸hb)
 refine⟨S,⟨⟨fun b o e t=>(hs.2 b (hne b o e)).trans (R.r.keep b o e t),fun T hT=>(R.r.tabs T hT).ext X (fun o e=>(hs.2 _ (hnt _ (Nt hT))).trans e),
  fun T hT=>let ⟨ps,ps',e1,e2⟩:=R.r.grown T hT;⟨ps,ps',e1,(hs.2 _ (hnt _ (Nt hT))).trans e2⟩,R.r.jC,R.r.ng,?_,?_,R.r.nodup,fun b hb=>⟨(R.r.lo b hb).1,let ⟨o,e⟩:=(R.r.lo b hb).2;(S [a] (by simp)).mZ b o e⟩⟩,R.os,R.bare⟩⟩
 ·intro j l b e1 e2
  obtain⟨cs,⟨n,ho⟩,h2,h3⟩:=R.r.σ j l b e1 e2
  have hb:b≠a:=fun e=>cU R ha (e▸Nh e2)
  exact⟨cs,⟨n,(hs.2 b hb).trans ho⟩,aY.ext X h2,h3⟩
 ·intro k ov b e1 e2
  obtain⟨oc,⟨o',ho,hd⟩,h2⟩:=R.r.κ k ov b e1 e2
  have hb:b≠a:=fun e=>eJ R ha (e▸Nh e2)
  exact⟨oc,⟨o',(hs.2 b hb).trans ho,hd⟩,h2.ext X⟩
theorem au.CV{k:Nat}{v:V}{c:MU}{a:Na}{t:Nat}(R:au C W st s)(hk:k<st.κ.length)(ha:W.aB[k]? =some a)(hs:Pf a s.heap h')(hc:h'.IsCell a (some c))(hv:VR C W s.heap v c):
  (∀U,a∈U→Step C U W s W { s with heap:=h',toks:=t })∧au C W { st with κ:=st.κ.set k (some v) } { s with heap:=h',toks:=t }:=by
 have hmem:a∈W.aB:=Nh ha
 have ho:∃o,h'.get? a=some o:=let ⟨o,e,_⟩:=hc;⟨o,e⟩
 have S:∀U,a∈U→Step C U W s W { s with heap:=h',toks:=t }:=fun U hU=>
  ⟨fun b o e=>if hb:b=a then hb▸ho else⟨o,(hs.2 b hb).trans e⟩,fun b o e hu _=>(hs.2 b (fun q=>hu (q▸hU))).trans e,⟨[],by simp,by simp⟩,rfl,rfl,fun _ _ e=>e⟩
 have X:=(S [a] (by simp)).ext (fun b hb=>by simp at hb;subst hb;exact cg hmem)
 have hne:∀b o,C.h₁.get? b=some o→b≠a:=fun b o hb e=>by have:=(R.r.lo a (cg hmem)).1;rw[←e,hb]at this;cases this
 have hnt:∀b∈C.ta,b≠a:=fun b hb e=>bB R (cg hmem) (e▸hb)
 refine⟨S,⟨⟨fun b o e t=>(hs.2 b (hne b o e)).trans (R.r.keep b o e t),fun T hT=>(R.r.tabs T hT).ext X (fun o e=>(hs.2 _ (hnt _ (Nt hT))).trans e),
  fun T hT=>let ⟨ps,ps',e1,e2⟩:=R.r.grown T hT;⟨ps,ps',e1,(hs.2 _ (hnt _ (Nt hT))).trans e2⟩,R.r.jC,by simp[R.r.ng],?_,?_,R.r.nodup,fun b hb=>⟨(R.r.lo b hb).1,let ⟨o,e⟩:=(R.r.lo b hb).2;(S [a] (by simp)).mZ b o e⟩⟩,R.os,R.bare⟩⟩
 ·intro j l b e1 e2
  obtain⟨cs,⟨n,ho⟩,h2,h3⟩:=R.r.σ j l b e1 e2
  have hb:b≠a:=fun e=>kI R hmem (e▸Nh e2)
  exact⟨cs,⟨n,(hs.2 b hb).trans ho⟩,aY.ext X h2,h3⟩
 ·intro j ov b e1 e2
  by_cases hj:j=k
  ·subst hj
   rw[ha]at e2;cases e2
   simp only[Nv hk,NP]at e1
   subst e1
   exact⟨some c,hc,VR.ext X hv⟩
  ·rw[Ou (fun e=>hj e.symm)]at e1
   obtain⟨oc,⟨o',ho,hd⟩,h2⟩:=R.r.κ j ov b e1 e2
   have hn:=R.r.nodup
   simp only[Wt.all]at hn
   have hb:b≠a:=fun e=>hj (kY (M6.mp (M6.mp hn).2.1).1 e2 (e▸ha))
   exact⟨oc,⟨o',(hs.2 b hb).trans ho,hd⟩,h2.ext X⟩
theorem mu{i:Nat}{v:V}(e:fC en st i v=some (en',st')):(∃ov,en.ρ[i]? =some (.loc ov)∧en'={ en with ρ:=en.ρ.set i (.loc (some v)) }∧st'=st)∨(∃k,en.ρ[i]? =some (.fB k)∧(en.kb≤k∧k<st.κ.length)∧en'=en∧st'={ st with κ:=st.κ.set k (some v) }):=by
 unfold fC at e
 cases h:en.ρ[i]? with
 |none=>rw[h]at e;cases e
 |some w=>rw[h]at e;cases w with
  |loc ov=>cases e;exact .inl ⟨ov,rfl,rfl,rfl⟩
  |fB k=>obtain⟨hc,e'⟩:=dX e;cases e';exact .inr ⟨k,rfl,hc,rfl,rfl⟩
  |cY _=>cases e
theorem cT(B:dF C sc env)(X:At C sc env en W st s){i:Nat}{v:V}{c:MU}{Q:Unit→MT→Prop}(e:fC en st i v=some (en',st'))(hv:VR C W s.heap v c)
  (h:AI C sc env en en' W st' s (Q ())):
  wpAny (model C.prog C.w) A (storeName env (nm sc i) c) Q E s:=by
 rcases mu e with⟨ov,hw,rfl,rfl⟩|⟨k,hw,hkk,rfl,rfl⟩
 ·have hi:i<en.ρ.length:=(MW.mp hw).1
  obtain⟨x,hx⟩:∃x,sc[i]? =some x:=⟨_,M3 (X.fr.len▸hi)⟩
  obtain⟨hk,hg⟩:=B.names i x hx
  have hs:=X.fr.vy i x _ hx hw
  rw[lg hx]
  clear hg
  cases x with
  |lc n=>
   obtain⟨m,hn,hm⟩:=X.fr.ns
   refine Pr hk hn (fun h' hn' hs'=>?_) (by rw[B.kind];rfl)
   obtain⟨S,R'⟩:=au.zh (t:=s.toks+1) X.r X.fr.loc hs' (let ⟨o,_,_,e,_⟩:=hn';⟨o,e⟩)
   have S1:=S (Ub W en.kb env.locals) (by simp[Ub])
   have Xt:=S1.ext (jR X.fr)
   refine h _ S1 ⟨R',⟨by simp[X.fr.len],X.fr.loc,⟨_,hn',fun j n' v' h1 h2=>?_⟩,fun j x' w' h1 h2=>?_⟩⟩ rfl
   ·by_cases hj:j=i
    ·clear hn' hs' S1
     subst hj
     rw[hx]at h1;cases h1
     simp only[Nv hi,NP,SV.loc.injEq]at h2
     clear hi hx
     subst h2
     exact⟨c,by simp[SE.name],VR.ext Xt hv⟩
    ·rw[Ou (fun e=>hj e.symm)]at h2
     obtain⟨c',h3,h4⟩:=hm j n' v' h1 h2
     have hne:n'≠n:=fun e=>hj (by
      have:=B.nodup
      have e1:(sc.map SE.name)[j]? =some n:=by rw[Nr,h1];simp[SE.name,e]
      have e2:(sc.map SE.name)[i]? =some n:=by rw[Nr,hx];simp[SE.name]
      have h1':=MW.mp e1
      have h2':=MW.mp e2
      exact(Qm this).mp (h1'.2.trans h2'.2.symm))
     exact⟨c',(if_neg hne).trans h3,VR.ext Xt h4⟩
   ·by_cases hj:j=i
    ·clear hn' hs' S1 Xt
     subst hj
     rw[hx]at h1;cases h1
     simp only[Nv hi,NP]at h2
     clear hi hx
     subst h2
     trivial
    ·rw[Ou (fun e=>hj e.symm)]at h2
     exact CB.at rfl rfl (X.fr.vy j x' w' h1 h2)
  |_=>exact hs.elim
 ·have hi:i<en'.ρ.length:=(MW.mp hw).1
  obtain⟨x,hx⟩:∃x,sc[i]? =some x:=⟨_,M3 (X.fr.len▸hi)⟩
  obtain⟨hk,hg⟩:=B.names i x hx
  have hs:=X.fr.vy i x _ hx hw
  rw[lg hx]
  clear hi hx hg
  cases x with
  |ce n=>
   obtain⟨a,h1,h2⟩:=hs
   obtain⟨ov,hov⟩:∃ov,st.κ[k]? =some ov:=⟨_,M3 hkk.2⟩
   obtain⟨oc,hc,_⟩:=X.r.r.κ k ov a hov h2
   refine wpAny_storeName_cell B.kind hk h1 hc fun h' hc' hs'=>?_
   obtain⟨S,R'⟩:=au.CV (t:=s.toks) X.r hkk.2 h2 hs' hc' hv
   have hmem:a∈W.aB.drop en'.kb:=by
    have:(W.aB.drop en'.kb)[k-en'.kb]? =some a:=by rw[Ut,OB hkk.1];exact h2
    exact Nh this
   have S1:=S (Ub W en'.kb env.locals) (MZ _ (M7 _ hmem))
   have hne:env.locals≠a:=fun e=>eJ X.r X.fr.loc (e▸Nh h2)
   exact h _ S1 ⟨R',X.fr.step X.r (S [a] (M4.mpr rfl)) (fun b hb=>M4.mp hb▸cg (Nh h2)) fun hm=>hne (M4.mp hm)⟩ rfl
  |fe n o=>exact absurd hs.1 (Pn.mpr hkk.1)
  |_=>exact hs.elim
theorem mw:starEach [] env=[]:=by first|rfl|simp only[starEach]
theorem ej:∀(l:List (Nat×NW)),assignEach (jE sc l) env=l.map fun x=>(false,assign (.Name (nm sc x.1) x.2) env)
 |[]=>by first|rfl|simp only[sC,sD,assignEach,PY]
 |x::r=>by
  have ih:=ej r
  simp only[sC,sD,Nz]
  rw[show assignEach (ND (nm sc x.1) x.2::jE sc r) env=(false,assign (.Name (nm sc x.1) x.2) env)::assignEach (jE sc r) env from by first|rfl|simp only[assignEach],ih]
theorem eA(B:dF C sc env)(f:Nat×NW→MU→RE Unit)(hf:∀x v (Q:Unit→MT→Prop) s,wpAny (model C.prog C.w) A (storeName env (nm sc x.1) v) Q E s→wpAny (model C.prog C.w) A (f x v) Q E s):
  ∀(l:List (Nat×NW)) (vs:List V) (cs:List MU) (en:En) (st:ao) (s:MT) (Q:Unit→MT→Prop) (_:At C sc env en W st s) (_:jH l vs en st=some (en',st')) (_:aY C W s.heap vs cs)
  (_:AI C sc env en en' W st' s (Q ())),
  wpAny (model C.prog C.w) A (assignInOrder (l.map f) cs) Q E s
 |[],vs,cs,en,st,s,Q,X,e,hv,h=>by
  obtain⟨_,e1,e'⟩:=af e;clear e
  have:=iA e1;subst this
  obtain⟨rfl,rfl⟩:=aP e'
  cases hv
  show wpAny _ _ (pure ()) Q E s
  exact Nb (h s .refl X rfl)
 |x::l,[],_,_,_,_,_,_,e,_,_=>by cases e
 |x::l,v::vs,cs,en,st,s,Q,X,e,hv,h=>by
  obtain⟨c,cr,rfl,h1,h2⟩:=hv
  obtain⟨bV,st1,e1,e'⟩:=az e;clear e
  show wpAny _ _ (do holding cr (f x c);assignInOrder (l.map f) cr) Q E s
  refine MV (OE (hf x c _ s (cT B X e1 h1 fun s1 S1 X1 hk1=>?_)))
  exact eA B f hf l vs cr bV st1 s1 Q X1 e' (aY.ext (S1.ext (jR X.fr)) h2) fun s2 S2 X2 hk2=>h s2 (S1.bl (hk1▸S2)) X2 (hk2.trans hk1)
theorem lJ:∀{l:List (Nat×NW)} {vs:List V} {en en':En} {st st':ao},jH l vs en st=some (en',st')→l.length=vs.length
 |[],vs,_,_,_,_,e=>by
  obtain⟨_,e1,_⟩:=af e
  rw[iA e1];rfl
 |x::l,[],_,_,_,_,e=>by cases e
 |x::l,v::vs,en,en',st,st',e=>by
  obtain⟨bV,st1,_,e'⟩:=az e
  exact congrArg (· +1) (lJ e')
theorem my{elts:List PK}{k:Nat}{pos:NW}{l:Na}{items:Array MU}{Q:Unit→MT→Prop}(hh:A.handled=none)(hl:s.heap.IsList l items)(hn:(assignEach elts env).length=items.size)
  (hstar:(assignEach elts env).findIdx? (·.1)=none) (h:∀h',PU s.heap.objs.size s.heap h'→wpAny (model C.prog C.w) A (assignInOrder ((assignEach elts env).map (·.2)) items.toList) Q E { s with heap:=h' }):
  wpAny (model C.prog C.w) A (assign (.Tuple elts k pos) env (.ref l)) Q E s:=by
 rw[arm_assign_Tuple]
 refine MV (N9 ?_)
 unfold unpack
 rw[hn,hstar]
 exact MV (OE (kun_itemsOf hh hl h))
theorem fm(hh:A.handled=none)(B:dF C sc env)(X:At C sc env en W st s){t:T}{v:V}{c:MU}{Q:Unit→MT→Prop}(e:gU t v en st=some (en',st'))(hv:VR C W s.heap v c)
  (h:AI C sc env en en' W st' s (Q ())):
  wpAny (model C.prog C.w) A (assign (toT sc t) env c) Q E s:=by
 cases t with
 |bM i p=>exact RW (cT B X e hv h)
 |tup l k p=>
  obtain⟨xs,e1,e'⟩:=af e;clear e
  have fin:∀(a:Na) (cs:Array MU) (h':NX),aY C W s.heap xs cs.toList→PU s.heap.objs.size s.heap h'→wpAny (model C.prog C.w) A (assignInOrder ((assignEach (jE sc l) env).map (·.2)) cs.toList) Q E { s with heap:=h' }:=fun a cs h' hv he=>by
   rw[ej,Oa,show((fun x:Bool×(MU→RE Unit)=>x.2) ∘ fun x:Nat×NW=>(false,assign (.Name (nm sc x.1) x.2) env))=fun x:Nat×NW=>assign (.Name (nm sc x.1) x.2) env from rfl]
   have P:PS s { s with heap:=h' }:=⟨fun b o eb=>he b o (OA (Od eb)) eb,rfl,rfl⟩
   refine eA (W:=W) B (fun x:Nat×NW=>assign (.Name (nm sc x.1) x.2) env) (fun x v Q s hq=>RW hq) l xs cs.toList en st _ Q ⟨X.r.ps P,X.fr.step X.r (P.step (U:=[])) (fun _ h=>by cases h) (fun h=>by cases h)⟩ e' (aY.ext P.ext hv) fun s2 S2 X2 hk2=>?_
   exact h s2 ((P.step (U:=Ub W en.kb env.locals)).bl S2) X2 hk2
  have hl1:∀cs:Array MU,aY C W s.heap xs cs.toList→(assignEach (jE sc l) env).length=cs.size:=fun cs hv=>by
   rw[ej,Nq,lJ e',←hv.length];rfl
  have hs1:(assignEach (jE sc l) env).findIdx? (·.1)=none:=by rw[ej];simp
  rcases yO e1 with rfl|rfl
  ·obtain⟨a,cs,rfl,hf,ht,hv,hl⟩:=hv
   exact wpAny_assign_Tuple hh ht (hl1 cs hv) hs1 fun h' he=>fin a cs h' hv he
  ·obtain⟨a,cs,rfl,hf,ht,hv,hl⟩:=hv
   exact my hh ht.isList (hl1 cs hv) hs1 fun h' he=>fin a cs h' hv he
end
end Rk
end

section
namespace Rk
open PySem PySem.W PySem.Calls PyProof.Rows PySem.SeqAt
noncomputable def code(n:NT):Nat:=n.cps.toList.foldl (fun a c=>a*1114113+(c+1)) 0
noncomputable def oZ:List Nat→Bool
 |[]=>true
 |x::r=> !(r.any (· == x))&&oZ r
theorem AJ(x:Nat)(r:List Nat):oZ (x::r)=(!(r.any (· == x))&&oZ r):=rfl
theorem q6:∀{l:List Nat},oZ l=true→l.Nodup
 |[],_=>OQ
 |x::r,h=>by
  simp only[AJ,Nu,Qf,List.any_eq_false,beq_iff_eq]at h
  exact NK.mpr ⟨fun hm=>h.1 x hm rfl,q6 h.2⟩
theorem mz{α β:Type}(f:α→β):∀{l:List α},(l.map f).Nodup→l.Nodup
 |[],_=>OQ
 |x::r,h=>by
  rw[Nz,NK]at h
  exact NK.mpr ⟨fun hm=>h.1 (Nt hm),mz f h.2⟩
noncomputable def KQ(gs:List Nat):SE→Bool
 |.gl k=>gs.any (· == k)
 |_=>true
noncomputable def mC(gs:List Nat)(sc:Sc):Bool:=oZ (sc.map fun x=>code x.name)&&(sc.all fun x=>oY x.name&&KQ gs x)
noncomputable def zj(outer:Sc):SE→Bool
 |.fe n o=>match outer[o]? with
  |some (.ce m)=>m == n
  |some (.fe m _)=>m == n
  |_=>false
 |_=>true
noncomputable def vV:T→Bool
 |.tup .. =>true
 |_=>false
noncomputable def Fj:Option SE→Option Nat
 |some (.gl k)=>some k
 |_=>none
theorem AK{o:Option SE}{k:Nat}(h:Fj o=some k):o=some (.gl k):=by
 cases o with
 |none=>cases h
 |some v=>cases v<;>first|(cases h;rfl)|cases h
noncomputable def Il:E→Option Nat
 |.var i _=>some i
 |_=>none
noncomputable def Im:BI→Bool
 |.enumerate=>true
 |_=>false
noncomputable def o4:V→Bool
 |.bi b=>Im b
 |_=>false
noncomputable def CW(sc:Sc)(t:T)(i:Nat):Bool:=(Fj sc[i]?).elim false fun k=> !(o4 (cH k)) || vV t
noncomputable def AL(sc:Sc)(t:T)(e:E):Bool:=match e with
 |.call f _ _ _ _=>(Il f).elim false (CW sc t)
 |_=>true
theorem AM{sc:Sc}{t:T}{i:Nat}(h:CW sc t i=true):∃k,sc[i]? =some (.gl k)∧(!(o4 (cH k)) || vV t)=true:=by
 unfold CW at h
 cases e:Fj sc[i]? with
 |none=>rw[e]at h;cases h
 |some k=>rw[e]at h;exact⟨k,AK e,h⟩
noncomputable def isVar:E→Bool
 |.var .. =>true
 |_=>false
noncomputable def isCall:E→Bool
 |.call .. =>true
 |_=>false
noncomputable def Es.len:Es→Nat
 |.nil=>0
 |.cons _ r=>r.len+1
mutual
noncomputable def fG(gs:List Nat):E→Sc→Bool
 |.cS l _ _,_=>decide (l.length<1000)
 |.bin _ a b _,sc=>fG gs a sc&&fG gs b sc
 |.tR a b _,sc=>fG gs a sc&&fG gs b sc
 |.un _ a _,sc=>fG gs a sc
 |.cmp _ a b _,sc=>fG gs a sc&&fG gs b sc
 |.qv t a b _,sc=>fG gs t sc&&fG gs a sc&&fG gs b sc
 |.qQ _ l _,sc=>gF gs l sc
 |.jD l _,sc=>gF gs l sc&&decide (l.len<1000)
 |.tup l _ _,sc=>gF gs l sc&&decide (l.len<1000)
 |.idx a i _,sc=>fG gs a sc&&fG gs i sc
 |.slc a lo hi st _ _,sc=>fG gs a sc&&fG gs lo sc&&fG gs hi sc&&fG gs st sc
 |.call f l key _ _,sc=>isVar f&&fG gs f sc&&gF gs l sc&&fG gs key sc&& !fN l&&decide (l.len<20)
 |.d8 o m l q p,sc=>fG gs o sc&&gF gs l sc&& !isCall o&&(q.endLine == p.line)&&decide (l.len<20)&& !m.z5
 |.comp elt g s _,sc=>mC gs s&&s.all (zj sc)&&fG gs elt s&&KR gs g sc s
 |_,_=>true
noncomputable def gF(gs:List Nat):Es→Sc→Bool
 |.nil,_=>true
 |.cons e r,sc=>fG gs e sc&&gF gs r sc
noncomputable def KR(gs:List Nat):Gs→Sc→Sc→Bool
 |.nil,_,_=>false
 |.cons t it ifs r,sc,s=>AL sc t it&&fG gs it sc&&gF gs ifs s&&KS gs r s
noncomputable def KS(gs:List Nat):Gs→Sc→Bool
 |.nil,_=>true
 |.cons t it ifs r,s=>AL s t it&&fG gs it s&&gF gs ifs s&&KS gs r s
end
theorem fO{gs:List Nat}{sc:Sc}(h:mC gs sc=true):(sc.map SE.name).Nodup:=by
 simp only[mC,Nu]at h
 have:=q6 h.1
 rw[show(sc.map fun x=>code x.name)=(sc.map SE.name).map code by rw[Oa];rfl]at this
 exact mz code this
structure aL (wr:List Na) (gw:List Nat) (s s':MT):Prop where
 keep:∀a o,s.heap.get? a=some o→a∉wr→s'.heap.get? a=some o
 os:s'.os=s.os
 gens:∀(g:Nat) gs,s.gens[g]? =some gs→g∉gw→s'.gens[g]? =some gs
 bare:QH s.gens→QH s'.gens
structure J7 (s s':MT):Prop where
 keep:∀a o,s.heap.get? a=some o→s'.heap.get? a=some o
 os:s'.os=s.os
 gens:∀(g:Nat) gs,s.gens[g]? =some gs→s'.gens[g]? =some gs
 bare:QH s.gens→QH s'.gens
theorem PS.g{s s':MT}(P:PS s s'):J7 s s':=⟨P.keep,P.os,fun g gs e=>by rw[P.gens];exact e,fun h=>by rw[P.gens];exact h⟩
noncomputable def sQ(C:Cx)(W:Wt)(h:NX)(xs:List V)(cs:List MU)(fz:List (Na×Ug)):Prop:=
 aY C W h xs cs∧ ∀p∈fz,fD C W p.1∧h.get? p.1=some p.2
theorem sQ.ext{C:Cx}{W W':Wt}{h h':NX}{xs:List V}{cs:List MU}{fz:List (Na×Ug)}(x:Ext C W h W' h')(H:sQ C W h xs cs fz):sQ C W' h' xs cs fz:=
 ⟨aY.ext x H.1,fun p hp=>x.f _ _ (H.2 p hp).1 (H.2 p hp).2⟩
structure It (C:Cx) (A:NF) (tg:PK) (I:Na) (xs:List V) (cs:List MU) (fz:List (Na×Ug)) (nx:ao→Nat→Option V) (gw:List Nat) (St:Nat→List Na→MT→Prop):Prop where
 frame:∀i wr s s',St i wr s→(∀b∈wr,∀o,s.heap.get? b=some o→s'.heap.get? b=some o)→(∀(g:Nat) gs,s.gens[g]? =some gs→s'.gens[g]? =some gs)→St i wr s'
 live:∀i wr s,St i wr s→ ∀b∈wr,∃o,s.heap.get? b=some o
 item:∀i v s W st wr (Q:MU→MT→Prop) Ex,nx st i=some v→St i wr s→(∀b∈wr,b∈W.X)→au C W st s→sQ C W s.heap xs cs fz→
  (∀c s' new,new.Nodup→(∀b∈new,s.heap.get? b=none∧ ∃o,s'.heap.get? b=some o)→aL wr gw s s'→St (i+1) (new++wr) s'→VR C { W with X:=new++W.X } s'.heap v c→Q c s')→
  wpAny (model C.prog C.w) A (pyNext (.ref I)) (fun r s1=>∃c,r=some c∧wpAny (model C.prog C.w) A (letOwnedTupleGo tg (.ref I) c) (fun _ s'=>Q c s') Ex s1) Ex s
 done:∀i s W st wr (Q:Option MU→MT→Prop) Ex,nx st i=none→St i wr s→(∀b∈wr,b∈W.X)→au C W st s→sQ C W s.heap xs cs fz→
  (∀s',aL wr gw s s'→Q none s')→wpAny (model C.prog C.w) A (pyNext (.ref I)) Q Ex s
 self:∀i wr s (Q:MU→MT→Prop) Ex,St i wr s→Q (.ref I) s→wpAny (model C.prog C.w) A (pyIter (.ref I)) Q Ex s
noncomputable def vW(src:V)(st:ao)(j:Nat):Option V:=match src with
 |.ref i=>(st.σ[i]?).bind (·[j]?)
 |src=>(ig src).bind (·[j]?)
noncomputable def xP(st:ao)(src:V):Prop:=match src with
 |.ref i=>∃l,st.σ[i]? =some l
 |src=>∃l,ig src=some l
noncomputable def fH(C:Cx)(A:NF)(tg:PK)(W:Wt)(s:MT)(st':ao)(src:V)(Q:MU→MT→Prop):Prop:=
 ∀I s1 s2 W1 xs cs fz wr gw St,Step C W.ay W s W1 s1→au C W1 st' s1→J7 s1 s2→wr.Nodup→(∀b∈wr,s1.heap.get? b=none∧ ∃o,s2.heap.get? b=some o)→(∀g∈gw,s1.gens.size≤g)→
  sQ C W1 s1.heap xs cs fz→It C A tg I xs cs fz (vW src) gw St→St 0 wr s2→Q (.ref I) s2
section
variable (C:Cx) (O:cQ) (n:Nat)
noncomputable def bJ(e:E):Prop:=∀{sc:Sc} {env:OZ} {en:En} {W:Wt} {st st':ao} {s:MT} {A:NF} {Ex:MU→MT→Prop} {Q:MU→MT→Prop} {v:V},
 fG C.bN e sc=true→dF C sc env→At C sc env en W st s→bL n A→ak O e .val en st=some (v,st')→Post C W.ay W s st' v Q→wpAny (model C.prog C.w) A (eval (bw e sc) env) Q Ex s
noncomputable def dO(e:E):Prop:=∀{sc:Sc} {env:OZ} {en:En} {W:Wt} {st st':ao} {s:MT} {A:NF} {Ex:MU→MT→Prop} {Q:Bool→MT→Prop} {b:Bool},
 fG C.bN e sc=true→dF C sc env→At C sc env en W st s→bL n A→a_ (ak O e .test en st)=some (b,st')→(∀s' W',Step C W.ay W s W' s'→au C W' st' s'→Q b s')→
 wpAny (model C.prog C.w) A (isTrue (bw e sc) env (eval (bw e sc) env)) Q Ex s
noncomputable def AN(e:E):Prop:=∀{sc:Sc} {env:OZ} {en:En} {W:Wt} {st st':ao} {s:MT} {A:NF} {Ex:MU→MT→Prop} {Q:MU→MT→Prop} {src:V} {t:T} {sc':Sc},
 fG C.bN e sc=true→AL sc t e=true→dF C sc env→At C sc env en W st s→bL n A→ak O e .iter en st=some (src,st')→xP st' src→fH C A (toT sc' t) W s st' src Q→
 wpAny (model C.prog C.w) A (eval (bw e sc) env) (fun x s'=>wpAny (model C.prog C.w) A (pyIter x) Q Ex s') Ex s
structure Fk (e:E):Prop where
 val:bJ C O n e
 test:dO C O n e
 iter:AN C O n e
noncomputable def e_:Es→Prop
 |.nil=>True
 |.cons e r=>Fk C O n e∧e_ r
end
section
variable {C:Cx} {O:cQ} {n:Nat} {W W' W'':Wt} {st st':ao} {s s':MT} {A:NF} {Ex:MU→MT→Prop} {sc:Sc} {env:OZ} {en:En}
theorem sR{v:V}{b:Bool}{c:MU}{Q:Bool→MT→Prop}(R:au C W st s)(e:oh (aJ st v)=some b)(r:VR C W s.heap v c)(h:∀t,Q b { s with toks:=t }):
  wpAny (model C.prog C.w) A (truthy c) Q Ex s:=by
 have D:=VR.dr R.r r
 generalize aJ st v=x at e D
 have hlid:=i7
 cases x with
 |none=>have D:c= .none:=D;subst D;cases e;exact PyProof.Rows.truthy_none (h s.toks)
 |bool b'=>have D:c= .bool b':=D;subst D;cases e;exact Ob (h s.toks)
 |int i=>obtain⟨t,rfl⟩:=D;cases e;exact PyProof.Rows.truthy_int (h s.toks)
 |str l=>
  obtain⟨t,rfl,hl⟩:=D
  cases e
  refine P.truthy_str (by simp only[Qn,Qd];unfold lid at hl;lia) ?_
  have:(((⟨l.toArray⟩:NT).length:Int) != 0)= !l.isEmpty:=by
   cases l<;>simp[Qn]
   all_goals lia
  rw[this];exact h _
 |tup l=>
  obtain⟨a,cs,rfl,_,ht,rs,hl⟩:=D
  cases e
  have hlen:=rs.length
  simp only[Oe]at hlen
  refine PyProof.Rows.truthy_tuple ht (by unfold lid at hl;lia) ?_
  have:(!cs.isEmpty)= !l.isEmpty:=by
   cases l<;>simp[VP,hlen]
  rw[this];exact h _
 |lst l=>
  obtain⟨a,cs,rfl,ht,rs,hl⟩:=D
  cases e
  have hlen:=rs.length
  simp only[Oe]at hlen
  refine wpAny_truthy_list ht.isList (by unfold lid at hl;lia) ?_
  have:(!cs.isEmpty)= !l.isEmpty:=by
   cases l<;>simp[VP,hlen]
  rw[this];exact h _
 |_=>cases e
theorem fP{r:Option (V×ao)}{b:Bool}{st':ao}(e:a_ r=some (b,st')):∃v,r=some (v,st')∧oh (aJ st' v)=some b:=by
 obtain⟨v,st1,e1,e2⟩:=az e;clear e
 obtain⟨b',e3,e⟩:=af e2;clear e2
 obtain⟨rfl,rfl⟩:=aP e
 exact⟨v,e1,e3⟩
theorem dO.eB{e:E}(hv:bJ C O n e)(ht:∀en st,ak O e .test en st=ak O e .val en st)
  (hi:∀sc env whole,isTrue (bw e sc) env whole=(do let v←whole;standAt (bw e sc).pos;holding [v] (truthy v))):dO C O n e:=by
 intro sc env en W st st' s A Ex Q b wf B X hr he h
 rw[ht]at he
 obtain⟨v,h1,h2⟩:=fP he
 refine Uu (hv wf B X hr h1 fun c s' W' S R r=>?_) (hi _ _ _)
 exact sR R h2 r fun t=>h _ _ (S.after (PS.tok s' t).step) (R.ps (PS.tok s' t))
theorem vX{k p}:bJ C O n (.cN k p):=by
 intro sc env en W st st' s A Ex Q v wf B X hr he h
 obtain⟨rfl,rfl⟩:=aP he
 exact fun _ _ _=>h.ps X.r (PS.refl s) rfl
theorem sS:bJ C O n .bH:=by
 intro sc env en W st st' s A Ex Q v wf B X hr he h
 obtain⟨rfl,rfl⟩:=aP he
 exact fun _ _ _=>h.ps X.r (PS.refl s) rfl
theorem vY{b k p}:bJ C O n (.cB b k p):=by
 intro sc env en W st st' s A Ex Q v wf B X hr he h
 obtain⟨rfl,rfl⟩:=aP he
 exact fun _ _ _=>h.ps X.r (PS.refl s) rfl
theorem vZ{i k p}:bJ C O n (.cI i k p):=by
 intro sc env en W st st' s A Ex Q v wf B X hr he h
 obtain⟨rfl,rfl⟩:=aP he
 exact fun _ _ _=>h.ps X.r (PS.tok s (s.toks+1)) ⟨_,rfl⟩
theorem v7{m:Nat}(h:m<1000):m≤lid:=NH (QN h (by decide))
theorem v8{l k p}:bJ C O n (.cS l k p):=by
 intro sc env en W st st' s A Ex Q v wf B X hr he h
 obtain⟨rfl,rfl⟩:=aP he
 exact fun _ _ _=>h.ps X.r (PS.tok s (s.toks+1)) ⟨_,rfl,v7 (of_decide_eq_true wf)⟩
theorem mD{i:Nat}{v:V}(B:dF C sc env)(X:At C sc env en W st s)(e:cC en st i=some v):(nm sc i == ("__debug__":NT))=false:=by
 obtain⟨w,hw,_⟩:=ni e
 have hi:i<sc.length:=X.fr.len▸(MW.mp hw).1
 have hx:sc[i]? =some sc[i]:=M3 hi
 have:=(B.names i _ hx).2
 rw[lg hx]
 exact eq_of_beq (band (band this).1).1
theorem sU(ok:bF C){i p}:bJ C O n (.var i p):=by
 intro sc env en W st st' s A Ex Q v wf B X hr he h
 obtain⟨v',e1,he'⟩:=af he;clear he
 obtain⟨rfl,rfl⟩:=aP he'
 exact Q7 (ef ok B X e1 fun c r=>h.ps X.r (PS.refl s) r) (mD B X e1)
theorem CX{op a b p}(ha:bJ C O n a)(hb:bJ C O n b):bJ C O n (.bin op a b p):=by
 intro sc env en W st st' s A Ex Q v wf B X hr he h
 obtain⟨x,st1,e1,he'⟩:=az he;clear he
 obtain⟨y,st2,e2,he⟩:=az he';clear he'
 refine Vf (ha (band wf).1 B X hr e1 fun c1 s1 W1 S1 R1 r1=>?_)
 refine hb (band wf).2 B (X.step S1 R1) hr e2 fun c2 s2 W2 S2 R2 r2=>?_
 exact vP R2 he (VR.dr R2.r (VR.ext (S2.ext fun _ h=>bj h) r1)) (VR.dr R2.r r2) (h.after (S1.after S2))
theorem xQ{op:CmpOp}{b:E}:behindInMarks op (bw b sc)=false:=by cases b<;>rfl
theorem q7{op a b p}(ha:bJ C O n a)(hb:bJ C O n b){W:Wt}{st st':ao}{s:MT}{Q:MU→MT→Prop}{v:V}(wf:fG C.bN (.cmp op a b p) sc=true)(B:dF C sc env)(X:At C sc env en W st s)(hr:bL n A)
  (he:(bnd (ak O a .val en st) fun x st=>bnd (ak O b .val en st) fun y st=>(iU op (aJ st x) (aJ st y)).bind fun b=>some (V.bool b,st))=some (v,st')) (h:∀bb,v= .bool bb→ ∀s' W',Step C W.ay W s W' s'→au C W' st' s'→Q (.bool bb) s'):
  wpAny (model C.prog C.w) A (eval (bw a sc) env) (fun c1 s1=>wpAny (model C.prog C.w) A (eval (bw b sc) env) (fun c2 s2=>wpAny (model C.prog C.w) A (compareOp op c1 c2) Q Ex s2) Ex s1) Ex s:=by
 refine bc fun hN0=>?_
 obtain⟨x,st1,e1,he'⟩:=az he;clear he
 obtain⟨y,st2,e2,he⟩:=az he';clear he'
 obtain⟨bb,e3,he'⟩:=af he;clear he
 obtain⟨rfl,rfl⟩:=aP he'
 refine hN0 ?_
 refine ha (band wf).1 B X hr e1 fun c1 s1 W1 S1 R1 r1=>?_
 refine hb (band wf).2 B (X.step S1 R1) hr e2 fun c2 s2 W2 S2 R2 r2=>?_
 exact lF hr e3 (VR.dr R2.r (VR.ext (S2.ext fun _ h=>bj h) r1)) (VR.dr R2.r r2) (h _ rfl _ _ (S1.after S2) R2)
theorem CY{op a b p}(ha:bJ C O n a)(hb:bJ C O n b):bJ C O n (.cmp op a b p):=by
 intro sc env en W st st' s A Ex Q v wf B X hr he h
 exact wpAny_Compare1 (q7 ha hb wf B X hr he fun bb e s' W' S R=>by subst e;exact h _ _ _ S R rfl) xQ
theorem AO{op a b p}(ha:bJ C O n a)(hb:bJ C O n b):dO C O n (.cmp op a b p):=by
 intro sc env en W st st' s A Ex Q b wf B X hr he h
 obtain⟨vb,he,ht⟩:=fP he
 exact Pu (q7 ha hb wf B X hr he fun bb e s' W' S R=>by subst e;cases ht;exact Ob (h _ _ S R)) xQ
end
end Rk
end

section
namespace Rk
open PySem PySem.W PySem.Calls PyProof.Rows PySem.SeqAt
section
variable {C:Cx} {O:cQ} {n:Nat} {W W' W'':Wt} {st st':ao} {s s':MT} {A:NF} {Ex:MU→MT→Prop} {sc:Sc} {env:OZ} {en:En}
theorem v9{a:Bool}(h:(!a)=true):a=false:=by
 cases a
 ·rfl
 ·cases h
theorem cu{e:E}{r:List PK}:starEach (bw e sc::r) env=(false,eval (bw e sc) env)::starEach r env:=by cases e<;>rfl
theorem aY.step{vs:List V}{cs:List MU}(S:Step C W.ay W s W' s')(r:aY C W s.heap vs cs):aY C W' s'.heap vs cs:=aY.ext (S.ext fun _ h=>bj h) r
theorem VR.step{v:V}{c:MU}(S:Step C W.ay W s W' s')(r:VR C W s.heap v c):VR C W' s'.heap v c:=VR.ext (S.ext fun _ h=>bj h) r
theorem jS{p:NW}:∀(l:Es) (hl:e_ C O n l) {st:ao} {W:Wt} {s:MT} {vs:List V} {Q:List MU→MT→Prop} (_:gF C.bN l sc=true) (_:dF C sc env) (_:At C sc env en W st s) (_:bL n A)
  (_:b8 O l en st=some (vs,st')) (_:∀cs s' W',Step C W.ay W s W' s'→au C W' st' s'→aY C W' s'.heap vs cs→Q cs s'),
  wpAny (model C.prog C.w) A (spliced (backTo p (starEach (b9 l sc) env))) Q Ex s
 |.nil,_,st,W,s,vs,Q,wf,B,X,hr,he,h=>by
  obtain⟨rfl,rfl⟩:=aP he
  exact PB (h [] s W .refl X.r rfl)
 |.cons e r,hl,st,W,s,vs,Q,wf,B,X,hr,he,h=>by
  obtain⟨x,st1,e1,he'⟩:=az he;clear he
  obtain⟨xs,st2,e2,he⟩:=az he';clear he'
  obtain⟨rfl,h2⟩:=aP he
  rw[h2]at e2
  show wpAny _ _ (spliced (backTo p (starEach (bw e sc::b9 r sc) env))) _ _ _
  rw[cu]
  refine Pj (hl.1.val (band wf).1 B X hr e1 fun c1 s1 W1 S1 R1 r1=>?_)
  refine jS (p:=p) r hl.2 (band wf).2 B (X.step S1 R1) hr e2 fun cs s2 W2 S2 R2 r2=>?_
  exact h _ _ _ (S1.after S2) R2 ⟨c1,cs,rfl,VR.step S2 r1,r2⟩
theorem gG:∀{l:Es} {vs:List V} {en:En} {st st':ao},b8 O l en st=some (vs,st')→vs.length=l.len
 |.nil,vs,en,st,st',e=>by rw[←(aP e).1];rfl
 |.cons x r,vs,en,st,st',e=>by
  obtain⟨x,st1,e1,e'⟩:=az e;clear e
  obtain⟨xs,st2,e2,e⟩:=az e';clear e'
  rw[←(aP e).1]
  exact congrArg (· +1) (gG e2)
theorem xR{m k:Nat}(h:k=m)(hm:m<1000):k≤sizeLine:=NH (Nm (h▸hm) (by decide))
theorem CZ{l k p}(hl:e_ C O n l):bJ C O n (.tup l k p):=by
 intro sc env en W st st' s A Ex Q v wf B X hr he h
 refine bc fun hN0=>?_
 obtain⟨xs,st1,e1,he'⟩:=az he;clear he
 obtain⟨rfl,rfl⟩:=aP he'
 refine hN0 ?_
 have w2:=of_decide_eq_true (band wf).2
 refine wpAny_Tuple (jS l hl (band wf).1 B X hr e1 fun cs s1 W1 S1 R1 r1=>?_)
 refine⟨xR (r1.length.trans (gG e1)) w2,?_⟩
 exact(h.after S1).ps R1 (PS.push s1 _ s1.toks) (VR.vM (t:=s1.toks) R1 rfl ⟨_,rfl⟩ (by rw[T8];exact r1) (v7 (gG e1▸w2)))
theorem C0{l p}(hl:e_ C O n l):bJ C O n (.jD l p):=by
 intro sc env en W st st' s A Ex Q v wf B X hr he h
 cases l with
 |nil=>
  obtain⟨rfl,rfl⟩:=aP he
  refine wpAny_List (PB ⟨NG _,?_⟩)
  obtain⟨S,R',r'⟩:=au.vO (U:=W.ay) (t:=s.toks) (l:=[]) (cs:= #[]) (n:=_) X.r rfl rfl (NG _) rfl
  exact h _ _ _ S R' r'
 |cons e r=>
  obtain⟨xs,st1,e1,he'⟩:=az he;clear he
  obtain⟨_,he⟩:=dX he';clear he'
  obtain⟨rfl,rfl⟩:=Vg he
  have w2:=of_decide_eq_true (band wf).2
  refine wpAny_List (jS _ hl (band wf).1 B X hr e1 fun cs s1 W1 S1 R1 r1=>?_)
  refine⟨xR (r1.length.trans (gG e1)) w2,?_⟩
  exact(h.after S1).ps R1 (PS.push s1 _ s1.toks) (VR.vN (t:=s1.toks) R1 (by rw[T8];exact r1) (v7 (gG e1▸w2)))
theorem AP{op a p md}(ha:bJ C O n a){W:Wt}{st st':ao}{s:MT}{Q:MU→MT→Prop}{v:V}(wf:fG C.bN a sc=true)(B:dF C sc env)(X:At C sc env en W st s)(hr:bL n A)
  (hm:(Ab op&&Md.jI md)=false) (he:ak O (.un op a p) md en st=some (v,st')) (h:Post C W.ay W s st' v Q):wpAny (model C.prog C.w) A (eval (bw (.un op a p) sc) env) Q Ex s:=by
 have he:cond (Ab op&&md.jI) _ _=some (v,st'):=he
 rw[hm]at he
 obtain⟨x,st1,e1,he'⟩:=az he;clear he
 obtain⟨v',e2,he⟩:=af he';clear he'
 clear hm
 obtain⟨rfl,rfl⟩:=aP he
 refine wpAny_UnaryOp (ha wf B X hr e1 fun c1 s1 W1 S1 R1 r1=>?_)
 clear ha X hr he e1
 cases op with
 |USub=>
  obtain⟨i,e3,e⟩:=af e2
  have:=bO e3;subst this;cases e
  clear e2 e3
  obtain⟨t,rfl⟩:=r1
  exact PyProof.Rows.neg_int ((h.after S1).ps R1 (PS.tok s1 _) ⟨_,rfl⟩)
 |Invert=>
  obtain⟨i,e3,e⟩:=af e2
  have:=bO e3;subst this;cases e
  clear e2 e3
  obtain⟨t,rfl⟩:=r1
  exact PyProof.Rows.invert_int ((h.after S1).ps R1 (PS.tok s1 _) ⟨_,rfl⟩)
 |_=>cases e2
theorem Fo{op a p}(ha:bJ C O n a):bJ C O n (.un op a p):=by
 intro sc env en W st st' s A Ex Q v wf B X hr he h
 exact AP (md:=.val) ha wf B X hr (Bool.and_false _) he h
theorem C1{op a p}(hv:bJ C O n (.un op a p))(ha:dO C O n a):dO C O n (.un op a p):=by
 intro sc env en W st st' s A Ex Q b wf B X hr he h
 cases op with
 |Not=>
  refine bc fun hN0=>?_
  obtain⟨vb,hez1,ht⟩:=fP he
  obtain⟨b1,st1,e1,he'⟩:=az hez1;clear hez1
  clear hv he
  obtain⟨rfl,rfl⟩:=aP he'
  clear he'
  cases ht
  refine hN0 ?_
  exact PyProof.Rows.isTrue_not (ha wf B X hr e1 fun s1 W1 S1 R1=>h _ _ S1 R1)
 |_=>exact dO.eB hv (fun _ _=>rfl) (fun _ _ _=>rfl) wf B X hr he h
theorem C2{op l p}:bJ C O n (.qQ op l p):=by
 intro sc env en W st st' s A Ex Q v wf B X hr he h
 cases he
theorem q8(op:BoolOp):∀(l:Es) (_:e_ C O n l) {st:ao} {W:Wt} {s:MT} {b:Bool} {Q:Bool→MT→Prop} (_:gF C.bN l sc=true) (_:dF C sc env) (_:At C sc env en W st s) (_:bL n A)
  (_:oJ O op l en st=some (b,st')) (_:∀s' W',Step C W.ay W s W' s'→au C W' st' s'→Q b s'),
  wpAny (model C.prog C.w) A (allTrue op (b9 l sc) env) Q Ex s
 |.nil,_,st,W,s,b,Q,wf,B,X,hr,he,h=>by
  obtain⟨rfl,rfl⟩:=aP he
  cases op
  ·exact wpAny_allTrue_And_nil (h s W .refl X.r)
  ·exact wpAny_allTrue_Or_nil (h s W .refl X.r)
 |.cons e r,hl,st,W,s,b,Q,wf,B,X,hr,he,h=>by
  obtain⟨b1,st1,e1,he'⟩:=az he;clear he
  have K:∀s1 W1,Step C W.ay W s W1 s1→au C W1 st1 s1→(if b1=oH op then wpAny (model C.prog C.w) A (allTrue op (b9 r sc) env) Q Ex s1 else Q b1 s1):=fun s1 W1 S1 R1=>by
   by_cases hb:b1=oH op
   ·subst hb
    rw[if_pos rfl]
    rw[show(oH op == oH op)=true by cases op<;>rfl]at he'
    exact q8 op r hl.2 (band wf).2 B (X.step S1 R1) hr he' fun s2 W2 S2 R2=>h _ _ (S1.after S2) R2
   ·rw[if_neg hb]
    rw[show(b1 == oH op)=false from beq_false_of_ne hb]at he'
    obtain⟨rfl,rfl⟩:=aP he'
    exact h _ _ S1 R1
  cases op
  ·refine wpAny_allTrue_And_cons (hl.1.test (band wf).1 B X hr e1 fun s1 W1 S1 R1=>?_)
   have:=K s1 W1 S1 R1
   cases b1
   ·exact this
   ·exact this
  ·refine wpAny_allTrue_Or_cons (hl.1.test (band wf).1 B X hr e1 fun s1 W1 S1 R1=>?_)
   have:=K s1 W1 S1 R1
   cases b1
   ·exact this
   ·exact this
theorem AQ{op l p}(hl:e_ C O n l):dO C O n (.qQ op l p):=by
 intro sc env en W st st' s A Ex Q b wf B X hr he h
 refine bc fun hN0=>?_
 obtain⟨vb,hez1,ht⟩:=fP he
 obtain⟨b1,st1,e1,he'⟩:=az hez1;clear hez1
 clear he
 obtain⟨rfl,rfl⟩:=aP he'
 clear he'
 cases ht
 refine hN0 ?_
 exact wpAny_isTrue_BoolOp (q8 op l hl wf B X hr e1 h)
theorem C3{t a b p}(ht:dO C O n t)(ha:bJ C O n a)(hb:bJ C O n b):bJ C O n (.qv t a b p):=by
 intro sc env en W st st' s A Ex Q v wf B X hr he h
 obtain⟨c,st1,e1,he'⟩:=az he;clear he
 refine IfExp_ (ht (band (band wf).1).1 B X hr e1 fun s1 W1 S1 R1=>?_)
 clear ht e1
 cases c with
 |true=>exact ha (band (band wf).1).2 B (X.step S1 R1) hr he' (h.after S1)
 |false=>exact hb (band wf).2 B (X.step S1 R1) hr he' (h.after S1)
theorem AR{t a b p}:dO C O n (.qv t a b p):=by
 intro sc env en W st st' s A Ex Q v wf B X hr he h
 cases he
theorem C4{a i p}(ha:bJ C O n a)(hi:bJ C O n i):bJ C O n (.idx a i p):=by
 intro sc env en W st st' s A Ex Q v wf B X hr he h
 refine bc fun hN0=>?_
 obtain⟨x,st1,e1,he'⟩:=az he;clear he
 obtain⟨y,st2,e2,he⟩:=az he';clear he'
 obtain⟨v',e3,he'⟩:=af he;clear he
 obtain⟨rfl,rfl⟩:=aP he'
 refine hN0 ?_
 refine Subscript_ (ha (band wf).1 B X hr e1 fun c1 s1 W1 S1 R1 r1=>?_)
 refine hi (band wf).2 B (X.step S1 R1) hr e2 fun c2 s2 W2 S2 R2 r2=>?_
 exact vQ R2 e3 (VR.dr R2.r (VR.step S2 r1)) r2 (h.after (S1.after S2))
end
end Rk
end

section
namespace Rk
open PySem PySem.W PySem.Calls PyProof.Rows PySem.SeqAt
noncomputable def Io(C:Cx)(W:Wt)(h:NX):Option V→List (NT×MU)→Prop
 |none,kw=>kw=[]
 |some v,kw=>∃c,kw=[(("key":NT),c)]∧VR C W h v c
structure bD (C:Cx) (O:cQ) (n:Nat):Prop where
 obj:∀{f args key st r},O.call f args key st=some r→ ∀{W st2 s cf},au C W st2 s→VR C W s.heap f cf→ ∃a o fd,cf= .ref a∧fD C W a∧s.heap.get? a=some o∧o.data= .func fd
 call:∀{f args key st v st' A W s} {Ex:MU→MT→Prop} {Q:MU→MT→Prop} {cf cs kw},O.call f args key st=some (v,st')→bL n A→au C W st s→VR C W s.heap f cf→aY C W s.heap args cs→
  Io C W s.heap key kw→Post C W.ay W s st' v Q→wpAny (model C.prog C.w) A (call cf cs kw) Q Ex s
 Fp:∀{f args l},O.gen f args=some l→ ∀{W st2 s cf},au C W st2 s→VR C W s.heap f cf→ ∃a o fd,cf= .ref a∧fD C W a∧s.heap.get? a=some o∧o.data= .func fd
 gen:∀{f args l st A W s} {Ex:MU→MT→Prop} {Q:MU→MT→Prop} {cf cs t sc'},O.gen f args=some l→bL n A→au C W st s→VR C W s.heap f cf→aY C W s.heap args cs→
  fH C A (toT sc' t) W s st (.lst l) Q→wpAny (model C.prog C.w) A (N5 cf cs []) (fun x s'=>wpAny (model C.prog C.w) A (pyIter x) Q Ex s') Ex s
section
variable {C:Cx} {O:cQ} {n:Nat} {W W' W'':Wt} {st st':ao} {s s':MT} {A:NF} {Ex:MU→MT→Prop} {sc:Sc} {env:OZ} {en:En}
theorem add_lists{l r:List V}{c1 c2:MU}{Q:MU→MT→Prop}(R:au C W st s)(d1:DR C W s.heap (.lst l) c1)(d2:DR C W s.heap (.lst r) c2)(hd:l.length+r.length≤lid∧bA l=true∧bA r=true)
  (h:Post C W.ay W s { st with σ:=st.σ++[l++r] } (.ref st.σ.length) Q):wpAny (model C.prog C.w) A (binaryOp .Add c1 c2) Q Ex s:=by
 obtain⟨a,cs,rfl,hL,q1,l1⟩:=d1;obtain⟨b,ds,rfl,hL2,q2,l2⟩:=d2
 obtain⟨n,ho⟩:=hL
 obtain⟨n2,ho2⟩:=hL2
 have z1:cs.size=l.length:=by rw[←q1.length];rfl
 have z2:ds.size=r.length:=by rw[←q2.length];rfl
 have hl:=hd.1
 refine Rq ⟨_,ho,rfl⟩ ⟨_,ho2,rfl⟩ noFill_list_add seq_list_add Te Sy (Sj _ _) (list_addW a b cs ds n n2 _ _ _ _ (by rw[z1,z2];clear h;have:=i7;lia)) ⟨ho,ho2,?_⟩
 obtain⟨S,R',r'⟩:=au.vO (U:=W.ay) (t:=s.toks) (l:=l++r) R rfl (by rw[PL];exact q1.append q2) (by rw[Ng];exact hl) (gm hd.2.1 hd.2.2)
 exact h _ _ _ S R' r'
theorem AS{a b p}(ha:bJ C O n a)(hb:bJ C O n b):bJ C O n (.tR a b p):=by
 intro sc env en W st st' s A Ex Q v wf B X hr he h
 refine bc fun hN0=>?_
 obtain⟨x,st1,e1,he'⟩:=az he;clear he
 obtain⟨y,st2,e2,he⟩:=az he';clear he'
 obtain⟨l,hx,he'⟩:=af he;clear he
 obtain⟨r,hy,he⟩:=af he';clear he'
 obtain⟨hd,he'⟩:=dX he;clear he
 obtain⟨rfl,rfl⟩:=Vg he'
 refine hN0 ?_
 refine Vf (ha (band wf).1 B X hr e1 fun c1 s1 W1 S1 R1 r1=>?_)
 refine hb (band wf).2 B (X.step S1 R1) hr e2 fun c2 s2 W2 S2 R2 r2=>?_
 exact add_lists R2 (fK hx▸VR.dr R2.r (VR.step S2 r1)) (fK hy▸VR.dr R2.r r2) hd (h.after (S1.after S2))
theorem AU{e:E}(h:dS e=false):Kd e sc=some (bw e sc):=by unfold Kd;rw[h];rfl
theorem v_{e:E}(h:dS e=true):e= .bH:=by cases e<;>first|rfl|cases h
theorem lK{e:E}(ha:bJ C O n e){Q:MU→MT→Prop}{v:V}(wf:fG C.bN e sc=true)(B:dF C sc env)(X:At C sc env en W st s)(hr:bL n A)(he:ak O e .val en st=some (v,st'))
  (h:Post C W.ay W s st' v Q):wpAny (model C.prog C.w) A (evalPart (Kd e sc) env) Q Ex s:=by
 cases hn:dS e with
 |true=>
  have:=v_ hn;subst this
  obtain⟨rfl,rfl⟩:=aP he
  show wpAny _ _ (evalPart none env) _ _ _
  rw[evalPart_none]
  exact Nb (h.ps X.r (PS.refl s) rfl)
 |false=>
  rw[AU hn,evalPart_some]
  exact ha wf B X hr he h
theorem C5{a lo hi k q p}(ha:bJ C O n a)(hlo:bJ C O n lo)(hhi:bJ C O n hi)(hk:bJ C O n k):bJ C O n (.slc a lo hi k q p):=by
 intro sc env en W st st' s A Ex Q v wf B X hr he h
 refine bc fun hN0=>?_
 obtain⟨x,st1,e1,he'⟩:=az he;clear he
 obtain⟨y1,st2,e2,he⟩:=az he';clear he'
 obtain⟨y2,st3,e3,he'⟩:=az he;clear he
 obtain⟨y3,st4,e4,he⟩:=az he';clear he'
 obtain⟨v',e5,he'⟩:=af he;clear he
 obtain⟨rfl,rfl⟩:=aP he'
 obtain⟨wf,w4⟩:=band wf
 obtain⟨wf,w3⟩:=band wf
 obtain⟨w1,w2⟩:=band wf
 refine hN0 ?_
 refine Subscript_ (ha w1 B X hr e1 fun c1 s1 W1 S1 R1 r1=>?_)
 refine wpAny_Slice (lK hlo w2 B (X.step S1 R1) hr e2 fun c2 s2 W2 S2 R2 r2=>?_)
 refine lK hhi w3 B (X.step (S1.after S2) R2) hr e3 fun c3 s3 W3 S3 R3 r3=>?_
 refine lK hk w4 B (X.step ((S1.after S2).after S3) R3) hr e4 fun c4 s4 W4 S4 R4 r4=>?_
 have P:=PS.push s4 { cls:=.type "slice",data:=.fields #[c2,c3,c4] } s4.toks
 have S5:Step C W4.ay W4 s4 W4 _:=P.step
 have S35:=S3.after (S4.after S5)
 refine vS (U:=W4.ay) (R4.ps P) e5 (VR.dr (R4.ps P).r (VR.step (S2.after S35) r1)) (VR.step S35 r2) (VR.step (S4.after S5) r3) (VR.step S5 r4) (V_ _ _ _ _) ?_
 exact h.after ((S1.after S2).after S35)
theorem AV:∀(l:List Int) (cs:List MU) (h:NX),(∀(j:Nat) v,cs[j]? =some v→ ∃i t,l[j]? =some i∧v= .int i t)→cs.length=l.length→aY C W h (l.map .int) cs
 |[],cs,h,_,e=>by
  have:cs=[]:=O4 (by simpa using e)
  subst this;rfl
 |i::l,[],h,_,e=>by simp at e
 |i::l,c::cs,h,hv,e=>by
  obtain⟨i',t,h1,rfl⟩:=hv 0 c rfl
  simp only[PR,NP]at h1
  subst h1
  exact⟨_,cs,rfl,⟨t,rfl⟩,AV l cs h (fun j v hj=>by simpa using hv (j+1) v (by simpa using hj)) (by simpa using e)⟩
theorem lM:∀(m:Nat) (a:Int),cA a m=((List.range m).map fun(k:Nat)=>a+(k:Int)).map .int
 |0,a=>rfl
 |m+1,a=>by
  show V.int a::cA (a+1) m=_
  rw[lM m (a+1),List.range_succ_eq_map]
  simp only[Nz,Oa]
  congr 1
  ·simp
  ·apply Qt
   intro k _
   simp only[Uj]
   congr 1
   have:((Nat.succ k:Nat):Int)=(k:Int)+1:=by simp
   lia
theorem lq(m:Nat)(a:Int):(cA a m).length=m:=by rw[lM];simp
theorem dR(ok:bF C){i:Nat}{p:NW}{v:V}{Q:MU→MT→Prop}(B:dF C sc env)(X:At C sc env en W st s)(e:cC en st i=some v)(h:∀c,VR C W s.heap v c→Q c s):
  wpAny (model C.prog C.w) A (eval (.Name (nm sc i) p) env) Q Ex s:=Q7 (ef ok B X e h) (mD B X e)
theorem fY{p:NW}:∀(l:Es),(backTo p (starEach (b9 l sc) env)).any (·.1)=false∧(backTo p (starEach (b9 l sc) env)).all (fun x=> !x.1)=true∧(b9 l sc).length=l.len
 |.nil=>by
  have:starEach (b9 .nil sc) env=[]:=by first|rfl|simp only[b9,starEach]
  rw[this];exact⟨rfl,rfl,rfl⟩
 |.cons e r=>by
  obtain⟨h1,h2,h3⟩:=fY (p:=p) r
  have:backTo p (starEach (b9 (.cons e r) sc) env)=(false,eval (bw e sc) env)::backTo p (starEach (b9 r sc) env):=by
   show backTo p (starEach (bw e sc::b9 r sc) env)=_
   rw[cu];rfl
  rw[this]
  refine⟨by rw[VQ,h1];rfl,by rw[Sf,h2];rfl,by show(bw e sc::b9 r sc).length=_;rw[NS,h3];rfl⟩
theorem fQ{l:Es}{p:NW}{f:MU}{vs:List V}{Q:Args→MT→Prop}(hl:e_ C O n l)(hne:fN l=false)(wf:gF C.bN l sc=true)(B:dF C sc env)(X:At C sc env en W st s)(hr:bL n A)
  (he:b8 O l en st=some (vs,st')) (h:∀cs s' W',Step C W.ay W s W' s'→au C W' st' s'→aY C W' s'.heap vs cs→Q { pos:=cs } s'):
  wpAny (model C.prog C.w) A (evalArgs f true (backTo p (starEach (b9 l sc) env)) []) Q Ex s:=by
 have key:=jS (p:=p) (Q:=fun cs s'=>Q { pos:=cs } s') (Ex:=Ex) l hl wf B X hr he h
 clear hl X hr he h
 cases l with
 |nil=>cases hne
 |cons e r=>
  have e1:backTo p (starEach (b9 (.cons e r) sc) env)=(false,eval (bw e sc) env)::backTo p (starEach (b9 r sc) env):=by
   show backTo p (starEach (bw e sc::b9 r sc) env)=_
   rw[cu];rfl
  rw[e1]at key ⊢
  exact Qi key
theorem lu{l:Es}{ke:E}{p q:NW}{f:MU}{vs:List V}{kv:V}{st1:ao}{Q:Args→MT→Prop}(hl:e_ C O n l)(hk:bJ C O n ke)(hne:fN l=false)(wf:gF C.bN l sc=true)(wfk:fG C.bN ke sc=true)
  (B:dF C sc env) (X:At C sc env en W st s) (hr:bL n A) (he:b8 O l en st=some (vs,st1)) (hek:ak O ke .val en st1=some (kv,st'))
  (h:∀cs ck s' W',Step C W.ay W s W' s'→au C W' st' s'→aY C W' s'.heap vs cs→VR C W' s'.heap kv ck→Q { pos:=cs,kw:=[(("key":NT),ck)] } s'):
  wpAny (model C.prog C.w) A (evalArgs f true (backTo p (starEach (b9 l sc) env)) (backToKw p (keywordEach [⟨some "key",bw ke sc,q⟩] env))) Q Ex s:=by
 have key:=jS (p:=p) (Q:=fun cs s'=>wpAny (model C.prog C.w) A (eval (bw ke sc) env) (fun ck s''=>Q { pos:=cs,kw:=[(("key":NT),ck)] } s'') Ex s') (Ex:=Ex) l hl wf B X hr he
  fun cs s1 W1 S1 R1 r1=>hk wfk B (X.step S1 R1) hr hek fun ck s2 W2 S2 R2 r2=>h cs ck s2 W2 (S1.after S2) R2 (aY.step S2 r1) r2
 clear hl hk X hr he hek h
 cases l with
 |nil=>cases hne
 |cons e r=>
  have e1:backTo p (starEach (b9 (.cons e r) sc) env)=(false,eval (bw e sc) env)::backTo p (starEach (b9 r sc) env):=by
   show backTo p (starEach (bw e sc::b9 r sc) env)=_
   rw[cu];rfl
  have e2:backToKw p (keywordEach [⟨some "key",bw ke sc,q⟩] env)=[(some ("key":NT),do let v←eval (bw ke sc) env;standAt p;pure v)]:=by first|rfl|simp only[keywordEach,backToKw,Nz,PY]
  rw[e1]at key ⊢
  rw[e2]
  refine evalArgs_kw rfl (Og key (fun cs s1 h1=>?_) fun _ _ e=>e)
  exact wpAny_evalAll_cons (MV (Og h1 (fun ck s2 h2=>MV (N9 (Nb (wpAny_evalAll_nil h2)))) fun _ _ e=>e))
theorem g7{b:BI}{p:NW}{args:List (Bool×RE MU)}{Q:MU→MT→Prop}(ha:args.any (·.1)=false)(h:∀f,wpAny (model C.prog C.w) A (evalArgs f true args []) (fun a s1=>wpAny (model C.prog C.w) A (N5 (ee b) a.pos a.kw) Q Ex s1) Ex s):
  wpAny (model C.prog C.w) A (callWith p (ee b) [] args []) Q Ex s:=by
 cases b<;>first|exact PySem.callWith_type ha (h _)|exact QO ha (h _)
theorem fD.step{a:Na}{o:Ug}(S:Step C W.ay W s W' s')(f:fD C W a)(e:s.heap.get? a=some o):fD C W' a∧s'.heap.get? a=some o:=(S.ext fun _ h=>bj h).f a o f e
theorem q9{e:E}(h:isVar e=true):∃i p,e= .var i p:=by cases e<;>first|exact⟨_,_,rfl⟩|exact nomatch h
theorem kK{α:Type}{i:Nat}{p:NW}{md:Md}{f:V→ao→Option α}{r:α}(e:bnd (ak O (.var i p) md en st) f=some r):∃v,cC en st i=some v∧f v st=some r:=by
 refine bc fun hN0=>?_
 obtain⟨v,st1,e1,e2⟩:=az e
 obtain⟨v',g,e3⟩:=af e1
 clear e e1
 obtain⟨rfl,rfl⟩:=aP e3
 refine hN0 ?_
 exact⟨_,g,e2⟩
theorem zk{v0:V}{args:List V}{k:V}{r:V×ao}(e:oG O v0 args (some k) st=some r):O.call v0 args (some k) st=some r:=by
 cases v0 with
 |fn g=>exact e
 |jt g γ=>exact e
 |_=>exact ns e
theorem we{v0:V}{args:List V}{r:V×ao}(e:oG O v0 args none st=some r):(∃b v',v0= .bi b∧xF b (args.map (aJ st))=some v'∧some (v',st)=some r)∨O.call v0 args none st=some r:=by
 cases v0 with
 |bi b=>
  obtain⟨v',e3,e⟩:=iR e
  exact .inl ⟨b,v',rfl,e3,congrArg some e⟩
 |fn g=>exact .inr e
 |jt g γ=>exact .inr e
 |_=>exact ns e
theorem noKw{p:NW}:backToKw p (keywordEach [] env)=[]:=by first|rfl|simp only[keywordEach,backToKw,PY]
theorem call_plain(ok:bF C)(oo:bD C O n){i:Nat}{l pf q p}(hl:e_ C O n l){v v0:V}{args:List V}{st1:ao}{Q:MU→MT→Prop}(wne:fN l=false)(wfl:gF C.bN l sc=true)(B:dF C sc env)(X:At C sc env en W st s)(hr:bL n A)
  (g0:cC en st i=some v0) (e1:b8 O l en st=some (args,st1)) (he:oG O v0 args none st1=some (v,st')) (h:Post C W.ay W s st' v Q):wpAny (model C.prog C.w) A (eval (bw (.call (.var i pf) l .bH q p) sc) env) Q Ex s:=by
 refine O0 (dR ok B X g0 fun cf rf=>?_)
 show wpAny _ _ (callWith p cf [] (backTo p (starEach (b9 l sc) env)) (backToKw p (keywordEach [] env))) _ _ _
 rw[noKw]
 rcases we he with⟨b,v',rfl,e3,e⟩|he
 ·have hc:cf=ee b:=rf
  rw[hc]
  exact g7 (fY l).1 fun f=>fQ hl wne wfl B X hr e1 fun cs s1 W1 S1 R1 r1=>zd hr R1 e3 r1 ((h.of e).after S1)
 ·obtain⟨a,o,fd,rfl,hf,ho,hd⟩:=oo.obj he X.r rf
  exact PC (o:=o) (fd:=fd) (fQ hl wne wfl B X hr e1 fun cs s1 W1 S1 R1 r1=>⟨⟨(fD.step S1 hf ho).2,hd⟩,oo.call he hr R1 (VR.step S1 rf) r1 rfl (h.after S1)⟩)
theorem AW(ok:bF C)(oo:bD C O n){i:Nat}{l key pf q p}(hl:e_ C O n l)(hk:bJ C O n key){v v0 kv:V}{args:List V}{st1 st2:ao}{Q:MU→MT→Prop}(wne:fN l=false)(wfl:gF C.bN l sc=true)(wfk:fG C.bN key sc=true)(B:dF C sc env)(X:At C sc env en W st s)(hr:bL n A)
  (hn:dS key=false) (g0:cC en st i=some v0) (e1:b8 O l en st=some (args,st1)) (e2:ak O key .val en st1=some (kv,st2)) (he:oG O v0 args (some kv) st2=some (v,st')) (h:Post C W.ay W s st' v Q):wpAny (model C.prog C.w) A (eval (bw (.call (.var i pf) l key q p) sc) env) Q Ex s:=by
 show wpAny _ _ (eval (.Call (.Name (nm sc i) pf) (b9 l sc) (cond (dS key) [] [⟨some "key",bw key sc,q⟩]) p) env) _ _ _
 rw[hn]
 refine O0 (dR ok B X g0 fun cf rf=>?_)
 refine bc fun hN0=>?_
 have he:=zk he
 obtain⟨a,o,fd,rfl,hf,ho,hd⟩:=oo.obj he X.r rf
 refine hN0 ?_
 exact PC (o:=o) (fd:=fd) (lu hl hk wne wfl wfk B X hr e1 e2 fun cs ck s1 W1 S1 R1 r1 rk=>⟨⟨(fD.step S1 hf ho).2,hd⟩,oo.call he hr R1 (VR.step S1 rf) r1 ⟨ck,rfl,rk⟩ (h.after S1)⟩)
theorem AX(ok:bF C)(oo:bD C O n){f l key q p}(hl:e_ C O n l)(hk:bJ C O n key):bJ C O n (.call f l key q p):=by
 intro sc env en W st st' s A Ex Q v wf B X hr he h
 obtain⟨wf,wlen⟩:=band wf
 obtain⟨wf,wne⟩:=band wf
 obtain⟨wf,wfk⟩:=band wf
 obtain⟨wf,wfl⟩:=band wf
 obtain⟨i,pf,rfl⟩:=q9 (band wf).1
 obtain⟨v1,g0,he'⟩:=kK he;clear he
 obtain⟨args,st1,e1,he⟩:=az he';clear he'
 cases hn:dS key with
 |true=>
  rw[hn]at he
  rw[v_ hn]
  exact call_plain ok oo hl (v9 wne) wfl B X hr g0 e1 he h
 |false=>
  rw[hn]at he
  obtain⟨kv,st2,e2,he'⟩:=az he
  exact AW ok oo hl hk (v9 wne) wfl wfk B X hr hn g0 e1 e2 he' h
end
end Rk
end

section
namespace Rk
open PySem PySem.W PySem.Calls PyProof.Rows PySem.SeqAt
section
variable {C:Cx} {O:cQ} {n:Nat} {W W' W'':Wt} {st st':ao} {s s':MT} {A:NF} {Ex:MU→MT→Prop} {sc:Sc} {env:OZ} {en:En}
noncomputable def owners:List String:=["enumerate","zip","dict_itemiterator","dict_reverseitemiterator","odict_iterator","itertools.zip_longest","itertools.pairwise"]
theorem jT{tg:PK}{I:Na}{T:String}{v:MU}{Q:Unit→MT→Prop}(hT:∃o vs,s.heap.get? I=some o∧o.cls= .type T∧o.data= .fields vs)(hn:owners.contains T=false)(h:Q () s):
  wpAny (model C.prog C.w) A (letOwnedTupleGo tg (.ref I) v) Q Ex s:=by
 obtain⟨o,vs,ho,hc,hd⟩:=hT
 have key:wpAny (model C.prog C.w) A (letOwnedTupleGo (.List [] default) (.ref I) v) Q Ex s:=by
  cases v with
  |ref a=>
   unfold owners at hn
   refine MV (wpAny_load ho ?_)
   rw[hc,hd]
   simp only[hn,Vw,OG,if_false]
   exact Nb h
  |_=>exact Nb h
 cases tg<;>first|exact key|exact Nb h
theorem aL.of{wr RS:List Na}{h':NX}{tk:Nat}(hwr:∀b∈wr,b∈RS)(hk:∀b o,b∉wr→s.heap.get? b=some o→h'.get? b=some o):aL RS [] s { s with heap:=h',toks:=tk }:=
 ⟨fun a o e hn=>hk a o (fun q=>hn (hwr a q)) e,rfl,fun g gs e _=>e,fun x=>x⟩
theorem aL.ext{wr RS:List Na}{h':NX}(hX:∀b∈RS,b∈W.X)(hwr:∀b∈wr,b∈RS)(hk:∀b o,b∉wr→s.heap.get? b=some o→h'.get? b=some o):Ext C W s.heap W h':=
 ⟨⟨[],by simp⟩,⟨[],by simp⟩,fun a o f e=>⟨f,hk a o (fun q=>f.1 (aF (hX a (hwr a q)))) e⟩⟩
theorem It.ofWalks{tg:PK}{I:Na}{fp wr RS:List Na}{xs:List V}{cs:List MU}{fz:List (Na×Ug)}{m:Nat}{P:Nat→MU→Prop}{StW:Nat→NX→Prop}{l:List V}{T:String}
  (Wk:Walks C.prog C.w A I fp wr m P StW) (Core:Nat→NX→Prop)
  (hlen:l.length=m) (hfr:∀i h h',Core i h→(∀b∈RS,∀o,h.get? b=some o→h'.get? b=some o)→Core i h') (hwr:∀b∈wr,b∈RS)
  (hlive:∀i h,Core i h→ ∀b∈RS,∃o,h.get? b=some o)
  (mk:∀i h,Core i h→(∀p∈fz,h.get? p.1=some p.2)→StW i h) (un:∀i h,StW i h→Core i h)
  (hfields:∀i h,Core i h→ ∃o vs,h.get? I=some o∧o.cls= .type T∧o.data= .fields vs) (hT:owners.contains T=false)
  (hself:∀i (s:MT) (Q:MU→MT→Prop) Ex,Core i s.heap→Q (.ref I) s→wpAny (model C.prog C.w) A (pyIter (.ref I)) Q Ex s)
  (val:∀i v c W h,l[i]? =some v→aY C W h xs cs→P i c→VR C W h v c):
  It C A tg I xs cs fz (fun _ i=>l[i]?) [] (fun i wr' s=>wr'=RS∧i≤m∧Core i s.heap) where
 frame:=fun i wr' s s' h hk _=>⟨h.1,h.2.1,hfr i _ _ h.2.2 (h.1▸hk)⟩
 live:=fun i wr' s h b hb=>hlive i _ h.2.2 b (h.1▸hb)
 item:=fun i v s W st wr' Q Ex hv hst hX R H hQ=>by
  obtain⟨rfl,hi,hc⟩:=hst
  have hlt:i<m:=hlen▸(MW.mp hv).1
  refine Wk.item i s _ _ hlt (mk i _ hc fun p hp=>(H.2 p hp).2) fun c h' tk hP hst' hk=>⟨c,rfl,?_⟩
  have hc':=un _ _ hst'
  refine jT (hfields _ _ hc') hT ?_
  refine hQ c _ [] OQ (by simp) (aL.of hwr hk) ⟨rfl,hlt,hc'⟩ ?_
  exact VR.ext (aL.ext hX hwr hk) (val i v c W s.heap hv H.1 hP)
 done:=fun i s W st wr' Q Ex hv hst hX R H hQ=>by
  obtain⟨rfl,hi,hc⟩:=hst
  have hge:m≤i:=hlen▸NR.mp hv
  have:i=m:=S_ hi hge
  subst this
  exact Wk.done s _ _ (mk i _ hc fun p hp=>(H.2 p hp).2) fun h' tk hk=>hQ _ (aL.of hwr hk)
 self:=fun i wr' s Q Ex hst hQ=>hself i s Q Ex hst.2.2 hQ
theorem It.o5{I:Na}{fp wr RS:List Na}{xs:List V}{cs:List MU}{fz:List (Na×Ug)}{m:Nat}{P:Nat→Array MU→Prop}{StW:Nat→NX→Prop}{Mid:Nat→Na→NX→Prop}{l:List V}{elts:List PK}{k:Nat}{pos:NW}
  (Wk:WalksT C.prog C.w A I fp wr m P StW Mid) (Core:Nat→NX→Prop)
  (hlen:l.length=m) (hfr:∀i h h',Core i h→(∀b∈RS,∀o,h.get? b=some o→h'.get? b=some o)→Core i h') (hwr:∀b∈wr,b∈RS)
  (hlive:∀i h,Core i h→ ∀b∈RS,∃o,h.get? b=some o)
  (mk:∀i h,Core i h→(∀p∈fz,h.get? p.1=some p.2)→StW i h) (un:∀i h,StW i h→Core i h)
  (hself:∀i (s:MT) (Q:MU→MT→Prop) Ex,Core i s.heap→Q (.ref I) s→wpAny (model C.prog C.w) A (pyIter (.ref I)) Q Ex s)
  (val:∀i v cs' W h,l[i]? =some v→aY C W h xs cs→P i cs'→ ∃l',v= .tup l'∧aY C W h l' cs'.toList∧l'.length≤lid):
  It C A (.Tuple elts k pos) I xs cs fz (fun _ i=>l[i]?) [] (fun i wr' s=>wr'=RS∧i≤m∧Core i s.heap) where
 frame:=fun i wr' s s' h hk _=>⟨h.1,h.2.1,hfr i _ _ h.2.2 (h.1▸hk)⟩
 live:=fun i wr' s h b hb=>hlive i _ h.2.2 b (h.1▸hb)
 item:=fun i v s W st wr' Q Ex hv hst hX R H hQ=>by
  obtain⟨rfl,hi,hc⟩:=hst
  have hlt:i<m:=hlen▸(MW.mp hv).1
  refine Wk.item i s _ _ hlt (mk i _ hc fun p hp=>(H.2 p hp).2) fun T vals h' tk hP hT htup hmid hk=>⟨_,rfl,?_⟩
  have hap:=Wk.apart _ _ _ hmid
  refine Wk.go elts k pos i T _ _ _ hmid fun h2 hst2 hk2=>?_
  have hk':∀b o,b∉wr→s.heap.get? b=some o→h2.get? b=some o:=fun b o hb e=>hk2 b o hb (hk b o hb e)
  obtain⟨l',rfl,hl1,hl2⟩:=val i v vals W s.heap hv H.1 hP
  refine hQ _ _ [] OQ (by simp) (aL.of hwr hk') ⟨rfl,hlt,un _ _ hst2⟩ ?_
  refine⟨T,vals,rfl,R.r.fresh (aC hT),?_,aY.ext (aL.ext hX hwr hk') hl1,hl2⟩
  obtain⟨o,ho,r⟩:=htup
  exact⟨o,hk2 T o hap ho,r⟩
 done:=fun i s W st wr' Q Ex hv hst hX R H hQ=>by
  obtain⟨rfl,hi,hc⟩:=hst
  have hge:m≤i:=hlen▸NR.mp hv
  have:i=m:=S_ hi hge
  subst this
  exact Wk.done s _ _ (mk i _ hc fun p hp=>(H.2 p hp).2) fun h' tk hk=>hQ _ (aL.of hwr hk)
 self:=fun i wr' s Q Ex hst hQ=>hself i s Q Ex hst.2.2 hQ
theorem aY.at{l:List V}{cs:Array MU}{h:NX}{i:Nat}{v:V}{c:MU}(r:aY C W h l cs.toList)(e:l[i]? =some v)(ec:cs[i]? =some c):VR C W h v c:=by
 obtain⟨c',e',r'⟩:=r.get e
 rw[N2,ec]at e'
 cases e';exact r'
theorem fR{a:Na}{items:Array MU}{m:Nat}{h:NX}(e:h.get? a=some { cls:=.type "list",data:=.seq items m }):h.IsList a items:=⟨_,e,rfl,m,rfl⟩
variable {t:T} {sc':Sc} {Q:MU→MT→Prop}
theorem wh{l:List V}{c:MU}(hh:A.handled=none)(R:au C W st s)(r:VR C W s.heap (.lst l) c)(h:fH C A (toT sc' t) W s st (.lst l) Q):wpAny (model C.prog C.w) A (pyIter c) Q Ex s:=by
 obtain⟨a,items,rfl,hf,⟨m,ho⟩,rs,hl⟩:=r
 have hlen:=rs.length
 simp only[Oe]at hlen
 have hne:a≠s.heap.objs.size:=OA (Od ho)
 refine Qe (fR ho) ?_
 have hnew:=Nl s.heap (o:={ cls:=.type "list_iterator",data:=.fields #[.ref a,.int 0 0] }) rfl
 refine h s.heap.objs.size s _ W l items.toList [(a,{ cls:=.type "list",data:=.seq items m })] [s.heap.objs.size] [] _ .refl R (PS.push s _ s.toks).g (by simp) (fun b hb=>?_) (by simp) ⟨rs,fun p hp=>?_⟩
  (It.ofWalks (T:="list_iterator") (RS:=[s.heap.objs.size]) (l:=l) (Ur hh s.heap.objs.size a hne items) (fun i h=>h.IsListIter s.heap.objs.size a i) hlen.symm
   (fun i h h' hc hk=>hc.at fun o e=>hk _ (by simp) o e) (fun b hb=>hb) (fun i h hc b hb=>?_) (fun i h hc hz=>⟨hc,fR (hz _ (M4.mpr rfl))⟩) (fun i h hst=>hst.1)
   (fun i h hc=>let ⟨o,e,h1,h2⟩:=hc;⟨o,_,e,h1,h2⟩) (by decide) (fun i s Q Ex hc hQ=>Tg hc hQ) (fun i v c W h hv hr hP=>aY.at hr hv hP)) ⟨rfl,NG _,⟨_,hnew,rfl,rfl⟩⟩
 ·simp at hb;subst hb;exact⟨aC (M9 _),_,hnew⟩
 ·simp at hp;subst hp;exact⟨hf,ho⟩
 ·simp at hb;subst hb;obtain⟨o,e,_⟩:=hc;exact⟨o,e⟩
theorem zl{l:List V}{c:MU}(hh:A.handled=none)(R:au C W st s)(r:VR C W s.heap (.tup l) c)(h:fH C A (toT sc' t) W s st (.tup l) Q):wpAny (model C.prog C.w) A (pyIter c) Q Ex s:=by
 obtain⟨a,items,rfl,hf,⟨ob,ho,hcl,m,hdt⟩,rs,hl⟩:=r
 have hlen:=rs.length
 simp only[Oe]at hlen
 have hne:a≠s.heap.objs.size:=OA (Od ho)
 refine wpAny_pyIter_tuple ⟨ob,ho,hcl,m,hdt⟩ ?_
 have hnew:=Nl s.heap (o:={ cls:=.type "tuple_iterator",data:=.fields #[.ref a,.int 0 0] }) rfl
 refine h s.heap.objs.size s _ W l items.toList [(a,ob)] [s.heap.objs.size] [] _ .refl R (PS.push s _ s.toks).g (by simp) (fun b hb=>?_) (by simp) ⟨rs,fun p hp=>?_⟩
  (It.ofWalks (T:="tuple_iterator") (RS:=[s.heap.objs.size]) (l:=l) (Walks.tuple hh s.heap.objs.size a hne items) (fun i h=>h.IsTupleIter s.heap.objs.size a i) hlen.symm
   (fun i h h' hc hk=>hc.at fun o e=>hk _ (by simp) o e) (fun b hb=>hb) (fun i h hc b hb=>?_) (fun i h hc hz=>⟨hc,⟨ob,hz _ (M4.mpr rfl),hcl,m,hdt⟩⟩) (fun i h hst=>hst.1)
   (fun i h hc=>let ⟨o,e,h1,h2⟩:=hc;⟨o,_,e,h1,h2⟩) (by decide) (fun i s Q Ex hc hQ=>wpAny_pyIter_tupleiter hc hQ) (fun i v c W h hv hr hP=>aY.at hr hv hP)) ⟨rfl,NG _,⟨_,hnew,rfl,rfl⟩⟩
 ·simp at hb;subst hb;exact⟨aC (M9 _),_,hnew⟩
 ·simp at hp;subst hp;exact⟨hf,ho⟩
 ·simp at hb;subst hb;obtain⟨o,e,_⟩:=hc;exact⟨o,e⟩
theorem mE{l:List Nat}{i:Nat}{v:V}{c:MU}{h:NX}(hv:(l.map fun c=>V.str [c])[i]? =some v)(hP:SignAt ⟨l.toArray⟩ i c):VR C W h v c:=by
 obtain⟨c0,u,h1,rfl⟩:=hP
 have h1':l[i]? =some c0:=by simpa using h1
 rw[Nr,h1']at hv
 simp only[Pd,NP]at hv
 subst hv
 exact⟨u,rfl,by unfold lid;simp⟩
theorem zm{l:List Nat}{c:MU}(hh:A.handled=none)(R:au C W st s)(r:VR C W s.heap (.str l) c)(h:fH C A (toT sc' t) W s st (.str l) Q):wpAny (model C.prog C.w) A (pyIter c) Q Ex s:=by
 obtain⟨tk,rfl,hl⟩:=r
 cases ha:(⟨l.toArray⟩:NT).cps.all (· <128)
 ·refine wpAny_pyIter_wide ha ?_
  have hnew:=Nl s.heap (o:={ cls:=.type "str_iterator",data:=.fields #[.str ⟨l.toArray⟩ tk,.int 0 0] }) rfl
  refine h s.heap.objs.size s _ W [] [] [] [s.heap.objs.size] [] _ .refl R (PS.push s _ s.toks).g (by simp) (fun b hb=>?_) (by simp) ⟨rfl,fun p hp=>by cases hp⟩
   (It.ofWalks (T:="str_iterator") (RS:=[s.heap.objs.size]) (l:=l.map fun c=>.str [c]) (Walks.strWide hh s.heap.objs.size ⟨l.toArray⟩ tk) _ (by simp)
    (fun i h h' hc hk=>let ⟨o,e,r⟩:=hc;⟨o,hk _ (by simp) o e,r⟩) (fun b hb=>hb) (fun i h hc b hb=>?_) (fun i h hc hz=>hc) (fun i h hst=>hst)
    (fun i h hc=>let ⟨o,e,h1,h2⟩:=hc;⟨o,_,e,h1,h2⟩) (by decide) (fun i s Q Ex hc hQ=>wpAny_pyIter_striter_wide hc hQ) (fun i v c W h hv hr hP=>mE hv hP)) ⟨rfl,NG _,⟨_,hnew,rfl,rfl⟩⟩
  ·simp at hb;subst hb;exact⟨aC (M9 _),_,hnew⟩
  ·simp at hb;subst hb;obtain⟨o,e,_⟩:=hc;exact⟨o,e⟩
 ·refine wpAny_pyIter_ascii ha ?_
  have hnew:=Nl s.heap (o:={ cls:=.type "str_ascii_iterator",data:=.fields #[.str ⟨l.toArray⟩ tk,.int 0 0] }) rfl
  refine h s.heap.objs.size s _ W [] [] [] [s.heap.objs.size] [] _ .refl R (PS.push s _ s.toks).g (by simp) (fun b hb=>?_) (by simp) ⟨rfl,fun p hp=>by cases hp⟩
   (It.ofWalks (T:="str_ascii_iterator") (RS:=[s.heap.objs.size]) (l:=l.map fun c=>.str [c]) (Walks.strAscii hh s.heap.objs.size ⟨l.toArray⟩ tk) _ (by simp)
    (fun i h h' hc hk=>let ⟨o,e,r⟩:=hc;⟨o,hk _ (by simp) o e,r⟩) (fun b hb=>hb) (fun i h hc b hb=>?_) (fun i h hc hz=>hc) (fun i h hst=>hst)
    (fun i h hc=>let ⟨o,e,h1,h2⟩:=hc;⟨o,_,e,h1,h2⟩) (by decide) (fun i s Q Ex hc hQ=>wpAny_pyIter_striter_ascii hc hQ) (fun i v c W h hv hr hP=>mE hv hP)) ⟨rfl,NG _,⟨_,hnew,rfl,rfl⟩⟩
  ·simp at hb;subst hb;exact⟨aC (M9 _),_,hnew⟩
  ·simp at hb;subst hb;obtain⟨o,e,_⟩:=hc;exact⟨o,e⟩
theorem zo{i:Nat}{c:MU}(hh:A.handled=none)(R:au C W st s)(r:VR C W s.heap (.ref i) c)(h:fH C A (toT sc' t) W s st (.ref i) Q):wpAny (model C.prog C.w) A (pyIter c) Q Ex s:=by
 obtain⟨a,ha,rfl⟩:=r
 obtain⟨l,hl⟩:∃l,st.σ[i]? =some l:=⟨_,M3 (R.r.jC▸(MW.mp ha).1)⟩
 obtain⟨items,hL,_⟩:=R.r.σ i l a hl ha
 refine Qe hL.isList ?_
 have hnew:=Nl s.heap (o:={ cls:=.type "list_iterator",data:=.fields #[.ref a,.int 0 0] }) rfl
 have val:∀{j v W st} {s:MT},vW (.ref i) st j=some v→au C W st s→aY C W s.heap [.ref i] [.ref a]→ ∃cs:Array MU,s.heap.IsList a cs∧ ∃c,cs[j]? =some c∧VR C W s.heap v c:=by
  intro j v W st s hv R hr
  obtain⟨_,_,e,⟨a',ha',e2⟩,_⟩:=hr
  cases e;cases e2
  replace hv:(st.σ[i]?).bind (·[j]?)=some v:=hv
  cases hl:st.σ[i]? with
  |none=>rw[hl]at hv;cases hv
  |some l=>
   rw[hl]at hv
   obtain⟨cs,h1,h2,_⟩:=R.r.σ i l a hl ha'
   obtain⟨c,h3,h4⟩:=h2.get hv
   exact⟨cs,h1.isList,c,by rw[←N2];exact h3,h4⟩
 refine h s.heap.objs.size s _ W [.ref i] [.ref a] [] [s.heap.objs.size] [] (fun j wr s'=>wr=[s.heap.objs.size]∧s'.heap.IsListIter s.heap.objs.size a j) .refl R (PS.push s _ s.toks).g (by simp) (fun b hb=>?_) (by simp)
  ⟨⟨_,[],rfl,⟨a,ha,rfl⟩,rfl⟩,fun p hp=>by cases hp⟩ ?_ ⟨rfl,⟨_,hnew,rfl,rfl⟩⟩
 ·simp at hb;subst hb;exact⟨aC (M9 _),_,hnew⟩
 ·refine⟨fun j wr s s' hst hk _=>⟨hst.1,hst.2.at fun o e=>hk _ (by rw[hst.1];simp) o e⟩,fun j wr s hst b hb=>?_,fun j v s2 W2 st2 wr Q2 Ex2 hv hst hX R2 H hQ=>?_,fun j s2 W2 st2 wr Q2 Ex2 hv hst hX R2 H hQ=>?_,fun j wr s2 Q2 Ex2 hst hQ=>Tg hst.2 hQ⟩
  ·rw[hst.1]at hb;simp at hb;subst hb;obtain⟨o,e,_⟩:=hst.2;exact⟨o,e⟩
  ·obtain⟨rfl,hit⟩:=hst
   obtain⟨cs,h1,c,h2,h3⟩:=val hv R2 H.1
   refine wpAny_pyNext_list_item hit h1 h2 fun h' hit' hs'=>⟨c,rfl,?_⟩
   refine jT (T:="list_iterator") (let ⟨o,e,h1,h2⟩:=hit';⟨o,_,e,h1,h2⟩) (by decide) ?_
   have hk:∀b o,b∉[s.heap.objs.size]→s2.heap.get? b=some o→h'.get? b=some o:=fun b o hb e=>hs'.extBut b o (fun q=>hb (by simp[q])) e
   exact hQ c _ [] OQ (by simp) (aL.of (tk:=s2.toks) (fun b hb=>hb) hk) ⟨rfl,hit'⟩ (VR.ext (aL.ext hX (fun b hb=>hb) hk) h3)
  ·obtain⟨rfl,hit⟩:=hst
   obtain⟨_,_,e,⟨a',ha',e2⟩,_⟩:=H.1
   cases e;cases e2
   obtain⟨l2,hl2⟩:∃l,st2.σ[i]? =some l:=⟨_,M3 (R2.r.jC▸(MW.mp ha').1)⟩
   obtain⟨cs,h1,h2,_⟩:=R2.r.σ i l2 a hl2 ha'
   have hn:l2[j]? =none:=by
    replace hv:(st2.σ[i]?).bind (·[j]?)=none:=hv
    rw[hl2]at hv;exact hv
   have hlen:=h2.length
   simp only[Oe]at hlen
   refine wpAny_pyNext_list_end hh hit h1.isList (Ph (by rw[hlen];exact NR.mp hn)) fun h' he'=>?_
   exact hQ _ (aL.of (tk:=s2.toks) (wr:=[s.heap.objs.size]) (fun b hb=>hb) fun b o hb e=>he' b o (fun q=>hb (by simp[q])) e)
theorem q_{src:V}{c:MU}(hh:A.handled=none)(R:au C W st s)(r:VR C W s.heap src c)(hs:xP st src)(h:fH C A (toT sc' t) W s st src Q):wpAny (model C.prog C.w) A (pyIter c) Q Ex s:=by
 cases src with
 |ref i=>exact zo hh R r h
 |lst l=>exact wh hh R r h
 |tup l=>exact zl hh R r h
 |str l=>exact zm hh R r h
 |_=>obtain⟨l,e⟩:=hs;cases e
theorem fH.after{src:V}(S:Step C W.ay W s W' s')(h:fH C A (toT sc' t) W s st src Q):fH C A (toT sc' t) W' s' st src Q:=
 fun I s1 s2 W1 xs cs fz wr gw St S1 R1 P hnd hw hg H It hst=>h I s1 s2 W1 xs cs fz wr gw St (S.after S1) R1 P hnd hw hg H It hst
theorem bh{e:E}(hv:bJ C O n e)(he:∀en st,ak O e .iter en st=ak O e .val en st):AN C O n e:=by
 intro sc env en W st st' s A Ex Q src t sc' wf wt B X hr h1 h2 h
 rw[he]at h1
 exact hv wf B X hr h1 fun c s1 W1 S1 R1 r1=>q_ hr.handled R1 r1 h2 (h.after S1)
end
end Rk
end

section
namespace Rk
open PySem PySem.W PySem.Calls PyProof.Rows PySem.SeqAt
section
variable {C:Cx} {O:cQ} {n:Nat} {W W' W'':Wt} {st st':ao} {s s':MT} {A:NF} {Ex:MU→MT→Prop} {sc:Sc} {env:OZ} {en:En}
variable {t:T} {sc':Sc} {Q:MU→MT→Prop}
theorem all1{α:Type}{P:α→Prop}{x:α}(h:P x):∀b∈[x],P b:=fun _ hb=>M4.mp hb▸h
theorem all2{α:Type}{P:α→Prop}{x y:α}(h:P x)(h2:P y):∀b∈[x,y],P b:=Oc.mpr ⟨h,all1 h2⟩
theorem Ip{α:Type}{P:α→Prop}{x y z:α}(h:P x)(h2:P y)(h3:P z):∀b∈[x,y,z],P b:=Oc.mpr ⟨h,all2 h2 h3⟩
theorem Iq{α:Type}{P:α→Prop}{x y z u:α}(h:P x)(h2:P y)(h3:P z)(h4:P u):∀b∈[x,y,z,u],P b:=Oc.mpr ⟨h,Ip h2 h3 h4⟩
theorem Mn{α:Type}{P:α→Prop}{x y z u v:α}(h:P x)(h2:P y)(h3:P z)(h4:P u)(h5:P v):∀b∈[x,y,z,u,v],P b:=Oc.mpr ⟨h,Iq h2 h3 h4 h5⟩
theorem o6{α:Type}{P:α→Prop}:∀b∈([]:List α),P b:=fun _ h=>by cases h
theorem m0{α:Type}{x:α}{l:List α}:x∈x::l:=.head _
theorem m1{α:Type}{x y:α}{l:List α}:x∈y::x::l:=.tail _ m0
theorem m2{α:Type}{x y z:α}{l:List α}:x∈y::z::x::l:=.tail _ m1
theorem m3{α:Type}{x y z u:α}{l:List α}:x∈y::z::u::x::l:=.tail _ m2
theorem m4{α:Type}{x y z u v:α}{l:List α}:x∈y::z::u::v::x::l:=.tail _ m3
theorem HB{x:Nat}:[x].Nodup:=NK.mpr ⟨(fun h=>by cases h),OQ⟩
theorem J8{x:Nat}:[x+1,x].Nodup:=NK.mpr ⟨fun h=>PT _ (M4.mp h),HB⟩
theorem xS:2≤lid:=by decide
theorem wj{m:Nat}{a:Int}{i:Nat}{v:V}(e:(cA a m)[i]? =some v):v= .int (a+i):=by
 have hi:=(MW.mp e).1
 rw[lq]at hi
 rw[lM,Oa,Nr,List.getElem?_range hi]at e
 exact(M0 e).symm
theorem C6{a b:Int}{m:Nat}(h0:0≤a)(ha:a<2^61)(hb:b≤1048576)(hm:m=(b-a).toNat):Builtin.Range.rangeSize a b 1=(m:Int)∧ -(2^62)≤a∧a<2^62∧b<2^62:=by
 rw[rangeSize_one,hm]
 refine⟨?_,by lia,by lia,by lia⟩
 split<;>lia
theorem nL{a b:Int}{r:Na}{u1 u2 u3:Vt}{s0:MT}{m:Nat}(hh:A.handled=none)(R:au C W st s0)(P0:PS s0 s)(hr:IsRange s.heap r a b 1 u1 u2 u3)(h0:0≤a)(ha:a<2^61)(hb:b≤lid)(hb': -(2^62)≤b)(hm:m=(b-a).toNat)
  (h:fH C A (toT sc' t) W s0 st (.lst (cA a m)) Q):wpAny (model C.prog C.w) A (pyIter (.ref r)) Q Ex s:=by
 obtain⟨hsz,q1,q2,q3⟩:=C6 h0 ha hb hm
 refine wpAny_pyIter_range hr (small_one q1 q2 hb' q3) ?_
 rw[hsz]
 have hnew:=Nl s.heap (o:={ cls:=.type "range_iterator",data:=.fields #[rawInt a,rawInt (m:Int),rawInt 1] }) rfl
 have hfr:s0.heap.get? s.heap.objs.size=none:=by
  cases e:s0.heap.get? s.heap.objs.size with
  |none=>rfl
  |some o=>have:=P0.keep _ _ e;rw[aC (M9 _)]at this;cases this
 exact h s.heap.objs.size s0 _ W [] [] [] [s.heap.objs.size] [] _ .refl R (P0.trans (PS.push s _ s.toks)).g HB (all1 ⟨hfr,_,hnew⟩) o6 ⟨rfl,o6⟩
  (It.ofWalks (T:="range_iterator") (RS:=[s.heap.objs.size]) (l:=cA a m) (Walks.range hh s.heap.objs.size a 1 m) (fun i h=>IsRangeIter h s.heap.objs.size (a+(i:Nat)*1) ((m:Int)-(i:Nat)) 1) (lq _ _)
   (fun i h h' hc hk=>hk _ m0 _ hc) (fun b hb=>hb) (fun i h hc=>all1 ⟨_,hc⟩) (fun i h hc hz=>hc) (fun i h hst=>hst)
   (fun i h hc=>⟨_,_,hc,rfl,rfl⟩) (by decide) (fun i s Q Ex hc hQ=>wpAny_pyIter_rangeiter hc hQ) (fun i v c W h hv hr hP=>by
    obtain⟨t,rfl⟩:=hP
    rw[wj hv]
    exact⟨t,by rw[Vh]⟩)) ⟨rfl,NG _,by
  have:IsRangeIter (s.heap.push { cls:=.type "range_iterator",data:=.fields #[rawInt a,rawInt (m:Int),rawInt 1] }) s.heap.objs.size a (m:Int) 1:=hnew
  rw[show a+((0:Nat):Int)*1=a from Int.add_zero a,show(m:Int)-((0:Nat):Int)=m from UL _]
  exact this⟩
theorem src_range{args:List V}{cs:List MU}{l:List V}(hh:A.handled=none)(R:au C W st s)(r:aY C W s.heap args cs)(e:vC args=some l)(h:fH C A (toT sc' t) W s st (.lst l) Q):
  wpAny (model C.prog C.w) A (N5 (.type "range") cs) (fun x s'=>wpAny (model C.prog C.w) A (pyIter x) Q Ex s') Ex s:=by
 unfold vC at e
 cases h2:sf args with
 |some p=>
  rw[h2]at e
  obtain⟨a,b,x1,x2,e'⟩:=m7 e;clear e
  obtain⟨hb,e⟩:=dX e';clear e'
  cases e
  rw[jG h2,x1,x2]at r
  obtain⟨c,cr,rfl,⟨u,rfl⟩,c2,cr2,rfl,⟨u2,rfl⟩,e2⟩:=r
  cases e2
  exact call_range_2 (nL hh R (PS.push s _ _) (V7 _ _ _ _ _ _ _) hb.1 (Int.lt_of_le_of_lt hb.2.1 (by decide)) hb.2.2.2 (UM (by decide) hb.2.2.1) rfl h)
 |none=>
  rw[h2]at e
  obtain⟨x,h3,e'⟩:=af e;clear e
  obtain⟨b,h4,e⟩:=af e';clear e'
  obtain⟨hb,e'⟩:=dX e;clear e
  cases e'
  rw[dM h3,bO h4]at r
  obtain⟨c,cr,rfl,⟨u,rfl⟩,e2⟩:=r
  cases e2
  exact call_range_1 (nL (a:=0) hh R (PS.push s _ _) (V7 _ _ _ _ _ _ _) (Int.le_refl _) (by decide) hb.2 (UM (by decide) hb.1) (by rw[UL]) h)
theorem kL:∀{l:List V} {k:Int} {i:Nat} {v:V},(eU k l)[i]? =some v→ ∃x,l[i]? =some x∧v= .tup [.int (k+i),x]
 |[],k,i,v,e=>by simp[kE,kF]at e
 |x::l,k,0,v,e=>by
  simp only[kE,kF,PR,NP]at e
  exact⟨x,rfl,by rw[←e];simp⟩
 |x::l,k,i+1,v,e=>by
  simp only[kE,kF,OJ]at e
  obtain⟨y,h1,h2⟩:=kL e
  exact⟨y,by simpa using h1,by rw[h2];congr 2;congr 1;simp;lia⟩
theorem gp:∀(l:List V) (k:Int),(eU k l).length=l.length
 |[],_=>rfl
 |x::l,k=>by simp[kE,kF,gp l]
theorem PS.two{h':NX}{t:Nat}(hk:∀b o,s.heap.get? b=some o→h'.get? b=some o):PS s { s with heap:=h',toks:=t }:=⟨hk,rfl,rfl⟩
theorem zp{xs:List V}{c:MU}{elts:List (Nat×NW)}{k:Nat}{p:NW}(hh:A.handled=none)(R:au C W st s)(r:VR C W s.heap (.lst xs) c)(h:fH C A (toT sc' (.tup elts k p)) W s st (.lst (eU 0 xs)) Q):
  wpAny (model C.prog C.w) A (N5 (.type "enumerate") [c]) (fun x s'=>wpAny (model C.prog C.w) A (pyIter x) Q Ex s') Ex s:=by
 obtain⟨a,items,rfl,hf,⟨m,ho⟩,rs,hl⟩:=r
 have halt:=Od ho
 refine call_enumerate_list (fR ho) fun h' he hi hsz hk=>PD he ?_
 exact h (s.heap.objs.size+1) s _ W xs items.toList [(a,{ cls:=.type "list",data:=.seq items m })] [s.heap.objs.size+1,s.heap.objs.size] [] _ .refl R (PS.two (t:=s.toks) hk).g J8
  (all2 ⟨aC (Qg _),_,he⟩ ⟨aC (M9 _),let ⟨o,e,_⟩:=hi;⟨o,e⟩⟩) o6 ⟨rs,all1 ⟨hf,ho⟩⟩
  (It.o5 (RS:=[s.heap.objs.size+1,s.heap.objs.size]) (l:=eU 0 xs) (WalksT.enumerate hh (s.heap.objs.size+1) s.heap.objs.size a (PT _) (OA (ON halt)) (OA halt) items)
   (fun i h=>(∃old,U6 h (s.heap.objs.size+1) s.heap.objs.size i old)∧h.IsListIter s.heap.objs.size a i) (by rw[gp,←rs.length];rfl)
   (fun i h h' hc hk=>⟨hc.1.imp fun old e=>hk _ m0 _ e,hc.2.at fun o e=>hk _ m1 o e⟩) (fun b hb=>hb) (fun i h hc=>all2 (let ⟨⟨old,e⟩,_⟩:=hc;⟨_,e⟩) (let ⟨_,o,e,_⟩:=hc;⟨o,e⟩))
   (fun i h hc hz=>⟨hc.1,hc.2,fR (hz _ m0)⟩) (fun i h hst=>⟨hst.1,hst.2.1⟩)
   (fun i s Q Ex hc hQ=>let ⟨⟨old,he⟩,_⟩:=hc;PD he hQ) (fun i v vals W h hv hr hP=>by
    obtain⟨x,h1,rfl⟩:=kL hv
    obtain⟨t,c,h2,rfl⟩:=hP
    exact⟨_,rfl,⟨_,_,rfl,⟨t,by rw[Int.zero_add]⟩,_,_,rfl,aY.at hr h1 h2,rfl⟩,xS⟩)) ⟨rfl,NG _,⟨_,he⟩,hi⟩
theorem AY{xs:List Nat}{c:MU}{elts:List (Nat×NW)}{k:Nat}{p:NW}(hh:A.handled=none)(R:au C W st s)(r:VR C W s.heap (.str xs) c)(h:fH C A (toT sc' (.tup elts k p)) W s st (.lst (eU 0 (xs.map fun c=>.str [c]))) Q):
  wpAny (model C.prog C.w) A (N5 (.type "enumerate") [c]) (fun x s'=>wpAny (model C.prog C.w) A (pyIter x) Q Ex s') Ex s:=by
 obtain⟨tk,rfl,hl⟩:=r
 refine Uv fun h' he hi hsz hk=>PD he ?_
 have D:Draws C.prog C.w A.in1 s.heap.objs.size [s.heap.objs.size] (⟨xs.toArray⟩:NT).cps.size (fun(i:Nat) (v:MU)=>∃c u,(⟨xs.toArray⟩:NT).cps[i]? =some c∧v= .str ⟨#[c]⟩ u) (fun i h=>h.IsStrIter s.heap.objs.size (strIterType ⟨xs.toArray⟩) ⟨xs.toArray⟩ tk i):=by
  unfold strIterType
  split
  ·exact Vy (A:=A.in1) (show A.in1.handled=none from hh) _ _ _
  ·exact VS (A:=A.in1) (show A.in1.handled=none from hh) _ _ _
 exact h (s.heap.objs.size+1) s _ W [] [] [] [s.heap.objs.size+1,s.heap.objs.size] [] _ .refl R (PS.two (t:=s.toks) hk).g J8
  (all2 ⟨aC (Qg _),_,he⟩ ⟨aC (M9 _),let ⟨o,e,_⟩:=hi;⟨o,e⟩⟩) o6 ⟨rfl,o6⟩
  (It.o5 (RS:=[s.heap.objs.size+1,s.heap.objs.size]) (l:=eU 0 (xs.map fun c=>.str [c])) (UN D (s.heap.objs.size+1) (PT _) (by simp) (by simp))
   (fun i h=>(∃old,U6 h (s.heap.objs.size+1) s.heap.objs.size i old)∧h.IsStrIter s.heap.objs.size (strIterType ⟨xs.toArray⟩) ⟨xs.toArray⟩ tk i) (by rw[gp,Nq];rfl)
   (fun i h h' hc hk=>⟨hc.1.imp fun old e=>hk _ m0 _ e,let ⟨o,e,r⟩:=hc.2;⟨o,hk _ m1 o e,r⟩⟩) (fun b hb=>hb) (fun i h hc=>all2 (let ⟨⟨old,e⟩,_⟩:=hc;⟨_,e⟩) (let ⟨_,o,e,_⟩:=hc;⟨o,e⟩))
   (fun i h hc hz=>hc) (fun i h hst=>hst)
   (fun i s Q Ex hc hQ=>let ⟨⟨old,he⟩,_⟩:=hc;PD he hQ) (fun i v vals W h hv hr hP=>by
    obtain⟨x,h1,rfl⟩:=kL hv
    obtain⟨t,c,h2,rfl⟩:=hP
    exact⟨_,rfl,⟨_,_,rfl,⟨t,by rw[Int.zero_add]⟩,_,_,rfl,mE h1 h2,rfl⟩,xS⟩)) ⟨rfl,NG _,⟨_,he⟩,hi⟩
theorem AZ{args:List V}{cs:List MU}{l:List V}{elts:List (Nat×NW)}{k:Nat}{p:NW}(hh:A.handled=none)(R:au C W st s)(r:aY C W s.heap args cs)(e:Ej args=some l)(h:fH C A (toT sc' (.tup elts k p)) W s st (.lst l) Q):
  wpAny (model C.prog C.w) A (N5 (.type "enumerate") cs) (fun x s'=>wpAny (model C.prog C.w) A (pyIter x) Q Ex s') Ex s:=by
 obtain⟨x,h1,e'⟩:=af e;clear e
 rw[dM h1]at r
 clear h1
 obtain⟨c,cr,rfl,rc,e2⟩:=r
 cases e2
 cases x with
 |lst xs=>cases e';exact zp hh R rc h
 |str xs=>cases e';exact AY hh R rc h
 |_=>cases e'
theorem MS{z:Nat}:[z+4,z+2,z+3,z,z+1].Nodup:=by simp
theorem C7{args:List V}{cs:List MU}{l:List V}(hh:A.handled=none)(R:au C W st s)(r:aY C W s.heap args cs)(e:HS args=some l)(h:fH C A (toT sc' t) W s st (.lst l) Q):
  wpAny (model C.prog C.w) A (N5 (.type "reversed") cs) (fun x s'=>wpAny (model C.prog C.w) A (pyIter x) Q Ex s') Ex s:=by
 obtain⟨x,h1,e'⟩:=af e;clear e
 obtain⟨xs,h2,e⟩:=af e';clear e'
 cases e
 rw[dM h1,fK h2]at r
 clear h1 h2
 obtain⟨c,cr,rfl,⟨a,items,rfl,hf,⟨m,ho⟩,rs,hl⟩,e2⟩:=r
 cases e2
 have hlen:items.size=xs.length:=rs.length
 refine call_reversed_list (fR ho) ?_
 have hnew:=Nl s.heap (o:=revObj a ((items.size:Int)-1)) rfl
 refine Tw ⟨_,hnew,rfl,rfl⟩ ?_
 exact h s.heap.objs.size s _ W xs items.toList [(a,{ cls:=.type "list",data:=.seq items m })] [s.heap.objs.size] [] _ .refl R (PS.push s _ s.toks).g HB (all1 ⟨aC (M9 _),_,hnew⟩) o6 ⟨rs,all1 ⟨hf,ho⟩⟩
  (It.ofWalks (T:="list_reverseiterator") (RS:=[s.heap.objs.size]) (l:=xs.reverse) (Walks.listRev hh s.heap.objs.size a (OA (Od ho)) items) (fun i h=>i≤items.size∧h.IsRevIter s.heap.objs.size a ((items.size:Int)-1-(i:Int))) (by rw[N4,hlen])
   (fun i h h' hc hk=>⟨hc.1,hc.2.at fun o e=>hk _ m0 o e⟩) (fun b hb=>hb) (fun i h hc=>all1 (let ⟨_,o,e,_⟩:=hc;⟨o,e⟩)) (fun i h hc hz=>⟨hc.1,hc.2,fR (hz _ m0)⟩) (fun i h hst=>⟨hst.1,hst.2.1⟩)
   (fun i h hc=>let ⟨o,e,h1,h2⟩:=hc.2;⟨o,_,e,h1,h2⟩) (by decide) (fun i s Q Ex hc hQ=>Tw hc.2 hQ) (fun i v c W h hv hr hP=>by
    have hi:i<xs.length:=N4▸(MW.mp hv).1
    rw[List.getElem?_reverse hi]at hv
    rw[hlen]at hP
    exact aY.at hr hv hP)) ⟨rfl,NG _,NG _,⟨_,hnew,rfl,by simp[revObj]⟩⟩
theorem A0(ok:bF C)(oo:bD C O n){i:Nat}{l pf q p}(hl:e_ C O n l){v0:V}{args ls:List V}{st1:ao}(wne:fN l=false)(wfl:gF C.bN l sc=true)(B:dF C sc env)(X:At C sc env en W st s)(hr:bL n A)
  (wt:CW sc t i=true) (g0:cC en st i=some v0) (e1:b8 O l en st=some (args,st1)) (e2:tU O v0 args=some ls) (h:fH C A (toT sc' t) W s st1 (.lst ls) Q):
  wpAny (model C.prog C.w) A (eval (bw (.call (.var i pf) l .bH q p) sc) env) (fun x s'=>wpAny (model C.prog C.w) A (pyIter x) Q Ex s') Ex s:=by
 refine O0 (dR ok B X g0 fun cf rf=>?_)
 show wpAny _ _ (callWith p cf [] (backTo p (starEach (b9 l sc) env)) (backToKw p (keywordEach [] env))) _ _ _
 rw[noKw]
 cases v0 with
 |bi b=>
  have hc:cf=ee b:=rf
  subst hc
  have htup:Im b=true→vV t=true:=fun hb=>by
   obtain⟨k,hk,wt⟩:=AM wt
   obtain⟨w,hw,hc⟩:=ni g0
   have hs:=X.fr.vy i _ w hk hw
   clear hl X hr g0 e1 e2 h hk hw
   rcases hc with rfl|⟨k',rfl,_⟩|rfl
   ·exact hs.elim
   ·exact hs.elim
   ·rw[←show V.bi b=cH k from hs,show o4 (.bi b)=true from hb]at wt;exact wt
  refine g7 (fY l).1 fun f=>fQ hl wne wfl B X hr e1 fun cs s1 W1 S1 R1 r1=>?_
  have h:=h.after S1
  clear hl X g0 e1 S1
  cases b with
  |range=>exact src_range hr.handled R1 r1 e2 h
  |enumerate=>cases t with
   |bM _ _=>cases htup rfl
   |tup elts kk pp=>exact AZ hr.handled R1 r1 e2 h
  |reversed=>exact C7 hr.handled R1 r1 e2 h
  |_=>cases e2
 |fn g=>
  replace e2:O.gen (.fn g) args=some ls:=e2
  clear g0
  obtain⟨a,o,fd,rfl,hf,ho,hd⟩:=oo.Fp e2 X.r rf
  refine PC (o:=o) (fd:=fd) (fQ hl wne wfl B X hr e1 fun cs s1 W1 S1 R1 r1=>⟨⟨(fD.step S1 hf ho).2,hd⟩,?_⟩)
  exact oo.gen e2 hr R1 (VR.step S1 rf) r1 (h.after S1)
 |_=>cases e2
theorem zq(ok:bF C)(oo:bD C O n){f l key q p}(hl:e_ C O n l)(hk:bJ C O n key)(hval:bJ C O n (.call f l key q p)):AN C O n (.call f l key q p):=by
 intro sc env en W st st' s A Ex Q src t sc' wf wt B X hr h1 h2 h
 have wf0:=wf
 obtain⟨wf,wlen⟩:=band wf
 obtain⟨wf,wne⟩:=band wf
 obtain⟨wf,wfk⟩:=band wf
 obtain⟨wf,wfl⟩:=band wf
 obtain⟨wv,wff⟩:=band wf
 have wne:=v9 wne
 clear hk
 obtain⟨i,pf,rfl⟩:=q9 wv
 ·obtain⟨v1,g0,h1'⟩:=kK h1;clear h1
  obtain⟨args,st1,e1,h1⟩:=az h1';clear h1'
  have K:Post C W.ay W s st' src fun x s'=>wpAny (model C.prog C.w) A (pyIter x) Q Ex s':=fun c s1 W1 S1 R1 r1=>q_ hr.handled R1 r1 h2 (h.after S1)
  cases hn:dS key with
  |true=>
   rw[hn]at h1
   have:=v_ hn;subst this
   have h1:(tU O v1 args).elim (oG O v1 args none st1) (fun l=>some (.lst l,st1))=some (src,st'):=h1
   cases e2:tU O v1 args with
   |none=>rw[e2]at h1;exact call_plain ok oo hl wne wfl B X hr g0 e1 h1 K
   |some ls=>
    rw[e2]at h1
    clear hval h2
    obtain⟨rfl,rfl⟩:=aP h1
    exact A0 ok oo hl wne wfl B X hr wt g0 e1 e2 h
  |false=>
   rw[hn]at h1
   obtain⟨kv,st2,e2,h1'⟩:=az h1
   exact hval wf0 B X hr (aA (bind_eq g0 rfl) (aA e1 (by rw[hn];exact aA e2 h1'))) K
noncomputable def LQ:V→String
 |.str _=>"str"
 |.int _=>"int"
 |_=>"list"
noncomputable def Em:V→Bool
 |.str _|.int _|.lst _|.ref _=>true
 |_=>false
theorem C8{m:Mt}{x:V}{args:List V}{r:V×ao}(hm:m.z5=false)(e:eG st' m x args=some r):(El m (lH x)).1=LQ x∧Em x=true:=by
 cases m with
 |append=>
  obtain⟨_,_,e⟩:=af e
  obtain⟨p,hp,_⟩:=af e
  rw[(fW hp).1];exact⟨rfl,rfl⟩
 |insert=>
  obtain⟨_,_,e⟩:=af e
  obtain⟨_,_,e⟩:=af e
  obtain⟨p,hp,_⟩:=af e
  rw[(fW hp).1];exact⟨rfl,rfl⟩
 |reverse=>
  obtain⟨_,_,e⟩:=af e
  obtain⟨p,hp,_⟩:=af e
  rw[(fW hp).1];exact⟨rfl,rfl⟩
 |count=>
  obtain⟨_,_,e⟩:=af e
  cases x<;>first|exact⟨rfl,rfl⟩|exact ns e
 |join=>
  obtain⟨t0,ht,_⟩:=af e
  rw[eT ht];exact⟨rfl,rfl⟩
 |dG=>
  obtain⟨i,hi,_⟩:=af e
  rw[bO hi];exact⟨rfl,rfl⟩
 |replace=>exact nomatch hm
structure C9 (s:MT) (co:MU) (T:String):Prop where
 t:s.TypeIs co T
 d:∀a,co= .ref a→ ∃ob,s.heap.get? a=some ob∧ob.dict=none
theorem C9.lst{a:Na}{cs:Array MU}{n:Nat}(ho:s.heap.get? a=some { cls:=.type "list",data:=.seq cs n }):C9 s (.ref a) "list":=⟨⟨_,ho,rfl⟩,fun b hb=>⟨_,Value.ref.inj hb▸ho,rfl⟩⟩
theorem wk{x:V}{co:MU}(hx:Em x=true)(R:au C W st s)(rx:VR C W s.heap x co):C9 s co (LQ x):=by
 cases x with
 |str l=>exact rx.kU rfl fun t _=>⟨Up _ _ _,nofun⟩
 |int i=>exact rx.iD rfl fun t=>⟨Sz _ _ _,nofun⟩
 |lst l=>
  obtain⟨a,cs,rfl,_,⟨m,ho⟩,_⟩:=rx
  exact .lst ho
 |ref i=>
  refine rx.KP rfl fun a ha=>?_
  have hl:=M3 (R.r.jC▸(MW.mp ha).1)
  obtain⟨cs,⟨m,ho⟩,_⟩:=R.r.σ i _ a hl ha
  exact .lst ho
 |_=>exact nomatch hx
theorem xT{o:E}{m:NT}(h:isCall o=false):attributeBase (bw o sc) m env (eval (bw o sc) env)=eval (bw o sc) env:=by cases o<;>first|rfl|exact nomatch h
theorem A4{o m l q p}(ho:bJ C O n o)(hl:e_ C O n l):bJ C O n (.d8 o m l q p):=by
 intro sc env en W st st' s A Ex Q v wf B X hr he h
 obtain⟨wf,wm⟩:=band wf
 obtain⟨wf,wlen⟩:=band wf
 obtain⟨wf,wln⟩:=band wf
 obtain⟨wf,wc⟩:=band wf
 obtain⟨wo,wl⟩:=band wf
 have wm:=v9 wm
 have wc:=v9 wc
 have wlen:=of_decide_eq_true wlen
 obtain⟨x,st1,e1,he'⟩:=az he;clear he
 obtain⟨args,st2,e2,he⟩:=az he';clear he'
 obtain⟨b1,b2,b3⟩:=fY (sc:=sc) (env:=env) (p:=p) l
 refine Sp (xT wc) ?_ wln (ho wo B X hr e1 fun co s1 W1 S1 R1 r1=>?_)
 ·rw[b2,b3,noKw]
  simp only[V1,VT,P4,Px,Qp,if_true,decide_eq_true_eq]
  lia
 ·obtain⟨k1,k2⟩:=C8 wm he
  have K:=wk k2 R1 r1
  have F:=q5 m (lH x)
  rw[←k1]at K
  refine⟨_,_,F.p,F.s,F.t,K.t,K.d,?_⟩
  have fin:∀cs s2 W2,Step C W1.ay W1 s1 W2 s2→au C W2 st2 s2→aY C W2 s2.heap args cs→wpAny (model C.prog C.w) A (N5 (.builtin (El m (lH x)).2) (co::cs) []) Q Ex s2:=by
   intro cs s2 W2 S2 R2 r2
   exact uq wm hr R2 he (VR.step S2 r1) r2 (h.after (S1.after S2))
  refine QO b1 ?_
  cases hnil:fN l with
  |true=>
   clear ho hl X hr he h e1 S1 r1 k1 k2
   cases l with
   |cons _ _=>cases hnil
   |nil=>
    obtain⟨rfl,rfl⟩:=aP e2
    rw[show backTo p (starEach (b9 .nil sc) env)=[] by first|rfl|simp only[b9,starEach,backTo,PY]]
    exact PySem.evalArgs_none (fin [] s1 W1 .refl R1 rfl)
  |false=>exact fQ hl hnil wl B (X.step S1 R1) hr e2 fun cs s2 W2 S2 R2 r2=>fin cs s2 W2 S2 R2 r2
end
end Rk
end

section
namespace Rk
open PySem PySem.W PySem.Calls PyProof.Rows PySem.SeqAt
section
variable {C:Cx} {O:cQ} {n:Nat} {W W' W'':Wt} {st st':ao} {h h':NX} {s s':MT} {A:NF} {Ex:MU→MT→Prop} {sc:Sc} {env:OZ} {en:En}
noncomputable def pairs(sc:Sc):List (NT×Ra):=sc.map fun x=>(x.name,x.kind)
theorem eg(y:SE)(r:Sc)(m:Nat)(cl:List (NT×Na)):cellsFrom m (pairs (y::r)) cl=if y.kind == .cell then cellsFrom (m+1) (pairs r) ((y.name,m)::cl)else cellsFrom m (pairs r) cl:=by
 simp only[pairs,Nz,cellsFrom]
noncomputable def jx:Sc→Nat
 |[]=>0
 |.ce _::r=>jx r+1
 |_::r=>jx r
theorem rg:jx []=0:=rfl
theorem ur(n:NT)(r:Sc):jx (.ce n::r)=jx r+1:=rfl
theorem uu(n:NT)(r:Sc):jx (.lc n::r)=jx r:=rfl
theorem uv(n:NT)(o:Nat)(r:Sc):jx (.fe n o::r)=jx r:=rfl
theorem uw(k:Nat)(r:Sc):jx (.gl k::r)=jx r:=rfl
noncomputable def addrs(a:Nat):Nat→List Na
 |0=>[]
 |m+1=>a::addrs (a+1) m
theorem xU(a:Nat):addrs a 0=[]:=rfl
theorem C_(a m:Nat):addrs a (m+1)=a::addrs (a+1) m:=rfl
theorem rh:∀(m a i:Nat),i<m→(addrs a m)[i]? =some (a+i)
 |0,_,_,h=>by lia
 |m+1,a,0,_=>rfl
 |m+1,a,i+1,h=>by
  simp only[xU,C_,OJ]
  rw[rh m (a+1) i (by lia)];congr 1;lia
theorem jU:∀(sc:Sc) (a:List (Option V)) (f:List Nat) (κ:List (Option V)),(aV sc a f κ).1.length=sc.length
 |[],_,_,_=>rfl
 |.lc _::r,a,f,κ=>by simp[iX,iY,iZ,i0,i6,jU r]
 |.ce _::r,a,f,κ=>by simp[iX,iY,iZ,i0,i6,jU r]
 |.fe _ _::r,a,f,κ=>by simp[iX,iY,iZ,i0,i6,jU r]
 |.gl _::r,a,f,κ=>by simp[iX,iY,iZ,i0,i6,jU r]
theorem jV:∀(sc:Sc) (f:List Nat) (κ:List (Option V)),(aV sc [] f κ).2=κ++M2 (jx sc) none
 |[],_,κ=>by simp[iX,iY,iZ,i0,i6,rg,ur,uu,uv,uw]
 |.lc _::r,f,κ=>by simp[iX,iY,iZ,i0,i6,rg,ur,uu,uv,uw,jV r]
 |.ce _::r,f,κ=>by simp[iX,iY,iZ,i0,i6,rg,ur,uu,uv,uw,jV r,Oq]
 |.fe _ _::r,f,κ=>by simp[iX,iY,iZ,i0,i6,rg,ur,uu,uv,uw,jV r]
 |.gl _::r,f,κ=>by simp[iX,iY,iZ,i0,i6,rg,ur,uu,uv,uw,jV r]
theorem cG(μ:List Na):∀(sc:Sc) (f:List Nat) (acc:List (NT×Na)),bQ μ sc f acc=bQ μ sc f []++acc
 |[],_,acc=>by simp[dh,di,dj,cL,dw]
 |.lc _::r,f,acc=>by simp only[dh,di,dj,cL,dw];rw[cG μ r f acc]
 |.ce _::r,f,acc=>by simp only[dh,di,dj,cL,dw];rw[cG μ r f acc]
 |.gl _::r,f,acc=>by simp only[dh,di,dj,cL,dw];rw[cG μ r f acc]
 |.fe n _::r,f,acc=>by simp only[dh,di,dj,cL,dw];rw[cG μ r _ (_::acc),cG μ r _ [_]];simp
theorem cJ:∀(names:List (NT×Ra)) (m:Nat) (acc:List (NT×Na)),cellsFrom m names acc=cellsFrom m names []++acc
 |[],_,acc=>by simp[cellsFrom]
 |(nm,k)::r,m,acc=>by
  unfold cellsFrom
  split
  ·rw[cJ r (m+1) (_::acc),cJ r (m+1) [_]];simp
  ·rw[cJ r m acc]
theorem lookup_append_none{α:Type}:∀{l l':List (NT×α)} {x:NT},l.lookup x=none→(l++l').lookup x=l'.lookup x
 |[],_,_,_=>rfl
 |(k,v)::r,l',x,h=>by
  rw[Oo]at h
  rw[OX,Oo]
  cases hb:x == k with
  |true=>rw[hb]at h;cases h
  |false=>rw[hb]at h;exact lookup_append_none h
theorem gH{α:Type}:∀{l l':List (NT×α)} {x:NT} {v:α},l.lookup x=some v→(l++l').lookup x=some v
 |(k,v)::r,l',x,w,h=>by
  rw[Oo]at h
  rw[OX,Oo]
  cases hb:x == k with
  |true=>rw[hb]at h;exact h
  |false=>rw[hb]at h;exact gH h
theorem cM(μ:List Na):∀(sc:Sc) (f:List Nat) (x:NT),x∉sc.map SE.name→(bQ μ sc f []).lookup x=none
 |[],_,_,_=>rfl
 |.lc m::r,f,x,h=>by simp only[dh,di,dj,cL,dw];exact cM μ r f x fun q=>h (MY _ q)
 |.ce m::r,f,x,h=>by simp only[dh,di,dj,cL,dw];exact cM μ r f x fun q=>h (MY _ q)
 |.gl m::r,f,x,h=>by simp only[dh,di,dj,cL,dw];exact cM μ r f x fun q=>h (MY _ q)
 |.fe m o::r,f,x,h=>by
  simp only[dh,di,dj,cL,dw]
  rw[cG,lookup_append_none (cM μ r _ x fun q=>h (MY _ q))]
  have:(x == m)=false:=by simp only[beq_eq_false_iff_ne];intro e;exact h (by rw[e];exact Nk)
  simp[Oo,this]
theorem dW:∀(sc:Sc) (m:Nat) (x:NT),x∉sc.map SE.name→(cellsFrom m (pairs sc) []).lookup x=none
 |[],_,_,_=>rfl
 |y::r,m,x,h=>by
  have hr:=dW r
  have hx:x∉r.map SE.name:=fun q=>h (MY _ q)
  rw[eg]
  split
  ·rw[cJ,lookup_append_none (hr _ x hx)]
   have:(x == y.name)=false:=by simp only[beq_eq_false_iff_ne];intro e;exact h (by rw[e];exact Nk)
   simp[Oo,this]
  ·exact hr m x hx
noncomputable def Ir(μ:List Na)(sc:Sc)(ov:Option V)(f:List Nat)(kl m:Nat)(cl:List (NT×Na))(w:SV):SE→Prop
 |.lc _=>w= .loc ov
 |.ce nm=>∃k,w= .fB (kl+k)∧k<jx sc∧(cellsFrom m (pairs sc) cl).lookup nm=some (m+k)
 |.fe nm _=>∃k,k∈f∧w= .fB k∧(bQ μ sc f []).lookup nm=some (μ.getD k 0)
 |.gl k=>w= .cY (cH k)
theorem iE(μ:List Na):∀(sc:Sc) (a:List (Option V)) (f:List Nat) (κ:List (Option V)) (m:Nat) (cl:List (NT×Na)),(sc.map SE.name).Nodup→f.length=frees sc→ ∀(i:Nat) x w,sc[i]? =some x→(aV sc a f κ).1[i]? =some w→Ir μ sc ((a[i]?).getD none) f κ.length m cl w x
 |[],_,_,_,_,_,_,_,i,x,w,h1,_=>nomatch h1
 |y::r,a,f,κ,m,cl,hn,hf,0,x,w,h1,h2=>by
  have hm:=NK.mp hn
  have h1:y=x:=M0 h1
  rw[←h1]
  clear h1
  cases y with
  |lc nm=>cases a<;>exact(M0 h2).symm
  |ce nm=>
   refine⟨0,(M0 h2).symm,OP _,?_⟩
   rw[eg,if_pos (by rfl),cJ,lookup_append_none (dW r (m+1) nm hm.1)]
   simp[Oo,SE.name]
  |fe nm o=>
   cases f with
   |nil=>exact absurd hf.symm (O1 _)
   |cons k ks=>
    refine⟨k,Nk,(M0 h2).symm,?_⟩
    rw[cL,cG,lookup_append_none (cM μ r _ nm hm.1)]
    simp[Oo]
  |gl k=>exact(M0 h2).symm
 |y::r,a,f,κ,m,cl,hn,hf,i+1,x,w,h1,h2=>by
  have hm:=(NK.mp hn).2
  have ht:(a.tail[i]?).getD none=(a[i+1]?).getD none:=by cases a<;>rfl
  rw[←ht]
  cases y with
  |lc nm=>
   have ih:=iE μ r a.tail f κ m cl hm hf i x w h1 h2
   cases x<;>exact ih
  |ce nm=>
   have ih:=iE μ r a.tail f (κ++[a.headD none]) (m+1) ((nm,m)::cl) hm hf i x w h1 h2
   cases x with
   |ce n2=>
    obtain⟨k,h3,h4,h5⟩:=ih
    refine⟨k+1,by rw[h3,Ng,P6,N6 k 1];rfl,Q5 h4,?_⟩
    rw[eg,if_pos (by rfl),N6 k 1,←P6]
    exact h5
   |_=>exact ih
  |fe nm o=>
   cases f with
   |nil=>exact absurd hf.symm (O1 _)
   |cons k0 ks=>
    have ih:=iE μ r a.tail ks κ m cl hm (V3 hf) i x w h1 h2
    cases x with
    |fe n2 _=>
     obtain⟨k,h3,h4,h5⟩:=ih
     refine⟨k,MY _ h3,h4,?_⟩
     rw[cL,cG]
     exact gH h5
    |_=>exact ih
  |gl k0=>
   have ih:=iE μ r a.tail f κ m cl hm hf i x w h1 h2
   cases x<;>exact ih
theorem gg:∀(sc:Sc) (m:Nat) (cl:List (NT×Na)) (i:Nat) nm o,(sc.map SE.name).Nodup→sc[i]? =some (.fe nm o)→(cellsFrom m (pairs sc) cl).lookup nm=cl.lookup nm
 |[],_,_,_,_,_,_,h=>by simp at h
 |y::r,m,cl,0,nm,o,hn,h=>by
  rw[Nz,NK]at hn
  simp only[PR,NP]at h
  subst h
  rw[eg]
  rw[if_neg (by simp[SE.kind])]
  rw[cJ,lookup_append_none (dW r m nm hn.1)]
 |y::r,m,cl,i+1,nm,o,hn,h=>by
  rw[Nz,NK]at hn
  simp only[OJ]at h
  have hmem:nm∈r.map SE.name:=Nt (f:=SE.name) (Nh h)
  rw[eg]
  split
  ·rw[gg r (m+1) _ i nm o hn.2 h]
   have:(nm == y.name)=false:=by simp only[beq_eq_false_iff_ne];intro e;exact hn.1 (e▸hmem)
   rw[Oo,this]
  ·exact gg r m cl i nm o hn.2 h
theorem au.Dc(R:au C W st s):au C { W with aB:=W.aB++[s.heap.objs.size] } { st with κ:=st.κ++[none] } { s with heap:=s.heap.push { cls:=.type "cell",data:=.cell none } }∧
  Ext C W s.heap { W with aB:=W.aB++[s.heap.objs.size] } (s.heap.push { cls:=.type "cell",data:=.cell none }):=by
 have P:=PS.push s { cls:=.type "cell",data:=.cell none } s.toks
 have hnone:s.heap.get? s.heap.objs.size=none:=aC (M9 _)
 have hall:∀b,b∈({ W with aB:=W.aB++[s.heap.objs.size] }:Wt).all ↔ b∈W.all∨b=s.heap.objs.size:=fun b=>by
  simp only[Wt.all,MX,M4];constructor
  ·rintro(h|(h|h)|h)
   ·exact .inl (.inl h)
   ·exact .inl (.inr (.inl h))
   ·exact .inr h
   ·exact .inl (.inr (.inr h))
  ·rintro((h|h|h)|h)
   ·exact .inl h
   ·exact .inr (.inl (.inl h))
   ·exact .inr (.inr h)
   ·exact .inr (.inl (.inr h))
 have X:Ext C W s.heap { W with aB:=W.aB++[s.heap.objs.size] } (s.heap.push { cls:=.type "cell",data:=.cell none }):=
  ⟨⟨[],by simp⟩,⟨[_],rfl⟩,fun a o f e=>⟨⟨fun hm=>((hall a).mp hm).elim f.1 fun q=>(by rw[q,hnone]at e;cases e),f.2⟩,P.keep a o e⟩⟩
 have hnew:(s.heap.push { cls:=.type "cell",data:=.cell none }).get? s.heap.objs.size=some _:=Nl s.heap rfl
 have R':=R.ps P
 refine⟨⟨⟨R'.r.keep,fun T hT=>(R.r.tabs T hT).ext X fun o e=>P.keep _ o e,R'.r.grown,R.r.jC,by simp[R.r.ng],?_,?_,?_,?_⟩,R.os,R.bare⟩,X⟩
 ·intro i l a e1 e2
  refine bc fun hN0=>?_
  obtain⟨cs,⟨m,ho⟩,h2,h3⟩:=R.r.σ i l a e1 e2
  refine hN0 ?_
  exact⟨cs,⟨m,P.keep _ _ ho⟩,aY.ext X h2,h3⟩
 ·intro k ov a e1 e2
  by_cases hk:k<st.κ.length
  ·rw[N3 hk]at e1
   rw[N3 (R.r.ng▸hk)]at e2
   refine bc fun hN1=>?_
   obtain⟨oc,⟨o',ho,hd⟩,h2⟩:=R.r.κ k ov a e1 e2
   refine hN1 ?_
   exact⟨oc,⟨o',P.keep _ _ ho,hd⟩,h2.ext X⟩
  ·rw[NJ (Pn.mp hk)]at e1
   rw[NJ (R.r.ng▸Pn.mp hk)]at e2
   have h0:k-st.κ.length=0:=by
    have:=(MW.mp e1).1
    simp at this;exact this
   rw[h0]at e1
   rw[R.r.ng,h0]at e2
   simp at e1 e2
   subst e1;subst e2
   exact⟨none,⟨_,hnew,rfl⟩,trivial⟩
 ·have hn:=R.r.nodup
  simp only[Wt.all,M_]at hn ⊢
  have hnm:s.heap.objs.size∉W.all:=fun hm=>by obtain⟨o,e⟩:=(R.r.lo _ hm).2;rw[hnone]at e;cases e
  simp only[Wt.all,MX,not_or]at hnm
  rw[M6]at hn ⊢
  refine⟨hn.1,?_,?_⟩
  ·have h2:=hn.2.1
   rw[M6]at h2 ⊢
   refine⟨h2.1,NK.mpr ⟨hnm.2.2,h2.2.1⟩,fun a ha b hb=>?_⟩
   rw[MX,M4]at hb
   rcases hb with rfl|hb
   ·exact fun e=>hnm.2.1 (e▸ha)
   ·exact h2.2.2 a ha b hb
  ·intro a ha b hb
   simp only[MX,M4]at hb
   rcases hb with hb|rfl|hb
   ·exact hn.2.2 a ha b (M7 _ hb)
   ·exact fun e=>hnm.1 (e▸ha)
   ·exact hn.2.2 a ha b (MZ _ hb)
 ·intro a ha
  rcases(hall a).mp ha with ha|rfl
  ·exact R'.r.lo a ha
  ·refine⟨?_,_,hnew⟩
   cases e:C.h₁.get? s.heap.objs.size with
   |none=>rfl
   |some o1=>
    by_cases ht:s.heap.objs.size∈C.ta
    ·obtain⟨o2,e2⟩:=R.r.nh ht;rw[hnone]at e2;cases e2
    ·have e2:=R.r.keep _ _ e ht;rw[hnone]at e2;cases e2
theorem au.oi{new:List Na}(R:au C W st s)(K:J7 s s')(hn:∀b∈new,s.heap.get? b=none∧ ∃o,s'.heap.get? b=some o)(hd:new.Nodup):
  au C { W with X:=new++W.X } st s'∧Ext C W s.heap { W with X:=new++W.X } s'.heap:=by
 have hall:∀b,b∈({ W with X:=new++W.X }:Wt).all ↔ b∈W.all∨b∈new:=fun b=>by
  simp only[Wt.all,MX];constructor
  ·rintro(h|h|h|h)
   ·exact .inl (.inl h)
   ·exact .inl (.inr (.inl h))
   ·exact .inr h
   ·exact .inl (.inr (.inr h))
  ·rintro((h|h|h)|h)
   ·exact .inl h
   ·exact .inr (.inl h)
   ·exact .inr (.inr (.inr h))
   ·exact .inr (.inr (.inl h))
 have X:Ext C W s.heap { W with X:=new++W.X } s'.heap:=
  ⟨⟨[],by simp⟩,⟨[],by simp⟩,fun a o f e=>⟨⟨fun hm=>((hall a).mp hm).elim f.1 fun q=>(by rw[(hn a q).1]at e;cases e),f.2⟩,K.keep a o e⟩⟩
 have hnm:∀b∈new,b∉W.all:=fun b hb hm=>by obtain⟨o,e⟩:=(R.r.lo _ hm).2;rw[(hn b hb).1]at e;cases e
 refine⟨⟨⟨fun a o e t=>K.keep _ _ (R.r.keep a o e t),fun T hT=>(R.r.tabs T hT).ext X fun o e=>K.keep _ o e,fun T hT=>let ⟨ps,ps',e1,e2⟩:=R.r.grown T hT;⟨ps,ps',e1,K.keep _ _ e2⟩,R.r.jC,R.r.ng,?_,?_,?_,?_⟩,K.os.trans R.os,K.bare R.bare⟩,X⟩
 ·intro i l a e1 e2
  obtain⟨cs,⟨m,ho⟩,h2,h3⟩:=R.r.σ i l a e1 e2
  exact⟨cs,⟨m,K.keep _ _ ho⟩,aY.ext X h2,h3⟩
 ·intro k ov a e1 e2
  obtain⟨oc,⟨o',ho,hd⟩,h2⟩:=R.r.κ k ov a e1 e2
  exact⟨oc,⟨o',K.keep _ _ ho,hd⟩,h2.ext X⟩
 ·have hN:=R.r.nodup
  simp only[Wt.all]at hN hnm ⊢
  rw[M6]at hN ⊢
  refine⟨hN.1,?_,?_⟩
  ·have h2:=hN.2.1
   rw[M6]at h2 ⊢
   refine⟨h2.1,?_,fun a ha b hb=>?_⟩
   ·rw[M6]
    exact⟨hd,h2.2.1,fun a ha b hb e=>hnm a ha (MZ _ (MZ _ (e▸hb)))⟩
   ·rcases MX.mp hb with hb|hb
    ·exact fun e=>hnm b hb (MZ _ (M7 _ (e▸ha)))
    ·exact h2.2.2 a ha b hb
  ·intro a ha b hb
   rcases MX.mp hb with hb|hb
   ·exact hN.2.2 a ha b (M7 _ hb)
   ·rcases MX.mp hb with hb|hb
    ·exact fun e=>hnm b hb (M7 _ (e▸ha))
    ·exact hN.2.2 a ha b (MZ _ hb)
 ·intro a ha
  rcases(hall a).mp ha with ha|ha
  ·exact⟨(R.r.lo a ha).1,let ⟨o,e⟩:=(R.r.lo a ha).2;⟨o,K.keep _ _ e⟩⟩
  ·refine⟨?_,(hn a ha).2⟩
   cases e:C.h₁.get? a with
   |none=>rfl
   |some o1=>
    by_cases ht:a∈C.ta
    ·obtain⟨o2,e2⟩:=R.r.nh ht;rw[(hn a ha).1]at e2;cases e2
    ·have e2:=R.r.keep _ _ e ht;rw[(hn a ha).1]at e2;cases e2
end
end Rk
end

section
namespace Rk
open PySem PySem.W PySem.Calls PyProof.Rows PySem.SeqAt
noncomputable def ux(env:OZ)(x:NT×Ra)(r:List (NT×Na)):RE (ForInStep (List (NT×Na))):=if(x.2 == PI)=true then cellOf env x.1>>= fun a=>pure (OF ((x.1,a)::r))else pure (OF r)
theorem o7(scope:Ve)(env:OZ):closureFor scope env=forIn scope.names ([]:List (NT×Na)) (ux env):=by
 unfold closureFor
 simp only[bind_pure_comp,bind_pure]
 rfl
theorem nj{env:OZ}{x:NT×Ra}{l:List (NT×Ra)}{acc:List (NT×Na)}(hk:(x.2 == PI)=false):forIn (x::l) acc (ux env)=forIn l acc (ux env):=by
 rw[P1]
 unfold ux
 simp only[hk,OG,if_false,pure_bind]
theorem zu{env:OZ}{nm:NT}{a:Na}{l:List (NT×Ra)}{acc:List (NT×Na)}(h:env.cells.lookup nm=some a):forIn ((nm,PI)::l) acc (ux env)=forIn l ((nm,a)::acc) (ux env):=by
 rw[P1]
 unfold ux
 simp only[show(PI == PI)=true from rfl,if_true]
 unfold cellOf
 rw[h]
 simp only[pure_bind]
section
variable {C:Cx} {O:cQ} {n:Nat} {W W' W'':Wt} {st st':ao} {h h':NX} {s s':MT} {A:NF} {Ex:MU→MT→Prop} {sc so:Sc} {env:OZ} {en:En}
theorem zv(F:Fr C W so en env h){nm:NT}{o k:Nat}(hfe:zj so (.fe nm o)=true)(hk:en.ρ[o]? =some (.fB k)):k<W.aB.length∧env.cells.lookup nm=some (W.aB.getD k 0):=by
 have fin:∀a,env.cells.lookup nm=some a→W.aB[k]? =some a→k<W.aB.length∧env.cells.lookup nm=some (W.aB.getD k 0):=fun a h1 h2=>by
  refine⟨(MW.mp h2).1,?_⟩
  rw[Nj,h2];exact h1
 replace hfe:(match so[o]? with|some (.ce m)=>m == nm|some (.fe m _)=>m == nm|_=>false)=true:=hfe
 have S:=fun x hm=>F.vy o x _ hm hk
 cases hm:so[o]? with
 |none=>rw[hm]at hfe;cases hfe
 |some x=>
  have S:=S x hm
  rw[hm]at hfe
  clear hm hk
  cases x with
  |ce m=>
   rw[←eq_of_beq (show(m == nm)=true from hfe)]
   rw[←eq_of_beq (show(m == nm)=true from hfe)]at fin
   obtain⟨a,h1,h2⟩:=S
   exact fin a h1 h2
  |fe m _=>
   rw[←eq_of_beq (show(m == nm)=true from hfe)]
   rw[←eq_of_beq (show(m == nm)=true from hfe)]at fin
   obtain⟨_,a,h1,h2⟩:=S
   exact fin a h1 h2
  |_=>cases hfe
theorem fZ(F:Fr C W so en env h):∀(sc:Sc) (fr:List Nat) (acc:List (NT×Na)),sc.all (zj so)=true→eL en sc=some fr→
  (fr.length=frees sc∧ ∀k∈fr,k<W.aB.length)∧forIn (pairs sc) acc (ux env)=(pure (bQ W.aB sc fr acc):RE (List (NT×Na)))
 |[],fr,acc,_,e=>by
  cases e
  exact⟨⟨rfl,fun _ h=>by cases h⟩,rfl⟩
 |.lc nm::r,fr,acc,hf,e=>let ih:=fZ F r fr acc (band hf).2 e;⟨ih.1,(nj rfl).trans ih.2⟩
 |.ce nm::r,fr,acc,hf,e=>let ih:=fZ F r fr acc (band hf).2 e;⟨ih.1,(nj rfl).trans ih.2⟩
 |.gl k::r,fr,acc,hf,e=>let ih:=fZ F r fr acc (band hf).2 e;⟨ih.1,(nj rfl).trans ih.2⟩
 |.fe nm o::r,fr,acc,hf,e=>by
  refine bc fun hN0=>?_
  obtain⟨k,hk,e'⟩:=af e;clear e
  obtain⟨ks,hks,e⟩:=af e';clear e'
  cases e
  obtain⟨h1,h2⟩:=zv F (band hf).1 (yQ hk)
  refine hN0 ?_
  have ih:=fZ F r ks ((nm,W.aB.getD k 0)::acc) (band hf).2 hks
  exact⟨⟨congrArg (· +1) ih.1.1,Oc.mpr ⟨h1,ih.1.2⟩⟩,(zu h2).trans ih.2⟩
theorem iF(F:Fr C W so en env h){fr:List Nat}(hf:sc.all (zj so)=true)(e:eL en sc=some fr):
  (fr.length=frees sc∧ ∀k∈fr,k<W.aB.length)∧closureFor (Sc.scope sc) env=pure (bQ W.aB sc fr []):=by
 obtain⟨h1,h2⟩:=fZ F sc fr [] hf e
 refine⟨h1,?_⟩
 rw[o7]
 exact h2
theorem fq(y:SE)(r:Sc)(h:NX):pushCells h (pairs (y::r))=if y.kind == .cell then pushCells (h.push { cls:=.type "cell",data:=.cell none }) (pairs r)else pushCells h (pairs r):=by
 simp only[pairs,Nz,pushCells]
theorem gJ:∀(sc:Sc) {W:Wt} {st:ao} {s:MT},au C W st s→
  au C { W with aB:=W.aB++addrs s.heap.objs.size (jx sc) } { st with κ:=st.κ++M2 (jx sc) none } { s with heap:=pushCells s.heap (pairs sc) }∧
  Ext C W s.heap { W with aB:=W.aB++addrs s.heap.objs.size (jx sc) } (pushCells s.heap (pairs sc))
 |[],W,st,s,R=>by
  simp only[rg,xU,Nc,List.replicate_zero]
  exact⟨R,⟨⟨[],(Nc _).symm⟩,⟨[],(Nc _).symm⟩,fun a o f e=>⟨f,e⟩⟩⟩
 |.ce nm::r,W,st,s,R=>by
  rw[fq,if_pos (by rfl)]
  obtain⟨R1,X1⟩:=R.Dc
  obtain⟨R2,X2⟩:=gJ r R1
  have hz:(s.heap.push { cls:=.type "cell",data:=.cell none }).objs.size=s.heap.objs.size+1:=Om ..
  simp only[hz,M_,Ot]at R2 X2
  have e1:addrs s.heap.objs.size (jx (.ce nm::r))=s.heap.objs.size::addrs (s.heap.objs.size+1) (jx r):=rfl
  have e2:M2 (jx (.ce nm::r)) (none:Option V)=none::M2 (jx r) none:=rfl
  rw[e1,e2]
  refine⟨R2,⟨⟨[],by simp⟩,⟨_,rfl⟩,fun a o f e=>?_⟩⟩
  obtain⟨f1,e1⟩:=X1.f a o f e
  exact X2.f a o f1 e1
 |.lc nm::r,W,st,s,R=>by rw[fq,if_neg (show¬((SE.kind (.lc nm) == P7)=true)from nofun)];exact gJ r R
 |.fe nm o::r,W,st,s,R=>by rw[fq,if_neg (show¬((SE.kind (.fe nm o) == P7)=true)from nofun)];exact gJ r R
 |.gl k::r,W,st,s,R=>by rw[fq,if_neg (show¬((SE.kind (.gl k) == P7)=true)from nofun)];exact gJ r R
theorem o8(h:NX)(sc:Sc):∀a o,h.get? a=some o→(pushCells h (pairs sc)).get? a=some o:=pushCells_keeps _ _
noncomputable def dz(h:NX)(c:String)(sc:Sc):NX:=pushCells (h.push { cls:=.type c,data:=.dict #[] }) (pairs sc)
theorem bR(h:NX)(c:String)(sc:Sc):∀a o,h.get? a=some o→(dz h c sc).get? a=some o:=fun a o e=>o8 _ _ a o (Ni _ e)
theorem jf{c:String}{cl:List (NT×Na)}{fr:List Nat}(R:au C W st s)(hn:(sc.map SE.name).Nodup)(hfr:fr.length=frees sc∧ ∀k∈fr,k<W.aB.length)(hcl:cl=bQ W.aB sc fr [])
  (hL:env.locals=s.heap.objs.size) (hc:env.cells=cellsFrom (s.heap.objs.size+1) (pairs sc) cl):
  au C ⟨W.ay,W.aB++addrs (s.heap.objs.size+1) (jx sc),s.heap.objs.size::W.X⟩ { st with κ:=(aV sc [] fr st.κ).2 } { s with heap:=dz s.heap c sc }∧
  Ext C W s.heap ⟨W.ay,W.aB++addrs (s.heap.objs.size+1) (jx sc),s.heap.objs.size::W.X⟩ (dz s.heap c sc)∧
  Fr C ⟨W.ay,W.aB++addrs (s.heap.objs.size+1) (jx sc),s.heap.objs.size::W.X⟩ sc ⟨(aV sc [] fr st.κ).1,st.κ.length⟩ env (dz s.heap c sc):=by
 have hnew:(s.heap.push { cls:=.type c,data:=.dict #[] }).get? s.heap.objs.size=some { cls:=.type c,data:=.dict #[] }:=Nl s.heap rfl
 obtain⟨R1,X1⟩:=R.oi (new:=[s.heap.objs.size]) (PS.push s { cls:=.type c,data:=.dict #[] } s.toks).g (fun b hb=>by simp at hb;subst hb;exact⟨aC (M9 _),_,hnew⟩) (by simp)
 obtain⟨R2,X2⟩:=gJ sc R1
 have hz:(s.heap.push { cls:=.type c,data:=.dict #[] }).objs.size=s.heap.objs.size+1:=Om ..
 simp only[hz,Ot]at R2 X2
 rw[jV]
 refine⟨R2,⟨⟨[],by simp⟩,⟨_,rfl⟩,fun a o f e=>?_⟩,?_⟩
 ·obtain⟨f1,e1⟩:=X1.f a o f e
  exact X2.f a o f1 e1
 ·refine⟨jU _ _ _ _,by rw[hL];exact Nk,⟨fun _=>none,?_,fun i nm v h1 h2=>?_⟩,fun i x w h1 h2=>?_⟩
  ·rw[hL];exact(Heap.Ns.new s.heap (.type c)).keeps (pushCells_keeps _ _)
  ·have:=iE W.aB sc [] fr st.κ 0 [] hn hfr.1 i _ _ h1 h2
   exact nomatch SV.loc.inj this
  ·have:=iE W.aB sc [] fr st.κ (s.heap.objs.size+1) cl hn hfr.1 i x w h1 h2
   clear hL hnew R1 X1 R2 X2 hz h2
   cases x with
   |lc nm=>rw[show w=_ from this];trivial
   |ce nm=>
    clear hn hfr hcl h1
    obtain⟨k,rfl,h3,h4⟩:=this
    refine⟨s.heap.objs.size+1+k,by rw[hc];exact h4,?_⟩
    show(W.aB++addrs (s.heap.objs.size+1) (jx sc))[st.κ.length+k]? =_
    rw[NJ (by rw[R.r.ng];exact N_ _ _),R.r.ng,NZ]
    exact rh _ _ _ h3
   |fe nm o=>
    obtain⟨k,h3,rfl,h4⟩:=this
    have hlt:=hfr.2 k h3
    refine⟨by rw[←R.r.ng];exact hlt,W.aB.getD k 0,?_,?_⟩
    ·rw[hc,gg sc _ cl i nm o hn h1,hcl];exact h4
    ·show(W.aB++addrs (s.heap.objs.size+1) (jx sc))[k]? =_
     rw[N3 hlt,Nj,M3 hlt];rfl
   |gl k=>rw[show w=_ from this];rfl
theorem eM{globals:Na}{cl:List (NT×Na)}{binds:List (NT×MU)}{qual:NT}{func:Option Na}{code:MU}{around:Option OZ}{builtins:Na}{scope:Ve}{Q:OZ→MT→Prop}
  (hk:scope.names=pairs sc)
  (h:∀env,env=newEnv scope s.heap.objs.size globals (cellsFrom (s.heap.objs.size+1) (pairs sc) cl) qual func code around builtins→
   wpAny (model C.prog C.w) A (forIn binds RG fun x _=>do storeName env x.1 x.2;pure (OF RG)) (fun _ s'=>Q env s') Ex { s with heap:=dz s.heap (if around.isSome then "dict" else"frame") sc }):
  wpAny (model C.prog C.w) A (newFunctionEnv scope globals cl binds qual func code around builtins) Q Ex s:=by
 simp only[newFunctionEnv]
 refine MV (wpAny_alloc ?_)
 refine MV (wpAny_layCells _ (fun name kind cells=>by cases hkc:kind == P7<;>simp[hkc]) _ _ _ _ ?_)
 have hz:(s.heap.push { cls:=.type (if around.isSome then "dict" else"frame"),data:=.dict #[] }).objs.size=s.heap.objs.size+1:=Om ..
 rw[hk]
 show wpAny _ _ _ _ _ { s with heap:=dz s.heap (if around.isSome then "dict" else"frame") sc }
 simp only[hz]
 exact MV (Og (h _ rfl) (fun _ s' h'=>Nb (by cases around<;>exact h')) fun _ _ e=>e)
mutual
theorem VR.dat:∀{v:V} {c:MU},v.data=true→(∀a,fD C W a→fD C W' a)→VR C W h v c→VR C W' h v c
 |.none,_,_,_,r=>r
 |.bool _,_,_,_,r=>r
 |.int _,_,_,_,r=>r
 |.str _,_,_,_,r=>r
 |.tup l,c,hd,hf,r=>by
  obtain⟨a,cs,rfl,f,t,hv,hl⟩:=r
  exact⟨a,cs,rfl,hf a f,t,aY.dat hd hf hv,hl⟩
 |.lst l,c,hd,hf,r=>by
  obtain⟨a,cs,rfl,f,t,hv,hl⟩:=r
  exact⟨a,cs,rfl,hf a f,t,aY.dat hd hf hv,hl⟩
 |.ref _,_,hd,_,_=>by cases hd
 |.fn _,_,hd,_,_=>by cases hd
 |.jt _ _,_,hd,_,_=>by cases hd
 |.bi _,_,hd,_,_=>by cases hd
theorem aY.dat:∀{l:List V} {cs:List MU},bA l=true→(∀a,fD C W a→fD C W' a)→aY C W h l cs→aY C W' h l cs
 |[],_,_,_,r=>r
 |v::l,cs,hd,hf,r=>by
  simp only[kD,g6,Nu]at hd
  obtain⟨c,cr,rfl,h1,h2⟩:=r
  exact⟨c,cr,rfl,VR.dat hd.1 hf h1,aY.dat hd.2 hf h2⟩
end
theorem au.back{U:List Na}{Wb:Wt}{stb:ao}(R0:au C W st s)(S:Step C U W s { Wb with aB:=W.aB,X:=W.X } s')(hU:∀a∈U,(a∈W.all∧a∉W.aB)∨s.heap.get? a=none)(Rb:au C Wb stb s')
  (hκ:∃e,Wb.aB=W.aB++e) (hX:∀a∈W.X,a∈Wb.X):
  au C { Wb with aB:=W.aB,X:=W.X } { κ:=st.κ,σ:=stb.σ } s'∧(∀a,fD C Wb a→fD C { Wb with aB:=W.aB,X:=W.X } a):=by
 obtain⟨e,he⟩:=hκ
 have hall:∀a∈({ Wb with aB:=W.aB,X:=W.X }:Wt).all,a∈Wb.all:=fun a ha=>by
  simp only[Wt.all,MX]at ha ⊢
  rcases ha with ha|ha|ha
  ·exact .inl ha
  ·exact .inr (.inl (by rw[he];exact M7 _ ha))
  ·exact .inr (.inr (hX a ha))
 have hfr:∀a,fD C Wb a→fD C { Wb with aB:=W.aB,X:=W.X } a:=fun a f=>⟨fun hm=>f.1 (hall a hm),f.2⟩
 refine⟨⟨⟨Rb.r.keep,fun T hT=>?_,Rb.r.grown,Rb.r.jC,R0.r.ng,?_,?_,?_,fun a ha=>Rb.r.lo a (hall a ha)⟩,Rb.os,Rb.bare⟩,hfr⟩
 ·obtain⟨ps,h1,h2,h3⟩:=Rb.r.tabs T hT
  exact⟨ps,h1,h2,h3.imp id fun⟨c',e1,f,r⟩=>⟨c',e1,hfr _ f,r⟩⟩
 ·intro i l a e1 e2
  obtain⟨cs,h1,h2,h3,h4⟩:=Rb.r.σ i l a e1 e2
  exact⟨cs,h1,aY.dat h4 hfr h2,h3,h4⟩
 ·intro k ov a e1 e2
  obtain⟨oc,⟨o,ho,hd⟩,h2⟩:=R0.r.κ k ov a e1 e2
  have hm:a∈W.aB:=Nh e2
  have hnU:a∉U:=fun q=>(hU a q).elim (fun q=>q.2 hm) fun q=>by rw[ho]at q;cases q
  have X:Ext C W s.heap { Wb with aB:=W.aB,X:=W.X } s'.heap:=by
   obtain⟨new,en,hn⟩:=S.ay
   refine⟨⟨new,en⟩,⟨[],by simp⟩,fun b o f eb=>⟨f.xK eb fun c hc=>?_,S.keep b o eb (fun q=>(hU b q).elim (fun q=>f.1 q.1) fun q=>by rw[eb]at q;cases q) f.2⟩⟩
   simp only[Wt.all,MX]at hc ⊢
   rw[show Wb.ay=W.ay++new from en]at hc
   simp only[MX]at hc
   rcases hc with(hc|hc)|hc
   ·exact .inl (.inl hc)
   ·exact .inr (hn c hc)
   ·exact .inl (.inr hc)
  exact⟨oc,⟨o,S.keep a o ho hnU (bB R0 (cg hm)),hd⟩,h2.ext X⟩
 ·have hn:=Rb.r.nodup
  simp only[Wt.all]at hn ⊢
  rw[M6]at hn ⊢
  have h0:=R0.r.nodup
  simp only[Wt.all]at h0
  rw[M6]at h0
  refine⟨hn.1,h0.2.1,fun a ha b hb=>?_⟩
  rcases MX.mp hb with hb|hb
  ·exact hn.2.2 a ha b (M7 _ (by rw[he];exact M7 _ hb))
  ·exact hn.2.2 a ha b (MZ _ (hX b hb))
end
end Rk
end

section
namespace Rk
open PySem PySem.W PySem.Calls PyProof.Rows PySem.SeqAt
theorem uy(elt:PK)(gens:List PG)(target iter:PK)(ifs:List PK)(scope:Ve)(pos:NW)(d:Nat)(it acc:MU)(env:OZ)(hg:gens[d]? =some ⟨target,iter,ifs,0⟩):
  compTurn (.ListComp elt gens scope pos) d it acc env=(standAt iter.pos>>= fun _=>pyNext it>>= fun r=>match r with
   |none=>pure (.done .next)
   |some v=>letOwnedTupleGo target it v>>= fun _=>assign target env v>>= fun _=>
    (forIn ifs true fun c r=>if r=true then do let ok←isTrue c env (eval c env);pure (OF ok)else pure (OF r))>>= fun ok=>
    if ok=true then (match gens[d+1]? with
     |some g'=>do
      let x←eval g'.iter env
      standAt g'.iter.pos
      let x←if g'.is_async != 0 then foldedIterable g'.iter x else foldedSetIterable g'.iter env x
      let _←runOwn (.compStart (.ListComp elt gens scope pos) (d+1) (←holding [x] (if g'.is_async != 0 then asyncIter x else pyIter x)) acc env) env
      again (.compLoop (.ListComp elt gens scope pos) d it acc env)
     |none=>do
      (do let _←call (.builtin "list.append") [acc,←eval elt env]:RE Unit)
      again (.compLoop (.ListComp elt gens scope pos) d it acc env))else again (.compLoop (.ListComp elt gens scope pos) d it acc env)):=by
 unfold compTurn
 simp only[hg]
 rfl
inductive Lp (nx:ao→Nat→Option V) (t:T) (turn:En→ao→List V→Option (En×ao×List V)) (out:En×ao×List V):Nat→Nat→En→ao→List V→Prop
 |done {j en st acc}:nx st j=none→out=(en,st,acc)→Lp nx t turn out 0 j en st acc
 |step {n j v en st bV st1 en2 st2 acc acc2}:nx st j=some v→gU t v en st=some (bV,st1)→turn bV st1 acc=some (en2,st2,acc2)→Lp nx t turn out n (j+1) en2 st2 acc2→Lp nx t turn out (n+1) j en st acc
inductive Mp (nx:ao→Nat→Option V) (t:T) (turn:En→ao→List V→Option (En×ao×List V)) (out:En×ao×List V) (k j:Nat) (en:En) (st:ao) (acc:List V):Prop
 |done (h1:nx st j=none) (h2:out=(en,st,acc))
 |step (m:Nat) (v:V) (bV:En) (st1:ao) (en2:En) (st2:ao) (acc2:List V) (hk:m<k) (h1:nx st j=some v) (h2:gU t v en st=some (bV,st1)) (h3:turn bV st1 acc=some (en2,st2,acc2)) (h4:Lp nx t turn out m (j+1) en2 st2 acc2)
theorem Lp.inv{nx:ao→Nat→Option V}{t:T}{turn:En→ao→List V→Option (En×ao×List V)}{out:En×ao×List V}{k j:Nat}{en:En}{st:ao}{acc:List V}(h:Lp nx t turn out k j en st acc):Mp nx t turn out k j en st acc:=by
 cases h with
 |done h1 h2=>exact .done h1 h2
 |step h1 h2 h3 h4=>exact .step _ _ _ _ _ _ _ (OY _) h1 h2 h3 h4
theorem Lp.Dd{t:T}{turn:En→ao→List V→Option (En×ao×List V)}{out:En×ao×List V}{nx:ao→Nat→Option V}:∀(l:List V) (full:List V) (j:Nat) (en:En) (st:ao) (acc:List V),l=full.drop j→(∀st i,nx st i=full[i]?)→l0 t turn l en st acc=some out→
  ∃n,Lp nx t turn out n j en st acc
 |[],full,j,en,st,acc,hl,hx,e=>⟨0,.done (by rw[hx];exact NR.mpr (PE.mp hl.symm)) (M0 e).symm⟩
 |v::l,full,j,en,st,acc,hl,hx,e=>by
  obtain⟨bV,st1,e1,e'⟩:=az e;clear e
  obtain⟨en2,st2,acc2,e2,e⟩:=d9 e';clear e'
  have hv:full[j]? =some v:=by rw[←Rm,←hl];rfl
  have ht:l=full.drop (j+1):=by rw[←RB,←hl];rfl
  obtain⟨n,hn⟩:=Lp.Dd l full (j+1) en2 st2 acc2 ht hx e
  exact⟨n+1,.step (by rw[hx];exact hv) e1 e2 hn⟩
theorem Lp.Iu{i:Nat}{t:T}{turn:En→ao→List V→Option (En×ao×List V)}{out:En×ao×List V}:∀(k j:Nat) (en:En) (st:ao) (acc:List V),xG i t turn k j en st acc=some out→ ∃n,Lp (vW (.ref i)) t turn out n j en st acc
 |0,_,_,_,_,e=>by cases e
 |k+1,j,en,st,acc,e=>by
  obtain⟨l,hl,e'⟩:=af e;clear e
  have nx:vW (.ref i) st j=l[j]? :=by show Vi _ _=_;rw[hl];rfl
  cases hj:l[j]? with
  |none=>rw[hj]at e' nx;exact⟨0,.done nx (M0 e').symm⟩
  |some v=>
   rw[hj]at e' nx
   obtain⟨bV,st1,e1,e⟩:=az e';clear e'
   obtain⟨en2,st2,acc2,e2,e'⟩:=d9 e;clear e
   obtain⟨n,hn⟩:=Lp.Iu k (j+1) en2 st2 acc2 e'
   exact⟨n+1,.step nx e1 e2 hn⟩
theorem iG{src:V}{l:List V}(hl:ig src=some l)(hn:∀i,src≠ .ref i)(st:ao)(i:Nat):vW src st i=l[i]? :=by
 cases src with
 |ref k=>exact absurd rfl (hn k)
 |lst l=>cases hl;rfl
 |tup l=>cases hl;rfl
 |str l=>cases hl;rfl
 |_=>cases hl
theorem Lp.of{src:V}{t:T}{turn:En→ao→List V→Option (En×ao×List V)}{out:En×ao×List V}{en:En}{st ik:ao}{acc:List V}(e:xH t turn src en st acc=some out):
  (∃n,Lp (vW src) t turn out n 0 en st acc)∧(ik.σ=st.σ→xP ik src):=by
 cases src with
 |ref i=>
  refine⟨Lp.Iu 100 0 en st acc e,fun h0=>?_⟩
  obtain⟨l,hl,_⟩:=af (show xG i t turn (99+1) 0 en st acc=some out from e)
  exact⟨l,h0▸hl⟩
 |lst l=>exact⟨Lp.Dd l l 0 en st acc rfl (iG rfl fun _ h=>by cases h) e,fun _=>⟨l,rfl⟩⟩
 |tup l=>exact⟨Lp.Dd l l 0 en st acc rfl (iG rfl fun _ h=>by cases h) e,fun _=>⟨l,rfl⟩⟩
 |str l=>exact⟨Lp.Dd _ _ 0 en st acc rfl (iG rfl fun _ h=>by cases h) e,fun _=>⟨_,rfl⟩⟩
 |_=>cases e
section
variable {C:Cx} {O:cQ} {n:Nat} {W W' W'':Wt} {st st':ao} {h h':NX} {s s' s'':MT} {A:NF} {Ex:MU→MT→Prop} {sc so:Sc} {env:OZ} {en:En}
noncomputable def ri(C:Cx)(O:cQ)(n:Nat):Gs→Prop
 |.nil=>True
 |.cons _ it ifs r=>Fk C O n it∧e_ C O n ifs∧ri C O n r
noncomputable def Uc(W:Wt)(kb:Nat)(L D:Na):List Na:=D::Ub W kb L
structure CI (C:Cx) (sc:Sc) (env:OZ) (D:Na) (en:En) (W:Wt) (st:ao) (acc:List V) (s:MT):Prop where
 at_:At C sc env en W st s
 d:D∈W.X
 ne:env.locals≠D
 l:∃cs,s.heap.PlainList D cs∧aY C W s.heap acc.reverse cs.toList
 dat:bA acc=true
theorem uz{l:List PK}{Q:Bool→MT→Prop}(hq:Q false s):wpAny (model C.prog C.w) A (forIn l false fun c r=>if r=true then do let ok←isTrue c env (eval c env);pure (OF ok)else pure (OF r)) Q Ex s:=by
 induction l with
 |nil=>exact Nb hq
 |cons c l ih=>
  rw[P1]
  simp only[OG,if_false,pure_bind]
  exact ih
theorem nM:∀(l:Es) (_:e_ C O n l) {st:ao} {W:Wt} {s:MT} {b:Bool} {Q:Bool→MT→Prop} (_:gF C.bN l sc=true) (_:dF C sc env) (_:At C sc env en W st s) (_:bL n A)
  (_:oJ O .And l en st=some (b,st')) (_:∀s' W',Step C W.ay W s W' s'→au C W' st' s'→Q b s'),
  wpAny (model C.prog C.w) A (forIn (b9 l sc) true fun c r=>if r=true then do let ok←isTrue c env (eval c env);pure (OF ok)else pure (OF r)) Q Ex s
 |.nil,_,st,W,s,b,Q,wf,B,X,hr,he,h=>by
  obtain⟨rfl,rfl⟩:=aP he
  exact Nb (h s W .refl X.r)
 |.cons e r,hl,st,W,s,b,Q,wf,B,X,hr,he,h=>by
  obtain⟨b1,st1,e1,he'⟩:=az he;clear he
  show wpAny _ _ (forIn (bw e sc::b9 r sc) true _) _ _ _
  rw[P1]
  simp only[if_true]
  refine MV (MV (hl.1.test (band wf).1 B X hr e1 fun s1 W1 S1 R1=>Nb ?_))
  cases b1 with
  |false=>
   obtain⟨rfl,h2⟩:=aP he'
   rw[h2]at R1
   exact uz (h _ _ S1 R1)
  |true=>exact nM r hl.2 (band wf).2 B (X.step S1 R1) hr he' fun s2 W2 S2 R2=>h _ _ (S1.after S2) R2
theorem CI.step{D:Na}{acc:List V}(I:CI C sc env D en W st acc s)(S:Step C W.ay W s W' s')(R:au C W' st' s'):CI C sc env D en W' st' acc s':=by
 refine⟨I.at_.step S R,S.X▸I.d,I.ne,?_,I.dat⟩
 obtain⟨cs,⟨m,ho⟩,hv⟩:=I.l
 exact⟨cs,⟨m,S.keep _ _ ho (cU I.at_.r I.d) (bB I.at_.r (aF I.d))⟩,aY.step S hv⟩
theorem Step.uc{kb:Nat}{L D:Na}(S:Step C W.ay W s W' s'):Step C (Uc W kb L D) W s W' s':=S.mono fun a ha=>by simp only[Uc,Ub,M5,MX];exact .inr (.inl ha)
theorem Step.Mq{kb:Nat}{L D:Na}(S:Step C (Ub W kb L) W s W' s'):Step C (Uc W kb L D) W s W' s':=S.mono fun a ha=>MY _ ha
theorem Step.sV{kb:Nat}{L D:Na}(S:Step C (Uc W kb L D) W s W' s')(S':Step C (Uc W' kb L D) W' s' W'' s''):Step C (Uc W kb L D) W s W'' s'':=
 S.trans S' fun a ha=>by
  obtain⟨new,e,hn⟩:=S.ay
  simp only[Uc,Ub,M5,MX,e,S.aB]at ha ⊢
  rcases ha with ha|(ha|ha)|ha
  ·exact .inl (.inl ha)
  ·exact .inl (.inr (.inl ha))
  ·exact .inr (hn a ha)
  ·exact .inl (.inr (.inr ha))
theorem Fq{D:Na}{acc:List V}(I:CI C sc env D en W st acc s):∀a∈Uc W en.kb env.locals D,a∈W.all:=fun a ha=>by
 rcases M5.mp ha with rfl|ha
 ·exact aF I.d
 ·exact jR I.at_.fr a ha
theorem CI.bind{D:Na}{acc:List V}{bV:En}{st1:ao}(I:CI C sc env D en W st acc s)(S:Step C (Ub W en.kb env.locals) W s W s')(X:At C sc env bV W st1 s'):CI C sc env D bV W st1 acc s':=by
 refine⟨X,I.d,I.ne,?_,I.dat⟩
 obtain⟨cs,⟨m,ho⟩,hv⟩:=I.l
 refine⟨cs,⟨m,S.keep _ _ ho (fun hm=>?_) (bB I.at_.r (aF I.d))⟩,aY.ext (S.ext (jR I.at_.fr)) hv⟩
 simp only[Ub,MX,M4]at hm
 rcases hm with hm|hm|hm
 ·exact cU I.at_.r I.d hm
 ·exact eJ I.at_.r I.d (OI hm)
 ·exact I.ne hm.symm
theorem wq{elt:E}{D:Na}{acc:List V}{v:V}{Q:Unit→MT→Prop}(hv:bJ C O n elt)(wf:fG C.bN elt sc=true)(B:dF C sc env)(I:CI C sc env D en W st acc s)(hr:bL n A)
  (he:ak O elt .val en st=some (v,st')) (hd:v.data=true) (hl:acc.length<lid) (h:∀s' W',Step C (Uc W en.kb env.locals D) W s W' s'→CI C sc env D en W' st' (v::acc) s'→Q () s'):
  wpAny (model C.prog C.w) A (do let _←N5 (.builtin "list.append") [.ref D,←eval (bw elt sc) env]:RE Unit) Q Ex s:=by
 refine MV (hv wf B I.at_ hr he fun c s1 W1 S1 R1 r1=>?_)
 have I1:=I.step S1 R1
 obtain⟨cs,hL,rs⟩:=I1.l
 have hlen:=rs.length
 simp only[Oe,N4]at hlen
 have hlid:=i7
 refine MV (So hL (fun h2 hL2 hs=>Nb ?_) (by lia))
 obtain⟨S2,R2⟩:=au.zh (t:=s1.toks) R1 I1.d hs (let ⟨m,e⟩:=hL2;⟨_,e⟩)
 have S2':=S2 (Uc W1 en.kb env.locals D) Nk
 have S2d:=S2 [D] (by simp)
 have x:=S2d.ext (fun b hb=>by simp at hb;subst hb;exact aF I1.d)
 refine h _ W1 (S1.uc.sV S2') ⟨⟨R2,I1.at_.fr.step R1 S2d (fun b hb=>by simp at hb;subst hb;exact aF I1.d) (by simp;exact I1.ne)⟩,I1.d,I1.ne,⟨_,hL2,?_⟩,by simp[kD,g6,hd,I.dat]⟩
 rw[QI,UK]
 exact(aY.ext x rs).append (.one (VR.ext x r1))
noncomputable def wu(C:Cx)(O:cQ)(n:Nat)(elt:E)(gens:List PG)(scope:Ve)(pos:NW)(d:Nat)(rest:Gs)(s':Sc):Prop:=
 ∀{env:OZ} {en:En} {W:Wt} {st:ao} {s:MT} {D:Na} {acc:List V} {A:NF} {Ex:MU→MT→Prop} {Q:Fin→MT→Prop} {en' st' acc'} {it:MU},dF C s' env→CI C s' env D en W st acc s→bL n A→
  CD O (fun en st=>ak O elt .val en st) rest en st acc=some (en',st',acc')→
  (∀s2 W2,Step C (Uc W en.kb env.locals D) W s W2 s2→CI C s' env D en' W2 st' acc' s2→en'.kb=en.kb→wpAny (model C.prog C.w) A (again (.compLoop (.ListComp (bw elt s') gens scope pos) d it (.ref D) env)) Q Ex s2)→
  wpAny (model C.prog C.w) A (match gens[d+1]? with
     |some g'=>do
      let x←eval g'.iter env
      standAt g'.iter.pos
      let x←if g'.is_async != 0 then foldedIterable g'.iter x else foldedSetIterable g'.iter env x
      let _←runOwn (.compStart (.ListComp (bw elt s') gens scope pos) (d+1) (←holding [x] (if g'.is_async != 0 then asyncIter x else pyIter x)) (.ref D) env) env
      again (.compLoop (.ListComp (bw elt s') gens scope pos) d it (.ref D) env)
     |none=>do
      (do let _←N5 (.builtin "list.append") [.ref D,←eval (bw elt s') env]:RE Unit)
      again (.compLoop (.ListComp (bw elt s') gens scope pos) d it (.ref D) env)) Q Ex s
end
end Rk
end

section
namespace Rk
open PySem PySem.W PySem.Calls PyProof.Rows PySem.SeqAt
section
variable {C:Cx} {O:cQ} {n:Nat} {W W' W'':Wt} {st st':ao} {h h':NX} {s s' s'':MT} {A:NF} {Ex:MU→MT→Prop} {sc so:Sc} {env:OZ} {en:En}
theorem au.item{wr new:List Na}{gw:List Nat}(R:au C W st s)(K:aL wr gw s s')(hX:∀b∈wr,b∈W.X)(hnd:new.Nodup)(hn:∀b∈new,s.heap.get? b=none∧ ∃o,s'.heap.get? b=some o)(hl:∀b∈wr,∃o,s'.heap.get? b=some o):
  au C { W with X:=new++W.X } st s'∧Ext C W s.heap { W with X:=new++W.X } s'.heap:=by
 have hall:∀b,b∈({ W with X:=new++W.X }:Wt).all ↔ b∈W.all∨b∈new:=fun b=>by
  simp only[Wt.all,MX];constructor
  ·rintro(h|h|h|h)
   ·exact .inl (.inl h)
   ·exact .inl (.inr (.inl h))
   ·exact .inr h
   ·exact .inl (.inr (.inr h))
  ·rintro((h|h|h)|h)
   ·exact .inl h
   ·exact .inr (.inl h)
   ·exact .inr (.inr (.inr h))
   ·exact .inr (.inr (.inl h))
 have hnw:∀a,fD C W a→a∉wr:=fun a f hm=>f.1 (aF (hX a hm))
 have X:Ext C W s.heap { W with X:=new++W.X } s'.heap:=
  ⟨⟨[],by simp⟩,⟨[],by simp⟩,fun a o f e=>⟨⟨fun hm=>((hall a).mp hm).elim f.1 fun q=>(by rw[(hn a q).1]at e;cases e),f.2⟩,K.keep a o e (hnw a f)⟩⟩
 have hnm:∀b∈new,b∉W.all:=fun b hb hm=>by obtain⟨o,e⟩:=(R.r.lo _ hm).2;rw[(hn b hb).1]at e;cases e
 have hta:∀a,a∈C.ta→a∉wr:=fun a ha hm=>bB R (aF (hX a hm)) ha
 have kM:∀a,a∈W.ay→a∉wr:=fun a ha hm=>cU R (hX a hm) ha
 have hκ:∀a,a∈W.aB→a∉wr:=fun a ha hm=>eJ R (hX a hm) ha
 refine⟨⟨⟨fun a o e t=>K.keep _ _ (R.r.keep a o e t) (fun hm=>by have:=(R.r.lo a (aF (hX a hm))).1;rw[e]at this;cases this),fun T hT=>(R.r.tabs T hT).ext X fun o e=>K.keep _ o e (hta _ (Nt hT)),
  fun T hT=>let ⟨ps,ps',e1,e2⟩:=R.r.grown T hT;⟨ps,ps',e1,K.keep _ _ e2 (hta _ (Nt hT))⟩,R.r.jC,R.r.ng,?_,?_,?_,?_⟩,K.os.trans R.os,K.bare R.bare⟩,X⟩
 ·intro i l a e1 e2
  refine bc fun hN0=>?_
  obtain⟨cs,⟨m,ho⟩,h2,h3⟩:=R.r.σ i l a e1 e2
  refine hN0 ?_
  exact⟨cs,⟨m,K.keep _ _ ho (kM a (Nh e2))⟩,aY.ext X h2,h3⟩
 ·intro k ov a e1 e2
  refine bc fun hN1=>?_
  obtain⟨oc,⟨o',ho,hd⟩,h2⟩:=R.r.κ k ov a e1 e2
  refine hN1 ?_
  exact⟨oc,⟨o',K.keep _ _ ho (hκ a (Nh e2)),hd⟩,h2.ext X⟩
 ·have hN:=R.r.nodup
  simp only[Wt.all]at hN hnm ⊢
  rw[M6]at hN ⊢
  refine⟨hN.1,?_,?_⟩
  ·have h2:=hN.2.1
   rw[M6]at h2 ⊢
   refine⟨h2.1,?_,fun a ha b hb=>?_⟩
   ·rw[M6]
    exact⟨hnd,h2.2.1,fun a ha b hb e=>hnm a ha (MZ _ (MZ _ (e▸hb)))⟩
   ·rcases MX.mp hb with hb|hb
    ·exact fun e=>hnm b hb (MZ _ (M7 _ (e▸ha)))
    ·exact h2.2.2 a ha b hb
  ·intro a ha b hb
   rcases MX.mp hb with hb|hb
   ·exact hN.2.2 a ha b (M7 _ hb)
   ·rcases MX.mp hb with hb|hb
    ·exact fun e=>hnm b hb (M7 _ (e▸ha))
    ·exact hN.2.2 a ha b (MZ _ hb)
 ·intro a ha
  rcases(hall a).mp ha with ha|ha
  ·refine⟨(R.r.lo a ha).1,?_⟩
   by_cases hw:a∈wr
   ·exact hl a hw
   ·obtain⟨o,e⟩:=(R.r.lo a ha).2;exact⟨o,K.keep _ _ e hw⟩
  ·refine⟨?_,(hn a ha).2⟩
   cases e:C.h₁.get? a with
   |none=>rfl
   |some o1=>
    by_cases ht:a∈C.ta
    ·obtain⟨o2,e2⟩:=R.r.nh ht;rw[(hn a ha).1]at e2;cases e2
    ·have e2:=R.r.keep _ _ e ht;rw[(hn a ha).1]at e2;cases e2
theorem au.A5{wr X0:List Na}{gw:List Nat}(R:au C W st s)(K:aL wr gw s s')(hX:W.X=wr++X0):
  au C { W with X:=X0 } st s'∧Ext C W s.heap { W with X:=X0 } s'.heap:=by
 have hXm:∀b∈wr,b∈W.X:=fun b hb=>by rw[hX];exact M7 _ hb
 have hX0:∀b∈X0,b∈W.X:=fun b hb=>by rw[hX];exact MZ _ hb
 have hN:=R.r.nodup
 simp only[Wt.all]at hN
 rw[M6]at hN
 have hN2:=hN.2.1
 rw[M6,hX,M6]at hN2
 have hall:∀b∈({ W with X:=X0 }:Wt).all,b∈W.all:=fun b hb=>by
  simp only[Wt.all,MX]at hb ⊢
  rcases hb with h|h|h
  ·exact .inl h
  ·exact .inr (.inl h)
  ·exact .inr (.inr (hX0 b h))
 have hnw:∀a,fD C W a→a∉wr:=fun a f hm=>f.1 (aF (hXm a hm))
 have X:Ext C W s.heap { W with X:=X0 } s'.heap:=
  ⟨⟨[],by simp⟩,⟨[],by simp⟩,fun a o f e=>⟨⟨fun hm=>f.1 (hall a hm),f.2⟩,K.keep a o e (hnw a f)⟩⟩
 have hta:∀a,a∈C.ta→a∉wr:=fun a ha hm=>bB R (aF (hXm a hm)) ha
 have kM:∀a,a∈W.ay→a∉wr:=fun a ha hm=>cU R (hXm a hm) ha
 have hκ:∀a,a∈W.aB→a∉wr:=fun a ha hm=>eJ R (hXm a hm) ha
 refine⟨⟨⟨fun a o e t=>K.keep _ _ (R.r.keep a o e t) (fun hm=>by have:=(R.r.lo a (aF (hXm a hm))).1;rw[e]at this;cases this),fun T hT=>(R.r.tabs T hT).ext X fun o e=>K.keep _ o e (hta _ (Nt hT)),
  fun T hT=>let ⟨ps,ps',e1,e2⟩:=R.r.grown T hT;⟨ps,ps',e1,K.keep _ _ e2 (hta _ (Nt hT))⟩,R.r.jC,R.r.ng,?_,?_,?_,?_⟩,K.os.trans R.os,K.bare R.bare⟩,X⟩
 ·intro i l a e1 e2
  obtain⟨cs,⟨m,ho⟩,h2,h3⟩:=R.r.σ i l a e1 e2
  exact⟨cs,⟨m,K.keep _ _ ho (kM a (Nh e2))⟩,aY.ext X h2,h3⟩
 ·intro k ov a e1 e2
  obtain⟨oc,⟨o',ho,hd⟩,h2⟩:=R.r.κ k ov a e1 e2
  exact⟨oc,⟨o',K.keep _ _ ho (hκ a (Nh e2)),hd⟩,h2.ext X⟩
 ·simp only[Wt.all]
  rw[M6,M6]
  exact⟨hN.1,⟨hN2.1,hN2.2.1.2.1,fun a ha b hb=>hN2.2.2 a ha b (MZ _ hb)⟩,fun a ha b hb=>hN.2.2 a ha b (by
   rcases MX.mp hb with hb|hb
   ·exact M7 _ hb
   ·exact MZ _ (hX0 b hb))⟩
 ·intro a ha
  have hw:a∉wr:=fun hm=>by
   simp only[Wt.all,MX]at ha
   rcases ha with ha|ha|ha
   ·exact kM a ha hm
   ·exact hκ a ha hm
   ·exact hN2.2.1.2.2 a hm a ha rfl
  obtain⟨o,e⟩:=(R.r.lo a (hall a ha)).2
  exact⟨(R.r.lo a (hall a ha)).1,o,K.keep _ _ e hw⟩
theorem Fr.ext{X1:List Na}(F:Fr C W sc en env s.heap)(x:Ext C W s.heap { W with X:=X1 } s'.heap)(hL:env.locals∈X1)(hk:∀o,s.heap.get? env.locals=some o→s'.heap.get? env.locals=some o):Fr C { W with X:=X1 } sc en env s'.heap where
 len:=F.len
 loc:=hL
 ns:=by
  obtain⟨m,hn,hv⟩:=F.ns
  refine⟨m,hn.at' hk,fun i n v h1 h2=>?_⟩
  obtain⟨c,h3,h4⟩:=hv i n v h1 h2
  exact⟨c,h3,VR.ext x h4⟩
 vy:=fun i x w h1 h2=>F.vy i x w h1 h2
theorem CI.ext{X1:List Na}{D:Na}{acc:List V}(I:CI C sc env D en W st acc s)(R:au C { W with X:=X1 } st s')(x:Ext C W s.heap { W with X:=X1 } s'.heap)(hL:env.locals∈X1)(hD:D∈X1)
  (hk:∀a∈[env.locals,D],∀o,s.heap.get? a=some o→s'.heap.get? a=some o):CI C sc env D en { W with X:=X1 } st acc s':=by
 refine⟨⟨R,I.at_.fr.ext x hL (hk _ (by simp))⟩,hD,I.ne,?_,I.dat⟩
 obtain⟨cs,⟨m,ho⟩,hv⟩:=I.l
 exact⟨cs,⟨m,hk D (by simp) _ ho⟩,aY.ext x hv⟩
theorem Step.mF{U wr X0:List Na}{gw:List Nat}{W0:Wt}{X1:List Na}(S:Step C U W0 s { W with X:=X0 } s')(K:aL wr gw s' s'')(hw:∀b∈wr,s.heap.get? b=none)(hg:∀g∈gw,s.gens.size≤g):
  Step C U W0 s { ({ W with X:=X1 }:Wt)with X:=X0 } s'' where
 mZ a o e:=by
  obtain⟨o',e'⟩:=S.mZ a o e
  exact⟨o',K.keep _ _ e' fun hm=>by rw[hw a hm]at e;cases e⟩
 keep a o e hu ht:=K.keep _ _ (S.keep a o e hu ht) fun hm=>by rw[hw a hm]at e;cases e
 ay:=S.ay
 aB:=S.aB
 X:=S.X
 gens g gs e:=K.gens g gs (S.gens g gs e) fun hm=>by
  have:=hg g hm
  rw[Ph this]at e;cases e
theorem Step.Mr{U U' X0:List Na}{W0:Wt}(S:Step C U W0 s { W with X:=X0 } s')(S':Step C U' W s' W' s'')(hU:∀a∈U',a∈U∨s.heap.get? a=none):Step C U W0 s { W' with X:=X0 } s'' where
 mZ a o e:=let ⟨o',e'⟩:=S.mZ a o e;S'.mZ a o' e'
 keep a o e hu ht:=S'.keep a o (S.keep a o e hu ht) (fun q=>by
  rcases hU a q with q|q
  ·exact hu q
  ·rw[e]at q;cases q) ht
 ay:=by
  obtain⟨n1,e1,h1⟩:=S.ay
  obtain⟨n2,e2,h2⟩:=S'.ay
  refine⟨n1++n2,by rw[←M_,←e1];exact e2,fun a ha=>?_⟩
  rcases MX.mp ha with ha|ha
  ·exact h1 a ha
  ·have hn:=h2 a ha
   cases e:s.heap.get? a with
   |none=>rfl
   |some o=>
    obtain⟨o',e'⟩:=S.mZ a o e
    rw[hn]at e';cases e'
 aB:=S'.aB.trans S.aB
 X:=S.X
 gens g gs e:=S'.gens g gs (S.gens g gs e)
theorem It.A_{α:Type}{tg:PK}{I:Na}{xs:List V}{cs:List MU}{fz:List (Na×Ug)}{nx:ao→Nat→Option V}{gw:List Nat}{St:Nat→List Na→MT→Prop}{f:Option MU→RE α}{m:MU→RE α}{Q:α→MT→Prop}{i:Nat}{v:V}{wr:List Na}
  (it:It C A tg I xs cs fz nx gw St) (hf:∀v,f (some v)=(letOwnedTupleGo tg (.ref I) v>>= fun _=>m v)) (hv:nx st i=some v) (hst:St i wr s) (hX:∀b∈wr,b∈W.X) (R:au C W st s) (H:sQ C W s.heap xs cs fz)
  (h:∀c s' new,new.Nodup→(∀b∈new,s.heap.get? b=none∧ ∃o,s'.heap.get? b=some o)→aL wr gw s s'→St (i+1) (new++wr) s'→VR C { W with X:=new++W.X } s'.heap v c→wpAny (model C.prog C.w) A (m c) Q Ex s'):
  wpAny (model C.prog C.w) A (pyNext (.ref I)>>= f) Q Ex s:=by
 refine MV (Og (it.item i v s W st wr (fun c s'=>wpAny (model C.prog C.w) A (m c) Q Ex s') _ hv hst hX R H h) (fun r s1 hr=>?_) fun _ _ e=>e)
 obtain⟨c,rfl,h1⟩:=hr
 rw[hf]
 exact MV h1
structure jW (C:Cx) (U:List Na) (W0:Wt) (s0:MT) (xs:List V) (cs:List MU) (fz:List (Na×Ug)) (St:Nat→List Na→MT→Prop) (j:Nat) (wr:List Na) (W:Wt) (s:MT):Prop where
 S:Step C U W0 s0 { W with X:=W0.X } s
 hX:W.X=wr++W0.X
 hwr:∀b∈wr,s0.heap.get? b=none
 held:sQ C W s.heap xs cs fz
 st:St j wr s
section
variable {U U':List Na} {W0:Wt} {s0:MT} {xs:List V} {cs:List MU} {fz:List (Na×Ug)} {St:Nat→List Na→MT→Prop} {j kb:Nat} {wr new:List Na} {gw:List Nat} {tg:PK} {Ia D L:Na} {nx:ao→Nat→Option V} {acc:List V}
theorem jW.Eo(I:jW C U W0 s0 xs cs fz St j wr W s):∀b∈wr,b∈W.X:=fun b hb=>by rw[I.hX];exact M7 _ hb
theorem jW.De(I:jW C U W0 s0 xs cs fz St j wr W s){a:Na}(ha:a∈W0.X):a∈W.X:=by rw[I.hX];exact MZ _ ha
theorem jW.nodup(I:jW C U W0 s0 xs cs fz St j wr W s)(R:au C W st s):(wr++W0.X).Nodup:=by
 have hN:=R.r.nodup
 simp only[Wt.all]at hN
 exact I.hX▸(M6.mp (M6.mp hN).2.1).2.1
theorem jW.out(I:jW C U W0 s0 xs cs fz St j wr W s)(R:au C W st s){a:Na}(ha:a∈W0.X):a∉wr:=fun hm=>(M6.mp (I.nodup R)).2.2 _ hm _ ha rfl
theorem jW.drop(I:jW C U W0 s0 xs cs fz St j wr W s)(R:au C W st s)(K:aL wr gw s s')(hgw:∀g∈gw,s0.gens.size≤g):
  au C { W with X:=W0.X } st s'∧Ext C W s.heap { W with X:=W0.X } s'.heap∧Step C U W0 s0 { W with X:=W0.X } s':=
 let ⟨R2,x2⟩:=au.A5 R K I.hX
 ⟨R2,x2,I.S.mF (X1:=W0.X) K I.hwr hgw⟩
theorem jW.item(it:It C A tg Ia xs cs fz nx gw St)(I:jW C U W0 s0 xs cs fz St j wr W s)(R:au C W st s)(K:aL wr gw s s')(hgw:∀g∈gw,s0.gens.size≤g)(hnd:new.Nodup)
  (hnew:∀b∈new,s.heap.get? b=none∧ ∃o,s'.heap.get? b=some o) (hst:St (j+1) (new++wr) s'):
  au C { W with X:=new++W.X } st s'∧Ext C W s.heap { W with X:=new++W.X } s'.heap∧jW C U W0 s0 xs cs fz St (j+1) (new++wr) { W with X:=new++W.X } s':=by
 obtain⟨R2,x2⟩:=au.item R K I.Eo hnd hnew fun b hb=>it.live _ _ _ hst b (MZ _ hb)
 refine⟨R2,x2,I.S.mF (X1:=new++W.X) K I.hwr hgw,?_,fun b hb=>?_,I.held.ext x2,hst⟩
 ·show new++W.X=_
  rw[I.hX,M_]
 ·rcases MX.mp hb with hb|hb
  ·cases e:s0.heap.get? b with
   |none=>rfl
   |some o=>obtain⟨o',e'⟩:=I.S.mZ b o e;rw[(hnew b hb).1]at e';cases e'
  ·exact I.hwr b hb
theorem jW.step(it:It C A tg Ia xs cs fz nx gw St)(I:jW C U W0 s0 xs cs fz St j wr W s)(R:au C W st s)(S:Step C U' W s W' s')(hall:∀a∈U',a∈W.all)(hw:∀b∈wr,b∉U')
  (hU:∀a∈U',a∈U∨s0.heap.get? a=none):jW C U W0 s0 xs cs fz St j wr W' s':=
 ⟨I.S.Mr S hU,S.X.trans I.hX,I.hwr,I.held.ext (S.ext hall),it.frame _ _ _ _ I.st (fun b hb o e=>S.keep b o e (hw b hb) (bB R (aF (I.Eo b hb)))) S.gens⟩
theorem sW{a:Na}(h:a∈Ub W kb L):a∈W.ay∨a∈W.aB.drop kb∨a=L:=by
 rcases MX.mp h with h|h
 ·exact .inl h
 ·rcases MX.mp h with h|h
  ·exact .inr (.inl h)
  ·exact .inr (.inr (M4.mp h))
theorem jW.Ep(I:jW C U W0 s0 xs cs fz St j wr W s)(R:au C W st s)(hL:L∈W0.X):∀b∈wr,b∉Ub W kb L:=fun b hb hm=>by
 rcases sW hm with hm|hm|rfl
 ·exact cU R (I.Eo b hb) hm
 ·exact eJ R (I.Eo b hb) (OI hm)
 ·exact I.out R hL hb
theorem Step.Ba(S:Step C U W0 s0 { W with X:=W0.X } s):∀a∈Ub W kb L,a∈Ub W0 kb L∨s0.heap.get? a=none:=fun a ha=>by
 obtain⟨nw,e,hn⟩:=S.ay
 rcases sW ha with ha|ha|rfl
 ·rw[show W.ay=W0.ay++nw from e]at ha
  rcases MX.mp ha with ha|ha
  ·exact .inl (M7 _ ha)
  ·exact .inr (hn a ha)
 ·rw[show W.aB=W0.aB from S.aB]at ha
  exact .inl (MZ _ (M7 _ ha))
 ·exact .inl (MZ _ (MZ _ m0))
theorem jW.Ft(it:It C A tg Ia xs cs fz nx gw St)(I:jW C (Ub W0 en.kb env.locals) W0 s0 xs cs fz St j wr W s)(X:At C sc env en W st s)(hL:env.locals∈W0.X)(S:Step C (Ub W en.kb env.locals) W s W' s'):
  jW C (Ub W0 en.kb env.locals) W0 s0 xs cs fz St j wr W' s':=I.step it X.r S (jR X.fr) (I.Ep X.r hL) I.S.Ba
theorem jW.Bb(it:It C A tg Ia xs cs fz nx gw St)(I:jW C (Uc W0 en.kb env.locals D) W0 s0 xs cs fz St j wr W s)(X:CI C sc env D en W st acc s)(hL:env.locals∈W0.X)(hD:D∈W0.X)(S:Step C (Uc W en.kb env.locals D) W s W' s'):
  jW C (Uc W0 en.kb env.locals D) W0 s0 xs cs fz St j wr W' s':=
 I.step it X.at_.r S (Fq X) (fun b hb hm=>(M5.mp hm).elim (fun e=>I.out X.at_.r hD (e▸hb)) (I.Ep X.at_.r hL b hb))
  fun a ha=>(M5.mp ha).elim (fun e=>.inl (e▸m0)) fun h=>(I.S.Ba a h).imp (MY _) id
theorem Step.xV{U0:List Na}(S:Step C U0 W s W' s'):s.gens.size≤s'.gens.size:=by
 by_cases hz:s'.gens.size<s.gens.size
 ·have:=S.gens _ _ (RO hz)
  rw[Ph (M9 _)]at this;cases this
 ·exact Pn.mp hz
theorem jW.start{U0:List Na}{s1:MT}{W1:Wt}(S1:Step C U0 W0 s0 W1 s1)(hU0:∀a∈U0,a∈U)(R1:au C W1 st s1)(P:J7 s1 s)(hnd:wr.Nodup)(hw:∀b∈wr,s1.heap.get? b=none∧ ∃o,s.heap.get? b=some o)(H:sQ C W1 s1.heap xs cs fz)(hst:St 0 wr s):
  au C { W1 with X:=wr++W1.X } st s∧Ext C W1 s1.heap { W1 with X:=wr++W1.X } s.heap∧jW C U W0 s0 xs cs fz St 0 wr { W1 with X:=wr++W1.X } s:=by
 obtain⟨R2,x2⟩:=R1.oi P hw hnd
 refine⟨R2,x2,⟨fun a o e=>let ⟨o',e'⟩:=S1.mZ a o e;⟨o',P.keep _ _ e'⟩,fun a o e hu ht=>P.keep _ _ (S1.keep a o e (fun q=>hu (hU0 a q)) ht),S1.ay,S1.aB,rfl,fun g gs e=>P.gens g gs (S1.gens g gs e)⟩,?_,fun b hb=>?_,H.ext x2,hst⟩
 ·show wr++W1.X=_
  rw[S1.X]
 ·cases e:s0.heap.get? b with
  |none=>rfl
  |some o=>obtain⟨o',e'⟩:=S1.mZ b o e;rw[(hw b hb).1]at e';cases e'
inductive Bc (C:Cx) (sc:Sc) (env:OZ) (D:Na) (W0:Wt) (s0:MT) (xs:List V) (cs:List MU) (fz:List (Na×Ug)) (St:Nat→List Na→MT→Prop) (kb:Nat) (LP:Nat→En→ao→List V→Prop) (s:MT):Prop
 |mk (j:Nat) (en:En) (st:ao) (acc:List V) (W:Wt) (wr:List Na) (lp:LP j en st acc) (pi:jW C (Uc W0 kb env.locals D) W0 s0 xs cs fz St j wr W s) (ci:CI C sc env D en W st acc s) (hk:en.kb=kb):Bc C sc env D W0 s0 xs cs fz St kb LP s
noncomputable def uA(C:Cx)(sc:Sc)(env:OZ)(D:Na)(W0:Wt)(s0:MT)(kb:Nat)(out:En×ao×List V)(R:Vz→MT→Prop):Prop:=
 ∀s' W',Step C (Uc W0 kb env.locals D) W0 s0 W' s'→CI C sc env D out.1 W' out.2.1 out.2.2 s'→out.1.kb=kb→R (.ok .next) s'
theorem uA.of{kb:Nat}{out out':En×ao×List V}{R:Vz→MT→Prop}(h:uA C sc env D W0 s0 kb out R)(e:out=out'):uA C sc env D W0 s0 kb out' R:=e▸h
theorem o9{elt:E}{gens:List PG}{scope:Ve}{pos:NW}{d:Nat}{t:T}{iter:PK}{ifs:Es}{rest:Gs}{R:Vz→MT→Prop}{k:Nat}{en':En}{acc':List V}
  (hg:gens[d]? =some ⟨toT sc t,iter,b9 ifs sc,0⟩) (hifs:e_ C O n ifs) (wfi:gF C.bN ifs sc=true) (after:wu C O n elt gens scope pos d rest sc) (B:dF C sc env) (hr:bL n A)
  (it:It C A (toT sc t) Ia xs cs fz nx gw St) (hD:D∈W0.X) (hL:env.locals∈W0.X) (hgw:∀g∈gw,s0.gens.size≤g)
  (lp:Bc C sc env D W0 s0 xs cs fz St kb (Lp nx t (jJ O elt ifs rest) (en',st',acc') k) s)
  (hR:uA C sc env D W0 s0 kb (en',st',acc') R):
  codeAny (model C.prog C.w) A (.compLoop (.ListComp (bw elt sc) gens scope pos) d (.ref Ia) (.ref D) env) R s:=by
 refine codeAny_loop rfl (fun k' s'=>Bc C sc env D W0 s0 xs cs fz St kb (Lp nx t (jJ O elt ifs rest) (en',st',acc') k') s') ?_ k lp
 rintro k' s1 ⟨j,bV,st1,acc1,W1,wr1,lp1,pi1,ci1,rfl⟩
 show wpAny _ A ((compTurn (.ListComp (bw elt sc) gens scope pos) d (.ref Ia) (.ref D) env).onRaise (fun x=>do noteFrame x env;theTreesLotGoes x)) _ _ s1
 refine wpAny_noted ?_
 rw[uy _ _ _ _ _ _ _ _ _ _ _ hg]
 refine MV (N9 ?_)
 have kp:∀{s'},aL wr1 gw s1 s'→ ∀a∈[env.locals,D],∀o,s1.heap.get? a=some o→s'.heap.get? a=some o:=fun K=>all2 (fun o e=>K.keep _ _ e (pi1.out ci1.at_.r hL)) fun o e=>K.keep _ _ e (pi1.out ci1.at_.r hD)
 rcases lp1.inv with⟨hnx,hout⟩|⟨k2,v,en2,st2,en3,st3,acc3,hk2,hnx,hset,hturn,lp2⟩
 ·refine MV (it.done j s1 W1 _ wr1 _ _ hnx pi1.st pi1.Eo ci1.at_.r pi1.held fun s2 K=>Nb ?_)
  refine bc fun hN0=>?_
  obtain⟨R2,x2,S2⟩:=pi1.drop ci1.at_.r K hgw
  refine hN0 ?_
  exact uA.of hR hout s2 _ S2 (ci1.ext R2 x2 hL hD (kp K)) rfl
 ·refine it.A_ (fun v=>rfl) hnx pi1.st pi1.Eo ci1.at_.r pi1.held fun c s2 new hnd hnew K hst2 r2=>?_
  refine bc fun hN1=>?_
  obtain⟨R2,x2,pi2⟩:=pi1.item it ci1.at_.r K hgw hnd hnew hst2
  refine hN1 ?_
  have ci2:=ci1.ext R2 x2 (MZ _ (pi1.De hL)) (MZ _ (pi1.De hD)) (kp K)
  refine MV (fm hr.handled B ci2.at_ hset r2 fun s3 S3 X3 hkb3=>?_)
  refine bc fun hN2=>?_
  have ci3:=ci2.bind S3 X3
  obtain⟨b,st4,e4,hturn'⟩:=az hturn;clear hturn
  refine hN2 ?_
  refine MV (nM ifs hifs wfi B X3 hr e4 fun s4 W4 S4 R4=>?_)
  have ci4:=ci3.step S4 R4
  have S34:=(Step.Mq (D:=D) S3).sV (Step.uc (kb:=bV.kb) (L:=env.locals) (D:=D) S4)
  clear hg hifs hgw hR hnd hnew hst2 r2 R2 S3 X3 e4 S4 R4
  cases b with
  |false=>
   refine bc fun hN3=>?_
   obtain⟨z1,z2,z3⟩:=fh hturn'
   refine hN3 ?_
   rw[←z1,←z2,←z3]at lp2
   exact Nb ⟨rfl,k2,hk2,_,_,_,_,W4,_,lp2,pi2.Bb it ci2 hL hD S34,ci4,hkb3⟩
  |true=>
   refine after B ci4 hr hturn' fun s5 W5 S5 ci5 hkb5=>?_
   exact Nb ⟨rfl,k2,hk2,_,_,_,_,W5,_,lp2,pi2.Bb it ci2 hL hD (S34.sV (hkb3▸S5)),ci5,hkb5.trans hkb3⟩
end
end
end Rk
end

section
namespace Rk
open PySem PySem.W PySem.Calls PyProof.Rows PySem.SeqAt
section
variable {C:Cx} {O:cQ} {n:Nat} {W W' W'':Wt} {st st':ao} {h h':NX} {s s' s'':MT} {A:NF} {Ex:MU→MT→Prop} {sc so:Sc} {env:OZ} {en:En}
theorem Iv{elt:PK}{gens:List PG}{scope:Ve}{pos:NW}:clausesOf (.ListComp elt gens scope pos)=gens:=rfl
theorem fJ{R:Vz→MT→Prop}{elt target iter:PK}{ifs:List PK}{gens:List PG}{scope:Ve}{pos:NW}{d:Nat}{it acc:MU}(hg:gens[d]? =some ⟨target,iter,ifs,0⟩)
  (h0:codeAny (model C.prog C.w) A (.compLoop (.ListComp elt gens scope pos) d it acc env) R s)
  (h:wpAny (model C.prog C.w) A (pyIter it) (fun it' s'=>codeAny (model C.prog C.w) A (.compLoop (.ListComp elt gens scope pos) d it' acc env) R s')
   (notedBy (model C.prog C.w) A env fun x s'=>R (.error x) s') s):
  codeAny (model C.prog C.w) A (.compStart (.ListComp elt gens scope pos) d it acc env) R s:=by
 refine codeAny_of_tree ?_
 show wpAny _ _ ((compStart (.ListComp elt gens scope pos) d it acc env).onRaise (fun x=>do noteFrame x env;standAt theWindowsPlace)) _ _ s
 refine wpAny_notedAt ?_
 unfold compStart
 simp only[Iv,hg]
 show wpAny _ _ (ask>>= _) _ _ s
 refine MV (wpAny_askSetting (wpAny_ite ?_))
 split
 ·first
   |exact MV (Nb (Nb (VY rfl h0)))
   |exact Nb (VY rfl h0)
 ·refine MV (VA ?_)
  refine MV (N9 (MV (Og h (fun it' s' h'=>Nb (VY rfl h')) fun _ _ x=>x)))
theorem jg{e:E}(x:MU):foldedSetIterable (bw e sc) env x=pure x:=by cases e<;>rfl
theorem Bd{t:T}{it:E}{ifs:Es}{r:Gs}:toG (.cons t it ifs r) sc=⟨toT sc t,bw it sc,b9 ifs sc,0⟩::toG r sc:=rfl
theorem nN{elt:E}{gens:List PG}{scope:Ve}{pos:NW}(hv:bJ C O n elt)(wfe:fG C.bN elt sc=true):
  ∀(rest:Gs) (d:Nat),ri C O n rest→KS C.bN rest sc=true→gens.drop (d+1)=toG rest sc→wu C O n elt gens scope pos d rest sc
 |.nil,d,hs,wf,hd=>by
  rename_i env en W st s D acc A Ex Q en' st' acc' it
  intro B I hr he h
  rw[show gens[d+1]? =none from NR.mpr (PE.mp hd)]
  refine bc fun hN0=>?_
  obtain⟨v,st1,e1,he'⟩:=az he;clear he
  obtain⟨hc,he⟩:=dX he';clear he'
  cases he
  refine hN0 ?_
  exact MV (wq hv wfe B I hr e1 hc.1 hc.2 fun s2 W2 S2 I2=>h s2 W2 S2 I2 rfl)
 |.cons t itx ifs r,d,hs,wf,hd=>by
  rename_i env en W st s D acc A Ex Q en' st' acc' it
  refine bc fun hN1=>?_
  obtain⟨wf,w4⟩:=band wf
  obtain⟨wf,w3⟩:=band wf
  obtain⟨w1,w2⟩:=band wf
  refine hN1 ?_
  rw[Bd]at hd
  have ih:wu C O n elt gens scope pos (d+1) r sc:=nN hv wfe r (d+1) hs.2.2 w4 (by rw[←RB,hd];rfl)
  intro B I hr he h
  have hg:gens[d+1]? =some ⟨toT sc t,bw itx sc,b9 ifs sc,0⟩:=by rw[←Rm,hd];rfl
  rw[hg]
  refine bc fun hN2=>?_
  obtain⟨src,st1,e1,he'⟩:=az he;clear he
  obtain⟨⟨k,lp⟩,hsrc⟩:=Lp.of (ik:=st1) he'
  refine hN2 ?_
  show wpAny _ _ (do
     let x←eval (bw itx sc) env
     standAt (bw itx sc).pos
     let x←foldedSetIterable (bw itx sc) env x
     let _←runOwn (.compStart (.ListComp (bw elt sc) gens scope pos) (d+1) (←holding [x] (pyIter x)) (.ref D) env) env
     again (.compLoop (.ListComp (bw elt sc) gens scope pos) d it (.ref D) env)) _ _ _
  refine MV (Og (hs.1.iter (t:=t) (sc':=sc) (Q:=fun itv s'=>wpAny (model C.prog C.w) A (do
    let _←runOwn (.compStart (.ListComp (bw elt sc) gens scope pos) (d+1) itv (.ref D) env) env
    again (.compLoop (.ListComp (bw elt sc) gens scope pos) d it (.ref D) env)) Q Ex s') (Ex:=Ex) w2 w1 B I.at_ hr e1 (hsrc rfl) ?_) (fun x s' hx=>?_) fun _ _ e=>e)
  ·intro Ia s1 s2 W1 xs cs fz wr gw St S1 R1 P hnd hw hgw H It0 hst
   refine bc fun hN3=>?_
   obtain⟨R2,x2,pi⟩:=jW.start (U:=Uc W en.kb env.locals D) S1 (fun a ha=>MY _ (M7 _ ha)) R1 P hnd hw H hst
   refine hN3 ?_
   have I1:=I.step S1 R1
   have I2:=I1.ext R2 x2 (MZ _ I1.at_.fr.loc) (MZ _ I1.d) fun a _ o e=>P.keep a o e
   have loop:codeAny (model C.prog C.w) A (.compLoop (.ListComp (bw elt sc) gens scope pos) (d+1) (.ref Ia) (.ref D) env)
     (fun r s'=>match r with|.ok _=>wpAny (model C.prog C.w) A (again (.compLoop (.ListComp (bw elt sc) gens scope pos) d it (.ref D) env)) Q Ex s'|.error e=>cameBackBy (model C.prog C.w) A env Ex e s') s2:=
    o9 hg hs.2.1 w3 ih B hr It0 I.d I.at_.fr.loc (fun g hg=>M8 S1.xV (hgw g hg)) ⟨_,_,_,_,_,_,lp,pi,I2,rfl⟩ h
   refine MV (wpAny_runOwn (codeAny_mono (fJ hg loop (It0.self 0 wr s2 _ _ hst loop)) fun r s' hr=>?_))
   cases r with
   |ok f=>exact hr
   |error e=>exact hr
  ·refine MV (N9 ?_)
   rw[jg]
   refine MV (Nb ?_)
   exact MV (OE hx)
theorem oj(ok:mC C.bN sc=true)(hkind:env.scope.kind= .function)(hgl:env.globals=mainGlobals)(hbu:env.builtins=builtinsNs)
  (hrn:∀(i:Nat) x,sc[i]? =some x→(match x with|.lc nm=>env.kindOf nm=some .local|.ce nm=>env.kindOf nm=some .cell|.fe nm _=>env.kindOf nm=some .free∨env.kindOf nm=some .cell|.gl k=>env.kindOf (dc k)=some .globalImplicit)):
  dF C sc env:=by
 refine⟨hkind,fun i x hx=>?_,fO ok,hgl,hbu⟩
 have h1:=hrn i x hx
 obtain⟨h2,h3⟩:=band (NB.mp (band ok).2 x (Nh hx))
 refine⟨?_,h2⟩
 clear hkind hgl hbu hrn hx h2
 cases x with
 |gl k=>exact⟨h1,by obtain⟨y,hy,e⟩:=U7.mp h3;exact eq_of_beq e▸hy⟩
 |_=>exact h1
theorem eo{f:SE→Ra}:∀{sc:Sc} {i:Nat} {x:SE},(sc.map SE.name).Nodup→sc[i]? =some x→(sc.map fun y=>(y.name,f y)).lookup x.name=some (f x)
 |[],i,x,_,h=>by simp at h
 |y::r,0,x,hn,h=>by
  simp only[PR,NP]at h
  subst h
  simp[Oo]
 |y::r,i+1,x,hn,h=>by
  rw[Nz,NK]at hn
  simp only[OJ]at h
  have hmem:x.name∈r.map SE.name:=Nt (Nh h)
  have:(x.name == y.name)=false:=by simp only[beq_eq_false_iff_ne];intro e;exact hn.1 (e▸hmem)
  rw[Nz,Oo,this]
  exact eo hn.2 h
theorem qD:∃f:SE→Ra,(relabel (Sc.scope sc) env).names=sc.map (fun y=>(y.name,f y))∧ ∀y:SE,(match y with|.lc _=>f y= .local|.ce _=>f y= .cell|.fe _ _=>f y= .free∨f y= .cell|.gl _=>f y= .globalImplicit):=by
 refine⟨fun y:SE=>if(y.kind == .free&&env.scope.kind == .function&&env.kindOf y.name == some .cell)then .cell else y.kind,?_,fun y=>?_⟩
 ·simp only[relabel,Sc.scope,Oa]
  apply Qt
  intro y _
  simp only[Uj]
  split<;>rfl
 ·cases y with
  |lc nm=>simp[SE.kind]
  |ce nm=>simp[SE.kind]
  |fe nm o=>
   have gen:∀b:Bool,(if b=true then P7 else PI)=PI∨(if b=true then P7 else PI)=P7:=fun b=>by cases b<;>simp
   exact gen _
  |gl k=>simp[SE.kind]
end
end Rk
end

section
namespace Rk
open PySem PySem.W PySem.Calls PyProof.Rows PySem.SeqAt
section
variable {C:Cx} {O:cQ} {n:Nat} {W W' W'':Wt} {st st':ao} {h h':NX} {s s' s'':MT} {A:NF} {Ex:MU→MT→Prop} {sc so:Sc} {env:OZ} {en:En}
theorem au.Df{X':List Na}(R:au C W st s)(hX:∀a∈X',a∈W.X)(hn:X'.Nodup):au C { W with X:=X' } st s∧(∀a,fD C W a→fD C { W with X:=X' } a):=by
 have hall:∀b∈({ W with X:=X' }:Wt).all,b∈W.all:=fun b hb=>by
  simp only[Wt.all,MX]at hb ⊢
  rcases hb with h|h|h
  ·exact .inl h
  ·exact .inr (.inl h)
  ·exact .inr (.inr (hX b h))
 have hfr:∀a,fD C W a→fD C { W with X:=X' } a:=fun a f=>⟨fun hm=>f.1 (hall a hm),f.2⟩
 have x:Ext C W s.heap { W with X:=X' } s.heap:=⟨⟨[],by simp⟩,⟨[],by simp⟩,fun a o f e=>⟨hfr a f,e⟩⟩
 refine⟨⟨⟨R.r.keep,fun T hT=>(R.r.tabs T hT).ext x fun o e=>e,R.r.grown,R.r.jC,R.r.ng,fun i l a e1 e2=>?_,fun k ov a e1 e2=>?_,?_,fun a ha=>R.r.lo a (hall a ha)⟩,R.os,R.bare⟩,hfr⟩
 ·obtain⟨cs,h1,h2,h3⟩:=R.r.σ i l a e1 e2
  exact⟨cs,h1,aY.ext x h2,h3⟩
 ·obtain⟨oc,h1,h2⟩:=R.r.κ k ov a e1 e2
  exact⟨oc,h1,h2.ext x⟩
 ·have hN:=R.r.nodup
  simp only[Wt.all]at hN ⊢
  rw[M6]at hN ⊢
  have h2:=hN.2.1
  rw[M6]at h2
  refine⟨hN.1,?_,fun a ha b hb=>hN.2.2 a ha b ?_⟩
  ·rw[M6]
   exact⟨h2.1,hn,fun a ha b hb=>h2.2.2 a ha b (hX b hb)⟩
  ·rcases MX.mp hb with hb|hb
   ·exact M7 _ hb
   ·exact MZ _ (hX b hb)
theorem jX:∀(m b a:Nat),a∈addrs b m→b≤a
 |0,_,_,h=>by cases h
 |m+1,b,a,h=>by
  rcases M5.mp h with rfl|h
  ·exact M9 _
  ·exact QS (jX m (b+1) a h)
structure CompEnd (C:Cx) (W:Wt) (s:MT) (st':ao) (v:V) (D L:Na) (s1:MT) (W1:Wt) (st1:ao) (s6:MT) (W6:Wt) (st6:ao):Prop where
 S1:Step C W.ay W s W1 s1
 R1:au C W1 st1 s1
 e:st'={ κ:=st1.κ,σ:=st6.σ }
 S6:Step C W1.ay W1 s1 { W6 with aB:=W1.aB,X:=W1.X } s6
 R6:au C W6 st6 s6
 κ:∃e,W6.aB=W1.aB++e∧ ∀a∈e,s1.heap.get? a=none
 X:W6.X=L::W1.X
 r:VR C W6 s6.heap v (.ref D)
 d:v.data=true
 ns:∃m,s6.heap.Ns L m
 L:s1.heap.get? L=none
theorem wz{wr fr:List Nat}{cenv:OZ}(R2:au C { W with X:=wr++W.X } st s)(nO:mC C.bN sc=true)(hcl:fr.length=frees sc∧ ∀k∈fr,k<W.aB.length)(hL:cenv.locals=s.heap.objs.size+1)
  (hc:cenv.cells=cellsFrom (s.heap.objs.size+1+1) (pairs sc) (bQ W.aB sc fr [])) {h4:NX} (e4:h4=dz (s.heap.push { cls:=.type "list",data:=.seq ([]:List MU).toArray }) "dict" sc) {W4:Wt}
  (eW:W4=⟨W.ay,W.aB++addrs (s.heap.objs.size+1+1) (jx sc),wr++(s.heap.objs.size::(s.heap.objs.size+1)::W.X)⟩):
  CI C sc cenv s.heap.objs.size ⟨(aV sc [] fr st.κ).1,st.κ.length⟩ W4 { st with κ:=(aV sc [] fr st.κ).2 } [] { s with heap:=h4 }∧Ext C { W with X:=wr++W.X } s.heap W4 h4∧(∀a o,s.heap.get? a=some o→h4.get? a=some o):=by
 refine bc fun hN0=>?_
 subst eW
 have hD:=Nl s.heap (o:={ cls:=.type "list",data:=.seq ([]:List MU).toArray }) rfl
 have P3:=PS.push s { cls:=.type "list",data:=.seq ([]:List MU).toArray } s.toks
 obtain⟨R3,x3⟩:=R2.oi (new:=[s.heap.objs.size]) P3.g (all1 ⟨aC (M9 _),_,hD⟩) HB
 have hz:(s.heap.push { cls:=.type "list",data:=.seq ([]:List MU).toArray }).objs.size=s.heap.objs.size+1:=Om ..
 obtain⟨R4,x4,F4⟩:au C ⟨W.ay,W.aB++addrs (s.heap.objs.size+1+1) (jx sc),(s.heap.objs.size+1)::([s.heap.objs.size]++(wr++W.X))⟩ { st with κ:=(aV sc [] fr st.κ).2 } { s with heap:=h4 }∧
   Ext C ⟨W.ay,W.aB,[s.heap.objs.size]++(wr++W.X)⟩ (s.heap.push { cls:=.type "list",data:=.seq ([]:List MU).toArray }) ⟨W.ay,W.aB++addrs (s.heap.objs.size+1+1) (jx sc),(s.heap.objs.size+1)::([s.heap.objs.size]++(wr++W.X))⟩ h4∧
   Fr C ⟨W.ay,W.aB++addrs (s.heap.objs.size+1+1) (jx sc),(s.heap.objs.size+1)::([s.heap.objs.size]++(wr++W.X))⟩ sc ⟨(aV sc [] fr st.κ).1,st.κ.length⟩ cenv h4:=by
  have:=jf (env:=cenv) (c:="dict") (sc:=sc) (fr:=fr) (cl:=bQ W.aB sc fr []) R3 (fO nO) hcl rfl (hL.trans hz.symm) (by rw[hc];show _=cellsFrom ((s.heap.push _).objs.size+1) _ _;rw[hz])
  rw[show({ s with heap:=s.heap.push { cls:=.type "list",data:=.seq ([]:List MU).toArray } }:MT).heap.objs.size=s.heap.objs.size+1 from hz]at this
  rw[e4];exact this
 have hk:∀a o,(s.heap.push { cls:=.type "list",data:=.seq ([]:List MU).toArray }).get? a=some o→h4.get? a=some o:=e4▸bR _ "dict" sc
 clear e4
 have hp:(wr++(s.heap.objs.size::(s.heap.objs.size+1)::W.X)).Perm ((s.heap.objs.size+1)::([s.heap.objs.size]++(wr++W.X))):=
  (U8.trans (List.Perm.cons _ U8)).trans (List.Perm.swap _ _ _)
 have hN:=R4.r.nodup
 simp only[Wt.all]at hN
 obtain⟨R5,fr5⟩:=R4.Df (X':=wr++(s.heap.objs.size::(s.heap.objs.size+1)::W.X)) (fun a ha=>hp.mem_iff.mp ha) (hp.nodup_iff.mpr (M6.mp (M6.mp hN).2.1).2.1)
 refine hN0 ?_
 have x5:Ext C ⟨W.ay,W.aB++addrs (s.heap.objs.size+1+1) (jx sc),(s.heap.objs.size+1)::([s.heap.objs.size]++(wr++W.X))⟩ h4 ⟨W.ay,W.aB++addrs (s.heap.objs.size+1+1) (jx sc),wr++(s.heap.objs.size::(s.heap.objs.size+1)::W.X)⟩ h4:=
  ⟨⟨[],(Nc _).symm⟩,⟨[],(Nc _).symm⟩,fun a o f e=>⟨fr5 a f,e⟩⟩
 refine⟨⟨⟨R5,Fr.ext (s:={ s with heap:=h4 }) (s':={ s with heap:=h4 }) F4 x5 ?_ fun o e=>e⟩,MZ _ m0,?_,⟨#[],⟨_,hk _ _ hD⟩,rfl⟩,rfl⟩,⟨⟨[],(Nc _).symm⟩,⟨_,rfl⟩,fun a o f e=>?_⟩,fun a o e=>hk a o (Ni _ e)⟩
 ·rw[hL];exact MZ _ m1
 ·rw[hL];exact PT _
 ·refine bc fun hN1=>?_
  obtain⟨f,e⟩:=x3.f a o f e
  obtain⟨f,e⟩:=x4.f a o f e
  refine hN1 ?_
  exact x5.f a o f e
theorem o_(hnd:(sc.map SE.name).Nodup):∀(i:Nat) x,sc[i]? =some x→(match x with|.lc nm=>(relabel (Sc.scope sc) env).names.lookup nm=some .local|.ce nm=>(relabel (Sc.scope sc) env).names.lookup nm=some .cell|.fe nm _=>(relabel (Sc.scope sc) env).names.lookup nm=some .free∨(relabel (Sc.scope sc) env).names.lookup nm=some .cell|.gl k=>(relabel (Sc.scope sc) env).names.lookup (dc k)=some .globalImplicit):=by
 refine bc fun hN0=>?_
 obtain⟨f,hf1,hf2⟩:=qD (sc:=sc) (env:=env)
 refine hN0 ?_
 intro i x hx
 have h1:=eo (f:=f) hnd hx
 have h2:=hf2 x
 rw[hf1]
 clear hnd hf1 hf2 hx
 cases x with
 |lc nm=>exact h1.trans (congrArg some h2)
 |ce nm=>exact h1.trans (congrArg some h2)
 |fe nm o=>exact h2.imp (fun h2=>h1.trans (congrArg some h2)) fun h2=>h1.trans (congrArg some h2)
 |gl k=>exact h1.trans (congrArg some h2)
theorem Be{D L:Na}{s1 s6:MT}{W1 W6:Wt}{st1 st6:ao}{cenv:OZ}{Fv:En}{acc:List V}{m:Nat}(S1:Step C W.ay W s W1 s1)(R1:au C W1 st1 s1)(hf:∀a,D≤a→s1.heap.get? a=none)(hDL:D<L)(hL:cenv.locals=L)
  (S6:Step C (Uc ⟨W1.ay,W1.aB++addrs (L+1) m,D::L::W1.X⟩ st1.κ.length cenv.locals D) ⟨W1.ay,W1.aB++addrs (L+1) m,D::L::W1.X⟩ s1 W6 s6) (I6:CI C sc cenv D Fv W6 st6 acc s6) (hacc:acc.length≤lid∧bA acc=true):
  CompEnd C W s { κ:=st1.κ,σ:=st6.σ } (.lst acc.reverse) D L s1 W1 st1 s6 { W6 with X:=L::W1.X } st6:=by
 have hX6:W6.X=D::L::W1.X:=S6.X
 have hN6:=I6.at_.r.r.nodup
 simp only[Wt.all]at hN6
 have hNX6:=(M6.mp (M6.mp hN6).2.1).2.1
 rw[hX6,NK]at hNX6
 obtain⟨R7,fr7⟩:=I6.at_.r.Df (X':=L::W1.X) (fun a ha=>by rw[hX6];exact MY _ ha) hNX6.2
 refine bc fun hN0=>?_
 obtain⟨cs6,hl6,hv6⟩:=I6.l
 obtain⟨m6,hn6,_⟩:=I6.at_.fr.ns
 refine hN0 ?_
 have hd:bA acc.reverse=true:=bG.mpr fun x hx=>bG.mp hacc.2 x (Q6.mp hx)
 have hgt:∀a∈addrs (L+1) m,s1.heap.get? a=none:=fun a ha=>hf a (M8 (NH (ON hDL)) (jX _ _ _ ha))
 refine⟨S1,R1,rfl,⟨S6.mZ,fun a o e hu ht=>S6.keep a o e (fun hm=>?_) ht,S6.ay,rfl,rfl,S6.gens⟩,R7,⟨_,S6.aB,hgt⟩,rfl,⟨D,cs6,rfl,⟨fun hm=>?_,bB I6.at_.r (aF I6.d)⟩,hl6,aY.dat hd fr7 hv6,by rw[N4];exact hacc.1⟩,hd,⟨m6,hL▸hn6⟩,hf _ (NH hDL)⟩
 ·have no:∀b,s1.heap.get? b=none→b=a→False:=fun b h q=>by rw[q,e]at h;cases h
  rcases M5.mp hm with hm|hm
  ·exact no _ (hf _ (M9 _)) hm.symm
  ·rcases sW hm with hm|hm|hm
   ·exact hu hm
   ·rw[←R1.r.ng,Tz]at hm
    exact no _ (hgt a hm) rfl
   ·exact no _ (hf _ (NH hDL)) (hm.trans hL).symm
 ·simp only[Wt.all,MX]at hm
  rcases hm with hm|hm|hm
  ·exact cU I6.at_.r I6.d hm
  ·exact eJ I6.at_.r I6.d hm
  ·exact hNX6.1 hm
theorem pg{elt:E}{g:Gs}{gf:Sc}{p:NW}{use:Option (MU→RE Unit)}{v:V}{Q:MU→MT→Prop}(helt:bJ C O n elt)(hg:ri C O n g)(wf:fG C.bN (.comp elt g gf p) sc=true)(B:dF C sc env)(X:At C sc env en W st s)(hr:bL n A)
  (he:ak O (.comp elt g gf p) .val en st=some (v,st'))
  (hQ:∀D L s1 W1 st1 s6 W6 st6,CompEnd C W s st' v D L s1 W1 st1 s6 W6 st6→compPost (model C.prog C.w) A Ex use Q (.ref D) L (.ok .next) s6):
  wpAny (model C.prog C.w) A (comprehension (bw (.comp elt g gf p) sc) (Sc.scope gf) env (firstIterPos (n6 g sc gf) p) (newList []) (firstAsync (n6 g sc gf)) (firstIter (n6 g sc gf) env) use) Q Ex s:=by
 cases g with
 |nil=>cases he
 |cons t itx ifs rest=>
  refine bc fun hN0=>?_
  obtain⟨wf,wg⟩:=band wf
  obtain⟨wf,wel⟩:=band wf
  obtain⟨nO,wfe⟩:=band wf
  obtain⟨wg,wrest⟩:=band wg
  obtain⟨wg,wifs⟩:=band wg
  obtain⟨wtg,wit⟩:=band wg
  obtain⟨src,st1,e1,he'⟩:=az he;clear he
  obtain⟨fr,efr,he⟩:=af he';clear he'
  obtain⟨Fv,st6,acc6,elp,he'⟩:=d9 he;clear he
  obtain⟨hacc,he⟩:=dX he';clear he'
  obtain⟨rfl,rfl⟩:=Vg he
  obtain⟨hcl1,hcl2⟩:=iF X.fr wfe efr
  have hnd:=fO nO
  obtain⟨⟨k,lp⟩,hsrc⟩:=Lp.of (ik:=st1) elp
  refine hN0 ?_
  refine wpAny_comprehension_free (g:=⟨toT gf t,bw itx sc,b9 ifs gf,0⟩) (gs:=toG rest gf) rfl (fun x=>jg x) hcl2 rfl (fun x hx hl=>?_) (hg.1.iter (t:=t) (sc':=gf) wit wtg B X hr e1 (hsrc rfl) ?_)
  ·refine bc fun hN1=>?_
   obtain⟨y,hy,rfl⟩:=NY.mp hx
   obtain⟨i,hi⟩:=List.getElem?_of_mem hy
   refine hN1 ?_
   exact(eo (f:=SE.kind) hnd hi).trans (congrArg some hl)
  ·intro Ia s1 s2 W1 xs cs fz wr gw St S1 R1 P hndw hw hgw H It0 hst
   refine bc fun hN2=>?_
   obtain⟨R2,x2⟩:=R1.oi P hw hndw
   refine hN2 ?_
   refine Oi (eM (sc:=gf) rfl fun cenv hcenv=>?_) (by size_fits)
   have hz2:(s2.heap.push { cls:=.type "list",data:=.seq ([]:List MU).toArray }).objs.size=s2.heap.objs.size+1:=Om ..
   have hL:cenv.locals=s2.heap.objs.size+1:=by subst hcenv;exact hz2
   have B1:dF C gf { cenv with scope:=relabel (Sc.scope gf) env }:=oj nO rfl (by subst hcenv;exact B.globals) (by subst hcenv;exact B.builtins) (o_ hnd)
   refine bc fun hN3=>?_
   obtain⟨h4,e4⟩:∃h4,h4=dz (s2.heap.push { cls:=.type "list",data:=.seq ([]:List MU).toArray }) "dict" gf:=⟨_,rfl⟩
   refine hN3 ?_
   obtain⟨ci,x4,hk4⟩:=wz (cenv:={ cenv with scope:=relabel (Sc.scope gf) env }) R2 nO (S1.aB▸hcl1) hL (by subst hcenv;rw[S1.aB,←hz2];rfl) e4 rfl
   have e5:dz ({ s2 with heap:=s2.heap.push { cls:=.type "list",data:=.seq ([]:List MU).toArray } }:MT).heap (if(Option.isSome (some env))=true then "dict" else"frame") gf=h4:=e4.symm
   rw[e5]
   clear e4 e5
   have hf1:∀a,s2.heap.objs.size≤a→s1.heap.get? a=none:=fun a ha=>by
    cases e:s1.heap.get? a with
    |none=>rfl
    |some o=>exact absurd (Od (P.keep a o e)) (Pn.mpr ha)
   refine Nb ?_
   have hst4:=It0.frame 0 wr s2 { s2 with heap:=h4 } hst (fun b _ o e=>hk4 b o e) (fun _ _ e=>e)
   have pi:jW C (Uc ⟨W1.ay,W1.aB++addrs (s2.heap.objs.size+1+1) (jx gf),s2.heap.objs.size::(s2.heap.objs.size+1)::W1.X⟩ st1.κ.length cenv.locals s2.heap.objs.size) ⟨W1.ay,W1.aB++addrs (s2.heap.objs.size+1+1) (jx gf),s2.heap.objs.size::(s2.heap.objs.size+1)::W1.X⟩ s1 xs cs fz St 0 wr ⟨W1.ay,W1.aB++addrs (s2.heap.objs.size+1+1) (jx gf),wr++(s2.heap.objs.size::(s2.heap.objs.size+1)::W1.X)⟩ { s2 with heap:=h4 }:=
    ⟨⟨fun a o e=>⟨o,hk4 a o (P.keep a o e)⟩,fun a o e _ _=>hk4 a o (P.keep a o e),⟨[],(Nc _).symm,o6⟩,rfl,rfl,P.gens⟩,rfl,fun b hb=>(hw b hb).1,(H.ext x2).ext x4,hst4⟩
   have loop:=o9 (R:=fun r s'=>compPost (model C.prog C.w) A Ex use Q (.ref s2.heap.objs.size) cenv.locals r s') (gens:=n6 (.cons t itx ifs rest) sc gf) (scope:=Sc.scope gf) (pos:=p) (d:=0) (iter:=bw itx sc) (t:=t) (elt:=elt) rfl hg.2.1 wifs (nN helt wel rest 0 hg.2.2 wrest rfl) B1 hr It0
    m0 (by show cenv.locals∈_;rw[hL];exact m1) hgw ⟨_,_,_,_,_,_,lp,pi,ci,rfl⟩ fun s6 W6 S6 I6 hkb=>by
     rw[hL]
     exact hQ _ _ s1 W1 st1 s6 _ st6 (Be (cenv:={ cenv with scope:=relabel (Sc.scope gf) env }) S1 R1 hf1 (OY _) hL S6 I6 hacc)
   exact fJ rfl loop (It0.self 0 wr _ _ _ hst4 loop)
theorem Er{W:Wt}{st:ao}{s:MT}(R:au C W st s):∀a∈W.ay,(a∈W.all∧a∉W.aB)∨s.heap.get? a=none:=fun a ha=>.inl ⟨bj ha,fun hk=>kI R hk ha⟩
theorem mG{L:Na}{h':NX}{s:MT}(hs:Pf L s.heap h'):aL [L] [] s { s with heap:=h' }:=
 ⟨fun a o e hn=>(hs.2 a (fun q=>hn (by simp[q]))).trans e,rfl,fun g gs e _=>e,fun x=>x⟩
theorem CompEnd.close{v:V}{D L:Na}{s1 s6:MT}{W1 W6:Wt}{st1 st6:ao}(Z:CompEnd C W s st' v D L s1 W1 st1 s6 W6 st6)(hs:Pf L s6.heap h'):
  ∃W',Step C W.ay W s W' { s6 with heap:=h' }∧au C W' st' { s6 with heap:=h' }∧VR C W' h' v (.ref D):=by
 refine bc fun hN0=>?_
 obtain⟨R8,x8⟩:=au.A5 (wr:=[L]) (X0:=W1.X) Z.R6 (mG hs) Z.X
 have S:Step C W1.ay W1 s1 { ({ W6 with X:=W1.X }:Wt)with aB:=W1.aB,X:=W1.X } { s6 with heap:=h' }:=by
  have S6:=Z.S6
  refine⟨fun a o e=>?_,fun a o e hu ht=>?_,S6.ay,rfl,rfl,S6.gens⟩
  ·obtain⟨o',e'⟩:=S6.mZ a o e
   exact⟨o',(hs.2 a (fun q=>by rw[q,Z.L]at e;cases e)).trans e'⟩
  ·exact(hs.2 a (fun q=>by rw[q,Z.L]at e;cases e)).trans (S6.keep a o e hu ht)
 obtain⟨e,he,_⟩:=Z.κ
 obtain⟨R9,fr9⟩:=Z.R1.back S (Er Z.R1) R8 ⟨e,he⟩ (fun a h=>h)
 refine hN0 ?_
 exact⟨_,Z.S1.after S,Z.e▸R9,VR.dat Z.d fr9 (VR.ext x8 Z.r)⟩
theorem Bf{elt:E}{g:Gs}{gf:Sc}{p:NW}(helt:bJ C O n elt)(hg:ri C O n g):bJ C O n (.comp elt g gf p):=by
 intro sc env en W st st' s A Ex Q v wf B X hr he h
 show wpAny _ _ (eval (.ListComp (bw elt gf) (n6 g sc gf) (Sc.scope gf) p) env) _ _ _
 rw[eval_ListComp]
 refine pg helt hg wf B X hr he fun D L s1 W1 st1 s6 W6 st6 Z=>?_
 obtain⟨m,hm⟩:=Z.ns
 refine⟨m,hm,fun h' hs=>?_⟩
 obtain⟨W',S,R,r⟩:=Z.close hs
 exact h _ _ _ S R r
theorem uB{elt:E}{g:Gs}{gf:Sc}{p pi:NW}{i:Nat}{nmx:NT}{v:V}{en2:En}{st2:ao}{Q:MU→MT→Prop}(helt:bJ C O n elt)(hg:ri C O n g)(wf:fG C.bN (.comp elt g gf p) sc=true)(B:dF C sc env)(X:At C sc env en W st s)(hr:bL n A)
  (he:ak O (.comp elt g gf p) .val en st=some (v,st')) (hi:sc[i]? =some (.lc nmx)) (hset:fC en st' i v=some (en2,st2))
  (hQ:lj C sc env en en2 W st2 s (Q .none)):
  wpAny (model C.prog C.w) A (comprehension (bw (.comp elt g gf p) sc) (Sc.scope gf) env (firstIterPos (n6 g sc gf) p) (newList []) (firstAsync (n6 g sc gf)) (firstIter (n6 g sc gf) env) (some (assign (.Name (nm sc i) pi) env))) Q Ex s:=by
 refine pg helt hg wf B X hr he fun D L s1 W1 st1 s6 W6 st6 Z=>?_
 have F1:=X.fr.step X.r Z.S1 (fun _ h=>bj h) (cU X.r X.fr.loc)
 obtain⟨m1,hn1,hv1⟩:=F1.ns
 have hl1:env.locals∉W1.ay:=cU Z.R1 F1.loc
 have hlt:env.locals∉C.ta:=bB Z.R1 (aF F1.loc)
 have hn6:s6.heap.Ns env.locals m1:=hn1.at' fun o e=>Z.S6.keep _ o e hl1 hlt
 have hLl:L≠env.locals:=fun q=>by obtain⟨o,_,_,e,_⟩:=hn1;rw[←q,Z.L]at e;cases e
 obtain⟨hk,hg0⟩:=B.names i _ hi
 clear helt hg hr he hn1 hl1 hlt hg0
 obtain⟨ov,hov,rfl,rfl⟩:∃ov,en.ρ[i]? =some (.loc ov)∧en2={ en with ρ:=en.ρ.set i (.loc (some v)) }∧st2=st':=by
  rcases mu hset with h|⟨k,h,_⟩
  ·exact h
  ·exact(F1.vy i _ _ hi h).elim
 have hilen:i<en.ρ.length:=(MW.mp hov).1
 show wpAny _ _ (assign (.Name (nm sc i) pi) env (.ref D)) _ _ _
 rw[lg hi]
 refine RW (Pr hk hn6 (fun h7 hn7 hs7=>?_) (by rw[B.kind];rfl))
 obtain⟨mL,hmL⟩:=Z.ns
 refine⟨mL,hmL.sameBut hs7 hLl,fun h8 hs8=>?_⟩
 have hl6:env.locals∈W6.X:=by rw[Z.X];exact MY _ F1.loc
 obtain⟨S7,R7⟩:=au.zh (t:=s6.toks+1) Z.R6 hl6 hs7 (let ⟨o,_,_,e,_⟩:=hn7;⟨o,e⟩)
 obtain⟨R8,x8⟩:=au.A5 (wr:=[L]) (X0:=W1.X) R7 (mG hs8) Z.X
 have S:Step C (env.locals::W1.ay) W1 s1 { ({ W6 with X:=W1.X }:Wt)with aB:=W1.aB,X:=W1.X } { s6 with heap:=h8,toks:=s6.toks+1 }:=by
  have S6:=Z.S6
  refine⟨fun a o e=>?_,fun a o e hu ht=>?_,S6.ay,rfl,rfl,S6.gens⟩
  ·obtain⟨o',e'⟩:=S6.mZ a o e
   have hne:a≠L:=fun q=>by rw[q,Z.L]at e;cases e
   by_cases hal:a=env.locals
   ·obtain⟨o2,_,_,e2,_⟩:=hn7
    exact⟨o2,(hs8.2 a hne).trans (hal▸e2)⟩
   ·exact⟨o',(hs8.2 a hne).trans ((hs7.2 a hal).trans e')⟩
  ·exact(hs8.2 a (fun q=>by rw[q,Z.L]at e;cases e)).trans ((hs7.2 a (fun q=>hu (by simp[q]))).trans (S6.keep a o e (fun q=>hu (MY _ q)) ht))
 have hU:∀a∈env.locals::W1.ay,(a∈W1.all∧a∉W1.aB)∨s1.heap.get? a=none:=fun a ha=>by
  clear X hi hset hQ hv1 hn6 hLl hk hov hilen hn7 hs7 hmL hs8 hl6 S7 R7 R8
  rcases M5.mp ha with rfl|ha
  ·exact .inl ⟨aF F1.loc,eJ Z.R1 F1.loc⟩
  ·exact Er Z.R1 a ha
 obtain⟨e,heq,_⟩:=Z.κ
 obtain⟨R9,fr9⟩:=Z.R1.back S hU R8 ⟨e,heq⟩ (fun a h=>h)
 have x1:Ext C W1 s1.heap { ({ W6 with X:=W1.X }:Wt)with aB:=W1.aB,X:=W1.X } h8:=S.ext (fun a ha=>by
  clear X hi hset hQ hv1 hn6 hLl hk hov hilen hn7 hs7 hmL hs8 hl6 S7 R7 R8 heq R9
  rcases M5.mp ha with rfl|ha
  ·exact aF F1.loc
  ·exact bj ha)
 have rv:VR C { ({ W6 with X:=W1.X }:Wt)with aB:=W1.aB,X:=W1.X } h8 v (.ref D):=VR.dat Z.d fr9 (VR.ext x8 (VR.ext ((S7 [env.locals] (by simp)).ext (fun b hb=>by simp at hb;subst hb;exact aF hl6)) Z.r))
 refine hQ _ ⟨W6.ay,W1.aB,W1.X⟩ ?_ ⟨Z.e▸R9,⟨by simp[F1.len],F1.loc,⟨_,hn7.sameBut hs8 (Ne.symm hLl),fun j n' v' h1 h2=>?_⟩,fun j x' w' h1 h2=>?_⟩⟩ rfl
 ·have S':Step C (env.locals::W.ay) W s ⟨W6.ay,W1.aB,W1.X⟩ { s6 with heap:=h8,toks:=s6.toks+1 }:=(Z.S1.mono (U':=env.locals::W.ay) fun a h=>MY _ h).trans S fun a ha=>by
   clear X hi hset hQ hv1 hn6 hLl hk hov hilen hn7 hs7 hmL hs8 hl6 S7 R7 R8 heq R9
   rcases M5.mp ha with rfl|ha
   ·exact .inl (by simp)
   ·obtain⟨nw,en_,hnw⟩:=Z.S1.ay
    rw[en_]at ha
    rcases MX.mp ha with ha|ha
    ·exact .inl (MY _ ha)
    ·exact .inr (hnw a ha)
  exact S'.mono fun a ha=>by
   simp only[Ub,MX,M4]
   clear X hi hset hQ hv1 hn6 hLl hk hov hilen hn7 hs7 hmL hs8 hl6 S7 R7 R8 heq R9
   rcases M5.mp ha with rfl|ha
   ·exact .inr (.inr rfl)
   ·exact .inl ha
 ·by_cases hj:j=i
  ·clear X hset hQ hv1 hn6 hLl hk hov hn7 hs7 hmL hs8 hl6 S7 R7 R8 heq R9
   subst hj
   rw[hi]at h1;cases h1
   simp only[Nv hilen,NP,SV.loc.injEq]at h2
   clear hi hilen
   subst h2
   exact⟨.ref D,by simp[SE.name],rv⟩
  ·rw[Ou (fun e=>hj e.symm)]at h2
   obtain⟨c',h3,h4⟩:=hv1 j n' v' h1 h2
   have hne:n'≠nmx:=fun e=>hj (by
    have:=B.nodup
    have e1:(sc.map SE.name)[j]? =some nmx:=by rw[Nr,h1];simp[SE.name,e]
    have e2:(sc.map SE.name)[i]? =some nmx:=by rw[Nr,hi];simp[SE.name]
    have h1':=MW.mp e1
    have h2':=MW.mp e2
    exact(Qm this).mp (h1'.2.trans h2'.2.symm))
   exact⟨c',(if_neg hne).trans h3,VR.ext x1 h4⟩
 ·by_cases hj:j=i
  ·clear X hset hQ hv1 hn6 hLl hk hov hn7 hs7 hmL hs8 hl6 S7 R7 R8 heq R9
   subst hj
   rw[hi]at h1;cases h1
   simp only[Nv hilen,NP]at h2
   clear hi hilen
   subst h2
   trivial
  ·rw[Ou (fun e=>hj e.symm)]at h2
   exact CB.at rfl rfl (F1.vy j x' w' h1 h2)
mutual
theorem cV(ok:bF C)(oo:bD C O n):∀e:E,Fk C O n e
 |.bH=>⟨sS,dO.eB sS (fun _ _=>rfl) (fun _ _ _=>rfl),bh sS (fun _ _=>rfl)⟩
 |.cN _ _=>⟨vX,dO.eB vX (fun _ _=>rfl) (fun _ _ _=>rfl),bh vX (fun _ _=>rfl)⟩
 |.cB _ _ _=>⟨vY,dO.eB vY (fun _ _=>rfl) (fun _ _ _=>rfl),bh vY (fun _ _=>rfl)⟩
 |.cI _ _ _=>⟨vZ,dO.eB vZ (fun _ _=>rfl) (fun _ _ _=>rfl),bh vZ (fun _ _=>rfl)⟩
 |.cS _ _ _=>⟨v8,dO.eB v8 (fun _ _=>rfl) (fun _ _ _=>rfl),bh v8 (fun _ _=>rfl)⟩
 |.var _ _=>⟨sU ok,dO.eB (sU ok) (fun _ _=>rfl) (fun _ _ _=>rfl),bh (sU ok) (fun _ _=>rfl)⟩
 |.bin op a b p=>
  have v:bJ C O n (.bin op a b p):=CX (cV ok oo a).val (cV ok oo b).val
  ⟨v,dO.eB v (fun _ _=>rfl) (fun _ _ _=>rfl),bh v (fun _ _=>rfl)⟩
 |.tR a b p=>
  have v:bJ C O n (.tR a b p):=AS (cV ok oo a).val (cV ok oo b).val
  ⟨v,dO.eB v (fun _ _=>rfl) (fun _ _ _=>rfl),bh v (fun _ _=>rfl)⟩
 |.un op a p=>
  have v:bJ C O n (.un op a p):=Fo (cV ok oo a).val
  ⟨v,C1 v (cV ok oo a).test,bh v (fun _ _=>by cases op<;>rfl)⟩
 |.cmp op a b p=>
  have v:bJ C O n (.cmp op a b p):=CY (cV ok oo a).val (cV ok oo b).val
  ⟨v,AO (cV ok oo a).val (cV ok oo b).val,bh v (fun _ _=>rfl)⟩
 |.qv t a b p=>
  have v:bJ C O n (.qv t a b p):=C3 (cV ok oo t).test (cV ok oo a).val (cV ok oo b).val
  ⟨v,AR,bh v (fun _ _=>rfl)⟩
 |.qQ op l p=>
  have v:bJ C O n (.qQ op l p):=C2
  ⟨v,AQ (ly ok oo l),bh v (fun _ _=>rfl)⟩
 |.jD l p=>
  have v:bJ C O n (.jD l p):=C0 (ly ok oo l)
  ⟨v,dO.eB v (fun _ _=>rfl) (fun _ _ _=>rfl),bh v (fun _ _=>rfl)⟩
 |.tup l k p=>
  have v:bJ C O n (.tup l k p):=CZ (ly ok oo l)
  ⟨v,dO.eB v (fun _ _=>rfl) (fun _ _ _=>rfl),bh v (fun _ _=>rfl)⟩
 |.idx a i p=>
  have v:bJ C O n (.idx a i p):=C4 (cV ok oo a).val (cV ok oo i).val
  ⟨v,dO.eB v (fun _ _=>rfl) (fun _ _ _=>rfl),bh v (fun _ _=>rfl)⟩
 |.slc a lo hi k q p=>
  have v:bJ C O n (.slc a lo hi k q p):=C5 (cV ok oo a).val (cV ok oo lo).val (cV ok oo hi).val (cV ok oo k).val
  ⟨v,dO.eB v (fun _ _=>rfl) (fun _ _ _=>rfl),bh v (fun _ _=>rfl)⟩
 |.call f l key q p=>
  have v:bJ C O n (.call f l key q p):=AX ok oo (ly ok oo l) (cV ok oo key).val
  ⟨v,dO.eB v (fun _ _=>rfl) (fun _ _ _=>rfl),zq ok oo (ly ok oo l) (cV ok oo key).val v⟩
 |.d8 o m l q p=>
  have v:bJ C O n (.d8 o m l q p):=A4 (cV ok oo o).val (ly ok oo l)
  ⟨v,dO.eB v (fun _ _=>rfl) (fun _ _ _=>rfl),bh v (fun _ _=>rfl)⟩
 |.comp elt g gf p=>
  have v:bJ C O n (.comp elt g gf p):=Bf (cV ok oo elt).val (Bg ok oo g)
  ⟨v,dO.eB v (fun _ _=>by cases g<;>rfl) (fun _ _ _=>rfl),bh v (fun _ _=>by cases g<;>rfl)⟩
theorem ly(ok:bF C)(oo:bD C O n):∀l:Es,e_ C O n l
 |.nil=>trivial
 |.cons e r=>⟨cV ok oo e,ly ok oo r⟩
theorem Bg(ok:bF C)(oo:bD C O n):∀g:Gs,ri C O n g
 |.nil=>trivial
 |.cons _ it ifs r=>⟨cV ok oo it,ly ok oo ifs,Bg ok oo r⟩
end
end
end Rk
end

section
namespace Rk
open PySem PySem.W PySem.Calls PyProof.Rows PySem.SeqAt
noncomputable def zw(sc:Sc)(i:Nat):Bool:=match sc[i]? with
 |some (.lc _)=>true
 |_=>false
noncomputable def Bh:E→Bool
 |.tup .. =>true
 |_=>false
noncomputable def mH:E→Bool
 |.comp .. =>true
 |_=>false
noncomputable def jY:List (Nat×NW)→Nat
 |[]=>0
 |x::_=>x.2.line
noncomputable def uC(sc:Sc)(ln:Nat)(x:Nat×NW):Bool:=zw sc x.1&&x.2.line == ln
noncomputable def Et(sw:Bool)(l:List (Nat×NW))(es:Es)(sc:Sc):Bool:=
 (es.len == l.length&&l.all fun x=>decide (x.1<sc.length))&&match sw with
 |true=>(l.length == 2 || l.length == 3)&&l.all (uC sc (jY l))&&((l.map fun x=>nm sc x.1).eraseDups.length == l.length)&& !((b9 es sc).all (foldedForSure 8))&& !((b9 es sc).all (constantsAlone 8))
 |false=> !(l.length == 2 || l.length == 3) || !(l.all (uC sc (jY l)))
mutual
noncomputable def KU(gs:List Nat)(df:Nat→Nat→NW→Bool):S→Sc→Bool
 |.raw _,_=>true
 |.expr e _,sc=>fG gs e sc&& !mH e
 |.asg t e _,sc=>fG gs e sc&&(match t with|.bM .. =>true|.tup .. => !Bh e)
 |.tP sw l _ _ es _ _ _,sc=>gF gs es sc&&decide (es.len<1000)&&Et sw l es sc
 |.sub a i e _ _,sc=>fG gs a sc&&fG gs i sc&&fG gs e sc
 |.aug _ _ e _ _,sc=>fG gs e sc
 |.ite t a b _,sc=>fG gs t sc&&n9 gs df a sc&&n9 gs df b sc
 |.yN t b _,sc=>fG gs t sc&&n9 gs df b sc
 |.gB t e b _,sc=>fG gs e sc&&AL sc t e&&n9 gs df b sc
 |.ret e _,sc=>fG gs e sc
 |.qw _,_=>true
 |.defn id i p,_=>df id i p
noncomputable def n9(gs:List Nat)(df:Nat→Nat→NW→Bool):Ss→Sc→Bool
 |.nil,_=>true
 |.cons s r,sc=>KU gs df s sc&&n9 gs df r sc
end
noncomputable def Fw(C:Cx)(W:Wt)(h:NX):Fl→P9→Prop
 |.bU,f=>f= .next
 |.ret v,f=>∃c,f= .ret c∧VR C W h v c
noncomputable def jZ(C:Cx)(sc:Sc)(env:OZ)(en en':En)(W:Wt)(st':ao)(s:MT)(fl:Fl)(Q:P9→MT→Prop):Prop:=
 ∀f s' W',Step C (Ub W en.kb env.locals) W s W' s'→At C sc env en' W' st' s'→en'.kb=en.kb→Fw C W' s'.heap fl f→Q f s'
theorem jZ.of{C:Cx}{sc:Sc}{env:OZ}{en bV en':En}{W:Wt}{st1 st':ao}{s:MT}{f1 fl:Fl}{Q:P9→MT→Prop}(h:jZ C sc env en en' W st' s fl Q)(e:some (f1,bV,st1)=some (fl,en',st')):jZ C sc env en bV W st1 s f1 Q:=by
 obtain⟨h1,h2,h3⟩:=fh e
 clear e
 subst h1 h2 h3;exact h
theorem jZ.next{C:Cx}{sc:Sc}{env:OZ}{en bV en':En}{W:Wt}{st1 st':ao}{s:MT}{fl:Fl}{Q:P9→MT→Prop}(h:jZ C sc env en en' W st' s fl Q)(e:some (Fl.bU,bV,st1)=some (fl,en',st')):lj C sc env en bV W st1 s (Q .next):=
 fun _ _ S X k=>h.of e _ _ _ S X k rfl
noncomputable def iH(C:Cx)(O:cQ)(sc:Sc)(env:OZ)(df:Nat→Nat→NW→Bool):Prop:=
 ∀{id i:Nat} {p:NW} {en en':En} {W:Wt} {st st':ao} {s:MT} {A:NF} {Ex:MU→MT→Prop} {Q:P9→MT→Prop} {fl:Fl},df id i p=true→At C sc env en W st s→A.handled=none→aX O C.P.N (.defn id i p) en st=some (fl,en',st')→
  (lj C sc env en en' W st' s (Q .next))→wpAny (model C.prog C.w) A (exec (toS C.P.N (.defn id i p) sc) env) Q Ex s
section
variable {C:Cx} {O:cQ} {n:Nat} {W W' W'':Wt} {st st':ao} {h h':NX} {s s' s'':MT} {A:NF} {Ex:MU→MT→Prop} {sc so:Sc} {env:OZ} {en en':En} {df:Nat→Nat→NW→Bool}
noncomputable def lN(C:Cx)(O:cQ)(n:Nat)(df:Nat→Nat→NW→Bool)(x:S):Prop:=∀{sc:Sc} {env:OZ} {en en':En} {W:Wt} {st st':ao} {s:MT} {A:NF} {Ex:MU→MT→Prop} {Q:P9→MT→Prop} {fl:Fl},
 KU C.bN df x sc=true→dF C sc env→iH C O sc env df→At C sc env en W st s→bL n A→aX O C.P.N x en st=some (fl,en',st')→
 (jZ C sc env en en' W st' s fl Q)→wpAny (model C.prog C.w) A (exec (toS C.P.N x sc) env) Q Ex s
noncomputable def nP(C:Cx)(O:cQ)(n:Nat)(df:Nat→Nat→NW→Bool)(x:Ss):Prop:=∀{sc:Sc} {env:OZ} {en en':En} {W:Wt} {st st':ao} {s:MT} {A:NF} {Ex:MU→MT→Prop} {Q:P9→MT→Prop} {fl:Fl},
 n9 C.bN df x sc=true→dF C sc env→iH C O sc env df→At C sc env en W st s→bL n A→aE O C.P.N x en st=some (fl,en',st')→
 (jZ C sc env en en' W st' s fl Q)→wpAny (model C.prog C.w) A (execs (dH C.P.N x sc) env) Q Ex s
noncomputable def BodyOk(C:Cx)(O:cQ)(n:Nat)(df:Nat→Nat→NW→Bool)(body:Ss)(sc:Sc):Prop:=∀{env:OZ} {en en':En} {W:Wt} {st st':ao} {s:MT} {A:NF} {Ex:MU→MT→Prop} {Q:P9→MT→Prop} {fl:Fl},
 dF C sc env→iH C O sc env df→At C sc env en W st s→bL n A→aE O C.P.N body en st=some (fl,en',st')→jZ C sc env en en' W st' s fl Q→wpAny (model C.prog C.w) A (execs (dH C.P.N body sc) env) Q Ex s
theorem xW(B:dF C sc env){i:Nat}(hi:i<sc.length):(env.kindOf (nm sc i) == some .local)=zw sc i:=by
 have hx:sc[i]? =some sc[i]:=M3 hi
 obtain⟨hk,_⟩:=B.names i _ hx
 rw[lg hx]
 unfold zw
 rw[hx]
 cases hsx:sc[i]with
 |lc n=>rw[hsx]at hk;rw[show env.kindOf (SE.name (.lc n))=_ from hk];rfl
 |ce n=>rw[hsx]at hk;rw[show env.kindOf (SE.name (.ce n))=_ from hk];rfl
 |fe n o=>rw[hsx]at hk;rcases hk with hk|hk<;>(rw[show env.kindOf (SE.name (.fe n o))=_ from hk];rfl)
 |gl k=>rw[hsx]at hk;rw[show env.kindOf (SE.name (.gl k))=_ from hk.1];rfl
theorem pq{e:E}{t:Option PK}{ln:Nat}(h:mH e=false):swapsWith (bw e sc) t ln env=pure false:=by cases e<;>first|rfl|exact nomatch h
theorem Iw{e:E}{a b:PK}{q:NW}{ln:Nat}:swapsWith (bw e sc) (some (.Subscript a b q)) ln env=pure false:=by cases e<;>rfl
theorem Fx{e:E}{ts:List PK}{k:Nat}{q:NW}{ln:Nat}:swapsWithSole [.Tuple ts k q] (bw e sc) ln env=pure false:=by cases e<;>rfl
theorem zx{e:E}{ts:List PK}{k:Nat}{q:NW}(h:Bh e=false):swappedStores [.Tuple ts k q] (bw e sc) env=pure none:=by cases e<;>first|rfl|exact nomatch h
theorem wA{e:E}(h:mH e=true):∃elt g gf p,e= .comp elt g gf p:=by cases e<;>first|exact⟨_,_,_,_,rfl⟩|exact nomatch h
theorem pA{v:V}{α:Type}{r:α}{o:Option α}(h:cond (isNone v) o none=some r):v= .none∧o=some r:=by cases v<;>first|exact ns h|exact⟨rfl,h⟩
theorem Bj(ok:bF C)(oo:bD C O n){e:E}{p:NW}:lN C O n df (.expr e p):=by
 intro sc env en en' W st st' s A Ex Q fl wf B D X hr he h
 obtain⟨v,st1,e1,he'⟩:=az he;clear he
 obtain⟨hv,he'⟩:=pA he'
 refine VB ((cV ok oo e).val (band wf).1 B X hr e1 fun c s1 W1 S1 R1 r1=>?_) (by unfold interactive;rw[B.kind];first|rfl|simp) (pq (v9 (band wf).2))
 rw[hv]at r1
 rw[show c= .none from r1]
 exact h.of he' _ _ _ S1.ub (X.step S1 R1) rfl rfl
theorem Dg(ok:bF C)(oo:bD C O n){e:E}{p:NW}:lN C O n df (.ret e p):=by
 intro sc env en en' W st st' s A Ex Q fl wf B D X hr he h
 obtain⟨v,st1,e1,he'⟩:=az he;clear he
 exact wpAny_Return_some ((cV ok oo e).val wf B X hr e1 fun c s1 W1 S1 R1 r1=>h.of he' _ _ _ S1.ub (X.step S1 R1) rfl ⟨c,rfl,r1⟩)
theorem Bk{p:NW}:lN C O n df (.qw p):=by
 intro sc env en en' W st st' s A Ex Q fl wf B D X hr he h
 exact wpAny_Return_none (h.of he _ _ _ .refl X rfl ⟨_,rfl,rfl⟩)
theorem Dh{x:Td}:lN C O n df (.raw x):=by
 intro sc env en en' W st st' s A Ex Q fl wf B D X hr he h
 exact ns he
theorem Bm{id i:Nat}{p:NW}:lN C O n df (.defn id i p):=by
 intro sc env en en' W st st' s A Ex Q fl wf B D X hr he h
 refine bc fun hN0=>?_
 obtain⟨fr,_,he'⟩:=af he
 obtain⟨bV,st1,_,he2⟩:=az he'
 have hfl:=(fh he2).1
 clear he' he2
 subst hfl
 refine hN0 ?_
 exact D wf X hr.handled he fun s' W' S' X' hk=>h _ _ _ S' X' hk rfl
theorem Fw.step{fl:Fl}{f:P9}(x:Ext C W h W' h')(r:Fw C W h fl f):Fw C W' h' fl f:=by
 cases fl with
 |bU=>exact r
 |ret v=>obtain⟨c,e,r⟩:=r;exact⟨c,e,VR.ext x r⟩
theorem Bo:nP C O n df .nil:=by
 intro sc env en en' W st st' s A Ex Q fl wf B D X hr he h
 show wpAny _ _ (execs [] env) _ _ _
 exact Nb (h.of he _ _ _ .refl X rfl rfl)
noncomputable def Eu(C:Cx)(O:cQ)(n:Nat)(df:Nat→Nat→NW→Bool)(x:S)(sc:Sc):Prop:=∀{env:OZ} {en en':En} {W:Wt} {st st':ao} {s:MT} {A:NF} {Ex:MU→MT→Prop} {Q:P9→MT→Prop} {fl:Fl},
 dF C sc env→iH C O sc env df→At C sc env en W st s→bL n A→aX O C.P.N x en st=some (fl,en',st')→jZ C sc env en en' W st' s fl Q→wpAny (model C.prog C.w) A (exec (toS C.P.N x sc) env) Q Ex s
theorem g9{x:S}{r:Ss}(hx:Eu C O n df x sc)(hr':BodyOk C O n df r sc):BodyOk C O n df (.cons x r) sc:=by
 intro env en en' W st st' s A Ex Q fl B D X hr he h
 obtain⟨f1,bV,st1,e1,he'⟩:=d9 he;clear he
 show wpAny _ _ (execs (toS C.P.N x sc::dH C.P.N r sc) env) _ _ _
 refine N1 (hx B D X hr e1 fun f s1 W1 S1 X1 hk1 r1=>?_)
 clear hx X e1
 cases f1 with
 |bU=>
  cases r1
  exact hr' B D X1 hr he' fun f2 s2 W2 S2 X2 hk2 r2=>h _ _ _ (S1.bl (hk1▸S2)) X2 (hk2.trans hk1) r2
 |ret v=>
  have h:=h.of he'
  have r1':=r1
  clear hr' hr he'
  obtain⟨c,rfl,r1z1⟩:=r1
  exact h _ _ _ S1 X1 hk1 r1'
theorem zy{x:S}{r:Ss}(hx:lN C O n df x)(hr':nP C O n df r):nP C O n df (.cons x r):=fun wf B D X hr he h=>
 g9 (fun B D X hr e h=>hx (band wf).1 B D X hr e h) (fun B D X hr e h=>hr' (band wf).2 B D X hr e h) B D X hr he h
theorem Di(ok:bF C)(oo:bD C O n){t:E}{a b:Ss}{p:NW}(ha:nP C O n df a)(hb:nP C O n df b):lN C O n df (.ite t a b p):=by
 intro sc env en en' W st st' s A Ex Q fl wf B D X hr he h
 obtain⟨c,st1,e1,he'⟩:=az he;clear he
 refine UO ((cV ok oo t).test (band (band wf).1).1 B X hr e1 fun s1 W1 S1 R1=>?_)
 clear e1
 cases c with
 |true=>exact ha (band (band wf).1).2 B D (X.step S1 R1) hr he' fun f2 s2 W2 S2 X2 hk2 r2=>h _ _ _ (S1.ub.bl S2) X2 hk2 r2
 |false=>exact hb (band wf).2 B D (X.step S1 R1) hr he' fun f2 s2 W2 S2 X2 hk2 r2=>h _ _ _ (S1.ub.bl S2) X2 hk2 r2
inductive Ew (C:Cx) (sc:Sc) (env:OZ) (W0:Wt) (s0:MT) (kb:Nat) (run:En→ao→Prop) (s:MT):Prop
 |mk (en:En) (st:ao) (W:Wt) (e:run en st) (S:Step C (Ub W0 kb env.locals) W0 s0 W s) (X:At C sc env en W st s) (hk:en.kb=kb):Ew C sc env W0 s0 kb run s
theorem Dj(ok:bF C)(oo:bD C O n){t:E}{b:Ss}{p:NW}(hb:nP C O n df b):lN C O n df (.yN t b p):=by
 intro sc env en en' W st st' s A Ex Q fl wf B D X hr he h
 refine wpAny_While (codeAny_whileLoop (fun k s'=>Ew C sc env W s en.kb (fun en st=>qz (fun en st=>a_ (ak O t .test en st)) (fun en st=>aE O C.P.N b en st) k en st=some (fl,en',st')) s') ?_ iB ⟨en,st,W,he,.refl,X,rfl⟩)
 rintro k s1 ⟨bV,st1,W1,e1,S1,X1,hk1⟩
 clear X he
 cases k with
 |zero=>exact ns e1
 |succ k=>
  obtain⟨c,st2,e2,e3⟩:=az e1;clear e1
  refine(cV ok oo t).test (band wf).1 B X1 hr e2 fun s2 W2 S2 R2=>?_
  have S12:=S1.bl S2.ub
  clear S1 e2
  cases c with
  |false=>
   exact Nb (h.of e3 _ _ _ S12 (X1.step S2 R2) hk1 rfl)
  |true=>
   obtain⟨f3,en3,st3,e4,e1⟩:=d9 e3;clear e3
   refine hb (band wf).2 B D (X1.step S2 R2) hr e4 fun f s3 W3 S3 X3 hk3 r3=>?_
   have S13:=S12.bl (hk1▸S3)
   clear hb hr X1 S2 R2 e4 S3
   cases f3 with
   |bU=>
    rw[show f= .next from r3]
    exact⟨k,OY k,en3,st3,W3,e1,S13,X3,hk3.trans hk1⟩
   |ret v=>
    have z:=h.of e1 _ _ _ S13 X3 (hk3.trans hk1) r3
    clear h e1 hk1 X3 hk3
    obtain⟨c,rfl,_⟩:=r3
    exact z
theorem zz{op:Ry}{x y v:V}{c1 c2:MU}{Q:MU→MT→Prop}(e:tV op x y=some v)(r1:VR C W s.heap x c1)(r2:VR C W s.heap y c2)(fin:∀c t,VR C W s.heap v c→Q c { s with toks:=t }):
  wpAny (model C.prog C.w) A (inplaceOp op c1 c2) Q Ex s:=by
 cases op with
 |Add=>
  exact VR.dI e r1 r2 fun a b t u e=>PyProof.Rows.iadd_int (fin _ _ (M0 e▸⟨_,rfl⟩))
 |Sub=>
  exact VR.dI e r1 r2 fun a b t u e=>PyProof.Rows.isub_int (fin _ _ (M0 e▸⟨_,rfl⟩))
 |LShift=>
  refine VR.dI e r1 r2 fun a b t u e=>?_
  obtain⟨hc,e⟩:=dX e
  exact PyProof.Rows.ilshift_int hc.1 (by have:=i_ hc.2.2;clear fin e;lia) (fin _ _ (e▸⟨_,rfl⟩))
 |RShift=>
  refine VR.dI e r1 r2 fun a b t u e=>?_
  obtain⟨hc,e⟩:=dX e
  exact PyProof.Rows.irshift_int hc.1 (fin _ _ (e▸⟨_,rfl⟩))
 |_=>exact ns e
theorem Dk(ok:bF C)(oo:bD C O n){i:Nat}{op:Ry}{e:E}{q p:NW}:lN C O n df (.aug i op e q p):=by
 intro sc env en en' W st st' s A Ex Q fl wf B D X hr he h
 refine bc fun hN0=>?_
 obtain⟨x,e1,he'⟩:=af he;clear he
 obtain⟨y,st2,e2,he⟩:=az he';clear he'
 obtain⟨v,e3,he'⟩:=af he;clear he
 obtain⟨HC,st4,e4,he⟩:=az he';clear he'
 obtain⟨rfl,rfl,rfl⟩:=fh he
 refine hN0 ?_
 show wpAny _ _ (exec (.AugAssign (.Name (nm sc i) q) op (bw e sc) p) env) _ _ _
 rw[exec_AugAssign_Name]
 refine MV (N9 (MV (ef ok B X e1 fun c1 r1=>?_)))
 refine MV (OE ((cV ok oo e).val wf B X hr e2 fun c2 s2 W2 S2 R2 r2=>?_))
 refine MV (N9 (MV (wpAny_operateT (zz e3 (VR.step S2 r1) r2 fun c t rc=>?_))))
 have S3:Step C W2.ay W2 s2 W2 { s2 with toks:=t }:=(PS.tok s2 t).step
 refine MV (N9 (MV (wpAny_bindName (cT B ((X.step S2 R2).step S3 (R2.ps (PS.tok s2 t))) e4 rc fun s4 S4 X4 hk4=>Nb ?_))))
 exact h _ _ _ ((S2.after S3).ub.bl S4) X4 hk4 rfl
end
end Rk
end

section
set_option backward.match.sparseCases true
namespace Rk
open PySem PySem.W PySem.Calls PyProof.Rows PySem.SeqAt
section
variable {C:Cx} {O:cQ} {n:Nat} {W W' W'':Wt} {st st':ao} {h h':NX} {s s' s'':MT} {A:NF} {Ex:MU→MT→Prop} {sc so:Sc} {env:OZ} {en en':En} {df:Nat→Nat→NW→Bool}
theorem Dl{i:Nat}{v:V}(e:fC en st i v=some (en',st')):i<en.ρ.length:=by
 rcases mu e with⟨ov,h,_⟩|⟨k,h,_⟩<;>exact(MW.mp h).1
theorem Bp{i:Nat}(h:zw sc i=true):∃nmx,sc[i]? =some (.lc nmx):=by
 unfold zw at h
 cases e:sc[i]? with
 |none=>rw[e]at h;cases h
 |some x=>rw[e]at h;cases x<;>first|exact⟨_,rfl⟩|cases h
theorem rj(ok:bF C)(oo:bD C O n){i:Nat}{pi:NW}{e:E}{p:NW}{v:V}{st1:ao}{Q:P9→MT→Prop}(wf:fG C.bN e sc=true)(B:dF C sc env)(X:At C sc env en W st s)(hr:bL n A)(e1:ak O e .val en st=some (v,st1))(e2:fC en st1 i v=some (en',st'))
  (hs:swapsWith (bw e sc) (some (.Name (nm sc i) pi)) p.line env=pure false) (h:lj C sc env en en' W st' s (Q .next)):
  wpAny (model C.prog C.w) A (exec (.Assign [.Name (nm sc i) pi] (bw e sc) p) env) Q Ex s:=by
 refine PF ((cV ok oo e).val wf B X hr e1 fun c s1 W1 S1 R1 r1=>?_) hs
 exact cT B (X.step S1 R1) e2 r1 fun s2 S2 X2 hk2=>h _ _ (S1.ub.bl S2) X2 hk2
theorem uD(ok:bF C)(oo:bD C O n){i:Nat}{pi:NW}{e:E}{p:NW}:lN C O n df (.asg (.bM i pi) e p):=by
 intro sc env en en' W st st' s A Ex Q fl wf B D X hr he h
 obtain⟨v,st1,e1,he'⟩:=az he;clear he
 obtain⟨en2,st2,e2,he⟩:=az he';clear he'
 replace e2:fC en st1 i v=some (en2,st2):=e2
 have w1:=(band wf).1
 have h:=h.next he
 clear he
 cases hc:mH e with
 |false=>exact rj ok oo w1 B X hr e1 e2 (pq hc) h
 |true=>
  obtain⟨elt,g,gf,pe,rfl⟩:=wA hc
  ·have hsw:∃b:Bool,swapsWith (bw (.comp elt g gf pe) sc) (some (.Name (nm sc i) pi)) p.line env=pure b∧(b=true→(env.kindOf (nm sc i) == some .local)=true):=
    ⟨env.blockKind == .function&&env.kindOf (nm sc i) == some .local&&pi.line == (bw (.comp elt g gf pe) sc).pos.line&& !((Sc.scope gf).names.any fun x=>x.1 == nm sc i&&(x.2 == .local || x.2 == .cell)),rfl,fun hb=>(band (band (band hb).1).1).2⟩
   obtain⟨b,hs,hb⟩:=hsw
   cases b with
   |false=>exact rj ok oo w1 B X hr e1 e2 hs h
   |true=>
    obtain⟨nmx,hx⟩:=Bp ((xW B (X.fr.len▸Dl e2)).symm.trans (hb rfl))
    show wpAny _ _ (exec (.Assign [.Name (nm sc i) pi] (bw (.comp elt g gf pe) sc) p) env) _ _ _
    rw[exec_Assign_Name_used _ _ _ _ hs]
    refine MV (N9 ?_)
    show wpAny _ _ ((do let _←comprehension (bw (.comp elt g gf pe) sc) (Sc.scope gf) env (firstIterPos (n6 g sc gf) pe) (newList []) (firstAsync (n6 g sc gf)) (firstIter (n6 g sc gf) env) (some (assign (.Name (nm sc i) pi) env)):RE Unit)>>= fun _=>pure TX) _ _ _
    exact MV (MV (uB (cV ok oo elt).val (Bg ok oo g) w1 B X hr e1 hx e2 fun s2 W2 S2 X2 hk2=>Nb (Nb (h _ _ S2 X2 hk2))))
theorem uE(ok:bF C)(oo:bD C O n){l:List (Nat×NW)}{k:Nat}{q:NW}{e:E}{p:NW}:lN C O n df (.asg (.tup l k q) e p):=by
 intro sc env en en' W st st' s A Ex Q fl wf B D X hr he h
 obtain⟨v,st1,e1,he'⟩:=az he;clear he
 obtain⟨en2,st2,e2,he⟩:=az he';clear he'
 refine Assign_Tuple ((cV ok oo e).val (band wf).1 B X hr e1 fun c s1 W1 S1 R1 r1=>?_) Fx (zx (v9 (band wf).2))
 exact fm (t:=.tup l k q) hr.handled B (X.step S1 R1) e2 r1 fun s2 S2 X2 hk2=>h.next he _ _ (S1.ub.bl S2) X2 hk2
theorem uF:∀(l:List (Nat×NW)),(jE sc l).length=l.length
 |[]=>rfl
 |x::r=>by simp[sC,sD,uF r]
theorem uG:∀(l:Es),(b9 l sc).length=l.len
 |.nil=>rfl
 |.cons e r=>by show(b9 r sc).length+1=r.len+1;rw[uG r]
theorem zA(l:List (Nat×NW)):((jE sc l).head?.map (·.pos.line)).getD 0=jY l:=by cases l<;>rfl
theorem pB(B:dF C sc env)(ln:Nat)(f:PK→Option NT)(hf:∀id pos,f (.Name id pos)=if(env.kindOf id == some .local&&pos.line == ln)=true then some id else none):∀(l:List (Nat×NW)),(l.all fun x=>decide (x.1<sc.length))=true→
  (jE sc l).filterMap f=(l.filter (uC sc ln)).map fun x=>nm sc x.1
 |[],_=>rfl
 |x::r,hl=>by
  rw[Sf,Nu,decide_eq_true_eq]at hl
  have ih:=pB B ln f hf r hl.2
  simp only[sC,sD,Pe,hf]
  rw[xW B hl.1,Sq]
  unfold uC at ih ⊢
  cases hc:(zw sc x.1&&x.2.line == ln)with
  |true=>simp only[if_true,Nz];rw[ih]
  |false=>simp only[OG,if_false];rw[ih]
theorem noStar(f:PK→Bool)(hf:∀e:E,f (bw e sc)=false):∀(l:Es),(b9 l sc).any f=false
 |.nil=>rfl
 |.cons e r=>by
  show((bw e sc::b9 r sc).any _)=false
  rw[VQ,noStar f hf r,hf];rfl
theorem filter_all{α:Type}{p:α→Bool}:∀{l:List α},l.all p=true→l.filter p=l
 |[],_=>rfl
 |x::r,h=>by
  rw[Sf,Nu]at h
  rw[Sq,if_pos h.1,filter_all h.2]
theorem pD{α:Type}{p:α→Bool}:∀{l:List α},l.all p=false→(l.filter p).length≠l.length
 |[],h=>by simp at h
 |x::r,h=>by
  rw[Sq]
  cases hp:p x with
  |true=>
   rw[Sf,hp,P4]at h
   simp only[if_true,NS]
   have:=pD h
   lia
  |false=>
   simp only[OG,if_false,NS]
   have:=Th p r
   lia
theorem wB{ts vs:List PK}{k k2:Nat}{q q2:NW}:∃(f:PK→Bool) (g:PK→Option NT) (R:RE (Option (List NT))),(∀e:E,f (bw e sc)=false)∧(∀id pos,g (.Name id pos)=if(env.kindOf id == some .local&&pos.line == (ts.head?.map (·.pos.line)).getD 0)=true then some id else none)∧(vs.all (constantsAlone 8)=false→R=pure (some (ts.filterMap g)))∧
  swappedStores [.Tuple ts k q] (.Tuple vs k2 q2) env=if(!(ts.length == 2 || ts.length == 3) || vs.length != ts.length || env.blockKind != .function)=true then pure none else if vs.any f=true then pure none else if((ts.filterMap g).length != ts.length || (ts.filterMap g).eraseDups.length != (ts.filterMap g).length)=true then pure none else if vs.all (foldedForSure 8)=true then pure none else R:=
 ⟨_,_,_,fun e=>by cases e<;>rfl,fun _ _=>rfl,fun h=>by rw[h];rfl,rfl⟩
theorem wC(B:dF C sc env){sw:Bool}{l:List (Nat×NW)}{es:Es}{k k2:Nat}{q q2:NW}(hm:Et sw l es sc=true):
  swappedStores [.Tuple (jE sc l) k q] (.Tuple (b9 es sc) k2 q2) env=pure (if sw then some (l.map fun x=>nm sc x.1)else none):=by
 obtain⟨f,g,R,hf,hg,hR,e⟩:=wB (sc:=sc) (env:=env) (ts:=jE sc l) (vs:=b9 es sc) (k:=k) (k2:=k2) (q:=q) (q2:=q2)
 obtain⟨h,hm⟩:=band hm
 obtain⟨hlen,hlt⟩:=band h
 have hlen:=eq_of_beq hlen
 have hbk:env.blockKind= .function:=by unfold VO;rw[B.kind];rfl
 rw[zA]at hg
 rw[pB B (jY l) g hg l hlt]at hR e
 rw[e,uF,uG,hbk,noStar f hf es,hlen,bne_self_eq_false,VM,if_neg Ov]
 clear e hf hg h
 cases sw with
 |true=>
  obtain⟨hm,h5⟩:=band hm
  obtain⟨hm,h4⟩:=band hm
  obtain⟨hm,h3⟩:=band hm
  obtain⟨h1,h2⟩:=band hm
  rw[filter_all h2]at hR ⊢
  rw[h1,Nq,eq_of_beq h3,bne_self_eq_false,Eq.mp (Qf _) h4,hR (Eq.mp (Qf _) h5)]
  show(if(l.length != l.length || l.length != l.length)=true then _ else _)=_
  rw[bne_self_eq_false]
  rfl
 |false=>
  cases h1:(l.length == 2 || l.length == 3)with
  |false=>rfl
  |true=>
   rcases(Vo _ _).mp hm with hm|hm
   ·rw[h1]at hm;cases hm
   ·rw[show(((l.filter (uC sc (jY l))).map fun x=>nm sc x.1).length != l.length)=true by rw[Nq];exact bne_iff_ne.mpr (pD (Eq.mp (Qf _) hm))]
    rfl
theorem Dm(ok:bF C)(oo:bD C O n){sw:Bool}{l:List (Nat×NW)}{k:Nat}{q:NW}{es:Es}{k2:Nat}{q2 p:NW}:lN C O n df (.tP sw l k q es k2 q2 p):=by
 intro sc env en en' W st st' s A Ex Q fl wf B D X hr he h
 obtain⟨vs,st1,e1,he'⟩:=az he;clear he
 obtain⟨en2,st2,e2,he⟩:=az he';clear he'
 obtain⟨rfl,rfl,rfl⟩:=fh he
 have hsw:=wC (k:=k) (k2:=k2) (q:=q) (q2:=q2) B (band wf).2
 have etup:ak O (.tup es k2 q2) .val en st=some (.tup vs,st1):=aA e1 rfl
 have wft:fG C.bN (.tup es k2 q2) sc=true:=(band wf).1
 cases sw with
 |false=>
  refine Assign_Tuple ((cV ok oo (.tup es k2 q2)).val wft B X hr etup fun c s1 W1 S1 R1 r1=>?_) rfl hsw
  exact fm (t:=.tup l k q) hr.handled B (X.step S1 R1) (show gU (.tup l k q) (.tup vs) en st1=some (en2,st2)from e2) r1 fun s2 S2 X2 hk2=>h _ _ _ (S1.ub.bl S2) X2 hk2 rfl
 |true=>
  refine Assign_Tuple_swapped ((cV ok oo (.tup es k2 q2)).val wft B X hr etup fun c s1 W1 S1 R1 r1=>?_) rfl hsw
  obtain⟨a,cs,rfl,hf,ht,hv,hl⟩:=r1
  have hl2:(l.map fun x=>nm sc x.1).length=cs.size:=by
   have:=lJ e2
   rw[N4,N4]at this
   rw[Nq,this,←hv.length];rfl
  rw[hl2]
  refine wpAny_unpackItems_tuple hr.handled ht fun h2 he2=>?_
  have P:PS s1 { s1 with heap:=h2 }:=⟨fun b o eb=>he2 b o (OA (Od eb)) eb,rfl,rfl⟩
  have S2:Step C W1.ay W1 s1 W1 { s1 with heap:=h2 }:=P.step
  rw[show((l.map fun x=>nm sc x.1).reverse.map fun n=>bindName env n)=l.reverse.map fun x=>bindName env (nm sc x.1) by rw[←U9,Oa];rfl]
  refine eA B (fun x=>bindName env (nm sc x.1)) (fun x v Q s hq=>wpAny_bindName hq) l.reverse vs.reverse cs.toList.reverse en st1 _ _ ((X.step S1 R1).step S2 (R1.ps P)) e2 (aY.reverse (aY.step S2 hv)) fun s3 S3 X3 hk3=>?_
  exact h _ _ _ ((S1.after S2).ub.bl S3) X3 hk3 rfl
theorem qE{l:Na}{items:Array MU}{k:Int}{j:Nat}{t:Vt}{v:MU}{Q:Unit→MT→Prop}(hl:s.heap.PlainList l items)(hk:k=j)(hj:j<items.size)(hfit:k<2^63)
  (hQ:∀h',h'.PlainList l (items.setIfInBounds j v)→Pf l s.heap h'→Q () { s with heap:=h' }):
  wpAny (model C.prog C.w) A (setItem (.ref l) (.int k t) v) Q Ex s:=by
 obtain⟨ne,ho⟩:=id hl
 have hT:=hl.isList.typeIs
 obtain⟨up,same⟩:=je ho (fun a=>a.setIfInBounds j v)
 unfold setItem
 try with_reducible refine OE ?_
 first|refine MV (Nb ?_)|skip
 refine MV (wpAny_sequenceKey hT (by decide) ?_)
 refine MV (O6 (name:=QF "__setitem__") hT UP
  (PN UP hT entry_list_setitem ?_ (args_list_setitem _ _ _)))
 show wpAny _ _ (Builtin.List.listSubscript? (.int k t)>>= _) _ _ s
 refine MV (wpAny_listSubscript_int (fitsIndex_of (hk▸Nx j) hfit) ?_)
 clear hfit
 subst hk
 show wpAny _ _ ((seqItemAt l j>>= fun r=>pure (r.map (j,·)))>>= _) _ _ s
 refine MV (MV (wpAny_seqItemAt ho rfl (Nb ?_)))
 rw[show items[j]? =some items[j]from RO hj]
 show wpAny _ _ (setSeqItemAt l j v>>= _) _ _ s
 refine MV (wpAny_setSeqItemAt ho rfl ?_)
 first
  |exact MV (Nb (Nb ⟨.none,rfl,Nb (hQ _ up same)⟩))
  |exact Nb ⟨.none,rfl,Nb (hQ _ up same)⟩
theorem wD(a:Array MU)(j:Nat)(v:MU):(a.setIfInBounds j v).toList=a.toList.set j v:=by
 rw[Array.toList_setIfInBounds]
theorem zB{j kn:Nat}{l:List V}{v:V}{c1 c2:MU}{t:Vt}{Q:Unit→MT→Prop}(R:au C W st s)(hl:st.σ[j]? =some l)(r2:VR C W s.heap (.ref j) c2)(rv:VR C W s.heap v c1)(hd:v.data=true)(hk:kn<l.length)
  (h:∀s',Step C W.ay W s W s'→au C W { st with σ:=st.σ.set j (l.set kn v) } s'→Q () s'):wpAny (model C.prog C.w) A (setItem c2 (.int (kn:Int) t) c1) Q Ex s:=by
 obtain⟨ad,cs,n0,rfl,ha,ho,hlen,rs,h3,h4⟩:=VR.xO R hl r2
 refine qE ⟨n0,ho⟩ rfl (hlen▸hk) (Int.lt_of_lt_of_le (Qq.mpr (Nm hk h3)) (by decide)) fun h' hL' hs'=>?_
 obtain⟨S4,R4⟩:=au.sI (t:=s.toks) (l':=l.set kn v) R ha hs' hL' (by rw[wD];exact aY.set kn rs rv) (by rw[List.length_set];exact h3) (bG.mpr fun u hu=>by
  clear hl r2 hk h ha ho hlen h3 h' hL' hs'
  rcases List.mem_or_eq_of_mem_set hu with hu|rfl
  ·exact bG.mp h4 u hu
  ·exact hd)
 exact h _ S4 R4
theorem Dn(ok:bF C)(oo:bD C O n){a i e:E}{q p:NW}:lN C O n df (.sub a i e q p):=by
 intro sc env en en' W st st' s A Ex Q fl wf B D X hr he h
 refine bc fun hN0=>?_
 obtain⟨v,st1,e1,he'⟩:=az he;clear he
 obtain⟨x,st2,e2,he⟩:=az he';clear he'
 obtain⟨y,st3,e3,he'⟩:=az he;clear he
 obtain⟨⟨j,l⟩,hx,he⟩:=af he';clear he'
 obtain⟨k,hy,he'⟩:=af he;clear he
 obtain⟨hc,he⟩:=dX he';clear he'
 have h:=h.next (congrArg some he)
 clear he
 obtain⟨rfl,hl⟩:=fW hx
 obtain⟨kn,rfl⟩:=Int.eq_ofNat_of_zero_le hc.2.1
 obtain⟨wf,w3⟩:=band wf
 refine hN0 ?_
 refine wpAny_Assign_Subscript ((cV ok oo e).val w3 B X hr e1 fun c1 s1 W1 S1 R1 r1=>?_) Iw
 refine(cV ok oo a).val (band wf).1 B (X.step S1 R1) hr e2 fun c2 s2 W2 S2 R2 r2=>?_
 refine(cV ok oo i).val (band wf).2 B (X.step (S1.after S2) R2) hr e3 fun c3 s3 W3 S3 R3 r3=>?_
 have S13:=(S1.after S2).after S3
 refine r3.iD (bO hy) fun t=>?_
 exact zB R3 hl (VR.step S3 r2) (VR.step S3 (VR.step S2 r1)) hc.1 (Qq.mp hc.2.2) fun s4 S4 R4=>h _ _ ((S13.after S4).ub) ((X.step S13 R3).step S4 R4) rfl
inductive qu (nx:ao→Nat→Option V) (t:T) (body:En→ao→Option (Fl×En×ao)) (out:Fl×En×ao):Nat→Nat→En→ao→Prop
 |done {j en st}:nx st j=none→out=(.bU,en,st)→qu nx t body out 0 j en st
 |step {n j v en st bV st1 en2 st2}:nx st j=some v→gU t v en st=some (bV,st1)→body bV st1=some (.bU,en2,st2)→qu nx t body out n (j+1) en2 st2→qu nx t body out (n+1) j en st
 |ret {j v en st bV st1 en2 st2 w}:nx st j=some v→gU t v en st=some (bV,st1)→body bV st1=some (.ret w,en2,st2)→out=(.ret w,en2,st2)→qu nx t body out 0 j en st
theorem qu.Dd{t:T}{body:En→ao→Option (Fl×En×ao)}{out:Fl×En×ao}{nx:ao→Nat→Option V}:∀(l:List V) (full:List V) (j:Nat) (en:En) (st:ao),l=full.drop j→(∀st i,nx st i=full[i]?)→fk t body l en st=some out→
  ∃n,qu nx t body out n j en st
 |[],full,j,en,st,hl,hx,e=>⟨0,.done (by rw[hx];exact NR.mpr (PE.mp hl.symm)) (M0 e).symm⟩
 |v::l,full,j,en,st,hl,hx,e=>by
  have hv:full[j]? =some v:=by rw[←Rm,←hl];rfl
  have ht:l=full.drop (j+1):=by rw[←RB,←hl];rfl
  obtain⟨bV,st1,e1,e'⟩:=az e;clear e
  obtain⟨f,en2,st2,e2,e⟩:=d9 e';clear e'
  rw[←hx st]at hv
  cases f with
  |bU=>
   obtain⟨n,hn⟩:=qu.Dd l full (j+1) en2 st2 ht hx e
   exact⟨n+1,.step hv e1 e2 hn⟩
  |ret w=>exact⟨0,.ret hv e1 e2 (M0 e).symm⟩
theorem qu.Iu{i:Nat}{t:T}{body:En→ao→Option (Fl×En×ao)}{out:Fl×En×ao}:∀(k j:Nat) (en:En) (st:ao),forR i t body k j en st=some out→ ∃n,qu (vW (.ref i)) t body out n j en st
 |0,_,_,_,e=>by cases e
 |k+1,j,en,st,e=>by
  obtain⟨l,hl,e'⟩:=af e;clear e
  have nx:vW (.ref i) st j=l[j]? :=by show Vi _ _=_;rw[hl];rfl
  cases hj:l[j]? with
  |none=>rw[hj]at e' nx;exact⟨0,.done nx (M0 e').symm⟩
  |some v=>
   rw[hj]at e' nx
   obtain⟨bV,st1,e1,e⟩:=az e';clear e'
   obtain⟨f,en2,st2,e2,e'⟩:=d9 e;clear e
   cases f with
   |bU=>
    obtain⟨n,hn⟩:=qu.Iu k (j+1) en2 st2 e'
    exact⟨n+1,.step nx e1 e2 hn⟩
   |ret w=>exact⟨0,.ret nx e1 e2 (M0 e').symm⟩
end
end Rk
end

section
namespace Rk
open PySem PySem.W PySem.Calls PyProof.Rows PySem.SeqAt
section
variable {C:Cx} {O:cQ} {n:Nat} {W W' W'':Wt} {st st':ao} {h h':NX} {s s' s'':MT} {A:NF} {Ex:MU→MT→Prop} {sc so:Sc} {env:OZ} {en en':En} {df:Nat→Nat→NW→Bool}
theorem qu.of{src:V}{t:T}{body:En→ao→Option (Fl×En×ao)}{out:Fl×En×ao}{en:En}{st:ao}(e:E3 t body src en st=some out):(∃n,qu (vW src) t body out n 0 en st)∧xP st src:=by
 cases src with
 |ref i=>
  refine⟨qu.Iu iB 0 en st e,?_⟩
  obtain⟨l,hl,_⟩:=af (show forR i t body (99+1) 0 en st=some out from e)
  exact⟨l,hl⟩
 |lst l=>exact⟨qu.Dd l l 0 en st rfl (iG rfl fun _ h=>by cases h) e,⟨l,rfl⟩⟩
 |tup l=>exact⟨qu.Dd l l 0 en st rfl (iG rfl fun _ h=>by cases h) e,⟨l,rfl⟩⟩
 |str l=>exact⟨qu.Dd _ _ 0 en st rfl (iG rfl fun _ h=>by cases h) e,⟨_,rfl⟩⟩
 |_=>cases e
noncomputable def Ms(nx:ao→Nat→Option V)(t:T)(body:En→ao→Option (Fl×En×ao))(out:Fl×En×ao)(k j:Nat)(en:En)(st:ao):Fl→Prop
 |.bU=>∃m,m<k∧qu nx t body out m (j+1) en st
 |.ret w=>out=(.ret w,en,st)
inductive Mu (nx:ao→Nat→Option V) (t:T) (body:En→ao→Option (Fl×En×ao)) (out:Fl×En×ao) (k j:Nat) (en:En) (st:ao):Prop
 |done (h1:nx st j=none) (h2:out=(.bU,en,st))
 |turn (v:V) (bV:En) (st1:ao) (f:Fl) (en2:En) (st2:ao) (h1:nx st j=some v) (h2:gU t v en st=some (bV,st1)) (h3:body bV st1=some (f,en2,st2)) (h4:Ms nx t body out k j en2 st2 f)
theorem qu.inv{nx:ao→Nat→Option V}{t:T}{body:En→ao→Option (Fl×En×ao)}{out:Fl×En×ao}{k j:Nat}{en:En}{st:ao}(h:qu nx t body out k j en st):Mu nx t body out k j en st:=by
 cases h with
 |done h1 h2=>exact .done h1 h2
 |step h1 h2 h3 h4=>exact .turn _ _ _ .bU _ _ h1 h2 h3 ⟨_,OY _,h4⟩
 |ret h1 h2 h3 h4=>exact .turn _ _ _ (.ret _) _ _ h1 h2 h3 h4
noncomputable def Iz(Q:P9→MT→Prop)(again:MT→Prop)(f:P9)(s:MT):Prop:=match f with
 |.next|.cont=>again s
 |.brk=>Q .next s
 |.ret v=>Q (.ret v) s
theorem At.ext{X1:List Na}(X:At C sc env en W st s)(R:au C { W with X:=X1 } st s')(x:Ext C W s.heap { W with X:=X1 } s'.heap)(hL:env.locals∈X1)(hk:∀o,s.heap.get? env.locals=some o→s'.heap.get? env.locals=some o):
  At C sc env en { W with X:=X1 } st s':=⟨R,X.fr.ext x hL hk⟩
inductive Bq (C:Cx) (sc:Sc) (env:OZ) (W0:Wt) (s0:MT) (xs:List V) (cs:List MU) (fz:List (Na×Ug)) (St:Nat→List Na→MT→Prop) (kb:Nat) (LP:Nat→En→ao→Prop) (s:MT):Prop
 |mk (j:Nat) (en:En) (st:ao) (W:Wt) (wr:List Na) (lp:LP j en st) (pi:jW C (Ub W0 kb env.locals) W0 s0 xs cs fz St j wr W s) (X:At C sc env en W st s) (hk:en.kb=kb):Bq C sc env W0 s0 xs cs fz St kb LP s
section
variable {W0:Wt} {s0:MT} {xs:List V} {cs:List MU} {fz:List (Na×Ug)} {St:Nat→List Na→MT→Prop} {j:Nat} {wr:List Na} {gw:List Nat} {Ia:Na} {nx:ao→Nat→Option V}
theorem Br{t:T}{b:Ss}(hb:BodyOk C O n df b sc)(B:dF C sc env)(D:iH C O sc env df)(hr:bL n A)(it:It C A (toT sc t) Ia xs cs fz nx gw St)(hgw:∀g∈gw,s0.gens.size≤g)(hL:env.locals∈W0.X)
  (pi:jW C (Ub W0 en.kb env.locals) W0 s0 xs cs fz St j wr W s) (X:At C sc env en W st s) {v:V} {bV en2:En} {st1 st2:ao} {f:Fl} {KK:P9→MT→Prop} (hnx:nx st j=some v) (hset:gU t v en st=some (bV,st1)) (hbody:aE O C.P.N b bV st1=some (f,en2,st2))
  (hKK:∀f5 s5 W5 wr5,jW C (Ub W0 en.kb env.locals) W0 s0 xs cs fz St (j+1) wr5 W5 s5→At C sc env en2 W5 st2 s5→en2.kb=en.kb→Fw C W5 s5.heap f f5→KK f5 s5):
  wpAny (model C.prog C.w) A (pyNext (.ref Ia)) (fun r s₁=>∃c,r=some c∧wpAny (model C.prog C.w) A (letOwnedTupleGo (toT sc t) (.ref Ia) c) (fun _ s₁'=>wpAny (model C.prog C.w) A (assign (toT sc t) env c) (fun _ s₂=>wpAny (model C.prog C.w) A (execs (dH C.P.N b sc) env) KK Ex s₂) Ex s₁') Ex s₁) Ex s:=by
 refine it.item j v s W st wr _ _ hnx pi.st pi.Eo X.r pi.held fun c s4 new hnd4 hnew K hst4 r4=>?_
 obtain⟨R4,x4,pi4⟩:=pi.item it X.r K hgw hnd4 hnew hst4
 have X4:=X.ext R4 x4 (MZ _ (pi.De hL)) fun o e=>K.keep _ _ e (pi.out X.r hL)
 refine fm hr.handled B X4 hset r4 fun s5 S5 X5 hkb5=>?_
 refine hb B D X5 hr hbody fun f6 s6 W6 S6 X6 hkb6 r6=>?_
 exact hKK f6 s6 W6 _ (pi4.Ft it X4 hL (S5.bl (hkb5▸S6))) X6 (hkb6.trans hkb5) r6
theorem jW.leave{kb:Nat}{f:Fl}{f5:P9}(pi:jW C (Ub W0 kb env.locals) W0 s0 xs cs fz St j wr W s)(X:At C sc env en W st s)(hL:env.locals∈W0.X)(r:Fw C W s.heap f f5):At C sc env en { W with X:=W0.X } st s∧Fw C { W with X:=W0.X } s.heap f f5:=by
 obtain⟨R6,fr6⟩:=X.r.Df (X':=W0.X) (fun a ha=>pi.De ha) (M6.mp (pi.nodup X.r)).2.1
 have x6:Ext C W s.heap { W with X:=W0.X } s.heap:=⟨⟨[],(Nc _).symm⟩,⟨[],(Nc _).symm⟩,fun a o f e=>⟨fr6 a f,e⟩⟩
 exact⟨X.ext R6 x6 hL fun o e=>e,r.step x6⟩
end
theorem xX(ok:bF C)(oo:bD C O n){t:T}{e:E}{b:Ss}{p:NW}{Q:P9→MT→Prop}{fl:Fl}(hb:BodyOk C O n df b sc)(wf:(fG C.bN e sc&&AL sc t e)=true)(B:dF C sc env)(D:iH C O sc env df)(X:At C sc env en W st s)(hr:bL n A)
  (he:aX O C.P.N (.gB t e b p) en st=some (fl,en',st')) (h:jZ C sc env en en' W st' s fl Q):wpAny (model C.prog C.w) A (exec (toS C.P.N (.gB t e b p) sc) env) Q Ex s:=by
 obtain⟨src,st1,e1,he'⟩:=az he;clear he
 obtain⟨⟨k,lp⟩,hsrc⟩:=qu.of he'
 show wpAny _ _ (exec (.For (toT sc t) (bw e sc) (dH C.P.N b sc) [] p) env) _ _ _
 rw[exec_For]
 refine MV (N9 (MV (Og ((cV ok oo e).iter (t:=t) (sc':=sc) (Q:=fun itv s'=>wpAny (model C.prog C.w) A (runOwn (.forLoop (toT sc t) itv (dH C.P.N b sc) [] env) env) Q Ex s') (Ex:=Ex) (band wf).1 (band wf).2 B X hr e1 hsrc ?_) (fun x s' hx=>?_) fun _ _ e=>e)))
 ·intro Ia s1 s2 W1 xs cs fz wr gw St S1 R1 P hnd hw hgw H it hst
  obtain⟨R2,x2,pi⟩:=jW.start (U:=Ub W en.kb env.locals) S1 (fun a ha=>M7 _ ha) R1 P hnd hw H hst
  have X1:=X.step S1 R1
  have X2:At C sc env en { W1 with X:=wr++W1.X } st1 s2:=X1.ext R2 x2 (MZ _ X1.fr.loc) fun o e=>P.keep _ o e
  have hgw':∀g∈gw,s.gens.size≤g:=fun g hg=>M8 S1.xV (hgw g hg)
  refine wpAny_runOwn (codeAny_forLoop_any (fun k' s'=>Bq C sc env W s xs cs fz St en.kb (qu (vW src) t (fun en st=>aE O C.P.N b en st) (fl,en',st') k') s') ?_ k ⟨0,en,st1,_,wr,lp,pi,X2,rfl⟩)
  rintro k' s3 ⟨j,bV,st3,W3,wr3,lp3,pi3,X3,hkb3⟩
  rw[←hkb3]at pi3
  rcases lp3.inv with⟨hnx,hout⟩|⟨v,HC,st4,f,en5,st5,hnx,hset,hbody,h4⟩
  ·refine it.done j s3 W3 _ wr3 _ _ hnx pi3.st pi3.Eo X3.r pi3.held fun s4 K=>?_
   obtain⟨R4,x4,S4⟩:=pi3.drop X3.r K hgw'
   show wpAny _ _ (execs [] env) _ _ _
   exact Nb (h.of (congrArg some hout.symm) _ _ _ (hkb3▸S4) (X3.ext R4 x4 X.fr.loc fun o e=>K.keep _ _ e (pi3.out X3.r X.fr.loc)) hkb3 rfl)
  ·refine Og (Br (KK:=Iz Q fun s₃=>∃m,m<k'∧Bq C sc env W s xs cs fz St en.kb (qu (vW src) t (fun en st=>aE O C.P.N b en st) (fl,en',st') m) s₃) hb B D hr it hgw' X.fr.loc pi3 X3 hnx hset hbody fun f5 s5 W5 wr5 pi5 X5 hkb5 r5=>?_) (fun r s4 hr4=>?_) fun _ _ e=>e
   ·cases f with
    |bU=>
     obtain⟨m,hm,lp5⟩:=h4
     rw[show f5= .next from r5]
     exact⟨m,hm,j+1,en5,st5,W5,wr5,lp5,hkb3▸pi5,X5,hkb5.trans hkb3⟩
    |ret w=>
     obtain⟨z2,z3⟩:=pi5.leave X5 X.fr.loc r5
     have z4:=h.of (congrArg some (Eq.symm h4)) _ _ _ (hkb3▸pi5.S) z2 (hkb5.trans hkb3) z3
     obtain⟨c,rfl,_⟩:=r5
     exact z4
   ·obtain⟨c,rfl,h4⟩:=hr4
    exact h4
 ·rw[jg]
  refine MV (Nb (MV (N9 ?_)))
  exact MV (OE hx)
theorem Dp(ok:bF C)(oo:bD C O n){t:T}{e:E}{b:Ss}{p:NW}(hb:nP C O n df b):lN C O n df (.gB t e b p):=by
 intro sc env en en' W st st' s A Ex Q fl wf B D X hr he h
 exact xX ok oo (fun B D X hr e h=>hb (band wf).2 B D X hr e h) (band wf).1 B D X hr he h
mutual
theorem Fy(ok:bF C)(oo:bD C O n):∀x:S,lN C O n df x
 |.raw _=>Dh
 |.expr _ _=>Bj ok oo
 |.asg (.bM _ _) _ _=>uD ok oo
 |.asg (.tup _ _ _) _ _=>uE ok oo
 |.tP _ _ _ _ _ _ _ _=>Dm ok oo
 |.sub _ _ _ _ _=>Dn ok oo
 |.aug _ _ _ _ _=>Dk ok oo
 |.ite _ a b _=>Di ok oo (rm ok oo a) (rm ok oo b)
 |.yN _ b _=>Dj ok oo (rm ok oo b)
 |.gB _ _ b _=>Dp ok oo (rm ok oo b)
 |.ret _ _=>Dg ok oo
 |.qw _=>Bk
 |.defn _ _ _=>Bm
theorem rm(ok:bF C)(oo:bD C O n):∀x:Ss,nP C O n df x
 |.nil=>Bo
 |.cons s r=>zy (Fy ok oo s) (rm ok oo r)
end
end
end Rk
end

section
namespace Rk
open PySem PySem.W PySem.Calls PyProof.Rows PySem.SeqAt
noncomputable def owns:Sc→List (Option V)→List (Option V)
 |[],_=>[]
 |.ce _::r,a=>a.headD none::owns r a.tail
 |_::r,a=>owns r a.tail
theorem kN:∀(sc:Sc) (a:List (Option V)) (f:List Nat) (κ:List (Option V)),(aV sc a f κ).2=κ++owns sc a
 |[],_,_,κ=>(Nc κ).symm
 |.lc _::r,a,f,κ=>kN r a.tail f κ
 |.ce _::r,a,f,κ=>(kN r a.tail f (κ++[a.headD none])).trans (M_ ..)
 |.fe _ _::r,a,f,κ=>kN r a.tail f.tail κ
 |.gl _::r,a,f,κ=>kN r a.tail f κ
theorem mJ:∀(sc:Sc) (a:List (Option V)) (f:List Nat) (κ κ':List (Option V)),κ.length=κ'.length→(aV sc a f κ).1=(aV sc a f κ').1
 |[],_,_,_,_,_=>rfl
 |.lc _::r,a,f,κ,κ',h=>congrArg (_:: ·) (mJ r _ _ κ κ' h)
 |.ce _::r,a,f,κ,κ',h=>by
  show SV.fB κ.length::_=SV.fB κ'.length::_
  rw[mJ r _ _ (κ++[a.headD none]) (κ'++[a.headD none]) (by rw[Ng,Ng,h]),h]
 |.fe _ _::r,a,f,κ,κ',h=>congrArg (_:: ·) (mJ r _ _ κ κ' h)
 |.gl _::r,a,f,κ,κ',h=>congrArg (_:: ·) (mJ r _ _ κ κ' h)
noncomputable def j0:SE→Bool
 |.lc _=>true
 |.ce _=>true
 |_=>false
inductive IA (ρ ρ':List SV) (o o':List (Option V)) (j kl:Nat) (v:Option V):Prop
 |lc (h1:ρ[j]? =some (.loc none)) (h2:ρ'=ρ.set j (.loc v)) (h3:o'=o)
 |ce (k:Nat) (h1:ρ[j]? =some (.fB (kl+k))) (h2:k<o.length) (h3:ρ'=ρ) (h4:o'=o.set k v)
theorem IA.cons{ρ ρ':List SV}{o o':List (Option V)}{j kl:Nat}{v:Option V}(w:SV)(h:IA ρ ρ' o o' j kl v):IA (w::ρ) (w::ρ') o o' (j+1) kl v:=by
 cases h with
 |lc h1 h2 h3=>exact .lc h1 (congrArg (w:: ·) h2) h3
 |ce k h1 h2 h3 h4=>exact .ce k h1 h2 (congrArg (w:: ·) h3) h4
theorem iI:∀(sc:Sc) (a:List (Option V)) (v:Option V) (f:List Nat) (κ:List (Option V)) (x:SE),sc[a.length]? =some x→j0 x=true→
  IA (aV sc a f κ).1 (aV sc (a++[v]) f κ).1 (owns sc a) (owns sc (a++[v])) a.length κ.length v
 |[],a,_,_,_,x,h,_=>nomatch h
 |y::r,[],v,f,κ,x,h,hp=>by
  rw[show x=y from(M0 h).symm]at hp
  cases y with
  |lc n=>exact .lc rfl rfl rfl
  |ce n=>exact .ce 0 rfl (OP _) (congrArg (_:: ·) (mJ r [] f (κ++[v]) (κ++[none]) (by rw[Ng,Ng];rfl))) rfl
  |_=>exact nomatch hp
 |y::r,b::a,v,f,κ,x,h,hp=>by
  cases y with
  |ce n=>
   refine IA.rec (motive:=fun _=>_) (fun h1 h2 h3=>?_) (fun k h1 h2 h3 h4=>?_) (iI r a v f (κ++[b]) x h hp)
   ·exact .lc h1 (congrArg (_:: ·) h2) (congrArg (b:: ·) h3)
   ·exact .ce (k+1) (h1.trans (by rw[Ng,P6,N6 k 1];rfl)) (Q5 h2) (congrArg (_:: ·) h3) (congrArg (b:: ·) h4)
  |lc n=>exact(iI r a v f κ x h hp).cons _
  |fe n o=>exact(iI r a v f.tail κ x h hp).cons _
  |gl k0=>exact(iI r a v f κ x h hp).cons _
theorem zC{sc:Sc}{a:List (Option V)}{v:V}{f:List Nat}{κ:List (Option V)}{σ:List (List V)}{x:SE}(h:sc[a.length]? =some x)(hp:j0 x=true):
  fC ⟨(aV sc a f κ).1,κ.length⟩ { κ:=(aV sc a f κ).2,σ:=σ } a.length v=some (⟨(aV sc (a++[some v]) f κ).1,κ.length⟩,{ κ:=(aV sc (a++[some v]) f κ).2,σ:=σ }):=by
 rcases iI sc a (some v) f κ x h hp with⟨h1,h2,h3⟩|⟨k,h1,h2,h3,h4⟩
 ·simp only[fC,h1,h2,kN,h3]
 ·simp only[fC,h1,h3,kN,h4]
  rw[if_pos ⟨N_ _ _,by simp;exact h2⟩]
  rw[N7 _ _ (N_ _ _),NZ]
noncomputable def iq:Sc→List MU→List (NT×MU)
 |x::r,c::cs=>(x.name,c)::iq r cs
 |_,_=>[]
section
variable {C:Cx} {O:cQ} {n:Nat} {W W' W'':Wt} {st st':ao} {h h':NX} {s s' s'':MT} {A:NF} {Ex:MU→MT→Prop} {sc so:Sc} {env:OZ} {en en':En} {df:Nat→Nat→NW→Bool}
theorem nQ(B:dF C sc env){f:List Nat}{κ:List (Option V)}{σ:List (List V)}:∀(r:Sc) (vs:List V) (cs:List MU) (a:List (Option V)) {s:MT} {Q:PUnit→MT→Prop},
  (∀i x,r[i]? =some x→sc[a.length+i]? =some x)→(∀i,i<vs.length→ ∃x,r[i]? =some x∧j0 x=true)→
  At C sc env ⟨(aV sc a f κ).1,κ.length⟩ W { κ:=(aV sc a f κ).2,σ:=σ } s→aY C W s.heap vs cs→
  (∀s',Step C (Ub W κ.length env.locals) W s W s'→At C sc env ⟨(aV sc (a++vs.map some) f κ).1,κ.length⟩ W { κ:=(aV sc (a++vs.map some) f κ).2,σ:=σ } s'→Q RG s')→
  wpAny (model C.prog C.w) A (forIn (iq r cs) RG fun x _=>do storeName env x.1 x.2;pure (OF RG)) Q Ex s
 |r,[],cs,a,s,Q,hr,hv,X,rs,hQ=>by
  have rs:cs=[]:=rs
  subst rs
  have:iq r []=[]:=by cases r<;>rfl
  rw[this]
  simp only[PY,Nc]at hQ
  exact Nb (hQ s .refl X)
 |[],v::vs,cs,a,s,Q,hr,hv,X,rs,hQ=>by
  obtain⟨x,hx,_⟩:=hv 0 (OP _)
  exact nomatch hx
 |y::r,v::vs,cs,a,s,Q,hr,hv,X,rs,hQ=>by
  obtain⟨c,cr,rfl,r1,r2⟩:=rs
  obtain⟨x,hx,hp⟩:=hv 0 (OP _)
  have hx:=M0 hx
  subst hx
  have hy:=hr 0 y rfl
  rw[QT]at hy
  have e:=zC (v:=v) (f:=f) (κ:=κ) (σ:=σ) hy hp
  have ih:=fun{s1:MT} {Q1:PUnit→MT→Prop} (X1:At C sc env ⟨(aV sc (a++[some v]) f κ).1,κ.length⟩ W { κ:=(aV sc (a++[some v]) f κ).2,σ:=σ } s1) (rs1:aY C W s1.heap vs cr) h1=>
   nQ B (f:=f) (κ:=κ) (σ:=σ) r vs cr (a++[some v]) (s:=s1) (Q:=Q1) (fun i x hi=>by
    have:=hr (i+1) x hi
    rw[Ng,QZ,P6,N6 1 i];exact this)
    (fun i hi=>hv (i+1) (Q5 hi)) X1 rs1 h1
  show wpAny _ _ (forIn ((y.name,c)::iq r cr) RG _) _ _ _
  rw[P1]
  have hnm:y.name=nm sc a.length:=(lg hy).symm
  refine MV (MV ?_)
  show wpAny _ _ (storeName env y.name c) _ _ _
  rw[hnm]
  refine cT B X e r1 fun s1 S1 X1 _=>Nb ?_
  refine ih X1 (aY.ext (S1.ext (jR X.fr)) r2) fun s2 S2 X2=>?_
  rw[M_]at X2
  exact hQ s2 (S1.bl S2) X2
mutual
theorem VR.IB{m:Nat}{stb:ao}(R:au C W stb s)(hm:W'.ay=W.ay.take m)(hfr:∀a,fD C W a→fD C W' a)(hnew:∀i a,m≤i→W.ay[i]? =some a→fD C W' a):
  ∀{v:V} {c:MU},oK v=true→VR C W s.heap v c→VR C W' s.heap (freeze m stb v) c
 |.none,_,_,r=>r
 |.bool _,_,_,r=>r
 |.int _,_,_,r=>r
 |.str _,_,_,r=>r
 |.tup l,c,ho,r=>by
  obtain⟨a,cs,rfl,f,t,hv,hl⟩:=r
  exact SeqAt.mk a cs rfl (hfr a f) t (aY.IB R hm hfr hnew ho hv) (by rw[nR];exact hl)
 |.lst l,c,ho,r=>by
  obtain⟨a,cs,rfl,f,t,hv,hl⟩:=r
  exact SeqAt.mk a cs rfl (hfr a f) t (aY.dat ho hfr hv) hl
 |.ref i,c,ho,r=>by
  rw[bP]
  obtain⟨a,ha,rfl⟩:=r
  split
  ·rename_i hi
   refine⟨a,?_,rfl⟩
   rw[hm,PJ hi];exact ha
  ·rename_i hi
   obtain⟨l,hl⟩:∃l,stb.σ[i]? =some l:=⟨_,M3 (R.r.jC▸(MW.mp ha).1)⟩
   rw[hl]
   obtain⟨cs,h1,h2,h3,h4⟩:=R.r.σ i l a hl ha
   exact⟨a,cs,rfl,hnew i a (Pn.mp hi) ha,h1,aY.dat h4 hfr h2,h3⟩
 |.fn _,_,_,r=>r
 |.jt _ _,_,ho,_=>by cases ho
 |.bi _,_,_,r=>r
theorem aY.IB{m:Nat}{stb:ao}(R:au C W stb s)(hm:W'.ay=W.ay.take m)(hfr:∀a,fD C W a→fD C W' a)(hnew:∀i a,m≤i→W.ay[i]? =some a→fD C W' a):
  ∀{l:List V} {cs:List MU},vD l=true→aY C W s.heap l cs→aY C W' s.heap (gZ m stb l) cs
 |[],_,_,r=>r
 |v::l,cs,ho,r=>by
  obtain⟨ho,ho'⟩:=band ho
  obtain⟨c,cr,rfl,h1,h2⟩:=r
  exact Ay.mk c cr rfl (VR.IB R hm hfr hnew ho h1) (aY.IB R hm hfr hnew ho' h2)
theorem nR{m:Nat}{stb:ao}:∀(l:List V),(gZ m stb l).length=l.length
 |[]=>rfl
 |v::l=>congrArg (· +1) (nR l)
end
end
end Rk
end

section
namespace Rk
open PySem PySem.W PySem.Calls PyProof.Rows PySem.SeqAt
noncomputable def KV(C:Cx)(id:Nat)(qual:NT)(cl:List (NT×Na))(pm cdv ct:MU):OM:=
 { name:=(C.P.N id).name,qualname:=qual,params:=(C.P.N id).args,body:=.stmts (C.P.N id).code,scope:=Sc.scope (C.P.N id).sc,globals:=mainGlobals,closure:=cl,defaults:=.none,kwdefaults:=.none,doc:=.none,pyModule:=pm,annotations:=none,code:=cdv,closureTuple:=ct,builtins:=builtinsNs }
noncomputable def pF(C:Cx)(id:Nat)(qual:NT)(cl:List (NT×Na))(pm cdv ct:MU):Ug:={ cls:=.type "function",data:=.func (KV C id qual cl pm cdv ct) }
section
variable {C:Cx} {O:cQ} {n:Nat} {W W' W'':Wt} {st st':ao} {h h':NX} {s s' s'':MT} {A:NF} {Ex:MU→MT→Prop} {sc so:Sc} {env:OZ} {en en':En} {df:Nat→Nat→NW→Bool}
theorem Bt{id:Nat}{qual:NT}{pos:NW}{firstLine:Nat}{c P:Na}{ps:Array MU}{clos:List (NT×Na)}{Q:MU→MT→Prop}(hdoc:docOf (C.P.N id).code=none)
  (hcl:closureFor (Sc.scope (C.P.N id).sc) env=pure clos) (hge0:env.globals=mainGlobals) (hg:s.heap.Ns mainGlobals C.mg) (hcode:env.code= .ref c) (K:VC s.heap c P) (hP:s.heap.get? P=some (tabObj ps)) (ht:TV ps.toList)
  (hnf:codeAmong pos ps.toList=none) (hgP:mainGlobals≠P) (hb:s.heap.BuiltinsAt C.mg P)
  (h:∀c' ctv h' tk,PU P s.heap h'→s.heap.objs.size≤c'→c'<h'.objs.size→h'.CodeRec (.ref c') qual→h'.get? P=some (tabObj (ps++ #[rawInt pos.line,rawInt pos.col,.ref c']))→
   Q (.ref h'.objs.size) { s with heap:=h'.push (pF C id qual clos ((C.mg "__name__").getD .none) (.ref c') ctv),toks:=tk }):
  wpAny (model C.prog C.w) A (makeTail (C.P.N id).name qual (C.P.N id).args (.stmts (C.P.N id).code) (Sc.scope (C.P.N id).sc) env .none .none none pos firstLine) Q Ex s:=by
 refine bc fun hN0=>?_
 obtain⟨bm,ob,hbm,hne0,_,hneP,hbo,hcls,hdict,hdata⟩:=hb
 refine hN0 ?_
 unfold makeTail
 rw[hcl,hge0]
 refine MV (Nb ?_)
 simp only[hdoc]
 cases clos with
 |nil=>
  simp only[Qp,if_true]
  refine MV (Nb ?_)
  refine MV (T9 hcode (K.code hP ht) (K.tab hP) hnf fun c' h' tk hx hge hlt _ hrec htb _=>?_)
  have hg':=hg.extBut hx hgP
  refine MV (QU hg' hbm hne0 (hx _ _ hneP hbo) hcls hdict hdata ?_)
  refine MV (TA hg' ?_)
  exact MV (Nb (Oi (h c' .none h' tk hx hge hlt hrec htb.2) (by size_fits)))
 |cons q r=>
  simp only[UQ,OG,if_false]
  refine MV (Uw ?_)
  refine MV (T9 hcode ((K.keeps fun b o e=>Ni _ e).code (Ni _ hP) ht) ((K.keeps fun b o e=>Ni _ e).tab (Ni _ hP)) hnf fun c' h' tk hx hge hlt _ hrec htb _=>?_)
  have hg':=(hg.push _).extBut hx hgP
  have hx':PU P s.heap h':=fun b o hb' e=>hx b o hb' (Ni _ e)
  have hge':s.heap.objs.size≤c':=M8 (by rw[Om];lia) hge
  refine MV (QU hg' hbm hne0 (hx' _ _ hneP hbo) hcls hdict hdata ?_)
  refine MV (TA hg' ?_)
  exact MV (Nb (Oi (h c' _ h' tk hx' hge' hlt hrec htb.2) (by size_fits)))
theorem Bu{id:Nat}{qual:NT}{pos:NW}{firstLine:Nat}{c P:Na}{ps:Array MU}{clos:List (NT×Na)}{cv:MU}{Q:MU→MT→Prop}(hdoc:docOf (C.P.N id).code=none)
  (hcl:closureFor (Sc.scope (C.P.N id).sc) env=pure clos) (hge0:env.globals=mainGlobals) (hg:s.heap.Ns mainGlobals C.mg) (hcode:env.code= .ref c) (K:VC s.heap c P) (hP:s.heap.get? P=some (tabObj ps)) (ht:TV ps.toList)
  (hf:codeAmong pos ps.toList=some cv) (hb:s.heap.BuiltinsAt C.mg P)
  (h:∀(ctv:MU) (h':NX) (tk:Vt),(∀b o,s.heap.get? b=some o→h'.get? b=some o)→s.heap.objs.size≤h'.objs.size→
   Q (.ref h'.objs.size) { s with heap:=h'.push (pF C id qual clos ((C.mg "__name__").getD .none) cv ctv),toks:=tk }):
  wpAny (model C.prog C.w) A (makeTail (C.P.N id).name qual (C.P.N id).args (.stmts (C.P.N id).code) (Sc.scope (C.P.N id).sc) env .none .none none pos firstLine) Q Ex s:=by
 refine bc fun hN0=>?_
 obtain⟨bm,ob,hbm,hne0,_,hneP,hbo,hcls,hdict,hdata⟩:=hb
 refine hN0 ?_
 unfold makeTail
 rw[hcl,hge0]
 refine MV (Nb ?_)
 simp only[hdoc]
 clear hdoc hcl hge0 hneP
 cases clos with
 |nil=>
  simp only[Qp,if_true]
  refine MV (Nb ?_)
  refine MV (SM hcode (K.code hP ht) hf ?_)
  refine MV (QU hg hbm hne0 hbo hcls hdict hdata ?_)
  refine MV (TA hg ?_)
  exact MV (Nb (Oi (h .none s.heap s.toks (fun _ _ e=>e) (M9 _)) (by size_fits)))
 |cons q r=>
  simp only[UQ,OG,if_false]
  refine MV (Uw ?_)
  refine MV (SM hcode ((K.keeps fun b o e=>Ni _ e).code (Ni _ hP) ht) hf ?_)
  refine MV (QU (hg.push _) hbm hne0 (Ni _ hbo) hcls hdict hdata ?_)
  refine MV (TA (hg.push _) ?_)
  have hsz:∀oT:Ug,s.heap.objs.size≤(s.heap.push oT).objs.size:=fun oT=>by rw[Om];lia
  exact MV (Nb (Oi (h _ _ s.toks (fun b o e=>Ni _ e) (hsz _)) (by size_fits)))
end
end Rk
end

section
namespace Rk
open PySem PySem.W PySem.Calls PyProof.Rows PySem.SeqAt
section
variable {C:Cx} {O:cQ} {n:Nat} {W W' W'':Wt} {st st':ao} {h h':NX} {s s' s'':MT} {A:NF} {Ex:MU→MT→Prop} {sc so:Sc} {env:OZ} {en en':En} {df:Nat→Nat→NW→Bool}
theorem au.ret{W3:Wt}{st3:ao}{new:List Na}(R0:au C W st s)(hk:∀a o,s.heap.get? a=some o→a∉W.ay→a∉C.ta→s'.heap.get? a=some o)(R3:au C W3 st3 s')
  (kM:W3.ay=W.ay++new) (hκ:∃e,W3.aB=W.aB++e) (hX:∀a∈W.X,a∈W3.X):
  au C W { κ:=st.κ,σ:=st3.σ.take st.σ.length } s'∧(∀a,fD C W3 a→fD C W a):=by
 obtain⟨e,he⟩:=hκ
 have hall:∀a∈W.all,a∈W3.all:=fun a ha=>by
  simp only[Wt.all,MX]at ha ⊢
  rcases ha with ha|ha|ha
  ·exact .inl (by rw[kM];exact M7 _ ha)
  ·exact .inr (.inl (by rw[he];exact M7 _ ha))
  ·exact .inr (.inr (hX a ha))
 have hfr:∀a,fD C W3 a→fD C W a:=fun a f=>⟨fun hm=>f.1 (hall a hm),f.2⟩
 have x:Ext C W s.heap W s'.heap:=⟨⟨[],by simp⟩,⟨[],by simp⟩,fun a o f e=>⟨f,hk a o e (fun q=>f.1 (bj q)) f.2⟩⟩
 refine⟨⟨⟨R3.r.keep,fun T hT=>?_,R3.r.grown,?_,R0.r.ng,fun i l a e1 e2=>?_,fun k ov a e1 e2=>?_,R0.r.nodup,fun a ha=>R3.r.lo a (hall a ha)⟩,R3.os,R3.bare⟩,hfr⟩
 ·obtain⟨ps,h1,h2,h3⟩:=R3.r.tabs T hT
  exact⟨ps,h1,h2,h3.imp id fun⟨c',e1,f,r⟩=>⟨c',e1,hfr _ f,r⟩⟩
 ·have:=R3.r.jC
  rw[kM,Ng,R0.r.jC]at this
  rw[Pk,R0.r.jC,←this]
  exact(PZ (N_ _ _)).symm
 ·have hi:i<st.σ.length:=by rw[←R0.r.jC];exact(MW.mp e2).1
  rw[PJ hi]at e1
  obtain⟨cs,h1,h2,h3,h4⟩:=R3.r.σ i l a e1 (by rw[kM,N3 (R0.r.jC▸hi)];exact e2)
  exact⟨cs,h1,aY.dat h4 hfr h2,h3,h4⟩
 ·obtain⟨oc,⟨o,ho,hd⟩,h2⟩:=R0.r.κ k ov a e1 e2
  have hm:a∈W.aB:=Nh e2
  exact⟨oc,⟨o,hk a o ho (kI R0 hm) (bB R0 (cg hm)),hd⟩,h2.ext x⟩
theorem bL.deeper{env:OZ}(hr:bL (n+1) A):bL n (A.deeper env):=
 ⟨by have:=hr.depth;show A.depth+1+n+5<_;lia,by have:=hr.units;show A.units+3+4*n+200<_;lia,hr.handled⟩
theorem rq{W3:Wt}{st3:ao}{c:String}{m L:Nat}{w:V}{cw:MU}{Q:MU→MT→Prop}(R:au C W st s)(S:Step C (Ub ⟨W.ay,W.aB++addrs (s.heap.objs.size+1) m,s.heap.objs.size::W.X⟩ st.κ.length L) ⟨W.ay,W.aB++addrs (s.heap.objs.size+1) m,s.heap.objs.size::W.X⟩ { s with heap:=dz s.heap c sc } W3 s')
  (hL:L=s.heap.objs.size) (R3:au C W3 st3 s') (hret:oK w=true) (rc:VR C W3 s'.heap w cw) (h:Post C W.ay W s { κ:=st.κ,σ:=st3.σ.take st.σ.length } (freeze st.σ.length st3 w) Q):Q cw s':=by
 have hs1:∀{b ob},s.heap.get? b=some ob→s.heap.objs.size≤b→False:=fun e ha=>by rw[aC ha]at e;cases e
 obtain⟨new,en_,hnew⟩:=S.ay
 have hfresh:∀b∈new,s.heap.get? b=none:=fun b hb=>by
  cases e:s.heap.get? b with
  |none=>rfl
  |some ob=>have:=hnew b hb;rw[bR _ _ _ _ _ e]at this;cases this
 have hkeep:∀b ob,s.heap.get? b=some ob→b∉W.ay→b∉C.ta→s'.heap.get? b=some ob:=fun b ob e hb ht=>by
  refine S.keep b ob (bR _ _ _ _ _ e) (fun hm=>?_) ht
  rcases sW hm with hm|hm|hm
  ·exact hb hm
  ·rw[←R.r.ng,Tz]at hm
   exact hs1 e (QS (jX _ _ _ hm))
  ·exact hs1 e (QJ (hm.trans hL).symm)
 obtain⟨R4,fr4⟩:=au.ret (new:=new) R hkeep R3 en_ ⟨_,S.aB⟩ (fun b hb=>by rw[S.X];exact MY _ hb)
 refine h cw s' W ⟨fun b ob e=>S.mZ b ob (bR _ _ _ _ _ e),hkeep,⟨[],(Nc _).symm,o6⟩,rfl,rfl,fun g gs e=>S.gens g gs e⟩ R4 (VR.IB R3 (by rw[show W3.ay=W.ay++new from en_,←R.r.jC,TF]) fr4 (fun i b hi hb=>?_) hret rc)
 rw[show W3.ay=W.ay++new from en_,NJ (by rw[R.r.jC];exact hi)]at hb
 exact R.r.fresh (hfresh b (Nh hb))
noncomputable def KW:P9→MU
 |.ret v=>v
 |_=>.none
inductive Entry (C:Cx) (sc:Sc) (W:Wt) (st:ao) (s:MT) (vals:List V) (fr:List Nat) (env:OZ) (W2:Wt) (s2:MT):Prop
 |mk (hW:W2=⟨W.ay,W.aB++addrs (s.heap.objs.size+1) (jx sc),s.heap.objs.size::W.X⟩) (hL:env.locals=s.heap.objs.size) (hf:env.frame=some env.locals) (B:dF C sc env) (S:Step C (Ub W2 st.κ.length env.locals) W2 { s with heap:=dz s.heap "frame" sc } W2 s2)
  (X:At C sc env ⟨(aV sc (vals.map some) fr st.κ).1,st.κ.length⟩ W2 { κ:=(aV sc (vals.map some) fr st.κ).2,σ:=st.σ } s2)
theorem enter(ok:bF C){a:Na}{o:Ug}{fd:OM}{body:List Td}{vals:List V}{cvals cs:List MU}{kw:List (NT×MU)}{fr:List Nat}{Q:MU→MT→Prop}
  (R:au C W st s) (hr:bL (n+1) A) (ho:s.heap.get? a=some o) (hd:o.data= .func fd) (hbody:fd.body= .stmts body) {mo:List (NT×V8)} (hsc:fd.scope={ Sc.scope sc with more:=mo }) (hcl:fd.closure=bQ W.aB sc fr [])
  (hfr:fr.length=frees sc∧ ∀k∈fr,k<W.aB.length) (hgl:fd.globals=mainGlobals) (hbu:fd.builtins=builtinsNs) (hcd:s.heap.CodeRec fd.code fd.qualname) (nO:mC C.bN sc=true)
  (hbind:SN s fd ⟨cs,kw⟩ (iq sc cvals)) (hvals:aY C W s.heap vals cvals) (hpar:∀i,i<vals.length→ ∃x,sc[i]? =some x∧j0 x=true)
  (h:∀L cells env W2 s2,env=newEnv { Sc.scope sc with more:=mo } L mainGlobals cells (fd.qualname++(".<locals>.":NT)) (some a) fd.code none builtinsNs→Entry C sc W st s vals fr env W2 s2→
   wpAny (model C.prog C.w) (A.deeper env) (execs body env) (fun f s'=>Q (KW f) s') (fun e s'=>wpAny (model C.prog C.w) (A.deeper env) (leaving env e) (fun _ s''=>Ex e s'') (fun e' s''=>Ex e' s'') s') s2):
  wpAny (model C.prog C.w) A (N5 (.ref a) cs kw) Q Ex s:=by
 have hnd:=fO nO
 refine wpAny_call (codeAny_call_function (by have:=hr.depth;lia) ho hd (by rw[hsc];rfl) (by rw[hsc];rfl) hbody hcd (hbind _ _ _ _ ?_))
 rw[hsc,hgl,hbu]
 refine eM (sc:=sc) rfl fun env henv=>?_
 clear hr ho hbody hsc hgl hbu hcd hbind
 refine bc fun hN0=>?_
 obtain⟨R1,x1,F1⟩:=jf (env:=env) (c:="frame") (sc:=sc) (fr:=fr) (cl:=fd.closure) R hnd hfr hcl (by rw[henv];rfl) (by rw[henv];rfl)
 refine hN0 ?_
 have B:dF C sc env:=by
  refine oj nO (by rw[henv];rfl) (by rw[henv];rfl) (by rw[henv];rfl) fun i x hx=>?_
  have h1:=eo (f:=SE.kind) hnd hx
  have h2:env.kindOf x.name=some x.kind:=by rw[henv];exact h1
  clear hcl hfr hvals hpar h hnd henv R1 hx h1
  cases x with
  |lc nm=>exact h2
  |ce nm=>exact h2
  |fe nm o=>exact .inl h2
  |gl k=>exact h2
 refine nQ (f:=fr) (κ:=st.κ) (σ:=st.σ) B sc vals cvals [] (fun i x hi=>by rw[Px,PX];exact hi) hpar ⟨R1,F1⟩ (aY.ext x1 hvals) fun s2 S2 X2=>?_
 refine⟨kJ ok X2.r.r,codeAny_func ?_⟩
 exact Og (h _ _ env _ s2 henv ⟨rfl,by rw[henv];rfl,by rw[henv];rfl,B,S2,X2⟩) (fun f s' q=>by cases f<;>exact q) fun _ _ q=>q
theorem bx(ok:bF C)(oo:bD C O n){body:Ss}(w:n9 C.bN df body sc=true):BodyOk C O n df body sc:=fun B D X hr e h=>rm ok oo body w B D X hr e h
theorem ru(ok:bF C){a:Na}{o:Ug}{fd:OM}{body:Ss}{vals:List V}{cvals cs:List MU}{kw:List (NT×MU)}{fr:List Nat}{v:V}{Q:MU→MT→Prop}
  (R:au C W st s) (hr:bL (n+1) A) (ho:s.heap.get? a=some o) (hd:o.data= .func fd) (hbody:fd.body= .stmts (dH C.P.N body sc)) {mo:List (NT×V8)} (hsc:fd.scope={ Sc.scope sc with more:=mo }) (hcl:fd.closure=bQ W.aB sc fr [])
  (hfr:fr.length=frees sc∧ ∀k∈fr,k<W.aB.length) (hgl:fd.globals=mainGlobals) (hbu:fd.builtins=builtinsNs) (hcd:s.heap.CodeRec fd.code fd.qualname) (nO:mC C.bN sc=true) (wbody:BodyOk C O n df body sc)
  (hbind:SN s fd ⟨cs,kw⟩ (iq sc cvals)) (hvals:aY C W s.heap vals cvals) (hpar:∀i,i<vals.length→ ∃x,sc[i]? =some x∧j0 x=true)
  (hdef:∀L cells,iH C O sc (newEnv { Sc.scope sc with more:=mo } L mainGlobals cells (fd.qualname++(".<locals>.":NT)) (some a) fd.code none builtinsNs) df)
  (he:CF O C.P.N sc vals fr body st=some (v,st')) (h:Post C W.ay W s st' v Q):wpAny (model C.prog C.w) A (N5 (.ref a) cs kw) Q Ex s:=by
 refine enter ok R hr ho hd hbody hsc hcl hfr hgl hbu hcd nO hbind hvals hpar fun L cells env W2 s2 henv E=>?_
 clear ho hbody hsc hcl hfr hgl hbu hcd hbind hvals hpar
 refine bc fun hN0=>?_
 obtain⟨rfl,hL,_,B,S2,X2⟩:=E
 obtain⟨fl,en3,st3,e3,he'⟩:=d9 he;clear he
 obtain⟨hret,hz1⟩:=h.xM he'
 refine hN0 ?_
 refine wbody B (henv▸hdef L cells) X2 hr.deeper e3 fun f s3 W3 S3 X3 hk3 r3=>?_
 have fin:∀c,VR C W3 s3.heap (CE fl) c→Q c s3:=fun c rc=>rq R (S2.bl S3) hL X3.r hret rc hz1
 clear hr hdef h henv hL S2 X2 e3 he' hret hz1 S3 X3 hk3
 cases fl with
 |bU=>rw[show f= .next from r3];exact fin .none rfl
 |ret w=>obtain⟨c,rfl,r⟩:=r3;exact fin c r
end
end Rk
end

section
namespace Rk
open PySem PySem.W PySem.Calls PyProof.Rows PySem.SeqAt
inductive KY (C:Cx) (g:Nat):Prop
 |mk (o:Ug) (fd:OM) (df:Nat→Nat→NW→Bool) (mo:List (NT×V8)) (ho:C.h₁.get? (C.addr g)=some o) (hd:o.data= .func fd) (hb:fd.body= .stmts (dH C.P.N (C.P.F g).body (C.P.F g).sc)) (hsc:fd.scope={ Sc.scope (C.P.F g).sc with more:=mo }) (hcl:fd.closure=[])
  (hgl:fd.globals=mainGlobals) (hbu:fd.builtins=builtinsNs) (hcode:vL C fd)
  (nO:mC C.bN (C.P.F g).sc=true) (wb:bF C→ ∀n,bD C (jK C.P n) n→BodyOk C (jK C.P n) n df (C.P.F g).body (C.P.F g).sc) (hfr:frees (C.P.F g).sc=0)
  (hbind:∀args key vals cs kw W st s,gh (C.P.F g) args key=some vals→au C W st s→aY C W s.heap args cs→Io C W s.heap key kw→
   (∃cvals,aY C W s.heap vals cvals∧SN s fd ⟨cs,kw⟩ (iq (C.P.F g).sc cvals))∧ ∀i,i<vals.length→ ∃x,(C.P.F g).sc[i]? =some x∧j0 x=true)
  (hdef:∀O L cells,iH C O (C.P.F g).sc (newEnv { Sc.scope (C.P.F g).sc with more:=mo } L mainGlobals cells (fd.qualname++(".<locals>.":NT)) (some (C.addr g)) fd.code none builtinsNs) df)
structure dJ (C:Cx) (g:Nat):Prop where
 nt:C.addr g∉C.ta
 ex:KY C g
structure IC (C:Cx) (i:Nat):Prop where
 code:(C.P.N i).code=dH C.P.N (C.P.N i).body (C.P.N i).sc
 nO:mC C.bN (C.P.N i).sc=true
 wf:n9 C.bN (fun _ _ _=>false) (C.P.N i).body (C.P.N i).sc=true
 par:∀j,j<(C.P.N i).np→ ∃x,(C.P.N i).sc[j]? =some x∧j0 x=true
 bind:∀(fd:OM) (cs:List MU) (s:MT),fd.params=(C.P.N i).args→fd.defaults= .none→fd.kwdefaults= .none→cs.length=(C.P.N i).np→SN s fd ⟨cs,[]⟩ (iq (C.P.N i).sc cs)
structure Bv (C:Cx):Prop where
 obj:∀{f args l},C.P.gen f args=some l→ ∀{W st2 s cf},au C W st2 s→VR C W s.heap f cf→ ∃a o fd,cf= .ref a∧fD C W a∧s.heap.get? a=some o∧o.data= .func fd
 gen:∀{f args l n st A W s} {Ex:MU→MT→Prop} {Q:MU→MT→Prop} {cf cs t sc'},C.P.gen f args=some l→bL n A→au C W st s→VR C W s.heap f cf→aY C W s.heap args cs→
  fH C A (toT sc' t) W s st (.lst l) Q→wpAny (model C.prog C.w) A (N5 cf cs []) (fun x s'=>wpAny (model C.prog C.w) A (pyIter x) Q Ex s') Ex s
section
variable {C:Cx} {n:Nat} {W W' W'':Wt} {st st':ao} {h h':NX} {s s' s'':MT} {A:NF} {Ex:MU→MT→Prop}
theorem pG{O:cQ}{sc:Sc}{env:OZ}:iH C O sc env (fun _ _ _=>false):=by
 intro id i p en en' W st st' s A Ex Q fl hd
 cases hd
theorem Bw{g:Nat}(F:dJ C g)(R:au C W st s):∃a o fd,Rx (C.addr g)= .ref a∧fD C W a∧s.heap.get? a=some o∧o.data= .func fd:=by
 obtain⟨o,fd,df,mo,ho,hd,_⟩:=F.ex
 refine⟨_,o,fd,rfl,⟨fun hm=>?_,F.nt⟩,R.r.keep _ _ ho F.nt,hd⟩
 have:=(R.r.lo _ hm).1
 rw[ho]at this;cases this
theorem gy:∀(sc:Sc) (μ:List Na),frees sc=0→bQ μ sc [] []=[]
 |[],_,_=>rfl
 |.lc _::r,μ,h=>by simp only[dh,di,dj,cL,dw];exact gy r μ h
 |.ce _::r,μ,h=>by simp only[dh,di,dj,cL,dw];exact gy r μ h
 |.gl _::r,μ,h=>by simp only[dh,di,dj,cL,dw];exact gy r μ h
 |.fe _ _::r,_,h=>by simp[sG,sH]at h
theorem Fz{g:Nat}(ok:bF C)(ih:bD C (jK C.P n) n)(F:dJ C g){args vals:List V}{key:Option V}{v:V}{Q:MU→MT→Prop}{cs:List MU}{kw:List (NT×MU)}(hr:bL (n+1) A)(R:au C W st s)(ra:aY C W s.heap args cs)(rk:Io C W s.heap key kw)
  (ev:gh (C.P.F g) args key=some vals) (e:CF ⟨aO C.P n,C.P.gen⟩ C.P.N (C.P.F g).sc vals [] (C.P.F g).body st=some (v,st')) (h:Post C W.ay W s st' v Q):wpAny (model C.prog C.w) A (N5 (.ref (C.addr g)) cs kw) Q Ex s:=by
 refine bc fun hN0=>?_
 obtain⟨o,fd,df,mo,ho,hd,hb,hsc,hcl,hgl,hbu,⟨c,oc,vs,t,hcd,hct,hoc,hdc,hq⟩,nO,wb,hfr,hbind,hdef⟩:=F.ex
 obtain⟨⟨cvals,hv,hbt⟩,hpar⟩:=hbind args key vals cs kw W st s ev R ra rk
 refine hN0 ?_
 exact ru ok R hr (R.r.keep _ _ ho F.nt) hd hb hsc (by rw[hcl,gy _ _ hfr]) ⟨by rw[hfr];rfl,o6⟩ hgl hbu ⟨c,oc,vs,t,hcd,R.r.keep _ _ hoc hct,hdc,hq⟩ nO (wb ok n ih) hbt hv hpar (fun L cells=>hdef _ L cells) e h
theorem Ey(ok:bF C)(fns:∀g,C.P.jv g=false→dJ C g)(nfs:∀i,IC C i)(gn:Bv C):∀n,bD C (jK C.P n) n
 |0=>by
  refine⟨?_,?_,fun e=>gn.obj e,fun e hr=>gn.gen e hr⟩
  ·intro f args key st r e
   cases e
  ·intro f args key st v st' A W s Ex Q cf cs kw e
   cases e
 |n+1=>by
  have ih:=Ey ok fns nfs gn n
  refine⟨?_,?_,fun e=>gn.obj e,fun e hr=>gn.gen e hr⟩
  ·intro f args key st r e W st2 s cf R rf
   cases f with
   |fn g=>
    replace e:cond (C.P.jv g) none _=some r:=e
    cases rf
    cases hg:C.P.jv g with
    |true=>rw[hg]at e;cases e
    |false=>exact Bw (fns g hg) R
   |jt i γ=>
    obtain⟨a,rfl,hf,_,_,o,fd,c',ho,hd,_⟩:=rf
    exact⟨a,o,fd,rfl,hf,ho,hd⟩
   |_=>cases e
  ·intro f args key st v st' A W s Ex Q cf cs kw e hr R rf ra rk h
   cases f with
   |fn g=>
    replace e:cond (C.P.jv g) none _=some (v,st'):=e
    cases rf
    cases hg:C.P.jv g with
    |true=>rw[hg]at e;cases e
    |false=>
     rw[hg]at e
     obtain⟨vals,ev,e'⟩:=af e;clear e
     exact Fz ok ih (fns g hg) hr R ra rk ev e' h
   |jt i γ=>
    obtain⟨a,rfl,hf,hγ,hγk,o,fd,c',ho,hd,hb,hsc,hcl,hgl,hbu,hp,hdf,hkd,hcd,hcf,hcr⟩:=rf
    cases key with
    |some k=>cases e
    |none=>
     cases rk
     obtain⟨hnp,e⟩:=gk e
     have N:=nfs i
     exact ru (df:=fun _ _ _=>false) ok R hr ho hd (by rw[hb,N.code]) hsc hcl ⟨hγ,hγk⟩ hgl hbu (by rw[hcd];exact hcr) N.nO (bx ok ih N.wf) (N.bind fd cs s hp hdf hkd (ra.length.trans hnp)) ra (fun j hj=>N.par j (hnp▸hj)) (fun L cells=>pG) e h
   |_=>cases e
end
end Rk
end

section
namespace Rk
open PySem PySem.W PySem.Calls PyProof.Rows PySem.SeqAt
section
variable {C:Cx} {O:cQ} {n:Nat} {W W' W'':Wt} {st st':ao} {h h':NX} {s s' s'':MT} {A:NF} {Ex:MU→MT→Prop} {sc so:Sc} {env:OZ} {en en':En} {df:Nat→Nat→NW→Bool}
theorem au.grow{T:Tb}{c':Na}{tk:Nat}{ps:Array MU}(R:au C W st s)(hT:T∈C.tabs)(hinj:∀T'∈C.tabs,T'.P=T.P→T'=T)(hP:s.heap.get? T.P=some (tabObj ps))(ht:TV ps.toList)(hnf:codeAmong T.pos ps.toList=none)
  (hx:PU T.P s.heap h') (hP':h'.get? T.P=some (tabObj (ps++ #[rawInt T.pos.line,rawInt T.pos.col,.ref c']))) (hc:s.heap.objs.size≤c') (hrec:h'.CodeRec (.ref c') T.q):
  (∀U,Step C U W s W { s with heap:=h',toks:=tk })∧au C W st { s with heap:=h',toks:=tk }∧Ext C W s.heap W h'∧fD C W c':=by
 have hTa:T.P∈C.ta:=Nt hT
 have hfc:fD C W c':=R.r.fresh (aC hc)
 have hne:∀a,a∉C.ta→a≠T.P:=fun a ha e=>ha (e▸hTa)
 have x:Ext C W s.heap W h':=⟨⟨[],by simp⟩,⟨[],by simp⟩,fun a o f e=>⟨f,hx a o (hne a f.2) e⟩⟩
 have hall:∀a∈W.all,a≠T.P:=fun a ha=>hne a (bB R ha)
 refine⟨fun U=>⟨fun a o e=>?_,fun a o e _ ht=>hx a o (hne a ht) e,⟨[],by simp⟩,rfl,rfl,fun _ _ e=>e⟩,⟨⟨fun a o e t=>hx a o (hne a t) (R.r.keep a o e t),fun T' hT'=>?_,fun T' hT'=>?_,R.r.jC,R.r.ng,fun i l a e1 e2=>?_,fun k ov a e1 e2=>?_,R.r.nodup,fun a ha=>⟨(R.r.lo a ha).1,?_⟩⟩,R.os,R.bare⟩,x,hfc⟩
 ·by_cases ha:a=T.P
  ·exact⟨_,ha▸hP'⟩
  ·exact⟨o,hx a o ha e⟩
 ·by_cases hTT:T'.P=T.P
  ·have:=hinj T' hT' hTT
   clear hT hinj hP hx hc hTa hne hall hT'
   subst this
   refine⟨_,hP',?_,.inr ⟨c',?_,hfc,hrec⟩⟩
   ·rw[PL];exact TriplesOk_snoc _ _ _ _ ht
   ·rw[PL];exact codeAmong_snoc _ ht hnf
  ·exact(R.r.tabs T' hT').ext x fun o e=>hx _ o hTT e
 ·obtain⟨p0,p1,e1,e2⟩:=R.r.grown T' hT'
  by_cases hTT:T'.P=T.P
  ·have:=hinj T' hT' hTT
   clear hT hinj ht hnf hx hc hrec hTa hfc hne hall hT'
   subst this
   rw[hP]at e2
   have:ps=p0++p1:=by cases e2;rfl
   exact⟨p0,p1++ #[rawInt T'.pos.line,rawInt T'.pos.col,.ref c'],e1,by rw[hP',this,Array.append_assoc]⟩
  ·exact⟨p0,p1,e1,hx _ _ hTT e2⟩
 ·obtain⟨cs,⟨m,ho⟩,h2,h3⟩:=R.r.σ i l a e1 e2
  exact⟨cs,⟨m,hx _ _ (hall a (bj (Nh e2))) ho⟩,aY.ext x h2,h3⟩
 ·obtain⟨oc,⟨o',ho,hd⟩,h2⟩:=R.r.κ k ov a e1 e2
  exact⟨oc,⟨o',hx _ _ (hall a (cg (Nh e2))) ho,hd⟩,h2.ext x⟩
 ·obtain⟨o,e⟩:=(R.r.lo a ha).2
  exact⟨o,hx _ _ (hall a ha) e⟩
theorem Bx(B:dF C sc env)(X:At C sc env en W st s){i id:Nat}{q:NT}{fr:List Nat}{c':Na}{nmv ctv:MU}{s1:MT}{tk:Nat}{Q:P9→MT→Prop}(hnm:nm sc i=(C.P.N id).name)(e2:fC en st i (.jt id fr)=some (en',st'))
  (hfr:fr.length=frees (C.P.N id).sc∧ ∀k∈fr,k<W.aB.length) (S1:Step C W.ay W s W s1) (R1:au C W st s1) (fc:fD C W c') (hrec:s1.heap.CodeRec (.ref c') q)
  (h:lj C sc env en en' W st' s (Q .next)):
  wpAny (model C.prog C.w) A (storeName env (C.P.N id).name (.ref s1.heap.objs.size)) (fun _ s''=>Q TX s'') Ex { s1 with heap:=s1.heap.push (pF C id q (bQ W.aB (C.P.N id).sc fr []) nmv (.ref c') ctv),toks:=tk }:=by
 have P:=PS.push s1 (pF C id q (bQ W.aB (C.P.N id).sc fr []) nmv (.ref c') ctv) tk
 have S2:Step C W.ay W s1 W { s1 with heap:=s1.heap.push (pF C id q (bQ W.aB (C.P.N id).sc fr []) nmv (.ref c') ctv),toks:=tk }:=P.step
 have hv:VR C W (s1.heap.push (pF C id q (bQ W.aB (C.P.N id).sc fr []) nmv (.ref c') ctv)) (.jt id fr) (.ref s1.heap.objs.size):=
  ⟨_,rfl,R1.r.fresh (aC (M9 _)),hfr.1,hfr.2,_,_,c',Nl _ rfl,rfl,rfl,rfl,rfl,rfl,rfl,rfl,rfl,rfl,rfl,fc,hrec.push _⟩
 rw[←hnm]
 exact cT B ((X.step S1 R1).step S2 (R1.ps P)) e2 hv fun s3 S3 X3 hk3=>h s3 W ((S1.after S2).ub.bl S3) X3 hk3
theorem zD(ok:bF C)(B:dF C sc env){T:Tb}(hT:T∈C.tabs)(hinj:∀T'∈C.tabs,T'.P=T.P→T'=T)(hcode:env.code= .ref T.c)(hK:VC C.h₁ T.c T.P)(hct:T.c∉C.ta)(hbi:C.h₁.BuiltinsAt C.mg T.P)(hbt:∀bm,C.mg "__builtins__"=some (.ref bm)→bm∉C.ta)
  (hq:env.qual++(C.P.N T.id).name=T.q) (hdf:∀id i p,df id i p=true→id=T.id∧p=T.pos∧nm sc i=(C.P.N T.id).name)
  (hd0:(C.P.N T.id).args.defaults=[]) (hk0:(C.P.N T.id).args.kw_defaults=[]) (ha:∀env,annTrees (C.P.N T.id).args none env=[]) (hdoc:docOf (C.P.N T.id).code=none) (hfe:(C.P.N T.id).sc.all (zj sc)=true)
  (hge:env.kindOf (C.P.N T.id).name≠some .globalExplicit):iH C O sc env df:=by
 intro id i p en en' W st st' s A Ex Q fl hd X hh he h
 refine bc fun hN0=>?_
 obtain⟨rfl,rfl,hnm⟩:=hdf id i p hd
 obtain⟨fr,efr,he'⟩:=af he;clear he
 obtain⟨en2,st2,e2,he⟩:=az he';clear he'
 obtain⟨rfl,rfl,rfl⟩:=fh he
 obtain⟨hfr,hclos⟩:=iF X.fr hfe efr
 refine hN0 ?_
 have hgl:=(Ik ok X.r.r).1
 have hgP:mainGlobals≠T.P:=fun e=>ok.nt.1 (e▸Nt hT)
 have hcP:T.c≠T.P:=fun e=>hct (e▸Nt hT)
 have K:VC s.heap T.c T.P:=by
  refine bc fun hN1=>?_
  obtain⟨o,vs,file,tf,flags,tg,inF,text,tt,e,r⟩:=hK
  refine hN1 ?_
  exact⟨o,vs,file,tf,flags,tg,inF,text,tt,X.r.r.keep _ _ e hct,r⟩
 have hb:s.heap.BuiltinsAt C.mg T.P:=by
  refine bc fun hN2=>?_
  obtain⟨bm,o,e1,e2,e3,e4,e5,r⟩:=hbi
  refine hN2 ?_
  exact⟨bm,o,e1,e2,e3,e4,X.r.r.keep _ _ e5 (hbt bm e1),r⟩
 have hqual:qualnameIn env (C.P.N T.id).name (C.P.N T.id).name=T.q:=by
  unfold qualnameIn
  rw[if_neg (by simpa using hge)];exact hq
 show wpAny _ _ (exec (.FunctionDef (C.P.N T.id).name (C.P.N T.id).args (C.P.N T.id).code [] none [] (Sc.scope (C.P.N T.id).sc) none (nm sc i) T.pos) env) _ _ _
 rw[hnm]
 refine nestDef_K hd0 hk0 (ha env) ?_
 rw[hqual,makeFunction_eq]
 simp only[List.zip_nil_right,List.filterMap_nil,Qp,if_true,pure_bind]
 have fin:∀(c':Na) (ctv:MU) (s1:MT),Step C W.ay W s W s1→au C W st s1→fD C W c'→s1.heap.CodeRec (.ref c') T.q→ ∀tk,
   wpAny (model C.prog C.w) A (storeName env (C.P.N T.id).name (.ref s1.heap.objs.size)) (fun _ s''=>Q TX s'') Ex { s1 with heap:=s1.heap.push (pF C T.id T.q (bQ W.aB (C.P.N T.id).sc fr []) ((C.mg "__name__").getD .none) (.ref c') ctv),toks:=tk }:=
  fun c' ctv s1 S1 R1 fc hrec tk=>Bx B X hnm e2 hfr S1 R1 fc hrec h
 refine bc fun hN3=>?_
 obtain⟨ps,hP,ht,hcase⟩:=X.r.r.tabs T hT
 refine hN3 ?_
 rcases hcase with hnf|⟨c',hf,fc,hrec⟩
 ·refine Bt hdoc hclos B.globals hgl hcode K hP ht hnf hgP hb fun c' ctv h1 tk hx hge1 hlt hrec hP'=>?_
  refine bc fun hN4=>?_
  obtain⟨S,R1,x1,fc⟩:=au.grow (tk:=tk) X.r hT hinj hP ht hnf hx hP' hge1 hrec
  refine hN4 ?_
  exact fin c' ctv { s with heap:=h1,toks:=tk } (S _) R1 fc hrec tk
 ·refine Bu hdoc hclos B.globals hgl hcode K hP ht hf hb fun ctv h1 tk hk hsz=>?_
  have P:PS s { s with heap:=h1,toks:=tk }:=⟨hk,rfl,rfl⟩
  exact fin c' ctv { s with heap:=h1,toks:=tk } P.step (X.r.ps P) fc (hrec.keeps hk) tk
end
end Rk
end

section
namespace Rk
open PySem PySem.W PySem.Calls PyProof.Rows PySem.SeqAt
section
variable {M:Model} {A:NF} {R:GenEnd} {Y:VD} {n:Nat} {s₀:MT} {c:Code} {fs:List Frame} {s:MT} {env:OZ}
 {K:P9→RE O7} {H:MU→RE O7} {gd:Bool→Bool} {lv:List MU→List MU}
theorem nq{st:Td}(h:wpAny M (A.over c fs) (exec st env) (fun f s'=>Sx M A R Y n s₀ c (K f) fs s') (fun x s'=>Sx M A R Y n s₀ c (H x) fs s') s):
  Sx M A R Y n s₀ c ((exec st env).wrap K H gd lv) fs s:=UR h
theorem wF{test:PK}{body orelse:List Td}{pos:NW}
  (h:wpAny M (A.over c fs) (isTrue test env (eval test env)) (fun b s'=>if b=true then Sx M A R Y n s₀ c ((execs body env).wrap K H gd lv) fs s' else Sx M A R Y n s₀ c ((execs orelse env).wrap K H gd lv) fs s')
   (fun x s'=>Sx M A R Y n s₀ c (H x) fs s') s):Sx M A R Y n s₀ c ((exec (.If test body orelse pos) env).wrap K H gd lv) fs s:=by
 show Sx M A R Y n s₀ c (.at pos fun _=>((isTrue test env (eval test env))>>= fun b=>if b=true then execs body env else execs orelse env).wrap K H gd lv) fs s
 refine seg_at ?_
 rw[US,Qw]
 refine UR (Og h (fun b s' hb=>?_) fun _ _ x=>x)
 cases b with
 |true=>exact hb
 |false=>exact hb
end
section
variable {prog:Rp} {w:Tr} {A:NF} {E:MU→MT→Prop} {s:MT}
theorem jh{a:Na}{g n:Nat}{gs:Su}{P:Nat→MT→MT→Prop}{Y:VD}{Q:Option MU→MT→Prop}(hh:A.handled=none)
  (hl:s.heap.NoLimit) (hroom:A.depth<recursionLimit) (hg:s.heap.IsGen a g) (hgs:s.gens[g]? =some gs)
  (hgo:gs.Goes (model prog w) A.in1 (fun n s₀ r s₁=>r= .ok (.ret .none)∧P n s₀ s₁) Y n (.send .none) (s.setGen g .running))
  (hY:∀v s₁ gs',gs'.bare=true→Y (n-1) (s.setGen g .running) v s₁ (fun r' s''=>match n with
    |0=>False
    |m+1=>gs'.Goes (model prog w) A.in1 (fun n s₀ r s₁=>r= .ok (.ret .none)∧P n s₀ s₁) Y m r' s'')→Q (some v) (s₁.setGen g gs'))
  (hP:∀s₁,P n (s.setGen g .running) s₁→ ∀h',(∀b o,s₁.heap.get? b=some o→h'.get? b=some o)→Q none { s₁.setGen g .finished with heap:=h' }):
  wpAny (model prog w) A (pyNext (.ref a)) Q E s:=by
 unfold pyNext
 refine MV (wpAny_attempt (O6 (name:=QF "__next__") hg.typeIs slot_gen_next
  (PN slot_gen_next hg.typeIs entry_gen_next ?_ (args_gen_next _))))
 show wpAny _ A.in1 (RP (.ref a) (.send .none)) _ _ s
 unfold RP
 refine MV (OE (wpAny_genNumber hg (MV (wpAny_genState hgs ?_))))
 cases gs with
 |running=>exact hgo.elim
 |finished=>exact hgo.elim
 |_=>
  refine MV (wpAny_roomToWake hl hroom ?_)
  show wpAny _ A.in1 (.resume g (.send .none) [] _) _ _ s
  refine wpAny_resumeQ hgs hgo (fun x s₁ hx=>?_) (fun v s₁ gs' hb hv=>?_)
  ·obtain⟨rfl,hp⟩:=hx
   show wpAny _ A.in1 (newExc (.type "StopIteration") []>>= _) _ _ _
   refine MV ?_
   simp only[newExc,newTuple]
   refine MV (Oi ?_ (by size_fits))
   refine MV (m:=firstArgMember _ _) (Vj (a:=O_) (by first|rfl|(simp only[firstArgMember];rfl)) ?_)
   refine Oi ?_ (by size_fits)
   refine MV (Ro hh ?_)
   refine MV (Sv (T:="StopIteration") (b:=true) ⟨_,Nl _ rfl,rfl⟩ isSubtype_stop ?_)
   exact Nb (hP s₁ hp _ fun b o hb=>Ni _ (Ni _ hb))
  ·exact Nb ⟨v,rfl,Nb (hY v s₁ gs' hb hv)⟩
end
end Rk
end

section
namespace Rk
open PySem PySem.W PySem.Calls PyProof.Rows PySem.SeqAt
section
variable {prog:Rp} {w:Tr} {A:NF} {R:GenEnd} {Y:VD} {n:Nat} {s₀:MT} {c:Code} {fs:List Frame} {s:MT} {env:OZ}
 {K:P9→RE O7} {H:MU→RE O7} {gd:Bool→Bool} {lv:List MU→List MU}
noncomputable def afterLoop(env:OZ)(K:P9→RE O7)(H:MU→RE O7)(gd:Bool→Bool)(lv:List MU→List MU)(r:Vz):RE O7:=
 ((match r with|.ok f=>(.pure f:RE P9)|.error e=>.raise e).onRaise fun(x:MU)=>do
    if(←field x 1) == O_ then unsupported "frame.own-activation:exception-without-traceback"
    setFlight x env.frame).wrap K H gd lv
theorem Dq{target iter:PK}{body orelse:List Td}{pos:NW}(hfold:∀x,foldedSetIterable iter env x=pure x)
  (h:wpAny (model prog w) (A.over c fs) (eval iter env) (fun x s1=>wpAny (model prog w) (A.over c fs) (pyIter x) (fun it s2=>∀p,Sx (model prog w) A R Y n s₀ (.forLoop target it body orelse env) ((model prog w).den (.forLoop target it body orelse env))
   (.ret (afterLoop env K H gd lv) none (gd false) (lv []) c p []::fs) s2) (fun x s'=>Sx (model prog w) A R Y n s₀ c (H x) fs s') s1) (fun x s'=>Sx (model prog w) A R Y n s₀ c (H x) fs s') s):
  Sx (model prog w) A R Y n s₀ c ((exec (.For target iter body orelse pos) env).wrap K H gd lv) fs s:=by
 have e:exec (.For target iter body orelse pos) env=((do
   standAt pos
   let x←foldedSetIterable iter env (←eval iter env)
   standAt iter.pos
   holding [x] (pyIter x)):RE MU).bind fun it=>runOwn (.forLoop target it body orelse env) env:=by
  rw[exec_For]
  show _=((_:RE MU)>>= (_:MU→RE P9))
  simp only[bind_assoc]
 rw[e,Oh,Qw]
 refine UR ?_
 refine MV (N9 (MV (Og h (fun x s1 h1=>?_) fun _ _ x=>x)))
 rw[hfold]
 refine MV (Nb (MV (N9 (OE (Og h1 (fun it s2 h2=>?_) fun _ _ x=>x)))))
 exact seg_call h2
theorem nS{target:PK}{it:MU}{body orelse:List Td}
  (h:wpAny (model prog w) (A.over (.forLoop target it body orelse env) fs) (pyNext it) (fun r s1=>match r with
    |none=>Sx (model prog w) A R Y n s₀ (.forLoop target it body orelse env) (.pure (.again (.block orelse env))) fs s1
    |some v=>wpAny (model prog w) (A.over (.forLoop target it body orelse env) fs) (letOwnedTupleGo target it v) (fun _ s2=>wpAny (model prog w) (A.over (.forLoop target it body orelse env) fs) (assign target env v) (fun _ s3=>
      Sx (model prog w) A R Y n s₀ (.forLoop target it body orelse env) ((execs body env).wrap (fun f=>match f with
       |.next|.cont=>.pure (.again (.forLoop target it body orelse env))
       |.brk=>.pure (.done .next)
       |.ret v=>.pure (.done (.ret v))) (fun e=>(do noteFrame e env;theTreesLotGoes e:RE Unit).wrap (fun _=>.raise e) .raise id id) id id) fs s3)
      (fun x s'=>Sx (model prog w) A R Y n s₀ (.forLoop target it body orelse env) ((do noteFrame x env;theTreesLotGoes x:RE Unit).wrap (fun _=>.raise x) .raise id id) fs s') s2)
      (fun x s'=>Sx (model prog w) A R Y n s₀ (.forLoop target it body orelse env) ((do noteFrame x env;theTreesLotGoes x:RE Unit).wrap (fun _=>.raise x) .raise id id) fs s') s1)
   (fun x s'=>Sx (model prog w) A R Y n s₀ (.forLoop target it body orelse env) ((do noteFrame x env;theTreesLotGoes x:RE Unit).wrap (fun _=>.raise x) .raise id id) fs s') s):
  Sx (model prog w) A R Y n s₀ (.forLoop target it body orelse env) ((model prog w).den (.forLoop target it body orelse env)) fs s:=by
 show Sx _ A R Y n s₀ _ ((forTurn target it body orelse env).onRaise (fun x=>do noteFrame x env;theTreesLotGoes x)) fs s
 have e:forTurn target it body orelse env=((do standAt target.pos;(pyNext it).onRaise (fun _=>standAt { target.pos with line:=0 })):RE (Option MU)).bind fun r=>match r with
   |none=>.pure (.again (.block orelse env))
   |some v=>((do letOwnedTupleGo target it v;assign target env v):RE Unit).bind fun _=>(execs body env).bind fun f=>match f with
    |.next|.cont=>.pure (.again (.forLoop target it body orelse env))
    |.brk=>.pure (.done .next)
    |.ret v=>.pure (.done (.ret v)):=by
  show _=((_:RE (Option MU))>>= (_:Option MU→RE O7))
  unfold forTurn
  simp only[bind_assoc]
  congr 1;funext _
  congr 1;funext r
  cases r with
  |none=>rfl
  |some v=>
   show _=((_:RE Unit)>>= (_:Unit→RE O7))
   simp only[bind_assoc]
   rfl
 rw[e,Qu,Oh,Qw]
 refine UR ?_
 refine MV (N9 (wpAny_onRaise (Og h (fun r s1 h1=>?_) fun x s' hx=>N9 ?_)))
 ·cases r with
  |none=>exact h1
  |some v=>
   show Sx _ A R Y n s₀ _ (Sem.wrap _ _ _ _ (Sem.bind _ _)) fs s1
   rw[Oh,Qw]
   refine UR (MV (Og h1 (fun _ s2 h2=>Og h2 (fun _ s3 h3=>?_) fun x s' hx=>?_) fun x s' hx=>?_))
   ·show Sx _ A R Y n s₀ _ (Sem.wrap _ _ _ _ (Sem.bind _ _)) fs s3
    rw[Oh,Qw]
    rw[Sem.wrap_congr (execs body env) _ _ (K':=fun f=>match f with
      |.next|.cont=>.pure (.again (.forLoop target it body orelse env))
      |.brk=>.pure (.done .next)
      |.ret v=>.pure (.done (.ret v))) (H':=(fun e=>(do noteFrame e env;theTreesLotGoes e:RE Unit).wrap (fun _=>.raise e) .raise id id))
     (fun f=>by cases f<;>rfl)
     (fun e=>by first|exact Oh _ _|(show(do noteFrame e env;theTreesLotGoes e:RE Unit).bind (fun _=>.raise e)=_;rw[Oh]))]
    exact h3
   ·first
     |exact hx
     |(rw[←Oh]at hx;exact hx)
     |(show Sx _ A R Y n s₀ _ ((do noteFrame x env;theTreesLotGoes x:RE Unit).bind fun _=>.raise x) fs s';rw[Oh];exact hx)
   ·first
     |exact hx
     |(rw[←Oh]at hx;exact hx)
     |(show Sx _ A R Y n s₀ _ ((do noteFrame x env;theTreesLotGoes x:RE Unit).bind fun _=>.raise x) fs s';rw[Oh];exact hx)
 ·first
   |exact hx
   |(rw[←Oh]at hx;exact hx)
   |(show Sx _ A R Y n s₀ _ ((do noteFrame x env;theTreesLotGoes x:RE Unit).bind fun _=>.raise x) fs s';rw[Oh];exact hx)
end
end Rk
end

section
namespace Rk
open PySem PySem.W PySem.Calls PyProof.Rows PySem.SeqAt
namespace G
noncomputable def cZ:Sc:=[.lc "addr",.lc "pos",.lc "escape",.lc "ch",.gl 34]
noncomputable def ID:Nat→Nf:=fun _=>⟨"",⟨[],[],none,[],[],none,[]⟩,[],0,.nil,[]⟩
noncomputable def s0(q:Nat→NW):S:=.asg (.bM 1 (q 0)) (.cI 0 0 (q 1)) (q 2)
noncomputable def s1(q:Nat→NW):S:=.asg (.bM 2 (q 3)) (.cB false 0 (q 4)) (q 5)
noncomputable def tg(q:Nat→NW):T:=.tup [(1,q 6),(3,q 7)] 0 (q 8)
noncomputable def it(q:Nat→NW):E:=.call (.var 4 (q 9)) (.cons (.var 0 (q 10)) .nil) .bH default (q 11)
noncomputable def e1(q:Nat→NW):E:=.var 2 (q 12)
noncomputable def y1(q:Nat→NW):E:=.tup (.cons (.var 1 (q 13)) (.cons (.bin .Add (.cS [92] 0 (q 14)) (.var 3 (q 15)) (q 16)) .nil)) 0 (q 17)
noncomputable def a1(q:Nat→NW):S:=.asg (.bM 2 (q 20)) (.cB false 0 (q 21)) (q 22)
noncomputable def e2(q:Nat→NW):E:=.cmp .Eq (.var 3 (q 23)) (.cS [92] 0 (q 24)) (q 25)
noncomputable def a2(q:Nat→NW):S:=.asg (.bM 2 (q 26)) (.cB true 0 (q 27)) (q 28)
noncomputable def y2(q:Nat→NW):E:=.tup (.cons (.var 1 (q 29)) (.cons (.var 3 (q 30)) .nil)) 0 (q 31)
noncomputable def e3(q:Nat→NW):E:=.var 2 (q 36)
noncomputable def y3(q:Nat→NW):E:=.tup (.cons (.var 1 (q 37)) (.cons (.cS [92] 0 (q 38)) .nil)) 0 (q 39)
noncomputable def loopBody(q:Nat→NW):List Td:=
 [.If (bw (e1 q) cZ) [.Expr (.Yield (some (bw (y1 q) cZ)) (q 18)) (q 19),toS ID (a1 q) cZ]
  [.If (bw (e2 q) cZ) [toS ID (a2 q) cZ] [.Expr (.Yield (some (bw (y2 q) cZ)) (q 32)) (q 33)] (q 34)] (q 35)]
noncomputable def body(q:Nat→NW):List Td:=
 [toS ID (s0 q) cZ,toS ID (s1 q) cZ,.For (toT cZ (tg q)) (bw (it q) cZ) (loopBody q) [] (q 42),
 .If (bw (e3 q) cZ) [.Expr (.Yield (some (bw (y3 q) cZ)) (q 40)) (q 41)] [] (q 43)]
end G
end Rk
end

section
namespace Rk
open PySem PySem.W PySem.Calls PyProof.Rows PySem.SeqAt
section
variable {C:Cx} {W:Wt} {st:ao} {s s':MT}
theorem cW{g:Nat}{x:Su}(h:QH s.gens)(hx:x.bare=true):QH (s.setGen g x).gens:=by
 intro y hy
 simp only[Uk]at hy
 obtain⟨i,hi,rfl⟩:=Array.mem_iff_getElem.mp hy
 have hi':i<s.gens.size:=by simpa using hi
 rw[Array.getElem_setIfInBounds hi']
 split
 ·exact hx
 ·exact h _ (Array.getElem_mem hi')
theorem au.setGen{g:Nat}{x:Su}(R:au C W st s)(hx:x.bare=true):au C W st (s.setGen g x):=⟨R.r,R.os,cW R.bare hx⟩
theorem gr{g g':Nat}{x:Su}(h:g'≠g):(s.setGen g x).gens[g']? =s.gens[g']? :=by
 simp only[Uk]
 rw[Array.getElem?_setIfInBounds_ne (fun e=>h e.symm)]
theorem setGen_self{g:Nat}{x y:Su}(h:s.gens[g]? =some y):(s.setGen g x).gens[g]? =some x:=by
 simp only[Uk]
 have:=(Qj.mp h).1
 rw[Array.getElem?_setIfInBounds_self];simp[this]
end
end Rk
end

section
namespace Rk
open PySem PySem.W PySem.Calls PyProof.Rows PySem.SeqAt
inductive IE (C:Cx) (g:Nat) (q:Nat→NW):Prop
 |mk (o:Ug) (fd:OM) (ho:C.h₁.get? (C.addr g)=some o) (hd:o.data= .func fd) (hb:fd.body= .stmts (G.body q)) (hsc:fd.scope={ Sc.scope G.cZ with isGenerator:=true }) (hcl:fd.closure=[])
  (hgl:fd.globals=mainGlobals) (hbu:fd.builtins=builtinsNs) (hcode:vL C fd) (hbind:∀(v:MU) (s:MT),SN s fd ⟨[v],[]⟩ [(("addr":NT),v)])
structure By (C:Cx) (g:Nat) (q:Nat→NW):Prop where
 nt:C.addr g∉C.ta
 gl:mC C.bN G.cZ=true
 ex:IE C g q
noncomputable def om(fd:OM)(a L:Na)(cells:List (NT×Na)):OZ:=newEnv { Sc.scope G.cZ with isGenerator:=true } L mainGlobals cells (fd.qualname++(".<locals>.":NT)) (some a) fd.code none builtinsNs
noncomputable def m5(p e ch:Option V)(addr:List Nat)(kb:Nat):En:=⟨[.loc (some (.str addr)),.loc p,.loc e,.loc ch,.cY (cH 34)],kb⟩
section
variable {C:Cx} {W:Wt} {st:ao} {s s':MT} {A:NF} {Ex:MU→MT→Prop}
theorem FA{env:OZ}{p e ch:Option V}{l:List Nat}{kb:Nat}(i:Nat)(x:SE)(w:SV)(h1:G.cZ[i]? =some x)(h3:(m5 p e ch l kb).ρ[i]? =some w):CB W (m5 p e ch l kb) env x w:=by
 match i,h1,h3 with
 |0,h1,h3=>cases h1;cases h3;trivial
 |1,h1,h3=>cases h1;cases h3;trivial
 |2,h1,h3=>cases h1;cases h3;trivial
 |3,h1,h3=>cases h1;cases h3;trivial
 |4,h1,h3=>cases h1;cases h3;rfl
 |i+5,h1,h3=>cases h1
theorem IF{l:List Nat}{kb:Nat}(i:Nat)(n:NT)(v:V)(h1:G.cZ[i]? =some (.lc n))(h3:(m5 none none none l kb).ρ[i]? =some (.loc (some v))):n="addr"∧v= .str l:=by
 match i,h1,h3 with
 |0,h1,h3=>exact⟨(SE.lc.inj (M0 h1)).symm,(M0 (SV.loc.inj (M0 h3))).symm⟩
 |1,h1,h3=>cases h3
 |2,h1,h3=>cases h3
 |3,h1,h3=>cases h3
 |4,h1,h3=>cases h1
 |i+5,h1,h3=>cases h1
theorem wG(ok:bF C){g:Nat}{q:Nat→NW}(F:By C g q){l:List Nat}{c:MU}{Q:MU→MT→Prop}(R:au C W st s)(hroom:A.depth<recursionLimit)(rc:VR C W s.heap (.str l) c)
  (h:∀fd cells s2,au C ⟨W.ay,W.aB,s.heap.objs.size::W.X⟩ st s2→At C G.cZ (om fd (C.addr g) s.heap.objs.size cells) (m5 none none none l st.κ.length) ⟨W.ay,W.aB,s.heap.objs.size::W.X⟩ st s2→dF C G.cZ (om fd (C.addr g) s.heap.objs.size cells)→
   (∀a o,s.heap.get? a=some o→s2.heap.get? a=some o)→s2.gens=s.gens→s2.os=s.os→ ∀t1 t2,
   Q (.ref s2.heap.objs.size) { s2 with gens:=s2.gens.push (.fresh (.func (G.body q) (om fd (C.addr g) s.heap.objs.size cells))),toks:=s2.toks+1+1,heap:=s2.heap.push { cls:=.type "generator",data:=.fields #[.int s2.gens.size 0,.str fd.name t1,.str fd.qualname t2] } }):
  wpAny (model C.prog C.w) A (N5 (.ref (C.addr g)) [c] []) Q Ex s:=by
 obtain⟨o,fd,ho,hd,hb,hsc,hcl,hgl,hbu,⟨cd,oc,vs,t,hcd,hct,hoc,hdc,hq⟩,hbind⟩:=F.ex
 have hnd:=fO F.gl
 refine wpAny_call (codeAny_call_generator (by omega) (R.r.keep _ _ ho F.nt) hd (by rw[hsc];rfl) (by rw[hsc]) hb ⟨cd,oc,vs,t,hcd,R.r.keep _ _ hoc hct,hdc,hq⟩ (hbind c s _ _ _ _ ?_))
 rw[hsc,hgl,hbu,hcl]
 refine eM (sc:=G.cZ) rfl fun env henv=>?_
 clear hroom ho hsc hcl hgl hbu hcd hct hoc hdc hq hbind
 obtain⟨R1,x1,F1⟩:=jf (env:=env) (c:="frame") (sc:=G.cZ) (fr:=[]) (cl:=[]) R hnd ⟨rfl,by simp⟩ rfl (by rw[henv];rfl) (by rw[henv];rfl)
 have B:dF C G.cZ env:=by
  refine oj F.gl (by rw[henv];rfl) (by rw[henv];rfl) (by rw[henv];rfl) fun i x hx=>?_
  have h1:=eo (f:=SE.kind) hnd hx
  have h2:env.kindOf x.name=some x.kind:=by rw[henv];exact h1
  clear h hb hnd henv R1 hx h1
  cases x with
  |lc nm=>exact h2
  |ce nm=>exact h2
  |fe nm o=>exact .inl h2
  |gl k=>exact h2
 have hk:env.kindOf ("addr":NT)=some .local:=(B.names 0 (.lc "addr") rfl).1
 obtain⟨m,hn,_⟩:=F1.ns
 rw[P1]
 refine MV (MV (Pr hk hn (fun h2 hn2 hs2=>Nb ?_) (by rw[B.kind];rfl)))
 have hL:env.locals=s.heap.objs.size:=by rw[henv];rfl
 have hkeep:∀a o,s.heap.get? a=some o→h2.get? a=some o:=fun a o e=>(hs2.2 a (fun q=>by rw[q,hL,aC (M9 _)]at e;cases e)).trans (bR _ _ _ _ _ e)
 obtain⟨S2,R2⟩:=au.zh (t:=s.toks+1) R1 F1.loc hs2 (let ⟨o,_,_,e,_⟩:=hn2;⟨o,e⟩)
 have x2:=(S2 [env.locals] (by simp)).ext (fun b hb=>by simp at hb;subst hb;exact aF F1.loc)
 have X2:At C G.cZ env (m5 none none none l st.κ.length) ⟨W.ay,W.aB,s.heap.objs.size::W.X⟩ st { s with heap:=h2,toks:=s.toks+1 }:=by
  have e1:W.aB++addrs (s.heap.objs.size+1) (jx G.cZ)=W.aB:=Nc _
  have e2:({ st with κ:=(aV G.cZ [] [] st.κ).2 }:ao)=st:=rfl
  rw[e1]at R2 x2
  rw[e1]at x1
  refine⟨R2,⟨rfl,by rw[hL];exact Nk,⟨_,hn2,fun i nmx v h1 h3=>?_⟩,FA⟩⟩
  clear h hb hnd henv R1 hk hn hL hkeep S2 R2 e1 e2
  obtain⟨rfl,rfl⟩:=IF i nmx v h1 h3
  exact⟨c,if_pos rfl,VR.ext x2 (VR.ext x1 rc)⟩
 refine Nb (α:=PUnit) ⟨kJ ok X2.r.r,?_⟩
 clear hb hnd R1 hk hn hL S2 R2
 subst henv
 exact h fd _ _ X2.r X2 B hkeep rfl rfl _ _
end
end Rk
end

section
namespace Rk
open PySem PySem.W PySem.Calls PyProof.Rows PySem.SeqAt
noncomputable def Cx.bare(C:Cx):Cx:={ C with h₁:={},tabs:=[] }
noncomputable def W0(RS:List Na):Wt:=⟨[],[],RS⟩
noncomputable def ik:ao:=⟨[],[]⟩
noncomputable def V.xY:V→Bool
 |.none|.bool _|.int _|.str _=>true
 |_=>false
theorem VR.xY{C C':Cx}{W W':Wt}{h h':NX}{v:V}{c:MU}(k:v.xY=true)(r:VR C W h v c):VR C' W' h' v c:=by
 cases v with
 |none=>exact r
 |bool _=>exact r
 |int _=>exact r
 |str _=>exact r
 |_=>exact nomatch k
theorem rz(a:Na):({}:NX).get? a=none:=aC (NG _)
section
variable {C:Cx} {W:Wt} {st:ao} {s s' s'':MT} {A:NF} {Ex:MU→MT→Prop} {env:OZ} {en:En} {RS:List Na}
theorem aL.refl{wr:List Na}{gw:List Nat}(s:MT):aL wr gw s s:=⟨fun _ _ e _=>e,rfl,fun _ _ e _=>e,id⟩
theorem aL.trans{wr:List Na}{gw:List Nat}(x:aL wr gw s s')(y:aL wr gw s' s''):aL wr gw s s'':=
 ⟨fun a o e h=>y.keep a o (x.keep a o e h) h,y.os.trans x.os,fun g gs e h=>y.gens g gs (x.gens g gs e h) h,fun h=>y.bare (x.bare h)⟩
theorem aL.mono{wr wr':List Na}{gw:List Nat}(x:aL wr gw s s')(h:∀a∈wr,a∈wr'):aL wr' gw s s':=
 ⟨fun a o e hn=>x.keep a o e fun q=>hn (h a q),x.os,x.gens,x.bare⟩
theorem PS.mF{wr:List Na}{gw:List Nat}(x:PS s s'):aL wr gw s s':=⟨fun a o e _=>x.keep a o e,x.os,fun g gs e _=>by rw[x.gens];exact e,fun h=>by rw[x.gens];exact h⟩
theorem pJ(hnd:RS.Nodup)(hl:∀b∈RS,∃o,s.heap.get? b=some o)(hos:s.os=C.os)(hb:QH s.gens):au C.bare (W0 RS) ik s where
 r:={
  keep:=fun a o e=>by have:({}:NX).get? a=some o:=e;rw[rz]at this;cases this
  tabs:=fun T hT=>by cases hT
  grown:=fun T hT=>by cases hT
  jC:=rfl
  ng:=rfl
  σ:=fun i l a e=>by simp[ik]at e
  κ:=fun i l a e=>by simp[ik]at e
  nodup:=hnd
  lo:=fun a ha=>⟨rz a,hl a ha⟩ }
 os:=hos
 bare:=hb
theorem mK{p e ch:Option V}{l:List Nat}{kb:Nat}(hp:∀v,p=some v→v.xY=true)(he:∀v,e=some v→v.xY=true)(hc:∀v,ch=some v→v.xY=true):
  ∀(i:Nat) v,(m5 p e ch l kb).ρ[i]? =some (.loc (some v))→v.xY=true:=by
 intro i v h
 match i,h with
 |0,h=>cases h;rfl
 |1,h=>simp[m5]at h;exact hp _ h
 |2,h=>simp[m5]at h;exact he _ h
 |3,h=>simp[m5]at h;exact hc _ h
 |4,h=>simp[m5]at h
 |i+5,h=>simp[m5]at h
theorem oq{C':Cx}{p e ch:Option V}{l:List Nat}{kb kb':Nat}(F:Fr C' W G.cZ (m5 p e ch l kb) env s.heap)(himm:∀(i:Nat) v,(m5 p e ch l kb).ρ[i]? =some (.loc (some v))→v.xY=true)
  (hL:env.locals∈RS) (hk:∀o,s.heap.get? env.locals=some o→s'.heap.get? env.locals=some o) (R:au C.bare (W0 RS) ik s'):At C.bare G.cZ env (m5 p e ch l kb') (W0 RS) ik s':=by
 refine⟨R,rfl,hL,?_,?_⟩
 ·obtain⟨m,hn,hm⟩:=F.ns
  refine⟨m,hn.at' hk,fun i n v h1 h2=>?_⟩
  obtain⟨c,h3,h4⟩:=hm i n v h1 h2
  exact⟨c,h3,VR.xY (himm i v h2) h4⟩
 ·exact FA
theorem rD{C:Cx}{sc:Sc}{en:En}(B:dF C sc env)(X:At C sc env en W st s){i:Nat}{nmx:NT}{ov:Option V}{v:V}{c:MU}{Q:Unit→MT→Prop}(hx:sc[i]? =some (.lc nmx))(hw:en.ρ[i]? =some (.loc ov))(hv:VR C W s.heap v c)
  (h:∀h' m,Pf env.locals s.heap h'→At C sc env { en with ρ:=en.ρ.set i (.loc (some v)) } W st { s with heap:=h',toks:=s.toks+1 }→h'.Ns env.locals m→m nmx=some c→Q () { s with heap:=h',toks:=s.toks+1 }):
  wpAny (model C.prog C.w) A (storeName env (nm sc i) c) Q Ex s:=by
 have hi:i<en.ρ.length:=(MW.mp hw).1
 obtain⟨hk,hg⟩:=B.names i _ hx
 rw[lg hx]
 obtain⟨m,hn,hm⟩:=X.fr.ns
 refine Pr hk hn (fun h' hn' hs'=>?_) (by rw[B.kind];rfl)
 obtain⟨S,R'⟩:=au.zh (t:=s.toks+1) X.r X.fr.loc hs' (let ⟨o,_,_,e,_⟩:=hn';⟨o,e⟩)
 have S1:=S (Ub W en.kb env.locals) (by simp[Ub])
 have Xt:=S1.ext (jR X.fr)
 refine h _ _ hs' ⟨R',⟨by simp[X.fr.len],X.fr.loc,⟨_,hn',fun j n' v' h1 h2=>?_⟩,fun j x' w' h1 h2=>?_⟩⟩ hn' (by simp[SE.name])
 ·by_cases hj:j=i
  ·subst hj
   rw[hx]at h1;cases h1
   simp only[Nv hi,NP,SV.loc.injEq]at h2
   subst h2
   exact⟨c,by simp[SE.name],VR.ext Xt hv⟩
  ·rw[Ou (fun e=>hj e.symm)]at h2
   obtain⟨c',h3,h4⟩:=hm j n' v' h1 h2
   have hne:n'≠nmx:=fun e=>hj (by
    have:=B.nodup
    have e1:(sc.map SE.name)[j]? =some nmx:=by rw[Nr,h1];simp[SE.name,e]
    have e2:(sc.map SE.name)[i]? =some nmx:=by rw[Nr,hx];simp[SE.name]
    have h1':=MW.mp e1
    have h2':=MW.mp e2
    exact(Qm this).mp (h1'.2.trans h2'.2.symm))
   exact⟨c',(if_neg hne).trans h3,VR.ext Xt h4⟩
 ·by_cases hj:j=i
  ·subst hj
   rw[hx]at h1;cases h1
   simp only[Nv hi,NP]at h2
   subst h2
   trivial
  ·rw[Ou (fun e=>hj e.symm)]at h2
   have:=X.fr.vy j x' w' h1 h2
   exact CB.at (W:=W) (en:=en) rfl rfl this
theorem j1{C:Cx}{sc:Sc}{en:En}(B:dF C sc env)(X:At C sc env en W st s){i:Nat}{nmx:NT}{ov:Option V}{v:V}{c:MU}{Q:Unit→MT→Prop}(hx:sc[i]? =some (.lc nmx))(hw:en.ρ[i]? =some (.loc ov))(hv:VR C W s.heap v c)
  (h:∀h',Pf env.locals s.heap h'→At C sc env { en with ρ:=en.ρ.set i (.loc (some v)) } W st { s with heap:=h',toks:=s.toks+1 }→Q () { s with heap:=h',toks:=s.toks+1 }):
  wpAny (model C.prog C.w) A (storeName env (nm sc i) c) Q Ex s:=
 rD B X hx hw hv fun h' _ hs X' _ _=>h h' hs X'
theorem zE{C:Cx}(B:dF C G.cZ env)(X:At C G.cZ env en W st s){i:Nat}{nmx:NT}{v:V}{p:NW}{Q:MU→MT→Prop}(hx:G.cZ[i]? =some (.lc nmx))(hi:en.ρ[i]? =some (.loc (some v)))(h:∀c,VR C W s.heap v c→Q c s):
  wpAny (model C.prog C.w) A (eval (bw (.var i p) G.cZ) env) Q Ex s:=by
 refine bc fun hN0=>?_
 obtain⟨hk,hg⟩:=B.names i _ hx
 obtain⟨m,hn,hm⟩:=X.fr.ns
 obtain⟨c,h3,h4⟩:=hm i _ v hx hi
 refine hN0 ?_
 show wpAny _ _ (eval (.Name (nm G.cZ i) p) env) _ _ _
 rw[lg hx]
 refine Q7 (Qh B.kind hk hn h3 (h c h4)) ?_
 simp only[oY,Nu,beq_iff_eq]at hg
 exact hg.1.1
theorem KZ{x:List Nat}{k:Nat}{p:NW}{Q:MU→MT→Prop}(h:∀t,Q (.str ⟨x.toArray⟩ t) { s with toks:=s.toks+1 }):wpAny (model C.prog C.w) A (eval (bw (.cS x k p) G.cZ) env) Q Ex s:=
 fun _ _ _=>h _
theorem LR{b:Bool}{k:Nat}{p:NW}{Q:MU→MT→Prop}(h:Q (.bool b) s):wpAny (model C.prog C.w) A (eval (bw (.cB b k p) G.cZ) env) Q Ex s:=
 fun _ _ _=>h
theorem Mv{i:Int}{k:Nat}{p:NW}{Q:MU→MT→Prop}(h:∀t,Q (.int i t) { s with toks:=s.toks+1 }):wpAny (model C.prog C.w) A (eval (bw (.cI i k p) G.cZ) env) Q Ex s:=
 fun _ _ _=>h _
theorem K0{C:Cx}(B:dF C G.cZ env)(X:At C G.cZ env en W st s){i:Int}{e2:E}{x:List Nat}{pp p:NW}{Q:MU→MT→Prop}(hi:en.ρ[1]? =some (.loc (some (.int i))))
  (h2:∀Q':MU→MT→Prop,(∀t s',PS s s'→Q' (.str ⟨x.toArray⟩ t) s')→wpAny (model C.prog C.w) A (eval (bw e2 G.cZ) env) Q' Ex s) (hx:x.length≤lid)
  (h:∀s' T cs,PS s s'→s.heap.get? T=none→s'.heap.IsTuple T cs→(∀C W h,aY C W h [.int i,.str x] cs.toList)→Q (.ref T) s'):
  wpAny (model C.prog C.w) A (eval (bw (.tup (.cons (.var 1 pp) (.cons e2 .nil)) 0 p) G.cZ) env) Q Ex s:=by
 refine wpAny_Tuple ?_
 show wpAny _ _ (spliced (backTo p (starEach (bw (.var 1 pp) G.cZ::bw e2 G.cZ::[]) env))) _ _ _
 rw[cu,cu]
 refine Pj (zE B X rfl hi fun c r=>Pj (h2 _ fun t s' P=>?_))
 rw[mw]
 refine PB ⟨by unfold sizeLine;simp,?_⟩
 obtain⟨u,rfl⟩:=r
 have P2:=PS.push s' { cls:=.type "tuple",data:=.seq #[.int i u,.str ⟨x.toArray⟩ t] } s'.toks
 have hnew:=Nl s'.heap (o:={ cls:=.type "tuple",data:=.seq #[.int i u,.str ⟨x.toArray⟩ t] }) rfl
 refine h _ s'.heap.objs.size #[.int i u,.str ⟨x.toArray⟩ t] (P.trans P2) ?_ ⟨_,hnew,rfl,_,rfl⟩ fun C W h=>⟨_,_,rfl,⟨u,rfl⟩,_,_,rfl,⟨t,rfl,hx⟩,rfl⟩
 cases e:s.heap.get? s'.heap.objs.size with
 |none=>rfl
 |some o=>have:=P.keep _ _ e;rw[aC (M9 _)]at this;cases this
end
section
variable {prog:Rp} {w:Tr} {A:NF} {Ex:MU→MT→Prop} {s:MT}
open Builtin
theorem pK{it:Na}{x:NT}{t:Vt}{i:Nat}{Q:MU→MT→Prop}(hh:A.handled=none)(hit:s.heap.IsStrIter it "str_ascii_iterator" x t i)(hx:x.cps[i]? =none)
  (hE:∀h' e,PU it s.heap h'→(∃o,h'.get? it=some o)→(∃o,h'.get? e=some o∧o.cls= .type "StopIteration")→Ex (.ref e) { s with heap:=h' }):
  wpAny (model prog w) A (OW (.ref it)) Q Ex s:=by
 obtain⟨o,ho,hc,hd⟩:=id hit
 unfold OW
 refine MV (O6 (name:=QF "__next__") hit.typeIs Q8
  (PN Q8 hit.typeIs F.entry_str_ascii_iterator_next ?_ (F.args_str_ascii_iterator_next_1 _)))
 show wpAny _ _ (field (.ref it) 0>>= _) _ _ s
 refine MV (Rd ho hd (x:=.str x t) rfl ?_)
 show wpAny _ _ (field (.ref it) 1>>= _) _ _ s
 refine MV (Rd ho hd (x:=.int i 0) rfl ?_)
 simp only[NQ,hx]
 refine MV (VA (MV (wpAny_setField ho hd (by simp) (MV (wpAny_letGo ?_)))))
 show wpAny _ _ (newExc (.type "StopIteration") []>>= _) _ _ _
 refine MV ?_
 simp only[newExc,newTuple]
 refine MV (Oi ?_ (by size_fits))
 refine MV (m:=firstArgMember _ _) (Vj (a:=O_) (by first|rfl|(simp only[firstArgMember];rfl)) ?_)
 refine Oi ?_ (by size_fits)
 refine Ro hh ?_
 exact hE _ _ (((Rn ..).extBut.push _).push _) ⟨_,Ni _ (Ni _ (Ti _ ho (Tj (Ux hd _))))⟩ ⟨_,Nl _ rfl,rfl⟩
theorem qF{it:Na}{x:NT}{t:Vt}{i:Nat}{Q:MU→MT→Prop}(hh:A.handled=none)(hit:s.heap.IsStrIter it "str_iterator" x t i)(hx:x.cps[i]? =none)
  (hE:∀h' e,PU it s.heap h'→(∃o,h'.get? it=some o)→(∃o,h'.get? e=some o∧o.cls= .type "StopIteration")→Ex (.ref e) { s with heap:=h' }):
  wpAny (model prog w) A (OW (.ref it)) Q Ex s:=by
 obtain⟨o,ho,hc,hd⟩:=id hit
 unfold OW
 refine MV (O6 (name:=QF "__next__") hit.typeIs Sg
  (PN Sg hit.typeIs F.entry_str_iterator_next ?_ (F.args_str_iterator_next_1 _)))
 show wpAny _ _ (field (.ref it) 0>>= _) _ _ s
 refine MV (Rd ho hd (x:=.str x t) rfl ?_)
 show wpAny _ _ (field (.ref it) 1>>= _) _ _ s
 refine MV (Rd ho hd (x:=.int i 0) rfl ?_)
 simp only[NQ,hx]
 refine MV (VA (MV (wpAny_setField ho hd (by simp) (MV (wpAny_letGo ?_)))))
 show wpAny _ _ (newExc (.type "StopIteration") []>>= _) _ _ _
 refine MV ?_
 simp only[newExc,newTuple]
 refine MV (Oi ?_ (by size_fits))
 refine MV (m:=firstArgMember _ _) (Vj (a:=O_) (by first|rfl|(simp only[firstArgMember];rfl)) ?_)
 refine Oi ?_ (by size_fits)
 refine Ro hh ?_
 exact hE _ _ (((Rn ..).extBut.push _).push _) ⟨_,Ni _ (Ni _ (Ti _ ho (Tj (Ux hd _))))⟩ ⟨_,Nl _ rfl,rfl⟩
theorem qG{e it:Na}{x:NT}{t:Vt}{i:Int}{j:Nat}{old:MU}{Q:Option MU→MT→Prop}(hh:A.handled=none)
  (he:U6 s.heap e it i old) (hst:s.heap.IsStrIter it (strIterType x) x t j) (hx:x.cps[j]? =none)
  (hQ:∀h',PU it s.heap h'→(∃o,h'.get? it=some o)→Q none { s with heap:=h' }):wpAny (model prog w) A (pyNext (.ref e)) Q Ex s:=by
 have hT:s.TypeIs (.ref e) "enumerate":=⟨_,he,rfl⟩
 unfold pyNext
 refine MV (wpAny_attempt (O6 (name:=QF "__next__") hT Tn
  (PN Tn hT F.entry_enumerate_next ?_ (F.args_enumerate_next_1 _))))
 show wpAny _ _ (field (.ref e) 2>>= _) _ _ _
 refine MV (Rd he rfl (x:=.ref it) rfl ?_)
 have fin:∀{Q':MU→MT→Prop} {E':MU→MT→Prop},(∀h' e,PU it s.heap h'→(∃o,h'.get? it=some o)→(∃o,h'.get? e=some o∧o.cls= .type "StopIteration")→E' (.ref e) { s with heap:=h' })→
   wpAny (model prog w) A.in1 (OW (.ref it)) Q' E' s:=fun h=>by
  unfold strIterType at hst
  split at hst
  ·exact pK (A:=A.in1) (show A.in1.handled=none from hh) hst hx h
  ·exact qF (A:=A.in1) (show A.in1.handled=none from hh) hst hx h
 refine MV (fin fun h' x he' hl hx'=>?_)
 obtain⟨o,ho,hc⟩:=hx'
 refine MV (Sv (T:="StopIteration") (b:=true) ⟨o,ho,hc⟩ isSubtype_stop ?_)
 exact Nb (hQ _ he' hl)
end
theorem sX{l:List Nat}{tk:Vt}(z:Na):∃St:Nat→List Na→MT→Prop,
  (∀(C:Cx) (A:NF) elts k pos,A.handled=none→It C A (.Tuple elts k pos) (z+1) [] [] [] (vW (.lst (eU 0 (l.map fun c=>.str [c])))) [] St)∧(∀i wr s,St i wr s→wr=[z+1,z])∧
  (∀s,U6 s.heap (z+1) z 0 .none→s.heap.IsStrIter z (strIterType ⟨l.toArray⟩) ⟨l.toArray⟩ tk 0→St 0 [z+1,z] s)∧
  (∀(prog:Rp) (w:Tr) (A:NF) i wr s (Q:Option MU→MT→Prop) Ex,A.handled=none→l.length≤i→St i wr s→(∀h',(∀b o,b∉[z+1,z]→s.heap.get? b=some o→h'.get? b=some o)→(∀b∈[z+1,z],∃o,h'.get? b=some o)→Q none { s with heap:=h' })→
   wpAny (model prog w) A (pyNext (.ref (z+1))) Q Ex s)∧
  (∀i wr s s',St i wr s→(∀b∈wr,∀o,s.heap.get? b=some o→s'.heap.get? b=some o)→St i wr s'):=by
 refine⟨fun i wr' s=>wr'=[z+1,z]∧i≤(⟨l.toArray⟩:NT).cps.size∧((∃old,U6 s.heap (z+1) z i old)∧s.heap.IsStrIter z (strIterType ⟨l.toArray⟩) ⟨l.toArray⟩ tk i),fun C A elts k pos hh=>?_,fun i wr s h=>h.1,fun s h1 h2=>⟨rfl,NG _,⟨_,h1⟩,h2⟩,fun prog w A i wr s Q Ex hh hi hst hQ=>?_,fun i wr s s' hst hk=>⟨hst.1,hst.2.1,hst.2.2.1.imp fun old e=>hk _ (by rw[hst.1];simp) _ e,let ⟨o,e,r⟩:=hst.2.2.2;⟨o,hk _ (by rw[hst.1];simp) o e,r⟩⟩⟩
 rotate_left
 ·obtain⟨_,_,⟨old,he⟩,hs⟩:=hst
  refine qG hh he hs (Ph (by simpa using hi)) fun h' hx hl=>hQ h' (fun b o hb e=>hx b o (fun q=>hb (by simp[q])) e) fun b hb=>?_
  simp at hb
  clear hh hs
  rcases hb with rfl|rfl
  ·exact⟨_,hx _ _ (PT _) he⟩
  ·exact hl
 have h1:z+1≠z:=PT _
 have D:∃P,P=(fun(i:Nat) (v:MU)=>∃c u,(⟨l.toArray⟩:NT).cps[i]? =some c∧v= .str ⟨#[c]⟩ u)∧Draws C.prog C.w A.in1 z [z] (⟨l.toArray⟩:NT).cps.size P (fun i h=>h.IsStrIter z (strIterType ⟨l.toArray⟩) ⟨l.toArray⟩ tk i):=by
  refine⟨_,rfl,?_⟩
  unfold strIterType
  split
  ·exact Vy (A:=A.in1) (show A.in1.handled=none from hh) _ _ _
  ·exact VS (A:=A.in1) (show A.in1.handled=none from hh) _ _ _
 clear hh
 obtain⟨P,rfl,D⟩:=D
 refine It.o5 (RS:=[z+1,z]) (l:=eU 0 (l.map fun c=>.str [c])) (UN D (z+1) h1 (by simp) (by simp))
  (fun i h=>(∃old,U6 h (z+1) z i old)∧h.IsStrIter z (strIterType ⟨l.toArray⟩) ⟨l.toArray⟩ tk i) (by rw[gp];simp)
  (fun i h h' hc hk=>⟨hc.1.imp fun old e=>hk _ (by simp) _ e,let ⟨o,e,r⟩:=hc.2;⟨o,hk _ (by simp) o e,r⟩⟩) (fun b hb=>hb) (fun i h hc b hb=>?_)
  (fun i h hc hz=>hc) (fun i h hst=>hst)
  (fun i s Q Ex hc hQ=>let ⟨⟨old,he⟩,_⟩:=hc;PD he hQ) (fun i v vals W h hv hr hP=>?_)
 ·simp at hb
  clear h1
  rcases hb with rfl|rfl
  ·obtain⟨⟨old,e⟩,_⟩:=hc;exact⟨_,e⟩
  ·obtain⟨_,o,e,_⟩:=hc;exact⟨o,e⟩
 ·obtain⟨x,h1,rfl⟩:=kL hv
  obtain⟨t,c,h2,rfl⟩:=hP
  exact⟨_,rfl,⟨_,_,rfl,⟨t,by simp⟩,_,_,rfl,mE h1 h2,rfl⟩,by unfold lid;simp⟩
end Rk
end

section
set_option backward.match.sparseCases true
namespace Rk
open PySem PySem.W PySem.Calls PyProof.Rows PySem.SeqAt
noncomputable def GY(C:Cx)(RS:List Na)(its:List V):VD:=fun m s₀ v s kap=>
 (∃T cs l',v= .ref T∧its[its.length-1-m]? =some (.tup l')∧l'.length≤lid∧(∀C W h,aY C W h l' cs.toList)∧s₀.heap.get? T=none∧T∉RS∧s.heap.IsTuple T cs)∧aL RS [] s₀ s∧(∀b∈RS,∃o,s.heap.get? b=some o)∧
 ∀s'',s''.os=C.os→QH s''.gens→(∀b∈RS,∀o,s.heap.get? b=some o→s''.heap.get? b=some o)→kap (.send .none) s''
noncomputable def GP(RS:List Na):Nat→MT→MT→Prop:=fun n s₀ s₁=>n=0∧aL RS [] s₀ s₁
noncomputable abbrev GR(RS:List Na):GenEnd:=fun n s₀ r s₁=>r= .ok (.ret .none)∧GP RS n s₀ s₁
section
variable {C:Cx} {W:Wt} {st:ao} {s s' s'' s₀:MT} {A:NF} {env:OZ} {RS:List Na} {l:List Nat} {its:List V}
theorem wH(B:dF C.bare G.cZ env)(hco:env.scope.isCoroutine=false)(hsk:env.scope.kind= .function){c:Code}{fs:List Frame}{K:P9→RE O7}{H:MU→RE O7}{gd:Bool→Bool}{lv:List MU→List MU}{pos esc chv:Option V}{i:Int}{e2:E}{x:List Nat}{pp p py ps:NW}{m:Nat}{r:List V}
  (X:At C.bare G.cZ env (m5 pos esc chv l 0) (W0 RS) ik s) (hk:aL RS [] s₀ s) (himm:∀(i:Nat) v,(m5 pos esc chv l 0).ρ[i]? =some (.loc (some v))→v.xY=true)
  (hi:pos=some (.int i)) (hits:∃d,its=d++ .tup [.int i,.str x]::r) (hm:r.length=m)
  (h2:∀A' Ex (Q':MU→MT→Prop),(∀t s',PS s s'→Q' (.str ⟨x.toArray⟩ t) s')→wpAny (model C.prog C.w) A' (eval (bw e2 G.cZ) env) Q' Ex s) (hx:x.length≤lid)
  (hfs:splitAtGen fs=none) (hgd:gd false=false) (hfg:fs.any Frame.guarded=false)
  (h:∀s'',At C.bare G.cZ env (m5 pos esc chv l 0) (W0 RS) ik s''→(∀b∈RS,∀o,s.heap.get? b=some o→s''.heap.get? b=some o)→Sx (model C.prog C.w) A (GR RS) (GY C RS its) m s'' c (K .next) fs s''):
  Sx (model C.prog C.w) A (GR RS) (GY C RS its) (m+1) s₀ c ((exec (.Expr (.Yield (some (bw (.tup (.cons (.var 1 pp) (.cons e2 .nil)) 0 p) G.cZ)) py) ps) env).wrap K H gd lv) fs s:=by
 refine seg_Expr_Yield hfs hgd hfg ?_ hco (by unfold interactive;rw[hsk];first|rfl|simp)
 refine K0 (C:=C.bare) B X (i:=i) (by rw[hi];rfl) (h2 _ _) hx fun s' T cs P hT hIs hv kap hkap=>?_
 have hlive:∀b∈RS,∃o,s.heap.get? b=some o:=fun b hb=>(X.r.r.lo b hb).2
 refine⟨⟨T,cs,_,rfl,?_,by unfold lid;simp,hv,?_,fun hm=>(by obtain⟨o',e'⟩:=hlive T hm;rw[hT]at e';cases e'),hIs⟩,hk.trans P.mF,fun b hb=>let ⟨o,e⟩:=hlive b hb;⟨o,P.keep _ _ e⟩,fun s'' hos hb ha=>?_⟩
 ·obtain⟨d,rfl⟩:=hits
  have:(d++V.tup [.int i,.str x]::r).length-1-m=d.length:=by simp;lia
  rw[this];simp
 ·cases e:s₀.heap.get? T with
  |none=>rfl
  |some o=>
   by_cases hm:T∈RS
   ·obtain⟨o',e'⟩:=hlive T hm;rw[hT]at e';cases e'
   ·have:=hk.keep _ _ e hm;rw[hT]at this;cases this
 ·refine hkap _ _ ?_
  have ha':∀b∈RS,∀o,s.heap.get? b=some o→s''.heap.get? b=some o:=fun b hb o e=>ha b hb o (P.keep _ _ e)
  have R'':au C.bare (W0 RS) ik s'':=pJ X.r.r.nodup (fun b hb=>let ⟨o,e⟩:=hlive b hb;⟨o,ha' b hb o e⟩) hos hb
  exact h s'' (oq X.fr himm X.fr.loc (fun o e=>ha' _ X.fr.loc o e) R'') ha'
theorem gtest{A:NF}(B:dF C.bare G.cZ env){pos esc chv:Option V}{b:Bool}{p:NW}{Q:Bool→MT→Prop}{Ex:MU→MT→Prop}
  (X:At C.bare G.cZ env (m5 pos esc chv l 0) (W0 RS) ik s) (he:esc=some (.bool b)) (h:Q b s):
  wpAny (model C.prog C.w) A (isTrue (bw (.var 2 p) G.cZ) env (eval (bw (.var 2 p) G.cZ) env)) Q Ex s:=by
 refine Uu (zE (C:=C.bare) B X rfl (v:=.bool b) (by rw[he];rfl) fun c r=>?_)
 have hc:c= .bool b:=r
 subst hc
 exact Ob h
theorem Ez(B:dF C.bare G.cZ env)(hco:env.scope.isCoroutine=false)(hsk:env.scope.kind= .function){q:Nat→NW}{c:Code}{H:MU→RE O7}{gd:Bool→Bool}{lv:List MU→List MU}{b:Bool}{i:Int}{chv:Option V}{d:List V}
  (X:At C.bare G.cZ env (m5 (some (.int (i-1))) (some (.bool b)) chv l 0) (W0 RS) ik s) (hk:aL RS [] s₀ s) (hch:∀v,chv=some v→v.xY=true) (hits:its=d++cK i b []) (hgd:gd false=false):
  Sx (model C.prog C.w) A (GR RS) (GY C RS its) (cK i b []).length s₀ c ((execs [.If (bw (G.e3 q) G.cZ) [.Expr (.Yield (some (bw (G.y3 q) G.cZ)) (q 40)) (q 41)] [] (q 43)] env).wrap (fun f=>.pure (.done (.ret (match f with|.ret v=>v|_=>.none)))) H gd lv) [] s:=by
 refine OR (wF ?_)
 refine gtest B X rfl ?_
 cases b with
 |false=>
  rw[if_neg Ov]
  refine OL ?_
  show Sx _ A _ _ 0 s₀ c ((execs [] env).wrap _ H gd lv) [] s
  exact OL (seg_end (.ok (.ret .none)) ⟨rfl,rfl,hk⟩)
 |true=>
  rw[if_pos rfl]
  refine OR ?_
  show Sx _ A _ _ (0+1) s₀ c _ [] s
  refine wH (C:=C) B hco hsk X hk (mK (by rintro _ ⟨⟩;rfl) (by rintro _ ⟨⟩;rfl) hch) (r:=[]) rfl ⟨d,hits⟩ rfl (fun A' Ex Q' hQ'=>KZ fun t=>hQ' t _ (PS.tok s _)) (by unfold lid;simp) rfl hgd rfl fun s'' X'' ha=>?_
  refine OL (OL ?_)
  exact seg_end (.ok (.ret .none)) ⟨rfl,rfl,.refl _⟩
theorem nu{tg:PK}{it:MU}{b o:List Td}:(Code.forLoop tg it b o env).quiet=true:=by rfl
theorem uH{b:List Td}:(Code.block b env).quiet=true:=by rfl
theorem IG(B:dF C.bare G.cZ env)(hco:env.scope.isCoroutine=false)(hsk:env.scope.kind= .function)(hh:A.handled=none){q:Nat→NW}{z:Na}{St:Nat→List Na→MT→Prop}{kf:Vz→RE O7}{c:Code}{pc:NW}
  (hE:∀b∈[z+1,z],b∈RS) (hLE:env.locals∉[z+1,z])
  (it:∀(A:NF) elts k pos,A.handled=none→It C.bare A (.Tuple elts k pos) (z+1) [] [] [] (vW (.lst (eU 0 (l.map fun c=>.str [c])))) [] St) (hSt:∀i wr s,St i wr s→wr=[z+1,z])
  (hfin:∀(prog:Rp) (w:Tr) (A:NF) i wr s (Q:Option MU→MT→Prop) Ex,A.handled=none→l.length≤i→St i wr s→(∀h',(∀b o,b∉[z+1,z]→s.heap.get? b=some o→h'.get? b=some o)→(∀b∈[z+1,z],∃o,h'.get? b=some o)→Q none { s with heap:=h' })→
   wpAny (model prog w) A (pyNext (.ref (z+1))) Q Ex s)
  (hfr:∀i wr s s',St i wr s→(∀b∈wr,∀o,s.heap.get? b=some o→s'.heap.get? b=some o)→St i wr s')
  (hend:∀(i:Int) b chv d s₀ s,At C.bare G.cZ env (m5 (some (.int (i-1))) (some (.bool b)) chv l 0) (W0 RS) ik s→aL RS [] s₀ s→(∀v,chv=some v→v.xY=true)→its=d++cK i b []→
   Sx (model C.prog C.w) A (GR RS) (GY C RS its) (cK i b []).length s₀ c (kf (.ok .next)) [] s)
  (hend0:∀chv s₀ s,(∀v,chv=some v→v.xY=true)→At C.bare G.cZ env (m5 (some (.int 0)) (some (.bool false)) chv l 0) (W0 RS) ik s→aL RS [] s₀ s→Sx (model C.prog C.w) A (GR RS) (GY C RS its) 0 s₀ c (kf (.ok .next)) [] s):
  ∀(r:List Nat) (i:Nat) (b:Bool) (chv:Option V) (p:Int) (d:List V) (s₀ s:MT),l.drop i=r→its=d++cK i b r→(∀v,chv=some v→v.xY=true)→(i=0→p=0∧b=false)→(0<i→p=(i:Int)-1)→
   At C.bare G.cZ env (m5 (some (.int p)) (some (.bool b)) chv l 0) (W0 RS) ik s→St i [z+1,z] s→aL RS [] s₀ s→
   Sx (model C.prog C.w) A (GR RS) (GY C RS its) (cK i b r).length s₀ (.forLoop (toT G.cZ (G.tg q)) (.ref (z+1)) (G.loopBody q) [] env)
    ((model C.prog C.w).den (.forLoop (toT G.cZ (G.tg q)) (.ref (z+1)) (G.loopBody q) [] env)) [.ret kf none false [] c pc []] s:=by
 intro r
 have hhA:(A.over (.forLoop (toT G.cZ (G.tg q)) (.ref (z+1)) (G.loopBody q) [] env) [.ret kf none false [] c pc []]).handled=none:=by
  show(marksOver [.ret kf none false [] c pc []] (A.handled,A.handled)).1=none
  rw[hh];rfl
 induction r with
 |nil=>
  intro i b chv p d s₀ s hr hits hch h0 h1 X hst hk
  refine nS ?_
  have hge:l.length≤i:=PE.mp hr
  refine hfin _ _ _ i _ _ _ _ hhA hge hst fun h' hk' hlv'=>?_
  have K:aL [z+1,z] [] s { s with heap:=h' }:=⟨fun a o e hn=>hk' a o hn e,rfl,fun _ _ e _=>e,id⟩
  have hK:aL RS [] s { s with heap:=h' }:=K.mono fun a ha=>hE a ha
  have hlv:∀b∈RS,∃o,h'.get? b=some o:=fun b hb=>by
   by_cases hm:b∈[z+1,z]
   ·exact hlv' b hm
   ·obtain⟨o,e⟩:=(X.r.r.lo b hb).2;exact⟨o,hk' b o hm e⟩
  have R':au C.bare (W0 RS) ik { s with heap:=h' }:=pJ X.r.r.nodup hlv (K.os.trans X.r.os) (K.bare X.r.bare)
  have X':=oq (C:=C) (kb':=0) X.fr (mK (by rintro _ ⟨⟩;rfl) (by rintro _ ⟨⟩;rfl) hch) X.fr.loc (fun o e=>K.keep _ _ e hLE) R'
  refine U_ uH ?_
  show Sx _ A _ _ _ s₀ _ (((execs [] env).onRaise (fun x=>do noteFrame x env;theTreesLotGoes x))>>= fun f=>.pure (.done f)) _ _
  rw[Qu,US,Qw]
  refine OL ?_
  show Sx _ A _ _ _ s₀ _ (leafOf (.ok .next)) _ _
  refine seg_leaf (.ok .next) ?_
  by_cases hi:i=0
  ·obtain⟨rfl,rfl⟩:=h0 hi
   exact hend0 _ _ _ hch X' (hk.trans hK)
  ·have:=h1 (by lia)
   subst this
   exact hend _ _ _ d _ _ X' (hk.trans hK) hch hits
 |cons c0 r ih=>
  intro i b chv p d s₀ s hr hits hch h0 h1 X hst hk
  have hci:l[i]? =some c0:=by
   have:=congrArg (fun x=>x[0]?) hr
   simpa using this
  have hr1:l.drop (i+1)=r:=by
   have:=congrArg (fun x=>x.drop 1) hr
   simpa[TG]using this
  refine nS ?_
  have hnx:vW (.lst (eU 0 (l.map fun c=>V.str [c]))) ik i=some (.tup [.int i,.str [c0]]):=by
   show(eU 0 (l.map fun c=>V.str [c]))[i]? =_
   have:∀(l:List Nat) (a:Int) (i:Nat),l[i]? =some c0→(eU a (l.map fun c=>V.str [c]))[i]? =some (.tup [.int (a+i),.str [c0]]):=by
    intro l
    induction l with
    |nil=>intro a i h;simp at h
    |cons x l ih=>
     intro a i h
     cases i with
     |zero=>simp at h;subst h;simp[kE,kF]
     |succ i=>simp only[OJ]at h;simp only[Nz,kE,kF,OJ];rw[ih _ _ h];congr 4;lia
   rw[this l 0 i hci];simp
  refine Og ((it _ _ _ _ hhA).item i (.tup [.int i,.str [c0]]) s (W0 RS) ik [z+1,z] (fun c1 s1=>wpAny (model C.prog C.w) _ (assign (toT G.cZ (G.tg q)) env c1) (fun _ s3=>
      Sx (model C.prog C.w) A (GR RS) (GY C RS its) (cK i b (c0::r)).length s₀ (.forLoop (toT G.cZ (G.tg q)) (.ref (z+1)) (G.loopBody q) [] env) ((execs (G.loopBody q) env).wrap (fun f=>match f with
       |.next|.cont=>.pure (.again (.forLoop (toT G.cZ (G.tg q)) (.ref (z+1)) (G.loopBody q) [] env))
       |.brk=>.pure (.done .next)
       |.ret v=>.pure (.done (.ret v))) (fun e=>(do noteFrame e env;theTreesLotGoes e:RE Unit).wrap (fun _=>.raise e) .raise id id) id id) [.ret kf none false [] c pc []] s3) _ s1) _
    hnx hst (fun b hb=>hE b hb) X.r ⟨rfl,fun p hp=>by cases hp⟩ fun c1 s1 new hnd hnew K hst1 r1=>?_) (fun r0 s1 hr0=>by obtain⟨c1,rfl,h2⟩:=hr0;exact h2) fun _ _ e=>e
  have hnw:new=[]:=by
   have:=hSt _ _ _ hst1
   cases new with
   |nil=>rfl
   |cons a t=>have:=congrArg List.length this;simp at this
  subst hnw
  have hK1:aL RS [] s s1:=K.mono fun a ha=>hE a ha
  obtain⟨R1,_⟩:=au.item X.r K (fun b hb=>hE b hb) OQ (by simp) (fun b hb=>(it _ [] 0 default hhA).live _ _ _ hst1 b hb)
  have R1':au C.bare (W0 RS) ik s1:=R1
  have X1:=oq (C:=C) (kb':=0) X.fr (mK (by rintro _ ⟨⟩;rfl) (by rintro _ ⟨⟩;rfl) hch) X.fr.loc (fun o e=>K.keep _ _ e hLE) R1'
  refine fm (C:=C.bare) (en':=m5 (some (.int i)) (some (.bool b)) (some (.str [c0])) l 0) (st':=ik) hhA B X1 rfl r1 fun s2 S2 X2 _=>?_
  have hK2:aL RS [] s1 s2:=⟨fun a o e hn=>S2.keep a o e (fun hm=>by
   have:a=env.locals:=by simpa[Ub,W0]using hm
   exact hn (this▸X.fr.loc)) (by rintro⟨⟩),X2.r.os.trans X1.r.os.symm,fun g gs e _=>S2.gens g gs e,fun _=>X2.r.bare⟩
  have hK12:=hk.trans (hK1.trans hK2)
  have hfrm:∀{s3:MT},(∀b∈[z+1,z],∀o,s2.heap.get? b=some o→s3.heap.get? b=some o)→St (i+1) [z+1,z] s3:=fun{s3} h1=>
   hfr _ _ _ _ hst1 (fun b hb o e=>h1 b hb o (S2.keep b o e (fun hm=>by
    have:b=env.locals:=by simpa[Ub,W0]using hm
    exact hLE (this▸hb)) (by rintro⟨⟩)))
  have himm:∀(j:Nat) v,(m5 (some (.int i)) (some (.bool b)) (some (.str [c0])) l 0).ρ[j]? =some (.loc (some v))→v.xY=true:=mK (by rintro _ ⟨⟩;rfl) (by rintro _ ⟨⟩;rfl) (by rintro _ ⟨⟩;rfl)
  refine OR (wF ?_)
  refine gtest B X2 rfl ?_
  have hl1:∀x:List Nat,x.length≤2→x.length≤lid:=fun x hx=>M8 hx (by decide)
  have hp1:∀(a:Nat),0<a+1→(a:Int)=((a+1:Nat):Int)-1:=fun a _=>by lia
  have setEsc:∀(b':Bool) {K:P9→RE O7} {H gd lv} {pq1 pq2 pq3:NW} {s₀' s4:MT} {b0:Bool} (r':List V),(∃d,its=d++cK ((i:Int)+1) b' r)→
    At C.bare G.cZ env (m5 (some (.int i)) (some (.bool b0)) (some (.str [c0])) l 0) (W0 RS) ik s4→St (i+1) [z+1,z] s4→aL RS [] s₀' s4→
    (∀s5,Sx (model C.prog C.w) A (GR RS) (GY C RS its) (cK ((i:Int)+1) b' r).length s₀' (.forLoop (toT G.cZ (G.tg q)) (.ref (z+1)) (G.loopBody q) [] env)
    ((model C.prog C.w).den (.forLoop (toT G.cZ (G.tg q)) (.ref (z+1)) (G.loopBody q) [] env)) [.ret kf none false [] c pc []] s5→Sx (model C.prog C.w) A (GR RS) (GY C RS its) (cK ((i:Int)+1) b' r).length s₀' (.forLoop (toT G.cZ (G.tg q)) (.ref (z+1)) (G.loopBody q) [] env) (K .next) [.ret kf none false [] c pc []] s5)→
    Sx (model C.prog C.w) A (GR RS) (GY C RS its) (cK ((i:Int)+1) b' r).length s₀' (.forLoop (toT G.cZ (G.tg q)) (.ref (z+1)) (G.loopBody q) [] env)
     ((execs [toS G.ID (.asg (.bM 2 pq1) (.cB b' 0 pq2) pq3) G.cZ] env).wrap K H gd lv) [.ret kf none false [] c pc []] s4:=by
   intro b' K H gd lv pq1 pq2 pq3 s₀' s4 b0 r' hits' X4 hst4 hk4 hnext
   refine OR (nq ?_)
   refine PF (LR ?_) rfl
   refine j1 (C:=C.bare) (i:=2) (v:=.bool b') B X4 rfl rfl rfl (fun h' hs' X5=>?_)
   refine OL (hnext _ ?_)
   obtain⟨d',hd'⟩:=hits'
   have hk5:aL RS [] s4 { s4 with heap:=h',toks:=s4.toks+1 }:=⟨fun a o e hn=>(hs'.2 a fun q=>hn (q▸X4.fr.loc)).trans e,rfl,fun _ _ e _=>e,id⟩
   exact ih (i+1) b' (some (.str [c0])) i d' s₀' _ hr1 hd' (by rintro _ ⟨⟩;rfl) (fun h=>absurd h (O1 i)) (hp1 i) X5
    (hfr _ _ _ _ hst4 fun b hb o e=>(hs'.2 b fun q=>hLE (q▸hb)).trans e) (hk4.trans hk5)
  cases b with
  |true=>
   rw[if_pos rfl]
   refine OR ?_
   refine wH (C:=C) (i:=(i:Int)) (x:=[92,c0]) (m:=(cK ((i:Int)+1) false r).length) B hco hsk X2 hK12 himm rfl ⟨d,hits⟩ rfl (fun A' Ex Q' hQ'=>?_) (hl1 _ (by simp)) rfl rfl rfl fun s'' X'' ha=>?_
   ·refine Vf (KZ fun t=>?_)
    refine zE (C:=C.bare) (v:=.str [c0]) B (At.step X2 (PS.tok s2 (s2.toks+1)).step (X2.r.ps (PS.tok s2 _))) rfl rfl fun c2 r2=>?_
    obtain⟨u,rfl,_⟩:=r2
    exact add_str (fun t' tk=>hQ' t' _ ⟨fun _ _ e=>e,rfl,rfl⟩) (by simp[Qn];decide)
   ·refine setEsc false [] ⟨d++[_],by rw[hits];simp[sy,sA,jL];rfl⟩ X'' (hfrm fun b hb o e=>ha b (hE b hb) o e) (.refl _) fun s5 h5=>OL (U_ nu h5)
  |false=>
   rw[if_neg Ov]
   refine OR (wF ?_)
   refine Pu (zE (C:=C.bare) (i:=3) (v:=.str [c0]) B X2 rfl rfl fun c2 r2=>?_) rfl
   obtain⟨u,rfl,_⟩:=r2
   refine KZ fun t=>P.eq_str ?_
   have X3:=At.step X2 (PS.tok s2 (s2.toks+1)).step (X2.r.ps (PS.tok s2 _))
   have hK3:aL RS [] s₀ { s2 with toks:=s2.toks+1 }:=hK12.trans (PS.tok s2 (s2.toks+1)).mF
   by_cases hc:c0=92
   ·have e1:((⟨[c0].toArray⟩:NT).cps.toList == (⟨[92].toArray⟩:NT).cps.toList)=true:=by rw[hc];rfl
    rw[e1]
    refine Ob ?_
    rw[if_pos rfl]
    have e2:cK (i:Int) false (c0::r)=cK ((i:Int)+1) true r:=by simp[sy,sA,jL,hc]
    rw[e2]
    refine setEsc true [] ⟨d,by rw[hits,e2]⟩ X3 (hfrm fun b hb o e=>e) hK3 fun s5 h5=>OL (OL (U_ nu h5))
   ·have e1:((⟨[c0].toArray⟩:NT).cps.toList == (⟨[92].toArray⟩:NT).cps.toList)=false:=by simp[hc]
    rw[e1]
    refine Ob ?_
    rw[if_neg Ov]
    have e2:cK (i:Int) false (c0::r)= .tup [.int i,.str [c0]]::cK ((i:Int)+1) false r:=by simp[sy,sA,jL,hc]
    rw[e2]
    refine OR ?_
    refine wH (C:=C) (i:=(i:Int)) (x:=[c0]) (m:=(cK ((i:Int)+1) false r).length) B hco hsk X3 hK3 himm rfl ⟨d,by rw[hits,e2]⟩ rfl (fun A' Ex Q' hQ'=>?_) (hl1 _ (by simp)) rfl rfl rfl fun s'' X'' ha=>?_
    ·refine zE (C:=C.bare) (v:=.str [c0]) B X3 rfl rfl fun c2 r2=>?_
     obtain⟨u,rfl,_⟩:=r2
     exact hQ' u _ (PS.refl _)
    ·refine OL (OL (U_ nu ?_))
     exact ih (i+1) false (some (.str [c0])) i (d++[.tup [.int i,.str [c0]]]) s'' s'' hr1 (by rw[hits,e2];simp) (by rintro _ ⟨⟩;rfl) (fun h=>absurd h (O1 i)) (hp1 i) X'' (hfrm fun b hb o e=>ha b (hE b hb) o e) (.refl _)
end
end Rk
end

section
set_option backward.match.sparseCases true
namespace Rk
open PySem PySem.W PySem.Calls PyProof.Rows PySem.SeqAt
section
variable {C:Cx} {W:Wt} {st:ao} {s s' s'' s₀:MT} {A:NF} {env:OZ} {l:List Nat}
theorem FD{q:Nat→NW}:bw (G.it q) G.cZ= .Call (.Name (nm G.cZ 4) (q 9)) [bw (.var 0 (q 10)) G.cZ] [] (q 11):=rfl
theorem dF.bare(B:dF C G.cZ env):dF C.bare G.cZ env:=⟨B.kind,B.names,B.nodup,B.globals,B.builtins⟩
theorem FE{z L:Nat}(h:L<z):[z+1,z,L].Nodup:=by simp;lia
theorem FF{z L:Nat}(h:L<z):L∉[z+1,z]:=by simp;lia
theorem BA(ok:bF C)(B:dF C G.cZ env)(hco:env.scope.isCoroutine=false)(hh:A.handled=none){q:Nat→NW}{kb:Nat}(X:At C G.cZ env (m5 none none none l kb) W st s)(hl:l.length≤lid):
  Sx (model C.prog C.w) A (GR [s.heap.objs.size+1,s.heap.objs.size,env.locals]) (GY C [s.heap.objs.size+1,s.heap.objs.size,env.locals] (fX l)) (fX l).length s (.func (G.body q) env) ((model C.prog C.w).den (.func (G.body q) env)) [] s:=by
 have hsk:=B.kind
 have hhA:(A.over (.func (G.body q) env) []).handled=none:=hh
 refine seg_func ?_
 refine OR (nq (PF (Mv fun t=>j1 (i:=1) (v:=.int 0) B (At.step X (PS.tok s (s.toks+1)).step (X.r.ps (PS.tok s _))) rfl rfl ⟨_,rfl⟩ fun h1 hs1 X1=>?_) rfl))
 refine OR (nq (PF (LR (j1 (i:=2) (v:=.bool false) B X1 rfl rfl rfl fun h2 hs2 X2=>?_)) rfl))
 generalize ht:s.heap.objs.size=z at*
 have hz:h2.objs.size=z:=by rw[hs2.1];exact hs1.1.trans ht
 have hk12:∀b o,b≠env.locals→s.heap.get? b=some o→h2.get? b=some o:=fun b o hb e=>(hs2.2 b hb).trans ((hs1.2 b hb).trans e)
 have hLocc:∃o,h2.get? env.locals=some o:=(X2.r.r.lo _ (aF X2.fr.loc)).2
 have hLlt:env.locals<z:=by obtain⟨o,e⟩:=hLocc;rw[←hz];exact Od e
 refine OR (Dq (fun x=>jg x) ?_)
 rw[FD]
 refine O0 (dR ok B X2 (i:=4) (v:=cH 34) rfl fun cf rf=>?_)
 show wpAny _ _ (callWith (q 11) cf [] (backTo (q 11) (starEach [bw (.var 0 (q 10)) G.cZ] env)) (backToKw (q 11) (keywordEach [] env))) _ _ _
 rw[show backToKw (q 11) (keywordEach [] env)=[] by first|rfl|simp only[keywordEach,backToKw,PY]]
 have hc:cf=ee .enumerate:=rf
 clear hl hhA hs1 X1 hs2
 subst hc
 have e1:backTo (q 11) (starEach [bw (.var 0 (q 10)) G.cZ] env)=(false,eval (bw (.var 0 (q 10)) G.cZ) env)::backTo (q 11) (starEach [] env):=by
  show backTo (q 11) (starEach (bw (.var 0 (q 10)) G.cZ::[]) env)=_
  rw[cu];rfl
 have e3:backTo (q 11) (starEach [] env)=[]:=by rw[mw];rfl
 rw[e1,e3]
 refine g7 rfl fun f=>Qi (Pj (zE B X2 (i:=0) (v:=.str l) rfl rfl fun c0 r0=>PB ?_))
 clear e1 e3
 obtain⟨tk,rfl,_⟩:=r0
 show wpAny _ _ (N5 (.type "enumerate") [.str ⟨l.toArray⟩ tk] []) _ _ _
 refine Uv fun h3 he hi hsz hk3=>?_
 replace he:U6 h3 (z+1) z 0 .none:=hz▸he
 replace hi:h3.IsStrIter z (strIterType ⟨l.toArray⟩) ⟨l.toArray⟩ tk 0:=hz▸hi
 show wpAny _ _ (pyIter (.ref (h2.objs.size+1))) _ _ _
 rw[hz]
 refine PD he fun p=>?_
 obtain⟨St,i1,i2,i3,i4,i5⟩:=sX (l:=l) (tk:=tk) z
 have hnd:[z+1,z,env.locals].Nodup:=FE hLlt
 have hL3:∃o,h3.get? env.locals=some o:=let ⟨o,e⟩:=hLocc;⟨o,hk3 _ _ e⟩
 have hlv:∀b∈[z+1,z,env.locals],∃o,h3.get? b=some o:=fun b hb=>by
  simp at hb
  clear hco hh X hsk X2 hz hk12 hLocc hLlt hsz hk3 hnd
  rcases hb with rfl|rfl|rfl
  ·exact⟨_,he⟩
  ·obtain⟨o,e,_⟩:=hi;exact⟨o,e⟩
  ·exact hL3
 have R3:au C.bare (W0 [z+1,z,env.locals]) ik { s with heap:=h3,toks:=s.toks+1+1+1 }:=pJ hnd hlv X.r.os X.r.bare
 have X3:=oq (C:=C) (kb':=0) (p:=some (.int 0)) (e:=some (.bool false)) (ch:=none) (l:=l) (s':={ s with heap:=h3,toks:=s.toks+1+1+1 }) X2.fr (mK (by rintro _ ⟨⟩;rfl) (by rintro _ ⟨⟩;rfl) (by rintro _ ⟨⟩)) (by simp) (fun o e=>hk3 _ _ e) R3
 have hK:aL [z+1,z,env.locals] [] s { s with heap:=h3,toks:=s.toks+1+1+1 }:=⟨fun a o e hn=>hk3 _ _ (hk12 a o (fun q=>hn (by simp[q])) e),rfl,fun _ _ e _=>e,id⟩
 have fin:∀(i:Int) (s4:MT),leafOf (.ok .next)=(.pure (.done .next):RE O7):=fun _ _=>rfl
 have key:=IG (C:=C) (its:=fX l) (q:=q) (c:=.func (G.body q) env) (pc:=p) (z:=z) (St:=St) (RS:=[z+1,z,env.locals])
  (kf:=afterLoop env (fun f=>match f with
   |.next=>(execs [.If (bw (G.e3 q) G.cZ) [.Expr (.Yield (some (bw (G.y3 q) G.cZ)) (q 40)) (q 41)] [] (q 43)] env).wrap (fun f=>.pure (.done (.ret (match f with|.ret v=>v|_=>.none)))) (fun e=>(leaving env e).wrap (fun _=>.raise e) .raise id id) id id
   |f=>.pure (.done (.ret (match f with|.ret v=>v|_=>.none)))) (fun e=>(leaving env e).wrap (fun _=>.raise e) .raise id id) id id)
  (A:=A) (env:=env) (l:=l) B.bare hco hsk hh (by simp) (FF hLlt) (fun A elts k pos h=>i1 C.bare A elts k pos h) i2 i4 i5 ?_ ?_ l 0 false none 0 [] s _ (by simp) rfl (by rintro _ ⟨⟩) (fun _=>⟨rfl,rfl⟩) (fun h=>absurd h (Q_ 0)) X3 (i3 _ he hi) hK
 ·exact key
 ·intro i b chv d s₀ s hX hk hch hits
  show Sx _ _ _ _ _ _ _ ((((.pure TX:RE P9)).onRaise _).wrap _ _ _ _) _ _
  rw[Qu]
  exact Ez B.bare hco hsk hX hk hch hits rfl
 ·intro chv s₀ s hch hX hk
  show Sx _ _ _ _ _ _ _ ((((.pure TX:RE P9)).onRaise _).wrap _ _ _ _) _ _
  rw[Qu]
  have hX':At C.bare G.cZ env (m5 (some (.int ((1:Int)-1))) (some (.bool false)) chv l 0) (W0 [z+1,z,env.locals]) ik s:=hX
  exact Ez (i:=1) (b:=false) (d:=fX l) B.bare hco hsk hX' hk hch (by simp[sy,sA,jL]) rfl
end
end Rk
end

section
namespace Rk
open PySem PySem.W PySem.Calls PyProof.Rows PySem.SeqAt
inductive LS (C:Cx) (A:NF) (env:OZ) (q:Nat→NW) (l:List Nat) (a:Na) (g:Nat) (j:Nat) (wr:List Na) (s:MT):Prop
 |fresh (hg:s.heap.IsGen a g) (hj:j=0) (hw:wr=[a,env.locals]) (h1:s.gens[g]? =some (.fresh (.func (G.body q) env))) (m:NT→Option MU) (t:Vt) (h2:s.heap.Ns env.locals m) (h3:m ("addr":NT)=some (.str ⟨l.toArray⟩ t))
 |mid (hg:s.heap.IsGen a g) (hj:0<j) (z:Na) (gs:Su) (hw:wr=[z+1,z,a,env.locals]) (h1:s.gens[g]? =some gs) (h2:gs.bare=true) (h3:a∉[z+1,z,env.locals]) (h4:∀b∈[z+1,z,env.locals],∃o,s.heap.get? b=some o)
  (h5:∀s'',s''.os=C.os→QH s''.gens→(∀b∈[z+1,z,env.locals],∀o,s.heap.get? b=some o→s''.heap.get? b=some o)→
   gs.Goes (model C.prog C.w) A.in1 (GR [z+1,z,env.locals]) (GY C [z+1,z,env.locals] (fX l)) ((fX l).length-j) (.send .none) s'')
structure WN (h:NX) (wr new:List Na) (a z L:Na):Prop where
 nd:new.Nodup
 fr:∀b∈new,h.get? b=none∧b∈[z+1,z,L]
 kp:∀b o,h.get? b=some o→b∉wr→b∉[z+1,z,L]
 ap:new++wr=[z+1,z,a,L]
theorem WN.first{h:NX}{a L:Na}:WN h [a,L] [h.objs.size+1,h.objs.size] a h.objs.size L where
 nd:=by simp
 fr b hb:=by
  rcases M5.mp hb with rfl|hb
  ·exact⟨aC (Qg _),m0⟩
  ·rw[M4.mp hb];exact⟨aC (M9 _),m1⟩
 kp b o e hn hm:=by
  have hlt:=Od e
  rcases M5.mp hm with rfl|hm
  ·exact absurd hlt (Pn.mpr (Qg _))
  ·rcases M5.mp hm with rfl|hm
   ·exact absurd hlt (Q_ _)
   ·exact hn (MY _ hm)
 ap:=rfl
theorem WN.later{h:NX}{a z L:Na}:WN h [z+1,z,a,L] [] a z L where
 nd:=OQ
 fr b hb:=nomatch hb
 kp b o e hn hm:=hn (by
  rcases M5.mp hm with rfl|hm
  ·exact m0
  ·rcases M5.mp hm with rfl|hm
   ·exact m1
   ·rw[M4.mp hm];exact m3)
 ap:=rfl
section
variable {C:Cx} {W:Wt} {st:ao} {s s' s'' s₀:MT} {A:NF} {env:OZ} {l:List Nat} {n:Nat}
theorem pM{h h':NX}{a:Na}{g:Nat}(x:h.IsGen a g)(hk:∀o,h.get? a=some o→h'.get? a=some o):h'.IsGen a g:=
 let ⟨o,nm,qn,ho,r⟩:=x;⟨o,nm,qn,hk _ ho,r⟩
theorem II{L j m:Nat}(h:L-j=m+1):L-1-m=j:=by
 rw[Nat.sub_sub,N6,←h];exact Nat.sub_sub_self (NH (Nat.lt_of_sub_eq_succ h))
theorem IJ{L j m:Nat}(h:L-j=m+1):L-(j+1)=m:=by rw[←Nat.sub_sub,h];rfl
theorem IK{L j:Nat}(h:j<L):L-j=L-j-1+1:=(Nat.sub_add_cancel (Nat.sub_pos_of_lt h)).symm
theorem bL.lt(hr:bL n A):A.depth<recursionLimit:=by have:=hr.depth;lia
theorem gturn{q:Nat→NW}{a z:Na}{g j m:Nat}{gs gs':Su}{wr new:List Na}{s₁:MT}{v:MU}{x:V}{Q:MU→MT→Prop}{tg:PK}{Ex:MU→MT→Prop}
  (hg:s.heap.IsGen a g) (hgs:s.gens[g]? =some gs) (haR:a∉[z+1,z,env.locals]) (hm:(fX l).length-j=m+1) (hx:(fX l)[j]? =some x) (R:au C W st s)
  (hwr:WN s.heap wr new a z env.locals)
  (hb:gs'.bare=true) (hy:GY C [z+1,z,env.locals] (fX l) m (s.setGen g .running) v s₁ (fun r' s''=>gs'.Goes (model C.prog C.w) A.in1 (GR [z+1,z,env.locals]) (GY C [z+1,z,env.locals] (fX l)) m r' s''))
  (hQ:∀c s' new,new.Nodup→(∀b∈new,s.heap.get? b=none∧ ∃o,s'.heap.get? b=some o)→aL wr [g] s s'→LS C A env q l a g (j+1) (new++wr) s'→VR C { W with X:=new++W.X } s'.heap x c→Q c s'):
  ∃c,some v=some c∧wpAny (model C.prog C.w) A (letOwnedTupleGo tg (.ref a) c) (fun _ s'=>Q c s') Ex (s₁.setGen g gs'):=by
 refine bc fun hN0=>?_
 obtain⟨⟨T,cs,l',rfl,hget,hl',hv,hfresh,hTR,hIs⟩,hK,hlive,hkap⟩:=hy
 refine hN0 ?_
 refine⟨_,rfl,?_⟩
 refine bc fun hN1=>?_
 have hj:(fX l).length-1-m=j:=II hm
 rw[hj,hx]at hget
 clear hx hj
 cases hget
 refine hN1 ?_
 have hrun:(s.setGen g .running).gens[g]? =some .running:=setGen_self hgs
 have hrun1:s₁.gens[g]? =some .running:=hK.gens g _ hrun (by simp)
 have hg1:s₁.heap.IsGen a g:=pM hg fun o e=>hK.keep a o e haR
 refine jT (T:="generator") (let ⟨o,nm,qn,ho,hc,hd,_⟩:=hg1;⟨o,_,ho,hc,hd⟩) (by decide) ?_
 refine hQ (.ref T) (s₁.setGen g gs') new hwr.nd (fun b hb'=>⟨(hwr.fr b hb').1,hlive b (hwr.fr b hb').2⟩) ⟨fun b o e hn=>hK.keep b o e (hwr.kp b o e hn),hK.os,fun g' gs0 e hn=>?_,fun h=>cW (hK.bare (cW h rfl)) hb⟩
  (.mid hg1 (OP j) z gs' hwr.ap (setGen_self hrun1) hb haR hlive fun s'' h1 h2 h3=>?_) (SeqAt.mk T cs rfl ⟨fun hm=>?_,(R.r.fresh hfresh).2⟩ hIs (hv _ _ _) hl')
 ·have hne:g'≠g:=fun e=>hn (M4.mpr e)
  rw[gr hne]
  exact hK.gens g' gs0 ((gr hne).trans e) nofun
 ·rw[IJ hm]
  exact hkap s'' h1 h2 h3
 ·rcases MX.mp hm with hm|hm
  ·exact(R.r.fresh hfresh).1 (bj hm)
  ·rcases MX.mp hm with hm|hm
   ·exact(R.r.fresh hfresh).1 (cg hm)
   ·rcases MX.mp hm with hm|hm
    ·exact hTR (hwr.fr T hm).2
    ·exact(R.r.fresh hfresh).1 (aF hm)
theorem EA{a z:Na}{g:Nat}{wr new:List Na}{s₁:MT}(hK:aL [z+1,z,env.locals] [] (s.setGen g .running) s₁)
  (hwr:WN s.heap wr new a z env.locals) {h':NX} (hk:∀b o,s₁.heap.get? b=some o→h'.get? b=some o):aL wr [g] s { s₁.setGen g .finished with heap:=h' }:=by
 refine⟨fun b o e hn=>hk _ _ (hK.keep b o e (hwr.kp b o e hn)),hK.os,fun g' gs0 e hn=>?_,fun h=>cW (hK.bare (cW h rfl)) rfl⟩
 have hne:g'≠g:=fun e=>hn (M4.mpr e)
 show(s₁.setGen g .finished).gens[g']? =some gs0
 rw[gr hne]
 exact hK.gens g' gs0 ((gr hne).trans e) nofun
theorem IL(R:au C W st s)(hL:env.locals∈W.X){m:NT→Option MU}{t:Vt}(hn:s.heap.Ns env.locals m)(hm:m ("addr":NT)=some (.str ⟨l.toArray⟩ t))(hl:l.length≤lid)(g:Nat):
  At C G.cZ env (m5 none none none l 0) W st (s.setGen g .running):=by
 refine⟨R.setGen rfl,⟨rfl,hL,⟨m,hn,fun i nmx v h1 h3=>?_⟩,FA⟩⟩
 obtain⟨rfl,rfl⟩:=IF i nmx v h1 h3
 exact⟨_,hm,t,rfl,hl⟩
theorem zF(ok:bF C)(B:dF C G.cZ env)(hco:env.scope.isCoroutine=false)(hr:bL n A){q:Nat→NW}{a:Na}{g:Nat}(haL:a≠env.locals)(hl:l.length≤lid){tg:PK}:
  It C A tg a [] [] [] (vW (.lst (fX l))) [g] (LS C A env q l a g) where
 frame:=fun j wr s s' hst hk hgk=>by
  rcases hst with⟨hg,hj,rfl,h1,m,t,h2,h3⟩|⟨hg,hj,z,gs,rfl,h1,h2,h3,h4,h5⟩
  ·exact .fresh (pM hg fun o e=>hk a m0 o e) hj rfl (hgk _ _ h1) m t (h2.at' fun o e=>hk _ m1 o e) h3
  ·have hk':∀b∈[z+1,z,env.locals],∀o,s.heap.get? b=some o→s'.heap.get? b=some o:=Ip (hk _ m0) (hk _ m1) (hk _ m3)
   exact .mid (pM hg fun o e=>hk a m2 o e) hj z gs rfl (hgk _ _ h1) h2 h3 (fun b hb=>let ⟨o,e⟩:=h4 b hb;⟨o,hk' b hb o e⟩)
    fun s'' x1 x2 x3=>h5 s'' x1 x2 fun b hb o e=>x3 b hb o (hk' b hb o e)
 live:=fun j wr s hst=>by
  rcases hst with⟨hg,_,rfl,h1,m,t,h2,h3⟩|⟨hg,hj,z,gs,rfl,h1,h2,h3,h4,h5⟩
  ·exact all2 (let ⟨o,_,_,ho,_⟩:=hg;⟨o,ho⟩) (let ⟨o,_,_,e,_⟩:=h2;⟨o,e⟩)
  ·exact Iq (h4 _ m0) (h4 _ m1) (let ⟨o,_,_,ho,_⟩:=hg;⟨o,ho⟩) (h4 _ m2)
 item:=fun j v s W st wr Q Ex hnx hst hX R H hQ=>by
  have hv:(fX l)[j]? =some v:=hnx
  have hlt:j<(fX l).length:=(MW.mp hv).1
  obtain⟨m,hm⟩:∃m,(fX l).length-j=m+1:=⟨_,IK hlt⟩
  have hroom:=hr.lt
  rcases hst with⟨hg,hj,rfl,h1,mm,t,h2,h3⟩|⟨hg,hj,z,gs,rfl,h1,h2,h3,h4,h5⟩
  ·have hL:env.locals∈W.X:=hX _ m1
   have halt:a<s.heap.objs.size:=by obtain⟨o,_,_,e,_⟩:=hg;exact Od e
   have haR:a∉[s.heap.objs.size+1,s.heap.objs.size,env.locals]:=by
    refine fun hm=>(M5.mp hm).elim (OA (ON halt)) fun hm=>(M5.mp hm).elim (OA halt) fun hm=>haL (M4.mp hm)
   have hgo:=BA (A:=A.in1) ok B hco (show A.in1.handled=none from hr.handled) (q:=q) (IL R hL h2 h3 hl g) hl
   rw[show(fX l).length=m+1 by rw[hj]at hm;exact hm]at hgo
   refine jh (P:=GP _) (n:=m+1) hr.handled (kJ ok R.r) hroom hg h1 ⟨rfl,hgo⟩ (fun v s₁ gs' hb hy=>?_) (fun s₁ hp h' hk=>absurd hp.1 (O1 m))
   exact gturn (q:=q) (z:=s.heap.objs.size) hg h1 haR hm hv R .first hb hy hQ
  ·have hgo:=h5 (s.setGen g .running) R.os (cW R.bare rfl) (fun _ _ _ e=>e)
   rw[hm]at hgo
   refine jh (P:=GP _) (n:=m+1) hr.handled (kJ ok R.r) hroom hg h1 hgo (fun v s₁ gs' hb hy=>?_) (fun s₁ hp h' hk=>absurd hp.1 (O1 m))
   exact gturn (q:=q) (z:=z) hg h1 h3 hm hv R .later hb hy hQ
 done:=fun j s W st wr Q Ex hnx hst hX R H hQ=>by
  have hv:(fX l)[j]? =none:=hnx
  have hge:(fX l).length≤j:=NR.mp hv
  have hroom:=hr.lt
  have hm:(fX l).length-j=0:=Nat.sub_eq_zero_of_le hge
  rcases hst with⟨hg,hj,rfl,h1,mm,t,h2,h3⟩|⟨hg,hj,z,gs,rfl,h1,h2,h3,h4,h5⟩
  ·have hL:env.locals∈W.X:=hX _ m1
   have hgo:=BA (A:=A.in1) ok B hco (show A.in1.handled=none from hr.handled) (q:=q) (IL R hL h2 h3 hl g) hl
   rw[show(fX l).length=0 by rw[hj]at hm;exact hm]at hgo
   refine jh (P:=GP _) (n:=0) hr.handled (kJ ok R.r) hroom hg h1 ⟨rfl,hgo⟩ (fun v s₁ gs' hb hy=>?_) (fun s₁ hp h' hk=>hQ _ (EA (a:=a) hp.2 .first hk))
   obtain⟨_,hK,_,hkap⟩:=hy
   exact(hkap s₁ (hK.os.trans R.os) (hK.bare (cW R.bare rfl)) fun _ _ _ e=>e).elim
  ·have hgo:=h5 (s.setGen g .running) R.os (cW R.bare rfl) (fun _ _ _ e=>e)
   rw[hm]at hgo
   refine jh (P:=GP _) (n:=0) hr.handled (kJ ok R.r) hroom hg h1 hgo (fun v s₁ gs' hb hy=>?_) (fun s₁ hp h' hk=>hQ _ (EA (a:=a) hp.2 .later hk))
   obtain⟨_,hK,_,hkap⟩:=hy
   exact(hkap s₁ (hK.os.trans R.os) (hK.bare (cW R.bare rfl)) fun _ _ _ e=>e).elim
 self:=fun j wr s Q Ex hst hQ=>by
  rcases hst with⟨hg,_⟩|⟨hg,_⟩<;>exact wpAny_pyIter_gen hg hQ
theorem BB(ok:bF C){g:Nat}{q:Nat→NW}(F:By C g q)(hgen:∀f args its,C.P.gen f args=some its→ ∃l,f= .fn g∧args=[.str l]∧its=fX l):Bv C where
 obj:=fun{f args l} e {W st2 s cf} R rf=>by
  refine bc fun hN0=>?_
  obtain⟨x,rfl,rfl,rfl⟩:=hgen _ _ _ e
  have hc:cf= .ref (C.addr g):=rf
  subst hc
  obtain⟨o,fd,ho,hd,_⟩:=F.ex
  refine hN0 ?_
  refine⟨_,o,fd,rfl,⟨fun hm=>?_,F.nt⟩,R.r.keep _ _ ho F.nt,hd⟩
  have:=(R.r.lo _ hm).1
  rw[ho]at this;cases this
 gen:=fun{f args its n st A W s Ex Q cf cs t sc'} e hr R rf ra h=>by
  refine bc fun hN1=>?_
  obtain⟨l,rfl,rfl,rfl⟩:=hgen _ _ _ e
  have hc:cf= .ref (C.addr g):=rf
  subst hc
  obtain⟨c,cr,rfl,rc,e2⟩:=ra
  cases e2
  refine hN1 ?_
  have hlen:l.length≤lid:=let ⟨_,_,h⟩:=rc;h
  have hroom:=hr.lt
  refine wG ok F R hroom rc fun fd cells s2 R2 X2 B hkeep hgens hos t1 t2=>?_
  have hLocc:∃o,s2.heap.get? s.heap.objs.size=some o:=(X2.r.r.lo _ (aF X2.fr.loc)).2
  have hLlt:s.heap.objs.size<s2.heap.objs.size:=by obtain⟨o,e⟩:=hLocc;exact Od e
  have hnew:=Nl s2.heap (o:={ cls:=.type "generator",data:=.fields #[.int s2.gens.size 0,.str fd.name t1,.str fd.qualname t2] }) rfl
  have hg:(s2.heap.push { cls:=.type "generator",data:=.fields #[.int s2.gens.size 0,.str fd.name t1,.str fd.qualname t2] }).IsGen s2.heap.objs.size s2.gens.size:=⟨_,_,_,hnew,rfl,rfl,rfl⟩
  refine wpAny_pyIter_gen hg ?_
  refine bc fun hN2=>?_
  obtain⟨m,hn,hmv⟩:=X2.fr.ns
  obtain⟨c',hc1,hc2⟩:=hmv 0 _ (.str l) rfl rfl
  obtain⟨u,rfl,_⟩:=hc2
  refine hN2 ?_
  refine h s2.heap.objs.size s _ W [] [] [] [s2.heap.objs.size,s.heap.objs.size] [s2.gens.size] _ .refl R ⟨fun a o e=>Ni _ (hkeep a o e),hos,fun g gs e=>?_,fun hb=>?_⟩ (by simp;exact UT hLlt) (fun b hb=>?_) (fun g hg=>by simp at hg;subst hg;rw[hgens];exact M9 _) ⟨rfl,fun p hp=>by cases hp⟩
   (zF ok (q:=q) (env:=om fd (C.addr g) s.heap.objs.size cells) B rfl hr (UT hLlt) hlen) (.fresh hg rfl rfl ?_ m u (hn.push _) hc1)
  ·show(s2.gens.push _)[g]? =some gs
   rw[hgens,Array.getElem?_push_lt (Qj.mp e).1]
   have:=(Qj.mp e).2
   rw[this]
  ·intro y hy
   rcases Array.mem_push.mp hy with hy|rfl
   ·rw[hgens]at hy;exact hb y hy
   ·rfl
  ·simp at hb
   rcases hb with rfl|rfl
   ·refine⟨?_,_,hnew⟩
    cases e:s.heap.get? s2.heap.objs.size with
    |none=>rfl
    |some o=>have:=hkeep _ _ e;rw[aC (M9 _)]at this;cases this
   ·refine bc fun hN3=>?_
    obtain⟨o,e⟩:=hLocc
    refine hN3 ?_
    exact⟨aC (M9 _),o,Ni _ e⟩
  ·exact Array.getElem?_push_size ..
end
end Rk
end

section
namespace Rk
open PySem PySem.W PySem.Calls PyProof.Rows PySem.SeqAt
noncomputable def isFn:Data→Option OM
 |.func fd=>some fd
 |_=>none
theorem BC{d:Data}{fd:OM}(h:isFn d=some fd):d= .func fd:=by cases d<;>first|exact ns h|exact congrArg _ (M0 h)
noncomputable def EB:Data→Option (Array MU)
 |.fields vs=>some vs
 |_=>none
theorem zG{d:Data}{vs:Array MU}(h:EB d=some vs):d= .fields vs:=by cases d<;>first|exact ns h|exact congrArg _ (M0 h)
noncomputable def isRef:MU→Option Na
 |.ref c=>some c
 |_=>none
theorem zH{v:MU}{c:Na}(h:isRef v=some c):v= .ref c:=by cases v<;>first|exact ns h|exact congrArg _ (M0 h)
noncomputable def BD:MU→Option (NT×Vt)
 |.str q t=>some (q,t)
 |_=>none
theorem wI{v:MU}{p:NT×Vt}(h:BD v=some p):v= .str p.1 p.2:=by cases v<;>first|exact ns h|(rw[←M0 h])
noncomputable def fnAt(K:T_)(a:Na):Option OM:=(K.lookup a).bind fun o=>isFn o.data
theorem xZ{K:T_}{a:Na}{fd:OM}(e:fnAt K a=some fd):∃o,K.lookup a=some o∧o.data= .func fd:=by
 obtain⟨o,h1,h2⟩:=af e
 exact⟨o,h1,BC h2⟩
noncomputable def codeOk(K:T_)(a:Na):Bool:=((fnAt K a).bind fun fd=>(isRef fd.code).bind fun c=>(K.lookup c).bind fun o=>(EB o.data).bind fun vs=>(vs[1]? :Option MU).bind fun v=>(BD v).bind fun p=>if p.1=fd.qualname then some ()else none).isSome
structure EC (C:Cx) (K:T_):Prop where
 k:K.In C.h₁
 nt:∀a∈C.ta,K.lookup a=none
theorem EC.ta{C:Cx}{K:T_}(I:EC C K){a:Na}{o:Ug}(e:K.lookup a=some o):a∉C.ta:=fun hm=>by rw[I.nt a hm]at e;cases e
theorem EC.at{C:Cx}{K:T_}{W:Wt}{st:ao}{s:MT}(I:EC C K)(R:au C W st s):K.In s.heap:=fun a o e=>R.r.keep a o (I.k a o e) (I.ta e)
theorem x7{C:Cx}{K:T_}(I:EC C K){a:Na}{fd:OM}(hfn:fnAt K a=some fd)(e:codeOk K a=true):
  vL C fd:=by
 obtain⟨u,e⟩:=Option.isSome_iff_exists.mp e
 obtain⟨fd',h0,e1⟩:=af e
 have h0:=M0 (hfn.symm.trans h0)
 obtain⟨c,h1,e2⟩:=af e1
 obtain⟨o,h2,e3⟩:=af e2
 obtain⟨vs,h3,e4⟩:=af e3
 obtain⟨v,h4,e5⟩:=af e4
 obtain⟨p,h5,e6⟩:=af e5
 have h6:=(gk e6).1
 rw[wI h5,h6,←h0]at h4
 rw[←h0]at h1
 exact⟨c,o,vs,p.2,zH h1,I.ta h2,I.k _ _ h2,zG h3,h4⟩
noncomputable def wJ(K:T_)(fd:OM)(F:Fd):Prop:=∀args key vals,gh F args key=some vals→
 (∀{C:Cx} {W:Wt} {h:NX} cs kw,aY C W h args cs→Io C W h key kw→ ∃cvals,aY C W h vals cvals∧ ∀s:MT,K.In s.heap→SN s fd ⟨cs,kw⟩ (iq F.sc cvals))∧ ∀i,i<vals.length→ ∃x,F.sc[i]? =some x∧j0 x=true
noncomputable def Dr(np:Nat)(sc:Sc):Bool:=decide (np≤sc.length)&&(sc.take np).all j0
theorem ou{np:Nat}{sc:Sc}(e:Dr np sc=true){i:Nat}(hi:i<np):∃x,sc[i]? =some x∧j0 x=true:=by
 simp only[Dr,Nu,decide_eq_true_eq,NB]at e
 have hl:i<sc.length:=Nm hi e.1
 refine⟨sc[i],M3 hl,e.2 _ ?_⟩
 have:(sc.take np)[i]? =some sc[i]:=by rw[PJ hi,M3 hl]
 exact Nh this
theorem br{K:T_}{a:Na}{fd:OM}{F:Fd}(hfn:fnAt K a=some fd)(h2:F.key=false)(h3:F.dflt=[])
  (hb:∀cs:List MU,cs.length=F.np→ ∀S,(fnAt K a).bind (fun fd=>peek K S (bindArgs fd ⟨cs,[]⟩))=some (iq F.sc cs)) (hp:Dr F.np F.sc=true):wJ K fd F:=by
 intro args key vals e
 unfold gh at e
 rw[h2,h3]at e
 split at e
 ·rename_i hl
  simp only[Px,QT]at hl
  have hlen:args.length=F.np:=S_ hl.1 hl.2
  cases key with
  |some k=>cases e
  |none=>
   simp only[Uh,Nc,NP]at e
   subst e
   refine⟨fun{C W h} cs kw hcs hkw=>⟨cs,hcs,fun s X=>?_⟩,fun i hi=>ou hp (hlen▸hi)⟩
   have:kw=[]:=hkw
   subst this
   refine kp_binds X fun S=>?_
   have:=hb cs (by rw[hcs.length,hlen]) S
   rw[hfn]at this
   exact this
 ·cases e
section
variable {P:List MU→Prop}
theorem lO{n:Nat}(h:∀(a:MU) (cs:List MU),cs.length=n→P (a::cs))(cs:List MU)(e:cs.length=n+1):P cs:=by
 cases cs with
 |nil=>exact absurd e.symm (O1 n)
 |cons a cs=>exact h a cs (V3 e)
theorem FG(h:P [])(cs:List MU)(e:cs.length=0):P cs:=by rw[O4 e];exact h
theorem ji(h:∀a,P [a]):∀cs:List MU,cs.length=1→P cs:=lO fun a=>FG (P:=fun l=>P (a::l)) (h a)
theorem j2(h:∀a b,P [a,b]):∀cs:List MU,cs.length=2→P cs:=lO fun a=>ji (P:=fun l=>P (a::l)) (h a)
theorem pO(h:∀a b c,P [a,b,c]):∀cs:List MU,cs.length=3→P cs:=lO fun a=>j2 (P:=fun l=>P (a::l)) (h a)
theorem FH(h:∀a b c d e f,P [a,b,c,d,e,f]):∀cs:List MU,cs.length=6→P cs:=lO fun a=>lO fun b=>lO fun c=>pO (P:=fun l=>P (a::b::c::l)) (h a b c)
theorem BE(p2:∀a b,P [a,b])(p3:∀a b c,P [a,b,c])(p4:∀a b c d,P [a,b,c,d]){cs:List MU}(h:2≤cs.length∧cs.length≤4):P cs:=by
 rcases(by lia:cs.length=2∨cs.length=3∨cs.length=4)with h|h|h
 ·exact j2 p2 cs h
 ·exact pO p3 cs h
 ·exact lO (fun a=>pO (P:=fun l=>P (a::l)) (p4 a)) cs h
end
theorem jk{K:T_}{a:Na}{fd:OM}{F:Fd}{t:Vt}(hfn:fnAt K a=some fd)(h1:F.np=4)(h2:F.key=true)(h3:F.dflt=[.int 0,.none])(hp:Dr 5 F.sc=true)
  (b2:∀c1 c2 S,(fnAt K a).bind (fun fd=>peek K S (bindArgs fd ⟨[c1,c2],[]⟩))=some (iq F.sc [c1,c2,.int 0 t,.none,.none]))
  (b3:∀c1 c2 c3 S,(fnAt K a).bind (fun fd=>peek K S (bindArgs fd ⟨[c1,c2,c3],[]⟩))=some (iq F.sc [c1,c2,c3,.none,.none]))
  (b4:∀c1 c2 c3 c4 S,(fnAt K a).bind (fun fd=>peek K S (bindArgs fd ⟨[c1,c2,c3,c4],[]⟩))=some (iq F.sc [c1,c2,c3,c4,.none]))
  (k2:∀c1 c2 k S,(fnAt K a).bind (fun fd=>peek K S (bindArgs fd ⟨[c1,c2],[(("key":NT),k)]⟩))=some (iq F.sc [c1,c2,.int 0 t,.none,k]))
  (k3:∀c1 c2 c3 k S,(fnAt K a).bind (fun fd=>peek K S (bindArgs fd ⟨[c1,c2,c3],[(("key":NT),k)]⟩))=some (iq F.sc [c1,c2,c3,.none,k]))
  (k4:∀c1 c2 c3 c4 k S,(fnAt K a).bind (fun fd=>peek K S (bindArgs fd ⟨[c1,c2,c3,c4],[(("key":NT),k)]⟩))=some (iq F.sc [c1,c2,c3,c4,k])):wJ K fd F:=by
 rw[hfn]at b2 b3 b4 k2 k3 k4
 intro args key vals e
 obtain⟨hl,ez1⟩:=gk e
 rw[h2]at ez1
 have ez1:=(M0 ez1).symm
 rw[h1,h3]at hl ez1
 have two:2≤args.length∧args.length≤4:=⟨Nat.le_of_add_le_add_right (b:=2) hl.2,hl.1⟩
 have v5:vals.length=5:=by rw[ez1];simp;lia
 refine⟨fun{C W h} cs kw hcs hkw=>?_,fun i hi=>ou hp (v5▸hi)⟩
 have hlen:=hcs.length
 rw[←hlen]at two ez1
 have fin:∀kc,VR C W h (key.getD .none) kc→(∀S,peek K S (bindArgs fd ⟨cs,kw⟩)=some (iq F.sc (cs++[Sm 0 t,.none].drop (cs.length+2-4)++[kc])))→ ∃cvals,aY C W h vals cvals∧ ∀s:MT,K.In s.heap→SN s fd ⟨cs,kw⟩ (iq F.sc cvals):=
  fun kc rk hb=>⟨_,by rw[ez1];exact(hcs.append (aY.drop (l:=[.int 0,.none]) (cs:=[.int 0 t,.none]) _ ⟨_,_,rfl,⟨t,rfl⟩,aY.one rfl⟩)).append (aY.one rk),fun s X=>kp_binds X hb⟩
 clear hfn h1 h2 h3 hp e hl ez1 hlen
 cases key with
 |none=>
  have:kw=[]:=hkw
  clear k2 k3 k4
  subst this
  exact fin .none rfl (BE (P:=fun cs=>∀S,peek K S (bindArgs fd ⟨cs,[]⟩)=some (iq F.sc (cs++[Sm 0 t,.none].drop (cs.length+2-4)++[O_]))) b2 b3 b4 two)
 |some k=>
  obtain⟨c,rfl,rk⟩:=hkw
  exact fin c rk (BE (P:=fun cs=>∀S,peek K S (bindArgs fd ⟨cs,[(("key":NT),c)]⟩)=some (iq F.sc (cs++[Sm 0 t,.none].drop (cs.length+2-4)++[c]))) (fun a b=>k2 a b c) (fun a b d=>k3 a b d c) (fun a b d f=>k4 a b d f c) two)
theorem BF{C:Cx}{sc:Sc}{mo:List (NT×V8)}(nO:mC C.bN sc=true){L:Na}{cells:List (NT×Na)}{q:NT}{f:Option Na}{cd:MU}:dF C sc (newEnv { Sc.scope sc with more:=mo } L mainGlobals cells q f cd none builtinsNs):=by
 have hnd:=fO nO
 refine oj nO rfl rfl rfl fun i x hx=>?_
 have h1:=eo (f:=SE.kind) hnd hx
 have h2:(newEnv { Sc.scope sc with more:=mo } L mainGlobals cells q f cd none builtinsNs).kindOf x.name=some x.kind:=h1
 clear hnd hx h1
 cases x with
 |lc nm=>exact h2
 |ce nm=>exact h2
 |fe nm o=>exact .inl h2
 |gl k=>exact h2
structure sY (C:Cx) (O:cQ) (sc:Sc) (env:OZ) (df:Nat→Nat→NW→Bool):Prop where
 ok:iH C O sc env df
theorem bq{C:Cx}{O:cQ}{sc:Sc}{env:OZ}:sY C O sc env (fun _ _ _=>false):=⟨by
 intro id i p en en' W st st' s A Ex Q fl hd
 cases hd⟩
theorem pP{C:Cx}{O:cQ}{sc:Sc}{env:OZ}{df:Nat→Nat→NW→Bool}(ok:bF C){T:Tb}(hT:T∈C.tabs)(hinj:∀T'∈C.tabs,T'.P=T.P→T'=T)(B:dF C sc env)(hcode:env.code= .ref T.c)(hK:VC C.h₁ T.c T.P)(hct:T.c∉C.ta)(hbi:C.h₁.BuiltinsAt C.mg T.P)(hbt:∀bm,C.mg "__builtins__"=some (.ref bm)→bm∉C.ta)
  (hq:env.qual++(C.P.N T.id).name=T.q) (hdf:∀id i p,df id i p=true→id=T.id∧p=T.pos∧nm sc i=(C.P.N T.id).name)
  (hd0:(C.P.N T.id).args.defaults=[]) (hk0:(C.P.N T.id).args.kw_defaults=[]) (ha:∀env,annTrees (C.P.N T.id).args none env=[]) (hdoc:docOf (C.P.N T.id).code=none) (hfe:(C.P.N T.id).sc.all (zj sc)=true)
  (hge:env.kindOf (C.P.N T.id).name≠some .globalExplicit):sY C O sc env df:=⟨by
 intro id i p en en' W st st' s A Ex Q fl hd X hh he h
 exact zD ok B hT hinj hcode hK hct hbi hbt hq hdf hd0 hk0 ha hdoc hfe hge hd X hh he h⟩
theorem cF{C:Cx}{K:T_}(I:EC C K){g:Nat}{df:Nat→Nat→NW→Bool}(mo:List (NT×V8))
  (hsh:(fnAt K (C.addr g)).map (fun fd=>(fd.body,fd.scope,fd.closure,fd.globals,fd.builtins))=some (.stmts (dH C.P.N (C.P.F g).body (C.P.F g).sc),{ Sc.scope (C.P.F g).sc with more:=mo },[],mainGlobals,builtinsNs))
  (hc:codeOk K (C.addr g)=true) (nO:mC C.bN (C.P.F g).sc=true) (wb:bF C→ ∀n,bD C (jK C.P n) n→BodyOk C (jK C.P n) n df (C.P.F g).body (C.P.F g).sc) (hfr:frees (C.P.F g).sc=0)
  (hbind:∀fd,fnAt K (C.addr g)=some fd→wJ K fd (C.P.F g))
  (hdef:∀fd,fnAt K (C.addr g)=some fd→ ∀O L cells,sY C O (C.P.F g).sc (newEnv { Sc.scope (C.P.F g).sc with more:=mo } L mainGlobals cells (fd.qualname++(".<locals>.":NT)) (some (C.addr g)) fd.code none builtinsNs) df):dJ C g:=by
 cases hfn:fnAt K (C.addr g)with
 |none=>rw[hfn]at hsh;cases hsh
 |some fd=>
  rw[hfn]at hsh
  simp only[Pd,NP,Sh]at hsh
  obtain⟨h1,h2,h3,h4,h5⟩:=hsh
  obtain⟨o,ho,hd⟩:=xZ hfn
  refine⟨I.ta ho,o,fd,df,mo,I.k _ _ ho,hd,h1,h2,h3,h4,h5,x7 I hfn hc,nO,wb,hfr,fun args key vals cs kw W st s e R ra rk=>?_,fun O L cells=> @sY.ok _ _ _ _ _ (hdef fd hfn O L cells)⟩
  obtain⟨b1,b2⟩:=hbind fd hfn args key vals e
  obtain⟨cvals,r,hb⟩:=b1 cs kw ra rk
  exact⟨⟨cvals,r,hb s (I.at R)⟩,b2⟩
theorem BG{C:Cx}{K:T_}(I:EC C K){g:Nat}{q:Nat→NW}(gl:mC C.bN G.cZ=true)
  (hsh:(fnAt K (C.addr g)).map (fun fd=>(fd.body,fd.scope,fd.closure,fd.globals,fd.builtins))=some (.stmts (G.body q),{ Sc.scope G.cZ with isGenerator:=true },[],mainGlobals,builtinsNs))
  (hc:codeOk K (C.addr g)=true) (hb:∀c,(fnAt K (C.addr g)).map (fun fd=>bindArgs fd ⟨[c],[]⟩)=some (pure [(("addr":NT),c)])):By C g q:=by
 cases hfn:fnAt K (C.addr g)with
 |none=>rw[hfn]at hsh;cases hsh
 |some fd=>
  rw[hfn]at hsh hb
  simp only[Pd,NP,Sh]at hsh
  obtain⟨h1,h2,h3,h4,h5⟩:=hsh
  obtain⟨o,ho,hd⟩:=xZ hfn
  refine⟨I.ta ho,gl,o,fd,I.k _ _ ho,hd,h1,h2,h3,h4,h5,x7 I hfn hc,fun v s=>?_⟩
  exact Ul (M0 (hb v))
end Rk
namespace Rk
open PySem PySem.W PySem.Calls PyProof.Rows PySem.SeqAt
theorem fb{C:Cx}{K:T_}(X:K.In C.h₁)(hg:C.h₁.Ns mainGlobals C.mg){k g:Nat}{a:Na}(e:nsIn K mainGlobals (dc k)=some (some (.ref a)))(hv:cH k= .fn g)(ha:C.addr g=a):
  ∃c,(C.mg (dc k)=some c∨(C.mg (dc k)=none∧C.mb (dc k)=some c))∧ ∀W h,VR C W h (cH k) c:=
 ⟨.ref a,.inl (mg_of X hg e),fun W h=>by rw[hv];exact congrArg Rx ha.symm⟩
theorem gl_int{C:Cx}{K:T_}(X:K.In C.h₁)(hg:C.h₁.Ns mainGlobals C.mg){k:Nat}{i:Int}{t:Vt}(e:nsIn K mainGlobals (dc k)=some (some (.int i t)))(hv:cH k= .int i):
  ∃c,(C.mg (dc k)=some c∨(C.mg (dc k)=none∧C.mb (dc k)=some c))∧ ∀W h,VR C W h (cH k) c:=
 ⟨_,.inl (mg_of X hg e),fun W h=>by rw[hv];exact⟨t,rfl⟩⟩
theorem gK{C:Cx}{K:T_}(X:K.In C.h₁)(hg:C.h₁.Ns mainGlobals C.mg)(hmb:∀x:NT,x≠"__name__"→C.mb x=bootBuiltins x){k:Nat}{b:BI}(e:nsIn K mainGlobals (dc k)=some none)(hb:bootBuiltins (dc k)=some (ee b))
  (hn:dc k≠"__name__") (hv:cH k= .bi b):
  ∃c,(C.mg (dc k)=some c∨(C.mg (dc k)=none∧C.mb (dc k)=some c))∧ ∀W h,VR C W h (cH k) c:=
 ⟨ee b,.inr ⟨mg_none_of X hg e,(hmb _ hn).trans hb⟩,fun W h=>by rw[hv];rfl⟩
theorem zI{C:Cx}{s:MT}(hs:C.h₁=s.heap)(hos:C.os=s.os)(hg:s.gens= #[])(ht:∀T∈C.tabs,s.heap.get? T.P=some (tabObj #[])):au C ⟨[],[],[]⟩ ⟨[],[]⟩ s where
 r:={
  keep:=fun a o e _=>hs▸e
  tabs:=fun T hT=>⟨#[],ht T hT,by first|exact trivial|simp[TV],.inl rfl⟩
  grown:=fun T hT=>⟨#[], #[],hs▸ht T hT,by simpa using ht T hT⟩
  jC:=rfl
  ng:=rfl
  σ:=fun i l a e=>by simp at e
  κ:=fun i l a e=>by simp at e
  nodup:=OQ
  lo:=fun a ha=>by cases ha }
 os:=hos.symm
 bare:=by rw[hg];intro y hy;simp at hy
end Rk
end

section
set_option maxHeartbeats 0
namespace Rk.K1
open PySem PySem.W PyProof.Rows
noncomputable abbrev pr:Rp:=PySem.Challenge.pw_rs0200_01
noncomputable def vw:Rp:={ pr with main:={ pr.main with body:=pr.main.body.drop 24 } }
noncomputable def lo:List NT:=["_DIV_LIMIT","_div2n1n","_div3n2n","_int2digits","_digits2int","_divmod_pos","int_divmod","insort_right","bisect_right","insort_left","bisect_left","_iter_escaped_chars","_strip_quoted_realnames","_check_parenthesis","_pre_parse_validation","_law_first","_law_row","_law_dress","_law_ways","_law_hits"]
noncomputable def s(x:NT)(t:Vt):MU:=.str x t
noncomputable def en(P:Params)(x:NT)(t:Vt)(v:MU):DictEntry:={ hash:=PyData.keyHash P x,key:=.str x t,val:=v }
noncomputable def fo(i:Nat)(d k:MU)(m:NT)(t:Vt)(c:Na):Ug:=match pr.main.body[i]? with
 |some (.FunctionDef n a b _ _ _ sc _ _ _)=>{ cls:=.type "function",data:=.func { name:=n,qualname:=n,params:=a,body:=.stmts b,scope:=sc,globals:=3,closure:=[],defaults:=d,kwdefaults:=k,pyModule:=.str m t,code:=.ref c } }
 |_=>{ cls:=.none,data:=.plain }
noncomputable def co(l:Array MU):Ug:={ cls:=.type "code",data:=.fields l }
noncomputable def K(P:Params):T_:=[(3,{ cls:=.type "dict",data:=.dict #[en P "__name__" 165 (s "law_rs0200_01" 368),en P "__doc__" 166 (.none),en P "__package__" 167 (.none),en P "__loader__" 168 (.builtin "__main__.__loader__#opaque"),en P "__spec__" 169 (.none),en P "__annotations__" 170 (.ref 6),en P "__builtins__" 171 (.ref 4),en P "__file__" 173 (s "/claim/cut.py" 172),en P "__cached__" 174 (.none),en P "_DIV_LIMIT" 190 (.int 4000 189),en P "_div2n1n" 207 (.ref 21),en P "_div3n2n" 221 (.ref 28),en P "_int2digits" 232 (.ref 35),en P "_digits2int" 243 (.ref 42),en P "_divmod_pos" 258 (.ref 49),en P "int_divmod" 268 (.ref 56),en P "insort_right" 283 (.ref 65),en P "bisect_right" 297 (.ref 74),en P "insort_left" 310 (.ref 83),en P "bisect_left" 324 (.ref 92),en P "_iter_escaped_chars" 336 (.ref 99),en P "_strip_quoted_realnames" 348 (.ref 106),en P "_check_parenthesis" 358 (.ref 113),en P "_pre_parse_validation" 367 (.ref 120),en P "_law_first" 376 (.ref 127),en P "_law_row" 386 (.ref 134),en P "_law_dress" 401 (.ref 141),en P "_law_ways" 407 (.ref 146),en P "_law_hits" 413 (.ref 151),en P "law" 419 (.ref 156)] 30 }),
 (20,co #[s "_div2n1n" 191,s "_div2n1n" 192,s "/claim/cut.py" 193,.int 3 0,.int 3 0,.int 0 0,.int 0 0,.int 3 0,.ref 15,.bool true,.int 181 0,.ref 16,.none,.ref 17,.ref 18,.ref 19,.int 205 0,.int 3 0,s "/claim/cut.py" 206]),
 (21,fo 2 (.none) (.none) "cpy313._pylong" 187 20),
 (27,co #[s "_div3n2n" 208,s "_div3n2n" 209,s "/claim/cut.py" 210,.int 19 0,.int 6 0,.int 0 0,.int 0 0,.int 3 0,.ref 22,.bool true,.int 181 0,.ref 23,.none,.ref 24,.ref 25,.ref 26,.int 219 0,.int 19 0,s "/claim/cut.py" 220]),
 (28,fo 3 (.none) (.none) "cpy313._pylong" 187 27),
 (34,co #[s "_int2digits" 222,s "_int2digits" 223,s "/claim/cut.py" 224,.int 29 0,.int 2 0,.int 0 0,.int 0 0,.int 3 0,.ref 29,.bool true,.int 181 0,.ref 30,.none,.ref 31,.ref 32,.ref 33,.int 230 0,.int 29 0,s "/claim/cut.py" 231]),
 (35,fo 4 (.none) (.none) "cpy313._pylong" 187 34),
 (41,co #[s "_digits2int" 233,s "_digits2int" 234,s "/claim/cut.py" 235,.int 45 0,.int 2 0,.int 0 0,.int 0 0,.int 3 0,.ref 36,.bool true,.int 181 0,.ref 37,.none,.ref 38,.ref 39,.ref 40,.int 241 0,.int 45 0,s "/claim/cut.py" 242]),
 (42,fo 5 (.none) (.none) "cpy313._pylong" 187 41),
 (48,co #[s "_divmod_pos" 244,s "_divmod_pos" 245,s "/claim/cut.py" 246,.int 54 0,.int 2 0,.int 0 0,.int 0 0,.int 3 0,.ref 43,.bool true,.int 181 0,.ref 44,.none,.ref 45,.ref 46,.ref 47,.int 256 0,.int 54 0,s "/claim/cut.py" 257]),
 (49,fo 6 (.none) (.none) "cpy313._pylong" 187 48),
 (55,co #[s "int_divmod" 259,s "int_divmod" 260,s "/claim/cut.py" 261,.int 65 0,.int 2 0,.int 0 0,.int 0 0,.int 3 0,.ref 50,.bool true,.int 181 0,.ref 51,.none,.ref 52,.ref 53,.ref 54,.int 266 0,.int 65 0,s "/claim/cut.py" 267]),
 (56,fo 7 (.none) (.none) "cpy313._pylong" 187 55),
 (57,{ cls:=.type "tuple",data:=.seq #[.int 0 271,.none] }),
 (58,{ cls:=.type "dict",data:=.dict #[en P "key" 272 (.none)] 1 }),
 (64,co #[s "insort_right" 273,s "insort_right" 274,s "/claim/cut.py" 275,.int 77 0,.int 4 0,.int 0 0,.int 1 0,.int 3 0,.ref 59,.bool true,.int 181 0,.ref 60,.none,.ref 61,.ref 62,.ref 63,.int 281 0,.int 77 0,s "/claim/cut.py" 282]),
 (65,fo 9 (.ref 57) (.ref 58) "cpy313.bisect" 269 64),
 (66,{ cls:=.type "tuple",data:=.seq #[.int 0 284,.none] }),
 (67,{ cls:=.type "dict",data:=.dict #[en P "key" 285 (.none)] 1 }),
 (73,co #[s "bisect_right" 286,s "bisect_right" 287,s "/claim/cut.py" 288,.int 83 0,.int 4 0,.int 0 0,.int 1 0,.int 3 0,.ref 68,.bool true,.int 181 0,.ref 69,.none,.ref 70,.ref 71,.ref 72,.int 295 0,.int 83 0,s "/claim/cut.py" 296]),
 (74,fo 10 (.ref 66) (.ref 67) "cpy313.bisect" 269 73),
 (75,{ cls:=.type "tuple",data:=.seq #[.int 0 298,.none] }),
 (76,{ cls:=.type "dict",data:=.dict #[en P "key" 299 (.none)] 1 }),
 (82,co #[s "insort_left" 300,s "insort_left" 301,s "/claim/cut.py" 302,.int 103 0,.int 4 0,.int 0 0,.int 1 0,.int 3 0,.ref 77,.bool true,.int 181 0,.ref 78,.none,.ref 79,.ref 80,.ref 81,.int 308 0,.int 103 0,s "/claim/cut.py" 309]),
 (83,fo 11 (.ref 75) (.ref 76) "cpy313.bisect" 269 82),
 (84,{ cls:=.type "tuple",data:=.seq #[.int 0 311,.none] }),
 (85,{ cls:=.type "dict",data:=.dict #[en P "key" 312 (.none)] 1 }),
 (91,co #[s "bisect_left" 313,s "bisect_left" 314,s "/claim/cut.py" 315,.int 109 0,.int 4 0,.int 0 0,.int 1 0,.int 3 0,.ref 86,.bool true,.int 181 0,.ref 87,.none,.ref 88,.ref 89,.ref 90,.int 322 0,.int 109 0,s "/claim/cut.py" 323]),
 (92,fo 12 (.ref 84) (.ref 85) "cpy313.bisect" 269 91),
 (98,co #[s "_iter_escaped_chars" 327,s "_iter_escaped_chars" 328,s "/claim/cut.py" 329,.int 130 0,.int 1 0,.int 0 0,.int 0 0,.int 35 0,.ref 93,.bool true,.int 181 0,.ref 94,.none,.ref 95,.ref 96,.ref 97,.int 334 0,.int 130 0,s "/claim/cut.py" 335]),
 (99,fo 14 (.none) (.none) "cpy313.email.utils" 325 98),
 (105,co #[s "_strip_quoted_realnames" 337,s "_strip_quoted_realnames" 338,s "/claim/cut.py" 339,.int 143 0,.int 1 0,.int 0 0,.int 0 0,.int 3 0,.ref 100,.bool true,.int 181 0,.ref 101,.none,.ref 102,.ref 103,.ref 104,.int 346 0,.int 143 0,s "/claim/cut.py" 347]),
 (106,fo 15 (.none) (.none) "cpy313.email.utils" 325 105),
 (112,co #[s "_check_parenthesis" 349,s "_check_parenthesis" 350,s "/claim/cut.py" 351,.int 161 0,.int 1 0,.int 0 0,.int 0 0,.int 3 0,.ref 107,.bool true,.int 181 0,.ref 108,.none,.ref 109,.ref 110,.ref 111,.int 356 0,.int 161 0,s "/claim/cut.py" 357]),
 (113,fo 16 (.none) (.none) "cpy313.email.utils" 325 112),
 (119,co #[s "_pre_parse_validation" 359,s "_pre_parse_validation" 360,s "/claim/cut.py" 361,.int 172 0,.int 1 0,.int 0 0,.int 0 0,.int 3 0,.ref 114,.bool true,.int 181 0,.ref 115,.none,.ref 116,.ref 117,.ref 118,.int 365 0,.int 172 0,s "/claim/cut.py" 366]),
 (120,fo 17 (.none) (.none) "cpy313.email.utils" 325 119),
 (126,co #[s "_law_first" 370,s "_law_first" 371,s "/claim/cut.py" 372,.int 180 0,.int 1 0,.int 0 0,.int 0 0,.int 3 0,.ref 121,.bool true,.int 181 0,.ref 122,.none,.ref 123,.ref 124,.ref 125,.int 374 0,.int 180 0,s "/claim/cut.py" 375]),
 (127,fo 19 (.none) (.none) "law_rs0200_01" 368 126),
 (133,co #[s "_law_row" 377,s "_law_row" 378,s "/claim/cut.py" 379,.int 182 0,.int 1 0,.int 0 0,.int 0 0,.int 3 0,.ref 128,.bool true,.int 181 0,.ref 129,.none,.ref 130,.ref 131,.ref 132,.int 384 0,.int 182 0,s "/claim/cut.py" 385]),
 (134,fo 20 (.none) (.none) "law_rs0200_01" 368 133),
 (140,co #[s "_law_dress" 387,s "_law_dress" 388,s "/claim/cut.py" 389,.int 188 0,.int 2 0,.int 0 0,.int 0 0,.int 3 0,.ref 135,.bool true,.int 181 0,.ref 136,.none,.ref 137,.ref 138,.ref 139,.int 399 0,.int 188 0,s "/claim/cut.py" 400]),
 (141,fo 21 (.none) (.none) "law_rs0200_01" 368 140),
 (145,co #[s "_law_ways" 402,s "_law_ways" 403,s "/claim/cut.py" 404,.int 201 0,.int 1 0,.int 0 0,.int 0 0,.int 3 0,.ref 142,.bool true,.int 181 0,.ref 143,.none,.none,.none,.ref 144,.int 405 0,.int 201 0,s "/claim/cut.py" 406]),
 (146,fo 22 (.none) (.none) "law_rs0200_01" 368 145),
 (150,co #[s "_law_hits" 408,s "_law_hits" 409,s "/claim/cut.py" 410,.int 209 0,.int 1 0,.int 0 0,.int 0 0,.int 3 0,.ref 147,.bool true,.int 181 0,.ref 148,.none,.none,.none,.ref 149,.int 411 0,.int 209 0,s "/claim/cut.py" 412]),
 (151,fo 23 (.none) (.none) "law_rs0200_01" 368 150),
 (155,co #[s "law" 414,s "law" 415,s "/claim/cut.py" 416,.int 216 0,.int 1 0,.int 0 0,.int 0 0,.int 3 0,.ref 152,.bool true,.int 181 0,.ref 153,.none,.none,.none,.ref 154,.int 417 0,.int 216 0,s "/claim/cut.py" 418]),
 (156,fo 24 (.none) (.none) "law_rs0200_01" 368 155)]
noncomputable def ks:List Na:=[3,20,21,27,28,34,35,41,42,48,49,55,56,57,58,64,65,66,67,73,74,75,76,82,83,84,85,91,92,98,99,105,106,112,113,119,120,126,127,133,134,140,141,145,146,150,151,155,156]
noncomputable def hk:Hook:=kmHook K ks (fun _=>by kernel_rfl!) [30,37]
theorem left:LeftO pr vw lo (fun s=>xlAt vw [] s&&recOk (RowW.records PySem.Challenge.rw_rs0200_01.row.toRowW) s) (Hook.obs hk) (Hook.val hk) 1700:=fun w=>by kernel_rfl!
theorem def_:∃d kwd,defOf vw PySem.Challenge.rw_rs0200_01.row.name=some (d,kwd)∧PySem.Challenge.rw_rs0200_01.row.prog.theDef PySem.Challenge.rw_rs0200_01.row.name=some (d.params,d.body,d.scope)∧kwWritten? d.params.kwonlyargs d.params.kw_defaults=some kwd:=⟨_,_,by rfl,by rfl,by rfl⟩
theorem hd(walk:∀d kwd,d.name=PySem.Challenge.rw_rs0200_01.row.name→WalkO vw lo (XL vw []) hk.says PySem.Challenge.rw_rs0200_01.row.toRowW d kwd fun f vs=>N5 f vs):PySem.Challenge.rw_rs0200_01.Holds:=by
 obtain⟨d,kwd,h1,h2,h3⟩:=def_
 exact holds_law (by kernel_rfl!) fun said=>holds_open (q:=vw) (loose:=lo) (XP:=XL vw []) (N:=1700) left hk.of hk.keeps (fun s e=>xl_of s (Rf.mp e).1) XL.keeps h1 h2 h3
  (fun s e=>recFacts_of (Rf.mp e).2) rfl said (by decide+kernel) ⟨rfl,rfl,rfl,rfl,rfl,by decide+kernel⟩ ⟨[.list []],by decide+kernel,by decide+kernel⟩ (walk d kwd (defOf_name h1))
end Rk.K1
end

section
set_option backward.match.sparseCases true
namespace Rk
open PySem PySem.W PySem.Calls PyProof.Rows PySem.SeqAt
section
variable {C:Cx} {O:cQ} {n:Nat} {N:Nat→Nf} {W W' W'':Wt} {st st':ao} {h h':NX} {s s' s'':MT} {A:NF} {Ex:MU→MT→Prop} {sc so:Sc} {env:OZ} {en en':En} {df:Nat→Nat→NW→Bool}
structure zJ (env:OZ) (nmx:NT) (c:MU) (s:MT):Prop where
 ns:∃m,s.heap.Ns env.locals m∧m nmx=some c
theorem zJ.tok{nmx:NT}{c:MU}{t:Nat}(x:zJ env nmx c s):zJ env nmx c { s with toks:=t }:=⟨x.ns⟩
theorem pQ{i:Nat}{nmx:NT}{c:MU}{p:NW}{Q:MU→MT→Prop}(B:dF C sc env)(hx:sc[i]? =some (.lc nmx))(x:zJ env nmx c s)(h:Q c s):wpAny (model C.prog C.w) A (eval (bw (.var i p) sc) env) Q Ex s:=by
 refine bc fun hN0=>?_
 obtain⟨m,hn,hm⟩:=x.ns
 obtain⟨hk,hg⟩:=B.names i _ hx
 refine hN0 ?_
 show wpAny _ _ (eval (.Name (nm sc i) p) env) _ _ _
 rw[lg hx]
 exact Q7 (Qh B.kind hk hn hm h) (eq_of_beq (band (band hg).1).1)
theorem BH{i:Nat}{v:V}(hi:i<en.ρ.length):cC { en with ρ:=en.ρ.set i (.loc (some v)) } st i=some v:=by
 show(match ((en.ρ.set i (.loc (some v)))[i]? :Option SV)with|some (.loc v)=>v|some (.fB k)=>(st.κ[k]?).getD none|some (.cY v)=>some v|none=>none)=_
 rw[Nv hi]
noncomputable def rB:E:=.bin .Mod (.var 2 ⟨185,22,185,26⟩) (.cI 2 0 ⟨185,29,185,30⟩) ⟨185,22,185,30⟩
noncomputable def rC:E:=.cmp .Eq rB (.cI 1 0 ⟨185,34,185,35⟩) ⟨185,22,185,35⟩
noncomputable def rI:E:=.qv rC (.cS [41] 0 ⟨185,15,185,18⟩) (.cS [40] 0 ⟨185,41,185,44⟩) ⟨185,15,185,44⟩
noncomputable def rS:S:=.asg (.bM 3 ⟨185,8,185,12⟩) rI ⟨185,8,185,44⟩
noncomputable def rN:E:=.d8 (.var 1 ⟨186,27,186,30⟩) .count (.cons (.var 3 ⟨186,37,186,41⟩) .nil) ⟨186,27,186,36⟩ ⟨186,27,186,42⟩
noncomputable def rT:E:=.cmp .Lt rN (.cI 4 0 ⟨186,45,186,46⟩) ⟨186,27,186,46⟩
noncomputable def rR:E:=.d8 (.cS [40,41] 0 ⟨186,52,186,56⟩) .replace (.cons (.var 3 ⟨186,65,186,69⟩) (.cons (.cS [] 0 ⟨186,71,186,73⟩) .nil)) ⟨186,52,186,64⟩ ⟨186,52,186,74⟩
noncomputable def rE:E:=.qv rT (.var 3 ⟨186,19,186,23⟩) rR ⟨186,19,186,74⟩
noncomputable def rA:S:=.expr (.d8 (.var 1 ⟨186,8,186,11⟩) .append (.cons rE .nil) ⟨186,8,186,18⟩ ⟨186,8,186,75⟩) ⟨186,8,186,75⟩
noncomputable def K2(C:Cx)(A:NF)(Q:P9→MT→Prop)(Ex:MU→MT→Prop)(c0:MU)(l2:List Nat)(t2:Vt)(s:MT):Prop:=
 wpAny (model C.prog C.w) A (N5 (.builtin (El .append false).2) [c0,.str ⟨l2.toArray⟩ t2] []) (fun v s'=>match v with|.ref _=>False|_=>Q .next s') Ex s
theorem zK(ok:bF C)(oo:bD C O n){fl:Fl}{Q:P9→MT→Prop}(B:dF C av.n8 env)(X:At C av.n8 env en W st s)(hr:bL n A)
  (he:aX O N rS en st=some (fl,en',st'))
  (h:∀l s' W' tk,(l=[41]∨l=[40])→fl= .bU→Step C (Ub W en.kb env.locals) W s W' s'→At C av.n8 env en' W' st' s'→en'.kb=en.kb→zJ env "sign" (.str ⟨l.toArray⟩ tk) s'→tk≠0→tk<s'.toks→cC en' st' 3=some (.str l)→Q .next s'):
  wpAny (model C.prog C.w) A (exec (toS N rS av.n8) env) Q Ex s:=by
 refine bc fun hN=>?_
 obtain⟨v,st1,e1,hez1⟩:=az he
 obtain⟨en2,st2,e2,hez1z1⟩:=az hez1
 clear he hez1
 obtain⟨rfl,rfl,rfl⟩:=fh hez1z1
 obtain⟨c,st3,e3,e1z1⟩:=az (show(bnd (a_ (ak O rC .test en st)) fun c st=>cond c (some (V.str [41],st)) (some (V.str [40],st)))=some (v,st1)from e1)
 obtain⟨vb,e3z1,e4⟩:=fP e3
 obtain⟨x,st5,e5,e3z1z1⟩:=az e3z1
 obtain⟨bb,e6,e3z1z1z1⟩:=af (show((iU .Eq (aJ st5 x) (.int 1)).bind fun b=>some (V.bool b,st5))=some (vb,st3)from e3z1z1)
 clear e1 hez1z1 e3 e3z1 e3z1z1
 obtain⟨rfl,rfl⟩:=aP e3z1z1z1
 have e4:some bb=some c:=e4
 clear e3z1z1z1
 cases e4
 replace e2:fC en st1 3 v=some (en2,st2):=e2
 have fin:∀(l:List Nat) (s3:MT) (W3:Wt),l.length≤lid→(l=[41]∨l=[40])→some (V.str l,st5)=some (v,st1)→Step C W.ay W s W3 s3→au C W3 st5 s3→0<s3.toks→
   wpAny (model C.prog C.w) A (storeName env (nm av.n8 3) (.str ⟨l.toArray⟩ s3.toks)) (fun _ s=>Q .next s) Ex { s3 with toks:=s3.toks+1 }:=fun l s3 W3 hl hab e S3 R3 h0=>by
  clear hr hN e1z1 e4 e5 e6
  obtain⟨rfl,rfl⟩:=aP e
  rcases mu e2 with⟨ov,hw,rfl,rfl⟩|⟨k,hw,hkk,rfl,rfl⟩
  ·have X3:=(X.step S3 R3).step (PS.tok s3 (s3.toks+1)).step (R3.ps (PS.tok s3 (s3.toks+1)))
   refine rD B X3 (i:=3) (nmx:="sign") (v:=.str l) rfl hw ⟨_,rfl,hl⟩ fun h' m hs' X4 hn hm=>?_
   have S4:Step C (Ub W3 en.kb env.locals) W3 { s3 with toks:=s3.toks+1 } W3 { s3 with heap:=h',toks:=s3.toks+1+1 }:=
    ⟨fun a o e=>(by
     by_cases q:a=env.locals
     ·clear hs' X4 hm
      subst q;obtain⟨o,_,_,e,_⟩:=hn;exact⟨o,e⟩
     ·exact⟨o,(hs'.2 a q).trans e⟩),fun a o e hu _=>(hs'.2 a fun q=>hu (by simp[Ub,q])).trans e,⟨[],by simp,by simp⟩,rfl,rfl,fun _ _ e=>e⟩
   refine h l _ W3 s3.toks hab rfl ((S3.after (PS.tok s3 (s3.toks+1)).step).ub.bl S4) X4 rfl ⟨m,hn,hm⟩ (UT h0) (by show s3.toks<s3.toks+1+1;omega) ?_
   exact BH (MW.mp hw).1
  ·exact(X.fr.vy 3 _ _ (show av.n8[3]? =some (.lc "sign")from rfl) hw).elim
 refine hN (PF (IfExp_ (Pu ((cV ok oo rB).val rfl B X hr e5 fun c1 s1 W1 S1 R1 r1=>?_) rfl)) (pq (e:=rI) rfl))
 refine Uy (lF (C:=C) (W:=W1) (x:=aJ st5 x) (y:=.int 1) hr e6 (r1.dr R1.r) ⟨_,rfl⟩ (Ob ?_))
 have R1':=R1.ps (PS.tok s1 (s1.toks+1))
 have S1':=S1.after (PS.tok s1 (s1.toks+1)).step
 clear hr hN e4 e5 e6 S1 R1 r1
 cases c with
 |true=>exact Po (fin [41] _ _ (by decide) (.inl rfl) e1z1 S1' R1' (OP _))
 |false=>exact Po (fin [40] _ _ (by decide) (.inr rfl) e1z1 S1' R1' (OP _))
theorem x9{e:E}{p:NW}:backTo p (starEach (b9 (.cons e .nil) sc) env)=[(false,eval (bw e sc) env)]:=by
 show backTo p (starEach (bw e sc::b9 .nil sc) env)=_
 rw[cu];rfl
theorem Ds{e e2:E}{p:NW}:backTo p (starEach (b9 (.cons e (.cons e2 .nil)) sc) env)=[(false,eval (bw e sc) env),(false,eval (bw e2 sc) env)]:=by
 show backTo p (starEach (bw e sc::bw e2 sc::b9 .nil sc) env)=_
 rw[cu,cu];rfl
theorem ny{o:E}{m:Mt}{b:Bool}{l:Es}{q p:NW}{Q:MU→MT→Prop}(wc:isCall o=false)(wln:(q.endLine == p.line)=true)(wlen:decide (l.len<20)=true)
  (h:wpAny (model C.prog C.w) A (eval (bw o sc) env) (fun co s1=>C9 s1 co (El m b).1∧ ∀f,wpAny (model C.prog C.w) A (evalArgs f true (backTo p (starEach (b9 l sc) env)) []) (fun a s2=>wpAny (model C.prog C.w) A (N5 (.builtin (El m b).2) (co::a.pos) a.kw) Q Ex s2) Ex s1) Ex s):
  wpAny (model C.prog C.w) A (eval (bw (.d8 o m l q p) sc) env) Q Ex s:=by
 have wlen:=of_decide_eq_true wlen
 obtain⟨b1,b2,b3⟩:=fY (sc:=sc) (env:=env) (p:=p) l
 refine Sp (xT wc) ?_ wln (Og h (fun co s1 h1=>?_) fun _ _ e=>e)
 ·rw[b2,b3,noKw]
  simp only[V1,VT,P4,Px,Qp,if_true,decide_eq_true_eq]
  lia
 ·obtain⟨K,h1⟩:=h1
  have F:=q5 m b
  exact⟨_,_,F.p,F.s,F.t,K.t,K.d,QO b1 (h1 _)⟩
theorem wL{l:List Nat}{c:Nat}(hl:l=[41]∨l=[40])(hc:l=[c]):Txt.replace ⟨[40,41].toArray⟩ ⟨l.toArray⟩ ⟨([]:List Nat).toArray⟩=⟨([40,41].filter fun y=> !(y == c)).toArray⟩:=by
 rcases hl with rfl|rfl
 ·cases hc;kernel_rfl
 ·cases hc;kernel_rfl
theorem wM(ok:bF C){l:List Nat}{tk:Vt}{fl:Fl}{Q:P9→MT→Prop}(hl:l=[41]∨l=[40])(B:dF C av.n8 env)(X:At C av.n8 env en W st s)(hr:bL n A)
  (hN:zJ env "sign" (.str ⟨l.toArray⟩ tk) s) (h0:tk≠0) (htk:tk<s.toks) (hg:cC en st 3=some (.str l))
  (he:aX O N rA en st=some (fl,en',st'))
  (h:jZ C av.n8 env en en' W st' s fl Q):
  wpAny (model C.prog C.w) A (exec (toS N rA av.n8) env) Q Ex s:=by
 refine bc fun hNo=>?_
 refine bc fun hN0=>?_
 obtain⟨v,st1,e1,hez1⟩:=az he
 obtain⟨hv,hez1z1⟩:=pA hez1
 have h:=h.next hez1z1
 clear hez1z1
 obtain⟨x,g1,e1z1⟩:=kK e1
 obtain⟨args,st2,e2,e3⟩:=az e1z1
 obtain⟨a,st3,e4,e5⟩:=az (show(bnd (bnd (a_ (ak O rT .test en st)) fun c st=>cond c ((cC en st 3).bind fun v=>some (v,st)) (ak O rR .val en st)) fun v st=>some ([v],st))=some (args,st2)from e2)
 clear he e1 hez1 hv e1z1 e2
 obtain⟨rfl,rfl⟩:=aP e5
 obtain⟨c,st4,e6,e7⟩:=az e4
 obtain⟨vb,e6z1,e8⟩:=fP e6
 obtain⟨nv,st5,e9,e10⟩:=az e6z1
 obtain⟨x2,g2,e9z1⟩:=kK e9
 rw[g1]at g2
 clear e4 e5 e6 e6z1 e9
 cases g2
 obtain⟨ys,st6,e11,e9z1z1⟩:=az e9z1
 obtain⟨y,g3,e11z1⟩:=kK e11
 rw[hg]at g3
 clear e9z1 e11
 cases g3
 obtain⟨rfl,rfl⟩:=aP (show some ([V.str l],st)=some (ys,st6)from e11z1)
 obtain⟨bb,e12,e10z1⟩:=af (show((iU .Lt (aJ st5 nv) (.int 4)).bind fun b=>some (V.bool b,st5))=some (vb,st4)from e10)
 clear e10 e11z1
 obtain⟨rfl,rfl⟩:=aP e10z1
 have e8:some bb=some c:=e8
 clear e10z1
 cases e8
 obtain⟨⟨jj,L⟩,hp,e3z1⟩:=af e3
 obtain⟨hd,e3z1z1⟩:=dX e3z1
 obtain⟨e3z1z1z1,e3'⟩:=aP (congrArg some e3z1z1)
 clear e3 e8 e3z1 e3z1z1 e3z1z1z1
 obtain⟨rfl,hL⟩:=fW hp
 refine hN0 ?_
 refine bc fun hN1=>?_
 obtain⟨L1,h5,hLs,hcn,hst⟩:∃L1,(okIn (V.str l) L1=true)∧aJ st (.ref jj)= .lst L1∧nv= .int (ic (.str l) L1)∧st5=st:=by
  have e9z1z1:sr st (aJ st (.ref jj)) (.str l)=some (nv,st5):=e9z1z1
  cases hdr:aJ st (.ref jj)with
  |lst L1=>
   rw[hdr]at e9z1z1
   obtain⟨k1,k2⟩:=dX e9z1z1
   obtain⟨k2z1,k3⟩:=aP (congrArg some k2)
   exact⟨L1,k1,rfl,k2z1.symm,k3.symm⟩
  |str L1=>exact nomatch (show false=true from q4 hdr)
  |_=>rw[hdr]at e9z1z1;exact ns e9z1z1
 clear e9z1z1 hp
 subst hst
 obtain⟨d1,d2,d3,d4⟩:=l_ h5
 refine hN1 ?_
 have fin:∀(l2:List Nat) (t2:Vt) (k:Nat) (c0:MU),l2.length≤lid→a= .str l2→st3=st5→VR C W s.heap (.ref jj) c0→K2 C A Q Ex c0 l2 t2 { s with toks:=k }:=fun l2 t2 k c0 hl2 ha hs r0=>by
  clear hl hr hN h0 htk hg hNo g1 e7 e12 h5 hLs hcn d1 d2 d3 d4
  refine bc fun hN2=>?_
  subst ha hs
  refine hN2 ?_
  have Xk:=X.step (PS.tok s k).step (X.r.ps (PS.tok s k))
  refine mh (C:=C) (W:=W) (st:=st3) (i:=jj) (v:=.str l2) (l:=L) Xk.r hL hd.1 hd.2 r0 ⟨t2,rfl,hl2⟩ fun c s2 W2 S2 R2 r2=>?_
  rw[show c= .none from r2]
  rw[e3']at R2
  exact h _ _ ((PS.tok s k).step.after S2).ub (X.step ((PS.tok s k).step.after S2) R2) rfl
 refine hNo (VB (ny (o:=.var 1 _) (m:=.append) (b:=false) rfl rfl rfl (Q7 (ef ok B X g1 fun c0 r0=>⟨wk rfl X.r r0,fun f=>?_⟩) (mD B X g1))) (by unfold interactive;rw[B.kind];first|rfl|simp) rfl)
 rw[x9]
 refine Qi (Pj (IfExp_ (Pu (ny (o:=.var 1 _) (m:=.count) (b:=false) rfl rfl rfl (Q7 (ef ok B X g1 fun c1 r1=>⟨wk rfl X.r r1,fun f=>?_⟩) (mD B X g1))) rfl)))
 rw[x9]
 refine Qi (Pj (pQ (i:=3) (nmx:="sign") B rfl hN (PB ?_)))
 have hlen:l.length≤lid:=by rcases hl with rfl|rfl<;>decide
 have rdr:=r1.dr X.r.r
 rw[hLs]at rdr
 refine mj (C:=C) (W:=W) hr d1 d2 d3 d4 rdr ⟨tk,rfl,hlen⟩ ?_
 refine Uy (lF (C:=C) (W:=W) (x:=aJ st5 nv) (y:=.int 4) hr e12 (by rw[hcn];exact⟨_,rfl⟩) ⟨_,rfl⟩ (Ob ?_))
 clear X hr h hNo g1 e12 e3' hL h5 hLs hcn d1 d2 d3 d4
 cases c with
 |true=>
  refine bc fun hN3=>?_
  obtain⟨y,g4,e7z1⟩:=af (show((cC en st5 3).bind fun v=>some (v,st5))=some (a,st3)from e7)
  rw[hg]at g4
  clear hl h0 htk hg e7
  cases g4
  obtain⟨ha,hs⟩:=aP e7z1
  refine hN3 ?_
  exact pQ (i:=3) (nmx:="sign") B rfl hN.tok (PB (fin l tk _ c0 hlen ha.symm hs.symm r0))
 |false=>
  refine bc fun hN4=>?_
  obtain⟨ys,st7,e13,e7z2⟩:=az (show(bnd (bnd (ak O (.var 3 default) .val en st5) fun x st=>some ([x,.str []],st)) fun args st=>eG st .replace (.str [40,41]) args)=some (a,st3)from e7)
  obtain⟨y,g4,e13z1⟩:=kK e13
  rw[hg]at g4
  clear hg e7 hlen e13
  cases g4
  obtain⟨rfl,rfl⟩:=aP e13z1
  obtain⟨c2,hc2,e7z2z1⟩:=af (show((z8 l).bind fun c=>some (V.str ([40,41].filter fun y=> !(y == c)),st5))=some (a,st3)from e7z2)
  obtain⟨ha,hs⟩:=aP e7z2z1
  refine hN4 ?_
  rw[if_neg Ov]
  refine ny (o:=.cS [40,41] 0 _) (m:=.replace) (b:=true) rfl rfl rfl ?_
  refine Po ?_
  refine⟨⟨Up _ _ _,nofun⟩,fun f=>?_⟩
  rw[Ds]
  refine Qi (Pj (pQ (i:=3) (nmx:="sign") B rfl hN.tok (Pj (Po (PB ?_)))))
  refine SC.replace h0 (O1 _) (OA (Nm htk (by show s.toks≤s.toks+1+1+1;omega))) (by rcases hl with rfl|rfl<;>rfl) (by decide) fun t' k=>?_
  have hf:=wL hl (lY hc2)
  rw[hf]
  exact PB (fin _ t' _ c0 (M8 (Th _ _) (by decide)) ha.symm hs.symm r0)
end
end Rk
end

section
set_option maxRecDepth 1000000
namespace Rk
open PySem PySem.W PySem.Calls PyProof.Rows PySem.SeqAt
section
variable {C:Cx} {O:cQ} {n:Nat} {df:Nat→Nat→NW→Bool} {sc:Sc}
theorem uI(ok:bF C)(oo:bD C O n){x:S}(w:KU C.bN df x sc=true):Eu C O n df x sc:=fun B D X hr e h=>Fy ok oo x w B D X hr e h
theorem nA(ok:bF C)(oo:bD C O n):BodyOk C O n df av.CL av.n8:=by
 refine g9 (uI ok oo rfl) (g9 (fun B D X hr e h=>xX ok oo (fun{env en en' W st st' s A Ex Q fl} B D X hr e h=>?_) rfl B D X hr e h) (g9 (uI ok oo rfl) (bx ok oo rfl)))
 obtain⟨f1,bV,st1,e1,e2⟩:=d9 e
 refine N1 (zK ok oo B X hr e1 fun l s1 W1 tk hl hf S1 X1 hk1 hN h0 htk hg=>?_)
 clear e1
 subst hf
 obtain⟨f2,en2,st2,e3,e4⟩:=d9 (show n7 (aX O C.P.N _ bV st1) _=some (fl,en',st')from e2)
 refine N1 (wM ok hl B X1 hr hN h0 htk hg e3 fun f s2 W2 S2 X2 hk2 r2=>?_)
 have S12:=S1.bl (hk1▸S2)
 clear e2 hl S1 X1 hN h0 htk hg e3 S2
 cases f2 with
 |bU=>
  have h:=h.of (show some (Fl.bU,en2,st2)=some (fl,en',st')from e4)
  rw[show f= .next from r2]
  exact Nb (h _ _ _ S12 X2 (hk2.trans hk1) rfl)
 |ret v=>
  have h:=h.of (show some (Fl.ret v,en2,st2)=some (fl,en',st')from e4)
  clear e4
  obtain⟨c,rfl,r⟩:=r2
  exact h _ _ _ S12 X2 (hk2.trans hk1) ⟨c,rfl,r⟩
end
end Rk
end

section
namespace Rk
open PySem PySem.W PySem.Calls PyProof.Rows PySem.SeqAt
noncomputable def cj(h:NX)(l:List OZ):Prop:=∀env∈l,env.scope.kind≠ .module∧env.frame=some env.locals∧ ∃o es ep,h.get? env.locals=some o∧o.data= .dict es ep
noncomputable def locs(l:List OZ):List Na:=l.map (·.locals)
theorem cj.FI{h base:NX}:∀{l:List OZ},cj h l→(∀a∈locs l,base.get? a=none)→h.FunFrames base l
 |[],_,_=>trivial
 |env::l,F,hb=>by
  obtain⟨hk,hf,o,es,ep,ho,hd⟩:=F env (Nk ..)
  exact⟨hk,⟨env.locals,o,hf,hb _ (Nk ..),ho,fun vs q=>by rw[hd]at q;cases q⟩,cj.FI (fun e he=>F e (MY _ he)) fun a ha=>hb a (MY _ ha)⟩
theorem cj.up{h h':NX}{l:List OZ}(F:cj h l)(u:h.UpToSlots h'):cj h' l:=fun env he=>by
 refine bc fun hN0=>?_
 obtain⟨hk,hf,o,es,ep,ho,hd⟩:=F env he
 refine hN0 ?_
 obtain⟨sl,e⟩:=u _ _ ho fun vs q=>by rw[hd]at q;cases q
 exact⟨hk,hf,_,es,ep,e,hd⟩
theorem cj.at{h:NX}{l:List OZ}(F:cj h l){a:Na}(ha:a∈locs l):∃o es ep,h.get? a=some o∧o.data= .dict es ep:=by
 refine bc fun hN0=>?_
 obtain⟨env,he,rfl⟩:=NY.mp ha
 obtain⟨_,_,o,es,ep,ho,hd⟩:=F env he
 refine hN0 ?_
 exact⟨o,es,ep,ho,hd⟩
structure K3 (l:List OZ) (X:String) (args:List MU) (e T t:Na) (h:NX):Prop where
 uJ:cj h l
 exc:∃oe vs,h.get? e=some oe∧oe.cls= .type X∧oe.data= .fields vs∧vs[0]? =some (.ref t)∧vs[1]? =some (.ref T)
 ne:T≠e
 tb:∃oT ts,h.get? T=some oT∧oT.data= .fields ts∧ts[3]? =some .none
 tup:h.TupAt t args
section
variable {C:Cx} {O:cQ} {n:Nat} {W W' W'':Wt} {st st':ao} {h h':NX} {s s' s'' s0:MT} {A:NF} {Ex:MU→MT→Prop} {sc so:Sc} {env:OZ} {en en':En} {df:Nat→Nat→NW→Bool}
theorem K3.sZ{l:List OZ}{X:String}{args:List MU}{e T t:Na}(F:K3 l X args e T t h):V4 (TI.gone h (e::T::locs l)) l e (.type X) (.ref t) h:=by
 refine bc fun hN0=>?_
 obtain⟨oe,vs,he,hc,hd,h0,h1⟩:=F.exc
 obtain⟨oT,ts,hT,hdT,h3⟩:=F.tb
 refine hN0 ?_
 refine⟨fun b o e=>(TI.gone_some e).2,SP (Nk ..),F.uJ.FI fun a ha=>SP (MY _ (MY _ ha)),oe,vs,T,oT,ts,he,⟨hc,h0⟩,hd,h1,SP (MY _ (Nk ..)),F.ne,hT,hdT,h3⟩
structure rF (C:Cx) (W:Wt) (st:ao) (s0:MT) (D:List Na) (l:List OZ) (X:String) (e T t:Na) (W1:Wt) (args:List MU) (s:MT):Prop where
 step:Step C (W.ay++D) W s0 { W1 with X:=W.X } s
 hX:W1.X=e::T::W.X
 r:au C W1 st s
 wO:K3 l X args e T t s.heap
 ne:s0.heap.get? e=none
 nT:s0.heap.get? T=none
 slots:∀b∈D,∀o,s0.heap.get? b=some o→ ∃sl,s.heap.get? b=some { o with slots:=sl }
theorem au.ED{wr X':List Na}(R:au C W st s)(hos:s'.os=s.os)(hb:QH s.gens→QH s'.gens)(K:∀a o,s.heap.get? a=some o→a∉wr→s'.heap.get? a=some o)(hX:∀b∈wr,b∈W.X)
  (hX':∀a∈X',(a∈W.X∨s.heap.get? a=none)∧ ∃o,s'.heap.get? a=some o) (hnd:X'.Nodup):
  au C { W with X:=X' } st s'∧Ext C W s.heap { W with X:=X' } s'.heap:=by
 have hall:∀b∈({ W with X:=X' }:Wt).all,b∈W.all∨s.heap.get? b=none:=fun b hb=>by
  simp only[Wt.all,MX]at hb ⊢
  rcases hb with h|h|h
  ·exact .inl (.inl h)
  ·exact .inl (.inr (.inl h))
  ·exact(hX' b h).1.imp (fun h=>.inr (.inr h)) id
 have x:Ext C W s.heap { W with X:=X' } s'.heap:=⟨⟨[],by simp⟩,⟨[],by simp⟩,fun a o f e=>
  ⟨⟨fun hm=>(hall a hm).elim f.1 fun q=>(by rw[q]at e;cases e),f.2⟩,K a o e fun hm=>f.1 (aF (hX a hm))⟩⟩
 have hta:∀a,a∈C.ta→a∉wr:=fun a ha hm=>bB R (aF (hX a hm)) ha
 have kM:∀a,a∈W.ay→a∉wr:=fun a ha hm=>cU R (hX a hm) ha
 have hκ:∀a,a∈W.aB→a∉wr:=fun a ha hm=>eJ R (hX a hm) ha
 have hlo:∀a,s.heap.get? a=none→C.h₁.get? a=none:=fun a ha=>by
  cases e:C.h₁.get? a with
  |none=>rfl
  |some o1=>
   by_cases ht:a∈C.ta
   ·obtain⟨o2,e2⟩:=R.r.nh ht;rw[ha]at e2;cases e2
   ·have e2:=R.r.keep _ _ e ht;rw[ha]at e2;cases e2
 refine⟨⟨⟨fun a o e t=>K _ _ (R.r.keep a o e t) (fun hm=>by have:=(R.r.lo a (aF (hX a hm))).1;rw[e]at this;cases this),fun T hT=>(R.r.tabs T hT).ext x fun o e=>K _ o e (hta _ (Nt hT)),
  fun T hT=>let ⟨ps,ps',e1,e2⟩:=R.r.grown T hT;⟨ps,ps',e1,K _ _ e2 (hta _ (Nt hT))⟩,R.r.jC,R.r.ng,?_,?_,?_,?_⟩,hos.trans R.os,hb R.bare⟩,x⟩
 ·intro i l a e1 e2
  obtain⟨cs,⟨m,ho⟩,h2,h3⟩:=R.r.σ i l a e1 e2
  exact⟨cs,⟨m,K _ _ ho (kM a (Nh e2))⟩,aY.ext x h2,h3⟩
 ·intro k ov a e1 e2
  obtain⟨oc,⟨o',ho,hd⟩,h2⟩:=R.r.κ k ov a e1 e2
  exact⟨oc,⟨o',K _ _ ho (hκ a (Nh e2)),hd⟩,h2.ext x⟩
 ·have hN:=R.r.nodup
  have hlive:=fun a (ha:a∈W.all)=>(R.r.lo a ha).2
  simp only[Wt.all]at hN hlive ⊢
  rw[M6]at hN ⊢
  have h2:=hN.2.1
  rw[M6]at h2
  have hd:∀a∈X',∀b∈W.ay++(W.aB++W.X),b∉W.X→b≠a:=fun a ha b hb hbX e=>by
   subst e
   rcases(hX' b ha).1 with h|h
   ·exact hbX h
   ·obtain⟨o,e⟩:=hlive b hb;rw[h]at e;cases e
  refine⟨hN.1,?_,fun a ha b hb=>?_⟩
  ·rw[M6]
   exact⟨h2.1,hnd,fun a ha b hb=>hd b hb a (MZ _ (M7 _ ha)) fun q=>h2.2.2 a ha a q rfl⟩
  ·rcases MX.mp hb with hb|hb
   ·exact hN.2.2 a ha b (M7 _ hb)
   ·exact hd b hb a (M7 _ ha) fun q=>hN.2.2 a ha a (MZ _ q) rfl
 ·intro a ha
  simp only[Wt.all,MX]at ha
  rcases ha with ha|ha|ha
  ·obtain⟨h1,o,e⟩:=R.r.lo a (bj ha);exact⟨h1,o,K _ _ e (kM a ha)⟩
  ·obtain⟨h1,o,e⟩:=R.r.lo a (cg ha);exact⟨h1,o,K _ _ e (hκ a ha)⟩
  ·obtain⟨h1,h2⟩:=hX' a ha
   exact⟨h1.elim (fun h=>(R.r.lo a (aF h)).1) (hlo a),h2⟩
theorem wQ{l:List OZ}{X:String}{e:Na}{args:List MU}{Q:Unit→MT→Prop}(hfr:A.frames=some (env::l))(R:au C W st s)(F:cj s.heap (env::l))(hX:∀a∈locs (env::l),a∈W.X)(hx:UU s.heap h' e X args)
  (k:∀s5 T t W1,rF C W st s (locs (env::l)) l X e T t W1 args s5→Q () s5):wpAny (model C.prog C.w) A (leaving env (.ref e)) Q Ex { s with heap:=h' }:=by
 have hl:s.heap.FunFrames (TI.gone s.heap (locs (env::l))) (env::l):=F.FI fun a ha=>SP ha
 refine wpAny_leaves_madeW (s:={ s with heap:=h' }) (h:=s.heap) hfr (F env (Nk ..)).2.1 (fun b o e=>(TI.gone_some e).2) hl (args:=args) (cls:=.type X) ⟨hx.keeps,hx.new,hx.there⟩ fun h5 t hfly htup htn hup=>?_
 refine bc fun hN0=>?_
 obtain⟨hst,hen,hff,oe,vs,T,oT,ts,he,⟨hc,h0⟩,hd,h1,hnT,hTe,hT,hdT,h3⟩:=hfly
 have upS:s.heap.UpToSlots h5:=(VZ hx.keeps).trans hup
 have F5:=F.up upS
 have hTn:s.heap.get? T=none:=by
  by_cases hm:T∈locs (env::l)
  ·obtain⟨o,es,ep,ho,hdo⟩:=F5.at hm
   rw[hT]at ho;cases ho
   rw[hdT]at hdo;cases hdo
  ·exact(TH hm).symm.trans hnT
 have K:∀a o,s.heap.get? a=some o→a∉locs (env::l)→h5.get? a=some o:=fun a o ea hna=>hst a o ((TH hna).trans ea)
 clear hfr hl htn hup hst hen hff hnT
 obtain⟨R5,x5⟩:=au.ED (s':={ s with heap:=h5 }) (X':=e::T::W.X) R rfl id K hX (fun b hb=>by
  simp only[M5]at hb
  clear hX htup hN0 hc h0 h1 hdT h3
  rcases hb with rfl|rfl|hb
  ·exact⟨.inr hx.new,_,he⟩
  ·exact⟨.inr hTn,_,hT⟩
  ·refine⟨.inl hb,?_⟩
   by_cases hm:b∈locs (env::l)
   ·obtain⟨o,_,_,ho,_⟩:=F5.at hm;exact⟨o,ho⟩
   ·obtain⟨o,ho⟩:=(R.r.lo b (aF hb)).2
    exact⟨o,K _ _ ho hm⟩) (by
  have hN:=R.r.nodup
  simp only[Wt.all]at hN
  have hNX:=(M6.mp (M6.mp hN).2.1).2.1
  have live:∀b,s.heap.get? b=none→b∉W.X:=fun b hb hm=>by obtain⟨o,e⟩:=(R.r.lo b (aF hm)).2;rw[hb]at e;cases e
  refine NK.mpr ⟨fun hm=>?_,NK.mpr ⟨live T hTn,hNX⟩⟩
  rcases M5.mp hm with hm|hm
  ·exact hTe hm.symm
  ·exact live e hx.new hm)
 refine hN0 ?_
 refine k _ T t { W with X:=e::T::W.X } ⟨⟨fun a o ea=>?_,fun a o ea hu ht=>K a o ea fun hm=>hu (MZ _ hm),⟨[],by simp⟩,rfl,rfl,fun g gs e=>e⟩,rfl,R5,⟨fun x hx=>F5 x (MY _ hx),⟨oe,vs,he,hc,hd,h0,h1⟩,hTe,⟨oT,ts,hT,hdT,h3⟩,htup⟩,hx.new,hTn,fun b hb o ho=>?_⟩
 ·by_cases hm:a∈locs (env::l)
  ·obtain⟨o',_,_,ho,_⟩:=F5.at hm;exact⟨o',ho⟩
  ·exact⟨o,K a o ea hm⟩
 ·refine bc fun hN1=>?_
  obtain⟨o',es,ep,ho',hd'⟩:=F.at hb
  refine hN1 ?_
  rw[ho]at ho';cases ho'
  exact upS _ _ ho fun vs q=>by rw[hd']at q;cases q
theorem rF.land{l l':List OZ}{X:String}{e T t:Na}{args:List MU}{D:List Na}{W1:Wt}{h5:NX}(T0:rF C W st s0 D l X e T t W1 args s)
  (hD:∀a∈locs l,a∈D∧a∈W.X) (hl':∀x∈l',x∈l) (hfly:V4 (TI.gone s.heap (e::T::locs l)) l' e (.type X) (.ref t) h5) (hup:s.heap.UpToSlots h5):∃T' W1',rF C W st s0 D l' X e T' t W1' args { s with heap:=h5 }:=by
 have F:=T0.wO.uJ
 obtain⟨hst,hen,hff,oe,vs,T',oT,ts,he,⟨hc,h0⟩,hd,h1,hnT,hTe,hT,hdT,h3⟩:=hfly
 have F5:=F.up hup
 have K:∀a o,s.heap.get? a=some o→a∉e::T::locs (l)→h5.get? a=some o:=fun a o ea hna=>hst a o ((TH hna).trans ea)
 have hwX:∀b∈e::T::locs (l),b∈W1.X:=fun b hb=>by
  rw[T0.hX]
  simp only[M5]at hb ⊢
  clear hl' hup hst hen hff he hc h0 h1 hnT hTe hT hdT h3
  rcases hb with rfl|rfl|hb
  ·exact .inl rfl
  ·exact .inr (.inl rfl)
  ·exact .inr (.inr (hD b hb).2)
 have hnot:T'∉locs (l):=fun hm=>by
  obtain⟨o,es,ep,ho,hdo⟩:=F5.at hm
  rw[hT]at ho;cases ho
  rw[hdT]at hdo;cases hdo
 have hTs:T'=T∨s.heap.get? T'=none:=by
  by_cases hm:T'∈e::T::locs (l)
  ·simp only[M5]at hm
   rcases hm with hm|hm|hm
   ·exact absurd hm hTe
   ·exact .inl hm
   ·exact absurd hm hnot
  ·exact .inr ((TH hm).symm.trans hnT)
 have hN:=T0.r.r.nodup
 simp only[Wt.all]at hN
 have hNX:=(M6.mp (M6.mp hN).2.1).2.1
 rw[T0.hX]at hNX
 have hNX2:=(NK.mp (NK.mp hNX).2)
 have heX:e∉W.X:=fun hm=>(NK.mp hNX).1 (MY _ hm)
 have hT'0:s0.heap.get? T'=none:=by
  clear hD hl' hup hst hen hff he hc h0 h1 hnT hTe hT hdT h3 hnot hN hNX hNX2 heX
  rcases hTs with rfl|h
  ·exact T0.nT
  ·cases e0:s0.heap.get? T' with
   |none=>rfl
   |some o=>obtain⟨o',e'⟩:=T0.step.mZ _ _ e0;rw[h]at e';cases e'
 have hT'X:T'∉W.X:=by
  clear hD hl' hup hst hen hff he hc h0 h1 hnT hTe hT hdT h3 hnot hN hNX heX
  rcases hTs with rfl|h
  ·exact hNX2.1
  ·intro hm
   obtain⟨o,e⟩:=(T0.r.r.lo T' (aF (by rw[T0.hX];exact MY _ (MY _ hm)))).2
   rw[h]at e;cases e
 clear hst hen hff hnT hnot hN hNX
 obtain⟨R5,x5⟩:=au.ED (s':={ s with heap:=h5 }) (X':=e::T'::W.X) T0.r rfl id K hwX (fun b hb=>by
  simp only[M5]at hb
  clear hD hl' hup hc h0 h1 hdT h3
  rcases hb with rfl|rfl|hb
  ·exact⟨.inl (hwX _ (Nk ..)),_,he⟩
  ·exact⟨hTs.imp (fun q=>by rw[q];exact hwX _ (MY _ (Nk ..))) id,_,hT⟩
  ·have hb1:b∈W1.X:=by rw[T0.hX];exact MY _ (MY _ hb)
   refine⟨.inl hb1,?_⟩
   by_cases hm:b∈locs (l)
   ·obtain⟨o,_,_,ho,_⟩:=F5.at hm;exact⟨o,ho⟩
   ·obtain⟨o,ho⟩:=(T0.r.r.lo b (aF hb1)).2
    refine⟨o,K _ _ ho fun q=>?_⟩
    simp only[M5]at q
    rcases q with q|q|q
    ·exact heX (q▸hb)
    ·exact hNX2.1 (q▸hb)
    ·exact hm q) (NK.mpr ⟨fun hm=>(M5.mp hm).elim (fun q=>hTe q.symm) heX,NK.mpr ⟨hT'X,hNX2.2⟩⟩)
 refine⟨T',{ W1 with X:=e::T'::W.X },⟨⟨fun a o ea=>?_,fun a o ea hu ht=>?_,T0.step.ay,T0.step.aB,rfl,T0.step.gens⟩,rfl,R5,⟨fun x hx=>F5 x (hl' x hx),⟨oe,vs,he,hc,hd,h0,h1⟩,hTe,⟨oT,ts,hT,hdT,h3⟩,T0.wO.tup.of_slots hup⟩,T0.ne,hT'0,fun b hb o ho=>?_⟩⟩
 ·obtain⟨o1,e1⟩:=T0.step.mZ _ _ ea
  by_cases hm:a∈e::T::locs (l)
  ·simp only[M5]at hm
   clear hD hl' hup he hc h0 h1 hTe hT hdT h3 hTs hNX2 heX e1
   rcases hm with rfl|rfl|hm
   ·rw[T0.ne]at ea;cases ea
   ·rw[T0.nT]at ea;cases ea
   ·obtain⟨o',_,_,ho,_⟩:=F5.at hm;exact⟨o',ho⟩
  ·exact⟨o1,K a o1 e1 hm⟩
 ·refine K _ _ (T0.step.keep a o ea hu ht) fun hm=>?_
  simp only[M5]at hm
  clear hl' hup he hc h0 h1 hTe hT hdT h3 hTs hNX2 heX
  rcases hm with rfl|rfl|hm
  ·rw[T0.ne]at ea;cases ea
  ·rw[T0.nT]at ea;cases ea
  ·exact hu (MZ _ (hD a hm).1)
 ·obtain⟨sl,e1⟩:=T0.slots b hb o ho
  by_cases hm:b∈locs (l)
  ·obtain⟨o',es,ep,ho',hd'⟩:=F.at hm
   rw[e1]at ho';cases ho'
   obtain⟨sl2,e2⟩:=hup _ _ e1 fun vs q=>by rw[hd']at q;cases q
   exact⟨sl2,e2⟩
  ·refine⟨sl,K _ _ e1 fun q=>?_⟩
   simp only[M5]at q
   clear hD hl' hup he hc h0 h1 hTe hT hdT h3 hTs hNX2 heX e1
   rcases q with rfl|rfl|q
   ·rw[T0.ne]at ho;cases ho
   ·rw[T0.nT]at ho;cases ho
   ·exact hm q
theorem zL{l:List OZ}{X:String}{e T t:Na}{args:List MU}{D:List Na}{W1:Wt}{Q:Unit→MT→Prop}(hfr:A.frames=some (env::l))(T0:rF C W st s0 D (env::l) X e T t W1 args s)
  (hD:∀a∈locs (env::l),a∈D∧a∈W.X)
  (k:∀s5 T' W1',rF C W st s0 D l X e T' t W1' args s5→Q () s5):wpAny (model C.prog C.w) A (leaving env (.ref e)) Q Ex s:=
 wpAny_leaves_onW hfr (T0.wO.uJ env (Nk ..)).2.1 T0.wO.sZ fun h5 hfly hup=>let ⟨T',W1',T5⟩:=T0.land hD (fun x hx=>MY _ hx) hfly hup;k _ T' W1' T5
theorem BJ{l:List OZ}{X:String}{e T t:Na}{args:List MU}{D:List Na}{W1:Wt}{Q:Unit→MT→Prop}(hfr:A.frames=some (env::l))(T0:rF C W st s0 D (env::l) X e T t W1 args s)
  (hD:∀a∈locs (env::l),a∈D∧a∈W.X)
  (k:∀s5 T' W1',rF C W st s0 D (env::l) X e T' t W1' args s5→Q () s5):wpAny (model C.prog C.w) A (noteFrame (.ref e) env) (fun _ s₂=>wpAny (model C.prog C.w) A (setFlight (.ref e) none) Q Ex s₂) Ex s:=
 wpAny_looks_onW hfr (T0.wO.uJ env (Nk ..)).2.1 T0.wO.sZ fun h4 hh hup=>wpAny_landsW (s:={ s with heap:=h4 }) hh fun h5 hfly hup2=>
  let ⟨T',W1',T5⟩:=T0.land hD (fun _ hx=>hx) hfly (hup.trans hup2);k _ T' W1' T5
end
end Rk
end

section
namespace Rk
open PySem PySem.W PySem.Calls PyProof.Rows PySem.SeqAt
section
variable {C:Cx} {O:cQ} {n:Nat} {W W' W'':Wt} {st st':ao} {h h':NX} {s s' s'' s0:MT} {A:NF} {Ex:MU→MT→Prop} {sc so:Sc} {env:OZ} {en en':En} {df:Nat→Nat→NW→Bool}
theorem au.K4{W3:Wt}{st3:ao}{new D xs:List Na}(R0:au C W st s)(hk:∀a o,s.heap.get? a=some o→a∉W.ay→a∉D→a∉C.ta→s'.heap.get? a=some o)(hD:∀a∈D,a∈W.X)(R3:au C W3 st3 s')
  (kM:W3.ay=W.ay++new) (hκ:∃e,W3.aB=W.aB++e) (hX:∀a∈W.X,a∈W3.X) (hxs:∀a∈xs,a∈W3.X∧s.heap.get? a=none) (hnd:xs.Nodup):
  au C { W with X:=xs++W.X } { κ:=st.κ,σ:=st3.σ.take st.σ.length } s':=by
 obtain⟨e,he⟩:=hκ
 have hall:∀a∈({ W with X:=xs++W.X }:Wt).all,a∈W3.all:=fun a ha=>by
  simp only[Wt.all,MX]at ha ⊢
  rcases ha with ha|ha|ha|ha
  ·exact .inl (by rw[kM];exact M7 _ ha)
  ·exact .inr (.inl (by rw[he];exact M7 _ ha))
  ·exact .inr (.inr (hxs a ha).1)
  ·exact .inr (.inr (hX a ha))
 have hfr:∀a,fD C W3 a→fD C { W with X:=xs++W.X } a:=fun a f=>⟨fun hm=>f.1 (hall a hm),f.2⟩
 have live:∀b∈xs,b∉W.all:=fun b hb hm=>by obtain⟨o,e⟩:=(R0.r.lo b hm).2;rw[(hxs b hb).2]at e;cases e
 have x:Ext C W s.heap { W with X:=xs++W.X } s'.heap:=⟨⟨[],by simp⟩,⟨[],by simp⟩,fun a o f e=>⟨⟨fun hm=>by
  simp only[Wt.all,MX]at hm
  rcases hm with hm|hm|hm|hm
  ·exact f.1 (bj hm)
  ·exact f.1 (cg hm)
  ·rw[(hxs a hm).2]at e;cases e
  ·exact f.1 (aF hm),f.2⟩,hk a o e (fun q=>f.1 (bj q)) (fun q=>f.1 (aF (hD a q))) f.2⟩⟩
 refine⟨⟨R3.r.keep,fun T hT=>?_,R3.r.grown,?_,R0.r.ng,fun i l a e1 e2=>?_,fun k ov a e1 e2=>?_,?_,fun a ha=>R3.r.lo a (hall a ha)⟩,R3.os,R3.bare⟩
 ·obtain⟨ps,h1,h2,h3⟩:=R3.r.tabs T hT
  exact⟨ps,h1,h2,h3.imp id fun⟨c',e1,f,r⟩=>⟨c',e1,hfr _ f,r⟩⟩
 ·have:=R3.r.jC
  rw[kM,Ng,R0.r.jC]at this
  show W.ay.length=_
  rw[Pk,R0.r.jC]
  lia
 ·have hi:i<st.σ.length:=by rw[←R0.r.jC];exact(MW.mp e2).1
  rw[PJ hi]at e1
  obtain⟨cs,h1,h2,h3,h4⟩:=R3.r.σ i l a e1 (by rw[kM,N3 (R0.r.jC▸hi)];exact e2)
  exact⟨cs,h1,aY.dat h4 hfr h2,h3,h4⟩
 ·obtain⟨oc,⟨o,ho,hd⟩,h2⟩:=R0.r.κ k ov a e1 e2
  have hm:a∈W.aB:=Nh e2
  exact⟨oc,⟨o,hk a o ho (kI R0 hm) (fun q=>eJ R0 (hD a q) hm) (bB R0 (cg hm)),hd⟩,h2.ext x⟩
 ·have hN:=R0.r.nodup
  simp only[Wt.all]at hN live ⊢
  rw[M6]at hN ⊢
  have h2:=hN.2.1
  rw[M6]at h2
  refine⟨hN.1,?_,fun a ha b hb=>?_⟩
  ·rw[M6]
   refine⟨h2.1,?_,fun a ha b hb=>?_⟩
   ·rw[M6]
    exact⟨hnd,h2.2.1,fun a ha b hb e=>live a ha (MZ _ (MZ _ (e▸hb)))⟩
   ·rcases MX.mp hb with hb|hb
    ·exact fun e=>live b hb (MZ _ (M7 _ (e▸ha)))
    ·exact h2.2.2 a ha b hb
  ·rcases MX.mp hb with hb|hb
   ·exact hN.2.2 a ha b (M7 _ hb)
   ·rcases MX.mp hb with hb|hb
    ·exact fun e=>live b hb (M7 _ (e▸ha))
    ·exact hN.2.2 a ha b (MZ _ hb)
theorem cj.keeps{l:List OZ}(F:cj h l)(k:∀a∈locs l,∀o,h.get? a=some o→h'.get? a=some o):cj h' l:=fun env he=>by
 refine bc fun hN0=>?_
 obtain⟨hk,hf,o,es,ep,ho,hd⟩:=F env he
 refine hN0 ?_
 exact⟨hk,hf,o,es,ep,k _ (Nt he) _ ho,hd⟩
theorem zM(ok:bF C){l:List OZ}{X:String}{Pa:List MU→List (List V)→Prop}{a:Na}{o:Ug}{fd:OM}{body:Ss}{vals:List V}{cvals cs:List MU}{kw:List (NT×MU)}{fr:List Nat}{Q:MU→MT→Prop}
  (hfrm:A.frames=some l) (hF:cj s.heap l) (hFX:∀b∈locs l,b∈W.X)
  (R:au C W st s) (hr:bL (n+1) A) (ho:s.heap.get? a=some o) (hd:o.data= .func fd) (hbody:fd.body= .stmts (dH C.P.N body sc)) {mo:List (NT×V8)} (hsc:fd.scope={ Sc.scope sc with more:=mo }) (hcl:fd.closure=bQ W.aB sc fr [])
  (hfr:fr.length=frees sc∧ ∀k∈fr,k<W.aB.length) (hgl:fd.globals=mainGlobals) (hbu:fd.builtins=builtinsNs) (hcd:s.heap.CodeRec fd.code fd.qualname) (nO:mC C.bN sc=true)
  (hbind:SN s fd ⟨cs,kw⟩ (iq sc cvals)) (hvals:aY C W s.heap vals cvals) (hpar:∀i,i<vals.length→ ∃x,sc[i]? =some x∧j0 x=true)
  (hrun:∀(env:OZ) (W2:Wt) (s2:MT),dF C sc env→At C sc env ⟨(aV sc (vals.map some) fr st.κ).1,st.κ.length⟩ W2 { κ:=(aV sc (vals.map some) fr st.κ).2,σ:=st.σ } s2→(A.deeper env).frames=some (env::l)→cj s2.heap (env::l)→(∀b∈locs (env::l),b∈W2.X)→
   ∀K:MU→MT→Prop,(∀e T t W3 st3 s3 W1 args s5,Step C (Ub W2 st.κ.length env.locals) W2 s2 W3 s3→rF C W3 st3 s3 (locs (env::l)) l X e T t W1 args s5→Pa args (st3.σ.take st.σ.length)→K (.ref e) s5)→
   wpAny (model C.prog C.w) (A.deeper env) (execs (dH C.P.N body sc) env) (fun _ _=>False) (fun e s'=>wpAny (model C.prog C.w) (A.deeper env) (leaving env e) (fun _ s''=>K e s'') (fun e' s''=>K e' s'') s') s2)
  (h:∀e T t W1 st' args s5,st'.κ=st.κ→rF C W st' s (locs l) l X e T t W1 args s5→Pa args st'.σ→Ex (.ref e) s5):wpAny (model C.prog C.w) A (N5 (.ref a) cs kw) Q Ex s:=by
 refine enter ok R hr ho hd hbody hsc hcl hfr hgl hbu hcd nO hbind hvals hpar fun L cells env W2 s2 henv E=>?_
 clear hr ho hbody hsc hcl hfr hgl hbu hcd hbind hvals hpar henv
 refine bc fun hN0=>?_
 obtain⟨rfl,hL,hef,B,S2,X2⟩:=E
 have hs1:∀a,s.heap.objs.size≤a→s.heap.get? a=none:=fun a ha=>aC ha
 have hFX2:∀b∈locs (env::l),b∈env.locals::W.X:=fun b hb=>by
  clear hfrm hF hrun h hL hef S2 X2 hs1
  rcases M5.mp hb with rfl|hb
  ·exact Nk ..
  ·exact MY _ (hFX b hb)
 have hκd:(W.aB++addrs (s.heap.objs.size+1) (jx sc)).drop st.κ.length=addrs (s.heap.objs.size+1) (jx sc):=by rw[←R.r.ng,Tz]
 have hk2:∀b∈locs l,∀ob,s.heap.get? b=some ob→s2.heap.get? b=some ob:=fun b hb ob e=>by
  refine S2.keep b ob (bR _ _ _ _ _ e) (fun hm=>?_) (bB R (aF (hFX b hb)))
  simp only[Ub,MX,M4]at hm
  rcases hm with hm|hm|hm
  ·exact cU R (hFX b hb) hm
  ·rw[hκd]at hm
   have:=jX _ _ _ hm
   rw[hs1 b (QS this)]at e;cases e
  ·rw[hm,hL,hs1 _ (M9 _)]at e;cases e
 obtain⟨m2,⟨oL,es,ep,hoL,hdL,_⟩,_⟩:=X2.fr.ns
 refine hN0 ?_
 have hF2:cj s2.heap (env::l):=fun x hx=>by
  clear hfrm hFX hrun h hL S2 X2 hs1 hκd
  rcases M5.mp hx with rfl|hx
  ·exact⟨by rw[B.kind];decide,hef,oL,es,ep,hoL,hdL⟩
  ·exact(hF.keeps hk2) x hx
 refine Og (hrun env _ s2 B X2 (TJ hfrm) hF2 (by rw[hL]at hFX2;exact hFX2) Ex ?_) (fun _ _ e=>e.elim) fun _ _ e=>e
 intro e T t W3 st3 s3 W1 args s5 S3 T3 hPa
 refine bc fun hN1=>?_
 have S23:=S2.bl S3
 obtain⟨new,en_,hnew⟩:=S23.ay
 have hfresh:∀b∈new,s.heap.get? b=none:=fun b hb=>by
  cases e:s.heap.get? b with
  |none=>rfl
  |some ob=>have:=hnew b hb;rw[bR _ _ _ _ _ e]at this;cases this
 have hkeep3:∀b ob,s.heap.get? b=some ob→b∉W.ay→b∉C.ta→s3.heap.get? b=some ob:=fun b ob e hb ht=>by
  refine S23.keep b ob (bR _ _ _ _ _ e) (fun hm=>?_) ht
  simp only[Ub,MX,M4]at hm
  rcases hm with hm|hm|hm
  ·exact hb hm
  ·rw[hκd]at hm
   have:=jX _ _ _ hm
   rw[hs1 b (QS this)]at e;cases e
  ·rw[hm,hL,hs1 _ (M9 _)]at e;cases e
 have hkeep:∀b ob,s.heap.get? b=some ob→b∉W.ay→b∉locs l→b∉C.ta→s5.heap.get? b=some ob:=fun b ob e hb hbl ht=>by
  refine T3.step.keep b ob (hkeep3 b ob e hb ht) (fun hm=>?_) ht
  rcases MX.mp hm with hm|hm
  ·rw[show W3.ay=W.ay++new from en_]at hm
   rcases MX.mp hm with hm|hm
   ·exact hb hm
   ·rw[hfresh b hm]at e;cases e
  ·rcases M5.mp hm with hm|hm
   ·have hm:b=env.locals:=hm
    rw[hm,hL,hs1 _ (M9 _)]at e;cases e
   ·exact hbl hm
 have none3:∀b,s3.heap.get? b=none→s.heap.get? b=none:=fun b hb=>by
  cases e:s.heap.get? b with
  |none=>rfl
  |some ob=>obtain⟨o',e'⟩:=S23.mZ _ _ (bR _ _ _ _ _ e);rw[hb]at e';cases e'
 obtain⟨n5,e5,hn5⟩:=T3.step.ay
 refine hN1 ?_
 have e5:W1.ay=W3.ay++n5:=e5
 have hn5':∀b∈n5,s.heap.get? b=none:=fun b hb=>none3 b (hn5 b hb)
 have eX:W1.X=e::T::W3.X:=T3.hX
 have hne:T≠e:=T3.wO.ne
 have R4:=au.K4 (new:=new++n5) (xs:=[e,T]) R hkeep hFX T3.r (by rw[e5,show W3.ay=W.ay++new from en_,M_]) ⟨_,T3.step.aB.trans S23.aB⟩
  (fun b hb=>by rw[eX,S23.X];exact MY _ (MY _ (MY _ hb)))
  (fun b hb=>by
   simp only[M5,NI,or_false]at hb
   clear hfrm hF hFX hrun h hL hef S2 X2 hs1 hκd hk2 hoL hdL S3 hPa hnew hfresh hkeep3 hkeep e5 hn5 hn5'
   rcases hb with rfl|rfl
   ·exact⟨by rw[eX];exact Nk ..,none3 _ T3.ne⟩
   ·exact⟨by rw[eX];exact MY _ (Nk ..),none3 _ T3.nT⟩) (by simp;exact hne.symm)
 refine h e T t { W with X:=e::T::W.X } { κ:=st.κ,σ:=st3.σ.take st.σ.length } args s5 rfl ⟨⟨fun b ob eb=>?_,fun b ob eb hu ht=>hkeep b ob eb (fun q=>hu (M7 _ q)) (fun q=>hu (MZ _ q)) ht,⟨[],by simp⟩,rfl,rfl,fun g gs e=>T3.step.gens g gs (S23.gens g gs e)⟩,rfl,R4,T3.wO,none3 _ T3.ne,none3 _ T3.nT,fun b hb ob eb=>?_⟩ hPa
 ·refine bc fun hN2=>?_
  obtain⟨o1,e1⟩:=S23.mZ _ _ (bR _ _ _ _ _ eb)
  refine hN2 ?_
  exact T3.step.mZ _ _ e1
 ·exact T3.slots b (MY _ hb) ob (hkeep3 b ob eb (fun q=>cU R (hFX b hb) q) (bB R (aF (hFX b hb))))
end
end Rk
end

section
namespace Rk
open PySem PySem.W PySem.Calls PyProof.Rows PySem.SeqAt
section
variable {C:Cx} {O:cQ} {n:Nat} {W W' W'':Wt} {st st1 st2 st':ao} {h h':NX} {s s' s'' s0:MT} {A:NF} {Ex:MU→MT→Prop} {sc so:Sc} {env:OZ} {en en':En} {df:Nat→Nat→NW→Bool}
theorem wR{X N I:String}{x:NT}{np pos:NW}{Q:P9→MT→Prop}(hh:A.handled=none)(F:Rt X N I)(hc:ExcClass X N I)(hself:isSubtype (.type X) (.type X)=pure true)
  (hx:wpAny (model C.prog C.w) A (eval (.Name x np) env) (fun v s₁=>v= .type X∧s₁=s) Ex s)
  (h:∀h' e,UU s.heap h' e X []→Ex (.ref e) { s with heap:=h' }):
  wpAny (model C.prog C.w) A (exec (.Raise (some (.Name x np)) none pos) env) Q Ex s:=by
 show wpAny (model C.prog C.w) A (do standAt pos;raiseStmt env (some (do let v←eval (.Name x np) env;standAt pos;pure v)) none) Q Ex s
 refine MV (N9 ?_)
 unfold raiseStmt
 dsimp only
 refine MV (MV (Og hx (fun v s₁ h₁=>MV (N9 (Nb ?_))) fun _ _ e=>e))
 obtain⟨rfl,hs₁⟩:=h₁
 subst s₁
 refine MV (Nb ?_)
 dsimp only
 refine MV (OE ?_)
 unfold excFromValue isExcClass
 refine MV (MV (Nb ?_))
 rw[if_pos rfl]
 rw[hc.base]
 refine Nb ?_
 rw[if_pos rfl]
 refine MV (wpAny_call_exc F (fun h' e hm=>?_) (NG _))
 obtain⟨t,he,_⟩:=hm.there
 have hT:({ s with heap:=h' }:MT).TypeIs (.ref e) X:=⟨_,he,rfl⟩
 refine MV (Sv hT hc.base ?_)
 rw[if_neg (by decide)]
 refine Nb ?_
 first|(refine MV (m:=isType (.type X)) (Nb ?_))|(refine MV (Nb ?_))
 first|(rw[if_pos rfl])|(simp only[if_true])|dsimp only
 refine MV (OE ?_)
 unfold raisedFor
 first|(rw[if_neg (by decide)])|(rw[if_neg Ov])|skip
 first|(refine MV (UJ hT ?_))|(refine MV ?_;refine MV (UJ hT ?_))
 refine MV (call_issubclass (issubclass_self hc hself) ?_)
 first|(refine MV (Ob ?_))|(refine Ob ?_)|(dsimp only[wants];first|(refine MV (Ob ?_))|(refine Ob ?_))
 first|(rw[if_pos rfl])|(simp only[if_true])|skip
 refine Nb ?_
 unfold setFlight raiseNew
 refine MV (MV (Rd (i:=1) (x:=O_) he rfl rfl ?_))
 rw[if_neg (by decide)]
 refine Nb (MV (wpAny_handled ?_))
 rw[hh]
 first
  |exact wpAny_throw (h h' e hm)
  |exact MV (Nb (wpAny_throw (h h' e hm)))
noncomputable def lz(C:Cx)(W:Wt)(kb:Nat)(env:OZ)(l:List OZ)(X:String)(Pa:List MU→List (List V)→Prop)(s:MT)(K:MU→MT→Prop):Prop:=
 ∀e T t W3 st3 s3 W1 args s5,Step C (Ub W kb env.locals) W s W3 s3→rF C W3 st3 s3 (locs (env::l)) l X e T t W1 args s5→Pa args st3.σ→K (.ref e) s5
theorem lz.made{l:List OZ}{X:String}{Pa:List MU→List (List V)→Prop}{K:MU→MT→Prop}{e:Na}{args:List MU}{s1:MT}{W1:Wt}(k:lz C W en.kb env l X Pa s K)(hfr:A.frames=some (env::l))(S:Step C (Ub W en.kb env.locals) W s W1 s1)(R:au C W1 st1 s1)
  (F:cj s1.heap (env::l)) (hX:∀a∈locs (env::l),a∈W1.X) (hx:UU s1.heap h' e X args) (hPa:Pa args st1.σ):
  wpAny (model C.prog C.w) A (leaving env (.ref e)) (fun _ s''=>K (.ref e) s'') (fun e' s''=>K e' s'') { s1 with heap:=h' }:=
 wQ hfr R F hX hx fun s5 T t W2 T2=>k e T t W1 st1 s1 W2 args s5 S T2 hPa
theorem cj.step{l:List OZ}(F:cj s.heap l)(R:au C W st s)(hX:∀a∈locs l,a∈W.X)(S:Step C W.ay W s W' s'):cj s'.heap l:=
 F.keeps fun a ha o e=>S.keep a o e (fun q=>cU R (hX a ha) q) (bB R (aF (hX a ha)))
theorem qH(ok:bF C)(oo:bD C O n){t:E}{i k:Nat}{np cpos pos p cp:NW}{msg:NT}{b2 rest:Ss}{X N I:String}{bi:BI}(hbi:ee bi= .type X)(FC:Rt X N I)(FR:ExcRaiseFacts X){Q:P9→MT→Prop}{l:List OZ}{K:MU→MT→Prop}
  (B:dF C sc env) (Xa:At C sc env en W st s) (hr:bL n A) (wf:fG C.bN t sc=true) (ht:a_ (ak O t .test en st)=some (true,st1)) (hv:cC en st1 i=some (.bi bi))
  (hfr:A.frames=some (env::l)) (F:cj s.heap (env::l)) (hX:∀a∈locs (env::l),a∈W.X) (k1:lz C W en.kb env l X (fun args σ=>(∃tk,args=[.str msg tk])∧σ=st1.σ) s K):
  wpAny (model C.prog C.w) A (execs (dH C.P.N (.cons (.ite t (.cons (.raw (.Raise (some (.Call (.Name (nm sc i) np) [.Constant (.str msg) k cp] [] cpos)) none pos)) .nil) b2 p) rest) sc) env) Q
   (fun e s'=>wpAny (model C.prog C.w) A (leaving env e) (fun _ s''=>K e s'') (fun e' s''=>K e' s'') s') s:=by
 show wpAny _ _ (execs (toS C.P.N (.ite t _ b2 p) sc::dH C.P.N rest sc) env) _ _ _
 refine N1 (UO ((cV ok oo t).test wf B Xa hr ht fun s1 W1 S1 R1=>?_))
 show wpAny _ _ (execs (QY _ none pos::[]) env) _ _ _
 have X1:=Xa.step S1 R1
 have F1:=F.step Xa.r hX S1
 have hX1:∀a∈locs (env::l),a∈W1.X:=fun a ha=>S1.X▸hX a ha
 refine N1 (Raise_madeB FC FR hr.handled (dR ok B X1 hv fun c rc=>⟨(show c=ee bi from rc).trans hbi,?_⟩) (by rfl) (by rfl))
 show wpAny _ _ (spliced ((false,eval (.Constant (.str msg) k cp) env)::[])) _ _ _
 refine Pj (Po (PB ⟨show 1≤sizeLine by decide,fun h' e hm=>?_⟩))
 exact lz.made (en:=en) (s1:={ s1 with toks:=s1.toks+1 }) k1 hfr (S1.ub.bl (PS.tok s1 (s1.toks+1)).step) (X1.r.ps (PS.tok ..)) F1 hX1 hm ⟨⟨_,rfl⟩,rfl⟩
theorem qI(ok:bF C)(oo:bD C O n){t:E}{i:Nat}{np pos p:NW}{b2 rest:Ss}{X N I:String}{bi:BI}(hbi:ee bi= .type X)(FC:Rt X N I)(hc:ExcClass X N I)(hself:isSubtype (.type X) (.type X)=pure true){Q:P9→MT→Prop}{l:List OZ}{K:MU→MT→Prop}
  (B:dF C sc env) (Xa:At C sc env en W st s) (hr:bL n A) (wf:fG C.bN t sc=true) (ht:a_ (ak O t .test en st)=some (true,st1)) (hv:cC en st1 i=some (.bi bi))
  (hfr:A.frames=some (env::l)) (F:cj s.heap (env::l)) (hX:∀a∈locs (env::l),a∈W.X) (k1:lz C W en.kb env l X (fun args σ=>args=[]∧σ=st1.σ) s K):
  wpAny (model C.prog C.w) A (execs (dH C.P.N (.cons (.ite t (.cons (.raw (.Raise (some (.Name (nm sc i) np)) none pos)) .nil) b2 p) rest) sc) env) Q
   (fun e s'=>wpAny (model C.prog C.w) A (leaving env e) (fun _ s''=>K e s'') (fun e' s''=>K e' s'') s') s:=by
 show wpAny _ _ (execs (toS C.P.N (.ite t _ b2 p) sc::dH C.P.N rest sc) env) _ _ _
 refine N1 (UO ((cV ok oo t).test wf B Xa hr ht fun s1 W1 S1 R1=>?_))
 show wpAny _ _ (execs (QY _ none pos::[]) env) _ _ _
 have X1:=Xa.step S1 R1
 have hX1:∀a∈locs (env::l),a∈W1.X:=fun a ha=>S1.X▸hX a ha
 refine N1 (wR hr.handled FC hc hself (dR ok B X1 hv fun c rc=>⟨(show c=ee bi from rc).trans hbi,rfl⟩) fun h' e hm=>?_)
 exact lz.made k1 hfr S1.ub X1.r (F.step Xa.r hX S1) hX1 hm ⟨rfl,rfl⟩
theorem uK(ok:bF C){i:Nat}{l key pf q p}(hl:e_ C O n l)(hk:bJ C O n key){g:Nat}{kv:V}{args:List V}{o:Ug}{fd:OM}{Q:MU→MT→Prop}(wne:fN l=false)(wfl:gF C.bN l sc=true)(wfk:fG C.bN key sc=true)(B:dF C sc env)(X:At C sc env en W st s)(hr:bL n A)
  (hn:dS key=false) (g0:cC en st i=some (.fn g)) (e1:b8 O l en st=some (args,st1)) (e2:ak O key .val en st1=some (kv,st2)) (hf:fD C W (C.addr g)) (ho:s.heap.get? (C.addr g)=some o) (hd:o.data= .func fd)
  (h:∀cs ck s1 W1,Step C W.ay W s W1 s1→au C W1 st2 s1→aY C W1 s1.heap args cs→VR C W1 s1.heap kv ck→wpAny (model C.prog C.w) A (N5 (.ref (C.addr g)) cs [(("key":NT),ck)]) Q Ex s1):
  wpAny (model C.prog C.w) A (eval (bw (.call (.var i pf) l key q p) sc) env) Q Ex s:=by
 show wpAny _ _ (eval (.Call (.Name (nm sc i) pf) (b9 l sc) (cond (dS key) [] [⟨some "key",bw key sc,q⟩]) p) env) _ _ _
 rw[hn]
 refine O0 (dR ok B X g0 fun cf rf=>?_)
 rw[show cf= .ref (C.addr g)from rf]
 exact PC (o:=o) (fd:=fd) (lu hl hk wne wfl wfk B X hr e1 e2 fun cs ck s1 W1 S1 R1 r1 rk=>⟨⟨(fD.step S1 hf ho).2,hd⟩,h cs ck s1 W1 S1 R1 r1 rk⟩)
theorem Dt(ok:bF C){i:Nat}{l pf q p}(hl:e_ C O n l){g:Nat}{args:List V}{o:Ug}{fd:OM}{Q:MU→MT→Prop}(wne:fN l=false)(wfl:gF C.bN l sc=true)(B:dF C sc env)(X:At C sc env en W st s)(hr:bL n A)
  (g0:cC en st i=some (.fn g)) (e1:b8 O l en st=some (args,st1)) (hf:fD C W (C.addr g)) (ho:s.heap.get? (C.addr g)=some o) (hd:o.data= .func fd)
  (h:∀cs s1 W1,Step C W.ay W s W1 s1→au C W1 st1 s1→aY C W1 s1.heap args cs→wpAny (model C.prog C.w) A (N5 (.ref (C.addr g)) cs []) Q Ex s1):
  wpAny (model C.prog C.w) A (eval (bw (.call (.var i pf) l .bH q p) sc) env) Q Ex s:=by
 refine O0 (dR ok B X g0 fun cf rf=>?_)
 show wpAny _ _ (callWith p cf [] (backTo p (starEach (b9 l sc) env)) (backToKw p (keywordEach [] env))) _ _ _
 rw[noKw,show cf= .ref (C.addr g)from rf]
 exact PC (o:=o) (fd:=fd) (fQ hl wne wfl B X hr e1 fun cs s1 W1 S1 R1 r1=>⟨⟨(fD.step S1 hf ho).2,hd⟩,h cs s1 W1 S1 R1 r1⟩)
end
end Rk
end

section
namespace Rk
open PySem PySem.W PySem.Calls PyProof.Rows PySem.SeqAt
section
variable {C:Cx} {O:cQ} {n:Nat} {W W' W'':Wt} {st st1 st2 st':ao} {h h':NX} {s s' s'' s0:MT} {A:NF} {Ex:MU→MT→Prop} {sc so:Sc} {env:OZ} {en en':En} {df:Nat→Nat→NW→Bool} {l:List OZ} {X:String} {Pa:List MU→List (List V)→Prop}
noncomputable def eu(C:Cx)(n:Nat)(l:List OZ)(X:String)(Pa:List MU→List (List V)→Prop)(sc:Sc)(body:List Td)(en:En)(st:ao):Prop:=
 ∀{A:NF} {env:OZ} {W:Wt} {s:MT} {K:MU→MT→Prop},dF C sc env→At C sc env en W st s→bL n A→A.frames=some (env::l)→cj s.heap (env::l)→(∀b∈locs (env::l),b∈W.X)→lz C W en.kb env l X Pa s K→
  wpAny (model C.prog C.w) A (execs body env) (fun _ _=>False) (fun e s'=>wpAny (model C.prog C.w) A (leaving env e) (fun _ s''=>K e s'') (fun e' s''=>K e' s'') s') s
noncomputable def x_(C:Cx)(W:Wt)(κ:List (Option V))(l:List OZ)(X:String)(Pa:List MU→List (List V)→Prop)(s:MT)(Ex:MU→MT→Prop):Prop:=
 ∀e T t W1 st' args s5,st'.κ=κ→rF C W st' s (locs l) l X e T t W1 args s5→Pa args st'.σ→Ex (.ref e) s5
theorem rG{g:Nat}(ok:bF C)(F:dJ C g){args vals:List V}{key:Option V}{Q:MU→MT→Prop}{cs:List MU}{kw:List (NT×MU)}(hr:bL (n+1) A)(R:au C W st s)(ra:aY C W s.heap args cs)(rk:Io C W s.heap key kw)
  (ev:gh (C.P.F g) args key=some vals) (hfrm:A.frames=some l) (hF:cj s.heap l) (hFX:∀b∈locs l,b∈W.X)
  (hb:eu C n l X (fun args σ=>Pa args (σ.take st.σ.length)) (C.P.F g).sc (dH C.P.N (C.P.F g).body (C.P.F g).sc) ⟨(aV (C.P.F g).sc (vals.map some) [] st.κ).1,st.κ.length⟩ { κ:=(aV (C.P.F g).sc (vals.map some) [] st.κ).2,σ:=st.σ })
  (h:x_ C W st.κ l X Pa s Ex):wpAny (model C.prog C.w) A (N5 (.ref (C.addr g)) cs kw) Q Ex s:=by
 refine bc fun hN0=>?_
 obtain⟨o,fd,df,mo,ho,hd,hbody,hsc,hcl,hgl,hbu,⟨c,oc,vs,t,hcd,hct,hoc,hdc,hq⟩,nO,wb,hfr,hbind,hdef⟩:=F.ex
 obtain⟨⟨cvals,hv,hbt⟩,hpar⟩:=hbind args key vals cs kw W st s ev R ra rk
 refine hN0 ?_
 exact zM ok hfrm hF hFX R hr (R.r.keep _ _ ho F.nt) hd hbody hsc (by rw[hcl,gy _ _ hfr]) ⟨by rw[hfr];rfl,o6⟩ hgl hbu ⟨c,oc,vs,t,hcd,R.r.keep _ _ hoc hct,hdc,hq⟩ nO hbt hv hpar
  (fun env W2 s2 B X2 hf F2 hX2 K k=>hb B X2 hr.deeper hf F2 hX2 k) h
theorem lz.wO{K:MU→MT→Prop}{e T t:Na}{args:List MU}{s1:MT}{W1 W3:Wt}(k:lz C W en.kb env l X Pa s K)(hfr:A.frames=some (env::l))(S:Step C (Ub W en.kb env.locals) W s W1 s1)(T0:rF C W1 st1 s1 (locs (env::l)) (env::l) X e T t W3 args s')
  (hX:∀a∈locs (env::l),a∈W1.X) (hPa:Pa args st1.σ):wpAny (model C.prog C.w) A (leaving env (.ref e)) (fun _ s''=>K (.ref e) s'') (fun e' s''=>K e' s'') s':=
 zL hfr T0 (fun a ha=>⟨ha,hX a ha⟩) fun s5 T' W1' T5=>k e T' t W1 st1 s1 W1' args s5 S T5 hPa
theorem dJ.obj{g:Nat}(F:dJ C g)(R:au C W st s):fD C W (C.addr g)∧ ∃o fd,s.heap.get? (C.addr g)=some o∧o.data= .func fd:=by
 refine bc fun hN0=>?_
 obtain⟨a,o,fd,e,hf,ho,hd⟩:=Bw F R
 cases e
 refine hN0 ?_
 exact⟨hf,o,fd,ho,hd⟩
theorem gM(ok:bF C)(oo:bD C O (n+1)){i g:Nat}{la key pf q p}(F:dJ C g){kv:V}{args vals:List V}{Q:MU→MT→Prop}(wne:fN la=false)(wfl:gF C.bN la sc=true)(wfk:fG C.bN key sc=true)(B:dF C sc env)(Xa:At C sc env en W st s)(hr:bL (n+1) A)
  (hn:dS key=false) (g0:cC en st i=some (.fn g)) (e1:b8 O la en st=some (args,st1)) (e2:ak O key .val en st1=some (kv,st2)) (ev:gh (C.P.F g) args (some kv)=some vals)
  (hfrm:A.frames=some l) (hF:cj s.heap l) (hFX:∀b∈locs l,b∈W.X)
  (hb:eu C n l X (fun args σ=>Pa args (σ.take st2.σ.length)) (C.P.F g).sc (dH C.P.N (C.P.F g).body (C.P.F g).sc) ⟨(aV (C.P.F g).sc (vals.map some) [] st2.κ).1,st2.κ.length⟩ { κ:=(aV (C.P.F g).sc (vals.map some) [] st2.κ).2,σ:=st2.σ })
  (h:∀s1 W1,Step C W.ay W s W1 s1→au C W1 st2 s1→(∀b∈locs l,b∈W1.X)→x_ C W1 st2.κ l X Pa s1 Ex):
  wpAny (model C.prog C.w) A (eval (bw (.call (.var i pf) la key q p) sc) env) Q Ex s:=by
 refine bc fun hN0=>?_
 obtain⟨hf,o,fd,ho,hd⟩:=F.obj Xa.r
 refine hN0 ?_
 refine uK ok (ly ok oo la) (cV ok oo key).val wne wfl wfk B Xa hr hn g0 e1 e2 hf ho hd fun cs ck s1 W1 S1 R1 r1 rk=>?_
 have hX1:∀b∈locs l,b∈W1.X:=fun a ha=>S1.X▸hFX a ha
 exact rG (key:=some kv) ok F hr R1 r1 ⟨ck,rfl,rk⟩ ev hfrm (hF.step Xa.r hFX S1) hX1 hb (h s1 W1 S1 R1 hX1)
theorem wU(ok:bF C)(oo:bD C O (n+1)){i g:Nat}{la pf q p}(F:dJ C g){args vals:List V}{Q:MU→MT→Prop}(wne:fN la=false)(wfl:gF C.bN la sc=true)(B:dF C sc env)(Xa:At C sc env en W st s)(hr:bL (n+1) A)
  (g0:cC en st i=some (.fn g)) (e1:b8 O la en st=some (args,st1)) (ev:gh (C.P.F g) args none=some vals)
  (hfrm:A.frames=some l) (hF:cj s.heap l) (hFX:∀b∈locs l,b∈W.X)
  (hb:eu C n l X (fun args σ=>Pa args (σ.take st1.σ.length)) (C.P.F g).sc (dH C.P.N (C.P.F g).body (C.P.F g).sc) ⟨(aV (C.P.F g).sc (vals.map some) [] st1.κ).1,st1.κ.length⟩ { κ:=(aV (C.P.F g).sc (vals.map some) [] st1.κ).2,σ:=st1.σ })
  (h:∀s1 W1,Step C W.ay W s W1 s1→au C W1 st1 s1→(∀b∈locs l,b∈W1.X)→x_ C W1 st1.κ l X Pa s1 Ex):
  wpAny (model C.prog C.w) A (eval (bw (.call (.var i pf) la .bH q p) sc) env) Q Ex s:=by
 refine bc fun hN0=>?_
 obtain⟨hf,o,fd,ho,hd⟩:=F.obj Xa.r
 refine hN0 ?_
 refine Dt ok (ly ok oo la) wne wfl B Xa hr g0 e1 hf ho hd fun cs s1 W1 S1 R1 r1=>?_
 have hX1:∀b∈locs l,b∈W1.X:=fun a ha=>S1.X▸hFX a ha
 exact rG (key:=none) ok F hr R1 r1 rfl ev hfrm (hF.step Xa.r hFX S1) hX1 hb (h s1 W1 S1 R1 hX1)
end
end Rk
end

section
namespace Rk
open PySem PySem.W PySem.Calls PyProof.Rows PySem.SeqAt
section
variable {C:Cx} {O:cQ} {n:Nat} {W W' W'':Wt} {st st1 st2 st3 st':ao} {h h':NX} {s s' s'' s0:MT} {A:NF} {Ex:MU→MT→Prop} {sc so:Sc} {env:OZ} {en en':En} {df:Nat→Nat→NW→Bool} {l:List OZ} {X:String} {Pa:List MU→List (List V)→Prop}
theorem pU(ok:bF C)(oo:bD C O n){t:E}{i k:Nat}{np cpos pos p cp:NW}{msg:NT}{b2 rest:Ss}{N I:String}{bi:BI}(hbi:ee bi= .type X)(FC:Rt X N I)(FR:ExcRaiseFacts X)
  (wf:fG C.bN t sc=true) (ht:a_ (ak O t .test en st)=some (true,st1)) (hv:cC en st1 i=some (.bi bi)):
  eu C n l X (fun args σ=>(∃tk,args=[.str msg tk])∧σ=st1.σ) sc (dH C.P.N (.cons (.ite t (.cons (.raw (.Raise (some (.Call (.Name (nm sc i) np) [.Constant (.str msg) k cp] [] cpos)) none pos)) .nil) b2 p) rest) sc) en st:=
 fun B Xa hr hfr F hX k1=>qH ok oo hbi FC FR B Xa hr wf ht hv hfr F hX k1
theorem wV(ok:bF C)(oo:bD C O n){t:E}{i:Nat}{np pos p:NW}{b2 rest:Ss}{N I:String}{bi:BI}(hbi:ee bi= .type X)(FC:Rt X N I)(hc:ExcClass X N I)(hself:isSubtype (.type X) (.type X)=pure true)
  (wf:fG C.bN t sc=true) (ht:a_ (ak O t .test en st)=some (true,st1)) (hv:cC en st1 i=some (.bi bi)):
  eu C n l X (fun args σ=>args=[]∧σ=st1.σ) sc (dH C.P.N (.cons (.ite t (.cons (.raw (.Raise (some (.Name (nm sc i) np)) none pos)) .nil) b2 p) rest) sc) en st:=
 fun B Xa hr hfr F hX k1=>qI ok oo hbi FC hc hself B Xa hr wf ht hv hfr F hX k1
theorem pV(ok:bF C)(oo:bD C O (n+1)){t:E}{i j g:Nat}{la key pf pj q p p2 pi}{b1 rest:Ss}(F:dJ C g){kv:V}{args vals:List V}(wf:fG C.bN t sc=true)(ht:a_ (ak O t .test en st)=some (false,st1))
  (wne:fN la=false) (wfl:gF C.bN la sc=true) (wfk:fG C.bN key sc=true) (hn:dS key=false) (g0:cC en st1 i=some (.fn g)) (e1:b8 O la en st1=some (args,st2)) (e2:ak O key .val en st2=some (kv,st3)) (ev:gh (C.P.F g) args (some kv)=some vals)
  (hb:∀env,eu C n (env::l) X (fun args σ=>Pa args (σ.take st3.σ.length)) (C.P.F g).sc (dH C.P.N (C.P.F g).body (C.P.F g).sc) ⟨(aV (C.P.F g).sc (vals.map some) [] st3.κ).1,st3.κ.length⟩ { κ:=(aV (C.P.F g).sc (vals.map some) [] st3.κ).2,σ:=st3.σ }):
  eu C (n+1) l X Pa sc (dH C.P.N (.cons (.ite t b1 (.cons (.asg (.bM j pj) (.call (.var i pf) la key q p) p2) .nil) pi) rest) sc) en st:=by
 intro A env W s K B Xa hr hfr F0 hX k
 show wpAny _ _ (execs (toS C.P.N (.ite t b1 _ pi) sc::dH C.P.N rest sc) env) _ _ _
 refine N1 (UO ((cV ok oo t).test wf B Xa hr ht fun s1 W1 S1 R1=>?_))
 show wpAny _ _ (execs (Stmt.Assign [.Name (nm sc j) pj] (bw (.call (.var i pf) la key q p) sc) p2::[]) env) _ _ _
 have X1:=Xa.step S1 R1
 have hX1:∀a∈locs (env::l),a∈W1.X:=fun a ha=>S1.X▸hX a ha
 refine N1 (PF (gM ok oo F wne wfl wfk B X1 hr hn g0 e1 e2 ev hfr (F0.step Xa.r hX S1) hX1 (hb env) fun s2 W2 S2 R2 hX2=>?_) (pq rfl))
 intro e T t W3 st' args s5 hκ T5 hPa
 exact lz.wO k hfr (S1.ub.bl S2.ub) T5 hX2 hPa
end
end Rk
end

section
namespace Rk
open PySem PySem.W PySem.Calls PyProof.Rows PySem.SeqAt
section
variable {C:Cx} {O:cQ} {n:Nat} {W W' W1 W2:Wt} {st st1 st2 st3 st':ao} {h h':NX} {s s' s'' s0:MT} {A:NF} {Ex:MU→MT→Prop} {sc so:Sc} {env:OZ} {en en':En} {l:List OZ} {X:String} {e T t:Na} {args:List MU} {D:List Na}
theorem wW{Q:Unit→MT→Prop}(T0:rF C W st s0 D l X e T t W1 args s)(hD:∀a∈locs l,a∈D∧a∈W.X)
  (k:∀s5 T' W1',rF C W st s0 D l X e T' t W1' args s5→Q () s5):wpAny (model C.prog C.w) A (setFlight (.ref e) none) Q Ex s:=by
 obtain⟨f1,f2,f3,f4⟩:=T0.wO.sZ
 exact wpAny_setFlight_noneW f1 f3 f4 fun h' k1 k2 k3 k4=>let ⟨T',W1',T5⟩:=T0.land hD (fun _ hx=>hx) ⟨k1,f2,k2,k3⟩ (fun b o hb hn=>⟨o.slots,k4 b o hb hn⟩);k _ T' W1' T5
theorem rF.ext(T0:rF C W st s0 D l X e T t W1 args s)(hD:∀a∈D,a∈W.X):Ext C W s0.heap W1 s.heap:=by
 obtain⟨new,en_,hnew⟩:=T0.step.ay
 have hκ:W1.aB=W.aB:=T0.step.aB
 refine⟨⟨new,en_⟩,⟨[],by rw[hκ,Nc]⟩,fun a o f ea=>⟨⟨fun hm=>?_,f.2⟩,T0.step.keep a o ea (fun hm=>?_) f.2⟩⟩
 ·have hnone:∀b,s0.heap.get? b=none→a≠b:=fun b hb q=>by rw[←q,ea]at hb;exact nomatch hb
  rcases MX.mp hm with hm|hm
  ·rw[show W1.ay=W.ay++new from en_]at hm
   rcases MX.mp hm with hm|hm
   ·exact f.1 (bj hm)
   ·exact hnone a (hnew a hm) rfl
  ·rcases MX.mp hm with hm|hm
   ·exact f.1 (cg (hκ▸hm))
   ·rw[T0.hX]at hm
    rcases M5.mp hm with hm|hm
    ·exact hnone e T0.ne hm
    ·rcases M5.mp hm with hm|hm
     ·exact hnone T T0.nT hm
     ·exact f.1 (aF hm)
 ·rcases MX.mp hm with hm|hm
  ·exact f.1 (bj hm)
  ·exact f.1 (aF (hD a hm))
theorem Ns.slots{L:Na}{m:NT→Option MU}{o:Ug}{sl:Array (Option MU)}(hn:h.Ns L m)(ho:h.get? L=some o)(ho':h'.get? L=some { o with slots:=sl }):h'.Ns L m:=by
 obtain⟨o1,es,ep,e1,hd,hm⟩:=hn
 have:o1=o:=M0 (e1.symm.trans ho)
 clear ho e1
 subst this
 exact⟨_,es,ep,ho',hd,hm⟩
theorem rF.at(T0:rF C W st' s0 D l X e T t W1 args s)(Xa:At C sc env en W st s0)(hD:∀a∈D,a∈W.X)(hL:env.locals∈D):At C sc env en W1 st' s:=by
 have x:=T0.ext hD
 have hκ:W1.aB=W.aB:=T0.step.aB
 obtain⟨m,hn,hm⟩:=Xa.fr.ns
 have hn':=hn
 obtain⟨o,es,ep,ho,_⟩:=hn'
 obtain⟨sl,e1⟩:=T0.slots _ hL o ho
 refine⟨T0.r,⟨Xa.fr.len,by rw[T0.hX];exact MY _ (MY _ Xa.fr.loc),⟨m,Ns.slots hn ho e1,fun i nm v h1 h2=>?_⟩,fun i y w h1 h2=>CB.at hκ rfl (Xa.fr.vy i y w h1 h2)⟩⟩
 obtain⟨c,h3,h4⟩:=hm i nm v h1 h2
 exact⟨c,h3,VR.ext x h4⟩
theorem dF.Du(B:dF C sc env){i j:Nat}{a b:NT}(h1:sc[i]? =some (.lc a))(h2:sc[j]? =some (.lc b))(hij:i≠j):a≠b:=fun q=>hij (by
 have e1:(sc.map SE.name)[i]? =some a:=by rw[Nr,h1];rfl
 have e2:(sc.map SE.name)[j]? =some a:=by rw[Nr,h2,q];rfl
 have h1':=MW.mp e1
 have h2':=MW.mp e2
 exact(Qm B.nodup).mp (h1'.2.trans h2'.2.symm))
inductive LU (C:Cx) (sc:Sc) (env:OZ) (en:En) (W:Wt) (nme:NT) (ov:Option MU) (h:NX):Prop
 |mk (m:NT→Option MU) (hn:h.Ns env.locals m) (hv:m nme=ov) (hm:∀(i:Nat) a v,sc[i]? =some (.lc a)→en.ρ[i]? =some (.loc (some v))→ ∃c,m a=some c∧VR C W h v c)
theorem At.put(B:dF C sc env)(Xa:At C sc env en W st s){ie:Nat}{nme:NT}(hx:sc[ie]? =some (.lc nme))(he:en.ρ[ie]? =some (.loc none)){m:NT→Option MU}(hm:∀(i:Nat) a v,sc[i]? =some (.lc a)→en.ρ[i]? =some (.loc (some v))→ ∃c,m a=some c∧VR C W s.heap v c)
  {ov:Option MU} {k:Nat} (hn':h'.Ns env.locals (fun x=>if x=nme then ov else m x)) (hs':Pf env.locals s.heap h'):
  (∀U,env.locals∈U→Step C U W s W { s with heap:=h',toks:=k })∧At C sc env en W st { s with heap:=h',toks:=k }∧LU C sc env en W nme ov h':=by
 obtain⟨S,R'⟩:=au.zh (t:=k) Xa.r Xa.fr.loc hs' (let ⟨o,_,_,e,_⟩:=hn';⟨o,e⟩)
 have Xt:=(S (Ub W en.kb env.locals) (by simp[Ub])).ext (jR Xa.fr)
 have hm':∀(i:Nat) a v,sc[i]? =some (.lc a)→en.ρ[i]? =some (.loc (some v))→ ∃c,(if a=nme then ov else m a)=some c∧VR C W h' v c:=fun i a v h1 h2=>by
  obtain⟨c,h3,h4⟩:=hm i a v h1 h2
  have hne:a≠nme:=B.Du h1 hx fun q=>by rw[q,he]at h2;exact nomatch h2
  exact⟨c,(if_neg hne).trans h3,VR.ext Xt h4⟩
 exact⟨S,⟨R',⟨Xa.fr.len,Xa.fr.loc,⟨_,hn',hm'⟩,Xa.fr.vy⟩⟩,_,hn',if_pos rfl,hm'⟩
end
end Rk
end

section
namespace Rk
open PySem PySem.W PySem.Calls PyProof.Rows PySem.SeqAt
section
variable {C:Cx} {O:cQ} {n:Nat} {W W' W1 W2:Wt} {st st1 st2 st3 st':ao} {h h':NX} {s s' s'' s0 s1:MT} {A:NF} {Ex:MU→MT→Prop} {sc so:Sc} {env:OZ} {en en':En} {X:String} {e T t:Na} {args:List MU}
noncomputable def uL(C:Cx)(X:String)(Pa:List MU→Prop)(msg:NT):Prop:=
 ∀{A:NF} {s:MT} {Q Ex:MU→MT→Prop} {e t:Na} {args:List MU},Pa args→A.units+2<cLine→s.heap.ExcAt e X (.ref t)→s.heap.TupAt t args→(∀tk k,Q (.str msg tk) { s with toks:=k })→
  wpAny (model C.prog C.w) A (N5 (.type "str") [.ref e] []) Q Ex s
theorem rH{N:String}(FX:ExcStrFacts X N){msg:NT}:uL C X (fun args=>∃tk,args=[.str msg tk]) msg:=by
 intro A s Q Ex e t args ⟨tk,ha⟩ hu x ht hq
 subst ha
 exact P.str_of_exc_one FX hu x ht (hq tk s.toks)
theorem wX{N:String}(FX:ExcStrFacts X N):uL C X (fun args=>args=[]) VW:=by
 intro A s Q Ex e t args ha hu x ht hq
 subst ha
 exact P.str_of_exc_none FX hu x ht (hq _ _)
theorem BK(ok:bF C){Pa:List MU→Prop}{msg:NT}(hS:uL C X Pa msg)(hPa:Pa args)(B:dF C sc env)(Xa:At C sc env en W st s)(hu:A.units+2<cLine){ie iS k:Nat}{nme:NT}(hx:sc[ie]? =some (.lc nme))(hvS:cC en st iS=some (.bi .str))(hN:LU C sc env en W nme (some (.ref e)) s.heap)
  (x:s.heap.ExcAt e X (.ref t)) (ht:s.heap.TupAt t args) {pS pN pC pk pc pI:NW} {bI:List Td} {Q:P9→MT→Prop} (hQ:∀k,Q .next { s with toks:=k }):
  wpAny (model C.prog C.w) A (execs [.If (.Compare (.Call (.Name (nm sc iS) pS) [.Name nme pN] [] pC) [.NotEq] [.Constant (.str msg) k pk] pc) bI [] pI] env) Q Ex s:=by
 refine bc fun hN0=>?_
 obtain⟨hk,hg⟩:=B.names ie _ hx
 obtain⟨m,hn,hv,hm⟩:=hN
 refine hN0 ?_
 refine N1 (UO (Pu (O0 (dR ok B Xa hvS fun c rc=>?_)) rfl))
 show wpAny _ _ (callWith pC c [] (backTo pC (starEach [.Name nme pN] env)) (backToKw pC (keywordEach [] env))) _ _ _
 rw[noKw,show c=ee .str from rc]
 show wpAny _ _ (callWith pC (ee .str) [] ((false,eval (.Name nme pN) env)::[]) []) _ _ _
 refine g7 rfl fun f=>Qi (Pj (Q7 (Qh B.kind hk hn hv (PB ?_)) (eq_of_beq (band (band hg).1).1)))
 refine hS hPa hu x ht fun tk kk=>?_
 refine Po (P.ne_str ?_)
 rw[show(msg.cps.toList != msg.cps.toList)=false from bne_self_eq_false _]
 refine Ob ?_
 show wpAny _ _ (execs [] env) _ _ _
 exact Nb (Nb (hQ _))
end
end Rk
end

section
namespace Rk
open PySem PySem.W PySem.Calls PyProof.Rows PySem.SeqAt
section
variable {C:Cx} {O:cQ} {n:Nat} {W W' W1 W2:Wt} {st st1 st2 st3 st':ao} {h h':NX} {s s' s'' s0 s1:MT} {A:NF} {Ex:MU→MT→Prop} {sc so:Sc} {env:OZ} {en en':En} {X:String} {e T t:Na} {args:List MU}
structure Catch (X:String):Prop where
 exc:isSubtype (.type X) (.type "BaseException")=pure true
 nt:isSubtype (.type ((Manifest.find? X).elim "type" fun x=>x.metatype)) (.type "tuple")=pure false
 sub:isSubtype (.type X) (.type X)=pure true
theorem At.drop{X1:List Na}(Xa:At C sc env en W st s)(hX:∀a∈X1,a∈W.X)(hn:X1.Nodup)(hL:env.locals∈X1):At C sc env en { W with X:=X1 } st s:=by
 obtain⟨R,fr⟩:=Xa.r.Df hX hn
 exact Xa.ext R ⟨⟨[],(Nc _).symm⟩,⟨[],(Nc _).symm⟩,fun a o f e=>⟨fr a f,e⟩⟩ hL fun o e=>e
theorem Step.EE{U:List Na}{W0:Wt}(hμ:W0.ay=W.ay)(S:Step C U W s W s'):Step C U W0 s W0 s':=⟨S.mZ,S.keep,⟨[],(Nc _).symm,nofun⟩,rfl,rfl,S.gens⟩
theorem FJ(ok:bF C){Pa:List MU→Prop}{msg:NT}(hS:uL C X Pa msg)(hPa:Pa args)(B:dF C sc env)(X1:At C sc env en W1 st1 s1)(hr:bL n A)(hfr:A.frames=some [env])(K:Catch X){bi:BI}(hbi:ee bi= .type X){iT ie iS k:Nat}{nme:NT}
  (hvT:en.ρ[iT]? =some (.cY (.bi bi))) (hvS:en.ρ[iS]? =some (.cY (.bi .str))) (hx:sc[ie]? =some (.lc nme)) (he:en.ρ[ie]? =some (.loc none))
  {W3:Wt} (T0:rF C W1 st1 s1 (locs [env]) [env] X e T t W3 args s) {pT pS pN pC pk pc pI pH:NW} {bI:List Td} {Q:P9→MT→Prop} (h:lj C sc env en en W1 st1 s1 (Q .next)):
  wpAny (model C.prog C.w) A (noteFrame (.ref e) env) (fun _ s₂=>wpAny (model C.prog C.w) A (setFlight (.ref e) none) (fun _ s₃=>
   wpAny (model C.prog C.w) A (handleBy (.ref e) env [.ExceptHandler (some (.Name (nm sc iT) pT)) (some nme) [.If (.Compare (.Call (.Name (nm sc iS) pS) [.Name nme pN] [] pC) [.NotEq] [.Constant (.str msg) k pk] pc) bI [] pI] pH]) Q Ex s₃) Ex s₂) Ex s:=by
 have gv:∀{i b} {st:ao},en.ρ[i]? =some (.cY (.bi b))→cC en st i=some (.bi b):=fun hi=>by unfold cC;rw[hi]
 have hL1:env.locals∈W1.X:=X1.fr.loc
 have hD:∀a∈locs [env],a∈locs [env]∧a∈W1.X:=fun a ha=>⟨ha,(M4.mp ha:a=env.locals)▸hL1⟩
 have hk:=(B.names ie _ hx).1
 have hp:(env.scope.kind == .class || (env.scope.kind == .module&&env.locals != env.globals))=false:=by rw[B.kind];rfl
 refine BJ hfr T0 hD fun s6 T6 W6 Y6=>?_
 refine bc fun hN0=>?_
 have A6:=Y6.at X1 (fun a ha=>(hD a ha).2) m0
 obtain⟨oe,vs,heo,hc,_⟩:=Y6.wO.exc
 refine hN0 ?_
 refine wpAny_handleBy_builtin_as (b:=true) K.exc K.nt K.sub (dR ok B A6 (gv hvT) fun c rc=>⟨(show c=ee bi from rc).trans hbi,⟨oe,heo,hc⟩,?_⟩)
 rw[if_pos rfl]
 refine wW Y6 hD fun s7 T7 W7 Y7=>?_
 refine bc fun hN1=>?_
 have A7:=Y7.at X1 (fun a ha=>(hD a ha).2) m0
 obtain⟨m,hn,hm⟩:=A7.fr.ns
 refine hN1 ?_
 refine Pr hk hn (fun h8 hn8 hs8=>?_) hp
 refine bc fun hN2=>?_
 obtain⟨S8,A8,N8⟩:=At.put (k:=s7.toks+1) B A7 hx he hm hn8 hs8
 refine hN2 ?_
 have hocc:∃o es ep,s1.heap.get? env.locals=some o∧o.data= .dict es ep:=let ⟨_,hn1,_⟩:=X1.fr.ns;let ⟨o,es,ep,ho,hd,_⟩:=hn1;⟨o,es,ep,ho,hd⟩
 have hne:e≠env.locals:=fun q=>by obtain⟨o,_,_,ho,_⟩:=hocc;rw[←q,Y7.ne]at ho;exact nomatch ho
 have htne:t≠env.locals:=fun q=>by
  refine bc fun hN3=>?_
  obtain⟨o,es,ep,ho,hd⟩:=hocc
  obtain⟨sl,e1⟩:=Y7.slots env.locals m0 o ho
  obtain⟨o2,n2,ho2,_,hd2⟩:=Y7.wO.tup
  rw[q,e1]at ho2
  have:=M0 ho2
  subst this
  refine hN3 ?_
  have hd2:o.data=_:=hd2
  rw[hd]at hd2;exact nomatch hd2
 have xe:h8.ExcAt e X (.ref t):=let ⟨oe,vs,heo,hc,hd,h0,_⟩:=Y7.wO.exc;⟨oe,vs,(hs8.2 e hne).trans heo,hc,hd,h0⟩
 have xt:h8.TupAt t args:=let ⟨o,n2,ho,hc,hd⟩:=Y7.wO.tup;⟨o,n2,(hs8.2 t htne).trans ho,hc,hd⟩
 refine BK ok hS hPa B A8 (by have:=hr.units;show A.units+2<_;lia) hx (gv hvS) N8 xe xt fun kk=>?_
 refine bc fun hN4=>?_
 obtain⟨m8,hn8',_,hm8⟩:=N8
 refine hN4 ?_
 have A9:=A8.step (PS.tok _ kk).step (A8.r.ps (PS.tok _ kk))
 refine wpAny_nameGoes_keeps hk hn8' hp fun h10 v hn10 hs10=>?_
 refine bc fun hN5=>?_
 obtain⟨S10,A10,_⟩:=At.put (k:=kk+1) B A9 hx he hm8 hn10 hs10
 refine hN5 ?_
 have hXW:W7.X=e::T7::W1.X:=Y7.hX
 have hnd:W1.X.Nodup:=(M6.mp (M6.mp X1.r.r.nodup).2.1).2.1
 have A11:=A10.drop (X1:=W1.X) (fun a ha=>by rw[hXW];exact MY _ (MY _ ha)) hnd hL1
 have SA:Step C (Ub W1 en.kb env.locals) W1 s1 { W7 with X:=W1.X } s7:=Y7.step.mono fun a ha=>(MX.mp ha).elim (fun h=>M7 _ h) fun h=>MZ _ (MZ _ h)
 have hLU:env.locals∈Ub { W7 with X:=W1.X } en.kb env.locals:=MZ _ (MZ _ m0)
 have SB:Step C (Ub { W7 with X:=W1.X } en.kb env.locals) { W7 with X:=W1.X } s7 { W7 with X:=W1.X } _:=Step.EE (W:=W7) rfl (S8 _ hLU)
 have SC:Step C (Ub { W7 with X:=W1.X } en.kb env.locals) { W7 with X:=W1.X } { s7 with heap:=h8,toks:=kk } { W7 with X:=W1.X } _:=Step.EE (W:=W7) rfl (S10 _ hLU)
 have ST:Step C (Ub { W7 with X:=W1.X } en.kb env.locals) { W7 with X:=W1.X } { s7 with heap:=h8,toks:=s7.toks+1 } { W7 with X:=W1.X } { s7 with heap:=h8,toks:=kk }:=(PS.tok _ kk).step
 exact h _ _ (((SA.bl SB).bl ST).bl SC) A11 rfl
end
end Rk
end

section
namespace Rk
open PySem PySem.W PySem.Calls PyProof.Rows PySem.SeqAt
section
variable {C:Cx} {O:cQ} {n:Nat} {W W' W1 W2:Wt} {st st1 st2 st3 st':ao} {h h':NX} {s s' s'' s0 s1:MT} {A:NF} {Ex:MU→MT→Prop} {sc so:Sc} {env:OZ} {en bV en':En} {X:String} {df:Nat→Nat→NW→Bool}
theorem s9(ok:bF C){Pa:List MU→Prop}{msg:NT}(hS:uL C X Pa msg)(B:dF C sc env)(Xa:At C sc env en W st s)(hr:bL n A)(hfr:A.frames=some [env])(K:Catch X){bi:BI}(hbi:ee bi= .type X){iT ie iS k:Nat}{nme:NT}
  (hvT:en.ρ[iT]? =some (.cY (.bi bi))) (hvS:en.ρ[iS]? =some (.cY (.bi .str))) (hx:sc[ie]? =some (.lc nme)) (he:en.ρ[ie]? =some (.loc none)) {cE:E} (hnc:mH cE=false) {pe pt pT pS pN pC pk pc pI pH:NW} {rest bI:List Td} {Q:P9→MT→Prop}
  (hcall:∀{Q' Ex':MU→MT→Prop},(∀s1 W1,Step C W.ay W s W1 s1→au C W1 st1 s1→(∀b∈locs [env],b∈W1.X)→x_ C W1 st1.κ [env] X (fun args σ=>Pa args∧σ=st1.σ) s1 Ex')→wpAny (model C.prog C.w) A (eval (bw cE sc) env) Q' Ex' s)
  (h:lj C sc env en en W st1 s (Q .next)):
  wpAny (model C.prog C.w) A (exec (.Try (.Expr (bw cE sc) pe::rest) [.ExceptHandler (some (.Name (nm sc iT) pT)) (some nme) [.If (.Compare (.Call (.Name (nm sc iS) pS) [.Name nme pN] [] pC) [.NotEq] [.Constant (.str msg) k pk] pc) bI [] pI] pH] [] [] pt) env) Q Ex s:=by
 refine wpAny_Try_except (N1 (VB (hcall fun s1 W1 S1 R1 hX1 e T t W3 st' args s5 hκ T5 hPa=>?_) (by unfold interactive;rw[B.kind];first|rfl|simp) (pq hnc)))
 have hst:st'=st1:=by
  obtain⟨κ',σ'⟩:=st'
  obtain⟨IM,σ1⟩:=st1
  have h1:κ'=IM:=hκ
  have h2:σ'=σ1:=hPa.2
  rw[h1,h2]
 clear hnc hcall hX1 hκ
 subst hst
 exact FJ ok hS hPa.1 B (Xa.step S1 R1) hr hfr K hbi hvT hvS hx he T5 fun s' W' S' X' kk=>h s' W' (S1.ub.bl S') X' kk
noncomputable def Ss.app:Ss→Ss→Ss
 |.nil,b=>b
 |.cons s r,b=>.cons s (Ss.app r b)
theorem nB(ok:bF C)(oo:bD C O n)(B:dF C sc env)(D:iH C O sc env df)(hr:bL n A){b:Ss}{Q:P9→MT→Prop}:∀(a:Ss) {en:En} {W:Wt} {st:ao} {s:MT},n9 C.bN df a sc=true→At C sc env en W st s→aE O C.P.N a en st=some (.bU,bV,st1)→
  (∀s1 W1,Step C (Ub W en.kb env.locals) W s W1 s1→At C sc env bV W1 st1 s1→bV.kb=en.kb→wpAny (model C.prog C.w) A (execs (dH C.P.N b sc) env) Q Ex s1)→wpAny (model C.prog C.w) A (execs (dH C.P.N (a.app b) sc) env) Q Ex s
 |.nil,en,W,st,s,_,Xa,e,h=>by
  obtain⟨_,h2,h3⟩:=fh e
  subst h2 h3
  exact h s W .refl Xa rfl
 |.cons x r,en,W,st,s,wf,Xa,e,h=>by
  obtain⟨f1,en2,st2,e1,e2⟩:=d9 e
  obtain⟨wx,wr⟩:=band wf
  cases f1 with
  |ret v=>exact nomatch (fh e2).1
  |bU=>
   refine N1 (Fy ok oo x wx B D Xa hr e1 fun f s1 W1 S1 X1 hk1 r1=>?_)
   rw[show f= .next from r1]
   exact nB ok oo B D hr r wr X1 e2 fun s2 W2 S2 X2 hk2=>h s2 W2 (S1.bl (hk1▸S2)) X2 (hk2.trans hk1)
end
end Rk
end

section
namespace Rk
open PySem
section
variable {O:cQ} {N:Nat→Nf} {en bV en2:En} {st st1 st2 st3:ao} {s:S} {r:Ss} {out:Option (Fl×En×ao)} {v x y z:V} {e a b c f:E} {p q:NW} {t:T} {md:Md} {l:Es} {op:Ry} {cop:CmpOp} {vs args:List V} {bb:Bool}
theorem ai(h1:aX O N s en st=some (.bU,bV,st1))(h2:aE O N r bV st1=out):aE O N (.cons s r) en st=out:=fT h1 h2
theorem bS(h1:aX O N s en st=some (.ret v,bV,st1)):aE O N (.cons s r) en st=some (.ret v,bV,st1):=fT h1 rfl
theorem bK:aE O N .nil en st=some (.bU,en,st):=rfl
theorem aG(h1:aX O N s en st=out):aE O N (.cons s .nil) en st=out:=by
 cases out with
 |none=>show n7 (aX O N s en st) _=_;rw[h1];rfl
 |some o=>obtain⟨fl,en',st'⟩:=o;exact fT h1 (by cases fl<;>rfl)
theorem ff(he:ak O e .val en st=some (v,st1))(hs:gU t v en st1=some (en2,st2)):aX O N (.asg t e p) en st=some (.bU,en2,st2):=aA he (aA hs rfl)
theorem rJ{tg:List (Nat×NW)}{k k2:Nat}{q1 q2:NW}(he:b8 O l en st=some (vs,st1))(hs:jH tg.reverse vs.reverse en st1=some (en2,st2)):aX O N (.tP true tg k q1 l k2 q2 p) en st=some (.bU,en2,st2):=aA he (aA hs rfl)
theorem s_{tg:List (Nat×NW)}{k k2:Nat}{q1 q2:NW}(he:b8 O l en st=some (vs,st1))(hs:jH tg vs en st1=some (en2,st2)):aX O N (.tP false tg k q1 l k2 q2 p) en st=some (.bU,en2,st2):=aA he (aA hs rfl)
theorem bu{b1 b2:Ss}(ht:a_ (ak O e .test en st)=some (true,st1))(h:aE O N b1 en st1=out):aX O N (.ite e b1 b2 p) en st=out:=aA ht h
theorem aI{b1 b2:Ss}(ht:a_ (ak O e .test en st)=some (false,st1))(h:aE O N b2 en st1=out):aX O N (.ite e b1 b2 p) en st=out:=aA ht h
theorem dB(he:ak O e .val en st=some (v,st1)):aX O N (.ret e p) en st=some (.ret v,en,st1):=aA he rfl
theorem eN(he:ak O e .val en st=some (.none,st1)):aX O N (.expr e p) en st=some (.bU,en,st1):=aA he rfl
theorem mO{i:Nat}(hx:cC en st i=some x)(he:ak O e .val en st=some (y,st1))(ha:tV op x y=some v)(hs:fC en st1 i v=some (en2,st2)):aX O N (.aug i op e q p) en st=some (.bU,en2,st2):=bind_eq hx (aA he (bind_eq ha (aA hs rfl)))
theorem uM{b1:Ss}(h:qz (fun en st=>a_ (ak O e .test en st)) (fun en st=>aE O N b1 en st) iB en st=out):aX O N (.yN e b1 p) en st=out:=h
theorem wY{body:En→ao→Option (Fl×En×ao)}{items:List V}(hr:∀i,v≠ .ref i)(hi:ig v=some items):E3 t body v en st=fk t body items en st:=by
 cases v with
 |ref i=>exact absurd rfl (hr i)
 |lst l=>cases hi;rfl
 |tup l=>cases hi;rfl
 |str l=>cases hi;rfl
 |_=>cases hi
theorem gP{b1:Ss}{items:List V}(he:ak O e .iter en st=some (v,st1))(hr:∀i,v≠ .ref i)(hi:ig v=some items)(h:fk t (fun en st=>aE O N b1 en st) items en st1=out):aX O N (.gB t e b1 p) en st=out:=aA he ((wY hr hi).trans h)
theorem IP{j:Nat}{k:Int}{ls:List V}(he:ak O e .val en st=some (v,st1))(ha:ak O a .val en st1=some (.ref j,st2))(hi:ak O b .val en st2=some (.int k,st3))(hl:st3.σ[j]? =some ls)(hc:v.data=true∧0≤k∧k<ls.length):
  aX O N (.sub a b e q p) en st=some (.bU,en,{ st3 with σ:=st3.σ.set j (ls.set k.toNat v) }):=aA he (aA ha (aA hi (bind_eq (bind_eq hl rfl) (if_pos hc))))
theorem tn{id i:Nat}{fr:List Nat}(hf:eL en (N id).sc=some fr)(hs:fC en st i (.jt id fr)=some (en2,st2)):aX O N (.defn id i p) en st=some (.bU,en2,st2):=bind_eq hf (aA hs rfl)
theorem aa{i:Nat}(h:cC en st i=some v):ak O (.var i p) md en st=some (v,st):=bind_eq h rfl
theorem aq{w:V×ao}(ha:ak O a .val en st=some (x,st1))(hb:ak O b .val en st1=some (y,st2))(h:d_ st2 op (aJ st2 x) (aJ st2 y)=some w):ak O (.bin op a b p) md en st=some w:=aA ha (aA hb h)
theorem uN{i:Int}(ha:ak O a .val en st=some (.int i,st1)):ak O (.un .USub a p) md en st=some (.int (-i),st1):=aA ha rfl
theorem BL{i:Int}(ha:ak O a .val en st=some (.int i,st1)):ak O (.un .Invert a p) md en st=some (.int (OD i),st1):=aA ha rfl
theorem e_idx(ha:ak O a .val en st=some (x,st1))(hb:ak O b .val en st1=some (y,st2))(h:lZ (aJ st2 x) y=some v):ak O (.idx a b p) md en st=some (v,st2):=aA ha (aA hb (bind_eq h rfl))
theorem gi{k:Nat}(h:b8 O l en st=some (vs,st1)):ak O (.tup l k p) md en st=some (.tup vs,st1):=aA h rfl
theorem aD{w:V×ao}(hf:ak O f .val en st=some (v,st1))(ha:b8 O l en st1=some (args,st2))(h:fM O md v args none st2=some w):ak O (.call f l .bH q p) md en st=some w:=aA hf (aA ha h)
theorem ow{w:V×ao}{ke:E}{k:V}(hn:dS ke=false)(hf:ak O f .val en st=some (v,st1))(ha:b8 O l en st1=some (args,st2))(hk:ak O ke .val en st2=some (k,st3))(h:fM O md v args (some k) st3=some w):
  ak O (.call f l ke q p) md en st=some w:=aA hf (aA ha (by rw[hn];exact aA hk h))
theorem c9{m:Mt}{w:V×ao}(ha:ak O a .val en st=some (x,st1))(hl:b8 O l en st1=some (args,st2))(h:eG st2 m x args=some w):ak O (.d8 a m l q p) md en st=some w:=aA ha (aA hl h)
theorem ya(hm:md≠ .test):md.jI=false:=by cases md<;>first|exact absurd rfl hm|rfl
theorem jl(hm:md≠ .test)(ht:a_ (ak O c .test en st)=some (true,st1))(h:ak O a .val en st1=some (v,st2)):ak O (.qv c a b p) md en st=some (v,st2):=by
 show cond md.jI _ _=_;rw[ya hm];exact aA ht h
theorem jm(hm:md≠ .test)(ht:a_ (ak O c .test en st)=some (false,st1))(h:ak O b .val en st1=some (v,st2)):ak O (.qv c a b p) md en st=some (v,st2):=by
 show cond md.jI _ _=_;rw[ya hm];exact aA ht h
theorem aj:b8 O .nil en st=some ([],st):=rfl
theorem ae(he:ak O e .val en st=some (v,st1))(hl:b8 O l en st1=some (vs,st2)):b8 O (.cons e l) en st=some (v::vs,st2):=aA he (aA hl rfl)
theorem jy(ha:ak O a .val en st=some (x,st1))(hb:ak O b .val en st1=some (y,st2))(h:iU cop (aJ st2 x) (aJ st2 y)=some bb):ak O (.cmp cop a b p) md en st=some (.bool bb,st2):=aA ha (aA hb (bind_eq h rfl))
theorem aW(ha:ak O a .val en st=some (x,st1))(hb:ak O b .val en st1=some (y,st2))(h:iU cop (aJ st2 x) (aJ st2 y)=some bb):a_ (ak O (.cmp cop a b p) .test en st)=some (bb,st2):=aA (jy ha hb h) rfl
theorem lC(he:ak O e .test en st=some (v,st1))(h:oh (aJ st1 v)=some bb):a_ (ak O e .test en st)=some (bb,st1):=aA he (bind_eq h rfl)
theorem EF(h:a_ (ak O a .test en st)=some (bb,st1)):a_ (ak O (.un .Not a p) .test en st)=some (!bb,st1):=aA (a:=.bool (!bb)) (b:=st1) (aA h rfl) rfl
theorem yb{ls:List V}(h:tU O v args=some ls):fM O .iter v args none st=some (.lst ls,st):=by show RX _ _ _=_;rw[h];rfl
theorem bg{w:V×ao}{k:Option V}{g:Nat}(h:O.call (.fn g) args k st=some w)(hm:md= .val):fM O md (.fn g) args k st=some w:=by subst hm;exact h
theorem nC{w:V×ao}{k:Option V}{g:Nat}{γ:List Nat}(h:O.call (.jt g γ) args k st=some w):fM O md (.jt g γ) args k st=some w:=by
 unfold fM;cases md.Aa&&k.isNone<;>exact h
theorem tq{ls:List V}{g:Nat}(h:O.gen (.fn g) args=some ls):fM O .iter (.fn g) args none st=some (.lst ls,st):=yb h
theorem fg{bi:BI}(h:xF bi (args.map (aJ st))=some v)(hm:md= .val):fM O md (.bi bi) args none st=some (v,st):=by subst hm;show Option.map _ _=_;rw[h];rfl
theorem eE{bi:BI}{ls:List V}(h:tU O (.bi bi) args=some ls):fM O .iter (.bi bi) args none st=some (.lst ls,st):=yb h
end
theorem call_top{P:Pg}{n g:Nat}{args vals:List V}{key:Option V}{st st':ao}{fl:Fl}{en':En}(hg:P.jv g=false)(hb:gh (P.F g) args key=some vals)
  (h:aE ⟨aO P n,P.gen⟩ P.N (P.F g).body ⟨(aV (P.F g).sc (vals.map some) [] st.κ).1,st.κ.length⟩ { st with κ:=(aV (P.F g).sc (vals.map some) [] st.κ).2 }=some (fl,en',st')) (ho:oK (CE fl)=true):
  aO P (n+1) (.fn g) args key st=some (freeze st.σ.length st' (CE fl),{ κ:=st.κ,σ:=st'.σ.take st.σ.length }):=by
 show cond (P.jv g) _ _=_;rw[hg];exact bind_eq hb (fT h (if_pos ho))
theorem mP{P:Pg}{n i:Nat}{γ:List Nat}{args:List V}{st st':ao}{fl:Fl}{en':En}(hl:args.length=(P.N i).np)
  (h:aE ⟨aO P n,P.gen⟩ P.N (P.N i).body ⟨(aV (P.N i).sc (args.map some) γ st.κ).1,st.κ.length⟩ { st with κ:=(aV (P.N i).sc (args.map some) γ st.κ).2 }=some (fl,en',st')) (ho:oK (CE fl)=true):
  aO P (n+1) (.jt i γ) args none st=some (freeze st.σ.length st' (CE fl),{ κ:=st.κ,σ:=st'.σ.take st.σ.length }):=(if_pos hl).trans (fT h (if_pos ho))
end Rk
end

section
set_option exponentiation.threshold 100
namespace Rk
open PySem
theorem uO(a b:Nat):QG (a:Int) (b:Int)=((a &&& b:Nat):Int):=by
 unfold QG
 rw[decide_eq_true (Nx a),decide_eq_true (Nx b)]
 rfl
theorem pW(a:Nat):OD (a:Int)=TL a:=by
 unfold OD;lia
theorem uP(a:Nat):OD (TL a)=(a:Int):=by
 unfold OD;lia
theorem yc(a b:Nat):R_ (a:Int) (b:Int)=((a ||| b:Nat):Int):=by
 unfold R_
 rw[pW,pW]
 unfold QG
 rw[decide_eq_false (show¬(0:Int)≤TL a by lia),decide_eq_false (show¬(0:Int)≤TL b by lia)]
 simp only[uP]
 rw[NQ,NQ]
 have:=uP (a ||| b)
 rw[←pW]at this
 exact this
theorem uQ(x k y:Nat)(h:y<2^k):(x*2^k) ||| y=x*2^k+y:=by
 rw[NL];exact(Nat.two_pow_add_eq_or_of_lt h x).symm
theorem zN(a s:Nat):Rz (a:Int) ((a/2^s*2^s:Nat):Int)=((a%2^s:Nat):Int):=by
 unfold Rz
 rw[yc,uO]
 have hlt:a%2^s<2^s:=O2 _ (NO s)
 have e:a=(a/2^s*2^s) ||| (a%2^s):=by
  rw[uQ _ _ _ hlt,NL];exact(Ox a (2^s)).symm
 have e1:a ||| (a/2^s*2^s)=a:=by
  generalize a/2^s*2^s=u at*
  generalize a%2^s=w at*
  subst e
  apply TM;intro i;simp only[VE];cases u.testBit i<;>cases w.testBit i<;>rfl
 have e2:a &&& (a/2^s*2^s)=a/2^s*2^s:=by
  generalize a/2^s*2^s=u at*
  generalize a%2^s=w at*
  subst e
  apply TM;intro i;simp only[VE,Nat.testBit_and];cases u.testBit i<;>cases w.testBit i<;>rfl
 rw[e1,e2]
 have:=Ox a (2^s)
 rw[NL]at this
 lia
theorem mQ{a k:Nat}(h:a<2^k)(hk:k≤200000):gC (a:Int)=true:=by
 unfold gC
 exact decide_eq_true (Nm (by simpa using h) (NC (by decide) hk))
section
variable {st:ao}
theorem nU(a b:Nat):d_ st .Add (.int a) (.int b)=some (.int ((a+b:Nat):Int),st):=by
 show some (V.int _,st)=_;rw[Py]
theorem nV{a b:Nat}(h:b≤a):d_ st .Sub (.int a) (.int b)=some (.int ((a-b:Nat):Int),st):=by
 show some (V.int _,st)=_;rw[VU h]
theorem bm(a b:Int):d_ st .Mult (.int a) (.int b)=if gC a&&gC b then some (.int (a*b),st)else none:=by
 show(Vi (some b) fun b=>if gC a&&gC b then some (V.int (a*b),st)else none)=_
 rw[Va]
theorem BN{a b ka kb:Nat}(ha:a<2^ka)(hb:b<2^kb)(h1:ka≤200000)(h2:kb≤200000):d_ st .Mult (.int a) (.int b)=some (.int ((a*b:Nat):Int),st):=by
 rw[bm,mQ ha h1,mQ hb h2,Tc];rfl
theorem nW{a n k:Nat}(ha:a<2^k)(h1:k≤200000)(hn:n≤100000):d_ st .LShift (.int a) (.int n)=some (.int ((a*2^n:Nat):Int),st):=by
 show(if 0≤(n:Int)∧(n:Int).toNat≤100000∧gC (a:Int)=true then some (V.int ((a:Int)*2^(n:Int).toNat),st)else none)=_
 rw[if_pos ⟨Nx n,by simpa using hn,mQ ha h1⟩]
 simp
theorem mR{a n:Nat}(hn:n≤100000):d_ st .RShift (.int a) (.int n)=some (.int ((a/2^n:Nat):Int),st):=by
 show(if 0≤(n:Int)∧(n:Int).toNat≤100000 then some (V.int ((a:Int).fdiv (2^(n:Int).toNat)),st)else none)=_
 rw[if_pos ⟨Nx n,by simpa using hn⟩,NQ]
 congr 3
 rw[Qk _ (by exact_mod_cast NG (2^n))]
 simp
theorem yd(a k:Nat):d_ st .BitAnd (.int a) (.int ((2^k-1:Nat):Int))=some (.int ((a%2^k:Nat):Int),st):=by
 show some (V.int (QG _ _),st)=_
 rw[uO,Nat.and_two_pow_sub_one_eq_mod]
theorem IQ{x k y:Nat}(h:y<2^k):d_ st .BitOr (.int ((x*2^k:Nat):Int)) (.int y)=some (.int ((x*2^k+y:Nat):Int),st):=by
 show some (V.int (R_ _ _),st)=_
 rw[yc,uQ _ _ _ h]
theorem IS(a s:Nat):d_ st .BitXor (.int a) (.int ((a/2^s*2^s:Nat):Int))=some (.int ((a%2^s:Nat):Int),st):=by
 show some (V.int (Rz _ _),st)=_
 rw[zN]
theorem EG{a n k:Nat}(ha:a<2^k)(h1:k≤200000)(hn:n≤100000):tV .LShift (.int a) (.int n)=some (.int ((a*2^n:Nat):Int)):=by
 show(if 0≤(n:Int)∧(n:Int).toNat≤100000∧gC a=true then some (V.int (a*2^(n:Int).toNat))else none)=_
 rw[if_pos ⟨Nx n,by simpa using hn,mQ ha h1⟩]
 simp
theorem IT{a n:Nat}(hn:n≤100000):tV .RShift (.int a) (.int n)=some (.int ((a/2^n:Nat):Int)):=by
 show(if 0≤(n:Int)∧(n:Int).toNat≤100000 then some (V.int ((a:Int).fdiv (2^(n:Int).toNat)))else none)=_
 rw[if_pos ⟨Nx n,by simpa using hn⟩,NQ]
 congr 2
 rw[Qk _ (by exact_mod_cast NG (2^n))]
 simp
theorem zO(a b:Int):iU .Eq (.int a) (.int b)=some (decide (a=b)):=rfl
end
theorem uR{test:En→ao→Option (Bool×ao)}{body:En→ao→Option (Fl×En×ao)}{n:Nat}{en en2:En}{st st1 st2:ao}{out:Option (Fl×En×ao)}(ht:test en st=some (true,st1))(hb:body en st1=some (.bU,en2,st2))(h:qz test body n en2 st2=out):qz test body (n+1) en st=out:=aA ht (fT hb h)
theorem uS{test:En→ao→Option (Bool×ao)}{body:En→ao→Option (Fl×En×ao)}{n:Nat}{en:En}{st st1:ao}(ht:test en st=some (false,st1)):qz test body (n+1) en st=some (.bU,en,st1):=aA ht rfl
theorem bits_le{a k:Nat}(h:a<2^k):M1 (a:Int)≤k:=by
 unfold M1
 split
 ·exact NG _
 ·rename_i h0
  have h1:a≠0:=by intro q;subst q;simp at h0
  rw[Ny]
  exact(Tt h1).mpr h
theorem kO{a:Nat}:a<2^M1 (a:Int):=by
 unfold M1
 split
 ·rename_i h0
  have:a=0:=by simpa using h0
  subst this;decide
 ·rw[Ny];exact Nat.lt_log2_self
theorem ye{a:Nat}(h:0<a):2^(M1 (a:Int)-1)≤a∧0<M1 (a:Int):=by
 unfold M1
 split
 ·rename_i h0
  have:a=0:=by simpa using h0
  lia
 ·rw[Ny]
  exact⟨Nat.log2_self_le (by lia),OP _⟩
end Rk
end

section
set_option exponentiation.threshold 100
namespace Rk.L01
open PySem Rk
noncomputable def sF:Ss→S
 |.cons s _=>s
 |.nil=>.qw default
noncomputable def tl:Ss→Ss
 |.cons _ r=>r
 |.nil=>.nil
theorem mS(a b:Nat):((a:Int).fdiv (b:Int))=((a/b:Nat):Int):=by
 rw[Qk _ (Nx b),Vb]
theorem uT(a b:Nat):((a:Int).fmod (b:Int))=((a%b:Nat):Int):=by
 rw[Int.fmod_eq_emod_of_nonneg _ (Nx b),Vc]
theorem rK{a b n k:Nat}{st:ao}(h:a<2^(n+4000))(hb:0<b)(hb2:b<2^9000):aO av.P (k+1) (.fn 0) [.int a,.int b,.int n] none st=some (.tup [.int ((a/b:Nat):Int),.int ((a%b:Nat):Int)],st):=by
 have h1:(M1 (a:Int):Int)-(n:Int)≤4000:=by have:=bits_le h;lia
 have h2:¬((b:Int)=0∨9000≤(b:Int).natAbs.log2):=by
  rw[Ny]
  have:=(Tt (by lia:b≠0)).mpr hb2
  lia
 rw[←mS,←uT]
 refine Oj (call_top (vals:=[.int a,.int b,.int n]) (fl:=.ret (.tup [.int ((a:Int).fdiv b),.int ((a:Int).fmod b)])) (st':=st) (by rfl) (by rfl)
  (bS (bu (aW (aq (c9 (aa (by rfl)) aj (by rfl)) (aa (by rfl)) (by rfl)) (aa (by rfl)) (by exact congrArg some (decide_eq_true h1)))
   (bS (dB (aD (aa (by rfl)) (ae (aa (by rfl)) (ae (aa (by rfl)) aj)) (fg (by exact if_neg h2) (by rfl))))))) (by rfl)) ?_
 simp[eZ,fF,bW,bX,bY,bZ,b6,b7,bP,eV,eY]
noncomputable def bV(a12 a3 b b1 b2 h:Nat)(q r:Option V)(kb:Nat):En:=⟨[.loc (some (.int a12)),.loc (some (.int a3)),.loc (some (.int b)),.loc (some (.int b1)),.loc (some (.int b2)),.loc (some (.int h)),.loc q,.loc r,.cY (.fn 0)],kb⟩
theorem zP{O:cQ}{N:Nat→Nf}{a12 a3 b b1 b2 h q0 r0 kb:Nat}{st:ao}(hb:b=b1*2^h+b2)(ha3:a3<2^h)(hb1:2^h≤2*b1)(hb1':b1<2^h)(hb2:b2<2^h)(hq:q0<2^h)(hr0:r0<2^(2*h))(e0:q0*b1+r0=a12)(hr:r0*2^h+a3<b+q0*b2)(hh:h≤4000):
  ∃en',aE O N (tl av.Kh) (bV a12 a3 b b1 b2 h (some (.int q0)) (some (.int r0)) kb) st=some (.ret (.tup [.int (((a12*2^h+a3)/b:Nat):Int),.int (((a12*2^h+a3)%b:Nat):Int)]),en',st):=by
 have hB:0<b:=by
  have:=NO h
  have:0<b1:=by lia
  have:=TN this (NO h)
  lia
 have t:∀q r:Int,a_ (ak O (.cmp .Lt (.var 7 ⟨78,10,78,11⟩) (.cI 0 0 ⟨78,14,78,15⟩) ⟨78,10,78,15⟩) .test (bV a12 a3 b b1 b2 h (some (.int q)) (some (.int r)) kb) st)=some (decide (r<0),st):=fun q r=>
  aW (aa (by rfl)) (by rfl) (by rfl)
 have bd:∀q r:Int,aE O N (Ss.ofList [.aug 6 .Sub (.cI 1 0 ⟨79,13,79,14⟩) ⟨79,8,79,9⟩ ⟨79,8,79,14⟩,.aug 7 .Add (.var 2 ⟨80,13,80,14⟩) ⟨80,8,80,9⟩ ⟨80,8,80,14⟩]) (bV a12 a3 b b1 b2 h (some (.int q)) (some (.int r)) kb) st=some (.bU,bV a12 a3 b b1 b2 h (some (.int (q-1))) (some (.int (r+(b:Int)))) kb,st):=fun q r=>
  ai (mO (by rfl) (by rfl) (by rfl) (by rfl)) (aG (mO (by rfl) (aa (by rfl)) (by rfl) (by rfl)))
 have L:∀q r:Int,-(2*(b:Int))≤r→r<b→ ∃q' r',qz (fun en st=>a_ (ak O (.cmp .Lt (.var 7 ⟨78,10,78,11⟩) (.cI 0 0 ⟨78,14,78,15⟩) ⟨78,10,78,15⟩) .test en st)) (fun en st=>aE O N (Ss.ofList [.aug 6 .Sub (.cI 1 0 ⟨79,13,79,14⟩) ⟨79,8,79,9⟩ ⟨79,8,79,14⟩,.aug 7 .Add (.var 2 ⟨80,13,80,14⟩) ⟨80,8,80,9⟩ ⟨80,8,80,14⟩]) en st)
   iB (bV a12 a3 b b1 b2 h (some (.int q)) (some (.int r)) kb) st=some (.bU,bV a12 a3 b b1 b2 h (some (.int q')) (some (.int r')) kb,st)∧0≤r'∧r'<b∧q'*b+r'=q*b+r:=by
  intro q r h1 h2
  show∃q' r',qz _ _ (97+1+1+1) _ _=_∧_
  by_cases c1:r<0
  ·by_cases c2:r+b<0
   ·refine⟨q-1-1,r+b+b,uR ((t q r).trans (by rw[decide_eq_true c1])) (bd q r) (uR ((t _ _).trans (by rw[decide_eq_true c2])) (bd _ _) (uS ((t _ _).trans (by rw[decide_eq_false (by lia)])))),by lia,by lia,?_⟩
    rw[Vk,Vk];lia
   ·refine⟨q-1,r+b,uR ((t q r).trans (by rw[decide_eq_true c1])) (bd q r) (uS ((t _ _).trans (by rw[decide_eq_false c2]))),by lia,by lia,?_⟩
    rw[Vk];lia
  ·exact⟨q,r,uS ((t q r).trans (by rw[decide_eq_false c1])),by lia,h2,rfl⟩
 refine bc fun hN0=>?_
 have hqb:q0*b2<2*b:=by
  have h1:q0*b2≤2^h*b2:=NV _ (NH hq)
  have h2:2^h*b2≤2^h*2^h:=OT _ (NH hb2)
  have h3:2^h*2^h≤2*b1*2^h:=NV _ hb1
  have h4:0<b1*2^h:=TN (by have:=NO h;lia) (NO h)
  have h5:2*b1*2^h=2*(b1*2^h):=O3 ..
  by_cases h6:b2=0
  ·clear hb ha3 hb1 hb1' hb2 hq hr0 e0 hr hh h1 h2 h3 h4 h5
   clear hN0
   subst h6;simp;exact hB
  ·lia
 obtain⟨q',r',hw,p1,p2,p3⟩:=L q0 (((r0*2^h+a3:Nat):Int)-((q0*b2:Nat):Int)) (by lia) (by lia)
 refine hN0 ?_
 have hA:q'*b+r'=((a12*2^h+a3:Nat):Int):=by
  rw[p3,hb,←e0]
  simp only[Py,Tc]
  grind
 have hq':q'=(((a12*2^h+a3)/b:Nat):Int):=by
  rw[Vb,←hA]
  rw[UW,Int.add_mul_ediv_right _ _ (by lia),Int.ediv_eq_zero_of_lt p1 p2];lia
 have hr':r'=(((a12*2^h+a3)%b:Nat):Int):=by
  rw[Vc,←hA]
  rw[UW,Int.add_mul_emod_self_right,Int.emod_eq_of_lt p1 p2]
 rw[←hq',←hr']
 refine⟨_,ai (bV:=bV a12 a3 b b1 b2 h (some (.int q0)) (some (.int (((r0*2^h+a3:Nat):Int)-((q0*b2:Nat):Int)))) kb) (ff (aq (aq (aq (aa (by rfl)) (aa (by rfl)) (by exact nW hr0 (by lia) (by lia))) (aa (by rfl)) (by exact IQ ha3)) (aq (aa (by rfl)) (aa (by rfl)) (by exact BN hq hb2 (by lia) (by lia))) (by rfl)) (by rfl))
  (ai (uM (by exact hw)) (bS (dB (gi (ae (aa (by rfl)) (ae (aa (by rfl)) aj))))))⟩
theorem IU{a12 a3 b b1 b2 h k:Nat}{st:ao}(hb:b=b1*2^h+b2)(hb2:b2<2^h)(ha3:a3<2^h)(hb1':b1<2^h)(hb1:2^h≤2*b1)(hA:a12*2^h+a3<b*2^h)(hh:h≤4000):
  aO av.P (k+2) (.fn 1) [.int a12,.int a3,.int b,.int b1,.int b2,.int h] none st=some (.tup [.int (((a12*2^h+a3)/b:Nat):Int),.int (((a12*2^h+a3)%b:Nat):Int)],st):=by
 have h2p:=NO h
 have h1:1≤h:=by
  clear hb hb2 ha3 hA hh h2p
  cases h with
  |zero=>simp at hb1 hb1';lia
  |succ h=>lia
 have h2:2*2^h≤2^(2*h):=by
  rw[TP h,Ow]
  have:2^1≤2^h:=NC (by decide) h1
  exact NV _ this
 have ha12:a12<b:=by
  have:a12*2^h<b*2^h:=by lia
  exact Nat.lt_of_mul_lt_mul_right this
 have hb2h:b<2^(2*h):=by
  rw[TP h,Ow,hb]
  have:(b1+1)*2^h≤2^h*2^h:=NV _ hb1'
  rw[OV]at this;lia
 have hle:a12/2^h≤b1:=by
  have e:b/2^h=b1:=by
   rw[hb,N6,Q0 _ _ h2p,Q9 hb2,PX]
  rw[←e];exact TQ (NH ha12)
 have key:∃q0 r0:Nat,q0<2^h∧r0<2^(2*h)∧q0*b1+r0=a12∧r0*2^h+a3<b+q0*b2∧
   aX ⟨aO av.P (k+1),av.P.gen⟩ av.P.N (sF av.Kh) (bV a12 a3 b b1 b2 h none none st.κ.length) st=some (.bU,bV a12 a3 b b1 b2 h (some (.int q0)) (some (.int r0)) st.κ.length,st):=by
  by_cases hc:a12/2^h=b1
  ·have hge:b1*2^h≤a12:=by rw[←hc];exact Nat.div_mul_le_self _ _
   have hlt:a12<(b1+1)*2^h:=by rw[←hc];exact TR (OY _) h2p
   rw[OV]at hlt
   refine⟨1*2^h-1,a12-b1*2^h+b1,by lia,by lia,?_,?_,?_⟩
   ·rw[Rg,Vl,Rg,NL]
    have:b1≤b1*2^h:=O8 _ h2p
    lia
   ·rw[Rg,Vl,Rg,OV,Vl,hb]
    rw[hb,OV]at hA
    have x1:b2≤2^h*b2:=SQ _ h2p
    have x2:b1*2^h*2^h≤a12*2^h:=NV _ hge
    have x3:b2*2^h=2^h*b2:=NL ..
    lia
   ·refine bu (aW (aq (aa (by rfl)) (aa (by rfl)) (by exact mR (by lia))) (aa (by rfl)) (by exact(zO _ _).trans (by rw[hc,decide_eq_true rfl])))
     (aG (rJ (ae (aq (aq (by rfl) (aa (by rfl)) (by exact nW (a:=1) (k:=1) (by decide) (by decide) (by lia))) (by rfl) (by exact nV (b:=1) (by lia)))
      (ae (aq (aq (aa (by rfl)) (aq (aa (by rfl)) (aa (by rfl)) (by exact nW hb1' (by lia) (by lia))) (by exact nV hge)) (aa (by rfl)) (by exact nU _ _)) aj)) (by rfl)))
  ·have hlt:a12/2^h<b1:=Nat.lt_of_le_of_ne hle hc
   have hlt2:a12<b1*2^h:=TR hlt h2p
   have hb1p:0<b1:=by lia
   have hm:=O2 a12 hb1p
   have hd:=Ox a12 b1
   refine⟨a12/b1,a12%b1,Ol hlt2,by lia,by rw[NL];exact hd,?_,?_⟩
   ·have:(a12%b1+1)*2^h≤b1*2^h:=NV _ hm
    rw[OV]at this
    lia
   ·have hcall:=rK (a:=a12) (b:=b1) (n:=h) (k:=k) (st:=st) (Nm (QN ha12 hb2h) (NC (by decide) (by lia))) hb1p (Nm hb1' (NC (by decide) (by lia)))
    refine aI (aW (aq (aa (by rfl)) (aa (by rfl)) (by exact mR (by lia))) (aa (by rfl)) (by exact(zO _ _).trans (by rw[decide_eq_false (by lia)])))
     (aG (ff (aD (aa (by rfl)) (ae (aa (by rfl)) (ae (aa (by rfl)) (ae (aa (by rfl)) aj))) (by exact bg hcall rfl)) (by rfl)))
 refine bc fun hN0=>?_
 obtain⟨q0,r0,k1,k2,k3,k4,k5⟩:=key
 obtain⟨en',hrest⟩:=zP (O:=⟨aO av.P (k+1),av.P.gen⟩) (N:=av.P.N) (kb:=st.κ.length) (st:=st) hb ha3 hb1 hb1' hb2 k1 k2 k3 k4 hh
 refine hN0 ?_
 refine Oj (call_top (vals:=[.int a12,.int a3,.int b,.int b1,.int b2,.int h]) (st':=st) (by rfl) (by rfl) (ai k5 hrest) (by rfl)) ?_
 simp[eZ,fF,bW,bX,bY,bZ,b6,b7,bP,eV,eY]
noncomputable def LV(a b n pad:Nat)(kb:Nat):En:=⟨[.loc (some (.int a)),.loc (some (.int b)),.loc (some (.int n)),.loc (some (.int pad)),.loc none,.loc none,.loc none,.loc none,.loc none,.loc none,.loc none,.cY (.int 4000),.cY (.bi .divmod),.cY (.fn 1)],kb⟩
theorem rL{a b h pad k kb:Nat}{st:ao}(hh:h≤4000)(h0:0<h)(hb:2^(2*h)≤2*b)(hb':b<2^(2*h))(ha:a<b*2^(2*h))(hp:pad=0∨pad=1):
  ∃en',aE ⟨aO av.P (k+2),av.P.gen⟩ av.P.N (tl (tl (tl av.HA))) (LV a b (2*h) pad kb) st=some (.ret (.tup [.int ((a/b:Nat):Int),.int ((a%b/2^pad:Nat):Int)]),en',st):=by
 have h2p:=NO h
 have e2:2^(2*h)=2^h*2^h:=by rw[TP,Ow]
 have hbp:0<b:=by have:=NO (2*h);lia
 have hsp:b=b/2^h*2^h+b%2^h:=by rw[NL];exact(Ox b (2^h)).symm
 have hb1:b/2^h<2^h:=Ol (by rw[←e2];exact hb')
 have hb2:b%2^h<2^h:=O2 _ h2p
 have hb1l:2^h≤2*(b/2^h):=by
  obtain⟨g,rfl⟩:∃g,h=g+1:=⟨h-1,by lia⟩
  have:2^g≤b/2^(g+1):=by
   rw[Nat.le_div_iff_mul_le h2p,←Ow]
   have e3:2^(2*(g+1))=2*2^(g+(g+1)):=by rw[←VV];congr 1;lia
   lia
  calc 2^(g+1)=2*2^g:=by rw[Qs,NL]
   _≤2*(b/2^(g+1)):=OT _ this
 have e4:a/2^(2*h)*2^h+a/2^h%2^h=a/2^h:=by
  rw[e2,←SR,NL];exact Ox _ _
 have hT:a/2^h<b*2^h:=Ol (by rw[NL (2^h),O3,←e2];exact ha)
 have d1:=IU (k:=k) (st:=st) (a12:=a/2^(2*h)) (a3:=a/2^h%2^h) hsp hb2 (O2 _ h2p) hb1 hb1l (by rw[e4];exact hT) hh
 rw[e4]at d1
 have hr:=O2 (a/2^h) hbp
 have hA2:a/2^h%b*2^h+a%2^h<b*2^h:=by
  have:(a/2^h%b+1)*2^h≤b*2^h:=NV _ hr
  have:=O2 a h2p
  rw[OV]at*;lia
 have d2:=IU (k:=k) (st:=st) (a12:=a/2^h%b) (a3:=a%2^h) hsp hb2 (O2 _ h2p) hb1 hb1l hA2 hh
 have hq2:(a/2^h%b*2^h+a%2^h)/b<2^h:=Ol hA2
 have hq1:a/2^h/b<2^h:=Ol hT
 have tot:a=a/2^h/b*2^h*b+(a/2^h%b*2^h+a%2^h):=by
  have x1:=Ox (a/2^h) b
  have x2:=Ox a (2^h)
  generalize a/2^h/b=q at*
  generalize a/2^h%b=r at*
  generalize a%2^h=w at*
  rw[←x1]at x2
  rw[←x2];grind
 have hdiv:a/b=a/2^h/b*2^h+(a/2^h%b*2^h+a%2^h)/b:=by
  conv=>lhs;rw[tot]
  rw[N6,Q0 _ _ hbp,N6]
 have hmod:a%b=(a/2^h%b*2^h+a%2^h)%b:=by
  conv=>lhs;rw[tot]
  rw[N6,RH]
 have hhalf:2*h/2^1=h:=by lia
 rw[hdiv,hmod]
 generalize hR:(a/2^h%b*2^h+a%2^h)%b=R at*
 generalize hQ:(a/2^h%b*2^h+a%2^h)/b=Q at*
 have m1:d_ st .Sub (.int ((1*2^h:Nat):Int)) (.int ((1:Nat):Int))=some (.int ((2^h-1:Nat):Int),st):=by
  rw[Rg];exact nV h2p
 have s4:d_ st .RShift (.int ((2*h:Nat):Int)) (.int ((1:Nat):Int))=some (.int (h:Int),st):=by
  have:=mR (a:=2*h) (n:=1) (st:=st) (by decide)
  rw[hhalf]at this;exact this
 have body:∀{o:Option (Fl×En×ao)},(∀en,en=(⟨[.loc (some (.int a)),.loc (some (.int b)),.loc (some (.int ((2*h:Nat):Int))),.loc (some (.int pad)),.loc (some (.int h)),.loc (some (.int ((2^h-1:Nat):Int))),.loc (some (.int ((b/2^h:Nat):Int))),.loc (some (.int ((b%2^h:Nat):Int))),.loc (some (.int ((a/2^h/b:Nat):Int))),.loc (some (.int (R:Int))),.loc (some (.int (Q:Int))),.cY (.int 4000),.cY (.bi .divmod),.cY (.fn 1)],kb⟩:En)→
   aE ⟨aO av.P (k+2),av.P.gen⟩ av.P.N (tl (tl (tl (tl (tl (tl (tl (tl av.HA)))))))) en st=o)→aE ⟨aO av.P (k+2),av.P.gen⟩ av.P.N (tl (tl (tl av.HA))) (LV a b (2*h) pad kb) st=o:=by
  intro o hlast
  refine ai (ff (aq (aa (by rfl)) (by rfl) (by exact s4)) (by rfl)) ?_
  refine ai (ff (aq (aq (by rfl) (aa (by rfl)) (by exact nW (a:=1) (k:=1) (by decide) (by decide) (by lia))) (by rfl) (by exact m1)) (by rfl)) ?_
  refine ai (rJ (ae (aq (aa (by rfl)) (aa (by rfl)) (by exact mR (by lia))) (ae (aq (aa (by rfl)) (aa (by rfl)) (by exact yd _ _)) aj)) (by rfl)) ?_
  refine ai (ff (aD (aa (by rfl)) (ae (aq (aa (by rfl)) (aa (by rfl)) (by exact mR (by lia))) (ae (aq (aq (aa (by rfl)) (aa (by rfl)) (by exact mR (by lia))) (aa (by rfl)) (by exact yd _ _)) (ae (aa (by rfl)) (ae (aa (by rfl)) (ae (aa (by rfl)) (ae (aa (by rfl)) aj)))))) (by exact bg d1 rfl)) (by rfl)) ?_
  refine ai (ff (aD (aa (by rfl)) (ae (aa (by rfl)) (ae (aq (aa (by rfl)) (aa (by rfl)) (by exact yd _ _)) (ae (aa (by rfl)) (ae (aa (by rfl)) (ae (aa (by rfl)) (ae (aa (by rfl)) aj)))))) (by exact bg d2 rfl)) (by rfl)) ?_
  exact hlast _ rfl
 have ret:∀{en:En} {R':Nat} {O:cQ} {N:Nat→Nf},en=(⟨[.loc (some (.int a)),.loc (some (.int b)),.loc (some (.int ((2*h:Nat):Int))),.loc (some (.int pad)),.loc (some (.int h)),.loc (some (.int ((2^h-1:Nat):Int))),.loc (some (.int ((b/2^h:Nat):Int))),.loc (some (.int ((b%2^h:Nat):Int))),.loc (some (.int ((a/2^h/b:Nat):Int))),.loc (some (.int (R':Int))),.loc (some (.int (Q:Int))),.cY (.int 4000),.cY (.bi .divmod),.cY (.fn 1)],kb⟩:En)→
   aE O N (tl (tl (tl (tl (tl (tl (tl (tl (tl av.HA))))))))) en st=some (.ret (.tup [.int ((a/2^h/b*2^h+Q:Nat):Int),.int (R':Int)]),en,st):=by
  rintro en R' O N rfl
  exact bS (dB (gi (ae (aq (aq (aa (by rfl)) (aa (by rfl)) (by exact nW hq1 (by lia) (by lia))) (aa (by rfl)) (by exact IQ hq2)) (ae (aa (by rfl)) aj))))
 rcases hp with rfl|rfl
 ·rw[UX,Nat.div_one]
  apply UY
  apply body
  intro en hen
  rw[hen]
  exact ai (aI (lC (aa (by rfl)) (by rfl)) bK) (ret rfl)
 ·apply UY
  apply body
  intro en hen
  rw[hen]
  exact ai (bu (lC (aa (by rfl)) (by rfl)) (aG (mO (by rfl) (by rfl) (by exact IT (n:=1) (by decide)) (by rfl)))) (ret rfl)
theorem K5{a b n k:Nat}{st:ao}(hn:n≤7999)(hb:2^n≤2*b)(hb':b<2^n)(ha:a<b*2^n):
  aO av.P (k+3) (.fn 0) [.int a,.int b,.int n] none st=some (.tup [.int ((a/b:Nat):Int),.int ((a%b:Nat):Int)],st):=by
 have hbp:0<b:=by have:=NO n;lia
 by_cases hbase:(M1 (a:Int):Int)-(n:Int)≤4000
 ·have:M1 (a:Int)≤n+4000:=by lia
  exact rK (k:=k+2) (Nm kO (NC (by decide) this)) hbp (Nm hb' (NC (by decide) (by lia)))
 ·have hn0:0<n:=by
   cases n with
   |zero=>simp at hb';lia
   |succ n=>lia
  have ha2:a<2^(2*n):=by
   rw[TP,Ow];exact QN ha (Nat.mul_lt_mul_of_pos_right hb' (NO n))
  have s1:∀{O N},aX O N (sF av.HA) ⟨[.loc (some (.int a)),.loc (some (.int b)),.loc (some (.int n)),.loc none,.loc none,.loc none,.loc none,.loc none,.loc none,.loc none,.loc none,.cY (.int 4000),.cY (.bi .divmod),.cY (.fn 1)],st.κ.length⟩ st=
    some (.bU,⟨[.loc (some (.int a)),.loc (some (.int b)),.loc (some (.int n)),.loc none,.loc none,.loc none,.loc none,.loc none,.loc none,.loc none,.loc none,.cY (.int 4000),.cY (.bi .divmod),.cY (.fn 1)],st.κ.length⟩,st):=
   aI (aW (aq (c9 (aa (by rfl)) aj (by rfl)) (aa (by rfl)) (by rfl)) (aa (by rfl)) (by exact congrArg some (decide_eq_false hbase))) bK
  have hpad:d_ st .BitAnd (.int (n:Int)) (.int ((1:Nat):Int))=some (.int ((n%2:Nat):Int),st):=yd n 1
  rcases Nat.mod_two_eq_zero_or_one n with h2|h2
  ·rw[h2]at hpad
   obtain⟨h,rfl⟩:∃h,n=2*h:=⟨n/2,by lia⟩
   obtain⟨en',hr⟩:=rL (a:=a) (b:=b) (h:=h) (pad:=0) (k:=k) (kb:=st.κ.length) (st:=st) (by lia) (by lia) hb hb' ha (.inl rfl)
   rw[UX,Nat.div_one]at hr
   refine Oj (call_top (vals:=[.int a,.int b,.int ((2*h:Nat):Int)]) (st':=st) (by rfl) (by rfl) (ai s1 (ai (ff (aq (aa (by rfl)) (by rfl) (by exact hpad)) (by rfl)) (ai (aI (lC (aa (by rfl)) (by rfl)) bK) (by exact hr)))) (by rfl)) ?_
   simp[eZ,fF,bW,bX,bY,bZ,b6,b7,bP,eV,eY]
  ·rw[h2]at hpad
   obtain⟨h,hh⟩:∃h,n+1=2*h:=⟨(n+1)/2,by lia⟩
   have hb2:2^(2*h)≤2*(b*2):=by rw[←hh,Qs];lia
   have hb2':b*2<2^(2*h):=by rw[←hh,Qs];lia
   have ha':a*2<b*2*2^(2*h):=by
    rw[←hh,Qs,←O3]
    have:b*2^n*2=b*2*2^n:=by rw[O3,NL (2^n),O3]
    have hx:0<b*2^n:=TN hbp (NO n)
    lia
   obtain⟨en',hr⟩:=rL (a:=a*2) (b:=b*2) (h:=h) (pad:=1) (k:=k) (kb:=st.κ.length) (st:=st) (by lia) (by lia) hb2 hb2' ha' (.inr rfl)
   rw[Nat.mul_div_mul_right _ _ (by decide:0<2),Nat.mul_mod_mul_right,RY,Nat.mul_div_cancel _ (by decide:0<2)]at hr
   have l1:tV .LShift (.int (a:Int)) (.int ((1:Nat):Int))=some (.int ((a*2:Nat):Int)):=by
    have:=EG (a:=a) (n:=1) ha2 (by lia) (by decide)
    rw[RY]at this;exact this
   have l2:tV .LShift (.int (b:Int)) (.int ((1:Nat):Int))=some (.int ((b*2:Nat):Int)):=by
    have:=EG (a:=b) (n:=1) hb' (by lia) (by decide)
    rw[RY]at this;exact this
   have l3:tV .Add (.int (n:Int)) (.int ((1:Nat):Int))=some (.int ((2*h:Nat):Int)):=by
    rw[←hh];show some (V.int _)=_;rw[Py]
   refine Oj (call_top (vals:=[.int a,.int b,.int n]) (st':=st) (by rfl) (by rfl) (ai s1 (ai (ff (aq (aa (by rfl)) (by rfl) (by exact hpad)) (by rfl)) (ai (bu (lC (aa (by rfl)) (by rfl)) (ai (mO (by rfl) (by rfl) (by exact l1) (by rfl)) (ai (mO (by rfl) (by rfl) (by exact l2) (by rfl)) (aG (mO (by rfl) (by rfl) (by exact l3) (by rfl)))))) (by exact hr)))) (by rfl)) ?_
   simp[eZ,fF,bW,bX,bY,bZ,b6,b7,bP,eV,eY]
end Rk.L01
end

section
set_option exponentiation.threshold 100
namespace Rk.L01
open PySem Rk
noncomputable def val(n:Nat):List Nat→Nat
 |[]=>0
 |d::r=>d+2^n*val n r
theorem iJ(n:Nat):val n []=0:=rfl
theorem g_(n d:Nat)(r:List Nat):val n (d::r)=d+2^n*val n r:=rfl
theorem gQ(n:Nat):∀(a b:List Nat),val n (a++b)=val n a+2^(n*a.length)*val n b
 |[],b=>by simp[iJ,g_]
 |d::a,b=>by
  simp only[OX,iJ,g_,gQ n a b,NS,PV,QD,Ow]
  rw[P6,←O3,NL (2^n) (2^(n*a.length))]
theorem wZ(n:Nat):∀(l:List Nat),(∀d∈l,d<2^n)→val n l<2^(n*l.length)
 |[],_=>by simp[iJ,g_]
 |d::l,h=>by
  have h1:=h d (by simp)
  have h2:=wZ n l fun x hx=>h x (MY _ hx)
  simp only[iJ,g_,NS,PV,QD,Ow]
  have h3:2^n*(val n l+1)≤2^n*2^(n*l.length):=OT _ h2
  rw[PV,NL (2^n) (2^(n*l.length))]at h3
  lia
noncomputable def nats(l:List Nat):List V:=l.map fun(d:Nat)=>V.int (d:Int)
theorem iK(l:List Nat):(nats l).length=l.length:=Nq _
theorem ints_get{l:List Nat}{i d:Nat}(h:l[i]? =some d):(nats l)[i]? =some (.int (d:Int)):=by unfold nats;rw[Nr,h];rfl
theorem aK{en:En}{st:ao}{i k:Nat}{v:V}(h1:en.ρ[i]? =some (.fB k))(h2:st.κ[k]? =some (some v)):cC en st i=some v:=by
 unfold cC;rw[h1];simp only[h2];rfl
theorem BO{st:ao}{κ:List (Option V)}(v:V):aJ { κ:=κ,σ:=st.σ } v=aJ st v:=by cases v<;>rfl
theorem yf(st:ao):({ κ:=st.κ,σ:=st.σ.take st.σ.length }:ao)=st:=by rw[Of]
noncomputable def dg(l:List Nat)(L R:Nat):List Nat:=(l.drop L).take (R-L)
structure w5 (L R M m B:Nat):Prop where
 lo:L<M
 hi:M<R
 r1:R-M≤m
 r2:M-L≤m
 mB:M≤B
 rB:R≤B
 sp:R-L=(M-L)+(R-M)
theorem half{L R m B:Nat}(h1:R-L≤m+1)(h3:R≤B)(h2:L<R)(hone:¬L+1=R):w5 L R ((L+R)/2) m B:=by
 have a:L<(L+R)/2:=by lia
 have b:(L+R)/2<R:=by lia
 clear h2 hone
 generalize (L+R)/2=M at a b
 exact⟨a,b,by lia,by lia,M8 (NH b) h3,h3,by rw[N6];exact(SS (NH b) (NH a)).symm⟩
theorem w5.d1{L R M m B:Nat}(H:w5 L R M m B):M-L≤B:=M8 (Uq ..) H.mB
theorem w5.d2{L R M m B:Nat}(H:w5 L R M m B):R-M≤B:=M8 (Uq ..) H.rB
theorem w5.ne{L R M m B:Nat}(H:w5 L R M m B):¬((L:Int)+1=(R:Int)):=by have:=H.lo;have:=H.hi;clear H;lia
theorem Dv{n:Nat}(h:n≤100000):n<2^17:=OH h (by decide)
theorem qJ{l:List Nat}{L M R:Nat}(h1:L≤M)(h2:M≤R):dg l L R=dg l L M++dg l M R:=by
 unfold dg
 rw[show R-L=(M-L)+(R-M) by rw[N6];exact(SS h2 h1).symm,List.take_add,TG,OB h1]
theorem nX{l:List Nat}{L R:Nat}(h:R≤l.length):(dg l L R).length=R-L:=by
 unfold dg;rw[Pk,Qo];exact PZ (Rh h _)
theorem uU{l:List Nat}{L d:Nat}(h:l[L]? =some d):dg l L (L+1)=[d]:=by
 unfold dg
 rw[NZ]
 obtain⟨hl,rfl⟩:=MW.mp h
 rw[RQ hl];rfl
theorem uV{l:List Nat}{L R d:Nat}(h:d∈dg l L R):d∈l:=OI (O5 h)
section
variable {k n kd ki kn:Nat} {st:ao} {dv:V} {ds:List Nat}
theorem zQ(hd:st.κ[kd]? =some (some dv))(hn:st.κ[kn]? =some (some (.int (n:Int))))(hi:st.κ[ki]? =some (some (V.jt 1 [kd,ki,kn])))(hdv:aJ st dv= .lst (nats ds))
  (hlt:∀d∈ds,d<2^n) (hsz:n*ds.length≤100000) (hlen:ds.length≤100000) (hn1:n≤100000):∀(m L R:Nat),R-L≤m→L<R→R≤ds.length→aO av.P (k+m) (.jt 1 [kd,ki,kn]) [.int (L:Int),.int (R:Int)] none st=some (.int (val n (dg ds L R):Int),st):=by
 intro m
 induction m with
 |zero=>intro L R h1 h2 _;exact absurd h2 (Pn.mpr (SW.mp (Nat.le_zero.mp h1)))
 |succ m ih=>
  intro L R h1 h2 h3
  by_cases hone:L+1=R
  ·subst hone
   obtain⟨d,hd0⟩:∃d,ds[L]? =some d:=⟨_,M3 h3⟩
   rw[uU hd0]
   have hix:lZ (aJ st dv) (.int (L:Int))=some (.int (d:Int)):=by
    rw[hdv]
    show m9 (nats ds) (L:Int)=_
    unfold m9
    rw[if_pos (Nx L),NQ]
    exact ints_get hd0
   refine Oj (mP (st':=st) (fl:=.ret (.int (d:Int))) (by rfl) (bS (bu (aW (aq (aa (by rfl)) (by rfl) (by rfl)) (aa (by rfl)) (by exact(zO _ _).trans (by rw[decide_eq_true (by simp)])))
    (bS (dB (e_idx (aa (by exact aK rfl hd)) (aa (by rfl)) (by exact hix)))))) (by rfl)) ?_
   simp[eZ,fF,bW,bX,bY,bZ,b6,b7,bP,iJ,g_,yf]
  ·have H:=half h1 h3 h2 hone
   generalize hMd:(L+R)/2=M at*
   have i1:=ih M R H.r1 H.hi h3
   have i2:=ih L M H.r2 H.lo H.mB
   rw[qJ (NH H.lo) (NH H.hi),gQ,nX H.mB]
   have b1:d_ st .RShift (.int ((L+R:Nat):Int)) (.int ((1:Nat):Int))=some (.int (M:Int),st):=by
    have:=mR (a:=L+R) (n:=1) (st:=st) (by decide)
    rw[RY,hMd]at this;exact this
   have hLM:(M-L)*n≤100000:=M8 (NV _ H.d1) (by rw[NL];exact hsz)
   have hv:val n (dg ds M R)<2^100000:=by
    have:=wZ n (dg ds M R) fun d hd=>hlt d (uV hd)
    rw[nX h3]at this
    refine Nm this (NC (by decide) ?_)
    exact M8 (OT _ H.d2) hsz
   refine Oj (mP (st':=st) (fl:=.ret (.int ((val n (dg ds M R)*2^((M-L)*n)+val n (dg ds L M):Nat):Int))) (by rfl)
    (ai (aI (aW (aq (aa (by rfl)) (by rfl) (by rfl)) (aa (by rfl)) (by exact(zO _ _).trans (by rw[decide_eq_false H.ne]))) bK)
    (ai (ff (aq (aq (aa (by rfl)) (aa (by rfl)) (by exact nU _ _)) (by rfl) (by exact b1)) (by rfl))
    (ai (ff (aq (aq (aa (by rfl)) (aa (by rfl)) (by exact nV (NH H.lo))) (aa (by exact aK rfl hn)) (by exact BN (ka:=17) (kb:=17) (Dv (M8 H.d1 hlen)) (Dv hn1) (by decide) (by decide))) (by rfl))
    (bS (dB (aq (aq (aD (aa (by exact aK rfl hi)) (ae (aa (by rfl)) (ae (aa (by rfl)) aj)) (by exact nC i1)) (aa (by rfl)) (by exact nW hv (by decide) hLM))
     (aD (aa (by exact aK rfl hi)) (ae (aa (by rfl)) (ae (aa (by rfl)) aj)) (by exact nC i2)) (by exact nU _ _))))))) (by rfl)) ?_
   simp only[eZ,fF,bW,bX,bY,bZ,b6,b7,bP,yf]
   congr 4
   rw[N6,NL,NL n]
theorem IM{κ:List (Option V)}{a b c:Option V}:(κ++[a]++[b]++[c])[κ.length]? =some a:=by simp
theorem LW{κ:List (Option V)}{a b c:Option V}:(κ++[a]++[b]++[c])[(κ++[a]).length]? =some b:=by simp
theorem LX{κ:List (Option V)}{a b c:Option V}:(κ++[a]++[b]++[c])[(κ++[a]++[b]).length]? =some c:=by simp
theorem EH{κ:List (Option V)}{a b c d:Option V}:(κ++[a]++[b]++[c]).set (κ++[a]++[b]).length d=κ++[a]++[b]++[d]:=by
 rw[N7 _ _ (M9 _)];simp
theorem LY(hdv:aJ st dv= .lst (nats ds))(hlt:∀d∈ds,d<2^n)(hsz:n*ds.length≤100000)(hlen:ds.length≤100000)(hn1:n≤100000):
  aO av.P (k+ds.length+1) (.fn 3) [dv,.int (n:Int)] none st=some (.int (val n ds:Int),st):=by
 have hset:∀{en:En},en.kb=st.κ.length→en.ρ[2]? =some (.fB (st.κ++[some dv]++[some (V.int (n:Int))]).length)→fC en { κ:=st.κ++[some dv]++[some (V.int (n:Int))]++[none],σ:=st.σ } 2 (.jt 1 [st.κ.length,(st.κ++[some dv]++[some (V.int (n:Int))]).length,(st.κ++[some dv]).length])=
   some (en,{ κ:=st.κ++[some dv]++[some (V.int (n:Int))]++[some (V.jt 1 [st.κ.length,(st.κ++[some dv]++[some (V.int (n:Int))]).length,(st.κ++[some dv]).length])],σ:=st.σ }):=fun h1 h2=>by
  unfold fC;rw[h2];simp only
  rw[if_pos (by rw[h1];simp),EH]
 generalize hst1:({ κ:=st.κ++[some dv]++[some (V.int (n:Int))]++[some (V.jt 1 [st.κ.length,(st.κ++[some dv]++[some (V.int (n:Int))]).length,(st.κ++[some dv]).length])],σ:=st.σ }:ao)=st1 at hset
 have g0:st1.κ[st.κ.length]? =some (some dv):=by rw[←hst1];exact IM
 have g1:st1.κ[(st.κ++[some dv]).length]? =some (some (.int (n:Int))):=by rw[←hst1];exact LW
 have g2:st1.κ[(st.κ++[some dv]++[some (V.int (n:Int))]).length]? =some (some (V.jt 1 [st.κ.length,(st.κ++[some dv]++[some (V.int (n:Int))]).length,(st.κ++[some dv]).length])):=by rw[←hst1];exact LX
 have hdv1:aJ st1 dv= .lst (nats ds):=by rw[←hst1,BO];exact hdv
 have kM:st1.σ=st.σ:=by rw[←hst1]
 clear hdv
 cases ds with
 |nil=>
  refine Oj (call_top (vals:=[dv,.int (n:Int)]) (fl:=.ret (.int 0)) (st':=st1) (by rfl) (by rfl) (ai (tn (by rfl) (by exact hset rfl rfl))
   (bS (dB (jm (by decide) (lC (aa (by exact aK rfl g0)) (by rw[hdv1];rfl)) (by rfl))))) (by rfl)) ?_
  simp[eZ,fF,bW,bX,bY,bZ,b6,b7,bP,iJ,g_,kM]
 |cons d0 dr=>
  have hin:=zQ (k:=k) g0 g1 g2 hdv1 hlt hsz hlen hn1 (d0::dr).length 0 (d0::dr).length (M9 _) (OP _) (M9 _)
  have hstr:dg (d0::dr) 0 (d0::dr).length=d0::dr:=by simp[dg]
  rw[hstr]at hin
  have hlenv:xF .len [aJ st1 dv]=some (.int ((d0::dr).length:Int)):=by
   rw[hdv1];show some (V.int ((nats (d0::dr)).length:Int))=_;rw[iK]
  refine Oj (call_top (vals:=[dv,.int (n:Int)]) (fl:=.ret (.int (val n (d0::dr):Int))) (st':=st1) (by rfl) (by rfl) (ai (tn (by rfl) (by exact hset rfl rfl))
   (bS (dB (jl (by decide) (lC (aa (by exact aK rfl g0)) (by rw[hdv1];rfl))
    (aD (aa (by exact aK rfl g2)) (ae (by rfl) (ae (aD (aa (by rfl)) (ae (aa (by exact aK rfl g0)) aj) (by exact fg hlenv rfl)) aj)) (by exact nC hin)))))) (by rfl)) ?_
  simp[eZ,fF,bW,bX,bY,bZ,b6,b7,bP,kM]
end
end Rk.L01
end

section
set_option exponentiation.threshold 100
namespace Rk.L01
open PySem Rk
theorem aR{O:cQ}{N:Nat→Nf}{en en2:En}{st st1 st2:ao}{i:Nat}{v:V}{e:E}{p q:NW}(he:ak O e .val en st=some (v,st1))(hs:fC en st1 i v=some (en2,st2)):aX O N (.asg (.bM i q) e p) en st=some (.bU,en2,st2):=ff he hs
noncomputable def f_(n:Nat):Nat→Nat→List Nat
 |_,0=>[]
 |x,m+1=>x%2^n::f_ n (x/2^n) m
theorem ir(n x:Nat):f_ n x 0=[]:=rfl
theorem iu(n x m:Nat):f_ n x (m+1)=x%2^n::f_ n (x/2^n) m:=rfl
theorem iL(n:Nat):∀(m x:Nat),(f_ n x m).length=m
 |0,_=>rfl
 |m+1,x=>by simp[ir,iu,iL n m]
theorem yg(n:Nat):∀(m x d:Nat),d∈f_ n x m→d<2^n
 |0,_,_,h=>by simp[ir,iu]at h
 |m+1,x,d,h=>by
  simp only[ir,iu,M5]at h
  rcases h with rfl|h
  ·exact O2 _ (NO n)
  ·exact yg n m _ d h
theorem uW(n:Nat):∀(m x:Nat),f_ n (x%2^(n*m)) m=f_ n x m
 |0,_=>rfl
 |m+1,x=>by
  simp only[ir,iu]
  have e:2^(n*(m+1))=2^n*2^(n*m):=by rw[←Ow];congr 1;rw[PV,QD,N6]
  have h1:x%2^(n*(m+1))%2^n=x%2^n:=by rw[e,Nat.mod_mul_right_mod]
  have h2:x%2^(n*(m+1))/2^n=x/2^n%2^(n*m):=by rw[e,Nat.mod_mul_right_div_self]
  rw[h1,h2,uW n m]
theorem uX(n:Nat):∀(a b x:Nat),f_ n x (a+b)=f_ n x a++f_ n (x/2^(n*a)) b
 |0,b,x=>by simp[ir,iu]
 |a+1,b,x=>by
  rw[show a+1+b=(a+b)+1 by lia]
  simp only[ir,iu,OX,uX n a b]
  rw[SR,←Ow,PV,QD,N6 n]
theorem uY(n:Nat):∀(m x:Nat),x<2^(n*m)→val n (f_ n x m)=x
 |0,x,h=>by simp at h;simp[ir,iu,iJ,g_,h]
 |m+1,x,h=>by
  have e:2^(n*(m+1))=2^n*2^(n*m):=by rw[←Ow];congr 1;rw[PV,QD,N6]
  simp only[ir,iu,iJ,g_]
  rw[uY n m _ (Ol (by rw[←e];exact h))]
  exact Nat.mod_add_div x (2^n)
theorem uZ(n:Nat):∀(ds:List Nat),(∀d∈ds,d<2^n)→f_ n (val n ds) ds.length=ds
 |[],_=>rfl
 |d::r,h=>by
  have hd:=h d (by simp)
  simp only[iJ,g_,NS,ir,iu]
  rw[Nat.add_mul_mod_self_left,Sw hd,Nat.add_mul_div_left _ _ (NO n),Q9 hd,PX,uZ n r fun x hx=>h x (MY _ hx)]
noncomputable def wr(ls:List V)(L:Nat)(vs:List V):List V:=ls.take L++vs++ls.drop (L+vs.length)
theorem FL{ls:List V}{L:Nat}{vs:List V}(h:L+vs.length≤ls.length):(wr ls L vs).length=ls.length:=by
 unfold wr
 rw[Ng,Ng,Pk,Qo,PZ (M8 (N_ ..) h),OB h]
theorem IV{ls:List V}{L:Nat}{a b:List V}(h:L+a.length≤ls.length):wr (wr ls L a) (L+a.length) b=wr ls L (a++b):=by
 unfold wr
 have e1:(ls.take L++a++ls.drop (L+a.length)).take (L+a.length)=ls.take L++a:=by
  rw[List.take_append_of_le_length (by simp;lia),NU (by simp;lia)]
 have e2:(ls.take L++a++ls.drop (L+a.length)).drop (L+a.length+b.length)=ls.drop (L+(a++b).length):=by
  rw[List.drop_append,QV (by rw[Ng,Pk,P6];exact VF (Nat.min_le_left ..) (N_ ..)),Oz,TG]
  congr 1
  simp;lia
 rw[e1,e2];simp[M_]
theorem FN{ls:List V}{L:Nat}{v:V}(h:L<ls.length):wr ls L [v]=ls.set L v:=by
 unfold wr
 rw[List.set_eq_take_append_cons_drop,if_pos h];simp
section
variable {k n kd ki kn j:Nat}
theorem zR(hn0:n≤100000):∀(m x L R:Nat) (st:ao) (ls:List V),st.κ[kd]? =some (some (.ref j))→st.κ[kn]? =some (some (.int (n:Int)))→st.κ[ki]? =some (some (.jt 0 [kd,ki,kn]))→st.σ[j]? =some ls→
  R-L≤m→L<R→R≤ls.length→n*ls.length≤100000→ls.length≤100000→x<2^(n*(R-L))→
  aO av.P (k+m) (.jt 0 [kd,ki,kn]) [.int (x:Int),.int (L:Int),.int (R:Int)] none st=some (.none,{ st with σ:=st.σ.set j (wr ls L (nats (f_ n x (R-L)))) }):=by
 intro m
 induction m with
 |zero=>intro x L R st ls _ _ _ _ h1 h2;exact absurd h2 (Pn.mpr (SW.mp (Nat.le_zero.mp h1)))
 |succ m ih=>
  intro x L R st ls hd hn hi kM h1 h2 h3 hsz hlen hx
  by_cases hone:L+1=R
  ·clear hn0 hn hi h1 h2 hsz hlen
   subst hone
   rw[NZ]at hx ⊢
   have e2:nats (f_ n x 1)=[.int (x:Int)]:=by
    simp only[ir,iu]
    rw[Sw (by simpa using hx)];rfl
   rw[e2,FN h3]
   refine Oj (mP (st':={ st with σ:=st.σ.set j (ls.set L (.int (x:Int))) }) (fl:=.ret .none) (by rfl)
    (bS (bu (aW (aq (aa (by rfl)) (by rfl) (by rfl)) (aa (by rfl)) (by exact(zO _ _).trans (by rw[decide_eq_true (Int.natCast_succ L).symm])))
     (ai (IP (ls:=ls) (k:=(L:Int)) (aa (by rfl)) (aa (by exact aK rfl hd)) (aa (by rfl)) (by exact kM) (by exact⟨rfl,Nx L,Qq.mpr h3⟩)) (aG (by rfl))))) (by rfl)) ?_
   simp only[eZ,fF,bW,bX,bY,bZ,b6,b7,bP]
   rw[NU (by simp)]
  ·have H:=half h1 h3 h2 hone
   generalize hMd:(L+R)/2=M at*
   have b1:d_ st .RShift (.int ((L+R:Nat):Int)) (.int ((1:Nat):Int))=some (.int (M:Int),st):=by
    have:=mR (a:=L+R) (n:=1) (st:=st) (by decide)
    rw[RY,hMd]at this;exact this
   have hLM:(M-L)*n≤100000:=M8 (NV _ H.d1) (by rw[NL];exact hsz)
   have hRL:n*(R-L)≤100000:=M8 (OT _ (M8 (Uq ..) h3)) hsz
   have hxs:x<2^100000:=Nm hx (NC (by decide) hRL)
   have hu:x/2^((M-L)*n)<2^100000:=OH (Nat.div_le_self _ _) hxs
   have hsp:2^(n*(R-L))=2^(n*(M-L))*2^(n*(R-M)):=by rw[←Ow,←PV,←H.sp]
   have hlo:x%2^((M-L)*n)<2^(n*(M-L)):=by rw[NL];exact O2 _ (NO _)
   have hup:x/2^((M-L)*n)<2^(n*(R-M)):=by rw[NL (M-L)];exact Ol (by rw[←hsp];exact hx)
   have hj:j<st.σ.length:=(MW.mp kM).1
   have i1:=ih (x%2^((M-L)*n)) L M st ls hd hn hi kM H.r2 H.lo H.mB hsz hlen hlo
   generalize hls1:wr ls L (nats (f_ n (x%2^((M-L)*n)) (M-L)))=ls1 at i1
   have hl1:ls1.length=ls.length:=by rw[←hls1];exact FL (by rw[iK,iL,OB (NH H.lo)];exact H.mB)
   have i2:=ih (x/2^((M-L)*n)) M R { st with σ:=st.σ.set j ls1 } ls1 hd hn hi (Nv hj) H.r1 H.hi (by rw[hl1];exact h3) (by rw[hl1];exact hsz) (by rw[hl1];exact hlen) hup
   refine Oj (mP (st':={ st with σ:=(st.σ.set j ls1).set j (wr ls1 M (nats (f_ n (x/2^((M-L)*n)) (R-M)))) }) (fl:=.bU) (by rfl)
    (ai (aI (aW (aq (aa (by rfl)) (by rfl) (by rfl)) (aa (by rfl)) (by exact(zO _ _).trans (by rw[decide_eq_false H.ne]))) bK)
    (ai (ff (aq (aq (aa (by rfl)) (aa (by rfl)) (by exact nU _ _)) (by rfl) (by exact b1)) (by rfl))
    (ai (ff (aq (aq (aa (by rfl)) (aa (by rfl)) (by exact nV (NH H.lo))) (aa (by exact aK rfl hn)) (by exact BN (ka:=17) (kb:=17) (Dv (M8 H.d1 hlen)) (Dv hn0) (by decide) (by decide))) (by rfl))
    (ai (ff (aq (aa (by rfl)) (aa (by rfl)) (by exact mR hLM)) (by rfl))
    (ai (ff (aq (aa (by rfl)) (aq (aa (by rfl)) (aa (by rfl)) (by exact nW hu (by decide) hLM)) (by exact IS _ _)) (by rfl))
    (ai (eN (aD (aa (by exact aK rfl hi)) (ae (aa (by rfl)) (ae (aa (by rfl)) (ae (aa (by rfl)) aj))) (by exact nC i1)))
    (aG (eN (aD (aa (by exact aK rfl hi)) (ae (aa (by rfl)) (ae (aa (by rfl)) (ae (aa (by rfl)) aj))) (by exact nC i2)))))))))) (by rfl)) ?_
   simp only[eZ,fF,bW,bX,bY,bZ,b6,b7,bP,Ru]
   congr 3
   have hM:M=L+(nats (f_ n (x%2^((M-L)*n)) (M-L))).length:=by rw[iK,iL,OB (NH H.lo)]
   have e5:wr ls1 M (nats (f_ n (x/2^((M-L)*n)) (R-M)))=wr ls L (nats (f_ n x (R-L))):=by
    rw[←hls1]
    conv=>lhs;arg 2;rw[hM]
    rw[IV (by rw[iK,iL,OB (NH H.lo)];exact H.mB)]
    congr 1
    rw[H.sp,uX,NL (M-L) n,uW]
    unfold nats;rw[Pz]
   rw[e5,NU (by simp)]
theorem LZ{a m:Nat}{st:ao}(hn0:0<n)(hm:m=(M1 (a:Int)+n-1)/n)(hsz:n*m≤100000)(hn1:n≤100000)(hm1:m≤100000):
  aO av.P (k+m+1) (.fn 2) [.int (a:Int),.int (n:Int)] none st=some (.lst (nats (f_ n a m)),st):=by
 have hmb:M1 (a:Int)≤n*m:=by
  have h1:=Ox (M1 (a:Int)+n-1) n
  have h2:=O2 (M1 (a:Int)+n-1) hn0
  rw[←hm]at h1;lia
 have ha:a<2^(n*m):=Nm kO (NC (by decide) hmb)
 generalize hst0:({ κ:=st.κ++[some (V.int (n:Int))]++[none]++[none],σ:=st.σ }:ao)=ik
 generalize hst1:({ κ:=st.κ++[some (V.int (n:Int))]++[some (V.ref st.σ.length)]++[none],σ:=st.σ++[M2 m (V.int 0)] }:ao)=st1
 generalize hst2:({ κ:=st.κ++[some (V.int (n:Int))]++[some (V.ref st.σ.length)]++[some (V.jt 0 [(st.κ++[some (V.int (n:Int))]).length,(st.κ++[some (V.int (n:Int))]++[some (V.ref st.σ.length)]).length,st.κ.length])],σ:=st.σ++[M2 m (V.int 0)] }:ao)=st2
 have g0:ik.κ[st.κ.length]? =some (some (.int (n:Int))):=by rw[←hst0];exact IM
 have c0:st2.κ[st.κ.length]? =some (some (.int (n:Int))):=by rw[←hst2];exact IM
 have c1:st2.κ[(st.κ++[some (V.int (n:Int))]).length]? =some (some (.ref st.σ.length)):=by rw[←hst2];exact LW
 have c2:st2.κ[(st.κ++[some (V.int (n:Int))]++[some (V.ref st.σ.length)]).length]? =some (some (.jt 0 [(st.κ++[some (V.int (n:Int))]).length,(st.κ++[some (V.int (n:Int))]++[some (V.ref st.σ.length)]).length,st.κ.length])):=by rw[←hst2];exact LX
 have cσ:st2.σ[st.σ.length]? =some (M2 m (.int 0)):=by rw[←hst2];simp
 have klen:(st.κ++[some (V.int (n:Int))]++[none]).length=(st.κ++[some (V.int (n:Int))]++[some (V.ref st.σ.length)]).length:=by simp
 have fd:d_ ik .FloorDiv (.int ((M1 (a:Int)+n-1:Nat):Int)) (.int (n:Int))=some (.int (m:Int),ik):=by
  show(if(n:Int)=0∨2^60≤(n:Int).natAbs then none else some (V.int (((M1 (a:Int)+n-1:Nat):Int).fdiv (n:Int)),ik))=_
  have h60:(100000:Nat)<2^60:=by decide
  rw[if_neg (by rw[Ny];lia),mS,←hm]
 have mul:d_ ik .Mult (.lst [.int 0]) (.int (m:Int))=some (.ref st.σ.length,{ ik with σ:=ik.σ++[M2 m (.int 0)] }):=by
  show(if 0≤(m:Int)∧(m:Int).toNat≤lid∧(V.int 0).data=true then some (V.ref ik.σ.length,({ ik with σ:=ik.σ++[M2 (m:Int).toNat (.int 0)] }:ao))else none)=_
  rw[if_pos ⟨Nx m,by rw[NQ];unfold lid;lia,rfl⟩,NQ,←hst0]
 have s1:∀{en:En},en.kb=st.κ.length→en.ρ[2]? =some (.fB (st.κ++[some (V.int (n:Int))]).length)→fC en { ik with σ:=ik.σ++[M2 m (V.int 0)] } 2 (.ref st.σ.length)=some (en,st1):=fun h1 h2=>by
  unfold fC;rw[h2];simp only
  rw[if_pos (by rw[h1,←hst0];simp),←hst1,←hst0]
  congr 3
  simp[List.set_append]
 have s2:∀{en:En},en.kb=st.κ.length→en.ρ[3]? =some (.fB (st.κ++[some (V.int (n:Int))]++[none]).length)→fC en st1 3 (.jt 0 [(st.κ++[some (V.int (n:Int))]).length,(st.κ++[some (V.int (n:Int))]++[none]).length,st.κ.length])=some (en,st2):=fun h1 h2=>by
  unfold fC;rw[h2];simp only
  rw[if_pos (by rw[h1,←hst1];simp),←hst1,←hst2]
  rw[klen,EH]
 have Dw:d_ ik .Sub (.int ((M1 (a:Int)+n:Nat):Int)) (.int ((1:Nat):Int))=some (.int ((M1 (a:Int)+n-1:Nat):Int),ik):=nV (by lia)
 have fz:∀(s':ao) (l:List V),s'.σ[st.σ.length]? =some l→freeze st.σ.length s' (.ref st.σ.length)= .lst l:=fun s' l h=>by
  simp only[bW,bX,bY,bZ,b6,b7,bP];rw[if_neg (Q_ _),h]
 have c2':st2.κ[(st.κ++[some (V.int (n:Int))]++[none]).length]? =some (some (.jt 0 [(st.κ++[some (V.int (n:Int))]).length,(st.κ++[some (V.int (n:Int))]++[some (V.ref st.σ.length)]).length,st.κ.length])):=by rw[klen];exact c2
 by_cases ha0:a=0
 ·subst ha0
  have hm0:m=0:=by
   have:M1 ((0:Nat):Int)=0:=by decide
   rw[hm,this];exact Q9 (by lia)
  have h00:(((0:Nat):Int) != 0)=false:=by decide
  refine Oj (call_top (vals:=[.int ((0:Nat):Int),.int (n:Int)]) (fl:=.ret (.ref st.σ.length)) (st':=st2) (by rfl) (by rfl) (by
   rw[show({ st with κ:=(aV (av.P.F 2).sc ([V.int ((0:Nat):Int),V.int (n:Int)].map some) [] st.κ).2 }:ao)=ik from hst0]
   exact ai (aR (aq (x:=.lst [.int 0]) (by rfl) (aq (aq (aq (c9 (aa (by rfl)) aj (by rfl)) (aa (by exact aK rfl g0)) (by exact nU _ _)) (by rfl) (by exact Dw)) (aa (by exact aK rfl g0)) (by exact fd)) (by exact mul)) (by exact s1 rfl rfl))
    (ai (tn (by rfl) (by exact s2 rfl rfl)) (ai (aI (lC (aa (by rfl)) (by exact congrArg some h00)) bK) (bS (dB (aa (by exact aK rfl c1))))))) (by rfl)) ?_
  show some (freeze st.σ.length st2 (.ref st.σ.length),({ κ:=st.κ,σ:=st2.σ.take st.σ.length }:ao))=_
  rw[fz st2 _ cσ,hm0]
  have:st2.σ.take st.σ.length=st.σ:=by rw[←hst2];simp
  rw[this];rfl
 ·have hbp:=(ye (Nat.pos_of_ne_zero ha0)).2
  have hmp:0<m:=by
   rcases Nat.eq_zero_or_pos m with h|h
   ·rw[h]at hmb;lia
   ·exact h
  have h00:((a:Int) != 0)=true:=by simp[ha0]
  have hin:=zR (k:=k) hn1 m a 0 m st2 (M2 m (.int 0)) c1 c0 c2 cσ (by lia) hmp (by simp) (by simpa using hsz) (by simpa using hm1) (by simpa using ha)
  have hw:wr (M2 m (V.int 0)) 0 (nats (f_ n a (m-0)))=nats (f_ n a m):=by
   unfold wr;simp[iK,iL]
  rw[hw]at hin
  generalize hst3:({ st2 with σ:=st2.σ.set st.σ.length (nats (f_ n a m)) }:ao)=st3 at hin
  have c3:st3.κ[(st.κ++[some (V.int (n:Int))]).length]? =some (some (.ref st.σ.length)):=by rw[←hst3];exact c1
  have c4:st3.σ[st.σ.length]? =some (nats (f_ n a m)):=by
   rw[←hst3];exact Nv (MW.mp cσ).1
  have hlenv:xF .len [aJ st2 (.ref st.σ.length)]=some (.int (m:Int)):=by
   have:aJ st2 (.ref st.σ.length)= .lst (M2 m (.int 0)):=by simp only[cP,cσ]
   rw[this]
   show some (V.int ((M2 m (V.int 0)).length:Int))=_
   rw[P_]
  refine Oj (call_top (vals:=[.int (a:Int),.int (n:Int)]) (fl:=.ret (.ref st.σ.length)) (st':=st3) (by rfl) (by rfl) (by
   rw[show({ st with κ:=(aV (av.P.F 2).sc ([V.int (a:Int),V.int (n:Int)].map some) [] st.κ).2 }:ao)=ik from hst0]
   exact ai (aR (aq (x:=.lst [.int 0]) (by rfl) (aq (aq (aq (c9 (aa (by rfl)) aj (by rfl)) (aa (by exact aK rfl g0)) (by exact nU _ _)) (by rfl) (by exact Dw)) (aa (by exact aK rfl g0)) (by exact fd)) (by exact mul)) (by exact s1 rfl rfl))
    (ai (tn (by rfl) (by exact s2 rfl rfl)) (ai (bu (lC (aa (by rfl)) (by exact congrArg some h00))
     (aG (eN (aD (aa (by exact aK rfl c2')) (ae (aa (by rfl)) (ae (by rfl) (ae (aD (aa (by rfl)) (ae (aa (by exact aK rfl c1)) aj) (by exact fg hlenv rfl)) aj))) (by exact nC hin)))))
     (bS (dB (aa (by exact aK rfl c3))))))) (by rfl)) ?_
  show some (freeze st.σ.length st3 (.ref st.σ.length),({ κ:=st.κ,σ:=st3.σ.take st.σ.length }:ao))=_
  rw[fz st3 _ c4]
  have:st3.σ.take st.σ.length=st.σ:=by rw[←hst3,←hst2];simp
  rw[this]
end
end Rk.L01
end

section
set_option exponentiation.threshold 100
namespace Rk.L01
open PySem Rk
noncomputable def sb(b n:Nat):List Nat→Nat→List Nat×Nat
 |[],r=>([],r)
 |d::es,r=>((r*2^n+d)/b::(sb b n es ((r*2^n+d)%b)).1,(sb b n es ((r*2^n+d)%b)).2)
theorem w6(b n r:Nat):sb b n [] r=([],r):=rfl
theorem w7(b n d:Nat)(es:List Nat)(r:Nat):sb b n (d::es) r=((r*2^n+d)/b::(sb b n es ((r*2^n+d)%b)).1,(sb b n es ((r*2^n+d)%b)).2):=rfl
theorem w9(b n:Nat):∀(es:List Nat) (r:Nat),(sb b n es r).1.length=es.length
 |[],_=>rfl
 |d::es,r=>by simp[w6,w7,w9 b n es]
theorem EI{b n:Nat}(hb:0<b):∀(es:List Nat) (r:Nat),r<b→(∀d∈es,d<2^n)→
  (sb b n es r).2<b∧r*2^(n*es.length)+val n es.reverse=val n (sb b n es r).1.reverse*b+(sb b n es r).2∧ ∀q∈(sb b n es r).1,q<2^n
 |[],r,hr,_=>⟨hr,by simp[w6,w7,iJ,g_],by simp[w6,w7]⟩
 |d::es,r,hr,h=>by
  have hd:=h d (by simp)
  have hx:r*2^n+d<b*2^n:=by
   have:(r+1)*2^n≤b*2^n:=NV _ hr
   rw[OV]at this;lia
  obtain⟨i1,i2,i3⟩:=EI hb es ((r*2^n+d)%b) (O2 _ hb) fun x hx=>h x (MY _ hx)
  refine⟨i1,?_,?_⟩
  ·simp only[w6,w7,QI,gQ,iJ,g_,N4,NS,UZ,QT]
   rw[w9]
   have hdm:=Ox (r*2^n+d) b
   generalize (r*2^n+d)/b=Q at*
   generalize (r*2^n+d)%b=w at*
   rw[PV n,QD,Ow,OV,Nat.add_right_comm,←i2]
   generalize 2^(n*es.length)=E at*
   generalize val n es.reverse=v at*
   have:(r*2^n+d)*E=(b*Q+w)*E:=by rw[hdm]
   rw[OV,OV]at this
   have e1:r*(E*2^n)=r*2^n*E:=by rw[NL E,O3]
   have e2:E*Q*b=b*Q*E:=by rw[NL E,NL (Q*E),O3]
   rw[e1,e2,NL E d];lia
  ·intro q hq
   simp only[w6,w7,M5]at hq
   rcases hq with rfl|hq
   ·exact Ol hx
   ·exact i3 q hq
theorem bz{t:T}{body:En→ao→Option (Fl×En×ao)}{v:V}{r:List V}{en bV en2:En}{st st1 st2:ao}{out:Option (Fl×En×ao)}(hs:gU t v en st=some (bV,st1))(hb:body bV st1=some (.bU,en2,st2))(h:fk t body r en2 st2=out):fk t body (v::r) en st=out:=aA hs (fT hb h)
theorem BP{t:T}{body:En→ao→Option (Fl×En×ao)}{v w:V}{r:List V}{en bV en2:En}{st st1 st2:ao}(hs:gU t v en st=some (bV,st1))(hb:body bV st1=some (.ret w,en2,st2)):fk t body (v::r) en st=some (.ret w,en2,st2):=aA hs (fT hb rfl)
theorem iM{t:T}{body:En→ao→Option (Fl×En×ao)}{en:En}{st:ao}:fk t body [] en st=some (.bU,en,st):=rfl
theorem fS{st:ao}{j:Nat}{l:List V}{v:V}(hl:st.σ[j]? =some l)(h1:v.data=true)(h2:l.length<lid):eG st .append (.ref j) [v]=some (.none,{ st with σ:=st.σ.set j (l++[v]) }):=by
 show(sq st (.ref j)).bind (fun p=>if v.data=true∧p.2.length<lid then some (V.none,{ st with σ:=st.σ.set p.1 (p.2++[v]) })else none)=_
 exact bind_eq (a:=(j,l)) (bind_eq hl rfl) (if_pos ⟨h1,h2⟩)
theorem w_{st:ao}{j:Nat}{l:List V}(hl:st.σ[j]? =some l):eG st .reverse (.ref j) []=some (.none,{ st with σ:=st.σ.set j l.reverse }):=by
 show(sq st (.ref j)).bind (fun p=>some (V.none,{ st with σ:=st.σ.set p.1 p.2.reverse }))=_
 exact bind_eq (a:=(j,l)) (bind_eq hl rfl) rfl
noncomputable def HC(a b n:Nat)(ds:List Nat)(r:Nat)(j:Nat)(ad qd:Option V)(kb:Nat):En:=⟨[.loc (some (.int a)),.loc (some (.int b)),.loc (some (.int n)),.loc (some (.lst (nats ds))),.loc (some (.int r)),.loc (some (.ref j)),.loc ad,.loc qd,.loc none,.cY (.fn 2),.cY (.bi .reversed),.cY (.fn 0),.cY (.fn 3)],kb⟩
theorem ints_append(a b:List Nat):nats (a++b)=nats a++nats b:=Pz ..
theorem mT(a:List Nat):nats a.reverse=(nats a).reverse:=U9 ..
section
variable {k n a b j kb:Nat} {st:ao} {ds:List Nat}
noncomputable def xd:Ss→T
 |.cons (.gB t _ _ _) _=>t
 |_=>.bM 0 default
noncomputable def qK:Ss→Ss
 |.cons (.gB _ _ b _) _=>b
 |_=>.nil
theorem yh{N:Nat→Nf}(hn:n≤7999)(hb:2^n≤2*b)(hb':b<2^n):
  ∀(es:List Nat) (r:Nat) (acc:List Nat) (ad qd:Option V) (st:ao),r<b→(∀d∈es,d<2^n)→acc.length+es.length≤100000→st.σ[j]? =some (nats acc)→
  ∃ad' qd',fk (xd (tl (tl (tl (tl av.Kn))))) (fun en st=>aE ⟨aO av.P (k+3),av.P.gen⟩ N (qK (tl (tl (tl (tl av.Kn))))) en st) (nats es) (HC a b n ds r j ad qd kb) st=
   some (.bU,HC a b n ds (sb b n es r).2 j ad' qd' kb,{ st with σ:=st.σ.set j (nats (acc++(sb b n es r).1)) })
 |[],r,acc,ad,qd,st,_,_,_,hl=>by
  refine⟨ad,qd,?_⟩
  simp only[w6,w7,Nc]
  have:st.σ.set j (nats acc)=st.σ:=by
   obtain⟨h1,h2⟩:=MW.mp hl
   rw[←h2];exact Qa h1
  rw[this];rfl
 |d::es,r,acc,ad,qd,st,hr,h,hlen,hl=>by
  have hd:=h d (by simp)
  have hx:r*2^n+d<b*2^n:=by
   have:(r+1)*2^n≤b*2^n:=NV _ hr
   rw[OV]at this;lia
  have hbp:0<b:=by have:=NO n;lia
  have hj:j<st.σ.length:=(MW.mp hl).1
  have dv:=K5 (k:=k) (st:=st) hn hb hb' hx
  obtain⟨ad',qd',ih⟩:=yh (N:=N) hn hb hb'
   es ((r*2^n+d)%b) (acc++[(r*2^n+d)/b]) (some (.int d)) (some (.int ((r*2^n+d)/b:Nat))) { st with σ:=st.σ.set j (nats (acc++[(r*2^n+d)/b])) } (O2 _ hbp) (fun x hx=>h x (MY _ hx)) (by simp at hlen ⊢;lia) (by simp[Nv hj])
  refine⟨ad',qd',bz (bV:=HC a b n ds r j (some (.int d)) qd kb) (st1:=st) (by rfl)
   (ai (ff (aD (aa (by rfl)) (ae (aq (aq (aa (by rfl)) (aa (by rfl)) (by exact nW (QN hr hb') (by lia) (by lia))) (aa (by rfl)) (by exact nU _ _)) (ae (aa (by rfl)) (ae (aa (by rfl)) aj))) (by exact bg dv rfl)) (by rfl))
    (aG (eN (c9 (aa (by rfl)) (ae (aa (by rfl)) aj) (by exact fS hl rfl (by rw[iK];unfold lid;simp at hlen;lia)))))) ?_⟩
  have e1:nats acc++[V.int (((r*2^n+d)/b:Nat):Int)]=nats (acc++[(r*2^n+d)/b]):=by rw[ints_append];rfl
  rw[e1]
  refine Oj ih ?_
  simp[w6,w7,Ru]
theorem xg{F m:Nat}(hbp:0<b)(hbits:n=M1 (b:Int))(hn:n≤7999)(hm:m=(M1 (a:Int)+n-1)/n)(hF:m+4≤F)(hsz:n*m≤100000)(hm1:m≤100000):
  aO av.P F (.fn 4) [.int (a:Int),.int (b:Int)] none st=some (.tup [.int ((a/b:Nat):Int),.int ((a%b:Nat):Int)],st):=by
 obtain⟨hbg,hn0⟩:=ye hbp
 rw[←hbits]at hbg hn0
 have hb':b<2^n:=by rw[hbits];exact kO
 have hb:2^n≤2*b:=by
  have:2^n=2*2^(n-1):=by rw[←VV];congr 1;lia
  lia
 have hmb:M1 (a:Int)≤n*m:=by
  have h1:=Ox (M1 (a:Int)+n-1) n
  have h2:=O2 (M1 (a:Int)+n-1) hn0
  rw[←hm]at h1;lia
 have ha:a<2^(n*m):=Nm kO (NC (by decide) hmb)
 obtain⟨k,rfl⟩:∃k,F=k+m+4:=⟨F-m-4,by lia⟩
 have c1:=LZ (k:=k+2) (n:=n) (a:=a) (m:=m) (st:=st) hn0 hm hsz (by lia) hm1
 rw[show k+2+m+1=k+m+3 by lia]at c1
 have hdl:=yg n m a
 have hv:=uY n m a ha
 have hlen:=iL n m a
 generalize f_ n a m=ds at*
 have st1:({ st with σ:=st.σ++[[]] }:ao).σ[st.σ.length]? =some (nats []):=by simp[nats]
 obtain⟨s1,s2,s3⟩:=EI (n:=n) hbp ds.reverse 0 hbp (fun d hd=>hdl d (by simpa using hd))
 rw[Ri,hv,Nat.zero_mul,PX]at s2
 have slen:=w9 b n ds.reverse 0
 have hdm:a/b=val n (sb b n ds.reverse 0).1.reverse∧a%b=(sb b n ds.reverse 0).2:=by
  constructor
  ·rw[s2,N6,Q0 _ _ hbp,Q9 s1,PX]
  ·rw[s2,N6,RH,Sw s1]
 rw[hdm.1,hdm.2]
 have hsrc:tU ⟨aO av.P (k+m+3),av.P.gen⟩ (.bi .reversed) [.lst (nats ds)]=some (nats ds.reverse):=by
  rw[mT];rfl
 generalize hqs:(sb b n ds.reverse 0).1=qs at*
 generalize hr:(sb b n ds.reverse 0).2=r at*
 generalize hst2:({ st with σ:=st.σ++[nats qs.reverse] }:ao)=st2
 have hdr:aJ st2 (.ref st.σ.length)= .lst (nats qs.reverse):=by rw[←hst2];simp[cP]
 have c2:=LY (k:=k+2) (n:=n) (st:=st2) hdr (by intro d hd;exact s3 d (by simpa using hd)) (by simp[slen,hlen];exact hsz) (by simp[slen,hlen];exact hm1) (by lia)
 rw[N4,slen,N4,hlen,show k+2+m+1=k+m+3 by lia]at c2
 obtain⟨ad',qd',loop⟩:=yh (k:=k+m) (N:=av.P.N) (a:=a) (ds:=ds) (kb:=st.κ.length) hn hb hb' ds.reverse 0 [] none none { st with σ:=st.σ++[[]] } hbp (fun d hd=>hdl d (by simpa using hd)) (by simp[hlen];exact hm1) st1
 rw[hr,Oz,hqs]at loop
 have sset:∀x:List V,(st.σ++[[]]).set st.σ.length x=st.σ++[x]:=fun x=>by
  rw[N7 _ _ (M9 _)];simp
 rw[show({ ({ st with σ:=st.σ++[[]] }:ao)with σ:=({ st with σ:=st.σ++[[]] }:ao).σ.set st.σ.length (nats qs) }:ao)={ st with σ:=st.σ++[nats qs] } by simp[sset]]at loop
 have rv:eG { st with σ:=st.σ++[nats qs] } .reverse (.ref st.σ.length) []=some (.none,st2):=by
  rw[w_ (l:=nats qs) (by simp),←hst2,mT]
  congr 3
  rw[N7 _ _ (M9 _)];simp
 refine Oj (call_top (vals:=[.int (a:Int),.int (b:Int)]) (fl:=.ret (.tup [.int (val n qs.reverse:Int),.int (r:Int)])) (st':=st2) (by rfl) (by rfl)
  (ai (aR (c9 (aa (by rfl)) aj (by exact congrArg (fun x:Nat=>some (V.int (x:Int),st)) hbits.symm)) (by rfl))
  (ai (aR (aD (aa (by rfl)) (ae (aa (by rfl)) (ae (aa (by rfl)) aj)) (by exact bg c1 rfl)) (by rfl))
  (ai (aR (by rfl) (by rfl))
  (ai (bV:=HC a b n ds 0 st.σ.length none none st.κ.length) (aR (by rfl) (by rfl))
  (ai (gP (aD (aa (by rfl)) (ae (aa (by rfl)) aj) (by exact eE hsrc)) (by intro i;exact fun h=>by cases h) (by rfl) (by exact loop))
  (ai (eN (c9 (aa (by rfl)) aj (by exact rv)))
  (ai (aR (aD (aa (by rfl)) (ae (aa (by rfl)) (ae (aa (by rfl)) aj)) (by exact bg c2 rfl)) (by rfl))
  (bS (dB (gi (ae (aa (by rfl)) (ae (aa (by rfl)) aj))))))))))))
  (by rfl)) ?_
 have:st2.σ.take st.σ.length=st.σ:=by rw[←hst2];simp
 simp only[eZ,fF,bW,bX,bY,bZ,b6,b7,bP,eV,eY,this]
end
end Rk.L01
end

section
set_option exponentiation.threshold 100
namespace Rk.L01
open PySem Rk
section
variable {B M:Nat} {st:ao}
theorem FO{F a b:Nat}(hb:0<b)(hn:M1 (b:Int)≤7999)(ha:a<2^B)(hM:(B+M1 (b:Int)-1)/M1 (b:Int)≤M)(hsz:M1 (b:Int)*M≤100000)(hM1:M≤100000)(hF:M+4≤F):
  aO av.P F (.fn 4) [.int (a:Int),.int (b:Int)] none st=some (.tup [.int ((a/b:Nat):Int),.int ((a%b:Nat):Int)],st):=by
 have h1:(M1 (a:Int)+M1 (b:Int)-1)/M1 (b:Int)≤M:=
  M8 (TQ (by have:=bits_le ha;omega)) hM
 exact xg hb rfl hn rfl (by lia) (M8 (OT _ h1) hsz) (by lia)
theorem BQ{b:Int}{O:cQ}{en:En}{i:Nat}{q1 q2 q3:NW}(h:cC en st i=some (.int b)):a_ (ak O (.cmp .Eq (.var i q1) (.cI 0 0 q2) q3) .test en st)=some (decide (b=0),st):=aW (aa h) rfl rfl
theorem pX{b:Int}{O:cQ}{en:En}{i:Nat}{q1 q2 q3:NW}(h:cC en st i=some (.int b)):a_ (ak O (.cmp .Lt (.var i q1) (.cI 0 0 q2) q3) .test en st)=some (decide (b<0),st):=aW (aa h) rfl rfl
theorem IW{F:Nat}{a:Int}{b:Nat}(hb:0<b)(hn:M1 (b:Int)≤7999)(ha:a.natAbs<2^B)(hM:(B+M1 (b:Int)-1)/M1 (b:Int)≤M)(hsz:M1 (b:Int)*M≤100000)(hM1:M≤100000)(hF:M+6≤F):
  aO av.P F (.fn 5) [.int a,.int (b:Int)] none st=some (.tup [.int (a.fdiv b),.int (a.fmod b)],st):=by
 have hb0:¬(b:Int)=0:=by lia
 have hbl:¬(b:Int)<0:=by lia
 have pos:∀(F:Nat) (a:Nat),a<2^B→M+5≤F→aO av.P F (.fn 5) [.int (a:Int),.int (b:Int)] none st=some (.tup [.int ((a/b:Nat):Int),.int ((a%b:Nat):Int)],st):=fun F a ha hF=>by
  obtain⟨F,rfl⟩:∃F',F=F'+1:=⟨F-1,by lia⟩
  have c:=FO (F:=F) (st:=st) hb hn ha hM hsz hM1 (by lia)
  refine Oj (call_top (vals:=[.int (a:Int),.int (b:Int)]) (fl:=.ret (.tup [.int ((a/b:Nat):Int),.int ((a%b:Nat):Int)])) (st':=st) (by rfl) (by rfl)
   (aG (aI (by exact(BQ rfl).trans (by rw[decide_eq_false hb0])) (aG (aI (by exact(pX rfl).trans (by rw[decide_eq_false hbl]))
    (aG (aI (by exact(pX (b:=(a:Int)) rfl).trans (by rw[decide_eq_false (by lia)])) (bS (dB (aD (aa (by rfl)) (ae (aa (by rfl)) (ae (aa (by rfl)) aj)) (by exact bg c rfl)))))))))) (by rfl)) ?_
  simp[eZ,fF,bW,bX,bY,bZ,b6,b7,bP,eV,eY]
 by_cases h:a<0
 ·obtain⟨F,rfl⟩:∃F',F=F'+1:=⟨F-1,by lia⟩
  obtain⟨c,rfl⟩:∃c:Nat,a= -(c:Int)-1:=⟨(-a-1).toNat,by lia⟩
  have hc:c<2^B:=by lia
  have cc:=pos F c hc (by lia)
  have hbn:OD (-(c:Int)-1)=(c:Int):=by unfold OD;lia
  have hdm:=Ox c b
  have hml:=O2 c hb
  have u:=(Rj (a:= -(c:Int)-1) (b:=(b:Int)) (q:= -((c/b:Nat):Int)-1) (r:=(b:Int)-((c%b:Nat):Int)-1) (by lia)).mpr
   ⟨by
    have:(b:Int)*((c/b:Nat):Int)+((c%b:Nat):Int)=(c:Int):=by exact_mod_cast hdm
    rw[Int.mul_sub,Int.mul_neg];lia,by lia,by lia⟩
  rw[u.1,u.2]
  refine Oj (call_top (vals:=[.int (-(c:Int)-1),.int (b:Int)]) (fl:=.ret (.tup [.int (-((c/b:Nat):Int)-1),.int ((b:Int)+OD ((c%b:Nat):Int))])) (st':=st) (by rfl) (by rfl)
   (aG (aI (by exact(BQ rfl).trans (by rw[decide_eq_false hb0])) (aG (aI (by exact(pX rfl).trans (by rw[decide_eq_false hbl]))
    (aG (bu (by exact(pX rfl).trans (by rw[decide_eq_true h]))
     (ai (ff (aD (aa (by rfl)) (ae (BL (aa (by rfl))) (ae (aa (by rfl)) aj)) (by rw[hbn];exact bg cc rfl)) (by rfl))
      (bS (dB (gi (ae (BL (aa (by rfl))) (ae (aq (aa (by rfl)) (BL (aa (by rfl))) (by rfl)) aj)))))))))))) (by rfl)) ?_
  have e:(b:Int)+OD ((c%b:Nat):Int)=(b:Int)-((c%b:Nat):Int)-1:=by unfold OD;lia
  simp only[eZ,fF,bW,bX,bY,bZ,b6,b7,bP,eV,eY,Of,e]
 ·obtain⟨c,rfl⟩:∃c:Nat,a=(c:Int):=⟨a.toNat,by lia⟩
  rw[mS,uT]
  exact pos F c (by simpa using ha) (by lia)
theorem dm{F:Nat}{a b:Int}(hb:b≠0)(hn:M1 (b.natAbs:Int)≤7999)(ha:a.natAbs<2^B)(hM:(B+M1 (b.natAbs:Int)-1)/M1 (b.natAbs:Int)≤M)(hsz:M1 (b.natAbs:Int)*M≤100000)(hM1:M≤100000)(hF:M+7≤F):
  aO av.P F (.fn 5) [.int a,.int b] none st=some (.tup [.int (a.fdiv b),.int (a.fmod b)],st):=by
 by_cases h:b<0
 ·obtain⟨F,rfl⟩:∃F',F=F'+1:=⟨F-1,by lia⟩
  obtain⟨c,rfl⟩:∃c:Nat,b= -(c:Int):=⟨(-b).toNat,by lia⟩
  have e1:((-(c:Int)).natAbs:Int)=(c:Int):=by rw[VG,Ny]
  rw[e1]at hn hM hsz
  have cc:=IW (F:=F) (a:= -a) (b:=c) (st:=st) (by lia) hn (by rw[VG];exact ha) hM hsz hM1 (by lia)
  have e2:a.fdiv (-(c:Int))=(-a).fdiv c:=by rw[←Int.neg_fdiv_neg,Vm]
  have e3:a.fmod (-(c:Int))= -((-a).fmod c):=by
   have:=Int.neg_fmod_neg a (-(c:Int))
   rw[Vm]at this;lia
  rw[e2,e3]
  refine Oj (call_top (vals:=[.int a,.int (-(c:Int))]) (fl:=.ret (.tup [.int ((-a).fdiv c),.int (-((-a).fmod c))])) (st':=st) (by rfl) (by rfl)
   (aG (aI (by exact(BQ rfl).trans (by rw[decide_eq_false hb])) (aG (bu (by exact(pX rfl).trans (by rw[decide_eq_true h]))
    (ai (ff (aD (aa (by rfl)) (ae (uN (aa (by rfl))) (ae (uN (aa (by rfl))) aj)) (by rw[Vm];exact bg cc rfl)) (by rfl))
     (bS (dB (gi (ae (aa (by rfl)) (ae (uN (aa (by rfl))) aj)))))))))) (by rfl)) ?_
  simp only[eZ,fF,bW,bX,bY,bZ,b6,b7,bP,eV,eY,Of]
 ·obtain⟨c,rfl⟩:∃c:Nat,b=(c:Int):=⟨b.toNat,by lia⟩
  rw[Ny]at hn hM hsz
  exact IW (by lia) hn ha hM hsz hM1 (by lia)
end
end Rk.L01
end

section
set_option exponentiation.threshold 100
namespace Rk.L01
open PySem Rk
theorem cz{l:List Nat}(h:∀c∈l,c<1114112):(V.str l).data=true:=by
 simp only[Ah,NB,decide_eq_true_eq];exact h
noncomputable def aS:Bool→Option Nat→List Nat→List Nat→List Nat
 |_,_,cur,[]=>cur
 |true,op,cur,c::r=>aS false op (cur++[c]) r
 |false,op,cur,c::r=>
  if c=92 then aS true op (cur++[c]) r
  else if c=34 then (match op with
   |none=>aS false (some cur.length) (cur++[c]) r
   |some o=>cur.take o++aS false none [] r)
  else aS false op (cur++[c]) r
theorem cO(e:Bool)(op:Option Nat)(cur:List Nat):aS e op cur []=cur:=by cases e<;>rfl
theorem b_(op:Option Nat)(cur:List Nat)(c:Nat)(r:List Nat):aS true op cur (c::r)=aS false op (cur++[c]) r:=rfl
theorem bE(op:Option Nat)(cur:List Nat)(c:Nat)(r:List Nat):aS false op cur (c::r)=if c=92 then aS true op (cur++[c]) r
  else if c=34 then (match op with
   |none=>aS false (some cur.length) (cur++[c]) r
   |some o=>cur.take o++aS false none [] r)
  else aS false op (cur++[c]) r:=rfl
noncomputable def dP:Bool→Int→List Nat→Bool
 |_,o,[]=>decide (o=0)
 |true,o,_::r=>dP false o r
 |false,o,c::r=>
  if c=92 then dP true o r
  else if c=40 then dP false (o+1) r
  else if c=41 then (if o-1<0 then false else dP false (o-1) r)
  else dP false o r
theorem FP(e:Bool)(o:Int):dP e o []=decide (o=0):=by cases e<;>rfl
theorem BR(o:Int)(c:Nat)(r:List Nat):dP true o (c::r)=dP false o r:=rfl
theorem tu(o:Int)(c:Nat)(r:List Nat):dP false o (c::r)=if c=92 then dP true o r
  else if c=40 then dP false (o+1) r
  else if c=41 then (if o-1<0 then false else dP false (o-1) r)
  else dP false o r:=rfl
theorem gR:∀(e:Bool) (cur l:List Nat),34∉l→aS e none cur l=cur++l
 |e,cur,[],_=>by cases e<;>simp[cO,b_,bE]
 |true,cur,c::r,h=>by
  simp only[cO,b_,bE]
  rw[gR false _ r fun q=>h (MY _ q)];simp
 |false,cur,c::r,h=>by
  have h1:c≠34:=fun q=>h (by simp[q])
  simp only[cO,b_,bE,if_neg h1]
  split
  ·rw[gR true _ r fun q=>h (MY _ q)];simp
  ·rw[gR false _ r fun q=>h (MY _ q)];simp
theorem gz:∀(l:List Nat) (e:Bool) (op:Option Nat) (cur:List Nat),(aS e op cur l).length≤cur.length+l.length
 |[],e,op,cur=>by cases e<;>simp[cO,b_,bE]
 |c::r,true,op,cur=>by simp only[cO,b_,bE];have:=gz r false op (cur++[c]);simp at this ⊢;lia
 |c::r,false,op,cur=>by
  simp only[cO,b_,bE]
  split
  ·have:=gz r true op (cur++[c]);simp at this ⊢;lia
  ·split
   ·split
    ·have:=gz r false (some cur.length) (cur++[c]);simp at this ⊢;lia
    ·have:=gz r false none [];simp at this ⊢;lia
   ·have:=gz r false op (cur++[c]);simp at this ⊢;lia
theorem kP:∀(l:List Nat) (e:Bool) (op:Option Nat) (cur:List Nat) (x:Nat),x∈aS e op cur l→x∈cur∨x∈l
 |[],e,op,cur,x,h=>by cases e<;>(simp[cO,b_,bE]at h;exact .inl h)
 |c::r,true,op,cur,x,h=>by
  simp only[cO,b_,bE]at h
  rcases kP r _ _ _ x h with h|h
  ·simp at h ⊢;rcases h with h|h<;>simp[h]
  ·simp[h]
 |c::r,false,op,cur,x,h=>by
  have k:∀(e:Bool) (op:Option Nat),x∈aS e op (cur++[c]) r→x∈cur∨x∈c::r:=fun e op h=>by
   rcases kP r _ _ _ x h with h|h
   ·simp at h ⊢;rcases h with h|h<;>simp[h]
   ·simp[h]
  simp only[cO,b_,bE]at h
  split at h
  ·exact k _ _ h
  ·split at h
   ·split at h
    ·exact k _ _ h
    ·rcases MX.mp h with h|h
     ·exact .inl (O5 h)
     ·rcases kP r _ _ _ x h with h|h
      ·simp at h
      ·simp[h]
   ·exact k _ _ h
section
variable {st:ao}
theorem j_(a b:List Nat)(ha:∀c∈a,c<1114112)(hb:∀c∈b,c<1114112):iU .Eq (.str a) (.str b)=some (decide (a=b)):=by
 simp only[vF,nc,iz,cz ha,cz hb,Ac,Ae,Af,Ag];rfl
theorem mU{n i:Nat}(h:i≤n):clipAt n (i:Int)=i:=by
 unfold clipAt
 rw[if_neg (QA.mpr (Nx i)),Int.min_eq_left (U1.mpr h),Int.max_eq_right (Nx i),NQ]
theorem IX(l:List Nat){a b:Nat}(ha:a≤b)(hb:b≤l.length):qx (.str l) (.int a) (.int b) .none=some (.str ((l.drop a).take (b-a))):=by
 show some (V.str (iV l (some (a:Int)) (some (b:Int))))=_
 unfold iV
 simp only[RX,mU hb,mU (M8 ha hb)]
theorem FQ(l:List Nat){a:Nat}(ha:a≤l.length):qx (.str l) (.int a) .none .none=some (.str (l.drop a)):=by
 show some (V.str (iV l (some (a:Int)) none))=_
 unfold iV
 simp only[RX,mU ha]
 rw[NU (by simp)]
theorem nY{O:cQ}{a lo hi s:E}{x l h k v:V}{md:Md}{en:En}{st st1 st2 st3 st4:ao}{q p:NW}(h1:ak O a .val en st=some (x,st1))(h2:ak O lo .val en st1=some (l,st2))(h3:ak O hi .val en st2=some (h,st3))(h4:ak O s .val en st3=some (k,st4))(h5:qx (aJ st4 x) l h k=some v):
  ak O (.slc a lo hi s q p) md en st=some (v,st4):=aA h1 (aA h2 (aA h3 (aA h4 (bind_eq h5 rfl))))
end
noncomputable def jo(l:List Nat)(start:Nat)(op:V)(j:Nat)(pos ch:Option V)(kb:Nat):En:=⟨[.loc (some (.str l)),.loc (some (.int start)),.loc (some op),.loc (some (.ref j)),.loc pos,.loc ch,.cY (.fn 10),.cY (.bi .len)],kb⟩
noncomputable def IY:Option Nat→Nat→V
 |none,_=>.none
 |some o,s=>.int ((s+o:Nat):Int)
section
variable {O:cQ} {N:Nat→Nf} {l:List Nat} {j kb:Nat}
noncomputable def SH:Ss→S
 |.cons (.ite _ (.cons (.ite _ _ (.cons s _) _) _) _ _) _=>s
 |_=>.qw default
noncomputable def Dy:T:=xd (tl (tl (tl (tl av.tW))))
noncomputable def zZ:Ss:=qK (tl (tl (tl (tl av.tW))))
noncomputable def aZ(l:List (List Nat)):List V:=l.map V.str
theorem tw{start i:Nat}{op:V}{pos ch:Option V}{st:ao}{x:List Nat}{p:Int}(hx:x≠[34])(hx2:∀c∈x,c<1114112){r:List V}{out:Option (Fl×En×ao)}
  (h:fk Dy (fun en st=>aE O N zZ en st) r (jo l start op j (some (.int p)) (some (.str x)) kb) st=out):
  fk Dy (fun en st=>aE O N zZ en st) (.tup [.int p,.str x]::r) (jo l start op j pos ch kb) st=out:=
 bz (bV:=jo l start op j (some (.int p)) (some (.str x)) kb) (st1:=st) (en2:=jo l start op j (some (.int p)) (some (.str x)) kb) (st2:=st) (by rfl)
  (aG (aI (aW (aa (by rfl)) (by rfl) (by exact(j_ x [34] hx2 (by decide)).trans (by rw[decide_eq_false hx]))) bK)) h
structure SI (l:List Nat) (j i start:Nat) (op:Option Nat) (cur r:List Nat) (res:List (List Nat)) (st:ao):Prop where
 hr:l.drop i=r
 hs:start≤i
 ho:∀o,op=some o→start+o<i
 hc:cur=(l.drop start).take (i-start)
 kM:st.σ[j]? =some (aZ res)
 hn:res.length+r.length≤lid-1
inductive SO (O:cQ) (N:Nat→Nf) (l:List Nat) (j kb:Nat) (items:List V) (en:En) (st:ao) (txt:List Nat):Prop
 |mk (start':Nat) (op':V) (pos' ch':Option V) (res':List (List Nat)) (h1:fk Dy (fun en st=>aE O N zZ en st) items en st=some (.bU,jo l start' op' j pos' ch' kb,{ st with σ:=st.σ.set j (aZ res') }))
  (h2:start'≤l.length) (h3:res'.length+1≤lid) (h4:res'.flatten++l.drop start'=txt)
theorem SO.pre{items items':List V}{en bV:En}{st st1:ao}{txt:List Nat}(hstep:∀{out},fk Dy (fun en st=>aE O N zZ en st) items' bV st1=out→fk Dy (fun en st=>aE O N zZ en st) items en st=out)
  (hset:∀x,({ st1 with σ:=st1.σ.set j x }:ao)={ st with σ:=st.σ.set j x }) (S:SO O N l j kb items' bV st1 txt):SO O N l j kb items en st txt:=by
 obtain⟨s',o',p',c',r',h1,h2,h3,h4⟩:=S
 exact⟨s',o',p',c',r',hstep (h1.trans (by rw[hset])),h2,h3,h4⟩
section
variable {i start:Nat} {op:Option Nat} {cur r:List Nat} {res:List (List Nat)} {st:ao} {c:Nat}
theorem SI.lt(I:SI l j i start op cur (c::r) res st):i<l.length:=(MW.mp (jM I.hr).1).1
theorem SI.len(I:SI l j i start op cur r res st)(h:i≤l.length):start+cur.length=i:=by
 rw[I.hc,Pk,Qo,PZ (Rh h _),OB I.hs]
theorem SI.step(I:SI l j i start op cur (c::r) res st){op':Option Nat}(ho:∀o,op'=some o→start+o≤i):SI l j (i+1) start op' (cur++[c]) r res st:=by
 obtain⟨h1,h2⟩:=jM I.hr
 refine⟨h2,Nat.le_succ_of_le I.hs,fun o h=>Nat.lt_succ_of_le (ho o h),?_,I.kM,M8 (Ua (Qg _) _) I.hn⟩
 rw[Nat.sub_add_comm I.hs,QL,←I.hc,Ut,OB I.hs,h1];rfl
theorem SI.same(I:SI l j i start op cur (c::r) res st):SI l j (i+1) start op (cur++[c]) r res st:=I.step fun o h=>NH (I.ho o h)
theorem SI.cut(I:SI l j i start op cur (c::r) res st){st2:ao}{res2:List (List Nat)}(h:st2.σ[j]? =some (aZ res2))(hn:res2.length≤res.length+1):SI l j (i+1) (i+1) none [] r res2 st2:=
 ⟨(jM I.hr).2,M9 _,nofun,by rw[Rv];rfl,h,by have:=I.hn;rw[NS]at this;lia⟩
theorem strip_end{e:Bool}{pos ch:Option V}(I:SI l j i start op cur [] res st)(hi:i≤l.length):SO O N l j kb (cK (i:Int) e []) (jo l start (IY op start) j pos ch kb) st (res.flatten++aS e op cur []):=by
 have hset:({ st with σ:=st.σ.set j (aZ res) }:ao)=st:=by
  obtain⟨h1,h2⟩:=MW.mp I.kM
  rw[←h2,Qa h1]
 have hil:l.length≤i:=PE.mp I.hr
 have h3:res.length+1≤lid:=Nat.add_le_of_le_sub (by decide) I.hn
 have h4:res.flatten++l.drop start=res.flatten++aS e op cur []:=by rw[cO,I.hc,NU (by rw[Qo];exact Rh hil _)]
 cases e with
 |false=>exact⟨start,IY op start,pos,ch,res,by rw[hset];rfl,M8 I.hs hi,h3,h4⟩
 |true=>exact⟨start,IY op start,some (.int ((i:Int)-1)),some (.str [92]),res,by rw[hset];exact tw (i:=i) (by decide) (by decide) iM,M8 I.hs hi,h3,h4⟩
theorem IZ:iU .Eq (.str [34]) (.str [34])=some true:=(j_ [34] [34] (by decide) (by decide)).trans (by rw[decide_eq_true rfl])
theorem Dz{pos ch:Option V}{its:List V}{out:Option (Fl×En×ao)}(h:fk Dy (fun en st=>aE O N zZ en st) its (jo l start (.int (i:Int)) j (some (.int i)) (some (.str [34])) kb) st=out):
  fk Dy (fun en st=>aE O N zZ en st) (.tup [.int i,.str [34]]::its) (jo l start .none j pos ch kb) st=out:=
 bz (bV:=jo l start .none j (some (.int i)) (some (.str [34])) kb) (st1:=st) (st2:=st) (by rfl)
  (aG (bu (aW (aa (by rfl)) (by rfl) (by exact IZ)) (aG (bu (aW (aa (by rfl)) (by rfl) (by rfl)) (aG (aR (aa (by rfl)) (by rfl))))))) h
theorem BS{o:Int}{st2:ao}{pos ch:Option V}{its:List V}{out:Option (Fl×En×ao)}(hcut:∀en,en=jo l start (.int o) j (some (.int i)) (some (.str [34])) kb→aX O N (SH zZ) en st=some (.bU,en,st2))
  (h:fk Dy (fun en st=>aE O N zZ en st) its (jo l (i+1) .none j (some (.int i)) (some (.str [34])) kb) st2=out):
  fk Dy (fun en st=>aE O N zZ en st) (.tup [.int i,.str [34]]::its) (jo l start (.int o) j pos ch kb) st=out:=
 bz (bV:=jo l start (.int o) j (some (.int i)) (some (.str [34])) kb) (st1:=st) (st2:=st2) (by rfl)
  (aG (bu (aW (aa (by rfl)) (by rfl) (by exact IZ)) (aG (aI (aW (aa (by rfl)) (by rfl) (by rfl))
   (ai (by exact hcut _ rfl) (ai (aR (aq (aa (by rfl)) (by rfl) (by exact nU i 1)) (by rfl)) (aG (aR (by rfl) (by rfl))))))))) h
theorem BU{pos ch:Option V}(en:En)(h:en=jo l start (.int ((start+0:Nat):Int)) j pos ch kb):aX O N (SH zZ) en st=some (.bU,en,st):=by
 subst h
 exact aI (aW (aa (by rfl)) (aa (by rfl)) (by show some (!decide ((start:Int)=((start+0:Nat):Int)))=_;simp)) bK
theorem BV(hl:∀c∈l,c<1114112)(I:SI l j i start op cur (c::r) res st){o:Nat}(h0:o≠0)(ho:start+o<i){pos ch:Option V}(en:En)(h:en=jo l start (.int ((start+o:Nat):Int)) j pos ch kb):
  aX O N (SH zZ) en st=some (.bU,en,{ st with σ:=st.σ.set j (aZ (res++[cur.take o])) }):=by
 subst h
 have hle:start+o≤l.length:=NH (QN ho I.lt)
 have hcut:(l.drop start).take o=cur.take o:=by rw[I.hc,List.take_take,PZ (Nat.le_sub_of_add_le' (NH ho))]
 have hsl:=IX l (N_ start o) hle
 rw[NZ,hcut]at hsl
 have happ:eG st .append (.ref j) [.str (cur.take o)]=some (.none,{ st with σ:=st.σ.set j (aZ (res++[cur.take o])) }):=by
  rw[fS I.kM (cz fun x hx=>hl x (OI (O5 (hcut▸hx)))) (by have:=I.hn;simp[aZ];simp at this;unfold lid at this ⊢;lia)];simp[aZ]
 exact bu (aW (aa (by rfl)) (aa (by rfl)) (by show some (!decide ((start:Int)=((start+o:Nat):Int)))=_;rw[decide_eq_false (by lia)];rfl))
  (aG (eN (c9 (aa (by rfl)) (ae (nY (aa (by rfl)) (aa (by rfl)) (aa (by rfl)) (by rfl) (by exact hsl)) aj) (by exact happ))))
end
theorem xh{c:Nat}(h:c<1114112):∀x∈[c],x<1114112:=fun _ hx=>M4.mp hx▸h
theorem BW{c:Nat}(h:c<1114112):∀x∈[92,c],x<1114112:=Oc.mpr ⟨by decide,xh h⟩
theorem eO(hl:∀c∈l,c<1114112):∀(r:List Nat) (i:Nat) (e:Bool) (start:Nat) (op:Option Nat) (cur:List Nat) (res:List (List Nat)) (pos ch:Option V) (st:ao),SI l j i start op cur r res st→i≤l.length→
  SO O N l j kb (cK (i:Int) e r) (jo l start (IY op start) j pos ch kb) st (res.flatten++aS e op cur r)
 |[],i,e,start,op,cur,res,pos,ch,st,I,hi=>strip_end I hi
 |c::r,i,true,start,op,cur,res,pos,ch,st,I,hi=>by
  have hcm:=hl c (Nh (jM I.hr).1)
  exact(eO hl r (i+1) false start op (cur++[c]) res (some (.int i)) (some (.str [92,c])) st I.same I.lt).pre (tw (i:=i) (by simp) (BW hcm)) fun _=>rfl
 |c::r,i,false,start,op,cur,res,pos,ch,st,I,hi=>by
  by_cases h92:c=92
  ·rw[jL,bE,if_pos h92,if_pos h92]
   exact eO hl r (i+1) true start op (cur++[c]) res pos ch st I.same I.lt
  ·rw[jL,bE,if_neg h92,if_neg h92]
   by_cases h34:c=34
   ·rw[if_pos h34,h34]
    rw[h34]at I
    cases op with
    |none=>
     have h:=eO hl r (i+1) false start (some cur.length) (cur++[34]) res (some (.int i)) (some (.str [34])) st (I.step fun o h=>QJ (M0 h▸I.len hi)) I.lt
     rw[show IY (some cur.length) start= .int (i:Int)from congrArg (fun n:Nat=>V.int (n:Int)) (I.len hi)]at h
     exact h.pre Dz fun _=>rfl
    |some o=>
     show SO O N l j kb _ _ st (res.flatten++(cur.take o++aS false none [] r))
     rw[←M_]
     by_cases hoz:o=0
     ·subst hoz
      rw[List.take_zero,Nc]
      exact(eO hl r (i+1) false (i+1) none [] res (some (.int i)) (some (.str [34])) st (I.cut I.kM (Qg _)) I.lt).pre (BS BU) fun _=>rfl
     ·have hj:j<st.σ.length:=(MW.mp I.kM).1
      have h:=eO hl r (i+1) false (i+1) none [] (res++[cur.take o]) (some (.int i)) (some (.str [34])) { st with σ:=st.σ.set j (aZ (res++[cur.take o])) } (I.cut (Nv hj) (by simp)) I.lt
      rw[List.flatten_append,List.flatten_singleton]at h
      exact h.pre (BS (BV hl I hoz (I.ho o rfl))) fun x=>congrArg (ao.mk st.κ) (Ru ..)
   ·rw[if_neg h34]
    have hcm:=hl c (Nh (jM I.hr).1)
    exact(eO hl r (i+1) false start op (cur++[c]) res (some (.int i)) (some (.str [c])) st I.same I.lt).pre (tw (i:=i) (fun h=>h34 (P5 h).1) (xh hcm)) fun _=>rfl
end
end Rk.L01
end

section
set_option exponentiation.threshold 100
namespace Rk.L01
open PySem Rk
theorem nZ:∀l:List (List Nat),strsOf (aZ l)=some l
 |[]=>rfl
 |x::r=>by
  have:=nZ r
  simp only[aZ,Nz,Al,Am]at this ⊢
  rw[this];rfl
theorem u0(l:List (List Nat)):(aZ l).length=l.length:=Nq ..
noncomputable def sT:S→E
 |.ite t _ _ _=>t
 |_=>.bH
section
variable {st:ao} {k:Nat}
theorem pY{l:List Nat}(hl:∀c∈l,c<1114112)(hlen:l.length+10≤lid):aO av.P (k+1) (.fn 11) [.str l] none st=some (.str (aS false none [] l),st):=by
 by_cases hq:34∈l
 ·have hj:({ st with σ:=st.σ++[[]] }:ao).σ[st.σ.length]? =some (aZ []):=by simp[aZ]
  obtain⟨s',o',p',c',r',h1,h2,h3,h4⟩:=eO (O:=⟨aO av.P k,av.P.gen⟩) (N:=av.P.N) (kb:=st.κ.length) hl l 0 false 0 none [] [] none none { st with σ:=st.σ++[[]] } ⟨rfl,M9 _,nofun,rfl,hj,by simp;lia⟩ (NG _)
  simp only[List.flatten_nil,Oz]at h4
  have hset:∀x:List V,(st.σ++[[]]).set st.σ.length x=st.σ++[x]:=fun x=>by rw[N7 _ _ (M9 _)];simp
  rw[show({ ({ st with σ:=st.σ++[[]] }:ao)with σ:=({ st with σ:=st.σ++[[]] }:ao).σ.set st.σ.length (aZ r') }:ao)={ st with σ:=st.σ++[aZ r'] } by simp[hset]]at h1
  have hgen:av.P.gen (.fn 10) [.str l]=some (fX l):=rfl
  have hsl:=gz l false none []
  have jn:∀(res:List (List Nat)),res.flatten=aS false none [] l→eG { st with σ:=st.σ++[aZ res] } .join (.str []) [.ref st.σ.length]=some (.str (aS false none [] l),{ st with σ:=st.σ++[aZ res] }):=fun res h=>by
   have hd:aJ { st with σ:=st.σ++[aZ res] } (.ref st.σ.length)= .lst (aZ res):=by simp[cP]
   simp only[CK,CG,CJ,E4,CH,Va,hd,nZ,h]
   rw[if_pos (by simp at hsl;lia)]
  have fin:∀(res:List (List Nat)) {en:En},res.flatten=aS false none [] l→en.ρ[3]? =some (.loc (some (.ref st.σ.length)))→
    aE ⟨aO av.P k,av.P.gen⟩ av.P.N (tl (tl (tl (tl (tl (tl av.tW)))))) en { st with σ:=st.σ++[aZ res] }=some (.ret (.str (aS false none [] l)),en,{ st with σ:=st.σ++[aZ res] }):=fun res {en} h he=>
   bS (dB (c9 (by rfl) (ae (aa (v:=.ref st.σ.length) (by unfold cC;rw[he])) aj) (by exact jn res h)))
  have tst:∀{b:Bool} {st2:ao},decide (s'<l.length)=b→a_ (ak ⟨aO av.P k,av.P.gen⟩ (sT (sF (tl (tl (tl (tl (tl av.tW))))))) .test (jo l s' o' st.σ.length p' c' st.κ.length) st2)=some (b,st2):=fun{b st2} hb=>
   aW (aa (by rfl)) (aD (aa (by rfl)) (ae (aa (by rfl)) aj) (by exact fg rfl rfl)) (by show some (decide ((s':Int)<(l.length:Int)))=_;rw[←hb];congr 1;simp)
  have body:∀(res:List (List Nat)) (en2:En),res.flatten=aS false none [] l→en2.ρ[3]? =some (.loc (some (.ref st.σ.length)))→
    aX ⟨aO av.P k,av.P.gen⟩ av.P.N (sF (tl (tl (tl (tl (tl av.tW)))))) (jo l s' o' st.σ.length p' c' st.κ.length) { st with σ:=st.σ++[aZ r'] }=some (.bU,en2,{ st with σ:=st.σ++[aZ res] })→
    aE ⟨aO av.P k,av.P.gen⟩ av.P.N av.tW ⟨[.loc (some (.str l)),.loc none,.loc none,.loc none,.loc none,.loc none,.cY (.fn 10),.cY (.bi .len)],st.κ.length⟩ st=some (.ret (.str (aS false none [] l)),en2,{ st with σ:=st.σ++[aZ res] }):=fun res en2 hr he hb=>
   ai (aI (aW (by rfl) (aa (by rfl)) (by show some (!decide (34∈l))=_;rw[decide_eq_true hq];rfl)) bK)
    (ai (aR (by rfl) (by rfl)) (ai (aR (by rfl) (by rfl)) (ai (bV:=jo l 0 .none st.σ.length none none st.κ.length) (aR (by rfl) (by rfl))
     (ai (gP (aD (aa (by rfl)) (ae (aa (by rfl)) aj) (by exact tq hgen)) (by intro i;exact fun h=>by cases h) (by rfl) (by exact h1))
      (ai (by exact hb) (by exact fin res hr he))))))
  have hr:∀(res:List (List Nat)) (en2:En),aE ⟨aO av.P k,av.P.gen⟩ av.P.N av.tW ⟨[.loc (some (.str l)),.loc none,.loc none,.loc none,.loc none,.loc none,.cY (.fn 10),.cY (.bi .len)],st.κ.length⟩ st=some (.ret (.str (aS false none [] l)),en2,{ st with σ:=st.σ++[aZ res] })→
    aO av.P (k+1) (.fn 11) [.str l] none st=some (.str (aS false none [] l),st):=fun res en2 h=>by
   refine Oj (call_top (vals:=[.str l]) (fl:=.ret (.str (aS false none [] l))) (st':={ st with σ:=st.σ++[aZ res] }) (by rfl) (by rfl) (by exact h) (by rfl)) ?_
   simp[eZ,fF,bW,bX,bY,bZ,b6,b7,bP]
  by_cases hs:s'<l.length
  ·have happ:eG { st with σ:=st.σ++[aZ r'] } .append (.ref st.σ.length) [.str (l.drop s')]=some (.none,{ st with σ:=st.σ++[aZ (r'++[l.drop s'])] }):=by
    rw[fS (l:=aZ r') (by simp) (cz fun x hx=>hl x (OI hx)) (by rw[u0];lia)]
    congr 3
    rw[N7 _ _ (M9 _)];simp[aZ]
   exact hr (r'++[l.drop s']) _ (body _ _ (by simp[h4]) (by rfl) (bu (by exact tst (decide_eq_true hs)) (aG (eN (c9 (aa (by rfl)) (ae (nY (aa (by rfl)) (aa (by rfl)) (by rfl) (by rfl) (by exact FQ l h2)) aj) (by exact happ))))))
  ·have:l.drop s'=[]:=QV (by lia)
   rw[this,Nc]at h4
   exact hr r' _ (body _ _ h4 (by rfl) (aI (by exact tst (decide_eq_false hs)) bK))
 ·rw[gR _ _ _ hq,Oz]
  refine Oj (call_top (vals:=[.str l]) (fl:=.ret (.str l)) (st':=st) (by rfl) (by rfl)
   (bS (bu (aW (by rfl) (aa (by rfl)) (by show some (!decide (34∈l))=_;rw[decide_eq_false hq];rfl)) (bS (dB (aa (by rfl)))))) (by rfl)) ?_
  simp[eZ,fF,bW,bX,bY,bZ,b6,b7,bP]
end
noncomputable def qL(s:List Nat)(o:Int)(pos ch:Option V)(kb:Nat):En:=⟨[.loc (some (.str s)),.loc (some (.int o)),.loc pos,.loc ch,.cY (.fn 11),.cY (.fn 10)],kb⟩
section
variable {O:cQ} {N:Nat→Nf} {s:List Nat} {kb:Nat} {st:ao}
noncomputable def HD:T:=xd (tl (tl av.E5))
noncomputable def HE:Ss:=qK (tl (tl av.E5))
theorem mV{o:Int}{pos ch:Option V}{x:List Nat}{p:Int}{o2:Int}{r:List V}{out:Option (Fl×En×ao)}(hx2:∀c∈x,c<1114112)
  (h:(x=[40]∧o2=o+1)∨(x=[41]∧o2=o-1∧ ¬o-1<0)∨(x≠[40]∧x≠[41]∧o2=o)) (hk:fk HD (fun en st=>aE O N HE en st) r (qL s o2 (some (.int p)) (some (.str x)) kb) st=out):
  fk HD (fun en st=>aE O N HE en st) (.tup [.int p,.str x]::r) (qL s o pos ch kb) st=out:=by
 refine bz (bV:=qL s o (some (.int p)) (some (.str x)) kb) (st1:=st) (en2:=qL s o2 (some (.int p)) (some (.str x)) kb) (st2:=st) (by rfl) ?_ hk
 clear hk
 rcases h with⟨rfl,rfl⟩|⟨rfl,rfl,hn⟩|⟨h1,h2,rfl⟩
 ·exact aG (bu (aW (aa (by rfl)) (by rfl) (by exact(j_ [40] [40] (by decide) (by decide)).trans (by rw[decide_eq_true rfl]))) (aG (mO (by rfl) (by rfl) (by rfl) (by rfl))))
 ·exact aG (aI (aW (aa (by rfl)) (by rfl) (by exact(j_ [41] [40] (by decide) (by decide)).trans (by rw[decide_eq_false (by decide)])))
   (aG (bu (aW (aa (by rfl)) (by rfl) (by exact(j_ [41] [41] (by decide) (by decide)).trans (by rw[decide_eq_true rfl])))
    (ai (mO (by rfl) (by rfl) (by rfl) (by rfl)) (aG (aI (by exact(pX rfl).trans (by rw[decide_eq_false hn])) bK))))))
 ·exact aG (aI (aW (aa (by rfl)) (by rfl) (by exact(j_ x [40] hx2 (by decide)).trans (by rw[decide_eq_false h1])))
   (aG (aI (aW (aa (by rfl)) (by rfl) (by exact(j_ x [41] hx2 (by decide)).trans (by rw[decide_eq_false h2]))) bK)))
inductive I0 (O:cQ) (N:Nat→Nf) (s:List Nat) (kb:Nat) (st:ao) (items:List V) (en:En) (b:Bool):Prop
 |ret (en':En) (h1:b=false) (h2:fk HD (fun en st=>aE O N HE en st) items en st=some (.ret (.bool false),en',st))
 |bU (o':Int) (pos' ch':Option V) (h1:b=decide (o'=0)) (h2:fk HD (fun en st=>aE O N HE en st) items en st=some (.bU,qL s o' pos' ch' kb,st))
theorem I0.pre{items items':List V}{en bV:En}{b:Bool}(hstep:∀{out},fk HD (fun en st=>aE O N HE en st) items' bV st=out→fk HD (fun en st=>aE O N HE en st) items en st=out)(S:I0 O N s kb st items' bV b):I0 O N s kb st items en b:=by
 rcases S with⟨en',h1,h2⟩|⟨o',p',c',h1,h2⟩
 ·exact .ret en' h1 (hstep h2)
 ·exact .bU o' p' c' h1 (hstep h2)
theorem DA{o i:Int}{pos ch:Option V}{r:List V}(hn:o-1<0):I0 O N s kb st (.tup [.int i,.str [41]]::r) (qL s o pos ch kb) false:=
 .ret _ rfl (BP (bV:=qL s o (some (.int i)) (some (.str [41])) kb) (st1:=st) (by rfl)
  (aG (aI (aW (aa (by rfl)) (by rfl) (by exact(j_ [41] [40] (by decide) (by decide)).trans (by rw[decide_eq_false (by decide)])))
  (aG (bu (aW (aa (by rfl)) (by rfl) (by exact(j_ [41] [41] (by decide) (by decide)).trans (by rw[decide_eq_true rfl])))
   (ai (mO (by rfl) (by rfl) (by rfl) (by rfl)) (aG (bu (by exact(pX rfl).trans (by rw[decide_eq_true hn])) (bS (dB (by rfl)))))))))))
theorem kQ(N:Nat→Nf):∀(r:List Nat) (i:Int) (e:Bool) (o:Int) (pos ch:Option V),0≤o→(∀c∈r,c<1114112)→I0 O N s kb st (cK i e r) (qL s o pos ch kb) (dP e o r)
 |[],i,false,o,pos,ch,_,_=>.bU o pos ch rfl rfl
 |[],i,true,o,pos,ch,_,_=>.bU o _ _ rfl (mV (by decide) (.inr (.inr ⟨by decide,by decide,rfl⟩)) iM)
 |c::r,i,true,o,pos,ch,h0,hc=>
  (kQ N r (i+1) false o (some (.int i)) (some (.str [92,c])) h0 (Oc.mp hc).2).pre (mV (BW (Oc.mp hc).1) (.inr (.inr ⟨by simp,by simp,rfl⟩)))
 |c::r,i,false,o,pos,ch,h0,hc=>by
  obtain⟨hc1,hr⟩:=Oc.mp hc
  have hx1:=xh hc1
  rw[tu,jL]
  by_cases h92:c=92
  ·rw[if_pos h92,if_pos h92]
   exact kQ N r (i+1) true o pos ch h0 hr
  ·rw[if_neg h92,if_neg h92]
   by_cases h40:c=40
   ·rw[if_pos h40]
    subst h40
    exact(kQ N r (i+1) false (o+1) (some (.int i)) (some (.str [40])) (Int.le_add_one h0) hr).pre (mV hx1 (.inl ⟨rfl,rfl⟩))
   ·rw[if_neg h40]
    by_cases h41:c=41
    ·rw[if_pos h41]
     subst h41
     by_cases hn:o-1<0
     ·rw[if_pos hn]
      exact DA hn
     ·rw[if_neg hn]
      exact(kQ N r (i+1) false (o-1) (some (.int i)) (some (.str [41])) (QA.mp hn) hr).pre (mV hx1 (.inr (.inl ⟨rfl,rfl,hn⟩)))
    ·rw[if_neg h41]
     exact(kQ N r (i+1) false o (some (.int i)) (some (.str [c])) h0 hr).pre (mV hx1 (.inr (.inr ⟨fun h=>h40 (P5 h).1,fun h=>h41 (P5 h).1,rfl⟩)))
noncomputable def EJ(l:List Nat):Bool:=dP false 0 (aS false none [] l)
theorem pZ{k:Nat}{l:List Nat}(hl:∀c∈l,c<1114112)(hlen:l.length+10≤lid):aO av.P (k+2) (.fn 12) [.str l] none st=some (.bool (EJ l),st):=by
 have hs:=pY (k:=k) (st:=st) hl hlen
 have hm:∀c∈aS false none [] l,c<1114112:=fun c hc=>by
  rcases kP _ _ _ _ c hc with h|h
  ·simp at h
  ·exact hl c h
 have hgen:av.P.gen (.fn 10) [.str (aS false none [] l)]=some (fX (aS false none [] l)):=rfl
 unfold EJ
 rcases kQ (O:=⟨aO av.P (k+1),av.P.gen⟩) (s:=aS false none [] l) (kb:=st.κ.length) (st:=st) av.P.N (aS false none [] l) 0 false 0 none none (Int.le_refl _) hm with⟨en',h1,h2⟩|⟨o',p',c',h1,h2⟩
 ·rw[h1]
  refine Oj (call_top (vals:=[.str l]) (fl:=.ret (.bool false)) (st':=st) (by rfl) (by rfl)
   (ai (aR (aD (aa (by rfl)) (ae (aa (by rfl)) aj) (by exact bg hs rfl)) (by rfl))
    (ai (bV:=qL (aS false none [] l) 0 none none st.κ.length) (aR (by rfl) (by rfl))
     (bS (gP (aD (aa (by rfl)) (ae (aa (by rfl)) aj) (by exact tq hgen)) (by intro i;exact fun h=>by cases h) (by rfl) (by exact h2))))) (by rfl)) ?_
  simp[eZ,fF,bW,bX,bY,bZ,b6,b7,bP]
 ·rw[h1]
  refine Oj (call_top (vals:=[.str l]) (fl:=.ret (.bool (decide (o'=0)))) (st':=st) (by rfl) (by rfl)
   (ai (aR (aD (aa (by rfl)) (ae (aa (by rfl)) aj) (by exact bg hs rfl)) (by rfl))
    (ai (bV:=qL (aS false none [] l) 0 none none st.κ.length) (aR (by rfl) (by rfl))
     (ai (gP (aD (aa (by rfl)) (ae (aa (by rfl)) aj) (by exact tq hgen)) (by intro i;exact fun h=>by cases h) (by rfl) (by exact h2))
      (bS (dB (jy (aa (by rfl)) (by rfl) (by rfl))))))) (by rfl)) ?_
  simp[eZ,fF,bW,bX,bY,bZ,b6,b7,bP]
end
end Rk.L01
end

section
set_option exponentiation.threshold 100
namespace Rk.L01
open PySem Rk
theorem u4{O:cQ}{md:Md}{args:List V}{st:ao}{w:V×ao}{k:Option V}{g:Nat}(h:O.call (.fn g) args k st=some w)(hm:md≠ .iter):fM O md (.fn g) args k st=some w:=by
 cases md<;>first|exact absurd rfl hm|exact h
noncomputable def ez:List Nat:=[40,39,39,44,32,39,39,41]
noncomputable def dY(f:List Nat):List Nat:=if EJ f then f else ez
noncomputable def Mw:T:=xd (tl av.E6)
noncomputable def Mx:Ss:=qK (tl av.E6)
section
variable {k i j kb:Nat} {fs:List (List Nat)}
end
end Rk.L01
end

section
namespace Rk.L01
open PySem Rk
noncomputable abbrev gV:Type:=List (Nat×Option V)
noncomputable def lk(l:gV)(i:Nat):Option V:=match l.lookup i with
 |some v=>v
 |none=>none
noncomputable def bC(l:gV):En:=⟨[.loc (lk l 0),.fB 0,.loc (lk l 2),.loc (lk l 3),.fB 1,.fB 2,.loc (lk l 6),.loc (lk l 7),.fB 3,.fB 4,.loc (lk l 10),.loc (lk l 11),.loc (lk l 12),.fB 5,.fB 6,.loc (lk l 15),.fB 7,.loc (lk l 17),.loc (lk l 18),.loc (lk l 19),.fB 8,.fB 9,.loc (lk l 22),.loc (lk l 23),.loc (lk l 24),.loc (lk l 25),.loc (lk l 26),.fB 10,.loc (lk l 28),.loc (lk l 29),.loc (lk l 30),.fB 11,.loc (lk l 32),.fB 12,.loc (lk l 34),.loc (lk l 35),.cY (cH 34),.cY (cH 15),.cY (cH 16),.cY (cH 17),.cY (cH 18),.cY (cH 26),.cY (cH 11),.cY (cH 10),.cY (cH 25),.cY (cH 33),.cY (cH 7),.cY (cH 6),.cY (cH 14),.cY (cH 8),.cY (cH 39),.cY (cH 37),.cY (cH 31),.cY (cH 5),.cY (cH 29),.cY (cH 38),.cY (cH 2),.cY (cH 28),.cY (cH 3),.cY (cH 13),.cY (cH 12)],0⟩
noncomputable def aH(l:gV)(σ:List (List V)):ao:=⟨[lk l 1,lk l 4,lk l 5,lk l 8,lk l 9,lk l 13,lk l 14,lk l 16,lk l 20,lk l 21,lk l 27,lk l 31,lk l 33],σ⟩
noncomputable abbrev OO:cQ:=⟨aO av.P 99,av.P.gen⟩
noncomputable abbrev NN:Nat→Nf:=av.P.N
noncomputable def sE:S→E
 |.asg _ e _=>e
 |.ret e _=>e
 |.ite e _ _ _=>e
 |.expr e _=>e
 |_=>.bH
noncomputable def hd:Es→E
 |.cons e _=>e
 |.nil=>.bH
noncomputable def I3:Es→Es
 |.cons _ r=>r
 |.nil=>.nil
noncomputable def gI:Gs→Es
 |.cons _ _ i _=>i
 |.nil=>.nil
noncomputable def eS:E→Es
 |.call _ l _ _ _=>l
 |.qQ _ l _=>I3 l
 |.comp e g _ _=>.cons e (gI g)
 |.qv t _ _ _=>.cons t .nil
 |.bin _ a _ _=>.cons a .nil
 |.d8 _ _ l _ _=>l
 |.cmp _ a b _=>.cons a (.cons b .nil)
 |_=>.nil
noncomputable def eR:E→E
 |.qQ _ l _=>hd l
 |.slc _ _ h _ _ _=>h
 |.bin _ _ b _=>b
 |.tR _ b _=>b
 |_=>.bH
noncomputable def I4:S→Es
 |.tP _ _ _ _ l _ _ _=>l
 |_=>.nil
noncomputable def a0(e:E):E:=hd (eS e)
noncomputable def eI(e:E):E:=hd (I3 (eS e))
noncomputable abbrev Ad(s:S)(l:gV)(i:Nat)(v:V)(σ:List (List V)):Prop:=aX OO NN s (bC l) (aH l σ)=some (.bU,bC ((i,some v)::l),aH ((i,some v)::l) σ)
end Rk.L01
end

section
set_option exponentiation.threshold 100
namespace Rk.L01
open PySem Rk
section
variable {O:cQ} {st st1 st2:ao} {en en':En} {t:T} {it elt:E} {ifs:Es} {rest:Gs} {sc:Sc} {p:NW} {md:Md} {items acc:List V} {fr:List Nat} {src:V}
theorem xj(hit:ak O it .iter en st=some (src,st1))(hi:ig src=some items)(hr:∀i,src≠ .ref i)(hfr:eL en sc=some fr)
  (hl:l0 t (jJ O elt ifs rest) items ⟨(aV sc [] fr st1.κ).1,st1.κ.length⟩ { st1 with κ:=(aV sc [] fr st1.κ).2 } []=some (en',st2,acc))
  (hc:acc.length≤lid∧bA acc=true):ak O (.comp elt (.cons t it ifs rest) sc p) md en st=some (.lst acc.reverse,{ st2 with κ:=st1.κ }):=by
 have hlv:∀{f:En→ao→List V→Option (En×ao×List V)} {e:En} {s:ao} {a:List V},xH t f src e s a=l0 t f items e s a:=fun{f e s a}=>by
  clear hit hfr hl hc
  cases src with
  |ref i=>exact absurd rfl (hr i)
  |lst l=>cases hi;rfl
  |tup l=>cases hi;rfl
  |str l=>cases hi;rfl
  |_=>cases hi
 exact aA hit (bind_eq hfr (fT (hlv.trans hl) (if_pos hc)))
end
section
variable {O:cQ} {st st1 st2:ao} {en en':En} {t:T} {it elt:E} {ifs:Es} {rest:Gs} {sc:Sc} {p:NW} {md:Md} {items acc:List V} {fr:List Nat} {src:V}
theorem fU{turn:En→ao→List V→Option (En×ao×List V)}{v:V}{r:List V}{en bV en2:En}{acc acc2:List V}{out:Option (En×ao×List V)}(h1:gU t v en st=some (bV,st1))(h2:turn bV st1 acc=some (en2,st2,acc2))(h3:l0 t turn r en2 st2 acc2=out):l0 t turn (v::r) en st acc=out:=aA h1 (fT h2 h3)
end
section
variable {O:cQ} {st st1 st2:ao} {en en':En} {t:T} {it elt:E} {ifs:Es} {rest:Gs} {sc:Sc} {p:NW} {md:Md} {items acc:List V} {fr:List Nat} {src:V}
theorem dQ{v:V}(h:ak O elt .val en st=some (v,st1))(hd:v.data=true)(ha:acc.length<lid):jJ O elt .nil .nil en st acc=some (en,st1,v::acc):=aA (a:=true) (b:=st) rfl (aA h (if_pos ⟨hd,ha⟩))
end
section
variable {O:cQ} {st st1 st2:ao} {en en':En} {t:T} {it elt:E} {ifs:Es} {rest:Gs} {sc:Sc} {p:NW} {md:Md} {items acc:List V} {fr:List Nat} {src:V}
noncomputable def gj:Option V→List V→List V
 |some v,acc=>v::acc
 |none,acc=>acc
end
section
variable {O:cQ} {st st1 st2:ao} {en en':En} {t:T} {it elt:E} {ifs:Es} {rest:Gs} {sc:Sc} {p:NW} {md:Md} {items acc:List V} {fr:List Nat} {src:V}
theorem rM{turn:En→ao→List V→Option (En×ao×List V)}(Ev:Option V→En)(g:V→Option V)(hs:∀x v,gU t v (Ev x) st=some (Ev (some v),st)):∀(items:List V) (acc:List V) (x:Option V),
  (∀v∈items,∀acc:List V,acc.length<lid→turn (Ev (some v)) st acc=some (Ev (some v),st,gj (g v) acc))→acc.length+items.length≤lid→ ∃x',l0 t turn items (Ev x) st acc=some (Ev x',st,(items.filterMap g).reverse++acc)
 |[],acc,x,_,_=>⟨x,rfl⟩
 |v::r,acc,x,ht,hl=>by
  simp at hl
  have h1:=ht v (by simp) acc (by lia)
  have hlen:(gj (g v) acc).length≤acc.length+1:=by cases g v<;>simp[gj]
  obtain⟨x',ih⟩:=rM Ev g hs r (gj (g v) acc) (some v) (fun u hu=>ht u (MY _ hu)) (by lia)
  refine⟨x',fU (hs x v) h1 (Oj ih ?_)⟩
  cases hg:g v<;>simp[gj,hg]
end
section
variable {O:cQ} {st st1 st2:ao} {en en':En} {t:T} {it elt:E} {ifs:Es} {rest:Gs} {sc:Sc} {p:NW} {md:Md} {items acc:List V} {fr:List Nat} {src:V}
theorem bG:∀{l:List V},(∀v∈l,v.data=true)→bA l=true
 |[],_=>rfl
 |v::r,h=>by simp only[kD,g6,Nu];exact⟨h v (by simp),bG fun u hu=>h u (MY _ hu)⟩
end
section
variable {O:cQ} {st st1 st2:ao} {en en':En} {t:T} {it elt:E} {ifs:Es} {rest:Gs} {sc:Sc} {p:NW} {md:Md} {items acc:List V} {fr:List Nat} {src:V}
theorem u5{l:List V}(h:bA l=true):∀v∈l,v.data=true:=by
 induction l with
 |nil=>intro v hv;cases hv
 |cons x r ih=>
  simp only[kD,g6,Nu]at h
  intro v hv
  rcases M5.mp hv with rfl|hv
  ·exact h.1
  ·exact ih h.2 v hv
end
section
variable {O:cQ} {st st1 st2:ao} {en en':En} {t:T} {it elt:E} {ifs:Es} {rest:Gs} {sc:Sc} {p:NW} {md:Md} {items acc:List V} {fr:List Nat} {src:V}
theorem kg(Ev:Option V→En)(g:V→Option V)(hit:ak O it .iter en st=some (src,st1))(hi:ig src=some items)(hr:∀i,src≠ .ref i)(hfr:eL en sc=some fr)
  (he:(⟨(aV sc [] fr st1.κ).1,st1.κ.length⟩:En)=Ev none) (hκ:(aV sc [] fr st1.κ).2=st1.κ) (hs:∀x v,gU t v (Ev x) st1=some (Ev (some v),st1))
  (ht:∀v∈items,∀acc:List V,acc.length<lid→jJ O elt ifs rest (Ev (some v)) st1 acc=some (Ev (some v),st1,gj (g v) acc))
  (hlen:items.length≤lid) (hd:∀v∈items,∀w,g v=some w→w.data=true):
  ak O (.comp elt (.cons t it ifs rest) sc p) md en st=some (.lst (items.filterMap g),st1):=by
 obtain⟨x',hl⟩:=rM (t:=t) (st:=st1) (turn:=jJ O elt ifs rest) Ev g hs items [] none ht (by simpa using hlen)
 have hst:({ st1 with κ:=(aV sc [] fr st1.κ).2 }:ao)=st1:=by rw[hκ]
 rw[←he,Nc]at hl
 have:=xj (p:=p) (md:=md) (t:=t) (ifs:=ifs) (rest:=rest) (elt:=elt) hit hi hr hfr (by rw[hst];exact hl) ⟨by
  rw[N4];exact M8 (Qx _ _) hlen,bG fun v hv=>by
  rw[Q6,Uz]at hv
  obtain⟨u,hu,hg⟩:=hv
  exact hd u hu v hg⟩
 rw[Ri]at this
 exact this
end
theorem lP{v:V}:∀{n:Nat} {a:Nat},v∈cA (a:Int) n→ ∃i:Nat,v= .int (i:Int)∧a≤i∧i<a+n
 |0,_,h=>by simp[l5,l6]at h
 |n+1,a,h=>by
  simp only[l5,l6,M5]at h
  rcases h with rfl|h
  ·exact⟨a,rfl,M9 _,by lia⟩
  ·have h':v∈cA ((a+1:Nat):Int) n:=by rw[Py];exact h
   obtain⟨i,e,h1,h2⟩:=lP h'
   exact⟨i,e,by lia,by lia⟩
theorem kh(a:Int):∀n,(cA a n).length=n
 |0=>rfl
 |n+1=>by simp[l5,l6,kh (a+1) n]
theorem src_range{O:cQ}{n:Nat}(h:n≤lid):tU O (.bi .range) [.int (n:Int)]=some (cA 0 n):=by
 show(if -(lid:Int)≤(n:Int)∧(n:Int)≤lid then some (cA 0 (n:Int).toNat)else none)=_
 rw[if_pos ⟨UM (by decide) (Nx n),U1.mpr h⟩,NQ]
theorem jz{g:V→Option V}{f:Nat→Option V}(h:∀i:Nat,g (.int (i:Int))=f i):∀(n a:Nat),(cA (a:Int) n).filterMap g=(Nn a n).filterMap f
 |0,_=>rfl
 |n+1,a=>by
  have ih:=jz h n (a+1)
  rw[Py]at ih
  simp only[l5,l6,List.range'_succ,Pe,h]
  rw[show((a:Int)+1)=(a:Int)+((1:Nat):Int)from rfl,ih]
theorem BX{l:List (List Nat)}{i:Nat}{x:List Nat}(h:l[i]? =some x):lZ (.lst (aZ l)) (.int (i:Int))=some (.str x):=by
 show m9 (aZ l) (i:Int)=_
 unfold m9
 rw[if_pos (Nx i),NQ]
 simp[aZ,h]
theorem cD{st:ao}{a b:List Nat}(h:a.length+b.length≤lid):d_ st .Add (.str a) (.str b)=some (.str (a++b),st):=by
 show(if a.length+b.length≤lid then some (V.str (a++b),st)else none)=_
 rw[if_pos h]
section
variable {l:List (Nat×Option V)} {F:List (List Nat)} {s:Nat} {P:List (List Nat)} {w:List Nat} {b:Option V} {O:cQ} {N:Nat→Nf}
end
section
variable {l:List (Nat×Option V)} {F:List (List Nat)} {s:Nat} {P:List (List Nat)} {w:List Nat} {b:Option V} {O:cQ} {N:Nat→Nf}
end
section
variable {l:List (Nat×Option V)} {F:List (List Nat)} {s:Nat} {P:List (List Nat)} {w:List Nat} {b:Option V} {O:cQ} {N:Nat→Nf}
end
theorem iN(pre:List Nat):∀(r:List Nat) (e:Bool) (op:Option Nat) (cur:List Nat),(∀o,op=some o→o≤cur.length)→aS e (op.map (pre.length+ ·)) (pre++cur) r=pre++aS e op cur r
 |[],e,op,cur,_=>by cases e<;>simp[cO,b_,bE]
 |c::r,true,op,cur,h=>by
  simp only[cO,b_,bE]
  rw[M_,iN pre r false op (cur++[c]) fun o ho=>by have:=h o ho;simp;lia]
 |c::r,false,op,cur,h=>by
  have h':∀o,op=some o→o≤(cur++[c]).length:=fun o ho=>by have:=h o ho;simp;lia
  simp only[cO,b_,bE]
  split
  ·rw[M_,iN pre r true op (cur++[c]) h']
  ·split
   ·cases op with
    |none=>
     have:=iN pre r false (some cur.length) (cur++[c]) (fun o ho=>by cases ho;simp)
     simp only[Pd,Vr,Ng,M_]at this ⊢
     exact this
    |some o=>
     simp only[Pd]
     have hle:=h o rfl
     rw[List.take_append,NU (by lia),NZ,M_]
   ·rw[M_,iN pre r false op (cur++[c]) h']
theorem gA(cur r:List Nat)(e:Bool):aS e none cur r=cur++aS e none [] r:=by
 have:=iN cur r e none [] (fun o h=>by cases h)
 simpa using this
theorem kj:∀(b r:List Nat),(∀c∈b,c≠34∧c≠92)→aS false none [] (b++r)=b++aS false none [] r
 |[],r,_=>rfl
 |c::b,r,h=>by
  obtain⟨h1,h2⟩:=h c (by simp)
  simp only[OX,cO,b_,bE,if_neg h1,if_neg h2,Oz]
  rw[gA,kj b r fun x hx=>h x (MY _ hx)];simp
theorem p_:∀(n:Nat) (o:Int) (r:List Nat),dP false o (M2 n 40++r)=dP false (o+n) r
 |0,o,r=>by simp
 |n+1,o,r=>by
  rw[Oq,OX]
  simp only[FP,BR,tu]
  rw[if_neg (by decide),if_pos trivial,p_ n]
  congr 1;lia
theorem yi{f:List Nat}(h:∀c∈f,c<1114112):∀c∈dY f,c<1114112:=by
 unfold dY;split
 ·exact h
 ·decide
theorem rO:∀(l:List (List Nat)),lE (aZ l) (aZ l)=true
 |[]=>rfl
 |x::r=>by
  simp only[aZ,Nz,Ai,Aj,Ak,decide_true,P4]
  exact rO r
theorem rP:∀(l:List (List Nat)),fV (aZ l)=0
 |[]=>rfl
 |x::r=>by
  simp only[aZ,Nz,vE,su,Ac,Ae,Af,Ag]
  rw[show fV (r.map V.str)=0 from rP r];rfl
theorem yj{L:List (List Nat)}(h:∀f∈L,∀c∈f,c<1114112):iU .NotEq (.lst (aZ L)) (.lst (aZ L))=some false:=by
 have hd:(V.lst (aZ L)).data=true:=bG fun v hv=>by
  obtain⟨f,hf,rfl⟩:=NY.mp hv;exact cz (h f hf)
 have hdep:(V.lst (aZ L)).dep=1:=by show fV (aZ L)+1=1;rw[rP]
 simp only[vF,nc,iz,hd,hdep]
 show some (!lE (aZ L) (aZ L))=_
 rw[rO];rfl
section
variable {l:List (Nat×Option V)} {fs:List (List Nat)} {ws:List V} {O:cQ} {N:Nat→Nf}
theorem turn_if{st:ao}{en:En}{acc:List V}{c elt:E}{b:Bool}{v:V}(hc:a_ (ak O c .test en st)=some (b,st))(h:ak O elt .val en st=some (v,st))(hd:v.data=true)(ha:acc.length<lid):
  jJ O elt (.cons c .nil) .nil en st acc=some (en,st,gj (if b then some v else none) acc):=by
 cases b with
 |false=>exact aA (aA hc rfl) rfl
 |true=>exact aA (aA hc rfl) (aA h (if_pos ⟨hd,ha⟩))
end
noncomputable def bf(l:List Int):V:=.lst (l.map V.int)
theorem lQ:∀l:List Int,intsOf (l.map V.int)=some l
 |[]=>rfl
 |x::r=>by simp only[Nz,An,Ao,lQ r];rfl
theorem sum_ints(l:List Int):xF .sum [bf l]=some (.int l.sum):=by
 show(intsOf (l.map V.int)).bind (fun xs=>some (V.int xs.sum))=_
 rw[lQ];rfl
theorem fu(l:List Int):∀(ix:List Nat),ix.filterMap ((l.map V.int)[·]?)=(ix.filterMap (l[·]?)).map V.int
 |[]=>rfl
 |i::r=>by
  simp only[Pe,Nr]
  cases l[i]? with
  |none=>simp only[Vr];have:=fu l r;simp only[Nr]at this;exact this
  |some v=>simp only[Pd,Nz];have:=fu l r;simp only[Nr]at this;rw[this]
section
variable {O:cQ} {N:Nat→Nf}
theorem yR(scr:List Int):∃told:List Int,aX O N av.yR (bC [(0,some (bf scr))]) (aH [(0,some (bf scr))] [])=some (.bU,bC [(1,some (bf told)),(0,some (bf scr))],aH [(1,some (bf told)),(0,some (bf scr))] []):=by
 refine⟨scr.take (clipAt scr.length 60),aR (v:=bf (scr.take (clipAt scr.length 60))) (nY (aa (by rfl)) (by rfl) (by rfl) (by rfl) ?_) (by rfl)⟩
 show some (V.lst (iV (scr.map V.int) none (some 60)))=_
 unfold iV bf
 simp[Si]
end
section
variable {O:cQ} {N:Nat→Nf}
theorem ko{st:ao}{a b:List V}(h:a.length+b.length≤lid):d_ st .Add (.lst a) (.lst b)=some (.lst (a++b),st):=by
 show(if a.length+b.length≤lid then some (V.lst (a++b),st)else none)=_
 rw[if_pos h]
end
theorem yk{a e:Nat}(h:2^e≤a):e<M1 (a:Int):=by
 have h1:=kO (a:=a)
 exact(Nat.pow_lt_pow_iff_right (by decide:1<2)).mp (OH h h1)
theorem K6{n:Nat}{ds:List Nat}(hn:0<n)(hlt:∀d∈ds,d<2^n)(hlast:∃i x,ds=i++[x]∧0<x):ds.length=(M1 (val n ds:Int)+n-1)/n:=by
 obtain⟨i,x,rfl,hx⟩:=hlast
 have h1:=bits_le (wZ n (i++[x]) hlt)
 have h2:2^(n*i.length)≤val n (i++[x]):=by
  rw[gQ]
  simp only[iJ,g_,UZ,QT]
  exact M8 (O8 _ hx) (Vq _ _)
 have h3:=yk h2
 generalize M1 (val n (i++[x]):Int)=b at*
 simp only[Ng,NS,Px]at h1 ⊢
 symm
 rw[Nat.div_eq_iff hn]
 rw[PV]at h1
 have e:(i.length+(0+1))*n=n*i.length+n:=by rw[OV,NL];simp
 lia
theorem rQ:∀(l:List Nat),lE (nats l) (nats l)=true
 |[]=>rfl
 |x::r=>by
  simp only[nats,Nz,Ai,Aj,Ak,beq_self_eq_true,P4]
  exact rQ r
theorem nD:∀(l:List Nat),fV (nats l)=0
 |[]=>rfl
 |x::r=>by
  simp only[nats,Nz,vE,su,Ac,Ae,Af,Ag]
  rw[show fV (r.map fun(d:Nat)=>V.int (d:Int))=0 from nD r];rfl
theorem rU(l:List Nat):bA (nats l)=true:=bG fun v hv=>by
 obtain⟨d,_,rfl⟩:=NY.mp hv;rfl
theorem mW(L:List Nat):iU .NotEq (.lst (nats L)) (.lst (nats L))=some false:=by
 have hd:(V.lst (nats L)).data=true:=rU L
 have hdep:(V.lst (nats L)).dep=1:=by show fV (nats L)+1=1;rw[nD]
 simp only[vF,nc,iz,hd,hdep]
 show some (!lE (nats L) (nats L))=_
 rw[rQ];rfl
section
variable {l:List (Nat×Option V)} {F:List V} {w:Nat} {N:Nat→Nf}
theorem BY{st:ao}{ds:List Nat}(hlt:∀d∈ds,d<2^w)(hw:w≤503)(hl:ds.length≤60):aO av.P 99 (.fn 3) [.lst (nats ds),.int (w:Int)] none st=some (.int (val w ds:Int),st):=by
 have:=LY (k:=98-ds.length) (n:=w) (st:=st) (dv:=.lst (nats ds)) (ds:=ds) rfl hlt (M8 (RI hw hl) (by decide)) (by lia) (by lia)
 rw[show 98-ds.length+ds.length+1=99 by lia]at this;exact this
end
section
variable {l:List (Nat×Option V)} {F:List V} {w:Nat} {N:Nat→Nf}
theorem BZ{st:ao}{ds:List Nat}(h0:0<w)(hlt:∀d∈ds,d<2^w)(hlast:∃i x,ds=i++[x]∧0<x)(hw:w≤503)(hl:ds.length≤60):aO av.P 99 (.fn 2) [.int (val w ds:Int),.int (w:Int)] none st=some (.lst (nats ds),st):=by
 have:=LZ (k:=98-ds.length) (n:=w) (a:=val w ds) (m:=ds.length) (st:=st) h0 (K6 h0 hlt hlast) (M8 (RI hw hl) (by decide)) (by lia) (by lia)
 rw[show 98-ds.length+ds.length+1=99 by lia,uZ w ds hlt]at this;exact this
end
section
variable {l:List (Nat×Option V)} {F:List V} {w:Nat} {N:Nat→Nf}
noncomputable def EK(s:Int):Prop:=s=1∨s= -1
end
section
variable {l:List (Nat×Option V)} {F:List V} {w:Nat} {N:Nat→Nf}
theorem yl{i:Int}(h0:0≤i)(h2:i<2):∃s,EK s∧lZ (.lst [.int 1,.int (-1)]) (.int i)=some (.int s):=by
 have:i=0∨i=1:=by lia
 clear h0 h2
 rcases this with rfl|rfl
 ·exact⟨1,.inl rfl,rfl⟩
 ·exact⟨-1,.inr rfl,rfl⟩
end
section
variable {l:List (Nat×Option V)} {F:List V} {w:Nat} {N:Nat→Nf}
theorem L0{a:Int}{k:Nat}(h:a.natAbs<2^k)(hk:k≤200000):gC a=true:=by
 unfold gC;exact decide_eq_true (Nm h (NC (by decide) hk))
end
section
variable {l:List (Nat×Option V)} {F:List V} {w:Nat} {N:Nat→Nf}
theorem kq{st:ao}{a b:Int}{ka kb:Nat}(ha:a.natAbs<2^ka)(hb:b.natAbs<2^kb)(h1:ka≤200000)(h2:kb≤200000):d_ st .Mult (.int a) (.int b)=some (.int (a*b),st):=by
 rw[bm,L0 ha h1,L0 hb h2];rfl
end
section
variable {l:List (Nat×Option V)} {F:List V} {w:Nat} {N:Nat→Nf}
theorem tJ{s:Int}(h:EK s):s.natAbs<2^1:=by rcases h with rfl|rfl<;>decide
end
section
variable {l:List (Nat×Option V)} {F:List V} {w:Nat} {N:Nat→Nf}
theorem EL{st:ao}{e:Nat}(h:e≤100000):d_ st .Pow (.int 2) (.int (e:Int))=some (.int ((2^e:Nat):Int),st):=by
 show(if 0≤(e:Int)∧(e:Int).toNat≤100000∧(2:Int).natAbs<2^64 then some (V.int ((2:Int)^(e:Int).toNat),st)else none)=_
 rw[if_pos ⟨Nx e,by simpa using h,by decide⟩,NQ]
 simp
end
section
variable {l:List (Nat×Option V)} {F:List V} {w:Nat} {N:Nat→Nf}
theorem Dw{st:ao}(e:Nat):d_ st .Sub (.int ((2^e:Nat):Int)) (.int 1)=some (.int ((2^e-1:Nat):Int),st):=nV (b:=1) (NO e)
end
theorem qa{O:cQ}{en:En}{st:ao}{c1 c2:E}{p:NW}(h1:a_ (ak O c1 .test en st)=some (false,st))(h2:a_ (ak O c2 .test en st)=some (false,st)):a_ (ak O (.qQ .Or (.cons c1 (.cons c2 .nil)) p) .test en st)=some (false,st):=by
 exact aA (a:=.bool false) (aA (aA h1 (aA h2 rfl)) rfl) rfl
end Rk.L01
end

section
namespace Rk.L01
open PySem Rk
section
variable {O:cQ} {N:Nat→Nf} {st st1:ao} {t:T} {it elt:E} {ifs:Es} {rest:Gs} {sc:Sc} {p:NW} {md:Md} {items acc:List V} {fr:List Nat} {src:V} {l:gV} {σ:List (List V)} {en:En}
inductive EM (t:T) (turn:En→ao→List V→Option (En×ao×List V)) (Inv:En→Prop) (st:ao) (v:V) (o:Option V) (en:En):Prop
 |mk (bV en2:En) (hs:gU t v en st=some (bV,st)) (hi:Inv en2) (ht:∀acc:List V,acc.length<lid→turn bV st acc=some (en2,st,gj o acc))
theorem u6{turn:En→ao→List V→Option (En×ao×List V)}(Inv:En→Prop)(g:V→Option V):∀(items acc:List V) (en:En),Inv en→(∀v∈items,∀en,Inv en→EM t turn Inv st v (g v) en)→acc.length+items.length≤lid→
  ∃en',l0 t turn items en st acc=some (en',st,(items.filterMap g).reverse++acc)
 |[],acc,en,_,_,_=>⟨en,rfl⟩
 |v::r,acc,en,hi,ht,hl=>by
  obtain⟨bV,en2,hs,hi2,h1⟩:=ht v (by simp) en hi
  simp at hl
  have hlen:(gj (g v) acc).length≤acc.length+1:=by cases g v<;>simp[gj]
  obtain⟨en',ih⟩:=u6 Inv g r (gj (g v) acc) en2 hi2 (fun u hu=>ht u (MY _ hu)) (by lia)
  refine⟨en',fU hs (h1 acc (by lia)) (Oj ih ?_)⟩
  cases hg:g v<;>simp[gj,hg]
theorem qb(Inv:En→Prop)(g:V→Option V)(hit:ak O it .iter en st=some (src,st1))(hi:ig src=some items)(hr:∀i,src≠ .ref i)(hfr:eL en sc=some fr)
  (h0:Inv ⟨(aV sc [] fr st1.κ).1,st1.κ.length⟩) (hκ:(aV sc [] fr st1.κ).2=st1.κ) (ht:∀v∈items,∀en,Inv en→EM t (jJ O elt ifs rest) Inv st1 v (g v) en)
  (hlen:items.length≤lid) (hd:∀v∈items,∀w,g v=some w→w.data=true):
  ak O (.comp elt (.cons t it ifs rest) sc p) md en st=some (.lst (items.filterMap g),st1):=by
 obtain⟨en',hl⟩:=u6 (t:=t) (st:=st1) (turn:=jJ O elt ifs rest) Inv g items [] _ h0 ht (by simpa using hlen)
 have hst:({ st1 with κ:=(aV sc [] fr st1.κ).2 }:ao)=st1:=by rw[hκ]
 rw[Nc]at hl
 have:=xj (p:=p) (md:=md) (t:=t) (ifs:=ifs) (rest:=rest) (elt:=elt) hit hi hr hfr (by rw[hst];exact hl) ⟨by
  rw[N4];exact M8 (Qx _ _) hlen,bG fun v hv=>by
  rw[Q6,Uz]at hv
  obtain⟨u,hu,hg⟩:=hv
  exact hd u hu v hg⟩
 rw[Ri]at this
 exact this
noncomputable def qM(k one:Option V):En:=⟨[.loc none,.loc k,.loc one,.cY (.bi .sum),.fB 0],13⟩
noncomputable def My:E:=a0 (sE av.vG)
theorem gb{told:List Int}(h1:lk l 1=some (bf told))(k:Nat)(one:Int):∃c:Int,ak O My .val (qM (some (.int (k:Int))) (some (.int one))) (aH l [])=some (.int c,aH l []):=by
 obtain⟨ts,hts⟩:∃ts:List Int,qx (bf told) (.int (k:Int)) .none (.int 8)=some (bf ts):=by
  apply UY
  ·show(if(8:Int)=0 then none else some (V.lst (xD (told.map V.int) (some (k:Int)) none 8)))=_
   rw[if_neg (by decide)]
   unfold xD
   rw[fu];rfl
 exact⟨one+ts.sum,aq (aa (by rfl)) (aD (aa (by rfl)) (ae (nY (aa (by exact aK rfl (show(aH l []).κ[0]? =_ from congrArg some h1))) (aa (by rfl)) (by rfl) (by rfl) (by exact hts)) aj) (by exact fg (sum_ints ts) rfl)) (by rfl)⟩
noncomputable def EN:List Int:=[4,9,17,14,12,7,2,11]
theorem vG{told:List Int}(h:lk l 1=some (bf told)):∃c0 c1 c2 c3 c4 c5 c6 c7:Int,
  aX O N av.vG (bC l) (aH l [])=some (.bU,bC ((3,some (bf [c0,c1,c2,c3,c4,c5,c6,c7]))::l),aH ((3,some (bf [c0,c1,c2,c3,c4,c5,c6,c7]))::l) []):=by
 refine bc fun hN0=>?_
 obtain⟨c0,e0⟩:=gb (O:=O) h 0 4
 obtain⟨c1,e1⟩:=gb (O:=O) h 1 9
 obtain⟨c2,e2⟩:=gb (O:=O) h 2 17
 obtain⟨c3,e3⟩:=gb (O:=O) h 3 14
 obtain⟨c4,e4⟩:=gb (O:=O) h 4 12
 obtain⟨c5,e5⟩:=gb (O:=O) h 5 7
 obtain⟨c6,e6⟩:=gb (O:=O) h 6 2
 obtain⟨c7,e7⟩:=gb (O:=O) h 7 11
 refine hN0 ?_
 refine⟨c0,c1,c2,c3,c4,c5,c6,c7,aR (st1:=aH l []) ?_ (by rfl)⟩
 refine xj (src:=.lst (eU 0 (EN.map .int))) (items:=eU 0 (EN.map .int)) (st1:=aH l []) (st2:=aH l []) (acc:=[.int c7,.int c6,.int c5,.int c4,.int c3,.int c2,.int c1,.int c0]) (en':=qM (some (.int 7)) (some (.int 11)))
  (by rfl) (by rfl) (by intro i h;cases h) (by rfl) ?_ ⟨by show 8≤lid;decide,rfl⟩
 refine fU (bV:=qM (some (.int 0)) (some (.int 4))) (st1:=aH l []) (by rfl) (dQ e0 rfl (by decide)) ?_
 refine fU (bV:=qM (some (.int 1)) (some (.int 9))) (st1:=aH l []) (by rfl) (dQ e1 rfl (by simp;decide)) ?_
 refine fU (bV:=qM (some (.int 2)) (some (.int 17))) (st1:=aH l []) (by rfl) (dQ e2 rfl (by simp;decide)) ?_
 refine fU (bV:=qM (some (.int 3)) (some (.int 14))) (st1:=aH l []) (by rfl) (dQ e3 rfl (by simp;decide)) ?_
 refine fU (bV:=qM (some (.int 4)) (some (.int 12))) (st1:=aH l []) (by rfl) (dQ e4 rfl (by simp;decide)) ?_
 refine fU (bV:=qM (some (.int 5)) (some (.int 7))) (st1:=aH l []) (by rfl) (dQ e5 rfl (by simp;decide)) ?_
 refine fU (bV:=qM (some (.int 6)) (some (.int 2))) (st1:=aH l []) (by rfl) (dQ e6 rfl (by simp;decide)) ?_
 refine fU (bV:=qM (some (.int 7)) (some (.int 11))) (st1:=aH l []) (by rfl) (dQ e7 rfl (by simp;decide)) ?_
 rfl
end
end Rk.L01
end

section
namespace Rk.L01
open PySem Rk
noncomputable def sgn(c:Int):Nat:=if c.fmod 2=1 then 41 else 40
noncomputable def qc(R:List Nat)(c:Nat):Nat:=if fL c R<4 then c else if c=41 then 40 else 41
noncomputable def DB:List Nat→List Nat→List Nat
 |R,[]=>R
 |R,c::r=>DB (R++[qc R c]) r
noncomputable def zS(cs:List Int):List Nat:=DB [] (cs.map sgn)
noncomputable def sg(R:List Nat):List V:=aZ (R.map fun c=>[c])
theorem B0(R:List Nat):(sg R).length=R.length:=by simp[sg,aZ]
theorem FT(R:List Nat)(c:Nat):sg R++[.str [c]]=sg (R++[c]):=by simp[sg,aZ]
theorem I5(c:Nat)(R:List Nat):sg (c::R)= .str [c]::sg R:=rfl
noncomputable def kX(c:Nat):Prop:=c=40∨c=41
theorem qe(c:Nat):∀R:List Nat,ic (.str [c]) (sg R)=fL c R
 |[]=>rfl
 |d::R=>by
  show(if oE (.str [d]) (.str [c])then 1 else 0)+ic (.str [c]) (sg R)=(if d=c then 1 else 0)+fL c R
  rw[qe c R,Aj]
  by_cases h:d=c
  ·subst h;simp
  ·rw[if_neg h,decide_eq_false (by simpa using h)];rfl
theorem FU{R:List Nat}{v:V}(h:v∈sg R):∃c∈R,v= .str [c]:=by
 simp only[sg,aZ,Oa,NY,Uj]at h
 obtain⟨c,hc,rfl⟩:=h
 exact⟨c,hc,rfl⟩
theorem kr{c:Nat}(h:kX c):c<1114112:=by rcases h with rfl|rfl<;>decide
theorem DC{R:List Nat}(h:∀c∈R,kX c):bA (sg R)=true:=bG fun v hv=>by
 obtain⟨c,hc,rfl⟩:=FU hv
 exact cz fun x hx=>by rw[M4.mp hx];exact kr (h c hc)
theorem B3:∀R:List Nat,kC (sg R)=true
 |[]=>rfl
 |c::R=>by show((V.str [c]).noBool&&kC (sg R))=true;rw[B3 R];rfl
theorem ym:∀R:List Nat,fV (sg R)=0
 |[]=>rfl
 |c::R=>by rw[I5,su,ym R];rfl
theorem yn{c:Nat}{R:List Nat}(hc:kX c)(h:∀c∈R,kX c):okIn (.str [c]) (sg R)=true:=by
 have h1:(V.str [c]).data=true:=cz fun x hx=>by rw[M4.mp hx];exact kr hc
 unfold okIn
 rw[h1,DC h,B3,ym];rfl
noncomputable def qN(cs R x s:Option V)(kb:Nat):En:=⟨[.loc cs,.loc R,.loc x,.loc s],kb⟩
noncomputable def Mz:T:=xd (tl av.CL)
noncomputable def K7:Ss:=qK (tl av.CL)
noncomputable def I7:S:=sF K7
noncomputable def I8:S:=sF (tl K7)
section
variable {O:cQ} {N:Nat→Nf} {st:ao} {j kb:Nat} {cs s:Option V} {R:List Nat}
theorem xm(c:Int):kX (sgn c):=by unfold sgn kX;split<;>simp
theorem DE{R:List Nat}{c:Nat}(h:kX c):kX (qc R c):=by unfold qc kX;split;exact h;split<;>simp
theorem I9{c:Int}:aX O N I7 (qN cs (some (.ref j)) (some (.int c)) s kb) st=some (.bU,qN cs (some (.ref j)) (some (.int c)) (some (.str [sgn c])) kb,st):=by
 have ht:a_ (ak O (a0 (sE I7)) .test (qN cs (some (.ref j)) (some (.int c)) s kb) st)=some (decide (c.fmod 2=1),st):=aW (aq (aa (by rfl)) (by rfl) (by rfl)) (by rfl) rfl
 unfold sgn
 by_cases h:c.fmod 2=1
 ·rw[if_pos h]
  rw[decide_eq_true h]at ht
  exact aR (jl (by decide) ht (by rfl)) (by rfl)
 ·rw[if_neg h]
  rw[decide_eq_false h]at ht
  exact aR (jm (by decide) ht (by rfl)) (by rfl)
theorem I_{c:Nat}{x:Option V}(hc:kX c)(hR:∀c∈R,kX c)(hl:st.σ[j]? =some (sg R))(hz:R.length<1000):aX O N I8 (qN cs (some (.ref j)) x (some (.str [c])) kb) st=some (.bU,qN cs (some (.ref j)) x (some (.str [c])) kb,{ st with σ:=st.σ.set j (sg (R++[qc R c])) }):=by
 have hcnt:eG st .count (.ref j) [.str [c]]=some (.int (fL c R:Nat),st):=by
  show sr st (aJ st (.ref j)) (.str [c])=_
  rw[cP,hl]
  show(if okIn (.str [c]) (sg R)then some (V.int (ic (.str [c]) (sg R):Nat),st)else none)=_
  rw[if_pos (yn hc hR),qe]
 have ht:a_ (ak O (a0 (a0 (sE I8))) .test (qN cs (some (.ref j)) x (some (.str [c])) kb) st)=some (decide ((fL c R:Int)<4),st):=aW (c9 (aa (by rfl)) (ae (aa (by rfl)) aj) hcnt) (by rfl) rfl
 have happ:∀d,kX d→eG st .append (.ref j) [.str [d]]=some (.none,{ st with σ:=st.σ.set j (sg (R++[d])) }):=fun d hd=>by
  rw[←FT]
  exact fS hl (cz fun x hx=>by rw[M4.mp hx];exact kr hd) (by rw[B0];unfold lid;lia)
 unfold qc
 by_cases h:fL c R<4
 ·rw[if_pos h]
  rw[decide_eq_true (by lia)]at ht
  exact eN (c9 (aa (by rfl)) (ae (jl (by decide) ht (aa (by rfl))) aj) (happ c hc))
 ·rw[if_neg h]
  rw[decide_eq_false (by lia)]at ht
  refine eN (c9 (aa (by rfl)) (ae (jm (v:=.str [if c=41 then 40 else 41]) (by decide) ht (c9 (by rfl) (ae (aa (by rfl)) (ae (by rfl) aj)) ?_)) aj) (happ _ (by unfold kX;split<;>simp)))
  clear hR hl hz hcnt ht happ
  rcases hc with rfl|rfl<;>rfl
theorem u7(N:Nat→Nf):∀(xs:List Int) (R:List Nat) (x s:Option V) (st:ao),(∀c∈R,kX c)→st.σ[j]? =some (sg R)→R.length+xs.length<1000→
  ∃x' s',fk Mz (fun en st=>aE O N K7 en st) (xs.map .int) (qN cs (some (.ref j)) x s kb) st=some (.bU,qN cs (some (.ref j)) x' s' kb,{ st with σ:=st.σ.set j (sg (DB R (xs.map sgn))) })
 |[],R,x,s,st,_,hl,_=>⟨x,s,by
  show some (Fl.bU,_,st)=some (Fl.bU,_,({ st with σ:=st.σ.set j (sg R) }:ao))
  rw[←(MW.mp hl).2,Qa]⟩
 |c::xs,R,x,s,st,hR,hl,hz=>by
  simp at hz
  obtain⟨x',s',ih⟩:=u7 N xs (R++[qc R (sgn c)]) (some (.int c)) (some (.str [sgn c])) { st with σ:=st.σ.set j (sg (R++[qc R (sgn c)])) } (fun d hd=>by
   rcases MX.mp hd with hd|hd
   ·exact hR d hd
   ·rw[M4.mp hd];exact DE (xm c)) (by
    show(st.σ.set j _)[j]? =_
    rw[Nv (MW.mp hl).1]) (by simp;lia)
  refine⟨x',s',bz (bV:=qN cs (some (.ref j)) (some (.int c)) s kb) (st1:=st) (by rfl) (ai I9 (aG (I_ (xm c) hR hl (by lia)))) (ih.trans ?_)⟩
  show some (Fl.bU,_,({ st with σ:=(st.σ.set j _).set j _ }:ao))=_
  rw[Ru];rfl
end
theorem B4{k:Nat}{cs:List Int}{st:ao}(hz:cs.length<1000):aO av.P (k+1) (.fn 15) [bf cs] none st=some (.lst (sg (zS cs)),st):=by
 obtain⟨x',s',h⟩:=u7 (O:=⟨aO av.P k,av.P.gen⟩) (j:=st.σ.length) (kb:=st.κ.length) (cs:=some (bf cs)) av.N cs [] none none { κ:=st.κ,σ:=st.σ++[[]] } (by simp) (by simp[sg,aZ]) (by simpa using hz)
 have hb:aE ⟨aO av.P k,av.P.gen⟩ av.P.N (av.P.F 15).body ⟨(aV (av.P.F 15).sc (([bf cs]:List V).map some) [] st.κ).1,st.κ.length⟩ { st with κ:=(aV (av.P.F 15).sc (([bf cs]:List V).map some) [] st.κ).2 }=
   some (.ret (.ref st.σ.length),qN (some (bf cs)) (some (.ref st.σ.length)) x' s' st.κ.length,{ κ:=st.κ,σ:=(st.σ++[[]]).set st.σ.length (sg (zS cs)) }):=
  ai (aR (by rfl) (by rfl)) (ai (gP (v:=bf cs) (aa (by rfl)) (by intro i h;cases h) rfl h) (bS (dB (aa (by rfl)))))
 have:=call_top (P:=av.P) (n:=k) (g:=15) (args:=[bf cs]) (vals:=[bf cs]) (key:=none) rfl rfl hb rfl
 rw[this]
 congr 1
 refine Prod.ext ?_ ?_
 ·show(if st.σ.length<st.σ.length then _ else match ((st.σ++[[]]).set st.σ.length (sg (zS cs)))[st.σ.length]? with|some l=>V.lst l|none=>_)=_
  rw[if_neg (Q_ _),Nv (by simp)]
 ·show({ κ:=st.κ,σ:=((st.σ++[[]]).set st.σ.length _).take st.σ.length }:ao)=st
  rw[List.take_set_of_le (M9 _),TF]
theorem vH{l:gV}{cs:List Int}{σ:List (List V)}(h:lk l 3=some (bf cs))(hz:cs.length<1000):Ad av.vH l 4 (.lst (sg (zS cs))) σ:=
 aR (aD (aa (by rfl)) (ae (aa (by exact h)) aj) (by exact bg (B4 (k:=98) hz) rfl)) (by rfl)
end Rk.L01
end

section
namespace Rk.L01
open PySem Rk
noncomputable def bT:List (List Nat):=[[],[97],[34,41,34],[34,41,34,34,40,34],[92,40],[92,41],[92,34],[92,92]]
noncomputable def aM(p:List Nat):List Nat:=if p.take 1=[34]then []else p
structure Bl where
 pre:List Nat
 c:Nat
 p:List Nat
noncomputable def Bl.text(b:Bl):List Nat:=b.pre++([b.c]++b.p)
noncomputable def Bl.left(b:Bl):List Nat:=b.pre++([b.c]++aM b.p)
noncomputable def dK(n:Nat)(b:Bl):List (Nat×List Nat):=
 (if b.pre=[]then []else[(n,b.pre)])++((n+b.pre.length,[b.c])::(if aM b.p=[]then []else[(n+b.pre.length+(aM b.p).length,aM b.p)]))
noncomputable def aQ:List Bl→List Nat
 |[]=>[]
 |b::r=>b.text++aQ r
noncomputable def aU:List Bl→List Nat
 |[]=>[]
 |b::r=>b.left++aU r
noncomputable def aN:Nat→List Bl→List (Nat×List Nat)
 |_,[]=>[]
 |n,b::r=>dK n b++aN (n+b.left.length) r
theorem rV:∀(a b:List Bl),aQ (a++b)=aQ a++aQ b
 |[],b=>rfl
 |x::a,b=>by show x.text++aQ (a++b)=x.text++aQ a++aQ b;rw[rV a b,M_]
theorem rW:∀(a b:List Bl),aU (a++b)=aU a++aU b
 |[],b=>rfl
 |x::a,b=>by show x.left++aU (a++b)=x.left++aU a++aU b;rw[rW a b,M_]
theorem DF(x:Bl)(a:List Bl):aQ (x::a)=x.text++aQ a:=rfl
theorem DG(x:Bl)(a:List Bl):aU (x::a)=x.left++aU a:=rfl
theorem B5(n:Nat)(x:Bl)(a:List Bl):aN n (x::a)=dK n x++aN (n+x.left.length) a:=rfl
theorem qf:∀(a b:List Bl) (n:Nat),aN n (a++b)=aN n a++aN (n+(aU a).length) b
 |[],b,n=>rfl
 |x::a,b,n=>by
  show dK n x++aN (n+x.left.length) (a++b)=dK n x++aN (n+x.left.length) a++aN (n+(x.left++aU a).length) b
  rw[qf a b,M_,Ng,P6]
structure z0 (last:Prop) (b:Bl):Prop where
 c:kX b.c
 p:b.p∈bT
 pre:b.pre=[]∨(b.pre=[34]∧b.p=[]∧last)
noncomputable def un(U:List (Nat×List Nat)):List V:=U.map fun x=>.tup [.int (x.1:Int),.str x.2]
noncomputable def xn(U:List (Nat×List Nat)):Prop:=∀x∈U,∀c∈x.2,c<1114112
theorem ku(a b:List (Nat×List Nat)):un (a++b)=un a++un b:=Pz ..
theorem lR(U:List (Nat×List Nat)):(un U).length=U.length:=Nq ..
theorem h_{n:Nat}{x:List Nat}(h:∀c∈x,c<1114112):(V.tup [.int (n:Int),.str x]).data=true:=by
 show(true&&((V.str x).data&&true))=true
 rw[cz h];rfl
theorem oz{U:List (Nat×List Nat)}(h:xn U):bA (un U)=true:=bG fun v hv=>by
 obtain⟨x,hx,rfl⟩:=NY.mp hv
 exact h_ (h x hx)
theorem dZ{l:List V}{i:Nat}{v:V}(h:l[i]? =some v):lZ (.lst l) (.int (i:Int))=some v:=by
 show m9 l (i:Int)=_
 unfold m9
 rw[if_pos (Nx i),NQ];exact h
theorem iO{cs:List Int}{i:Nat}{c:Int}(h:cs[i]? =some c):lZ (bf cs) (.int (i:Int))=some (.int c):=dZ (by rw[Nr,h];rfl)
theorem B6{i:Int}(h0:0≤i)(h8:i<8):∃p∈bT,lZ (.lst (aZ bT)) (.int i)=some (.str p):=by
 have:i=0∨i=1∨i=2∨i=3∨i=4∨i=5∨i=6∨i=7:=by lia
 clear h0 h8
 rcases this with rfl|rfl|rfl|rfl|rfl|rfl|rfl|rfl<;>exact⟨_,by simp[bT],rfl⟩
theorem u9{p:List Nat}(h:p∈bT):∀c∈p,c<1114112:=by
 simp only[bT,M5,NI,or_false]at h
 rcases h with rfl|rfl|rfl|rfl|rfl|rfl|rfl|rfl<;>decide
theorem rX{p:List Nat}(h:p∈bT):p.length≤6∧(aM p).length≤2:=by
 simp only[bT,M5,NI,or_false]at h
 rcases h with rfl|rfl|rfl|rfl|rfl|rfl|rfl|rfl<;>decide
theorem qg{p:List Nat}(h:p∈bT):∀c∈aM p,c<1114112:=by
 unfold aM;split
 ·simp
 ·exact u9 h
theorem EO(a b:List Nat)(ha:∀c∈a,c<1114112)(hb:∀c∈b,c<1114112):iU .NotEq (.str a) (.str b)=some (!decide (a=b)):=by
 have h:=j_ a b ha hb
 have hk:=gk (show(if iz (.str a) (.str b)then some (oE (.str a) (.str b))else none)=some (decide (a=b))from h)
 show(if iz (.str a) (.str b)then some (!oE (.str a) (.str b))else none)=_
 rw[if_pos hk.1,M0 hk.2]
theorem DH{O:cQ}{en:En}{st:ao}{c1:E}{r:Es}{p:NW}(h1:a_ (ak O c1 .test en st)=some (false,st)):a_ (ak O (.qQ .And (.cons c1 r) p) .test en st)=some (false,st):=
 aA (a:=.bool false) (b:=st) (show bnd (bnd (a_ (ak O c1 .test en st)) _) _=_ from aA (aA h1 rfl) rfl) rfl
theorem yo{O:cQ}{en:En}{st:ao}{c1 c2:E}{p:NW}{b:Bool}(h1:a_ (ak O c1 .test en st)=some (true,st))(h2:a_ (ak O c2 .test en st)=some (b,st)):a_ (ak O (.qQ .And (.cons c1 (.cons c2 .nil)) p) .test en st)=some (b,st):=by
 cases b
 ·exact aA (a:=.bool false) (b:=st) (show bnd (bnd (a_ (ak O c1 .test en st)) _) _=_ from aA (aA h1 (aA h2 rfl)) rfl) rfl
 ·exact aA (a:=.bool true) (b:=st) (show bnd (bnd (a_ (ak O c1 .test en st)) _) _=_ from aA (aA h1 (aA h2 rfl)) rfl) rfl
noncomputable def DI(cs R:Option V)(t f:List Nat)(j:Nat)(k p q:Option V)(kb:Nat):En:=⟨[.loc cs,.loc R,.loc (some (.lst (aZ bT))),.loc (some (.str t)),.loc (some (.str f)),.loc (some (.ref j)),.loc k,.loc p,.loc q,.cY (.bi .range),.cY (.bi .len)],kb⟩
noncomputable def MA:T:=xd (tl (tl av.E7))
noncomputable def u_:Ss:=qK (tl (tl av.E7))
noncomputable def lS:Nat→Ss→S
 |0,.cons s _=>s
 |n+1,.cons _ r=>lS n r
 |_,_=>.qw default
theorem FW:u_= .cons (lS 0 u_) (.cons (lS 1 u_) (.cons (lS 2 u_) (.cons (lS 3 u_) (.cons (lS 4 u_) .nil)))):=rfl
theorem B7{α:Type}(S:List α)(a b:α):(S++[a]).set S.length b=S++[b]:=by simp
theorem qh{α:Type}(S:List α)(a:α):(S++[a])[S.length]? =some a:=by simp
section
variable {O:cQ} {N:Nat→Nf} {κ:List (Option V)} {S:List (List V)} {kb k:Nat} {cs:List Int} {R:List Nat} {t f:List Nat} {x y:Option V} {U:List (Nat×List Nat)}
noncomputable abbrev sK(κ:List (Option V))(S:List (List V))(U:List (Nat×List Nat)):ao:=⟨κ,S++[un U]⟩
noncomputable abbrev eK(cs:List Int)(R t f:List Nat)(j k:Nat)(p q:Option V)(kb:Nat):En:=DI (some (bf cs)) (some (.lst (sg R))) t f j (some (.int (k:Int))) p q kb
theorem K8{ck:Int}(hk:cs[k]? =some ck):∃p∈bT,aX O N (lS 0 u_) (eK cs R t f S.length k x y kb) (sK κ S U)=some (.bU,eK cs R t f S.length k (some (.str p)) y kb,sK κ S U):=by
 have h1:=OS (ck.fdiv 2) (b:=8) (by decide)
 have h2:=Pp (ck.fdiv 2) (b:=8) (by decide)
 obtain⟨p,hp,hx⟩:=B6 h1 h2
 exact⟨p,hp,aR (e_idx (aa (by rfl)) (aq (aq (e_idx (v:=.int ck) (aa (by rfl)) (aa (by rfl)) (by exact iO hk)) (by rfl) (by rfl)) (by rfl) (by rfl)) (by exact hx)) (by rfl)⟩
theorem len_str(f:List Nat):xF .len [.str f]=some (.int (f.length:Int)):=rfl
theorem vc{n:Nat}{z:List Nat}(hz:∀c∈z,c<1114112)(hU:U.length<1000):eG (sK κ S U) .append (.ref S.length) [.tup [.int (n:Int),.str z]]=some (.none,sK κ S (U++[(n,z)])):=by
 rw[fS (l:=un U) (qh S _) (h_ hz) (by rw[lR];unfold lid;lia)]
 show some (V.none,(⟨κ,(S++[un U]).set S.length _⟩:ao))=_
 rw[B7,←show un (U++[(n,z)])=un U++[.tup [.int (n:Int),.str z]]from ku U [(n,z)]]
theorem K9{c7:Int}{p:List Nat}(h7:cs[7]? =some c7)(hp:p∈bT)(ht:t.length<1000)(hf:f.length<1000)(hU:U.length<1000):∃pre q,(pre=[]∨(pre=[34]∧q=[]∧k=7))∧q∈bT∧
  aX O N (lS 1 u_) (eK cs R t f S.length k (some (.str p)) y kb) (sK κ S U)=some (.bU,eK cs R (t++pre) (f++pre) S.length k (some (.str q)) y kb,sK κ S (U++(if pre=[]then []else[(f.length,pre)]))):=by
 by_cases hk:k=7
 ·subst hk
  have ht1:a_ (ak O (eR (sE (lS 1 u_))) .test (eK cs R t f S.length 7 (some (.str p)) y kb) (sK κ S U))=some (true,sK κ S U):=aW (aa (by rfl)) (by rfl) rfl
  have ht2:a_ (ak O (a0 (sE (lS 1 u_))) .test (eK cs R t f S.length 7 (some (.str p)) y kb) (sK κ S U))=some (decide ((c7.fdiv 16).fmod 2=1),sK κ S U):=
   aW (aq (aq (e_idx (v:=.int c7) (aa (by rfl)) (by rfl) (by exact iO h7)) (by rfl) (by rfl)) (by rfl) (by rfl)) (by rfl) rfl
  by_cases hm:(c7.fdiv 16).fmod 2=1
  ·rw[decide_eq_true hm]at ht2
   refine⟨[34],[],.inr ⟨rfl,rfl,rfl⟩,by simp[bT],bu (yo ht1 ht2) (ai (st1:=sK κ S (U++[(f.length,[34])])) (eN (c9 (aa (by rfl)) (ae (gi (ae (aD (aa (by rfl)) (ae (aa (by rfl)) aj) (by exact fg (len_str f) rfl)) (ae (by rfl) aj))) aj) (vc (by decide) hU))) (aG ?_))⟩
   exact rJ (ae (aq (aa (by rfl)) (by rfl) (by exact cD (by unfold lid;simp;omega))) (ae (aq (aa (by rfl)) (by rfl) (by exact cD (by unfold lid;simp;omega))) (ae (by rfl) aj))) (by rfl)
  ·rw[decide_eq_false hm]at ht2
   refine⟨[],p,.inl rfl,hp,?_⟩
   rw[Nc,Nc,if_pos rfl,Nc]
   exact aI (yo ht1 ht2) bK
 ·refine⟨[],p,.inl rfl,hp,?_⟩
  rw[Nc,Nc,if_pos rfl,Nc]
  refine aI (DH (aW (aa (by rfl)) (by rfl) ?_)) bK
  show some (decide ((k:Int)=7))=_
  rw[decide_eq_false (by lia)]
theorem K_{p:List Nat}(hp:p∈bT):aX O N (lS 2 u_) (eK cs R t f S.length k (some (.str p)) y kb) (sK κ S U)=some (.bU,eK cs R t f S.length k (some (.str p)) (some (.str (aM p))) kb,sK κ S U):=by
 simp only[bT,M5,NI,or_false]at hp
 rcases hp with rfl|rfl|rfl|rfl|rfl|rfl|rfl|rfl<;>rfl
theorem La{c:Nat}{p q:List Nat}(hR:R[k]? =some c)(hc:kX c)(hU:xn U)(hl:U.length<1000)(ht:t.length<1000)(hf:f.length<1000)(hp:p.length<1000)(hq:q.length<1000):
  aX O N (lS 3 u_) (eK cs R t f S.length k (some (.str p)) (some (.str q)) kb) (sK κ S U)=some (.bU,eK cs R (t++[c]++p) (f++[c]++q) (S++[un U]).length k (some (.str p)) (some (.str q)) kb,sK κ (S++[un U]) (U++[(f.length,[c])])):=by
 have hx:∀{st:ao},lZ (aJ st (.lst (sg R))) (.int (k:Int))=some (.str [c]):=fun{st}=>dZ (by simp[sg,aZ,hR])
 have h1:∀x∈[c],x<1114112:=fun x hx=>by rw[M4.mp hx];exact kr hc
 refine rJ (vs:=[.str (t++[c]++p),.str (f++[c]++q),.ref (S++[un U]).length]) (st1:=sK κ (S++[un U]) (U++[(f.length,[c])])) ?_ (by rfl)
 refine ae (aq (x:=.str (t++[c])) (aq (aa (by rfl)) (e_idx (v:=.str [c]) (aa (by rfl)) (aa (by rfl)) (by exact hx)) (by exact cD (by unfold lid;simp;omega))) (aa (by rfl)) (by exact cD (by unfold lid;simp;omega))) ?_
 refine ae (aq (x:=.str (f++[c])) (aq (aa (by rfl)) (e_idx (v:=.str [c]) (aa (by rfl)) (aa (by rfl)) (by exact hx)) (by exact cD (by unfold lid;simp;omega))) (aa (by rfl)) (by exact cD (by unfold lid;simp;omega))) ?_
 refine ae (v:=.ref (S++[un U]).length) (st1:=sK κ (S++[un U]) (U++[(f.length,[c])])) ?_ aj
 have hlis:ak O (eR (hd (I3 (I3 (I4 (lS 3 u_)))))) .val (eK cs R t f S.length k (some (.str p)) (some (.str q)) kb) (sK κ S U)=some (.lst [.tup [.int (f.length:Int),.str [c]]],sK κ S U):=by
  refine aA (a:=[.tup [.int (f.length:Int),.str [c]]]) (b:=sK κ S U) (ae (gi (ae (aD (aa (by rfl)) (ae (aa (by rfl)) aj) (by exact fg (len_str f) rfl)) (ae (e_idx (v:=.str [c]) (aa (by rfl)) (aa (by rfl)) (by exact hx)) aj))) aj) ?_
  rw[if_pos (bG fun v hv=>by rw[M4.mp hv];exact h_ h1)]
 refine aA (a:=.ref S.length) (b:=sK κ S U) (aa (by rfl)) (aA hlis ?_)
 have hd:iy (aJ (sK κ S U) (.ref S.length))=some (un U):=by rw[cP,qh];rfl
 refine bind_eq hd (bind_eq (a:=[.tup [.int (f.length:Int),.str [c]]]) rfl ?_)
 rw[if_pos ⟨by rw[lR];unfold lid;simp;omega,oz hU,bG fun v hv=>by rw[M4.mp hv];exact h_ h1⟩]
 rw[←show un (U++[(f.length,[c])])=un U++[.tup [.int (f.length:Int),.str [c]]]from ku U _]
theorem Lb{p q:List Nat}(hq:∀c∈q,c<1114112)(hl:U.length<1000)(hf:0<f.length):aX O N (lS 4 u_) (eK cs R t f S.length k (some (.str p)) (some (.str q)) kb) (sK κ S U)=some (.bU,eK cs R t f S.length k (some (.str p)) (some (.str q)) kb,sK κ S (U++(if q=[]then []else[(f.length-1,q)]))):=by
 have ht:a_ (ak O (sE (lS 4 u_)) .test (eK cs R t f S.length k (some (.str p)) (some (.str q)) kb) (sK κ S U))=some (!decide (q=[]),sK κ S U):=aW (aa (by rfl)) (by rfl) (by exact EO q [] hq (by simp))
 by_cases h:q=[]
 ·rw[decide_eq_true h]at ht
  rw[if_pos h,Nc]
  exact aI ht bK
 ·rw[decide_eq_false h]at ht
  rw[if_neg h]
  refine bu ht (aG (eN (c9 (aa (by rfl)) (ae (gi (ae (aq (aD (v:=.bi .len) (aa (by rfl)) (ae (aa (by rfl)) aj) (by exact fg (len_str f) rfl)) (by rfl) (by exact nV (b:=1) hf)) (ae (aa (by rfl)) aj))) aj) (vc hq hl))))
theorem zT{f pre q:List Nat}{c:Nat}{p:List Nat}(h:aM p=q):(U++(if pre=[]then []else[(f.length,pre)]))++[((f++pre).length,[c])]++(if q=[]then []else[((f++pre++[c]++q).length-1,q)])=U++dK f.length ⟨pre,c,p⟩:=by
 unfold dK
 simp only[h,M_,Ng,QZ,Ot,NS,Px]
 by_cases hq:q=[]
 ·simp[hq]
 ·simp only[if_neg hq]
  congr 4
  simp;lia
theorem DJ{ck c7:Int}{c:Nat}(hk:cs[k]? =some ck)(h7:cs[7]? =some c7)(hR:R[k]? =some c)(hc:kX c)(hU:xn U)(hl:U.length<900)(ht:t.length<900)(hf:f.length<900):
  ∃b S' x' y',b.c=c∧z0 (k=7) b∧S<+:S'∧aE O N u_ (eK cs R t f S.length k x y kb) (sK κ S U)=some (.bU,eK cs R (t++b.text) (f++b.left) S'.length k x' y' kb,sK κ S' (U++dK f.length b)):=by
 refine bc fun hN0=>?_
 obtain⟨p,hp,e1⟩:=K8 (O:=O) (N:=N) (κ:=κ) (S:=S) (kb:=kb) (R:=R) (t:=t) (f:=f) (x:=x) (y:=y) (U:=U) hk
 obtain⟨pre,q,hpre,hq,e2⟩:=K9 (O:=O) (N:=N) (κ:=κ) (S:=S) (kb:=kb) (R:=R) (t:=t) (f:=f) (y:=y) (U:=U) (k:=k) h7 hp (by lia) (by lia) (by lia)
 refine hN0 ?_
 have hpl:pre.length≤1:=by rcases hpre with rfl|⟨rfl,_⟩<;>simp
 have hpp:∀c∈pre,c<1114112:=by rcases hpre with rfl|⟨rfl,_⟩<;>simp
 have hU2:xn (U++(if pre=[]then []else[(f.length,pre)])):=by
  intro x hx
  rcases MX.mp hx with hx|hx
  ·exact hU x hx
  ·split at hx
   ·cases hx
   ·rw[M4.mp hx];exact hpp
 have hl2:(U++(if pre=[]then []else[(f.length,pre)])).length≤U.length+1:=by split<;>simp
 have hq6:=rX hq
 have hlt:(t++pre).length≤t.length+1:=by simp;exact hpl
 have hlf:(f++pre).length≤f.length+1:=by simp;exact hpl
 refine⟨⟨pre,c,q⟩,S++[un (U++(if pre=[]then []else[(f.length,pre)]))],some (.str q),some (.str (aM q)),rfl,⟨hc,hq,hpre⟩,List.prefix_append ..,?_⟩
 rw[FW]
 refine ai e1 (ai e2 (ai (K_ hq) (ai (La hR hc hU2 (by lia) (by lia) (by lia) (by lia) (by lia)) (aG ?_))))
 have e5:=Lb (O:=O) (N:=N) (κ:=κ) (S:=S++[un (U++(if pre=[]then []else[(f.length,pre)]))]) (kb:=kb) (k:=k) (cs:=cs) (R:=R) (t:=t++pre++[c]++q) (f:=f++pre++[c]++aM q) (U:=(U++(if pre=[]then []else[(f.length,pre)]))++[((f++pre).length,[c])]) (p:=q) (qg hq) (by simp at hl2 ⊢;lia) (by simp;lia)
 rw[zT rfl]at e5
 rw[e5]
 simp only[Bl.text,Bl.left,M_]
end
end Rk.L01
end

section
namespace Rk.L01
open PySem Rk
noncomputable def gS:List Bl→Prop
 |[]=>True
 |b::r=>z0 (r=[]) b∧gS r
theorem z0.mono{p q:Prop}{b:Bl}(h:p→q)(x:z0 p b):z0 q b:=⟨x.c,x.p,x.pre.imp id fun⟨a,b,c⟩=>⟨a,b,h c⟩⟩
theorem gS.all:∀{l:List Bl},gS l→ ∀b∈l,z0 True b
 |[],_,b,hb=>nomatch hb
 |x::l,h,b,hb=>by
  rcases M5.mp hb with rfl|hb
  ·exact h.1.mono fun _=>trivial
  ·exact gS.all h.2 b hb
theorem z0.lens{b:Bl}(h:z0 True b):b.text.length≤8∧b.left.length≤4∧ ∀n,(dK n b).length≤3:=by
 have h6:=rX h.p
 have hp:b.pre.length≤1:=by rcases h.pre with e|⟨e,_⟩<;>rw[e]<;>simp
 refine⟨by simp[Bl.text];lia,by simp[Bl.left];lia,fun n=>?_⟩
 unfold dK
 by_cases h1:b.pre=[]<;>by_cases h2:aM b.p=[]<;>simp[h1,h2]
theorem z0.DK{b:Bl}(h:z0 True b)(n:Nat):xn (dK n b):=by
 intro x hx c hc
 unfold dK at hx
 simp only[MX,M5]at hx
 rcases hx with hx|hx|hx
 ·rcases h.pre with e|⟨e,_⟩
  ·rw[e]at hx;simp at hx
  ·rw[e]at hx;simp at hx;rw[hx]at hc;simp at hc;rw[hc];decide
 ·rw[hx]at hc;rw[M4.mp hc];exact kr h.c
 ·split at hx
  ·cases hx
  ·rw[M4.mp hx]at hc;exact qg h.p c hc
theorem B8:∀{l:List Bl},(∀b∈l,z0 True b)→(aQ l).length≤8*l.length∧(aU l).length≤4*l.length∧ ∀n,(aN n l).length≤3*l.length∧xn (aN n l)
 |[],_=>⟨M9 _,M9 _,fun n=>⟨M9 _,fun x hx=>nomatch hx⟩⟩
 |b::l,h=>by
  refine bc fun hN0=>?_
  obtain⟨h1,h2,h3⟩:=B8 (l:=l) fun x hx=>h x (MY _ hx)
  have hb:=h b (Nk ..)
  obtain⟨k1,k2,k3⟩:=hb.lens
  refine hN0 ?_
  refine⟨by simp only[DF,Ng,NS];lia,by simp only[DG,Ng,NS];lia,fun n=>⟨?_,?_⟩⟩
  ·have:=k3 n
   have:=(h3 (n+b.left.length)).1
   simp only[B5,Ng,NS];lia
  ·intro x hx
   rcases MX.mp hx with hx|hx
   ·exact hb.DK n x hx
   ·exact(h3 (n+b.left.length)).2 x hx
section
variable {O:cQ} {κ:List (Option V)} {kb:Nat} {cs:List Int} {R:List Nat}
inductive EP (O:cQ) (N:Nat→Nf) (κ:List (Option V)) (kb:Nat) (cs:List Int) (R:List Nat) (a n:Nat) (B:List Bl) (S:List (List V)) (en:En):Prop
 |mk (Bs:List Bl) (S':List (List V)) (k x y:Option V) (hc:Bs.map Bl.c=R.drop a) (ho:gS Bs) (hS:S<+:S')
  (h:fk MA (fun en st=>aE O N u_ en st) (cA (a:Int) n) en (sK κ S (aN 0 B))=some (.bU,DI (some (bf cs)) (some (.lst (sg R))) (aQ (B++Bs)) (aU (B++Bs)) S'.length k x y kb,sK κ S' (aN 0 (B++Bs)))):EP O N κ kb cs R a n B S en
theorem yp(N:Nat→Nf)(hcs:cs.length=8)(hR:R.length=8)(hRo:∀c∈R,kX c):∀(n a:Nat) (B:List Bl) (S:List (List V)) (k x y:Option V),a+n=8→B.length=a→(∀b∈B,z0 True b)→
  EP O N κ kb cs R a n B S (DI (some (bf cs)) (some (.lst (sg R))) (aQ B) (aU B) S.length k x y kb)
 |0,a,B,S,k,x,y,ha,hB,hok=>⟨[],S,k,x,y,by rw[QV (by lia)];rfl,trivial,List.prefix_refl _,by rw[Nc];rfl⟩
 |n+1,a,B,S,k,x,y,ha,hB,hok=>by
  refine bc fun hN0=>?_
  obtain⟨h1,h2,h3⟩:=B8 hok
  obtain⟨h3,h4⟩:=h3 0
  have ia:a<8:=by lia
  have ck:cs[a]? =some cs[a]:=M3 (by lia)
  have c7:cs[7]? =some cs[7]:=M3 (by lia)
  have rk:R[a]? =some R[a]:=M3 (by lia)
  obtain⟨b,S',x',y',hbc,hb,hS,e⟩:=DJ (O:=O) (N:=N) (κ:=κ) (S:=S) (kb:=kb) (x:=x) (y:=y) (t:=aQ B) (f:=aU B) (U:=aN 0 B) ck c7 rk (hRo _ (Vd _)) h4 (by lia) (by lia) (by lia)
  have e1:aQ (B++[b])=aQ B++b.text:=by rw[rV];show _++(b.text++[])=_;rw[Nc]
  have e2:aU (B++[b])=aU B++b.left:=by rw[rW];show _++(b.left++[])=_;rw[Nc]
  have e3:aN 0 (B++[b])=aN 0 B++dK (aU B).length b:=by rw[qf,PX];show _++(dK _ b++[])=_;rw[Nc]
  rw[←e1,←e2,←e3]at e
  obtain⟨Bs,S2,k2,x2,y2,hc2,ho2,hS2,h⟩:=yp N hcs hR hRo n (a+1) (B++[b]) S' (some (.int (a:Int))) x' y' (by lia) (by simp[hB]) (fun z hz=>by
   rcases MX.mp hz with hz|hz
   ·exact hok z hz
   ·rw[M4.mp hz];exact hb.mono fun _=>trivial)
  refine hN0 ?_
  have hlen:Bs.length=n:=by have:=congrArg List.length hc2;simp[hR]at this;lia
  refine⟨b::Bs,S2,k2,x2,y2,?_,⟨hb.mono fun h7=>List.length_eq_zero_iff.mp (by lia),ho2⟩,hS.trans hS2,?_⟩
  ·rw[Nz,hc2,hbc];exact(RQ (show a<R.length by lia)).symm
  ·rw[show B++b::Bs=B++[b]++Bs by simp]
   refine bz (bV:=eK cs R (aQ B) (aU B) S.length a x y kb) (st1:=sK κ S (aN 0 B)) (by rfl) e ?_
   rw[show((a:Int)+1)=((a+1:Nat):Int)from rfl]
   exact h
end
inductive Ja (cs:List Int) (R:List Nat) (k:Nat) (st:ao):Prop
 |mk (Bs:List Bl) (hc:Bs.map Bl.c=R) (ho:gS Bs) (h:aO av.P (k+1) (.fn 16) [bf cs,.lst (sg R)] none st=some (.tup [.str (aQ Bs),.str (aU Bs),.lst (un (aN 0 Bs))],st))
theorem xo{cs:List Int}{R:List Nat}{k:Nat}{st:ao}(hcs:cs.length=8)(hR:R.length=8)(hRo:∀c∈R,kX c):Ja cs R k st:=by
 obtain⟨Bs,S',kk,x,y,hc,ho,hS,h⟩:=yp (O:=⟨aO av.P k,av.P.gen⟩) (κ:=st.κ) (kb:=st.κ.length) (cs:=cs) (R:=R) av.N hcs hR hRo 8 0 [] st.σ none none none rfl rfl (by simp)
 rw[Oz,Tu]at*
 refine⟨Bs,hc,ho,?_⟩
 have hb:aE ⟨aO av.P k,av.P.gen⟩ av.P.N (av.P.F 16).body ⟨(aV (av.P.F 16).sc (([bf cs,.lst (sg R)]:List V).map some) [] st.κ).1,st.κ.length⟩ { st with κ:=(aV (av.P.F 16).sc (([bf cs,.lst (sg R)]:List V).map some) [] st.κ).2 }=
   some (.ret (.tup [.str (aQ Bs),.str (aU Bs),.ref S'.length]),DI (some (bf cs)) (some (.lst (sg R))) (aQ Bs) (aU Bs) S'.length kk x y st.κ.length,sK st.κ S' (aN 0 Bs)):=
  ai (aR (by rfl) (by rfl)) (ai (rJ (by rfl) (by rfl)) (ai (gP (v:=.lst (cA 0 8)) (aD (aa (by rfl)) (ae (by rfl) aj) (by exact eE (src_range (n:=8) (by decide)))) (by intro i h;cases h) rfl h) (bS (dB (gi (ae (aa (by rfl)) (ae (aa (by rfl)) (ae (aa (by rfl)) aj))))))))
 rw[call_top (P:=av.P) (n:=k) (g:=16) (args:=[bf cs,.lst (sg R)]) (vals:=[bf cs,.lst (sg R)]) (key:=none) rfl rfl hb rfl]
 clear hcs hR hRo hc ho h hb
 obtain⟨E,rfl⟩:=hS
 congr 1
 refine Prod.ext ?_ ?_
 ·show V.tup [.str (aQ Bs),.str (aU Bs),if(st.σ++E).length<st.σ.length then _ else match ((st.σ++E)++[un (aN 0 Bs)])[(st.σ++E).length]? with|some l=>V.lst l|none=>_]=_
  rw[if_neg (by simp),qh]
 ·show({ κ:=st.κ,σ:=((st.σ++E)++[un (aN 0 Bs)]).take st.σ.length }:ao)=st
  rw[M_,TF]
end Rk.L01
end

section
namespace Rk.L01
open PySem Rk
theorem jq(o:Nat):∀(e:Bool) (cur l:List Nat),34∉l→aS e (some o) cur l=cur++l
 |e,cur,[],_=>by rw[cO,Nc]
 |true,cur,c::r,h=>by
  rw[b_,jq o false _ r fun q=>h (MY _ q)];simp
 |false,cur,c::r,h=>by
  have h1:c≠34:=fun q=>h (by simp[q])
  rw[bE,if_neg h1]
  split
  ·rw[jq o true _ r fun q=>h (MY _ q)];simp
  ·rw[jq o false _ r fun q=>h (MY _ q)];simp
theorem B9{p:List Nat}(hp:p∈bT)(r:List Nat):aS false none [] (p++r)=aM p++aS false none [] r:=by
 simp only[bT,M5,NI,or_false]at hp
 rcases hp with rfl|rfl|rfl|rfl|rfl|rfl|rfl|rfl
 ·rfl
 ·simp[bE,aM];rw[gA];rfl
 ·simp[bE,aM]
 ·simp[bE,aM]
 ·simp[bE,b_,aM];rw[gA];rfl
 ·simp[bE,b_,aM];rw[gA];rfl
 ·simp[bE,b_,aM];rw[gA];rfl
 ·simp[bE,b_,aM];rw[gA];rfl
theorem B_{c:Nat}(h:kX c):c≠34∧c≠92:=by rcases h with rfl|rfl<;>decide
theorem lT{w:List Nat}(hw:34∉w):∀Bs:List Bl,gS Bs→aS false none [] (aQ Bs++w)=aU Bs++w
 |[],_=>by show aS false none [] w=w;rw[gR _ _ _ hw];rfl
 |b::r,h=>by
  obtain⟨hb,hr⟩:=h
  have hc:=B_ hb.c
  show aS false none [] ((b.pre++([b.c]++b.p))++aQ r++w)=(b.pre++([b.c]++aM b.p))++aU r++w
  rcases hb.pre with e|⟨e,ep,er⟩
  ·rw[e,Oz,Oz,M_,M_,M_,M_]
   rw[kj [b.c] _ (fun x hx=>by rw[M4.mp hx];exact hc),B9 hb.p,lT hw r hr]
  ·subst er
   rw[e,ep]
   show aS false none [] (34::b.c::w)=34::b.c::w
   rw[bE,if_neg (by decide),if_pos rfl]
   show aS false (some 0) [34] (b.c::w)=_
   rw[jq 0 false [34] (b.c::w) (fun q=>by
    rcases M5.mp q with q|q
    ·exact hc.1 q.symm
    ·exact hw q)]
   rfl
theorem zU{p:List Nat}(hp:p∈bT)(n:Nat)(r:List Nat):cK (n:Int) false (aM p++r)=un (if aM p=[]then []else[(n+(aM p).length-1,aM p)])++cK ((n+(aM p).length:Nat):Int) false r:=by
 simp only[bT,M5,NI,or_false]at hp
 rcases hp with rfl|rfl|rfl|rfl|rfl|rfl|rfl|rfl
 ·rfl
 ·rfl
 ·rfl
 ·rfl
 all_goals (show _::cK (((n:Int)+1)+1) false r=_::cK ((n+2:Nat):Int) false r;rw[Int.add_assoc];rfl)
theorem tK{c:Nat}(h:c≠92)(n:Nat)(r:List Nat):cK (n:Int) false (c::r)= .tup [.int (n:Int),.str [c]]::cK ((n+1:Nat):Int) false r:=by
 rw[jL,if_neg h];rfl
theorem vd(w:List Nat):∀(Bs:List Bl) (n:Nat),gS Bs→cK (n:Int) false (aU Bs++w)=un (aN n Bs)++cK ((n+(aU Bs).length:Nat):Int) false w
 |[],n,_=>rfl
 |b::r,n,h=>by
  obtain⟨hb,hr⟩:=h
  have hc:=(B_ hb.c).2
  have key:∀m:Nat,cK (m:Int) false ([b.c]++aM b.p++(aU r++w))=un ((m,[b.c])::(if aM b.p=[]then []else[(m+(aM b.p).length,aM b.p)]))++un (aN (m+1+(aM b.p).length) r)++cK ((m+1+(aM b.p).length+(aU r).length:Nat):Int) false w:=fun m=>by
   rw[M_,Ot,tK hc,zU hb.p,vd w r _ hr]
   show _::(un _++(un _++_))=_::(un _++un _++_)
   rw[M_]
   congr 4
   by_cases hq:aM b.p=[]
   ·simp[hq]
   ·have:m+1+(aM b.p).length-1=m+(aM b.p).length:=by lia
    first|rw[if_neg hq,if_neg hq,this]|rw[this]
  rcases hb.pre with e|⟨e,ep,er⟩
  ·have:=key n
   show cK (n:Int) false ((b.pre++([b.c]++aM b.p))++aU r++w)=un (dK n b++aN (n+b.left.length) r)++cK ((n+((b.pre++([b.c]++aM b.p))++aU r).length:Nat):Int) false w
   have hl:b.left.length=1+(aM b.p).length:=by simp[Bl.left,e];lia
   rw[e,Oz,M_,this,ku,hl]
   unfold dK
   rw[e]
   simp only[if_pos,Oz,Px,QT,Ng,QZ,NS]
   rw[show n+(1+(aM b.p).length)=n+1+(aM b.p).length by lia,show n+(0+1+(aM b.p).length+(aU r).length)=n+1+(aM b.p).length+(aU r).length by lia]
  ·subst er
   have hp0:aM b.p=[]:=by rw[ep];rfl
   show cK (n:Int) false ((b.pre++([b.c]++aM b.p))++[]++w)=un (dK n b++[])++cK ((n+((b.pre++([b.c]++aM b.p))++[]).length:Nat):Int) false w
   unfold dK
   rw[e,hp0]
   show cK (n:Int) false (34::b.c::w)=[_,_]++cK ((n+2:Nat):Int) false w
   rw[tK (by decide),tK hc];rfl
noncomputable def jA(m:Nat)(w:List Nat):List (Nat×List Nat):=if w=[]then []else[(m,w)]
theorem Ca{w:List Nat}(hw:w=[]∨w=[92]){Bs:List Bl}(h:gS Bs):fX (aU Bs++w)=un (aN 0 Bs++jA (aU Bs).length w):=by
 show cK ((0:Nat):Int) false _=_
 rw[vd w Bs 0 h,ku,PX]
 congr 1
 rcases hw with rfl|rfl
 ·rfl
 ·show[V.tup [.int (((aU Bs).length:Int)+1-1),.str [92]]]=[V.tup [.int ((aU Bs).length:Int),.str [92]]]
  rw[RJ]
noncomputable def nE:V→Option V
 |.tup [_,.str x]=>if x=[40]∨x=[41]then some (.str x)else none
 |_=>none
theorem Cb{p:List Nat}(hp:p∈bT)(n:Nat):(un (if aM p=[]then []else[(n,aM p)])).filterMap nE=[]:=by
 simp only[bT,M5,NI,or_false]at hp
 rcases hp with rfl|rfl|rfl|rfl|rfl|rfl|rfl|rfl<;>rfl
theorem vg:∀(Bs:List Bl) (n:Nat),gS Bs→(un (aN n Bs)).filterMap nE=sg (Bs.map Bl.c)
 |[],_,_=>rfl
 |b::r,n,h=>by
  obtain⟨hb,hr⟩:=h
  show(un (dK n b++aN _ r)).filterMap nE=_
  rw[ku,Q3,vg r _ hr,Nz,I5]
  unfold dK
  rw[ku,Q3]
  have h1:(un (if b.pre=[]then []else[(n,b.pre)])).filterMap nE=[]:=by
   rcases hb.pre with e|⟨e,_⟩<;>rw[e]<;>rfl
  have h2:nE (.tup [.int ((n+b.pre.length:Nat):Int),.str [b.c]])=some (.str [b.c]):=by
   rcases hb.c with e|e<;>rw[e]<;>rfl
  rw[h1]
  show(VH nE (_::un _))++_=_
  rw[Pe,h2]
  show _::(VH nE (un _))++_=_
  rw[Cb hb.p];rfl
theorem Cc{p:List Nat}(hp:p∈bT)(o:Int)(r:List Nat):dP false o (aM p++r)=dP false o r:=by
 simp only[bT,M5,NI,or_false]at hp
 rcases hp with rfl|rfl|rfl|rfl|rfl|rfl|rfl|rfl<;>simp[aM,BR,tu]
theorem qi(w:List Nat):∀(Bs:List Bl) (o:Int),gS Bs→dP false o (aU Bs++w)=dP false o (Bs.map Bl.c++w)
 |[],_,_=>rfl
 |b::r,o,h=>by
  obtain⟨hb,hr⟩:=h
  have hpre:∀(o:Int) (z:List Nat),dP false o (b.pre++z)=dP false o z:=fun o z=>by
   rcases hb.pre with e|⟨e,_⟩
   ·rw[e];rfl
   ·rw[e,Ot,tu];rfl
  show dP false o ((b.pre++([b.c]++aM b.p))++aU r++w)=dP false o (b.c::(r.map Bl.c++w))
  rw[M_,M_,hpre,M_,Ot]
  have h40:∀z,dP false o (40::z)=dP false (o+1) z:=fun z=>rfl
  have h41:∀z,dP false o (41::z)=if o-1<0 then false else dP false (o-1) z:=fun z=>rfl
  rcases hb.c with e|e
  ·rw[e,h40,h40,Cc hb.p,qi w r _ hr]
  ·rw[e,h41,h41,Cc hb.p,qi w r _ hr]
theorem kR{Bs:List Bl}(h:gS Bs)(j:Nat){w:List Nat}(hw:34∉w):EJ (M2 j 40++aQ Bs++w)=dP false 0 (M2 j 40++Bs.map Bl.c++w):=by
 unfold EJ
 rw[M_,kj _ _ (fun x hx=>by rw[Qy hx];decide),lT hw Bs h,p_,qi w Bs _ h,M_,p_]
theorem kT:∀{Bs:List Bl},gS Bs→ ∀c∈aQ Bs,c<1114112
 |[],_,c,hc=>nomatch hc
 |b::r,h,c,hc=>by
  rcases MX.mp hc with hc|hc
  ·rcases MX.mp hc with hc|hc
   ·rcases h.1.pre with e|⟨e,_⟩
    ·rw[e]at hc;cases hc
    ·rw[e]at hc;rw[M4.mp hc];decide
   ·rcases MX.mp hc with hc|hc
    ·rw[M4.mp hc];exact kr h.1.c
    ·exact u9 h.1.p c hc
  ·exact kT h.2 c hc
theorem yq:∀{Bs:List Bl},gS Bs→ ∀c∈aU Bs,c<1114112
 |[],_,c,hc=>nomatch hc
 |b::r,h,c,hc=>by
  rcases MX.mp hc with hc|hc
  ·rcases MX.mp hc with hc|hc
   ·rcases h.1.pre with e|⟨e,_⟩
    ·rw[e]at hc;cases hc
    ·rw[e]at hc;rw[M4.mp hc];decide
   ·rcases MX.mp hc with hc|hc
    ·rw[M4.mp hc];exact kr h.1.c
    ·exact qg h.1.p c hc
  ·exact yq h.2 c hc
end Rk.L01
end

section
namespace Rk.L01
open PySem Rk
noncomputable def bis(p:Nat→Bool):Nat→Nat→Nat→Nat
 |0,lo,_=>lo
 |n+1,lo,hi=>if lo<hi then (if p ((lo+hi)/2)then bis p n lo ((lo+hi)/2)else bis p n ((lo+hi)/2+1) hi)else lo
theorem ER{p:Nat→Bool}{n lo hi:Nat}(h:lo<hi):bis p (n+1) lo hi=if p ((lo+hi)/2)then bis p n lo ((lo+hi)/2)else bis p n ((lo+hi)/2+1) hi:=if_pos h
theorem ES{p:Nat→Bool}{n lo hi:Nat}(h:¬lo<hi):bis p (n+1) lo hi=lo:=if_neg h
theorem tL{p:Nat→Bool}:∀(n lo hi:Nat),lo≤hi→bis p n lo hi≤hi
 |0,lo,hi,h=>h
 |n+1,lo,hi,h=>by
  by_cases c:lo<hi
  ·rw[ER c]
   split
   ·exact M8 (tL n lo _ (by lia)) (by lia)
   ·exact tL n _ hi (by lia)
  ·rw[ES c];exact h
section
variable {O:cQ} {N:Nat→Nf} {st:ao}
inductive FY (test:En→ao→Option (Bool×ao)) (body:En→ao→Option (Fl×En×ao)) (Ev:Nat→Nat→Option V→En) (st:ao) (n r:Nat) (en:En):Prop
 |mk (hi:Nat) (m:Option V) (h:qz test body n en st=some (.bU,Ev r hi m,st))
theorem iP{test:En→ao→Option (Bool×ao)}{body:En→ao→Option (Fl×En×ao)}{Ev:Nat→Nat→Option V→En}{p:Nat→Bool}{L:Nat}(ht:∀lo hi m,test (Ev lo hi m) st=some (decide ((lo:Int)<hi),st))
  (hb:∀lo hi m,(lo+hi)/2<L→body (Ev lo hi m) st=some (.bU,(if p ((lo+hi)/2)then Ev lo ((lo+hi)/2) (some (.int ((lo+hi)/2:Nat)))else Ev ((lo+hi)/2+1) hi (some (.int ((lo+hi)/2:Nat)))),st)):
  ∀n lo hi m,hi≤L→hi≤lo+n→FY test body Ev st (n+1) (bis p n lo hi) (Ev lo hi m)
 |0,lo,hi,m,_,h=>⟨hi,m,uS ((ht lo hi m).trans (by rw[decide_eq_false (by lia)]))⟩
 |n+1,lo,hi,m,hL,h=>by
  by_cases c:lo<hi
  ·have h1:=(ht lo hi m).trans (by rw[decide_eq_true (Qq.mpr c)])
   have h2:=hb lo hi m (by lia)
   rw[ER c]
   cases hp:p ((lo+hi)/2)
   ·rw[if_neg (by simp[hp])]at h2
    rw[if_neg (by simp)]
    obtain⟨hi',m',h3⟩:=iP ht hb n ((lo+hi)/2+1) hi (some (.int ((lo+hi)/2:Nat))) hL (by lia)
    exact⟨hi',m',uR h1 h2 h3⟩
   ·rw[if_pos hp]at h2
    rw[if_pos rfl]
    obtain⟨hi',m',h3⟩:=iP ht hb n lo ((lo+hi)/2) (some (.int ((lo+hi)/2:Nat))) (by lia) (by lia)
    exact⟨hi',m',uR h1 h2 h3⟩
  ·rw[ES c]
   exact⟨hi,m,uS ((ht lo hi m).trans (by rw[decide_eq_false (by lia)]))⟩
noncomputable def lU(a x:V)(kv:V)(kb lo hi:Nat)(m:Option V):En:=⟨[.loc (some a),.loc (some x),.loc (some (.int (lo:Int))),.loc (some (.int (hi:Int))),.loc (some kv),.loc m,.cY (cH 39),.cY (cH 25)],kb⟩
noncomputable def yr:Nat→Ss→S
 |0,.cons s _=>s
 |n+1,.cons _ r=>yr n r
 |_,_=>.qw default
noncomputable def Lc:S→Ss
 |.ite _ a _ _=>a
 |_=>.nil
noncomputable def Ld:S→Ss
 |.ite _ _ b _=>b
 |_=>.nil
noncomputable def DL:S→E
 |.yN e _ _=>e
 |_=>.bH
noncomputable def n_:S→Ss
 |.yN _ b _=>b
 |_=>.nil
noncomputable def wN(bd:Ss):S:=yr 0 (Lc (yr 2 bd))
noncomputable def wK(bd:Ss):S:=yr 0 (Ld (yr 2 bd))
theorem yt{a x kv:V}{kb lo hi:Nat}{m:Option V}{p1 p2 p3 p4 p5:NW}{md:Md}:ak O (.bin .FloorDiv (.bin .Add (.var 2 p1) (.var 3 p2) p3) (.cI 2 0 p4) p5) md (lU a x kv kb lo hi m) st=some (.int (((lo+hi)/2:Nat):Int),st):=
 aq (aq (aa (by rfl)) (aa (by rfl)) (by rfl)) (by rfl) (by
  show some (V.int (((lo:Int)+hi).fdiv 2),st)=_
  rw[←Py,show(2:Int)=((2:Nat):Int)from rfl,mS])
variable {a kv:V} {x:Int} {items:List V} {kb:Nat}
theorem yu{i:Nat}{v:V}(ha:aJ st a= .lst items)(h:items[i]? =some v):lZ (aJ st a) (.int (i:Int))=some v:=by rw[ha];exact dZ h
noncomputable def pR(x:Int)(xs:List Int)(m:Nat):Bool:=decide (x<xs.getD m 0)
noncomputable def pL(x:Int)(xs:List Int)(m:Nat):Bool:= !decide (xs.getD m 0<x)
theorem getD_at{xs:List Int}{i:Nat}(h:i<xs.length):xs[i]? =some (xs.getD i 0):=by rw[Nj,M3 h];rfl
structure Keyed (O:cQ) (st:ao) (kv:V) (items:List V) (xs:List Int):Prop where
 len:items.length=xs.length
 call:∀i,i<xs.length→ ∃v,items[i]? =some v∧fM O .val kv [v] none st=some (.int (xs.getD i 0),st)
section
variable {lo hi:Nat} {m:Option V} {xs:List Int}
theorem DM(ha:aJ st a= .lst (xs.map .int))(h:(lo+hi)/2<xs.length):aE O N (n_ (wN av.Cw)) (lU a (.int x) kv kb lo hi m) st=some (.bU,(if pR x xs ((lo+hi)/2)then lU a (.int x) kv kb lo ((lo+hi)/2) (some (.int ((lo+hi)/2:Nat)))else lU a (.int x) kv kb ((lo+hi)/2+1) hi (some (.int ((lo+hi)/2:Nat)))),st):=by
 refine ai (bV:=lU a (.int x) kv kb lo hi (some (.int ((lo+hi)/2:Nat)))) (aR yt (by rfl)) (aG ?_)
 have ht:a_ (ak O (sE (yr 1 (n_ (wN av.Cw)))) .test (lU a (.int x) kv kb lo hi (some (.int ((lo+hi)/2:Nat)))) st)=some (pR x xs ((lo+hi)/2),st):=
  aW (aa (by rfl)) (e_idx (aa (by rfl)) (aa (by rfl)) (yu ha (by rw[Nr,getD_at h];rfl))) (by rfl)
 cases hp:pR x xs ((lo+hi)/2)
 ·rw[hp]at ht
  rw[if_neg (by simp)]
  exact aI ht (aG (aR (aq (aa (by rfl)) (by rfl) (by rfl)) (by rfl)))
 ·rw[hp]at ht
  rw[if_pos rfl]
  exact bu ht (aG (aR (aa (by rfl)) (by rfl)))
theorem DN(ha:aJ st a= .lst (xs.map .int))(h:(lo+hi)/2<xs.length):aE O N (n_ (wN av.Cy)) (lU a (.int x) kv kb lo hi m) st=some (.bU,(if pL x xs ((lo+hi)/2)then lU a (.int x) kv kb lo ((lo+hi)/2) (some (.int ((lo+hi)/2:Nat)))else lU a (.int x) kv kb ((lo+hi)/2+1) hi (some (.int ((lo+hi)/2:Nat)))),st):=by
 refine ai (bV:=lU a (.int x) kv kb lo hi (some (.int ((lo+hi)/2:Nat)))) (aR yt (by rfl)) (aG ?_)
 have ht:a_ (ak O (sE (yr 1 (n_ (wN av.Cy)))) .test (lU a (.int x) kv kb lo hi (some (.int ((lo+hi)/2:Nat)))) st)=some (!pL x xs ((lo+hi)/2),st):=
  aW (e_idx (aa (by rfl)) (aa (by rfl)) (yu ha (by rw[Nr,getD_at h];rfl))) (aa (by rfl)) (by unfold pL;rw[V5];rfl)
 cases hp:pL x xs ((lo+hi)/2)
 ·rw[hp]at ht
  rw[if_neg (by simp)]
  exact bu ht (aG (aR (aq (aa (by rfl)) (by rfl) (by rfl)) (by rfl)))
 ·rw[hp]at ht
  rw[if_pos rfl]
  exact aI ht (aG (aR (aa (by rfl)) (by rfl)))
theorem DO(ha:aJ st a= .lst items)(hk:Keyed O st kv items xs)(h:(lo+hi)/2<xs.length):aE O N (n_ (wK av.Cw)) (lU a (.int x) kv kb lo hi m) st=some (.bU,(if pR x xs ((lo+hi)/2)then lU a (.int x) kv kb lo ((lo+hi)/2) (some (.int ((lo+hi)/2:Nat)))else lU a (.int x) kv kb ((lo+hi)/2+1) hi (some (.int ((lo+hi)/2:Nat)))),st):=by
 refine bc fun hN0=>?_
 obtain⟨v,hv,hc⟩:=hk.call _ h
 refine hN0 ?_
 refine ai (bV:=lU a (.int x) kv kb lo hi (some (.int ((lo+hi)/2:Nat)))) (aR yt (by rfl)) (aG ?_)
 have ht:a_ (ak O (sE (yr 1 (n_ (wK av.Cw)))) .test (lU a (.int x) kv kb lo hi (some (.int ((lo+hi)/2:Nat)))) st)=some (pR x xs ((lo+hi)/2),st):=
  aW (aa (by rfl)) (aD (aa (by rfl)) (ae (e_idx (aa (by rfl)) (aa (by rfl)) (yu ha hv)) aj) hc) (by rfl)
 cases hp:pR x xs ((lo+hi)/2)
 ·rw[hp]at ht
  rw[if_neg (by simp)]
  exact aI ht (aG (aR (aq (aa (by rfl)) (by rfl) (by rfl)) (by rfl)))
 ·rw[hp]at ht
  rw[if_pos rfl]
  exact bu ht (aG (aR (aa (by rfl)) (by rfl)))
theorem DP(ha:aJ st a= .lst items)(hk:Keyed O st kv items xs)(h:(lo+hi)/2<xs.length):aE O N (n_ (wK av.Cy)) (lU a (.int x) kv kb lo hi m) st=some (.bU,(if pL x xs ((lo+hi)/2)then lU a (.int x) kv kb lo ((lo+hi)/2) (some (.int ((lo+hi)/2:Nat)))else lU a (.int x) kv kb ((lo+hi)/2+1) hi (some (.int ((lo+hi)/2:Nat)))),st):=by
 refine bc fun hN0=>?_
 obtain⟨v,hv,hc⟩:=hk.call _ h
 refine hN0 ?_
 refine ai (bV:=lU a (.int x) kv kb lo hi (some (.int ((lo+hi)/2:Nat)))) (aR yt (by rfl)) (aG ?_)
 have ht:a_ (ak O (sE (yr 1 (n_ (wK av.Cy)))) .test (lU a (.int x) kv kb lo hi (some (.int ((lo+hi)/2:Nat)))) st)=some (!pL x xs ((lo+hi)/2),st):=
  aW (aD (aa (by rfl)) (ae (e_idx (aa (by rfl)) (aa (by rfl)) (yu ha hv)) aj) hc) (aa (by rfl)) (by unfold pL;rw[V5];rfl)
 cases hp:pL x xs ((lo+hi)/2)
 ·rw[hp]at ht
  rw[if_neg (by simp)]
  exact bu ht (aG (aR (aq (aa (by rfl)) (by rfl) (by rfl)) (by rfl)))
 ·rw[hp]at ht
  rw[if_pos rfl]
  exact aI ht (aG (aR (aa (by rfl)) (by rfl)))
end
noncomputable def xq(hv:V)(hi len:Nat):Prop:=(hv= .none∧hi=len)∨(hv= .int (hi:Int)∧hi≤len)
noncomputable def Jb(a x hv:V)(kv:V)(kb lo:Nat):En:=⟨[.loc (some a),.loc (some x),.loc (some (.int (lo:Int))),.loc (some hv),.loc (some kv),.loc none,.cY (cH 39),.cY (cH 25)],kb⟩
theorem DQ{hv:V}{lo:Nat}{p1 p2 p3:NW}:a_ (ak O (.cmp .Lt (.var 2 p1) (.cI 0 0 p2) p3) .test (Jb a (.int x) hv kv kb lo) st)=some (false,st):=aW (x:=.int (lo:Int)) (aa (by rfl)) (by rfl) (by
 show some (decide ((lo:Int)<0))=_
 rw[decide_eq_false (by lia)])
theorem oA{hv:V}{lo hi:Nat}{p1 p2 p3 p4 p5 p6 p7 p8 p9:NW}(ha:aJ st a= .lst items)(hh:xq hv hi items.length):aX O N (.ite (.cmp .Is (.var 3 p1) (.cN 0 p2) p3) (.cons (.asg (.bM 3 p4) (.call (.var 7 p5) (.cons (.var 0 p6) .nil) .bH default p7) p8) .nil) .nil p9) (Jb a (.int x) hv kv kb lo) st=some (.bU,lU a (.int x) kv kb lo hi none,st):=by
 rcases hh with⟨rfl,rfl⟩|⟨rfl,_⟩
 ·exact bu (by rfl) (aG (aR (aD (aa (by rfl)) (ae (aa (by rfl)) aj) (fg (v:=.int (items.length:Int)) (by rw[Nz,ha];rfl) rfl)) (by rfl)))
 ·exact aI (by rfl) bK
theorem xq.le{hv:V}{hi len:Nat}(h:xq hv hi len):hi≤len:=by
 rcases h with⟨_,h⟩|⟨_,h⟩
 ·exact QJ h
 ·exact h
variable {k lo hi:Nat} {hv:V} {xs:List Int} {args:List V} {key:Option V}
theorem yv{a x kv:V}{kb lo hi:Nat}{m:Option V}{p1 p2 p3:NW}:a_ (ak O (.cmp .Lt (.var 2 p1) (.var 3 p2) p3) .test (lU a x kv kb lo hi m) st)=some (decide ((lo:Int)<hi),st):=aW (aa (by rfl)) (aa (by rfl)) rfl
theorem call_num{g n:Nat}{vals:List V}{r:Int}{en':En}(hg:av.P.jv g=false)(hsc:∀κ,aV (av.P.F g).sc (vals.map some) [] κ=((aV (av.P.F g).sc (vals.map some) [] κ).1,κ))(hb:gh (av.P.F g) args key=some vals)
  (h:aE ⟨aO av.P n,av.P.gen⟩ av.P.N (av.P.F g).body ⟨(aV (av.P.F g).sc (vals.map some) [] st.κ).1,st.κ.length⟩ st=some (.ret (.int r),en',st)):aO av.P (n+1) (.fn g) args key st=some (.int r,st):=by
 have e:=call_top (P:=av.P) (n:=n) (g:=g) (args:=args) (vals:=vals) (key:=key) (st:=st) (fl:=.ret (.int r)) (en':=en') (st':=st) hg hb (by rw[hsc];exact h) rfl
 rw[e]
 show some (V.int r,({ κ:=st.κ,σ:=st.σ.take st.σ.length }:ao))=_
 rw[Of]
theorem yw(hb:gh (av.P.F 7) args key=some [a,.int x,.int (lo:Int),hv,.none])(ha:aJ st a= .lst (xs.map .int))(hh:xq hv hi xs.length)(hn:hi≤lo+99):aO av.P (k+1) (.fn 7) args key st=some (.int (bis (pR x xs) 99 lo hi:Nat),st):=by
 obtain⟨hi',m',h⟩:=iP (test:=fun en st=>a_ (ak ⟨aO av.P k,av.P.gen⟩ (DL (wN av.Cw)) .test en st)) (body:=fun en st=>aE ⟨aO av.P k,av.P.gen⟩ av.P.N (n_ (wN av.Cw)) en st) (Ev:=lU a (.int x) .none st.κ.length) (p:=pR x xs) (L:=xs.length) (st:=st) (fun lo hi m=>yv) (fun lo hi m h=>DM ha h) 99 lo hi none hh.le hn
 refine call_num (by rfl) (fun κ=>by rfl) hb (en':=lU a (.int x) .none st.κ.length (bis (pR x xs) 99 lo hi) hi' m') ?_
 exact ai (aI DQ bK) (ai (oA ha (by rw[Nq];exact hh)) (ai (bu (by rfl) (aG (uM h))) (bS (dB (aa (by rfl))))))
theorem Cd(hb:gh (av.P.F 9) args key=some [a,.int x,.int (lo:Int),hv,.none])(ha:aJ st a= .lst (xs.map .int))(hh:xq hv hi xs.length)(hn:hi≤lo+99):aO av.P (k+1) (.fn 9) args key st=some (.int (bis (pL x xs) 99 lo hi:Nat),st):=by
 obtain⟨hi',m',h⟩:=iP (test:=fun en st=>a_ (ak ⟨aO av.P k,av.P.gen⟩ (DL (wN av.Cy)) .test en st)) (body:=fun en st=>aE ⟨aO av.P k,av.P.gen⟩ av.P.N (n_ (wN av.Cy)) en st) (Ev:=lU a (.int x) .none st.κ.length) (p:=pL x xs) (L:=xs.length) (st:=st) (fun lo hi m=>yv) (fun lo hi m h=>DN ha h) 99 lo hi none hh.le hn
 refine call_num (by rfl) (fun κ=>by rfl) hb (en':=lU a (.int x) .none st.κ.length (bis (pL x xs) 99 lo hi) hi' m') ?_
 exact ai (aI DQ bK) (ai (oA ha (by rw[Nq];exact hh)) (ai (bu (by rfl) (aG (uM h))) (bS (dB (aa (by rfl))))))
theorem DS(hb:gh (av.P.F 7) args key=some [a,.int x,.int (lo:Int),hv,.fn 14])(ha:aJ st a= .lst items)(hk:Keyed ⟨aO av.P k,av.P.gen⟩ st (.fn 14) items xs)(hh:xq hv hi xs.length)(hn:hi≤lo+99):aO av.P (k+1) (.fn 7) args key st=some (.int (bis (pR x xs) 99 lo hi:Nat),st):=by
 obtain⟨hi',m',h⟩:=iP (test:=fun en st=>a_ (ak ⟨aO av.P k,av.P.gen⟩ (DL (wK av.Cw)) .test en st)) (body:=fun en st=>aE ⟨aO av.P k,av.P.gen⟩ av.P.N (n_ (wK av.Cw)) en st) (Ev:=lU a (.int x) (.fn 14) st.κ.length) (p:=pR x xs) (L:=xs.length) (st:=st) (fun lo hi m=>yv) (fun lo hi m h=>DO ha hk h) 99 lo hi none hh.le hn
 refine call_num (by rfl) (fun κ=>by rfl) hb (en':=lU a (.int x) (.fn 14) st.κ.length (bis (pR x xs) 99 lo hi) hi' m') ?_
 exact ai (aI DQ bK) (ai (oA ha (by rw[hk.len];exact hh)) (ai (aI (by rfl) (aG (uM h))) (bS (dB (aa (by rfl))))))
theorem FZ(hb:gh (av.P.F 9) args key=some [a,.int x,.int (lo:Int),hv,.fn 14])(ha:aJ st a= .lst items)(hk:Keyed ⟨aO av.P k,av.P.gen⟩ st (.fn 14) items xs)(hh:xq hv hi xs.length)(hn:hi≤lo+99):aO av.P (k+1) (.fn 9) args key st=some (.int (bis (pL x xs) 99 lo hi:Nat),st):=by
 obtain⟨hi',m',h⟩:=iP (test:=fun en st=>a_ (ak ⟨aO av.P k,av.P.gen⟩ (DL (wK av.Cy)) .test en st)) (body:=fun en st=>aE ⟨aO av.P k,av.P.gen⟩ av.P.N (n_ (wK av.Cy)) en st) (Ev:=lU a (.int x) (.fn 14) st.κ.length) (p:=pL x xs) (L:=xs.length) (st:=st) (fun lo hi m=>yv) (fun lo hi m h=>DP ha hk h) 99 lo hi none hh.le hn
 refine call_num (by rfl) (fun κ=>by rfl) hb (en':=lU a (.int x) (.fn 14) st.κ.length (bis (pL x xs) 99 lo hi) hi' m') ?_
 exact ai (aI DQ bK) (ai (oA ha (by rw[hk.len];exact hh)) (ai (aI (by rfl) (aG (uM h))) (bS (dB (aa (by rfl))))))
noncomputable def pr(q:Int×Int):V:=.tup [.int q.1,.int q.2]
theorem lV{q:Int×Int}:aO av.P (k+1) (.fn 14) [pr q] none st=some (.int q.1,st):=
 call_num (g:=14) (vals:=[pr q]) (by rfl) (fun κ=>by rfl) (by rfl) (en':=⟨[.loc (some (pr q))],st.κ.length⟩) (by exact bS (dB (e_idx (aa (by rfl)) (by rfl) (by rfl))))
theorem keyed{ps:List (Int×Int)}:Keyed ⟨aO av.P (k+1),av.P.gen⟩ st (.fn 14) (ps.map pr) (ps.map UB):=⟨by simp,fun i h=>by
 rw[Nq]at h
 refine⟨pr ps[i],by rw[Nr,M3 h];rfl,bg ((lV (k:=k)).trans ?_) rfl⟩
 rw[Nj,Nr,M3 h];rfl⟩
noncomputable def HF(q:Int×Int)(ps:List (Int×Int)):Nat:=bis (pR q.1 (ps.map UB)) 99 0 ps.length
noncomputable def HG(q:Int×Int)(ps:List (Int×Int)):Nat:=bis (pL q.1 (ps.map UB)) 99 0 ps.length
noncomputable def layAt(n:Nat)(q:Int×Int)(ps:List (Int×Int)):List (Int×Int):=ps.take n++q::ps.drop n
noncomputable def Fv(j:Nat)(x:V)(lo:Nat)(kb:Nat)(g:Nat):En:=⟨[.loc (some (.ref j)),.loc (some x),.loc (some (.int (lo:Int))),.loc (some .none),.loc (some (.fn 14)),.cY (.fn g)],kb⟩
theorem DT(q:Int×Int):(pr q).data=true:=rfl
variable {j:Nat} {ps:List (Int×Int)} {q:Int×Int}
theorem vh{n:Nat}(hl:st.σ[j]? =some (ps.map pr))(hn:n≤ps.length)(hz:ps.length<1000):eG st .insert (.ref j) [.int (n:Int),pr q]=some (.none,{ st with σ:=st.σ.set j ((layAt n q ps).map pr) }):=by
 show(sq st (.ref j)).bind _=_
 have h1:sq st (.ref j)=some (j,ps.map pr):=bind_eq hl rfl
 rw[h1]
 show(if(pr q).data=true∧(ps.map pr).length<lid∧0≤(n:Int)∧(n:Int)≤((ps.map pr).length:Nat)then _ else none)=_
 rw[if_pos ⟨DT q,by rw[Nq];unfold lid;lia,by lia,by rw[Nq];lia⟩]
 unfold layAt
 rw[Pz,Nz,Si,List.map_drop,NQ]
theorem qj{g:Nat}{σ':List (List V)}{en':En}(hg:av.P.jv g=false)(hsc:∀κ,aV (av.P.F g).sc (([.ref j,pr q,.int 0,.none,.fn 14]:List V).map some) [] κ=((aV (av.P.F g).sc (([.ref j,pr q,.int 0,.none,.fn 14]:List V).map some) [] κ).1,κ))(hb:gh (av.P.F g) [.ref j,pr q] (some (.fn 14))=some [.ref j,pr q,.int 0,.none,.fn 14])(kM:σ'.length=st.σ.length)
  (h:aE ⟨aO av.P k,av.P.gen⟩ av.P.N (av.P.F g).body ⟨(aV (av.P.F g).sc (([.ref j,pr q,.int 0,.none,.fn 14]:List V).map some) [] st.κ).1,st.κ.length⟩ st=some (.bU,en',{ st with σ:=σ' })):aO av.P (k+1) (.fn g) [.ref j,pr q] (some (.fn 14)) st=some (.none,{ st with σ:=σ' }):=by
 have e:=call_top (P:=av.P) (n:=k) (g:=g) (args:=[.ref j,pr q]) (key:=some (.fn 14)) (st:=st) (fl:=.bU) (en':=en') (st':={ st with σ:=σ' }) hg hb (by rw[hsc];exact h) rfl
 rw[e]
 show some (V.none,({ κ:=st.κ,σ:=σ'.take st.σ.length }:ao))=_
 rw[←kM,Of]
theorem zV(hl:st.σ[j]? =some (ps.map pr))(hz:ps.length<99):aO av.P (k+3) (.fn 6) [.ref j,pr q] (some (.fn 14)) st=some (.none,{ st with σ:=st.σ.set j ((layAt (HF q ps) q ps).map pr) }):=by
 have hd:aJ st (.ref j)= .lst (ps.map pr):=by rw[cP,hl]
 have hc:=DS (k:=k+1) (args:=[.ref j,.int q.1,.int 0,.none]) (key:=some (.fn 14)) (lo:=0) (hi:=ps.length) (by rfl) hd keyed (.inl ⟨rfl,by simp⟩) (by lia)
 have h3:eG st .insert (.ref j) [.int (HF q ps:Int),pr q]=_:=vh hl (tL _ _ _ (NG _)) (by lia)
 refine qj (by rfl) (fun κ=>by rfl) (by rfl) (by simp) (en':=Fv j (pr q) (HF q ps) st.κ.length 7) ?_
 exact ai (bV:=Fv j (pr q) (HF q ps) st.κ.length 7) (aI (by rfl) (aG (aR (ow (by rfl) (aa (by rfl)) (ae (aa (by rfl)) (ae (aD (aa (by rfl)) (ae (aa (by rfl)) aj) (by exact bg (lV (k:=k+1)) rfl)) (ae (aa (by rfl)) (ae (aa (by rfl)) aj)))) (aa (by rfl)) (by exact bg hc rfl)) (by rfl))))
  (aG (eN (c9 (aa (by rfl)) (ae (aa (by rfl)) (ae (aa (by rfl)) aj)) h3)))
theorem Ce(hl:st.σ[j]? =some (ps.map pr))(hz:ps.length<99):aO av.P (k+3) (.fn 8) [.ref j,pr q] (some (.fn 14)) st=some (.none,{ st with σ:=st.σ.set j ((layAt (HG q ps) q ps).map pr) }):=by
 have hd:aJ st (.ref j)= .lst (ps.map pr):=by rw[cP,hl]
 have hc:=FZ (k:=k+1) (args:=[.ref j,.int q.1,.int 0,.none]) (key:=some (.fn 14)) (lo:=0) (hi:=ps.length) (by rfl) hd keyed (.inl ⟨rfl,by simp⟩) (by lia)
 have h3:eG st .insert (.ref j) [.int (HG q ps:Int),pr q]=_:=vh hl (tL _ _ _ (NG _)) (by lia)
 refine qj (by rfl) (fun κ=>by rfl) (by rfl) (by simp) (en':=Fv j (pr q) (HG q ps) st.κ.length 9) ?_
 exact ai (bV:=Fv j (pr q) (HG q ps) st.κ.length 9) (aI (by rfl) (aG (aR (ow (by rfl) (aa (by rfl)) (ae (aa (by rfl)) (ae (aD (aa (by rfl)) (ae (aa (by rfl)) aj) (by exact bg (lV (k:=k+1)) rfl)) (ae (aa (by rfl)) (ae (aa (by rfl)) aj)))) (aa (by rfl)) (by exact bg hc rfl)) (by rfl))))
  (aG (eN (c9 (aa (by rfl)) (ae (aa (by rfl)) (ae (aa (by rfl)) aj)) h3)))
end
end Rk.L01
end

section
namespace Rk.L01
open PySem Rk
noncomputable def zW:Nat→List (List Nat)
 |0=>[[]]
 |n+1=>(zW n).map (40:: ·)++(zW n).map (41:: ·)
theorem vm:∀s:List Nat,(∀c∈s,kX c)→s∈zW s.length
 |[],_=>M4.mpr rfl
 |c::s,h=>by
  have ih:=vm s fun d hd=>h d (MY _ hd)
  show c::s∈(zW s.length).map (40:: ·)++(zW s.length).map (41:: ·)
  rcases h c (Nk ..)with rfl|rfl
  ·exact M7 _ (NY.mpr ⟨s,ih,rfl⟩)
  ·exact MZ _ (NY.mpr ⟨s,ih,rfl⟩)
noncomputable def dD:List (List Nat):=[
 [40,40,40,40,41,41,41,41],
 [40,40,40,41,40,41,41,41],
 [40,40,40,41,41,40,41,41],
 [40,40,40,41,41,41,40,41],
 [40,40,40,41,41,41,41,40],
 [40,40,41,40,40,41,41,41],
 [40,40,41,40,41,40,41,41],
 [40,40,41,40,41,41,40,41],
 [40,40,41,40,41,41,41,40],
 [40,40,41,41,40,40,41,41],
 [40,40,41,41,40,41,40,41],
 [40,40,41,41,40,41,41,40],
 [40,40,41,41,41,40,40,41],
 [40,40,41,41,41,40,41,40],
 [40,40,41,41,41,41,40,40],
 [40,41,40,40,40,41,41,41],
 [40,41,40,40,41,40,41,41],
 [40,41,40,40,41,41,40,41],
 [40,41,40,40,41,41,41,40],
 [40,41,40,41,40,40,41,41],
 [40,41,40,41,40,41,40,41],
 [40,41,40,41,40,41,41,40],
 [40,41,40,41,41,40,40,41],
 [40,41,40,41,41,40,41,40],
 [40,41,40,41,41,41,40,40],
 [40,41,41,40,40,40,41,41],
 [40,41,41,40,40,41,40,41],
 [40,41,41,40,40,41,41,40],
 [40,41,41,40,41,40,40,41],
 [40,41,41,40,41,40,41,40],
 [40,41,41,40,41,41,40,40],
 [40,41,41,41,40,40,40,41],
 [40,41,41,41,40,40,41,40],
 [40,41,41,41,40,41,40,40],
 [40,41,41,41,41,40,40,40],
 [41,40,40,40,40,41,41,41],
 [41,40,40,40,41,40,41,41],
 [41,40,40,40,41,41,40,41],
 [41,40,40,40,41,41,41,40],
 [41,40,40,41,40,40,41,41],
 [41,40,40,41,40,41,40,41],
 [41,40,40,41,40,41,41,40],
 [41,40,40,41,41,40,40,41],
 [41,40,40,41,41,40,41,40],
 [41,40,40,41,41,41,40,40],
 [41,40,41,40,40,40,41,41],
 [41,40,41,40,40,41,40,41],
 [41,40,41,40,40,41,41,40],
 [41,40,41,40,41,40,40,41],
 [41,40,41,40,41,40,41,40],
 [41,40,41,40,41,41,40,40],
 [41,40,41,41,40,40,40,41],
 [41,40,41,41,40,40,41,40],
 [41,40,41,41,40,41,40,40],
 [41,40,41,41,41,40,40,40],
 [41,41,40,40,40,40,41,41],
 [41,41,40,40,40,41,40,41],
 [41,41,40,40,40,41,41,40],
 [41,41,40,40,41,40,40,41],
 [41,41,40,40,41,40,41,40],
 [41,41,40,40,41,41,40,40],
 [41,41,40,41,40,40,40,41],
 [41,41,40,41,40,40,41,40],
 [41,41,40,41,40,41,40,40],
 [41,41,40,41,41,40,40,40],
 [41,41,41,40,40,40,40,41],
 [41,41,41,40,40,40,41,40],
 [41,41,41,40,40,41,40,40],
 [41,41,41,40,41,40,40,40],
 [41,41,41,41,40,40,40,40]]
theorem Cf:(zW 8).all (fun s=>dD.contains (DB [] s))=true:=by decide+kernel
theorem DU{cs:List Int}(h:cs.length=8):zS cs∈dD:=by
 have h1:=vm (cs.map sgn) fun c hc=>by
  obtain⟨x,_,rfl⟩:=NY.mp hc
  exact xm x
 rw[Nq,h]at h1
 have h2:=NB.mp Cf _ h1
 exact List.contains_iff_mem.mp h2
theorem DV:(dD.all fun R=>decide (R.length=8)&&R.all fun c=>decide (c=40∨c=41))=true:=by decide+kernel
theorem nA{R:List Nat}(h:R∈dD):R.length=8∧ ∀c∈R,kX c:=by
 have h2:=NB.mp DV _ h
 rw[Nu,NB]at h2
 exact⟨of_decide_eq_true h2.1,fun c hc=>(of_decide_eq_true (h2.2 c hc):c=40∨c=41)⟩
section
variable {l:gV} {cs:List Int} {R:List Nat} {Bs:List Bl} {σ:List (List V)} {w:List Nat}
theorem yS(h:aO av.P 99 (.fn 16) [bf cs,.lst (sg R)] none (aH l σ)=some (.tup [.str (aQ Bs),.str (aU Bs),.lst (un (aN 0 Bs))],aH l σ))(h3:lk l 3=some (bf cs))(h4:lk l 4=some (.lst (sg R))):
  aX OO NN av.yS (bC l) (aH l σ)=some (.bU,bC ((7,some (.lst (un (aN 0 Bs))))::(6,some (.str (aU Bs)))::(5,some (.str (aQ Bs)))::l),aH ((7,some (.lst (un (aN 0 Bs))))::(6,some (.str (aU Bs)))::(5,some (.str (aQ Bs)))::l) σ):=
 ff (aD (aa (by rfl)) (ae (aa (by exact h3)) (ae (aa (by exact h4)) aj)) (by exact bg h rfl)) (by rfl)
noncomputable def tQ(w:List Nat):Prop:=w=[]∨w=[92]
theorem tail_at{i:Int}(h0:0≤i)(h2:i<2):∃w,tQ w∧lZ (.lst [.str [],.str [92]]) (.int i)=some (.str w):=by
 have:i=0∨i=1:=by lia
 clear h0 h2
 rcases this with rfl|rfl
 ·exact⟨[],.inl rfl,rfl⟩
 ·exact⟨[92],.inr rfl,rfl⟩
theorem ET{w:List Nat}(h:tQ w):34∉w:=by rcases h with rfl|rfl<;>decide
theorem xr{w:List Nat}(h:tQ w):∀c∈w,c<1114112:=by rcases h with rfl|rfl<;>decide
theorem tM{w:List Nat}(h:tQ w):w.length≤1:=by rcases h with rfl|rfl<;>decide
theorem yT{wv hv:V}{c3:Int}(hw:aO av.P 99 (.fn 17) [.lst (sg R)] none (aH l σ)=some (wv,aH l σ))(hh:aO av.P 99 (.fn 18) [.lst (sg R)] none (aH l σ)=some (hv,aH l σ))(h3:lk l 3=some (bf cs))(h4:lk l 4=some (.lst (sg R)))(hc:cs[3]? =some c3):
  ∃w,tQ w∧aX OO NN av.yT (bC l) (aH l σ)=some (.bU,bC ((11,some (.str w))::(10,some (.int cs.sum))::(9,some hv)::(8,some wv)::l),aH ((11,some (.str w))::(10,some (.int cs.sum))::(9,some hv)::(8,some wv)::l) σ):=by
 refine bc fun hN0=>?_
 obtain⟨w,hw1,hi⟩:=tail_at (OS (c3.fdiv 16) (b:=2) (by decide)) (Pp (c3.fdiv 16) (b:=2) (by decide))
 refine hN0 ?_
 refine⟨w,hw1,s_ (ae (aD (aa (by rfl)) (ae (aa (by exact h4)) aj) (by exact bg hw rfl)) (ae (aD (aa (by rfl)) (ae (aa (by exact h4)) aj) (by exact bg hh rfl)) (ae (aD (aa (by rfl)) (ae (aa (by exact h3)) aj) (by exact fg (sum_ints cs) rfl)) (ae (e_idx (by rfl) (aq (aq (e_idx (aa (by exact h3)) (by rfl) (by exact iO hc)) (by rfl) (by rfl)) (by rfl) (by rfl)) (by exact hi)) aj)))) (by rfl)⟩
theorem EU(hB:Bs.map Bl.c=R)(hR:R.length=8)(ho:gS Bs):(aQ Bs).length≤64∧(aU Bs).length≤32∧(aN 0 Bs).length≤24∧xn (aN 0 Bs):=by
 refine bc fun hN0=>?_
 have h8:Bs.length=8:=by rw[←hR,←hB,Nq]
 obtain⟨h1,h2,h3⟩:=B8 ho.all
 obtain⟨h3,h4⟩:=h3 0
 refine hN0 ?_
 exact⟨by lia,by lia,by lia,h4⟩
theorem yU(h5:lk l 5=some (.str (aQ Bs)))(h6:lk l 6=some (.str (aU Bs)))(h11:lk l 11=some (.str w))(hw:tQ w)(ho:gS Bs)(ht:(aQ Bs).length≤64)(hl:(aU Bs).length≤32):
  aX OO NN av.yU (bC l) (aH l σ)=some (.bU,bC l,aH l σ):=by
 have hwl:=tM hw
 have h1:∀c∈aQ Bs++w,c<1114112:=fun c hc=>(MX.mp hc).elim (kT ho c) (xr hw c)
 have h2:∀c∈aU Bs++w,c<1114112:=fun c hc=>(MX.mp hc).elim (yq ho c) (xr hw c)
 have hs:=pY (k:=98) (st:=aH l σ) h1 (by rw[Ng];unfold lid;lia)
 rw[lT (ET hw) Bs ho]at hs
 exact aI (aW (aD (aa (by rfl)) (ae (aq (aa (by exact h5)) (aa (by exact h11)) (by exact cD (by unfold lid;lia))) aj) (by exact bg hs rfl)) (aq (aa (by exact h6)) (aa (by exact h11)) (by exact cD (by unfold lid;lia))) (by rw[show∀x,aJ (aH l σ) (.str x)= .str x from fun _=>rfl,EO _ _ h2 h2,decide_eq_true rfl];rfl)) bK
noncomputable def zF:E→E
 |.comp _ (.cons _ it _ _) _ _=>it
 |_=>.bH
noncomputable def Le(x:Option V):En:=⟨[.loc none,.loc x],13⟩
theorem vJ{U:List (Nat×List Nat)}(h6:lk l 6=some (.str (aU Bs)))(h11:lk l 11=some (.str w))(hw:tQ w)(hl:(aU Bs).length≤32)(hu:fX (aU Bs++w)=un U)(hU:xn U)(hz:U.length≤100):Ad av.vJ l 12 (.lst (un U)) σ:=by
 have hwl:=tM hw
 have hit:ak OO (zF (sE av.vJ)) .iter (bC l) (aH l σ)=some (.lst (un U),aH l σ):=by
  rw[←hu]
  exact aD (aa (by rfl)) (ae (aq (aa (by exact h6)) (aa (by exact h11)) (by exact cD (by unfold lid;lia))) aj) (by exact tq (by rfl))
 refine aR (st1:=aH l σ) ?_ (by rfl)
 have:=kg (O:=OO) (elt:=.var 1 ⟨224,12,224,16⟩) (t:=.bM 1 ⟨224,21,224,25⟩) (ifs:=.nil) (rest:=.nil) (sc:=[.lc ".0",.lc "pair"]) (p:=⟨224,11,224,62⟩) (md:=.val) (fr:=[]) (en:=bC l) (items:=un U) Le some hit (by rfl) (by intro i h;cases h) (by rfl) (by rfl) (by rfl) (fun x v=>by rfl) (fun v hv acc ha=>dQ (by rfl) (u5 (oz hU) v hv) ha) (by rw[lR];unfold lid;lia) (fun v hv w e=>by cases e;exact u5 (oz hU) v hv)
 rw[List.filterMap_some]at this
 exact this
theorem yx:∀U:List (Nat×List Nat),lE (un U) (un U)=true
 |[]=>rfl
 |_::U=>by
  show((_&&(decide (_=_)&&true))&&lE (un U) (un U))=true
  rw[yx U,decide_eq_true rfl,Ak];simp
theorem yy:∀U:List (Nat×List Nat),fV (un U)≤1
 |[]=>NG _
 |x::U=>Nat.max_le.mpr ⟨M9 _,yy U⟩
theorem EV{U:List (Nat×List Nat)}(h:xn U):iU .NotEq (.lst (un U)) (.lst (un U))=some false:=by
 have hd:(V.lst (un U)).data=true:=oz h
 have hp:(V.lst (un U)).dep≤8:=by show fV (un U)+1≤8;have:=yy U;lia
 have h1:oE (.lst (un U)) (.lst (un U))=true:=yx U
 rw[nc,iz,hd,decide_eq_true hp,h1];rfl
theorem Jc(h12:lk l 12=some (.lst (un (aN 0 Bs))))(h7:lk l 7=some (.lst (un (aN 0 Bs))))(h11:lk l 11=some (.str []))(hz:(aN 0 Bs).length≤24)(hU:xn (aN 0 Bs)):aX OO NN av.yV (bC l) (aH l σ)=some (.bU,bC l,aH l (σ++[[]])):=by
 have hr:aJ (aH l (σ++[[]])) (.ref σ.length)= .lst []:=by rw[cP,show(aH l (σ++[[]])).σ=σ++[[]]from rfl,NJ (M9 _),Rv];rfl
 have ha:d_ (aH l (σ++[[]])) .Add (.lst (un (aN 0 Bs))) (.lst [])=some (.lst (un (aN 0 Bs)++[]),aH l (σ++[[]])):=ko (by rw[lR];unfold lid;simp;lia)
 rw[Nc]at ha
 have hb:d_ (aH l (σ++[[]])) .Add (aJ (aH l (σ++[[]])) (.lst (un (aN 0 Bs)))) (aJ (aH l (σ++[[]])) (.ref σ.length))=some (.lst (un (aN 0 Bs)),aH l (σ++[[]])):=by rw[hr];exact ha
 exact aI (aW (st1:=aH l σ) (y:=.lst (un (aN 0 Bs))) (aa (by exact h12)) (aq (st1:=aH l σ) (st2:=aH l (σ++[[]])) (y:=.ref σ.length) (aa (by exact h7)) (jm (by decide) (aW (aa (by exact h11)) (by rfl) (by rfl)) (by rfl)) hb) (by exact EV hU)) bK
theorem Jd(h12:lk l 12=some (.lst (un (aN 0 Bs++[((aU Bs).length,[92])]))))(h6:lk l 6=some (.str (aU Bs)))(h7:lk l 7=some (.lst (un (aN 0 Bs))))(h11:lk l 11=some (.str [92]))(hz:(aN 0 Bs).length≤24)(hU:xn (aN 0 Bs++[((aU Bs).length,[92])])):
  aX OO NN av.yV (bC l) (aH l σ)=some (.bU,bC l,aH l σ):=by
 have ha:d_ (aH l σ) .Add (.lst (un (aN 0 Bs))) (.lst (un [((aU Bs).length,[92])]))=some (.lst (un (aN 0 Bs)++un [((aU Bs).length,[92])]),aH l σ):=ko (by rw[lR,lR];unfold lid;simp;lia)
 rw[←ku]at ha
 exact aI (aW (aa (by exact h12)) (aq (aa (by exact h7)) (jl (by decide) (aW (aa (by exact h11)) (by rfl) (by rfl)) (by exact aA (ae (gi (ae (aD (aa (by rfl)) (ae (aa (by exact h6)) aj) (by exact fg (by rfl) rfl)) (ae (aa (by exact h11)) aj))) aj) (if_pos (by rfl)))) (by exact ha)) (by exact EV hU)) bK
noncomputable def xu(x y:Option V):En:=⟨[.loc none,.loc x,.loc y],13⟩
theorem Je{x:List Nat}(h:∀c∈x,c<1114112):iU .In (.str x) (.tup [.str [40],.str [41]])=some (decide (x=[40]∨x=[41])):=by
 have h1:okIn (.str x) [.str [40],.str [41]]=true:=by
  unfold okIn
  rw[cz h];rfl
 show(if okIn (.str x) [.str [40],.str [41]]then some (vz (.str x) [.str [40],.str [41]])else none)=_
 rw[if_pos h1]
 have h2:vz (.str x) [.str [40],.str [41]]=(decide ([40]=x) || (decide ([41]=x) || false)):=rfl
 rw[h2]
 by_cases a:x=[40]
 ·rw[decide_eq_true a.symm,decide_eq_true (p:=x=[40]∨x=[41]) (.inl a)];rfl
 ·rw[decide_eq_false (fun e=>a e.symm)]
  by_cases b:x=[41]
  ·rw[decide_eq_true b.symm,decide_eq_true (p:=x=[40]∨x=[41]) (.inr b)];rfl
  ·rw[decide_eq_false (fun e=>b e.symm),decide_eq_false (p:=x=[40]∨x=[41]) (fun e=>e.elim a b)];rfl
theorem vK{U:List (Nat×List Nat)}(h12:lk l 12=some (.lst (un U)))(hU:xn U)(hz:U.length≤100):Ad av.vK l 13 (.lst ((un U).filterMap nE)) σ:=by
 refine aR (st1:=aH l σ) ?_ (by rfl)
 refine qb (src:=.lst (un U)) (st1:=aH l σ) (fr:=[]) (Inv:=fun en=>∃x y,en=xu x y) nE (aa (by exact h12)) (by rfl) (by intro i h;cases h) (by rfl) ⟨none,none,by rfl⟩ (by rfl) ?_ (by rw[lR];unfold lid;lia) ?_
 ·rintro v hv en ⟨x,y,rfl⟩
  obtain⟨u,hu,rfl⟩:=NY.mp hv
  have hd:(V.str u.2).data=true:=cz (hU u hu)
  refine⟨xu (some (.int u.1)) (some (.str u.2)),xu (some (.int u.1)) (some (.str u.2)),by rfl,⟨_,_,rfl⟩,fun acc ha=>?_⟩
  have:=turn_if (c:=eI (sE av.vK)) (O:=OO) (elt:=.var 2 ⟨227,13,227,17⟩) (st:=aH l σ) (en:=xu (some (.int u.1)) (some (.str u.2))) (acc:=acc) (aW (x:=.str u.2) (y:=.tup [.str [40],.str [41]]) (aa (by rfl)) (by rfl) (by exact Je (hU u hu))) (aa (by rfl)) hd ha
  refine this.trans ?_
  congr 3
  show gj (if decide (u.2=[40]∨u.2=[41])=true then some (V.str u.2)else none) acc=gj (if u.2=[40]∨u.2=[41]then some (.str u.2)else none) acc
  simp only[decide_eq_true_eq]
 ·intro v hv w e
  obtain⟨u,hu,rfl⟩:=NY.mp hv
  have e:(if u.2=[40]∨u.2=[41]then some (V.str u.2)else none)=some w:=e
  split at e
  ·cases e;exact cz (hU u hu)
  ·cases e
end
end Rk.L01
end

section
namespace Rk.L01
open PySem Rk
noncomputable def rY(c d:Nat)(R:List Nat)(k:Nat):Option Nat:=if R[k]? =some c then some (fL d (R.take k))else none
noncomputable def nF(c d:Nat)(R:List Nat):List Nat:=(Nn 0 8).filterMap (rY c d R)
noncomputable def vI:Nat→V:=fun d=>.int (d:Int)
noncomputable def gO(F:Nat→Option V):V→Option V
 |.int i=>F i.toNat
 |_=>none
section
variable {O:cQ} {N:Nat→Nf} {st:ao} {t:T} {it elt:E} {ifs:Es} {rest:Gs} {sc:Sc} {p:NW} {md:Md} {fr:List Nat} {en:En}
theorem oB{n:Nat}(Ev:Option V→En)(F:Nat→Option V)(hit:ak O it .iter en st=some (.lst (cA 0 n),st))(hfr:eL en sc=some fr)
  (he:(⟨(aV sc [] fr st.κ).1,st.κ.length⟩:En)=Ev none) (hκ:(aV sc [] fr st.κ).2=st.κ) (hs:∀x v,gU t v (Ev x) st=some (Ev (some v),st))
  (ht:∀i,i<n→ ∀acc:List V,acc.length<lid→jJ O elt ifs rest (Ev (some (.int (i:Int)))) st acc=some (Ev (some (.int (i:Int))),st,gj (F i) acc))
  (hn:n≤100) (hd:∀i,i<n→ ∀w,F i=some w→w.data=true):ak O (.comp elt (.cons t it ifs rest) sc p) md en st=some (.lst ((Nn 0 n).filterMap F),st):=by
 have:=kg (O:=O) (elt:=elt) (ifs:=ifs) (rest:=rest) (p:=p) (md:=md) Ev (gO F) hit rfl (fun i h=>by cases h) hfr he hκ hs (fun v hv acc ha=>by
  obtain⟨i,rfl,_,h⟩:=lP (a:=0) hv
  exact ht i (by lia) acc ha) (by rw[kh];unfold lid;lia) (fun v hv w e=>by
  obtain⟨i,rfl,_,h⟩:=lP (a:=0) hv
  exact hd i (by lia) w e)
 rw[this]
 exact congrArg (fun z=>some (V.lst z,st)) (jz (g:=gO F) (f:=F) (fun i=>rfl) n 0)
theorem gc{n:Nat}(Ev:Option V→En)(F:Nat→V)(hit:ak O it .iter en st=some (.lst (cA 0 n),st))(hfr:eL en sc=some fr)
  (he:(⟨(aV sc [] fr st.κ).1,st.κ.length⟩:En)=Ev none) (hκ:(aV sc [] fr st.κ).2=st.κ) (hs:∀x v,gU t v (Ev x) st=some (Ev (some v),st))
  (ht:∀i,i<n→ak O elt .val (Ev (some (.int (i:Int)))) st=some (F i,st)) (hn:n≤100) (hd:∀i,i<n→(F i).data=true):ak O (.comp elt (.cons t it .nil .nil) sc p) md en st=some (.lst ((Nn 0 n).map F),st):=by
 have:=oB (O:=O) (n:=n) (elt:=elt) (ifs:=.nil) (rest:=.nil) (p:=p) (md:=md) Ev (fun i=>some (F i)) hit hfr he hκ hs (fun i hi acc ha=>dQ (ht i hi) (hd i hi) ha) hn (fun i hi w e=>by cases e;exact hd i hi)
 rw[this]
 congr 3
 exact List.filterMap_eq_map (f:=F)▸rfl
theorem EW(l:List V){b:Nat}(hb:b≤l.length):qx (.lst l) .none (.int (b:Int)) .none=some (.lst (l.take b)):=by
 show some (V.lst (iV l none (some (b:Int))))=_
 unfold iV
 simp only[RX,mU hb];rfl
theorem F3(l:List V){a:Nat}(ha:a≤l.length):qx (.lst l) (.int (a:Int)) .none .none=some (.lst (l.drop a)):=by
 show some (V.lst (iV l (some (a:Int)) none))=_
 unfold iV
 simp only[RX,mU ha]
 rw[NU (by simp)]
theorem DW(R:List Nat)(k:Nat):(sg R).take k=sg (R.take k):=by simp[sg,aZ,Si]
theorem Jf{R:List Nat}{k c:Nat}(h:R[k]? =some c):(sg R)[k]? =some (.str [c]):=by simp[sg,aZ,h]
noncomputable def HH(ce:Nat)(x:Option V):En:=⟨[.loc none,.loc x,.fB ce],13⟩
theorem EX{c:Nat}(h:kX c):∀x∈[c],x<1114112:=fun x hx=>by rw[M4.mp hx];exact kr h
theorem vn{ce c d k:Nat}{R:List Nat}{acc:List V}{p1 p2 p3 p4 p5 p6 p7 p8 p9 p10 p11 p12:NW}(hκ:st.κ[ce]? =some (some (.lst (sg R))))(hR:R.length=8)(hRo:∀c∈R,kX c)(hc:kX c)(hd:kX d)(hk:k<8)(ha:acc.length<lid):
  jJ O (.d8 (.slc (.var 2 p1) .bH (.var 1 p2) .bH p3 p4) .count (.cons (.cS [d] 0 p5) .nil) p6 p7) (.cons (.cmp .Eq (.idx (.var 2 p8) (.var 1 p9) p10) (.cS [c] 0 p11) p12) .nil) .nil (HH ce (some (.int (k:Int)))) st acc=
   some (HH ce (some (.int (k:Int))),st,gj ((rY c d R k).map vI) acc):=by
 have hg:cC (HH ce (some (.int (k:Int)))) st 2=some (.lst (sg R)):=by
  show(st.κ[ce]?).getD none=_
  rw[hκ];rfl
 have hx:R[k]? =some R[k]:=M3 (by omega)
 have hxo:kX R[k]:=hRo _ (Vd _)
 have hcnt:eG st .count (.lst ((sg R).take k)) [.str [d]]=some (.int (fL d (R.take k):Nat),st):=by
  rw[DW]
  show(if okIn (.str [d]) (sg (R.take k))then some (V.int (ic (.str [d]) (sg (R.take k)):Nat),st)else none)=_
  rw[if_pos (yn hd fun c h=>hRo c (O5 h)),qe]
 have:=turn_if (O:=O) (st:=st) (acc:=acc) (en:=HH ce (some (.int (k:Int)))) (c:=.cmp .Eq (.idx (.var 2 p8) (.var 1 p9) p10) (.cS [c] 0 p11) p12) (aW (x:=.str [R[k]]) (y:=.str [c]) (e_idx (x:=.lst (sg R)) (y:=.int (k:Int)) (aa hg) (aa (by rfl)) (by exact dZ (Jf hx))) (by rfl) (by exact j_ [R[k]] [c] (EX hxo) (EX hc)))
  (c9 (p:=p7) (q:=p6) (nY (a:=.var 2 p1) (lo:=.bH) (hi:=.var 1 p2) (s:=.bH) (q:=p3) (p:=p4) (aa hg) (by rfl) (aa (by rfl)) (by rfl) (by exact EW (sg R) (b:=k) (by rw[B0];omega))) (ae (e:=.cS [d] 0 p5) (by rfl) aj) hcnt) (by rfl) ha
 refine this.trans ?_
 congr 3
 unfold rY
 rw[hx]
 by_cases h:R[k]=c
 ·rw[if_pos (by rw[h,decide_eq_true rfl]),if_pos (by rw[h])];rfl
 ·rw[if_neg (by rw[decide_eq_false (by simpa using h)];decide),if_neg (by simpa using h)];rfl
end
noncomputable def zs(L:List Nat):List Int:=L.map fun(d:Nat)=>(d:Int)
theorem Cg(L:List Nat):(zs L).map V.int=nats L:=by unfold zs nats;rw[Oa];rfl
theorem tN(L:List Nat):(zs L).length=L.length:=Nq _
theorem iQ(L:List Nat):(nats L).length=L.length:=Nq _
noncomputable def qk(A:List Nat):Nat:=A.getD (A.length-1) 0
noncomputable def gT(sh A:List Nat)(i:Nat):List Nat:=A++[bis (pR (i:Int) (zs sh)) 99 (qk A) sh.length]
noncomputable def iw(sh:List Nat):List Nat:=gT sh (gT sh (gT sh (gT sh [] 0) 1) 2) 3
noncomputable def ql(sh:List Nat)(f:Nat→Int)(lo hi:Nat):List Nat:=(Nn 0 5).map fun i=>bis (pL (f i) (zs sh)) 99 lo hi
noncomputable def xw(sh:List Nat)(f:Nat→Int)(lo hi:Nat):List Nat:=(Nn 0 5).map fun i=>bis (pR (f i) (zs sh)) 99 lo hi
noncomputable def S3(σ:List (List V))(A C W:List V)(E:List (List V)):List (List V):=σ++A::C::W::E
section
variable {σ E:List (List V)} {A C W X:List V}
theorem zX:(S3 σ A C W E)[σ.length]? =some A:=by unfold S3;rw[NJ (M9 _),Rv];rfl
theorem Jg:(S3 σ A C W E)[σ.length+1]? =some C:=by unfold S3;rw[NJ (N_ _ _),NZ];rfl
theorem F_:(S3 σ A C W E)[σ.length+2]? =some W:=by unfold S3;rw[NJ (N_ _ _),NZ];rfl
theorem Jh:(S3 σ A C W E).set σ.length X=S3 σ X C W E:=by unfold S3;rw[N7 _ _ (M9 _),Rv];rfl
theorem Ji:(S3 σ A C W E).set (σ.length+1) X=S3 σ A X W E:=by unfold S3;rw[N7 _ _ (N_ _ _),NZ];rfl
theorem Jj:(S3 σ A C W E).set (σ.length+2) X=S3 σ A C X E:=by unfold S3;rw[N7 _ _ (N_ _ _),NZ];rfl
theorem Jk:S3 σ A C W E++[X]=S3 σ A C W (E++[X]):=by unfold S3;rw[M_];rfl
theorem Lf:(S3 σ A C W (E++[X]))[(S3 σ A C W E).length]? =some X:=by rw[←Jk,NJ (M9 _),Rv];rfl
end
section
variable {l:gV} {R:List Nat} {σ E:List (List V)}
theorem qA(h13:lk l 13=some (.lst (sg R)))(hR:R.length=8)(hRo:∀c∈R,kX c):Ad av.qA l 14 (.lst (nats (nF 40 41 R))) σ:=by
 refine aR (st1:=aH l σ) ?_ (by rfl)
 have:=oB (O:=OO) (st:=aH l σ) (en:=bC l) (n:=8) (t:=.bM 1 ⟨228,37,228,38⟩) (fr:=[5]) (HH 5) (fun k=>(rY 40 41 R k).map vI) (it:=zF (sE av.qA)) (elt:=(a0 (sE av.qA))) (ifs:=eS (sE av.qA) |> I3) (rest:=.nil) (sc:=[.lc ".0",.lc "k",.fe "signs" 13]) (p:=⟨228,11,228,70⟩) (md:=.val)
  (aD (aa (by rfl)) (ae (by rfl) aj) (by exact eE (src_range (n:=8) (by decide)))) (by rfl) (by rfl) (by rfl) (fun x v=>by rfl) (fun i hi acc ha=>vn (ce:=5) (by exact congrArg some h13) hR hRo (by unfold kX;simp) (by unfold kX;simp) hi ha) (by decide) (fun i _ w e=>by
   obtain⟨n,_,rfl⟩:=QW.mp e;rfl)
 refine Oj (by exact this) ?_
 congr 3
 unfold nF nats
 rw[RK];rfl
theorem oM(h4:lk l 4=some (.lst (sg R)))(hR:R.length=8)(hRo:∀c∈R,kX c):∃l',l'=(18,some (.ref (σ.length+2)))::(17,some (.ref (σ.length+1)))::(16,some (.ref σ.length))::(15,some (.lst (nats (0::nF 41 40 R))))::l∧
  aX OO NN av.oM (bC l) (aH l σ)=some (.bU,bC l',aH l' (S3 σ [] [] [] [])):=by
 refine⟨_,rfl,?_⟩
 have:=oB (O:=OO) (st:=aH l σ) (en:=bC l) (n:=8) (t:=.bM 1 ⟨229,63,229,64⟩) (fr:=[1]) (HH 1) (fun k=>(rY 41 40 R k).map vI) (it:=(.call (.var 45 ⟨229,68,229,73⟩) (.cons (.cI 8 0 ⟨229,74,229,75⟩) .nil) .bH default ⟨229,68,229,76⟩)) (elt:=(.d8 (.slc (.var 2 ⟨229,40,229,43⟩) .bH (.var 1 ⟨229,45,229,46⟩) .bH ⟨229,44,229,46⟩ ⟨229,40,229,47⟩) .count (.cons (.cS [40] 0 ⟨229,54,229,57⟩) .nil) ⟨229,40,229,53⟩ ⟨229,40,229,58⟩)) (ifs:=(.cons (.cmp .Eq (.idx (.var 2 ⟨229,80,229,83⟩) (.var 1 ⟨229,84,229,85⟩) ⟨229,80,229,86⟩) (.cS [41] 0 ⟨229,90,229,93⟩) ⟨229,80,229,93⟩) .nil)) (rest:=.nil) (sc:=[.lc ".0",.lc "k",.fe "row" 4]) (p:=⟨229,39,229,94⟩) (md:=.val)
  (aD (aa (by rfl)) (ae (by rfl) aj) (by exact eE (src_range (n:=8) (by decide)))) (by rfl) (by rfl) (by rfl) (fun x v=>by rfl) (fun i hi acc ha=>vn (ce:=1) (by exact congrArg some h4) hR hRo (by unfold kX;simp) (by unfold kX;simp) hi ha) (by decide) (fun i _ w e=>by
   obtain⟨n,_,rfl⟩:=QW.mp e;rfl)
 have hc:(Nn 0 8).filterMap (fun k=>(rY 41 40 R k).map vI)=nats (nF 41 40 R):=by unfold nF nats;rw[RK];rfl
 rw[hc]at this
 have hlen:(nF 41 40 R).length≤8:=by unfold nF;exact M8 (Qx _ _) (by simp)
 have ha:d_ (aH l σ) .Add (.lst [.int 0]) (.lst (nats (nF 41 40 R)))=some (.lst (nats (0::nF 41 40 R)),aH l σ):=ko (by rw[iQ];unfold lid;simp;lia)
 have hes:b8 OO (I4 av.oM) (bC l) (aH l σ)=some ([.lst (nats (0::nF 41 40 R)),.ref σ.length,.ref (σ++[[]]).length,.ref (σ++[[]]++[[]]).length],aH l (σ++[[]]++[[]]++[[]])):=
  ae (aq (by rfl) (by exact this) (by exact ha)) (ae (by rfl) (ae (by rfl) (ae (by rfl) aj)))
 have e1:(σ++[[]]).length=σ.length+1:=by simp
 have e2:(σ++[[]]++[[]]).length=σ.length+2:=by simp
 have e3:σ++[[]]++[[]]++[[]]=S3 σ [] [] [] []:=by unfold S3;simp
 rw[e1,e2,e3]at hes
 exact s_ hes (by rfl)
theorem DX{A:List Nat}(h:A≠[]):lZ (.lst (nats A)) (.int (-1))=some (.int (qk A:Int)):=by
 have h0:0<A.length:=List.length_pos_iff.mpr h
 show m9 (nats A) (-1)=_
 have e: -1+(A.length:Int)=((A.length-1:Nat):Int):=by rw[VU h0,UW];rfl
 unfold m9
 rw[if_neg (by decide),iQ,e,if_pos (Nx _),NQ]
 unfold nats qk
 rw[Nr,Nj,M3 (Nat.sub_lt h0 Nat.one_pos)];rfl
theorem ne_nil(A:List Nat):iU .NotEq (.lst (nats A)) (.lst [])=some (!decide (A=[])):=by
 cases A with
 |nil=>rfl
 |cons a A=>
  have hd:(V.lst (nats (a::A))).data=true:=rU _
  have hp:(V.lst (nats (a::A))).dep=1:=by show fV (nats (a::A))+1=1;rw[nD]
  rw[nc,iz,hd,hp];rfl
theorem xx{A sh:List Nat}{C W:List V}{i:Nat}(h16:lk l 16=some (.ref σ.length))(h14:lk l 14=some (.lst (nats sh)))(hz:sh.length≤99)(hA:A.length≤99):
  aE OO NN (qK (.cons av.oN .nil)) (bC ((19,some (.int (i:Int)))::l)) (aH ((19,some (.int (i:Int)))::l) (S3 σ (nats A) C W E))=
   some (.bU,bC ((19,some (.int (i:Int)))::l),aH ((19,some (.int (i:Int)))::l) (S3 σ (nats (gT sh A i)) C W (E++[[]]))):=by
 generalize hm:(19,some (V.int (i:Int)))::l=m
 have g16:cC (bC m) (aH m (S3 σ (nats A) C W E)) 16=some (.ref σ.length):=by rw[←hm];exact h16
 have g16':cC (bC m) (aH m (S3 σ (nats A) C W (E++[[]]))) 16=some (.ref σ.length):=by rw[←hm];exact h16
 have g14:cC (bC m) (aH m (S3 σ (nats A) C W E)) 14=some (.lst (nats sh)):=by rw[←hm];exact h14
 have g19:cC (bC m) (aH m (S3 σ (nats A) C W E)) 19=some (.int (i:Int)):=by rw[←hm];rfl
 have d1:aJ (aH m (S3 σ (nats A) C W (E++[[]]))) (.ref σ.length)= .lst (nats A):=by rw[cP];show(match (S3 σ (nats A) C W (E++[[]]))[σ.length]? with|some l=>V.lst l|none=>.ref σ.length)=_;rw[zX]
 have d2:aJ (aH m (S3 σ (nats A) C W (E++[[]]))) (.ref (S3 σ (nats A) C W E).length)= .lst []:=by rw[cP];show(match (S3 σ (nats A) C W (E++[[]]))[(S3 σ (nats A) C W E).length]? with|some l=>V.lst l|none=>.ref _)=_;rw[Lf]
 have hl:ak OO (.jD .nil ⟨231,65,231,67⟩) .val (bC m) (aH m (S3 σ (nats A) C W E))=some (.ref (S3 σ (nats A) C W E).length,aH m (S3 σ (nats A) C W (E++[[]]))):=by
  rw[←Jk];rfl
 have ht:a_ (ak OO (.cmp .NotEq (.var 16 ⟨231,56,231,61⟩) (.jD .nil ⟨231,65,231,67⟩) ⟨231,56,231,67⟩) .test (bC m) (aH m (S3 σ (nats A) C W E)))=some (!decide (A=[]),aH m (S3 σ (nats A) C W (E++[[]]))):=
  aW (aa g16) hl (by rw[d1,d2];exact ne_nil A)
 have hlast:ak OO (.qv (.cmp .NotEq (.var 16 ⟨231,56,231,61⟩) (.jD .nil ⟨231,65,231,67⟩) ⟨231,56,231,67⟩) (.idx (.var 16 ⟨231,43,231,48⟩) (.un .USub (.cI 1 0 ⟨231,50,231,51⟩) ⟨231,49,231,51⟩) ⟨231,43,231,52⟩) (.cI 0 0 ⟨231,73,231,74⟩) ⟨231,43,231,74⟩) .val (bC m) (aH m (S3 σ (nats A) C W E))=some (.int (qk A:Int),aH m (S3 σ (nats A) C W (E++[[]]))):=by
  by_cases h:A=[]
  ·clear h16 h14 hz hA
   subst h
   exact jm (by decide) ht (by rfl)
  ·rw[decide_eq_false h]at ht
   exact jl (by decide) ht (e_idx (aa g16') (by rfl) (by rw[d1];exact DX h))
 have hc:=yw (k:=98) (st:=aH m (S3 σ (nats A) C W (E++[[]]))) (args:=[.lst (nats sh),.int (i:Int),.int (qk A:Int)]) (key:=none) (a:=.lst (nats sh)) (x:=(i:Int)) (xs:=zs sh) (lo:=qk A) (hi:=sh.length) (hv:=.none) (by rfl) (by rw[Cg];rfl) (.inl ⟨rfl,(tN sh).symm⟩) (by lia)
 have hm2:eG (aH m (S3 σ (nats A) C W (E++[[]]))) .append (.ref σ.length) [.int (bis (pR (i:Int) (zs sh)) 99 (qk A) sh.length:Nat)]=some (.none,aH m (S3 σ (nats (gT sh A i)) C W (E++[[]]))):=by
  rw[fS (l:=nats A) (by exact zX) (by rfl) (by rw[iQ];unfold lid;lia)]
  show some (V.none,aH m ((S3 σ (nats A) C W (E++[[]])).set σ.length _))=_
  rw[Jh]
  unfold gT
  rw[ints_append];rfl
 exact aG (eN (c9 (aa g16) (ae (aD (aa (by rfl)) (ae (aa g14) (ae (aa g19) (ae hlast aj))) (by exact bg hc rfl)) aj) hm2))
theorem nG(sh A:List Nat)(i:Nat):(gT sh A i).length=A.length+1:=by simp[gT]
theorem oN{sh:List Nat}{C W:List V}(h16:lk l 16=some (.ref σ.length))(h14:lk l 14=some (.lst (nats sh)))(hz:sh.length≤99):
  aX OO NN av.oN (bC l) (aH l (S3 σ [] C W E))=some (.bU,bC ((19,some (.int 3))::l),aH ((19,some (.int 3))::l) (S3 σ (nats (iw sh)) C W (E++[[]]++[[]]++[[]]++[[]]))):=by
 have T:∀(A:List Nat) (E:List (List V)) (i:Nat),A.length≤99→_:=fun A E i hA=>xx (l:=l) (σ:=σ) (E:=E) (A:=A) (sh:=sh) (C:=C) (W:=W) (i:=i) h16 h14 hz hA
 refine gP (v:=.lst (cA 0 4)) (items:=[.int 0,.int 1,.int 2,.int 3]) (aD (aa (by rfl)) (ae (by rfl) aj) (by exact eE (src_range (n:=4) (by decide)))) (by intro i h;cases h) rfl ?_
 refine bz (bV:=bC ((19,some (.int 0))::l)) (st1:=aH ((19,some (.int 0))::l) (S3 σ (nats []) C W E)) (by rfl) (by exact T [] E 0 (by decide)) ?_
 refine bz (bV:=bC ((19,some (.int 1))::l)) (st1:=aH ((19,some (.int 1))::l) (S3 σ (nats (gT sh [] 0)) C W (E++[[]]))) (by rfl) (by exact T _ _ 1 (by simp only[nG];decide)) ?_
 refine bz (bV:=bC ((19,some (.int 2))::l)) (st1:=aH ((19,some (.int 2))::l) (S3 σ (nats (gT sh (gT sh [] 0) 1)) C W (E++[[]]++[[]]))) (by rfl) (by exact T _ _ 2 (by simp only[nG];decide)) ?_
 exact bz (bV:=bC ((19,some (.int 3))::l)) (st1:=aH ((19,some (.int 3))::l) (S3 σ (nats (gT sh (gT sh (gT sh [] 0) 1) 2)) C W (E++[[]]++[[]]++[[]]))) (by rfl) (by exact T _ _ 3 (by simp only[nG];decide)) iM
noncomputable def Jl(x:Option V):En:=⟨[.loc none,.loc x,.cY (.fn 9),.fB 6],13⟩
theorem qU{sh due:List Nat}{C W:List V}(h16:lk l 16=some (.ref σ.length))(h15:lk l 15=some (.lst (nats (0::due))))(h14:lk l 14=some (.lst (nats sh)))(hz:sh.length≤99)(f1:iw sh=due)(f2:ql sh (fun i=>(i:Int)) 0 sh.length=0::due):
  aX OO NN av.qU (bC l) (aH l (S3 σ (nats (iw sh)) C W E))=some (.bU,bC l,aH l (S3 σ (nats (iw sh)) C W E)):=by
 have d1:aJ (aH l (S3 σ (nats (iw sh)) C W E)) (.ref σ.length)= .lst (nats due):=by rw[cP];show(match (S3 σ (nats (iw sh)) C W E)[σ.length]? with|some l=>V.lst l|none=>.ref σ.length)=_;rw[zX,f1]
 have hc:=gc (O:=OO) (st:=aH l (S3 σ (nats (iw sh)) C W E)) (en:=bC l) (n:=5) (t:=.bM 1 ⟨232,53,232,54⟩) (fr:=[6]) Jl (fun i=>vI (bis (pL (i:Int) (zs sh)) 99 0 sh.length)) (it:=(.call (.var 45 ⟨232,58,232,63⟩) (.cons (.cI 5 0 ⟨232,64,232,65⟩) .nil) .bH default ⟨232,58,232,66⟩)) (elt:=(.call (.var 2 ⟨232,28,232,39⟩) (.cons (.var 3 ⟨232,40,232,44⟩) (.cons (.var 1 ⟨232,46,232,47⟩) .nil)) .bH default ⟨232,28,232,48⟩)) (sc:=[.lc ".0",.lc "i",.gl 9,.fe "shut" 14]) (p:=⟨232,27,232,67⟩) (md:=.val)
  (aD (aa (by rfl)) (ae (by rfl) aj) (by exact eE (src_range (n:=5) (by decide)))) (by rfl) (by rfl) (by rfl) (fun x v=>by rfl)
  (fun i hi=>aD (aa (by rfl)) (ae (aa (by exact aK (by rfl) (show(aH l _).κ[6]? =_ from congrArg some h14))) (ae (aa (by rfl)) aj)) (by exact bg (Cd (k:=98) (args:=[.lst (nats sh),.int (i:Int)]) (key:=none) (lo:=0) (hi:=sh.length) (hv:=.none) (a:=.lst (nats sh)) (x:=(i:Int)) (xs:=zs sh) (by rfl) (by rw[Cg];rfl) (.inl ⟨rfl,(tN sh).symm⟩) (by omega)) rfl)) (by decide) (fun i _=>rfl)
 have hf:(Nn 0 5).map (fun i:Nat=>vI (bis (pL (i:Int) (zs sh)) 99 0 sh.length))=nats (0::due):=by rw[←f2];unfold ql nats;rw[Oa];rfl
 rw[hf]at hc
 refine aI (qa (aW (x:=.ref σ.length) (y:=.lst (nats due)) (aa (by exact h16)) (nY (aa (by exact h15)) (by rfl) (by rfl) (by rfl) (by exact F3 (nats (0::due)) (a:=1) (by simp[iQ]))) (by rw[d1];exact mW due)) (aW (x:=.lst (nats (0::due))) (y:=.lst (nats (0::due))) (by exact hc) (aa (by exact h15)) (by exact mW _))) bK
end
end Rk.L01
end

section
namespace Rk.L01
open PySem Rk
noncomputable def eF(lo hi d:Nat):Nat:=if hi<(if lo<d then d else lo)then hi else(if lo<d then d else lo)
noncomputable def mX:List (Nat×Nat):=(Nn 0 5).flatMap fun a=>(Nn a (5-a)).map fun b=>(a,b)
noncomputable def pn(q:Nat×Nat):V:=.tup [.int (q.1:Int),.int (q.2:Int)]
noncomputable abbrev D3(x y z:Option V)(l:gV):gV:=(22,x)::(21,y)::(20,z)::l
structure xy (sh due:List Nat) (q:Nat×Nat):Prop where
 hi:q.2≤sh.length
 l:ql sh (fun i=>(i:Int)) q.1 q.2=(0::due).map (eF q.1 q.2)
 r:xw sh (fun i=>(i:Int)-1) q.1 q.2=(0::due).map (eF q.1 q.2)
noncomputable def xA(sh due:List Nat)(q:Nat×Nat):Bool:=decide (q.2≤sh.length)&&(ql sh (fun i=>(i:Int)) q.1 q.2 == (0::due).map (eF q.1 q.2))&&(xw sh (fun i=>(i:Int)-1) q.1 q.2 == (0::due).map (eF q.1 q.2))
theorem xy.of{sh due:List Nat}{q:Nat×Nat}(h:xA sh due q=true):xy sh due q:=by
 unfold xA at h
 rw[Nu,Nu,decide_eq_true_eq,beq_iff_eq,beq_iff_eq]at h
 exact⟨h.1.1,h.1.2,h.2⟩
theorem yz{a b c d:Nat}:(if(a:Int)<b then (c:Int)else d)=((if a<b then c else d:Nat):Int):=by
 by_cases h:a<b
 ·rw[if_pos h,if_pos (Qq.mpr h)]
 ·rw[if_neg h,if_neg (fun q=>h (Qq.mp q))]
theorem Jm(a b:Nat):xF .max [.int (a:Int),.int (b:Int)]=some (.int ((if a<b then b else a:Nat):Int)):=by
 show some (V.int (if(a:Int)<b then (b:Int)else a))=_
 rw[yz]
theorem Jo(a b:Nat):xF .min [.int (a:Int),.int (b:Int)]=some (.int ((if b<a then b else a:Nat):Int)):=by
 show some (V.int (if(b:Int)<a then (b:Int)else a))=_
 rw[yz]
section
variable {l:gV} {σ:List (List V)} {sh due:List Nat}
noncomputable def Jp(x:Option V):En:=⟨[.loc none,.loc x,.cY (.bi .min),.cY (.bi .max),.fB 9,.fB 8],13⟩
noncomputable def EY(g:Nat)(x:Option V):En:=⟨[.loc none,.loc x,.cY (.fn g),.fB 9,.fB 8,.fB 6],13⟩
noncomputable def Ci:Ss:=qK (.cons av.l7 .nil)
noncomputable def J9(k:Nat):E:=if k=0 then a0 (eR (sE (yr 1 Ci)))else a0 (a0 (sE (yr 1 Ci)))
noncomputable abbrev qm(e:E):E:=a0 e
noncomputable def Lg(lo hi:Nat):V→Option V
 |.int i=>some (vI (eF lo hi i.toNat))
 |_=>none
theorem vo(lo hi:Nat):∀L:List Nat,(nats L).filterMap (Lg lo hi)=nats (L.map (eF lo hi))
 |[]=>rfl
 |d::L=>by
  show(V.int (d:Int)::nats L).filterMap (Lg lo hi)=_
  rw[Pe,vo lo hi L];rfl
theorem Ga(h15:lk l 15=some (.lst (nats (0::due))))(h14:lk l 14=some (.lst (nats sh)))(hd:due.length≤50)(hz:sh.length≤99){q:Nat×Nat}(hn:xy sh due q)(x:Option V):
  ∃x',aE OO NN Ci (bC (D3 x (some (.int (q.2:Int))) (some (.int (q.1:Int))) l)) (aH (D3 x (some (.int (q.2:Int))) (some (.int (q.1:Int))) l) σ)=some (.bU,bC (D3 x' (some (.int (q.2:Int))) (some (.int (q.1:Int))) l),aH (D3 x' (some (.int (q.2:Int))) (some (.int (q.1:Int))) l) σ):=by
 obtain⟨lo,hi⟩:=q
 obtain⟨hh,hl,hr⟩:=hn
 have key:∀x,(cC (bC (D3 x (some (.int (hi:Int))) (some (.int (lo:Int))) l)) (aH (D3 x (some (.int (hi:Int))) (some (.int (lo:Int))) l) σ) 15=some (.lst (nats (0::due))))∧(aH (D3 x (some (.int (hi:Int))) (some (.int (lo:Int))) l) σ).κ[6]? =some (some (.lst (nats sh))):=fun x=>⟨h15,congrArg some h14⟩
 refine⟨some (.lst (nats ((0::due).map (eF lo hi)))),ai (aR (st1:=aH (D3 x (some (.int (hi:Int))) (some (.int (lo:Int))) l) σ) (v:=.lst (nats ((0::due).map (eF lo hi)))) ?_ (by rfl)) (aG (aI (qa (aW (x:=.lst (nats ((0::due).map (eF lo hi)))) (y:=.lst (nats ((0::due).map (eF lo hi)))) ?_ (aa (by rfl)) (by exact mW _)) (aW (x:=.lst (nats ((0::due).map (eF lo hi)))) (y:=.lst (nats ((0::due).map (eF lo hi)))) ?_ (aa (by rfl)) (by exact mW _))) bK))⟩
 ·have:=kg (O:=OO) (st:=aH (D3 x (some (.int (hi:Int))) (some (.int (lo:Int))) l) σ) (st1:=aH (D3 x (some (.int (hi:Int))) (some (.int (lo:Int))) l) σ) (en:=bC (D3 x (some (.int (hi:Int))) (some (.int (lo:Int))) l)) (src:=.lst (nats (0::due))) (items:=nats (0::due)) (fr:=[9,8]) Jp (Lg lo hi) (t:=.bM 1 ⟨235,45,235,48⟩) (it:=.var 15 ⟨235,52,235,55⟩) (elt:=qm (sE (yr 0 Ci))) (ifs:=.nil) (rest:=.nil) (sc:=[.lc ".0",.lc "one",.gl 27,.gl 28,.fe "high" 21,.fe "low" 20]) (p:=⟨235,15,235,56⟩) (md:=.val)
   (aa (by exact(key x).1)) (by rfl) (by intro i h;cases h) (by rfl) (by rfl) (by rfl) (fun y v=>by rfl) (fun v hv acc ha=>by
    obtain⟨d,_,rfl⟩:=NY.mp hv
    exact dQ (aD (aa (by rfl)) (ae (aD (aa (by rfl)) (ae (aa (by rfl)) (ae (aa (by rfl)) aj)) (by exact fg (Jm lo d) rfl)) (ae (aa (by rfl)) aj)) (by exact fg (Jo _ hi) rfl)) (by rfl) ha) (by rw[iQ];unfold lid;simp;lia) (fun v hv w e=>by
    obtain⟨d,_,rfl⟩:=NY.mp hv
    cases e;rfl)
  rw[vo]at this
  exact this
 ·generalize (some (V.lst (nats ((0::due).map (eF lo hi)))))=y
  have hc:=gc (O:=OO) (st:=aH (D3 y (some (.int (hi:Int))) (some (.int (lo:Int))) l) σ) (en:=bC (D3 y (some (.int (hi:Int))) (some (.int (lo:Int))) l)) (n:=5) (t:=.bM 1 ⟨236,48,236,49⟩) (fr:=[9,8,6]) (EY 9) (fun i=>vI (bis (pL (i:Int) (zs sh)) 99 lo hi)) (it:=zF (J9 0)) (elt:=qm (J9 0)) (sc:=[.lc ".0",.lc "i",.gl 9,.fe "high" 21,.fe "low" 20,.fe "shut" 14]) (p:=⟨236,11,236,62⟩) (md:=.val)
   (aD (aa (by rfl)) (ae (by rfl) aj) (by exact eE (src_range (n:=5) (by decide)))) (by rfl) (by rfl) (by rfl) (fun y v=>by rfl)
   (fun i _=>aD (aa (by rfl)) (ae (aa (by exact aK (by rfl) (key y).2)) (ae (aa (by rfl)) (ae (aa (by rfl)) (ae (aa (by rfl)) aj)))) (by exact bg (Cd (k:=98) (args:=[.lst (nats sh),.int (i:Int),.int (lo:Int),.int (hi:Int)]) (key:=none) (lo:=lo) (hi:=hi) (hv:=.int (hi:Int)) (a:=.lst (nats sh)) (x:=(i:Int)) (xs:=zs sh) (by rfl) (by rw[Cg];rfl) (.inr ⟨rfl,by rw[tN];exact hh⟩) (by have:hi≤sh.length:=hh;lia)) rfl)) (by decide) (fun i _=>rfl)
  have hf:(Nn 0 5).map (fun i:Nat=>vI (bis (pL (i:Int) (zs sh)) 99 lo hi))=nats ((0::due).map (eF lo hi)):=by rw[←hl];unfold ql nats;rw[Oa];rfl
  rw[hf]at hc
  exact hc
 ·generalize (some (V.lst (nats ((0::due).map (eF lo hi)))))=y
  have hc:=gc (O:=OO) (st:=aH (D3 y (some (.int (hi:Int))) (some (.int (lo:Int))) l) σ) (en:=bC (D3 y (some (.int (hi:Int))) (some (.int (lo:Int))) l)) (n:=5) (t:=.bM 1 ⟨236,116,236,117⟩) (fr:=[9,8,6]) (EY 7) (fun i=>vI (bis (pR ((i:Int)-1) (zs sh)) 99 lo hi)) (it:=zF (J9 1)) (elt:=qm (J9 1)) (sc:=[.lc ".0",.lc "i",.gl 7,.fe "high" 21,.fe "low" 20,.fe "shut" 14]) (p:=⟨236,74,236,130⟩) (md:=.val)
   (aD (aa (by rfl)) (ae (by rfl) aj) (by exact eE (src_range (n:=5) (by decide)))) (by rfl) (by rfl) (by rfl) (fun y v=>by rfl)
   (fun i _=>aD (aa (by rfl)) (ae (aa (by exact aK (by rfl) (key y).2)) (ae (aq (aa (by rfl)) (by rfl) (by rfl)) (ae (aa (by rfl)) (ae (aa (by rfl)) aj)))) (by exact bg (yw (k:=98) (args:=[.lst (nats sh),.int ((i:Int)-1),.int (lo:Int),.int (hi:Int)]) (key:=none) (lo:=lo) (hi:=hi) (hv:=.int (hi:Int)) (a:=.lst (nats sh)) (x:=(i:Int)-1) (xs:=zs sh) (by rfl) (by rw[Cg];rfl) (.inr ⟨rfl,by rw[tN];exact hh⟩) (by have:hi≤sh.length:=hh;lia)) rfl)) (by decide) (fun i _=>rfl)
  have hf:(Nn 0 5).map (fun i:Nat=>vI (bis (pR ((i:Int)-1) (zs sh)) 99 lo hi))=nats ((0::due).map (eF lo hi)):=by rw[←hr];unfold xw nats;rw[Oa];rfl
  rw[hf]at hc
  exact hc
theorem Cj(h15:lk l 15=some (.lst (nats (0::due))))(h14:lk l 14=some (.lst (nats sh)))(hd:due.length≤50)(hz:sh.length≤99):∀(qs:List (Nat×Nat)) (x y z:Option V),(∀q∈qs,xy sh due q)→
  ∃x' y' z',fk (xd (.cons av.l7 .nil)) (fun en st=>aE OO NN Ci en st) (qs.map pn) (bC (D3 x y z l)) (aH (D3 x y z l) σ)=some (.bU,bC (D3 x' y' z' l),aH (D3 x' y' z' l) σ)
 |[],x,y,z,_=>⟨x,y,z,rfl⟩
 |q::qs,x,y,z,h=>by
  refine bc fun hN0=>?_
  obtain⟨x1,h1⟩:=Ga (σ:=σ) h15 h14 hd hz (h q (Nk ..)) x
  obtain⟨x',y',z',ih⟩:=Cj h15 h14 hd hz qs x1 (some (.int (q.2:Int))) (some (.int (q.1:Int))) fun q hq=>h q (MY _ hq)
  refine hN0 ?_
  exact⟨x',y',z',bz (by rfl) h1 ih⟩
theorem Lh:ak OO (match av.l7 with|.gB _ e _ _=>e|_=>.bH) .iter (bC l) (aH l σ)=some (.lst (mX.map pn),aH l σ):=by kernel_rfl!
theorem l7(h15:lk l 15=some (.lst (nats (0::due))))(h14:lk l 14=some (.lst (nats sh)))(hd:due.length≤50)(hz:sh.length≤99)(f:∀q∈mX,xy sh due q):
  ∃x y z,aX OO NN av.l7 (bC l) (aH l σ)=some (.bU,bC (D3 x y z l),aH (D3 x y z l) σ):=by
 refine bc fun hN0=>?_
 obtain⟨x,y,z,h⟩:=Cj (σ:=σ) h15 h14 hd hz mX (lk l 22) (lk l 21) (lk l 20) f
 refine hN0 ?_
 exact⟨x,y,z,gP (by exact Lh) (by intro i h;cases h) rfl (by exact h)⟩
noncomputable def qC(A:List Nat)(i:Nat):Int×Int:=((A.getD i 0:Int)-i,i)
noncomputable def qR(sh:List Nat)(i:Nat):Int×Int:=(4-(sh.getD (3-i) 0:Int)-i,i)
noncomputable def qS(sh:List Nat)(i:Nat):Int×Int:=(4-(sh.getD (3-i) 0:Int)-i,-i)
noncomputable def gW(A:List Nat)(C:List (Int×Int))(i:Nat):List (Int×Int):=layAt (HF (qC A i) C) (qC A i) C
noncomputable def lW(sh:List Nat)(W:List (Int×Int))(i:Nat):List (Int×Int):=layAt (HG (qR sh i) W) (qR sh i) W
noncomputable def kA(A:List Nat):List (Int×Int):=gW A (gW A (gW A (gW A [] 0) 1) 2) 3
noncomputable def c_(sh:List Nat):List (Int×Int):=lW sh (lW sh (lW sh (lW sh [] 0) 1) 2) 3
theorem yC(n:Nat)(q:Int×Int)(ps:List (Int×Int)):(layAt n q ps).length=ps.length+1:=by
 unfold layAt
 have:(ps.take n).length+(ps.drop n).length=ps.length:=by rw[←Ng,To]
 simp only[Ng,NS];lia
theorem qo(A:List Nat)(C:List (Int×Int))(i:Nat):(gW A C i).length=C.length+1:=yC _ _ _
theorem qp(A:List Nat)(C:List (Int×Int))(i:Nat):(lW A C i).length=C.length+1:=yC _ _ _
noncomputable abbrev D2(x y:Option V)(l:gV):gV:=(23,x)::(19,y)::l
theorem fy{A:List Nat}{i:Nat}(h:i<A.length):(nats A)[i]? =some (.int (A.getD i 0:Nat)):=by
 unfold nats
 rw[Nr,Nj,M3 h];rfl
variable {G:List (List V)} {A:List Nat}
theorem Gb{C W:List (Int×Int)}{i:Nat}{x:Option V}(hi:i<4)(hA:A.length=4)(hS:sh.length=4)(h16:lk l 16=some (.ref σ.length))(h17:lk l 17=some (.ref (σ.length+1)))(h18:lk l 18=some (.ref (σ.length+2)))(h14:lk l 14=some (.lst (nats sh)))(hC:C.length<99)(hW:W.length<99):
  aE OO NN (qK (.cons av.oO .nil)) (bC (D2 x (some (.int (i:Int))) l)) (aH (D2 x (some (.int (i:Int))) l) (S3 σ (nats A) (C.map pr) (W.map pr) G))=
   some (.bU,bC (D2 (some (.tup [.none,.none])) (some (.int (i:Int))) l),aH (D2 (some (.tup [.none,.none])) (some (.int (i:Int))) l) (S3 σ (nats A) ((gW A C i).map pr) ((lW sh W i).map pr) G)):=by
 generalize hm:D2 x (some (V.int (i:Int))) l=m
 have g16:cC (bC m) (aH m (S3 σ (nats A) (C.map pr) (W.map pr) G)) 16=some (.ref σ.length):=by rw[←hm];exact h16
 have g17:cC (bC m) (aH m (S3 σ (nats A) (C.map pr) (W.map pr) G)) 17=some (.ref (σ.length+1)):=by rw[←hm];exact h17
 have g18:cC (bC m) (aH m (S3 σ (nats A) ((gW A C i).map pr) (W.map pr) G)) 18=some (.ref (σ.length+2)):=by rw[←hm];exact h18
 have g14:cC (bC m) (aH m (S3 σ (nats A) ((gW A C i).map pr) (W.map pr) G)) 14=some (.lst (nats sh)):=by rw[←hm];exact h14
 have g19:∀σ,cC (bC m) (aH m σ) 19=some (.int (i:Int)):=fun σ=>by rw[←hm];rfl
 have d1:aJ (aH m (S3 σ (nats A) (C.map pr) (W.map pr) G)) (.ref σ.length)= .lst (nats A):=by rw[cP];show(match (S3 σ (nats A) (C.map pr) (W.map pr) G)[σ.length]? with|some l=>V.lst l|none=>.ref σ.length)=_;rw[zX]
 have c1:=zV (k:=96) (j:=σ.length+1) (ps:=C) (q:=qC A i) (st:=aH m (S3 σ (nats A) (C.map pr) (W.map pr) G)) (by exact Jg) hC
 have e1:({ aH m (S3 σ (nats A) (C.map pr) (W.map pr) G)with σ:=(aH m (S3 σ (nats A) (C.map pr) (W.map pr) G)).σ.set (σ.length+1) ((layAt (HF (qC A i) C) (qC A i) C).map pr) }:ao)=aH m (S3 σ (nats A) ((gW A C i).map pr) (W.map pr) G):=by
  show({ κ:=(aH m []).κ,σ:=(S3 σ (nats A) (C.map pr) (W.map pr) G).set (σ.length+1) _ }:ao)=_
  rw[Ji];rfl
 rw[e1]at c1
 have c2:=Ce (k:=96) (j:=σ.length+2) (ps:=W) (q:=qR sh i) (st:=aH m (S3 σ (nats A) ((gW A C i).map pr) (W.map pr) G)) (by exact F_) hW
 have e2:({ aH m (S3 σ (nats A) ((gW A C i).map pr) (W.map pr) G)with σ:=(aH m (S3 σ (nats A) ((gW A C i).map pr) (W.map pr) G)).σ.set (σ.length+2) ((layAt (HG (qR sh i) W) (qR sh i) W).map pr) }:ao)=aH m (S3 σ (nats A) ((gW A C i).map pr) ((lW sh W i).map pr) G):=by
  show({ κ:=(aH m []).κ,σ:=(S3 σ (nats A) ((gW A C i).map pr) (W.map pr) G).set (σ.length+2) _ }:ao)=_
  rw[Jj];rfl
 rw[e2]at c2
 have i3:(3:Int)-(i:Int)=((3-i:Nat):Int):=by omega
 have hb3:∀st,d_ st .Sub (.int 3) (.int (i:Int))=some (.int ((3-i:Nat):Int),st):=fun st=>by show some (V.int (3-(i:Int)),st)=_;rw[i3]
 have ht:=gi (O:=OO) (md:=.val) (k:=0) (p:=⟨239,15,239,134⟩) (ae (ow (p:=⟨239,16,239,72⟩) (q:=⟨239,57,239,71⟩) (ke:=.var 48 ⟨239,61,239,71⟩) (f:=.var 47 ⟨239,16,239,28⟩) (by rfl) (aa (by rfl)) (ae (e:=.var 17 ⟨239,29,239,36⟩) (aa g17) (ae (e:=(.tup (.cons (.bin .Sub (.idx (.var 16 ⟨239,39,239,44⟩) (.var 19 ⟨239,45,239,46⟩) ⟨239,39,239,47⟩) (.var 19 ⟨239,50,239,51⟩) ⟨239,39,239,51⟩) (.cons (.var 19 ⟨239,53,239,54⟩) .nil)) 0 ⟨239,38,239,55⟩))
   (gi (ae (aq (e_idx (aa g16) (aa (g19 _)) (by rw[d1];exact dZ (fy (by omega)))) (aa (g19 _)) (by rfl)) (ae (aa (g19 _)) aj))) aj)) (aa (by rfl)) (by exact bg c1 rfl))
  (ae (ow (p:=⟨239,74,239,133⟩) (q:=⟨239,118,239,132⟩) (ke:=.var 48 ⟨239,122,239,132⟩) (f:=.var 49 ⟨239,74,239,85⟩) (by rfl) (aa (by rfl)) (ae (e:=.var 18 ⟨239,86,239,90⟩) (aa g18) (ae (e:=(.tup (.cons (.bin .Sub (.bin .Sub (.cI 4 0 ⟨239,93,239,94⟩) (.idx (.var 14 ⟨239,97,239,101⟩) (.bin .Sub (.cI 3 0 ⟨239,102,239,103⟩) (.var 19 ⟨239,106,239,107⟩) ⟨239,102,239,107⟩) ⟨239,97,239,108⟩) ⟨239,93,239,108⟩) (.var 19 ⟨239,111,239,112⟩) ⟨239,93,239,112⟩) (.cons (.var 19 ⟨239,114,239,115⟩) .nil)) 0 ⟨239,92,239,116⟩))
   (gi (ae (aq (aq (by rfl) (e_idx (aa g14) (aq (by rfl) (aa (g19 _)) (by exact hb3 _)) (by exact dZ (fy (by omega)))) (by rfl)) (aa (g19 _)) (by rfl)) (ae (aa (g19 _)) aj))) aj)) (aa (by rfl)) (by exact bg c2 rfl)) aj))
 have h23:fC (bC m) (aH m (S3 σ (nats A) ((gW A C i).map pr) ((lW sh W i).map pr) G)) 23 (.tup [.none,.none])=some (bC (D2 (some (.tup [.none,.none])) (some (.int (i:Int))) l),aH (D2 (some (.tup [.none,.none])) (some (.int (i:Int))) l) (S3 σ (nats A) ((gW A C i).map pr) ((lW sh W i).map pr) G)):=by rw[←hm];rfl
 exact ai (aR (by exact ht) h23) (aG (aI (aW (x:=.tup [.none,.none]) (y:=.tup [.none,.none]) (aa (by rfl)) (by rfl) (by rfl)) bK))
theorem oO(hA:A.length=4)(hS:sh.length=4)(h16:lk l 16=some (.ref σ.length))(h17:lk l 17=some (.ref (σ.length+1)))(h18:lk l 18=some (.ref (σ.length+2)))(h14:lk l 14=some (.lst (nats sh))):
  aX OO NN av.oO (bC l) (aH l (S3 σ (nats A) [] [] G))=some (.bU,bC (D2 (some (.tup [.none,.none])) (some (.int 3)) l),aH (D2 (some (.tup [.none,.none])) (some (.int 3)) l) (S3 σ (nats A) ((kA A).map pr) ((c_ sh).map pr) G)):=by
 have T:∀(C W:List (Int×Int)) (i:Nat) (x:Option V),i<4→C.length<99→W.length<99→_:=fun C W i x hi hC hW=>Gb (l:=l) (σ:=σ) (G:=G) (A:=A) (sh:=sh) (C:=C) (W:=W) (i:=i) (x:=x) hi hA hS h16 h17 h18 h14 hC hW
 refine gP (v:=.lst (cA 0 4)) (items:=[.int 0,.int 1,.int 2,.int 3]) (aD (aa (by rfl)) (ae (by rfl) aj) (by exact eE (src_range (n:=4) (by decide)))) (by intro i h;cases h) rfl ?_
 refine bz (bV:=bC (D2 (lk l 23) (some (.int 0)) l)) (st1:=aH (D2 (lk l 23) (some (.int 0)) l) (S3 σ (nats A) (([]:List (Int×Int)).map pr) (([]:List (Int×Int)).map pr) G)) (by rfl) (by exact T [] [] 0 (lk l 23) (by decide) (by decide) (by decide)) ?_
 refine bz (bV:=bC (D2 (some (.tup [.none,.none])) (some (.int 1)) l)) (st1:=aH (D2 (some (.tup [.none,.none])) (some (.int 1)) l) (S3 σ (nats A) ((gW A [] 0).map pr) ((lW sh [] 0).map pr) G)) (by rfl) (by exact T _ _ 1 _ (by decide) (by simp only[qo];decide) (by simp only[qp];decide)) ?_
 refine bz (bV:=bC (D2 (some (.tup [.none,.none])) (some (.int 2)) l)) (st1:=aH (D2 (some (.tup [.none,.none])) (some (.int 2)) l) (S3 σ (nats A) ((gW A (gW A [] 0) 1).map pr) ((lW sh (lW sh [] 0) 1).map pr) G)) (by rfl) (by exact T _ _ 2 _ (by decide) (by simp only[qo];decide) (by simp only[qp];decide)) ?_
 exact bz (bV:=bC (D2 (some (.tup [.none,.none])) (some (.int 3)) l)) (st1:=aH (D2 (some (.tup [.none,.none])) (some (.int 3)) l) (S3 σ (nats A) ((gW A (gW A (gW A [] 0) 1) 2).map pr) ((lW sh (lW sh (lW sh [] 0) 1) 2).map pr) G)) (by rfl) (by exact T _ _ 3 _ (by decide) (by simp only[qo];decide) (by simp only[qp];decide)) iM
noncomputable def gu(ps:List (Int×Int)):List (Int×Int):=(fj ps).map fun i=>ps.getD i (0,0)
theorem qq:∀ps:List (Int×Int),pairsOf (ps.map pr)=some ps
 |[]=>rfl
 |q::ps=>by
  show(pairsOf (ps.map pr)).map (q:: ·)=_
  rw[qq ps];rfl
theorem DY{ps:List (Int×Int)}{i:Nat}(h:i<ps.length):(ps.map pr).getD i .none=pr (ps.getD i (0,0)):=by
 rw[Nj,Nj,Nr,M3 h];rfl
theorem rZ{ps:List (Int×Int)}(h4:ps.length=4)(hx:(fj ps).all (· <4)=true)(hl:(fj ps).length≤100):xF .sorted [.lst (ps.map pr)]=some (.lst ((gu ps).map pr)):=by
 have hne:intsOf (ps.map pr)=none:=by
  clear hx hl
  cases ps with
  |nil=>cases h4
  |cons q ps=>rfl
 show(if(ps.map pr).length<64 then (intsOf (ps.map pr)).elim (vB (ps.map pr)) fun xs=>some (.lst ((iW xs).map .int))else none)=_
 rw[if_pos (by rw[Nq,h4];decide),hne]
 show(pairsOf (ps.map pr)).bind _=_
 rw[qq]
 show(if(ps.map pr).length=4∧(fj ps).length≤lid then some (V.lst ((fj ps).map fun i=>(ps.map pr).getD i .none))else none)=_
 rw[if_pos ⟨by rw[Nq,h4],by unfold lid;lia⟩]
 unfold gu
 rw[Oa]
 congr 2
 refine Qt fun i hi=>?_
 have:=NB.mp hx i hi
 exact DY (by rw[h4];simpa using this)
theorem DZ(ps:List (Int×Int)):bA (ps.map pr)=true:=bG fun v hv=>by
 obtain⟨q,_,rfl⟩:=NY.mp hv;rfl
theorem yD:∀ps:List (Int×Int),fV (ps.map pr)≤1
 |[]=>NG _
 |_::ps=>Nat.max_le.mpr ⟨M9 _,yD ps⟩
theorem yE:∀ps:List (Int×Int),lE (ps.map pr) (ps.map pr)=true
 |[]=>rfl
 |q::ps=>by
  show((q.1 == q.1)&&((q.2 == q.2)&&true)&&lE (ps.map pr) (ps.map pr))=true
  rw[yE ps];simp
theorem EZ(ps:List (Int×Int)):iU .NotEq (.lst (ps.map pr)) (.lst (ps.map pr))=some false:=by
 have hd:(V.lst (ps.map pr)).data=true:=DZ ps
 have hp:(V.lst (ps.map pr)).dep≤8:=by show fV (ps.map pr)+1≤8;have:=yD ps;lia
 have h1:oE (.lst (ps.map pr)) (.lst (ps.map pr))=true:=yE ps
 rw[nc,iz,hd,decide_eq_true hp,h1];rfl
noncomputable def Gc:V→Option V
 |.tup [.int a,.int b]=>some (.tup [.int a,.int (-b)])
 |_=>none
noncomputable def D0(q:Int×Int):Int×Int:=(q.1,-q.2)
theorem yF:∀ps:List (Int×Int),(ps.map pr).filterMap Gc=(ps.map D0).map pr
 |[]=>rfl
 |q::ps=>by
  show(pr q::ps.map pr).filterMap Gc=_
  rw[Pe,yF ps];rfl
noncomputable def J_(k:Nat):E:=if k=0 then a0 (eI (eR (sE av.nH)))else eI (a0 (sE av.nH))
noncomputable def Jq:E:=a0 (zF (J_ 1))
noncomputable def Jr(c:Nat)(x:Option V):En:=⟨[.loc none,.loc x,.fB c],13⟩
structure kB (ps qs:List (Int×Int)):Prop where
 l4:ps.length=4
 lt:(fj ps).all (· <4)=true
 le:(fj ps).length≤100
 eq:qs=gu ps
theorem nH(hA:A.length=4)(hS:sh.length=4)(h16:lk l 16=some (.ref σ.length))(h17:lk l 17=some (.ref (σ.length+1)))(h18:lk l 18=some (.ref (σ.length+2)))(h14:lk l 14=some (.lst (nats sh)))
  (f1:kB ((Nn 0 4).map (qC A)) (kA A)) {qs:List (Int×Int)} (f2:kB ((Nn 0 4).map (qS sh)) qs) (f3:qs.map D0=c_ sh):
  aX OO NN av.nH (bC l) (aH l (S3 σ (nats A) ((kA A).map pr) ((c_ sh).map pr) G))=some (.bU,bC l,aH l (S3 σ (nats A) ((kA A).map pr) ((c_ sh).map pr) G)):=by
 generalize kM:S3 σ (nats A) ((kA A).map pr) ((c_ sh).map pr) G=σ'
 have k0:σ'[σ.length]? =some (nats A):=by rw[←kM];exact zX
 have k1:σ'[σ.length+1]? =some ((kA A).map pr):=by rw[←kM];exact Jg
 have k2:σ'[σ.length+2]? =some ((c_ sh).map pr):=by rw[←kM];exact F_
 have d0:aJ (aH l σ') (.ref σ.length)= .lst (nats A):=by rw[cP];show(match σ'[σ.length]? with|some l=>V.lst l|none=>.ref σ.length)=_;rw[k0]
 have d1:aJ (aH l σ') (.ref (σ.length+1))= .lst ((kA A).map pr):=by rw[cP];show(match σ'[σ.length+1]? with|some l=>V.lst l|none=>.ref _)=_;rw[k1]
 have d2:aJ (aH l σ') (.ref (σ.length+2))= .lst ((c_ sh).map pr):=by rw[cP];show(match σ'[σ.length+2]? with|some l=>V.lst l|none=>.ref _)=_;rw[k2]
 have hc:=gc (O:=OO) (st:=aH l σ') (en:=bC l) (n:=4) (t:=.bM 1 ⟨254,48,254,49⟩) (fr:=[7]) (Jr 7) (fun i=>pr (qC A i)) (it:=zF (J_ 0)) (elt:=qm (J_ 0)) (sc:=[.lc ".0",.lc "i",.fe "ahead" 16]) (p:=⟨254,25,254,62⟩) (md:=.val)
  (aD (aa (by rfl)) (ae (by rfl) aj) (by exact eE (src_range (n:=4) (by decide)))) (by rfl) (by rfl) (by rfl) (fun y v=>by rfl)
  (fun i hi=>gi (ae (aq (e_idx (x:=.ref σ.length) (y:=.int (i:Int)) (aa (by exact aK (by rfl) (show(aH l σ').κ[7]? =_ from congrArg some h16))) (aa (by rfl)) (by rw[d0];exact dZ (fy (by lia)))) (aa (by rfl)) (by rfl)) (ae (aa (by rfl)) aj))) (by decide) (fun i _=>rfl)
 have hs:=gc (O:=OO) (st:=aH l σ') (en:=bC l) (n:=4) (t:=.bM 1 ⟨254,140,254,141⟩) (fr:=[6]) (Jr 6) (fun i=>pr (qS sh i)) (it:=zF Jq) (elt:=qm Jq) (sc:=[.lc ".0",.lc "i",.fe "shut" 14]) (p:=⟨254,109,254,154⟩) (md:=.val)
  (aD (aa (by rfl)) (ae (by rfl) aj) (by exact eE (src_range (n:=4) (by decide)))) (by rfl) (by rfl) (by rfl) (fun y v=>by rfl)
  (fun i hi=>gi (ae (aq (aq (by rfl) (e_idx (x:=.lst (nats sh)) (y:=.int ((3-i:Nat):Int)) (aa (by exact aK (by rfl) (show(aH l σ').κ[6]? =_ from congrArg some h14))) (aq (x:=.int 3) (y:=.int (i:Int)) (by rfl) (aa (by rfl)) (by show some (V.int (3-(i:Int)),_)=_;rw[show(3:Int)-(i:Int)=((3-i:Nat):Int) by lia])) (by exact dZ (fy (by lia)))) (by rfl)) (aa (by rfl)) (by rfl)) (ae (uN (aa (by rfl))) aj))) (by decide) (fun i _=>rfl)
 have m1:(Nn 0 4).map (fun i=>pr (qC A i))=((Nn 0 4).map (qC A)).map pr:=(Oa ..).symm
 have m2:(Nn 0 4).map (fun i=>pr (qS sh i))=((Nn 0 4).map (qS sh)).map pr:=(Oa ..).symm
 rw[m1]at hc
 rw[m2]at hs
 have s1:=rZ f1.l4 f1.lt f1.le
 have s2:=rZ f2.l4 f2.lt f2.le
 rw[←f1.eq]at s1
 rw[←f2.eq]at s2
 have ho:ak OO (J_ 1) .val (bC l) (aH l σ')=some (.lst ((c_ sh).map pr),aH l σ'):=by
  rw[←f3,←yF]
  refine qb (O:=OO) (src:=.lst (qs.map pr)) (items:=qs.map pr) (st1:=aH l σ') (fr:=[]) (Inv:=fun en=>∃x y,en=xu x y) Gc (aD (aa (by rfl)) (ae (by exact hs) aj) (by show(xF .sorted [.lst (((Nn 0 4).map (qS sh)).map pr)]).map (·,aH l σ')=_;rw[s2];rfl)) (by rfl) (by intro i h;cases h) (by rfl) ⟨none,none,by rfl⟩ (by rfl) ?_ ?_ ?_
  ·rintro v hv en ⟨x,y,rfl⟩
   obtain⟨q,_,rfl⟩:=NY.mp hv
   exact⟨xu (some (.int q.1)) (some (.int q.2)),xu (some (.int q.1)) (some (.int q.2)),by rfl,⟨_,_,rfl⟩,fun acc ha=>dQ (gi (ae (aa (by rfl)) (ae (uN (aa (by rfl))) aj))) (by rfl) ha⟩
  ·rw[Nq,f2.eq];unfold gu;rw[Nq];have:=f2.le;unfold lid;lia
  ·intro v hv w e
   obtain⟨q,_,rfl⟩:=NY.mp hv
   cases e;rfl
 exact aI (qa (aW (x:=.ref (σ.length+1)) (y:=.lst ((kA A).map pr)) (aa (by exact h17)) (aD (aa (by rfl)) (ae (by exact hc) aj) (by exact fg s1 rfl)) (by rw[d1];exact EZ _)) (aW (x:=.ref (σ.length+2)) (y:=.lst ((c_ sh).map pr)) (aa (by exact h18)) (by exact ho) (by rw[d2];exact EZ _))) bK
end
end Rk.L01
end

section
namespace Rk.L01
open PySem Rk
noncomputable abbrev gX(R:List Nat):List Nat:=nF 41 40 R
noncomputable abbrev lD(R:List Nat):List Nat:=nF 40 41 R
noncomputable def Js(r:List Nat)(h:Nat):List Nat:=[r.getD 0 0,r.getD 1 0+r.getD 0 0*h,r.getD 2 0+r.getD 1 0*(h-1),r.getD 3 0+r.getD 2 0*(h-2),r.getD 4 0+r.getD 3 0*(h-3)]
noncomputable def cR(R:List Nat):List Nat:=(gX R).foldl Js [1,0,0,0,0]
noncomputable def Jt(a b c d e:Nat):List Nat:=
 let h4:=e
 let h3:=d-4*h4
 let h2:=2*c-3*h3-6*h4
 let h1:=6*b-2*h2-3*h3-4*h4
 [24*a-h1-h2-h3-h4,h1,h2,h3,h4]
noncomputable def cX(R:List Nat):List Nat:=Jt ((cR R).getD 0 0) ((cR R).getD 1 0) ((cR R).getD 2 0) ((cR R).getD 3 0) ((cR R).getD 4 0)
noncomputable def tO(ps:List (Int×Int)):Bool:=decide (ps.length=4)&&(fj ps).all (· <4)&&decide ((fj ps).length≤100)
theorem kB.of{ps qs:List (Int×Int)}(h:tO ps=true)(e:qs=gu ps):kB ps qs:=by
 unfold tO at h
 rw[Nu,Nu,decide_eq_true_eq,decide_eq_true_eq]at h
 exact⟨h.1.1,h.1.2,h.2,e⟩
noncomputable def Ju(R:List Nat):Bool:=(gX R).length == 4&&(lD R).length == 4&&iw (lD R) == gX R&&ql (lD R) (fun i=>(i:Int)) 0 4 == 0::gX R
noncomputable def Li(R:List Nat):Bool:=mX.all fun q=>xA (lD R) (gX R) q
noncomputable def Jv(R:List Nat):Bool:=tO ((Nn 0 4).map (qC (gX R)))&&kA (gX R) == gu ((Nn 0 4).map (qC (gX R)))
noncomputable def Jw(R:List Nat):Bool:=tO ((Nn 0 4).map (qS (lD R)))&&(gu ((Nn 0 4).map (qS (lD R)))).map D0 == c_ (lD R)
noncomputable def rt(R:List Nat)(i:Nat):Int:=((c_ (lD R)).getD i (0,0)).1
noncomputable def wy(R:List Nat)(i:Nat):Nat:=(cR R).getD i 0
noncomputable def ht(R:List Nat)(i:Nat):Nat:=(cX R).getD i 0
noncomputable def Jx(R:List Nat):Bool:=(c_ (lD R)).length == 4&&(cR R).length == 5&&wy R 0 == 1&&(cR R).all (· ≤96)&&decide (rt R 0+rt R 1+rt R 2+rt R 3=wy R 1-6)&&decide (rt R 0*rt R 1+rt R 0*rt R 2+rt R 0*rt R 3+rt R 1*rt R 2+rt R 1*rt R 3+rt R 2*rt R 3=wy R 2-3*wy R 1+11)&&
 decide (rt R 0*rt R 1*rt R 2+rt R 0*rt R 1*rt R 3+rt R 0*rt R 2*rt R 3+rt R 1*rt R 2*rt R 3=wy R 3-wy R 2+2*wy R 1-6)&&decide (rt R 0*rt R 1*rt R 2*rt R 3=wy R 4)&&(Nn 0 4).all fun i=>decide ((rt R i).natAbs≤8)
noncomputable def lX(H:List Nat):List Nat:=(Nn 0 5).filterMap fun i=>if 0<H.getD i 0 then some i else none
noncomputable def Lj:List Int→Int
 |[]=>0
 |a::r=>oF a r
noncomputable def Jy(R:List Nat):Bool:=(cX R).length == 5&&(cX R).all (· <32)&&wy R 0*24 == ht R 0+ht R 1+ht R 2+ht R 3+ht R 4&&wy R 1*6 == ht R 1+2*ht R 2+3*ht R 3+4*ht R 4&&wy R 2*2 == ht R 2+3*ht R 3+6*ht R 4&&wy R 3 == ht R 3+4*ht R 4&&wy R 4 == ht R 4
noncomputable def gY(H:List Nat):Nat:=(lX H).getLast?.getD 0
noncomputable def Jz(R:List Nat):Bool:= !(lX (cX R)).isEmpty&&decide (Lj (zs (lX (cX R)))=(gY (cX R):Int))&&decide (gY (cX R)<5)&&decide (0<ht R (gY (cX R)))&&((cX R).drop (gY (cX R)+1)).all (· == 0)
noncomputable def Lk(R:List Nat):Bool:=(Nn 0 5).all fun j=>dP false 0 (M2 j 40++R++M2 j 41) == decide (0<wy R (4-j))
noncomputable def tabI(R:List Nat):Bool:= !dP false 0 (M2 5 40++R++M2 4 41)&& !dP false 0 (M2 4 40++R++M2 5 41)&&dP false 0 (R++[92]) == decide (0<wy R 4)
theorem tA:dD.all Ju=true:=by decide+kernel
theorem tB:dD.all Li=true:=by decide+kernel
theorem tC:dD.all Jv=true:=by decide+kernel
theorem tD:dD.all Jw=true:=by decide+kernel
theorem tE:dD.all Jx=true:=by decide+kernel
theorem tF:dD.all Jy=true:=by decide+kernel
theorem tG:dD.all Jz=true:=by decide+kernel
theorem tH:dD.all Lk=true:=by decide+kernel
theorem tI:dD.all tabI=true:=by decide+kernel
end Rk.L01
end

section
set_option exponentiation.threshold 100
namespace Rk.L01
open PySem Rk
structure D4 (x:Int):Prop where
 lo:200≤x.natAbs
 hi:x.natAbs<2^4200
theorem D5{a p s:Int}(ha:200≤a)(hb:a<2^21)(hp:p=1∨p=((2^4099:Nat):Int))(hs:EK s):D4 (a*p*s):=by
 have h1:(a*p*s).natAbs=a.natAbs*p.natAbs:=by
  rw[Pq,Pq]
  rcases hs with rfl|rfl<;>simp
 have h2:200≤a.natAbs∧a.natAbs<2^21:=by omega
 have h3:1≤p.natAbs∧p.natAbs≤2^4099:=by
  rcases hp with rfl|rfl
  ·exact⟨M9 _,UA⟩
  ·rw[Ny]
   exact⟨UA,M9 _⟩
 refine⟨by rw[h1];exact M8 h2.1 (O8 _ h3.1),?_⟩
 rw[h1]
 refine Nm (Ql h2.2 h3.2 (NO _)) ?_
 rw[←Ow]
 exact NC (by decide) (by decide)
section
variable {l:gV} {σ:List (List V)} {cs:List Int}
theorem tX{c2:Int}(h10:lk l 10=some (.int cs.sum))(h3:lk l 3=some (bf cs))(hc:cs[2]? =some c2):∃(a s:Int) (w:Nat),200≤a∧a<2^21∧EK s∧5≤w∧w<55∧
  aX OO NN av.tX (bC l) (aH l σ)=some (.bU,bC ((27,some (.int (w:Int)))::(26,some (.int s))::(25,some (.int a))::l),aH ((27,some (.int (w:Int)))::(26,some (.int s))::(25,some (.int a))::l) σ):=by
 refine bc fun hN0=>?_
 have f1:=OS cs.sum (b:=1000000) (by decide)
 have f2:=Pp cs.sum (b:=1000000) (by decide)
 have g1:=OS cs.sum (b:=50) (by decide)
 have g2:=Pp cs.sum (b:=50) (by decide)
 obtain⟨s,hs,hi⟩:=yl (OS (c2.fdiv 16) (b:=2) (by decide)) (Pp (c2.fdiv 16) (b:=2) (by decide))
 obtain⟨w,hw⟩:∃w:Nat,5+cs.sum.fmod 50=(w:Int):=⟨(5+cs.sum.fmod 50).toNat,by omega⟩
 refine hN0 ?_
 refine⟨200+cs.sum.fmod 1000000,s,w,by omega,by omega,hs,by omega,by omega,?_⟩
 refine s_ (ae (aq (by rfl) (aq (aa (by exact h10)) (aq (by rfl) (by rfl) (w:=(.int 1000000,aH l σ)) (by rfl)) (by rfl)) (by rfl)) (ae (e_idx (by rfl) (aq (aq (e_idx (aa (by exact h3)) (by rfl) (by exact iO hc)) (by rfl) (by rfl)) (by rfl) (by rfl)) (by exact hi)) (ae (v:=.int (w:Int)) (aq (by rfl) (aq (aa (by exact h10)) (by rfl) (by rfl)) (by rw[←hw];rfl)) aj))) (by rfl)
theorem l8{a c0 c1:Int}(ha:200≤a)(hb:a<2^21)(h25:lk l 25=some (.int a))(h3:lk l 3=some (bf cs))(hc0:cs[0]? =some c0)(hc1:cs[1]? =some c1):∃x:Int,D4 x∧Ad av.l8 l 25 (.int x) σ:=by
 obtain⟨s,hs,hi⟩:=yl (OS (c1.fdiv 16) (b:=2) (by decide)) (Pp (c1.fdiv 16) (b:=2) (by decide))
 have ht:a_ (ak OO (a0 (eR (a0 (sE av.l8)))) .test (bC l) (aH l σ))=some (decide ((c0.fdiv 16).fmod 3=2),aH l σ):=
  aW (x:=.int ((c0.fdiv 16).fmod 3)) (y:=.int 2) (aq (aq (e_idx (aa (by exact h3)) (by rfl) (by exact iO hc0)) (by rfl) (by rfl)) (by rfl) (by rfl)) (by rfl) rfl
 have ha21:a.natAbs<2^21:=by omega
 have key:∀p:Int,(p=1∨p=((2^4099:Nat):Int))→p.natAbs<2^4100→ak OO (eR (a0 (sE av.l8))) .val (bC l) (aH l σ)=some (.int p,aH l σ)→ ∃x:Int,D4 x∧Ad av.l8 l 25 (.int x) σ:=fun p hp hp2 he=>by
  have hap:(a*p).natAbs<2^4121:=by
   rw[Pq,show(4121:Nat)=21+4100 from rfl,Ow]
   exact Ql ha21 (NH hp2) (NO _)
  exact⟨a*p*s,D5 ha hb hp hs,aR (aq (aq (aa (by exact h25)) (by exact he) (by exact kq ha21 hp2 (by decide) (by decide))) (e_idx (by rfl) (aq (aq (e_idx (aa (by exact h3)) (by rfl) (by exact iO hc1)) (by rfl) (by rfl)) (by rfl) (by rfl)) (by exact hi)) (by exact kq hap (tJ hs) (by decide) (by decide))) (by rfl)⟩
 by_cases h:(c0.fdiv 16).fmod 3=2
 ·rw[decide_eq_true h]at ht
  refine key ((2^4099:Nat):Int) (.inr rfl) (by rw[Ny];exact Rl (by decide) (by decide)) (jl (by decide) ht (aq (by rfl) (by rfl) (by exact EL (e:=4099) (by decide))))
 ·rw[decide_eq_false h]at ht
  exact key 1 (.inl rfl) (Nm (by decide:(1:Int).natAbs<2^1) (NC (by decide) (by decide))) (jm (by decide) ht (by rfl))
end
end Rk.L01
end

section
set_option exponentiation.threshold 100
namespace Rk.L01
open PySem Rk
structure Nd (d a t q r:Int):Prop where
 sg:¬r*d<0
 lt:¬d.natAbs≤r.natAbs
 or:(q=t∧r=a∧ ¬(d.natAbs<2*r.natAbs))∨(q+1=t∧r-d=a∧d.natAbs<2*r.natAbs)
theorem HB{A D:Nat}(h:2*A<D):¬D≤A∧ ¬D<2*A:=⟨by omega,by omega⟩
theorem J8{A D R:Nat}(h:2*A<D)(hA:A≠0)(e:R+A=D):¬D≤R∧D<2*R:=⟨by omega,by omega⟩
theorem Ll{a d:Int}(h:2*a.natAbs<d.natAbs):(0<d→ -d<a+a∧a+a<d∧(a<0→(a+d).natAbs+a.natAbs=d.natAbs))∧(d<0→d<a+a∧a+a< -d∧(0<a→(a+d).natAbs+a.natAbs=d.natAbs)):=by omega
theorem mY(a d t:Int):a+d+d*(t-1)=a+d*t:=by rw[Int.mul_sub,Vh];omega
theorem D6{d a t:Int}(h:2*a.natAbs<d.natAbs):Nd d a t ((a+d*t).fdiv d) ((a+d*t).fmod d):=by
 have hd:d≠0:=by intro e;rw[e]at h;exact absurd h (Nat.not_lt_zero _)
 obtain⟨kp,kn⟩:=Ll h
 obtain⟨c1,c2⟩:=HB h
 have c3:∀e,a≠0→_:=fun e ha=>J8 (R:=(a+d).natAbs) h (fun q=>ha (Uo.mp q)) e
 rcases Int.lt_or_gt_of_ne hd with hn|hp
 ·obtain⟨k1,k2,k3⟩:=kn hn
  by_cases ha:a≤0
  ·have:=(Tp (a:=a+d*t) (b:=d) (r:=a) (q:=t) hn).mpr ⟨rfl,by omega,ha⟩
   rw[this.1,this.2]
   exact⟨QA.mpr (QB ha (SX hn)),c1,.inl ⟨rfl,rfl,c2⟩⟩
  ·have hl:a+d≤0:=by omega
   have ha:=SG.mp ha
   have:=(Tp (a:=a+d*t) (b:=d) (r:=a+d) (q:=t-1) hn).mpr ⟨mY a d t,Int.lt_add_of_pos_left d ha,hl⟩
   rw[this.1,this.2]
   obtain⟨c4,c5⟩:=c3 (k3 ha) (Int.ne_of_gt ha)
   exact⟨QA.mpr (QB hl (SX hn)),c4,.inr ⟨RL t 1,RJ a d,c5⟩⟩
 ·obtain⟨k1,k2,k3⟩:=kp hp
  by_cases ha:0≤a
  ·have:=(Rj (a:=a+d*t) (b:=d) (r:=a) (q:=t) hp).mpr ⟨rfl,ha,by omega⟩
   rw[this.1,this.2]
   exact⟨QA.mpr (VI ha (SX hp)),c1,.inl ⟨rfl,rfl,c2⟩⟩
  ·have hl:0≤a+d:=by omega
   have ha:=SG.mp ha
   have:=(Rj (a:=a+d*t) (b:=d) (r:=a+d) (q:=t-1) hp).mpr ⟨mY a d t,hl,by omega⟩
   rw[this.1,this.2]
   obtain⟨c4,c5⟩:=c3 (k3 ha) (Int.ne_of_lt ha)
   exact⟨QA.mpr (VI hl (SX hp)),c4,.inr ⟨RL t 1,RJ a d,c5⟩⟩
theorem yG{x:Int}(hx:D4 x){k:Nat}(hk:k<4):197≤(x-(k:Int)).natAbs∧(x-(k:Int)).natAbs<2^4201∧x.natAbs≤(x-(k:Int)).natAbs+3:=by
 obtain⟨lo,hi⟩:=hx
 have a1:=RZ (x-(k:Int)) k
 have a2:=U3 x k
 rw[RL]at a1
 rw[Ny]at a1 a2
 have e:2^4201=2^4200*2:=Qs ..
 have h3:2^2≤2^4200:=NC (by decide) (by decide)
 rw[e]
 generalize (x-(k:Int)).natAbs=D at*
 generalize x.natAbs=X at*
 generalize 2^4200=P at*
 exact⟨by omega,by omega,by omega⟩
theorem Ck{x:Int}(hx:D4 x){k:Nat}(hk:k<4){v:Int}(hv:v.natAbs≤(2*x.natAbs)^4){st:ao}:aO av.P 99 (.fn 5) [.int v,.int (x-(k:Int))] none st=some (.tup [.int (v.fdiv (x-(k:Int))),.int (v.fmod (x-(k:Int)))],st):=by
 obtain⟨hd,h1,h5⟩:=yG hx hk
 have hn:=bits_le h1
 have hl:=kO (a:=(x-(k:Int)).natAbs)
 have hg:7<M1 ((x-(k:Int)).natAbs:Int):=yk (e:=7) (M8 (by decide) hd)
 generalize hnn:M1 ((x-(k:Int)).natAbs:Int)=n at*
 refine dm (F:=99) (M:=6) (B:=4*n+8) (by lia) (by rw[hnn];lia) ?_ (by
  rw[hnn]
  exact U4 (Ol (by lia))) (by rw[hnn];lia) (by decide) (by decide)
 refine OH hv ?_
 have h2n:2^(n+2)=2^n*4:=Ow 2 n 2
 have h4:2*x.natAbs<2^(n+2):=by lia
 rw[show 4*n+8=(n+2)*4 by lia,Nat.pow_mul]
 exact Nat.pow_lt_pow_left h4 (by decide)
noncomputable abbrev F4(y v k:Option V)(l:gV):gV:=(29,y)::(28,v)::(2,k)::l
noncomputable def Ka:Ss:=qK (.cons av.qV .nil)
section
variable {l:gV} {σ:List (List V)} {W:List Nat} {x s:Int}
theorem yH(r:Int):xF .abs [.int r]=some (.int (r.natAbs:Int)):=rfl
theorem Gd{k:Nat}{a t d:Int}{y:Option V}(hx:D4 x)(hs:EK s)(hk:k<4)(hW:W.length=5)(hw:W.getD (4-k) 0≤96)(h25:lk l 25=some (.int x))(h26:lk l 26=some (.int s))(h8:lk l 8=some (.lst (nats W)))
  (hd:d=x-(k:Int)) (ha:a=s*(W.getD (4-k) 0:Nat)) (hv:(a+d*t).natAbs≤(2*x.natAbs)^4):
  aE OO NN Ka (bC (F4 y (some (.int (a+d*t))) (some (.int (k:Int))) l)) (aH (F4 y (some (.int (a+d*t))) (some (.int (k:Int))) l) σ)=some (.bU,bC (F4 (some (.int a)) (some (.int t)) (some (.int (k:Int))) l),aH (F4 (some (.int a)) (some (.int t)) (some (.int (k:Int))) l) σ):=by
 have hdm:=Ck (st:=aH (F4 y (some (.int (a+d*t))) (some (.int (k:Int))) l) σ) hx hk hv
 rw[←hd]at hdm
 have haa:a.natAbs≤96:=by rw[ha,Pq];rcases hs with rfl|rfl<;>simpa using hw
 obtain⟨hdl,hdh,_⟩:=yG hx hk
 rw[←hd]at hdl hdh
 obtain⟨n1,n2,n3⟩:=D6 (d:=d) (a:=a) (t:=t) (OH (OT 2 haa) (Nm (by decide) hdl))
 generalize (a+d*t).fdiv d=q at*
 generalize (a+d*t).fmod d=r at*
 have hrh:r.natAbs<2^4201:=QN (Vu.mp n2) hdh
 have eD:∀y v,ak OO (.bin .Sub (.var 25 ⟨260,40,260,41⟩) (.var 2 ⟨260,44,260,45⟩) ⟨260,40,260,45⟩) .val (bC (F4 y v (some (.int (k:Int))) l)) (aH (F4 y v (some (.int (k:Int))) l) σ)=some (.int d,aH (F4 y v (some (.int (k:Int))) l) σ):=fun y v=>by
  rw[hd];exact aq (aa (by exact h25)) (aa (by rfl)) (by rfl)
 have eDp:∀y v {p1 p2 p3:NW},ak OO (.bin .Sub (.var 25 p1) (.var 2 p2) p3) .val (bC (F4 y v (some (.int (k:Int))) l)) (aH (F4 y v (some (.int (k:Int))) l) σ)=some (.int d,aH (F4 y v (some (.int (k:Int))) l) σ):=fun y v=>by
  intros;rw[hd];exact aq (aa (by exact h25)) (aa (by rfl)) (by rfl)
 have hL:aX OO NN (yr 3 Ka) (bC (F4 (some (.int a)) (some (.int t)) (some (.int (k:Int))) l)) (aH (F4 (some (.int a)) (some (.int t)) (some (.int (k:Int))) l) σ)=some (.bU,bC (F4 (some (.int a)) (some (.int t)) (some (.int (k:Int))) l),aH (F4 (some (.int a)) (some (.int t)) (some (.int (k:Int))) l) σ):=by
  refine aI (aW (x:=.int a) (y:=.int a) (aa (by rfl)) (aq (w:=(.int a,aH (F4 (some (.int a)) (some (.int t)) (some (.int (k:Int))) l) σ)) (aa (by exact h26)) (e_idx (y:=.int ((4-k:Nat):Int)) (aa (by exact aK (by rfl) (show(aH _ σ).κ[3]? =_ from congrArg some h8))) (aq (x:=.int 4) (y:=.int (k:Int)) (by rfl) (aa (by rfl)) (by show some (V.int (4-(k:Int)),_)=_;rw[show(4:Int)-(k:Int)=((4-k:Nat):Int) by lia])) (by exact dZ (fy (by lia)))) (by rw[ha];exact kq (kb:=10) (tJ hs) (by rw[Ny];lia) (by decide) (by decide))) (by show some (!decide (a=a))=_;rw[decide_eq_true rfl];rfl)) bK
 refine ai (ff (aD (aa (by rfl)) (ae (aa (by rfl)) (ae (eD _ _) aj)) (by exact bg hdm rfl)) (en2:=bC (F4 (some (.int r)) (some (.int q)) (some (.int (k:Int))) l)) (st2:=aH (F4 (some (.int r)) (some (.int q)) (some (.int (k:Int))) l) σ) (by rfl)) ?_
 refine ai (aI (qa (aW (x:=.int (r*d)) (y:=.int 0) (aq (aa (by rfl)) (eDp _ _) (by exact kq hrh hdh (by decide) (by decide))) (by rfl) (by show some (decide (r*d<0))=_;rw[decide_eq_false n1])) (aW (x:=.int (r.natAbs:Int)) (y:=.int (d.natAbs:Int)) (aD (aa (by rfl)) (ae (aa (by rfl)) aj) (by exact fg (yH r) rfl)) (aD (aa (by rfl)) (ae (eDp _ _) aj) (by exact fg (yH d) rfl)) (by show some (decide ((d.natAbs:Int)≤(r.natAbs:Int)))=_;rw[decide_eq_false (fun q=>n2 (U1.mp q))]))) bK) ?_
 have hm2:∀st,d_ st .Mult (.int 2) (.int (r.natAbs:Int))=some (.int (2*(r.natAbs:Int)),st):=fun st=>kq (ka:=2) (kb:=4201) (by decide) (by rw[Ny];exact hrh) (by decide) (by decide)
 have ht:a_ (ak OO (sE (yr 2 Ka)) .test (bC (F4 (some (.int r)) (some (.int q)) (some (.int (k:Int))) l)) (aH (F4 (some (.int r)) (some (.int q)) (some (.int (k:Int))) l) σ))=some (decide (d.natAbs<2*r.natAbs),aH (F4 (some (.int r)) (some (.int q)) (some (.int (k:Int))) l) σ):=
  aW (x:=.int (2*(r.natAbs:Int))) (y:=.int (d.natAbs:Int)) (aq (by rfl) (aD (aa (by rfl)) (ae (aa (by rfl)) aj) (by exact fg (yH r) rfl)) (by exact hm2 _)) (aD (aa (by rfl)) (ae (eDp _ _) aj) (by exact fg (yH d) rfl)) (by
   show some (decide ((d.natAbs:Int)<2*(r.natAbs:Int)))=_
   congr 1
   exact decide_eq_decide.mpr (by lia))
 clear hx hs hk hW hw h25 h26 h8 ha hv hdm haa hdl hdh hrh hm2
 rcases n3 with⟨rfl,rfl,h3⟩|⟨hq,hr,h3⟩
 ·rw[decide_eq_false h3]at ht
  exact ai (aI ht bK) (aG hL)
 ·rw[decide_eq_true h3]at ht
  refine ai (bu ht (aG (rJ (vs:=[.int t,.int a]) (ae (aq (aa (by rfl)) (by rfl) (by rw[←hq];rfl)) (ae (aq (aa (by rfl)) (eDp _ _) (by rw[←hr];rfl)) aj)) (by rfl)))) (aG hL)
end
end Rk.L01
end

section
set_option exponentiation.threshold 100
namespace Rk.L01
open PySem Rk
noncomputable def tS(x:Int)(w k:Nat)(t:Int):Int:=(w:Int)+(x-(k:Int))*t
theorem D7{x r0 r1 r2 r3:Int}{w1 w2 w3 w4:Nat}(e1:r0+r1+r2+r3=(w1:Int)-6)(e2:r0*r1+r0*r2+r0*r3+r1*r2+r1*r3+r2*r3=(w2:Int)-3*w1+11)
  (e3:r0*r1*r2+r0*r1*r3+r0*r2*r3+r1*r2*r3=(w3:Int)-w2+2*w1-6) (e4:r0*r1*r2*r3=(w4:Int)):
  (x+r0)*(x+r1)*(x+r2)*(x+r3)=tS x w4 0 (tS x w3 1 (tS x w2 2 (tS x w1 3 1))):=by
 have h:(x+r0)*(x+r1)*(x+r2)*(x+r3)=x*x*x*x+(r0+r1+r2+r3)*(x*x*x)+(r0*r1+r0*r2+r0*r3+r1*r2+r1*r3+r2*r3)*(x*x)+(r0*r1*r2+r0*r1*r3+r0*r2*r3+r1*r2*r3)*x+r0*r1*r2*r3:=by grind
 rw[h,e1,e2,e3,e4]
 unfold tS
 generalize (w1:Int)=a,(w2:Int)=b,(w3:Int)=c,(w4:Int)=d
 show _=d+(x-0)*(c+(x-1)*(b+(x-2)*(a+(x-3)*1)))
 grind
theorem yI{x t:Int}{w k M:Nat}(hx:200≤x.natAbs)(hw:w≤96)(hk:k<4)(hM:1≤M)(ht:t.natAbs≤M):(tS x w k t).natAbs≤2*x.natAbs*M:=by
 have h1:(tS x w k t).natAbs≤w+(x-(k:Int)).natAbs*t.natAbs:=by
  unfold tS
  have:=RZ (w:Int) ((x-(k:Int))*t)
  rw[Pq,Ny]at this
  exact this
 have h2:(x-(k:Int)).natAbs*t.natAbs≤(x.natAbs+3)*M:=RI (by have:=U3 x k;rw[Ny]at this;exact M8 this (Ua (U4 hk) _)) ht
 have h3:200*M≤x.natAbs*M:=NV _ hx
 rw[OV]at h2
 rw[O3]
 lia
section
variable {l:gV} {σ:List (List V)} {W:List Nat} {x s:Int} {j:Nat} {qs:List (Int×Int)}
theorem L2{s x t:Int}{w k:Nat}:s*tS x w k t=s*(w:Int)+(x-(k:Int))*(s*t):=by unfold tS;rw[Int.mul_add,←P8,Int.mul_comm s (x-(k:Int)),P8]
theorem tY{q0 q1 q2 q3:Int×Int}(hx:D4 x)(hs:EK s)(hq:qs=[q0,q1,q2,q3])(b0:q0.1.natAbs≤8)(b1:q1.1.natAbs≤8)(b2:q2.1.natAbs≤8)(b3:q3.1.natAbs≤8)(h25:lk l 25=some (.int x))(h26:lk l 26=some (.int s))(h18:lk l 18=some (.ref j))(hj:σ[j]? =some (qs.map pr)):
  Ad av.tY l 28 (.int (s*(x+q0.1)*(x+q1.1)*(x+q2.1)*(x+q3.1))) σ:=by
 have d:aJ (aH l σ) (.ref j)= .lst [pr q0,pr q1,pr q2,pr q3]:=by rw[cP];show(match σ[j]? with|some l=>V.lst l|none=>.ref j)=_;rw[hj,hq];rfl
 have hh:=hx.hi
 have e:2^4201=2^4200*2:=Qs ..
 have h3:(8:Nat)≤2^4200:=M8 (by decide:8≤2^3) (NC (by decide) (by decide))
 have hr:∀r:Int,r.natAbs≤8→(x+r).natAbs<2^4201:=fun r h=>OH (RZ _ _) (by rw[e,Nat.mul_two];exact Nat.add_lt_add_of_lt_of_le hh (M8 h h3))
 have m:∀{a b:Int} {k:Nat},a.natAbs<2^k→b.natAbs<2^4201→(a*b).natAbs<2^(k+4201):=fun{a b k} h1 h2=>by
  rw[Pq,Ow]
  exact Ql h1 (NH h2) (NO _)
 have k0:=tJ hs
 have k1:=m k0 (hr _ b0)
 have k2:=m k1 (hr _ b1)
 have k3:=m k2 (hr _ b2)
 exact aR (aq (aq (aq (aq (aa (by exact h26)) (aq (aa (by exact h25)) (e_idx (e_idx (aa (by exact h18)) (by rfl) (by rw[d];rfl)) (by rfl) (by rfl)) (by rfl)) (by exact kq k0 (hr _ b0) (by decide) (by decide))) (aq (aa (by exact h25)) (e_idx (e_idx (aa (by exact h18)) (by rfl) (by rw[d];rfl)) (by rfl) (by rfl)) (by rfl)) (by exact kq k1 (hr _ b1) (by decide) (by decide)))
  (aq (aa (by exact h25)) (e_idx (e_idx (aa (by exact h18)) (by rfl) (by rw[d];rfl)) (by rfl) (by rfl)) (by rfl)) (by exact kq k2 (hr _ b2) (by decide) (by decide))) (aq (aa (by exact h25)) (e_idx (e_idx (aa (by exact h18)) (by rfl) (by rw[d];rfl)) (by rfl) (by rfl)) (by rfl)) (by exact kq k3 (hr _ b3) (by decide) (by decide))) (by rfl)
theorem qV(hx:D4 x)(hs:EK s)(hW:W.length=5)(hw:∀i,W.getD i 0≤96)(h25:lk l 25=some (.int x))(h26:lk l 26=some (.int s))(h8:lk l 8=some (.lst (nats W))){v:Int}(hv:v=s*tS x (W.getD 4 0) 0 (tS x (W.getD 3 0) 1 (tS x (W.getD 2 0) 2 (tS x (W.getD 1 0) 3 1)))):
  ∃y,aX OO NN av.qV (bC ((28,some (.int v))::l)) (aH ((28,some (.int v))::l) σ)=some (.bU,bC (F4 y (some (.int s)) (some (.int 3)) l),aH (F4 y (some (.int s)) (some (.int 3)) l) σ):=by
 subst hv
 have hm:1≤2*x.natAbs:=by have:=hx.lo;lia
 have b3:=yI (t:=1) (k:=3) hx.lo (hw 1) (by decide) (M9 1) (by decide)
 have b2:=yI (k:=2) hx.lo (hw 2) (by decide) (by lia) b3
 have b1:=yI (k:=1) hx.lo (hw 3) (by decide) (M8 hm (O8 _ (by lia))) b2
 have b0:=yI (k:=0) hx.lo (hw 4) (by decide) (M8 hm (O8 _ (TN (by lia) (by lia)))) b1
 generalize ht3:tS x (W.getD 1 0) 3 1=t3 at*
 generalize ht2:tS x (W.getD 2 0) 2 t3=t2 at*
 generalize ht1:tS x (W.getD 3 0) 1 t2=t1 at*
 have sabs:∀t:Int,(s*t).natAbs=t.natAbs:=fun t=>by rw[Pq];rcases hs with rfl|rfl<;>simp
 have p4:(2*x.natAbs)^4=2*x.natAbs*(2*x.natAbs*(2*x.natAbs*(2*x.natAbs*1))):=by
  simp only[Qs,UX,Rg,QD,O3]
 have mono:∀a:Nat,a≤2*x.natAbs*a:=fun a=>SQ _ (by lia)
 have T:∀(k:Nat) (t:Int) (y:Option V),k<4→(tS x (W.getD (4-k) 0) k t).natAbs≤(2*x.natAbs)^4→aE OO NN Ka (bC (F4 y (some (.int (s*tS x (W.getD (4-k) 0) k t))) (some (.int (k:Int))) l)) (aH (F4 y (some (.int (s*tS x (W.getD (4-k) 0) k t))) (some (.int (k:Int))) l) σ)=some (.bU,bC (F4 (some (.int (s*(W.getD (4-k) 0:Nat)))) (some (.int (s*t))) (some (.int (k:Int))) l),aH (F4 (some (.int (s*(W.getD (4-k) 0:Nat)))) (some (.int (s*t))) (some (.int (k:Int))) l) σ):=fun k t y hk hb=>by
  have:=Gd (σ:=σ) (y:=y) (t:=s*t) hx hs hk hW (hw _) h25 h26 h8 rfl rfl (by rw[←L2,sabs];exact hb)
  rw[←L2]at this
  exact this
 have T0:=T 0 t1 (lk l 29) (by decide) (by rw[p4];exact b0)
 have T1:=T 1 t2 (some (.int (s*(W.getD 4 0:Nat)))) (by decide) (by
  show(tS x (W.getD 3 0) 1 t2).natAbs≤_
  rw[p4,ht1];exact M8 b1 (mono _))
 have T2:=T 2 t3 (some (.int (s*(W.getD 3 0:Nat)))) (by decide) (by
  show(tS x (W.getD 2 0) 2 t3).natAbs≤_
  rw[p4,ht2];exact M8 b2 (M8 (mono _) (mono _)))
 have T3:=T 3 1 (some (.int (s*(W.getD 2 0:Nat)))) (by decide) (by
  show(tS x (W.getD 1 0) 3 1).natAbs≤_
  rw[p4,ht3];exact M8 b3 (M8 (mono _) (M8 (mono _) (mono _))))
 rw[show(4-1:Nat)=3 from rfl,ht1]at T1
 rw[show(4-2:Nat)=2 from rfl,ht2]at T2
 rw[show(4-3:Nat)=1 from rfl,ht3,Vh]at T3
 refine⟨some (.int (s*(W.getD 1 0:Nat))),?_⟩
 refine gP (v:=.lst (cA 0 4)) (items:=[.int 0,.int 1,.int 2,.int 3]) (aD (aa (by rfl)) (ae (by rfl) aj) (by exact eE (src_range (n:=4) (by decide)))) (by intro i h;cases h) rfl ?_
 refine bz (bV:=bC (F4 (lk l 29) (some (.int (s*tS x (W.getD 4 0) 0 t1))) (some (.int 0)) l)) (st1:=aH (F4 (lk l 29) (some (.int (s*tS x (W.getD 4 0) 0 t1))) (some (.int 0)) l) σ) (by rfl) (by exact T0) ?_
 refine bz (bV:=bC (F4 (some (.int (s*(W.getD 4 0:Nat)))) (some (.int (s*t1))) (some (.int 1)) l)) (st1:=aH (F4 (some (.int (s*(W.getD 4 0:Nat)))) (some (.int (s*t1))) (some (.int 1)) l) σ) (by rfl) (by exact T1) ?_
 refine bz (bV:=bC (F4 (some (.int (s*(W.getD 3 0:Nat)))) (some (.int (s*t2))) (some (.int 2)) l)) (st1:=aH (F4 (some (.int (s*(W.getD 3 0:Nat)))) (some (.int (s*t2))) (some (.int 2)) l) σ) (by rfl) (by exact T2) ?_
 exact bz (bV:=bC (F4 (some (.int (s*(W.getD 2 0:Nat)))) (some (.int (s*t3))) (some (.int 3)) l)) (st1:=aH (F4 (some (.int (s*(W.getD 2 0:Nat)))) (some (.int (s*t3))) (some (.int 3)) l) σ) (by rfl) (by exact T3) iM
theorem tZ(hx:D4 x)(h25:lk l 25=some (.int x))(h26:lk l 26=some (.int s))(h28:lk l 28=some (.int s)):aX OO NN av.tZ (bC l) (aH l σ)=some (.bU,bC l,aH l σ):=by
 have h:=Ck (st:=aH l σ) (k:=0) (v:=0) hx (by decide) (NG _)
 rw[show x-((0:Nat):Int)=x from UL x,Int.zero_fdiv,Int.zero_fmod]at h
 exact aI (qa (aW (x:=.int s) (y:=.int s) (aa (by exact h28)) (aa (by exact h26)) (by show some (!decide (s=s))=_;rw[decide_eq_true rfl];rfl)) (aW (x:=.tup [.int 0,.int 0]) (y:=.tup [.int 0,.int 0]) (aD (aa (by rfl)) (ae (by rfl) (ae (aa (by exact h25)) aj)) (by exact bg h rfl)) (by rfl) (by rfl))) bK
end
end Rk.L01
end

section
set_option exponentiation.threshold 100
namespace Rk.L01
open PySem Rk
noncomputable def Cm:List Nat:=[24,6,2,1,1]
theorem L3{α:Type}(d:α)(L:List α):L=(List.range L.length).map fun i=>L.getD i d:=
 List.ext_getElem (by rw[Nq,List.length_range]) fun i h1 _=>by rw[List.getElem_map,List.getElem_range,Nj,M3 h1];rfl
theorem JA{L:List Nat}(h:L.length=5):L=[L.getD 0 0,L.getD 1 0,L.getD 2 0,L.getD 3 0,L.getD 4 0]:=(L3 0 L).trans (by rw[h];rfl)
theorem Ge{u w0 w1 w2 w3 w4 h0 h1 h2 h3 h4:Int}(e0:w0*24=h0+h1+h2+h3+h4)(e1:w1*6=h1+2*h2+3*h3+4*h4)(e2:w2*2=h2+3*h3+6*h4)(e3:w3=h3+4*h4)(e4:w4=h4):
  w0*24*u^0+(w1*6*u^1+(w2*2*u^2+(w3*1*u^3+(w4*1*u^4+0))))=h0+(u+1)*(h1+(u+1)*(h2+(u+1)*(h3+(u+1)*(h4+(u+1)*0)))):=by
 rw[e0,e1,e2,e3,e4]
 grind
section
variable {l:gV} {σ:List (List V)} {W H:List Nat} {w:Nat}
noncomputable def Lm(x:Option V):En:=⟨[.loc none,.loc x,.fB 3,.fB 10],13⟩
noncomputable def Gf(W:List Nat)(w k:Nat):Int:=(W.getD k 0:Int)*(Cm.getD k 0:Int)*((2^w-1:Nat):Int)^k
theorem oQ(hW:W.length=5)(hw:∀i,W.getD i 0≤96)(h8:lk l 8=some (.lst (nats W)))(h27:lk l 27=some (.int (w:Int)))(hw1:w<55):Ad av.oQ l 30 (.int ((Nn 0 5).map (Gf W w)).sum) σ:=by
 have hb:2^w-1<2^64:=by
  have:2^w<2^64:=Rl (by decide) (by lia)
  lia
 have hc:=gc (O:=OO) (st:=aH l σ) (en:=bC l) (n:=5) (t:=.bM 1 ⟨275,75,275,76⟩) (fr:=[3,10]) Lm (fun k=>.int (Gf W w k)) (it:=zF (a0 (sE av.oQ))) (elt:=qm (a0 (sE av.oQ))) (sc:=[.lc ".0",.lc "k",.fe "ways" 8,.fe "wide" 27]) (p:=⟨275,17,275,89⟩) (md:=.val)
  (aD (aa (by rfl)) (ae (by rfl) aj) (by exact eE (src_range (n:=5) (by decide)))) (by rfl) (by rfl) (by rfl) (fun x v=>by rfl)
  (fun k hk=>by
   have hp:d_ (aH l σ) .Pow (.int ((2^w-1:Nat):Int)) (.int (k:Int))=some (.int (((2^w-1:Nat):Int)^k),aH l σ):=by
    show(if 0≤(k:Int)∧(k:Int).toNat≤100000∧(((2^w-1:Nat):Int)).natAbs<2^64 then some (V.int (((2^w-1:Nat):Int)^(k:Int).toNat),aH l σ)else none)=_
    rw[if_pos ⟨by lia,by lia,by rw[Ny];exact hb⟩];rfl
   have hf:Cm.getD k 0≤24:=by
    have:k=0∨k=1∨k=2∨k=3∨k=4:=by lia
    clear hW hw h8 h27 hw1 hb hp
    rcases this with rfl|rfl|rfl|rfl|rfl<;>decide
   have hwk:=hw k
   have m1:((W.getD k 0:Int)*(Cm.getD k 0:Int)).natAbs<2^12:=by
    rw[Pq,Ny,Ny]
    exact OH (RI hwk hf) (by decide)
   have m2:(((2^w-1:Nat):Int)^k).natAbs<2^400:=by
    rw[Int.natAbs_pow,Ny]
    refine OH (Nat.pow_le_pow_left (NH hb) k) ?_
    rw[←Nat.pow_mul]
    exact Rl (by decide) (by lia)
   exact aq (aq (e_idx (x:=.lst (nats W)) (y:=.int (k:Int)) (aa (by exact aK (by rfl) (show(aH l σ).κ[3]? =_ from congrArg some h8))) (aa (by rfl)) (by exact dZ (fy (by lia)))) (e_idx (x:=.lst (nats Cm)) (y:=.int (k:Int)) (by rfl) (aa (by rfl)) (by exact dZ (fy (by exact hk)))) (by exact kq (ka:=10) (kb:=10) (by rw[Ny];lia) (by rw[Ny];lia) (by decide) (by decide)))
    (aq (aq (aq (by rfl) (aa (by exact aK (by rfl) (show(aH l σ).κ[10]? =_ from congrArg some h27))) (by exact EL (by lia))) (by rfl) (by exact Dw w)) (aa (by rfl)) (by exact hp)) (by exact kq m1 m2 (by decide) (by decide))) (by decide) (fun i _=>rfl)
 have hs:=sum_ints ((Nn 0 5).map (Gf W w))
 unfold bf at hs
 rw[Oa]at hs
 exact aR (aD (aa (by rfl)) (ae (by exact hc) aj) (by exact fg hs rfl)) (by rfl)
structure yJ (W H:List Nat):Prop where
 len:H.length=5
 lt:∀d∈H,d<32
 e0:W.getD 0 0*24=H.getD 0 0+H.getD 1 0+H.getD 2 0+H.getD 3 0+H.getD 4 0
 e1:W.getD 1 0*6=H.getD 1 0+2*H.getD 2 0+3*H.getD 3 0+4*H.getD 4 0
 e2:W.getD 2 0*2=H.getD 2 0+3*H.getD 3 0+6*H.getD 4 0
 e3:W.getD 3 0=H.getD 3 0+4*H.getD 4 0
 e4:W.getD 4 0=H.getD 4 0
 MB:lX H≠[]
 mx:Lj (zs (lX H))=(gY H:Int)
 top:gY H<5
 pos:0<H.getD (gY H) 0
 zero:∀d∈H.drop (gY H+1),d=0
theorem number(h:yJ W H):((Nn 0 5).map (Gf W w)).sum=(val w H:Int):=by
 obtain⟨u,hu⟩:∃u:Nat,2^w=u+1:=⟨2^w-1,by have:=NO w;lia⟩
 have e1:((Nn 0 5).map (Gf W w)).sum=(W.getD 0 0:Int)*24*(u:Int)^0+((W.getD 1 0:Int)*6*(u:Int)^1+((W.getD 2 0:Int)*2*(u:Int)^2+((W.getD 3 0:Int)*1*(u:Int)^3+((W.getD 4 0:Int)*1*(u:Int)^4+0)))):=by
  have:Gf W w=fun k=>(W.getD k 0:Int)*(Cm.getD k 0:Int)*(u:Int)^k:=funext fun k=>by unfold Gf;rw[hu,Nat.add_sub_cancel]
  rw[this];rfl
 have e2:(val w H:Int)=(H.getD 0 0:Int)+((u:Int)+1)*((H.getD 1 0:Int)+((u:Int)+1)*((H.getD 2 0:Int)+((u:Int)+1)*((H.getD 3 0:Int)+((u:Int)+1)*((H.getD 4 0:Int)+((u:Int)+1)*0)))):=by
  have h5:val w H=val w [H.getD 0 0,H.getD 1 0,H.getD 2 0,H.getD 3 0,H.getD 4 0]:=congrArg (val w) (JA h.len)
  rw[h5]
  simp only[g_,iJ,hu,Py,Tc,Int.natCast_one,Int.natCast_zero]
 rw[e1,e2]
 exact Ge (by have:=h.e0;lia) (by have:=h.e1;lia) (by have:=h.e2;lia) (by have:=h.e3;lia) (by have:=h.e4;lia)
theorem r7:∀{L:List Nat},(∀d∈L,d=0)→val w L=0
 |[],_=>rfl
 |d::L,h=>by
  rw[g_,h d (Nk ..),r7 fun d hd=>h d (MY _ hd)];rfl
theorem D8(h:yJ W H):val w H=val w (H.take (gY H+1)):=by
 have e:=gQ w (H.take (gY H+1)) (H.drop (gY H+1))
 rw[To,r7 h.zero,UZ,QT]at e
 exact e
noncomputable def JB(x:Option V):En:=⟨[.loc none,.loc x,.fB 4],13⟩
noncomputable def Cn:E:=a0 (eR (eR (eI (eR (sE av.qW)))))
theorem Co{G:List Nat}(h:G≠[]):xF .max [.lst (nats G)]=some (.int (Lj (zs G))):=by
 have e:intsOf (nats G)=some (zs G):=by rw[←Cg];exact lQ _
 cases G with
 |nil=>exact absurd rfl h
 |cons g G=>
  show(intsOf (nats (g::G))).bind _=_
  rw[e];rfl
theorem qW(hh:yJ W H)(h9:lk l 9=some (.lst (nats H)))(h27:lk l 27=some (.int (w:Int)))(h30:lk l 30=some (.int (val w H:Int)))(hw5:5≤w)(hw1:w<55):
  aX OO NN av.qW (bC l) (aH l σ)=some (.bU,bC l,aH l σ):=by
 have h32:32≤2^w:=M8 (by decide:32≤2^5) (NC (by decide) hw5)
 have hltH:∀d∈H,d<2^w:=fun d hd=>Nm (hh.lt d hd) h32
 have htl:gY H<H.length:=by rw[hh.len];exact hh.top
 have c1:=BZ (st:=aH l σ) (w:=w) (ds:=H.take (gY H+1)) (by lia) (fun d hd=>hltH d (O5 hd)) ⟨H.take (gY H),H.getD (gY H) 0,by
  rw[QL,Nj,M3 htl];rfl,hh.pos⟩ (by lia) (by rw[Pk,hh.len];lia)
 rw[←D8 hh]at c1
 have c2:=BY (st:=aH l σ) (w:=w) (ds:=H) hltH (by lia) (by rw[hh.len];decide)
 have hg:=oB (O:=OO) (st:=aH l σ) (en:=bC l) (n:=5) (t:=.bM 1 ⟨276,60,276,64⟩) (fr:=[4]) JB (fun i=>(if 0<H.getD i 0 then some i else none).map vI) (it:=zF Cn) (elt:=qm Cn) (ifs:=.cons (eI Cn) .nil) (rest:=.nil) (sc:=[.lc ".0",.lc "good",.fe "hits" 9]) (p:=⟨276,50,276,95⟩) (md:=.val)
  (aD (aa (by rfl)) (ae (by rfl) aj) (by exact eE (src_range (n:=5) (by decide)))) (by rfl) (by rfl) (by rfl) (fun x v=>by rfl)
  (fun i hi acc ha=>by
   have ht:a_ (ak OO (eI Cn) .test (JB (some (.int (i:Int)))) (aH l σ))=some (decide (0<H.getD i 0),aH l σ):=aW (x:=.int (H.getD i 0:Int)) (y:=.int 0) (e_idx (x:=.lst (nats H)) (y:=.int (i:Int)) (aa (by exact aK (by rfl) (show(aH l σ).κ[4]? =_ from congrArg some h9))) (aa (by rfl)) (by exact dZ (fy (by rw[hh.len];exact hi)))) (by rfl) (by
    show some (decide ((0:Int)<(H.getD i 0:Int)))=_
    congr 1
    exact decide_eq_decide.mpr (by lia))
   refine(turn_if (v:=.int (i:Int)) (elt:=qm Cn) ht (aa (by rfl)) (by rfl) ha).trans ?_
   congr 3
   by_cases h:0<H.getD i 0
   ·rw[if_pos h,decide_eq_true h];rfl
   ·rw[if_neg h,decide_eq_false h];rfl) (by decide) (fun i _ v e=>by
   obtain⟨n,_,rfl⟩:=QW.mp e;rfl)
 have hG:(Nn 0 5).filterMap (fun i=>(if 0<H.getD i 0 then some i else none).map vI)=nats (lX H):=by
  unfold lX nats
  rw[RK];rfl
 rw[hG]at hg
 have hm:=Co hh.MB
 rw[hh.mx]at hm
 have hsl:qx (.lst (nats H)) .none (.int (1+(gY H:Int))) .none=some (.lst (nats (H.take (gY H+1)))):=by
  rw[show(1:Int)+(gY H:Int)=((gY H+1:Nat):Int) by lia,EW (nats H) (b:=gY H+1) (by rw[iQ];lia)]
  unfold nats
  rw[Si]
 exact aI (qa (aW (x:=.lst (nats (H.take (gY H+1)))) (y:=.lst (nats (H.take (gY H+1)))) (aD (aa (by rfl)) (ae (aa (by exact h30)) (ae (aa (by exact aK (by rfl) (show(aH l σ).κ[10]? =_ from congrArg some h27))) aj)) (by exact bg c1 rfl))
   (nY (lo:=.bH) (aa (by exact aK (by rfl) (show(aH l σ).κ[4]? =_ from congrArg some h9))) (by rfl) (aq (by rfl) (aD (aa (by rfl)) (ae (by exact hg) aj) (by exact fg hm rfl)) (by rfl)) (by rfl) (by exact hsl)) (by exact mW _))
  (aW (x:=.int (val w H:Int)) (y:=.int (val w H:Int)) (aD (aa (by rfl)) (ae (aa (by exact aK (by rfl) (show(aH l σ).κ[4]? =_ from congrArg some h9))) (ae (aa (by exact aK (by rfl) (show(aH l σ).κ[10]? =_ from congrArg some h27))) aj)) (by exact bg c2 rfl)) (aa (by exact h30)) (by show some (!decide ((val w H:Int)=(val w H:Int)))=_;rw[decide_eq_true rfl];rfl))) bK
end
end Rk.L01
end

section
set_option exponentiation.threshold 100
namespace Rk.L01
open PySem Rk
noncomputable def fld(t:List Nat)(j:Nat):List Nat:=M2 j 40++t++M2 j 41
noncomputable def d7(t:List Nat):List (List Nat):=(Nn 0 5).map (fld t)++[M2 5 40++t++M2 4 41,M2 4 40++t++M2 5 41]
noncomputable def jB(W t:List Nat):List (List Nat):=((Nn 0 5).map fun j=>if 0<W.getD (4-j) 0 then fld t j else ez)++[ez,ez]
theorem vp(c:Nat):∀n,(M2 n [c]).flatten=M2 n c
 |0=>rfl
 |n+1=>by rw[Oq,Qc,vp c n];rfl
theorem yK{st:ao}{c n:Nat}(h:n≤100):d_ st .Mult (.str [c]) (.int (n:Int))=some (.str (M2 n c),st):=by
 show(if 0≤(n:Int)∧(n:Int).toNat≤lid∧[c].length*(n:Int).toNat≤lid then some (V.str (M2 (n:Int).toNat [c]).flatten,st)else none)=_
 rw[if_pos ⟨by lia,by unfold lid;lia,by unfold lid;simp;lia⟩,NQ,vp]
theorem Cp{a b:List Nat}(ha:∀c∈a,c<1114112)(hb:∀c∈b,c<1114112):∀c∈a++b,c<1114112:=fun c hc=>(MX.mp hc).elim (ha c) (hb c)
theorem Cq{c:Nat}(h:c<1114112)(n:Nat):∀x∈M2 n c,x<1114112:=fun x hx=>by rw[Qy hx];exact h
theorem vq{t:List Nat}(ht:∀c∈t,c<1114112)(hl:t.length≤64)(i j:Nat)(hi:i≤5)(hj:j≤5):(∀c∈M2 i 40++t++M2 j 41,c<1114112)∧(M2 i 40++t++M2 j 41).length≤100:=
 ⟨Cp (Cp (Cq (by decide) i) ht) (Cq (by decide) j),by simp only[Ng,P_];lia⟩
theorem Cr:∀c∈ez,c<1114112:=by decide
theorem D9{t:List Nat}(ht:∀c∈t,c<1114112)(hl:t.length≤64):∀f∈d7 t,(∀c∈f,c<1114112)∧f.length+10≤lid:=fun f hf=>by
 have key:∀i j,i≤5→j≤5→f=M2 i 40++t++M2 j 41→(∀c∈f,c<1114112)∧f.length+10≤lid:=fun i j hi hj e=>by
  obtain⟨h1,h2⟩:=vq ht hl i j hi hj
  rw[e]
  exact⟨h1,by unfold lid;lia⟩
 rcases MX.mp hf with hf|hf
 ·obtain⟨j,hj,rfl⟩:=NY.mp hf
  have:=(QX.mp hj).2
  exact key j j (by lia) (by lia) rfl
 ·simp only[M5,NI,or_false]at hf
  rcases hf with e|e
  ·exact key 5 4 (by decide) (by decide) e
  ·exact key 4 5 (by decide) (by decide) e
section
variable {l:gV} {σ:List (List V)} {W t:List Nat}
noncomputable def Ln(x:Option V):En:=⟨[.loc none,.loc x,.fB 2],13⟩
noncomputable def Kc:E:=a0 (sE av.qX)
theorem qX(ht:∀c∈t,c<1114112)(hl:t.length≤64)(h5:lk l 5=some (.str t)):Ad av.qX l 31 (.lst (aZ (d7 t))) σ:=by
 have g5:cC (bC l) (aH l σ) 5=some (.str t):=h5
 have hc:=gc (O:=OO) (st:=aH l σ) (en:=bC l) (n:=5) (t:=.bM 1 ⟨278,43,278,44⟩) (fr:=[2]) Ln (fun j=>.str (fld t j)) (it:=zF Kc) (elt:=qm Kc) (sc:=[.lc ".0",.lc "j",.fe "text" 5]) (p:=⟨278,13,278,57⟩) (md:=.val)
  (aD (aa (by rfl)) (ae (by rfl) aj) (by exact eE (src_range (n:=5) (by decide)))) (by rfl) (by rfl) (by rfl) (fun x v=>by rfl)
  (fun j hj=>aq (aq (aq (x:=.str [40]) (y:=.int (j:Int)) (by rfl) (aa (by rfl)) (by exact yK (by lia))) (aa (by exact aK (by rfl) (show(aH l σ).κ[2]? =_ from congrArg some h5))) (by exact cD (by simp only[P_];unfold lid;lia))) (aq (x:=.str [41]) (y:=.int (j:Int)) (by rfl) (aa (by rfl)) (by exact yK (by lia))) (by exact cD (by simp only[Ng,P_];unfold lid;lia)))
  (by decide) (fun j hj=>cz (vq ht hl j j (by lia) (by lia)).1)
 have e1:=aq (O:=OO) (md:=.val) (p:=⟨278,61,278,84⟩) (aq (O:=OO) (en:=bC l) (st:=aH l σ) (md:=.val) (p:=⟨278,61,278,75⟩) (a:=.cS [40,40,40,40,40] 0 ⟨278,61,278,68⟩) (by rfl) (aa (p:=⟨278,71,278,75⟩) g5) (by exact cD (by unfold lid;simp;lia))) (b:=.cS [41,41,41,41] 0 ⟨278,78,278,84⟩) (by rfl) (by exact cD (by unfold lid;simp;lia))
 have e2:=aq (O:=OO) (md:=.val) (p:=⟨278,86,278,109⟩) (aq (O:=OO) (en:=bC l) (st:=aH l σ) (md:=.val) (p:=⟨278,86,278,99⟩) (a:=.cS [40,40,40,40] 0 ⟨278,86,278,92⟩) (by rfl) (aa (p:=⟨278,95,278,99⟩) g5) (by exact cD (by unfold lid;simp;lia))) (b:=.cS [41,41,41,41,41] 0 ⟨278,102,278,109⟩) (by rfl) (by exact cD (by unfold lid;simp;lia))
 have hd:bA [V.str ([40,40,40,40,40]++t++[41,41,41,41]),.str ([40,40,40,40]++t++[41,41,41,41,41])]=true:=bG fun v hv=>by
  simp only[M5,NI,or_false]at hv
  rcases hv with rfl|rfl
  ·exact cz (vq ht hl 5 4 (by decide) (by decide)).1
  ·exact cz (vq ht hl 4 5 (by decide) (by decide)).1
 have ha:d_ (aH l σ) .Add (.lst ((Nn 0 5).map fun j=>.str (fld t j))) (.lst [.str ([40,40,40,40,40]++t++[41,41,41,41]),.str ([40,40,40,40]++t++[41,41,41,41,41])])=some (.lst (aZ (d7 t)),aH l σ):=by
  rw[ko (by unfold lid;simp)]
  unfold d7 aZ
  rw[Pz,Oa];rfl
 exact aR (aq (by exact hc) (aA (ae e1 (ae e2 aj)) (if_pos hd)) (by exact ha)) (by rfl)
theorem JC(L:List V):qx (.lst L) .none .none .none=some (.lst L):=by
 show some (V.lst (iV L none none))=_
 unfold iV
 simp
theorem t6{L:List V}(h31:lk l 31=some (.lst L)):aX OO NN av.t6 (bC l) (aH l σ)=some (.bU,bC ((33,some (.str ez))::(32,some (.lst L))::l),aH ((33,some (.str ez))::(32,some (.lst L))::l) σ):=
 s_ (vs:=[.lst L,.str ez]) (ae (nY (aa (by exact aK (by rfl) (show(aH l σ).κ[11]? =_ from congrArg some h31))) (by rfl) (by rfl) (by rfl) (by exact JC L)) (ae (by rfl) aj)) (by rfl)
noncomputable def JD(x:Option V):En:=⟨[.loc none,.loc x,.fB 11,.fB 12,.fB 3],13⟩
noncomputable def JE:E:=a0 (sE av.qY)
noncomputable abbrev MC(e:E):E:=a0 e
theorem Gg{j:Nat}(h:j<5):(d7 t)[j]? =some (fld t j):=by
 have:j=0∨j=1∨j=2∨j=3∨j=4:=by lia
 clear h
 rcases this with rfl|rfl|rfl|rfl|rfl<;>rfl
theorem qY(ht:∀c∈t,c<1114112)(hl:t.length≤64)(hW:W.length=5)(h8:lk l 8=some (.lst (nats W)))(h31:lk l 31=some (.lst (aZ (d7 t))))(h33:lk l 33=some (.str ez)):Ad av.qY l 34 (.lst (aZ (jB W t))) σ:=by
 have g33:cC (bC l) (aH l σ) 33=some (.str ez):=h33
 have hc:=gc (O:=OO) (st:=aH l σ) (en:=bC l) (n:=5) (t:=.bM 1 ⟨280,55,280,56⟩) (fr:=[11,12,3]) JD (fun j=>.str (if 0<W.getD (4-j) 0 then fld t j else ez)) (it:=zF JE) (elt:=qm JE) (sc:=[.lc ".0",.lc "j",.fe "fields" 31,.fe "none" 33,.fe "ways" 8]) (p:=⟨280,11,280,69⟩) (md:=.val)
  (aD (aa (by rfl)) (ae (by rfl) aj) (by exact eE (src_range (n:=5) (by decide)))) (by rfl) (by rfl) (by rfl) (fun x v=>by rfl)
  (fun j hj=>by
   have hq:a_ (ak OO (MC (qm JE)) .test (JD (some (.int (j:Int)))) (aH l σ))=some (decide (0<W.getD (4-j) 0),aH l σ):=aW (x:=.int (W.getD (4-j) 0:Int)) (y:=.int 0) (e_idx (x:=.lst (nats W)) (y:=.int ((4-j:Nat):Int)) (aa (by exact aK (by rfl) (show(aH l σ).κ[3]? =_ from congrArg some h8))) (aq (x:=.int 4) (y:=.int (j:Int)) (by rfl) (aa (by rfl)) (by show some (V.int (4-(j:Int)),_)=_;rw[show(4:Int)-(j:Int)=((4-j:Nat):Int) by omega])) (by exact dZ (fy (by omega)))) (by rfl) (by
    show some (decide ((0:Int)<(W.getD (4-j) 0:Int)))=_
    congr 1
    exact decide_eq_decide.mpr (by omega))
   by_cases h:0<W.getD (4-j) 0
   ·rw[decide_eq_true h]at hq
    rw[if_pos h]
    exact jl (by decide) hq (e_idx (x:=.lst (aZ (d7 t))) (y:=.int (j:Int)) (aa (by exact aK (by rfl) (show(aH l σ).κ[11]? =_ from congrArg some h31))) (aa (by rfl)) (by exact BX (Gg hj)))
   ·rw[decide_eq_false h]at hq
    rw[if_neg h]
    exact jm (by decide) hq (aa (by exact aK (by rfl) (show(aH l σ).κ[12]? =_ from congrArg some h33)))) (by decide) (fun j hj=>cz (by
   split
   ·exact(vq ht hl j j (by omega) (by omega)).1
   ·exact Cr))
 have ha:d_ (aH l σ) .Add (.lst ((Nn 0 5).map fun j=>.str (if 0<W.getD (4-j) 0 then fld t j else ez))) (.lst [.str ez,.str ez])=some (.lst (aZ (jB W t)),aH l σ):=by
  rw[ko (by unfold lid;simp)]
  unfold jB aZ
  rw[Pz,Oa];rfl
 exact aR (aq (by exact hc) (aA (ae (aa g33) (ae (aa g33) aj)) (if_pos (by rfl))) (by exact ha)) (by rfl)
noncomputable def r9(fs:List (List Nat))(j:Nat)(v:Option V)(kb:Nat):En:=⟨[.loc (some (.lst (aZ fs))),.loc (some (.ref j)),.loc v,.cY (.fn 12)],kb⟩
theorem r_{k j kb:Nat}{fs:List (List Nat)}:∀(rest:List (List Nat)) (acc:List (List Nat)) (v:Option V) (st:ao),(∀f∈rest,(∀c∈f,c<1114112)∧f.length+10≤lid)→st.σ[j]? =some (aZ acc)→acc.length+rest.length<lid→
  ∃v',fk Mw (fun en st=>aE ⟨aO av.P (k+2),av.P.gen⟩ av.P.N Mx en st) (aZ rest) (r9 fs j v kb) st=some (.bU,r9 fs j v' kb,{ st with σ:=st.σ.set j (aZ (acc++rest.map dY)) })
 |[],acc,v,st,_,hj,_=>by
  refine⟨v,Oj iM ?_⟩
  obtain⟨h1,h2⟩:=MW.mp hj
  simp only[PY,Nc]
  rw[←h2,Qa h1]
 |f::rest,acc,v,st,hok,hj,hl=>by
  obtain⟨o1,o2⟩:=hok f (Nk ..)
  have hjl:j<st.σ.length:=(MW.mp hj).1
  have hc:=pZ (k:=k) (st:=st) o1 o2
  have happ:eG st .append (.ref j) [.str (dY f)]=some (.none,{ st with σ:=st.σ.set j (aZ (acc++[dY f])) }):=by
   rw[fS hj (cz (yi o1)) (by rw[u0];simp at hl;lia)];simp[aZ]
  obtain⟨v',ih⟩:=r_ (k:=k) (j:=j) (kb:=kb) (fs:=fs) rest (acc++[dY f]) (some (.str (dY f))) { st with σ:=st.σ.set j (aZ (acc++[dY f])) } (fun g hg=>hok g (MY _ hg)) (by simp[Nv hjl]) (by simp at hl ⊢;lia)
  refine⟨v',bz (bV:=r9 fs j (some (.str f)) kb) (st1:=st) (en2:=r9 fs j (some (.str (dY f))) kb) (st2:={ st with σ:=st.σ.set j (aZ (acc++[dY f])) }) (by rfl) ?_ (Oj ih ?_)⟩
  ·refine ai (bV:=r9 fs j (some (.str (dY f))) kb) (st1:=st) ?_ (aG (eN (c9 (aa (by rfl)) (ae (aa (by rfl)) aj) (by exact happ))))
   cases hb:EJ f with
   |true=>
    have hk:dY f=f:=by unfold dY;rw[hb];rfl
    rw[hk]
    exact aI (EF (bb:=true) (lC (aD (aa (by rfl)) (ae (aa (by rfl)) aj) (by exact u4 hc (by decide))) (by rw[hb];rfl))) bK
   |false=>
    have hk:dY f=ez:=by unfold dY;rw[hb];rfl
    rw[hk]
    exact bu (EF (bb:=false) (lC (aD (aa (by rfl)) (ae (aa (by rfl)) aj) (by exact u4 hc (by decide))) (by rw[hb];rfl))) (aG (aR (by rfl) (by rfl)))
  ·simp[Ru]
theorem zY{k:Nat}{fs:List (List Nat)}{st:ao}(hok:∀f∈fs,(∀c∈f,c<1114112)∧f.length+10≤lid)(hn:fs.length<100):aO av.P (k+3) (.fn 13) [.lst (aZ fs)] none st=some (.lst (aZ (fs.map dY)),st):=by
 have hset:∀x:List V,(st.σ++[[]]).set st.σ.length x=st.σ++[x]:=fun x=>by rw[N7 _ _ (M9 _)];simp
 obtain⟨v',h1⟩:=r_ (k:=k) (j:=st.σ.length) (kb:=st.κ.length) (fs:=fs) fs [] none { st with σ:=st.σ++[[]] } hok (by simp[aZ]) (by unfold lid;simp;lia)
 simp only[Oz,hset]at h1
 refine Oj (call_top (vals:=[.lst (aZ fs)]) (fl:=.ret (.ref st.σ.length)) (st':={ st with σ:=st.σ++[aZ (fs.map dY)] }) (by rfl) (by rfl)
  (ai (bV:=r9 fs st.σ.length none st.κ.length) (aR (by rfl) (by rfl)) (ai (gP (v:=.lst (aZ fs)) (aa (by rfl)) (by intro i h;cases h) rfl (by exact h1)) (bS (dB (aa (by rfl)))))) (by rfl)) ?_
 simp only[eZ,bP]
 rw[if_neg (Q_ _)]
 simp
structure yL (W R:List Nat):Prop where
 L4:∀j,j<5→dP false 0 (M2 j 40++R++M2 j 41)=decide (0<W.getD (4-j) 0)
 Lo:dP false 0 (M2 5 40++R++M2 4 41)=false
 Lq:dP false 0 (M2 4 40++R++M2 5 41)=false
 tail:dP false 0 (R++[92])=decide (0<W.getD 4 0)
theorem vt{Bs:List Bl}{R:List Nat}(hB:Bs.map Bl.c=R)(ho:gS Bs)(h:yL W R):(d7 (aQ Bs)).map dY=jB W (aQ Bs):=by
 subst hB
 have n34:∀j,34∉M2 j 41:=fun j hj=>by have:=Qy hj;cases this
 have k1:∀j,j<5→dY (fld (aQ Bs) j)=if 0<W.getD (4-j) 0 then fld (aQ Bs) j else ez:=fun j hj=>by
  unfold dY
  have:=kR ho j (n34 j)
  rw[h.L4 j hj]at this
  rw[show EJ (fld (aQ Bs) j)=decide (0<W.getD (4-j) 0)from this]
  by_cases q:0<W.getD (4-j) 0
  ·rw[if_pos q,decide_eq_true q];rfl
  ·rw[if_neg q,decide_eq_false q];rfl
 have k2:dY (M2 5 40++aQ Bs++M2 4 41)=ez:=by unfold dY;rw[kR ho 5 (n34 4),h.Lo];rfl
 have k3:dY (M2 4 40++aQ Bs++M2 5 41)=ez:=by unfold dY;rw[kR ho 4 (n34 5),h.Lq];rfl
 unfold d7 jB
 rw[Pz,Oa,Nz,Nz,PY,k2,k3]
 congr 1
 exact Qt fun j hj=>k1 j (by have:=(QX.mp hj).2;omega)
theorem t7{Bs:List Bl}{R:List Nat}(hB:Bs.map Bl.c=R)(ho:gS Bs)(hl:(aQ Bs).length≤64)(h:yL W R)(h31:lk l 31=some (.lst (aZ (d7 (aQ Bs)))))(h32:lk l 32=some (.lst (aZ (d7 (aQ Bs)))))(h34:lk l 34=some (.lst (aZ (jB W (aQ Bs))))):
  aX OO NN av.t7 (bC l) (aH l σ)=some (.bU,bC l,aH l σ):=by
 have hok:=D9 (kT ho) hl
 have hc:=zY (k:=96) (st:=aH l σ) hok (by show(d7 (aQ Bs)).length<100;unfold d7;simp)
 rw[vt hB ho h]at hc
 have hk:∀f∈jB W (aQ Bs),∀c∈f,c<1114112:=fun f hf=>by
  rw[←vt hB ho h]at hf
  obtain⟨g,hg,rfl⟩:=NY.mp hf
  exact yi (hok g hg).1
 exact aI (qa (aW (x:=.lst (aZ (jB W (aQ Bs)))) (y:=.lst (aZ (jB W (aQ Bs)))) (aD (aa (by rfl)) (ae (aa (by exact aK (by rfl) (show(aH l σ).κ[11]? =_ from congrArg some h31))) aj) (by exact bg hc rfl)) (aa (by exact h34)) (by exact yj hk))
  (aW (x:=.lst (aZ (d7 (aQ Bs)))) (y:=.lst (aZ (d7 (aQ Bs)))) (aa (by exact aK (by rfl) (show(aH l σ).κ[11]? =_ from congrArg some h31))) (aa (by exact h32)) (by exact yj fun f hf=>(hok f hf).1))) bK
theorem t8{Bs:List Bl}{R w:List Nat}(hB:Bs.map Bl.c=R)(ho:gS Bs)(hl:(aQ Bs).length≤64)(hw:tQ w)(h:yL W R)(h5:lk l 5=some (.str (aQ Bs)))(h11:lk l 11=some (.str w)):Ad av.t8 l 35 (.bool (decide (0<W.getD 4 0))) σ:=by
 have hwl:=tM hw
 have hc:=pZ (k:=97) (st:=aH l σ) (l:=aQ Bs++w) (Cp (kT ho) (xr hw)) (by rw[Ng];unfold lid;lia)
 have hk:EJ (aQ Bs++w)=decide (0<W.getD 4 0):=by
  have e:=kR ho 0 (ET hw)
  rw[hB]at e
  refine e.trans ?_
  clear hB ho hl h5 h11 hwl hc e
  rcases hw with rfl|rfl
  ·exact h.L4 0 (by decide)
  ·exact h.tail
 rw[hk]at hc
 exact aR (aD (aa (by rfl)) (ae (aq (aa (by exact aK (by rfl) (show(aH l σ).κ[2]? =_ from congrArg some h5))) (aa (by exact h11)) (by exact cD (by unfold lid;lia))) aj) (by exact bg hc rfl)) (by rfl)
theorem t9(hW:W.length=5)(h8:lk l 8=some (.lst (nats W)))(h35:lk l 35=some (.bool (decide (0<W.getD 4 0)))):aX OO NN av.t9 (bC l) (aH l σ)=some (.ret (.bool true),bC l,aH l σ):=by
 have g8:cC (bC l) (aH l σ) 8=some (.lst (nats W)):=aK (by rfl) (show(aH l σ).κ[3]? =_ from congrArg some h8)
 have g35:cC (bC l) (aH l σ) 35=some (.bool (decide (0<W.getD 4 0))):=h35
 have e4:∀{p1 p2 p3:NW},ak OO (.idx (.var 8 p1) (.cI 4 0 p2) p3) .val (bC l) (aH l σ)=some (.int (W.getD 4 0:Int),aH l σ):=by
  intro p1 p2 p3
  exact e_idx (x:=.lst (nats W)) (y:=.int ((4:Nat):Int)) (aa g8) (by rfl) (by exact dZ (fy (by lia)))
 by_cases h:0<W.getD 4 0
 ·rw[decide_eq_true h]at g35
  refine dB (jy (x:=.lst [.bool true,.bool false]) (y:=.lst [.bool true,.bool false]) (aA (ae (jy (aa g35) (by rfl) (by rfl)) (ae (jy (aa g35) (by rfl) (by rfl)) aj)) (if_pos (by rfl))) (aA (ae (jy e4 (by rfl) (by show some (decide ((0:Int)<(W.getD 4 0:Int)))=some true;rw[decide_eq_true (by lia)])) (ae (jy e4 (by rfl) (by show some (decide ((W.getD 4 0:Int)=0))=some false;rw[decide_eq_false (by lia)])) aj)) (if_pos (by rfl))) (by rfl))
 ·rw[decide_eq_false h]at g35
  refine dB (jy (x:=.lst [.bool false,.bool true]) (y:=.lst [.bool false,.bool true]) (aA (ae (jy (aa g35) (by rfl) (by rfl)) (ae (jy (aa g35) (by rfl) (by rfl)) aj)) (if_pos (by rfl))) (aA (ae (jy e4 (by rfl) (by show some (decide ((0:Int)<(W.getD 4 0:Int)))=some false;rw[decide_eq_false (by lia)])) (ae (jy e4 (by rfl) (by show some (decide ((W.getD 4 0:Int)=0))=some true;rw[decide_eq_true (by lia)])) aj)) (if_pos (by rfl))) (by rfl))
end
end Rk.L01
end

section
set_option maxRecDepth 1000000
set_option maxHeartbeats 0
namespace Rk.L01
open PySem Rk
noncomputable def AllP(P:List Nat→Prop):List (List Nat)→Prop
 |[]=>True
 |R::l=>P R∧AllP P l
theorem AllP.mem{P:List Nat→Prop}:∀{l:List (List Nat)},AllP P l→ ∀R∈l,P R
 |_::_,h,R,hR=>by
  rcases M5.mp hR with rfl|hR
  ·exact h.1
  ·exact h.2.mem R hR
noncomputable def aT(R:List Nat):Prop:=∀l:gV,(aO av.P 99 (.fn 17) [.lst (sg R)] none (aH l []),aO av.P 99 (.fn 18) [.lst (sg R)] none (aH l []))=(some (.lst (nats (cR R)),aH l []),some (.lst (nats (cX R)),aH l []))
theorem JF:aT [40,40,40,40,41,41,41,41]:=fun l=>by kernel_rfl!
theorem JG:aT [40,40,40,41,40,41,41,41]:=fun l=>by kernel_rfl!
theorem JH:aT [40,40,40,41,41,40,41,41]:=fun l=>by kernel_rfl!
theorem JI:aT [40,40,40,41,41,41,40,41]:=fun l=>by kernel_rfl!
theorem JJ:aT [40,40,40,41,41,41,41,40]:=fun l=>by kernel_rfl!
theorem JK:aT [40,40,41,40,40,41,41,41]:=fun l=>by kernel_rfl!
theorem JL:aT [40,40,41,40,41,40,41,41]:=fun l=>by kernel_rfl!
theorem JM:aT [40,40,41,40,41,41,40,41]:=fun l=>by kernel_rfl!
theorem JN:aT [40,40,41,40,41,41,41,40]:=fun l=>by kernel_rfl!
theorem JO:aT [40,40,41,41,40,40,41,41]:=fun l=>by kernel_rfl!
theorem Gh:aT [40,40,41,41,40,41,40,41]:=fun l=>by kernel_rfl!
theorem Gi:aT [40,40,41,41,40,41,41,40]:=fun l=>by kernel_rfl!
theorem Gj:aT [40,40,41,41,41,40,40,41]:=fun l=>by kernel_rfl!
theorem Gk:aT [40,40,41,41,41,40,41,40]:=fun l=>by kernel_rfl!
theorem Gl:aT [40,40,41,41,41,41,40,40]:=fun l=>by kernel_rfl!
theorem Gm:aT [40,41,40,40,40,41,41,41]:=fun l=>by kernel_rfl!
theorem Gn:aT [40,41,40,40,41,40,41,41]:=fun l=>by kernel_rfl!
theorem Gp:aT [40,41,40,40,41,41,40,41]:=fun l=>by kernel_rfl!
theorem Gq:aT [40,41,40,40,41,41,41,40]:=fun l=>by kernel_rfl!
theorem Gr:aT [40,41,40,41,40,40,41,41]:=fun l=>by kernel_rfl!
theorem Gu:aT [40,41,40,41,40,41,40,41]:=fun l=>by kernel_rfl!
theorem Gv:aT [40,41,40,41,40,41,41,40]:=fun l=>by kernel_rfl!
theorem Gw:aT [40,41,40,41,41,40,40,41]:=fun l=>by kernel_rfl!
theorem Gx:aT [40,41,40,41,41,40,41,40]:=fun l=>by kernel_rfl!
theorem Gy:aT [40,41,40,41,41,41,40,40]:=fun l=>by kernel_rfl!
theorem Gz:aT [40,41,41,40,40,40,41,41]:=fun l=>by kernel_rfl!
theorem GA:aT [40,41,41,40,40,41,40,41]:=fun l=>by kernel_rfl!
theorem GB:aT [40,41,41,40,40,41,41,40]:=fun l=>by kernel_rfl!
theorem GC:aT [40,41,41,40,41,40,40,41]:=fun l=>by kernel_rfl!
theorem GD:aT [40,41,41,40,41,40,41,40]:=fun l=>by kernel_rfl!
theorem GF:aT [40,41,41,40,41,41,40,40]:=fun l=>by kernel_rfl!
theorem GG:aT [40,41,41,41,40,40,40,41]:=fun l=>by kernel_rfl!
theorem GH:aT [40,41,41,41,40,40,41,40]:=fun l=>by kernel_rfl!
theorem GI:aT [40,41,41,41,40,41,40,40]:=fun l=>by kernel_rfl!
theorem GJ:aT [40,41,41,41,41,40,40,40]:=fun l=>by kernel_rfl!
theorem GK:aT [41,40,40,40,40,41,41,41]:=fun l=>by kernel_rfl!
theorem GL:aT [41,40,40,40,41,40,41,41]:=fun l=>by kernel_rfl!
theorem GN:aT [41,40,40,40,41,41,40,41]:=fun l=>by kernel_rfl!
theorem GO:aT [41,40,40,40,41,41,41,40]:=fun l=>by kernel_rfl!
theorem GQ:aT [41,40,40,41,40,40,41,41]:=fun l=>by kernel_rfl!
theorem GS:aT [41,40,40,41,40,41,40,41]:=fun l=>by kernel_rfl!
theorem GU:aT [41,40,40,41,40,41,41,40]:=fun l=>by kernel_rfl!
theorem GV:aT [41,40,40,41,41,40,40,41]:=fun l=>by kernel_rfl!
theorem GW:aT [41,40,40,41,41,40,41,40]:=fun l=>by kernel_rfl!
theorem GX:aT [41,40,40,41,41,41,40,40]:=fun l=>by kernel_rfl!
theorem GZ:aT [41,40,41,40,40,40,41,41]:=fun l=>by kernel_rfl!
theorem G0:aT [41,40,41,40,40,41,40,41]:=fun l=>by kernel_rfl!
theorem G1:aT [41,40,41,40,40,41,41,40]:=fun l=>by kernel_rfl!
theorem G2:aT [41,40,41,40,41,40,40,41]:=fun l=>by kernel_rfl!
theorem G3:aT [41,40,41,40,41,40,41,40]:=fun l=>by kernel_rfl!
theorem G4:aT [41,40,41,40,41,41,40,40]:=fun l=>by kernel_rfl!
theorem G5:aT [41,40,41,41,40,40,40,41]:=fun l=>by kernel_rfl!
theorem G6:aT [41,40,41,41,40,40,41,40]:=fun l=>by kernel_rfl!
theorem G7:aT [41,40,41,41,40,41,40,40]:=fun l=>by kernel_rfl!
theorem G8:aT [41,40,41,41,41,40,40,40]:=fun l=>by kernel_rfl!
theorem G9:aT [41,41,40,40,40,40,41,41]:=fun l=>by kernel_rfl!
theorem G_:aT [41,41,40,40,40,41,40,41]:=fun l=>by kernel_rfl!
theorem Hf:aT [41,41,40,40,40,41,41,40]:=fun l=>by kernel_rfl!
theorem Hg:aT [41,41,40,40,41,40,40,41]:=fun l=>by kernel_rfl!
theorem Hh:aT [41,41,40,40,41,40,41,40]:=fun l=>by kernel_rfl!
theorem Hi:aT [41,41,40,40,41,41,40,40]:=fun l=>by kernel_rfl!
theorem Hj:aT [41,41,40,41,40,40,40,41]:=fun l=>by kernel_rfl!
theorem Hl:aT [41,41,40,41,40,40,41,40]:=fun l=>by kernel_rfl!
theorem Ho:aT [41,41,40,41,40,41,40,40]:=fun l=>by kernel_rfl!
theorem Hp:aT [41,41,40,41,41,40,40,40]:=fun l=>by kernel_rfl!
theorem Hq:aT [41,41,41,40,40,40,40,41]:=fun l=>by kernel_rfl!
theorem Hr:aT [41,41,41,40,40,40,41,40]:=fun l=>by kernel_rfl!
theorem Hs:aT [41,41,41,40,40,41,40,40]:=fun l=>by kernel_rfl!
theorem Ht:aT [41,41,41,40,41,40,40,40]:=fun l=>by kernel_rfl!
theorem Hu:aT [41,41,41,41,40,40,40,40]:=fun l=>by kernel_rfl!
theorem yM:∀R∈dD,aT R:=AllP.mem ⟨JF,JG,JH,JI,JJ,JK,JL,JM,JN,JO,Gh,Gi,Gj,Gk,Gl,Gm,Gn,Gp,Gq,Gr,Gu,Gv,Gw,Gx,Gy,Gz,GA,GB,GC,GD,GF,GG,GH,GI,GJ,GK,GL,GN,GO,GQ,GS,GU,GV,GW,GX,GZ,G0,G1,G2,G3,G4,G5,G6,G7,G8,G9,G_,Hf,Hg,Hh,Hi,Hj,Hl,Ho,Hp,Hq,Hr,Hs,Ht,Hu,trivial⟩
theorem D_{R:List Nat}(h:R∈dD)(l:gV):aO av.P 99 (.fn 17) [.lst (sg R)] none (aH l [])=some (.lst (nats (cR R)),aH l []):=congrArg UB (yM R h l)
theorem Ea{R:List Nat}(h:R∈dD)(l:gV):aO av.P 99 (.fn 18) [.lst (sg R)] none (aH l [])=some (.lst (nats (cX R)),aH l []):=congrArg Prod.snd (yM R h l)
end Rk.L01
end

section
set_option maxRecDepth 1000000
set_option maxHeartbeats 0
namespace Rk.CC
open PySem PySem.W PySem.Calls PyProof.Rows PySem.SeqAt Rk
noncomputable abbrev KK:Params→T_:=Rk.K1.K
noncomputable def adr(k:Nat):Na:=([21,28,35,42,49,56,65,74,83,92,99,106,113,120,127,134,141,146,151,0,0,0,0,0,156]:List Nat).getD k 0
noncomputable def bN:List Nat:=[0,1,2,3,4,5,6,7,8,9,10,11,12,13,14,15,16,17,18,24,25,26,27,28,29,30,31,32,33,34,35,36,37,38,39,40]
noncomputable def qO:Tb:=⟨34,30,0,⟨32,4,41,28⟩,"_int2digits.<locals>.inner"⟩
noncomputable def qP:Tb:=⟨41,37,1,⟨47,4,52,55⟩,"_digits2int.<locals>.inner"⟩
noncomputable def cx(w:Tr)(h:NX)(os:Vs)(mg mb:NT→Option MU):Cx:={ prog:=PySem.Challenge.pw_rs0200_01,w:=w,h₁:=h,os:=os,P:=av.P,addr:=adr,tabs:=[qO,qP],mg:=mg,mb:=mb,bN:=bN }
section
variable {w:Tr} {h:NX} {os:Vs} {mg mb:NT→Option MU}
theorem se(KX:(KK w.params).In h):EC (cx w h os mg mb) (KK w.params):=⟨KX,fun a ha=>by
 have ha:a∈[qO.P,qP.P]:=ha
 simp only[M5,NI,or_false]at ha
 rcases ha with rfl|rfl
 ·show(KK w.params).lookup 30=none;kernel_rfl!
 ·show(KK w.params).lookup 37=none;kernel_rfl!⟩
noncomputable def MD(C:Cx)(k:Nat):Prop:=∃c,(C.mg (dc k)=some c∨(C.mg (dc k)=none∧C.mb (dc k)=some c))∧ ∀W h',VR C W h' (cH k) c
theorem bk{P:Nat→Prop}{a:Nat}{l:List Nat}(h:P a)(t:∀x∈l,P x):∀x∈a::l,P x:=Oc.mpr ⟨h,t⟩
theorem cY(KX:(KK w.params).In h)(hg:h.Ns mainGlobals mg)(hmb:∀x:NT,x≠"__name__"→mb x=bootBuiltins x):∀k∈bN,∃c,((cx w h os mg mb).mg (dc k)=some c∨((cx w h os mg mb).mg (dc k)=none∧(cx w h os mg mb).mb (dc k)=some c))∧ ∀W h',VR (cx w h os mg mb) W h' (cH k) c:=by
 have KX':(KK w.params).In (cx w h os mg mb).h₁:=KX
 have hg':(cx w h os mg mb).h₁.Ns mainGlobals (cx w h os mg mb).mg:=hg
 have hmb':∀x:NT,x≠"__name__"→(cx w h os mg mb).mb x=bootBuiltins x:=hmb
 show∀k∈bN,MD (cx w h os mg mb) k
 unfold bN
 refine bk (fb (k:=0) (g:=0) (a:=21) KX' hg' (by kernel_rfl!) rfl rfl) ?_
 refine bk (fb (k:=1) (g:=1) (a:=28) KX' hg' (by kernel_rfl!) rfl rfl) ?_
 refine bk (fb (k:=2) (g:=2) (a:=35) KX' hg' (by kernel_rfl!) rfl rfl) ?_
 refine bk (fb (k:=3) (g:=3) (a:=42) KX' hg' (by kernel_rfl!) rfl rfl) ?_
 refine bk (fb (k:=4) (g:=4) (a:=49) KX' hg' (by kernel_rfl!) rfl rfl) ?_
 refine bk (fb (k:=5) (g:=5) (a:=56) KX' hg' (by kernel_rfl!) rfl rfl) ?_
 refine bk (fb (k:=6) (g:=6) (a:=65) KX' hg' (by kernel_rfl!) rfl rfl) ?_
 refine bk (fb (k:=7) (g:=7) (a:=74) KX' hg' (by kernel_rfl!) rfl rfl) ?_
 refine bk (fb (k:=8) (g:=8) (a:=83) KX' hg' (by kernel_rfl!) rfl rfl) ?_
 refine bk (fb (k:=9) (g:=9) (a:=92) KX' hg' (by kernel_rfl!) rfl rfl) ?_
 refine bk (fb (k:=10) (g:=10) (a:=99) KX' hg' (by kernel_rfl!) rfl rfl) ?_
 refine bk (fb (k:=11) (g:=11) (a:=106) KX' hg' (by kernel_rfl!) rfl rfl) ?_
 refine bk (fb (k:=12) (g:=12) (a:=113) KX' hg' (by kernel_rfl!) rfl rfl) ?_
 refine bk (fb (k:=13) (g:=13) (a:=120) KX' hg' (by kernel_rfl!) rfl rfl) ?_
 refine bk (fb (k:=14) (g:=14) (a:=127) KX' hg' (by kernel_rfl!) rfl rfl) ?_
 refine bk (fb (k:=15) (g:=15) (a:=134) KX' hg' (by kernel_rfl!) rfl rfl) ?_
 refine bk (fb (k:=16) (g:=16) (a:=141) KX' hg' (by kernel_rfl!) rfl rfl) ?_
 refine bk (fb (k:=17) (g:=17) (a:=146) KX' hg' (by kernel_rfl!) rfl rfl) ?_
 refine bk (fb (k:=18) (g:=18) (a:=151) KX' hg' (by kernel_rfl!) rfl rfl) ?_
 refine bk (fb (k:=24) (g:=24) (a:=156) KX' hg' (by kernel_rfl!) rfl rfl) ?_
 refine bk (gK (k:=25) (b:=.len) KX' hg' hmb' (by kernel_rfl!) (by kernel_rfl!) (by decide) rfl) ?_
 refine bk (gK (k:=26) (b:=.sum) KX' hg' hmb' (by kernel_rfl!) (by kernel_rfl!) (by decide) rfl) ?_
 refine bk (gK (k:=27) (b:=.min) KX' hg' hmb' (by kernel_rfl!) (by kernel_rfl!) (by decide) rfl) ?_
 refine bk (gK (k:=28) (b:=.max) KX' hg' hmb' (by kernel_rfl!) (by kernel_rfl!) (by decide) rfl) ?_
 refine bk (gK (k:=29) (b:=.abs) KX' hg' hmb' (by kernel_rfl!) (by kernel_rfl!) (by decide) rfl) ?_
 refine bk (gK (k:=30) (b:=.divmod) KX' hg' hmb' (by kernel_rfl!) (by kernel_rfl!) (by decide) rfl) ?_
 refine bk (gK (k:=31) (b:=.sorted) KX' hg' hmb' (by kernel_rfl!) (by kernel_rfl!) (by decide) rfl) ?_
 refine bk (gK (k:=32) (b:=.list) KX' hg' hmb' (by kernel_rfl!) (by kernel_rfl!) (by decide) rfl) ?_
 refine bk (gK (k:=33) (b:=.range) KX' hg' hmb' (by kernel_rfl!) (by kernel_rfl!) (by decide) rfl) ?_
 refine bk (gK (k:=34) (b:=.enumerate) KX' hg' hmb' (by kernel_rfl!) (by kernel_rfl!) (by decide) rfl) ?_
 refine bk (gK (k:=35) (b:=.zip) KX' hg' hmb' (by kernel_rfl!) (by kernel_rfl!) (by decide) rfl) ?_
 refine bk (gK (k:=36) (b:=.reversed) KX' hg' hmb' (by kernel_rfl!) (by kernel_rfl!) (by decide) rfl) ?_
 refine bk (gK (k:=37) (b:=.str) KX' hg' hmb' (by kernel_rfl!) (by kernel_rfl!) (by decide) rfl) ?_
 refine bk (gK (k:=38) (b:=.HK) KX' hg' hmb' (by kernel_rfl!) (by kernel_rfl!) (by decide) rfl) ?_
 refine bk (gK (k:=39) (b:=.ve) KX' hg' hmb' (by kernel_rfl!) (by kernel_rfl!) (by decide) rfl) ?_
 refine bk (gl_int (k:=40) (i:=4000) (t:=189) KX' hg' (by kernel_rfl!) rfl) ?_
 exact fun _ h=>nomatch h
theorem Lr(KX:(KK w.params).In h)(hg:h.Ns mainGlobals mg)(hb:h.Ns builtinsNs mb)(hl:h.NoLimit)(hmb:∀x:NT,x≠"__name__"→mb x=bootBuiltins x):bF (cx w h os mg mb) where
 mg:=hg
 mb:=hb
 cY:=cY KX hg hmb
 limit:=hl
 nt:=by refine⟨?_,?_,?_⟩<;>(show _∉[qO.P,qP.P];decide)
theorem ME(KX:(KK w.params).In h):dJ (cx w h os mg mb) 0:=by
 refine cF (K:=KK w.params) (se KX) (df:=(fun _ _ _=>false)) (((fnAt (KK w.params) (adr 0)).map (fun fd=>fd.scope.more)).getD []) (by kernel_rfl!) (by kernel_rfl!) (by kernel_rfl!) (fun ok n oo=>bx ok oo (by kernel_rfl!)) rfl (fun fd hfn=>br hfn rfl rfl (pO (by intros;kernel_rfl!)) (by kernel_rfl!)) ?_
 exact fun fd hfn O L cells=>bq
theorem MF(KX:(KK w.params).In h):dJ (cx w h os mg mb) 1:=by
 refine cF (K:=KK w.params) (se KX) (df:=(fun _ _ _=>false)) (((fnAt (KK w.params) (adr 1)).map (fun fd=>fd.scope.more)).getD []) (by kernel_rfl!) (by kernel_rfl!) (by kernel_rfl!) (fun ok n oo=>bx ok oo (by kernel_rfl!)) rfl (fun fd hfn=>br hfn rfl rfl (FH (by intros;kernel_rfl!)) (by kernel_rfl!)) ?_
 exact fun fd hfn O L cells=>bq
theorem MG(KX:(KK w.params).In h)(hg:h.Ns mainGlobals mg)(ok:bF (cx w h os mg mb))(hbm:∃bm ob,mg "__builtins__"=some (.ref bm)∧bm≠builtinsNs∧h.get? bm=some ob∧ob.cls= .type "module"∧ob.dict=some builtinsNs∧ob.data= .plain):dJ (cx w h os mg mb) 2:=by
 refine cF (K:=KK w.params) (se KX) (df:=(fun id i p=>decide (id=qO.id)&&decide (i=3)&&decide (p=qO.pos))) (((fnAt (KK w.params) (adr 2)).map (fun fd=>fd.scope.more)).getD []) (by kernel_rfl!) (by kernel_rfl!) (by kernel_rfl!) (fun ok n oo=>bx ok oo (by kernel_rfl!)) rfl (fun fd hfn=>br hfn rfl rfl (j2 (by intros;kernel_rfl!)) (by kernel_rfl!)) ?_
 intro fd hfn O L cells
 have hq:(fnAt (KK w.params) 35).map (fun fd=>(fd.code,fd.qualname))=some (Rx qO.c,("_int2digits":NT)):=by kernel_rfl!
 have hbe:mg "__builtins__"=some (.ref 4):=mg_of KX hg (by kernel_rfl!)
 obtain⟨bm,ob,e1,e2,e3,e4⟩:=hbm
 rw[hbe]at e1;cases e1
 rw[show fnAt (KK w.params) 35=some fd from hfn]at hq
 simp only[Pd,NP,Sh]at hq
 obtain⟨q1,q2⟩:=hq
 rw[q1,q2]
 refine pP (T:=qO) (sc:=av.J3) ok (by show qO∈[qO,qP];simp) ?_ (BF (sc:=av.J3) (by kernel_rfl!)) rfl (TS KX (by kernel_rfl!)) (by show _∉[qO.P,qP.P];decide) ⟨4,ob,hbe,e2,by decide,by decide,e3,e4⟩ (fun bm hb=>?_) ?_ ?_ rfl rfl (fun _=>rfl) (by first|rfl|kernel_rfl!) (by kernel_rfl!) ?_
 ·intro T' hT' e
  have hT':T'∈[qO,qP]:=hT'
  simp only[M5,NI,or_false]at hT'
  rcases hT' with rfl|rfl<;>first|rfl|(exact absurd e (by decide))
 ·have hb:mg "__builtins__"=some (.ref bm):=hb
  rw[hbe]at hb;cases hb
  show _∉[qO.P,qP.P];decide
 ·show(("_int2digits":NT)++(".<locals>.":NT))++("inner":NT)=("_int2digits.<locals>.inner":NT);decide
 ·intro id i p hdf
  simp only[Nu,decide_eq_true_eq]at hdf
  obtain⟨⟨rfl,rfl⟩,rfl⟩:=hdf
  exact⟨rfl,rfl,rfl⟩
 ·show¬(Sc.scope av.J3).names.lookup ("inner":NT)=some .globalExplicit;decide
theorem MH(KX:(KK w.params).In h)(hg:h.Ns mainGlobals mg)(ok:bF (cx w h os mg mb))(hbm:∃bm ob,mg "__builtins__"=some (.ref bm)∧bm≠builtinsNs∧h.get? bm=some ob∧ob.cls= .type "module"∧ob.dict=some builtinsNs∧ob.data= .plain):dJ (cx w h os mg mb) 3:=by
 refine cF (K:=KK w.params) (se KX) (df:=(fun id i p=>decide (id=qP.id)&&decide (i=2)&&decide (p=qP.pos))) (((fnAt (KK w.params) (adr 3)).map (fun fd=>fd.scope.more)).getD []) (by kernel_rfl!) (by kernel_rfl!) (by kernel_rfl!) (fun ok n oo=>bx ok oo (by kernel_rfl!)) rfl (fun fd hfn=>br hfn rfl rfl (j2 (by intros;kernel_rfl!)) (by kernel_rfl!)) ?_
 intro fd hfn O L cells
 have hq:(fnAt (KK w.params) 42).map (fun fd=>(fd.code,fd.qualname))=some (Rx qP.c,("_digits2int":NT)):=by kernel_rfl!
 have hbe:mg "__builtins__"=some (.ref 4):=mg_of KX hg (by kernel_rfl!)
 obtain⟨bm,ob,e1,e2,e3,e4⟩:=hbm
 rw[hbe]at e1;cases e1
 rw[show fnAt (KK w.params) 42=some fd from hfn]at hq
 simp only[Pd,NP,Sh]at hq
 obtain⟨q1,q2⟩:=hq
 rw[q1,q2]
 refine pP (T:=qP) (sc:=av.J4) ok (by show qP∈[qO,qP];simp) ?_ (BF (sc:=av.J4) (by kernel_rfl!)) rfl (TS KX (by kernel_rfl!)) (by show _∉[qO.P,qP.P];decide) ⟨4,ob,hbe,e2,by decide,by decide,e3,e4⟩ (fun bm hb=>?_) ?_ ?_ rfl rfl (fun _=>rfl) (by first|rfl|kernel_rfl!) (by kernel_rfl!) ?_
 ·intro T' hT' e
  have hT':T'∈[qO,qP]:=hT'
  simp only[M5,NI,or_false]at hT'
  rcases hT' with rfl|rfl<;>first|rfl|(exact absurd e (by decide))
 ·have hb:mg "__builtins__"=some (.ref bm):=hb
  rw[hbe]at hb;cases hb
  show _∉[qO.P,qP.P];decide
 ·show(("_digits2int":NT)++(".<locals>.":NT))++("inner":NT)=("_digits2int.<locals>.inner":NT);decide
 ·intro id i p hdf
  simp only[Nu,decide_eq_true_eq]at hdf
  obtain⟨⟨rfl,rfl⟩,rfl⟩:=hdf
  exact⟨rfl,rfl,rfl⟩
 ·show¬(Sc.scope av.J4).names.lookup ("inner":NT)=some .globalExplicit;decide
theorem MI(KX:(KK w.params).In h):dJ (cx w h os mg mb) 4:=by
 refine cF (K:=KK w.params) (se KX) (df:=(fun _ _ _=>false)) (((fnAt (KK w.params) (adr 4)).map (fun fd=>fd.scope.more)).getD []) (by kernel_rfl!) (by kernel_rfl!) (by kernel_rfl!) (fun ok n oo=>bx ok oo (by kernel_rfl!)) rfl (fun fd hfn=>br hfn rfl rfl (j2 (by intros;kernel_rfl!)) (by kernel_rfl!)) ?_
 exact fun fd hfn O L cells=>bq
theorem MJ(KX:(KK w.params).In h):dJ (cx w h os mg mb) 5:=by
 refine cF (K:=KK w.params) (se KX) (df:=(fun _ _ _=>false)) (((fnAt (KK w.params) (adr 5)).map (fun fd=>fd.scope.more)).getD []) (by kernel_rfl!) (by kernel_rfl!) (by kernel_rfl!) (fun ok n oo=>bx ok oo (by kernel_rfl!)) rfl (fun fd hfn=>br hfn rfl rfl (j2 (by intros;kernel_rfl!)) (by kernel_rfl!)) ?_
 exact fun fd hfn O L cells=>bq
theorem MK(KX:(KK w.params).In h):dJ (cx w h os mg mb) 6:=by
 refine cF (K:=KK w.params) (se KX) (df:=(fun _ _ _=>false)) (((fnAt (KK w.params) (adr 6)).map (fun fd=>fd.scope.more)).getD []) (by kernel_rfl!) (by kernel_rfl!) (by kernel_rfl!) (fun ok n oo=>bx ok oo (by kernel_rfl!)) rfl (fun fd hfn=>jk (t:=271) hfn rfl rfl rfl (by kernel_rfl!) (by intros;kernel_rfl!) (by intros;kernel_rfl!) (by intros;kernel_rfl!) (by intros;kernel_rfl!) (by intros;kernel_rfl!) (by intros;kernel_rfl!)) ?_
 exact fun fd hfn O L cells=>bq
theorem ML(KX:(KK w.params).In h):dJ (cx w h os mg mb) 7:=by
 refine cF (K:=KK w.params) (se KX) (df:=(fun _ _ _=>false)) (((fnAt (KK w.params) (adr 7)).map (fun fd=>fd.scope.more)).getD []) (by kernel_rfl!) (by kernel_rfl!) (by kernel_rfl!) (fun ok n oo=>bx ok oo (by kernel_rfl!)) rfl (fun fd hfn=>jk (t:=284) hfn rfl rfl rfl (by kernel_rfl!) (by intros;kernel_rfl!) (by intros;kernel_rfl!) (by intros;kernel_rfl!) (by intros;kernel_rfl!) (by intros;kernel_rfl!) (by intros;kernel_rfl!)) ?_
 exact fun fd hfn O L cells=>bq
theorem MM(KX:(KK w.params).In h):dJ (cx w h os mg mb) 8:=by
 refine cF (K:=KK w.params) (se KX) (df:=(fun _ _ _=>false)) (((fnAt (KK w.params) (adr 8)).map (fun fd=>fd.scope.more)).getD []) (by kernel_rfl!) (by kernel_rfl!) (by kernel_rfl!) (fun ok n oo=>bx ok oo (by kernel_rfl!)) rfl (fun fd hfn=>jk (t:=298) hfn rfl rfl rfl (by kernel_rfl!) (by intros;kernel_rfl!) (by intros;kernel_rfl!) (by intros;kernel_rfl!) (by intros;kernel_rfl!) (by intros;kernel_rfl!) (by intros;kernel_rfl!)) ?_
 exact fun fd hfn O L cells=>bq
theorem MN(KX:(KK w.params).In h):dJ (cx w h os mg mb) 9:=by
 refine cF (K:=KK w.params) (se KX) (df:=(fun _ _ _=>false)) (((fnAt (KK w.params) (adr 9)).map (fun fd=>fd.scope.more)).getD []) (by kernel_rfl!) (by kernel_rfl!) (by kernel_rfl!) (fun ok n oo=>bx ok oo (by kernel_rfl!)) rfl (fun fd hfn=>jk (t:=311) hfn rfl rfl rfl (by kernel_rfl!) (by intros;kernel_rfl!) (by intros;kernel_rfl!) (by intros;kernel_rfl!) (by intros;kernel_rfl!) (by intros;kernel_rfl!) (by intros;kernel_rfl!)) ?_
 exact fun fd hfn O L cells=>bq
theorem Ls(KX:(KK w.params).In h):dJ (cx w h os mg mb) 11:=by
 refine cF (K:=KK w.params) (se KX) (df:=(fun _ _ _=>false)) (((fnAt (KK w.params) (adr 11)).map (fun fd=>fd.scope.more)).getD []) (by kernel_rfl!) (by kernel_rfl!) (by kernel_rfl!) (fun ok n oo=>bx ok oo (by kernel_rfl!)) rfl (fun fd hfn=>br hfn rfl rfl (ji (by intros;kernel_rfl!)) (by kernel_rfl!)) ?_
 exact fun fd hfn O L cells=>bq
theorem Lu(KX:(KK w.params).In h):dJ (cx w h os mg mb) 12:=by
 refine cF (K:=KK w.params) (se KX) (df:=(fun _ _ _=>false)) (((fnAt (KK w.params) (adr 12)).map (fun fd=>fd.scope.more)).getD []) (by kernel_rfl!) (by kernel_rfl!) (by kernel_rfl!) (fun ok n oo=>bx ok oo (by kernel_rfl!)) rfl (fun fd hfn=>br hfn rfl rfl (ji (by intros;kernel_rfl!)) (by kernel_rfl!)) ?_
 exact fun fd hfn O L cells=>bq
theorem Lv(KX:(KK w.params).In h):dJ (cx w h os mg mb) 13:=by
 refine cF (K:=KK w.params) (se KX) (df:=(fun _ _ _=>false)) (((fnAt (KK w.params) (adr 13)).map (fun fd=>fd.scope.more)).getD []) (by kernel_rfl!) (by kernel_rfl!) (by kernel_rfl!) (fun ok n oo=>bx ok oo (by kernel_rfl!)) rfl (fun fd hfn=>br hfn rfl rfl (ji (by intros;kernel_rfl!)) (by kernel_rfl!)) ?_
 exact fun fd hfn O L cells=>bq
theorem Lw(KX:(KK w.params).In h):dJ (cx w h os mg mb) 14:=by
 refine cF (K:=KK w.params) (se KX) (df:=(fun _ _ _=>false)) (((fnAt (KK w.params) (adr 14)).map (fun fd=>fd.scope.more)).getD []) (by kernel_rfl!) (by kernel_rfl!) (by kernel_rfl!) (fun ok n oo=>bx ok oo (by kernel_rfl!)) rfl (fun fd hfn=>br hfn rfl rfl (ji (by intros;kernel_rfl!)) (by kernel_rfl!)) ?_
 exact fun fd hfn O L cells=>bq
theorem Lx(KX:(KK w.params).In h):dJ (cx w h os mg mb) 15:=by
 refine cF (K:=KK w.params) (se KX) (df:=(fun _ _ _=>false)) (((fnAt (KK w.params) (adr 15)).map (fun fd=>fd.scope.more)).getD []) (by kernel_rfl!) (by kernel_rfl!) (by kernel_rfl!) (fun ok n oo=>nA ok oo) rfl (fun fd hfn=>br hfn rfl rfl (ji (by intros;kernel_rfl!)) (by kernel_rfl!)) ?_
 exact fun fd hfn O L cells=>bq
theorem Ly(KX:(KK w.params).In h):dJ (cx w h os mg mb) 16:=by
 refine cF (K:=KK w.params) (se KX) (df:=(fun _ _ _=>false)) (((fnAt (KK w.params) (adr 16)).map (fun fd=>fd.scope.more)).getD []) (by kernel_rfl!) (by kernel_rfl!) (by kernel_rfl!) (fun ok n oo=>bx ok oo (by kernel_rfl!)) rfl (fun fd hfn=>br hfn rfl rfl (j2 (by intros;kernel_rfl!)) (by kernel_rfl!)) ?_
 exact fun fd hfn O L cells=>bq
theorem Lz(KX:(KK w.params).In h):dJ (cx w h os mg mb) 17:=by
 refine cF (K:=KK w.params) (se KX) (df:=(fun _ _ _=>false)) (((fnAt (KK w.params) (adr 17)).map (fun fd=>fd.scope.more)).getD []) (by kernel_rfl!) (by kernel_rfl!) (by kernel_rfl!) (fun ok n oo=>bx ok oo (by kernel_rfl!)) rfl (fun fd hfn=>br hfn rfl rfl (ji (by intros;kernel_rfl!)) (by kernel_rfl!)) ?_
 exact fun fd hfn O L cells=>bq
theorem LA(KX:(KK w.params).In h):dJ (cx w h os mg mb) 18:=by
 refine cF (K:=KK w.params) (se KX) (df:=(fun _ _ _=>false)) (((fnAt (KK w.params) (adr 18)).map (fun fd=>fd.scope.more)).getD []) (by kernel_rfl!) (by kernel_rfl!) (by kernel_rfl!) (fun ok n oo=>bx ok oo (by kernel_rfl!)) rfl (fun fd hfn=>br hfn rfl rfl (ji (by intros;kernel_rfl!)) (by kernel_rfl!)) ?_
 exact fun fd hfn O L cells=>bq
theorem LC(KX:(KK w.params).In h):dJ (cx w h os mg mb) 24:=by
 refine cF (K:=KK w.params) (se KX) (df:=(fun _ _ _=>false)) (((fnAt (KK w.params) (adr 24)).map (fun fd=>fd.scope.more)).getD []) (by kernel_rfl!) (by kernel_rfl!) (by kernel_rfl!) (fun ok n oo=>bx ok oo (by kernel_rfl!)) rfl (fun fd hfn=>br hfn rfl rfl (ji (by intros;kernel_rfl!)) (by kernel_rfl!)) ?_
 exact fun fd hfn O L cells=>bq
theorem nf(i:Nat):IC (cx w h os mg mb) i:=by
 match i with
 |0=>
  refine⟨by kernel_rfl!,by kernel_rfl!,by kernel_rfl!,fun j hj=>ou (np:=3) (by kernel_rfl!) hj,fun fd cs s h1 h2 h3 hl=>?_⟩
  refine Ul ?_
  revert hl;revert cs
  refine pO ?_
  obtain⟨f1,f2,f3,f4,f5,f6,f7,f8,f9⟩:=fd
  simp only at h1 h2 h3
  subst h1;subst h2;subst h3
  intros;rfl
 |n+1=>
  refine⟨by kernel_rfl!,by kernel_rfl!,by kernel_rfl!,fun j hj=>ou (np:=2) (by kernel_rfl!) hj,fun fd cs s h1 h2 h3 hl=>?_⟩
  refine Ul ?_
  revert hl;revert cs
  refine j2 ?_
  obtain⟨f1,f2,f3,f4,f5,f6,f7,f8,f9⟩:=fd
  simp only at h1 h2 h3
  subst h1;subst h2;subst h3
  intros;rfl
theorem gen(KX:(KK w.params).In h)(ok:bF (cx w h os mg mb)):Bv (cx w h os mg mb):=by
 refine BB (g:=10) (q:=av.gq) ok (BG (K:=KK w.params) (se KX) (by kernel_rfl!) (by kernel_rfl!) (by kernel_rfl!) (fun c=>by kernel_rfl!)) fun f args its e=>?_
 obtain⟨g,e1,e⟩:=af e
 obtain⟨x,e2,e⟩:=af e
 obtain⟨l,e3,e⟩:=af e
 obtain⟨hg,e⟩:=dX e
 rw[z7 e1,dM e2,eT e3,hg]
 exact⟨l,rfl,rfl,e.symm⟩
theorem fns(KX:(KK w.params).In h)(hg:h.Ns mainGlobals mg)(ok:bF (cx w h os mg mb))(hbm:∃bm ob,mg "__builtins__"=some (.ref bm)∧bm≠builtinsNs∧h.get? bm=some ob∧ob.cls= .type "module"∧ob.dict=some builtinsNs∧ob.data= .plain):∀g,(cx w h os mg mb).P.jv g=false→dJ (cx w h os mg mb) g:=by
 have G:∀g∈([0,1,2,3,4,5,6,7,8,9,11,12,13,14,15,16,17,18,24]:List Nat),dJ (cx w h os mg mb) g:=by
  refine bk (ME KX) ?_
  refine bk (MF KX) ?_
  refine bk (MG KX hg ok hbm) ?_
  refine bk (MH KX hg ok hbm) ?_
  refine bk (MI KX) ?_
  refine bk (MJ KX) ?_
  refine bk (MK KX) ?_
  refine bk (ML KX) ?_
  refine bk (MM KX) ?_
  refine bk (MN KX) ?_
  refine bk (Ls KX) ?_
  refine bk (Lu KX) ?_
  refine bk (Lv KX) ?_
  refine bk (Lw KX) ?_
  refine bk (Lx KX) ?_
  refine bk (Ly KX) ?_
  refine bk (Lz KX) ?_
  refine bk (LA KX) ?_
  refine bk (LC KX) ?_
  exact fun _ h=>nomatch h
 intro g hgn
 obtain⟨x,hx,e⟩:=U7.mp (Eq.mp (Bool.not_eq_false' _) (show(!([0,1,2,3,4,5,6,7,8,9,11,12,13,14,15,16,17,18,24].any (· == g)))=false from hgn))
 exact eq_of_beq e▸G x hx
end
end Rk.CC
end

section
set_option maxRecDepth 1000000
set_option maxHeartbeats 0
namespace Rk
open PySem PySem.W PySem.Calls PyProof.Rows PySem.SeqAt
theorem eu.mono{C:Cx}{n:Nat}{l:List OZ}{X:String}{Pa Pb:List MU→List (List V)→Prop}{sc:Sc}{body:List Td}{en:En}{st:ao}(h:∀a σ,Pa a σ→Pb a σ)(x:eu C n l X Pa sc body en st):eu C n l X Pb sc body en st:=
 fun B Xa hr hf F hX k=>x B Xa hr hf F hX fun e T t W3 st3 s3 W1 args s5 S T0 hp=>k e T t W3 st3 s3 W1 args s5 S T0 (h _ _ hp)
theorem At.uJ{C:Cx}{sc:Sc}{env:OZ}{en:En}{W:Wt}{st:ao}{s:MT}(B:dF C sc env)(X:At C sc env en W st s)(hf:env.frame=some env.locals):cj s.heap [env]∧ ∀b∈locs [env],b∈W.X:=by
 refine⟨fun x hx=>?_,fun b hb=>?_⟩
 ·refine bc fun hN0=>?_
  have hx:=M4.mp hx
  subst hx
  obtain⟨m,⟨o,es,ep,ho,hd,_⟩,_⟩:=X.fr.ns
  refine hN0 ?_
  exact⟨by rw[B.kind];decide,hf,o,es,ep,ho,hd⟩
 ·have hb:b=env.locals:=M4.mp hb
  rw[hb];exact X.fr.loc
end Rk
namespace Rk.CC
open PySem PySem.W PySem.Calls PyProof.Rows PySem.SeqAt Rk Rk.L01
section
variable {w:Tr} {h:NX} {os:Vs} {mg mb:NT→Option MU} {n:Nat} {l:List OZ} {σ:List (List V)} {κ:List (Option V)} {a x hi:V} {lo:Int}
noncomputable abbrev msg:NT:="lo must be non-negative"
noncomputable def Pm(args:List MU):Prop:=∃tk,args=[.str msg tk]
theorem LD(ok:bF (cx w h os mg mb))(oo:bD (cx w h os mg mb) (jK av.P n) n)(hlo:lo<0):
  eu (cx w h os mg mb) n l "ValueError" (fun args σ'=>Pm args∧σ'=σ) av.H8 (dH av.N av.Cy av.H8) ⟨(aV av.H8 ([a,x,.int lo,hi,.fn 14].map some) [] κ).1,κ.length⟩ { κ:=(aV av.H8 ([a,x,.int lo,hi,.fn 14].map some) [] κ).2,σ:=σ }:=by
 refine eu.mono ?_ (pU (st1:={ κ:=κ,σ:=σ }) (X:="ValueError") (msg:=msg) (bi:=.ve) (i:=6) ok oo rfl RM Rw (by rfl) ?_ (by rfl))
 ·intro a s h;exact h
 ·show some (decide (lo<0),_)=_
  rw[decide_eq_true hlo];rfl
theorem LF(ok:bF (cx w h os mg mb))(oo:bD (cx w h os mg mb) (jK av.P n) n)(hlo:lo<0):
  eu (cx w h os mg mb) n l "ValueError" (fun args σ'=>Pm args∧σ'=σ) av.H6 (dH av.N av.Cw av.H6) ⟨(aV av.H6 ([a,x,.int lo,hi,.fn 14].map some) [] κ).1,κ.length⟩ { κ:=(aV av.H6 ([a,x,.int lo,hi,.fn 14].map some) [] κ).2,σ:=σ }:=by
 refine eu.mono ?_ (pU (st1:={ κ:=κ,σ:=σ }) (X:="ValueError") (msg:=msg) (bi:=.ve) (i:=6) ok oo rfl RM Rw (by rfl) ?_ (by rfl))
 ·intro a s h;exact h
 ·show some (decide (lo<0),_)=_
  rw[decide_eq_true hlo];rfl
theorem qt{u v:V}{st:ao}(hu:oK u=true)(hf:freeze st.σ.length st u=u):aO av.P (n+1) (.fn 14) [.tup [u,v]] none st=some (u,st):=by
 have:=call_top (P:=av.P) (n:=n) (g:=14) (args:=[.tup [u,v]]) (vals:=[.tup [u,v]]) (key:=none) (st:=st) (st':=st) (fl:=.ret u) (en':=⟨(aV av.H9 [some (.tup [u,v])] [] st.κ).1,st.κ.length⟩) rfl rfl rfl hu
 rw[this]
 rw[eZ,hf,Of]
theorem LG(ok:bF (cx w h os mg mb))(F9:dJ (cx w h os mg mb) 9)(o0:bD (cx w h os mg mb) (jK av.P n) n)(oo:bD (cx w h os mg mb) (jK av.P (n+1)) (n+1))(hlo:lo<0){i j:Int}:
  eu (cx w h os mg mb) (n+1) l "ValueError" (fun args σ'=>Pm args∧σ'.take σ.length=σ) av.H7 (dH av.N av.LN av.H7) ⟨(aV av.H7 ([a,.tup [.int i,.int j],.int lo,hi,.fn 14].map some) [] κ).1,κ.length⟩ { κ:=(aV av.H7 ([a,.tup [.int i,.int j],.int lo,hi,.fn 14].map some) [] κ).2,σ:=σ }:=by
 refine pV (st1:={ κ:=κ,σ:=σ }) (st2:={ κ:=κ,σ:=σ }) (st3:={ κ:=κ,σ:=σ }) (g:=9) (kv:=.fn 14) (args:=[a,.int i,.int lo,hi]) (vals:=[a,.int i,.int lo,hi,.fn 14]) ok oo F9 (by rfl) (by rfl) rfl (by rfl) (by rfl) rfl (by rfl) ?_ (by rfl) (by rfl) ?_
 ·refine ae (by rfl) (ae (aD (v:=.fn 14) (by rfl) (ae (by rfl) aj) (bg (by exact qt (n:=n) (u:=.int i) (v:=.int j) rfl rfl) rfl)) (ae (by rfl) (ae (by rfl) aj)))
 ·intro env
  exact eu.mono (fun a s h=>⟨h.1,by rw[h.2,Of,Of]⟩) (LD (σ:=σ) (κ:=κ) ok o0 hlo)
theorem LH(ok:bF (cx w h os mg mb))(F7:dJ (cx w h os mg mb) 7)(o0:bD (cx w h os mg mb) (jK av.P n) n)(oo:bD (cx w h os mg mb) (jK av.P (n+1)) (n+1))(hlo:lo<0){i j:Int}:
  eu (cx w h os mg mb) (n+1) l "ValueError" (fun args σ'=>Pm args∧σ'.take σ.length=σ) av.HZ (dH av.N av.LM av.HZ) ⟨(aV av.HZ ([a,.tup [.int i,.int j],.int lo,hi,.fn 14].map some) [] κ).1,κ.length⟩ { κ:=(aV av.HZ ([a,.tup [.int i,.int j],.int lo,hi,.fn 14].map some) [] κ).2,σ:=σ }:=by
 refine pV (st1:={ κ:=κ,σ:=σ }) (st2:={ κ:=κ,σ:=σ }) (st3:={ κ:=κ,σ:=σ }) (g:=7) (kv:=.fn 14) (args:=[a,.int i,.int lo,hi]) (vals:=[a,.int i,.int lo,hi,.fn 14]) ok oo F7 (by rfl) (by rfl) rfl (by rfl) (by rfl) rfl (by rfl) ?_ (by rfl) (by rfl) ?_
 ·refine ae (by rfl) (ae (aD (v:=.fn 14) (by rfl) (ae (by rfl) aj) (bg (by exact qt (n:=n) (u:=.int i) (v:=.int j) rfl rfl) rfl)) (ae (by rfl) (ae (by rfl) aj)))
 ·intro env
  exact eu.mono (fun a s h=>⟨h.1,by rw[h.2,Of,Of]⟩) (LF (σ:=σ) (κ:=κ) ok o0 hlo)
theorem JP:Catch "ValueError":=⟨by kernel_rfl!,by kernel_rfl!,by kernel_rfl!⟩
theorem LI:Catch "ZeroDivisionError":=⟨by kernel_rfl!,by kernel_rfl!,by kernel_rfl!⟩
variable {W:Wt} {s:MT} {A:NF} {Ex:MU→MT→Prop} {env:OZ} {lA:gV} {Q:P9→MT→Prop}
theorem JQ(ok:bF (cx w h os mg mb))(F8:dJ (cx w h os mg mb) 8)(F9:dJ (cx w h os mg mb) 9)(oo:∀n,bD (cx w h os mg mb) (jK av.P n) n)(B:dF (cx w h os mg mb) av.iC env)(Xa:At (cx w h os mg mb) av.iC env (bC lA) W (aH lA σ) s)(hr:bL 99 A)(hfr:A.frames=some [env])(hef:env.frame=some env.locals)
  {jr ja:Nat} {al:List V} {k:Int} (h18:lk lA 18=some (.ref jr)) (h16:lk lA 16=some (.ref ja)) (hal:σ[ja]? =some al) (h3:al[3]? =some (.int k)) (hk:0≤k) (h24:lk lA 24=none)
  (hQ:lj (cx w h os mg mb) av.iC env (bC lA) (bC lA) W (aH lA σ) s (Q .next)):wpAny (model (cx w h os mg mb).prog (cx w h os mg mb).w) A (exec (toS av.N av.Av av.iC) env) Q Ex s:=by
 refine s9 (X:="ValueError") (msg:=msg) (Pa:=Pm) (st1:=aH lA σ) (cE:=av.E8) (bi:=.ve) (iT:=50) (ie:=24) (iS:=51) (nme:="error") ok (rH RT) B Xa hr hfr JP rfl rfl rfl rfl ?_ rfl (fun hX=>?_) hQ
 ·show some (SV.loc (lk lA 24))=_
  rw[h24]
 ·obtain⟨hF,hFX⟩:=Xa.uJ B hef
  refine gM (n:=98) (g:=8) (kv:=.fn 14) (args:=[.ref jr,.tup [.int 0,.int 4],.int (-1-k)]) (vals:=[.ref jr,.tup [.int 0,.int 4],.int (-1-k),.none,.fn 14]) (st1:=aH lA σ) (st2:=aH lA σ) ok (oo 99) F8 (by rfl) (by rfl) (by rfl) B Xa hr (by rfl) (by rfl) ?_ (by rfl) (by rfl) hfr hF hFX ?_ hX
  ·refine ae (aa (by exact h18)) (ae (by rfl) (ae (aq (x:=.int (-1)) (by rfl) (e_idx (v:=.int k) (aa (by exact h16)) (by rfl) ?_) (by rfl)) aj))
   show lZ (aJ (aH lA σ) (.ref ja)) (.int 3)=_
   rw[cP,show(aH lA σ).σ[ja]? =some al from hal]
   exact h3
  ·exact eu.mono (fun a s h=>⟨h.1,h.2⟩) (LG (n:=97) (σ:=σ) ok F9 (oo 97) (oo 98) (by omega))
theorem JR(ok:bF (cx w h os mg mb))(F6:dJ (cx w h os mg mb) 6)(F7:dJ (cx w h os mg mb) 7)(oo:∀n,bD (cx w h os mg mb) (jK av.P n) n)(B:dF (cx w h os mg mb) av.iC env)(Xa:At (cx w h os mg mb) av.iC env (bC lA) W (aH lA σ) s)(hr:bL 99 A)(hfr:A.frames=some [env])(hef:env.frame=some env.locals)
  {jc:Nat} (h17:lk lA 17=some (.ref jc)) (h24:lk lA 24=none)
  (hQ:lj (cx w h os mg mb) av.iC env (bC lA) (bC lA) W (aH lA σ) s (Q .next)):wpAny (model (cx w h os mg mb).prog (cx w h os mg mb).w) A (exec (toS av.N av.Aw av.iC) env) Q Ex s:=by
 refine s9 (X:="ValueError") (msg:=msg) (Pa:=Pm) (st1:=aH lA σ) (cE:=av.E9) (bi:=.ve) (iT:=50) (ie:=24) (iS:=51) (nme:="error") ok (rH RT) B Xa hr hfr JP rfl rfl rfl rfl ?_ rfl (fun hX=>?_) hQ
 ·show some (SV.loc (lk lA 24))=_
  rw[h24]
 ·obtain⟨hF,hFX⟩:=Xa.uJ B hef
  refine gM (n:=98) (g:=6) (kv:=.fn 14) (args:=[.ref jc,.tup [.int 0,.int 4],.int (-1),.int 4]) (vals:=[.ref jc,.tup [.int 0,.int 4],.int (-1),.int 4,.fn 14]) (st1:=aH lA σ) (st2:=aH lA σ) ok (oo 99) F6 (by rfl) (by rfl) (by rfl) B Xa hr (by rfl) (by rfl) ?_ (by rfl) (by rfl) hfr hF hFX ?_ hX
  ·exact ae (aa (by exact h17)) (ae (by rfl) (ae (by rfl) (ae (by rfl) aj)))
  ·exact eu.mono (fun a s h=>⟨h.1,h.2⟩) (LH (n:=97) (σ:=σ) ok F7 (oo 97) (oo 98) (by decide))
theorem MO(ok:bF (cx w h os mg mb))(oo:bD (cx w h os mg mb) (jK av.P n) n):
  eu (cx w h os mg mb) n l "ZeroDivisionError" (fun args σ'=>args=[]∧σ'.take σ.length=σ) av.HY (dH av.N av.LL av.HY) ⟨(aV av.HY ([x,.int 0].map some) [] κ).1,κ.length⟩ { κ:=(aV av.HY ([x,.int 0].map some) [] κ).2,σ:=σ }:=
 eu.mono (fun a s h=>⟨h.1,by rw[h.2,Of]⟩) (wV (st1:={ κ:=κ,σ:=σ }) (X:="ZeroDivisionError") (bi:=.HK) (i:=4) ok oo rfl PySem.F.excCall_ZeroDivisionError PyProof.Rows.excClass_ZeroDivisionError (by kernel_rfl!) (by rfl) (by rfl) (by rfl))
theorem JS(ok:bF (cx w h os mg mb))(F5:dJ (cx w h os mg mb) 5)(oo:∀n,bD (cx w h os mg mb) (jK av.P n) n)(B:dF (cx w h os mg mb) av.iC env)(Xa:At (cx w h os mg mb) av.iC env (bC lA) W (aH lA σ) s)(hr:bL 99 A)(hfr:A.frames=some [env])(hef:env.frame=some env.locals)
  {sd:V} (h26:lk lA 26=some sd) (h24:lk lA 24=none)
  (hQ:lj (cx w h os mg mb) av.iC env (bC lA) (bC lA) W (aH lA σ) s (Q .next)):wpAny (model (cx w h os mg mb).prog (cx w h os mg mb).w) A (exec (toS av.N av.Ax av.iC) env) Q Ex s:=by
 refine s9 (X:="ZeroDivisionError") (msg:=VW) (Pa:=fun args=>args=[]) (st1:=aH lA σ) (cE:=av.E_) (bi:=.HK) (iT:=55) (ie:=24) (iS:=51) (nme:="error") ok (wX PySem.F.excStr_ZeroDivisionError) B Xa hr hfr LI rfl rfl rfl rfl ?_ rfl (fun hX=>?_) hQ
 ·show some (SV.loc (lk lA 24))=_
  rw[h24]
 ·obtain⟨hF,hFX⟩:=Xa.uJ B hef
  refine wU (n:=98) (g:=5) (args:=[sd,.int 0]) (vals:=[sd,.int 0]) (st1:=aH lA σ) ok (oo 99) F5 (by rfl) (by rfl) B Xa hr (by rfl) ?_ (by rfl) hfr hF hFX ?_ hX
  ·exact ae (aa (by exact h26)) (ae (by rfl) aj)
  ·exact MO ok (oo 98)
end
end Rk.CC
end

section
set_option maxRecDepth 1000000
set_option maxHeartbeats 0
namespace Rk.CC
open PySem PySem.W PySem.Calls PyProof.Rows PySem.SeqAt Rk Rk.L01
theorem vv{C:Cx}{W:Wt}{P:Params}{h:NX}:∀{vs:List MU} {l:List Int},WellAll P h vs (l.map .int)→aY C W h (l.map V.int) vs
 |[],[],_=>rfl
 |v::vs,i::l,x=>by
  cases x with
  |cons x1 x2=>
   cases x1 with
   |int i t=>exact⟨_,_,rfl,⟨t,rfl⟩,vv x2⟩
 |[],_::_,x=>by cases x
 |_::_,[],x=>by cases x
theorem pre_of{args:List WData}(h:Challenge.rw_rs0200_01.row.claim.pre args=true):∃l:List Int,args=[.list (l.map .int)]∧l.length≤63:=by
 have h':(WShape.hasAll [] args [.list .int]&&Challenge.rw_rs0200_01.pre.holds [] { args:=args })=true:=h
 obtain⟨p1,p2⟩:=Rf.mp h'
 clear h h'
 cases args with
 |nil=>exact nomatch p1
 |cons x r=>
  cases r with
  |cons y r=>exact absurd (band p1).2 Ov
  |nil=>
   obtain⟨xs,rfl,hx⟩:=hasW_list (band p1).1
   obtain⟨ns,rfl⟩:=items_int hx
   have e:=condW_of p2 (w_and (w_not (w_lt w_lit (w_len_list (w_arg rfl)))) w_lit)
   rw[Nq]at e
   exact⟨ns,rfl,Nat.le_of_not_lt fun q=>by rw[decide_eq_true (Qq.mpr q)]at e;cases e⟩
theorem Eb(args ds:List WData):Challenge.rw_rs0200_01.row.claim.post args (.bool true) ds=true:=by
 show(Wa [] (WData.bool true) .bool&&(WTm.eq .res (.lit (.bool true))).holds [] { args:=args,res:=some (.bool true),after:=ds })=true
 have h1:Wa [] (WData.bool true) .bool=true:=by decide
 rw[h1,holdsW_of_value (w_eq_bool (w_res rfl) w_lit)];rfl
noncomputable def Cs:Ss:=Ss.ofList [av.yR,av.vG,av.vH,av.yS,av.yT,av.yU,av.vJ,av.yV,av.vK,av.qA,av.oM,av.oN,av.qU,av.l7,av.oO]
noncomputable def Ct:Ss:=Ss.ofList [av.nH,av.tX,av.l8,av.tY,av.qV,av.tZ]
noncomputable def Ec:Ss:=Ss.ofList [av.oQ,av.qW,av.qX,av.t6,av.qY,av.t7,av.t8,av.t9]
theorem Cu:av.Fb=Cs.app (.cons av.Av (.cons av.Aw (Ct.app (.cons av.Ax Ec)))):=rfl
inductive Hv (scr:List Int):Prop
 |mk (lA lB:gV) (σA σB:List (List V)) (jr jc ja:Nat) (al:List V) (k:Int) (sd:V) (en':En) (st':ao)
  (hA:aE OO NN Cs (bC [(0,some (.lst (scr.map .int)))]) (aH [(0,some (.lst (scr.map .int)))] [])=some (.bU,bC lA,aH lA σA))
  (h18:lk lA 18=some (.ref jr)) (h17:lk lA 17=some (.ref jc)) (h16:lk lA 16=some (.ref ja)) (hal:σA[ja]? =some al) (h3:al[3]? =some (.int k)) (hk:0≤k) (h24:lk lA 24=none)
  (hB:aE OO NN Ct (bC lA) (aH lA σA)=some (.bU,bC lB,aH lB σB)) (h26:lk lB 26=some sd) (h24B:lk lB 24=none)
  (hC:aE OO NN Ec (bC lB) (aH lB σB)=some (.ret (.bool true),en',st'))
section
variable {w:Tr} {h:NX} {os:Vs} {mg mb:NT→Option MU} {A:NF} {Ex:MU→MT→Prop}
theorem MP:n9 bN (fun _ _ _=>false) Cs av.iC=true:=by kernel_rfl!
theorem MQ:n9 bN (fun _ _ _=>false) Ct av.iC=true:=by kernel_rfl!
theorem MR:n9 bN (fun _ _ _=>false) Ec av.iC=true:=by kernel_rfl!
theorem Cv(ok:bF (cx w h os mg mb))(fns:∀g,(cx w h os mg mb).P.jv g=false→dJ (cx w h os mg mb) g)(oo:∀n,bD (cx w h os mg mb) (jK av.P n) n){scr:List Int}(hrun:Hv scr){s:MT}{W:Wt}{c:MU}{Q:MU→MT→Prop}
  (hr:bL 100 A) (hfr0:A.frames=some []) (R:au (cx w h os mg mb) W ⟨[],[]⟩ s) (hv:VR (cx w h os mg mb) W s.heap (.lst (scr.map .int)) c) (hQ:Post (cx w h os mg mb) W.ay W s ⟨[],[]⟩ (.bool true) Q):wpAny (model (cx w h os mg mb).prog (cx w h os mg mb).w) A (N5 (.ref 156) [c] []) Q Ex s:=by
 refine bc fun hN0=>?_
 obtain⟨lA,lB,σA,σB,jr,jc,ja,al,k,sd,en',st',hA,h18,h17,h16,hal,h3,hk,h24,hB,h26,h24B,hC⟩:=hrun
 have F:=fns 24 rfl
 obtain⟨o,fd,df,mo,ho,hd,hbody,hsc,hcl,hgl,hbu,⟨cc,oc,vs,t,hcd,hct,hoc,hdc,hq⟩,nO,wb,hfr,hbind,hdef⟩:=F.ex
 obtain⟨⟨cvals,hcv,hbt⟩,hpar⟩:=hbind [.lst (scr.map .int)] none [.lst (scr.map .int)] [c] [] W ⟨[],[]⟩ s rfl R ⟨c,[],rfl,hv,rfl⟩ rfl
 refine hN0 ?_
 refine enter (n:=99) ok R hr (R.r.keep _ _ ho F.nt) hd hbody hsc (by rw[hcl,gy _ _ hfr]) ⟨by rw[hfr];rfl,o6⟩ hgl hbu ⟨cc,oc,vs,t,hcd,R.r.keep _ _ hoc hct,hdc,hq⟩ nO hbt hcv hpar fun L cells env W2 s2 henv E=>?_
 refine bc fun hN1=>?_
 obtain⟨rfl,hL,hef,B,S2,X2⟩:=E
 refine hN1 ?_
 have hrd:=hr.deeper (env:=env)
 have hfd:(A.deeper env).frames=some [env]:=TJ hfr0
 have D:iH (cx w h os mg mb) OO av.iC env (fun _ _ _=>false):=pG
 show wpAny _ _ (execs (dH av.N av.Fb av.iC) env) _ _ _
 rw[Cu]
 refine nB ok (oo 99) B D hrd Cs MP X2 hA fun s3 W3 S3 X3 k3=>?_
 refine N1 (JQ ok (fns 8 rfl) (fns 9 rfl) oo B X3 hrd hfd hef h18 h16 hal h3 hk h24 fun s4 W4 S4 X4 k4=>?_)
 refine N1 (JR ok (fns 6 rfl) (fns 7 rfl) oo B X4 hrd hfd hef h17 h24 fun s5 W5 S5 X5 k5=>?_)
 refine nB ok (oo 99) B D hrd Ct MQ X5 hB fun s6 W6 S6 X6 k6=>?_
 refine N1 (JS ok (fns 5 rfl) oo B X6 hrd hfd hef h26 h24B fun s7 W7 S7 X7 k7=>?_)
 refine bx ok (oo 99) MR B D X7 hrd hC fun f s8 W8 S8 X8 k8 r8=>?_
 refine bc fun hN2=>?_
 obtain⟨c8,rfl,r8⟩:=r8
 refine hN2 ?_
 have S28:=(((((S2.bl S3).bl S4).bl S5).bl S6).bl S7).bl S8
 exact rq R S28 hL X8.r rfl r8 (st3:=st') (w:=.bool true) hQ
end
theorem holds_of(plain:∀l:List Int,l.length≤63→Hv l):Challenge.rw_rs0200_01.Holds:=Rk.K1.hd (by
 intro d kwd hdn w s₀ s₁ mg mb G Y fa o pm cd doc dV kV ho hd hcd hD hmg hg args vals as hpre hlay hrd hwl hlo
 have KX:=km_in_of Y
 have hT8:=km_tabs_of Y
 refine Ground.open G ?_
 intro T B D TE TW
 obtain⟨l,rfl,hl⟩:=pre_of hpre
 have hrun:=plain l hl
 have ok:=Lr (w:=w) (os:=s₁.os) KX T.g T.b T.nolimit T.builtins
 have fns':=fns KX T.g ok T.bmain
 have X:=Ey ok fns' nf (gen KX ok)
 have R0:au (cx w s₁.heap s₁.os mg mb) ⟨[],[],[]⟩ ⟨[],[]⟩ s₁:=zI rfl rfl hg fun T hT=>by
  have hT:T∈[qO,qP]:=hT
  simp only[M5,NI,or_false]at hT
  rcases hT with rfl|rfl<;>exact hT8 _ (by decide)
 have hfa:fa=156:=by
  have h1:mg ("law":NT)=some (.ref 156):=mg_of KX T.g (by kernel_rfl!)
  have h2:mg ("law":NT)=some (.ref fa):=by rw[hdn]at hmg;exact hmg
  rw[h1]at h2;cases h2;rfl
 subst hfa
 cases hwl with
 |cons hw1 hw2=>
  cases hw2
  cases hw1 with
  | @list a vs xs hget hall=>
   have hv:VR (cx w s₁.heap s₁.os mg mb) ⟨[],[],[]⟩ s₁.heap (.lst (l.map V.int)) (.ref a):=by
    have hvs:=vv (C:=cx w s₁.heap s₁.os mg mb) (W:=⟨[],[],[]⟩) hall
    refine⟨a,vs.toArray,rfl,⟨by simp[Wt.all],fun hm=>?_⟩,⟨_,hget⟩,by simpa using hvs,by rw[Nq];unfold lid;lia⟩
    have hm:a∈[qO.P,qP.P]:=hm
    have:∃T,T∈[30,37]∧a=T:=by
     simp only[M5,NI,or_false]at hm
     rcases hm with rfl|rfl<;>exact⟨_,by decide,rfl⟩
    obtain⟨T,hT,rfl⟩:=this
    rw[hT8 _ (by first|exact hT|simpa using hT)]at hget
    cases hget
   refine Cv ok fns' X hrun ⟨by decide,by decide,rfl⟩ rfl R0 hv fun c s' W' S R r=>?_
   have hc:c= .bool true:=r
   subst hc
   refine⟨.inl ⟨_,.bool true,[],rfl,fun _=>rfl,.bool true,Eb _ _,fun _=>⟨OQ,by simp⟩⟩,⟨fun b o e=>?_,fun b o e=>S.mZ b o e⟩,R.os,R.bare⟩
   have tab:∀T,T∈[qO,qP]→VC s₁.heap T.c T.P→b=T.P→asItWas s₁.heap s'.heap b o:=fun T hT hK hb=>by
    subst hb
    obtain⟨ps,ps',e1,e2⟩:=R.r.grown T hT
    have e1:s₁.heap.get? T.P=some (tabObj ps):=e1
    rw[e]at e1;cases e1
    obtain⟨oc,vs,file,tf,flags,tg,inF,text,tt,x1,x2,x3,x4,_⟩:=hK
    exact .inr (.inl ⟨⟨_,oc,vs,x1,x2,x3,x4⟩,rfl,_,ps',rfl,e2⟩)
   by_cases hb:b∈[qO.P,qP.P]
   ·simp only[M5,NI,or_false]at hb
    rcases hb with hb|hb
    ·exact tab qO (by simp) (TS KX (by kernel_rfl!)) hb
    ·exact tab qP (by simp) (TS KX (by kernel_rfl!)) hb
   ·exact .inl (S.keep b o e (by simp) hb))
end Rk.CC
end

section
set_option maxRecDepth 1000000
set_option exponentiation.threshold 100
namespace Rk.L01
open PySem Rk
structure JT (R:List Nat):Prop where
 Ed:(gX R).length=4
 JU:(lD R).length=4
 ah:iw (lD R)=gX R
 lf:ql (lD R) (fun i=>(i:Int)) 0 (lD R).length=0::gX R
 near:∀q∈mX,xy (lD R) (gX R) q
 cols:kB ((Nn 0 4).map (qC (gX R))) (kA (gX R))
 rows:kB ((Nn 0 4).map (qS (lD R))) (gu ((Nn 0 4).map (qS (lD R))))
 neg:(gu ((Nn 0 4).map (qS (lD R)))).map D0=c_ (lD R)
theorem Ef{W:List Nat}{m:Nat}(h:W.all (· ≤m)=true)(i:Nat):W.getD i 0≤m:=by
 rw[Nj]
 cases hx:W[i]? with
 |none=>exact NG _
 |some x=>
  have:=NB.mp h x (Nh hx)
  exact of_decide_eq_true this
theorem E0{R:List Nat}(h:R∈dD):JT R:=by
 have a:=NB.mp tA R h
 have b:=NB.mp tB R h
 have c:=NB.mp tC R h
 have d:=NB.mp tD R h
 simp only[Ju,Nu,beq_iff_eq]at a
 simp only[Jv,Nu,beq_iff_eq]at c
 simp only[Jw,Nu,beq_iff_eq]at d
 obtain⟨⟨⟨a1,a2⟩,a3⟩,a4⟩:=a
 exact⟨a1,a2,a3,by rw[a2];exact a4,fun q hq=>xy.of (NB.mp b q hq),kB.of c.1 c.2,kB.of d.1 rfl,d.2⟩
structure JV (R:List Nat):Prop where
 rl:(c_ (lD R)).length=4
 wl:(cR R).length=5
 w0:wy R 0=1
 L5:∀i,(cR R).getD i 0≤96
 e1:rt R 0+rt R 1+rt R 2+rt R 3=(wy R 1:Int)-6
 e2:rt R 0*rt R 1+rt R 0*rt R 2+rt R 0*rt R 3+rt R 1*rt R 2+rt R 1*rt R 3+rt R 2*rt R 3=(wy R 2:Int)-3*wy R 1+11
 e3:rt R 0*rt R 1*rt R 2+rt R 0*rt R 1*rt R 3+rt R 0*rt R 2*rt R 3+rt R 1*rt R 2*rt R 3=(wy R 3:Int)-wy R 2+2*wy R 1-6
 e4:rt R 0*rt R 1*rt R 2*rt R 3=(wy R 4:Int)
 b:∀i,i<4→(rt R i).natAbs≤8
theorem E1{R:List Nat}(h:R∈dD):JV R:=by
 have a:=NB.mp tE R h
 simp only[Jx,Nu,beq_iff_eq,decide_eq_true_eq]at a
 obtain⟨⟨⟨⟨⟨⟨⟨⟨a1,a2⟩,a3⟩,a4⟩,a5⟩,a6⟩,a7⟩,a8⟩,a9⟩:=a
 exact⟨a1,a2,a3,Ef a4,a5,a6,a7,a8,fun i hi=>of_decide_eq_true (NB.mp a9 i (QX.mpr ⟨NG _,by omega⟩))⟩
theorem JW{R:List Nat}(h:R∈dD):yJ (cR R) (cX R):=by
 have a:=NB.mp tF R h
 have b:=NB.mp tG R h
 simp only[Jy,Nu,beq_iff_eq,wy,ht]at a
 simp only[Jz,Nu,decide_eq_true_eq,ht]at b
 obtain⟨⟨⟨⟨⟨⟨a1,a2⟩,a3⟩,a4⟩,a5⟩,a6⟩,a7⟩:=a
 obtain⟨⟨⟨⟨b1,b2⟩,b3⟩,b4⟩,b5⟩:=b
 exact⟨a1,fun d hd=>of_decide_eq_true (NB.mp a2 d hd),a3,a4,a5,a6,a7,(fun e=>by rw[e]at b1;cases b1),b2,b3,of_decide_eq_true b4,fun d hd=>eq_of_beq (NB.mp b5 d hd)⟩
theorem JX{R:List Nat}(h:R∈dD):yL (cR R) R:=by
 have a:=NB.mp tH R h
 have b:=NB.mp tI R h
 simp only[tabI,Nu,Qf,beq_iff_eq]at b
 exact⟨fun j hj=>eq_of_beq (NB.mp a j (QX.mpr ⟨NG _,by omega⟩)),b.1.1,b.1.2,b.2⟩
theorem JY{α:Type}(d:α){L:List α}(h:L.length=4):L=[L.getD 0 d,L.getD 1 d,L.getD 2 d,L.getD 3 d]:=(L3 d L).trans (by rw[h];rfl)
noncomputable abbrev HJ(r:Ss)(l:gV)(σ:List (List V))(f:Option (Fl×En×ao)):Prop:=aE OO NN r (bC l) (aH l σ)=f
inductive A1 (scr:List Int):Prop
 |mk (cs:List Int) (R:List Nat) (Bs:List Bl) (l:gV) (hcs:cs.length=8) (hR:R∈dD) (hB:Bs.map Bl.c=R) (ho:gS Bs) (k3:lk l 3=some (bf cs)) (k4:lk l 4=some (.lst (sg R))) (k5:lk l 5=some (.str (aQ Bs))) (k6:lk l 6=some (.str (aU Bs))) (k7:lk l 7=some (.lst (un (aN 0 Bs)))) (k24:lk l 24=none)
  (h:∀r f,HJ r l [] f→HJ (.cons av.yR (.cons av.vG (.cons av.vH (.cons av.yS r)))) [(0,some (bf scr))] [] f)
theorem Hw(scr:List Int):A1 scr:=by
 obtain⟨told,h0⟩:=yR (O:=OO) (N:=NN) scr
 obtain⟨c0,c1,c2,c3,c4,c5,c6,c7,h1⟩:=vG (O:=OO) (N:=NN) (l:=[(1,some (bf told)),(0,some (bf scr))]) (told:=told) rfl
 generalize hcs0:[c0,c1,c2,c3,c4,c5,c6,c7]=cs at h1
 have hcs:cs.length=8:=by rw[←hcs0];rfl
 clear hcs0
 generalize hl3:((3,some (bf cs))::[(1,some (bf told)),(0,some (bf scr))]:gV)=l at h1
 have k3:lk l 3=some (bf cs):=by rw[←hl3];rfl
 have k24:lk l 24=none:=by rw[←hl3];rfl
 clear hl3
 have h2:=vH (cs:=cs) (σ:=[]) k3 (by lia)
 have hRm:=DU hcs
 generalize zS cs=R at h2 hRm
 obtain⟨hR8,hRo⟩:=nA hRm
 generalize hm:((4,some (.lst (sg R)))::l:gV)=m at h2
 have j3:lk m 3=some (bf cs):=by rw[←hm];exact k3
 have j4:lk m 4=some (.lst (sg R)):=by rw[←hm];rfl
 have j24:lk m 24=none:=by rw[←hm];exact k24
 replace h2:aX OO NN av.vH (bC l) (aH l [])=some (.bU,bC m,aH m []):=by rw[←hm];exact h2
 clear hm
 obtain⟨Bs,hB,ho,hd⟩:=xo (k:=98) (st:=aH m []) hcs hR8 hRo
 have h3:=yS hd j3 j4
 exact⟨cs,R,Bs,(7,some (.lst (un (aN 0 Bs))))::(6,some (.str (aU Bs)))::(5,some (.str (aQ Bs)))::m,hcs,hRm,hB,ho,j3,j4,rfl,rfl,rfl,j24,fun r f h=>ai h0 (ai h1 (ai h2 (ai h3 h)))⟩
inductive A2 (cs:List Int) (R:List Nat) (Bs:List Bl) (l:gV):Prop
 |mk (w:List Nat) (U:List (Nat×List Nat)) (m:gV) (σ:List (List V)) (hw:tQ w) (hU:xn U) (hUl:U.length≤100) (hbr:(un U).filterMap nE=sg R) (k3:lk m 3=some (bf cs)) (k4:lk m 4=some (.lst (sg R))) (k5:lk m 5=some (.str (aQ Bs))) (k8:lk m 8=some (.lst (nats (cR R)))) (k9:lk m 9=some (.lst (nats (cX R)))) (k10:lk m 10=some (.int cs.sum)) (k11:lk m 11=some (.str w)) (k12:lk m 12=some (.lst (un U))) (k24:lk m 24=none)
  (h:∀r f,HJ r m σ f→HJ (.cons av.yT (.cons av.yU (.cons av.vJ (.cons av.yV r)))) l [] f)
theorem Hx{cs:List Int}{R:List Nat}{Bs:List Bl}{l:gV}(hcs:cs.length=8)(hRm:R∈dD)(hB:Bs.map Bl.c=R)(ho:gS Bs)(k3:lk l 3=some (bf cs))(k4:lk l 4=some (.lst (sg R)))(k5:lk l 5=some (.str (aQ Bs)))(k6:lk l 6=some (.str (aU Bs)))(k7:lk l 7=some (.lst (un (aN 0 Bs))))(k24:lk l 24=none):A2 cs R Bs l:=by
 refine bc fun hN=>?_
 obtain⟨dt,dl,du,dU⟩:=EU hB (nA hRm).1 ho
 obtain⟨w,hw,h4⟩:=yT (l:=l) (σ:=[]) (D_ hRm _) (Ea hRm _) k3 k4 (M3 (by rw[hcs];decide:3<cs.length))
 generalize hm:((11,some (V.str w))::(10,some (.int cs.sum))::(9,some (.lst (nats (cX R))))::(8,some (.lst (nats (cR R))))::l:gV)=m at h4
 have j3:lk m 3=some (bf cs):=by rw[←hm];exact k3
 have j4:lk m 4=some (.lst (sg R)):=by rw[←hm];exact k4
 have j5:lk m 5=some (.str (aQ Bs)):=by rw[←hm];exact k5
 have j6:lk m 6=some (.str (aU Bs)):=by rw[←hm];exact k6
 have j7:lk m 7=some (.lst (un (aN 0 Bs))):=by rw[←hm];exact k7
 have j8:lk m 8=some (.lst (nats (cR R))):=by rw[←hm];rfl
 have j9:lk m 9=some (.lst (nats (cX R))):=by rw[←hm];rfl
 have j10:lk m 10=some (.int cs.sum):=by rw[←hm];rfl
 have j11:lk m 11=some (.str w):=by rw[←hm];rfl
 have j24:lk m 24=none:=by rw[←hm];exact k24
 clear hm k3 k4 k5 k6 k7 k24
 have h5:=yU (σ:=[]) j5 j6 j11 hw ho dt dl
 have hU:xn (aN 0 Bs++jA (aU Bs).length w):=fun u hu=>(MX.mp hu).elim (dU u) fun h=>by
  rcases hw with rfl|rfl
  ·cases h
  ·rw[M4.mp h];exact(by decide:∀c∈[92],c<1114112)
 have hUl:(aN 0 Bs++jA (aU Bs).length w).length≤100:=by
  rw[Ng]
  have:(jA (aU Bs).length w).length≤1:=by
   rcases hw with rfl|rfl
   ·exact NG _
   ·exact M9 _
  exact M8 (VF du this) (by decide)
 have h6:=vJ (σ:=[]) j6 j11 hw dl (Ca hw ho) hU hUl
 have hbr:(un (aN 0 Bs++jA (aU Bs).length w)).filterMap nE=sg R:=by
  rw[ku,Q3,vg Bs 0 ho,hB]
  have:(un (jA (aU Bs).length w)).filterMap nE=[]:=by rcases hw with rfl|rfl<;>rfl
  rw[this,Nc]
 have h7:∃σ,aX OO NN av.yV (bC ((12,some (.lst (un (aN 0 Bs++jA (aU Bs).length w))))::m)) (aH ((12,some (.lst (un (aN 0 Bs++jA (aU Bs).length w))))::m) [])=some (.bU,bC ((12,some (.lst (un (aN 0 Bs++jA (aU Bs).length w))))::m),aH ((12,some (.lst (un (aN 0 Bs++jA (aU Bs).length w))))::m) σ):=by
  clear hN h4 h5 h6 hbr hUl
  rcases hw with rfl|rfl
  ·have e:aN 0 Bs++jA (aU Bs).length []=aN 0 Bs:=Nc _
   rw[e]at hU ⊢
   exact⟨_,Jc (σ:=[]) rfl j7 j11 du hU⟩
  ·exact⟨[],Jd rfl j6 j7 j11 du hU⟩
 obtain⟨σ,h7⟩:=h7
 exact hN ⟨w,_,(12,some (.lst (un (aN 0 Bs++jA (aU Bs).length w))))::m,σ,hw,hU,hUl,hbr,j3,j4,j5,j8,j9,j10,j11,rfl,j24,fun r f h=>ai h4 (ai h5 (ai h6 (ai h7 h)))⟩
inductive A3 (cs:List Int) (R:List Nat) (Bs:List Bl) (w:List Nat) (l:gV) (σ:List (List V)):Prop
 |mk (m:gV) (k3:lk m 3=some (bf cs)) (k5:lk m 5=some (.str (aQ Bs))) (k8:lk m 8=some (.lst (nats (cR R)))) (k9:lk m 9=some (.lst (nats (cX R)))) (k10:lk m 10=some (.int cs.sum)) (k11:lk m 11=some (.str w)) (k14:lk m 14=some (.lst (nats (lD R)))) (k15:lk m 15=some (.lst (nats (0::gX R)))) (k16:lk m 16=some (.ref σ.length)) (k17:lk m 17=some (.ref (σ.length+1))) (k18:lk m 18=some (.ref (σ.length+2))) (k24:lk m 24=none)
  (h:∀r f,HJ r m (S3 σ [] [] [] []) f→HJ (.cons av.vK (.cons av.qA (.cons av.oM r))) l σ f)
theorem Hy{cs:List Int}{R:List Nat}{Bs:List Bl}{w:List Nat}{U:List (Nat×List Nat)}{l:gV}{σ:List (List V)}(hRm:R∈dD)(hU:xn U)(hUl:U.length≤100)(hbr:(un U).filterMap nE=sg R)(k3:lk l 3=some (bf cs))(k4:lk l 4=some (.lst (sg R)))(k5:lk l 5=some (.str (aQ Bs)))(k8:lk l 8=some (.lst (nats (cR R))))(k9:lk l 9=some (.lst (nats (cX R))))(k10:lk l 10=some (.int cs.sum))(k11:lk l 11=some (.str w))(k12:lk l 12=some (.lst (un U)))(k24:lk l 24=none):A3 cs R Bs w l σ:=by
 refine bc fun hN=>?_
 obtain⟨hR8,hRo⟩:=nA hRm
 have h8:=vK (σ:=σ) k12 hU hUl
 rw[hbr]at h8
 have h9:=qA (l:=(13,some (.lst (sg R)))::l) (σ:=σ) (R:=R) rfl hR8 hRo
 generalize hm:((14,some (V.lst (nats (nF 40 41 R))))::(13,some (.lst (sg R)))::l:gV)=m at h9
 have j3:lk m 3=some (bf cs):=by rw[←hm];exact k3
 have j4:lk m 4=some (.lst (sg R)):=by rw[←hm];exact k4
 have j5:lk m 5=some (.str (aQ Bs)):=by rw[←hm];exact k5
 have j8:lk m 8=some (.lst (nats (cR R))):=by rw[←hm];exact k8
 have j9:lk m 9=some (.lst (nats (cX R))):=by rw[←hm];exact k9
 have j10:lk m 10=some (.int cs.sum):=by rw[←hm];exact k10
 have j11:lk m 11=some (.str w):=by rw[←hm];exact k11
 have j14:lk m 14=some (.lst (nats (lD R))):=by rw[←hm];rfl
 have j24:lk m 24=none:=by rw[←hm];exact k24
 replace h9:aX OO NN av.qA (bC ((13,some (.lst (sg R)))::l)) (aH ((13,some (.lst (sg R)))::l) σ)=some (.bU,bC m,aH m σ):=by rw[←hm];exact h9
 clear hm k3 k4 k5 k8 k9 k10 k11 k24
 obtain⟨m2,hm2,h10⟩:=oM (σ:=σ) j4 hR8 hRo
 have i3:lk m2 3=some (bf cs):=by rw[hm2];exact j3
 have i5:lk m2 5=some (.str (aQ Bs)):=by rw[hm2];exact j5
 have i8:lk m2 8=some (.lst (nats (cR R))):=by rw[hm2];exact j8
 have i9:lk m2 9=some (.lst (nats (cX R))):=by rw[hm2];exact j9
 have i10:lk m2 10=some (.int cs.sum):=by rw[hm2];exact j10
 have i11:lk m2 11=some (.str w):=by rw[hm2];exact j11
 have i14:lk m2 14=some (.lst (nats (lD R))):=by rw[hm2];exact j14
 have i15:lk m2 15=some (.lst (nats (0::gX R))):=by rw[hm2];rfl
 have i16:lk m2 16=some (.ref σ.length):=by rw[hm2];rfl
 have i17:lk m2 17=some (.ref (σ.length+1)):=by rw[hm2];rfl
 have i18:lk m2 18=some (.ref (σ.length+2)):=by rw[hm2];rfl
 have i24:lk m2 24=none:=by rw[hm2];exact j24
 exact hN ⟨m2,i3,i5,i8,i9,i10,i11,i14,i15,i16,i17,i18,i24,fun r f h=>ai h8 (ai h9 (ai h10 h))⟩
noncomputable abbrev SA(σ:List (List V))(R:List Nat):List (List V):=S3 σ (nats (gX R)) ((kA (gX R)).map pr) ((c_ (lD R)).map pr) [[],[],[],[]]
inductive LJ (scr:List Int):Prop
 |mk (cs:List Int) (R:List Nat) (Bs:List Bl) (w:List Nat) (l:gV) (σ:List (List V)) (hcs:cs.length=8) (hR:R∈dD) (hB:Bs.map Bl.c=R) (ho:gS Bs) (hw:tQ w)
  (k3:lk l 3=some (bf cs)) (k5:lk l 5=some (.str (aQ Bs))) (k8:lk l 8=some (.lst (nats (cR R)))) (k9:lk l 9=some (.lst (nats (cX R)))) (k10:lk l 10=some (.int cs.sum)) (k11:lk l 11=some (.str w)) (k14:lk l 14=some (.lst (nats (lD R)))) (k16:lk l 16=some (.ref σ.length)) (k17:lk l 17=some (.ref (σ.length+1))) (k18:lk l 18=some (.ref (σ.length+2))) (k24:lk l 24=none)
  (h:aE OO NN CC.Cs (bC [(0,some (bf scr))]) (aH [(0,some (bf scr))] [])=some (.bU,bC l,aH l (SA σ R)))
theorem Hz{R:List Nat}{l:gV}{σ:List (List V)}(hRm:R∈dD)(k14:lk l 14=some (.lst (nats (lD R))))(k15:lk l 15=some (.lst (nats (0::gX R))))(k16:lk l 16=some (.ref σ.length))(k17:lk l 17=some (.ref (σ.length+1)))(k18:lk l 18=some (.ref (σ.length+2))):
  ∃x y z,aE OO NN (.cons av.oN (.cons av.qU (.cons av.l7 (.cons av.oO .nil)))) (bC l) (aH l (S3 σ [] [] [] []))=some (.bU,bC (D2 (some (.tup [.none,.none])) (some (.int 3)) (D3 x y z ((19,some (.int 3))::l))),aH (D2 (some (.tup [.none,.none])) (some (.int 3)) (D3 x y z ((19,some (.int 3))::l))) (SA σ R)):=by
 have t:=E0 hRm
 have h11:=oN (σ:=σ) (E:=[]) (C:=[]) (W:=[]) k16 k14 (by rw[t.JU];decide)
 have h12:=qU (l:=(19,some (.int 3))::l) (σ:=σ) (E:=[[],[],[],[]]) (C:=[]) (W:=[]) k16 k15 k14 (by rw[t.JU];decide) t.ah t.lf
 obtain⟨x,y,z,h13⟩:=l7 (l:=(19,some (.int 3))::l) (σ:=S3 σ (nats (iw (lD R))) [] [] [[],[],[],[]]) k15 k14 (by rw[t.Ed];decide) (by rw[t.JU];decide) t.near
 rw[t.ah]at h13 h12 h11
 exact⟨x,y,z,ai h11 (ai h12 (ai h13 (aG (oO (l:=D3 x y z ((19,some (.int 3))::l)) t.Ed t.JU k16 k17 k18 k14))))⟩
theorem JZ(scr:List Int):LJ scr:=by
 obtain⟨cs,R,Bs,l1,hcs,hR,hB,ho,k3,k4,k5,k6,k7,k24,H1⟩:=Hw scr
 obtain⟨w,U,l2,σ,hw,hU,hUl,hbr,k3,k4,k5,k8,k9,k10,k11,k12,k24,H2⟩:=Hx hcs hR hB ho k3 k4 k5 k6 k7 k24
 obtain⟨l3,k3,k5,k8,k9,k10,k11,k14,k15,k16,k17,k18,k24,H3⟩:=Hy (σ:=σ) hR hU hUl hbr k3 k4 k5 k8 k9 k10 k11 k12 k24
 obtain⟨x,y,z,H4⟩:=Hz hR k14 k15 k16 k17 k18
 exact⟨cs,R,Bs,w,D2 (some (.tup [.none,.none])) (some (.int 3)) (D3 x y z ((19,some (.int 3))::l3)),σ,hcs,hR,hB,ho,hw,k3,k5,k8,k9,k10,k11,k14,k16,k17,k18,k24,H1 _ _ (H2 _ _ (H3 _ _ H4))⟩
noncomputable abbrev LB(l:gV)(x s:Int)(w:Nat)(y:Option V):gV:=F4 y (some (.int s)) (some (.int 3)) ((25,some (.int x))::(27,some (.int (w:Int)))::(26,some (.int s))::l)
theorem J0{l:gV}{σ:List (List V)}{cs:List Int}{R:List Nat}{j:Nat}(hR:R∈dD)(hcs:cs.length=8)(h3:lk l 3=some (bf cs))(h8:lk l 8=some (.lst (nats (cR R))))(h10:lk l 10=some (.int cs.sum))(h18:lk l 18=some (.ref j))(hj:σ[j]? =some ((c_ (lD R)).map pr))
  (h17:aX OO NN av.nH (bC l) (aH l σ)=some (.bU,bC l,aH l σ)):∃(x s:Int) (w:Nat) (y:Option V),EK s∧5≤w∧w<55∧aE OO NN CC.Ct (bC l) (aH l σ)=some (.bU,bC (LB l x s w y),aH (LB l x s w y) σ):=by
 have g0:cs[0]? =some cs[0]:=M3 (by omega)
 have g1:cs[1]? =some cs[1]:=M3 (by omega)
 have g2:cs[2]? =some cs[2]:=M3 (by omega)
 obtain⟨a,s,w,a1,a2,hs,w1,w2,h18'⟩:=tX (l:=l) (σ:=σ) h10 h3 g2
 obtain⟨x,hx,h19⟩:=l8 (l:=(27,some (.int (w:Int)))::(26,some (.int s))::(25,some (.int a))::l) (σ:=σ) (cs:=cs) a1 a2 rfl h3 g0 g1
 have t:=E1 hR
 have hq:=JY ((0:Int),(0:Int)) t.rl
 have e19:bC ((25,some (.int x))::(27,some (.int (w:Int)))::(26,some (.int s))::(25,some (.int a))::l)=bC ((25,some (.int x))::(27,some (.int (w:Int)))::(26,some (.int s))::l)∧aH ((25,some (.int x))::(27,some (.int (w:Int)))::(26,some (.int s))::(25,some (.int a))::l) σ=aH ((25,some (.int x))::(27,some (.int (w:Int)))::(26,some (.int s))::l) σ:=⟨rfl,rfl⟩
 have h19:aX OO NN av.l8 _ _=some (.bU,_,_):=h19
 rw[e19.1,e19.2]at h19
 have h20:=tY (l:=(25,some (.int x))::(27,some (.int (w:Int)))::(26,some (.int s))::l) (σ:=σ) (s:=s) hx hs hq (t.b 0 (by decide)) (t.b 1 (by decide)) (t.b 2 (by decide)) (t.b 3 (by decide)) rfl rfl h18 hj
 obtain⟨y,h21⟩:=qV (l:=(25,some (.int x))::(27,some (.int (w:Int)))::(26,some (.int s))::l) (σ:=σ) (W:=cR R) hx hs t.wl t.L5 rfl rfl h8 (v:=s*(x+((c_ (lD R)).getD 0 (0,0)).1)*(x+((c_ (lD R)).getD 1 (0,0)).1)*(x+((c_ (lD R)).getD 2 (0,0)).1)*(x+((c_ (lD R)).getD 3 (0,0)).1)) (by
  have:=D7 (x:=x) t.e1 t.e2 t.e3 t.e4
  rw[P8,P8,P8,←P8 (x+_) (x+_),←P8 (_*_) (x+_)]
  exact congrArg (s* ·) this)
 have h22:=tZ (l:=F4 y (some (.int s)) (some (.int 3)) ((25,some (.int x))::(27,some (.int (w:Int)))::(26,some (.int s))::l)) (σ:=σ) (s:=s) hx rfl rfl rfl
 exact⟨x,s,w,y,hs,w1,w2,ai h17 (ai h18' (ai h19 (ai h20 (ai h21 (aG h22)))))⟩
theorem J1{l:gV}{σ:List (List V)}{R t:List Nat}{Bs:List Bl}{w:List Nat}{wd:Nat}(hR:R∈dD)(hB:Bs.map Bl.c=R)(ho:gS Bs)(hw:tQ w)(w1:5≤wd)(w2:wd<55)(h5:lk l 5=some (.str (aQ Bs)))(h11:lk l 11=some (.str w))(h8:lk l 8=some (.lst (nats (cR R))))(h9:lk l 9=some (.lst (nats (cX R))))(h27:lk l 27=some (.int (wd:Int))):
  ∃en' st',aE OO NN CC.Ec (bC l) (aH l σ)=some (.ret (.bool true),en',st'):=by
 have hW:=E1 hR
 have hH:=JW hR
 have hC:=JX hR
 obtain⟨dt,dl,du,dU⟩:=EU hB (nA hR).1 ho
 have c24:=oQ (l:=l) (σ:=σ) hW.wl hW.L5 h8 h27 w2
 rw[number hH]at c24
 have c25:=qW (l:=(30,some (.int (val wd (cX R):Int)))::l) (σ:=σ) hH h9 h27 rfl w1 w2
 have Kc:=qX (l:=(30,some (.int (val wd (cX R):Int)))::l) (σ:=σ) (kT ho) dt h5
 have c27:=t6 (l:=(31,some (.lst (aZ (d7 (aQ Bs)))))::(30,some (.int (val wd (cX R):Int)))::l) (σ:=σ) rfl
 have JE:=qY (l:=(33,some (.str ez))::(32,some (.lst (aZ (d7 (aQ Bs)))))::(31,some (.lst (aZ (d7 (aQ Bs)))))::(30,some (.int (val wd (cX R):Int)))::l) (σ:=σ) (W:=cR R) (kT ho) dt hW.wl h8 rfl rfl
 have c29:=t7 (l:=(34,some (.lst (aZ (jB (cR R) (aQ Bs)))))::(33,some (.str ez))::(32,some (.lst (aZ (d7 (aQ Bs)))))::(31,some (.lst (aZ (d7 (aQ Bs)))))::(30,some (.int (val wd (cX R):Int)))::l) (σ:=σ) hB ho dt hC rfl rfl rfl
 have c30:=t8 (l:=(34,some (.lst (aZ (jB (cR R) (aQ Bs)))))::(33,some (.str ez))::(32,some (.lst (aZ (d7 (aQ Bs)))))::(31,some (.lst (aZ (d7 (aQ Bs)))))::(30,some (.int (val wd (cX R):Int)))::l) (σ:=σ) hB ho dt hw hC h5 h11
 have c31:=t9 (l:=(35,some (.bool (decide (0<(cR R).getD 4 0))))::(34,some (.lst (aZ (jB (cR R) (aQ Bs)))))::(33,some (.str ez))::(32,some (.lst (aZ (d7 (aQ Bs)))))::(31,some (.lst (aZ (d7 (aQ Bs)))))::(30,some (.int (val wd (cX R):Int)))::l) (σ:=σ) hW.wl h8 rfl
 exact⟨_,_,ai c24 (ai c25 (ai Kc (ai c27 (ai JE (ai c29 (ai c30 (bS c31)))))))⟩
theorem plain(scr:List Int)(_:scr.length≤63):CC.Hv scr:=by
 obtain⟨cs,R,Bs,w,l,σ,hcs,hR,hB,ho,hw,k3,k5,k8,k9,k10,k11,k14,k16,k17,k18,k24,hA⟩:=JZ scr
 have t:=E0 hR
 have k0:(SA σ R)[σ.length]? =some (nats (gX R)):=zX
 have k2:(SA σ R)[σ.length+2]? =some ((c_ (lD R)).map pr):=F_
 obtain⟨x',s,wd,y',hs,w1,w2,hBr⟩:=J0 hR hcs k3 k8 k10 k18 k2 (nH t.Ed t.JU k16 k17 k18 k14 t.cols t.rows t.neg)
 obtain⟨en',st',hC⟩:=J1 (l:=LB l x' s wd y') (σ:=SA σ R) (t:=[]) hR hB ho hw w1 w2 k5 k11 k8 k9 rfl
 exact⟨_,_,_,_,σ.length+2,σ.length+1,σ.length,nats (gX R),((gX R).getD 3 0:Nat),.int s,en',st',hA,k18,k17,k16,k0,fy (by rw[t.Ed];decide),Nx _,k24,hBr,rfl,k24,hC⟩
end Rk.L01
end
end Internal
section
theorem PySem.Challenge.cw_rs0200_01_holds : PySem.Challenge.rw_rs0200_01.Holds :=
 Internal.Rk.CC.holds_of Internal.Rk.L01.plain
end
