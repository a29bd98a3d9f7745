import PyProof.Rows.All
import Wide.All
import OpenK.AllK
import Wide.FinOn
import Open.Tops
import Lean
import PySem.Challenge.RW_ta0102_01
open Array renaming getElem?_eq_getElem→VY,getElem?_toList→Vi,length_toList→VZ,toList_append→XJ
open Bool renaming and_eq_true→Vl,and_true→Z1,false_eq_true→Zd,not_eq_true'→Zp,or_eq_true→Yj
open False renaming elim→Zc
open ForInStep renaming yield→ZE
open Int renaming emod_lt_of_pos→Ze,emod_nonneg→Yg,eq_ofNat_of_zero_le→Yw,le_trans→Zl,natCast_nonneg→XA,ofNat_le→Zm
open List renaming all_cons→XV,all_eq_true→VV,all_nil→Yn,append_assoc→Yo,append_nil→Yk,cons_append→VB,drop_eq_getElem_cons→X8,drop_eq_nil_of_le→Ve,filterMap_cons→YY,filter_eq_self→Yt,flatten_cons→VC,getD_eq_getElem?_getD→QL,getElem?_append_left→V5,getElem?_append_right→X6,getElem?_eq_getElem→Qu,getElem?_eq_none_iff→YV,getElem?_eq_none→Xz,getElem?_eq_some_iff→QT,getElem?_map→Qx,getElem?_range→VQ,getElem?_zip_eq_some→YU,getElem_mem→XY,length_append→QC,length_cons→QA,length_filter_le→Yd,length_map→Qy,length_nil→QQ,length_pos_iff→XK,length_range→Vu,length_replicate→Vv,length_singleton→X2,length_take→VK,length→Yx,lookup_cons→XX,map_append→Va,map_congr_left→VI,map_cons→QP,map_map→Xp,map_replicate→Zf,mem_append→XH,mem_cons→QD,mem_flatMap→XZ,mem_map_of_mem→X9,mem_map→Qw,mem_of_getElem?→QE,mem_of_mem_take→Xi,mem_range→Xd,mem_replicate→VG,mem_singleton→Y2,nil_append→Z3,nodup_append→Xa,nodup_cons→Yi,nodup_nil→Zo,not_mem_nil→QG,range_succ→Xg,range→Qj,replicate_succ→QZ,replicate→Qr,set→ZC,size_toArray→Vk,take_add_one→Zr,take_length→YT,take_of_length_le→Yy
open List.cons renaming injEq→Xw
open MonadReader renaming read→Zv
open Nat renaming add_comm→Yl,add→XG,le_add_right→XW,le_of_eq→XO,le_of_lt_succ→YF,le_of_lt→Vt,le_refl→Vr,le_succ_of_le→Xb,le_succ→YO,le_trans→Qp,lt_irrefl→XT,lt_of_le_of_lt→VN,lt_of_lt_of_le→Y4,lt_succ_of_le→V4,lt_succ_self→Yu,lt_trans→Zn,mul_le_mul_right→QJ,ne_of_lt→QR,not_lt→VS,sub_eq_zero_of_le→YE,succ_pos→Vn,zero_le→Vj
open Option renaming isSome_iff_exists→Vz,none→Qg,some→Qf
open PyProof renaming noPylong_small→VM
open PyProof.Rows renaming Attribute_any_→Y8,callWith_type→X7,join_cons_cons→Xj
open PySem renaming Addr→Qk,Around→QO,Comprehension→XU,DictEntry→VJ,FuncData→VF,Heap→QU,Keeps→Vb,NameKind→Ym,OsState→YR,Params→Y3,Program→QI,Shared→Qi,Stmt→XM,Value→Qm,World→Ql,assignEach→Vx,attributeBase→Vp,backToKw→VE,backTo→VO,behindInMarks→Yp,builtinLookup_eq_fast→X3,builtinsNs→YL,callEnvC→QY,callWith→VL,cellsFrom→Vd,codeAny_call_builtin→XF,codeAny_forLoop_any→YX,codeAny→Zq,foldedSetIterable→QN,getAttrBy→Zk,getAttr→Zs,holding→Zz,interactive→Zg,isSubtype_type→Xs,keywordEach→V3,letOwnedTupleGo→YC,letTemporaryGo→YM,loadPart→Zt,mainGlobals→XD,merged→Yb,numAt→ZB,plainObj_wpAny_Assign_Attribute→Xx,sizeLine_eq→QV,sizeLine→Qt,sliceBounds→Vg,slicePick→Zx,sliceRange→YN,standAt→Xy,starEach→Qv,strKind→QH,swappedStores→Xl,swapsWithSole→XC,swapsWith→VU,sysModules→Vc,treeTable→YS,typeLookup_type→XI,typeLookup→Xo,wpAny_Assign_Name→X4,wpAny_Return_some→YH,wpAny_assignInOrder_more→V8,wpAny_assignInOrder_none→Xe,wpAny_assign_Name→VX,wpAny_assign_Tuple→Y6,wpAny_attempt→Vq,wpAny_bind→Qh,wpAny_dictEntries→Xc,wpAny_dictEpoch→YD,wpAny_execs_cons→QF,wpAny_execs_nil→Vm,wpAny_holding→QS,wpAny_isInstance→QX,wpAny_ite_false→V2,wpAny_ite_true→V6,wpAny_mono→Qz,wpAny_newObj_type→V1,wpAny_of_eq→Vs,wpAny_pure→Qn,wpAny_pyIter_enum→YI,wpAny_specialOf→QW,wpAny_standAt→VA,wpAny_throw→Zj,wpAny_truthy_bool→YG,wpAny_typeOf→Vy,wpAny_with_toks→QB,wpAny→Qo
open PySem.Builtin renaming divisionGoesByPylong→YB
open PySem.Builtin.Dict renaming samePairs→XR
open PySem.Builtin.Int renaming intBits→YW
open PySem.Builtin.Range renaming rangeSize→Yv,small→Ys
open PySem.Builtin.SmallTypes renaming nextOf→Ye
open PySem.Builtin.Str renaming occurrences→Zi,partsBetween→Z2,strSliceIndices→Xk
open PySem.Calls renaming Constant_str→Vw,Name_function_global→Y5,callWith_builtin→Xm,callWith_function→VT,spliced_cons→Qq,spliced_nil→QK
open PySem.Challenge renaming pw_ta0102_01→YJ,rw_ta0102_01→YA
open PySem.Const renaming str→V7
open PySem.F renaming slot_list_getattribute→Yr,slot_tuple_iterator_next→Y9
open PySem.Heap renaming SameBut→V9,get?_none_of_le→X5,get?_push_of_some→XN,get?_push_size→Qs,get?_update_self→VP,lt_size→Vo,size_push→Xn
open PySem.Heap.SameBut renaming update→VH
open PySem.NameKind renaming free→YZ
open PySem.PyData renaming canLay0→Xr,canLayAll0→Xq,depthAll→Xf,depth→XQ,eqvAll→Yq,eqv→Xh,keyHash→VD,strOk→Vf,str→XB
open PySem.SeqAt renaming shaped→VR
open PySem.Str renaming join→Y7,ofString→QM
open PySem.Txt renaming replace→Xv,split→Xu
open PySem.Value renaming isInt→ZD,isStrOf→ZA,ref→VW
open PySem.W renaming boot_heap→Zw,boot_o_0→Z4,boot_o_10→YK,boot_o_1→Z5,boot_o_2→Yz,boot_o_4→Z9,boot_o_5→Z7,boot_o_6→Zb,boot_o_7→Z6,boot_o_8→Za,boot_o_9→Z8,cellsFrom_some→XE,dictOf→Vh,handedIn→Z0,hideAll_none→Zu,tabObj→Zy
open Std.Legacy.Range renaming forIn_eq_forIn_range'→YQ
open PySem PySem.W PyProof.Rows
open PySem renaming Str → Qd
set_option Elab.async false
set_option maxRecDepth 100000
set_option maxHeartbeats 8000000
set_option linter.all false
set_option genInjectivity false
set_option genSizeOf false
noncomputable section
namespace Mine.Internal
noncomputable abbrev Qe:=Qm->Qi->Prop
theorem Q7.{u}{α:Type u}{b:α}(as:List α){bs:List α}(h:b∈bs):b∈as++bs:=List.mem_append_right as h
theorem Q8.{u}{α:Type u}{a:α}{as:List α}(bs:List α)(h:a∈as):a∈as++bs:=List.mem_append_left bs h
theorem Q9.{u}{α:Type u}{a b:α}(h:a∈[b]):a=b:=Y2.mp h
theorem Qa.{u}{α:Type u}{a:α}{s t:List α}(h:a∈s++t):a∈s∨a∈t:=XH.mp h
theorem Qb.{u}{α:Type u}{a b:α}{l:List α}(h:a∈b::l):a=b∨a∈l:=QD.mp h
theorem Qc{m n:Nat}(h:m∈Qj n):m<n:=Xd.mp h
theorem jw{A0 A1:Prop}{G:Prop}(z:A0/\A1)(t:A0->A1->G):G:=t z.1 z.2
theorem xE{A0 A1 A2:Prop}{G:Prop}(z:A0/\A1/\A2)(t:A0->A1->A2->G):G:=t z.1 z.2.1 z.2.2
theorem e0_4{A0 A1 A2 A3:Prop}{G:Prop}(z:A0/\A1/\A2/\A3)(t:A0->A1->A2->A3->G):G:=t z.1 z.2.1 z.2.2.1 z.2.2.2
theorem e0_5{A0 A1 A2 A3 A4:Prop}{G:Prop}(z:A0/\A1/\A2/\A3/\A4)(t:A0->A1->A2->A3->A4->G):G:=t z.1 z.2.1 z.2.2.1 z.2.2.2.1 z.2.2.2.2
theorem jd.{u0}{α0:Sort u0}{A0:α0->Prop}{G:Prop}(z:∃x0,A0 x0)(t:∀x0,A0 x0->G):G:=z.elim λx0 z1=>t x0 z1
theorem jc.{u0}{α0:Sort u0}{A0 A1:α0->Prop}{G:Prop}(z:∃x0,A0 x0/\A1 x0)(t:∀x0,A0 x0->A1 x0->G):G:=z.elim λx0 z1=>t x0 z1.1 z1.2
theorem ye.{u0}{α0:Sort u0}{A0 A1 A2:α0->Prop}{G:Prop}(z:∃x0,A0 x0/\A1 x0/\A2 x0)(t:∀x0,A0 x0->A1 x0->A2 x0->G):G:=z.elim λx0 z1=>t x0 z1.1 z1.2.1 z1.2.2
theorem e1_4.{u0}{α0:Sort u0}{A0 A1 A2 A3:α0->Prop}{G:Prop}(z:∃x0,A0 x0/\A1 x0/\A2 x0/\A3 x0)(t:∀x0,A0 x0->A1 x0->A2 x0->A3 x0->G):G:=z.elim λx0 z1=>t x0 z1.1 z1.2.1 z1.2.2.1 z1.2.2.2
theorem e1_5.{u0}{α0:Sort u0}{A0 A1 A2 A3 A4:α0->Prop}{G:Prop}(z:∃x0,A0 x0/\A1 x0/\A2 x0/\A3 x0/\A4 x0)(t:∀x0,A0 x0->A1 x0->A2 x0->A3 x0->A4 x0->G):G:=z.elim λx0 z1=>t x0 z1.1 z1.2.1 z1.2.2.1 z1.2.2.2.1 z1.2.2.2.2
theorem e1_6.{u0}{α0:Sort u0}{A0 A1 A2 A3 A4 A5:α0->Prop}{G:Prop}(z:∃x0,A0 x0/\A1 x0/\A2 x0/\A3 x0/\A4 x0/\A5 x0)(t:∀x0,A0 x0->A1 x0->A2 x0->A3 x0->A4 x0->A5 x0->G):G:=z.elim λx0 z1=>t x0 z1.1 z1.2.1 z1.2.2.1 z1.2.2.2.1 z1.2.2.2.2.1 z1.2.2.2.2.2
theorem jN.{u0,u1}{α0:Sort u0}{α1:Sort u1}{A0:α0->α1->Prop}{G:Prop}(z:∃x0,∃x1,A0 x0 x1)(t:∀x0 x1,A0 x0 x1->G):G:=z.elim λx0 z1=>z1.elim λx1 z2=>t x0 x1 z2
theorem jn.{u0,u1}{α0:Sort u0}{α1:Sort u1}{A0 A1:α0->α1->Prop}{G:Prop}(z:∃x0,∃x1,A0 x0 x1/\A1 x0 x1)(t:∀x0 x1,A0 x0 x1->A1 x0 x1->G):G:=z.elim λx0 z1=>z1.elim λx1 z2=>t x0 x1 z2.1 z2.2
theorem jW.{u0,u1}{α0:Sort u0}{α1:Sort u1}{A0 A1 A2:α0->α1->Prop}{G:Prop}(z:∃x0,∃x1,A0 x0 x1/\A1 x0 x1/\A2 x0 x1)(t:∀x0 x1,A0 x0 x1->A1 x0 x1->A2 x0 x1->G):G:=z.elim λx0 z1=>z1.elim λx1 z2=>t x0 x1 z2.1 z2.2.1 z2.2.2
theorem e2_5.{u0,u1}{α0:Sort u0}{α1:Sort u1}{A0 A1 A2 A3 A4:α0->α1->Prop}{G:Prop}(z:∃x0,∃x1,A0 x0 x1/\A1 x0 x1/\A2 x0 x1/\A3 x0 x1/\A4 x0 x1)(t:∀x0 x1,A0 x0 x1->A1 x0 x1->A2 x0 x1->A3 x0 x1->A4 x0 x1->G):G:=z.elim λx0 z1=>z1.elim λx1 z2=>t x0 x1 z2.1 z2.2.1 z2.2.2.1 z2.2.2.2.1 z2.2.2.2.2
theorem e2_6.{u0,u1}{α0:Sort u0}{α1:Sort u1}{A0 A1 A2 A3 A4 A5:α0->α1->Prop}{G:Prop}(z:∃x0,∃x1,A0 x0 x1/\A1 x0 x1/\A2 x0 x1/\A3 x0 x1/\A4 x0 x1/\A5 x0 x1)(t:∀x0 x1,A0 x0 x1->A1 x0 x1->A2 x0 x1->A3 x0 x1->A4 x0 x1->A5 x0 x1->G):G:=z.elim λx0 z1=>z1.elim λx1 z2=>t x0 x1 z2.1 z2.2.1 z2.2.2.1 z2.2.2.2.1 z2.2.2.2.2.1 z2.2.2.2.2.2
theorem e3_1.{u0,u1,u2}{α0:Sort u0}{α1:Sort u1}{α2:Sort u2}{A0:α0->α1->α2->Prop}{G:Prop}(z:∃x0,∃x1,∃x2,A0 x0 x1 x2)(t:∀x0 x1 x2,A0 x0 x1 x2->G):G:=z.elim λx0 z1=>z1.elim λx1 z2=>z2.elim λx2 z3=>t x0 x1 x2 z3
theorem yY.{u0,u1,u2}{α0:Sort u0}{α1:Sort u1}{α2:Sort u2}{A0 A1:α0->α1->α2->Prop}{G:Prop}(z:∃x0,∃x1,∃x2,A0 x0 x1 x2/\A1 x0 x1 x2)(t:∀x0 x1 x2,A0 x0 x1 x2->A1 x0 x1 x2->G):G:=z.elim λx0 z1=>z1.elim λx1 z2=>z2.elim λx2 z3=>t x0 x1 x2 z3.1 z3.2
theorem JM.{u0,u1,u2}{α0:Sort u0}{α1:Sort u1}{α2:Sort u2}{A0 A1 A2:α0->α1->α2->Prop}{G:Prop}(z:∃x0,∃x1,∃x2,A0 x0 x1 x2/\A1 x0 x1 x2/\A2 x0 x1 x2)(t:∀x0 x1 x2,A0 x0 x1 x2->A1 x0 x1 x2->A2 x0 x1 x2->G):G:=z.elim λx0 z1=>z1.elim λx1 z2=>z2.elim λx2 z3=>t x0 x1 x2 z3.1 z3.2.1 z3.2.2
theorem Jx.{u0,u1,u2}{α0:Sort u0}{α1:Sort u1}{α2:Sort u2}{A0 A1 A2 A3:α0->α1->α2->Prop}{G:Prop}(z:∃x0,∃x1,∃x2,A0 x0 x1 x2/\A1 x0 x1 x2/\A2 x0 x1 x2/\A3 x0 x1 x2)(t:∀x0 x1 x2,A0 x0 x1 x2->A1 x0 x1 x2->A2 x0 x1 x2->A3 x0 x1 x2->G):G:=z.elim λx0 z1=>z1.elim λx1 z2=>z2.elim λx2 z3=>t x0 x1 x2 z3.1 z3.2.1 z3.2.2.1 z3.2.2.2
theorem KN.{u0,u1,u2}{α0:Sort u0}{α1:Sort u1}{α2:Sort u2}{A0 A1 A2 A3 A4 A5:α0->α1->α2->Prop}{G:Prop}(z:∃x0,∃x1,∃x2,A0 x0 x1 x2/\A1 x0 x1 x2/\A2 x0 x1 x2/\A3 x0 x1 x2/\A4 x0 x1 x2/\A5 x0 x1 x2)(t:∀x0 x1 x2,A0 x0 x1 x2->A1 x0 x1 x2->A2 x0 x1 x2->A3 x0 x1 x2->A4 x0 x1 x2->A5 x0 x1 x2->G):G:=z.elim λx0 z1=>z1.elim λx1 z2=>z2.elim λx2 z3=>t x0 x1 x2 z3.1 z3.2.1 z3.2.2.1 z3.2.2.2.1 z3.2.2.2.2.1 z3.2.2.2.2.2
theorem JL.{u0,u1,u2,u3}{α0:Sort u0}{α1:Sort u1}{α2:Sort u2}{α3:Sort u3}{A0 A1:α0->α1->α2->α3->Prop}{G:Prop}(z:∃x0,∃x1,∃x2,∃x3,A0 x0 x1 x2 x3/\A1 x0 x1 x2 x3)(t:∀x0 x1 x2 x3,A0 x0 x1 x2 x3->A1 x0 x1 x2 x3->G):G:=z.elim λx0 z1=>z1.elim λx1 z2=>z2.elim λx2 z3=>z3.elim λx3 z4=>t x0 x1 x2 x3 z4.1 z4.2
theorem e4_3.{u0,u1,u2,u3}{α0:Sort u0}{α1:Sort u1}{α2:Sort u2}{α3:Sort u3}{A0 A1 A2:α0->α1->α2->α3->Prop}{G:Prop}(z:∃x0,∃x1,∃x2,∃x3,A0 x0 x1 x2 x3/\A1 x0 x1 x2 x3/\A2 x0 x1 x2 x3)(t:∀x0 x1 x2 x3,A0 x0 x1 x2 x3->A1 x0 x1 x2 x3->A2 x0 x1 x2 x3->G):G:=z.elim λx0 z1=>z1.elim λx1 z2=>z2.elim λx2 z3=>z3.elim λx3 z4=>t x0 x1 x2 x3 z4.1 z4.2.1 z4.2.2
theorem e4_4.{u0,u1,u2,u3}{α0:Sort u0}{α1:Sort u1}{α2:Sort u2}{α3:Sort u3}{A0 A1 A2 A3:α0->α1->α2->α3->Prop}{G:Prop}(z:∃x0,∃x1,∃x2,∃x3,A0 x0 x1 x2 x3/\A1 x0 x1 x2 x3/\A2 x0 x1 x2 x3/\A3 x0 x1 x2 x3)(t:∀x0 x1 x2 x3,A0 x0 x1 x2 x3->A1 x0 x1 x2 x3->A2 x0 x1 x2 x3->A3 x0 x1 x2 x3->G):G:=z.elim λx0 z1=>z1.elim λx1 z2=>z2.elim λx2 z3=>z3.elim λx3 z4=>t x0 x1 x2 x3 z4.1 z4.2.1 z4.2.2.1 z4.2.2.2
theorem xl.{u0,u1,u2,u3}{α0:Sort u0}{α1:Sort u1}{α2:Sort u2}{α3:Sort u3}{A0 A1 A2 A3 A4:α0->α1->α2->α3->Prop}{G:Prop}(z:∃x0,∃x1,∃x2,∃x3,A0 x0 x1 x2 x3/\A1 x0 x1 x2 x3/\A2 x0 x1 x2 x3/\A3 x0 x1 x2 x3/\A4 x0 x1 x2 x3)(t:∀x0 x1 x2 x3,A0 x0 x1 x2 x3->A1 x0 x1 x2 x3->A2 x0 x1 x2 x3->A3 x0 x1 x2 x3->A4 x0 x1 x2 x3->G):G:=z.elim λx0 z1=>z1.elim λx1 z2=>z2.elim λx2 z3=>z3.elim λx3 z4=>t x0 x1 x2 x3 z4.1 z4.2.1 z4.2.2.1 z4.2.2.2.1 z4.2.2.2.2
theorem e5_1.{u0,u1,u2,u3,u4}{α0:Sort u0}{α1:Sort u1}{α2:Sort u2}{α3:Sort u3}{α4:Sort u4}{A0:α0->α1->α2->α3->α4->Prop}{G:Prop}(z:∃x0,∃x1,∃x2,∃x3,∃x4,A0 x0 x1 x2 x3 x4)(t:∀x0 x1 x2 x3 x4,A0 x0 x1 x2 x3 x4->G):G:=z.elim λx0 z1=>z1.elim λx1 z2=>z2.elim λx2 z3=>z3.elim λx3 z4=>z4.elim λx4 z5=>t x0 x1 x2 x3 x4 z5
theorem no1.{u}{α:Type u}{a:α}{P:Prop}(h:Qg=Qf a):P:=nomatch h
theorem no2.{u}{α:Type u}{a:α}{P:Prop}(h:Qf a=Qg):P:=nomatch h
theorem no3{P:Prop}(h:true=false):P:=nomatch h
theorem no4{P:Prop}(h:false=true):P:=nomatch h
theorem oi.{u}{α:Type u}{a b:α}(h:Qf a=Qf b):a=b:=by cases h;rfl
theorem len_s.{u}{α:Type u}{l:List α}{n:Nat}(h:l.length=n+1):∃a t,l=a::t/\t.length=n:=by
 cases l with
 | nil=>cases h
 | cons a t=>exact⟨a,t,rfl,Nat.succ.inj h⟩
theorem len1.{u}{α:Type u}{l:List α}(h:l.length=1):∃a,l=[a]:=by
 obtain⟨a,t,rfl,g⟩:=len_s h;obtain rfl:=List.eq_nil_of_length_eq_zero g;exact⟨a,rfl⟩
theorem len2.{u}{α:Type u}{l:List α}(h:l.length=2):∃a b,l=[a,b]:=by
 obtain⟨a,t,rfl,g⟩:=len_s h;obtain⟨b,rfl⟩:=len1 g;exact⟨a,b,rfl⟩
theorem len3.{u}{α:Type u}{l:List α}(h:l.length=3):∃a b c,l=[a,b,c]:=by
 obtain⟨a,t,rfl,g⟩:=len_s h;obtain⟨b,c,rfl⟩:=len2 g;exact⟨a,b,c,rfl⟩
theorem e5_5.{u0,u1,u2,u3,u4}{α0:Sort u0}{α1:Sort u1}{α2:Sort u2}{α3:Sort u3}{α4:Sort u4}{A0 A1 A2 A3 A4:α0->α1->α2->α3->α4->Prop}{G:Prop}(z:∃x0,∃x1,∃x2,∃x3,∃x4,A0 x0 x1 x2 x3 x4/\A1 x0 x1 x2 x3 x4/\A2 x0 x1 x2 x3 x4/\A3 x0 x1 x2 x3 x4/\A4 x0 x1 x2 x3 x4)(t:∀x0 x1 x2 x3 x4,A0 x0 x1 x2 x3 x4->A1 x0 x1 x2 x3 x4->A2 x0 x1 x2 x3 x4->A3 x0 x1 x2 x3 x4->A4 x0 x1 x2 x3 x4->G):G:=z.elim λx0 z1=>z1.elim λx1 z2=>z2.elim λx2 z3=>z3.elim λx3 z4=>z4.elim λx4 z5=>t x0 x1 x2 x3 x4 z5.1 z5.2.1 z5.2.2.1 z5.2.2.2.1 z5.2.2.2.2
theorem zq5{k:Nat}(h:(k:Int)<0):False:=absurd (XA k) (Int.not_le.mpr h)
theorem zq6{k:Nat}:¬(k:Int)<0:=zq5
theorem zr1{i n:Nat}(h:i<n):n+1-(i+1)<n+1-i:=by rw [Nat.add_sub_add_right,Nat.succ_sub (Vt h)];exact Yu _
theorem zr2{a t m:Nat}(h:a-t=m+1):a-(t+1)=m:=by rw [Nat.sub_add_eq,h];rfl
theorem zr3{a i:Nat}(h:a-i=0):a-(i+1)=0:=by rw [Nat.sub_add_eq,h]
theorem zr4{i n:Nat}(h:i<=n)(g:¬i<n):i=n:=Nat.le_antisymm h (VS.mp g)
theorem zr5{k i:Nat}(h:k<i+1)(g:¬k=i):k<i:=Nat.lt_of_le_of_ne (YF h) g
theorem zr6{j k:Nat}(h:j<k):1<=k:=VN (Vj _) h
theorem zr7{a b:Nat}:((b:Int)-(a:Int)).toNat=b-a:=Int.toNat_sub b a
theorem zr8{a b:Nat}:max (0:Int) (min (a:Int) (b:Int))=((min a b:Nat):Int):=by lia
theorem zr9{k:Nat}:((1+k:Nat):Int)-1=k:=by rw [Yl];exact Int.add_sub_cancel (k:Int) 1
theorem zr10{k:Nat}:¬((1+k:Nat):Int)-1<0:=by rw [zr9];exact zq6
theorem zr11{i m l:Nat}(h:i+(m+1)=l):i<l:=h▸Nat.lt_add_of_pos_right (Vn m)
theorem zr33{a b:Nat}:a+(b+1)=a+1+b:=by rw [Nat.add_assoc,Yl 1 b]
theorem zr12{i m l:Nat}(h:i+(m+1)=l):i+1+m=l:=zr33.symm.trans h
theorem zr14{a b:Nat}{c:Int}(h:a<=b)(d:decide ((b:Int)<=c)=true):(a:Int)<=c:=Zl (Zm.mpr h) (of_decide_eq_true d)
theorem zr17{k m:Nat}{c d:Int}(h:k<=m)(e:decide (c<=0/\(m:Int)<=d)=true):c<=(k:Int)/\(k:Int)<=d:=⟨Zl (of_decide_eq_true e).1 (XA _),Zl (Zm.mpr h) (of_decide_eq_true e).2⟩
theorem zr19{k m:Nat}(h:k<m):1+k<m+1:=by rw [Yl];exact Nat.succ_lt_succ h
theorem zr20{t m:Int}{c:Nat}(h:1<=t)(g:t<=m)(d:decide (m<(c:Int))=true):t.natAbs<c:=by have:=of_decide_eq_true d;lia
theorem zr23{a b c j:Nat}(h:a+b<c)(d:decide (j<=b)=true):a+j<c:=VN (Nat.add_le_add_left (of_decide_eq_true d) a) h
theorem zr24{a n b c:Nat}(h:a+n<=b)(d:decide (b<c)=true):a<c:=VN (Qp (XW _ _) h) (of_decide_eq_true d)
theorem zr25{a n b:Nat}(h:a+n<b):a<b:=VN (XW _ _) h
theorem zr26{a:Int}{m:Int}(d:decide (0<m)=true):¬a%m<0:=Int.not_lt.mpr (Yg _ (Int.ne_of_gt (of_decide_eq_true d)))
theorem zr27{a b k:Nat}(h:a+k<b):k<b-a:=Nat.lt_sub_of_add_lt (Yl a k▸h)
theorem zr29{a n k:Nat}(h:k<n-a):a+k<n:=Nat.add_lt_of_lt_sub' h
theorem JI{a n j:Nat}(h:a=n)(g:j<n):j<a:=h▸g
theorem zr31{a n j:Nat}(h:a=n)(g:decide (j<n)=true):j<a:=h▸of_decide_eq_true g
theorem zr32{a n j:Nat}(h:a=n)(g:decide (n<=j)=true):a<=j:=h▸of_decide_eq_true g
theorem zr34{a b n:Nat}(h:b+(n+1)<=a):b+1+n<=a:=zr33▸h
theorem zr35{a b n c:Nat}(h:b+(n+1)<=a)(d:decide (a<c)=true):b+1<c:=VN (Qp (Nat.add_le_add_left (Nat.succ_le_succ (Vj n)) b) h) (of_decide_eq_true d)
theorem zr36{k a b:Nat}(h:¬a+k<b):¬k<b-a:=λq=>h (zr29 q)
theorem zr37{t:Nat}{n:Nat}(h:t<n+1):n+1-t=n-t+1:=Nat.succ_sub (YF h)
theorem zr38{a b:Nat}(h:a<=b):b+1-a=b-a+1:=Nat.succ_sub h
theorem zr39{a b:Nat}(h:¬a<=b):a-b=a-b-1+1:=(Nat.sub_add_cancel (Nat.sub_pos_of_lt (Nat.not_le.mp h))).symm
theorem zr41{d m c:Nat}(h:d<=m)(e:decide (m<c)=true):(d:Int)<(c:Int):=Int.ofNat_lt.mpr (VN h (of_decide_eq_true e))
theorem zr45{a b x m c:Nat}(h:a<=x)(g:b<=m)(d:decide (x+m<=c)=true):a+b<=c:=Qp (Nat.add_le_add h g) (of_decide_eq_true d)
theorem zr46{a b c x y z m:Nat}(h:a<=x)(g:b<=y)(k:c<=z)(d:decide (x+y+z<=m)=true):a+b+c<=m:=Qp (Nat.add_le_add (Nat.add_le_add h g) k) (of_decide_eq_true d)
theorem zr47{L x:Nat}:L-x+min x L=L:=by rw [Nat.min_comm];exact Nat.sub_add_min_cancel L x
theorem zr51{t:Int}(h:1<=t):0<=t:=Zl (by decide) h
theorem zr49{t:Int}{k:Nat}(h:1<=t):0<=t+(k:Int):=Int.add_nonneg (zr51 h) (XA _)
theorem zr50{t:Int}{k:Nat}(h:1<=t):¬t+(k:Int)<0:=Int.not_lt.mpr (zr49 h)
theorem zr53{b a:Nat}(h:a<b)(g:b<5):a<5:=Zn h g
theorem zr54{k:Nat}(h:k<5):k=0∨k=1∨k=2∨k=3∨k=4:=(by decide:∀k,k<5->k=0∨k=1∨k=2∨k=3∨k=4) k h
theorem zr55{k a:Nat}(h:k<4)(g:a<1+k):a<5:=Zn g (zr19 h)
theorem zr58{a:Nat}(h:a=1∨a=2∨a=3):1<=a:=by rcases h with rfl | rfl | rfl<;>decide
theorem zr59{a:Nat}(h:a=1∨a=2∨a=3):a<=3:=by rcases h with rfl | rfl | rfl<;>decide
theorem zr60{n k:Nat}(h:k<n+1):k<n∨k=n:=Nat.lt_or_eq_of_le (YF h)
theorem i2_7.{u0,u1}{α0:Sort u0}{α1:Sort u1}{A0 A1 A2 A3 A4 A5 A6:α0->α1->Prop}(x0:α0)(x1:α1)(h0:A0 x0 x1)(h1:A1 x0 x1)(h2:A2 x0 x1)(h3:A3 x0 x1)(h4:A4 x0 x1)(h5:A5 x0 x1)(h6:A6 x0 x1):∃x0,∃x1,A0 x0 x1/\A1 x0 x1/\A2 x0 x1/\A3 x0 x1/\A4 x0 x1/\A5 x0 x1/\A6 x0 x1:=⟨x0,x1,h0,h1,h2,h3,h4,h5,h6⟩
theorem i3_8.{u0,u1,u2}{α0:Sort u0}{α1:Sort u1}{α2:Sort u2}{A0 A1 A2 A3 A4 A5 A6 A7:α0->α1->α2->Prop}(x0:α0)(x1:α1)(x2:α2)(h0:A0 x0 x1 x2)(h1:A1 x0 x1 x2)(h2:A2 x0 x1 x2)(h3:A3 x0 x1 x2)(h4:A4 x0 x1 x2)(h5:A5 x0 x1 x2)(h6:A6 x0 x1 x2)(h7:A7 x0 x1 x2):∃x0,∃x1,∃x2,A0 x0 x1 x2/\A1 x0 x1 x2/\A2 x0 x1 x2/\A3 x0 x1 x2/\A4 x0 x1 x2/\A5 x0 x1 x2/\A6 x0 x1 x2/\A7 x0 x1 x2:=⟨x0,x1,x2,h0,h1,h2,h3,h4,h5,h6,h7⟩
theorem i5_8.{u0,u1,u2,u3,u4}{α0:Sort u0}{α1:Sort u1}{α2:Sort u2}{α3:Sort u3}{α4:Sort u4}{A0 A1 A2 A3 A4 A5 A6 A7:α0->α1->α2->α3->α4->Prop}(x0:α0)(x1:α1)(x2:α2)(x3:α3)(x4:α4)(h0:A0 x0 x1 x2 x3 x4)(h1:A1 x0 x1 x2 x3 x4)(h2:A2 x0 x1 x2 x3 x4)(h3:A3 x0 x1 x2 x3 x4)(h4:A4 x0 x1 x2 x3 x4)(h5:A5 x0 x1 x2 x3 x4)(h6:A6 x0 x1 x2 x3 x4)(h7:A7 x0 x1 x2 x3 x4):∃x0,∃x1,∃x2,∃x3,∃x4,A0 x0 x1 x2 x3 x4/\A1 x0 x1 x2 x3 x4/\A2 x0 x1 x2 x3 x4/\A3 x0 x1 x2 x3 x4/\A4 x0 x1 x2 x3 x4/\A5 x0 x1 x2 x3 x4/\A6 x0 x1 x2 x3 x4/\A7 x0 x1 x2 x3 x4:=⟨x0,x1,x2,x3,x4,h0,h1,h2,h3,h4,h5,h6,h7⟩
theorem i7_4.{u0,u1,u2,u3,u4,u5,u6}{α0:Sort u0}{α1:Sort u1}{α2:Sort u2}{α3:Sort u3}{α4:Sort u4}{α5:Sort u5}{α6:Sort u6}{A0 A1 A2 A3:α0->α1->α2->α3->α4->α5->α6->Prop}(x0:α0)(x1:α1)(x2:α2)(x3:α3)(x4:α4)(x5:α5)(x6:α6)(h0:A0 x0 x1 x2 x3 x4 x5 x6)(h1:A1 x0 x1 x2 x3 x4 x5 x6)(h2:A2 x0 x1 x2 x3 x4 x5 x6)(h3:A3 x0 x1 x2 x3 x4 x5 x6):∃x0,∃x1,∃x2,∃x3,∃x4,∃x5,∃x6,A0 x0 x1 x2 x3 x4 x5 x6/\A1 x0 x1 x2 x3 x4 x5 x6/\A2 x0 x1 x2 x3 x4 x5 x6/\A3 x0 x1 x2 x3 x4 x5 x6:=⟨x0,x1,x2,x3,x4,x5,x6,h0,h1,h2,h3⟩
theorem i11_11.{u0,u1,u2,u3,u4,u5,u6,u7,u8,u9,u10}{α0:Sort u0}{α1:Sort u1}{α2:Sort u2}{α3:Sort u3}{α4:Sort u4}{α5:Sort u5}{α6:Sort u6}{α7:Sort u7}{α8:Sort u8}{α9:Sort u9}{α10:Sort u10}{A0 A1 A2 A3 A4 A5 A6 A7 A8 A9 A10:α0->α1->α2->α3->α4->α5->α6->α7->α8->α9->α10->Prop}(x0:α0)(x1:α1)(x2:α2)(x3:α3)(x4:α4)(x5:α5)(x6:α6)(x7:α7)(x8:α8)(x9:α9)(x10:α10)(h0:A0 x0 x1 x2 x3 x4 x5 x6 x7 x8 x9 x10)(h1:A1 x0 x1 x2 x3 x4 x5 x6 x7 x8 x9 x10)(h2:A2 x0 x1 x2 x3 x4 x5 x6 x7 x8 x9 x10)(h3:A3 x0 x1 x2 x3 x4 x5 x6 x7 x8 x9 x10)(h4:A4 x0 x1 x2 x3 x4 x5 x6 x7 x8 x9 x10)(h5:A5 x0 x1 x2 x3 x4 x5 x6 x7 x8 x9 x10)(h6:A6 x0 x1 x2 x3 x4 x5 x6 x7 x8 x9 x10)(h7:A7 x0 x1 x2 x3 x4 x5 x6 x7 x8 x9 x10)(h8:A8 x0 x1 x2 x3 x4 x5 x6 x7 x8 x9 x10)(h9:A9 x0 x1 x2 x3 x4 x5 x6 x7 x8 x9 x10)(h10:A10 x0 x1 x2 x3 x4 x5 x6 x7 x8 x9 x10):∃x0,∃x1,∃x2,∃x3,∃x4,∃x5,∃x6,∃x7,∃x8,∃x9,∃x10,A0 x0 x1 x2 x3 x4 x5 x6 x7 x8 x9 x10/\A1 x0 x1 x2 x3 x4 x5 x6 x7 x8 x9 x10/\A2 x0 x1 x2 x3 x4 x5 x6 x7 x8 x9 x10/\A3 x0 x1 x2 x3 x4 x5 x6 x7 x8 x9 x10/\A4 x0 x1 x2 x3 x4 x5 x6 x7 x8 x9 x10/\A5 x0 x1 x2 x3 x4 x5 x6 x7 x8 x9 x10/\A6 x0 x1 x2 x3 x4 x5 x6 x7 x8 x9 x10/\A7 x0 x1 x2 x3 x4 x5 x6 x7 x8 x9 x10/\A8 x0 x1 x2 x3 x4 x5 x6 x7 x8 x9 x10/\A9 x0 x1 x2 x3 x4 x5 x6 x7 x8 x9 x10/\A10 x0 x1 x2 x3 x4 x5 x6 x7 x8 x9 x10:=⟨x0,x1,x2,x3,x4,x5,x6,x7,x8,x9,x10,h0,h1,h2,h3,h4,h5,h6,h7,h8,h9,h10⟩
theorem e2_7.{u0,u1}{α0:Sort u0}{α1:Sort u1}{A0 A1 A2 A3 A4 A5 A6:α0->α1->Prop}{G:Prop}(z:∃x0,∃x1,A0 x0 x1/\A1 x0 x1/\A2 x0 x1/\A3 x0 x1/\A4 x0 x1/\A5 x0 x1/\A6 x0 x1)(t:∀x0 x1,A0 x0 x1->A1 x0 x1->A2 x0 x1->A3 x0 x1->A4 x0 x1->A5 x0 x1->A6 x0 x1->G):G:=z.elim λx0 z1=>z1.elim λx1 z2=>t x0 x1 z2.1 z2.2.1 z2.2.2.1 z2.2.2.2.1 z2.2.2.2.2.1 z2.2.2.2.2.2.1 z2.2.2.2.2.2.2
theorem e3_8.{u0,u1,u2}{α0:Sort u0}{α1:Sort u1}{α2:Sort u2}{A0 A1 A2 A3 A4 A5 A6 A7:α0->α1->α2->Prop}{G:Prop}(z:∃x0,∃x1,∃x2,A0 x0 x1 x2/\A1 x0 x1 x2/\A2 x0 x1 x2/\A3 x0 x1 x2/\A4 x0 x1 x2/\A5 x0 x1 x2/\A6 x0 x1 x2/\A7 x0 x1 x2)(t:∀x0 x1 x2,A0 x0 x1 x2->A1 x0 x1 x2->A2 x0 x1 x2->A3 x0 x1 x2->A4 x0 x1 x2->A5 x0 x1 x2->A6 x0 x1 x2->A7 x0 x1 x2->G):G:=z.elim λx0 z1=>z1.elim λx1 z2=>z2.elim λx2 z3=>t x0 x1 x2 z3.1 z3.2.1 z3.2.2.1 z3.2.2.2.1 z3.2.2.2.2.1 z3.2.2.2.2.2.1 z3.2.2.2.2.2.2.1 z3.2.2.2.2.2.2.2
theorem e5_8.{u0,u1,u2,u3,u4}{α0:Sort u0}{α1:Sort u1}{α2:Sort u2}{α3:Sort u3}{α4:Sort u4}{A0 A1 A2 A3 A4 A5 A6 A7:α0->α1->α2->α3->α4->Prop}{G:Prop}(z:∃x0,∃x1,∃x2,∃x3,∃x4,A0 x0 x1 x2 x3 x4/\A1 x0 x1 x2 x3 x4/\A2 x0 x1 x2 x3 x4/\A3 x0 x1 x2 x3 x4/\A4 x0 x1 x2 x3 x4/\A5 x0 x1 x2 x3 x4/\A6 x0 x1 x2 x3 x4/\A7 x0 x1 x2 x3 x4)(t:∀x0 x1 x2 x3 x4,A0 x0 x1 x2 x3 x4->A1 x0 x1 x2 x3 x4->A2 x0 x1 x2 x3 x4->A3 x0 x1 x2 x3 x4->A4 x0 x1 x2 x3 x4->A5 x0 x1 x2 x3 x4->A6 x0 x1 x2 x3 x4->A7 x0 x1 x2 x3 x4->G):G:=z.elim λx0 z1=>z1.elim λx1 z2=>z2.elim λx2 z3=>z3.elim λx3 z4=>z4.elim λx4 z5=>t x0 x1 x2 x3 x4 z5.1 z5.2.1 z5.2.2.1 z5.2.2.2.1 z5.2.2.2.2.1 z5.2.2.2.2.2.1 z5.2.2.2.2.2.2.1 z5.2.2.2.2.2.2.2
theorem e7_4.{u0,u1,u2,u3,u4,u5,u6}{α0:Sort u0}{α1:Sort u1}{α2:Sort u2}{α3:Sort u3}{α4:Sort u4}{α5:Sort u5}{α6:Sort u6}{A0 A1 A2 A3:α0->α1->α2->α3->α4->α5->α6->Prop}{G:Prop}(z:∃x0,∃x1,∃x2,∃x3,∃x4,∃x5,∃x6,A0 x0 x1 x2 x3 x4 x5 x6/\A1 x0 x1 x2 x3 x4 x5 x6/\A2 x0 x1 x2 x3 x4 x5 x6/\A3 x0 x1 x2 x3 x4 x5 x6)(t:∀x0 x1 x2 x3 x4 x5 x6,A0 x0 x1 x2 x3 x4 x5 x6->A1 x0 x1 x2 x3 x4 x5 x6->A2 x0 x1 x2 x3 x4 x5 x6->A3 x0 x1 x2 x3 x4 x5 x6->G):G:=z.elim λx0 z1=>z1.elim λx1 z2=>z2.elim λx2 z3=>z3.elim λx3 z4=>z4.elim λx4 z5=>z5.elim λx5 z6=>z6.elim λx6 z7=>t x0 x1 x2 x3 x4 x5 x6 z7.1 z7.2.1 z7.2.2.1 z7.2.2.2
theorem e11_11.{u0,u1,u2,u3,u4,u5,u6,u7,u8,u9,u10}{α0:Sort u0}{α1:Sort u1}{α2:Sort u2}{α3:Sort u3}{α4:Sort u4}{α5:Sort u5}{α6:Sort u6}{α7:Sort u7}{α8:Sort u8}{α9:Sort u9}{α10:Sort u10}{A0 A1 A2 A3 A4 A5 A6 A7 A8 A9 A10:α0->α1->α2->α3->α4->α5->α6->α7->α8->α9->α10->Prop}{G:Prop}(z:∃x0,∃x1,∃x2,∃x3,∃x4,∃x5,∃x6,∃x7,∃x8,∃x9,∃x10,A0 x0 x1 x2 x3 x4 x5 x6 x7 x8 x9 x10/\A1 x0 x1 x2 x3 x4 x5 x6 x7 x8 x9 x10/\A2 x0 x1 x2 x3 x4 x5 x6 x7 x8 x9 x10/\A3 x0 x1 x2 x3 x4 x5 x6 x7 x8 x9 x10/\A4 x0 x1 x2 x3 x4 x5 x6 x7 x8 x9 x10/\A5 x0 x1 x2 x3 x4 x5 x6 x7 x8 x9 x10/\A6 x0 x1 x2 x3 x4 x5 x6 x7 x8 x9 x10/\A7 x0 x1 x2 x3 x4 x5 x6 x7 x8 x9 x10/\A8 x0 x1 x2 x3 x4 x5 x6 x7 x8 x9 x10/\A9 x0 x1 x2 x3 x4 x5 x6 x7 x8 x9 x10/\A10 x0 x1 x2 x3 x4 x5 x6 x7 x8 x9 x10)(t:∀x0 x1 x2 x3 x4 x5 x6 x7 x8 x9 x10,A0 x0 x1 x2 x3 x4 x5 x6 x7 x8 x9 x10->A1 x0 x1 x2 x3 x4 x5 x6 x7 x8 x9 x10->A2 x0 x1 x2 x3 x4 x5 x6 x7 x8 x9 x10->A3 x0 x1 x2 x3 x4 x5 x6 x7 x8 x9 x10->A4 x0 x1 x2 x3 x4 x5 x6 x7 x8 x9 x10->A5 x0 x1 x2 x3 x4 x5 x6 x7 x8 x9 x10->A6 x0 x1 x2 x3 x4 x5 x6 x7 x8 x9 x10->A7 x0 x1 x2 x3 x4 x5 x6 x7 x8 x9 x10->A8 x0 x1 x2 x3 x4 x5 x6 x7 x8 x9 x10->A9 x0 x1 x2 x3 x4 x5 x6 x7 x8 x9 x10->A10 x0 x1 x2 x3 x4 x5 x6 x7 x8 x9 x10->G):G:=z.elim λx0 z1=>z1.elim λx1 z2=>z2.elim λx2 z3=>z3.elim λx3 z4=>z4.elim λx4 z5=>z5.elim λx5 z6=>z6.elim λx6 z7=>z7.elim λx7 z8=>z8.elim λx8 z9=>z9.elim λx9 z10=>z10.elim λx10 z11=>t x0 x1 x2 x3 x4 x5 x6 x7 x8 x9 x10 z11.1 z11.2.1 z11.2.2.1 z11.2.2.2.1 z11.2.2.2.2.1 z11.2.2.2.2.2.1 z11.2.2.2.2.2.2.1 z11.2.2.2.2.2.2.2.1 z11.2.2.2.2.2.2.2.2.1 z11.2.2.2.2.2.2.2.2.2.1 z11.2.2.2.2.2.2.2.2.2.2
noncomputable def sA(i:Nat):Stmt:=YJ.main.body.getD i (.Pass ⟨0,0,0,0⟩)
noncomputable def mA(i j:Nat):Stmt:=if h:(sA i).ctorIdx=2 then Stmt.ClassDef.elim (motive_2:=λ_=>XM) (sA i) h λ_ _ _ b _ _ _ _ _ _ _=>b.getD j (.Pass ⟨0,0,0,0⟩)else sA i
noncomputable def aP(s:XM):Arguments:=if h:s.ctorIdx=0 then Stmt.FunctionDef.elim (motive_2:=λ_=>Arguments) s h λ_ a _ _ _ _ _ _ _ _=>a else⟨[],[],Qg,[],[],Qg,[]⟩
noncomputable def bP(s:XM):List Stmt:=if h:s.ctorIdx=0 then Stmt.FunctionDef.elim (motive_2:=λ_=>List XM) s h λ_ _ b _ _ _ _ _ _ _=>b else if h:s.ctorIdx=2 then Stmt.ClassDef.elim (motive_2:=λ_=>List XM) s h λ_ _ _ b _ _ _ _ _ _ _=>b else []
noncomputable def cP(s:XM):Scope:=if h:s.ctorIdx=0 then Stmt.FunctionDef.elim (motive_2:=λ_=>Scope) s h λ_ _ _ _ _ _ c _ _ _=>c else if h:s.ctorIdx=2 then Stmt.ClassDef.elim (motive_2:=λ_=>Scope) s h λ_ _ _ _ _ _ c _ _ _ _=>c else { kind:=.module,names:=[],isGenerator:=false,isCoroutine:=false,more:=[] }
noncomputable def en(P:Y3)(x:Qd)(t:Nat)(v:Qm):DictEntry:={ hash:=VD P x,key:=.str x t,val:=v }
abbrev hqO:=Y3->Obj
noncomputable def hqt(l:Array Qm):hqO:=λ_=>{ cls:=.type "tuple",data:=.seq l }
noncomputable def hqf(l:Array Qm):hqO:=λ_=>{ cls:=.none,data:=.fields l }
noncomputable def hqc(l:Array Qm):hqO:=λ_=>{ cls:=.type "code",data:=.fields l }
noncomputable def hqd(l:List VJ)(n:Nat):Obj:={ cls:=.type "dict",data:=.dict ⟨l⟩ n }
noncomputable def hq0(x y:Qd)(a b:XM)(c:Scope):hqO:=λ_=>{ cls:=.none,data:=.func { name:=x,qualname:=y,params:=aP a,body:=.stmts (bP b),scope:=c,globals:=0,closure:=[],defaults:=.none,kwdefaults:=.none } }
noncomputable def hq1(x y:Qd)(a b:XM)(c:Scope)(g:Qk)(m:Qm)(k:Qk):hqO:=λ_=>{ cls:=.type "function",data:=.func { name:=x,qualname:=y,params:=aP a,body:=.stmts (bP b),scope:=c,globals:=g,closure:=[],defaults:=.none,kwdefaults:=.none,pyModule:=m,code:=.ref k } }
noncomputable def hqe(x:Qd):Qd×NameKind:=(x,.cell)
noncomputable def hql(x:Qd):Qd×NameKind:=(x,.local)
noncomputable def hqg(x:Qd):Qd×NameKind:=(x,.globalImplicit)
noncomputable def hqn(o:hqO)(l r:Y3->BT):Y3->BT:=λP=>.node (o P) (l P) (r P)
noncomputable def hqm(o:hqO)(l:Y3->BT):Y3->BT:=λP=>.node (o P) (l P) .nil
noncomputable def hqz(o:hqO):Y3->BT:=λP=>.node (o P) .nil .nil
noncomputable def top.env_1:Env:={ scope:=YJ.main.scope,locals:=mainNs,globals:=mainNs,cells:=[],code:=.ref 13,frame:=Qf 14 }
noncomputable def hqC1:Scope:={ kind:=.function,names:=[hqe "script",hqe "cells",hqe "one",hqe "two",hqe "draw",hqe "k",hqe "own",hqe "other",hqe "signs",hql "numbers",hqe "names",hqe "hand",hql "row",hql "text",hql "pages",hql "read",hqe "words",hql "first",hqe "wishes",hqe "nearer",hql "b",hql "a",hqe "third",hqe "leads",hql "lines",hql "tail",hql "wish",hqe "depths",hql "last",hql "pairs",hql "due",hqg "enumerate",hqg "_law_depths",hqg "range",hqg "_escape_cdata",hqg "_escape_cdata_c14n",hqg "_escape_attrib",hqg "_escape_attrib_html",hqg "_escape_attrib_c14n",hqg "_law_read",hqg "_law_told",hqg "_law_ends",hqg "_law_grown",hqg "_law_pushed",hqg "Whitespace"],isGenerator:=false,isCoroutine:=false,more:=[(QM "fast",V7 "script"),(QM "fast",V7 "place"),(QM "fast",V7 "base"),(QM "fast",V7 "x"),(QM "fast",V7 "cells"),(QM "fast",V7 "one"),(QM "fast",V7 "two"),(QM "fast",V7 "draw"),(QM "fast",V7 "k"),(QM "fast",V7 "own"),(QM "fast",V7 "other"),(QM "fast",V7 "signs"),(QM "fast",V7 "numbers"),(QM "fast",V7 "number"),(QM "fast",V7 "names"),(QM "fast",V7 "hand"),(QM "fast",V7 "row"),(QM "fast",V7 "text"),(QM "fast",V7 "pages"),(QM "fast",V7 "read"),(QM "fast",V7 "words"),(QM "fast",V7 "first"),(QM "fast",V7 "line"),(QM "fast",V7 "wishes"),(QM "fast",V7 "nearer"),(QM "fast",V7 "b"),(QM "fast",V7 "a"),(QM "fast",V7 "third"),(QM "fast",V7 "leads"),(QM "fast",V7 "lines"),(QM "fast",V7 "tail"),(QM "fast",V7 "wish"),(QM "fast",V7 "depths"),(QM "fast",V7 "last"),(QM "fast",V7 "t"),(QM "fast",V7 "pairs"),(QM "fast",V7 "y"),(QM "fast",V7 "due")] }
def o_1:hqO:=hqt #[]
def o_2:hqO:=hqf #[]
def o_3:hqO:=hqc #[.str "<module>" 182,.str "<module>" 183,.str "/claim/cut.py" 184,.int 1 0,.int 0 0,.int 0 0,.int 0 0,.int 0 0,.ref 11,.bool false,.int 181 0,.ref 12,.none,.none,.none,.none,.int 185 0,.int 1 0,.str "/claim/cut.py" 186]
noncomputable def o_4:hqO:=λP=>{ cls:=.type "frame",slots:=#[Qf (.ref 13),Qf (.ref 3),Qf (.ref 3),Qg,Qf (.str "__main__" 164),Qg,Qf (.ref 0)] }
noncomputable def s_4:List Stmt:=[sA 0,sA 1]
def t_4:Y3->BT:=hqn Z4 (hqn Z5 (hqn W.boot_o_3 (hqz Z6) (hqz o_1)) (hqn Z7 (hqz Z8) (hqz o_3))) (hqn Yz (hqn Z9 (hqz Za) (hqz o_2)) (hqn Zb (hqz YK) (hqz o_4)))
noncomputable def hqP5(P:Y3):List DictEntry:=[en P "__name__" 165 (.str "cpy313.tabnanny" 194),en P "__doc__" 166 (.none),en P "__package__" 167 (.none),en P "__loader__" 168 (.builtin "__main__.__loader__#opaque"),en P "__spec__" 169 (.none),en P "__annotations__" 170 (.ref 6),en P "__builtins__" 171 (.ref 4),en P "__file__" 173 (.str "/claim/cut.py" 172),en P "__cached__" 174 (.none),en P "_wall" 193 (.ref 21)]
def o_5:hqO:=λP=>hqd (hqP5 P) 10
def o_6:hqO:=hqf #[.int 1 0,.int 0 0,.ref 20]
def o_7:hqO:=hqt #[]
def o_8:hqO:=hqf #[]
def o_9:hqO:=hqt #[.str "k" 190]
def o_10:hqO:=hqt #[]
def o_11:hqO:=hq0 "_wall" "_wall" (sA 0) (sA 0) (cP (sA 0))
def o_12:hqO:=hqc #[.str "_wall" 187,.str "_wall" 188,.str "/claim/cut.py" 189,.int 1 0,.int 1 0,.int 0 0,.int 0 0,.int 3 0,.ref 15,.bool true,.int 181 0,.ref 16,.none,.ref 17,.ref 18,.ref 19,.int 191 0,.int 1 0,.str "/claim/cut.py" 192]
def o_13:hqO:=hq1 "_wall" "_wall" (sA 0) (sA 0) (cP (sA 0)) 3 (.str "__main__" 164) 20
def t_13:Y3->BT:=hqn Z4 (hqn Z5 (hqn o_5 (hqm Z6 (hqz o_7)) (hqm o_1 (hqz o_11))) (hqn Z7 (hqm Z8 (hqz o_9)) (hqm o_3 (hqz o_13)))) (hqn Yz (hqn Z9 (hqm Za (hqz o_8)) (hqm o_6 (hqz o_12))) (hqn Zb (hqm YK (hqz o_10)) (hqz o_4)))
def o_15:hqO:=λP=>hqd (hqP5 P++[en P "Whitespace" 295 (.ref 83)]) 11
noncomputable def s_15:List Stmt:=[sA 2]
def o_16:hqO:=hqf #[.int 1 0,.int 0 0,.ref 20,.int 5 0,.int 0 0,.ref 27]
def o_17:hqO:=hqt #[]
noncomputable def o_18:hqO:=λP=>{ cls:=.type "builtin_function_or_method",data:=.fields #[.builtin "type.__prepare__",.type "type"] }
def o_19:hqO:=λP=>hqd [en P "__module__" 203 (.str "cpy313.tabnanny" 194),en P "__qualname__" 205 (.str "Whitespace" 204),en P "__firstlineno__" 207 (.int 5 206),en P "S" 211 (.str " " 209),en P "T" 212 (.str "\t" 210),en P "__init__" 227 (.ref 38),en P "longest_run_of_spaces" 236 (.ref 45),en P "indent_level" 248 (.ref 52),en P "equal" 256 (.ref 59),en P "not_equal_witness" 264 (.ref 66),en P "less" 274 (.ref 73),en P "not_less_witness" 282 (.ref 80),en P "__static_attributes__" 288 (.ref 81)] 13
def o_20:hqO:=hqt #[]
def o_21:hqO:=hqf #[.int 8 0,.int 4 0,.ref 37,.int 31 0,.int 4 0,.ref 44,.int 35 0,.int 4 0,.ref 51,.int 42 0,.int 4 0,.ref 58,.int 45 0,.int 4 0,.ref 65,.int 48 0,.int 4 0,.ref 72,.int 59 0,.int 4 0,.ref 79]
def o_22:hqO:=hqc #[.str "Whitespace" 198,.str "Whitespace" 199,.str "/claim/cut.py" 200,.int 5 0,.int 0 0,.int 0 0,.int 0 0,.int 0 0,.ref 25,.bool false,.int 181 0,.ref 26,.none,.none,.none,.none,.int 201 0,.int 5 0,.str "/claim/cut.py" 202]
noncomputable def o_23:hqO:=λP=>{ cls:=.type "frame",slots:=#[Qf (.ref 27),Qf (.ref 3),Qf (.ref 24),Qg,Qf (.str "cpy313.tabnanny" 194),Qg,Qf (.ref 0)] }
noncomputable def o_24:hqO:=λP=>{ cls:=.type "str_ascii_iterator",data:=.fields #[.none,.int 2 0] }
def o_25:hqO:=hqt #[]
noncomputable def o_26:hqO:=λP=>{ cls:=.type "StopIteration",data:=.fields #[.ref 30,.none,.none,.none,.bool false,.none] }
def o_27:hqO:=hqt #[]
def o_28:hqO:=hqf #[]
def o_29:hqO:=hqt #[.str "self" 216,.str "ws" 217,.str "S" 218,.str "T" 219,.str "count" 220,.str "b" 221,.str "n" 222,.str "nt" 223,.str "ch" 224]
def o_30:hqO:=hqt #[]
def o_31:hqO:=hq0 "__init__" "Whitespace.__init__" (mA 2 1) (mA 2 1) (cP (mA 2 1))
def o_32:hqO:=hqc #[.str "__init__" 213,.str "Whitespace.__init__" 214,.str "/claim/cut.py" 215,.int 8 0,.int 2 0,.int 0 0,.int 0 0,.int 3 0,.ref 32,.bool true,.int 181 0,.ref 33,.none,.ref 34,.ref 35,.ref 36,.int 225 0,.int 8 0,.str "/claim/cut.py" 226]
def o_33:hqO:=hq1 "__init__" "Whitespace.__init__" (mA 2 1) (mA 2 1) (cP (mA 2 1)) 3 (.str "cpy313.tabnanny" 194) 37
def o_34:hqO:=hqt #[]
def o_35:hqO:=hqf #[]
def o_36:hqO:=hqt #[.str "self" 231,.str "count" 232,.str "trailing" 233]
def o_37:hqO:=hqt #[]
def o_38:hqO:=hq0 "longest_run_of_spaces" "Whitespace.longest_run_of_spaces" (mA 2 2) (mA 2 2) (cP (mA 2 2))
def o_39:hqO:=hqc #[.str "longest_run_of_spaces" 228,.str "Whitespace.longest_run_of_spaces" 229,.str "/claim/cut.py" 230,.int 31 0,.int 1 0,.int 0 0,.int 0 0,.int 3 0,.ref 39,.bool true,.int 181 0,.ref 40,.none,.ref 41,.ref 42,.ref 43,.int 234 0,.int 31 0,.str "/claim/cut.py" 235]
def o_40:hqO:=hq1 "longest_run_of_spaces" "Whitespace.longest_run_of_spaces" (mA 2 2) (mA 2 2) (cP (mA 2 2)) 3 (.str "cpy313.tabnanny" 194) 44
def o_41:hqO:=hqt #[]
def o_42:hqO:=hqf #[]
def o_43:hqO:=hqt #[.str "self" 240,.str "tabsize" 241,.str "count" 242,.str "trailing" 243,.str "il" 244,.str "i" 245]
def o_44:hqO:=hqt #[]
def o_45:hqO:=hq0 "indent_level" "Whitespace.indent_level" (mA 2 3) (mA 2 3) (cP (mA 2 3))
def o_46:hqO:=hqc #[.str "indent_level" 237,.str "Whitespace.indent_level" 238,.str "/claim/cut.py" 239,.int 35 0,.int 2 0,.int 0 0,.int 0 0,.int 3 0,.ref 46,.bool true,.int 181 0,.ref 47,.none,.ref 48,.ref 49,.ref 50,.int 246 0,.int 35 0,.str "/claim/cut.py" 247]
def o_47:hqO:=hq1 "indent_level" "Whitespace.indent_level" (mA 2 3) (mA 2 3) (cP (mA 2 3)) 3 (.str "cpy313.tabnanny" 194) 51
def o_48:hqO:=hqt #[]
def o_49:hqO:=hqf #[]
def o_50:hqO:=hqt #[.str "self" 252,.str "other" 253]
def o_51:hqO:=hqt #[]
def o_52:hqO:=hq0 "equal" "Whitespace.equal" (mA 2 4) (mA 2 4) (cP (mA 2 4))
def o_53:hqO:=hqc #[.str "equal" 249,.str "Whitespace.equal" 250,.str "/claim/cut.py" 251,.int 42 0,.int 2 0,.int 0 0,.int 0 0,.int 3 0,.ref 53,.bool true,.int 181 0,.ref 54,.none,.ref 55,.ref 56,.ref 57,.int 254 0,.int 42 0,.str "/claim/cut.py" 255]
def o_54:hqO:=hq1 "equal" "Whitespace.equal" (mA 2 4) (mA 2 4) (cP (mA 2 4)) 3 (.str "cpy313.tabnanny" 194) 58
def o_55:hqO:=hqt #[]
def o_56:hqO:=hqf #[]
def o_57:hqO:=hqt #[.str "self" 260,.str "other" 261]
def o_58:hqO:=hqt #[]
def o_59:hqO:=hq0 "not_equal_witness" "Whitespace.not_equal_witness" (mA 2 5) (mA 2 5) (cP (mA 2 7))
def o_60:hqO:=hqc #[.str "not_equal_witness" 257,.str "Whitespace.not_equal_witness" 258,.str "/claim/cut.py" 259,.int 45 0,.int 2 0,.int 0 0,.int 0 0,.int 3 0,.ref 60,.bool true,.int 181 0,.ref 61,.none,.ref 62,.ref 63,.ref 64,.int 262 0,.int 45 0,.str "/claim/cut.py" 263]
def o_61:hqO:=hq1 "not_equal_witness" "Whitespace.not_equal_witness" (mA 2 5) (mA 2 5) (cP (mA 2 7)) 3 (.str "cpy313.tabnanny" 194) 65
def o_62:hqO:=hqt #[]
def o_63:hqO:=hqf #[]
def o_64:hqO:=hqt #[.str "self" 268,.str "other" 269,.str "n" 270,.str "ts" 271]
def o_65:hqO:=hqt #[]
def o_66:hqO:=hq0 "less" "Whitespace.less" (mA 2 6) (mA 2 6) (cP (mA 2 6))
def o_67:hqO:=hqc #[.str "less" 265,.str "Whitespace.less" 266,.str "/claim/cut.py" 267,.int 48 0,.int 2 0,.int 0 0,.int 0 0,.int 3 0,.ref 67,.bool true,.int 181 0,.ref 68,.none,.ref 69,.ref 70,.ref 71,.int 272 0,.int 48 0,.str "/claim/cut.py" 273]
def o_68:hqO:=hq1 "less" "Whitespace.less" (mA 2 6) (mA 2 6) (cP (mA 2 6)) 3 (.str "cpy313.tabnanny" 194) 72
def o_69:hqO:=hqt #[]
def o_70:hqO:=hqf #[]
def o_71:hqO:=hqt #[.str "self" 278,.str "other" 279]
def o_72:hqO:=hqt #[]
def o_73:hqO:=hq0 "not_less_witness" "Whitespace.not_less_witness" (mA 2 7) (mA 2 7) (cP (mA 2 7))
def o_74:hqO:=hqc #[.str "not_less_witness" 275,.str "Whitespace.not_less_witness" 276,.str "/claim/cut.py" 277,.int 59 0,.int 2 0,.int 0 0,.int 0 0,.int 3 0,.ref 74,.bool true,.int 181 0,.ref 75,.none,.ref 76,.ref 77,.ref 78,.int 280 0,.int 59 0,.str "/claim/cut.py" 281]
def o_75:hqO:=hq1 "not_less_witness" "Whitespace.not_less_witness" (mA 2 7) (mA 2 7) (cP (mA 2 7)) 3 (.str "cpy313.tabnanny" 194) 79
def o_76:hqO:=hqt #[.str "is_simple" 283,.str "n" 284,.str "norm" 285,.str "nt" 286,.str "raw" 287]
def o_77:hqO:=λP=>hqd [en P "__module__" 203 (.str "cpy313.tabnanny" 194),en P "__firstlineno__" 207 (.int 5 206),en P "S" 211 (.str " " 209),en P "T" 212 (.str "\t" 210),en P "__init__" 227 (.ref 38),en P "longest_run_of_spaces" 236 (.ref 45),en P "indent_level" 248 (.ref 52),en P "equal" 256 (.ref 59),en P "not_equal_witness" 264 (.ref 66),en P "less" 274 (.ref 73),en P "not_less_witness" 282 (.ref 80),en P "__static_attributes__" 288 (.ref 81),en P "__dict__" 290 (.ref 84),en P "__weakref__" 292 (.ref 85),en P "__doc__" 293 (.none)] 4
noncomputable def o_78:hqO:=λP=>{ cls:=.type "type",data:=.cls { name:="Whitespace",bases:=[.type "object"],mro:=[.ref 83,.type "object"],ns:=82,qualname:="Whitespace" },slots:=#[Qg,Qg,Qf (.str "Whitespace" 196),Qf (.str "Whitespace" 204),Qf (.builtin "object.__new__"),Qf (.bool true)] }
noncomputable def o_79:hqO:=λP=>{ cls:=.type "getset_descriptor",data:=.fields #[.str "__dict__" 289,.ref 83,.builtin "function.__dict__",.builtin "function.__dict__#set"] }
noncomputable def o_80:hqO:=λP=>{ cls:=.type "getset_descriptor",data:=.fields #[.str "__weakref__" 291,.ref 83,.builtin "ExceptionGroup.__weakref__",.none] }
noncomputable def o_81:hqO:=λP=>{ cls:=.type "super",data:=.fields #[.ref 83,.ref 83,.ref 83] }
noncomputable def o_82:hqO:=λP=>{ cls:=.type "builtin_function_or_method",data:=.fields #[.builtin "object.__init_subclass__",.ref 83] }
def t_82:Y3->BT:=hqn Z4 (hqn Z5 (hqn o_15 (hqn Z6 (hqn o_7 (hqm o_26 (hqz o_58)) (hqm o_42 (hqz o_74))) (hqn o_18 (hqm o_34 (hqz o_66)) (hqm o_50 (hqz o_82)))) (hqn o_1 (hqn o_11 (hqm o_30 (hqz o_62)) (hqm o_46 (hqz o_78))) (hqn o_22 (hqm o_38 (hqz o_70)) (hqz o_54)))) (hqn Z7 (hqn Z8 (hqn o_9 (hqm o_28 (hqz o_60)) (hqm o_44 (hqz o_76))) (hqn o_20 (hqm o_36 (hqz o_68)) (hqz o_52))) (hqn o_3 (hqn o_13 (hqm o_32 (hqz o_64)) (hqm o_48 (hqz o_80))) (hqn o_24 (hqm o_40 (hqz o_72)) (hqz o_56))))) (hqn Yz (hqn Z9 (hqn Za (hqn o_8 (hqm o_27 (hqz o_59)) (hqm o_43 (hqz o_75))) (hqn o_19 (hqm o_35 (hqz o_67)) (hqz o_51))) (hqn o_16 (hqn o_12 (hqm o_31 (hqz o_63)) (hqm o_47 (hqz o_79))) (hqn o_23 (hqm o_39 (hqz o_71)) (hqz o_55)))) (hqn Zb (hqn YK (hqn o_10 (hqm o_29 (hqz o_61)) (hqm o_45 (hqz o_77))) (hqn o_21 (hqm o_37 (hqz o_69)) (hqz o_53))) (hqn o_4 (hqn o_17 (hqm o_33 (hqz o_65)) (hqm o_49 (hqz o_81))) (hqn o_25 (hqm o_41 (hqz o_73)) (hqz o_57)))))
noncomputable def hqP86(P:Y3):List DictEntry:=[en P "__name__" 165 (.str "cpy313.token" 296),en P "__doc__" 166 (.none),en P "__package__" 167 (.none),en P "__loader__" 168 (.builtin "__main__.__loader__#opaque"),en P "__spec__" 169 (.none),en P "__annotations__" 170 (.ref 6),en P "__builtins__" 171 (.ref 4),en P "__file__" 173 (.str "/claim/cut.py" 172),en P "__cached__" 174 (.none),en P "_wall" 193 (.ref 21),en P "Whitespace" 295 (.ref 83),en P "LPAR" 299 (.int 7 298),en P "RPAR" 301 (.int 8 300),en P "LSQB" 303 (.int 9 302),en P "RSQB" 305 (.int 10 304),en P "COLON" 307 (.int 11 306),en P "COMMA" 309 (.int 12 308),en P "SEMI" 311 (.int 13 310),en P "PLUS" 313 (.int 14 312),en P "MINUS" 315 (.int 15 314),en P "STAR" 317 (.int 16 316),en P "SLASH" 319 (.int 17 318),en P "VBAR" 321 (.int 18 320),en P "AMPER" 323 (.int 19 322),en P "LESS" 325 (.int 20 324),en P "GREATER" 327 (.int 21 326),en P "EQUAL" 329 (.int 22 328),en P "DOT" 331 (.int 23 330),en P "PERCENT" 333 (.int 24 332),en P "LBRACE" 335 (.int 25 334),en P "RBRACE" 337 (.int 26 336),en P "EQEQUAL" 339 (.int 27 338),en P "NOTEQUAL" 341 (.int 28 340),en P "LESSEQUAL" 343 (.int 29 342),en P "GREATEREQUAL" 345 (.int 30 344),en P "TILDE" 347 (.int 31 346),en P "CIRCUMFLEX" 349 (.int 32 348),en P "LEFTSHIFT" 351 (.int 33 350),en P "RIGHTSHIFT" 353 (.int 34 352),en P "DOUBLESTAR" 355 (.int 35 354),en P "PLUSEQUAL" 357 (.int 36 356),en P "MINEQUAL" 359 (.int 37 358),en P "STAREQUAL" 361 (.int 38 360),en P "SLASHEQUAL" 363 (.int 39 362),en P "PERCENTEQUAL" 365 (.int 40 364),en P "AMPEREQUAL" 367 (.int 41 366),en P "VBAREQUAL" 369 (.int 42 368),en P "CIRCUMFLEXEQUAL" 371 (.int 43 370),en P "LEFTSHIFTEQUAL" 373 (.int 44 372),en P "RIGHTSHIFTEQUAL" 375 (.int 45 374),en P "DOUBLESTAREQUAL" 377 (.int 46 376),en P "DOUBLESLASH" 379 (.int 47 378),en P "DOUBLESLASHEQUAL" 381 (.int 48 380),en P "AT" 383 (.int 49 382)]
def o_86:hqO:=λP=>hqd (hqP86 P) 54
noncomputable def s_86:List Stmt:=[sA 3,sA 4,sA 5,sA 6,sA 7,sA 8,sA 9,sA 10,sA 11,sA 12,sA 13,sA 14,sA 15,sA 16,sA 17,sA 18,sA 19,sA 20,sA 21,sA 22,sA 23,sA 24,sA 25,sA 26,sA 27,sA 28,sA 29,sA 30,sA 31,sA 32,sA 33,sA 34,sA 35,sA 36,sA 37,sA 38,sA 39,sA 40,sA 41,sA 42,sA 43,sA 44,sA 45,sA 46]
def t_86:Y3->BT:=hqn Z4 (hqn Z5 (hqn o_86 (hqn Z6 (hqn o_7 (hqm o_26 (hqz o_58)) (hqm o_42 (hqz o_74))) (hqn o_18 (hqm o_34 (hqz o_66)) (hqm o_50 (hqz o_82)))) (hqn o_1 (hqn o_11 (hqm o_30 (hqz o_62)) (hqm o_46 (hqz o_78))) (hqn o_22 (hqm o_38 (hqz o_70)) (hqz o_54)))) (hqn Z7 (hqn Z8 (hqn o_9 (hqm o_28 (hqz o_60)) (hqm o_44 (hqz o_76))) (hqn o_20 (hqm o_36 (hqz o_68)) (hqz o_52))) (hqn o_3 (hqn o_13 (hqm o_32 (hqz o_64)) (hqm o_48 (hqz o_80))) (hqn o_24 (hqm o_40 (hqz o_72)) (hqz o_56))))) (hqn Yz (hqn Z9 (hqn Za (hqn o_8 (hqm o_27 (hqz o_59)) (hqm o_43 (hqz o_75))) (hqn o_19 (hqm o_35 (hqz o_67)) (hqz o_51))) (hqn o_16 (hqn o_12 (hqm o_31 (hqz o_63)) (hqm o_47 (hqz o_79))) (hqn o_23 (hqm o_39 (hqz o_71)) (hqz o_55)))) (hqn Zb (hqn YK (hqn o_10 (hqm o_29 (hqz o_61)) (hqm o_45 (hqz o_77))) (hqn o_21 (hqm o_37 (hqz o_69)) (hqz o_53))) (hqn o_4 (hqn o_17 (hqm o_33 (hqz o_65)) (hqm o_49 (hqz o_81))) (hqn o_25 (hqm o_41 (hqz o_73)) (hqz o_57)))))
def o_89:hqO:=λP=>hqd (hqP86 P++[en P "ATEQUAL" 385 (.int 50 384),en P "RARROW" 387 (.int 51 386),en P "ELLIPSIS" 389 (.int 52 388),en P "COLONEQUAL" 391 (.int 53 390),en P "EXCLAMATION" 393 (.int 54 392),en P "NT_OFFSET" 395 (.int 256 394)]) 60
noncomputable def s_89:List Stmt:=[sA 47,sA 48,sA 49,sA 50,sA 51,sA 52]
def t_89:Y3->BT:=hqn Z4 (hqn Z5 (hqn o_89 (hqn Z6 (hqn o_7 (hqm o_26 (hqz o_58)) (hqm o_42 (hqz o_74))) (hqn o_18 (hqm o_34 (hqz o_66)) (hqm o_50 (hqz o_82)))) (hqn o_1 (hqn o_11 (hqm o_30 (hqz o_62)) (hqm o_46 (hqz o_78))) (hqn o_22 (hqm o_38 (hqz o_70)) (hqz o_54)))) (hqn Z7 (hqn Z8 (hqn o_9 (hqm o_28 (hqz o_60)) (hqm o_44 (hqz o_76))) (hqn o_20 (hqm o_36 (hqz o_68)) (hqz o_52))) (hqn o_3 (hqn o_13 (hqm o_32 (hqz o_64)) (hqm o_48 (hqz o_80))) (hqn o_24 (hqm o_40 (hqz o_72)) (hqz o_56))))) (hqn Yz (hqn Z9 (hqn Za (hqn o_8 (hqm o_27 (hqz o_59)) (hqm o_43 (hqz o_75))) (hqn o_19 (hqm o_35 (hqz o_67)) (hqz o_51))) (hqn o_16 (hqn o_12 (hqm o_31 (hqz o_63)) (hqm o_47 (hqz o_79))) (hqn o_23 (hqm o_39 (hqz o_71)) (hqz o_55)))) (hqn Zb (hqn YK (hqn o_10 (hqm o_29 (hqz o_61)) (hqm o_45 (hqz o_77))) (hqn o_21 (hqm o_37 (hqz o_69)) (hqz o_53))) (hqn o_4 (hqn o_17 (hqm o_33 (hqz o_65)) (hqm o_49 (hqz o_81))) (hqn o_25 (hqm o_41 (hqz o_73)) (hqz o_57)))))
def o_92:hqO:=λP=>hqd (hqP86 P++[en P "ATEQUAL" 385 (.int 50 384),en P "RARROW" 387 (.int 51 386),en P "ELLIPSIS" 389 (.int 52 388),en P "COLONEQUAL" 391 (.int 53 390),en P "EXCLAMATION" 393 (.int 54 392),en P "NT_OFFSET" 395 (.int 256 394),en P "EXACT_TOKEN_TYPES" 492 (.ref 88)]) 61
noncomputable def s_92:List Stmt:=[sA 53]
def o_93:hqO:=λP=>hqd [en P "!" 396 (.int 54 392),en P "!=" 398 (.int 28 340),en P "%" 400 (.int 24 332),en P "%=" 402 (.int 40 364),en P "&" 404 (.int 19 322),en P "&=" 406 (.int 41 366),en P "(" 408 (.int 7 298),en P ")" 410 (.int 8 300),en P "*" 412 (.int 16 316),en P "**" 414 (.int 35 354),en P "**=" 416 (.int 46 376),en P "*=" 418 (.int 38 360),en P "+" 420 (.int 14 312),en P "+=" 422 (.int 36 356),en P "," 424 (.int 12 308),en P "-" 426 (.int 15 314),en P "-=" 428 (.int 37 358),en P "->" 430 (.int 51 386),en P "." 432 (.int 23 330),en P "..." 434 (.int 52 388),en P "/" 436 (.int 17 318),en P "//" 438 (.int 47 378),en P "//=" 440 (.int 48 380),en P "/=" 442 (.int 39 362),en P ":" 444 (.int 11 306),en P ":=" 446 (.int 53 390),en P ";" 448 (.int 13 310),en P "<" 450 (.int 20 324),en P "<<" 452 (.int 33 350),en P "<<=" 454 (.int 44 372),en P "<=" 456 (.int 29 342),en P "=" 458 (.int 22 328),en P "==" 460 (.int 27 338),en P ">" 462 (.int 21 326),en P ">=" 464 (.int 30 344),en P ">>" 465 (.int 34 352),en P ">>=" 466 (.int 45 374),en P "@" 467 (.int 49 382),en P "@=" 468 (.int 50 384),en P "[" 469 (.int 9 302),en P "]" 470 (.int 10 304),en P "^" 471 (.int 32 348),en P "^=" 472 (.int 43 370),en P "{" 473 (.int 25 334),en P "|" 474 (.int 18 320),en P "|=" 475 (.int 42 368),en P "}" 476 (.int 26 336),en P "~" 477 (.int 31 346)] 48
def o_94:hqO:=λP=>hqd [en P "->" 430 (.int 51 386),en P "." 432 (.int 23 330),en P "..." 434 (.int 52 388),en P "/" 436 (.int 17 318),en P "//" 438 (.int 47 378),en P "//=" 440 (.int 48 380),en P "/=" 442 (.int 39 362),en P ":" 444 (.int 11 306),en P ":=" 446 (.int 53 390),en P ";" 448 (.int 13 310),en P "<" 450 (.int 20 324),en P "<<" 452 (.int 33 350),en P "<<=" 454 (.int 44 372),en P "<=" 456 (.int 29 342),en P "=" 458 (.int 22 328),en P "==" 460 (.int 27 338),en P ">" 462 (.int 21 326)] 17
def o_95:hqO:=λP=>hqd [en P ">=" 464 (.int 30 344),en P ">>" 465 (.int 34 352),en P ">>=" 466 (.int 45 374),en P "@" 467 (.int 49 382),en P "@=" 468 (.int 50 384),en P "[" 469 (.int 9 302),en P "]" 470 (.int 10 304),en P "^" 471 (.int 32 348),en P "^=" 472 (.int 43 370),en P "{" 473 (.int 25 334),en P "|" 474 (.int 18 320),en P "|=" 475 (.int 42 368),en P "}" 476 (.int 26 336),en P "~" 477 (.int 31 346)] 14
def t_95:Y3->BT:=hqn Z4 (hqn Z5 (hqn o_92 (hqn Z6 (hqn o_7 (hqm o_26 (hqz o_58)) (hqm o_42 (hqz o_74))) (hqn o_18 (hqm o_34 (hqz o_66)) (hqm o_50 (hqz o_82)))) (hqn o_1 (hqn o_11 (hqm o_30 (hqz o_62)) (hqm o_46 (hqz o_78))) (hqn o_22 (hqm o_38 (hqz o_70)) (hqz o_54)))) (hqn Z7 (hqn Z8 (hqn o_9 (hqm o_28 (hqz o_60)) (hqm o_44 (hqz o_76))) (hqn o_20 (hqm o_36 (hqz o_68)) (hqm o_52 (hqz o_94)))) (hqn o_3 (hqn o_13 (hqm o_32 (hqz o_64)) (hqm o_48 (hqz o_80))) (hqn o_24 (hqm o_40 (hqz o_72)) (hqz o_56))))) (hqn Yz (hqn Z9 (hqn Za (hqn o_8 (hqm o_27 (hqz o_59)) (hqm o_43 (hqz o_75))) (hqn o_19 (hqm o_35 (hqz o_67)) (hqm o_51 (hqz o_93)))) (hqn o_16 (hqn o_12 (hqm o_31 (hqz o_63)) (hqm o_47 (hqz o_79))) (hqn o_23 (hqm o_39 (hqz o_71)) (hqz o_55)))) (hqn Zb (hqn YK (hqn o_10 (hqm o_29 (hqz o_61)) (hqm o_45 (hqz o_77))) (hqn o_21 (hqm o_37 (hqz o_69)) (hqm o_53 (hqz o_95)))) (hqn o_4 (hqn o_17 (hqm o_33 (hqz o_65)) (hqm o_49 (hqz o_81))) (hqn o_25 (hqm o_41 (hqz o_73)) (hqz o_57)))))
noncomputable def hqP99(P:Y3):List DictEntry:=[en P "__name__" 165 (.str "law_ta0102_01" 578),en P "__doc__" 166 (.none),en P "__package__" 167 (.none),en P "__loader__" 168 (.builtin "__main__.__loader__#opaque"),en P "__spec__" 169 (.none),en P "__annotations__" 170 (.ref 6),en P "__builtins__" 171 (.ref 4),en P "__file__" 173 (.str "/claim/cut.py" 172),en P "__cached__" 174 (.none),en P "_wall" 193 (.ref 21),en P "Whitespace" 295 (.ref 83),en P "LPAR" 299 (.int 7 298),en P "RPAR" 301 (.int 8 300),en P "LSQB" 303 (.int 9 302),en P "RSQB" 305 (.int 10 304),en P "COLON" 307 (.int 11 306),en P "COMMA" 309 (.int 12 308),en P "SEMI" 311 (.int 13 310),en P "PLUS" 313 (.int 14 312),en P "MINUS" 315 (.int 15 314),en P "STAR" 317 (.int 16 316),en P "SLASH" 319 (.int 17 318),en P "VBAR" 321 (.int 18 320),en P "AMPER" 323 (.int 19 322),en P "LESS" 325 (.int 20 324),en P "GREATER" 327 (.int 21 326),en P "EQUAL" 329 (.int 22 328),en P "DOT" 331 (.int 23 330),en P "PERCENT" 333 (.int 24 332),en P "LBRACE" 335 (.int 25 334),en P "RBRACE" 337 (.int 26 336),en P "EQEQUAL" 339 (.int 27 338),en P "NOTEQUAL" 341 (.int 28 340),en P "LESSEQUAL" 343 (.int 29 342),en P "GREATEREQUAL" 345 (.int 30 344),en P "TILDE" 347 (.int 31 346),en P "CIRCUMFLEX" 349 (.int 32 348),en P "LEFTSHIFT" 351 (.int 33 350),en P "RIGHTSHIFT" 353 (.int 34 352),en P "DOUBLESTAR" 355 (.int 35 354),en P "PLUSEQUAL" 357 (.int 36 356),en P "MINEQUAL" 359 (.int 37 358),en P "STAREQUAL" 361 (.int 38 360),en P "SLASHEQUAL" 363 (.int 39 362),en P "PERCENTEQUAL" 365 (.int 40 364),en P "AMPEREQUAL" 367 (.int 41 366),en P "VBAREQUAL" 369 (.int 42 368),en P "CIRCUMFLEXEQUAL" 371 (.int 43 370),en P "LEFTSHIFTEQUAL" 373 (.int 44 372),en P "RIGHTSHIFTEQUAL" 375 (.int 45 374),en P "DOUBLESTAREQUAL" 377 (.int 46 376),en P "DOUBLESLASH" 379 (.int 47 378),en P "DOUBLESLASHEQUAL" 381 (.int 48 380),en P "AT" 383 (.int 49 382),en P "ATEQUAL" 385 (.int 50 384),en P "RARROW" 387 (.int 51 386),en P "ELLIPSIS" 389 (.int 52 388),en P "COLONEQUAL" 391 (.int 53 390),en P "EXCLAMATION" 393 (.int 54 392),en P "NT_OFFSET" 395 (.int 256 394),en P "EXACT_TOKEN_TYPES" 492 (.ref 88),en P "ISTERMINAL" 499 (.ref 97),en P "ISNONTERMINAL" 506 (.ref 104),en P "iselement" 515 (.ref 111),en P "SubElement" 526 (.ref 120),en P "_serialize_text" 535 (.ref 127),en P "_raise_serialization_error" 542 (.ref 134),en P "_escape_cdata" 549 (.ref 141),en P "_escape_attrib" 556 (.ref 148),en P "_escape_attrib_html" 563 (.ref 155),en P "_escape_cdata_c14n" 570 (.ref 162),en P "_escape_attrib_c14n" 577 (.ref 169),en P "_law_node" 588 (.ref 176)]
def o_99:hqO:=λP=>hqd (hqP99 P) 73
noncomputable def s_99:List Stmt:=[sA 54,sA 55,sA 56,sA 57,sA 58,sA 59,sA 60,sA 61,sA 62,sA 63,sA 64,sA 65,sA 66,sA 67]
def o_100:hqO:=hqf #[.int 1 0,.int 0 0,.ref 20,.int 5 0,.int 0 0,.ref 27,.int 112 0,.int 0 0,.ref 96,.int 114 0,.int 0 0,.ref 103,.int 117 0,.int 0 0,.ref 110,.int 119 0,.int 0 0,.ref 119,.int 124 0,.int 0 0,.ref 126,.int 129 0,.int 0 0,.ref 133,.int 131 0,.int 0 0,.ref 140,.int 142 0,.int 0 0,.ref 147,.int 161 0,.int 0 0,.ref 154,.int 172 0,.int 0 0,.ref 161,.int 185 0,.int 0 0,.ref 168,.int 203 0,.int 0 0,.ref 175]
def o_101:hqO:=hqt #[]
def o_102:hqO:=hqf #[]
def o_103:hqO:=hqt #[.str "x" 496]
def o_104:hqO:=hqt #[]
def o_105:hqO:=hq0 "ISTERMINAL" "ISTERMINAL" (sA 54) (sA 54) (cP (sA 55))
def o_106:hqO:=hqc #[.str "ISTERMINAL" 493,.str "ISTERMINAL" 494,.str "/claim/cut.py" 495,.int 112 0,.int 1 0,.int 0 0,.int 0 0,.int 3 0,.ref 91,.bool true,.int 181 0,.ref 92,.none,.ref 93,.ref 94,.ref 95,.int 497 0,.int 112 0,.str "/claim/cut.py" 498]
def o_107:hqO:=hq1 "ISTERMINAL" "ISTERMINAL" (sA 54) (sA 54) (cP (sA 55)) 3 (.str "cpy313.token" 296) 96
def o_108:hqO:=hqt #[]
def o_109:hqO:=hqf #[]
def o_110:hqO:=hqt #[.str "x" 503]
def o_111:hqO:=hqt #[]
def o_112:hqO:=hq0 "ISNONTERMINAL" "ISNONTERMINAL" (sA 55) (sA 55) (cP (sA 55))
def o_113:hqO:=hqc #[.str "ISNONTERMINAL" 500,.str "ISNONTERMINAL" 501,.str "/claim/cut.py" 502,.int 114 0,.int 1 0,.int 0 0,.int 0 0,.int 3 0,.ref 98,.bool true,.int 181 0,.ref 99,.none,.ref 100,.ref 101,.ref 102,.int 504 0,.int 114 0,.str "/claim/cut.py" 505]
def o_114:hqO:=hq1 "ISNONTERMINAL" "ISNONTERMINAL" (sA 55) (sA 55) (cP (sA 55)) 3 (.str "cpy313.token" 296) 103
def o_115:hqO:=hqt #[]
def o_116:hqO:=hqf #[]
def o_117:hqO:=hqt #[.str "element" 512]
def o_118:hqO:=hqt #[]
def o_119:hqO:=hq0 "iselement" "iselement" (sA 57) (sA 57) (cP (sA 57))
def o_120:hqO:=hqc #[.str "iselement" 509,.str "iselement" 510,.str "/claim/cut.py" 511,.int 117 0,.int 1 0,.int 0 0,.int 0 0,.int 3 0,.ref 105,.bool true,.int 181 0,.ref 106,.none,.ref 107,.ref 108,.ref 109,.int 513 0,.int 117 0,.str "/claim/cut.py" 514]
def o_121:hqO:=hq1 "iselement" "iselement" (sA 57) (sA 57) (cP (sA 57)) 3 (.str "cpy313.xml.etree.ElementTree" 507) 110
noncomputable def o_122:hqO:=λP=>{ cls:=.type "dict",data:=.dict #[] }
def o_123:hqO:=hqt #[.ref 112]
def o_124:hqO:=hqt #[]
def o_125:hqO:=hqf #[]
def o_126:hqO:=hqt #[.str "parent" 519,.str "tag" 520,.str "attrib" 521,.str "extra" 522,.str "element" 523]
def o_127:hqO:=hqt #[]
def o_128:hqO:=hq0 "SubElement" "SubElement" (sA 58) (sA 58) (cP (sA 58))
def o_129:hqO:=hqc #[.str "SubElement" 516,.str "SubElement" 517,.str "/claim/cut.py" 518,.int 119 0,.int 3 0,.int 0 0,.int 0 0,.int 11 0,.ref 114,.bool true,.int 181 0,.ref 115,.none,.ref 116,.ref 117,.ref 118,.int 524 0,.int 119 0,.str "/claim/cut.py" 525]
noncomputable def o_130:hqO:=λP=>{ cls:=.type "function",data:=.func { name:="SubElement",qualname:="SubElement",params:=aP (sA 58),body:=.stmts (bP (sA 58)),scope:=cP (sA 58),globals:=3,closure:=[],defaults:=.ref 113,kwdefaults:=.none,pyModule:=.str "cpy313.xml.etree.ElementTree" 507,code:=.ref 119 } }
def o_131:hqO:=hqt #[]
def o_132:hqO:=hqf #[]
def o_133:hqO:=hqt #[.str "write" 530,.str "elem" 531,.str "part" 532]
def o_134:hqO:=hqt #[]
def o_135:hqO:=hq0 "_serialize_text" "_serialize_text" (sA 59) (sA 59) (cP (sA 59))
def o_136:hqO:=hqc #[.str "_serialize_text" 527,.str "_serialize_text" 528,.str "/claim/cut.py" 529,.int 124 0,.int 2 0,.int 0 0,.int 0 0,.int 3 0,.ref 121,.bool true,.int 181 0,.ref 122,.none,.ref 123,.ref 124,.ref 125,.int 533 0,.int 124 0,.str "/claim/cut.py" 534]
def o_137:hqO:=hq1 "_serialize_text" "_serialize_text" (sA 59) (sA 59) (cP (sA 59)) 3 (.str "cpy313.xml.etree.ElementTree" 507) 126
def o_138:hqO:=hqt #[]
def o_139:hqO:=hqf #[]
def o_140:hqO:=hqt #[.str "text" 539]
def o_141:hqO:=hqt #[]
def o_142:hqO:=hq0 "_raise_serialization_error" "_raise_serialization_error" (sA 60) (sA 60) (cP (sA 60))
def o_143:hqO:=hqc #[.str "_raise_serialization_error" 536,.str "_raise_serialization_error" 537,.str "/claim/cut.py" 538,.int 129 0,.int 1 0,.int 0 0,.int 0 0,.int 3 0,.ref 128,.bool true,.int 181 0,.ref 129,.none,.ref 130,.ref 131,.ref 132,.int 540 0,.int 129 0,.str "/claim/cut.py" 541]
def o_144:hqO:=hq1 "_raise_serialization_error" "_raise_serialization_error" (sA 60) (sA 60) (cP (sA 60)) 3 (.str "cpy313.xml.etree.ElementTree" 507) 133
def o_145:hqO:=hqt #[]
def o_146:hqO:=hqf #[]
def o_147:hqO:=hqt #[.str "text" 546]
def o_148:hqO:=hqt #[]
def o_149:hqO:=hq0 "_escape_cdata" "_escape_cdata" (sA 61) (sA 61) (cP (sA 65))
def o_150:hqO:=hqc #[.str "_escape_cdata" 543,.str "_escape_cdata" 544,.str "/claim/cut.py" 545,.int 131 0,.int 1 0,.int 0 0,.int 0 0,.int 3 0,.ref 135,.bool true,.int 181 0,.ref 136,.none,.ref 137,.ref 138,.ref 139,.int 547 0,.int 131 0,.str "/claim/cut.py" 548]
def o_151:hqO:=hq1 "_escape_cdata" "_escape_cdata" (sA 61) (sA 61) (cP (sA 65)) 3 (.str "cpy313.xml.etree.ElementTree" 507) 140
def o_152:hqO:=hqt #[]
def o_153:hqO:=hqf #[]
def o_154:hqO:=hqt #[.str "text" 553]
def o_155:hqO:=hqt #[]
def o_156:hqO:=hq0 "_escape_attrib" "_escape_attrib" (sA 62) (sA 62) (cP (sA 65))
def o_157:hqO:=hqc #[.str "_escape_attrib" 550,.str "_escape_attrib" 551,.str "/claim/cut.py" 552,.int 142 0,.int 1 0,.int 0 0,.int 0 0,.int 3 0,.ref 142,.bool true,.int 181 0,.ref 143,.none,.ref 144,.ref 145,.ref 146,.int 554 0,.int 142 0,.str "/claim/cut.py" 555]
def o_158:hqO:=hq1 "_escape_attrib" "_escape_attrib" (sA 62) (sA 62) (cP (sA 65)) 3 (.str "cpy313.xml.etree.ElementTree" 507) 147
def o_159:hqO:=hqt #[]
def o_160:hqO:=hqf #[]
def o_161:hqO:=hqt #[.str "text" 560]
def o_162:hqO:=hqt #[]
def o_163:hqO:=hq0 "_escape_attrib_html" "_escape_attrib_html" (sA 63) (sA 63) (cP (sA 65))
def o_164:hqO:=hqc #[.str "_escape_attrib_html" 557,.str "_escape_attrib_html" 558,.str "/claim/cut.py" 559,.int 161 0,.int 1 0,.int 0 0,.int 0 0,.int 3 0,.ref 149,.bool true,.int 181 0,.ref 150,.none,.ref 151,.ref 152,.ref 153,.int 561 0,.int 161 0,.str "/claim/cut.py" 562]
def o_165:hqO:=hq1 "_escape_attrib_html" "_escape_attrib_html" (sA 63) (sA 63) (cP (sA 65)) 3 (.str "cpy313.xml.etree.ElementTree" 507) 154
def o_166:hqO:=hqt #[]
def o_167:hqO:=hqf #[]
def o_168:hqO:=hqt #[.str "text" 567]
def o_169:hqO:=hqt #[]
def o_170:hqO:=hq0 "_escape_cdata_c14n" "_escape_cdata_c14n" (sA 64) (sA 64) (cP (sA 65))
def o_171:hqO:=hqc #[.str "_escape_cdata_c14n" 564,.str "_escape_cdata_c14n" 565,.str "/claim/cut.py" 566,.int 172 0,.int 1 0,.int 0 0,.int 0 0,.int 3 0,.ref 156,.bool true,.int 181 0,.ref 157,.none,.ref 158,.ref 159,.ref 160,.int 568 0,.int 172 0,.str "/claim/cut.py" 569]
def o_172:hqO:=hq1 "_escape_cdata_c14n" "_escape_cdata_c14n" (sA 64) (sA 64) (cP (sA 65)) 3 (.str "cpy313.xml.etree.ElementTree" 507) 161
def o_173:hqO:=hqt #[]
def o_174:hqO:=hqf #[]
def o_175:hqO:=hqt #[.str "text" 574]
def o_176:hqO:=hqt #[]
def o_177:hqO:=hq0 "_escape_attrib_c14n" "_escape_attrib_c14n" (sA 65) (sA 65) (cP (sA 65))
def o_178:hqO:=hqc #[.str "_escape_attrib_c14n" 571,.str "_escape_attrib_c14n" 572,.str "/claim/cut.py" 573,.int 185 0,.int 1 0,.int 0 0,.int 0 0,.int 3 0,.ref 163,.bool true,.int 181 0,.ref 164,.none,.ref 165,.ref 166,.ref 167,.int 575 0,.int 185 0,.str "/claim/cut.py" 576]
def o_179:hqO:=hq1 "_escape_attrib_c14n" "_escape_attrib_c14n" (sA 65) (sA 65) (cP (sA 65)) 3 (.str "cpy313.xml.etree.ElementTree" 507) 168
def o_180:hqO:=hqt #[]
def o_181:hqO:=hqf #[]
def o_182:hqO:=hqt #[.str "tag" 583,.str "attrib" 584]
def o_183:hqO:=hqt #[.str "node" 585]
def o_184:hqO:=hq0 "_law_node" "_law_node" (sA 67) (sA 67) (cP (sA 67))
def o_185:hqO:=hqc #[.str "_law_node" 580,.str "_law_node" 581,.str "/claim/cut.py" 582,.int 203 0,.int 2 0,.int 0 0,.int 0 0,.int 3 0,.ref 170,.bool true,.int 181 0,.ref 171,.none,.ref 172,.ref 173,.ref 174,.int 586 0,.int 203 0,.str "/claim/cut.py" 587]
def o_186:hqO:=hq1 "_law_node" "_law_node" (sA 67) (sA 67) (cP (sA 67)) 3 (.str "law_ta0102_01" 578) 175
def t_186:Y3->BT:=hqn Z4 (hqn Z5 (hqn o_99 (hqn Z6 (hqn o_7 (hqn o_26 (hqm o_58 (hqz o_137)) (hqm o_105 (hqz o_169))) (hqn o_42 (hqm o_74 (hqz o_153)) (hqm o_121 (hqz o_185)))) (hqn o_18 (hqn o_34 (hqm o_66 (hqz o_145)) (hqm o_113 (hqz o_177))) (hqn o_50 (hqm o_82 (hqz o_161)) (hqz o_129)))) (hqn o_1 (hqn o_11 (hqn o_30 (hqm o_62 (hqz o_141)) (hqm o_109 (hqz o_173))) (hqn o_46 (hqm o_78 (hqz o_157)) (hqz o_125))) (hqn o_22 (hqn o_38 (hqm o_70 (hqz o_149)) (hqm o_117 (hqz o_181))) (hqn o_54 (hqm o_101 (hqz o_165)) (hqz o_133))))) (hqn Z7 (hqn Z8 (hqn o_9 (hqn o_28 (hqm o_60 (hqz o_139)) (hqm o_107 (hqz o_171))) (hqn o_44 (hqm o_76 (hqz o_155)) (hqz o_123))) (hqn o_20 (hqn o_36 (hqm o_68 (hqz o_147)) (hqm o_115 (hqz o_179))) (hqn o_52 (hqm o_94 (hqz o_163)) (hqz o_131)))) (hqn o_3 (hqn o_13 (hqn o_32 (hqm o_64 (hqz o_143)) (hqm o_111 (hqz o_175))) (hqn o_48 (hqm o_80 (hqz o_159)) (hqz o_127))) (hqn o_24 (hqn o_40 (hqm o_72 (hqz o_151)) (hqm o_119 (hqz o_183))) (hqn o_56 (hqm o_103 (hqz o_167)) (hqz o_135)))))) (hqn Yz (hqn Z9 (hqn Za (hqn o_8 (hqn o_27 (hqm o_59 (hqz o_138)) (hqm o_106 (hqz o_170))) (hqn o_43 (hqm o_75 (hqz o_154)) (hqm o_122 (hqz o_186)))) (hqn o_19 (hqn o_35 (hqm o_67 (hqz o_146)) (hqm o_114 (hqz o_178))) (hqn o_51 (hqm o_93 (hqz o_162)) (hqz o_130)))) (hqn o_100 (hqn o_12 (hqn o_31 (hqm o_63 (hqz o_142)) (hqm o_110 (hqz o_174))) (hqn o_47 (hqm o_79 (hqz o_158)) (hqz o_126))) (hqn o_23 (hqn o_39 (hqm o_71 (hqz o_150)) (hqm o_118 (hqz o_182))) (hqn o_55 (hqm o_102 (hqz o_166)) (hqz o_134))))) (hqn Zb (hqn YK (hqn o_10 (hqn o_29 (hqm o_61 (hqz o_140)) (hqm o_108 (hqz o_172))) (hqn o_45 (hqm o_77 (hqz o_156)) (hqz o_124))) (hqn o_21 (hqn o_37 (hqm o_69 (hqz o_148)) (hqm o_116 (hqz o_180))) (hqn o_53 (hqm o_95 (hqz o_164)) (hqz o_132)))) (hqn o_4 (hqn o_17 (hqn o_33 (hqm o_65 (hqz o_144)) (hqm o_112 (hqz o_176))) (hqn o_49 (hqm o_81 (hqz o_160)) (hqz o_128))) (hqn o_25 (hqn o_41 (hqm o_73 (hqz o_152)) (hqm o_120 (hqz o_184))) (hqn o_57 (hqm o_104 (hqz o_168)) (hqz o_136))))))
def o_188:hqO:=λP=>hqd (hqP99 P++[en P "_law_depths" 598 (.ref 183),en P "_law_ends" 604 (.ref 188),en P "_law_lead" 610 (.ref 193),en P "_law_page" 616 (.ref 198),en P "_law_read" 622 (.ref 203),en P "_law_grown" 628 (.ref 208),en P "_law_told" 638 (.ref 215),en P "_law_pushed" 644 (.ref 220),en P "law" 650 (.ref 225)]) 82
noncomputable def s_188:List Stmt:=[sA 68,sA 69,sA 70,sA 71,sA 72,sA 73,sA 74,sA 75,sA 76]
def o_189:hqO:=hqf #[.int 1 0,.int 0 0,.ref 20,.int 5 0,.int 0 0,.ref 27,.int 112 0,.int 0 0,.ref 96,.int 114 0,.int 0 0,.ref 103,.int 117 0,.int 0 0,.ref 110,.int 119 0,.int 0 0,.ref 119,.int 124 0,.int 0 0,.ref 126,.int 129 0,.int 0 0,.ref 133,.int 131 0,.int 0 0,.ref 140,.int 142 0,.int 0 0,.ref 147,.int 161 0,.int 0 0,.ref 154,.int 172 0,.int 0 0,.ref 161,.int 185 0,.int 0 0,.ref 168,.int 203 0,.int 0 0,.ref 175,.int 209 0,.int 0 0,.ref 182,.int 215 0,.int 0 0,.ref 187,.int 217 0,.int 0 0,.ref 192,.int 220 0,.int 0 0,.ref 197,.int 223 0,.int 0 0,.ref 202,.int 237 0,.int 0 0,.ref 207,.int 253 0,.int 0 0,.ref 214,.int 261 0,.int 0 0,.ref 219,.int 271 0,.int 0 0,.ref 224]
def o_190:hqO:=hqt #[]
def o_191:hqO:=hqf #[]
def o_192:hqO:=hqt #[.str "cell" 592,.str "depths" 593,.str "place" 594,.str "depth" 595]
def o_193:hqO:=hqt #[]
def o_194:hqO:=hq0 "_law_depths" "_law_depths" (sA 68) (sA 68) (cP (sA 68))
def o_195:hqO:=hqc #[.str "_law_depths" 589,.str "_law_depths" 590,.str "/claim/cut.py" 591,.int 209 0,.int 1 0,.int 0 0,.int 0 0,.int 3 0,.ref 177,.bool true,.int 181 0,.ref 178,.none,.ref 179,.ref 180,.ref 181,.int 596 0,.int 209 0,.str "/claim/cut.py" 597]
def o_196:hqO:=hq1 "_law_depths" "_law_depths" (sA 68) (sA 68) (cP (sA 68)) 3 (.str "law_ta0102_01" 578) 182
def o_197:hqO:=hqt #[]
def o_198:hqO:=hqf #[]
def o_199:hqO:=hq0 "_law_ends" "_law_ends" (sA 69) (sA 69) (cP (sA 69))
def o_200:hqO:=hqc #[.str "_law_ends" 599,.str "_law_ends" 600,.str "/claim/cut.py" 601,.int 215 0,.int 1 0,.int 0 0,.int 0 0,.int 3 0,.ref 184,.bool true,.int 181 0,.ref 185,.none,.none,.none,.ref 186,.int 602 0,.int 215 0,.str "/claim/cut.py" 603]
def o_201:hqO:=hq1 "_law_ends" "_law_ends" (sA 69) (sA 69) (cP (sA 69)) 3 (.str "law_ta0102_01" 578) 187
def o_202:hqO:=hqt #[]
def o_203:hqO:=hqf #[]
def o_204:hqO:=hq0 "_law_lead" "_law_lead" (sA 70) (sA 70) (cP (sA 70))
def o_205:hqO:=hqc #[.str "_law_lead" 605,.str "_law_lead" 606,.str "/claim/cut.py" 607,.int 217 0,.int 3 0,.int 0 0,.int 0 0,.int 3 0,.ref 189,.bool true,.int 181 0,.ref 190,.none,.none,.none,.ref 191,.int 608 0,.int 217 0,.str "/claim/cut.py" 609]
def o_206:hqO:=hq1 "_law_lead" "_law_lead" (sA 70) (sA 70) (cP (sA 70)) 3 (.str "law_ta0102_01" 578) 192
def o_207:hqO:=hqt #[]
def o_208:hqO:=hqf #[]
def o_209:hqO:=hq0 "_law_page" "_law_page" (sA 71) (sA 71) (cP (sA 71))
def o_210:hqO:=hqc #[.str "_law_page" 611,.str "_law_page" 612,.str "/claim/cut.py" 613,.int 220 0,.int 2 0,.int 0 0,.int 0 0,.int 3 0,.ref 194,.bool true,.int 181 0,.ref 195,.none,.none,.none,.ref 196,.int 614 0,.int 220 0,.str "/claim/cut.py" 615]
def o_211:hqO:=hq1 "_law_page" "_law_page" (sA 71) (sA 71) (cP (sA 71)) 3 (.str "law_ta0102_01" 578) 197
def o_212:hqO:=hqt #[]
def o_213:hqO:=hqf #[]
def o_214:hqO:=hq0 "_law_read" "_law_read" (sA 72) (sA 72) (cP (sA 72))
def o_215:hqO:=hqc #[.str "_law_read" 617,.str "_law_read" 618,.str "/claim/cut.py" 619,.int 223 0,.int 2 0,.int 0 0,.int 0 0,.int 3 0,.ref 199,.bool true,.int 181 0,.ref 200,.none,.none,.none,.ref 201,.int 620 0,.int 223 0,.str "/claim/cut.py" 621]
def o_216:hqO:=hq1 "_law_read" "_law_read" (sA 72) (sA 72) (cP (sA 72)) 3 (.str "law_ta0102_01" 578) 202
def o_217:hqO:=hqt #[]
def o_218:hqO:=hqf #[]
def o_219:hqO:=hq0 "_law_grown" "_law_grown" (sA 73) (sA 73) (cP (sA 73))
def o_220:hqO:=hqc #[.str "_law_grown" 623,.str "_law_grown" 624,.str "/claim/cut.py" 625,.int 237 0,.int 3 0,.int 0 0,.int 0 0,.int 3 0,.ref 204,.bool true,.int 181 0,.ref 205,.none,.none,.none,.ref 206,.int 626 0,.int 237 0,.str "/claim/cut.py" 627]
def o_221:hqO:=hq1 "_law_grown" "_law_grown" (sA 73) (sA 73) (cP (sA 73)) 3 (.str "law_ta0102_01" 578) 207
def o_222:hqO:=hqt #[]
def o_223:hqO:=hqf #[]
def o_224:hqO:=hqt #[.str "guys" 632,.str "ends" 633,.str "a" 634,.str "b" 635]
def o_225:hqO:=hqt #[]
def o_226:hqO:=hq0 "_law_told" "_law_told" (sA 74) (sA 74) (cP (sA 74))
def o_227:hqO:=hqc #[.str "_law_told" 629,.str "_law_told" 630,.str "/claim/cut.py" 631,.int 253 0,.int 1 0,.int 0 0,.int 0 0,.int 3 0,.ref 209,.bool true,.int 181 0,.ref 210,.none,.ref 211,.ref 212,.ref 213,.int 636 0,.int 253 0,.str "/claim/cut.py" 637]
def o_228:hqO:=hq1 "_law_told" "_law_told" (sA 74) (sA 74) (cP (sA 74)) 3 (.str "law_ta0102_01" 578) 214
def o_229:hqO:=hqt #[]
def o_230:hqO:=hqf #[]
def o_231:hqO:=hq0 "_law_pushed" "_law_pushed" (sA 75) (sA 75) (cP (sA 75))
def o_232:hqO:=hqc #[.str "_law_pushed" 639,.str "_law_pushed" 640,.str "/claim/cut.py" 641,.int 261 0,.int 3 0,.int 0 0,.int 0 0,.int 3 0,.ref 216,.bool true,.int 181 0,.ref 217,.none,.none,.none,.ref 218,.int 642 0,.int 261 0,.str "/claim/cut.py" 643]
def o_233:hqO:=hq1 "_law_pushed" "_law_pushed" (sA 75) (sA 75) (cP (sA 75)) 3 (.str "law_ta0102_01" 578) 219
def o_234:hqO:=hqt #[]
def o_235:hqO:=hqf #[]
def o_236:hqO:=hq0 "law" "law" (sA 76) (sA 76) hqC1
def o_237:hqO:=hqc #[.str "law" 645,.str "law" 646,.str "/claim/cut.py" 647,.int 271 0,.int 1 0,.int 0 0,.int 0 0,.int 3 0,.ref 221,.bool true,.int 181 0,.ref 222,.none,.none,.none,.ref 223,.int 648 0,.int 271 0,.str "/claim/cut.py" 649]
def o_238:hqO:=hq1 "law" "law" (sA 76) (sA 76) hqC1 3 (.str "law_ta0102_01" 578) 224
def t_238:Y3->BT:=hqn Z4 (hqn Z5 (hqn o_188 (hqn Z6 (hqn o_7 (hqn o_26 (hqn o_58 (hqz o_137) (hqz o_204)) (hqn o_105 (hqz o_169) (hqz o_236))) (hqn o_42 (hqn o_74 (hqz o_153) (hqz o_220)) (hqm o_121 (hqz o_185)))) (hqn o_18 (hqn o_34 (hqn o_66 (hqz o_145) (hqz o_212)) (hqm o_113 (hqz o_177))) (hqn o_50 (hqn o_82 (hqz o_161) (hqz o_228)) (hqm o_129 (hqz o_196))))) (hqn o_1 (hqn o_11 (hqn o_30 (hqn o_62 (hqz o_141) (hqz o_208)) (hqm o_109 (hqz o_173))) (hqn o_46 (hqn o_78 (hqz o_157) (hqz o_224)) (hqm o_125 (hqz o_192)))) (hqn o_22 (hqn o_38 (hqn o_70 (hqz o_149) (hqz o_216)) (hqm o_117 (hqz o_181))) (hqn o_54 (hqn o_101 (hqz o_165) (hqz o_232)) (hqm o_133 (hqz o_200)))))) (hqn Z7 (hqn Z8 (hqn o_9 (hqn o_28 (hqn o_60 (hqz o_139) (hqz o_206)) (hqn o_107 (hqz o_171) (hqz o_238))) (hqn o_44 (hqn o_76 (hqz o_155) (hqz o_222)) (hqm o_123 (hqz o_190)))) (hqn o_20 (hqn o_36 (hqn o_68 (hqz o_147) (hqz o_214)) (hqm o_115 (hqz o_179))) (hqn o_52 (hqn o_94 (hqz o_163) (hqz o_230)) (hqm o_131 (hqz o_198))))) (hqn o_3 (hqn o_13 (hqn o_32 (hqn o_64 (hqz o_143) (hqz o_210)) (hqm o_111 (hqz o_175))) (hqn o_48 (hqn o_80 (hqz o_159) (hqz o_226)) (hqm o_127 (hqz o_194)))) (hqn o_24 (hqn o_40 (hqn o_72 (hqz o_151) (hqz o_218)) (hqm o_119 (hqz o_183))) (hqn o_56 (hqn o_103 (hqz o_167) (hqz o_234)) (hqm o_135 (hqz o_202))))))) (hqn Yz (hqn Z9 (hqn Za (hqn o_8 (hqn o_27 (hqn o_59 (hqz o_138) (hqz o_205)) (hqn o_106 (hqz o_170) (hqz o_237))) (hqn o_43 (hqn o_75 (hqz o_154) (hqz o_221)) (hqm o_122 (hqz o_186)))) (hqn o_19 (hqn o_35 (hqn o_67 (hqz o_146) (hqz o_213)) (hqm o_114 (hqz o_178))) (hqn o_51 (hqn o_93 (hqz o_162) (hqz o_229)) (hqm o_130 (hqz o_197))))) (hqn o_189 (hqn o_12 (hqn o_31 (hqn o_63 (hqz o_142) (hqz o_209)) (hqm o_110 (hqz o_174))) (hqn o_47 (hqn o_79 (hqz o_158) (hqz o_225)) (hqm o_126 (hqz o_193)))) (hqn o_23 (hqn o_39 (hqn o_71 (hqz o_150) (hqz o_217)) (hqm o_118 (hqz o_182))) (hqn o_55 (hqn o_102 (hqz o_166) (hqz o_233)) (hqm o_134 (hqz o_201)))))) (hqn Zb (hqn YK (hqn o_10 (hqn o_29 (hqn o_61 (hqz o_140) (hqz o_207)) (hqm o_108 (hqz o_172))) (hqn o_45 (hqn o_77 (hqz o_156) (hqz o_223)) (hqm o_124 (hqz o_191)))) (hqn o_21 (hqn o_37 (hqn o_69 (hqz o_148) (hqz o_215)) (hqm o_116 (hqz o_180))) (hqn o_53 (hqn o_95 (hqz o_164) (hqz o_231)) (hqm o_132 (hqz o_199))))) (hqn o_4 (hqn o_17 (hqn o_33 (hqn o_65 (hqz o_144) (hqz o_211)) (hqm o_112 (hqz o_176))) (hqn o_49 (hqn o_81 (hqz o_160) (hqz o_227)) (hqm o_128 (hqz o_195)))) (hqn o_25 (hqn o_41 (hqn o_73 (hqz o_152) (hqz o_219)) (hqm o_120 (hqz o_184))) (hqn o_57 (hqn o_104 (hqz o_168) (hqz o_235)) (hqm o_136 (hqz o_203)))))))
noncomputable abbrev tS(t:BT)(n tk:Nat)(os:YR):SharedT:={ tree:=t,n:=n,life:={},gens:={ toList:=[] },drawn:={},toks:=tk,os:=os }
noncomputable abbrev PC(l:List XM)(N:Nat)(p0 p1:Pos)(t:Y3->BT)(n tk:Nat)(t':Y3->BT)(n' tk':Nat)(w:Ql):Prop :=
 (λ(p:QI) (b:List XM) (os:YR)=>segRunT YS p w 11 (Qf (.ref 6)) 1 N (tS (t w.params) n tk os) (piecesOf l top.env_1 (Code.body b top.env_1) p0 [topFrame ⟨0,0,0,0⟩]))=λp b os=>Qf (Flow.next,tS (t' w.params) n' tk' os,Code.body b top.env_1,p1)
theorem top.c1:∀w,PC s_4 39 ⟨0,0,0,0⟩ ⟨4,0,4,8⟩ t_4 15 187 t_13 22 196 w:=λw=>by kernel_rfl
theorem top.c2:∀w,PC s_15 493 ⟨4,0,4,8⟩ ⟨5,0,60,16⟩ t_13 22 196 t_82 88 296 w:=byRow2 "special-get-raises" (λw=>by kernel_rfl) (λw=>by kernel_rfl)
theorem top.c3:∀w,PC s_86 397 ⟨5,0,60,16⟩ ⟨104,0,104,2⟩ t_82 88 296 t_86 88 384 w:=λw=>by kernel_rfl
theorem top.c4:∀w,PC s_89 55 ⟨104,0,104,2⟩ ⟨110,0,110,9⟩ t_86 88 384 t_89 88 396 w:=λw=>by kernel_rfl
theorem top.c5:∀w,PC s_92 979 ⟨110,0,110,9⟩ ⟨111,0,111,17⟩ t_89 88 396 t_95 91 493 w:=byRow2 "special-get-raises" (λw=>by kernel_rfl) (λw=>by kernel_rfl)
theorem top.c6:∀w,PC s_99 378 ⟨111,0,111,17⟩ ⟨203,0,208,15⟩ t_95 91 493 t_186 177 589 w:=λw=>by kernel_rfl
theorem top.c7:∀w,PC s_188 247 ⟨203,0,208,15⟩ ⟨271,0,305,15⟩ t_186 177 589 t_238 226 651 w:=λw=>by kernel_rfl
theorem PC.run{l:List XM}{N:Nat}{p0 p1:Pos}{t:Y3->BT}{n tk:Nat}{t':Y3->BT}{n' tk':Nat}{w:Ql}(h:PC l N p0 p1 t n tk t' n' tk' w)(p:QI)(b:List XM)(os:YR) :
  segRun YS p w 11 (Qf (.ref 6)) 1 N (tS (t w.params) n tk os).abs (piecesOf l top.env_1 (Code.body b top.env_1) p0 [topFrame ⟨0,0,0,0⟩])=Qf (Flow.next,(tS (t' w.params) n' tk' os).abs,Code.body b top.env_1,p1) :=
 segRun_of (congrFun (congrFun (congrFun h p) b) os)
theorem top.chain(p:QI)(b:List XM)(w:Ql)(os:YR)(rest:List XM)(N:Nat)(r:Qi)(h:topRun YS p w 11 (Qf (.ref 6)) N (tS (t_238 w.params) 226 651 os).abs (restOf rest top.env_1 (Code.body b top.env_1) ⟨271,0,305,15⟩ [topFrame ⟨0,0,0,0⟩])=Qf r) :
  topRun YS p w 11 (Qf (.ref 6)) (XG 39 (XG 493 (XG 397 (XG 55 (XG 979 (XG 378 (XG 247 N))))))) (tS (t_4 w.params) 15 187 os).abs (restOf (s_4++(s_15++(s_86++(s_89++(s_92++(s_99++(s_188++rest))))))) top.env_1 (Code.body b top.env_1) ⟨0,0,0,0⟩ [topFrame ⟨0,0,0,0⟩])=Qf r :=
 piece_app ((top.c1 w).run p b os) (piece_app ((top.c2 w).run p b os) (piece_app ((top.c3 w).run p b os) (piece_app ((top.c4 w).run p b os) (piece_app ((top.c5 w).run p b os) (piece_app ((top.c6 w).run p b os) (piece_app ((top.c7 w).run p b os) h))))))
theorem ws:YA.wellSaid=true:=by decide +kernel
abbrev pw:Program:=YJ
abbrev rw0:OpenLaw:=YA
def theIdx:List Nat:=[76]
def q:Program:=view pw theIdx
def vd:List Str:=pw.boundNames.filter λn=>n != ("law" : Str)
def H1:Y3->Heap:=λP=>absHeap (t_238 P) 226 {}
abbrev S0(w:Ql)(os:YR):Shared:=⟨Zw w.params,⟨[]⟩,boot_drawn,boot_toks,os⟩
abbrev SB(w:Ql)(os:YR):Shared:=({ tree:=t_4 w.params,n:=15,life:={},gens:={ toList:=[] },drawn:={},toks:=187,os:=os }:SharedT).abs
abbrev SK(w:Ql)(os:YR):Shared:=({ tree:=t_238 w.params,n:=226,life:={},gens:={ toList:=[] },drawn:={},toks:=651,os:=os }:SharedT).abs
abbrev cB:Code:=Code.body (behindTheImports pw) top.env_1
abbrev z0:Pos:=⟨0,0,0,0⟩
theorem h_open:∀w:Ql,(fencedOpening YS pw w 5288).map (λs=>(s.heap,s.gens,s.drawn,s.toks))=Qf (Zw w.params,Array.mk [],boot_drawn,boot_toks) :=
 boot_open (by kernel_rfl) (by decide) (λs=>by kernel_rfl)
theorem h_size:∀w:Ql,((Zw w.params).isNs XD&&(Array.mk []:Array GenState).size==0,(Zw w.params).objs.size,(Zw w.params).nsMap XD "__annotations__")=(true,11,Qf (.ref 6)):=λw=>by kernel_rfl
theorem h_pre:∀(w:Ql) (os:YR),topGo YS pw w 11 (Qf (.ref 6)) 12 (S0 w os) (topStub pw)=Qf (SB w os,⟨denote YS cB,cB,z0,[topFrame z0]⟩):=λw os=>by kernel_rfl
theorem h_block:∀(w:Ql) (os:YR),segRun YS pw w 11 (Qf (.ref 6)) 1 1 (SB w os) (blockOf (behindTheImports pw) top.env_1 cB z0 [topFrame z0])=Qf (Flow.next,SB w os,cB,z0):=λw os=>by kernel_rfl
theorem h_fin:∀(w:Ql) (os:YR),topRun YS pw w 11 (Qf (.ref 6)) 2 (SK w os) (restOf [] top.env_1 cB { line:=271,col:=0,endLine:=305,endCol:=15 } [topFrame z0])=Qf (SK w os):=λw os=>by kernel_rfl
theorem h_body:s_4++(s_15++(s_86++(s_89++(s_92++(s_99++(s_188++[]))))))=behindTheImports pw:=by kernel_rfl
theorem zq1{a b c:Nat}(h:a<=b)(d:decide (b<=c)=true):a<=c:=Qp h (of_decide_eq_true d)
theorem zq2{a b c:Nat}(h:a<b)(d:decide (b<=c+1)=true):a<=c:=YF (Y4 h (of_decide_eq_true d))
theorem zq8{a b c:Nat}(h:a<=b)(d:decide (b<c)=true):a<c:=VN h (of_decide_eq_true d)
theorem zq3{k m:Nat}(h:k<=m)(d:decide (m<=2^40)=true):-2^63<=(k:Int)/\(k:Int)<2^63:=by
 have:=of_decide_eq_true d
 lia
theorem zq4{k m:Nat}(h:k<m)(d:decide (m<=2^40)=true):-2^63<=(k:Int)/\(k:Int)<2^63:=zq3 (Vt h) d
set_option genInjectivity true in
inductive AV where
 | none
 | bool (b:Bool)
 | int (i:Int)
 | str (x:Qd)
 | raw (v:Qm)
 | list (l:List AV)
 | tup (l:List AV)
 | own (k:Nat) (l:List AV)
 | owd (k:Nat) (x:Qk) (C:Qk) (ns:List Qd) (l:List AV)
 | rng (a b:Int)
 | ins (C:Qk) (ns:List Qd) (l:List AV)
 | fn (x:Qk) (ns:List Qd) (l:List AV)
noncomputable abbrev Lk:=Qk->Option Obj
noncomputable def refO:Qm->Option Qk
 | .ref c=>Qf c
 | _=>Qg
noncomputable def strV:Qm->Option Qd
 | .str x _=>Qf x
 | _=>Qg
theorem refO_i{v:Qm}{c:Qk}(e:refO v=Qf c):v=.ref c:=by
 cases v<;>first | exact no1 e | exact congrArg _ (oi e)
theorem JW{v:Qm}{x:Qd}(e:strV v=Qf x):∃t,v=.str x t:=by
 cases v<;>first | exact no1 e | exact⟨_,congrArg (Value.str · _) (oi e)⟩
noncomputable def jU(e:VJ):Option Qd:=strV e.key
mutual
noncomputable def Rep(g:Lk):AV->Qm->Prop
 | .none,v=>v=.none
 | .bool b,v=>v=.bool b
 | .int i,v=>∃t,v=.int i t
 | .str x,v=>∃t,v=.str x t
 | .raw u,v=>v=u
 | .list l,v=>∃a vs n,v=.ref a/\g a=Qf { cls:=.type "list",data:=.seq vs n }/\Reps g l vs.toList
 | .tup l,v=>∃a o vs n,v=.ref a/\g a=Qf o/\o.cls=.type "tuple"/\o.data=.seq vs n/\Reps g l vs.toList
 | .own _ _,_=>False
 | .owd _ _ _ _ _,_=>False
 | .rng a b,v=>∃r t u x,v=.ref r/\g r=Qf { cls:=.type "range",dict:=Qg,data:=.fields #[.int a t,.int b u,.int 1 x],slots:=#[] }
 | .ins C ns l,v=>∃x dx es n,v=.ref x/\g x=Qf ⟨.ref C,Qf dx,.plain,#[]⟩/\g dx=Qf (Vh es n)/\es.map jU=ns.map Qf/\Reps g l (es.map (·.val))
 | .fn x ns l,v=>∃dx fd es n,v=.ref x/\g x=Qf { cls:=.type "function",dict:=Qf dx,data:=.func fd }/\g dx=Qf (Vh es n)/\es.map jU=ns.map Qf/\Reps g l (es.map (·.val))
noncomputable def Reps(g:Lk):List AV->List Qm->Prop
 | [],vs=>vs=[]
 | a::r,vs=>∃v vs',vs=v::vs'/\Rep g a v/\Reps g r vs'
end
noncomputable def Le(g g':Lk):Prop:=∀a o,g a=Qf o->g' a=Qf o
mutual
theorem Rep.mono{g g':Lk}(k:Le g g'):∀ {a:AV} {v:Qm},Rep g a v->Rep g' a v
 | .none,_,h=>h
 | .bool _,_,h=>h
 | .int _,_,h=>h
 | .str _,_,h=>h
 | .raw _,_,h=>h
 | .own _ _,_,h=>Zc h
 | .owd _ _ _ _ _,_,h=>Zc h
 | .rng _ _,_,h=>by
  (refine JL h ?_;intro r t u x e ho)
  show Exists _
  exact⟨r,t,u,x,e,k _ _ ho⟩
 | .ins C ns l,_,h=>by
  (refine xl h ?_;intro x dx es n e h1 h2 h3 h4)
  show Exists _
  exact⟨x,dx,es,n,e,k _ _ h1,k _ _ h2,h3,h4.mono k⟩
 | .fn x ns l,_,h=>by
  (refine xl h ?_;intro dx fd es n e h1 h2 h3 h4)
  show Exists _
  exact⟨dx,fd,es,n,e,k _ _ h1,k _ _ h2,h3,h4.mono k⟩
 | .list l,_,h=>by
  (refine JM h ?_;intro a vs n e ho hr)
  show Exists _
  exact⟨a,vs,n,e,k _ _ ho,hr.mono k⟩
 | .tup l,_,h=>by
  (refine xl h ?_;intro a o vs n e ho hc hd hr)
  show Exists _
  exact⟨a,o,vs,n,e,k _ _ ho,hc,hd,hr.mono k⟩
theorem Reps.mono{g g':Lk}(k:Le g g'):∀ {l:List AV} {vs:List Qm},Reps g l vs->Reps g' l vs
 | [],_,h=>h
 | _::_,_,h=>by
  (refine jW h ?_;intro v vs' e h1 h2)
  show Exists _
  exact⟨v,vs',e,h1.mono k,h2.mono k⟩
end
theorem v7{g:Lk}{i:Int}{t:Tok}:Rep g (.int i) (.int i t):=Exists.intro t rfl
theorem vq{g:Lk}{x:Qd}{t:Tok}:Rep g (.str x) (.str x t):=Exists.intro t rfl
theorem repB{g:Lk}{b:Bool}:Rep g (.bool b) (.bool b):=rfl
theorem repN{g:Lk}:Rep g .none .none:=rfl
theorem vC{g:Lk}{v:Qm}:Rep g (.raw v) v:=rfl
theorem Reps.nil{g:Lk}:Reps g [] []:=rfl
theorem Reps.cons{g:Lk}{a:AV}{l:List AV}{v:Qm}{vs:List Qm}(h:Rep g a v)(r:Reps g l vs):Reps g (a::l) (v::vs):=by
 exact show Exists _ from⟨v,vs,rfl,h,r⟩
theorem Reps.length{g:Lk}:∀ {l:List AV} {vs:List Qm},Reps g l vs->vs.length=l.length
 | [],_,h=>by change _=_ at h;subst h;rfl
 | _::_,_,h=>by
  (refine jW h ?_;clear h;rintro v vs' rfl _ h2)
  simp [h2.length]
theorem Reps.get{g:Lk}:∀ {l:List AV} {vs:List Qm} {i:Nat} {a:AV},Reps g l vs->l[i]?=Qf a->∃v,vs[i]?=Qf v/\Rep g a v
 | [],_,i,_,_,e=>by simp at e
 | x::l,_,i,a,h,e=>by
  (refine jW h ?_;clear h;rintro v vs' rfl h1 h2)
  cases i with
  | zero=>simp at e;subst e;exact⟨v,rfl,h1⟩
  | succ i=>simp at e;simpa using h2.get e
theorem Reps.append{g:Lk}:∀ {l l':List AV} {vs vs':List Qm},Reps g l vs->Reps g l' vs'->Reps g (l++l') (vs++vs')
 | [],_,_,_,h,h'=>by change _=_ at h;subst h;exact h'
 | _::_,_,_,_,h,h'=>by
  (refine jW h ?_;clear h;rintro v ws rfl h1 h2)
  exact .cons h1 (h2.append h')
theorem Reps.drop{g:Lk}:∀ {l:List AV} {vs:List Qm} (k:Nat),Reps g l vs->Reps g (l.drop k) (vs.drop k)
 | _,_,0,h=>h
 | [],_,k+1,h=>by change _=_ at h;subst h;exact .nil
 | _::_,_,k+1,h=>by
  (refine jW h ?_;clear h;rintro v ws rfl h1 h2)
  simpa using h2.drop k
theorem Reps.take{g:Lk}:∀ {l:List AV} {vs:List Qm} (k:Nat),Reps g l vs->Reps g (l.take k) (vs.take k)
 | _,_,0,h=>.nil
 | [],_,k+1,h=>by change _=_ at h;subst h;exact .nil
 | _::_,_,k+1,h=>by
  (refine jW h ?_;clear h;rintro v ws rfl h1 h2)
  simpa using Reps.cons h1 (h2.take k)
noncomputable def hid(X:List Qk)(h:QU):Lk:=λa=>if a∈X then Qg else h.get? a
theorem j9{X:List Qk}{h:QU}{a:Qk}{o:Obj}(e:hid X h a=Qf o):h.get? a=Qf o:=by
 unfold hid at e;split at e
 ·exact no1 e
 ·exact e
theorem jl{X:List Qk}{h:QU}{a:Qk}{o:Obj}(e:h.get? a=Qf o)(n:a∉X):hid X h a=Qf o:=by
 unfold hid;rw [if_neg n];exact e
theorem ju{X:List Qk}{h h':QU}(k:∀b o,h.get? b=Qf o->h'.get? b=Qf o):Le (hid X h) (hid X h'):=λa o e=>by
 unfold hid at e ⊢;split at e
 ·exact no1 e
 ·rename_i n;rw [if_neg n];exact k _ _ e
inductive Sh where
 | lst
 | ins (x:Qk) (C:Qk) (ns:List Qd)
noncomputable def AV.sp:AV->Option (Nat×Sh×List AV)
 | .own k l=>Qf (k,.lst,l)
 | .owd k x C ns l=>Qf (k,.ins x C ns,l)
 | _=>Qg
noncomputable def ShOk(g:Lk)(sh:Sh)(a:Qk)(o:Obj)(vs:List Qm)(v:Qm):Prop:=match sh with
 | .lst=>v=.ref a/\∃n,o={ cls:=.type "list",data:=.seq vs.toArray n }
 | .ins x C ns=>∃es n,v=.ref x/\g x=Qf ⟨.ref C,Qf a,.plain,#[]⟩/\o=Vh es n/\es.map jU=ns.map Qf/\vs=es.map (·.val)
theorem ShOk.mono{g g':Lk}(k:Le g g'){sh:Sh}{a:Qk}{o:Obj}{vs:List Qm}{v:Qm}(h:ShOk g sh a o vs v):ShOk g' sh a o vs v:=by
 cases sh with
 | lst=>exact h
 | ins x C ns=>(refine jW h ?_;intro es n e e1 r);exact⟨es,n,e,k _ _ e1,r⟩
noncomputable def RepO(X Y:List Qk)(h:QU)(av:AV)(v:Qm):Prop:=match av.sp with
 | some p=>∃a o vs,X[p.1]?=Qf a/\h.get? a=Qf o/\ShOk (hid (X++Y) h) p.2.1 a o vs v/\Reps (hid (X++Y) h) p.2.2 vs
 | none=>Rep (hid (X++Y) h) av v
theorem RepO.to{X Y X' Y':List Qk}{h h':QU}{av:AV}{v:Qm}(le:Le (hid (X++Y) h) (hid (X'++Y') h'))(hx:∀p,av.sp=Qf p->∀a o,X[p.1]?=Qf a->h.get? a=Qf o->X'[p.1]?=Qf a/\h'.get? a=Qf o)(r:RepO X Y h av v):RepO X' Y' h' av v:=by
 unfold RepO at r ⊢
 cases hsp:av.sp with
 | none=>simp only [hsp]at r ⊢;exact r.mono le
 | some p =>
  simp only [hsp]at r ⊢
  (refine Jx r ?_;intro a o vs hX ho sk hr)
  (refine jw (hx p hsp a o hX ho) ?_;intro e1 e2)
  exact⟨a,o,vs,e1,e2,sk.mono le,hr.mono le⟩
theorem RepO.mono{X Y:List Qk}{h h':QU}(k:∀b o,h.get? b=Qf o->h'.get? b=Qf o){av:AV}{v:Qm}(r:RepO X Y h av v):RepO X Y h' av v :=
 r.to (ju k) λp _ a o e1 e2=>⟨e1,k _ _ e2⟩
theorem RepO.asOwn{X Y:List Qk}{h:QU}{k:Nat}{l:List AV}{v:Qm}(r:RepO X Y h (.own k l) v):∃a vs n,v=.ref a/\X[k]?=Qf a/\h.get? a=Qf { cls:=.type "list",data:=.seq vs n }/\Reps (hid (X++Y) h) l vs.toList:=by
 (refine Jx r ?_;clear r;rintro a o vs hX ho ⟨e,n,rfl⟩ hr)
 exact⟨a,vs.toArray,n,e,hX,ho,by simpa using hr⟩
theorem RepO.asOwd{X Y:List Qk}{h:QU}{k:Nat}{x C:Qk}{ns:List Qd}{l:List AV}{v:Qm}(r:RepO X Y h (.owd k x C ns l) v):∃dx es n,v=.ref x/\X[k]?=Qf dx/\h.get? dx=Qf (Vh es n)/\hid (X++Y) h x=Qf ⟨.ref C,Qf dx,.plain,#[]⟩/\es.map jU=ns.map Qf/\Reps (hid (X++Y) h) l (es.map (·.val)):=by
 (refine Jx r ?_;clear r;rintro a o vs hX ho ⟨es,n,e,e1,rfl,e3,rfl⟩ hr)
 exact⟨a,es,n,e,hX,ho,e1,e3,hr⟩
theorem RepO.ofOwd{X Y:List Qk}{h:QU}{k:Nat}{x C dx:Qk}{ns:List Qd}{l:List AV}{es:List VJ}{n:Nat}(hX:X[k]?=Qf dx)(ho:h.get? dx=Qf (Vh es n))(hx:hid (X++Y) h x=Qf ⟨.ref C,Qf dx,.plain,#[]⟩)(hk:es.map jU=ns.map Qf)(hr:Reps (hid (X++Y) h) l (es.map (·.val))):RepO X Y h (.owd k x C ns l) (.ref x) :=
 ⟨dx,_,_,hX,ho,⟨es,n,rfl,hx,rfl,hk,rfl⟩,hr⟩
theorem RepO.ofOwn{X Y:List Qk}{h:QU}{k:Nat}{l:List AV}{a:Qk}{vs:Array Qm}{n:Nat}(hX:X[k]?=Qf a)(ho:h.get? a=Qf { cls:=.type "list",data:=.seq vs n })(hr:Reps (hid (X++Y) h) l vs.toList):RepO X Y h (.own k l) (.ref a) :=
 ⟨a,_,vs.toList,hX,ho,⟨rfl,n,by rfl⟩,hr⟩
noncomputable def Look(X Y:List Qk)(env:Env)(h:QU)(x:Qd)(av:AV):Prop :=
 (env.kindOf x=Qf .local/\∃m v,h.Ns env.locals m/\m x=Qf v/\RepO X Y h av v) ∨
 ((env.kindOf x=Qf .cell∨env.kindOf x=Qf .free)/\∃c v,env.cells.lookup x=Qf c/\h.IsCell c (Qf v)/\RepO X Y h av v)
theorem Look.mono{X Y:List Qk}{env:Env}{h h':QU}(k:∀b o,h.get? b=Qf o->h'.get? b=Qf o){x:Qd}{av:AV}(l:Look X Y env h x av):Look X Y env h' x av:=by
 rcases l with⟨a,m,v,b,c,d⟩ | ⟨a,c,v,b,d,e⟩
 ·exact .inl ⟨a,m,v,b.keeps k,c,d.mono k⟩
 ·exact .inr ⟨a,c,v,b,d.keeps k,e.mono k⟩
structure Ct where
 prog:QI
 w:Ql
 B:QU
 A:QO
 env:Env
 vars:List Qd
 X:List Qk
 σ:List (Option AV)
structure Ct.At (c:Ct) (Y:List Qk) (s:Qi):Prop where
 base:∀a o,c.B.get? a=Qf o->s.heap.get? a=Qf o
 live:∀x∈c.X++Y,∃o,s.heap.get? x=Qf o
 look:∀(i:Nat) (x:Qd) (av:AV),c.vars[i]?=Qf x->c.σ[i]?=Qf (Qf av)->Look c.X Y c.env s.heap x av
 tk:1<=s.toks
theorem Ct.At.mono{c:Ct}{Y:List Qk}{s s':Qi}(k:∀b o,s.heap.get? b=Qf o->s'.heap.get? b=Qf o)(x:c.At Y s)(ht:1<=s'.toks):c.At Y s' :=
 ⟨λa o e=>k _ _ (x.base a o e),λa m=>((x.live a m).imp λo e=>k _ _ e),λi y av e e'=>(x.look i y av e e').mono k,ht⟩
theorem Ct.At.live'{c:Ct}{Y:List Qk}{s:Qi}{h':QU}(x:c.At Y s)(k:∀b o,s.heap.get? b=Qf o->h'.get? b=Qf o):∀z∈c.X++Y,∃o,h'.get? z=Qf o:=λz hz=>((x.live z hz).imp λo e=>k _ _ e)
theorem kU{s:Qi}:Vb s s:=⟨s.heap,s.toks,rfl,λ_ _ e=>e⟩
theorem ktr{s s' s'':Qi}(a:Vb s s')(b:Vb s' s''):Vb s s'':=by
 (refine jn a ?_;clear a;rintro h t rfl k)
 (refine jn b ?_;clear b;rintro h' t' rfl k')
 exact⟨h',t',rfl,λb o e=>k' _ _ (k _ _ e)⟩
theorem jr{s s':Qi}(a:Vb s s'):∀b o,s.heap.get? b=Qf o->s'.heap.get? b=Qf o:=by
 (refine jn a ?_;clear a;rintro h t rfl k);exact k
theorem jK{s:Qi}{h':QU}{tk:Nat}(k:∀b o,s.heap.get? b=Qf o->h'.get? b=Qf o):Vb s { s with heap:=h',toks:=tk }:=⟨h',tk,rfl,k⟩
theorem jh{s:Qi}{tk:Nat}:Vb s { s with toks:=tk }:=⟨s.heap,tk,rfl,λ_ _ e=>e⟩
theorem ja{s:Qi}{h':QU}(k:∀b o,s.heap.get? b=Qf o->h'.get? b=Qf o):Vb s { s with heap:=h' }:=⟨h',s.toks,rfl,k⟩
theorem j7{h:QU}{o:Obj}:∀b o',h.get? b=Qf o'->(h.push o).get? b=Qf o':=λ_ _ e=>XN _ e

noncomputable def Wz{α:Type}(M:Model)(A:QO)(t:Sem α)(Q:α->Qi->Prop)(E:Qe)(s:Qi):Prop:=∀ ⦃Γ:Ctx⦄ p,Γ.In A->Sem.wp M Γ t (λa _ s'=>Q a s') (λe _ s'=>E e s') p s
noncomputable abbrev Ct.M(c:Ct):Model:=model c.prog c.w
noncomputable def PE(c:Ct)(e:Expr)(av:AV):Prop:=∀ ⦃Y:List Qk⦄ (s:Qi) (E:Qe),c.At Y s->Qo c.M c.A (eval e c.env) (λv s'=>Vb s s'/\Rep (hid (c.X++Y) s'.heap) av v) E s
noncomputable def PT(c:Ct)(e:Expr)(b:Bool):Prop:=∀ ⦃Y:List Qk⦄ (s:Qi) (E:Qe),c.At Y s->Qo c.M c.A (isTrue e c.env (eval e c.env)) (λr s'=>Vb s s'/\r=b) E s
theorem PE.use{c:Ct}{e:Expr}{av:AV}(p:PE c e av){Y:List Qk}{s:Qi}{E:Qe}{Q:Qe}(x:c.At Y s)
  (h:∀v s',Vb s s'->c.At Y s'->Rep (hid (c.X++Y) s'.heap) av v->Q v s'):Qo c.M c.A (eval e c.env) Q E s :=
 QB (n:=1) x.tk (Qz (@p Y s _ x) (λv s' ⟨k,r⟩ ht=>h v s' k (x.mono (jr k) ht) r) λ_ _ y=>y)
theorem PT.use{c:Ct}{e:Expr}{b:Bool}(p:PT c e b){Y:List Qk}{s:Qi}{E:Qe}{Q:Bool->Qi->Prop}(x:c.At Y s)
  (h:∀s',Vb s s'->c.At Y s'->Q b s'):Qo c.M c.A (isTrue e c.env (eval e c.env)) Q E s :=
 QB (n:=1) x.tk (Qz (@p Y s _ x) (λv s' ⟨k,r⟩ ht=>by subst r;exact h s' k (x.mono (jr k) ht)) λ_ _ y=>y)
theorem PE.two{c:Ct}{e f:Expr}{a b:AV}(p:PE c e a)(q:PE c f b){Y:List Qk}{s:Qi}{E:Qe}{Q:Qm->Qe}(x:c.At Y s)
  (h:∀v u s',Vb s s'->c.At Y s'->Rep (hid (c.X++Y) s'.heap) a v->Rep (hid (c.X++Y) s'.heap) b u->Q v u s') :
  Qo c.M c.A (eval e c.env) (λv s₁=>Qo c.M c.A (eval f c.env) (λu s₂=>Q v u s₂) E s₁) E s :=
 p.use x λv _ k₁ x₁ r₁=>q.use x₁ λu s₂ k₂ x₂ r₂=>h v u s₂ (ktr k₁ k₂) x₂ (r₁.mono (ju (jr k₂))) r₂
section
variable {c:Ct}
theorem PE.int{i:Int}{k:Nat}{pos:Pos}:PE c (.Constant (.int i) k pos) (.int i):=λY s E x =>
 wpAny_Constant_int ⟨jh,v7⟩
theorem PE.str{x:Qd}{k:Nat}{pos:Pos}:PE c (.Constant (.str x) k pos) (.str x):=λY s E _ =>
 Vw ⟨jh,vq⟩
theorem PE.bool{b:Bool}{k:Nat}{pos:Pos}:PE c (.Constant (.bool b) k pos) (.bool b):=λY s E _ =>
 Constant_bool ⟨kU,repB⟩
theorem PE.non{k:Nat}{pos:Pos}:PE c (.Constant .none k pos) .none:=λY s E _ =>
 Constant_none ⟨kU,repN⟩
noncomputable abbrev yy(av:AV):Prop:=av.sp=Qg
theorem RepO.rep{X Y:List Qk}{h:QU}{av:AV}{v:Qm}(r:RepO X Y h av v)(n:yy av):Rep (hid (X++Y) h) av v:=by
 unfold RepO at r;simp only [n]at r;exact r
theorem RepO.of{X Y:List Qk}{h:QU}{av:AV}{v:Qm}(r:Rep (hid (X++Y) h) av v):RepO X Y h av v:=by
 unfold RepO
 cases hsp:av.sp with
 | none=>exact r
 | some p=>cases av<;>first | exact Zc r | exact no1 hsp
theorem PE.var(i:Nat){x:Qd}{av:AV}{pos:Pos}(hk:c.env.scope.kind=.function)(hi:c.vars[i]?=Qf x)(hs:c.σ[i]?=Qf (Qf av))(hd:(x==("__debug__" : Qd))=false)(hcd:(x==("__classdict__" : Qd))=false)(n:yy av:=by rfl) :
  PE c (.Name x pos) av:=λY s E y=>by
 refine wpAny_Name ?_ hd
 rcases y.look i x av hi hs with⟨a,m,v,b,e,d⟩ | ⟨a,cc,v,b,e,d⟩
 ·exact wpAny_loadName_local hk a b e ⟨kU,d.rep n⟩
 ·rcases a with a | a
  ·exact wpAny_loadName_cell hk a b e ⟨kU,d.rep n⟩
  ·exact wpAny_loadName_free hk a b e ⟨kU,d.rep n⟩ hcd
end
noncomputable def Room(n:Nat)(A:QO):Prop:=A.handled=Qg/\A.depth+n<=900/\A.units+100*n<=9000
theorem Room.deeper{n:Nat}{A:QO}{env:Env}(r:Room (n+1) A):Room n (A.deeper env):=by
 (refine xE r ?_;intro a b d)
 refine⟨a,?_,?_⟩
 ·show A.depth+1+n<=900;exact zr34 ‹_›
 ·show A.units+3+100*n<=9000;lia
theorem Room.in1{n:Nat}{A:QO}(r:Room (n+1) A):Room n A.in1:=by
 (refine xE r ?_;intro a b d)
 refine⟨a,?_,?_⟩
 ·show A.depth+n<=900;exact Vt ‹_›
 ·show A.units+1+100*n<=9000;lia
theorem Room.le{n m:Nat}{A:QO}(r:Room n A)(h:m<=n):Room m A:=⟨r.1,by have:=r.2.1;lia,by have:=r.2.2;lia⟩
theorem Room.depth{n:Nat}{A:QO}(r:Room n A):A.depth<recursionLimit:=by have:=r.2.1;show A.depth<1000;exact zr24 ‹_› rfl
theorem Room.units{n:Nat}{A:QO}(r:Room n A):A.units+800<cLine:=by have:=r.2.2;show A.units+800<9900;lia
structure Gd (c:Ct) (n:Nat) (mg mb:Qd->Option Qm):Prop where
 kind:c.env.scope.kind=.function
 glob:c.env.globals=XD
 blt:c.env.builtins=YL
 ns:c.B.Ns XD mg
 bs:c.B.Ns YL mb
 lim:c.B.NoLimit
 room:Room n c.A
section
variable {c:Ct} {n:Nat} {mg mb:Qd->Option Qm}
theorem PE.glob(G:Gd c n mg mb){x:Qd}{pos:Pos}{v:Qm}(hv:mg x=Qf v)(hx:c.env.kindOf x=Qf .globalImplicit)(hd:(x==("__debug__" : Qd))=false):PE c (.Name x pos) (.raw v):=λY s E a=>by
 refine Y5 G.kind hx (Calls.loadGlobal_global (mg:=mg) ?_ hv ⟨kU,vC⟩) hd
 rw [G.glob];exact G.ns.keeps a.base
theorem PE.globI(G:Gd c n mg mb){x:Qd}{pos:Pos}{i:Int}{t:Tok}(hv:mg x=Qf (.int i t))(hx:c.env.kindOf x=Qf .globalImplicit)(hd:(x==("__debug__" : Qd))=false):PE c (.Name x pos) (.int i):=λY s E a=>by
 refine Y5 G.kind hx (Calls.loadGlobal_global (mg:=mg) ?_ hv ⟨kU,Exists.intro _ rfl⟩) hd
 rw [G.glob];exact G.ns.keeps a.base
theorem PE.blt(G:Gd c n mg mb){x:Qd}{pos:Pos}{v:Qm}(hm:mg x=Qg)(hv:mb x=Qf v)(hx:c.env.kindOf x=Qf .globalImplicit)(hd:(x==("__debug__" : Qd))=false):PE c (.Name x pos) (.raw v):=λY s E a=>by
 refine Y5 G.kind hx (Calls.loadGlobal_builtin (mg:=mg) (mb:=mb) ?_ hm ?_ hv ⟨kU,vC⟩) hd
 ·rw [G.glob];exact G.ns.keeps a.base
 ·rw [G.blt];exact G.bs.keeps a.base
end
section
variable {c:Ct}
theorem PE.bin{l r:Expr}{op:Operator}{pos:Pos}{a b d:AV}(p:PE c l a)(q:PE c r b)
  (h:∀(Y:List Qk) (s:Qi) (E:Qe) v u,c.At Y s->Rep (hid (c.X++Y) s.heap) a v->Rep (hid (c.X++Y) s.heap) b u->Qo c.M c.A (binaryOp op v u) (λv s'=>Vb s s'/\Rep (hid (c.X++Y) s'.heap) d v) E s) :
  PE c (.BinOp l op r pos) d:=λY s E x =>
 wpAny_BinOp (PE.two p q x λv u s₁ k x₁ rv ru=>Qz (h Y s₁ E v u x₁ rv ru) (λ_ _ ⟨k',r⟩=>⟨ktr k k',r⟩) λ_ _ y=>y)
theorem jk{g:Lk}{i:Int}{v:Qm}(h:Rep g (.int i) v):∃t,v=.int i t:=h
theorem jj{g:Lk}{x:Qd}{v:Qm}(h:Rep g (.str x) v):∃t,v=.str x t:=h
theorem jb{g:Lk}{u v:Qm}(h:Rep g (.raw u) v):v=u:=h
theorem jY{g:Lk}{l:List AV}{v:Qm}(h:Rep g (.list l) v):∃a vs n,v=.ref a/\g a=Qf { cls:=.type "list",data:=.seq vs n }/\Reps g l vs.toList:=h
theorem qN{g:Lk}{l:List AV}{v:Qm}(h:Rep g (.list l) v):∃a o vs n,v=.ref a/\g a=Qf o/\o.cls=.type "list"/\o.data=.seq vs n/\Reps g l vs.toList:=by
 (refine JM (jY h) ?_;intro a vs n e ho hr)
 exact⟨a,_,vs,n,e,ho,rfl,rfl,hr⟩
theorem kJ{g:Lk}{l:List AV}{v:Qm}(h:Rep g (.tup l) v):∃a o vs n,v=.ref a/\g a=Qf o/\o.cls=.type "tuple"/\o.data=.seq vs n/\Reps g l vs.toList:=h
theorem PE.add{l r:Expr}{pos:Pos}{a b:Int}(p:PE c l (.int a))(q:PE c r (.int b)):PE c (.BinOp l .Add r pos) (.int (a+b)) :=
 p.bin q λY s E v u x rv ru=>by
  (refine jd (jk rv) ?_;rintro t rfl);(refine jd (jk ru) ?_;rintro t' rfl)
  exact P.add_int ⟨jh,v7⟩
theorem PE.sub{l r:Expr}{pos:Pos}{a b:Int}(p:PE c l (.int a))(q:PE c r (.int b)):PE c (.BinOp l .Sub r pos) (.int (a-b)) :=
 p.bin q λY s E v u x rv ru=>by
  (refine jd (jk rv) ?_;rintro t rfl);(refine jd (jk ru) ?_;rintro t' rfl)
  exact P.sub_int ⟨jh,v7⟩
theorem PE.mul{l r:Expr}{pos:Pos}{a b:Int}(p:PE c l (.int a))(q:PE c r (.int b))(hm:IntMulOk a b):PE c (.BinOp l .Mult r pos) (.int (a*b)) :=
 p.bin q λY s E v u x rv ru=>by
  (refine jd (jk rv) ?_;rintro t rfl);(refine jd (jk ru) ?_;rintro t' rfl)
  exact P.mul_int (hm:=hm) ⟨jh,v7⟩
theorem PE.mod{l r:Expr}{pos:Pos}{a b:Int}(p:PE c l (.int a))(q:PE c r (.int b))(hb:0<b):PE c (.BinOp l .Mod r pos) (.int (a%b)) :=
 p.bin q λY s E v u x rv ru=>by
  (refine jd (jk rv) ?_;rintro t rfl);(refine jd (jk ru) ?_;rintro t' rfl)
  refine mod_int (by exact(Int.ne_of_lt ‹_›).symm) ⟨jh,?_⟩
  rw [Int.fmod_eq_emod_of_nonneg _ (by exact Int.le_of_lt ‹_›)];exact v7
theorem PE.div{l r:Expr}{pos:Pos}{a b:Int}(p:PE c l (.int a))(q:PE c r (.int b))(hb:0<b)(hs:YB a b=false):PE c (.BinOp l .FloorDiv r pos) (.int (a/b)) :=
 p.bin q λY s E v u x rv ru=>by
  (refine jd (jk rv) ?_;rintro t rfl);(refine jd (jk ru) ?_;rintro t' rfl)
  refine floordiv_int (by exact(Int.ne_of_lt ‹_›).symm) ⟨jh,?_⟩ (.inl hs)
  rw [Int.fdiv_eq_ediv_of_nonneg _ (by exact Int.le_of_lt ‹_›)];exact v7
theorem PE.pow{l r:Expr}{pos:Pos}{a:Int}{b:Nat}(p:PE c l (.int a))(q:PE c r (.int b))(hs:(YW a:Int)*b<=2^27):PE c (.BinOp l .Pow r pos) (.int (a^b)) :=
 p.bin q λY s E v u x rv ru=>by
  (refine jd (jk rv) ?_;rintro t rfl);(refine jd (jk ru) ?_;rintro t' rfl)
  exact pow_int (by exact XA _) hs ⟨jh,v7⟩
theorem zv{X:List Qk}{h:QU}{a:Qk}(lv:∀x∈X,∃o,h.get? x=Qf o)(e:h.get? a=Qg):a∉X:=λm=>by
 (refine jd (lv a m) ?_;intro o ho);rw [ho]at e;exact no2 e
theorem jm{h:QU}:h.get? h.objs.size=none:=X5 (Vr _)
theorem kx{X:List Qk}{h:QU}{o:Obj}(lv:∀x∈X,∃o,h.get? x=Qf o)(hf:o.isFreed=false):hid X (h.push o) h.objs.size=Qf o :=
 jl (Qs _ hf) (zv lv jm)
noncomputable def PEs(c:Ct)(es:List Expr)(avs:List AV):Prop:=∀ ⦃pos:Pos⦄ (Y:List Qk) (s:Qi) (E:Qe),c.At Y s ->
 Qo c.M c.A (spliced (VO pos (Qv es c.env))) (λvs s'=>Vb s s'/\Reps (hid (c.X++Y) s'.heap) avs vs) E s
theorem PEs.use{es:List Expr}{avs:List AV}(p:PEs c es avs){pos:Pos}{Y:List Qk}{s:Qi}{E:Qe}{Q:List Qm->Qi->Prop}(x:c.At Y s)
  (h:∀vs s',Vb s s'->c.At Y s'->Reps (hid (c.X++Y) s'.heap) avs vs->Q vs s'):Qo c.M c.A (spliced (VO pos (Qv es c.env))) Q E s :=
 QB (n:=1) x.tk (Qz (p Y s _ x) (λvs s' ⟨k,r⟩ ht=>h vs s' k (x.mono (jr k) ht) r) λ_ _ y=>y)
theorem PEs.nil:PEs c [] []:=λpos Y s E x=>QK ⟨kU,.nil⟩
theorem PEs.cons{e:Expr}{es:List Expr}{a:AV}{as:List AV}(p:PE c e a)(q:PEs c es as)(hs:Qv (e::es) c.env=(false,eval e c.env)::Qv es c.env:=by rfl):PEs c (e::es) (a::as):=λpos Y s E x=>by
 rw [hs]
 show Qo c.M c.A (spliced ((false,eval e c.env)::VO pos (Qv es c.env))) _ E s
 exact Qq (p.use x λv s₁ k₁ x₁ r₁=>Qz (q Y s₁ E x₁) (λvs s₂ ⟨k₂,r₂⟩=>⟨ktr k₁ k₂,.cons (r₁.mono (ju (jr k₂))) r₂⟩) λ_ _ y=>y)
theorem PE.list{es:List Expr}{avs:List AV}{pos:Pos}(p:PEs c es avs)(hz:avs.length<=Qt):PE c (.List es pos) (.list avs):=λY s E x=>by
 refine List_ (Qz (p Y s E x) (λvs s₁ ⟨k,r⟩=>?_) λ_ _ y=>y)
 refine V1 ⟨ktr k (ja j7),?_⟩ (by show vs.toArray.size<=Qt;rw [Vk,r.length];exact hz)
 show Exists _
 exact⟨_,vs.toArray,0,rfl,kx (x.live' (jr k)) rfl,r.mono (ju j7)⟩
theorem PE.tup{es:List Expr}{avs:List AV}{k:Nat}{pos:Pos}(p:PEs c es avs)(hz:avs.length<=Qt):PE c (.Tuple es k pos) (.tup avs):=λY s E x=>by
 refine Tuple_ (Qz (p Y s E x) (λvs s₁ ⟨k,r⟩=>?_) λ_ _ y=>y)
 refine V1 ⟨ktr k (ja j7),?_⟩ (by show vs.toArray.size<=Qt;rw [Vk,r.length];exact hz)
 show Exists _
 exact⟨_,_,vs.toArray,0,rfl,kx (x.live' (jr k)) rfl,rfl,rfl,r.mono (ju j7)⟩
noncomputable def jX(c:Ct)(op:CmpOp)(a b:AV)(r:Bool):Prop:=∀ ⦃Y:List Qk⦄ (s:Qi) (E:Qe) v u,c.At Y s->Rep (hid (c.X++Y) s.heap) a v->Rep (hid (c.X++Y) s.heap) b u->Qo c.M c.A (compareOp op v u) (λv s'=>Vb s s'/\v=.bool r) E s
theorem PE.cmp{l r:Expr}{op:CmpOp}{pos:Pos}{a b:AV}{k:Bool}(p:PE c l a)(q:PE c r b)(h:jX c op a b k)(hm:Yp op r=false:=by with_unfolding_all rfl):PE c (.Compare l [op] [r] pos) (.bool k):=λY s E x =>
 wpAny_Compare1 (PE.two p q x λv u s₁ k x₁ rv ru=>Qz (h s₁ E v u x₁ rv ru) (λ_ _ ⟨k',r⟩=>⟨ktr k k',by subst r;exact repB⟩) λ_ _ y=>y) hm
theorem PT.cmp{l r:Expr}{op:CmpOp}{pos:Pos}{a b:AV}{k:Bool}(p:PE c l a)(q:PE c r b)(h:jX c op a b k)(hm:Yp op r=false:=by with_unfolding_all rfl):PT c (.Compare l [op] [r] pos) k:=λY s E x =>
 wpAny_isTrue_Compare1 (PE.two p q x λv u s₁ k x₁ rv ru=>Qz (h s₁ E v u x₁ rv ru) (λ_ _ ⟨k',r⟩=>by subst r;exact YG ⟨ktr k k',rfl⟩) λ_ _ y=>y) hm
theorem jV{a b:Int}{k:Bool}(op:CmpOp)(h:(match op with | .Eq=>decide (a=b) | .NotEq=>decide (a≠b) | .Lt=>decide (a<b) | .LtE=>decide (a<=b) | .Gt=>decide (b<a) | .GtE=>decide (b<=a) | _=>!k)=k):jX c op (.int a) (.int b) k:=λY s E v u x rv ru=>by
 (refine jd (jk rv) ?_;rintro t rfl);(refine jd (jk ru) ?_;rintro t' rfl)
 cases op<;>dsimp only at h
 ·exact P.eq_int ⟨kU,by rw [<-h];congr 1⟩
 ·exact P.ne_int ⟨kU,by rw [<-h];congr 1;by_cases e:a=b<;>simp [e]⟩
 ·exact P.lt_int ⟨kU,by rw [<-h]⟩
 ·exact P.le_int ⟨kU,by rw [<-h]⟩
 ·exact P.gt_int ⟨kU,by rw [<-h]⟩
 ·exact P.ge_int ⟨kU,by rw [<-h]⟩
 all_goals (cases k<;>simp at h)
theorem PT.val{e:Expr}{b:Bool}(p:PE c e (.bool b))(he:isTrue e c.env (eval e c.env)=(do let v <-eval e c.env;Xy e.pos;Zz [v] (truthy v)):=by rfl):PT c e b:=λY s E x =>
 isTrue_plain (p.use x λv s₁ k x₁ r=>by
  have:v=.bool b:=r
  subst this;exact YG ⟨k,rfl⟩) he
theorem PT.not{e:Expr}{pos:Pos}{b:Bool}(p:PT c e b):PT c (.UnaryOp .Not e pos) (!b):=λY s E x =>
 isTrue_not (p.use x λs₁ k _=>⟨k,rfl⟩)
theorem PT.and_nil{pos:Pos}:PT c (.BoolOp .And [] pos) true:=λY s E x=>isTrue_and_nil ⟨kU,rfl⟩
theorem PT.and{e:Expr}{es:List Expr}{pos:Pos}{b b':Bool}(p:PT c e b)(q:b=true->PT c (.BoolOp .And es pos) b'):PT c (.BoolOp .And (e::es) pos) (b&&b'):=λY s E x =>
 isTrue_and (p.use x λs₁ k x₁=>by
  cases b with
  | false=>exact⟨k,rfl⟩
  | true=>exact Qz (q rfl s₁ E x₁) (λr s' ⟨k',e⟩=>⟨ktr k k',by simpa using e⟩) λ_ _ y=>y)
theorem PT.or_nil{pos:Pos}:PT c (.BoolOp .Or [] pos) false:=λY s E x=>isTrue_or_nil ⟨kU,rfl⟩
theorem PT.or{e:Expr}{es:List Expr}{pos:Pos}{b b':Bool}(p:PT c e b)(q:b=false->PT c (.BoolOp .Or es pos) b'):PT c (.BoolOp .Or (e::es) pos) (b||b'):=λY s E x =>
 isTrue_or (p.use x λs₁ k x₁=>by
  cases b with
  | true=>exact⟨k,rfl⟩
  | false=>exact Qz (q rfl s₁ E x₁) (λr s' ⟨k',e⟩=>⟨ktr k k',by simpa using e⟩) λ_ _ y=>y)
theorem PE.ite{t e f:Expr}{pos:Pos}{b:Bool}{av:AV}(p:PT c t b)(h1:b=true->PE c e av)(h2:b=false->PE c f av):PE c (.IfExp t e f pos) av:=λY s E x =>
 IfExp_ (p.use x λs₁ k x₁=>by
  cases b with
  | true=>exact Qz (h1 rfl s₁ E x₁) (λ_ _ ⟨k',r⟩=>⟨ktr k k',r⟩) λ_ _ y=>y
  | false=>exact Qz (h2 rfl s₁ E x₁) (λ_ _ ⟨k',r⟩=>⟨ktr k k',r⟩) λ_ _ y=>y)
end
noncomputable def Cal(prog:QI)(w:Ql)(B:QU)(A:QO)(f:Qm)(avs:List AV)(res:AV):Prop:=∀ ⦃X:List Qk⦄ (s:Qi) (E:Qe) (vs:List Qm),
 (∀a o,B.get? a=Qf o->s.heap.get? a=Qf o)->(∀x∈X,∃o,s.heap.get? x=Qf o)->1<=s.toks->Reps (hid X s.heap) avs vs ->
 Qo (model prog w) A (call f vs) (λv s'=>Vb s s'/\Rep (hid X s'.heap) res v) E s
section
variable {c:Ct}
theorem je{M:Model}{A:QO}{E:Qe}{s:Qi}{f:Qm}{l:List (Bool×Sem Qm)}{Q:Args->Qi->Prop}(hl:l.any (·.1)=false)
  (h:Qo M A (spliced l) (λvs s'=>Q ⟨vs,[]⟩ s') E s):Qo M A (evalArgs f true l []) Q E s:=by
 match l,hl,h with
 | [],_,h =>
  unfold evalArgs
  show Qo M A (spliced [] >>= _) Q E s
  refine Qh (Qz h (λvs s' h'=>?_) λ_ _ x=>x)
  refine Qh (Qn ?_)
  refine QS ?_
  exact Qh (Qn (Qh (Qn (Qn h'))))
 | (false,x)::r,_,h=>exact Calls.evalArgs_plain h
 | (true,x)::r,hl,_=>simp at hl
theorem jC{es:List Expr}{env:Env}(h:(Qv es env).any (·.1)=false)(pos:Pos):(VO pos (Qv es env)).any (·.1)=false:=by
 unfold VO
 rw [List.any_map]
 rw [<-h];congr 1
theorem PE.callB{f:Expr}{es:List Expr}{pos:Pos}{id:String}{avs:List AV}{res:AV}(p:PE c f (.raw (.builtin id)))(q:PEs c es avs)(h:Cal c.prog c.w c.B c.A (.builtin id) avs res)
  (hs:(Qv es c.env).any (·.1)=false:=by rfl)
  (he:eval (.Call f es [] pos) c.env=(do VL pos (<-eval f c.env) [] (VO pos (Qv es c.env)) (VE pos (V3 [] c.env))):=by rfl):PE c (.Call f es [] pos) res:=λY s E x=>by
 rw [he]
 refine Qh (p.use x λv s₁ k₁ x₁ r₁=>?_)
 obtain rfl:=jb r₁
 refine Xm (jC hs pos) (je (jC hs pos) (q.use x₁ λvs s₂ k₂ x₂ r₂=>?_))
 exact Qz (h s₂ E vs x₂.base x₂.live x₂.tk r₂) (λv s₃ ⟨k₃,r₃⟩=>⟨ktr k₁ (ktr k₂ k₃),r₃⟩) λ_ _ y=>y
theorem PE.callF{f:Expr}{es:List Expr}{pos:Pos}{a:Qk}{o:Obj}{fd:VF}{avs:List AV}{res:AV}(p:PE c f (.raw (.ref a)))(q:PEs c es avs)(ho:c.B.get? a=Qf o)(hd:o.data=.func fd)(h:Cal c.prog c.w c.B c.A (.ref a) avs res)
  (hs:(Qv es c.env).any (·.1)=false:=by rfl)
  (he:eval (.Call f es [] pos) c.env=(do VL pos (<-eval f c.env) [] (VO pos (Qv es c.env)) (VE pos (V3 [] c.env))):=by rfl):PE c (.Call f es [] pos) res:=λY s E x=>by
 rw [he]
 refine Qh (p.use x λv s₁ k₁ x₁ r₁=>?_)
 obtain rfl:=jb r₁
 refine VT (o:=o) (fd:=fd) (je (jC hs pos) (q.use x₁ λvs s₂ k₂ x₂ r₂=>?_))
 exact⟨⟨x₂.base _ _ ho,hd⟩,Qz (h s₂ E vs x₂.base x₂.live x₂.tk r₂) (λv s₃ ⟨k₃,r₃⟩=>⟨ktr k₁ (ktr k₂ k₃),r₃⟩) λ_ _ y=>y⟩
end
theorem jD{H:List Qk}{h h':QU}(k:∀b,b∉H->h'.get? b=h.get? b):hid H h'=hid H h:=by
 funext a;unfold hid;split
 ·rfl
 ·rename_i n;exact k a n
noncomputable abbrev Ct.Yf(c:Ct)(Yc:List Qk):List Addr:=c.env.locals::(c.env.cells.map (·.2)++Yc)
structure Fm (c:Ct) (Yc:List Qk) (s₀ s:Qi):Prop where
 base:∀a o,c.B.get? a=Qf o->s₀.heap.get? a=Qf o
 old:∀y∈Yc,∃o,s.heap.get? y=Qf o
 own:∀x∈c.X,s₀.heap.objs.size<=x/\x≠c.env.locals/\x∉c.env.cells.map (·.2)/\∃o,s.heap.get? x=Qf o
 nodup:c.X.Nodup/\∀x∈c.X,x∉Yc
 cnd:(c.env.cells.map (·.1)).Nodup
 kind:c.env.scope.kind=.function
 fr:∃m cm,InCallC s₀ c.env.locals m c.env.cells cm s/\∀(i:Nat) (x:Qd) (av:AV),c.vars[i]?=Qf x->c.σ[i]?=Qf (Qf av) ->
  ∃v,RepO c.X (c.Yf Yc) s.heap av v/\((c.env.kindOf x=Qf .local/\m x=Qf v)∨(c.env.kindOf x=Qf .cell/\cm x=Qf v/\(c.env.cells.lookup x).isSome=true))
noncomputable def Own(c:Ct):List Addr:=c.X++(c.env.locals::c.env.cells.map (·.2))
noncomputable def Grow(c:Ct)(s s':Qi):Prop:=∃h' tk,s'={ s with heap:=h',toks:=tk }/\∀b o,b∉Own c->s.heap.get? b=Qf o->h'.get? b=Qf o
theorem kC{cs:List (Qd×Qk)}(nd:(cs.map (·.1)).Nodup){n:Qd}{a:Qk}(h:(n,a)∈cs):cs.lookup n=Qf a:=lookup_of_mem_nodup nd h
theorem kQ{s₀ s s':Qi}{L:Qk}{m cm:Qd->Option Qm}{cs:List (Qd×Qk)}(x:InCallC s₀ L m cs cm s)(k:Vb s s'):InCallC s₀ L m cs cm s':=by
 (refine jn k ?_;clear k;rintro h t rfl kk)
 (refine jN x.toInCall.same ?_;rintro h₁ t₁ rfl)
 exact⟨⟨⟨h,t,rfl⟩,x.toInCall.ns.keeps kk,λb o e=>kk _ _ (x.toInCall.keep b o e),x.toInCall.fresh⟩,λn c e=>(x.cell n c e).keeps kk,x.apart,x.above⟩
section
variable {c:Ct} {Yc:List Qk} {s₀ s s':Qi}
theorem Fm.keeps(f:Fm c Yc s₀ s)(k:Vb s s'):Fm c Yc s₀ s':=by
 (refine jn f.fr ?_;intro m cm ic lk)
 exact⟨f.base,λy hy=>((f.old y hy).imp λo e=>jr k _ _ e),λx hx=>⟨(f.own x hx).1,(f.own x hx).2.1,(f.own x hx).2.2.1,(((f.own x hx).2.2.2).imp λo e=>jr k _ _ e)⟩,f.nodup,f.cnd,f.kind,
  m,cm,kQ ic k,λi x av e e'=>let ⟨v,r,q⟩:=lk i x av e e';⟨v,r.mono (jr k),q⟩⟩
theorem Fm.at(f:Fm c Yc s₀ s)(ht:1<=s.toks):c.At (c.Yf Yc) s:=by
 (refine jn f.fr ?_;intro m cm ic lk)
 refine⟨λa o e=>ic.toInCall.keep _ _ (f.base a o e),λx hx=>?_,λi x av e e'=>?_,ht⟩
 ·rcases Qa hx with hx | hx
  ·exact(f.own x hx).2.2.2
  ·rcases Qb hx with rfl | hx
   ·(refine yY ic.toInCall.ns ?_;intro o _ _ ho _);exact⟨o,ho⟩
   ·rcases Qa hx with hx | hx
    ·(refine jc (Qw.mp hx) ?_;rintro⟨n,a⟩ hm rfl)
     (refine jc (ic.cell n a (kC f.cnd hm)) ?_;intro o ho _)
     exact⟨o,ho⟩
    ·exact f.old x hx
 ·(refine jc (lk i x av e e') ?_;rintro v r (q | q))
  ·exact .inl ⟨q.1,m,v,ic.toInCall.ns,q.2,r⟩
  ·(refine xE q ?_;intro q1 q2 q3)
   (refine jd (Vz.mp q3) ?_;intro a ha)
   exact .inr ⟨.inl q1,a,v,ha,q2▸ic.cell x a ha,r⟩
theorem Fm.kept(f:Fm c Yc s₀ s):Vb s₀ s:=by
 (refine jn f.fr ?_;intro m cm ic lk)
 (refine jn ic.done ?_;intro h' tk e k)
 exact⟨h',tk,e,k⟩
noncomputable abbrev Ct.st(c:Ct)(i:Nat)(av:AV):Ct:={ c with σ:=c.σ.set i (Qf av) }
structure Vars (c:Ct):Prop where
 nd:c.vars.Nodup
 kd:∀x∈c.vars,c.env.kindOf x=Qf .local∨(c.env.kindOf x=Qf .cell/\(c.env.cells.lookup x).isSome=true)
theorem vg{α:Type}{l:List α}{i j:Nat}{a b:α}(e:(l.set i a)[j]?=Qf b):(i=j/\b=a)∨(i≠j/\l[j]?=Qf b):=by
 rw [List.getElem?_set]at e
 split at e
 ·rename_i h;subst h
  split at e
  ·(have q_:=oi e;clear e;subst q_);exact .inl ⟨rfl,rfl⟩
  ·exact no1 e
 ·rename_i h;exact .inr ⟨h,e⟩
theorem vD{l:List Qd}(nd:l.Nodup){i j:Nat}{x:Qd}(hi:l[i]?=Qf x)(hj:l[j]?=Qf x):i=j:=by
 (refine jd (QT.mp hi) ?_;intro h1 e1)
 (refine jd (QT.mp hj) ?_;intro h2 e2)
 exact(List.getElem_inj nd).mp (e1.trans e2.symm)
theorem qs{X Y:List Qk}{h h':QU}{av:AV}{v:Qm}(hs:hid (X++Y) h'=hid (X++Y) h)(hx:∀x∈X,h'.get? x=h.get? x)(r:RepO X Y h av v):RepO X Y h' av v :=
 r.to (λb o e=>by rw [hs];exact e) λp _ a o e1 e2=>⟨e1,(hx a (QE e1)).trans e2⟩
theorem Fm.storeK(V:Vars c)(f:Fm c Yc s₀ s){i:Nat}{x:Qd}{av:AV}{v:Qm}(hi:c.vars[i]?=Qf x)(r:RepO c.X (c.Yf Yc) s.heap av v){E:Qe}{Q:Unit->Qi->Prop}
  (h:∀s',Grow c s s'->(∀y,y≠c.env.locals->y∉c.env.cells.map (·.2)->s'.heap.get? y=s.heap.get? y)->Fm (c.st i av) Yc s₀ s'->Q () s'):Qo c.M c.A (storeName c.env x v) Q E s:=by
 (refine jn f.fr ?_;intro m cm ic lk)
 have mY:∀ {y},y=c.env.locals∨y∈c.env.cells.map (·.2)->y∈c.X++c.Yf Yc:=λ{y} hy=>Q7 _ (by
  rcases hy with rfl | hy
  ·exact .head _
  ·exact .tail _ (Q8 _ hy))
 rcases V.kd x (QE hi)with hl | ⟨hl,hc⟩
 ·refine wpAny_storeName_local hl ic.toInCall.ns (λh' hn' hs'=>h _ ⟨h',_,rfl,λb o hb e=>(hs'.2 b λq=>hb (Q7 _ (q▸.head _))).trans e⟩ (λy h1 _=>hs'.2 y h1) ?_) (by rw [f.kind];rfl)
  have hs:hid (c.X++c.Yf Yc) h'=hid (c.X++c.Yf Yc) s.heap:=jD λb hb=>hs'.2 b λe=>hb (mY (.inl e))
  have hx:∀y∈c.X,h'.get? y=s.heap.get? y:=λy hy=>hs'.2 y (f.own y hy).2.1
  have old':∀y∈Yc,∃o,h'.get? y=Qf o:=λy hy=>by
   by_cases q:y=c.env.locals
   ·(refine yY hn' ?_;intro o _ _ ho _);exact⟨o,q▸ho⟩
   ·(refine jd (f.old y hy) ?_;intro o ho);exact⟨o,(hs'.2 y q).trans ho⟩
  refine⟨f.base,old',λy hy=>⟨(f.own y hy).1,(f.own y hy).2.1,(f.own y hy).2.2.1,(((f.own y hy).2.2.2).imp λo e=>(hx y hy).trans e)⟩,f.nodup,f.cnd,f.kind,
   λy=>if y=x then Qf v else m y,cm,⟨⟨?_,hn',λb o e=>?_,ic.toInCall.fresh⟩,λk a ha=>(ic.cell k a ha).sameBut hs' (Nat.ne_of_gt (ic.above k a (mem_of_lookup ha))),ic.apart,ic.above⟩,λj y av' e e'=>?_⟩
  ·(refine jN ic.toInCall.same ?_;rintro h₁ tk rfl)
   exact⟨h',_,rfl⟩
  ·exact hs'.extBut b o (QR (Y4 (Vo e) ic.toInCall.fresh)) (ic.toInCall.keep b o e)
  ·rcases vg e' with⟨rfl,e2⟩ | ⟨hne,e2⟩
   ·(have q_:=oi e2;clear e2;subst q_)
    have:y=x:=oi (e.symm.trans hi)
    subst this
    exact⟨v,qs hs hx r,.inl ⟨hl,by simp⟩⟩
   ·(refine jc (lk j y av' e e2) ?_;intro u ru q)
    refine⟨u,qs hs hx ru,?_⟩
    have hyx:y≠x:=λq=>hne (vD V.nd hi (q▸e))
    rcases q with⟨q1,q2⟩ | q
    ·exact .inl ⟨q1,by simp [hyx,q2]⟩
    ·exact .inr q
 ·(refine jd (Vz.mp hc) ?_;intro a ha)
  have hac:a∈c.env.cells.map (·.2):=Qw.mpr ⟨(x,a),mem_of_lookup ha,rfl⟩
  have hLc:=ic.above x a (mem_of_lookup ha)
  refine wpAny_storeName_cell f.kind hl ha (ic.cell x a ha) λh' hc' hs'=>h _ ⟨h',s.toks,rfl,λb o hb e=>(hs'.2 b λq=>hb (Q7 _ (.tail _ (q▸hac)))).trans e⟩ (λy _ h2=>hs'.2 y λe=>h2 (e▸hac)) ?_
  have hs:hid (c.X++c.Yf Yc) h'=hid (c.X++c.Yf Yc) s.heap:=jD λb hb=>hs'.2 b λe=>hb (mY (.inr (e▸hac)))
  have hx:∀y∈c.X,h'.get? y=s.heap.get? y:=λy hy=>hs'.2 y λe=>(f.own y hy).2.2.1 (e▸hac)
  have old':∀y∈Yc,∃o,h'.get? y=Qf o:=λy hy=>by
   by_cases q:y=a
   ·(refine jc hc' ?_;intro o ho _);exact⟨o,q▸ho⟩
   ·(refine jd (f.old y hy) ?_;intro o ho);exact⟨o,(hs'.2 y q).trans ho⟩
  refine⟨f.base,old',λy hy=>⟨(f.own y hy).1,(f.own y hy).2.1,(f.own y hy).2.2.1,(((f.own y hy).2.2.2).imp λo e=>(hx y hy).trans e)⟩,f.nodup,f.cnd,f.kind,
   m,λy=>if y=x then Qf v else cm y,⟨⟨?_,ic.toInCall.ns.sameBut hs' (QR hLc),λb o e=>?_,ic.toInCall.fresh⟩,λk b hb=>?_,ic.apart,ic.above⟩,λj y av' e e'=>?_⟩
  ·(refine jN ic.toInCall.same ?_;rintro h₁ tk rfl)
   exact⟨h',_,rfl⟩
  ·exact hs'.extBut b o (QR (Zn (Y4 (Vo e) ic.toInCall.fresh) hLc)) (ic.toInCall.keep b o e)
  ·by_cases hkx:k=x
   ·subst hkx
    rw [ha]at hb;(have q_:=oi hb;clear hb;subst q_)
    simpa using hc'
   ·rw [if_neg hkx]
    exact(ic.cell k b hb).sameBut hs' λe=>hkx (name_of_addr ic.apart (mem_of_lookup hb) (e▸mem_of_lookup ha))
  ·rcases vg e' with⟨rfl,e2⟩ | ⟨hne,e2⟩
   ·(have q_:=oi e2;clear e2;subst q_)
    have:y=x:=oi (e.symm.trans hi)
    subst this
    exact⟨v,qs hs hx r,.inr ⟨hl,by simp,hc⟩⟩
   ·(refine jc (lk j y av' e e2) ?_;intro u ru q)
    refine⟨u,qs hs hx ru,?_⟩
    have hyx:y≠x:=λq=>hne (vD V.nd hi (q▸e))
    rcases q with q | ⟨q1,q2,q3⟩
    ·exact .inl q
    ·exact .inr ⟨q1,by simp [hyx,q2],q3⟩
theorem Fm.store(V:Vars c)(f:Fm c Yc s₀ s){i:Nat}{x:Qd}{av:AV}{v:Qm}(hi:c.vars[i]?=Qf x)(r:RepO c.X (c.Yf Yc) s.heap av v){E:Qe}{Q:Unit->Qi->Prop}
  (h:∀s',Grow c s s'->Fm (c.st i av) Yc s₀ s'->Q () s'):Qo c.M c.A (storeName c.env x v) Q E s :=
 f.storeK V hi r λs' g _ f'=>h s' g f'
end
inductive Out where
 | nx (X:List Qk) (σ:List (Option AV))
 | br (X:List Qk) (σ:List (Option AV))
 | ct (X:List Qk) (σ:List (Option AV))
 | rt (av:AV)
noncomputable abbrev Ct.up(c:Ct)(X:List Qk)(σ:List (Option AV)):Ct:={ c with X:=X,σ:=σ }
theorem Grow.of{c:Ct}{s s':Qi}(k:Vb s s'):Grow c s s':=by
 (refine jn k ?_;intro h t e kk);exact⟨h,t,e,λb o _ e=>kk b o e⟩
theorem Grow.get{c:Ct}{s s':Qi}(g:Grow c s s'):∀b o,b∉Own c->s.heap.get? b=Qf o->s'.heap.get? b=Qf o:=by
 (refine jn g ?_;clear g;rintro h t rfl k);exact k
noncomputable def Stay(c:Ct)(Yc:List Qk)(s₀ s:Qi)(X:List Qk)(σ:List (Option AV))(s':Qi):Prop:=(∀x∈X,x∈c.X∨s.heap.get? x=Qg)/\Fm (c.up X σ) Yc s₀ s'
noncomputable def Post(c:Ct)(Yc:List Qk)(s₀ s:Qi)(P:Out->Prop)(f:Flow)(s':Qi):Prop:=Grow c s s'/\match f with
 | .next=>∃X σ,P (.nx X σ)/\Stay c Yc s₀ s X σ s'
 | .brk=>∃X σ,P (.br X σ)/\Stay c Yc s₀ s X σ s'
 | .cont=>∃X σ,P (.ct X σ)/\Stay c Yc s₀ s X σ s'
 | .ret v=>∃av,P (.rt av)/\Vb s₀ s'/\Rep (hid Yc s'.heap) av v
noncomputable def XS(c:Ct)(body:List XM)(P:Out->Prop):Prop:=∀ ⦃Yc:List Qk⦄ (s₀ s:Qi) (E:Qe),1<=s.toks->Fm c Yc s₀ s->Qo c.M c.A (execs body c.env) (Post c Yc s₀ s P) E s
noncomputable def X1(c:Ct)(st:XM)(P:Out->Prop):Prop:=∀ ⦃Yc:List Qk⦄ (s₀ s:Qi) (E:Qe),1<=s.toks->Fm c Yc s₀ s->Qo c.M c.A (exec st c.env) (Post c Yc s₀ s P) E s
section
variable {c:Ct} {Yc:List Qk} {s₀ s s' s₁:Qi} {P:Out->Prop}
theorem Stay.rfl'(f:Fm c Yc s₀ s'):Stay c Yc s₀ s c.X c.σ s':=⟨λ_ h=>.inl h,f⟩
theorem JF{X:List Qk}{σ:List (Option AV)}{b:Qk}(hX:∀x∈X,x∈c.X∨s.heap.get? x=Qg)(hb:b∉Own c){o:Obj}(e:s.heap.get? b=Qf o):b∉Own (c.up X σ):=by
 intro h
 unfold Own at h hb
 rcases Qa h with h | h
 ·rcases hX b h with q | q
  ·exact hb (Q8 _ q)
  ·rw [q]at e;exact no1 e
 ·exact hb (Q7 _ h)
theorem Grow.trans{X:List Qk}{σ:List (Option AV)}(hX:∀x∈X,x∈c.X∨s.heap.get? x=Qg)(g:Grow c s s₁)(g':Grow (c.up X σ) s₁ s'):Grow c s s':=by
 (refine jn g ?_;clear g;rintro h t rfl k)
 (refine jn g' ?_;clear g';rintro h' t' rfl k')
 exact⟨h',t',rfl,λb o hb e=>k' b o (JF hX hb e) (k b o hb e)⟩
theorem Stay.trans{X X':List Qk}{σ σ':List (Option AV)}(g:Grow c s s₁)(hX:∀x∈X,x∈c.X∨s.heap.get? x=Qg)(st:Stay (c.up X σ) Yc s₀ s₁ X' σ' s'):Stay c Yc s₀ s X' σ' s':=by
 refine⟨λx hx=>?_,st.2⟩
 rcases st.1 x hx with q | q
 ·exact hX x q
 ·by_cases hb:x∈Own c
  ·rcases Qa hb with h | h
   ·exact .inl h
   ·have o:=st.2.own x hx
    rcases Qb h with h | h
    ·exact absurd h o.2.1
    ·exact absurd h o.2.2.1
  ·right
   cases e:s.heap.get? x with
   | none=>rfl
   | some o=>rw [g.get x o hb e]at q;exact no2 q
theorem Post.trans{X:List Qk}{σ:List (Option AV)}{f:Flow}(g:Grow c s s₁)(hX:∀x∈X,x∈c.X∨s.heap.get? x=Qg)(p:Post (c.up X σ) Yc s₀ s₁ P f s'):Post c Yc s₀ s P f s':=by
 (refine jw p ?_;intro g' q)
 refine⟨g.trans hX g',?_⟩
 cases f with
 | next=>(refine jn q ?_;intro X' σ' p st);exact⟨X',σ',p,st.trans g hX⟩
 | brk=>(refine jn q ?_;intro X' σ' p st);exact⟨X',σ',p,st.trans g hX⟩
 | cont=>(refine jn q ?_;intro X' σ' p st);exact⟨X',σ',p,st.trans g hX⟩
 | ret v=>exact q
theorem XS.nil(h:P (.nx c.X c.σ)):XS c [] P:=λYc s₀ s E _ f=>Vm ⟨.of kU,c.X,c.σ,h,.rfl' f⟩
theorem XS.cons{st:XM}{rest:List XM}(h:X1 c st (λo=>match o with | .nx X σ=>XS (c.up X σ) rest P | o=>P o)):XS c (st::rest) P:=λYc s₀ s E ht f=>by
 refine QF (QB (n:=1) ht (Qz (h s₀ s _ ht f) (λfl s₁ ⟨g,q⟩ ht₁=>?_) λ_ _ y=>y))
 cases fl with
 | next =>
  (refine jn q ?_;intro X σ p st)
  exact Qz (p s₀ s₁ E ht₁ st.2) (λfl s₂ h=>h.trans g st.1) λ_ _ y=>y
 | brk=>exact⟨g,q⟩
 | cont=>exact⟨g,q⟩
 | ret v=>exact⟨g,q⟩
theorem XS.mono{body:List XM}{P':Out->Prop}(h:XS c body P)(k:∀o,P o->P' o):XS c body P':=λYc s₀ s E ht f =>
 Qz (h s₀ s E ht f) (λfl s₁ ⟨g,q⟩=>⟨g,by cases fl<;>(first | (obtain⟨X,σ,p,st⟩:=q;exact⟨X,σ,k _ p,st⟩) | ((refine jc q ?_;intro av p q);exact⟨av,k _ p,q⟩))⟩) λ_ _ y=>y
end
theorem Grow.get'{c:Ct}{s s':Qi}(g:Grow c s s'):∀b o,b∉Own c->s.heap.get? b=Qf o->s'.heap.get? b=Qf o:=by
 (refine jn g ?_;clear g;rintro h t rfl k);exact k
section
variable {c:Ct} {P:Out->Prop}
theorem Post.grow{Yc:List Qk}{s₀ s s₁ s':Qi}{f:Flow}(k:Vb s s₁)(p:Post c Yc s₀ s₁ P f s'):Post c Yc s₀ s P f s' :=
 Post.trans (c:=c) (X:=c.X) (σ:=c.σ) (Grow.of k) (λ_ h=>.inl h) p
theorem X1.assign(V:Vars c)(i:Nat){x:Qd}{pos' pos:Pos}{value:Expr}{av:AV}(hi:c.vars[i]?=Qf x)(p:PE c value av)(h:P (.nx c.X (c.σ.set i (Qf av))))
  (hs:VU value (Qf (.Name x pos')) pos.line c.env=pure false:=by rfl):X1 c (.Assign [.Name x pos'] value pos) P:=λYc s₀ s E ht f =>
 X4 (p.use (f.at ht) λv s₁ k x₁ r=>(f.keeps k).store V hi (.of r) λs₂ g f₂=>⟨(Grow.of k).trans (X:=c.X) (σ:=c.σ) (λ_ h=>.inl h) g,c.X,_,h,λ_ h=>.inl h,f₂⟩) hs
theorem jE{H H':List Qk}{h:QU}(k:∀x∈H,x∈H'):Le (hid H' h) (hid H h):=λa o e=>by
 unfold hid at e ⊢
 split at e
 ·exact no1 e
 ·rename_i n;rw [if_neg λm=>n (k a m)];exact e
theorem X1.ret{e:Expr}{pos:Pos}{av:AV}(p:PE c e av)(h:P (.rt av)):X1 c (.Return (Qf e) pos) P:=λYc s₀ s E ht f =>
 YH (p.use (f.at ht) λv s₁ k x₁ r=>⟨.of k,av,h,ktr f.kept k,r.mono (jE λx hx=>Q7 _ (.tail _ (Q7 _ hx)))⟩)
theorem X1.ite{t:Expr}{body orelse:List XM}{pos:Pos}{b:Bool}(p:PT c t b)(h1:b=true->XS c body P)(h2:b=false->XS c orelse P):X1 c (.If t body orelse pos) P:=λYc s₀ s E ht f =>
 wpAny_If (p.use (f.at ht) λs₁ k x₁=>by
  cases b with
  | true=>exact Qz (h1 rfl s₀ s₁ E x₁.tk (f.keeps k)) (λfl s₂ q=>Post.grow k q) λ_ _ y=>y
  | false=>exact Qz (h2 rfl s₀ s₁ E x₁.tk (f.keeps k)) (λfl s₂ q=>Post.grow k q) λ_ _ y=>y)
inductive Tg (c:Ct):List Expr->List AV->List (Option AV)->List (Option AV)->Prop
 | nil {σ}:Tg c [] [] σ σ
 | cons (i:Nat) {x:Qd} {pos:Pos} {av:AV} {es:List Expr} {avs:List AV} {σ σ':List (Option AV)}:c.vars[i]?=Qf x->Tg c es avs (σ.set i (Qf av)) σ'->Tg c (.Name x pos::es) (av::avs) σ σ'
theorem Vars.up{X:List Qk}{σ:List (Option AV)}(V:Vars c):Vars (c.up X σ):=⟨V.nd,V.kd⟩
theorem Tg.go{es:List Expr}{avs:List AV}{σ σ':List (Option AV)}(V:Vars c)(t:Tg c es avs σ σ'):∀ {Yc:List Qk} {s₀ s:Qi} {E:Qe} {Q:Unit->Qi->Prop} {vs:List Qm},Fm (c.up c.X σ) Yc s₀ s->Reps (hid (c.X++c.Yf Yc) s.heap) avs vs ->
  (∀s',Grow c s s'->Fm (c.up c.X σ') Yc s₀ s'->Q () s')->Qo c.M c.A (assignInOrder ((Vx es c.env).map (·.2)) vs) Q E s:=by
 induction t with
 | nil=>intro Yc s₀ s E Q vs f r h;change _=_ at r;subst r;exact Xe (h s (.of kU) f)
 | cons i hi t ih =>
  intro Yc s₀ s E Q vs f r h
  (refine jW r ?_;clear r;rintro v vs' rfl r1 r2)
  refine V8 (VX (f.store (c:=c.up c.X _) V.up hi (.of r1) λs₁ g f₁=>?_))
  have hs:Le (hid (c.X++c.Yf Yc) s.heap) (hid (c.X++c.Yf Yc) s₁.heap):=λa o e=>by
   unfold hid at e ⊢
   split at e
   ·exact no1 e
   ·rename_i n
    rw [if_neg n]
    exact g.get' a o (λm=>n (by
     rcases Qa m with m | m
     ·exact Q8 _ m
     ·exact Q7 _ (by
       rcases Qb m with m | m
       ·exact m▸.head _
       ·exact .tail _ (Q8 _ m)))) e
  exact ih f₁ (r2.mono hs) λs' g' f'=>h s' (Grow.trans (c:=c) (X:=c.X) (σ:=c.σ) (λ_ h=>.inl h) g g') f'
theorem X1.tupA(V:Vars c)(hh:c.A.handled=Qg){es:List Expr}{k:Nat}{tpos pos:Pos}{value:Expr}{avs:List AV}{σ':List (Option AV)}(t:Tg c es avs c.σ σ')(p:PE c value (.tup avs))(h:P (.nx c.X σ'))
  (hn:(Vx es c.env).length=avs.length:=by rfl) (hst:(Vx es c.env).findIdx? (·.1)=none:=by rfl)
  (hs:XC [.Tuple es k tpos] value pos.line c.env=pure false:=by rfl) (hw:Xl [.Tuple es k tpos] value c.env=pure none:=by rfl):X1 c (.Assign [.Tuple es k tpos] value pos) P:=λYc s₀ s E ht f =>
 Assign_Tuple (p.use (f.at ht) λv s₁ k₁ x₁ r=>by
  (refine xl (kJ r) ?_;rintro a o vs n rfl ho hc hd hr)
  have hT:s₁.heap.IsTuple a vs:=⟨o,j9 ho,hc,n,hd⟩
  refine Y6 hh hT (by rw [hn,<-hr.length];simp) hst λh' hx=>?_
  have kk:Vb s₁ { s₁ with heap:=h' }:=ja λb o e=>hx b o (QR (Vo e)) e
  refine t.go V ((f.keeps k₁).keeps kk) (hr.mono (ju (jr kk))) λs' g f'=>⟨(Grow.of (ktr k₁ kk)).trans (X:=c.X) (σ:=c.σ) (λ_ h=>.inl h) g,c.X,_,h,λ_ h=>.inl h,f'⟩) hs hw
noncomputable def nmE(e:Expr):Qd:=if h:e.ctorIdx=23 then Expr.Name.elim (motive_1:=λ_=>Qd) e h λx _=>x else .empty
theorem Tg.goR{es:List Expr}{avs:List AV}{σ σ':List (Option AV)}(V:Vars c)(t:Tg c es avs σ σ'):∀ {names:List Qd} {Yc:List Qk} {s₀ s:Qi} {E:Qe} {Q:Unit->Qi->Prop} {vs:List Qm},(es.map nmE)=names->Fm (c.up c.X σ) Yc s₀ s->Reps (hid (c.X++c.Yf Yc) s.heap) avs vs ->
  (∀s',Grow c s s'->Fm (c.up c.X σ') Yc s₀ s'->Q () s')->Qo c.M c.A (assignInOrder (names.map λn=>bindName c.env n) vs) Q E s:=by
 induction t with
 | nil=>intro names Yc s₀ s E Q vs hn f r h;change _=_ at r;subst r;subst hn;exact Xe (h s (.of kU) f)
 | cons i hi t ih =>
  intro names Yc s₀ s E Q vs hn f r h
  (refine jW r ?_;clear r;rintro v vs' rfl r1 r2)
  subst hn
  refine V8 (wpAny_bindName (f.store (c:=c.up c.X _) V.up hi (.of r1) λs₁ g f₁=>?_))
  have hs:Le (hid (c.X++c.Yf Yc) s.heap) (hid (c.X++c.Yf Yc) s₁.heap):=λa o e=>by
   unfold hid at e ⊢
   split at e
   ·exact no1 e
   ·rename_i n
    rw [if_neg n]
    exact g.get' a o (λm=>n (by
     rcases Qa m with m | m
     ·exact Q8 _ m
     ·exact Q7 _ (by
       rcases Qb m with m | m
       ·exact m▸.head _
       ·exact .tail _ (Q8 _ m)))) e
  exact ih rfl f₁ (r2.mono hs) λs' g' f'=>h s' (Grow.trans (c:=c) (X:=c.X) (σ:=c.σ) (λ_ h=>.inl h) g g') f'
theorem Reps.snoc{g:Lk}{l:List AV}{vs:List Qm}{a:AV}{v:Qm}(h:Reps g l vs)(h':Rep g a v):Reps g (l++[a]) (vs++[v]):=h.append (.cons h' .nil)
theorem Reps.rev{g:Lk}:∀ {l:List AV} {vs:List Qm},Reps g l vs->Reps g l.reverse vs.reverse
 | [],_,h=>by change _=_ at h;subst h;exact .nil
 | _::_,_,h=>by
  (refine jW h ?_;clear h;rintro v ws rfl h1 h2)
  simpa using h2.rev.snoc h1
theorem X1.tupR(V:Vars c)(hh:c.A.handled=Qg){es:List Expr}{k:Nat}{tpos pos:Pos}{value:Expr}{avs:List AV}{σ':List (Option AV)}(names:List Qd)(t:Tg c es.reverse avs.reverse c.σ σ')(p:PE c value (.tup avs))(h:P (.nx c.X σ'))
  (hn:(es.reverse.map nmE)=names.reverse:=by rfl) (hl:names.length=avs.length:=by rfl)
  (hs:XC [.Tuple es k tpos] value pos.line c.env=pure false:=by rfl) (hw:Xl [.Tuple es k tpos] value c.env=pure (Qf names)):X1 c (.Assign [.Tuple es k tpos] value pos) P:=λYc s₀ s E ht f =>
 Assign_Tuple_swapped (p.use (f.at ht) λv s₁ k₁ x₁ r=>by
  (refine xl (kJ r) ?_;rintro a o vs n rfl ho hc hd hr)
  have hT:s₁.heap.IsTuple a vs:=⟨o,j9 ho,hc,n,hd⟩
  have e:names.length=vs.size:=by rw [hl,<-hr.length];simp
  rw [e]
  refine wpAny_unpackItems_tuple hh hT λh' hx=>?_
  have kk:Vb s₁ { s₁ with heap:=h' }:=ja λb o e=>hx b o (QR (Vo e)) e
  exact t.goR V hn ((f.keeps k₁).keeps kk) ((hr.mono (ju (jr kk))).rev) λs' g f'=>⟨(Grow.of (ktr k₁ kk)).trans (X:=c.X) (σ:=c.σ) (λ_ h=>.inl h) g,c.X,_,h,λ_ h=>.inl h,f'⟩) hs hw
end
theorem yV{kf:Qd->Option Ym}{x:Qd}:∀ {bs:List (Qd×Qm)} {m:Qd->Option Qm},x∉bs.map (·.1)->bindL kf bs m x=m x
 | [],_,_=>rfl
 | (n,v)::r,m,h=>by
  rw [QP,QD,not_or]at h
  unfold bindL
  rw [yV h.2]
  split
  ·simp [h.1]
  ·rfl
theorem yW{kf:Qd->Option Ym}{x:Qd}:∀ {bs:List (Qd×Qm)} {m:Qd->Option Qm},x∉bs.map (·.1)->bindC kf bs m x=m x
 | [],_,_=>rfl
 | (n,v)::r,m,h=>by
  rw [QP,QD,not_or]at h
  unfold bindC
  rw [yW h.2]
  split
  ·rfl
  ·simp [h.1]
theorem vI{kf:Qd->Option Ym}{x:Qd}{v:Qm}(hk:kf x=Qf .local):∀ {bs:List (Qd×Qm)} {m:Qd->Option Qm},(bs.map (·.1)).Nodup->(x,v)∈bs->bindL kf bs m x=Qf v
 | (n,u)::r,m,nd,h=>by
  rw [QP,Yi]at nd
  unfold bindL
  rcases Qb h with e | h
  ·cases e
   rw [yV nd.1,if_pos hk];simp
  ·exact vI hk nd.2 h
theorem vJ{kf:Qd->Option Ym}{x:Qd}{v:Qm}(hk:kf x=Qf .cell):∀ {bs:List (Qd×Qm)} {m:Qd->Option Qm},(bs.map (·.1)).Nodup->(x,v)∈bs->bindC kf bs m x=Qf v
 | (n,u)::r,m,nd,h=>by
  rw [QP,Yi]at nd
  unfold bindC
  rcases Qb h with e | h
  ·cases e
   rw [yW nd.1,if_neg (by rw [hk];decide)];simp
  ·exact vJ hk nd.2 h
structure Names (fd:VF) (vars:List Qd):Prop where
 nd:vars.Nodup
 kd:∀x∈vars,fd.scope.names.lookup x=Qf .local∨fd.scope.names.lookup x=Qf .cell
 cnd:((Vd 0 fd.scope.names []).map (·.1)).Nodup
 co:fd.scope.isCoroutine=false
 gen:fd.scope.isGenerator=false
 kind:fd.scope.kind=.function
noncomputable abbrev ctOf(prog:QI)(w:Ql)(B:QU)(A:QO)(fd:VF)(a:Qk)(vars:List Qd)(σ:List (Option AV))(L:Qk):Ct :=
 { prog:=prog,w:=w,B:=B,A:=A.deeper (QY fd L a),env:=QY fd L a,vars:=vars,X:=[],σ:=σ }
theorem Names.V{fd:VF}{vars:List Qd}(N:Names fd vars){prog:QI}{w:Ql}{B:QU}{A:QO}{a:Qk}{σ:List (Option AV)}{L:Qk}:Vars (ctOf prog w B A fd a vars σ L) :=
 ⟨N.nd,λx hx=>(N.kd x hx).imp id λq=>⟨q,XE _ _ _ (.inl q)⟩⟩
theorem cal_of{prog:QI}{w:Ql}{B:QU}{A:QO}{a:Qk}{o:Obj}{fd:VF}{body:List XM}{avs:List AV}{res:AV}{n:Nat}{names more:List Qd}
  (ho:B.get? a=Qf o) (hd:o.data=.func fd) (hbody:fd.body=.stmts body) (hclo:fd.closure=[]) (hlim:B.NoLimit) (hcd:B.CodeRec fd.code fd.qualname) (N:Names fd (names++more))
  (hbind:∀vs:List Qm,vs.length=names.length->bindArgs fd ⟨vs,[]⟩=pure (names.zip vs)) (hlen:avs.length=names.length) (room:Room (n+1) A)
  (h:∀L,XS (ctOf prog w B A fd a (names++more) (avs.map Qf++more.map λ_=>Qg) L) body (λo=>o=.rt res)):Cal prog w B A (.ref a) avs res:=λX s E vs hB hX htk hr=>by
 have hl:vs.length=names.length:=hr.length.trans hlen
 have hkeys:(names.zip vs).map (·.1)=names:=by rw [List.map_fst_zip (by exact XO (Eq.symm ‹_›))]
 have nd:names.Nodup:=(Xa.mp N.nd).1
 refine wpAny_call ?_
 have hl1:s.heap.NoLimit:=by(refine jc hlim ?_;intro mc q r);exact⟨mc,q.keeps hB,r⟩
 refine codeAny_call_function room.depth (hB _ _ ho) hd N.co N.gen hbody (by(refine e4_3 hcd ?_;intro c oc ws t e1 e2 e3);exact⟨c,oc,ws,t,e1,hB _ _ e2,e3⟩) ?_
 rw [hbind vs hl,hclo]
 refine Qn (QB (n:=1) htk (wpAny_newFunctionEnv_cells N.kind (λx hx=>?_) λenv he s₁ ic ht₁=>?_))
 ·have hm:x.1∈names:=by rw [<-hkeys];exact X9 hx
  exact(N.kd x.1 (Q8 _ hm)).imp id λq=>⟨q,XE _ _ _ (.inl q)⟩
 ·subst he
  refine⟨hl1.keeps ic.toInCall.keep,codeAny_func ?_⟩
  change InCallC s (QY fd s.heap.objs.size a).locals (bindL (QY fd s.heap.objs.size a).kindOf (names.zip vs) λ_=>Qg) (QY fd s.heap.objs.size a).cells (bindC (QY fd s.heap.objs.size a).kindOf (names.zip vs) λ_=>Qg) s₁ at ic
  change Qo (model prog w) (A.deeper (QY fd s.heap.objs.size a)) (execs body (QY fd s.heap.objs.size a)) _ _ s₁
  have hsz:∀b o,s.heap.get? b=Qf o->b<s.heap.objs.size:=λb o e=>Vo e
  have up:Le (hid X s.heap) (hid ([]++(ctOf prog w B A fd a (names++more) (avs.map Qf++more.map λ_=>Qg) s.heap.objs.size).Yf X) s₁.heap):=λb o e=>by
   have e1:=j9 e
   have hb:=hsz b o e1
   refine jl (ic.toInCall.keep b o e1) λm=>?_
   rcases Qb m with m | m
   ·exact absurd hb (by rw [m];exact XT _)
   ·rcases Qa m with m | m
    ·(refine jc (Qw.mp m) ?_;rintro⟨k,d⟩ hm rfl)
     exact absurd (ic.above k d hm) (VS.mpr (Vt hb))
    ·unfold hid at e;rw [if_pos m]at e;exact no1 e
  have F:Fm (ctOf prog w B A fd a (names++more) (avs.map Qf++more.map λ_=>Qg) s.heap.objs.size) X s s₁:=by
   refine⟨hB,λy hy=>((hX y hy).imp λo e=>ic.toInCall.keep _ _ e),λx hx=>(nomatch hx),⟨Zo,λ_ h=>nomatch h⟩,?_,N.kind,_,_,ic,λi x av e e'=>?_⟩
   ·show((Vd (s.heap.objs.size+1) fd.scope.names []).map (·.1)).Nodup
    rw [cellsFrom_names fd.scope.names (s.heap.objs.size+1) 0 [] [] rfl];exact N.cnd
   ·have e2:avs[i]?=Qf av:=by
     have e':(avs.map Qf++more.map λ_=>Qg)[i]?=Qf (Qf av):=e'
     rcases Nat.lt_or_ge i avs.length with h | h
     ·rw [V5 (by simpa using h),Qx]at e'
      cases q:avs[i]? with
      | none=>rw [q]at e';cases e'
      | some u=>rw [q]at e';(have q_:=oi e';clear e';cases q_);rfl
     ·rw [X6 (by simpa using h),Qx]at e'
      cases q:more[i-(avs.map Qf).length]? with
      | none=>rw [q]at e';cases e'
      | some u=>rw [q]at e';(have q_:=oi e';clear e';cases q_)
    have hi:i<names.length:=by rw [<-hlen];exact(QT.mp e2).1
    have e3:names[i]?=Qf x:=by rw [<-V5 (l₂:=more) hi];exact e
    (refine jc (hr.get e2) ?_;intro v e4 rv)
    have hmem:(x,v)∈names.zip vs:=by
     refine QE (i:=i) ?_
     rw [YU];exact⟨e3,e4⟩
    refine⟨v,.of (rv.mono up),?_⟩
    rcases N.kd x (QE e)with q | q
    ·exact .inl ⟨q,vI q (by rw [hkeys];exact nd) hmem⟩
    ·exact .inr ⟨q,vJ q (by rw [hkeys];exact nd) hmem,XE _ _ _ (.inl q)⟩
  refine Qz (h s.heap.objs.size s s₁ _ ht₁ F) (λf s' p=>?_) λ_ _ y=>y
  (refine jw p ?_;intro g q)
  cases f with
  | next=>(refine jn q ?_;intro _ _ q _);cases q
  | brk=>(refine jn q ?_;intro _ _ q _);cases q
  | cont=>(refine jn q ?_;intro _ _ q _);cases q
  | ret v=>(refine ye q ?_;intro av e k r);cases e;exact⟨k,r⟩
noncomputable def Bh(w:Ql):Heap:=hideAll (H1 w.params) [171]
noncomputable def mg(w:Ql):Qd->Option Value:=(Bh w).nsMap XD
noncomputable def mb(w:Ql):Qd->Option Value:=(Bh w).nsMap YL
theorem mg_ns(w:Ql):(Bh w).Ns XD (mg w):=.of_isNs (by kernel_rfl)
theorem mb_ns(w:Ql):(Bh w).Ns YL (mb w):=.of_isNs (by kernel_rfl)
theorem JE(w:Ql):(Bh w).NoLimit:=⟨_,.of_isNs (by kernel_rfl),by kernel_rfl⟩
noncomputable def vx(o:Obj):FuncData:=match o.data with
 | .func fd=>fd
 | _=>{ name:="",qualname:="",params:=⟨[],[],Qg,[],[],Qg,[]⟩,body:=.stmts [],scope:={ kind:=.module,names:=[],isGenerator:=false,isCoroutine:=false,more:=[] },globals:=0,closure:=[],defaults:=.none,kwdefaults:=.none,pyModule:=.none,code:=.none,builtins:=0 }
noncomputable def bodyOf(fd:VF):List Stmt:=match fd.body with
 | .stmts b=>b
 | _=>[]
theorem g_NT(w:Ql):mg w "NT_OFFSET"=Qf (.int 256 394):=by kernel_rfl
theorem g_told(w:Ql):mg w "_law_told"=Qf (.ref 215):=by kernel_rfl
theorem g_max(w:Ql):mg w "max"=none:=by kernel_rfl
theorem m_max(w:Ql):mb w "max"=Qf (.builtin "max"):=by kernel_rfl
theorem b_97(w:Ql):(Bh w).get? 97=Qf (o_107 w.params):=by kernel_rfl
noncomputable def fldO(o:Obj):Option (Array Qm):=match o.data with
 | .fields vs=>Qf vs
 | _=>Qg
theorem fldO_i{o:Obj}{vs:Array Qm}(e:fldO o=Qf vs):o.data=.fields vs:=by
 cases o with
 | mk c d data sl=>cases data<;>first | exact no1 e | exact congrArg _ (oi e)
noncomputable def codeOk(h:QU)(cd:Qm)(q:Qd):Bool:=((((refO cd).bind h.get?).bind fldO).bind λvs=>vs[1]?).bind strV==Qf q
theorem ji{h:QU}{cd:Qm}{q:Qd}(e:codeOk h cd q=true):h.CodeRec cd q:=by
 refine jc (Option.bind_eq_some_iff.mp (beq_iff_eq.mp e)) ?_;intro v e1 hv
 refine jc (Option.bind_eq_some_iff.mp e1) ?_;intro vs e2 h1
 refine jc (Option.bind_eq_some_iff.mp e2) ?_;intro o e3 hf
 refine jc (Option.bind_eq_some_iff.mp e3) ?_;intro c hc ho
 (refine jd (JW hv) ?_;rintro t rfl)
 exact⟨c,o,vs,t,refO_i hc,ho,fldO_i hf,h1⟩
structure Df (B:QU) (a:Qk) (o:Obj) (fd:VF) (body:List XM) (names more:List Qd):Prop where
 ho:B.get? a=Qf o
 hd:o.data=.func fd
 hb:fd.body=.stmts body
 hclo:fd.closure=[]
 hcd:B.CodeRec fd.code fd.qualname
 N:Names fd (names++more)
 hbind:∀vs:List Qm,vs.length=names.length->bindArgs fd ⟨vs,[]⟩=pure (names.zip vs)
noncomputable abbrev cx(fd:VF)(a:Qk)(vars:List Qd)(prog:QI)(w:Ql)(A:QO)(L:Qk)(X:List Qk)(σ:List (Option AV)):Ct :=
 { prog:=prog,w:=w,B:=Bh w,A:=A.deeper (QY fd L a),env:=QY fd L a,vars:=vars,X:=X,σ:=σ }
theorem Names.cV{fd:VF}{vars:List Qd}(N:Names fd vars){a:Qk}{prog:QI}{w:Ql}{A:QO}{L:Qk}(X:List Qk)(σ:List (Option AV)):Vars (cx fd a vars prog w A L X σ) :=
 ⟨N.nd,λx hx=>(N.kd x hx).imp id λq=>⟨q,XE _ _ _ (.inl q)⟩⟩
theorem Names.cG{fd:VF}{vars:List Qd}(N:Names fd vars){a:Qk}{prog:QI}{w:Ql}{A:QO}{n:Nat}{L:Qk}(room:Room (n+1) A)(hg:fd.globals=XD)(hb:fd.builtins=YL)(X:List Qk)(σ:List (Option AV)):Gd (cx fd a vars prog w A L X σ) n (mg w) (mb w) :=
 ⟨N.kind,hg,hb,mg_ns w,mb_ns w,JE w,room.deeper⟩
theorem Df.cal{w:Ql}{a:Qk}{o:Obj}{fd:VF}{body:List XM}{names more:List Qd}(D:Df (Bh w) a o fd body names more){prog:QI}{A:QO}{n:Nat}{avs:List AV}{res:AV}
  (room:Room (n+1) A) (hlen:avs.length=names.length) (h:∀L,XS (cx fd a (names++more) prog w A L [] (avs.map Qf++more.map λ_=>Qg)) body (λo=>o=.rt res)):Cal prog w (Bh w) A (.ref a) avs res :=
 cal_of D.ho D.hd D.hb D.hclo (JE w) D.hcd D.N D.hbind hlen room h
theorem jQ{vs:List Qm}(h:vs.length=1):∃v,vs=[v]:=len1 h
theorem qc{vs:List Qm}(h:vs.length=2):∃u v,vs=[u,v]:=len2 h
theorem vL{vs:List Qm}(h:vs.length=3):∃u v x,vs=[u,v,x]:=len3 h
noncomputable abbrev F97(w:Ql):FuncData:=vx (o_107 w.params)
noncomputable def Ki(fd:VF)(vars:List Qd):Bool:=decide vars.Nodup&&vars.all (λx=>fd.scope.names.lookup x==Qf .local||fd.scope.names.lookup x==Qf .cell)&&decide ((Vd 0 fd.scope.names []).map (·.1)).Nodup&&!fd.scope.isCoroutine&&!fd.scope.isGenerator&&fd.scope.kind==.function
theorem Names.of{fd:VF}{vars:List Qd}(e:Ki fd vars=true):Names fd vars:=by
 simp only [Ki,Vl,decide_eq_true_eq,VV,Yj,beq_iff_eq,Zp]at e
 (refine jw e ?_;clear e;rintro⟨⟨⟨⟨a,b⟩,c⟩,d⟩,f⟩ g)
 exact⟨a,b,c,d,f,g⟩
theorem n97(w:Ql):Names (F97 w) ["x"]:=.of (by kernel_rfl)
theorem d97(w:Ql):∃body,Df (Bh w) 97 (o_107 w.params) (F97 w) body ["x"] []/\∀A n prog i,Room (n+1) A->∀L,XS (cx (F97 w) 97 ["x"] prog w A L [] [Qf (.int i)]) body (λo=>o=.rt (.bool (decide (i<256)))):=by
 refine⟨_,⟨by kernel_rfl,rfl,rfl,rfl,ji (by kernel_rfl),n97 w,λvs h=>?_⟩,?_⟩
 ·(refine jd (jQ h) ?_;rintro v rfl);rfl
 ·intro A n prog i room L
  have G:=(n97 w).cG (a:=97) (w:=w) (prog:=prog) (L:=L) room rfl rfl
  exact XS.cons (X1.ret (.cmp (.var 0 rfl rfl rfl (by decide) (by decide)) (.globI (G _ _) (g_NT w) rfl (by decide)) (jV .Lt rfl)) rfl)
structure Itr (prog:QI) (w:Ql) (A:QO) (tg:Expr) (H W:List Qk) (I:Qk) (xs:List AV) (St:Nat->QU->Prop) (Mid:Nat->Qm->QU->Prop):Prop where
 frame:∀i h h',St i h->Le (hid H h) (hid H h')->(∀b∈W,∀o,h.get? b=Qf o->h'.get? b=Qf o)->St i h'
 live:∀i h,St i h->∀b∈W,∃o,h.get? b=Qf o
 item:∀i (av:AV) (s:Qi) (Q:Option Qm->Qi->Prop) (E:Qe),xs[i]?=Qf av->St i s.heap->(∀x∈H,∃o,s.heap.get? x=Qf o) ->
  (∀v h' tk,Mid i v h'->Rep (hid H h') av v->(∀b o,b∉W->s.heap.get? b=Qf o->h'.get? b=Qf o)->Q (Qf v) { s with heap:=h',toks:=tk })->Qo (model prog w) A (pyNext (.ref I)) Q E s
 go:∀i (av:AV) v (s:Qi) (Q:Unit->Qi->Prop) (E:Qe),Mid i v s.heap->Rep (hid H s.heap) av v ->
  (∀h',St (i+1) h'->Rep (hid H h') av v->(∀b o,b∉W->s.heap.get? b=Qf o->h'.get? b=Qf o)->Q () { s with heap:=h' })->Qo (model prog w) A (YC tg (.ref I) v) Q E s
 done:∀(s:Qi) (Q:Option Qm->Qi->Prop) (E:Qe),St xs.length s.heap ->
  (∀h' tk,(∀b o,b∉W->s.heap.get? b=Qf o->h'.get? b=Qf o)->Q Qg { s with heap:=h',toks:=tk })->Qo (model prog w) A (pyNext (.ref I)) Q E s
 self:∀i (s:Qi) (Q:Qe) (E:Qe),St i s.heap->Q (.ref I) s->Qo (model prog w) A (pyIter (.ref I)) Q E s
noncomputable def okH(Z W:List Qk)(h:QU)(H':List Qk):Prop:=(∀x,x∈Z∨x∈W->x∈H')/\∀x∈H',x∈Z∨x∈W∨h.get? x=Qg
noncomputable def PI(c:Ct)(tg e:Expr)(xs:List AV):Prop:=∀ ⦃Y:List Qk⦄ (s:Qi) (E:Qe) (Q:Qe),c.At Y s ->
 (∀I W (St:List Qk->Nat->QU->Prop) (Mid:List Qk->Nat->Qm->QU->Prop) s',Vb s s'->(∀b∈W,s.heap.get? b=Qg/\∃o,s'.heap.get? b=Qf o)->(∀H',okH (c.X++Y) W s'.heap H'->Itr c.prog c.w c.A tg H' W I xs (St H') (Mid H')/\St H' 0 s'.heap)->1<=s'.toks->Q (.ref I) s') ->
 Qo c.M c.A (eval e c.env) (λx s₁=>Qo c.M c.A (pyIter x) Q E s₁) E s
theorem jg{h:QU}{a:Qk}{o:Obj}(e:h.get? a=Qf o):a<h.objs.size:=Vo e
noncomputable def qQ(n:String):Bool:=!(["enumerate","zip","dict_itemiterator","dict_reverseitemiterator","odict_iterator","itertools.zip_longest","itertools.pairwise"].contains n)
theorem xZ{M:Model}{A:QO}{E:Qe}{s:Qi}{tg:Expr}{I:Qk}{v:Qm}{o:Obj}{n:String}{Q:Unit->Qi->Prop}(ho:s.heap.get? I=Qf o)(hc:o.cls=.type n)(hn:qQ n=true)(h:Q () s) :
    Qo M A (YC tg (.ref I) v) Q E s:=by
  have hf:(["enumerate","zip","dict_itemiterator","dict_reverseitemiterator","odict_iterator","itertools.zip_longest","itertools.pairwise"].contains n)=false:=by
    unfold qQ at hn;simpa using hn
  cases tg
  all_goals first
    | exact show Qo _ _ (pure ()) Q E s from Qn h
    | (cases v<;>first
        | exact show Qo _ _ (pure ()) Q E s from Qn h
        | (refine Qh (wpAny_load ho ?_)
           rw [hc]
           cases o.data<;>first
             | exact Qn h
             | (dsimp only;rw [hf];exact Qn h)))
section
variable {c:Ct}
theorem PI.walks{tg e:Expr}{xs:List AV}
  (p:∀(Y:List Qk) (s:Qi) (E:Qe) (Q:Qe),c.At Y s ->
   (∀I fp P St s₁ s',1<=s'.toks->Vb s s₁->Vb s₁ s'->s₁.heap.get? I=Qg->Walks c.prog c.w c.A I fp [I] xs.length P St->(∀b∈fp,b=I∨(b∉c.X++Y/\∃o,s₁.heap.get? b=Qf o))->(∀i h,St i h->∃o n,h.get? I=Qf o/\o.cls=.type n/\qQ n=true)->St 0 s'.heap ->
    (∀i v av,P i v->xs[i]?=Qf av->Rep (hid (c.X++Y) s₁.heap) av v)->Q (.ref I) s')->Qo c.M c.A (eval e c.env) (λx s₁=>Qo c.M c.A (pyIter x) Q E s₁) E s):PI c tg e xs:=λY s E Q x₀ h =>
 p Y s E Q x₀ λI fp P St s₁ s' ht' k₁ k₂ hI W hfp hcl hst hrep=>by
  have nin:∀b:Qk,b≠I->b∉c.X++Y->(∃o,s₁.heap.get? b=Qf o)->∀H₂:List Qk,okH (c.X++Y) [I] s'.heap H₂->b∉H₂:=λb hb hn ⟨o,ho⟩ H₂ h2 m=>by
   rcases h2.2 b m with m | m | m
   ·exact hn m
   ·exact hb (Q9 m)
   ·rw [jr k₂ _ _ ho]at m;exact no2 m
  have up:∀H₂:List Qk,okH (c.X++Y) [I] s'.heap H₂->Le (hid (c.X++Y) s₁.heap) (hid H₂ s'.heap):=λH₂ h2 b o' e=>by
   have e1:=j9 e
   refine jl (jr k₂ _ _ e1) (nin b (λq=>by rw [q,hI]at e1;exact no1 e1) (λm=>?_) ⟨o',e1⟩ H₂ h2)
   unfold hid at e;rw [if_pos m]at e;exact no1 e
  refine h I [I] (λH₂ i h=>St i h/\(∀b∈fp,b≠I->∀o,s₁.heap.get? b=Qf o->h.get? b=Qf o)/\∀j v av,P j v->xs[j]?=Qf av->Rep (hid H₂ h) av v)
   (λH₂ i v h=>P i v/\St (i+1) h/\(∀b∈fp,b≠I->∀o,s₁.heap.get? b=Qf o->h.get? b=Qf o)/\∀j v av,P j v->xs[j]?=Qf av->Rep (hid H₂ h) av v) s' (ktr k₁ k₂) (λb hb=>?_) (λH' hH=>⟨?_,hst,λb hb _ o e=>jr k₂ _ _ e,λj v av pj e=>(hrep j v av pj e).mono (up H' hH)⟩) ht'
  ·obtain rfl:=Q9 hb
   refine⟨?_,let ⟨o,n,e,_⟩:=hcl _ _ hst;⟨o,e⟩⟩
   cases q:s.heap.get? b with
   | none=>rfl
   | some o'=>rw [jr k₁ _ _ q]at hI;exact no2 hI
  ·have same:∀ {h h':QU},(∀b o,b∉[I]->h.get? b=Qf o->h'.get? b=Qf o)->Le (hid H' h) (hid H' h'):=λ{h h'} hk b o e=>by
    have e1:=j9 e
    have hb:b∉H':=λm=>by unfold hid at e;rw [if_pos m]at e;exact no1 e
    exact jl (hk b o (λm=>hb (hH.1 b (.inr m))) e1) hb
   refine⟨λi h h' st le kw=>⟨W.frame i h h' st.1 λb hb o e=>?_,λb hb hn o e=>?_,λj v av pj e=>(st.2.2 j v av pj e).mono le⟩,λi h st b hb=>?_,λi av s Q E hi st _ hQ=>?_,λi av v s Q E mid r hQ=>?_,λs Q E st hQ=>?_,λi s Q E st hQ=>W.self i s Q E st.1 hQ⟩
   ·by_cases hbI:b=I
    ·subst hbI;exact kw b (.head _) o e
    ·rcases hfp b hb with q | ⟨hn,o',ho'⟩
     ·exact absurd q hbI
     ·have:=st.2.1 b hb hbI o' ho'
      rw [e]at this;(have q_:=oi this;clear this;subst q_)
      exact j9 (le b o (jl e (nin b hbI hn ⟨_,ho'⟩ H' hH)))
   ·rcases hfp b hb with q | ⟨hnn,o',ho'⟩
    ·exact absurd q hn
    ·exact j9 (le b o (jl (st.2.1 b hb hn o e) (nin b hn hnn ⟨_,ho'⟩ H' hH)))
   ·obtain rfl:=Q9 hb
    (refine jn (hcl _ _ st.1) ?_;intro o n e _);exact⟨o,e⟩
   ·refine W.item i s Q E (QT.mp hi).1 st.1 λv h' tk pv st' hk=>?_
    have reps:∀j v av,P j v->xs[j]?=Qf av->Rep (hid H' h') av v:=λj v av pj e=>(st.2.2 j v av pj e).mono (same hk)
    exact hQ v h' tk ⟨pv,st',λb hb hn o e=>hk b o (λm=>hn (Q9 m)) (st.2.1 b hb hn o e),reps⟩ (reps i v av pv hi) hk
   ·(refine jW (hcl _ _ mid.2.1) ?_;intro o n e e2 e3)
    exact xZ e e2 e3 (hQ s.heap mid.2 r λb o _ e=>e)
   ·exact W.done s Q E st.1 λh' tk hk=>hQ h' tk hk
theorem Q0{vs:Array Qm}{i:Nat}{v:Qm}(e:vs[i]?=Qf v):vs.toList[i]?=Qf v:=by rw [Vi];exact e
theorem PI.list{tg e:Expr}{xs:List AV}(hh:c.A.handled=Qg)(p:PE c e (.list xs)):PI c tg e xs:=.walks λY s E Q x₀ h=>p.use x₀ λv s₁ k₁ x₁ r=>by
 (refine xl (qN r) ?_;rintro a o vs n rfl ho hc hd hr)
 have hL:s₁.heap.IsList a vs:=⟨o,j9 ho,hc,n,hd⟩
 have ha:a≠s₁.heap.objs.size:=QR (jg (j9 ho))
 have hz':vs.size=xs.length:=by rw [<-hr.length];simp
 refine wpAny_pyIter_list hL (h _ _ _ _ s₁ _ (by exact x₁.tk) k₁ (ja j7) jm (hz'▸Walks.list hh s₁.heap.objs.size a ha vs) (λb hb=>?_) (λi h st=>?_) ⟨⟨_,Qs _ rfl,rfl,rfl⟩,hL.push _⟩ λi v av pv e=>?_)
 ·rcases Qb hb with rfl | hb
  ·exact .inl rfl
  ·obtain rfl:=Q9 hb
   refine .inr ⟨λm=>?_,o,j9 ho⟩
   unfold hid at ho;rw [if_pos m]at ho;exact no1 ho
 ·(refine jw st ?_;clear st;rintro⟨o,e,e2,_⟩ _);exact⟨o,_,e,e2,by decide +kernel⟩
 ·(refine jc (hr.get e) ?_;intro u hu ru)
  rw [Q0 pv]at hu;(have q_:=oi hu;clear hu;subst q_);exact ru
theorem PI.tup{tg e:Expr}{xs:List AV}(hh:c.A.handled=Qg)(p:PE c e (.tup xs)):PI c tg e xs:=.walks λY s E Q x₀ h=>p.use x₀ λv s₁ k₁ x₁ r=>by
 (refine xl (kJ r) ?_;rintro a o vs n rfl ho hc hd hr)
 have hL:s₁.heap.IsTuple a vs:=⟨o,j9 ho,hc,n,hd⟩
 have ha:a≠s₁.heap.objs.size:=QR (jg (j9 ho))
 have hz':vs.size=xs.length:=by rw [<-hr.length];simp
 refine wpAny_pyIter_tuple hL (h _ _ _ _ s₁ _ (by exact x₁.tk) k₁ (ja j7) jm (hz'▸Walks.tuple hh s₁.heap.objs.size a ha vs) (λb hb=>?_) (λi h st=>?_) ⟨⟨_,Qs _ rfl,rfl,rfl⟩,hL.push _⟩ λi v av pv e=>?_)
 ·rcases Qb hb with rfl | hb
  ·exact .inl rfl
  ·obtain rfl:=Q9 hb
   refine .inr ⟨λm=>?_,o,j9 ho⟩
   unfold hid at ho;rw [if_pos m]at ho;exact no1 ho
 ·(refine jw st ?_;clear st;rintro⟨o,e,e2,_⟩ _);exact⟨o,_,e,e2,by decide +kernel⟩
 ·(refine jc (hr.get e) ?_;intro u hu ru)
  rw [Q0 pv]at hu;(have q_:=oi hu;clear hu;subst q_);exact ru
end
section
variable {c:Ct} {P:Out->Prop}
noncomputable def TA(c:Ct)(tg:Expr)(av:AV)(σ':List (Option AV)):Prop:=∀ ⦃Yc:List Qk⦄ (s₀ s:Qi) (E:Qe) (Q:Unit->Qi->Prop) (v:Qm),Fm c Yc s₀ s->Rep (hid (c.X++c.Yf Yc) s.heap) av v ->
 (∀s',Grow c s s'->Fm (c.up c.X σ') Yc s₀ s'->Q () s')->Qo c.M c.A (assign tg c.env v) Q E s
theorem TA.name(V:Vars c)(i:Nat){x:Qd}{pos:Pos}{av:AV}(hi:c.vars[i]?=Qf x):TA c (.Name x pos) av (c.σ.set i (Qf av)):=λYc s₀ s E Q v f r h =>
 VX (f.store V hi (.of r) λs' g f'=>h s' g f')
theorem TA.tup(V:Vars c)(hh:c.A.handled=Qg){es:List Expr}{k:Nat}{tpos:Pos}{avs:List AV}{σ':List (Option AV)}(t:Tg c es avs c.σ σ')
  (hn:(Vx es c.env).length=avs.length:=by rfl) (hst:(Vx es c.env).findIdx? (·.1)=none:=by rfl):TA c (.Tuple es k tpos) (.tup avs) σ':=λYc s₀ s E Q v f r h=>by
 (refine xl (kJ r) ?_;rintro a o vs n rfl ho hc hd hr)
 have hT:s.heap.IsTuple a vs:=⟨o,j9 ho,hc,n,hd⟩
 refine Y6 hh hT (by rw [hn,<-hr.length];simp) hst λh' hx=>?_
 have kk:Vb s { s with heap:=h' }:=ja λb o e=>hx b o (QR (jg e)) e
 exact t.go V (f.keeps kk) (hr.mono (ju (jr kk))) λs' g f'=>h s' ((Grow.of kk).trans (X:=c.X) (σ:=c.σ) (λ_ h=>.inl h) g) f'
theorem vG{Yc:List Qk}{s s':Qi}(g:Grow c s s'):Le (hid (c.X++c.Yf Yc) s.heap) (hid (c.X++c.Yf Yc) s'.heap):=λa o e=>by
 unfold hid at e ⊢
 split at e
 ·exact no1 e
 ·rename_i n
  rw [if_neg n]
  exact g.get' a o (λm=>n (by
   rcases Qa m with m | m
   ·exact Q8 _ m
   ·exact Q7 _ (by
     rcases Qb m with m | m
     ·exact m▸.head _
     ·exact .tail _ (Q8 _ m)))) e
theorem Fm.less{Yc:List Qk}{s₀ s:Qi}{W:List Qk}(f:Fm c (W++Yc) s₀ s):Fm c Yc s₀ s:=by
 (refine jn f.fr ?_;intro m cm ic lk)
 have le:Le (hid (c.X++c.Yf (W++Yc)) s.heap) (hid (c.X++c.Yf Yc) s.heap):=jE λx hx=>by
  rcases Qa hx with h | h
  ·exact Q8 _ h
  ·rcases Qb h with h | h
   ·exact Q7 _ (h▸.head _)
   ·rcases Qa h with h | h
    ·exact Q7 _ (.tail _ (Q8 _ h))
    ·exact Q7 _ (.tail _ (Q7 _ (Q7 _ h)))
 refine⟨f.base,λy hy=>f.old y (Q7 _ hy),f.own,⟨f.nodup.1,λx hx m=>f.nodup.2 x hx (Q7 _ m)⟩,f.cnd,f.kind,m,cm,ic,λi x av e e'=>?_⟩
 (refine jc (lk i x av e e') ?_;intro v r q)
 refine⟨v,?_,q⟩
 exact r.to le λp _ a o e1 e2=>⟨e1,e2⟩
theorem Fm.hide{Yc:List Qk}{s₀ s s':Qi}{W:List Qk}(f:Fm c Yc s₀ s)(k:Vb s s')(hW:∀b∈W,s.heap.get? b=Qg/\∃o,s'.heap.get? b=Qf o):Fm c (W++Yc) s₀ s':=by
 (refine jn f.fr ?_;intro m cm ic lk)
 have le:Le (hid (c.X++c.Yf Yc) s.heap) (hid (c.X++c.Yf (W++Yc)) s'.heap):=λa o e=>by
  have e1:=j9 e
  refine jl (jr k _ _ e1) λhx=>?_
  have n:a∉c.X++c.Yf Yc:=λm=>by unfold hid at e;rw [if_pos m]at e;exact no1 e
  rcases Qa hx with h | h
  ·exact n (Q8 _ h)
  ·rcases Qb h with h | h
   ·exact n (Q7 _ (h▸.head _))
   ·rcases Qa h with h | h
    ·exact n (Q7 _ (.tail _ (Q8 _ h)))
    ·rcases Qa h with h | h
     ·rw [(hW a h).1]at e1;exact no1 e1
     ·exact n (Q7 _ (.tail _ (Q7 _ h)))
 have f':=f.keeps k
 (refine jn f'.fr ?_;intro m' cm' ic' lk')
 refine⟨f.base,λy hy=>(Qa hy).elim (λh=>(hW y h).2) (f'.old y),f'.own,⟨f.nodup.1,λx hx m=>(Qa m).elim (λh=>let ⟨o,e⟩:=(f.own x hx).2.2.2;by rw [(hW x h).1]at e;exact no1 e) (f.nodup.2 x hx)⟩,f.cnd,f.kind,m,cm,kQ ic k,λi x av e e'=>?_⟩
 (refine jc (lk i x av e e') ?_;intro v r q)
 refine⟨v,?_,q⟩
 exact r.to le λp _ a o e1 e2=>⟨e1,jr k _ _ e2⟩
theorem Fm.live{Yc:List Qk}{s₀ s:Qi}(f:Fm c Yc s₀ s):∀x∈c.X++c.Yf Yc,∃o,s.heap.get? x=Qf o:=λx hx=>by
 (refine jn f.fr ?_;intro m cm ic lk)
 rcases Qa hx with hx | hx
 ·exact(f.own x hx).2.2.2
 ·rcases Qb hx with rfl | hx
  ·(refine yY ic.toInCall.ns ?_;intro o _ _ ho _);exact⟨o,ho⟩
  ·rcases Qa hx with hx | hx
   ·(refine jc (Qw.mp hx) ?_;rintro⟨n,a⟩ hm rfl)
    (refine jc (ic.cell n a (kC f.cnd hm)) ?_;intro o ho _)
    exact⟨o,ho⟩
   ·exact f.old x hx
theorem ku{Yc:List Qk}{s₀ s:Qi}(f:Fm c Yc s₀ s){b:Qk}(h:s.heap.get? b=Qg):b∉Own c:=λm=>by
 have lv:=f.live b (by
  unfold Own at m
  rcases Qa m with m | m
  ·exact Q8 _ m
  ·exact Q7 _ (by
    rcases Qb m with m | m
    ·exact m▸.head _
    ·exact .tail _ (Q8 _ m)))
 (refine jd lv ?_;intro o e);rw [h]at e;exact no1 e
theorem Fm.off{Yc:List Qk}{s₀ s s₁:Qi}{W:List Qk}{σ:List (Option AV)}{h₁:QU}{tk₁:Nat}(f:Fm c Yc s₀ s)(hW:∀b∈W,s.heap.get? b=Qg)(fm:Fm (c.up c.X σ) (W++Yc) s₀ s₁)
  (hk₁:∀b o,b∉W->s₁.heap.get? b=Qf o->h₁.get? b=Qf o):Fm (c.up c.X σ) Yc s₀ { s₁ with heap:=h₁,toks:=tk₁ }:=by
 have wOwn:∀b∈Own c,b∉W:=λb hb m=>ku f (hW b m) hb
 (refine jn fm.fr ?_;intro m cm ic lk)
 have nWo:∀ {b o},s.heap.get? b=Qf o->b∉W:=λ{b o} e m=>by rw [hW b m]at e;exact no1 e
 have le:Le (hid (c.X++c.Yf (W++Yc)) s₁.heap) (hid (c.X++c.Yf Yc) h₁):=λa o e=>by
  have e1:=j9 e
  have n:a∉c.X++c.Yf (W++Yc):=λm=>by unfold hid at e;rw [if_pos m]at e;exact no1 e
  refine jl (hk₁ a o (λm=>n (Q7 _ (.tail _ (Q7 _ (Q8 _ m))))) e1) λhx=>n ?_
  rcases Qa hx with h | h
  ·exact Q8 _ h
  ·rcases Qb h with h | h
   ·exact Q7 _ (h▸.head _)
   ·rcases Qa h with h | h
    ·exact Q7 _ (.tail _ (Q8 _ h))
    ·exact Q7 _ (.tail _ (Q7 _ (Q7 _ h)))
 have own':∀ {b o},b∈Own c->s₁.heap.get? b=Qf o->h₁.get? b=Qf o:=λ{b o} hb e=>hk₁ b o (wOwn b hb) e
 (refine jN ic.toInCall.same ?_;intro h₀ t₀ e1)
 refine⟨fm.base,λy hy=>?_,λx hx=>⟨(fm.own x hx).1,(fm.own x hx).2.1,(fm.own x hx).2.2.1,(((fm.own x hx).2.2.2).imp λo e=>own' (Q8 _ hx) e)⟩,⟨fm.nodup.1,λx hx m=>fm.nodup.2 x hx (Q7 _ m)⟩,fm.cnd,fm.kind,m,cm,
  ⟨⟨⟨h₁,tk₁,by rw [e1]⟩,?_,λb o e=>hk₁ b o (nWo (jr f.kept b o e)) (ic.toInCall.keep b o e),ic.toInCall.fresh⟩,λn a e=>?_,ic.apart,ic.above⟩,λj x av e e'=>?_⟩
 ·(refine jd (f.old y hy) ?_;intro o e)
  (refine jd (fm.old y (Q7 _ hy)) ?_;intro o' e')
  exact⟨o',hk₁ y o' (nWo e) e'⟩
 ·exact ic.toInCall.ns.at' λo e=>own' (Q7 _ (.head _)) e
 ·(refine jc (ic.cell n a e) ?_;intro o ho hd)
  exact⟨o,own' (Q7 _ (.tail _ (Qw.mpr ⟨(n,a),mem_of_lookup e,rfl⟩))) ho,hd⟩
 ·(refine jc (lk j x av e e') ?_;intro v r q)
  refine⟨v,?_,q⟩
  exact r.to le λp _ a o e1 e2=>⟨e1,own' (Q8 _ (QE e1)) e2⟩
theorem X1.for{tg iter:Expr}{body:List XM}{pos:Pos}{xs:List AV}(J:Nat->List (Option AV)->Prop)(p:PI c tg iter xs)(h0:J 0 c.σ)
  (step:∀i av σ,xs[i]?=Qf av->J i σ->∃σ',TA (c.up c.X σ) tg av σ'/\XS (c.up c.X σ') body (λo=>match o with
   | .nx X σ=>X=c.X/\J (i+1) σ
   | .ct X σ=>X=c.X/\J (i+1) σ
   | .br X σ=>P (.nx X σ)
   | .rt av=>P (.rt av)))
  (fin:∀σ,J xs.length σ->P (.nx c.X σ))
  (hs:∀x,QN iter c.env x=pure x:=by intro _;rfl):X1 c (.For tg iter body [] pos) P:=λYc s₀ s E ht f=>by
 refine wpAny_For (p s E _ (f.at ht) λI W St Mid s' k hW hI ht'=>?_) hs
 have f₁:Fm c (W++Yc) s₀ s':=f.hide k hW
 obtain⟨it,st0⟩:=hI (c.X++c.Yf (W++Yc)) ⟨λx=>by
  simp only [XH,Ct.Yf,QD]
  rintro((h | h | h | h) | h)
  ·exact .inl h
  ·exact .inr (.inl h)
  ·exact .inr (.inr (.inl h))
  ·exact .inr (.inr (.inr (.inr h)))
  ·exact .inr (.inr (.inr (.inl h))),λx=>by
  simp only [XH,Ct.Yf,QD]
  rintro(h | h | h | h | h)
  ·exact .inl (.inl h)
  ·exact .inl (.inr (.inl h))
  ·exact .inl (.inr (.inr (.inl h)))
  ·exact .inr (.inl h)
  ·exact .inl (.inr (.inr (.inr h)))⟩
 generalize St (c.X++c.Yf (W++Yc))=St at it st0
 generalize Mid (c.X++c.Yf (W++Yc))=Mid at it
 have nW:∀b∈W,b∉Own c:=λb hb=>ku f (hW b hb).1
 have wOwn:∀b∈Own c,b∉W:=λb hb m=>nW b m hb
 refine YX (λn s₁=>∃i σ,n=xs.length+1-i/\i<=xs.length/\J i σ/\Grow c s s₁/\Fm (c.up c.X σ) (W++Yc) s₀ s₁/\St i s₁.heap/\1<=s₁.toks) ?_ (xs.length+1) (i2_7 0 c.σ rfl (Vj _) h0 (Grow.of k) f₁ st0 ht')
 (intro n s₁ q_;refine e2_7 q_ ?_;clear q_;rintro i σ rfl hi hJ g fm st ht₁)
 have keepG:∀ {s₁:Qi} {h':QU} {tk:Nat},Grow c s s₁->(∀b o,b∉W->s₁.heap.get? b=Qf o->h'.get? b=Qf o)->Grow c s { s₁ with heap:=h',toks:=tk }:=λ{s₁ h' tk} g hk=>by
  (refine jn g ?_;clear g;rintro h₁ t₁ rfl kk)
  exact⟨h',tk,rfl,λb o hb e=>hk b o (λm=>by rw [(hW b m).1]at e;exact no1 e) (kk b o hb e)⟩
 have fmW:∀ {σ:List (Option AV)} {s₁:Qi} {h':QU} {tk:Nat},Fm (c.up c.X σ) (W++Yc) s₀ s₁->(∀b o,b∉W->s₁.heap.get? b=Qf o->h'.get? b=Qf o)->(∀b∈W,∃o,h'.get? b=Qf o)->Fm (c.up c.X σ) (W++Yc) s₀ { s₁ with heap:=h',toks:=tk }:=λ{σ s₁ h' tk} fm hk hl=>by
  (refine jn fm.fr ?_;intro m cm ic lk)
  have le:Le (hid (c.X++c.Yf (W++Yc)) s₁.heap) (hid (c.X++c.Yf (W++Yc)) h'):=λa o e=>by
   have e1:=j9 e
   have n:a∉c.X++c.Yf (W++Yc):=λm=>by unfold hid at e;rw [if_pos m]at e;exact no1 e
   exact jl (hk a o (λm=>n (Q7 _ (.tail _ (Q7 _ (Q8 _ m))))) e1) n
  have own':∀ {b o},b∈Own c->s₁.heap.get? b=Qf o->h'.get? b=Qf o:=λ{b o} hb e=>hk b o (wOwn b hb) e
  (refine jN ic.toInCall.same ?_;intro h₁ t₁ e1)
  refine⟨fm.base,λy hy=>?_,λx hx=>⟨(fm.own x hx).1,(fm.own x hx).2.1,(fm.own x hx).2.2.1,(((fm.own x hx).2.2.2).imp λo e=>own' (Q8 _ hx) e)⟩,fm.nodup,fm.cnd,fm.kind,m,cm,
   ⟨⟨⟨h',tk,by rw [e1]⟩,?_,λb o e=>?_,ic.toInCall.fresh⟩,λn a e=>?_,ic.apart,ic.above⟩,λj x av e e'=>?_⟩
  ·by_cases q:y∈W
   ·exact hl y q
   ·(refine jd (fm.old y hy) ?_;intro o e);exact⟨o,hk y o q e⟩
  ·exact ic.toInCall.ns.at' λo e=>own' (Q7 _ (.head _)) e
  ·refine hk b o (λm=>?_) (ic.toInCall.keep b o e)
   have q:=(hW b m).1
   rw [jr f.kept b o e]at q;exact no2 q
  ·(refine jc (ic.cell n a e) ?_;intro o ho hd)
   exact⟨o,own' (Q7 _ (.tail _ (Qw.mpr ⟨(n,a),mem_of_lookup e,rfl⟩))) ho,hd⟩
  ·(refine jc (lk j x av e e') ?_;intro v r q)
   refine⟨v,?_,q⟩
   exact r.to le λp _ a o e1 e2=>⟨e1,own' (Q8 _ (QE e1)) e2⟩
 by_cases hlt:i<xs.length
 ·obtain⟨av,hav⟩:∃av,xs[i]?=Qf av:=⟨_,Qu hlt⟩
  (refine jc (step i av σ hav hJ) ?_;intro σ' ta xb)
  refine QB (n:=1) ht₁ (it.item i av s₁ _ _ hav st fm.live λv h₁ tk₁ mid rv hk₁ ht₂=>?_)
  refine it.go i av v _ _ _ mid rv λh₂ st₂ rv₂ hk₂=>?_
  have hk₁₂:∀b o,b∉W->s₁.heap.get? b=Qf o->h₂.get? b=Qf o:=λb o hb e=>hk₂ b o hb (hk₁ b o hb e)
  have fm₂:=fmW (tk:=tk₁) fm hk₁₂ (it.live _ _ st₂)
  have g₂:=keepG (tk:=tk₁) g hk₁₂
  refine QB (n:=1) ht₂ (ta s₀ _ _ _ v fm₂ rv₂ λs₃ g₃ f₃ ht₃=>?_)
  refine QB (n:=1) ht₃ (Qz (xb s₀ s₃ _ ht₃ f₃) (λfl s₄ ⟨g₄,q⟩ ht₄=>?_) λ_ _ y=>y)
  have hown:∀σ,Own (c.up c.X σ)=Own c:=λ_=>rfl
  have g₄':Grow c { s₁ with heap:=h₂,toks:=tk₁ } s₄:=Grow.trans (c:=c) (X:=c.X) (σ:=c.σ) (λ_ h=>.inl h) g₃ g₄
  have G:Grow c s s₄:=Grow.trans (c:=c) (X:=c.X) (σ:=c.σ) (λ_ h=>.inl h) g₂ g₄'
  have stN:St (i+1) s₄.heap:=it.frame (i+1) h₂ s₄.heap st₂ (vG (c:=c) (Yc:=W++Yc) g₄') λb hb o e=>g₄'.get' b o (nW b hb) e
  have back:∀ {X σ},Stay (c.up c.X σ') (W++Yc) s₀ s₃ X σ s₄->Stay c Yc s₀ s X σ s₄:=λ{X σ} sy=>by
   refine⟨λx hx=>?_,sy.2.less⟩
   rcases sy.1 x hx with q | q
   ·exact .inl q
   ·right
    cases e:s.heap.get? x with
    | none=>rfl
    | some o =>
     have hx':=sy.2.own x hx
     have hn:x∉Own c:=λm=>by
      rcases Qa m with m | m
      ·(refine jd ((f₃.own x m).2.2.2) ?_;intro o' e')
       rw [q]at e';exact no1 e'
      ·rcases Qb m with m | m
       ·exact hx'.2.1 m
       ·exact hx'.2.2.1 m
     have:=(Grow.trans (c:=c) (X:=c.X) (σ:=c.σ) (λ_ h=>.inl h) g₂ g₃).get x o hn e
     rw [q]at this;exact no1 this
  cases fl with
  | next =>
   (refine jn q ?_;clear q;rintro X σ₄ ⟨rfl,j⟩ sy)
   exact⟨xs.length+1-(i+1),by exact zr1 ‹_›,i2_7 (i+1) σ₄ rfl hlt j G sy.2 stN ht₄⟩
  | cont =>
   (refine jn q ?_;clear q;rintro X σ₄ ⟨rfl,j⟩ sy)
   exact⟨xs.length+1-(i+1),by exact zr1 ‹_›,i2_7 (i+1) σ₄ rfl hlt j G sy.2 stN ht₄⟩
  | brk =>
   (refine jn q ?_;intro X σ₄ p sy)
   exact⟨G,X,σ₄,p,back sy⟩
  | ret v =>
   (refine ye q ?_;intro av p kk r)
   exact⟨G,av,p,kk,r.mono (jE λx hx=>Q7 _ hx)⟩
 ·have hi':i=xs.length:=by exact zr4 ‹_› ‹_›
  subst hi'
  refine it.done s₁ _ _ st λh₁ tk₁ hk₁=>Vm ?_
  refine⟨keepG g hk₁,c.X,σ,fin σ hJ,λ_ h=>.inl h,?_⟩
  exact Fm.off f (λb hb=>(hW b hb).1) fm hk₁
end
noncomputable def Gz(K:List Qk)(s s':Qi):Prop:=∃h' tk,s'={ s with heap:=h',toks:=tk }/\∀b o,b∉K->s.heap.get? b=Qf o->h'.get? b=Qf o
theorem Gz.rfl'{K:List Qk}{s:Qi}:Gz K s s:=⟨s.heap,s.toks,rfl,λ_ _ _ e=>e⟩
theorem Gz.get{K:List Qk}{s s':Qi}(g:Gz K s s'):∀b o,b∉K->s.heap.get? b=Qf o->s'.heap.get? b=Qf o:=by
 (refine jn g ?_;clear g;rintro h t rfl k);exact k
theorem Gz.of{K:List Qk}{s s':Qi}(k:Vb s s'):Gz K s s':=by
 (refine jn k ?_;intro h t e kk);exact⟨h,t,e,λb o _ e=>kk b o e⟩
theorem Gz.sub{K K':List Qk}{s s':Qi}(g:Gz K s s')(h:∀x∈K,x∈K'):Gz K' s s':=by
 (refine jn g ?_;intro h' t e k);exact⟨h',t,e,λb o n e=>k b o (λm=>n (h b m)) e⟩
theorem Gz.trans{K:List Qk}{s s' s'':Qi}(a:Gz K s s')(b:Gz K s' s''):Gz K s s'':=by
 (refine jn a ?_;clear a;rintro h t rfl k)
 (refine jn b ?_;clear b;rintro h' t' rfl k')
 exact⟨h',t',rfl,λb o n e=>k' b o n (k b o n e)⟩
theorem Gz.le{K H:List Qk}{s s':Qi}(g:Gz K s s')(k:∀x∈K,x∈H):Le (hid H s.heap) (hid H s'.heap):=λb o e=>by
 have e1:=j9 e
 have n:b∉H:=λm=>by unfold hid at e;rw [if_pos m]at e;exact no1 e
 exact jl (g.get b o (λm=>n (k b m)) e1) n
structure CmS (c:Ct) (env:Env) (own:List Qd) (fr:List Nat) (Z:List (Qd×Qk)):Prop where
 kind:env.scope.kind=.function
 nd:own.Nodup
 kd:∀x∈own,env.kindOf x=Qf .local∨(env.kindOf x=Qf .cell/\env.cells.lookup x=Z.lookup x/\(Z.lookup x).isSome=true)
 fk:∀i∈fr,∃x,c.vars[i]?=Qf x/\(env.kindOf x=Qf .cell∨env.kindOf x=Qf .free)/\c.env.kindOf x≠Qf .local/\env.cells.lookup x=c.env.cells.lookup x
noncomputable abbrev v8(c:Ct)(env:Env)(own:List Qd)(fr:List Nat)(τ:List (Option AV)):Ct :=
 { prog:=c.prog,w:=c.w,B:=c.B,A:=c.A,env:=env,vars:=own++fr.map (λi=>c.vars.getD i ""),X:=c.X,σ:=τ++fr.map (λi=>c.σ.getD i Qg) }
noncomputable abbrev Zh(env:Env)(Z:List (Qd×Qk)):List Addr:=env.locals::Z.map (·.2)
noncomputable abbrev Yh(env:Env)(Z:List (Qd×Qk))(D:Qk)(W Y:List Qk):List Addr:=Zh env Z++D::(W++Y)
structure InC (s₀:Qi) (L:Qk) (m:Qd->Option Qm) (cs:List (Qd×Qk)) (cm:Qd->Option Qm) (s:Qi):Prop where
 same:∃h tk,s={ s₀ with heap:=h,toks:=tk }
 ns:s.heap.Ns L m
 keep:∀b o,s₀.heap.get? b=Qf o->s.heap.get? b=Qf o
 cell:∀n c,cs.lookup n=Qf c->s.heap.IsCell c (cm n)
 apart:cs.Pairwise λx y=>x.2≠y.2
 ne:∀n c,(n,c)∈cs->c≠L
structure CmD (c:Ct) (env:Env) (own:List Qd) (Z:List (Qd×Qk)) (D:Qk) (W Y:List Qk) (s₀:Qi) (τ:List (Option AV)) (l:List AV) (s:Qi):Prop where
 live:∀b,b∈Zh env Z∨b=D∨b∈W->s₀.heap.get? b=Qg/\∃o,s.heap.get? b=Qf o
 dz:D∉Zh env Z
 wz:∀b∈W,b∉Zh env Z/\b≠D
 len:τ.length=own.length
 fr:∃m cm,InC s₀ env.locals m Z cm s/\∀(i:Nat) (x:Qd) (av:AV),own[i]?=Qf x->τ[i]?=Qf (Qf av) ->
  ∃v,Rep (hid (c.X++Yh env Z D W Y) s.heap) av v/\((env.kindOf x=Qf .local/\m x=Qf v)∨(env.kindOf x=Qf .cell/\cm x=Qf v/\env.cells.lookup x=Z.lookup x/\(Z.lookup x).isSome=true))
 acc:∃vs,s.heap.PlainList D vs/\Reps (hid (c.X++Yh env Z D W Y) s.heap) l vs.toList
section
variable {c:Ct} {env:Env} {own:List Qd} {fr:List Nat} {Z:List (Qd×Qk)} {D:Qk} {W Y:List Qk} {s₀ s s':Qi} {τ:List (Option AV)} {l:List AV}
theorem mem_Yh{b:Qk}:b∈c.X++Yh env Z D W Y↔b∈c.X++Y∨b∈Zh env Z∨b=D∨b∈W:=by
 simp only [Yh,XH,QD]
 constructor
 ·rintro(h | h | h | h | h)
  ·exact .inl (.inl h)
  ·exact .inr (.inl h)
  ·exact .inr (.inr (.inl h))
  ·exact .inr (.inr (.inr h))
  ·exact .inl (.inr h)
 ·rintro((h | h) | h | h | h)
  ·exact .inl h
  ·exact .inr (.inr (.inr (.inr h)))
  ·exact .inr (.inl h)
  ·exact .inr (.inr (.inl h))
  ·exact .inr (.inr (.inr (.inl h)))
theorem CmD.keep(d:CmD c env own Z D W Y s₀ τ l s):Vb s₀ s:=by
 (refine jn d.fr ?_;intro m cm ic _)
 (refine jN ic.same ?_;rintro h' tk rfl)
 exact⟨h',tk,rfl,ic.keep⟩
theorem CmD.le0(d:CmD c env own Z D W Y s₀ τ l s):Le (hid (c.X++Y) s₀.heap) (hid (c.X++Yh env Z D W Y) s.heap):=λb o e=>by
 have e1:=j9 e
 refine jl (jr d.keep b o e1) λm=>?_
 rcases mem_Yh.mp m with m | m
 ·unfold hid at e;rw [if_pos m]at e;exact no1 e
 ·rw [(d.live b m).1]at e1;exact no1 e1
theorem CmD.at(S:CmS c env own fr Z)(a:c.At Y s₀)(d:CmD c env own Z D W Y s₀ τ l s)(ht:1<=s.toks):(v8 c env own fr τ).At (Yh env Z D W Y) s:=by
 have k:=jr d.keep
 refine⟨λb o e=>k _ _ (a.base b o e),λx hx=>?_,λi x av hv hs=>?_,ht⟩
 ·rcases mem_Yh.mp hx with h | h
  ·(refine jd (a.live x h) ?_;intro o e);exact⟨o,k _ _ e⟩
  ·exact(d.live x h).2
 ·(refine jn d.fr ?_;intro m cm ic lk)
  by_cases hi:i<own.length
  ·have e1:own[i]?=Qf x:=by rw [<-V5 (l₂:=fr.map _) hi];exact hv
   have e2:τ[i]?=Qf (Qf av):=by rw [<-V5 (l₂:=fr.map _) (by rw [d.len];exact hi)];exact hs
   (refine jc (lk i x av e1 e2) ?_;rintro v r (q | q))
   ·exact .inl ⟨q.1,m,v,ic.ns,q.2,.of r⟩
   ·refine e0_4 q ?_;intro q1 q2 q3 q4
    (refine jd (Vz.mp q4) ?_;intro z hz)
    exact .inr ⟨.inl q1,z,v,q3.trans hz,q2▸ic.cell x z hz,.of r⟩
  ·have e1:(fr.map (λi=>c.vars.getD i ""))[i-own.length]?=Qf x:=by rw [<-X6 (l₁:=own) (by exact VS.mp ‹_›)];exact hv
   have e2:(fr.map (λi=>c.σ.getD i Qg))[i-own.length]?=Qf (Qf av):=by
    have:=hs
    rw [show(v8 c env own fr τ).σ=τ++fr.map (λi=>c.σ.getD i Qg)from rfl,X6 (by rw [d.len];exact VS.mp ‹_›),d.len]at this
    exact this
   rw [Qx]at e1 e2
   cases hj:fr[i-own.length]? with
   | none=>rw [hj]at e1;cases e1
   | some j =>
    rw [hj]at e1 e2
    refine e1_4 (S.fk j (QE hj)) ?_;intro y hy q1 q2 q3
    have hx:x=y:=by
     have:c.vars.getD j ""=x:=oi e1
     rw [<-this,QL,hy];rfl
    subst hx
    have hσ:c.σ[j]?=Qf (Qf av):=by
     have:c.σ.getD j Qg=Qf av:=oi e2
     rw [QL]at this
     cases q:c.σ[j]? with
     | none=>rw [q]at this;cases this
     | some u=>rw [q]at this;exact congrArg Qf this
    rcases a.look j x av hy hσ with⟨hl,_⟩ | ⟨_,z,v,hc,hz,r⟩
    ·exact absurd hl q2
    ·refine .inr ⟨q1,z,v,q3.trans hc,hz.keeps k,?_⟩
     have le:=d.le0
     exact r.to le λp _ a' o e1 e2=>⟨e1,k _ _ e2⟩
theorem CmD.step(d:CmD c env own Z D W Y s₀ τ l s){K W':List Qk}(g:Gz K s s')(hK:∀b∈K,b∈W)(sub:∀b∈W',b∈W)(lv:∀b∈W',∃o,s'.heap.get? b=Qf o):CmD c env own Z D W' Y s₀ τ l s':=by
 (refine jn d.fr ?_;intro m cm ic lk)
 (refine jc d.acc ?_;intro vs hl hr)
 have nz:∀b∈Zh env Z,b∉K:=λb hb m=>(d.wz b (hK b m)).1 hb
 have nD:D∉K:=λm=>(d.wz D (hK D m)).2 rfl
 have n0:∀b o,s₀.heap.get? b=Qf o->b∉K:=λb o e m=>by rw [(d.live b (.inr (.inr (hK b m)))).1]at e;exact no1 e
 have le:Le (hid (c.X++Yh env Z D W Y) s.heap) (hid (c.X++Yh env Z D W' Y) s'.heap):=λb o e=>by
  have e1:=j9 e
  have n:b∉c.X++Yh env Z D W Y:=λm=>by unfold hid at e;rw [if_pos m]at e;exact no1 e
  have up:b∈c.X++Yh env Z D W' Y->b∈c.X++Yh env Z D W Y:=λm=>by
   rcases mem_Yh.mp m with m | m | m | m
   ·exact mem_Yh.mpr (.inl m)
   ·exact mem_Yh.mpr (.inr (.inl m))
   ·exact mem_Yh.mpr (.inr (.inr (.inl m)))
   ·exact mem_Yh.mpr (.inr (.inr (.inr (sub b m))))
  exact jl (g.get b o (λm=>n (mem_Yh.mpr (.inr (.inr (.inr (hK b m)))))) e1) λm=>n (up m)
 (refine jn g ?_;clear g;rintro h' tk rfl k)
 (refine jN ic.same ?_;intro h₁ t₁ e1)
 refine⟨λb hb=>⟨?_,?_⟩,d.dz,λb hb=>d.wz b (sub b hb),d.len,⟨m,cm,⟨⟨h',tk,by rw [e1]⟩,?_,λb o e=>k b o (n0 b o e) (ic.keep b o e),λn a e=>?_,ic.apart,ic.ne⟩,λi x av e e'=>?_⟩,vs,?_,hr.mono le⟩
 ·rcases hb with hb | hb | hb
  ·exact(d.live b (.inl hb)).1
  ·exact(d.live b (.inr (.inl hb))).1
  ·exact(d.live b (.inr (.inr (sub b hb)))).1
 ·rcases hb with hb | rfl | hb
  ·(refine jd ((d.live b (.inl hb)).2) ?_;intro o e);exact⟨o,k b o (nz b hb) e⟩
  ·(refine jd ((d.live b (.inr (.inl rfl))).2) ?_;intro o e);exact⟨o,k b o nD e⟩
  ·exact lv b hb
 ·exact ic.ns.at' λo e=>k _ o (nz _ (.head _)) e
 ·(refine jc (ic.cell n a e) ?_;intro o ho hd)
  exact⟨o,k a o (nz a (.tail _ (Qw.mpr ⟨(n,a),mem_of_lookup e,rfl⟩))) ho,hd⟩
 ·(refine jc (lk i x av e e') ?_;intro v r q)
  exact⟨v,r.mono le,q⟩
 ·exact hl.at λo e=>k D o nD e
theorem CmD.keeps(d:CmD c env own Z D W Y s₀ τ l s)(k:Vb s s'):CmD c env own Z D W Y s₀ τ l s' :=
 d.step (K:=[]) (.of k) (λ_ h=>nomatch h) (λ_ h=>h) λb hb=>(((d.live b (.inr (.inr hb))).2).imp λo e=>jr k _ _ e)
theorem CmD.weak{τ':List (Option AV)}(d:CmD c env own Z D W Y s₀ τ l s)(hl:τ'.length=τ.length)(h:∀(i:Nat) (av:AV),τ'[i]?=Qf (Qf av)->τ[i]?=Qf (Qf av)):CmD c env own Z D W Y s₀ τ' l s:=by
 (refine jn d.fr ?_;intro m cm ic lk)
 exact⟨d.live,d.dz,d.wz,hl.trans d.len,⟨m,cm,ic,λi x av e e'=>lk i x av e (h i av e')⟩,d.acc⟩
theorem CmD.store(S:CmS c env own fr Z)(d:CmD c env own Z D W Y s₀ τ l s){i:Nat}{x:Qd}{av:AV}{v:Qm}(hi:own[i]?=Qf x)(r:Rep (hid (c.X++Yh env Z D W Y) s.heap) av v){M:Model}{A:QO}{E:Qe}{Q:Unit->Qi->Prop}
  (h:∀s',Gz (Zh env Z) s s'->CmD c env own Z D W Y s₀ (τ.set i (Qf av)) l s'->Q () s'):Qo M A (storeName env x v) Q E s:=by
 (refine jn d.fr ?_;intro m cm ic lk)
 (refine jc d.acc ?_;intro vs hl hr)
 have mY:∀ {y},y∈Zh env Z->y∈c.X++Yh env Z D W Y:=λ{y} hy=>mem_Yh.mpr (.inr (.inl hy))
 have lv':∀ {h':QU} {a:Qk},(∃o,h'.get? a=Qf o)->V9 a s.heap h'->∀b,(∃o,s.heap.get? b=Qf o)->∃o,h'.get? b=Qf o:=λ{h' a} ha hs b ⟨o,e⟩=>by
  by_cases q:b=a
  ·subst q;exact ha
  ·exact⟨o,hs.extBut b o q e⟩
 rcases S.kd x (QE hi)with hk | ⟨hk,hc1,hc2⟩
 ·refine wpAny_storeName_local hk ic.ns (λh' hn' hs'=>h _ ⟨h',_,rfl,λb o hb e=>hs'.extBut b o (λq=>hb (q▸.head _)) e⟩ ?_) (by rw [S.kind];rfl)
  have hs:hid (c.X++Yh env Z D W Y) h'=hid (c.X++Yh env Z D W Y) s.heap:=jD λb hb=>hs'.2 b λe=>hb (mY (e▸.head _))
  have hL:∃o,h'.get? env.locals=Qf o:=by(refine yY hn' ?_;intro o _ _ ho _);exact⟨o,ho⟩
  (refine jN ic.same ?_;intro h₁ t₁ e1)
  refine⟨λb hb=>⟨(d.live b hb).1,lv' hL hs' b (d.live b hb).2⟩,d.dz,d.wz,by rw [List.length_set];exact d.len,⟨λy=>if y=x then Qf v else m y,cm,⟨⟨h',_,by rw [e1]⟩,hn',λb o e=>?_,λk a ha=>(ic.cell k a ha).sameBut hs' (ic.ne k a (mem_of_lookup ha)),ic.apart,ic.ne⟩,λj y av' e e'=>?_⟩,vs,?_,by show Reps (hid _ h') l vs.toList;rw [hs];exact hr⟩
  ·exact hs'.extBut b o (λq=>by rw [q,(d.live _ (.inl (.head _))).1]at e;exact no1 e) (ic.keep b o e)
  ·rcases vg e' with⟨rfl,e2⟩ | ⟨hne,e2⟩
   ·(have q_:=(oi e2).symm;clear e2;subst q_)
    have:y=x:=oi (e.symm.trans hi)
    subst this
    exact⟨v,by show Rep (hid _ h') av v;rw [hs];exact r,.inl ⟨hk,by simp⟩⟩
   ·(refine jc (lk j y av' e e2) ?_;intro u ru q)
    refine⟨u,by show Rep (hid _ h') av' u;rw [hs];exact ru,?_⟩
    have hyx:y≠x:=λq=>hne (vD S.nd hi (q▸e))
    rcases q with⟨q1,q2⟩ | q
    ·exact .inl ⟨q1,by simp [hyx,q2]⟩
    ·exact .inr q
  ·exact hl.extBut hs'.extBut λe=>d.dz (e▸.head _)
 ·(refine jd (Vz.mp hc2) ?_;intro a ha)
  have hac:a∈Z.map (·.2):=Qw.mpr ⟨(x,a),mem_of_lookup ha,rfl⟩
  have hLc:=ic.ne x a (mem_of_lookup ha)
  refine wpAny_storeName_cell S.kind hk (hc1.trans ha) (ic.cell x a ha) λh' hc' hs'=>h _ ⟨h',s.toks,rfl,λb o hb e=>hs'.extBut b o (λq=>hb (.tail _ (q▸hac))) e⟩ ?_
  have hs:hid (c.X++Yh env Z D W Y) h'=hid (c.X++Yh env Z D W Y) s.heap:=jD λb hb=>hs'.2 b λe=>hb (mY (e▸.tail _ hac))
  have hL:∃o,h'.get? a=Qf o:=by(refine jc hc' ?_;intro o ho _);exact⟨o,ho⟩
  (refine jN ic.same ?_;intro h₁ t₁ e1)
  refine⟨λb hb=>⟨(d.live b hb).1,lv' hL hs' b (d.live b hb).2⟩,d.dz,d.wz,by rw [List.length_set];exact d.len,⟨m,λy=>if y=x then Qf v else cm y,⟨⟨h',s.toks,by rw [e1]⟩,ic.ns.sameBut hs' hLc.symm,λb o e=>?_,λk b hb=>?_,ic.apart,ic.ne⟩,λj y av' e e'=>?_⟩,vs,?_,by show Reps (hid _ h') l vs.toList;rw [hs];exact hr⟩
  ·exact hs'.extBut b o (λq=>by rw [q,(d.live a (.inl (.tail _ hac))).1]at e;exact no1 e) (ic.keep b o e)
  ·by_cases hkx:k=x
   ·subst hkx
    rw [ha]at hb;(have q_:=oi hb;clear hb;subst q_)
    simpa using hc'
   ·rw [if_neg hkx]
    exact(ic.cell k b hb).sameBut hs' λe=>hkx (name_of_addr ic.apart (mem_of_lookup hb) (e▸mem_of_lookup ha))
  ·rcases vg e' with⟨rfl,e2⟩ | ⟨hne,e2⟩
   ·(have q_:=(oi e2).symm;clear e2;subst q_)
    have:y=x:=oi (e.symm.trans hi)
    subst this
    exact⟨v,by show Rep (hid _ h') av v;rw [hs];exact r,.inr ⟨hk,by simp,hc1,hc2⟩⟩
   ·(refine jc (lk j y av' e e2) ?_;intro u ru q)
    refine⟨u,by show Rep (hid _ h') av' u;rw [hs];exact ru,?_⟩
    have hyx:y≠x:=λq=>hne (vD S.nd hi (q▸e))
    rcases q with q | ⟨q1,q2,q3⟩
    ·exact .inl q
    ·exact .inr ⟨q1,by simp [hyx,q2],q3⟩
  ·exact hl.extBut hs'.extBut λe=>d.dz (e▸.tail _ hac)
theorem CmD.append{prog:QI}{w:Ql}{A:QO}{E:Qe}{Q:Qe}{av:AV}{v:Qm}(d:CmD c env own Z D W Y s₀ τ l s)(r:Rep (hid (c.X++Yh env Z D W Y) s.heap) av v)(hz:l.length<=Qt)
  (h:∀s',Gz [D] s s'->CmD c env own Z D W Y s₀ τ (l++[av]) s'->Q .none s'):Qo (model prog w) A (call (.builtin "list.append") [.ref D,v]) Q E s:=by
 (refine jn d.fr ?_;intro m cm ic lk)
 (refine jc d.acc ?_;intro vs hl hr)
 refine wpAny_list_append_plain hl (λh' hl' hs'=>h _ ⟨h',s.toks,rfl,λb o hb e=>hs'.extBut b o (λq=>hb (q▸.head _)) e⟩ ?_) (by rw [<-VZ,hr.length];exact hz)
 have hs:hid (c.X++Yh env Z D W Y) h'=hid (c.X++Yh env Z D W Y) s.heap:=jD λb hb=>hs'.2 b λe=>hb (mem_Yh.mpr (.inr (.inr (.inl e))))
 (refine jN ic.same ?_;intro h₁ t₁ e1)
 have n0:∀b o,s₀.heap.get? b=Qf o->b≠D:=λb o e q=>by rw [q,(d.live D (.inr (.inl rfl))).1]at e;exact no1 e
 refine⟨λb hb=>⟨(d.live b hb).1,?_⟩,d.dz,d.wz,d.len,⟨m,cm,⟨⟨h',s.toks,by rw [e1]⟩,ic.ns.sameBut hs' λe=>d.dz (e▸.head _),λb o e=>hs'.extBut b o (n0 b o e) (ic.keep b o e),
  λn a ha=>(ic.cell n a ha).sameBut hs' λe=>d.dz (e▸.tail _ (Qw.mpr ⟨(n,a),mem_of_lookup ha,rfl⟩)),ic.apart,ic.ne⟩,λi x av' e e'=>?_⟩,_,hl',?_⟩
 ·by_cases q:b=D
  ·(refine jd hl' ?_;intro n' ho);exact⟨_,q▸ho⟩
  ·(refine jd ((d.live b hb).2) ?_;intro o e);exact⟨o,hs'.extBut b o q e⟩
 ·(refine jc (lk i x av' e e') ?_;intro u ru q)
  exact⟨u,by show Rep (hid _ h') av' u;rw [hs];exact ru,q⟩
 ·show Reps (hid _ h') _ _
  rw [hs,Array.toList_push]
  exact hr.append (.cons r .nil)
end
noncomputable def cloF(env:Env):List (Qd×Ym)->List (Qd×Qk)->Option (List (Qd×Qk))
 | [],acc=>Qf acc
 | (n,k)::r,acc=>if k==.free then(match env.cells.lookup n with | some a=>cloF env r ((n,a)::acc) | none=>Qg)else cloF env r acc
theorem vl{env:Env}(f:Qd×Ym->List (Qd×Qk)->Sem (ForInStep (List (Qd×Qk))))
  (hf:∀n k acc,f (n,k) acc=if k==.free then(do pure (.yield ((n,<-cellOf env n)::acc)))else pure (.yield acc)):∀(names:List (Qd×Ym)) (acc cl:List (Qd×Qk)),cloF env names acc=Qf cl->(forIn names acc f:Sem _)=pure cl
 | [],acc,cl,h=>by(have q_:=oi h;clear h;subst q_);rfl
 | (n,k)::r,acc,cl,h=>by
  change ite _ _ _=_ at h
  rw [List.forIn_cons,hf]
  split at h
  ·rename_i hk
   rw [if_pos hk]
   split at h
   ·rename_i a ha
    have:cellOf env n=pure a:=by unfold cellOf;rw [ha]
    rw [this]
    exact vl f hf r _ cl h
   ·exact no1 h
  ·rename_i hk
   rw [if_neg hk]
   exact vl f hf r _ cl h
theorem qZ{scope:Scope}{env:Env}{cl:List (Qd×Qk)}(h:cloF env scope.names []=Qf cl):closureFor scope env=pure cl:=by
 unfold closureFor
 exact(congrArg (λm:Sem (List (Qd×Qk))=>m >>= λcs=>pure cs) (vl _ (λn k acc=>by cases hk:k==YZ<;>simp [hk]) scope.names [] cl h)).trans rfl
theorem yh{env:Env}:∀ {names:List (Qd×Ym)} {acc cl:List (Qd×Qk)},cloF env names acc=Qf cl->(∀p∈acc,env.cells.lookup p.1=Qf p.2)->∀p∈cl,env.cells.lookup p.1=Qf p.2
 | [],acc,cl,h,ha=>by(have q_:=oi h;clear h;subst q_);exact ha
 | (n,k)::r,acc,cl,h,ha=>by
  change ite _ _ _=_ at h
  split at h
  ·split at h
   ·rename_i a e
    refine yh h λp hp=>?_
    rcases Qb hp with rfl | hp
    ·exact e
    ·exact ha p hp
   ·exact no1 h
  ·exact yh h ha
theorem yi{env:Env}:∀ {names:List (Qd×Ym)} {acc cl:List (Qd×Qk)},cloF env names acc=Qf cl->(∀x,(∃p∈acc,p.1=x)∨(x,YZ)∈names->∃p∈cl,p.1=x)
 | [],acc,cl,h,x,hx=>by
  (have q_:=oi h;clear h;subst q_)
  rcases hx with hx | hx
  ·exact hx
  ·cases hx
 | (n,k)::r,acc,cl,h,x,hx=>by
  change ite _ _ _=_ at h
  split at h
  ·rename_i hk
   split at h
   ·rename_i a e
    refine yi h x ?_
    rcases hx with⟨p,hp,e⟩ | hx
    ·exact .inl ⟨p,.tail _ hp,e⟩
    ·rcases Qb hx with e | hx
     ·cases e;exact .inl ⟨_,.head _,rfl⟩
     ·exact .inr hx
   ·exact no1 h
  ·rename_i hk
   refine yi h x ?_
   rcases hx with hx | hx
   ·exact .inl hx
   ·rcases Qb hx with e | hx
    ·cases e;exact absurd rfl hk
    ·exact .inr hx
theorem xx{α:Type}:∀ {l:List (Qd×α)} {x:Qd},(∃p∈l,p.1=x)->∃a,l.lookup x=Qf a/\(x,a)∈l
 | [],x,⟨p,hp,_⟩=>nomatch hp
 | (n,b)::r,x,⟨p,hp,e⟩=>by
  rw [XX]
  cases hb:x==n with
  | true=>exact⟨b,rfl,by rw [beq_iff_eq.mp hb];exact .head _⟩
  | false =>
   rcases Qb hp with rfl | hp
   ·rw [<-e]at hb;simp at hb
   ·(refine jc (xx ⟨p,hp,e⟩) ?_;intro a h1 h2)
    exact⟨a,h1,.tail _ h2⟩
theorem km{α:Type}:∀ {l r:List (Qd×α)} {x:Qd},(∀p∈l,p.1≠x)->(l++r).lookup x=r.lookup x
 | [],_,_,_=>rfl
 | (n,b)::l,r,x,h=>by
  have:(x==n)=false:=beq_eq_false_iff_ne.mpr λe=>h _ (.head _) e.symm
  rw [VB,XX,this]
  exact km λp hp=>h p (.tail _ hp)
theorem kj{α:Type}:∀ {l r:List (Qd×α)} {x:Qd},(l.lookup x).isSome=true->(l++r).lookup x=l.lookup x
 | [],_,_,h=>by simp at h
 | (n,b)::l,r,x,h=>by
  rw [VB,XX,XX]
  rw [XX]at h
  cases hb:x==n with
  | true=>rfl
  | false=>rw [hb]at h;exact kj h
theorem jF:∀(names:List (Qd×Ym)) (n:Nat) (acc:List (Qd×Qk)),Vd n names acc=Vd n names []++acc
 | [],_,_=>rfl
 | (x,k)::r,n,acc=>by
  unfold Vd
  split
  ·rw [jF r (n+1) ((x,n)::acc),jF r (n+1) [(x,n)]];simp
  ·exact jF r n acc
theorem jA:∀ {names:List (Qd×Ym)} {n:Nat} {p:Qd×Qk},p∈Vd n names []->(p.1,NameKind.cell)∈names/\n<=p.2
 | [],_,_,h=>nomatch h
 | (x,k)::r,n,p,h=>by
  unfold Vd at h
  split at h
  ·rename_i hk
   rw [jF]at h
   rcases Qa h with h | h
   ·(refine jw (jA h) ?_;intro a b);exact⟨.tail _ a,by exact Vt ‹_›⟩
   ·obtain rfl:=Q9 h
    have:k=Ym.cell:=eq_of_beq hk
    exact⟨this▸.head _,Vr _⟩
  ·(refine jw (jA h) ?_;intro a b);exact⟨.tail _ a,b⟩
theorem jJ{α:Type}:∀ {l:List (Qd×α)} {x:Qd} {a:α},(l.map (·.1)).Nodup->(x,a)∈l->l.lookup x=Qf a
 | (n,b)::r,x,a,nd,h=>by
  rw [QP,Yi]at nd
  rw [XX]
  rcases Qb h with e | h
  ·cases e;simp
  ·have:(x==n)=false:=beq_eq_false_iff_ne.mpr λe=>nd.1 (e▸Qw.mpr ⟨(x,a),h,rfl⟩)
   rw [this];exact jJ nd.2 h
theorem jR{env:Env}:∀ {names:List (Qd×Ym)} {x:Qd} {k:Ym},names.lookup x=Qf k ->
  (names.map λ(n,k)=>if(k==YZ&&env.scope.kind==.function&&env.kindOf n==Qf .cell)then(n,NameKind.cell)else(n,k)).lookup x=Qf (if(k==YZ&&env.scope.kind==.function&&env.kindOf x==Qf .cell)then NameKind.cell else k)
 | [],_,_,h=>by simp at h
 | (n,k')::r,x,k,h=>by
  rw [QP,XX]at *
  cases hx:x==n with
  | true =>
   rw [hx]at h
   have hk:k'=k:=oi h
   subst hk
   obtain rfl:=beq_iff_eq.mp hx
   by_cases hc:(k'==YZ&&env.scope.kind==.function&&env.kindOf x==Qf .cell)=true
   ·simp only [hc,if_true,beq_self_eq_true]
   ·simp only [hc,Zd,if_false,beq_self_eq_true]
  | false =>
   rw [hx]at h
   by_cases hc:(k'==YZ&&env.scope.kind==.function&&env.kindOf n==Qf .cell)=true
   ·simp only [hc,if_true,hx];exact jR h
   ·simp only [hc,Zd,if_false,hx];exact jR h
noncomputable def cmOk(scope:Scope)(env:Env)(vars own:List Qd)(fr:List Nat):Bool :=
 decide own.Nodup&&decide (scope.names.map (·.1)).Nodup&&own.all (λx=>scope.names.lookup x==Qf .local||scope.names.lookup x==Qf .cell) &&
  fr.all (λi=>(vars[i]?).any λx=>scope.names.lookup x==Qf .free&&(env.kindOf x==Qf .cell||env.kindOf x==Qf .free))&&scope.kind==.function&&(cloF env scope.names []).isSome
noncomputable abbrev jT(c:Ct)(scope:Scope)(cl:List (Qd×Qk))(C:Qk):Env:=compEnvC scope (Vd (C+1) scope.names []++cl) C c.env
structure CmOk (c:Ct) (scope:Scope) (own:List Qd) (fr:List Nat) (cl:List (Qd×Qk)):Prop where
 hcl:cloF c.env scope.names []=Qf cl
 kind:scope.kind=.function
 nd:(scope.names.map (·.1)).Nodup
 S:∀C,CmS c (jT c scope cl C) own fr (Vd (C+1) scope.names [])
theorem CmOk.of{c:Ct}{scope:Scope}{own:List Qd}{fr:List Nat}(h:cmOk scope c.env c.vars own fr=true):CmOk c scope own fr ((cloF c.env scope.names []).getD []):=by
 simp only [cmOk,Vl,decide_eq_true_eq,VV,Yj,beq_iff_eq]at h
 (refine jw h ?_;clear h;rintro⟨⟨⟨⟨h1,h2⟩,h3⟩,h4⟩,h5⟩ h6)
 (refine jd (Vz.mp h6) ?_;intro cl hcl)
 rw [hcl]
 show CmOk c scope own fr cl
 refine⟨hcl,h5,h2,λC=>⟨h5,h1,λx hx=>?_,λi hi=>?_⟩⟩
 ·rcases h3 x hx with q | q
  ·exact .inl (lookup_relabel_local q)
  ·have hs:((Vd (C+1) scope.names []).lookup x).isSome=true:=XE _ _ _ (.inl q)
   exact .inr ⟨jR q,kj hs,hs⟩
 ·(refine jc ((Option.any_eq_true _ _).mp (h4 i hi)) ?_;intro x hx this)
  ·simp only [Vl,beq_iff_eq,Yj]at this
   (refine jw this ?_;intro q q')
   have hk:=jR (env:=c.env) q
   refine⟨x,hx,?_,?_,?_⟩
   ·rw [show(jT c scope cl C).kindOf x=_ from hk]
    split
    ·exact .inl rfl
    ·exact .inr rfl
   ·rcases q' with q' | q'<;>(rw [q'];decide)
   ·have hz:∀p∈Vd (C+1) scope.names [],p.1≠x:=λp hp e=>by
     have hm:=(jA hp).1
     rw [e]at hm
     have:=jJ h2 hm
     rw [q]at this;(have q_:=oi this;clear this;cases q_)
    show(Vd (C+1) scope.names []++cl).lookup x=_
    rw [km hz]
    (refine jc (xx (yi (by exact hcl) x (.inr (mem_of_lookup q)))) ?_;intro a e1 e2)
    rw [e1]
    exact(yh hcl (λ_ h=>nomatch h) _ e2).symm
section
variable {M:Model} {A:QO} {E:Qe} {s:Qi}
theorem zm{scope:Scope}{env:Env}{cl:List (Qd×Qk)}{Q:Env->Qi->Prop}
  (hQ:∀s',InC s s.heap.objs.size (λ_=>Qg) (Vd (s.heap.objs.size+1) scope.names []) (λ_=>Qg) s' ->
   Q { scope:=scope,locals:=s.heap.objs.size,globals:=env.globals,cells:=Vd (s.heap.objs.size+1) scope.names []++cl,qual:=env.qual,func:=Qg,code:=env.code,frame:=env.frame,builtins:=env.builtins } s') :
  Qo M A (newFunctionEnv scope env.globals cl [] env.qual Qg .none (Qf env)) Q E s:=by
 simp only [newFunctionEnv,Option.isSome_some,if_true]
 refine Qh (wpAny_alloc ?_)
 refine Qh (wpAny_layCells _ (λname kind cells=>by cases hkc:kind==NameKind.cell<;>simp [hkc]) _ _ _ _ ?_)
 have ok:=cellsFrom_ok scope.names (s.heap.push { cls:=.type "dict",data:=.dict #[] }) (s.heap.objs.size+1) [] ⟨λ_ _ hm=>(nomatch hm),List.Pairwise.nil⟩ (by rw [Xn];exact Vr _)
 rw [Xn]at ok
 rw [show({ s with heap:=s.heap.push { cls:=.type "dict",data:=.dict #[] } }:Qi).heap.objs.size=s.heap.objs.size+1 from Xn ..,jF]
 exact Qh (Qn (Qn (hQ _ ⟨⟨_,_,rfl⟩,(Heap.Ns.new s.heap (.type "dict")).keeps (pushCells_keeps _ _),λb o e=>pushCells_keeps _ _ b o (XN _ e),
  λn c hc=>(ok.empty n c (mem_of_lookup hc)).1,ok.apart,λn c hm=>Nat.ne_of_gt (ok.empty n c hm).2⟩)))
end
noncomputable abbrev Rest:=Qm->(Qi->Prop)->(Qe)->Qi->Prop
noncomputable def Jp(c:Ct)(env:Env)(e:Expr)(d:Nat)(tg:Expr)(R:Rest):Prop:=∀it acc (Q:Fin->Qi->Prop) E s,
 Qo c.M c.A (pyNext it) (λr s₁=>match r with
  | none=>Q (.done .next) s₁
  | some v=>Qo c.M c.A (YC tg it v) (λ_ s₂=>Qo c.M c.A (assign tg env v) (λ_ s₃=>R acc (λs₄=>Q (.again (.compLoop e d it acc env)) s₄) E s₃) E s₂) E s₁) E s ->
 Qo c.M c.A (compTurn e d it acc env) Q E s
section
variable {c:Ct} {env:Env} {own:List Qd} {fr:List Nat} {Z:List (Qd×Qk)}
noncomputable def CTg(c:Ct)(env:Env)(own:List Qd)(Z:List (Qd×Qk))(tg:Expr)(av:AV)(τ τ':List (Option AV)):Prop :=
 ∀(D:Qk) (W Y:List Qk) (s₀ s:Qi) (l:List AV) (E:Qe) (Q:Unit->Qi->Prop) (v:Qm),CmD c env own Z D W Y s₀ τ l s->Rep (hid (c.X++Yh env Z D W Y) s.heap) av v ->
  (∀s',Gz (Zh env Z) s s'->CmD c env own Z D W Y s₀ τ' l s'->Q () s')->Qo c.M c.A (assign tg env v) Q E s
theorem CTg.name(S:CmS c env own fr Z)(i:Nat){x:Qd}{pos:Pos}{av:AV}{τ:List (Option AV)}(hi:own[i]?=Qf x):CTg c env own Z (.Name x pos) av τ (τ.set i (Qf av)):=λD W Y s₀ s l E Q v d r h =>
 VX (d.store S hi r λs' g d'=>h s' g d')
noncomputable def CTn(c:Ct)(env:Env)(own:List Qd)(Z:List (Qd×Qk))(R:Rest)(τ:List (Option AV))(outs:List AV):Prop :=
 ∀(D:Qk) (W Y:List Qk) (s₀ s:Qi) (l:List AV) (K:Qi->Prop) (E:Qe),c.At Y s₀->CmD c env own Z D W Y s₀ τ l s->1<=s.toks->l.length+outs.length<=Qt ->
  (∀s',Gz (Zh env Z++[D]) s s'->CmD c env own Z D W Y s₀ τ (l++outs) s'->1<=s'.toks->K s')->R (.ref D) K E s
noncomputable def CL(c:Ct)(env:Env)(own:List Qd)(Z:List (Qd×Qk))(e:Expr)(d:Nat)(tg:Expr)(τ:List (Option AV))(xs outs:List AV):Prop :=
 ∀(D:Qk) (W' W Y:List Qk) (s₀ s:Qi) (I:Qk) (St:Nat->QU->Prop) (Mid:Nat->Qm->QU->Prop) (l:List AV) (R:Result->Qi->Prop),c.At Y s₀->(∀b∈W,b∉W')->CmD c env own Z D (W'++W) Y s₀ τ l s ->
  Itr c.prog c.w c.A tg (c.X++Yh env Z D (W'++W) Y) W' I xs St Mid->St 0 s.heap->1<=s.toks->l.length+outs.length<=Qt ->
  (∀s',Gz (Zh env Z++D::W') s s'->CmD c env own Z D W Y s₀ τ (l++outs) s'->1<=s'.toks->R (.ok .next) s')->Zq c.M c.A (.compLoop e d (.ref I) (.ref D) env) R s
noncomputable def Wk(τ τ':List (Option AV)):Prop:=τ.length=τ'.length/\∀(i:Nat) (av:AV),τ[i]?=Qf (Qf av)->τ'[i]?=Qf (Qf av)
noncomputable def PTs(c:Ct)(ifs:List Expr)(b:Bool):Prop:=∀ ⦃Y:List Qk⦄ (s:Qi) (E:Qe),c.At Y s ->
 Qo c.M c.A (forIn ifs true λe r=>if r=true then do let ok <-isTrue e c.env (eval e c.env);pure (ZE ok)else pure (ZE r)) (λr s'=>Vb s s'/\r=b) E s
theorem PTs.nil{c:Ct}:PTs c [] true:=λY s E x=>wpAny_tests_nil ⟨kU,rfl⟩
theorem PTs.one{c:Ct}{t:Expr}{b:Bool}(p:PT c t b):PTs c [t] b:=λY s E x=>wpAny_tests_one (p s E x)
noncomputable abbrev R1(c:Ct)(env:Env)(ifs:List Expr)(elt:Expr):Rest:=λacc K E s =>
 Qo c.M c.A (forIn ifs true λe r=>if r=true then do let ok <-isTrue e env (eval e env);pure (ZE ok)else pure (ZE r)) (λok s =>
  if ok=true then Qo c.M c.A (eval elt env) (λx s=>Qo c.M c.A (call (.builtin "list.append") [acc,x]) (λ_ s=>K s) E s) E s else K s) E s
theorem turn1{elt tg iter:Expr}{ifs:List Expr}{scope:Scope}{pos:Pos}:Jp c env (.ListComp elt [⟨tg,iter,ifs,0⟩] scope pos) 0 tg (R1 c env ifs elt):=λit acc Q E s h=>by
 rw [compTurn_list]
 refine Qh (VA (Qh (Qz h (λr s₁ h₁=>?_) λ_ _ y=>y)))
 cases r with
 | none=>exact Qn h₁
 | some v =>
  refine Qh (Qz h₁ (λ_ s₂ h₂=>Qh (Qz h₂ (λ_ s₃ h₃=>Qh (Qz h₃ (λok s₄ h₄=>?_) λ_ _ y=>y)) λ_ _ y=>y)) λ_ _ y=>y)
  cases ok with
  | false=>exact Qn h₄
  | true=>exact Qh (Qh (Qz h₄ (λx s₅ h₅=>Qh (Qz h₅ (λ_ s₆ h₆=>Qn (Qn h₆)) λ_ _ y=>y)) λ_ _ y=>y))
theorem yf(elt target iter:Expr)(ifs:List Expr)(g:XU)(scope:Scope)(pos:Pos)(it acc:Qm)(env:Env) :
  compTurn (.ListComp elt [g,⟨target,iter,ifs,0⟩] scope pos) 1 it acc env=(do
   Xy iter.pos
   match <-pyNext it with
   | none=>pure (.done .next)
   | some v =>
    YC target it v
    assign target env v
    let mut ok:=true
    for c in ifs do
     if ok then ok <-isTrue c env (eval c env)
    if ok then
     (do let _ <-call (.builtin "list.append") [acc,<-eval elt env])
    again (.compLoop (.ListComp elt [g,⟨target,iter,ifs,0⟩] scope pos) 1 it acc env)):=by rfl
theorem turn2b{elt tg iter:Expr}{ifs:List Expr}{g:XU}{scope:Scope}{pos:Pos}:Jp c env (.ListComp elt [g,⟨tg,iter,ifs,0⟩] scope pos) 1 tg (R1 c env ifs elt):=λit acc Q E s h=>by
 rw [yf]
 refine Qh (VA (Qh (Qz h (λr s₁ h₁=>?_) λ_ _ y=>y)))
 cases r with
 | none=>exact Qn h₁
 | some v =>
  refine Qh (Qz h₁ (λ_ s₂ h₂=>Qh (Qz h₂ (λ_ s₃ h₃=>Qh (Qz h₃ (λok s₄ h₄=>?_) λ_ _ y=>y)) λ_ _ y=>y)) λ_ _ y=>y)
  cases ok with
  | false=>exact Qn h₄
  | true=>exact Qh (Qh (Qz h₄ (λx s₅ h₅=>Qh (Qz h₅ (λ_ s₆ h₆=>Qn (Qn h₆)) λ_ _ y=>y)) λ_ _ y=>y))
noncomputable abbrev R2(c:Ct)(env:Env)(e iter':Expr):Rest:=λacc K E s =>
 Qo c.M c.A (eval iter' env) (λx s₁=>Qo c.M c.A (pyIter x) (λit s₂=>Zq c.M c.A (.compStart e 1 it acc env) (λr s'=>match r with | .ok _=>K s' | .error _=>False) s₂) E s₁) E s
theorem turn2a{elt tg iter tg' iter':Expr}{ifs':List Expr}{scope:Scope}{pos:Pos}(hs:∀x,QN iter' env x=pure x:=by intro _;rfl) :
  Jp c env (.ListComp elt [⟨tg,iter,[],0⟩,⟨tg',iter',ifs',0⟩] scope pos) 0 tg (R2 c env (.ListComp elt [⟨tg,iter,[],0⟩,⟨tg',iter',ifs',0⟩] scope pos) iter'):=λit acc Q E s h=>by
 have e0:compTurn (.ListComp elt [⟨tg,iter,[],0⟩,⟨tg',iter',ifs',0⟩] scope pos) 0 it acc env=(do
   Xy iter.pos
   match <-pyNext it with
   | none=>pure (.done .next)
   | some v =>
    YC tg it v
    assign tg env v
    let x <-eval iter' env
    Xy iter'.pos
    let x <-QN iter' env x
    let _ <-runOwn (.compStart (.ListComp elt [⟨tg,iter,[],0⟩,⟨tg',iter',ifs',0⟩] scope pos) 1 (<-Zz [x] (pyIter x)) acc env) env
    again (.compLoop (.ListComp elt [⟨tg,iter,[],0⟩,⟨tg',iter',ifs',0⟩] scope pos) 0 it acc env)):=by rfl
 rw [e0]
 refine Qh (VA (Qh (Qz h (λr s₁ h₁=>?_) λ_ _ y=>y)))
 cases r with
 | none=>exact Qn h₁
 | some v =>
  refine Qh (Qz h₁ (λ_ s₂ h₂=>Qh (Qz h₂ (λ_ s₃ h₃=>?_) λ_ _ y=>y)) λ_ _ y=>y)
  refine Qh (Qz h₃ (λx s₄ h₄=>?_) λ_ _ y=>y)
  refine Qh (VA (Qh (Vs (hs x) (Qh (QS (Qz h₄ (λit' s₅ h₅=>?_) λ_ _ y=>y))))))
  refine Qh (wpAny_runOwn (codeAny_mono (show Zq c.M c.A _ _ s₅ from h₅) λr s₆ h₆=>?_))
  cases r with
  | ok f=>exact Qn h₆
  | error x=>exact h₆.elim
theorem Jz{elt:Expr}{g0 g1:XU}{scope:Scope}{pos:Pos}{it acc:Qm}{R:Result->Qi->Prop}{s:Qi}(ha:g1.is_async=0)
  (h0:Zq c.M c.A (.compLoop (.ListComp elt [g0,g1] scope pos) 1 it acc env) R s)
  (h:Qo c.M c.A (pyIter it) (λit' s'=>Zq c.M c.A (.compLoop (.ListComp elt [g0,g1] scope pos) 1 it' acc env) R s') (notedBy c.M c.A env λx s'=>R (.error x) s') s) :
  Zq c.M c.A (.compStart (.ListComp elt [g0,g1] scope pos) 1 it acc env) R s:=by
 obtain⟨tg,iter,ifs,a⟩:=g1
 subst ha
 refine codeAny_of_tree ?_
 show Qo _ _ ((compStart (.ListComp elt [g0,⟨tg,iter,ifs,0⟩] scope pos) 1 it acc env).onRaise (λx=>do noteFrame x env;Xy theWindowsPlace)) _ _ s
 refine wpAny_notedAt ?_
 unfold compStart
 show Qo _ _ (ask >>= _) _ _ s
 refine Qh (wpAny_askSetting (wpAny_ite ?_))
 split
 ·first
   | exact Qh (Qn (Qn (And.intro rfl h0)))
   | exact Qn (And.intro rfl h0)
 ·first
   | exact Qh (wpAny_rule (Qh (VA (Qh (Qz h (λit' s' h'=>Qn (And.intro rfl h')) λ_ _ x=>x)))))
   | (refine Qh (wpAny_rule ?_);show Qo _ _ (Xy iter.pos >>= _) _ _ s;exact Qh (VA (Qh (Qz h (λit' s' h'=>Qn (And.intro rfl h')) λ_ _ x=>x))))
theorem CTn.one(S:CmS c env own fr Z){τ:List (Option AV)}{ifs:List Expr}{elt:Expr}{b:Bool}{o:AV}(t:PTs (v8 c env own fr τ) ifs b)(p:b=true->PE (v8 c env own fr τ) elt o):CTn c env own Z (R1 c env ifs elt) τ (if b then [o]else []):=λD W Y s₀ s l K E a d ht hz hK=>by
 refine QB (n:=1) ht (Qz (t s _ (d.at S a ht)) (λok s₁ ⟨k,e⟩ ht₁=>?_) λ_ _ y=>y)
 subst e
 have d₁:=d.keeps k
 cases ok with
 | false=>exact hK s₁ (.of k) (by simpa using d₁) ht₁
 | true =>
  refine(p rfl).use (d₁.at S a ht₁) λv s₂ k₂ x₂ r=>?_
  refine QB (n:=1) x₂.tk ((d₁.keeps k₂).append r (by have:l.length+1<=sizeLine:=hz;exact Vt ‹_›) λs₃ g d₃ ht₃=>hK s₃ ?_ d₃ ht₃)
  exact(Gz.of (ktr k k₂)).trans (g.sub λb hb=>Q7 _ hb)
theorem CmD.hide{D:Qk}{W' W Y:List Qk}{s₀ s s':Qi}{τ:List (Option AV)}{l:List AV}(d:CmD c env own Z D W Y s₀ τ l s)(k:Vb s s')(hW:∀b∈W',s.heap.get? b=Qg/\∃o,s'.heap.get? b=Qf o):CmD c env own Z D (W'++W) Y s₀ τ l s':=by
 have d₁:=d.keeps k
 (refine jn d₁.fr ?_;intro m cm ic _)
 (refine jn d.fr ?_;intro m' cm' ic' lk)
 (refine jc d.acc ?_;intro vs hl hr)
 have nw:∀ {b o},s.heap.get? b=Qf o->b∉W':=λ{b o} e m=>by rw [(hW b m).1]at e;exact no1 e
 have le:Le (hid (c.X++Yh env Z D W Y) s.heap) (hid (c.X++Yh env Z D (W'++W) Y) s'.heap):=λb o e=>by
  have e1:=j9 e
  refine jl (jr k _ _ e1) λm=>?_
  have n:b∉c.X++Yh env Z D W Y:=λm=>by unfold hid at e;rw [if_pos m]at e;exact no1 e
  rcases mem_Yh.mp m with m | m | m | m
  ·exact n (mem_Yh.mpr (.inl m))
  ·exact n (mem_Yh.mpr (.inr (.inl m)))
  ·exact n (mem_Yh.mpr (.inr (.inr (.inl m))))
  ·rcases Qa m with m | m
   ·exact nw e1 m
   ·exact n (mem_Yh.mpr (.inr (.inr (.inr m))))
 have n0:∀b∈W',s₀.heap.get? b=none:=λb hb=>by
  cases e:s₀.heap.get? b with
  | none=>rfl
  | some o=>exact absurd hb (nw (jr d.keep b o e))
 refine⟨λb hb=>?_,d.dz,λb hb=>?_,d.len,⟨m',cm',⟨ic.same,ic'.ns.keeps (jr k),ic.keep,λn a e=>(ic'.cell n a e).keeps (jr k),ic'.apart,ic'.ne⟩,λi x av e e'=>?_⟩,vs,?_,hr.mono le⟩
 ·rcases hb with hb | hb | hb
  ·exact d₁.live b (.inl hb)
  ·exact d₁.live b (.inr (.inl hb))
  ·rcases Qa hb with hb | hb
   ·exact⟨n0 b hb,(hW b hb).2⟩
   ·exact d₁.live b (.inr (.inr hb))
 ·rcases Qa hb with hb | hb
  ·refine⟨λq=>?_,λq=>?_⟩
   ·(refine jd ((d.live b (.inl q)).2) ?_;intro o e);exact nw e hb
   ·(refine jd ((d.live b (.inr (.inl q))).2) ?_;intro o e);exact nw e hb
  ·exact d.wz b hb
 ·(refine jc (lk i x av e e') ?_;intro v r q)
  exact⟨v,r.mono le,q⟩
 ·exact hl.at λo e=>jr k _ o e
theorem okH_Yh{c:Ct}{env:Env}{Z:List (Qd×Qk)}{D:Qk}{W W' Y:List Qk}{h:QU}:okH (c.X++Yh env Z D W Y) W' h (c.X++Yh env Z D (W'++W) Y):=by
 refine⟨λx hx=>mem_Yh.mpr ?_,λx hx=>?_⟩
 ·rcases hx with hx | hx
  ·rcases mem_Yh.mp hx with m | m | m | m
   ·exact .inl m
   ·exact .inr (.inl m)
   ·exact .inr (.inr (.inl m))
   ·exact .inr (.inr (.inr (Q7 _ m)))
  ·exact .inr (.inr (.inr (Q8 _ hx)))
 ·rcases mem_Yh.mp hx with m | m | m | m
  ·exact .inl (mem_Yh.mpr (.inl m))
  ·exact .inl (mem_Yh.mpr (.inr (.inl m)))
  ·exact .inl (mem_Yh.mpr (.inr (.inr (.inl m))))
  ·rcases Qa m with m | m
   ·exact .inr (.inl m)
   ·exact .inl (mem_Yh.mpr (.inr (.inr (.inr m))))
theorem CTn.two(S:CmS c env own fr Z){τ:List (Option AV)}{elt tg iter tg' iter':Expr}{ifs':List Expr}{scope:Scope}{pos:Pos}{xs outs:List AV}(p:PI (v8 c env own fr τ) tg' iter' xs)
  (q:CL c env own Z (.ListComp elt [⟨tg,iter,[],0⟩,⟨tg',iter',ifs',0⟩] scope pos) 1 tg' τ xs outs):CTn c env own Z (R2 c env (.ListComp elt [⟨tg,iter,[],0⟩,⟨tg',iter',ifs',0⟩] scope pos) iter') τ outs:=λD W Y s₀ s l K E a d ht hz hK=>by
 refine p s E _ (d.at S a ht) λI W' St Mid s' k hW hI ht'=>?_
 (refine jw (hI (c.X++Yh env Z D (W'++W) Y) okH_Yh) ?_;intro it st0)
 have d':=d.hide k hW
 have loop:Zq c.M c.A (.compLoop (.ListComp elt [⟨tg,iter,[],0⟩,⟨tg',iter',ifs',0⟩] scope pos) 1 (.ref I) (.ref D) env) (λr s'=>match r with | .ok _=>K s' | .error _=>False) s':=by
  refine q D W' W Y s₀ s' I _ _ l _ a (λb hb m=>?_) d' it st0 ht' hz λs₁ g d₁ ht₁=>?_
  ·(refine jd ((d.live b (.inr (.inr hb))).2) ?_;intro o e)
   rw [(hW b m).1]at e;exact no1 e
  ·refine hK s₁ ?_ d₁ ht₁
   (refine jn k ?_;clear k;rintro h t rfl kk)
   (refine jn g ?_;clear g;rintro h' t' rfl kk')
   refine⟨h',t',rfl,λb o n e=>kk' b o (λm=>?_) (kk b o e)⟩
   rcases Qa m with m | m
   ·exact n (Q8 _ m)
   ·rcases Qb m with m | m
    ·exact n (Q7 _ (m▸.head _))
    ·rw [(hW b m).1]at e;exact no1 e
 exact Jz rfl loop (it.self 0 s' _ _ st0 loop)
end
theorem kg:∀ {l:List (Qd×Ym)} {n:Nat},(l.map (·.1)).Nodup->((Vd n l []).map (·.1)).Nodup
 | [],_,_=>Zo
 | (x,kk)::r,n,hn=>by
  rw [QP,Yi]at hn
  unfold Vd
  split
  ·rw [jF,Va]
   refine Xa.mpr ⟨kg hn.2,by simp,λa ha b hb=>?_⟩
   obtain rfl:=Q9 hb
   (refine jc (Qw.mp ha) ?_;rintro q hq rfl)
   exact λe=>hn.1 (Qw.mpr ⟨_,(jA hq).1,e⟩)
  ·exact kg hn.2
section
variable {c:Ct} {own:List Qd} {fr:List Nat}
noncomputable def PIa(c:Ct)(tg e:Expr)(xs:List AV)(Y:List Qk)(s:Qi):Prop:=∀(E:Qe) (Q:Qe),
 (∀I W (St:List Qk->Nat->QU->Prop) (Mid:List Qk->Nat->Qm->QU->Prop) s',Vb s s'->(∀b∈W,s.heap.get? b=Qg/\∃o,s'.heap.get? b=Qf o)->(∀H',okH (c.X++Y) W s'.heap H'->Itr c.prog c.w c.A tg H' W I xs (St H') (Mid H')/\St H' 0 s'.heap)->1<=s'.toks->Q (.ref I) s') ->
 Qo c.M c.A (eval e c.env) (λx s₁=>Qo c.M c.A (pyIter x) Q E s₁) E s
noncomputable abbrev KZ(s:Qi):Shared:={ s with toks:=s.toks+1 }
theorem Jt{s s':Qi}(k:Vb s s'):Vb (KZ s) s':=let ⟨h,t,e,q⟩:=k;⟨h,t,e,q⟩
theorem vr{s s':Qi}(k:Vb (KZ s) s'):Vb s s':=let ⟨h,t,e,q⟩:=k;⟨h,t,e,q⟩
theorem xF{elt tg iter:Expr}{ifs:List Expr}{gs:List XU}{scope:Scope}{pos:Pos}{cl:List (Qd×Qk)}{xs outs:List AV}(ok:CmOk c scope own fr cl)
  (lp:∀C,CL c (jT c scope cl C) own (Vd (C+1) scope.names []) (.ListComp elt (⟨tg,iter,ifs,0⟩::gs) scope pos) 0 tg (own.map λ_=>Qg) xs outs) (hz:outs.length<=Qt)
  (hs:∀x,QN iter c.env x=pure x) (use:Option (Qm->Sem Unit)) {pos':Pos} {Y:List Qk} {s:Qi} {E:Qe} {Q:Qe} (p:PIa c tg iter xs Y s) (x₀:c.At Y (KZ s))
  (h:∀D C s₁,1<=s₁.toks->Vb s s₁->s.heap.get? C=Qg->s.heap.get? D=Qg->D≠C->(∃m,s₁.heap.Ns C m)->(∃H vs,(∀b,b∈c.X++Y∨b=C∨b=D->b∈H)/\s₁.heap.PlainList D vs/\Reps (hid H s₁.heap) outs vs.toList) ->
   match use with
   | none=>∀h',V9 C s₁.heap h'->Q (.ref D) { s₁ with heap:=h' }
   | some u=>Qo c.M c.A (u (.ref D)) (λ_ s''=>∃m,s''.heap.Ns C m/\∀h',V9 C s''.heap h'->Q .none { s'' with heap:=h' }) E s₁) :
  Qo c.M c.A (comprehension (.ListComp elt (⟨tg,iter,ifs,0⟩::gs) scope pos) scope c.env pos' (newList []) false (eval iter c.env) use) Q E s:=by
 refine wpAny_comprehension_free rfl hs (qZ ok.hcl) ok.kind (λx hx hl=>jJ ok.nd (by rw [<-hl];exact hx)) ?_
 refine p E _ λI W St Mid s₂ k hW hI ht₂=>?_
 refine V1 ?_ (Vj _)
 refine QB (n:=1) (by exact ht₂) (zm λs₄ ic ht₄=>?_)
 generalize hs3:({ s₂ with heap:=s₂.heap.push { cls:=.type "list",dict:=Qg,data:=.seq ([]:List Qm).toArray } }:Qi)=s₃ at ic ⊢
 have kD:Vb s₂ s₃:=hs3▸ja j7
 have hD:s₃.heap.get? s₂.heap.objs.size=Qf { cls:=.type "list",dict:=Qg,data:=.seq ([]:List Qm).toArray }:=by subst hs3;exact Qs _ rfl
 have hC:s₃.heap.objs.size=s₂.heap.objs.size+1:=by subst hs3;exact Xn ..
 have k34:Vb s₃ s₄:=by(refine jN ic.same ?_;rintro h' tk rfl);exact⟨h',tk,rfl,ic.keep⟩
 have k4:Vb s s₄:=ktr k (ktr kD k34)
 have zge:∀b∈Zh (jT c scope cl s₃.heap.objs.size) (Vd (s₃.heap.objs.size+1) scope.names []),s₂.heap.objs.size<b:=λb hb=>by
  rcases Qb hb with rfl | hb
  ·show s₂.heap.objs.size<s₃.heap.objs.size;exact XO (Eq.symm ‹_›)
  ·(refine jc (Qw.mp hb) ?_;rintro q hq rfl)
   have:=(jA hq).2;lia
 have dead:∀b,s₂.heap.objs.size<=b->s.heap.get? b=none:=λb hb=>by
  cases e:s.heap.get? b with
  | none=>rfl
  | some o=>exact absurd (Vo (jr k _ _ e)) (VS.mpr hb)
 have wlt:∀b∈W,b<s₂.heap.objs.size:=λb hb=>let ⟨o,e⟩:=(hW b hb).2;Vo e
 have zl:∀b∈Zh (jT c scope cl s₃.heap.objs.size) (Vd (s₃.heap.objs.size+1) scope.names []),∃o,s₄.heap.get? b=Qf o:=λb hb=>by
  rcases Qb hb with rfl | hb
  ·(refine yY ic.ns ?_;intro o _ _ e _);exact⟨o,e⟩
  ·(refine jc (Qw.mp hb) ?_;rintro⟨n,a⟩ hq rfl)
   (refine jc (ic.cell _ _ (jJ (kg ok.nd) hq)) ?_;intro o e _);exact⟨o,e⟩
 have d:CmD c (jT c scope cl s₃.heap.objs.size) own (Vd (s₃.heap.objs.size+1) scope.names []) s₂.heap.objs.size (W++[]) Y (KZ s) (own.map λ_=>Qg) [] s₄:=by
  refine⟨λb hb=>?_,λhm=>XT _ (zge _ hm),λb hb=>?_,(Qy _),⟨_,_,⟨let ⟨h,t,e,_⟩:=Jt k4;⟨h,t,e⟩,ic.ns,jr k4,ic.cell,ic.apart,ic.ne⟩,λi x av e e'=>?_⟩,#[],⟨_,jr k34 _ _ hD⟩,.nil⟩
  ·rcases hb with hb | rfl | hb
   ·exact⟨dead b (Vt (zge b hb)),zl b hb⟩
   ·exact⟨dead _ (Vr _),_,jr k34 _ _ hD⟩
   ·rw [Yk]at hb
    (refine jd ((hW b hb).2) ?_;intro o e)
    exact⟨(hW b hb).1,o,jr (ktr kD k34) _ _ e⟩
  ·rw [Yk]at hb
   have:=wlt b hb
   exact⟨λhm=>Nat.lt_asymm this (zge b hm),QR this⟩
  ·rw [Qx]at e'
   cases q:own[i]? with
   | none=>rw [q]at e';cases e'
   | some u=>rw [q]at e';(have q_:=oi e';clear e';cases q_)
 obtain⟨it,st0⟩:=hI (c.X++Yh (jT c scope cl s₃.heap.objs.size) (Vd (s₃.heap.objs.size+1) scope.names []) s₂.heap.objs.size (W++[]) Y) ⟨λb hb=>mem_Yh.mpr (by
  rcases hb with hb | hb
  ·exact .inl hb
  ·exact .inr (.inr (.inr (Q8 _ hb)))),λb hb=>by
  rcases mem_Yh.mp hb with m | m | m | m
  ·exact .inl m
  ·exact .inr (.inr (X5 (Vt (zge b m))))
  ·exact .inr (.inr (X5 (XO m.symm)))
  ·rw [Yk]at m;exact .inr (.inl m)⟩
 have st4:=it.frame 0 s₂.heap s₄.heap st0 (ju (jr (ktr kD k34))) λb hb o e=>jr (ktr kD k34) b o e
 have loop:Zq c.M c.A (.compLoop (.ListComp elt (⟨tg,iter,ifs,0⟩::gs) scope pos) 0 (.ref I) (.ref s₂.heap.objs.size) (jT c scope cl s₃.heap.objs.size)) (compPost c.M c.A E use Q (.ref s₂.heap.objs.size) s₃.heap.objs.size) s₄:=by
  refine lp s₃.heap.objs.size s₂.heap.objs.size W [] Y (KZ s) s₄ I _ _ [] _ x₀ (λ_ h=>nomatch h) d it st4 ht₄ (by simpa using hz) λs₅ g d₅ ht₅=>?_
  (refine jn d₅.fr ?_;intro m cm ic₅ _)
  (refine jc d₅.acc ?_;intro vs hl hr)
  have hq:=h s₂.heap.objs.size s₃.heap.objs.size s₅ ht₅ (vr d₅.keep) (dead _ (Vt (zge _ (.head _)))) (dead _ (Vr _)) (QR (zge _ (.head _))) ⟨m,ic₅.ns⟩ ⟨_,vs,λb hb=>mem_Yh.mpr (by
   rcases hb with hb | rfl | rfl
   ·exact .inl hb
   ·exact .inr (.inl (.head _))
   ·exact .inr (.inr (.inl rfl))),hl,hr⟩
  cases use with
  | none=>exact⟨m,ic₅.ns,hq⟩
  | some u=>exact hq
 exact codeAny_compStart_list loop (it.self 0 s₄ _ _ st4 loop)
theorem yS{elt tg iter:Expr}{ifs:List Expr}{gs:List XU}{scope:Scope}{pos:Pos}{cl:List (Qd×Qk)}{xs outs:List AV}(ok:CmOk c scope own fr cl)(p:PI c tg iter xs)
  (lp:∀C,CL c (jT c scope cl C) own (Vd (C+1) scope.names []) (.ListComp elt (⟨tg,iter,ifs,0⟩::gs) scope pos) 0 tg (own.map λ_=>Qg) xs outs) (hz:outs.length<=Qt)
  (hs:∀x,QN iter c.env x=pure x) (use:Option (Qm->Sem Unit)) {pos':Pos} {Y:List Qk} {s:Qi} {E:Qe} {Q:Qe} (x₀:c.At Y s)
  (h:∀D C s₁,Vb s s₁->s.heap.get? C=Qg->s.heap.get? D=Qg->D≠C->(∃m,s₁.heap.Ns C m)->(∃H vs,(∀b,b∈c.X++Y∨b=C∨b=D->b∈H)/\s₁.heap.PlainList D vs/\Reps (hid H s₁.heap) outs vs.toList) ->
   match use with
   | none=>∀h',V9 C s₁.heap h'->Q (.ref D) { s₁ with heap:=h' }
   | some u=>Qo c.M c.A (u (.ref D)) (λ_ s''=>∃m,s''.heap.Ns C m/\∀h',V9 C s''.heap h'->Q .none { s'' with heap:=h' }) E s₁) :
  Qo c.M c.A (comprehension (.ListComp elt (⟨tg,iter,ifs,0⟩::gs) scope pos) scope c.env pos' (newList []) false (eval iter c.env) use) Q E s :=
 xF ok lp hz hs use (λE Q k=>p s E Q x₀ k) (Ct.At.mono (s:=s) (s':=KZ s) (Y:=Y) (c:=c) (λ_ _ e=>e) x₀ (Vn _)) λD C s₁ _=>h D C s₁
theorem PE.comp{elt tg iter:Expr}{ifs:List Expr}{gs:List XU}{scope:Scope}{pos:Pos}{cl:List (Qd×Qk)}{xs outs:List AV}(ok:CmOk c scope own fr cl)(p:PI c tg iter xs)
  (lp:∀C,CL c (jT c scope cl C) own (Vd (C+1) scope.names []) (.ListComp elt (⟨tg,iter,ifs,0⟩::gs) scope pos) 0 tg (own.map λ_=>Qg) xs outs) (hz:outs.length<=sizeLine:=by decide)
  (hs:∀x,QN iter c.env x=pure x:=by intro _;rfl):PE c (.ListComp elt (⟨tg,iter,ifs,0⟩::gs) scope pos) (.list outs):=λY s E x=>by
 rw [eval_ListComp]
 refine yS ok p lp hz hs Qg x λD C s₁ k hC hD hne _ ⟨H,vs,hH,hl,hr⟩ h' hs'=>?_
 have kk:Vb s { s₁ with heap:=h' }:=by
  (refine jn k ?_;clear k;rintro h t rfl kk)
  exact⟨h',t,rfl,λb o e=>hs'.extBut b o (λq=>by rw [q,hC]at e;exact no1 e) (kk b o e)⟩
 have nD:∀ {b o},s.heap.get? b=Qf o->b≠D:=λ{b o} e q=>by rw [q,hD]at e;exact no1 e
 refine⟨kk,?_⟩
 (refine jd hl ?_;intro n ho)
 show Exists _
 refine⟨D,vs,n,rfl,jl (hs'.extBut D _ hne ho) (λm=>?_),?_⟩
 ·(refine jd (x.live D m) ?_;intro o' e);rw [hD]at e;exact no1 e
 ·have e1:hid H h'=hid H s₁.heap:=jD λb hb=>hs'.2 b λq=>hb (hH b (.inr (.inl q)))
  have:=hr.mono (show Le (hid H s₁.heap) (hid (c.X++Y) h')from λb o e=>jE (λb hb=>hH b (.inl hb)) b o (by rw [e1];exact e))
  exact this
theorem X1.comp{P:Out->Prop}(V:Vars c)(i:Nat){x:Qd}{px:Pos}{elt tg iter:Expr}{ifs:List Expr}{gs:List XU}{scope:Scope}{pos sp:Pos}{cl:List (Qd×Qk)}{xs outs:List AV}(ok:CmOk c scope own fr cl)(p:PI c tg iter xs)
  (lp:∀C,CL c (jT c scope cl C) own (Vd (C+1) scope.names []) (.ListComp elt (⟨tg,iter,ifs,0⟩::gs) scope pos) 0 tg (own.map λ_=>Qg) xs outs) (hi:c.vars[i]?=Qf x) (h:P (.nx c.X (c.σ.set i (Qf (.list outs))))) (hz:outs.length<=sizeLine:=by decide)
  (hs:∀x,QN iter c.env x=pure x:=by intro _;rfl) (hsw:VU (.ListComp elt (⟨tg,iter,ifs,0⟩::gs) scope pos) (Qf (.Name x px)) sp.line c.env=pure true:=by rfl):X1 c (.Assign [.Name x px] (.ListComp elt (⟨tg,iter,ifs,0⟩::gs) scope pos) sp) P:=λYc s₀ s E ht f=>by
 rw [exec_Assign_Name_used _ _ _ _ hsw]
 refine Qh (VA (Qh ?_))
 show Qo _ _ (comprehension _ _ _ _ _ _ _ _ >>= λ_=>pure ()) _ _ _
 refine Qh (yS ok p lp hz hs (Qf _) (f.at ht) λD C s₁ k hC hD hne hns ⟨H,vs,hH,hl,hr⟩=>?_)
 have f₁:Fm c ([C]++Yc) s₀ s₁:=f.hide k λb hb=>by
  obtain rfl:=Q9 hb
  (refine JL hns ?_;intro m o _ _ e _)
  exact⟨hC,o,e⟩
 have sub:∀b∈c.X++c.Yf ([C]++Yc),b∈c.X++c.Yf Yc∨b=C:=λb hb=>by
  simp only [XH,Ct.Yf,QD,QG,or_false]at hb ⊢
  rcases hb with h | h | h | h | h
  ·exact .inl (.inl h)
  ·exact .inl (.inr (.inl h))
  ·exact .inl (.inr (.inr (.inl h)))
  ·exact .inr h
  ·exact .inl (.inr (.inr (.inr h)))
 (refine jd hl ?_;intro n ho)
 have rv:Rep (hid (c.X++c.Yf ([C]++Yc)) s₁.heap) (.list outs) (.ref D):=by
  show Exists _
  refine⟨D,vs,n,rfl,jl ho λm=>?_,hr.mono (jE λb hb=>hH b ?_)⟩
  ·rcases sub D m with m | m
   ·(refine jd (f.live D m) ?_;intro o' e);rw [hD]at e;exact no1 e
   ·exact hne m
  ·rcases sub b hb with m | m
   ·exact .inl m
   ·exact .inr (.inl m)
 refine VX (f₁.store V hi (.of rv) λs₂ g f₂=>?_)
 (refine jd hns ?_;intro m hm)
 have nC:C∉Own c:=ku f hC
 refine⟨m,hm.at' λo e=>g.get' C o nC e,λh' hs'=>Qn (Qn ?_)⟩
 have fe:Fm (c.st i (.list outs)) Yc s₀ { s₂ with heap:=h' }:=Fm.off (tk₁:=s₂.toks) f (λb hb=>by obtain rfl:=Q9 hb;exact hC) f₂ λb o hb e=>hs'.extBut b o (λq=>hb (Y2.mpr q)) e
 refine⟨?_,c.X,_,h,λ_ h=>.inl h,fe⟩
 have g₂:Grow c s s₂:=(Grow.of k).trans (X:=c.X) (σ:=c.σ) (λ_ h=>.inl h) g
 (refine jn g₂ ?_;clear g₂;rintro h₂ t₂ rfl kk)
 exact⟨h',t₂,rfl,λb o hb e=>hs'.extBut b o (λq=>by rw [q,hC]at e;exact no1 e) (kk b o hb e)⟩
end
theorem vN(slice:Expr)(o i:Qm):∃l,subscripted slice false o i=operate l (getItem o i):=by
 cases slice with
 | Slice a b c d=>cases c<;>exact⟨_,rfl⟩
 | _=>exact⟨_,rfl⟩
theorem qu{prog:QI}{w:Ql}{A:QO}{env:Env}{value slice:Expr}{pos:Pos}{T id:String}{E:Qe}{Q:Qe}{s:Qi}(hl:Xo (.type T) "__getitem__"=pure (Qf (.builtin id)))
  (h:Qo (model prog w) A (eval value env) (λo s₁=>Qo (model prog w) A (eval slice env) (λi s₂=>s₂.TypeIs o T/\Qo (model prog w) A (getItem o i) Q E s₂) E s₁) E s):Qo (model prog w) A (eval (.Subscript value slice pos) env) Q E s:=by
 refine Subscript_ (Qz h (λo s₁ h₁=>Qz h₁ (λi s₂ h₂=>?_) λ_ _ y=>y) λ_ _ y=>y)
 (refine jw h₂ ?_;intro hT hg)
 unfold subscriptTail
 refine Qh ?_
 rw [getitemInPython_of_ne hT.not_modules]
 refine Qh (QW hT hl ?_)
 (refine jd (vN slice o i) ?_;intro l e)
 have fin:Qo (model prog w) A (subscripted slice false o i) (λr s₃=>Qo (model prog w) A (YM value o r >>= λ_=>pure r) Q E s₃) E s₂:=by
  rw [e]
  exact wpAny_operating (Qz hg (λr s₃ h₃=>Qh (wpAny_letTemporaryGo (Qn h₃))) λ_ _ x=>x)
 first
  | exact Qn (Qh fin)
  | exact Qh (Qn (Qh fin))
  | exact Qh fin
section
variable {c:Ct}
noncomputable def PSq(c:Ct)(e:Expr)(T:String)(l:List AV):Prop:=∀ ⦃Y:List Qk⦄ (s:Qi) (E:Qe) (Q:Qe),c.At Y s ->
 (∀a vs s',Vb s s'->c.At Y s'->(∃o n,s'.heap.get? a=Qf o/\o.cls=.type T/\o.data=.seq vs n)->Reps (hid (c.X++Y) s'.heap) l vs.toList->Q (.ref a) s')->Qo c.M c.A (eval e c.env) Q E s
theorem PSq.list{e:Expr}{l:List AV}(p:PE c e (.list l)):PSq c e "list" l:=λY s E Q x h=>p.use x λv s₁ k x₁ r=>by
 (refine xl (qN r) ?_;rintro a o vs n rfl ho hc hd hr)
 exact h a vs s₁ k x₁ ⟨o,n,j9 ho,hc,hd⟩ hr
theorem PSq.tup{e:Expr}{l:List AV}(p:PE c e (.tup l)):PSq c e "tuple" l:=λY s E Q x h=>p.use x λv s₁ k x₁ r=>by
 (refine xl (kJ r) ?_;rintro a o vs n rfl ho hc hd hr)
 exact h a vs s₁ k x₁ ⟨o,n,j9 ho,hc,hd⟩ hr
theorem K9(i:Nat){x:Qd}{k:Nat}{l:List AV}{pos:Pos}(hk:c.env.scope.kind=.function)(hi:c.vars[i]?=Qf x)(hs:c.σ[i]?=Qf (Qf (.own k l)))(hd:(x==("__debug__" : Qd))=false)(hcd:(x==("__classdict__" : Qd))=false)
  {Y:List Qk} {s:Qi} {E:Qe} {Q:Qe} (y:c.At Y s) (h:∀v,RepO c.X Y s.heap (.own k l) v->Q v s):Qo c.M c.A (eval (.Name x pos) c.env) Q E s:=by
 refine wpAny_Name ?_ hd
 rcases y.look i x _ hi hs with⟨a,m,v,b,e,d⟩ | ⟨a,cc,v,b,e,d⟩
 ·exact wpAny_loadName_local hk a b e (h v d)
 ·rcases a with a | a
  ·exact wpAny_loadName_cell hk a b e (h v d)
  ·exact wpAny_loadName_free hk a b e (h v d) hcd
theorem PSq.own(i:Nat){x:Qd}{k:Nat}{l:List AV}{pos:Pos}(hk:c.env.scope.kind=.function)(hi:c.vars[i]?=Qf x)(hs:c.σ[i]?=Qf (Qf (.own k l)))(hd:(x==("__debug__" : Qd))=false)(hcd:(x==("__classdict__" : Qd))=false):PSq c (.Name x pos) "list" l:=λY s E Q y h =>
 K9 i hk hi hs hd hcd y λv r=>by
  (refine Jx r.asOwn ?_;rintro a vs n rfl _ ho hr)
  exact h a vs s kU y ⟨_,n,ho,rfl,rfl⟩ hr
theorem PE.itemL{e f:Expr}{pos:Pos}{l:List AV}{i:Int}{av:AV}(p:PSq c e "list" l)(q:PE c f (.int i))(j:Nat)(hj:(if i<0 then i+l.length else i)=j)(hx:l[j]?=Qf av)(hb:-(2^63)<=i/\i<2^63):PE c (.Subscript e f pos) av:=λY s E x =>
 qu slot_list_getitem.lookup (p s E _ x λa vs s₁ k₁ x₁ ho hr=>q.use x₁ λu s₂ k₂ x₂ ru=>by
  (refine jW ho ?_;intro o n h1 h2 h3)
  (refine jd (jk ru) ?_;rintro t rfl)
  have hL:s₂.heap.IsList a vs:=⟨o,jr k₂ _ _ h1,h2,n,h3⟩
  (refine jc (hr.get hx) ?_;intro v hv rv)
  rw [Vi]at hv
  have hlen:vs.size=l.length:=by rw [<-hr.length];simp
  refine⟨hL.typeIs,?_⟩
  by_cases h0:i<0
  ·rw [if_pos h0]at hj
   have:j<vs.size:=(Array.getElem?_eq_some_iff.mp hv).1
   exact wpAny_getItem_list_neg hL h0 (by lia) hb.1 (by rw [hlen,hj];exact hv) ⟨ktr k₁ k₂,rv.mono (ju (jr k₂))⟩
  ·rw [if_neg h0]at hj
   exact wpAny_getItem_list hL (by exact Int.not_lt.mp ‹_›) hb.2 (by rw [hj];exact hv) ⟨ktr k₁ k₂,rv.mono (ju (jr k₂))⟩)
theorem PE.itemT{e f:Expr}{pos:Pos}{l:List AV}{i:Int}{av:AV}(p:PSq c e "tuple" l)(q:PE c f (.int i))(j:Nat)(hj:(if i<0 then i+l.length else i)=j)(hx:l[j]?=Qf av)(hb:-(2^63)<=i/\i<2^63):PE c (.Subscript e f pos) av:=λY s E x =>
 qu slot_tuple_getitem.lookup (p s E _ x λa vs s₁ k₁ x₁ ho hr=>q.use x₁ λu s₂ k₂ x₂ ru=>by
  (refine jW ho ?_;intro o n h1 h2 h3)
  (refine jd (jk ru) ?_;rintro t rfl)
  have hL:s₂.heap.IsTuple a vs:=⟨o,jr k₂ _ _ h1,h2,n,h3⟩
  (refine jc (hr.get hx) ?_;intro v hv rv)
  rw [Vi]at hv
  have hlen:vs.size=l.length:=by rw [<-hr.length];simp
  have hjl:j<vs.size:=(Array.getElem?_eq_some_iff.mp hv).1
  refine⟨hL.typeIs,PyProof.Rows.getItem_tuple hL hb.1 hb.2 (j:=j) ?_ hv ⟨ktr k₁ k₂,rv.mono (ju (jr k₂))⟩⟩
  by_cases h0:i<0
  ·rw [if_pos h0]at hj
   rw [seqIndex_neg h0 (by lia),hlen,hj];rfl
  ·rw [if_neg h0]at hj
   unfold seqIndex?
   simp only [h0,if_false]
   rw [if_pos (by simp only [Vl,decide_eq_true_eq];lia),hj];rfl)
inductive PP (c:Ct):Option Expr->Option Int->Prop
 | none:PP c Qg Qg
 | some {e:Expr} {i:Int}:PE c e (.int i)->PP c (Qf e) (Qf i)
theorem PP.use{o:Option Expr}{i:Option Int}(p:PP c o i){Y:List Qk}{s:Qi}{E:Qe}{Q:Qe}(x:c.At Y s)(h:∀v s',Vb s s'->c.At Y s'->IsPart v i->Q v s'):Qo c.M c.A (evalPart o c.env) Q E s:=by
 cases p with
 | none=>exact evalPart_none_step (h _ s kU x .none)
 | some p=>exact evalPart_some_step (p.use x λv s₁ k x₁ r=>by(refine jd (jk r) ?_;rintro t rfl);exact h _ s₁ k x₁ (.int _ _))
noncomputable def qA(l:List AV)(lo hi:Option Int):List AV:=(YN (Vg lo hi Qg l.length).1 (Vg lo hi Qg l.length).2.1 (Vg lo hi Qg l.length).2.2).filterMap (l[·]?)
theorem Reps.pick{g:Lk}{l:List AV}{vs:List Qm}(h:Reps g l vs):∀is:List Nat,Reps g (is.filterMap (l[·]?)) (is.filterMap (vs[·]?))
 | []=>.nil
 | i::r=>by
  rw [YY,YY]
  cases e:l[i]? with
  | none =>
   have:vs[i]?=none:=by rw [YV]at e ⊢;rw [h.length];exact e
   rw [this];exact h.pick r
  | some a =>
   (refine jc (h.get e) ?_;intro v hv rv)
   rw [hv];exact .cons rv (h.pick r)
theorem PE.sliceL{e:Expr}{lo hi:Option Expr}{p pos:Pos}{l:List AV}{i j:Option Int}(q:PSq c e "list" l)(qi:PP c lo i)(qj:PP c hi j)(hz:l.length<=Qt):PE c (.Subscript e (.Slice lo hi Qg p) pos) (.list (qA l i j)):=λY s E x =>
 qu slot_list_getitem.lookup (q s E _ x λa vs s₁ k₁ x₁ ho hr=>wpAny_Slice (qi.use x₁ λvi s₂ k₂ x₂ pi=>qj.use x₂ λvj s₃ k₃ x₃ pj=>by
  rw [evalPart_none]
  refine Qn ?_
  (refine jW ho ?_;intro o n h1 h2 h3)
  have hL:s₃.heap.IsList a vs:=⟨o,jr (ktr k₂ k₃) _ _ h1,h2,n,h3⟩
  have hlen:vs.size=l.length:=by rw [<-hr.length];simp
  refine⟨(hL.push _).typeIs,wpAny_getItem_list_slice (hL.push _) (Heap.IsSliceOf.new ..) pi pj .none (by decide) ?_ (hlen▸hz)⟩
  have kk:Vb s₃ { s₃ with heap:=(s₃.heap.push { cls:=.type "slice",data:=.fields #[vi,vj,.none] }).push { cls:=.type "list",data:=.seq (Zx vs i j Qg) } }:=ja λb o e=>j7 b o (j7 b o e)
  have lv:∀z∈c.X++Y,∃o,(s₃.heap.push { cls:=.type "slice",data:=.fields #[vi,vj,.none] }).get? z=Qf o:=λz hz=>((x₃.live z hz).imp λo e=>j7 _ _ e)
  refine⟨ktr k₁ (ktr k₂ (ktr k₃ kk)),?_⟩
  show Exists _
  refine⟨_,Zx vs i j Qg,0,rfl,kx lv rfl,?_⟩
  have:=(hr.mono (ju (jr (ktr k₂ (ktr k₃ kk))))).pick (YN (Vg i j Qg l.length).1 (Vg i j Qg l.length).2.1 (Vg i j Qg l.length).2.2)
  have e:(Zx vs i j Qg).toList=(YN (Vg i j Qg l.length).1 (Vg i j Qg l.length).2.1 (Vg i j Qg l.length).2.2).filterMap (vs.toList[·]?):=by
   unfold Zx;rw [hlen];simp
  rw [e];exact this))
end
theorem vm{l:List AV}{i j:Option Int}{a b:Nat}(hb:Vg i j Qg l.length=((a:Int),(b:Int),1)):qA l i j=(l.take b).drop a:=by
 unfold qA
 rw [hb]
 show(YN a b 1).filterMap (l[·]?)=_
 rw [sliceRange_one]
 apply List.ext_getElem?
 intro k
 rw [List.getElem?_drop,List.getElem?_take]
 have key:∀(n a:Nat) (l:List AV) (k:Nat),(((Qj n).map (a+·)).filterMap (l[·]?))[k]?=if k<n then l[a+k]? else none:=by
  intro n
  induction n with
  | zero=>intro a l k;simp
  | succ n ih =>
   intro a l k
   rw [List.range_succ_eq_map,QP,Xp,YY]
   cases e:l[a+0]? with
   | none =>
    have hn:l.length<=a:=by rw [YV]at e;assumption
    have all:∀k,l[a+k]?=none:=λk=>by rw [YV];lia
    have e2:((Qj n).map ((a+·) ∘ Nat.succ)).filterMap (l[·]?)=[]:=by
     rw [List.filterMap_eq_nil_iff]
     intro x hx
     (refine jc (Qw.mp hx) ?_;rintro m _ rfl)
     exact all _
    rw [e2];simp [all]
   | some v =>
    cases k with
    | zero=>simpa using e.symm
    | succ k =>
     rw [List.getElem?_cons_succ]
     have:((a+·) ∘ Nat.succ)=((a+1)+·):=by funext m;simp;exact zr33
     rw [this,ih (a+1) l k]
     simp only [Nat.add_lt_add_iff_right]
     congr 2;exact Nat.add_right_comm _ _ _
 rw [key]
 by_cases h:a+k<b
 ·rw [if_pos (by exact zr27 ‹_›),if_pos h]
 ·rw [if_neg (by exact zr36 ‹_›),if_neg h]
section
variable {c:Ct} {P:Out->Prop}
theorem X1.while{test:Expr}{body:List XM}{pos:Pos}(J:Nat->List (Option AV)->Prop)(n₀:Nat)(h0:J n₀ c.σ)
  (step:∀n σ,J n σ->∃b,PT (c.up c.X σ) test b/\(b=true->XS (c.up c.X σ) body (λo=>match o with
   | .nx X σ'=>X=c.X/\∃m,m<n/\J m σ'
   | .ct X σ'=>X=c.X/\∃m,m<n/\J m σ'
   | .br X σ'=>P (.nx X σ')
   | .rt av=>P (.rt av)))/\(b=false->P (.nx c.X σ))):X1 c (.While test body [] pos) P:=λYc s₀ s E ht f=>by
 refine wpAny_While (codeAny_whileLoop (λn s₁=>∃σ,J n σ/\Grow c s s₁/\Fm (c.up c.X σ) Yc s₀ s₁/\1<=s₁.toks) ?_ n₀ ⟨c.σ,h0,.of kU,f,ht⟩)
 (intro n s₁ q_;refine e1_4 q_ ?_;intro σ j g fm ht₁)
 (refine ye (step n σ j) ?_;intro b pt hb hf)
 refine pt.use (c:=c.up c.X σ) (fm.at ht₁) λs₂ k x₂=>?_
 have g₂:Grow c s s₂:=Grow.trans (c:=c) (X:=c.X) (σ:=c.σ) (λ_ h=>.inl h) g (.of k)
 cases b with
 | false =>
  exact Vm ⟨g₂,c.X,σ,hf rfl,λ_ h=>.inl h,fm.keeps k⟩
 | true =>
  refine QB (n:=1) x₂.tk (Qz (hb rfl s₀ s₂ _ x₂.tk (fm.keeps k)) (λfl s₃ p ht₃=>?_) λ_ _ y=>y)
  (refine jw (Post.trans (c:=c) (X:=c.X) (σ:=σ) g₂ (λ_ h=>.inl h) p) ?_;intro g₃ q)
  cases fl with
  | next=>(refine jn q ?_;clear q;rintro X σ' ⟨rfl,m,hm,j'⟩ st);exact⟨m,hm,σ',j',g₃,st.2,ht₃⟩
  | cont=>(refine jn q ?_;clear q;rintro X σ' ⟨rfl,m,hm,j'⟩ st);exact⟨m,hm,σ',j',g₃,st.2,ht₃⟩
  | brk=>(refine jn q ?_;intro X σ' p st);exact⟨g₃,X,σ',p,st⟩
  | ret v=>(refine jc q ?_;intro av p q);exact⟨g₃,av,p,q⟩
theorem X1.break{pos:Pos}(h:P (.br c.X c.σ)):X1 c (.Break pos) P:=λYc s₀ s E ht f=>by
 rw [arm_exec_Break]
 exact Qh (VA (Qn ⟨.of kU,c.X,c.σ,h,.rfl' f⟩))
theorem RepO.grow{X Y:List Qk}{h:QU}{o:Obj}{av:AV}{v:Qm}(lv:∀z∈X++Y,∃o,h.get? z=Qf o)(r:RepO X Y h av v):RepO (X++[h.objs.size]) Y (h.push o) av v:=by
 have le:Le (hid (X++Y) h) (hid (X++[h.objs.size]++Y) (h.push o)):=λb ob e=>by
  have e1:=j9 e
  refine jl (j7 _ _ e1) λm=>?_
  have n:b∉X++Y:=λm=>by unfold hid at e;rw [if_pos m]at e;exact no1 e
  rcases Qa m with m | m
  ·rcases Qa m with m | m
   ·exact n (Q8 _ m)
   ·obtain rfl:=Q9 m
    rw [jm]at e1;exact no1 e1
  ·exact n (Q7 _ m)
 exact r.to le λp _ a o' e1 e2=>⟨by rw [V5 (QT.mp e1).1];exact e1,j7 _ _ e2⟩
theorem Fm.take{Yc:List Qk}{s₀ s:Qi}{vs:List Qm}{l:List AV}(f:Fm c Yc s₀ s)(hr:Reps (hid (c.X++c.Yf Yc) s.heap) l vs) :
  Fm (c.up (c.X++[s.heap.objs.size]) c.σ) Yc s₀ { s with heap:=s.heap.push { cls:=.type "list",data:=.seq vs.toArray } } /\
  RepO (c.X++[s.heap.objs.size]) (c.Yf Yc) (s.heap.push { cls:=.type "list",data:=.seq vs.toArray }) (.own c.X.length l) (.ref s.heap.objs.size):=by
 (refine jn f.fr ?_;intro m cm ic lk)
 have lv:=f.live
 have kk:Vb s { s with heap:=s.heap.push { cls:=.type "list",data:=.seq vs.toArray } }:=ja j7
 have nL:∀y∈c.Yf Yc,y≠s.heap.objs.size:=λy hy e=>by
  (refine jd (lv y (Q7 _ hy)) ?_;intro o ho)
  rw [e,jm]at ho;exact no1 ho
 have le:Le (hid (c.X++c.Yf Yc) s.heap) (hid (c.X++[s.heap.objs.size]++c.Yf Yc) (s.heap.push { cls:=.type "list",data:=.seq vs.toArray })):=λb ob e=>by
  have e1:=j9 e
  refine jl (j7 _ _ e1) λm=>?_
  have n:b∉c.X++c.Yf Yc:=λm=>by unfold hid at e;rw [if_pos m]at e;exact no1 e
  rcases Qa m with m | m
  ·rcases Qa m with m | m
   ·exact n (Q8 _ m)
   ·obtain rfl:=Q9 m
    rw [jm]at e1;exact no1 e1
  ·exact n (Q7 _ m)
 have new:(s.heap.push { cls:=.type "list",data:=.seq vs.toArray }).get? s.heap.objs.size=Qf { cls:=.type "list",data:=.seq vs.toArray }:=Qs _ rfl
 have fk:=f.keeps kk
 refine⟨⟨f.base,fk.old,λx hx=>?_,?_,f.cnd,f.kind,m,cm,kQ ic kk,λi x av e e'=>?_⟩,?_⟩
 ·rcases Qa hx with hx | hx
  ·exact fk.own x hx
  ·obtain rfl:=Q9 hx
   refine⟨?_,λe=>nL _ (.head _) e.symm,λe=>nL _ (.tail _ (Q8 _ e)) rfl,_,new⟩
   (refine yY ic.toInCall.ns ?_;intro o _ _ ho _)
   exact Qp ic.toInCall.fresh (Vt (Vo ho))
 ·refine⟨Xa.mpr ⟨f.nodup.1,by simp,λa ha b hb=>?_⟩,λx hx m=>?_⟩
  ·obtain rfl:=Q9 hb
   intro e;subst e
   (refine jd (lv _ (Q8 _ ha)) ?_;intro o ho)
   rw [jm]at ho;exact no1 ho
  ·rcases Qa hx with hx | hx
   ·exact f.nodup.2 x hx m
   ·obtain rfl:=Q9 hx
    exact nL _ (.tail _ (Q7 _ m)) rfl
 ·(refine jc (lk i x av e e') ?_;intro v r q)
  exact⟨v,r.grow lv,q⟩
 ·exact .ofOwn (vs:=vs.toArray) (n:=0) (by simp) new (hr.mono le)
theorem X1.own(V:Vars c)(i:Nat){x:Qd}{pos' pos lp:Pos}{es:List Expr}{l:List AV}(hi:c.vars[i]?=Qf x)(p:PEs c es l)(hz:l.length<=Qt)(h:∀a,P (.nx (c.X++[a]) (c.σ.set i (Qf (.own c.X.length l)))))
  (hs:VU (.List es lp) (Qf (.Name x pos')) pos.line c.env=pure false:=by rfl):X1 c (.Assign [.Name x pos'] (.List es lp) pos) P:=λYc s₀ s E ht f =>
 X4 (List_ (Qz (p (c.Yf Yc) s E (f.at ht)) (λvs s₁ ⟨k,r⟩=>V1 (by
  (refine jw ((f.keeps k).take r) ?_;intro f₁ ro)
  refine f₁.store (c:=c.up (c.X++[s₁.heap.objs.size]) c.σ) ⟨V.nd,V.kd⟩ hi ro λs₂ g f₂=>?_
  have hX:∀x∈c.X++[s₁.heap.objs.size],x∈c.X∨s.heap.get? x=none:=λx hx=>by
   rcases Qa hx with hx | hx
   ·exact .inl hx
   ·obtain rfl:=Q9 hx
    right
    cases e:s.heap.get? s₁.heap.objs.size with
    | none=>rfl
    | some o=>have:=jr k _ _ e;rw [jm]at this;exact no1 this
  exact⟨(Grow.of (ktr k (ja j7))).trans (X:=c.X++[s₁.heap.objs.size]) (σ:=c.σ) hX g,_,_,h _,hX,f₂⟩) (by show vs.toArray.size<=Qt;rw [Vk,r.length];exact hz)) λ_ _ y=>y)) hs
noncomputable def qR(k:Nat):Option AV->Bool
 | some av=>(match av.sp with
  | some p=>!(p.1==k)
  | none=>true)
 | none=>true
theorem Kc{l:List Qk}(nd:l.Nodup){i j:Nat}{a:Qk}(hi:l[i]?=Qf a)(hj:l[j]?=Qf a):i=j:=by
 (refine jd (QT.mp hi) ?_;intro h1 e1)
 (refine jd (QT.mp hj) ?_;intro h2 e2)
 exact(List.getElem_inj nd).mp (e1.trans e2.symm)
theorem Fm.putG{Yc:List Qk}{s₀ s:Qi}(f:Fm c Yc s₀ s){i:Nat}{p:Nat×Sh×List AV}{av av':AV}{a:Qk}{h':QU}{tk:Nat}(hs:c.σ[i]?=Qf (Qf av))(hsp:av.sp=Qf p)(hX:c.X[p.1]?=Qf a)
  (lva:∃o,h'.get? a=Qf o) (hsb:V9 a s.heap h') (new:∀v,RepO c.X (c.Yf Yc) s.heap av v->RepO c.X (c.Yf Yc) h' av' v) (hn:(c.σ.set i Qg).all (qR p.1)=true) :
  Fm (c.st i av') Yc s₀ { s with heap:=h',toks:=tk }/\Grow c s { s with heap:=h',toks:=tk }:=by
 (refine jn f.fr ?_;intro m cm ic lk)
 have mX:a∈c.X:=QE hX
 have oa:=f.own a mX
 have same:hid (c.X++c.Yf Yc) h'=hid (c.X++c.Yf Yc) s.heap:=jD λb hb=>hsb.2 b λe=>hb (e▸Q8 _ mX)
 have lv:∀ {b},(∃o,s.heap.get? b=Qf o)->∃o,h'.get? b=Qf o:=λ{b} ⟨o,e⟩=>by
  by_cases q:b=a
  ·exact q▸lva
  ·exact⟨o,hsb.extBut b o q e⟩
 (refine jN ic.toInCall.same ?_;intro h₁ t₁ e1)
 refine⟨⟨f.base,λy hy=>lv (f.old y hy),λy hy=>⟨(f.own y hy).1,(f.own y hy).2.1,(f.own y hy).2.2.1,lv (f.own y hy).2.2.2⟩,f.nodup,f.cnd,f.kind,m,cm,
  ⟨⟨⟨h',tk,by rw [e1]⟩,ic.toInCall.ns.sameBut hsb oa.2.1.symm,λb ob e=>hsb.extBut b ob (λq=>?_) (ic.toInCall.keep b ob e),ic.toInCall.fresh⟩,λn z hz=>(ic.cell n z hz).sameBut hsb λe=>oa.2.2.1 (Qw.mpr ⟨(n,z),mem_of_lookup hz,e⟩),ic.apart,ic.above⟩,λj y avj e e'=>?_⟩,
  ⟨h',tk,rfl,λb ob hb e=>hsb.extBut b ob (λq=>hb (Q8 _ (q▸mX))) e⟩⟩
 ·have:=Vo e;rw [q]at this;exact absurd oa.1 (Nat.not_le.mpr this)
 ·rcases vg e' with⟨rfl,e2⟩ | ⟨hne,e2⟩
  ·(have q_:=oi e2;clear e2;subst q_)
   (refine jc (lk i y _ e hs) ?_;intro v r q)
   exact⟨v,new v r,q⟩
  ·(refine jc (lk j y avj e e2) ?_;intro v r q)
   refine⟨v,r.to (λb o e=>by show hid _ h' b=Qf o;rw [same];exact e) λp' hp a' o' e1 e3=>⟨e1,hsb.extBut a' o' (λe=>?_) e3⟩,q⟩
   rw [VV]at hn
   have:=hn (Qf avj) (QE (i:=j) (by rw [List.getElem?_set_ne hne];exact e2))
   simp only [qR,hp,Zp,beq_eq_false_iff_ne]at this
   exact this (Kc f.nodup.1 (e▸e1) hX)
theorem Fm.put{Yc:List Qk}{s₀ s:Qi}(f:Fm c Yc s₀ s){i k:Nat}{l l':List AV}{a:Qk}{vs':Array Qm}{n':Nat}{h':QU}{tk:Nat}(hs:c.σ[i]?=Qf (Qf (.own k l)))(hX:c.X[k]?=Qf a)
  (ha:h'.get? a=Qf { cls:=.type "list",data:=.seq vs' n' }) (hsb:V9 a s.heap h') (hr:Reps (hid (c.X++c.Yf Yc) s.heap) l' vs'.toList) (hn:(c.σ.set i Qg).all (qR k)=true) :
  Fm (c.st i (.own k l')) Yc s₀ { s with heap:=h',toks:=tk }/\Grow c s { s with heap:=h',toks:=tk } :=
 f.putG hs rfl hX ⟨_,ha⟩ hsb (λv r=>by
  (refine JM r.asOwn ?_;rintro a' vs n rfl hX' _)
  obtain rfl:a=a':=oi (hX.symm.trans hX')
  refine .ofOwn hX ha ?_
  have:hid (c.X++c.Yf Yc) h'=hid (c.X++c.Yf Yc) s.heap:=jD λb hb=>hsb.2 b λe=>hb (e▸Q8 _ (QE hX))
  rw [this];exact hr) hn
theorem X1.append(i:Nat){x:Qd}{k:Nat}{l:List AV}{av:AV}{e:Expr}{np apos cpos epos:Pos}(hk:c.env.scope.kind=.function)(hi:c.vars[i]?=Qf x)(hs:c.σ[i]?=Qf (Qf (.own k l)))(hd:(x==("__debug__" : Qd))=false)(hcd:(x==("__classdict__" : Qd))=false)
  (p:PE c e av) (hz:l.length<=Qt) (hn:(c.σ.set i Qg).all (qR k)=true) (h:P (.nx c.X (c.σ.set i (Qf (.own k (l++[av]))))))
  (hst:Qv [e] c.env=[(false,eval e c.env)]:=by rfl) (hbase:Vp (.Name x np) "append" c.env (eval (.Name x np) c.env)=eval (.Name x np) c.env:=by rfl) (hline:(apos.endLine==cpos.line)=true:=by rfl)
  (hint:Zg c.env=false:=by rfl) (hsw:VU (.Call (.Attribute (.Name x np) "append" apos) [e] [] cpos) Qg epos.line c.env=pure false:=by rfl) :
  X1 c (.Expr (.Call (.Attribute (.Name x np) "append" apos) [e] [] cpos) epos) P:=λYc s₀ s E ht f =>
 wpAny_Expr_any (Call_method1 hbase hst hline (K9 i hk hi hs hd hcd (f.at ht) λv r=>by
  (refine Jx r.asOwn ?_;rintro a vs n rfl hX ho hr)
  refine⟨"list","list.append",F.plainAttrs_list,F.slot_list_append,type_list_append,⟨_,ho,rfl⟩,λa' e=>?_,?_⟩
  ·cases e;exact⟨_,ho,rfl⟩
  refine Xm rfl (je rfl (Qq (p.use (f.at ht) λv s₁ k₁ x₁ r₁=>QK ?_)))
  refine wpAny_list_append_plain (l:=a) (items:=vs) ⟨n,jr k₁ _ _ ho⟩ (λh' hl hsb=>?_) (by rw [<-VZ,hr.length];exact hz)
  (refine jd hl ?_;intro n' hl)
  have f₁:=f.keeps k₁
  (refine jw (f₁.put (tk:=s₁.toks) (l':=l++[av]) hs hX hl hsb (by rw [Array.toList_push];exact(hr.mono (ju (jr k₁))).append (.cons r₁ .nil)) hn) ?_;intro f₂ g₂)
  exact⟨(Grow.of k₁).trans (X:=c.X) (σ:=c.σ) (λ_ h=>.inl h) g₂,c.X,_,h,λ_ h=>.inl h,f₂⟩)) hint hsw
theorem XS.free{X':List Qk}{a:Qk}{i:Nat}{l:List AV}{body:List XM}(hX:c.X=X'++[a])(hs:c.σ[i]?=Qf (Qf (.own X'.length l)))(hn:(c.σ.set i Qg).all (qR X'.length)=true)
  (h:XS (c.up X' (c.σ.set i (Qf (.list l)))) body P):XS c body P:=λYc s₀ s E ht f=>by
 have le:Le (hid (c.X++c.Yf Yc) s.heap) (hid (X'++c.Yf Yc) s.heap):=jE λb hb=>by
  rw [hX]
  rcases Qa hb with m | m
  ·exact Q8 _ (Q8 _ m)
  ·exact Q7 _ m
 have sub:∀b∈X',b∈c.X:=λb hb=>hX▸Q8 _ hb
 have F:Fm (c.up X' (c.σ.set i (Qf (.list l)))) Yc s₀ s:=by
  (refine jn f.fr ?_;intro m cm ic lk)
  have aX:a∈c.X:=hX▸Q7 _ (.head _)
  refine⟨f.base,f.old,λx hx=>f.own x (sub x hx),?_,f.cnd,f.kind,m,cm,ic,λj x av e e'=>?_⟩
  ·have:=f.nodup.1;rw [hX]at this;exact⟨(Xa.mp this).1,λx hx=>f.nodup.2 x (sub x hx)⟩
  ·rcases vg e' with⟨rfl,e2⟩ | ⟨hne,e2⟩
   ·(have q_:=oi e2;clear e2;subst q_)
    (refine jc (lk i x _ e hs) ?_;intro v r q)
    (refine Jx r.asOwn ?_;rintro a' vs n rfl hX' ho hr)
    obtain rfl:a=a':=by rw [hX]at hX';simpa using hX'
    refine⟨_,?_,q⟩
    show Rep _ _ _
    show Exists _
    refine⟨a,vs,n,rfl,jl ho λm=>?_,hr.mono le⟩
    rcases Qa m with m | m
    ·have:=f.nodup.1;rw [hX]at this
     exact(Xa.mp this).2.2 a m a (.head _) rfl
    ·rcases Qb m with m | m
     ·exact(f.own a aX).2.1 m
     ·rcases Qa m with m | m
      ·exact(f.own a aX).2.2.1 m
      ·exact f.nodup.2 a aX m
   ·(refine jc (lk j x av e e2) ?_;intro v r q)
    refine⟨v,?_,q⟩
    refine r.to le λp hp a' o' e1 e3=>⟨?_,e3⟩
    rw [VV]at hn
    have kn:=hn (Qf av) (QE (i:=j) (by rw [List.getElem?_set_ne hne];exact e2))
    simp only [qR,hp,Zp,beq_eq_false_iff_ne]at kn
    have:_<c.X.length:=(QT.mp e1).1
    rw [hX,QC,X2]at this
    rw [hX,V5 (by exact zr5 ‹_› ‹_›)]at e1;exact e1
 refine Qz (h s₀ s E ht F) (λfl s₁ p=>?_) λ_ _ y=>y
 (refine jw p ?_;clear p;rintro⟨h',tk,rfl,kk⟩ q)
 have own:∀b,b∉Own c->b∉Own (c.up X' (c.σ.set i (Qf (.list l)))):=λb hb m=>hb (by
  unfold Own at m ⊢
  rcases Qa m with m | m
  ·exact Q8 _ (sub b m)
  ·exact Q7 _ m)
 refine⟨⟨h',tk,rfl,λb o hb e=>kk b o (own b hb) e⟩,?_⟩
 cases fl with
 | next=>(refine jn q ?_;intro X σ p st);exact⟨X,σ,p,λx hx=>(st.1 x hx).imp (sub x) id,st.2⟩
 | brk=>(refine jn q ?_;intro X σ p st);exact⟨X,σ,p,λx hx=>(st.1 x hx).imp (sub x) id,st.2⟩
 | cont=>(refine jn q ?_;intro X σ p st);exact⟨X,σ,p,λx hx=>(st.1 x hx).imp (sub x) id,st.2⟩
 | ret v=>exact q
end
noncomputable abbrev iL(l:List Int):List AV:=l.map .int
theorem Reps.asInts{g:Lk}:∀ {l:List Int} {vs:List Qm},Reps g (iL l) vs->∃xs:List (Int×Tok),vs=xs.map (λp=>.int p.1 p.2)/\xs.map (·.1)=l
 | [],_,h=>⟨[],h,rfl⟩
 | i::l,_,h=>by
  (refine jW h ?_;clear h;rintro v vs' rfl h1 h2)
  (refine jd (jk h1) ?_;rintro t rfl)
  (refine jc (Reps.asInts h2) ?_;rintro xs rfl rfl)
  exact⟨(i,t)::xs,rfl,rfl⟩
theorem qH{vs:Array Qm}{xs:List (Int×Tok)}(h:vs.toList=xs.map (λp=>.int p.1 p.2)):vs=intItems xs.toArray:=by
 apply Array.toList_inj.mp;rw [h];simp [intItems]
section
variable {c:Ct}
theorem PE.neg{e:Expr}{pos:Pos}{i:Int}(p:PE c e (.int i)):PE c (.UnaryOp .USub e pos) (.int (-i)):=λY s E x =>
 UnaryOp_ (p.use x λv s₁ k x₁ r=>by
  (refine jd (jk r) ?_;rintro t rfl)
  exact PyProof.Rows.neg_int ⟨ktr k jh,v7⟩)
theorem PE.addL{e f:Expr}{pos:Pos}{l l':List AV}(p:PSq c e "list" l)(q:PSq c f "list" l')(hz:l.length+l'.length<=Qt):PE c (.BinOp e .Add f pos) (.list (l++l')):=λY s E x =>
 wpAny_BinOp (p s E _ x λa vs s₁ k₁ x₁ ho hr=>q s₁ E _ x₁ λb ws s₂ k₂ x₂ ho' hr'=>by
  (refine jW ho ?_;clear ho;rintro⟨cls,dd,dt,sl⟩ n h1 h2 h3)
  (refine jW ho' ?_;clear ho';rintro⟨cls',dd',dt',sl'⟩ n' h1' h2' h3')
  simp only at h2 h3 h2' h3'
  subst h2 h3 h2' h3'
  have e1:=jr k₂ _ _ h1
  refine concat_meets ⟨_,e1,rfl⟩ ⟨_,h1',rfl⟩ noFill_list_add seq_list_add PySem.F.slot_list_add PySem.F.entry_list_add (PySem.F.args_list_add_2 _ _) (list_addW a b vs ws n n' dd dd' sl sl' ?_) ⟨e1,h1',?_⟩
  ·rw [<-VZ,<-VZ,hr.length,hr'.length];exact hz
  ·refine⟨ktr k₁ (ktr k₂ (ja j7)),?_⟩
   show Exists _
   refine⟨_,vs++ws,0,rfl,kx x₂.live rfl,?_⟩
   rw [XJ]
   exact(hr.mono (ju (jr (ktr k₂ (ja j7))))).append (hr'.mono (ju j7)))
theorem Reps.rep{g:Lk}{l:List AV}{vs:List Qm}(h:Reps g l vs):∀k:Nat,Reps g (Qr k l).flatten (Qr k vs).flatten
 | 0=>.nil
 | k+1=>by rw [QZ,QZ,VC,VC];exact h.append (h.rep k)
theorem yN(vs:Array Qm):∀(k:Nat) (a:Array Qm),(List.foldl (λx1 x2=>x1++x2) a (Qr k vs)).toList=a.toList++(Qr k vs.toList).flatten
 | 0,a=>by simp
 | k+1,a=>by rw [QZ,List.foldl_cons,yN vs k];simp [QZ]
theorem PE.repL{es:List Expr}{r:Expr}{lp pos:Pos}{l:List AV}{n:Int}(p:PEs c es l)(q:PE c r (.int n))(hlo:-(2^63:Int)<=n)(hhi:n<2^63)(hl:l.length<=Qt)(hz:l.length*n.toNat<=2^24):PE c (.BinOp (.List es lp) .Mult r pos) (.list (Qr n.toNat l).flatten):=λY s E x =>
 wpAny_BinOp (List_ (p.use x λvs s₁ k x₁ r=>V1 (by
  have k₁:Vb s₁ { s₁ with heap:=s₁.heap.push { cls:=.type "list",data:=.seq vs.toArray } }:=ja j7
  refine q.use (x₁.mono (jr k₁) x₁.tk) λu s₂ k₂ x₂ ru=>?_
  (refine jd (jk ru) ?_;rintro t rfl)
  have hL:s₂.heap.get? s₁.heap.objs.size=Qf { cls:=.type "list",dict:=Qg,data:=.seq vs.toArray 0,slots:=#[] }:=jr k₂ _ _ (Qs _ rfl)
  have hlen:vs.toArray.size=l.length:=by rw [Vk,r.length]
  refine wpAny_binaryOp_repeat_ref (T:="list") (U:="int") (by decide) ⟨_,hL,rfl⟩ (λs'=>typeIs_int s' n t) noFill_list_mul F.fills_int_mul F.slot_int_rmul repeat_list F.slot_int_index.lookup
   (call_meets F.slot_int_rmul (typeIs_int s₂ n t) F.entry_int_rmul (F.args_int_rmul_2 _ _) (int___rmul___int_list n t s₁.heap.objs.size vs.toArray 0)
   ⟨hL,rfl,⟨_,hL,rfl⟩,call_meets F.slot_list_mul ⟨_,hL,rfl⟩ F.entry_list_mul (F.args_list_mul_2 _ _)
    (AutoListH.list___mul___list_int_3 s₁.heap.objs.size vs.toArray 0 n t (by simp [Builtin.List.listFitsIndex];lia) (by rw [hlen];lia) (by rw [hlen];simp [Builtin.List.listTooLong,Qt];assumption))
    ⟨hL,ktr k (ktr k₁ (ktr k₂ (ja j7))),?_⟩⟩)
  show Exists _
  refine⟨_,_,0,rfl,kx x₂.live rfl,?_⟩
  suffices e:(List.foldl (λx1 x2=>x1++x2) #[] (Qr (if vs.toArray.isEmpty=true then 0 else n.toNat) vs.toArray)).toList=(Qr n.toNat vs).flatten by
   rw [e];exact(r.mono (ju (jr (ktr k₁ (ktr k₂ (ja j7)))))).rep n.toNat
  rw [yN]
  by_cases he:vs=[]
  ·subst he;simp
  ·have:vs.toArray.isEmpty=false:=by simpa using he
   rw [this];simp) (by show vs.toArray.size<=Qt;rw [Vk,r.length];exact hl)))
theorem PE.len{f e:Expr}{pos:Pos}{l:List AV}(p:PE c f (.raw (.builtin "len")))(q:PSq c e "list" l)(hz:l.length<=Qt)
    (hs:Qv [e] c.env=[(false,eval e c.env)]:=by rfl)
    (he:eval (.Call f [e] [] pos) c.env=(do VL pos (<-eval f c.env) [] (VO pos (Qv [e] c.env)) (VE pos (V3 [] c.env))):=by rfl):PE c (.Call f [e] [] pos) (.int l.length):=λY s E x=>by
  rw [he,hs]
  refine Qh (p.use x λv s₁ k₁ x₁ r₁=>?_)
  obtain rfl:=jb r₁
  refine Xm rfl (je rfl (Qq (q s₁ E _ x₁ λa vs s₂ k₂ x₂ ho hr=>QK ?_)))
  (refine jW ho ?_;intro o n h1 h2 h3)
  have hlen:vs.size=l.length:=by rw [<-hr.length];simp
  refine Calls.call_len_list ⟨o, h1, h2, n, h3⟩ (by rw [hlen]; have : Qt < 2 ^ 62 := by decide
                                                    lia) ⟨ktr k₁ (ktr k₂ jh),?_⟩
  rw [hlen];exact v7
end
section
variable {prog:QI} {w:Ql} {B:QU} {A:QO}
theorem qC{g:Lk}{l:List AV}{v:Qm}{X:List Qk}{s:Qi}(h:Rep (hid X s.heap) (.list l) v):∃a vs,v=.ref a/\s.heap.IsList a vs/\Reps (hid X s.heap) l vs.toList:=by
 (refine xl (qN h) ?_;rintro a o vs n rfl ho hc hd hr)
 exact⟨a,vs,rfl,⟨o,j9 ho,hc,n,hd⟩,hr⟩
theorem Jk(hh:A.handled=Qg){l:List Int}{m:Int}(hm:m∈l)(hb:∀x∈l,x<=m):Cal prog w B A (.builtin "max") [.list (iL l)] (.int m):=λX s E vs hB hX ht hr=>by
 (refine jW hr ?_;clear hr;rintro v _ rfl h1 rfl)
 (refine jW (qC (g:=hid X s.heap) h1) ?_;rintro a ws rfl hL hr)
 (refine jc hr.asInts ?_;rintro xs e1 rfl)
 rw [qH e1]at hL
 have hne:0<xs.toArray.size:=by
  (refine jc (Qw.mp hm) ?_;intro p hp _)
  rw [Vk];exact List.length_pos_of_mem hp
 refine max_intList hh hL hne λv h' tk hv hk=>⟨jK hk,?_⟩
 (refine jd (intItems_at hv) ?_;rintro t rfl)
 (refine jw (argBest_gt (ZB xs.toArray) (xs.toArray.size-1)) ?_;intro b1 b2)
 have key:ZB xs.toArray (argBest (λi j=>decide (ZB xs.toArray i>ZB xs.toArray j)) (xs.toArray.size-1))=m:=by
  have at_:∀i,i<xs.length->∃p∈xs,ZB xs.toArray i=p.1:=λi hi=>⟨xs[i],XY hi,by simp [ZB,hi]⟩
  (refine jc (at_ _ (VN b1 (by have:=xs.size_toArray;lia))) ?_;intro p hp e)
  have le1:=hb _ (X9 (f:=(·.1)) hp)
  (refine jc (Qw.mp hm) ?_;intro q hq e2)
  obtain⟨j,hj,e3⟩:=List.getElem_of_mem hq
  have le2:=b2 j (by have:=xs.size_toArray;lia)
  have:ZB xs.toArray j=m:=by simp [ZB,hj,e3,e2]
  lia
 rw [key];exact v7
theorem cal_minL(hh:A.handled=Qg){l:List Int}{m:Int}(hm:m∈l)(hb:∀x∈l,m<=x):Cal prog w B A (.builtin "min") [.list (iL l)] (.int m):=λX s E vs hB hX ht hr=>by
 (refine jW hr ?_;clear hr;rintro v _ rfl h1 rfl)
 (refine jW (qC (g:=hid X s.heap) h1) ?_;rintro a ws rfl hL hr)
 (refine jc hr.asInts ?_;rintro xs e1 rfl)
 rw [qH e1]at hL
 have hne:0<xs.toArray.size:=by
  (refine jc (Qw.mp hm) ?_;intro p hp _)
  rw [Vk];exact List.length_pos_of_mem hp
 refine min_intList hh hL hne λv h' tk hv hk=>⟨jK hk,?_⟩
 (refine jd (intItems_at hv) ?_;rintro t rfl)
 (refine jw (argBest_lt (ZB xs.toArray) (xs.toArray.size-1)) ?_;intro b1 b2)
 have key:ZB xs.toArray (argBest (λi j=>decide (ZB xs.toArray i<ZB xs.toArray j)) (xs.toArray.size-1))=m:=by
  have at_:∀i,i<xs.length->∃p∈xs,ZB xs.toArray i=p.1:=λi hi=>⟨xs[i],XY hi,by simp [ZB,hi]⟩
  (refine jc (at_ _ (VN b1 (by have:=xs.size_toArray;lia))) ?_;intro p hp e)
  have le1:=hb _ (X9 (f:=(·.1)) hp)
  (refine jc (Qw.mp hm) ?_;intro q hq e2)
  obtain⟨j,hj,e3⟩:=List.getElem_of_mem hq
  have le2:=b2 j (by have:=xs.size_toArray;lia)
  have:ZB xs.toArray j=m:=by simp [ZB,hj,e3,e2]
  lia
 rw [key];exact v7
theorem yu{g:Lk}{a b:AV}{vs:List Qm}(h:Reps g [a,b] vs):∃v u,vs=[v,u]/\Rep g a v/\Rep g b u:=by
 obtain⟨v,_,rfl,h1,u,_,rfl,h2,rfl⟩:=h
 exact⟨v,u,rfl,h1,h2⟩
theorem Jl(hh:A.handled=Qg){a b:Int}:Cal prog w B A (.builtin "max") [.int a,.int b] (.int (max a b)):=λX s E vs hB hX ht hr=>by
 (refine jW (yu hr) ?_;rintro v u rfl h1 h2)
 (refine jd (jk h1) ?_;rintro t rfl);(refine jd (jk h2) ?_;rintro t' rfl)
 refine max_two_ints hh λh' tk hk=>⟨jK hk,?_⟩
 by_cases h:b>a
 ·rw [if_pos h,Int.max_eq_right (by lia)];exact v7
 ·rw [if_neg h,Int.max_eq_left (by lia)];exact v7
theorem cal_min2(hh:A.handled=Qg){a b:Int}:Cal prog w B A (.builtin "min") [.int a,.int b] (.int (min a b)):=λX s E vs hB hX ht hr=>by
 (refine jW (yu hr) ?_;rintro v u rfl h1 h2)
 (refine jd (jk h1) ?_;rintro t rfl);(refine jd (jk h2) ?_;rintro t' rfl)
 refine min_two_ints hh λh' tk hk=>⟨jK hk,?_⟩
 by_cases h:b<a
 ·rw [if_pos h,Int.min_eq_right (by lia)];exact v7
 ·rw [if_neg h,Int.min_eq_left (by lia)];exact v7
theorem yx(xs:List (Int×Tok)):∀k,preSum (ZB xs.toArray) k=((xs.map (·.1)).take k).sum
 | 0=>rfl
 | k+1=>by
  rw [preSum,yx xs k,Zr,List.sum_append]
  congr 1
  simp only [ZB,List.getElem?_toArray,Qx]
  cases xs[k]?<;>simp
theorem KY(hh:A.handled=Qg){l:List Int}:Cal prog w B A (.builtin "sum") [.list (iL l)] (.int l.sum):=λX s E vs hB hX ht hr=>by
 (refine jW hr ?_;clear hr;rintro v _ rfl h1 rfl)
 (refine jW (qC (g:=hid X s.heap) h1) ?_;rintro a ws rfl hL hr)
 (refine jc hr.asInts ?_;rintro xs e1 rfl)
 rw [qH e1]at hL
 refine sum_intListG hh hL λh' tk t' hk=>⟨jK hk,?_⟩
 rw [yx,Vk,Yy (by simp)];exact v7
theorem JD{a b:Int}(hb:0<b)(hs:YB a b=false):Cal prog w B A (.builtin "divmod") [.int a,.int b] (.tup [.int (a/b),.int (a%b)]):=λX s E vs hB hX ht hr=>by
 (refine jW (yu hr) ?_;rintro v u rfl h1 h2)
 (refine jd (jk h1) ?_;rintro t rfl);(refine jd (jk h2) ?_;rintro t' rfl)
 refine divmod_int (by lia) ⟨jK j7,?_⟩ (.inl hs)
 show Exists _
 refine⟨_,_,_,0,rfl,kx hX rfl,rfl,rfl,?_⟩
 rw [Int.fdiv_eq_ediv_of_nonneg _ (by lia),Int.fmod_eq_emod_of_nonneg _ (by lia)]
 exact .cons v7 (.cons v7 .nil)
end
section
variable {c:Ct}
theorem xt{tg:Expr}{f:Expr}{es:List Expr}{pos:Pos}{a b:Int}(hh:c.A.handled=Qg)(hsm:Ys a b 1=true)(p:PE c f (.raw (.type "range")))
  (q:∀(Y:List Qk) (s:Qi) (E:Qe) (Q:Qe),c.At Y s->(∀r t u x s',Vb s s'->c.At Y s'->IsRange s'.heap r a b 1 t u x->Q (.ref r) s')->Qo c.M c.A (spliced (VO pos (Qv es c.env))) (λvs s'=>Qo c.M c.A (call (.type "range") vs) Q E s') E s)
  (hs:(Qv es c.env).any (·.1)=false)
  (he:eval (.Call f es [] pos) c.env=(do VL pos (<-eval f c.env) [] (VO pos (Qv es c.env)) (VE pos (V3 [] c.env)))):PI c tg (.Call f es [] pos) ((Qj (b-a).toNat).map λk:Nat=>AV.int (a+k)):=.walks λY s E Q x₀ h=>by
 rw [he]
 refine Qh (p.use x₀ λv s₁ k₁ x₁ r₁=>?_)
 obtain rfl:=jb r₁
 refine X7 (jC hs pos) (je (jC hs pos) (q Y s₁ E _ x₁ λr t u x s₂ k₂ x₂ hr=>?_))
 have hn:Yv a b 1=((b-a).toNat:Int):=by
  unfold Yv
  simp only [show(1:Int)>0 by decide,if_true]
  split
  ·have:(b-a+1-1)/1=b-a:=by rw [Int.ediv_one];lia
   first | lia | (rw [this];omega)
  ·lia
 refine wpAny_pyIter_range hr hsm (h s₂.heap.objs.size [s₂.heap.objs.size] _ _ s₂ { s₂ with heap:=s₂.heap.push { cls:=.type "range_iterator",data:=.fields #[rawInt a,rawInt (Yv a b 1),rawInt 1] } } (by exact x₂.tk) (ktr k₁ k₂) (ja j7) jm (by
  have:=Walks.range (prog:=c.prog) (w:=c.w) (A:=c.A) hh s₂.heap.objs.size a 1 (b-a).toNat
  simpa using this) (λb hb=>.inl (Q9 hb)) (λi hp st=>⟨_,_,st,rfl,by decide +kernel⟩) ?_ λi v av pv e=>?_)
 ·show IsRangeIter _ _ _ _ _
  rw [hn]
  have:=Qs (o:={ cls:=.type "range_iterator",data:=.fields #[rawInt a,rawInt ((b-a).toNat:Int),rawInt 1] }) s₂.heap rfl
  simpa [IsRangeIter]using this
 ·(refine jd pv ?_;clear pv;rintro t rfl)
  rw [Qx]at e
  have hi:i<(b-a).toNat:=by
   by_cases q:i<(b-a).toNat
   ·exact q
   ·rw [Xz (by simpa using q)]at e;exact no1 e
  rw [VQ hi]at e
  (have q_:=oi e;clear e;subst q_)
  simp only [Int.mul_one];exact v7
theorem PI.range1{tg f e:Expr}{pos:Pos}{b:Int}(hh:c.A.handled=Qg)(p:PE c f (.raw (.type "range")))(q:PE c e (.int b))(hsm:Ys 0 b 1=true)
  (hs:Qv [e] c.env=[(false,eval e c.env)]:=by rfl)
  (he:eval (.Call f [e] [] pos) c.env=(do VL pos (<-eval f c.env) [] (VO pos (Qv [e] c.env)) (VE pos (V3 [] c.env))):=by rfl):PI c tg (.Call f [e] [] pos) ((Qj (b-0).toNat).map λk:Nat=>AV.int (0+k)) :=
 xt hh hsm p (λY s E Q x h=>by
  rw [hs]
  refine Qq (q.use x λv s₁ k₁ x₁ r₁=>QK ?_)
  (refine jd (jk r₁) ?_;rintro t rfl)
  exact call_range_1 (h _ _ _ _ _ (ktr k₁ (jK j7)) (x₁.mono j7 (by exact Qp x₁.tk (by show s₁.toks<=s₁.toks+1+1;lia))) (IsRange.new ..))) (by rw [hs];rfl) he
theorem PI.range2{tg f e e':Expr}{pos:Pos}{a b:Int}(hh:c.A.handled=Qg)(p:PE c f (.raw (.type "range")))(q:PE c e (.int a))(q':PE c e' (.int b))(hsm:Ys a b 1=true)
  (hs:Qv [e,e'] c.env=[(false,eval e c.env),(false,eval e' c.env)]:=by rfl)
  (he:eval (.Call f [e,e'] [] pos) c.env=(do VL pos (<-eval f c.env) [] (VO pos (Qv [e,e'] c.env)) (VE pos (V3 [] c.env))):=by rfl):PI c tg (.Call f [e,e'] [] pos) ((Qj (b-a).toNat).map λk:Nat=>AV.int (a+k)) :=
 xt hh hsm p (λY s E Q x h=>by
  rw [hs]
  refine Qq (q.use x λv s₁ k₁ x₁ r₁=>Qq (q'.use x₁ λv' s₂ k₂ x₂ r₂=>QK ?_))
  (refine jd (jk r₁) ?_;rintro t rfl);(refine jd (jk r₂) ?_;rintro t' rfl)
  exact call_range_2 (h _ _ _ _ _ (ktr k₁ (ktr k₂ (jK j7))) (x₂.mono j7 (by exact Qp x₂.tk (by show s₂.toks<=s₂.toks+1;lia))) (IsRange.new ..))) (by rw [hs];rfl) he
end
theorem fitL{a:Int}(h:-(2^40)<=a/\a<=2^40):-9223372036854775808<=a/\a<9223372036854775808:=⟨Zl (by decide) h.1,Int.lt_of_le_of_lt h.2 (by decide)⟩
theorem vA{a b:Int}(ha:-(2^40)<=a/\a<=2^40)(hb:-(2^40)<=b/\b<=2^40):Ys a b 1=true:=by
 unfold Ys Builtin.Range.rangeFitsLong Yv
 simp only [show(1:Int)>0 by decide,if_true,Int.sub_self,Int.add_zero,Vl,decide_eq_true_eq,Yj,beq_iff_eq]
 split
 ·rename_i q;simp;exact⟨⟨⟨fitL ha,fitL hb⟩,Zl (by decide) (Int.sub_nonneg_of_le (Int.le_of_lt q)),Int.lt_of_le_of_lt (Int.sub_le_sub hb.2 ha.1) (by decide)⟩,.inr (fitL hb)⟩
 ·simp;exact⟨fitL ha,fitL hb⟩
noncomputable def kY(l:List Int):Int:=l.getLastD 0
noncomputable def dps(c:Int):Nat->Int×List Int
 | 0=>(c,[0])
 | n+1=>((dps c n).1/(kY (dps c n).2+2),(dps c n).2++[(dps c n).1%(kY (dps c n).2+2)])
theorem dps0{c:Int}:dps c 0=(c,[0]):=rfl
theorem dps1{c:Int}{n:Nat}:dps c (n+1)=((dps c n).1/(kY (dps c n).2+2),(dps c n).2++[(dps c n).1%(kY (dps c n).2+2)]):=rfl
theorem dps_ok(c:Int):∀n,(dps c n).2.length=n+1/\0<=kY (dps c n).2/\kY (dps c n).2<=n
 | 0=>⟨rfl,by simp [dps0,kY],by simp [dps0,kY]⟩
 | n+1=>by
  (refine xE (dps_ok c n) ?_;intro h1 h2 h3)
  refine⟨by simp [dps1,h1],?_,?_⟩
  ·simp only [dps1,kY,List.getLastD_concat]
   exact Yg _ (by simp only [kY]at h2;lia)
  ·simp only [dps1,kY,List.getLastD_concat]
   have:=Ze (dps c n).1 (show 0<(dps c n).2.getLastD 0+2 by simp only [kY]at h2;lia)
   simp only [kY]at h3
   lia
noncomputable def kq(c:Int):List Int:=(dps c 4).2
theorem jz(w:Ql):mg w "range"=none:=by kernel_rfl
theorem jy(w:Ql):mb w "range"=Qf (.type "range"):=by kernel_rfl
theorem g_divmod(w:Ql):mg w "divmod"=none:=by kernel_rfl
theorem m_divmod(w:Ql):mb w "divmod"=Qf (.builtin "divmod"):=by kernel_rfl
noncomputable abbrev p183:List Qd:=["cell"]
noncomputable abbrev m183:List Qd:=["depths","place","depth"]
noncomputable abbrev v183:List Qd:=p183++m183
noncomputable abbrev F183(w:Ql):FuncData:=vx (o_196 w.params)
theorem n183(w:Ql):Names (F183 w) v183:=.of (by kernel_rfl)
theorem d183(w:Ql):∃body,Df (Bh w) 183 (o_196 w.params) (F183 w) body p183 m183 /\
  ∀A n prog i,Room (n+1) A->∀L,XS (cx (F183 w) 183 v183 prog w A L [] [Qf (.int i),Qg,Qg,Qg]) body (λo=>o=.rt (.list (iL (kq i)))):=by
 refine⟨_,⟨by kernel_rfl,rfl,rfl,rfl,ji (by kernel_rfl),n183 w,λvs h=>?_⟩,?_⟩
 ·(refine jd (jQ h) ?_;rintro v rfl);rfl
 ·intro A n prog i room L
  have V:=(n183 w).cV (a:=183) (prog:=prog) (w:=w) (A:=A) (L:=L)
  have G:=(n183 w).cG (a:=183) (w:=w) (prog:=prog) (L:=L) room rfl rfl
  refine XS.cons (X1.own (V _ _) 1 rfl (.cons .int .nil) (by decide) λa=>?_)
  show XS (cx (F183 w) 183 v183 prog w A L [a] [Qf (.int i),Qf (.own 0 [.int 0]),Qg,Qg]) _ _
  refine XS.cons (X1.for (λk σ=>∃x y,σ=[Qf (.int (dps i k).1),Qf (.own 0 (iL (dps i k).2)),x,y]/\qR 0 x=true/\qR 0 y=true) (PI.range1 room.1 (PE.blt (G _ _) (jz w) (jy w) rfl (by decide)) .int (by decide)) ⟨_,_,rfl,rfl,rfl⟩ ?_ ?_)
  ·(intro k av σ hk q_;refine jW q_ ?_;clear q_;rintro x y rfl hx hy)
   obtain⟨ki,rfl⟩:∃ki,av=.int ki:=by
    rw [Qx]at hk
    cases q:(Qj ((4:Int)-0).toNat)[k]? with
    | none=>rw [q]at hk;cases hk
    | some u=>rw [q]at hk;(have q_:=oi hk;clear hk;subst q_);exact⟨_,rfl⟩
   refine⟨[Qf (.int (dps i k).1),Qf (.own 0 (iL (dps i k).2)),Qf (.int ki),y],TA.name (V _ _) 2 rfl,?_⟩
   (refine xE (dps_ok i k) ?_;intro h1 h2 h3)
   have hlast:(iL (dps i k).2)[k]?=Qf (.int (kY (dps i k).2)):=by
    rw [Qx,kY,List.getLastD_eq_getLast?,List.getLast?_eq_getElem?,h1]
    simp only [Nat.add_sub_cancel]
    rw [Qu (by exact XO (Eq.symm ‹_›))];rfl
   have hd:0<kY (dps i k).2+2:=by lia
   have hk':k<4:=by have:=(QT.mp hk).1;simpa using this
   refine XS.cons (X1.tupA (V _ _) room.1 (.cons 0 rfl (.cons 3 rfl .nil)) (PE.callB (PE.blt (G _ _) (g_divmod w) (m_divmod w) rfl (by decide)) (.cons (.var 0 rfl rfl rfl (by decide) (by decide)) (.cons (.add (.itemL (PSq.own 1 rfl rfl rfl (by decide) (by decide)) (.neg .int) k (by simp [h1];lia) hlast (by decide)) .int) .nil)) (JD hd (VM (by lia)))) ?_)
   show XS (cx (F183 w) 183 v183 prog w A L [a] [Qf (.int (dps i (k+1)).1),Qf (.own 0 (iL (dps i k).2)),Qf (.int ki),Qf (.int ((dps i k).1%(kY (dps i k).2+2)))]) _ _
   refine XS.cons (X1.append 1 rfl rfl rfl (by decide) (by decide) (.var 3 rfl rfl rfl (by decide) (by decide)) (by rw [Qy,h1];simp [Qt];exact zq2 ‹_› rfl) rfl ?_)
   exact XS.nil ⟨rfl,Qf (.int ki),Qf (.int ((dps i k).1%(kY (dps i k).2+2))),by simp [dps1,iL],rfl,rfl⟩
  ·(intro σ q_;refine jW q_ ?_;clear q_;rintro x y rfl hx hy)
   refine XS.free (X':=[]) rfl (i:=1) rfl (by simp only [List.set,XV,Yn,QQ,hx,hy];rfl) ?_
   exact XS.cons (X1.ret (.var 1 rfl rfl rfl (by decide) (by decide)) rfl)
theorem cal183{w:Ql}{prog:QI}{A:QO}{n:Nat}(room:Room (n+1) A)(i:Int):Cal prog w (Bh w) A (.ref 183) [.int i] (.list (iL (kq i))):=by
 (refine jc (d183 w) ?_;intro body D h)
 exact D.cal room rfl λL=>h A n prog i room L
section
open PySem.Builtin PySem.Builtin.Str
noncomputable abbrev sL(l:List Qd):List AV:=l.map .str
noncomputable abbrev tx(l:List Nat):Qd:=⟨l.toArray⟩
theorem kZ(a b:List Nat):tx a++tx b=tx (a++b):=PySem.Str.ext' (by rw [PySem.Str.cps_append];simp)
theorem jO(a:List Nat):(tx a).length=a.length:=by simp [PySem.Str.length]
theorem tx_inj{a b:List Nat}(h:tx a=tx b):a=b:=by
 have:=congrArg (λs:Qd=>s.cps.toList) h
 simpa using this
theorem Reps.asStrs{g:Lk}:∀ {l:List Qd} {vs:List Qm},Reps g (sL l) vs->∃xs:List (Qd×Tok),vs=strValues xs/\xs.map (·.1)=l
 | [],_,h=>⟨[],h,rfl⟩
 | i::l,_,h=>by
  (refine jW h ?_;clear h;rintro v vs' rfl h1 h2)
  (refine jd (jj h1) ?_;rintro t rfl)
  (refine jc (Reps.asStrs h2) ?_;rintro xs rfl rfl)
  exact⟨(i,t)::xs,rfl,rfl⟩
theorem Reps.ofStrs{g:Lk}:∀xs:List (Qd×Tok),Reps g (sL (xs.map (·.1))) (strValues xs)
 | []=>.nil
 | (x,t)::r=>.cons vq (Reps.ofStrs r)
section
variable {c:Ct}
theorem PE.v(i:Nat){x:Qd}{av:AV}{pos:Pos}(hs:c.σ[i]?=Qf (Qf av))(hk:c.env.scope.kind=.function:=by rfl)(hi:c.vars[i]?=Qf x:=by rfl)(hd:(x==("__debug__" : Qd))=false:=by decide)(hcd:(x==("__classdict__" : Qd))=false:=by decide)(n:yy av:=by rfl):PE c (.Name x pos) av :=
 .var i hk hi hs hd hcd n
theorem PSq.o(i:Nat){x:Qd}{k:Nat}{l:List AV}{pos:Pos}(hs:c.σ[i]?=Qf (Qf (.own k l)))(hk:c.env.scope.kind=.function:=by rfl)(hi:c.vars[i]?=Qf x:=by rfl)(hd:(x==("__debug__" : Qd))=false:=by decide)(hcd:(x==("__classdict__" : Qd))=false:=by decide):PSq c (.Name x pos) "list" l:=.own i hk hi hs hd hcd
theorem PE.b{n:Nat}{mg mb:Qd->Option Qm}(G:Gd c n mg mb){x:Qd}{pos:Pos}{v:Qm}(hm:mg x=Qg)(hv:mb x=Qf v)(hx:c.env.kindOf x=Qf .globalImplicit:=by rfl)(hd:(x==("__debug__" : Qd))=false:=by decide):PE c (.Name x pos) (.raw v):=.blt G hm hv hx hd
theorem PE.g{n:Nat}{mg mb:Qd->Option Qm}(G:Gd c n mg mb){x:Qd}{pos:Pos}{v:Qm}(hv:mg x=Qf v)(hx:c.env.kindOf x=Qf .globalImplicit:=by rfl)(hd:(x==("__debug__" : Qd))=false:=by decide):PE c (.Name x pos) (.raw v):=.glob G hv hx hd
theorem PE.gi{n:Nat}{mg mb:Qd->Option Qm}(G:Gd c n mg mb){x:Qd}{pos:Pos}{i:Int}{t:Tok}(hv:mg x=Qf (.int i t))(hx:c.env.kindOf x=Qf .globalImplicit:=by rfl)(hd:(x==("__debug__" : Qd))=false:=by decide):PE c (.Name x pos) (.int i):=.globI G hv hx hd
theorem PE.addS{l r:Expr}{pos:Pos}{x y:Qd}(p:PE c l (.str x))(q:PE c r (.str y))(hz:x.length+y.length<=Qt):PE c (.BinOp l .Add r pos) (.str (x++y)) :=
 p.bin q λY s E v u _ rv ru=>by
  (refine jd (jj rv) ?_;rintro t rfl);(refine jd (jj ru) ?_;rintro t' rfl)
  exact SB.add (λt'' k=>⟨jh,vq⟩) hz
theorem xB(vs:Array Nat):∀(k:Nat) (a:Array Nat),(List.foldl (λx1 x2=>x1++x2) a (Qr k vs)).toList=a.toList++(Qr k vs.toList).flatten
 | 0,a=>by simp
 | k+1,a=>by rw [QZ,List.foldl_cons,xB vs k];simp [QZ]
noncomputable def yq(x:Qd)(n:Nat):Qd:=tx (Qr n x.cps.toList).flatten
theorem mul_eq(x:Qd)(n:Int):Txt.mul x n=yq x n.toNat:=by
 unfold Txt.mul yq
 split
 ·rename_i h;rw [show n.toNat=0 by lia];rfl
 ·split
  ·rename_i h h'
   rw [Yj,beq_iff_eq,beq_iff_eq]at h'
   refine PySem.Str.ext' ?_
   rcases h' with h' | h'
   ·subst h';simp
   ·have:x.cps.toList=[]:=List.length_eq_zero_iff.mp (by simpa [PySem.Str.length]using h')
    rw [this]
    apply Array.toList_inj.mp
    rw [this];simp
  ·refine PySem.Str.ext' ?_
   apply Array.toList_inj.mp
   show(List.foldl (λa b=>a++b) #[] (Qr n.toNat x.cps)).toList=_
   rw [xB];simp
theorem PE.mulS{l r:Expr}{pos:Pos}{x:Qd}{n:Int}(p:PE c l (.str x))(q:PE c r (.int n))(hlo:-(2^40)<=n/\n<=2^20)(hz:x.length<=8):PE c (.BinOp l .Mult r pos) (.str (yq x n.toNat)) :=
 p.bin q λY s E v u _ rv ru=>by
  (refine jd (jj rv) ?_;rintro t rfl);(refine jd (jk ru) ?_;rintro t' rfl)
  refine SB.mul ⟨?_,λh1 _=>?_,λh1 _=>?_⟩ λt'' k=>⟨jh,by rw [mul_eq];exact vq⟩
  ·simp only [Bool.or_eq_false_iff,decide_eq_false_iff_not];lia
  ·rw [Int.not_gt_eq]
   refine(Int.le_ediv_iff_mul_le (by exact Int.not_lt.mp ‹_›)).mpr ?_
   have h2:(x.length:Int)*n<=8*2^20:=Int.mul_le_mul (by exact zr14 ‹_› rfl) hlo.2 (by lia) (by decide)
   lia
  ·unfold tooLong Qt
   have h2:x.length*n.toNat<=8*2^20:=Nat.mul_le_mul hz (by lia)
   simp only [decide_eq_false_iff_not,VS]
   exact zq1 ‹_› rfl
theorem meth1{o e:Expr}{name:Qd}{apos cpos:Pos}{Y:List Qk}{s:Qi}{E:Qe}{Q:Qe}
  (h:Qo c.M c.A (eval o c.env) (λov s₁=>MethodOnS c.prog c.w c.A E name ov cpos [(false,eval e c.env)] Q s₁) E s)
  (hst:Qv [e] c.env=[(false,eval e c.env)]) (hbase:Vp o name c.env (eval o c.env)=eval o c.env) (hline:(apos.endLine==cpos.line)=true) :
  Qo c.M c.A (eval (.Call (.Attribute o name apos) [e] [] cpos) c.env) Q E s:=Call_method1 hbase hst hline h
theorem PE.join{o e:Expr}{apos cpos:Pos}{sep:Qd}{ys:List Qd}(p:PE c o (.str sep))(q:PE c e (.list (sL ys)))(hz:(ys.map (·.length)).sum+ys.length*sep.length<=16777216)
  (hst:Qv [e] c.env=[(false,eval e c.env)]:=by rfl) (hbase:Vp o "join" c.env (eval o c.env)=eval o c.env:=by rfl) (hline:(apos.endLine==cpos.line)=true:=by rfl) :
  PE c (.Call (.Attribute o "join" apos) [e] [] cpos) (.str (Y7 sep ys)):=λY s E x =>
 meth1 (Y:=Y) (p.use x λv s₁ k₁ x₁ r₁=>by
  (refine jd (jj r₁) ?_;rintro t rfl)
  refine SB.join (q.use x₁ λu s₂ k₂ x₂ r₂=>?_)
  (refine xl (qN r₂) ?_;rintro a o' vs n rfl ho hc hd hr)
  (refine jc hr.asStrs ?_;intro xs e1 e2)
  have:vs=(strValues xs).toArray:=by rw [<-e1]
  subst this
  refine⟨a,xs,rfl,⟨o',j9 ho,hc,n,hd⟩,ys,e2,joinOk_of hz,λt' k=>⟨ktr k₁ (ktr k₂ jh),?_⟩⟩
  rw [show Txt.join sep ys=Y7 sep ys from StrLaws.glued_eq_join sep ys];exact vq) hst hbase hline
theorem PE.replace{o:Expr}{y z:Qd}{k1 k2:Nat}{p1 p2 apos cpos:Pos}{x:Qd}(p:PE c o (.str x))(hyz:(y==z)=false)(hb:x.length+(x.length+1)*z.length<=16777216)
  (hst:Qv [.Constant (.str y) k1 p1,.Constant (.str z) k2 p2] c.env=[(false,eval (.Constant (.str y) k1 p1) c.env),(false,eval (.Constant (.str z) k2 p2) c.env)]:=by rfl)
  (hbase:Vp o "replace" c.env (eval o c.env)=eval o c.env:=by rfl) (hline:(apos.endLine==cpos.line)=true:=by rfl) :
  PE c (.Call (.Attribute o "replace" apos) [.Constant (.str y) k1 p1,.Constant (.str z) k2 p2] [] cpos) (.str (Xv x y z)):=λY s E x₀ =>
 Call_method2 hbase hst hline (p.use x₀ λv s₁ k₁ x₁ r₁=>by
  (refine jd (jj r₁) ?_;rintro t rfl)
  refine⟨"str","str.replace",F.plainAttrs_str,F.slot_str_replace,F.type_str_replace,typeIs_str _ _ _,λa e=>(nomatch e),?_⟩
  refine Xm rfl (je rfl (Qq (Vw (Qq (Vw (QK ?_))))))
  have:=x₁.tk
  have e0:s₁.toks≠0:=by exact Nat.ne_of_gt ‹_›
  exact SC.replace e0 (Nat.succ_ne_zero _) (QR (Yu _)) hyz hb λt' k=>⟨ktr k₁ jh,vq⟩)
theorem PE.lenS{f e:Expr}{pos:Pos}{x:Qd}(p:PE c f (.raw (.builtin "len")))(q:PE c e (.str x))(hz:x.length<=Qt)
  (hs:Qv [e] c.env=[(false,eval e c.env)]:=by rfl)
  (he:eval (.Call f [e] [] pos) c.env=(do VL pos (<-eval f c.env) [] (VO pos (Qv [e] c.env)) (VE pos (V3 [] c.env))):=by rfl):PE c (.Call f [e] [] pos) (.int x.length):=λY s E x₀=>by
 rw [he,hs]
 refine Qh (p.use x₀ λv s₁ k₁ x₁ r₁=>?_)
 obtain rfl:=jb r₁
 refine Xm rfl (je rfl (Qq (q.use x₁ λu s₂ k₂ x₂ r₂=>QK ?_)))
 (refine jd (jj r₂) ?_;rintro t rfl)
 have hsz:Qt<2^62:=by decide
 exact P.len_str (by lia) ⟨ktr k₁ (ktr k₂ jh),v7⟩
theorem cmp_inS{x y:Qd}:jX c .In (.str y) (.str x) (Txt.contains x y):=λY s E v u _ rv ru=>by
 (refine jd (jj rv) ?_;rintro t rfl);(refine jd (jj ru) ?_;rintro t' rfl)
 exact SB.contains ⟨kU,rfl⟩
theorem KU{x y:Qd}:jX c .Eq (.str x) (.str y) (x.cps.toList==y.cps.toList):=λY s E v u _ rv ru=>by
 (refine jd (jj rv) ?_;rintro t rfl);(refine jd (jj ru) ?_;rintro t' rfl)
 exact P.eq_str ⟨kU,rfl⟩
theorem KS{x y:Qd}:jX c .NotEq (.str x) (.str y) (x.cps.toList != y.cps.toList):=λY s E v u _ rv ru=>by
 (refine jd (jj rv) ?_;rintro t rfl);(refine jd (jj ru) ?_;rintro t' rfl)
 exact P.ne_str ⟨kU,rfl⟩
theorem IsPart.tok{v:Qm}{i:Option Int}(h:IsPart v i):∃l:Option (Int×Tok),v=partValue l/\l.map (·.1)=i:=by
 cases h with
 | none=>exact⟨Qg,rfl,rfl⟩
 | int i t=>exact⟨Qf (i,t),rfl,rfl⟩
theorem PE.sliceS{e:Expr}{lo hi:Option Expr}{p pos:Pos}{x:Qd}{i j:Option Int}(q:PE c e (.str x))(qi:PP c lo i)(qj:PP c hi j)(hz:x.length<=Qt):PE c (.Subscript e (.Slice lo hi Qg p) pos) (.str (Txt.slice x i j)):=λY s E x₀ =>
 qu F.slot_str_getitem.lookup (q.use x₀ λv s₁ k₁ x₁ r₁=>wpAny_Slice (qi.use x₁ λvi s₂ k₂ x₂ pi=>qj.use x₂ λvj s₃ k₃ x₃ pj=>by
  rw [evalPart_none]
  refine Qn ?_
  (refine jd (jj r₁) ?_;rintro t rfl)
  (refine jc (IsPart.tok pi) ?_;rintro l rfl rfl)
  (refine jc (IsPart.tok pj) ?_;rintro u rfl rfl)
  refine⟨typeIs_str _ x t,wpAny_getItem_str_slice (l:=l) (u:=u) (st:=Qg) ⟨_,Qs _ rfl,rfl,rfl⟩ rfl ?_⟩
  exact post_val_or_str ⟨Qp (Txt.slice_le x _ _) hz,λt' k=>⟨ktr k₁ (ktr k₂ (ktr k₃ (jK j7))),vq⟩⟩))
theorem PT.str{e:Expr}{x:Qd}(p:PE c e (.str x))(hz:x.length<=Qt)(he:isTrue e c.env (eval e c.env)=(do let v <-eval e c.env;Xy e.pos;Zz [v] (truthy v)):=by rfl):PT c e ((x.length:Int) != 0):=λY s E x₀ =>
 isTrue_plain (p.use x₀ λv s₁ k x₁ r=>by
  (refine jd (jj r) ?_;rintro t rfl)
  have hsz:Qt<2^62:=by decide
  exact P.truthy_str (by lia) ⟨ktr k jh,rfl⟩) he
end
end
section
open PySem.Builtin PySem.Builtin.Str
structure Kl (K:Frag) (C:Qk):Prop where
 hg:plainGet K C ""=true
 hh:hasDictIn K C=true
 hs:findIn K (.ref C) "__setattr__"=Qf (Qf (.builtin "object.__setattr__"))
 hp:plainOver K C=true
 hm:makesIn K C=true
theorem jH{e:VJ}{y:Qd}(h:jU e=Qf y)(name:Qd):e.key.isStr name=(y==name)/\e.refKey=false:=by
 (refine jd (JW h) ?_;intro t hk)
 exact⟨by rw [hk];rfl,by unfold DictEntry.refKey;rw [hk]⟩
theorem ya{name:Qd}{v:Qm}:∀ {es:List VJ} {ns:List Qd} {i:Nat},es.map jU=ns.map Qf->ns.Nodup->ns[i]?=Qf name->(es.map (·.val))[i]?=Qf v->getL name es=Qf (Qf v)
 | [],ns,i,hk,_,_,hv=>by simp at hv
 | e::es,[],i,hk,_,hn,_=>by simp at hn
 | e::es,y::ns,i,hk,nd,hn,hv=>by
  simp only [QP,Xw]at hk
  (refine jw (jH hk.1 name) ?_;intro k1 k2)
  rw [Yi]at nd
  unfold getL
  rw [List.find?_cons,k1]
  cases i with
  | zero =>
   simp at hn hv
   subst hn hv
   simp
  | succ i =>
   simp at hn
   have:(y==name)=false:=beq_eq_false_iff_ne.mpr λq=>nd.1 (q▸QE hn)
   rw [this]
   have ih:=ya hk.2 nd.2 hn (by simpa using hv)
   unfold getL at ih
   simp only [List.any_cons,k2,Bool.false_or]
   exact ih
theorem yK{name:Qd}:∀ {es:List VJ} {ns:List Qd},es.map jU=ns.map Qf->name∉ns->getL name es=Qf Qg
 | [],_,_,_=>rfl
 | e::es,[],hk,_=>by simp at hk
 | e::es,y::ns,hk,hn=>by
  simp only [QP,Xw]at hk
  (refine jw (jH hk.1 name) ?_;intro k1 k2)
  rw [QD,not_or]at hn
  have ih:=yK hk.2 hn.2
  unfold getL at ih ⊢
  rw [List.find?_cons,k1,beq_eq_false_iff_ne.mpr (Ne.symm hn.1)]
  simp only [List.any_cons,k2,Bool.false_or]
  exact ih
theorem xQ{name:Qd}{hsh:Int}{key v:Qm}:∀ {es:List VJ} {ns:List Qd},es.map jU=ns.map Qf->name∉ns->putL name hsh key v es=es++[⟨hsh,key,v⟩]
 | [],_,_,_=>rfl
 | e::es,[],hk,_=>by simp at hk
 | e::es,y::ns,hk,hn=>by
  simp only [QP,Xw]at hk
  (refine jw (jH hk.1 name) ?_;intro k1 _)
  rw [QD,not_or]at hn
  unfold putL
  rw [k1,beq_eq_false_iff_ne.mpr (Ne.symm hn.1),xQ hk.2 hn.2]
  rfl
noncomputable def qV:AV->Bool
 | .raw v=>Z0 v
 | _=>true
theorem vY{g:Lk}{av:AV}{v:Qm}(h:qV av=true)(r:Rep g av v):Z0 v=true:=by
 cases av
 case own=>exact Zc r
 case owd=>exact Zc r
 case none=>change _=_ at r;subst r;rfl
 case bool=>change _=_ at r;subst r;rfl
 case int=>(refine jd r ?_;clear r;rintro t rfl);rfl
 case str=>(refine jd r ?_;clear r;rintro t rfl);rfl
 case raw=>change _=_ at r;subst r;exact h
 case list=>(refine yY r ?_;clear r;rintro _ _ _ rfl _);rfl
 case tup=>(refine JL r ?_;clear r;rintro _ _ _ _ rfl _);rfl
 case rng=>(refine JL r ?_;clear r;rintro _ _ _ _ rfl _);rfl
 case ins=>(refine JL r ?_;clear r;rintro _ _ _ _ rfl _);rfl
 case fn=>(refine JL r ?_;clear r;rintro _ _ _ _ rfl _);rfl
section
variable {prog:QI} {w:Ql} {A:QO} {K:Frag} {C:Qk}
theorem yJ{s:Qi}{E:Qe}{Q:Qe}{x dx:Qk}{es:List VJ}{n:Nat}{ns:List Qd}{name:Qd}{i:Nat}{v:Qm}{expr:Bool}(X:K.In s.heap)(kl:Kl K C)
  (hx:s.heap.get? x=Qf ⟨.ref C,Qf dx,.plain,#[]⟩) (hd:s.heap.get? dx=Qf (Vh es n)) (hk:es.map jU=ns.map Qf) (nd:ns.Nodup) (hi:ns[i]?=Qf name) (hv:(es.map (·.val))[i]?=Qf v) (ha:findIn K (.ref C) name=Qf Qg) (hh:Z0 v=true)
  (h:Q v { s with toks:=s.toks+1 }):Qo (model prog w) A (Zs (.ref x) name expr) Q E s :=
 get_value X (⟨hx,rfl,rfl,hd⟩:InstAt s.heap x ⟨.ref C,Qf dx,.plain,#[]⟩ C (Qf (Vh es n))) (plainGet_of kl.hg).1 (findObj_own kl.hh ha rfl (by rw [lookIn_dict];exact ya hk nd hi hv)) hh h
theorem osa_new{s:Qi}{R:Result->Qi->Prop}{x dx:Qk}{es:List VJ}{n:Nat}{ns:List Qd}{name:Qd}{tk:Tok}{v:Qm}(X:K.In s.heap)(kl:Kl K C)
  (hx:s.heap.get? x=Qf ⟨.ref C,Qf dx,.plain,#[]⟩) (hd:s.heap.get? dx=Qf (Vh es n)) (hk:es.map jU=ns.map Qf) (hn:name∉ns) (ht:takerIn K C name=Qf Qg) (hz:es.length+1<=1000)
  (h:∀h' tk e,h'.get? dx=Qf (Vh (es++[e]) (n+1))->jU e=Qf name->e.val=v->V9 dx s.heap h'->R (.ok (.ret .none)) { s with heap:=h',toks:=tk }):Zq (model prog w) A (.call (.builtin "object.__setattr__") ⟨[.ref x,.str name tk,v],[]⟩) R s:=by
 have I:InstAt s.heap x ⟨.ref C,Qf dx,.plain,#[]⟩ C (Qf (Vh es n)):=⟨hx,rfl,rfl,hd⟩
 refine osa_open X I kl.hp ht λb=>?_
 (refine jc (any_some kl.hh) ?_;intro cd hc hd')
 have ep:Obj.putName name (VD w.params name) (.str name s.toks) v (Vh es n)=Vh (es++[⟨VD w.params name,.str name s.toks,v⟩]) (n+1):=by
  rw [putName_dict,xQ hk hn]
  congr 1
  unfold putN
  rw [if_neg]
  intro q
  (refine jc (List.any_eq_true.mp q) ?_;intro e he q)
  have hm:jU e∈ns.map some:=hk▸X9 he
  (refine jc (Qw.mp hm) ?_;intro y hy e1)
  rw [(jH e1.symm name).1]at q
  exact hn (beq_iff_eq.mp q▸hy)
 have D':(s.heap.update dx (Obj.putName name (VD w.params name) (.str name s.toks) v)).get? dx=Qf (Vh (es++[⟨VD w.params name,.str name s.toks,v⟩]) (n+1)):=by
  rw [VP _ hd (by rw [ep];rfl),ep]
 refine Qh (Qn (Qh (Qh (wpAny_loadPart hx (Qh ((looks_clsIn X hc).here ?_))))))
 rw [hd']
 refine Qn (a:=Qf dx) (Qh (Qn (Qh ?_)))
 unfold nsSet
 refine Qh (Qh (wpAny_askSetting (Qn (Qh (wpAny_mkText (Qh (wpAny_loadPart hd ?_)))))))
 dsimp only
 have cc:(!es.toArray.any (·.key.isStr name)&&es.toArray.any (·.refKey))=false:=by
  have:es.any (·.refKey)=false:=by
   rw [List.any_eq_false]
   intro e he q
   have hm:jU e∈ns.map some:=hk▸X9 he
   (refine jc (Qw.mp hm) ?_;intro y hy e1)
   rw [(jH e1.symm name).2]at q;exact no4 q
  simp [this]
 rw [aRefKeyMayBeTheName_at,cc]
 refine wpAny_updatePart hd ?_
 refine Qh (wpAny_lookBehind D' (pastItsLine_dict (by rw [Vk,QV,QC,X2];exact zq1 ‹_› rfl)) ?_)
 exact Qn (h _ _ _ D' rfl rfl (VH ..))
theorem JZ{s:Qi}{E:Qe}{Q:Unit->Qi->Prop}{x dx:Qk}{es:List VJ}{n:Nat}{ns:List Qd}{name:Qd}{v:Qm}(X:K.In s.heap)(kl:Kl K C)
  (hx:s.heap.get? x=Qf ⟨.ref C,Qf dx,.plain,#[]⟩) (hd:s.heap.get? dx=Qf (Vh es n)) (hk:es.map jU=ns.map Qf) (hn:name∉ns) (ht:takerIn K C name=Qf Qg) (hz:es.length+1<=1000)
  (h:∀h' tk e,h'.get? dx=Qf (Vh (es++[e]) (n+1))->jU e=Qf name->e.val=v->V9 dx s.heap h'->Q () { s with heap:=h',toks:=tk }):Qo (model prog w) A (setAttr (.ref x) name v) Q E s :=
 set_plain X (⟨hx,rfl,rfl,hd⟩:InstAt s.heap x ⟨.ref C,Qf dx,.plain,#[]⟩ C (Qf (Vh es n))) kl.hs (osa_new (s:={ s with toks:=s.toks+1 }) X kl hx hd hk hn ht hz h)
end
section
variable {c:Ct} {P:Out->Prop} {K:Frag} {C:Qk}
theorem PE.attr{e:Expr}{pos:Pos}{ns:List Qd}{l:List AV}{name:Qd}{av:AV}(KI:K.In c.B)(kl:Kl K C)(p:PE c e (.ins C ns l))(i:Nat)(hn:ns[i]?=Qf name)(hl:l[i]?=Qf av)(nd:ns.Nodup)(ha:findIn K (.ref C) name=Qf Qg)(hv:qV av=true:=by rfl)
  (he:eval (.Attribute e name pos) c.env=(do
   let o <-eval e c.env
   Xy pos.atName
   let r <-Zz [o] (Zs o name true)
   YM e o r
   pure r):=by with_unfolding_all rfl):PE c (.Attribute e name pos) av:=λY s E x₀ =>
 Y8 (p.use x₀ λv s₁ k₁ x₁ r=>by
  (refine xl r ?_;clear r;rintro x dx es n rfl h1 h2 h3 h4)
  (refine jc (h4.get hl) ?_;intro u hu ru)
  exact yJ (KI.keeps x₁.base) kl (j9 h1) (j9 h2) h3 nd hn hu ha (vY hv ru) ⟨ktr k₁ jh,ru⟩) he
theorem kr(i:Nat){x:Qd}{av:AV}{pos:Pos}(hs:c.σ[i]?=Qf (Qf av))(hk:c.env.scope.kind=.function)(hi:c.vars[i]?=Qf x)(hd:(x==("__debug__" : Qd))=false)(hcd:(x==("__classdict__" : Qd))=false)
  {Y:List Qk} {s:Qi} {E:Qe} {Q:Qe} (y:c.At Y s) (h:∀v,RepO c.X Y s.heap av v->Q v s):Qo c.M c.A (eval (.Name x pos) c.env) Q E s:=by
 refine wpAny_Name ?_ hd
 rcases y.look i x _ hi hs with⟨a,m,v,b,e,d⟩ | ⟨a,cc,v,b,e,d⟩
 ·exact wpAny_loadName_local hk a b e (h v d)
 ·rcases a with a | a
  ·exact wpAny_loadName_cell hk a b e (h v d)
  ·exact wpAny_loadName_free hk a b e (h v d) hcd
theorem PE.attrO(j:Nat){y:Qd}{np pos:Pos}{k:Nat}{x:Qk}{ns:List Qd}{l:List AV}{name:Qd}{av:AV}(KI:K.In c.B)(kl:Kl K C)(hs:c.σ[j]?=Qf (Qf (.owd k x C ns l)))(i:Nat)(hn:ns[i]?=Qf name)(hl:l[i]?=Qf av)(nd:ns.Nodup)(ha:findIn K (.ref C) name=Qf Qg)(hv:qV av=true:=by rfl)
  (hk:c.env.scope.kind=.function:=by rfl) (hi:c.vars[j]?=Qf y:=by rfl) (hd:(y==("__debug__" : Qd))=false:=by decide) (hcd:(y==("__classdict__" : Qd))=false:=by decide):PE c (.Attribute (.Name y np) name pos) av:=λY s E x₀ =>
 Y8 (kr j hs hk hi hd hcd x₀ λv r=>by
  (refine KN r.asOwd ?_;rintro dx es n rfl hX ho hx hke hr)
  (refine jc (hr.get hl) ?_;intro u hu ru)
  exact yJ (KI.keeps x₀.base) kl (j9 hx) ho hke nd hn hu ha (vY hv ru) ⟨jh,ru⟩)
theorem X1.setA(j:Nat){y:Qd}{np apos pos:Pos}{k:Nat}{x:Qk}{ns:List Qd}{l:List AV}{name:Qd}{av:AV}{value:Expr}(KI:K.In c.B)(kl:Kl K C)(hs:c.σ[j]?=Qf (Qf (.owd k x C ns l)))(p:PE c value av)(hn:name∉ns)(ht':takerIn K C name=Qf Qg)(hz:ns.length+1<=1000)(hno:(c.σ.set j Qg).all (qR k)=true)
  (h:P (.nx c.X (c.σ.set j (Qf (.owd k x C (ns++[name]) (l++[av]))))))
  (hk:c.env.scope.kind=.function:=by rfl) (hi:c.vars[j]?=Qf y:=by rfl) (hd:(y==("__debug__" : Qd))=false:=by decide) (hcd:(y==("__classdict__" : Qd))=false:=by decide)
  (hsw:VU value (Qf (.Attribute (.Name y np) name apos)) pos.line c.env=pure false:=by rfl):X1 c (.Assign [.Attribute (.Name y np) name apos] value pos) P:=λYc s₀ s E ht f =>
 Xx (p.use (f.at ht) λv s₁ k₁ x₁ r₁=>kr j hs hk hi hd hcd x₁ λv' r=>by
  (refine KN r.asOwd ?_;rintro dx es n rfl hX ho hx hke hr)
  have hlen:es.length=ns.length:=by simpa using congrArg Yx hke
  refine JZ (KI.keeps x₁.base) kl (j9 hx) ho hke hn ht' (by lia) λh' tk e hd' ke ve hsb=>?_
  have mX:dx∈c.X:=QE hX
  have same:hid (c.X++c.Yf Yc) h'=hid (c.X++c.Yf Yc) s₁.heap:=jD λb hb=>hsb.2 b λe=>hb (e▸Q8 _ mX)
  obtain⟨f₂,g₂⟩:=(f.keeps k₁).putG (tk:=tk) (av':=.owd k x C (ns++[name]) (l++[av])) hs rfl hX ⟨_,hd'⟩ hsb (λv₀ r₀=>by
   (refine KN r₀.asOwd ?_;rintro dx' es' n' rfl hX' ho' hx' hke' hr')
   obtain rfl:dx=dx':=oi (hX.symm.trans hX')
   have e0:es'=es:=by
    have:=oi (ho'.symm.trans ho)
    have e1:(Vh es' n').data=(Vh es n).data:=congrArg Obj.data this
    simp at e1
    exact e1.1
   subst e0
   refine .ofOwd hX hd' (by rw [same];exact hx) (by rw [Va,Va,hke,List.map_singleton,ke];rfl) ?_
   rw [same,Va]
   exact hr.append (.cons (by show Rep _ av e.val;rw [ve];exact r₁) .nil)) hno
  exact⟨(Grow.of k₁).trans (X:=c.X) (σ:=c.σ) (λ_ h=>.inl h) g₂,c.X,_,h,λ_ h=>.inl h,f₂⟩) hsw
theorem PE.cattr{e:Expr}{pos:Pos}{name:Qd}{a:Qm}{av:AV}{mc:Qm}(KI:K.In c.B)(p:PE c e (.raw (.ref C)))(hr:readsIn K C mc=true)(hf:findCls K (.ref C) mc name=Qf (.val a))(hh:Z0 a=true)(hav:∀g,Rep g av a)
  (he:eval (.Attribute e name pos) c.env=(do
   let o <-eval e c.env
   Xy pos.atName
   let r <-Zz [o] (Zs o name true)
   YM e o r
   pure r):=by with_unfolding_all rfl):PE c (.Attribute e name pos) av:=λY s E x₀ =>
 Y8 (p.use x₀ λv s₁ k₁ x₁ r=>by
  obtain rfl:=jb r
  exact cls_value (KI.keeps x₁.base) hr hf hh ⟨ktr k₁ jh,hav _⟩) he
theorem qS{o:Expr}{name:Qd}{apos cpos:Pos}{es:List Expr}{s:Qi}{E:Qe}{Q:Qe}
  (h:Qo c.M c.A (eval o c.env) (λov s₁=>∀pl,Qo c.M c.A (getMethod ov name pl) (λp s₂=>Qo c.M c.A (VL cpos p.1 p.2 (VO cpos (Qv es c.env)) []) Q E s₂) E s₁) E s)
  (hbase:Vp o name c.env (eval o c.env)=eval o c.env)
  (hfew:((VO cpos (Qv es c.env)).all (λx=>!x.1)&&(VE cpos (V3 [] c.env)).all (λx=>x.1.isSome)&&decide (es.length+([]:List Keyword).length+(if([]:List Keyword).isEmpty then 0 else 1)<30))=true)
  (hline:(apos.endLine==cpos.line)=true):Qo c.M c.A (eval (.Call (.Attribute o name apos) es [] cpos) c.env) Q E s:=by
 rw [arm_eval_Call,hbase]
 refine Qh (Qz h (λov s₁ h₁=>?_) λ_ _ e=>e)
 refine Qh (VA ?_)
 have hform:methodCallForm (es.length+([]:List Keyword).length) (VO cpos (Qv es c.env)) (VE cpos (V3 [] c.env))=true:=hfew
 have hpos:methodCallPos true o c.env apos cpos=pure cpos:=by unfold methodCallPos;simp [hline]
 unfold methodCall
 rw [hform]
 refine Qh (QS (Qz (h₁ _) (λp s₂ h₂=>?_) λ_ _ e=>e))
 exact Qh (Vs hpos h₂)
theorem PE.meth{o:Expr}{name:Qd}{apos cpos:Pos}{es:List Expr}{ns:List Qd}{l avs:List AV}{res:AV}{f:Qk}{of:Obj}{fd:VF}(KI:K.In c.B)(kl:Kl K C)(p:PE c o (.ins C ns l))(q:PEs c es avs)
  (hf:findIn K (.ref C) name=Qf (Qf (.ref f))) (ht:typeIn K (.ref f)=Qf (.type "function")) (hn:name∉ns) (ho:c.B.get? f=Qf of) (hd:of.data=.func fd) (h:Cal c.prog c.w c.B c.A (.ref f) (.ins C ns l::avs) res)
  (hs:(Qv es c.env).any (·.1)=false:=by rfl) (hbase:Vp o name c.env (eval o c.env)=eval o c.env:=by rfl)
  (hfew:((VO cpos (Qv es c.env)).all (λx=>!x.1)&&(VE cpos (V3 [] c.env)).all (λx=>x.1.isSome)&&decide (es.length+([]:List Keyword).length+(if([]:List Keyword).isEmpty then 0 else 1)<30))=true:=by rfl)
  (hline:(apos.endLine==cpos.line)=true:=by rfl):PE c (.Call (.Attribute o name apos) es [] cpos) res:=λY s E x₀ =>
 qS (p.use x₀ λv s₁ k₁ x₁ r pl=>by
  have r':=r
  (refine xl r ?_;clear r;rintro x dx ed n rfl h1 h2 h3 h4)
  refine method_fn (KI.keeps x₁.base) (⟨j9 h1,rfl,rfl,j9 h2⟩:InstAt s₁.heap x ⟨.ref C,Qf dx,.plain,#[]⟩ C (Qf (Vh ed n))) (plainGet_of kl.hg).1 (plainGet_of kl.hg).2 hf ht (by show(lookIn name (Vh ed n)).map _=_;rw [lookIn_dict,yK h3 hn];rfl) ?_
  refine VT (o:=of) (fd:=fd) (je (jC hs cpos) (q.use x₁ λvs s₂ k₂ x₂ r₂=>?_))
  exact⟨⟨x₂.base _ _ ho,hd⟩,Qz (h s₂ E (.ref x::vs) x₂.base x₂.live x₂.tk (.cons (r'.mono (ju (jr k₂))) r₂)) (λv s₃ ⟨k₃,r₃⟩=>⟨ktr k₁ (ktr k₂ k₃),r₃⟩) λ_ _ y=>y⟩) hbase hfew hline
end
end
section
open PySem.Builtin PySem.Builtin.Str
noncomputable def InitC(prog:QI)(w:Ql)(B:QU)(A:QO)(fI C:Qk)(avs:List AV)(ns:List Qd)(l:List AV):Prop :=
 ∀(X:List Qk) (sb s:Qi) (R:Result->Qi->Prop) (vs:List Qm) (x dx:Qk),(∀a o,B.get? a=Qf o->sb.heap.get? a=Qf o)->(∀y∈X,∃o,sb.heap.get? y=Qf o)->1<=s.toks->Vb sb s ->
  sb.heap.objs.size<=dx->sb.heap.objs.size<=x->x≠dx->s.heap.get? x=Qf ⟨.ref C,Qf dx,.plain,#[]⟩->s.heap.get? dx=Qf (Vh [] 0)->Reps (hid X sb.heap) avs vs ->
  (∀s' es n,Gz [dx] s s'->s'.heap.get? dx=Qf (Vh es n)->es.map jU=ns.map Qf->Reps (hid (dx::X) s'.heap) l (es.map (·.val))->R (.ok (.ret .none)) s') ->
  Zq (model prog w) A (.call (.ref fI) ⟨.ref x::vs,[]⟩) R s
noncomputable abbrev ctI(prog:QI)(w:Ql)(B:QU)(A:QO)(fd:VF)(a:Qk)(vars:List Qd)(X:List Qk)(σ:List (Option AV))(L:Qk):Ct :=
 { prog:=prog,w:=w,B:=B,A:=A.deeper (QY fd L a),env:=QY fd L a,vars:=vars,X:=X,σ:=σ }
theorem init_of{prog:QI}{w:Ql}{B:QU}{A:QO}{a C:Qk}{o:Obj}{fd:VF}{body:List XM}{avs:List AV}{ns:List Qd}{l:List AV}{n:Nat}{self:Qd}{names more:List Qd}
  (ho:B.get? a=Qf o) (hd:o.data=.func fd) (hbody:fd.body=.stmts body) (hclo:fd.closure=[]) (hlim:B.NoLimit) (hcd:B.CodeRec fd.code fd.qualname) (N:Names fd ((self::names)++more))
  (hbind:∀vs:List Qm,vs.length=(self::names).length->bindArgs fd ⟨vs,[]⟩=pure ((self::names).zip vs)) (hlen:avs.length=names.length) (room:Room (n+1) A)
  (h:∀L x dx,XS (ctI prog w B A fd a ((self::names)++more) [dx] (Qf (.owd 0 x C [] [])::(avs.map Qf++more.map λ_=>Qg)) L) body (λo=>∃X σ,o=.nx X σ/\X[0]?=Qf dx/\σ[0]?=Qf (Qf (.owd 0 x C ns l)))):InitC prog w B A a C avs ns l:=λX sb s R vs x dx hB hX htk hk hdx hxs hxd hx hdd hr hR=>by
 have hl:(.ref x::vs:List Qm).length=(self::names).length:=by simp [hr.length,hlen]
 have hkeys:((self::names).zip (.ref x::vs)).map (·.1)=self::names:=by rw [List.map_fst_zip (by exact XO (Eq.symm ‹_›))]
 have nd:(self::names).Nodup:=(Xa.mp N.nd).1
 have hBs:∀a o,B.get? a=Qf o->s.heap.get? a=Qf o:=λa o e=>jr hk _ _ (hB a o e)
 have hl1:s.heap.NoLimit:=by(refine jc hlim ?_;intro mc q r);exact⟨mc,q.keeps hBs,r⟩
 refine codeAny_call_function room.depth (hBs _ _ ho) hd N.co N.gen hbody (by(refine e4_3 hcd ?_;intro c oc ws t e1 e2 e3);exact⟨c,oc,ws,t,e1,hBs _ _ e2,e3⟩) ?_
 rw [hbind _ hl,hclo]
 refine Qn (QB (n:=1) htk (wpAny_newFunctionEnv_cells N.kind (λx hx=>?_) λenv he s₁ ic ht₁=>?_))
 ·have hm:x.1∈self::names:=by rw [<-hkeys];exact X9 hx
  exact(N.kd x.1 (Q8 _ hm)).imp id λq=>⟨q,XE _ _ _ (.inl q)⟩
 ·subst he
  refine⟨hl1.keeps ic.toInCall.keep,codeAny_func ?_⟩
  change InCallC s (QY fd s.heap.objs.size a).locals (bindL (QY fd s.heap.objs.size a).kindOf ((self::names).zip (.ref x::vs)) λ_=>Qg) (QY fd s.heap.objs.size a).cells (bindC (QY fd s.heap.objs.size a).kindOf ((self::names).zip (.ref x::vs)) λ_=>Qg) s₁ at ic
  change Qo (model prog w) (A.deeper (QY fd s.heap.objs.size a)) (execs body (QY fd s.heap.objs.size a)) _ _ s₁
  have low:∀b,b<s.heap.objs.size->b≠(QY fd s.heap.objs.size a).locals/\b∉(QY fd s.heap.objs.size a).cells.map (·.2):=λb hb=>⟨QR hb,λm=>by
   (refine jc (Qw.mp m) ?_;rintro⟨k,d⟩ hm rfl)
   exact absurd (ic.above k d hm) (VS.mpr (Vt hb))⟩
  have dlt:dx<s.heap.objs.size:=Vo hdd
  have xlt:x<s.heap.objs.size:=Vo hx
  have old:∀ {b},(∃o,sb.heap.get? b=Qf o)->b<sb.heap.objs.size:=λ⟨o,e⟩=>Vo e
  have sbs:∀ {b},b<sb.heap.objs.size->b<s.heap.objs.size/\b≠dx/\b≠x:=λhb=>⟨Y4 hb (Qp hdx (Vt dlt)),QR (Y4 hb hdx),QR (Y4 hb hxs)⟩
  have ksb:∀b o,sb.heap.get? b=Qf o->s₁.heap.get? b=Qf o:=λb o e=>ic.toInCall.keep b o (jr hk b o e)
  have ic':InCallC sb (QY fd s.heap.objs.size a).locals (bindL (QY fd s.heap.objs.size a).kindOf ((self::names).zip (.ref x::vs)) λ_=>Qg) (QY fd s.heap.objs.size a).cells (bindC (QY fd s.heap.objs.size a).kindOf ((self::names).zip (.ref x::vs)) λ_=>Qg) s₁:=by
   refine⟨⟨?_,ic.toInCall.ns,ksb,Qp hdx (Vt dlt)⟩,ic.cell,ic.apart,ic.above⟩
   (refine jN ic.toInCall.same ?_;intro h1 t1 e1)
   (refine jn hk ?_;intro h2 t2 e2 _)
   exact⟨h1,t1,by rw [e1,e2]⟩
  generalize hc:ctI prog w B A fd a ((self::names)++more) [dx] (Qf (.owd 0 x C [] [])::(avs.map Qf++more.map λ_=>Qg)) s.heap.objs.size=c at *
  have nin:∀b,b<s.heap.objs.size->b≠dx->b∉X->b∉[dx]++(QY fd s.heap.objs.size a).locals::((QY fd s.heap.objs.size a).cells.map (·.2)++X):=λb hb h1 h2 m=>by
   rcases Qa m with m | m
   ·exact h1 (Q9 m)
   ·rcases Qb m with m | m
    ·exact(low b hb).1 m
    ·rcases Qa m with m | m
     ·exact(low b hb).2 m
     ·exact h2 m
  have up:Le (hid X sb.heap) (hid ([dx]++(QY fd s.heap.objs.size a).locals::((QY fd s.heap.objs.size a).cells.map (·.2)++X)) s₁.heap):=λb o e=>by
   have e1:=j9 e
   have hb:=sbs (Vo e1)
   exact jl (ksb b o e1) (nin b hb.1 hb.2.1 λm=>by unfold hid at e;rw [if_pos m]at e;exact no1 e)
  have F:Fm c X sb s₁:=by
   subst hc
   refine⟨hB,λy hy=>((hX y hy).imp λo e=>ksb _ _ e),λy hy=>?_,⟨by simp,λy hy m=>?_⟩,?_,N.kind,_,_,ic',λi y av e e'=>?_⟩
   ·obtain rfl:=Q9 hy
    exact⟨hdx,(low _ dlt).1,(low _ dlt).2,_,ic.toInCall.keep _ _ hdd⟩
   ·obtain rfl:=Q9 hy
    exact absurd (old (hX _ m)) (VS.mpr hdx)
   ·show((Vd (s.heap.objs.size+1) fd.scope.names []).map (·.1)).Nodup
    rw [cellsFrom_names fd.scope.names (s.heap.objs.size+1) 0 [] [] rfl];exact N.cnd
   ·have key:∀v,(y,v)∈(self::names).zip (.ref x::vs)->y∈(self::names)++more->∃v',v'=v/\(((QY fd s.heap.objs.size a).kindOf y=Qf .local/\bindL (QY fd s.heap.objs.size a).kindOf ((self::names).zip (.ref x::vs)) (λ_=>Qg) y=Qf v')∨((QY fd s.heap.objs.size a).kindOf y=Qf .cell/\bindC (QY fd s.heap.objs.size a).kindOf ((self::names).zip (.ref x::vs)) (λ_=>Qg) y=Qf v'/\((QY fd s.heap.objs.size a).cells.lookup y).isSome=true)):=λv hm hy=>by
     refine⟨v,rfl,?_⟩
     rcases N.kd y hy with q | q
     ·exact .inl ⟨q,vI q (by rw [hkeys];exact nd) hm⟩
     ·exact .inr ⟨q,vJ q (by rw [hkeys];exact nd) hm,XE _ _ _ (.inl q)⟩
    cases i with
    | zero =>
     have e1:Qf (AV.owd 0 x C [] [])=Qf av:=by simpa using e'
     (have q_:=oi e1;clear e1;subst q_)
     have e2:self=y:=by simpa using e
     subst e2
     (refine jc (key (.ref x) (.head _) (.head _)) ?_;rintro v' rfl q)
     refine⟨_,.ofOwd (es:=[]) (n:=0) rfl (ic.toInCall.keep _ _ hdd) (jl (ic.toInCall.keep _ _ hx) (nin x xlt hxd λm=>absurd (old (hX _ m)) (VS.mpr hxs))) rfl .nil,q⟩
    | succ i =>
     have e0:(avs.map Qf++more.map λ_=>Qg)[i]?=Qf (Qf av):=by simpa using e'
     have e2:avs[i]?=Qf av:=by
      rcases Nat.lt_or_ge i avs.length with h | h
      ·rw [V5 (by simpa using h),Qx]at e0
       cases q:avs[i]? with
       | none=>rw [q]at e0;cases e0
       | some u=>rw [q]at e0;(have q_:=oi e0;clear e0;cases q_);rfl
      ·rw [X6 (by simpa using h),Qx]at e0
       cases q:more[i-(avs.map Qf).length]? with
       | none=>rw [q]at e0;cases e0
       | some u=>rw [q]at e0;(have q_:=oi e0;clear e0;cases q_)
     have hi:i<names.length:=by rw [<-hlen];exact(QT.mp e2).1
     have e3:names[i]?=Qf y:=by
      have:(names++more)[i]?=Qf y:=by simpa using e
      rwa [V5 hi]at this
     (refine jc (hr.get e2) ?_;intro v e4 rv)
     (refine jc (key v (QE (i:=i+1) (by rw [List.zip_cons_cons,List.getElem?_cons_succ,YU];exact⟨e3,e4⟩)) (QE e)) ?_;rintro v' rfl q)
     exact⟨_,.of (rv.mono up),q⟩
  have hX':=h s.heap.objs.size x dx
  rw [hc]at hX'
  have hcA:(model prog w)=c.M/\A.deeper (QY fd s.heap.objs.size a)=c.A/\QY fd s.heap.objs.size a=c.env/\c.X=[dx]/\c.vars=(self::names)++more:=by subst hc;exact⟨rfl,rfl,rfl,rfl,rfl⟩
  refine e0_5 hcA ?_;intro q1 q2 q3 q4 q5
  rw [q1,q2,q3]
  refine Qz (hX' sb s₁ _ ht₁ F) (λf s' p=>?_) λ_ _ y=>y
  (refine jw p ?_;intro g q)
  cases f with
  | brk=>(refine jn q ?_;clear q;rintro _ _ ⟨_,_,q,_⟩ _);cases q
  | cont=>(refine jn q ?_;clear q;rintro _ _ ⟨_,_,q,_⟩ _);cases q
  | ret v=>(refine jc q ?_;clear q;rintro _ ⟨_,_,q,_⟩ _);cases q
  | next =>
   (refine jn q ?_;clear q;rintro X₁ σ₁ ⟨X₂,σ,e,hX₂,hσ⟩ st)
   cases e
   (refine jn st.2.fr ?_;intro m cm _ lk)
   (refine jc (lk 0 self _ (by show c.vars[0]?=_;rw [q5];rfl) hσ) ?_;intro v r _)
   (refine KN r.asOwd ?_;rintro dx' es n' rfl hX₁ ho' hx' hke hr')
   obtain rfl:dx=dx':=oi (hX₂.symm.trans hX₁)
   refine hR s' es n' ?_ ho' hke (hr'.mono (jE λb hb=>?_))
   ·(refine jN ic.toInCall.same ?_;intro h₁ t₁ e1)
    (refine jn g ?_;intro h' t' e2 kk)
    refine⟨h',t',by rw [e2,e1],λb o hb e=>kk b o (λm=>?_) (ic.toInCall.keep b o e)⟩
    have hb':=low b (Vo e)
    unfold Own at m
    rw [q4,<-q3]at m
    rcases Qa m with m | m
    ·exact hb m
    ·rcases Qb m with m | m
     ·exact hb'.1 m
     ·exact hb'.2 m
   ·rcases Qb hb with rfl | hb
    ·exact Q8 _ (QE hX₂)
    ·exact Q7 _ (.tail _ (Q7 _ hb))
section
variable {c:Ct} {K:Frag} {C:Qk}
theorem Room.tc{A:QO}{n:Nat}{C:Qk}{rest:List Qm}{kw:List (Qd×Qm)}(r:Room (n+1) A):Room n (A.under (.builtin "type.__call__" ⟨.ref C::rest,kw⟩)):=by
 (refine xE r ?_;intro a b d)
 refine⟨a,?_,?_⟩
 ·rw [depth_under_kw];exact zr34 ‹_›
 ·have:(Code.builtin "type.__call__" ⟨.ref C::rest,kw⟩).cUnits<=4:=by
   have:(Code.builtin "type.__call__" ⟨.ref C::rest,kw⟩).frames=0:=by rfl
   show 1+3*(Code.builtin "type.__call__" ⟨.ref C::rest,kw⟩).frames<=4
   rw [this];decide
  show A.units+(Code.builtin "type.__call__" ⟨.ref C::rest,kw⟩).cUnits+100*n<=9000
  lia
theorem PE.new{f:Expr}{es:List Expr}{pos:Pos}{avs l:List AV}{ns:List Qd}{fI:Qk}(KI:K.In c.B)(kl:Kl K C)(p:PE c f (.raw (.ref C)))(q:PEs c es avs)(hk:keepIn K (.ref C)=true)(hi:findIn K (.ref C) "__init__"=Qf (Qf (.ref fI)))(hf:typeIn K (.ref fI)=Qf (.type "function"))
  (h:∀rest kw,InitC c.prog c.w c.B (c.A.under (.builtin "type.__call__" ⟨.ref C::rest,kw⟩)) fI C avs ns l)
  (hs:(Qv es c.env).any (·.1)=false:=by rfl)
  (he:eval (.Call f es [] pos) c.env=(do VL pos (<-eval f c.env) [] (VO pos (Qv es c.env)) (VE pos (V3 [] c.env))):=by rfl):PE c (.Call f es [] pos) (.ins C ns l):=λY s E x₀=>by
 rw [he]
 refine Qh (p.use x₀ λv s₁ k₁ x₁ r₁=>?_)
 obtain rfl:=jb r₁
 refine callWith_of (P:=K.In) (by rw [jC hs pos];rfl) (keeps_K hk) (je (jC hs pos) (q.use x₁ λvs s₂ k₂ x₂ r₂=>?_))
 refine⟨KI.keeps x₂.base,?_⟩
 show Qo c.M c.A (call (.ref C) vs) _ E s₂
 refine wpAny_call ?_
 obtain⟨hh,g,d,t,os⟩:=s₂
 have X₂:K.In hh:=KI.keeps x₂.base
 refine make_core (makes_of X₂ kl.hm) (looks_findIn X₂ hi) (λself=>bind_fn X₂ self hf) (.inl rfl) ?_
 have k3:∀b o,hh.get? b=Qf o->((hh.push emptyDict).push (instObj C hh.objs.size)).get? b=Qf o:=λb o e=>j7 _ _ (j7 _ _ e)
 have hx:((hh.push emptyDict).push (instObj C hh.objs.size)).get? (hh.objs.size+1)=Qf (instObj C hh.objs.size):=by
  have:=Qs (o:=instObj C hh.objs.size) (hh.push emptyDict) rfl
  rwa [Xn]at this
 have hd:((hh.push emptyDict).push (instObj C hh.objs.size)).get? hh.objs.size=Qf (Vh [] 0):=j7 _ _ (Qs _ rfl)
 refine h _ _ (c.X++Y) ⟨hh,g,d,t,os⟩ ⟨(hh.push emptyDict).push (instObj C hh.objs.size),g,d,t,os⟩ _ vs (hh.objs.size+1) hh.objs.size x₂.base x₂.live x₂.tk ⟨_,t,rfl,k3⟩ (Vr _) (YO _) (Nat.succ_ne_self _) hx hd r₂ λs' es' n gz hdx hke hr=>?_
 refine⟨rfl,?_⟩
 have kk:Vb (⟨hh,g,d,t,os⟩:Qi) s':=by
  (refine jn gz ?_;clear gz;rintro h' t' rfl k)
  exact⟨h',t',rfl,λb o e=>k b o (λm=>by obtain rfl:=Q9 m;exact absurd (Vo e) (XT _)) (k3 b o e)⟩
 refine⟨ktr k₁ (ktr k₂ kk),?_⟩
 have nin:∀b,hh.objs.size<=b->b∉c.X++Y:=λb hb m=>by
  (refine jd (x₂.live b m) ?_;intro o e)
  exact absurd (Vo e) (VS.mpr hb)
 show Exists _
 exact⟨_,hh.objs.size,es',n,rfl,jl (gz.get _ _ (λm=>Nat.succ_ne_self _ (Q9 m)) hx) (nin _ (YO _)),jl hdx (nin _ (Vr _)),hke,hr.mono (jE λb hb=>.tail _ hb)⟩
end
end
section
open PySem.Builtin PySem.Builtin.Str
structure ItC (prog:QI) (w:Ql) (A:QO) (tg:Expr) (W:List Qk) (I:Qk) (xs:List AV) (St:Nat->QU->Prop) (Mid:Nat->Qm->QU->Prop):Prop where
 frame:∀i h h',St i h->(∀b∈W,∀o,h.get? b=Qf o->h'.get? b=Qf o)->St i h'
 live:∀i h,St i h->∀b∈W,∃o,h.get? b=Qf o
 item:∀i (av:AV) (s:Qi) (Q:Option Qm->Qi->Prop) (E:Qe),xs[i]?=Qf av->St i s.heap ->
  (∀v h' tk,Mid i v h'->(∀g,Rep g av v)->(∀b o,b∉W->s.heap.get? b=Qf o->h'.get? b=Qf o)->Q (Qf v) { s with heap:=h',toks:=tk })->Qo (model prog w) A (pyNext (.ref I)) Q E s
 go:∀i (av:AV) v (s:Qi) (Q:Unit->Qi->Prop) (E:Qe),Mid i v s.heap ->
  (∀h',St (i+1) h'->(∀b o,b∉W->s.heap.get? b=Qf o->h'.get? b=Qf o)->Q () { s with heap:=h' })->Qo (model prog w) A (YC tg (.ref I) v) Q E s
 done:∀(s:Qi) (Q:Option Qm->Qi->Prop) (E:Qe),St xs.length s.heap ->
  (∀h' tk,(∀b o,b∉W->s.heap.get? b=Qf o->h'.get? b=Qf o)->Q Qg { s with heap:=h',toks:=tk })->Qo (model prog w) A (pyNext (.ref I)) Q E s
 self:∀i (s:Qi) (Q:Qe) (E:Qe),St i s.heap->Q (.ref I) s->Qo (model prog w) A (pyIter (.ref I)) Q E s
theorem le_off{H W:List Qk}{h h':QU}(hH:∀b∈W,b∈H)(k:∀b o,b∉W->h.get? b=Qf o->h'.get? b=Qf o):Le (hid H h) (hid H h'):=λb o e=>by
 have e1:=j9 e
 have n:b∉H:=λm=>by unfold hid at e;rw [if_pos m]at e;exact no1 e
 exact jl (k b o (λm=>n (hH b m)) e1) n
theorem ItC.itr{prog:QI}{w:Ql}{A:QO}{tg:Expr}{W:List Qk}{I:Qk}{xs:List AV}{St:Nat->QU->Prop}{Mid:Nat->Qm->QU->Prop}(it:ItC prog w A tg W I xs St Mid){H:List Qk}(hH:∀b∈W,b∈H):Itr prog w A tg H W I xs St Mid :=
 ⟨λi h h' st _ k=>it.frame i h h' st k,it.live,λi av s Q E hi st _ hQ=>it.item i av s Q E hi st λv h' tk m r k=>hQ v h' tk m (r _) k,
  λi av v s Q E m r hQ=>it.go i av v s Q E m λh' st k=>hQ h' st (r.mono (le_off hH k)) k,it.done,it.self⟩
noncomputable def PIc(c:Ct)(tg e:Expr)(xs:List AV):Prop:=∀ ⦃Y:List Qk⦄ (s:Qi) (E:Qe) (Q:Qe),c.At Y s ->
 (∀I W (St:Nat->QU->Prop) (Mid:Nat->Qm->QU->Prop) s',Vb s s'->(∀b∈W,s.heap.get? b=Qg/\∃o,s'.heap.get? b=Qf o)->ItC c.prog c.w c.A tg W I xs St Mid->St 0 s'.heap->1<=s'.toks->Q (.ref I) s') ->
 Qo c.M c.A (eval e c.env) (λx s₁=>Qo c.M c.A (pyIter x) Q E s₁) E s
section
variable {c:Ct} {P:Out->Prop}
theorem PIc.pi{tg e:Expr}{xs:List AV}(p:PIc c tg e xs):PI c tg e xs:=λY s E Q x h =>
 p s E Q x λI W St Mid s' k hW it st ht=>h I W (λ_=>St) (λ_=>Mid) s' k hW (λH hH=>⟨it.itr λb hb=>hH.1 b (.inr hb),st⟩) ht
theorem ItC.walks{prog:QI}{w:Ql}{A:QO}{tg:Expr}{I:Qk}{xs:List AV}{P:Nat->Qm->Prop}{St:Nat->QU->Prop}(W:Walks prog w A I [I] [I] xs.length P St)(hcl:∀i h,St i h->∃o n,h.get? I=Qf o/\o.cls=.type n/\qQ n=true)
  (hr:∀i v av,P i v->xs[i]?=Qf av->∀g,Rep g av v):ItC prog w A tg [I] I xs St (λi v h=>St (i+1) h) :=
 ⟨λi h h' st k=>W.frame i h h' st λb hb o e=>k b hb o e,λi h st b hb=>by obtain rfl:=Q9 hb;(refine jn (hcl i h st) ?_;intro o n e _);exact⟨o,e⟩,
  λi av s Q E hi st hQ=>W.item i s Q E (QT.mp hi).1 st λv h' tk pv st' hk=>hQ v h' tk st' (hr i v av pv hi) hk,
  λi av v s Q E m hQ=>by(refine jW (hcl _ _ m) ?_;intro o n e e2 e3);exact xZ e e2 e3 (hQ s.heap m λb o _ e=>e),λs Q E st hQ=>W.done s Q E st hQ,λi s Q E st hQ=>W.self i s Q E st hQ⟩
noncomputable abbrev chars(x:Qd):List AV:=x.cps.toList.map λk=>AV.str ⟨#[k]⟩
theorem PIc.str{tg e:Expr}{x:Qd}(hh:c.A.handled=Qg)(p:PE c e (.str x)):PIc c tg e (chars x):=λY s E Q x₀ h=>p.use x₀ λv s₁ k₁ x₁ r=>by
 (refine jd (jj r) ?_;rintro t rfl)
 refine wpAny_pyIter_strU ?_
 have hlen:(chars x).length=x.cps.size:=by simp [chars]
 have hr:∀i v av,SignAt x i v->(chars x)[i]?=Qf av->∀g,Rep g av v:=λi v av ⟨k,u,e1,e2⟩ e g=>by
  subst e2
  rw [Qx,Vi,e1]at e
  (have q_:=oi e;clear e;subst q_);exact vq
 have new:(s₁.heap.push { cls:=.type (strIterType x),data:=.fields #[.str x t,.int 0 0] }).get? s₁.heap.objs.size=Qf { cls:=.type (strIterType x),data:=.fields #[.str x t,.int 0 0] }:=Qs _ rfl
 have fin:∀T,qQ T=true->strIterType x=T->Walks c.prog c.w c.A s₁.heap.objs.size [s₁.heap.objs.size] [s₁.heap.objs.size] x.cps.size (SignAt x) (λi h=>h.IsStrIter s₁.heap.objs.size T x t i)->Q (.ref s₁.heap.objs.size) { s₁ with heap:=s₁.heap.push { cls:=.type (strIterType x),data:=.fields #[.str x t,.int 0 0] } }:=λT hT e W =>
  h _ [s₁.heap.objs.size] (λi h=>h.IsStrIter s₁.heap.objs.size T x t i) (λi v h=>h.IsStrIter s₁.heap.objs.size T x t (i+1)) _ (ktr k₁ (ja j7)) (λb hb=>by
   obtain rfl:=Q9 hb
   refine⟨?_,_,new⟩
   cases q:s.heap.get? s₁.heap.objs.size with
   | none=>rfl
   | some o=>have:=jr k₁ _ _ q;rw [jm]at this;exact no1 this) (ItC.walks (P:=SignAt x) (by rw [hlen];exact W) (λi h ⟨o,ho,hc,_⟩=>⟨o,_,ho,hc,hT⟩) hr) ⟨_,new,by rw [e],rfl⟩ x₁.tk
 cases ha:x.cps.all (· < 128)with
 | false=>exact fin "str_iterator" (by decide +kernel) (by simp [strIterType,ha]) (Walks.strWide hh _ x t)
 | true=>exact fin "str_ascii_iterator" (by decide +kernel) (by simp [strIterType,ha]) (Walks.strAscii hh _ x t)
theorem Fm.iter{Yc W W':List Qk}{s₀ s₁:Qi}{h':QU}{tk:Nat}(fm:Fm c (W++Yc) s₀ s₁)(h0:∀b∈W,s₀.heap.get? b=Qg/\b≠c.env.locals/\b∉c.env.cells.map (·.2)/\b∉Yc)
  (hk:∀b o,b∉W->s₁.heap.get? b=Qf o->h'.get? b=Qf o) (sub:∀b∈W',b∈W) (hl:∀b∈W',∃o,h'.get? b=Qf o):Fm c (W'++Yc) s₀ { s₁ with heap:=h',toks:=tk }:=by
 (refine jn fm.fr ?_;intro m cm ic lk)
 have nX:∀x∈c.X,x∉W:=λx hx m=>fm.nodup.2 x hx (Q8 _ m)
 have nL:c.env.locals∉W:=λm=>(h0 _ m).2.1 rfl
 have le:Le (hid (c.X++c.Yf (W++Yc)) s₁.heap) (hid (c.X++c.Yf (W'++Yc)) h'):=λa o e=>by
  have e1:=j9 e
  have n:a∉c.X++c.Yf (W++Yc):=λm=>by unfold hid at e;rw [if_pos m]at e;exact no1 e
  refine jl (hk a o (λm=>n (Q7 _ (.tail _ (Q7 _ (Q8 _ m))))) e1) λhx=>n ?_
  rcases Qa hx with h | h
  ·exact Q8 _ h
  ·rcases Qb h with h | h
   ·exact Q7 _ (h▸.head _)
   ·rcases Qa h with h | h
    ·exact Q7 _ (.tail _ (Q8 _ h))
    ·rcases Qa h with h | h
     ·exact Q7 _ (.tail _ (Q7 _ (Q8 _ (sub a h))))
     ·exact Q7 _ (.tail _ (Q7 _ (Q7 _ h)))
 (refine jN ic.toInCall.same ?_;intro h₀ t₀ e1)
 refine⟨fm.base,λy hy=>?_,λx hx=>⟨(fm.own x hx).1,(fm.own x hx).2.1,(fm.own x hx).2.2.1,(((fm.own x hx).2.2.2).imp λo e=>hk x o (nX x hx) e)⟩,⟨fm.nodup.1,λx hx m=>(Qa m).elim (λm=>nX x hx (sub x m)) λm=>fm.nodup.2 x hx (Q7 _ m)⟩,fm.cnd,fm.kind,m,cm,
  ⟨⟨⟨h',tk,by rw [e1]⟩,?_,λb o e=>hk b o (λm=>by rw [(h0 b m).1]at e;exact no1 e) (ic.toInCall.keep b o e),ic.toInCall.fresh⟩,λn a e=>?_,ic.apart,ic.above⟩,λj x av e e'=>?_⟩
 ·rcases Qa hy with hy | hy
  ·exact hl y hy
  ·(refine jd (fm.old y (Q7 _ hy)) ?_;intro o e);exact⟨o,hk y o (λm=>(h0 y m).2.2.2 hy) e⟩
 ·exact ic.toInCall.ns.at' λo e=>hk _ o nL e
 ·(refine jc (ic.cell n a e) ?_;intro o ho hd)
  exact⟨o,hk a o (λm=>(h0 a m).2.2.1 (Qw.mpr ⟨(n,a),mem_of_lookup e,rfl⟩)) ho,hd⟩
 ·(refine jc (lk j x av e e') ?_;intro v r q)
  exact⟨v,r.to le λp _ a o e1 e2=>⟨e1,hk a o (nX a (QE e1)) e2⟩,q⟩
theorem X1.forC{tg iter:Expr}{body:List XM}{pos:Pos}{xs:List AV}(J:Nat->List Qk->List (Option AV)->Prop)(p:PIc c tg iter xs)(h0:J 0 c.X c.σ)
  (step:∀i av X σ,xs[i]?=Qf av->J i X σ->∃σ',TA (c.up X σ) tg av σ'/\XS (c.up X σ') body (λo=>match o with
   | .nx X σ=>J (i+1) X σ
   | .ct X σ=>J (i+1) X σ
   | .br X σ=>P (.nx X σ)
   | .rt av=>P (.rt av)))
  (fin:∀X σ,J xs.length X σ->P (.nx X σ))
  (hs:∀x,QN iter c.env x=pure x:=by intro _;rfl):X1 c (.For tg iter body [] pos) P:=λYc s₀ s E ht f=>by
 refine wpAny_For (p s E _ (f.at ht) λI W St Mid s' k hW it st0 ht'=>?_) hs
 have f₁:Fm c (W++Yc) s₀ s':=f.hide k hW
 have hw0:∀b∈W,s₀.heap.get? b=Qg/\b≠c.env.locals/\b∉c.env.cells.map (·.2)/\b∉Yc:=λb hb=>by
  have nl:∀y∈c.X++c.Yf Yc,b≠y:=λy hy e=>by
   (refine jd (f.live y hy) ?_;intro o ho);rw [<-e,(hW b hb).1]at ho;exact no1 ho
  refine⟨?_,λe=>nl _ (Q7 _ (.head _)) e,λm=>nl b (Q7 _ (.tail _ (Q8 _ m))) rfl,λm=>nl b (Q7 _ (.tail _ (Q7 _ m))) rfl⟩
  cases q:s₀.heap.get? b with
  | none=>rfl
  | some o=>have:=jr f.kept b o q;rw [(hW b hb).1]at this;exact no1 this
 refine YX (λn s₁=>∃i X σ,n=xs.length+1-i/\i<=xs.length/\J i X σ/\(∀x∈X,x∈c.X∨s.heap.get? x=Qg)/\Grow c s s₁/\Fm (c.up X σ) (W++Yc) s₀ s₁/\St i s₁.heap/\1<=s₁.toks) ?_ (xs.length+1) (i3_8 0 c.X c.σ rfl (Vj _) h0 (λ_ h=>.inl h) (Grow.of k) f₁ st0 ht')
 (intro n s₁ q_;refine e3_8 q_ ?_;clear q_;rintro i X σ rfl hi hJ hX g fm st ht₁)
 have keepG:∀ {s₁:Qi} {h':QU} {tk:Nat},Grow c s s₁->(∀b o,b∉W->s₁.heap.get? b=Qf o->h'.get? b=Qf o)->Grow c s { s₁ with heap:=h',toks:=tk }:=λ{s₁ h' tk} g hk=>by
  (refine jn g ?_;clear g;rintro h₁ t₁ rfl kk)
  exact⟨h',tk,rfl,λb o hb e=>hk b o (λm=>by rw [(hW b m).1]at e;exact no1 e) (kk b o hb e)⟩
 by_cases hlt:i<xs.length
 ·obtain⟨av,hav⟩:∃av,xs[i]?=Qf av:=⟨_,Qu hlt⟩
  (refine jc (step i av X σ hav hJ) ?_;intro σ' ta xb)
  refine QB (n:=1) ht₁ (it.item i av s₁ _ _ hav st λv h₁ tk₁ mid rv hk₁ ht₂=>?_)
  refine it.go i av v _ _ _ mid λh₂ st₂ hk₂=>?_
  have hk₁₂:∀b o,b∉W->s₁.heap.get? b=Qf o->h₂.get? b=Qf o:=λb o hb e=>hk₂ b o hb (hk₁ b o hb e)
  have fm₂:=Fm.iter (c:=c.up X σ) (tk:=tk₁) fm hw0 hk₁₂ (λ_ h=>h) (it.live _ _ st₂)
  have g₂:=keepG (tk:=tk₁) g hk₁₂
  refine QB (n:=1) ht₂ (ta s₀ _ _ _ v fm₂ (rv _) λs₃ g₃ f₃ ht₃=>?_)
  refine QB (n:=1) ht₃ (Qz (xb s₀ s₃ _ ht₃ f₃) (λfl s₄ p ht₄=>?_) λ_ _ y=>y)
  have g₂₃:Grow c s s₃:=Grow.trans (c:=c) (X:=X) (σ:=σ) hX g₂ g₃
  (refine jw p ?_;intro g₄ q)
  have G:Grow c s s₄:=Grow.trans (c:=c) (X:=X) (σ:=σ') hX g₂₃ g₄
  have nW:∀b∈W,b∉Own (c.up X σ'):=λb hb m=>by
   unfold Own at m
   rcases Qa m with m | m
   ·exact f₃.nodup.2 b m (Q8 _ hb)
   ·rcases Qb m with m | m
    ·exact(hw0 b hb).2.1 m
    ·exact(hw0 b hb).2.2.1 m
  have stN:St (i+1) s₄.heap:=it.frame (i+1) h₂ s₄.heap st₂ λb hb o e=>by
   have g₃₄:Grow (c.up X σ') { s₁ with heap:=h₂,toks:=tk₁ } s₄:=Grow.trans (c:=c.up X σ') (X:=X) (σ:=σ') (λ_ h=>.inl h) g₃ g₄
   exact g₃₄.get b o (nW b hb) e
  have newX:∀ {X':List Qk},(∀x∈X',x∈X∨s₃.heap.get? x=Qg)->(∀x∈X',x≠c.env.locals/\x∉c.env.cells.map (·.2))->∀x∈X',x∈c.X∨s.heap.get? x=none:=λ{X'} h1 h2 x hx=>by
   rcases h1 x hx with q | q
   ·exact hX x q
   ·by_cases m:x∈c.X
    ·exact .inl m
    ·right
     cases e:s.heap.get? x with
     | none=>rfl
     | some o =>
      have:=g₂₃.get x o (λmo=>by
       rcases Qa mo with mo | mo
       ·exact m mo
       ·rcases Qb mo with mo | mo
        ·exact(h2 x hx).1 mo
        ·exact(h2 x hx).2 mo) e
      rw [q]at this;exact no1 this
  have ow:∀ {X':List Qk} {σ'':List (Option AV)},Fm (c.up X' σ'') (W++Yc) s₀ s₄->∀x∈X',x≠c.env.locals/\x∉c.env.cells.map (·.2):=λfm' x hx=>⟨(fm'.own x hx).2.1,(fm'.own x hx).2.2.1⟩
  cases fl with
  | next =>
   (refine jn q ?_;intro X' σ₄ j sy)
   exact⟨xs.length+1-(i+1),by exact zr1 ‹_›,i3_8 (i+1) X' σ₄ rfl hlt j (newX sy.1 (ow sy.2)) G sy.2 stN ht₄⟩
  | cont =>
   (refine jn q ?_;intro X' σ₄ j sy)
   exact⟨xs.length+1-(i+1),by exact zr1 ‹_›,i3_8 (i+1) X' σ₄ rfl hlt j (newX sy.1 (ow sy.2)) G sy.2 stN ht₄⟩
  | brk =>
   (refine jn q ?_;intro X' σ₄ p sy)
   exact⟨G,X',σ₄,p,newX sy.1 (ow sy.2),sy.2.less⟩
  | ret v =>
   (refine ye q ?_;intro av p kk r)
   exact⟨G,av,p,kk,r.mono (jE λx hx=>Q7 _ hx)⟩
 ·have hi':i=xs.length:=by exact zr4 ‹_› ‹_›
  subst hi'
  refine it.done s₁ _ _ st λh₁ tk₁ hk₁=>Vm ?_
  have fe:Fm (c.up X σ) ([]++Yc) s₀ { s₁ with heap:=h₁,toks:=tk₁ }:=Fm.iter (c:=c.up X σ) (W':=[]) fm hw0 hk₁ (λ_ h=>nomatch h) (λ_ h=>nomatch h)
  exact⟨keepG g hk₁,X,σ,fin X σ hJ,hX,fe⟩
end
end
section
open PySem.Builtin PySem.Builtin.Str
section
variable {c:Ct} {P:Out->Prop}
noncomputable def PF(c:Ct)(e:Expr)(l:List AV):Prop:=∀ ⦃Y:List Qk⦄ (s:Qi) (E:Qe) (Q:Qe),c.At Y s ->
 (∀a vs n s',Vb s s'->1<=s'.toks->(∀b o,s.heap.get? b=Qf o->b<a)->s'.heap.get? a=Qf { cls:=.type "list",data:=.seq vs n }->Reps (hid (a::(c.X++Y)) s'.heap) l vs.toList->Q (.ref a) s')->Qo c.M c.A (eval e c.env) Q E s
theorem le_new{X:List Qk}{h:QU}{o:Obj}:Le (hid X h) (hid (h.objs.size::X) (h.push o)):=λb ob e=>by
 have e1:=j9 e
 refine jl (j7 _ _ e1) λm=>?_
 rcases Qb m with rfl | m
 ·rw [jm]at e1;exact no1 e1
 ·unfold hid at e;rw [if_pos m]at e;exact no1 e
theorem PF.addL{e f:Expr}{pos:Pos}{l l':List AV}(p:PSq c e "list" l)(q:PSq c f "list" l')(hz:l.length+l'.length<=Qt):PF c (.BinOp e .Add f pos) (l++l'):=λY s E Q x h =>
 wpAny_BinOp (p s E _ x λa vs s₁ k₁ x₁ ho hr=>q s₁ E _ x₁ λb ws s₂ k₂ x₂ ho' hr'=>by
  (refine jW ho ?_;clear ho;rintro⟨cls,dd,dt,sl⟩ n h1 h2 h3)
  (refine jW ho' ?_;clear ho';rintro⟨cls',dd',dt',sl'⟩ n' h1' h2' h3')
  simp only at h2 h3 h2' h3'
  subst h2 h3 h2' h3'
  have e1:=jr k₂ _ _ h1
  refine concat_meets ⟨_,e1,rfl⟩ ⟨_,h1',rfl⟩ noFill_list_add seq_list_add PySem.F.slot_list_add PySem.F.entry_list_add (PySem.F.args_list_add_2 _ _) (list_addW a b vs ws n n' dd dd' sl sl' ?_) ⟨e1,h1',?_⟩
  ·rw [<-VZ,<-VZ,hr.length,hr'.length];exact hz
  ·refine h s₂.heap.objs.size (vs++ws) 0 _ (ktr k₁ (ktr k₂ (ja j7))) x₂.tk (λb o e=>Vo (jr (ktr k₁ k₂) _ _ e)) (Qs _ rfl) ?_
   rw [XJ]
   exact((hr.mono (ju (jr k₂))).append hr').mono le_new)
theorem X1.ownF(V:Vars c)(i:Nat){x:Qd}{l:List AV}{pos' pos:Pos}{value:Expr}(hi:c.vars[i]?=Qf x)(p:PF c value l)(h:∀a,P (.nx (c.X++[a]) (c.σ.set i (Qf (.own c.X.length l)))))
  (hsw:VU value (Qf (.Name x pos')) pos.line c.env=pure false:=by rfl):X1 c (.Assign [.Name x pos'] value pos) P:=λYc s₀ s E ht f =>
 X4 (p s E _ (f.at ht) λa vs n s₁ k₁ ht₁ hdead hnew hr=>by
  have na:∀y∈c.X++c.Yf Yc,y≠a:=λy hy e=>by
   (refine jd (f.live y hy) ?_;intro o ho);exact XT _ (e▸hdead y o ho)
  have f₁:Fm c ([a]++Yc) s₀ s₁:=f.hide k₁ λb hb=>by
   obtain rfl:=Q9 hb
   refine⟨?_,_,hnew⟩
   cases e:s.heap.get? b with
   | none=>rfl
   | some o=>exact absurd (hdead b o e) (XT _)
  have eqH:∀y,y∈c.X++[a]++c.Yf Yc↔y∈c.X++c.Yf ([a]++Yc):=λy=>by
   simp only [XH,Ct.Yf,QD,QG,or_false]
   constructor
   ·rintro((h | h) | h | h | h)
    ·exact .inl h
    ·exact .inr (.inr (.inr (.inl h)))
    ·exact .inr (.inl h)
    ·exact .inr (.inr (.inl h))
    ·exact .inr (.inr (.inr (.inr h)))
   ·rintro(h | h | h | h | h)
    ·exact .inl (.inl h)
    ·exact .inr (.inl h)
    ·exact .inr (.inr (.inl h))
    ·exact .inl (.inr h)
    ·exact .inr (.inr (.inr h))
  have le:Le (hid (c.X++c.Yf ([a]++Yc)) s₁.heap) (hid (c.X++[a]++c.Yf Yc) s₁.heap):=jE λy hy=>(eqH y).mp hy
  have f₂:Fm (c.up (c.X++[a]) c.σ) Yc s₀ s₁:=by
   (refine jn f₁.fr ?_;intro m cm ic lk)
   refine⟨f₁.base,λy hy=>f₁.old y (Q7 _ hy),λy hy=>?_,⟨Xa.mpr ⟨f₁.nodup.1,by simp,λy hy z hz=>?_⟩,λy hy m=>?_⟩,f₁.cnd,f₁.kind,m,cm,ic,λj y av e e'=>?_⟩
   ·rcases Qa hy with hy | hy
    ·exact f₁.own y hy
    ·obtain rfl:=Q9 hy
     (refine jd (f.live c.env.locals (Q7 _ (.head _))) ?_;intro oL eL)
     exact⟨Qp ic.toInCall.fresh (Vt (hdead _ _ eL)),λe=>na _ (Q7 _ (.head _)) e.symm,λm=>na _ (Q7 _ (.tail _ (Q8 _ m))) rfl,_,hnew⟩
   ·obtain rfl:=Q9 hz
    exact na y (Q8 _ hy)
   ·rcases Qa hy with hy | hy
    ·exact f.nodup.2 y hy m
    ·obtain rfl:=Q9 hy
     exact na _ (Q7 _ (.tail _ (Q7 _ m))) rfl
   ·(refine jc (lk j y av e e') ?_;intro v r q)
    exact⟨v,r.to le λp _ b o e1 e2=>⟨by rw [V5 (QT.mp e1).1];exact e1,e2⟩,q⟩
  have ro:RepO (c.X++[a]) (c.Yf Yc) s₁.heap (.own c.X.length l) (.ref a):=.ofOwn (by simp) hnew (hr.mono (jE λy hy=>by
   rcases Qa hy with hy | hy
   ·rcases Qa hy with hy | hy
    ·exact .tail _ (Q8 _ hy)
    ·obtain rfl:=Q9 hy;exact .head _
   ·exact .tail _ (Q7 _ hy)))
  refine f₂.store (c:=c.up (c.X++[a]) c.σ) ⟨V.nd,V.kd⟩ hi ro λs₂ g f₃=>?_
  have hX:∀x∈c.X++[a],x∈c.X∨s.heap.get? x=none:=λx hx=>by
   rcases Qa hx with hx | hx
   ·exact .inl hx
   ·obtain rfl:=Q9 hx
    right
    cases e:s.heap.get? x with
    | none=>rfl
    | some o=>exact absurd (hdead x o e) (XT _)
  exact⟨(Grow.of k₁).trans (X:=c.X++[a]) (σ:=c.σ) hX g,_,_,h _,hX,f₃⟩) hsw
theorem mapSeq_plain(f:Array Qm->Array Qm)(its:Array Qm)(n:Nat):∃n',Obj.mapSeq f { cls:=.type "list",data:=.seq its n }={ cls:=.type "list",data:=.seq (f its) n' }:=by
 (refine jd (Obj.data_mapSeq (o:={ cls:=.type "list",data:=.seq its n }) rfl f) ?_;intro n' h)
 refine⟨n',?_⟩
 simp only [Obj.mapSeq]at h ⊢
 simpa using h
end

section
variable {prog:QI} {w:Ql} {A:QO} {E:Qe} {s:Qi}
theorem xK{l:Qk}{items:Array Qm}{n:Nat}{k:Int}{t:Tok}{v:Qm}{Q:Unit->Qi->Prop}(ho:s.heap.get? l=Qf { cls:=.type "list",data:=.seq items n })
  (h0:0<=k) (hfit:k<2^63) (hn:k<items.size)
  (hQ:∀h' n',h'.get? l=Qf { cls:=.type "list",data:=.seq (items.setIfInBounds k.toNat v) n' }->V9 l s.heap h'->Q () { s with heap:=h' }) :
  Qo (model prog w) A (setItem (.ref l) (.int k t) v) Q E s:=by
 have hl:s.heap.IsList l items:=⟨_,ho,rfl,n,rfl⟩
 unfold setItem
 try with_reducible refine QS ?_
 first | refine Qh (Qn ?_) | skip
 refine Qh (wpAny_sequenceKey hl.typeIs (by decide) ?_)
 refine Qh (wpAny_callSpecial?_slot (name:=QM "__setitem__") hl.typeIs slot_list_setitem
  (wpAny_call_entry slot_list_setitem hl.typeIs entry_list_setitem ?_ (args_list_setitem _ _ _)))
 show Qo _ _ (Builtin.List.listSubscript? (.int k t) >>= _) _ _ s
 refine Qh (wpAny_listSubscript_int (fitsIndex_of h0 hfit) ?_)
 clear hfit
 (refine jd (Yw h0) ?_;rintro j rfl)
 have hj:j<items.size:=by exact Zm.mp ‹_›
 have hx':items[j]?=Qf items[j]:=VY hj
 show Qo _ _ ((seqItemAt l j >>= λr=>pure (r.map (j,·))) >>= _) _ _ s
 refine Qh (Qh (wpAny_seqItemAt ho rfl (Qn ?_)))
 rw [hx']
 show Qo _ _ (setSeqItemAt l j v >>= _) _ _ s
 (refine jd (Mine.Internal.mapSeq_plain (·.setIfInBounds j v) items n) ?_;intro n' hd')
 have hfin:(s.heap.update l (Obj.mapSeq (·.setIfInBounds j v))).get? l=Qf { cls:=.type "list",data:=.seq (items.setIfInBounds j v) n' }:=by
  rw [VP _ ho (by rw [hd'];rfl),hd']
 refine Qh (wpAny_setSeqItemAt ho rfl ?_)
 first
  | exact Qh (Qn (Qn ⟨.none,rfl,Qn (hQ _ _ hfin (VH ..))⟩))
  | exact Qn ⟨.none,rfl,Qn (hQ _ _ hfin (VH ..))⟩
end
end
section
open PySem.Builtin PySem.Builtin.Str
theorem Reps.set{g:Lk}:∀ {l:List AV} {vs:List Qm} (j:Nat) {a:AV} {v:Qm},Reps g l vs->Rep g a v->Reps g (l.set j a) (vs.set j v)
 | [],_,j,_,_,h,_=>by change _=_ at h;subst h;exact .nil
 | _::_,_,j,_,_,h,r=>by
  (refine jW h ?_;clear h;rintro v' ws rfl h1 h2)
  cases j with
  | zero=>exact .cons r h2
  | succ j=>exact .cons h1 (h2.set j r)
section
variable {c:Ct} {P:Out->Prop}
theorem X1.setItem(i:Nat){x:Qd}{k:Nat}{l:List AV}{av:AV}{value idx:Expr}{np spos pos:Pos}{j:Nat}(hs:c.σ[i]?=Qf (Qf (.own k l)))(p:PE c value av)(q:PE c idx (.int j))(hj:j<l.length)(hz:l.length<=Qt)(hn:(c.σ.set i Qg).all (qR k)=true)
  (h:P (.nx c.X (c.σ.set i (Qf (.own k (l.set j av))))))
  (hk:c.env.scope.kind=.function:=by rfl) (hi:c.vars[i]?=Qf x:=by rfl) (hd:(x==("__debug__" : Qd))=false:=by decide) (hcd:(x==("__classdict__" : Qd))=false:=by decide)
  (hsw:VU value (Qf (.Subscript (.Name x np) idx spos)) pos.line c.env=pure false:=by rfl):X1 c (.Assign [.Subscript (.Name x np) idx spos] value pos) P:=λYc s₀ s E ht f =>
 wpAny_Assign_Subscript (p.use (f.at ht) λv s₁ k₁ x₁ r₁=>K9 i hk hi hs hd hcd x₁ λv' r=>by
  (refine Jx r.asOwn ?_;rintro a vs n rfl hX ho hr)
  refine q.use x₁ λu s₂ k₂ x₂ ru=>?_
  (refine jd (jk ru) ?_;rintro t rfl)
  have hlen:vs.size=l.length:=by rw [<-hr.length];simp
  have hsz:Qt<2^62:=by decide
  refine xK (jr k₂ _ _ ho) (by exact XA _) (by lia) (by lia) λh' n' hg hsb=>?_
  obtain⟨f₂,g₂⟩:=((f.keeps k₁).keeps k₂).put (tk:=s₂.toks) (l':=l.set j av) hs hX hg hsb (by
   rw [Array.toList_setIfInBounds]
   simpa using(hr.mono (ju (jr k₂))).set j (r₁.mono (ju (jr k₂)))) hn
  exact⟨(Grow.of (ktr k₁ k₂)).trans (X:=c.X) (σ:=c.σ) (λ_ h=>.inl h) g₂,c.X,_,h,λ_ h=>.inl h,f₂⟩) hsw
end
end
mutual
noncomputable def toD:AV->Option PyData
 | .none=>Qf .none
 | .bool b=>Qf (.bool b)
 | .int i=>Qf (.int i)
 | .str x=>Qf (.str x)
 | .list l=>(toDs l).map .list
 | .tup l=>(toDs l).map .tuple
 | _=>Qg
noncomputable def toDs:List AV->Option (List PyData)
 | []=>Qf []
 | a::r=>(toD a).bind λd=>(toDs r).map (d::·)
end
theorem JP:toDs []=Qf []:=rfl
theorem JQ{a:AV}{r:List AV}:toDs (a::r)=(toD a).bind λd=>(toDs r).map (d::·):=rfl
theorem Jq{l:List AV}:toD (.list l)=(toDs l).map .list:=rfl
theorem toD_t{l:List AV}:toD (.tup l)=(toDs l).map .tuple:=rfl
theorem toD_i{i:Int}:toD (.int i)=Qf (.int i):=rfl
mutual
theorem Rep.reads{g:Lk}{h:QU}(k:∀a o,g a=Qf o->h.get? a=Qf o):∀ {av:AV} {v:Qm} {d:PyData},toD av=Qf d->Rep g av v->∃as,Reads h v d as
 | .none,v,d,e,r=>by(have q_:=oi e;clear e;subst q_);change _=_ at r;subst r;exact⟨_,.none⟩
 | .bool b,v,d,e,r=>by(have q_:=oi e;clear e;subst q_);change _=_ at r;subst r;exact⟨_,.bool b⟩
 | .int i,v,d,e,r=>by(have q_:=oi e;clear e;subst q_);(refine jd (jk r) ?_;rintro t rfl);exact⟨_,.int i t⟩
 | .str x,v,d,e,r=>by(have q_:=oi e;clear e;subst q_);(refine jd (jj r) ?_;rintro t rfl);exact⟨_,.str x t⟩
 | .list l,v,d,e,r=>by
  (refine jc (Option.map_eq_some_iff.mp e) ?_;clear e;rintro ds e rfl)
  (refine xl (qN r) ?_;rintro a o vs n rfl ho hc hd hr)
  (refine jd (Reps.reads k e hr) ?_;intro as hh)
  exact⟨_,.list (k _ _ ho) hc hd hh⟩
 | .tup l,v,d,e,r=>by
  (refine jc (Option.map_eq_some_iff.mp e) ?_;clear e;rintro ds e rfl)
  (refine xl (kJ r) ?_;rintro a o vs n rfl ho hc hd hr)
  (refine jd (Reps.reads k e hr) ?_;intro as hh)
  exact⟨_,.tuple (k _ _ ho) hc hd hh⟩
 | .raw _,_,_,e,_=>no1 e
 | .own _ _,_,_,e,_=>no1 e
 | .owd _ _ _ _ _,_,_,e,_=>no1 e
 | .rng _ _,_,_,e,_=>no1 e
 | .ins _ _ _,_,_,e,_=>no1 e
 | .fn _ _ _,_,_,e,_=>no1 e
theorem Reps.reads{g:Lk}{h:QU}(k:∀a o,g a=Qf o->h.get? a=Qf o):∀ {l:List AV} {vs:List Qm} {ds:List PyData},toDs l=Qf ds->Reps g l vs->∃as,ReadsAll h vs ds as
 | [],_,_,e,r=>by(have q_:=oi e;clear e;subst q_);change _=_ at r;subst r;exact⟨_,.nil⟩
 | a::l,_,_,e,r=>by
  obtain⟨d,e1,e⟩:=Option.bind_eq_some_iff.mp e
  (refine jc (Option.map_eq_some_iff.mp e) ?_;clear e;rintro ds e2 rfl)
  (refine jW r ?_;clear r;rintro v vs rfl r1 r2)
  (refine jd (Rep.reads k e1 r1) ?_;intro as h1)
  (refine jd (Reps.reads k e2 r2) ?_;intro bs h2)
  exact⟨_,.cons h1 h2⟩
end
section
variable {c:Ct}
theorem yg{n:Nat}{a b:AV}{da db:PyData}(room:Room n c.A)(ea:toD a=Qf da)(eb:toD b=Qf db)(ha:VR da=true)(hb:VR db=true):jX c .Eq a b (Xh da db):=λY s E v u x rv ru=>by
 (refine jd (rv.reads (λa o e=>j9 e) ea) ?_;intro as ra)
 (refine jd (ru.reads (λa o e=>j9 e) eb) ?_;intro bs rb)
 exact SeqAt.compareEq_shaped ra rb ha hb (by have:=room.units;exact zr23 ‹_› rfl) ⟨kU,rfl⟩
theorem zC{n:Nat}{a b:AV}{da db:PyData}(room:Room n c.A)(ea:toD a=Qf da)(eb:toD b=Qf db)(ha:VR da=true)(hb:VR db=true):jX c .NotEq a b (!PyData.eqv da db):=λY s E v u x rv ru=>by
 (refine jd (rv.reads (λa o e=>j9 e) ea) ?_;intro as ra)
 (refine jd (ru.reads (λa o e=>j9 e) eb) ?_;intro bs rb)
 exact SeqAt.compareNe_shaped ra rb ha hb (by have:=room.units;exact zr23 ‹_› rfl) ⟨kU,rfl⟩
end
noncomputable def KW(w:Ql):Frag:=[(83,o_78 w.params),(82,o_77 w.params),(38,o_33 w.params),(45,o_40 w.params),(52,o_47 w.params),(59,o_54 w.params),(73,o_68 w.params),(2,Yz w.params)]
theorem ky(w:Ql):(KW w).In (Bh w):=Frag.in_of (as:=[83,82,38,45,52,59,73,2]) rfl (by kernel_rfl)
theorem kN(w:Ql):Kl (KW w) 83:=⟨by kernel_rfl,by kernel_rfl,by kernel_rfl,by kernel_rfl,by kernel_rfl⟩
theorem kw_keep(w:Ql):keepIn (KW w) (.ref 83)=true:=by kernel_rfl
theorem kw_init(w:Ql):findIn (KW w) (.ref 83) "__init__"=Qf (Qf (.ref 38)):=by kernel_rfl
theorem kw_fn38(w:Ql):typeIn (KW w) (.ref 38)=Qf (.type "function"):=by kernel_rfl
theorem kw_less(w:Ql):findIn (KW w) (.ref 83) "less"=Qf (Qf (.ref 73)):=by kernel_rfl
theorem J3(w:Ql):readsIn (KW w) 83 (.type "type")=true:=by kernel_rfl
theorem kw_S(w:Ql):findCls (KW w) (.ref 83) (.type "type") "S"=Qf (.val (.str " " 209)):=by kernel_rfl
noncomputable abbrev F59(w:Ql):FuncData:=vx (o_54 w.params)
theorem n59(w:Ql):Names (F59 w) ["self","other"]:=.of (by kernel_rfl)
noncomputable abbrev wsN:List Qd:=["raw","n","nt","norm","is_simple"]
noncomputable abbrev wsV(x:Qd)(n nt:Int)(count:List Int)(b:Int)(simple:Bool):AV:=.ins 83 wsN [.str x,.int n,.int nt,.tup [.tup (iL count),.int b],.bool simple]
theorem kw_f(w:Ql):∀x∈wsN,findIn (KW w) (.ref 83) x=Qf none:=by
 intro x hx
 simp only [wsN,QD,QG,or_false]at hx
 rcases hx with rfl | rfl | rfl | rfl | rfl<;>kernel_rfl
theorem yn:∀l:List Int,toDs (iL l)=Qf (l.map .int)
 | []=>rfl
 | i::l=>congrArg (Option.map (PyData.int i::·)) (yn l)
theorem xy:∀l:List Int,Xq (l.map .int)=true/\Xf (l.map .int)<=1
 | []=>⟨rfl,by simp [Xf]⟩
 | i::l=>by
  (refine jw (xy l) ?_;intro a b)
  refine⟨by simp [Xq,Xr,a],?_⟩
  simp only [QP,Xf,XQ]
  assumption
theorem Jg:∀l l':List Int,Yq (l.map .int) (l'.map .int)=decide (l=l')
 | [],[]=>rfl
 | [],_::_=>rfl
 | _::_,[]=>rfl
 | i::l,j::l'=>by
  simp only [QP,Yq,Xh,Jg l l',Xw]
  by_cases h:i=j<;>simp [h]
noncomputable def zj(count:List Int)(b:Int):PyData:=.tuple [.tuple (count.map .int),.int b]
theorem zH(count:List Int)(b:Int):toD (.tup [.tup (iL count),.int b])=Qf (zj count b):=by
 simp only [toD_t,JQ,JP,toD_i,yn,Option.map_some,Option.bind_some,zj]
theorem vP(count:List Int)(b:Int):VR (zj count b)=true:=by
 (refine jw (xy count) ?_;intro h1 h2)
 simp only [VR,zj,Xr,Xq,h1,XQ,Xf,Bool.and_self,Bool.true_and,decide_eq_true_eq]
 lia
theorem eqv_norm(c c':List Int)(b b':Int):Xh (zj c b) (zj c' b')=(decide (c=c')&&decide (b=b')):=by
 simp only [zj,Xh,Yq,Jg,Z1]
 by_cases h:b=b'<;>simp [h]
theorem d59(w:Ql):∃body,Df (Bh w) 59 (o_54 w.params) (F59 w) body ["self","other"] []/\∀A n prog x n1 t1 c1 b1 s1 y n2 t2 c2 b2 s2,Room (n+1) A->∀L,
  XS (cx (F59 w) 59 ["self","other"] prog w A L [] [Qf (wsV x n1 t1 c1 b1 s1),Qf (wsV y n2 t2 c2 b2 s2)]) body (λo=>o=.rt (.bool (decide (c1=c2)&&decide (b1=b2)))):=by
 refine⟨_,⟨by kernel_rfl,rfl,rfl,rfl,ji (by kernel_rfl),n59 w,λvs h=>?_⟩,?_⟩
 ·(refine jN (qc h) ?_;rintro u v rfl);rfl
 ·intro A n prog x n1 t1 c1 b1 s1 y n2 t2 c2 b2 s2 room L
  exact XS.cons (X1.ret (.cmp (.attr (ky w) (kN w) (.v 0 rfl) 3 rfl rfl (by decide) (kw_f w _ (by decide))) (.attr (ky w) (kN w) (.v 1 rfl) 3 rfl rfl (by decide) (kw_f w _ (by decide))) (eqv_norm c1 c2 b1 b2▸yg room.deeper (zH _ _) (zH _ _) (vP _ _) (vP _ _))) rfl)
section
variable {c:Ct}
theorem PE.lenT{f e:Expr}{pos:Pos}{l:List AV}(p:PE c f (.raw (.builtin "len")))(q:PSq c e "tuple" l)(hz:l.length<=Qt)
  (hs:Qv [e] c.env=[(false,eval e c.env)]:=by rfl)
  (he:eval (.Call f [e] [] pos) c.env=(do VL pos (<-eval f c.env) [] (VO pos (Qv [e] c.env)) (VE pos (V3 [] c.env))):=by rfl):PE c (.Call f [e] [] pos) (.int l.length):=λY s E x=>by
 rw [he,hs]
 refine Qh (p.use x λv s₁ k₁ x₁ r₁=>?_)
 obtain rfl:=jb r₁
 refine Xm rfl (je rfl (Qq (q s₁ E _ x₁ λa vs s₂ k₂ x₂ ho hr=>QK ?_)))
 (refine jW ho ?_;intro o n h1 h2 h3)
 have hlen:vs.size=l.length:=by rw [<-hr.length];simp
 have hsz:Qt<2^62:=by decide
 refine PyProof.Rows.len_tuple ⟨o,h1,h2,n,h3⟩ (by rw [hlen];exact zr41 ‹_› rfl) ⟨ktr k₁ (ktr k₂ jh),?_⟩
 rw [hlen];exact v7
end
theorem yL(w:Ql):mg w "len"=none:=by kernel_rfl
theorem yB(w:Ql):mb w "len"=Qf (.builtin "len"):=by kernel_rfl
noncomputable abbrev F45(w:Ql):FuncData:=vx (o_40 w.params)
theorem n45(w:Ql):Names (F45 w) ["self","count","trailing"]:=.of (by kernel_rfl)
theorem d45(w:Ql):∃body,Df (Bh w) 45 (o_40 w.params) (F45 w) body ["self"] ["count","trailing"]/\∀A n prog x n1 t1 c1 b1 s1,Room (n+1) A->c1.length<=1000->∀L,
  XS (cx (F45 w) 45 ["self","count","trailing"] prog w A L [] [Qf (wsV x n1 t1 c1 b1 s1),Qg,Qg]) body (λo=>o=.rt (.int (max ((c1.length:Int)-1) b1))):=by
 refine⟨_,⟨by kernel_rfl,rfl,rfl,rfl,ji (by kernel_rfl),n45 w,λvs h=>?_⟩,?_⟩
 ·(refine jd (jQ h) ?_;rintro u rfl);rfl
 ·intro A n prog x n1 t1 c1 b1 s1 room hl L
  have V:=(n45 w).cV (a:=45) (prog:=prog) (w:=w) (A:=A) (L:=L)
  have G:=(n45 w).cG (a:=45) (w:=w) (prog:=prog) (L:=L) room rfl rfl
  refine XS.cons (X1.tupA (V _ _) room.1 (.cons 1 rfl (.cons 2 rfl .nil)) (.attr (ky w) (kN w) (.v 0 rfl) 3 rfl rfl (by decide) (kw_f w _ (by decide))) ?_)
  show XS (cx (F45 w) 45 ["self","count","trailing"] prog w A L [] [Qf (wsV x n1 t1 c1 b1 s1),Qf (.tup (iL c1)),Qf (.int b1)]) _ _
  refine XS.cons (X1.ret (.callB (.b (G _ _) (g_max w) (m_max w)) (.cons (.sub (.lenT (.b (G _ _) (yL w) (yB w)) (.tup (.v 1 rfl)) (by simp [Qt];exact zq1 ‹_› rfl)) .int) (.cons (.v 2 rfl) .nil)) (Jl room.deeper.1)) ?_)
  simp
noncomputable abbrev F52(w:Ql):FuncData:=vx (o_47 w.params)
theorem n52(w:Ql):Names (F52 w) ["self","tabsize","count","trailing","il","i"]:=.of (by kernel_rfl)
noncomputable def ilK(c:List Int)(t:Int):Nat->Int
 | 0=>0
 | k+1=>ilK c t k+(t+k)/t*c.getD (t+k).toNat 0
theorem ilK1{c:List Int}{t:Int}{k:Nat}:ilK c t (k+1)=ilK c t k+(t+k)/t*c.getD (t+k).toNat 0:=rfl
noncomputable def vF(c:List Int)(b nt t:Int):Int:=b+t*(ilK c t ((c.length:Int)-t).toNat+nt)
theorem Kj{a b:Int}(h:a.natAbs<2^40):IntMulOk a b:=IntMulOk.of_left (by
 unfold YW
 split
 ·exact Vj _
 ·rename_i h0
  have h1:a.natAbs≠0:=λq=>h0 (by simpa using q)
  have:=(Nat.log2_lt h1).mpr h
  exact zq1 ‹_› rfl)
theorem d52(w:Ql):∃body,Df (Bh w) 52 (o_47 w.params) (F52 w) body ["self","tabsize"] ["count","trailing","il","i"]/\∀A n prog x n1 nt c1 b1 s1 t,Room (n+1) A->c1.length<=1000->1<=t->t<=2000->∀L,
  XS (cx (F52 w) 52 ["self","tabsize","count","trailing","il","i"] prog w A L [] [Qf (wsV x n1 nt c1 b1 s1),Qf (.int t),Qg,Qg,Qg,Qg]) body (λo=>o=.rt (.int (vF c1 b1 nt t))):=by
 refine⟨_,⟨by kernel_rfl,rfl,rfl,rfl,ji (by kernel_rfl),n52 w,λvs h=>?_⟩,?_⟩
 ·(refine jN (qc h) ?_;rintro u v rfl);rfl
 ·intro A n prog x n1 nt c1 b1 s1 t room hl ht1 ht2 L
  have V:=(n52 w).cV (a:=52) (prog:=prog) (w:=w) (A:=A) (L:=L)
  have G:=(n52 w).cG (a:=52) (w:=w) (prog:=prog) (L:=L) room rfl rfl
  refine XS.cons (X1.tupA (V _ _) room.1 (.cons 2 rfl (.cons 3 rfl .nil)) (.attr (ky w) (kN w) (.v 0 rfl) 3 rfl rfl (by decide) (kw_f w _ (by decide))) ?_)
  refine XS.cons (X1.assign (V _ _) 4 rfl .int ?_)
  show XS (cx (F52 w) 52 ["self","tabsize","count","trailing","il","i"] prog w A L [] [Qf (wsV x n1 nt c1 b1 s1),Qf (.int t),Qf (.tup (iL c1)),Qf (.int b1),Qf (.int 0),Qg]) _ _
  refine XS.cons (X1.for (λk σ=>∃z,σ=[Qf (wsV x n1 nt c1 b1 s1),Qf (.int t),Qf (.tup (iL c1)),Qf (.int b1),Qf (.int (ilK c1 t k)),z]) (PI.range2 room.deeper.1 (.b (G _ _) (jz w) (jy w)) (.v 1 rfl) (.lenT (.b (G _ _) (yL w) (yB w)) (.tup (.v 2 rfl)) (by simp [Qt];exact zq1 ‹_› rfl)) (vA (by lia) (by simp;exact zr14 ‹_› rfl))) ⟨_,rfl⟩ ?_ ?_)
  ·(intro k av σ hk q_;refine jd q_ ?_;clear q_;rintro z rfl)
   rw [Qx]at hk
   have hk1:k<((iL c1).length-t:Int).toNat:=by
    by_cases q:k<((iL c1).length-t:Int).toNat
    ·exact q
    ·rw [Xz (by simpa using q)]at hk;exact no1 hk
   rw [VQ hk1]at hk
   (have q_:=oi hk;clear hk;subst q_)
   refine⟨[Qf (wsV x n1 nt c1 b1 s1),Qf (.int t),Qf (.tup (iL c1)),Qf (.int b1),Qf (.int (ilK c1 t k)),Qf (.int (t+k))],TA.name (V _ _) 5 rfl,?_⟩
   have hlen:(iL c1).length=c1.length:=(Qy _)
   have hi:(t+k).toNat<c1.length:=by rw [hlen]at hk1;lia
   refine XS.cons (X1.assign (V _ _) 4 rfl (.add (.v 4 rfl) (.mul (.div (.v 5 rfl) (.v 1 rfl) (by assumption) (VM (by exact zr20 ‹_› ‹_› rfl))) (.itemT (.tup (.v 2 rfl)) (.v 5 rfl) (t+k).toNat (by rw [if_neg (by exact zr50 ‹_›)];lia) (by rw [Qx,Qu hi];rfl) (by lia)) (Kj ?_))) ?_)
   ·have h1:0<=(t+k)/t:=Int.ediv_nonneg (by exact zr49 ‹_›) (by exact zr51 ‹_›)
    have h2:(t+k)/t<=t+k:=Int.ediv_le_self _ (by exact zr49 ‹_›)
    lia
   ·refine XS.nil ⟨rfl,Qf (.int (t+k)),?_⟩
    simp [ilK1,hi]
  ·(intro σ q_;refine jd q_ ?_;clear q_;rintro z rfl)
   refine XS.cons (X1.ret (.add (.v 3 rfl) (.mul (.v 1 rfl) (.add (.v 4 rfl) (.attr (ky w) (kN w) (.v 0 rfl) 2 rfl rfl (by decide) (kw_f w _ (by decide)))) (Kj (by exact zr20 ‹_› ‹_› rfl)))) ?_)
   simp [vF]
structure Wv where
 x:Qd
 n:Int
 nt:Int
 c:List Int
 b:Int
 s:Bool
noncomputable abbrev Wv.av(v:Wv):AV:=wsV v.x v.n v.nt v.c v.b v.s
noncomputable def Wv.ok(v:Wv):Prop:=v.c.length<=1000/\v.b<=1000
section
variable {w:Ql} {prog:QI} {A:QO} {n:Nat}
theorem cal45(room:Room (n+1) A)(v:Wv)(h:v.ok):Cal prog w (Bh w) A (.ref 45) [v.av] (.int (max ((v.c.length:Int)-1) v.b)):=by
 (refine jc (d45 w) ?_;intro body D k)
 exact D.cal room rfl λL=>k A n prog _ _ _ _ _ _ room h.1 L
theorem cal52(room:Room (n+1) A)(v:Wv)(h:v.ok){t:Int}(h1:1<=t)(h2:t<=2000):Cal prog w (Bh w) A (.ref 52) [v.av,.int t] (.int (vF v.c v.b v.nt t)):=by
 (refine jc (d52 w) ?_;intro body D k)
 exact D.cal room rfl λL=>k A n prog _ _ _ _ _ _ _ room h.1 h1 h2 L
theorem cal59(room:Room (n+1) A)(v u:Wv):Cal prog w (Bh w) A (.ref 59) [v.av,u.av] (.bool (decide (v.c=u.c)&&decide (v.b=u.b))):=by
 (refine jc (d59 w) ?_;intro body D k)
 exact D.cal room rfl λL=>k A n prog _ _ _ _ _ _ _ _ _ _ _ _ room L
end
theorem kw_m45(w:Ql):findIn (KW w) (.ref 83) "longest_run_of_spaces"=Qf (Qf (.ref 45)):=by kernel_rfl
theorem kw_m52(w:Ql):findIn (KW w) (.ref 83) "indent_level"=Qf (Qf (.ref 52)):=by kernel_rfl
theorem kw_m59(w:Ql):findIn (KW w) (.ref 83) "equal"=Qf (Qf (.ref 59)):=by kernel_rfl
theorem kw_t45(w:Ql):typeIn (KW w) (.ref 45)=Qf (.type "function"):=by kernel_rfl
theorem kw_t52(w:Ql):typeIn (KW w) (.ref 52)=Qf (.type "function"):=by kernel_rfl
theorem kw_t59(w:Ql):typeIn (KW w) (.ref 59)=Qf (.type "function"):=by kernel_rfl
theorem kw_t73(w:Ql):typeIn (KW w) (.ref 73)=Qf (.type "function"):=by kernel_rfl
theorem b_45(w:Ql):(Bh w).get? 45=Qf (o_40 w.params):=by kernel_rfl
theorem b_52(w:Ql):(Bh w).get? 52=Qf (o_47 w.params):=by kernel_rfl
theorem b_59(w:Ql):(Bh w).get? 59=Qf (o_54 w.params):=by kernel_rfl
theorem b_73(w:Ql):(Bh w).get? 73=Qf (o_68 w.params):=by kernel_rfl
section
variable {w:Ql} {c:Ct} {n:Nat}
theorem PE.wa{e:Expr}{pos:Pos}{v:Wv}(hB:c.B=Bh w)(p:PE c e v.av)(i:Nat){name:Qd}{av:AV}(hn:wsN[i]?=Qf name)(hl:[AV.str v.x,.int v.n,.int v.nt,.tup [.tup (iL v.c),.int v.b],.bool v.s][i]?=Qf av)(hv:qV av=true:=by rfl)
  (he:eval (.Attribute e name pos) c.env=(do
   let o <-eval e c.env
   Xy pos.atName
   let r <-Zz [o] (Zs o name true)
   YM e o r
   pure r):=by with_unfolding_all rfl):PE c (.Attribute e name pos) av :=
 .attr (hB▸ky w) (kN w) p i hn hl (by decide) (kw_f w _ (QE hn)) hv he
end
noncomputable def xq(v:Wv):Int:=max ((v.c.length:Int)-1) v.b
noncomputable def indW(v:Wv)(t:Int):Int:=vF v.c v.b v.nt t
noncomputable def kh(u v:Wv):Bool:=if v.n<=u.n then false else if(u.s&&v.s)=true then decide (u.nt<=v.nt)else(Qj (max (xq u) (xq v)+1+1-2).toNat).all λi=>decide (indW u (2+i)<indW v (2+i))
noncomputable abbrev F73(w:Ql):FuncData:=vx (o_68 w.params)
theorem n73(w:Ql):Names (F73 w) ["self","other","n","ts"]:=.of (by kernel_rfl)
theorem Q2{k m:Nat}{f:Nat->Bool}(h:k<m)(hf:f k=false):(Qj m).all f=false:=by
 rw [List.all_eq_false];exact⟨k,Xd.mpr h,by simp [hf]⟩
theorem d73(w:Ql):∃body,Df (Bh w) 73 (o_68 w.params) (F73 w) body ["self","other"] ["n","ts"]/\∀A n prog (u v:Wv),Room (n+3) A->u.ok->v.ok->∀L,
  XS (cx (F73 w) 73 ["self","other","n","ts"] prog w A L [] [Qf u.av,Qf v.av,Qg,Qg]) body (λo=>o=.rt (.bool (kh u v))):=by
 refine⟨_,⟨by kernel_rfl,rfl,rfl,rfl,ji (by kernel_rfl),n73 w,λvs h=>?_⟩,?_⟩
 ·(refine jN (qc h) ?_;rintro u v rfl);rfl
 ·intro A n prog u v room hu hv L
  have V:=(n73 w).cV (a:=73) (prog:=prog) (w:=w) (A:=A) (L:=L)
  have G:=(n73 w).cG (a:=73) (w:=w) (prog:=prog) (L:=L) room rfl rfl
  refine XS.cons (X1.ite (.cmp (.wa rfl (.v 0 rfl) 1 rfl rfl) (.wa rfl (.v 1 rfl) 1 rfl rfl) (jV (k:=decide (v.n<=u.n)) .GtE rfl)) (λh1=>?_) λh1=>?_)
  ·exact XS.cons (X1.ret .bool (by simp only [decide_eq_true_eq]at h1;simp [kh,h1]))
  refine XS.nil ?_
  simp only [decide_eq_false_iff_not]at h1
  refine XS.cons (X1.ite (b:=u.s&&(v.s&&true)) (.and (.val (.wa rfl (.v 0 rfl) 4 rfl rfl)) λ_=>.and (.val (.wa rfl (.v 1 rfl) 4 rfl rfl)) λ_=>.and_nil) (λh2=>?_) λh2=>?_)
  ·exact XS.cons (X1.ret (.cmp (.wa rfl (.v 0 rfl) 2 rfl rfl) (.wa rfl (.v 1 rfl) 2 rfl rfl) (jV (k:=decide (u.nt<=v.nt)) .LtE rfl)) (by rw [Z1]at h2;simp only [kh,if_neg h1,h2,if_true]))
  refine XS.nil ?_
  rw [Z1]at h2
  refine XS.cons (X1.assign (V _ _) 2 rfl (.add (.callB (.b (G _ _) (g_max w) (m_max w)) (.cons (.meth (ky w) (kN w) (.v 0 rfl) .nil (kw_m45 w) (kw_t45 w) (by decide) (b_45 w) rfl (cal45 room.deeper u hu)) (.cons (.meth (ky w) (kN w) (.v 1 rfl) .nil (kw_m45 w) (kw_t45 w) (by decide) (b_45 w) rfl (cal45 room.deeper v hv)) .nil)) (Jl room.deeper.1)) .int) ?_)
  have hru:xq u<=1000:=by have:=hu.1;have:=hu.2;simp only [xq];lia
  have hrv:xq v<=1000:=by have:=hv.1;have:=hv.2;simp only [xq];lia
  have hru':-1<=xq u:=by simp only [xq];lia
  show XS (cx (F73 w) 73 ["self","other","n","ts"] prog w A L [] [Qf u.av,Qf v.av,Qf (.int (max (xq u) (xq v)+1)),Qg]) _ _
  have res:∀k,k<(max (xq u) (xq v)+1+1-2).toNat->¬indW u (2+k)<indW v (2+k)->kh u v=false:=λk hk hlt=>by
   simp only [kh,if_neg h1,h2,Zd,if_false]
   exact Q2 hk (by simpa using hlt)
  refine XS.cons (X1.for (λk σ=>(∀i,i<k->indW u (2+i)<indW v (2+i))/\∃z,σ=[Qf u.av,Qf v.av,Qf (.int (max (xq u) (xq v)+1)),z]) (PI.range2 room.deeper.1 (.b (G _ _) (jz w) (jy w)) .int (.add (.v 2 rfl) .int) (vA (by decide) (by lia))) ⟨λ_ h=>absurd h (Nat.not_lt_zero _),_,rfl⟩ ?_ ?_)
  ·rintro k av σ hk ⟨hlt,z,rfl⟩
   rw [Qx]at hk
   have hk1:k<(max (xq u) (xq v)+1+1-2).toNat:=by
    by_cases q:k<(max (xq u) (xq v)+1+1-2).toNat
    ·exact q
    ·rw [Xz (by simpa using q)]at hk;exact no1 hk
   rw [VQ hk1]at hk
   (have q_:=oi hk;clear hk;subst q_)
   refine⟨[Qf u.av,Qf v.av,Qf (.int (max (xq u) (xq v)+1)),Qf (.int (2+k))],TA.name (V _ _) 3 rfl,?_⟩
   refine XS.cons (X1.ite (.cmp (.meth (ky w) (kN w) (.v 0 rfl) (.cons (.v 3 rfl) .nil) (kw_m52 w) (kw_t52 w) (by decide) (b_52 w) rfl (cal52 room.deeper u hu (by lia) (by lia))) (.meth (ky w) (kN w) (.v 1 rfl) (.cons (.v 3 rfl) .nil) (kw_m52 w) (kw_t52 w) (by decide) (b_52 w) rfl (cal52 room.deeper v hv (by lia) (by lia))) (jV (k:=decide (indW v (2+k)<=indW u (2+k))) .GtE rfl)) (λh3=>?_) λh3=>?_)
   ·refine XS.cons (X1.ret .bool ?_)
    simp only [decide_eq_true_eq]at h3
    rw [res k hk1 (by exact Int.not_lt.mpr ‹_›)]
   ·simp only [decide_eq_false_iff_not]at h3
    refine XS.nil (XS.nil ⟨rfl,λi hi=>?_,_,rfl⟩)
    by_cases q:i=k
    ·subst q;exact Int.not_le.mp ‹_›
    ·exact hlt i (by exact zr5 ‹_› ‹_›)
  ·rintro σ ⟨hlt,z,rfl⟩
   refine XS.cons (X1.ret .bool ?_)
   simp only [Qy,Vu]at hlt
   simp only [kh,if_neg h1,h2,Zd,if_false]
   congr 2
   rw [eq_comm,VV]
   intro i hi
   exact decide_eq_true (hlt i (Qc hi))
theorem cal73{w:Ql}{prog:QI}{A:QO}{n:Nat}(room:Room (n+3) A)(u v:Wv)(hu:u.ok)(hv:v.ok):Cal prog w (Bh w) A (.ref 73) [u.av,v.av] (.bool (kh u v)):=by
 (refine jc (d73 w) ?_;intro body D k)
 exact D.cal room rfl λL=>k A n prog _ _ room hu hv L
section
variable {c:Ct} {P:Out->Prop}
theorem X1.assign3(V:Vars c)(i j k:Nat){x y z:Qd}{p1 p2 p3 pos:Pos}{value:Expr}{av:AV}(hi:c.vars[i]?=Qf x)(hj:c.vars[j]?=Qf y)(hk:c.vars[k]?=Qf z)(p:PE c value av)
  (h:P (.nx c.X (((c.σ.set i (Qf av)).set j (Qf av)).set k (Qf av)))) (hw:Xl [.Name x p1,.Name y p2,.Name z p3] value c.env=pure none:=by rfl):X1 c (.Assign [.Name x p1,.Name y p2,.Name z p3] value pos) P:=λYc s₀ s E ht f =>
 wpAny_Assign_three (p.use (f.at ht) λv s₁ k₁ x₁ r =>
  VX ((f.keeps k₁).store V hi (.of r) λs₂ g₂ f₂ =>
   VX (f₂.store (c:=c.st i av) ⟨V.nd,V.kd⟩ hj (.of (r.mono (vG g₂))) λs₃ g₃ f₃ =>
    VX (f₃.store (c:=(c.st i av).st j av) ⟨V.nd,V.kd⟩ hk (.of ((r.mono (vG g₂)).mono (vG (c:=c.st i av) g₃))) λs₄ g₄ f₄ =>
     ⟨(Grow.of k₁).trans (X:=c.X) (σ:=c.σ) (λ_ h=>.inl h) (g₂.trans (X:=c.X) (σ:=(c.st i av).σ) (λ_ h=>.inl h) (g₃.trans (X:=c.X) (σ:=((c.st i av).st j av).σ) (λ_ h=>.inl h) g₄)),c.X,_,h,λ_ h=>.inl h,f₄⟩)))) (by rfl) hw
theorem Post.imp{Yc:List Qk}{s₀ s s':Qi}{P P':Out->Prop}{f:Flow}(k:∀o,P o->P' o)(p:Post c Yc s₀ s P f s'):Post c Yc s₀ s P' f s':=by
 refine⟨p.1,?_⟩
 have:=p.2
 cases f with
 | next=>(refine jn this ?_;intro X σ h st);exact⟨X,σ,k _ h,st⟩
 | brk=>(refine jn this ?_;intro X σ h st);exact⟨X,σ,k _ h,st⟩
 | cont=>(refine jn this ?_;intro X σ h st);exact⟨X,σ,k _ h,st⟩
 | ret v=>(refine jc this ?_;intro av h st);exact⟨av,k _ h,st⟩
theorem X1.mono{st:XM}{P':Out->Prop}(h:X1 c st P)(k:∀o,P o->P' o):X1 c st P':=λYc s₀ s E ht f =>
 Qz (h s₀ s E ht f) (λ_ _ p=>p.imp k) λ_ _ y=>y
theorem X1.thn{st:XM}{rest:List XM}{P':Out->Prop}(Q:List Qk->List (Option AV)->Prop) (h:X1 c st λo=>match o with
  | .nx X σ=>Q X σ
  | _=>False) (k:∀X σ,Q X σ->XS (c.up X σ) rest P'):XS c (st::rest) P' :=
 .cons (h.mono λo=>by
  cases o with
  | nx X σ=>exact k X σ
  | br X σ=>exact Zc
  | ct X σ=>exact Zc
  | rt av=>exact Zc)
theorem PE.tupleL{f e:Expr}{pos:Pos}{l:List AV}(p:PE c f (.raw (.type "tuple")))(q:PSq c e "list" l)(hz:l.length<=Qt)
  (hs:Qv [e] c.env=[(false,eval e c.env)]:=by rfl)
  (he:eval (.Call f [e] [] pos) c.env=(do VL pos (<-eval f c.env) [] (VO pos (Qv [e] c.env)) (VE pos (V3 [] c.env))):=by rfl):PE c (.Call f [e] [] pos) (.tup l):=λY s E x=>by
 rw [he,hs]
 refine Qh (p.use x λv s₁ k₁ x₁ r₁=>?_)
 obtain rfl:=jb r₁
 refine X7 (first:=[]) rfl (je rfl (Qq (q s₁ E _ x₁ λa vs s₂ k₂ x₂ ho hr=>QK ?_)))
 (refine jW ho ?_;intro o n h1 h2 h3)
 have hlen:vs.size=l.length:=by rw [<-hr.length];simp
 refine call_tuple_list ⟨o,h1,h2,n,h3⟩ (λh' hk=>⟨ktr k₁ (ktr k₂ (ja λb o' e=>j7 _ _ (hk b o' e))),?_⟩) (by lia)
 show Exists _
 have lv:∀z∈c.X++Y,∃o,h'.get? z=Qf o:=λz hz=>((x₂.live z hz).imp λo e=>hk _ _ e)
 exact⟨_,_,vs,0,rfl,kx lv rfl,rfl,rfl,hr.mono (ju λb o e=>j7 _ _ (hk b o e))⟩
end
structure Wst where
 n:Int
 nt:Int
 c:List Int
 b:Nat
noncomputable def Wst.grown(a:Wst):List Int:=if a.c.length<=a.b then a.c++Qr (a.b-a.c.length+1) 0 else a.c
noncomputable def Wst.tab(a:Wst):Wst:=⟨a.n+1,a.nt+1,a.grown.set a.b (a.grown.getD a.b 0+1),0⟩
noncomputable def jI:List Nat->Wst->Wst
 | [],a=>a
 | k::r,a=>if k=32 then jI r ⟨a.n+1,a.nt,a.c,a.b+1⟩else if k=9 then jI r a.tab else a
theorem zK{k:Nat}{r:List Nat}{a:Wst}:jI (k::r) a=if k=32 then jI r ⟨a.n+1,a.nt,a.c,a.b+1⟩else if k=9 then jI r a.tab else a:=rfl
noncomputable def xn(x:Qd):Wv :=
 let a:=jI x.cps.toList ⟨0,0,[],0⟩
 ⟨x,a.n,a.nt,a.c,a.b,decide (a.c.length<=1)⟩
theorem kw_C(w:Ql):mg w "Whitespace"=Qf (.ref 83):=by kernel_rfl
theorem kw_T(w:Ql):findCls (KW w) (.ref 83) (.type "type") "T"=Qf (.val (.str "\t" 210)):=by kernel_rfl
theorem g_tuple(w:Ql):mg w "tuple"=none:=by kernel_rfl
theorem m_tuple(w:Ql):mb w "tuple"=Qf (.type "tuple"):=by kernel_rfl
theorem Kx(w:Ql):∀x∈wsN,takerIn (KW w) 83 x=Qf none:=by
 intro x hx
 simp only [wsN,QD,QG,or_false]at hx
 rcases hx with rfl | rfl | rfl | rfl | rfl<;>kernel_rfl
noncomputable abbrev F38(w:Ql):FuncData:=vx (o_33 w.params)
noncomputable abbrev v38:List Qd:=["self","ws","S","T","count","b","n","nt","ch"]
theorem n38(w:Ql):Names (F38 w) v38:=.of (by kernel_rfl)
theorem yI(a:Wst):a.b<a.grown.length/\a.grown.length<=max a.c.length (a.b+1):=by
 unfold Wst.grown
 split
 ·rename_i h
  simp only [QC,Vv]
  rw [<-Nat.add_assoc,Nat.add_sub_cancel' h];exact⟨Yu _,Nat.le_max_right _ _⟩
 ·lia
theorem K1(l:List Nat)(k:Nat)(a:Wst){q:Nat}(h:l[k]?=Qf q):jI (l.drop k) a=if q=32 then jI (l.drop (k+1)) ⟨a.n+1,a.nt,a.c,a.b+1⟩else if q=9 then jI (l.drop (k+1)) a.tab else a:=by
 (refine jd (QT.mp h) ?_;intro hk e)
 rw [X8 hk,e];rfl
theorem rep0(n:Nat):(Qr n [AV.int 0]).flatten=iL (Qr n 0):=by
 induction n with
 | zero=>rfl
 | succ n ih=>simp only [QZ,VC,ih];rfl
theorem PE.lenI{c:Ct}{f e:Expr}{pos:Pos}{l:List Int}(p:PE c f (.raw (.builtin "len")))(q:PSq c e "list" (iL l))(hz:l.length<=Qt)
  (hs:Qv [e] c.env=[(false,eval e c.env)]:=by rfl)
  (he:eval (.Call f [e] [] pos) c.env=(do VL pos (<-eval f c.env) [] (VO pos (Qv [e] c.env)) (VE pos (V3 [] c.env))):=by rfl):PE c (.Call f [e] [] pos) (.int l.length):=by
 have:=PE.len p q (by simpa using hz) hs he
 rwa [Qy]at this
theorem beq1(k m:Nat):((tx [k]).cps.toList==(tx [m]).cps.toList)=decide (k=m):=by
 show([k]==[m])=_
 by_cases h:k=m<;>simp [h]
noncomputable def s38(x:Qd)(px:Qk)(k:Nat)(l:List AV)(b n nt:Int)(z:Option AV):List (Option AV):=[Qf (.owd 0 px 83 ["raw"] [.str x]),Qf (.str x),Qf (.str " "),Qf (.str "\t"),Qf (.own k l),Qf (.int b),Qf (.int n),Qf (.int nt),z]
noncomputable def K38(x:Qd)(px dx:Qk)(X:List Qk)(σ:List (Option AV)):Prop:=∃(a:Wst) (m:Nat) (z:Option AV),X[0]?=Qf dx/\qR 0 z=true/\a.c.length<=900/\a.b<=900/\jI x.cps.toList ⟨0,0,[],0⟩=a/\σ=s38 x px (m+1) (iL a.c) a.b a.n a.nt z
noncomputable def J38(x:Qd)(px dx:Qk)(k:Nat)(X:List Qk)(σ:List (Option AV)):Prop:=∃(a:Wst) (m:Nat) (z:Option AV),X[0]?=Qf dx/\qR 0 z=true/\qR (m+1) z=true/\a.c.length<=k/\a.b<=k/\m+2=X.length/\jI x.cps.toList ⟨0,0,[],0⟩=jI (x.cps.toList.drop k) a/\σ=s38 x px (m+1) (iL a.c) a.b a.n a.nt z
noncomputable def M38(x:Qd)(px dx:Qk)(a:Wst)(z:Option AV)(X:List Qk)(σ:List (Option AV)):Prop:=∃(j:Nat),X[0]?=Qf dx/\j+2=X.length/\σ=s38 x px (j+1) (iL a.grown) a.b (a.n+1) (a.nt+1) z
theorem d38(w:Ql):∃body,Df (Bh w) 38 (o_33 w.params) (F38 w) body ["self","ws"] ["S","T","count","b","n","nt","ch"]/\∀A n prog (x:Qd),Room (n+1) A->x.length<=900->∀L (px dx:Qk),
  XS (cx (F38 w) 38 v38 prog w A L [dx] [Qf (.owd 0 px 83 [] []),Qf (.str x),Qg,Qg,Qg,Qg,Qg,Qg,Qg]) body (λo=>∃X σ,o=.nx X σ/\X[0]?=Qf dx/\σ[0]?=Qf (Qf (.owd 0 px 83 wsN [.str x,.int (xn x).n,.int (xn x).nt,.tup [.tup (iL (xn x).c),.int (xn x).b],.bool (xn x).s]))):=by
 refine⟨_,⟨by kernel_rfl,rfl,rfl,rfl,ji (by kernel_rfl),n38 w,λvs h=>?_⟩,?_⟩
 ·(refine jN (qc h) ?_;rintro u v rfl);rfl
 ·intro A n prog x room hx L px dx
  have V:=(n38 w).cV (a:=38) (prog:=prog) (w:=w) (A:=A) (L:=L)
  have G:=(n38 w).cG (a:=38) (w:=w) (prog:=prog) (L:=L) room rfl rfl
  refine XS.cons (X1.setA 0 (ky w) (kN w) rfl (.v 1 rfl) (by decide) (Kx w _ (by decide)) (by decide) (by rfl) ?_)
  refine XS.cons (X1.tupR (V _ _) room.1 ["S","T"] (.cons 3 rfl (.cons 2 rfl .nil)) (.tup (.cons (.cattr (ky w) (.g (G _ _) (kw_C w)) (J3 w) (kw_S w) rfl (av:=.str " ") λg=>vq) (.cons (.cattr (ky w) (.g (G _ _) (kw_C w)) (J3 w) (kw_T w) rfl (av:=.str "\t") λg=>vq) .nil)) (by decide)) ?_ rfl rfl rfl (by rfl))
  refine XS.cons (X1.own (V _ _) 4 rfl .nil (by decide) λa=>?_)
  refine XS.cons (X1.assign3 (V _ _) 5 6 7 rfl rfl rfl .int ?_)
  show XS (cx (F38 w) 38 v38 prog w A L [dx,a] [Qf (.owd 0 px 83 ["raw"] [.str x]),Qf (.str x),Qf (.str " "),Qf (.str "\t"),Qf (.own 1 (iL [])),Qf (.int 0),Qf (.int 0),Qf (.int 0),Qg]) _ _
  have hsz:x.cps.toList.length<=900:=by rw [VZ];exact hx
  refine X1.thn (K38 x px dx) ?_ ?_
  rotate_left
  ·(intro X σ q_;refine KN q_ ?_;clear q_;rintro a m z hX hz h1 h2 he rfl)
   have hz':qR 0 z=true:=hz
   refine XS.cons (X1.setA 0 (ky w) (kN w) rfl (.v 6 rfl) (by decide) (Kx w _ (by decide)) (by decide) (by simp only [s38,List.set,XV,Yn,hz];rfl) ?_)
   refine XS.cons (X1.setA 0 (ky w) (kN w) rfl (.v 7 rfl) (by decide) (Kx w _ (by decide)) (by decide) (by simp only [s38,List.set,XV,Yn,hz];rfl) ?_)
   refine XS.cons (X1.setA 0 (ky w) (kN w) rfl (.tup (.cons (.tupleL (.b (G _ _) (g_tuple w) (m_tuple w)) (.o 4 rfl) (by simp [Qt];exact zq1 ‹_› rfl)) (.cons (.v 5 rfl) .nil)) (show 2<=Qt by decide)) (by decide) (Kx w _ (by decide)) (by decide) (by simp only [s38,List.set,XV,Yn,hz];rfl) ?_)
   refine XS.cons (X1.setA 0 (ky w) (kN w) rfl (.cmp (.len (.b (G _ _) (yL w) (yB w)) (.o 4 rfl) (by simp [Qt];exact zq1 ‹_› rfl)) .int (jV (k:=decide ((a.c.length:Int)<=1)) .LtE (by simp))) (by decide) (Kx w _ (by decide)) (by decide) (by simp only [s38,List.set,XV,Yn,hz];rfl) ?_)
   refine XS.nil ⟨X,_,rfl,hX,?_⟩
   simp only [xn,he]
   simp [wsN,s38]
   lia
  refine X1.forC (J38 x px dx) (PIc.str room.deeper.1 (.attrO 0 (ky w) (kN w) rfl 0 rfl rfl (by decide) (kw_f w _ (by decide)))) (i3_8 ⟨0,0,[],0⟩ 0 Qg rfl rfl rfl (by decide) (by decide) rfl rfl rfl) ?_ ?_
  ·(intro k av X σ hk q_;refine e3_8 q_ ?_;clear q_;rintro a m z hX hz0 hz1 h1 h2 hm he rfl)
   rw [Qx]at hk
   obtain⟨q,hq⟩:∃q,x.cps.toList[k]?=Qf q:=by
    cases e:x.cps.toList[k]? with
    | none=>rw [e]at hk;cases hk
    | some q=>exact⟨q,rfl⟩
   rw [hq]at hk
   (have q_:=oi hk;clear hk;subst q_)
   have hk9:k<900:=by have:=(QT.mp hq).1;exact Qp ‹_› ‹_›
   rw [K1 _ k a hq]at he
   refine⟨s38 x px (m+1) (iL a.c) a.b a.n a.nt (Qf (.str (tx [q]))),TA.name (V _ _) 8 rfl,?_⟩
   refine XS.cons (X1.ite (b:=decide (q=32)) (.cmp (.v 8 rfl) (.v 2 rfl) (beq1 q 32▸KU)) (λhc=>?_) λhc=>?_)
   ·refine XS.cons (X1.assign (V _ _) 6 rfl (.add (.v 6 rfl) .int) ?_)
    refine XS.cons (X1.assign (V _ _) 5 rfl (.add (.v 5 rfl) .int) ?_)
    refine XS.nil (XS.nil (i3_8 ⟨a.n+1,a.nt,a.c,a.b+1⟩ m (Qf (.str (tx [q]))) hX rfl rfl (by simp;exact Xb ‹_›) (by simp;assumption) hm ?_ ?_))
    ·rw [he,if_pos (of_decide_eq_true hc)]
    ·simp [s38]
   refine XS.cons (X1.ite (b:=decide (q=9)) (.cmp (.v 8 rfl) (.v 3 rfl) (beq1 q 9▸KU)) (λhd=>?_) λhd=>?_)
   ·refine XS.cons (X1.assign (V _ _) 6 rfl (.add (.v 6 rfl) .int) ?_)
    refine XS.cons (X1.assign (V _ _) 7 rfl (.add (.v 7 rfl) .int) ?_)
    have hb9:a.b<=900:=by lia
    have hc9:a.c.length<=900:=by lia
    (refine jw (yI a) ?_;intro g1 g2)
    refine X1.thn (M38 x px dx a (Qf (.str (tx [q])))) ?_ ?_
    ·refine X1.ite (b:=decide ((a.c.length:Int)<=a.b)) (.cmp (.v 5 rfl) (.len (.b (G _ _) (yL w) (yB w)) (.o 4 rfl) (by simp [Qt];exact zq1 ‹_› rfl)) (jV .GtE (by simp))) (λhf=>?_) λhf=>?_
     ·have hf':a.c.length<=a.b:=by have:=of_decide_eq_true hf;lia
      refine XS.cons (X1.ownF (V _ _) 4 rfl (.addL (.o 4 rfl) (.list (.repL (n:=(a.b-a.c.length+1:Int)) (.cons .int .nil) (.add (.sub (.v 5 rfl) (.lenI (.b (G _ _) (yL w) (yB w)) (.o 4 rfl) (by simp [Qt];lia))) .int) (by lia) (by lia) (by decide) (by simp;lia))) ?_) λa'=>?_)
      ·rw [rep0];simp [Qt];lia
      refine XS.nil ⟨X.length-1,?_,?_,?_⟩
      ·rw [V5 (by show 0<X.length;lia)];exact hX
      ·show X.length-1+2=(X++[a']).length
       rw [QC,X2];lia
      ·have e1:(a.b-a.c.length+1:Int).toNat=a.b-a.c.length+1:=by lia
       have e2:iL a.c++(Qr (a.b-a.c.length+1:Int).toNat [AV.int 0]).flatten=iL a.grown:=by
        rw [rep0,e1,Wst.grown,if_pos hf'];simp only [iL,Va]
       rw [e2]
       show _=[_,_,_,_,Qf (AV.own (X.length-1+1) _),_,_,_,_]
       rw [show X.length-1+1=X.length by lia]
       rfl
     ·refine XS.nil ⟨m,hX,hm,?_⟩
      have hf':¬a.c.length<=a.b:=by have:=of_decide_eq_false hf;lia
      rw [Wst.grown,if_neg hf']
      rfl
    ·(intro X' σ q_;refine ye q_ ?_;clear q_;rintro j hX' hj rfl)
     refine XS.cons (X1.setItem 4 rfl (.add (.itemL (.o 4 rfl) (.v 5 rfl) a.b (by rw [if_neg (by exact zq6)]) (by rw [Qx,Qu g1];rfl) (by exact zq3 ‹_› rfl)) .int) (.v 5 rfl) (by simpa using g1) (by simp [Qt];lia) rfl ?_)
     refine XS.cons (X1.assign (V _ _) 5 rfl .int ?_)
     refine XS.nil (XS.nil (XS.nil (i3_8 a.tab j (Qf (.str (tx [q]))) hX' rfl rfl ?_ (by simp [Wst.tab]) hj ?_ ?_)))
     ·simp only [Wst.tab,List.length_set];lia
     ·rw [he,if_neg (of_decide_eq_false hc),if_pos (of_decide_eq_true hd)]
     ·simp [Wst.tab,g1,s38]
   ·exact XS.cons (X1.break ⟨a,m,Qf (.str (tx [q])),hX,rfl,by lia,by lia,by rw [he,if_neg (of_decide_eq_false hc),if_neg (of_decide_eq_false hd)],rfl⟩)
  ·(intro X σ q_;refine e3_8 q_ ?_;clear q_;rintro a m z hX hz0 hz1 h1 h2 hm he rfl)
   rw [Qy]at h1 h2 he
   refine⟨a,m,z,hX,hz0,by exact Qp ‹_› ‹_›,by exact Qp ‹_› ‹_›,?_,rfl⟩
   rw [he,List.drop_length];rfl
theorem init38{w:Ql}{prog:QI}{A:QO}{n:Nat}(room:Room (n+1) A)(x:Qd)(hx:x.length<=900):InitC prog w (Bh w) A 38 83 [.str x] wsN [.str x,.int (xn x).n,.int (xn x).nt,.tup [.tup (iL (xn x).c),.int (xn x).b],.bool (xn x).s]:=by
 (refine jc (d38 w) ?_;intro body D k)
 exact init_of (names:=["ws"]) D.ho D.hd D.hb D.hclo (JE w) D.hcd D.N D.hbind rfl room λL px dx=>k A n prog x room hx L px dx
theorem ze:∀(l:List Nat) (a:Wst) (m:Nat),a.c.length<=m->a.b<=m->(jI l a).c.length<=m+l.length/\(jI l a).b<=m+l.length
 | [],a,m,h1,h2=>⟨h1,h2⟩
 | k::r,a,m,h1,h2=>by
  rw [zK]
  split
  ·have:=ze r ⟨a.n+1,a.nt,a.c,a.b+1⟩ (m+1) (by show a.c.length<=_;exact Xb ‹_›) (by show a.b+1<=_;exact V4 ‹_›)
   simp only [QA];lia
  ·split
   ·(refine jw (yI a) ?_;intro g1 g2)
    have:=ze r a.tab (m+1) (by simp only [Wst.tab,List.length_set];lia) (by simp [Wst.tab])
    simp only [QA];lia
   ·simp only [QA];lia
theorem xH(x:Qd)(hx:x.length<=900):(xn x).ok:=by
 have hsz:x.cps.toList.length<=900:=by rw [VZ];exact hx
 have:=ze x.cps.toList ⟨0,0,[],0⟩ 0 (by decide) (by decide)
 refine⟨?_,?_⟩
 ·simp only [xn];lia
 ·simp only [xn];lia
theorem PE.wnew{w:Ql}{c:Ct}{n:Nat}{f e:Expr}{pos:Pos}{x:Qd}(hB:c.B=Bh w)(hw:c.w=w)(room:Room (n+2) c.A)(p:PE c f (.raw (.ref 83)))(q:PEs c [e] [.str x])(hx:x.length<=900)
  (hs:(Qv [e] c.env).any (·.1)=false:=by rfl)
  (he:eval (.Call f [e] [] pos) c.env=(do VL pos (<-eval f c.env) [] (VO pos (Qv [e] c.env)) (VE pos (V3 [] c.env))):=by rfl):PE c (.Call f [e] [] pos) (xn x).av :=
 .new (hB▸ky w) (kN w) p q (kw_keep w) (kw_init w) (kw_fn38 w) (λrest kw=>by rw [hB,hw];exact init38 room.tc x hx) hs he
theorem PE.wless{w:Ql}{c:Ct}{n:Nat}{o e:Expr}{apos cpos:Pos}{u v:Wv}(hB:c.B=Bh w)(hw:c.w=w)(room:Room (n+3) c.A)(p:PE c o u.av)(q:PE c e v.av)(hu:u.ok)(hv:v.ok)
  (hss:Qv [e] c.env=[(false,eval e c.env)]:=by rfl) (hs:(Qv [e] c.env).any (·.1)=false:=by rfl) (hbase:Vp o "less" c.env (eval o c.env)=eval o c.env:=by rfl)
  (hfew:((VO cpos (Qv [e] c.env)).all (λx=>!x.1)&&(VE cpos (V3 [] c.env)).all (λx=>x.1.isSome)&&decide ([e].length+([]:List Keyword).length+(if([]:List Keyword).isEmpty then 0 else 1)<30))=true:=by rfl)
  (hline:(apos.endLine==cpos.line)=true:=by rfl):PE c (.Call (.Attribute o "less" apos) [e] [] cpos) (.bool (kh u v)) :=
 .meth (hB▸ky w) (kN w) p (.cons q .nil hss) (kw_less w) (kw_t73 w) (by decide) (hB▸b_73 w) rfl (by rw [hB,hw];exact cal73 room u v hu hv) hs hbase hfew hline
theorem PE.wequal{w:Ql}{c:Ct}{n:Nat}{o e:Expr}{apos cpos:Pos}{u v:Wv}(hB:c.B=Bh w)(hw:c.w=w)(room:Room (n+1) c.A)(p:PE c o u.av)(q:PE c e v.av)
  (hss:Qv [e] c.env=[(false,eval e c.env)]:=by rfl) (hs:(Qv [e] c.env).any (·.1)=false:=by rfl) (hbase:Vp o "equal" c.env (eval o c.env)=eval o c.env:=by rfl)
  (hfew:((VO cpos (Qv [e] c.env)).all (λx=>!x.1)&&(VE cpos (V3 [] c.env)).all (λx=>x.1.isSome)&&decide ([e].length+([]:List Keyword).length+(if([]:List Keyword).isEmpty then 0 else 1)<30))=true:=by rfl)
  (hline:(apos.endLine==cpos.line)=true:=by rfl):PE c (.Call (.Attribute o "equal" apos) [e] [] cpos) (.bool (decide (u.c=v.c)&&decide (u.b=v.b))) :=
 .meth (hB▸ky w) (kN w) p (.cons q .nil hss) (kw_m59 w) (kw_t59 w) (by decide) (hB▸b_59 w) rfl (by rw [hB,hw];exact cal59 room u v) hs hbase hfew hline
noncomputable def climb(g:Nat->Wv)(a:Nat):Nat->Nat->Nat
 | 0,b=>b
 | n+1,b=>if kh (g a) (g (b+1))=true then climb g a n (b+1)else b
theorem KV{g:Nat->Wv}{a n b:Nat}:climb g a (n+1) b=if kh (g a) (g (b+1))=true then climb g a n (b+1)else b:=rfl
noncomputable def kA(g:Nat->Wv)(k:Nat):List Int:=(Qj k).map λa=>(climb g a (4-a) a:Int)
noncomputable abbrev gL(g:Nat->Wv):List AV:=(Qj 5).map λk=>(g k).av
noncomputable abbrev F215(w:Ql):FuncData:=vx (o_228 w.params)
noncomputable abbrev v215:List Qd:=["guys","ends","a","b"]
theorem n215(w:Ql):Names (F215 w) v215:=.of (by kernel_rfl)
theorem gL_at(g:Nat->Wv){k:Nat}(h:k<5):(gL g)[k]?=Qf (g k).av:=by simp [h]
theorem xP{m k:Nat}{f:Nat->AV}{av:AV}(h:((Qj m).map f)[k]?=Qf av):k<m/\av=f k:=by
 rw [Qx]at h
 by_cases q:k<m
 ·rw [VQ q]at h;(have q_:=oi h;clear h;subst q_);exact⟨q,rfl⟩
 ·rw [Xz (by simpa using q)]at h;exact no1 h
theorem K4{m k:Nat}{av:AV}(h:((Qj ((m:Int)-0).toNat).map λk:Nat=>AV.int (0+k))[k]?=Qf av):k<m/\av=.int k:=by
 (refine jw (xP h) ?_;intro a b)
 exact⟨by assumption,by rw [b];congr 1;lia⟩
theorem d215(w:Ql):∃body,Df (Bh w) 215 (o_228 w.params) (F215 w) body ["guys"] ["ends","a","b"]/\∀A n prog (g:Nat->Wv),Room (n+4) A->(∀k,k<5->(g k).ok)->∀L,
  XS (cx (F215 w) 215 v215 prog w A L [] [Qf (.list (gL g)),Qg,Qg,Qg]) body (λo=>o=.rt (.list (iL (kA g 5)))):=by
 refine⟨_,⟨by kernel_rfl,rfl,rfl,rfl,ji (by kernel_rfl),n215 w,λvs h=>?_⟩,?_⟩
 ·(refine jd (jQ h) ?_;rintro u rfl);rfl
 ·intro A n prog g room hg L
  have V:=(n215 w).cV (a:=215) (prog:=prog) (w:=w) (A:=A) (L:=L)
  have G:=(n215 w).cG (a:=215) (w:=w) (prog:=prog) (L:=L) room rfl rfl
  refine XS.cons (X1.own (V _ _) 1 rfl .nil (by decide) λa=>?_)
  show XS (cx (F215 w) 215 v215 prog w A L [a] [Qf (.list (gL g)),Qf (.own 0 (iL (kA g 0))),Qg,Qg]) _ _
  refine XS.cons (X1.for (λk σ=>∃x y,σ=[Qf (.list (gL g)),Qf (.own 0 (iL (kA g k))),x,y]/\qR 0 x=true/\qR 0 y=true) (PI.range1 room.deeper.1 (.b (G _ _) (jz w) (jy w)) .int (by decide)) ⟨_,_,rfl,rfl,rfl⟩ ?_ ?_)
  ·(intro k av σ hk q_;refine jW q_ ?_;clear q_;rintro x y rfl hx hy)
   (refine jw (K4 (m:=5) hk) ?_;rintro hk5 rfl)
   refine⟨[Qf (.list (gL g)),Qf (.own 0 (iL (kA g k))),Qf (.int k),y],TA.name (V _ _) 2 rfl,?_⟩
   refine XS.cons (X1.assign (V _ _) 3 rfl (.v 2 rfl) ?_)
   refine X1.thn (λX σ=>X=[a]/\∃b:Nat,climb g k (4-k) k=b/\σ=[Qf (.list (gL g)),Qf (.own 0 (iL (kA g k))),Qf (.int k),Qf (.int b)]) ?_ ?_
   ·refine X1.while (λm σ=>∃b:Nat,m+b=4/\climb g k (4-k) k=climb g k m b/\σ=[Qf (.list (gL g)),Qf (.own 0 (iL (kA g k))),Qf (.int k),Qf (.int b)]) (4-k) ⟨k,by lia,rfl,rfl⟩ ?_
    (intro m σ q_;refine ye q_ ?_;clear q_;rintro b hb hc rfl)
    refine⟨_,.and (.cmp (.v 3 rfl) .int (jV (k:=decide ((b:Int)<4)) .Lt rfl)) (λh=>.and (.val (.wless rfl rfl room.deeper (.itemL (.list (.v 0 rfl)) (.v 2 rfl) k (by rw [if_neg (by exact zq6)]) (gL_at g hk5) (by exact zq4 ‹_› rfl)) (.itemL (.list (.v 0 rfl)) (.add (.v 3 rfl) .int) (b+1) (by rw [if_neg (by exact zq6)];exact Int.natCast_add _ _) (gL_at g (by have:=of_decide_eq_true h;lia)) (by have:=of_decide_eq_true h;lia)) (hg _ hk5) (hg _ (by have:=of_decide_eq_true h;lia)))) λ_=>.and_nil),λh=>?_,λh=>?_⟩
    ·simp only [Z1,Vl,decide_eq_true_eq]at h
     refine XS.cons (X1.assign (V _ _) 3 rfl (.add (.v 3 rfl) .int) ?_)
     refine XS.nil ⟨rfl,m-1,by lia,b+1,by lia,?_,?_⟩
     ·rw [hc]
      obtain⟨m',rfl⟩:∃m',m=m'+1:=⟨m-1,by lia⟩
      rw [KV,if_pos h.2];rfl
     ·simp
    ·refine⟨rfl,b,?_,rfl⟩
     rw [hc]
     cases m with
     | zero=>rfl
     | succ m =>
      rw [KV,if_neg]
      intro hl
      have hb4:(b:Int)<4:=by lia
      simp [hl,hb4]at h
   ·rintro X σ ⟨rfl,b,hb,rfl⟩
    refine XS.cons (X1.append 1 rfl rfl rfl (by decide) (by decide) (.v 3 rfl) (by simp [kA,Qt];exact zq2 ‹_› rfl) rfl ?_)
    refine XS.nil ⟨rfl,Qf (.int k),Qf (.int b),?_,rfl,rfl⟩
    simp [kA,Xg,hb,iL]
  ·(intro σ q_;refine jW q_ ?_;clear q_;rintro x y rfl hx hy)
   refine XS.free (X':=[]) rfl (i:=1) rfl (by simp only [List.set,XV,Yn,QQ,hx,hy];rfl) ?_
   exact XS.cons (X1.ret (.v 1 rfl) rfl)
theorem cal215{w:Ql}{prog:QI}{A:QO}{n:Nat}(room:Room (n+4) A)(g:Nat->Wv)(hg:∀k,k<5->(g k).ok):Cal prog w (Bh w) A (.ref 215) [.list (gL g)] (.list (iL (kA g 5))):=by
 (refine jc (d215 w) ?_;intro body D h)
 exact D.cal room rfl λL=>h A n prog g room hg L
section
variable {c:Ct} {env:Env} {own:List Qd} {fr:List Nat} {Z:List (Qd×Qk)}
theorem CL.ofM{α:Type}{ys:List α}(f:α->AV)(o:α->List AV){elt:Expr}{gens:List XU}{scope:Scope}{pos:Pos}{d:Nat}{tg:Expr}{R:Rest}{τ:List (Option AV)}
  (hT:Jp c env (.ListComp elt gens scope pos) d tg R)
  (turn:∀y∈ys,∃τ',CTg c env own Z tg (f y) τ τ'/\Wk τ τ'/\CTn c env own Z R τ' (o y)):CL c env own Z (.ListComp elt gens scope pos) d tg τ (ys.map f) (ys.flatMap o):=λD W' W Y s₀ s I St Mid l RR a hsub d₀ it st0 ht hz hR=>by
 have inH:∀b∈Zh env Z++D::W',b∈c.X++Yh env Z D (W'++W) Y:=λb hb=>mem_Yh.mpr (by
  rcases Qa hb with h | h
  ·exact .inr (.inl h)
  ·rcases Qb h with h | h
   ·exact .inr (.inr (.inl h))
   ·exact .inr (.inr (.inr (Q8 _ h))))
 refine codeAny_loop rfl (λn s₁=>∃i,n=ys.length+1-i/\i<=ys.length/\1<=s₁.toks/\St i s₁.heap/\Gz (Zh env Z++D::W') s s₁/\CmD c env own Z D (W'++W) Y s₀ τ (l++(ys.take i).flatMap o) s₁) ?_ (ys.length+1) ⟨0,rfl,Vj _,ht,st0,.rfl',by simpa using d₀⟩
 (intro n s₁ q_;refine e1_6 q_ ?_;clear q_;rintro i rfl hi ht₁ st g d₁)
 show Qo _ c.A ((compTurn (.ListComp elt gens scope pos) d (.ref I) (.ref D) env).onRaise (λx=>do noteFrame x env;theTreesLotGoes x)) _ _ s₁
 refine wpAny_noted (hT _ _ _ _ _ ?_)
 by_cases hlt:i<ys.length
 ·obtain⟨y,hy⟩:∃y,ys[i]?=Qf y:=⟨_,Qu hlt⟩
  have hav:(ys.map f)[i]?=Qf (f y):=by rw [Qx,hy];rfl
  (refine ye (turn y (QE hy)) ?_;intro τ' ta wk tn)
  refine QB (n:=1) ht₁ (it.item i (f y) s₁ _ _ hav st (λx hx=>by
   rcases mem_Yh.mp hx with m | m | m | m
   ·(refine jd (a.live x m) ?_;intro o e);exact⟨o,jr d₁.keep _ _ e⟩
   ·exact(d₁.live x (.inl m)).2
   ·exact(d₁.live x (.inr (.inl m))).2
   ·exact(d₁.live x (.inr (.inr m))).2) λv h₁ tk₁ mid rv hk₁ ht₂=>?_)
  refine it.go i (f y) v _ _ _ mid rv λh₂ st₂ rv₂ hk₂=>?_
  have g₂:Gz W' s₁ { s₁ with heap:=h₂,toks:=tk₁ }:=⟨h₂,tk₁,rfl,λb o hb e=>hk₂ b o hb (hk₁ b o hb e)⟩
  have d₂:=d₁.step g₂ (λb hb=>Q8 _ hb) (λb hb=>hb) λb hb=>by
   rcases Qa hb with h | h
   ·exact it.live _ _ st₂ b h
   ·by_cases q:b∈W'
    ·exact it.live _ _ st₂ b q
    ·(refine jd ((d₁.live b (.inr (.inr hb))).2) ?_;intro o e);exact⟨o,g₂.get b o q e⟩
  refine QB (n:=1) ht₂ (ta D (W'++W) Y s₀ _ _ _ _ v d₂ rv₂ λs₃ g₃ d₃ ht₃=>?_)
  have hlen:(ys.take (i+1)).flatMap o=(ys.take i).flatMap o++o y:=by rw [Zr,hy];simp
  refine tn D (W'++W) Y s₀ s₃ _ _ _ a d₃ ht₃ ?_ λs₄ g₄ d₄ ht₄=>?_
  ·have:(ys.flatMap o).length=((ys.take (i+1)).flatMap o).length+((ys.drop (i+1)).flatMap o).length:=by
    rw [<-QC,<-List.flatMap_append,List.take_append_drop]
   rw [hlen,QC]at this
   rw [QC];lia
  ·have g₃₄:Gz (Zh env Z++[D]) { s₁ with heap:=h₂,toks:=tk₁ } s₄:=(g₃.sub λb hb=>Q8 _ hb).trans g₄
   have inH':∀b∈Zh env Z++[D],b∈c.X++Yh env Z D (W'++W) Y:=λb hb=>inH b (by
    rcases Qa hb with h | h
    ·exact Q8 _ h
    ·exact Q7 _ (Q9 h▸.head _))
   have nW:∀b∈W',b∉Zh env Z++[D]:=λb hb m=>by
    have q:=d₁.wz b (Q8 _ hb)
    rcases Qa m with h | h
    ·exact q.1 h
    ·exact q.2 (Q9 h)
   refine⟨rfl,ys.length+1-(i+1),by exact zr1 ‹_›,i+1,rfl,hlt,ht₄,it.frame (i+1) h₂ s₄.heap st₂ (g₃₄.le inH') λb hb o e=>g₃₄.get b o (nW b hb) e,?_,?_⟩
   ·refine g.trans ((g₂.sub λb hb=>Q7 _ (.tail _ hb)).trans (g₃₄.sub λb hb=>?_))
    rcases Qa hb with h | h
    ·exact Q8 _ h
    ·exact Q7 _ (Q9 h▸.head _)
   ·rw [hlen,<-Yo];exact d₄.weak wk.1 wk.2
 ·have hi':i=ys.length:=by exact zr4 ‹_› ‹_›
  subst hi'
  refine QB (n:=1) ht₁ (it.done s₁ _ _ (by rw [Qy];exact st) λh₁ tk₁ hk₁ ht₂=>?_)
  have g₁:Gz W' s₁ { s₁ with heap:=h₁,toks:=tk₁ }:=⟨h₁,tk₁,rfl,hk₁⟩
  have d₂:=d₁.step (W':=W) g₁ (λb hb=>Q8 _ hb) (λb hb=>Q7 _ hb) λb hb=>by
   (refine jd ((d₁.live b (.inr (.inr (Q7 _ hb)))).2) ?_;intro o e);exact⟨o,g₁.get b o (hsub b hb) e⟩
  refine hR _ (g.trans (g₁.sub λb hb=>Q7 _ (.tail _ hb))) ?_ ?_
  ·rw [YT]at d₂
   exact d₂
  ·exact ht₂

theorem kO{α β:Type}(b:α->Bool)(o:α->β):∀ys:List α,ys.flatMap (λy=>if b y=true then [o y]else [])=(ys.filter b).map o
 | []=>rfl
 | y::ys=>by
  rw [List.flatMap_cons,kO b o ys,List.filter_cons]
  split<;>rfl
end
section
variable {c:Ct} {fr:List Nat} {scope:Scope} {cl:List (Qd×Qk)}
theorem Gd.cc{own:List Qd}{n:Nat}{mg mb:Qd->Option Qm}(G:Gd c n mg mb)(ok:CmOk c scope own fr cl)(C:Qk)(τ:List (Option AV)):Gd (v8 c (jT c scope cl C) own fr τ) n mg mb :=
 ⟨ok.kind,G.glob,G.blt,G.ns,G.bs,G.lim,G.room⟩
theorem CL.n1{α:Type}{ys:List α}{x:Qd}{px pos:Pos}{elt iter:Expr}{ifs:List Expr}(ok:CmOk c scope [x] fr cl)(f:α->AV)(b:α->Bool)(o:α->AV)(C:Qk)
  (h:∀y∈ys,PTs (v8 c (jT c scope cl C) [x] fr [Qf (f y)]) ifs (b y)/\(b y=true->PE (v8 c (jT c scope cl C) [x] fr [Qf (f y)]) elt (o y))) :
  CL c (jT c scope cl C) [x] (Vd (C+1) scope.names []) (.ListComp elt [⟨.Name x px,iter,ifs,0⟩] scope pos) 0 (.Name x px) ([x].map λ_=>Qg) (ys.map f) ((ys.filter b).map o):=by
 rw [<-kO]
 exact CL.ofM f _ turn1 λy hy=>⟨[Qf (f y)],CTg.name (ok.S C) 0 rfl,⟨rfl,λi av e=>by
  cases i with
  | zero=>cases e
  | succ i=>exact no1 e⟩,CTn.one (ok.S C) (h y hy).1 (h y hy).2⟩
theorem PE.comp1{α:Type}{ys:List α}{x:Qd}{px pos:Pos}{elt iter:Expr}{ifs:List Expr}(ok:CmOk c scope [x] fr cl)(f:α->AV)(b:α->Bool)(o:α->AV)(p:PI c (.Name x px) iter (ys.map f))
  (h:CmOk c scope [x] fr cl->∀C,∀y∈ys,PTs (v8 c (jT c scope cl C) [x] fr [Qf (f y)]) ifs (b y)/\(b y=true->PE (v8 c (jT c scope cl C) [x] fr [Qf (f y)]) elt (o y)))
  (hz:ys.length<=Qt) (hs:∀x,QN iter c.env x=pure x:=by intro _;rfl):PE c (.ListComp elt [⟨.Name x px,iter,ifs,0⟩] scope pos) (.list ((ys.filter b).map o)) :=
 .comp ok p (λC=>CL.n1 ok f b o C (h ok C)) (by rw [Qy];exact Qp (Yd _ _) hz) hs
theorem PE.map1{α:Type}{ys:List α}{x:Qd}{px pos:Pos}{elt iter:Expr}(ok:CmOk c scope [x] fr cl)(f:α->AV)(o:α->AV)(p:PI c (.Name x px) iter (ys.map f))
  (h:CmOk c scope [x] fr cl->∀C,∀y∈ys,PE (v8 c (jT c scope cl C) [x] fr [Qf (f y)]) elt (o y))
  (hz:ys.length<=Qt) (hs:∀x,QN iter c.env x=pure x:=by intro _;rfl):PE c (.ListComp elt [⟨.Name x px,iter,[],0⟩] scope pos) (.list (ys.map o)):=by
 have:=PE.comp1 (pos:=pos) ok f (λ_=>true) o p (λok C y hy=>⟨.nil,λ_=>h ok C y hy⟩) hz hs
 rwa [Yt.mpr λ_ _=>rfl]at this
theorem X1.map1{P:Out->Prop}{α:Type}{ys:List α}{x y:Qd}{px py pos sp:Pos}{elt iter:Expr}(V:Vars c)(i:Nat)(ok:CmOk c scope [x] fr cl)(f:α->AV)(o:α->AV)(p:PI c (.Name x px) iter (ys.map f))
  (h:CmOk c scope [x] fr cl->∀C,∀y∈ys,PE (v8 c (jT c scope cl C) [x] fr [Qf (f y)]) elt (o y)) (hi:c.vars[i]?=Qf y)
  (hp:P (.nx c.X (c.σ.set i (Qf (.list (ys.map o)))))) (hz:ys.length<=Qt) (hs:∀x,QN iter c.env x=pure x:=by intro _;rfl)
  (hsw:VU (.ListComp elt [⟨.Name x px,iter,[],0⟩] scope pos) (Qf (.Name y py)) sp.line c.env=pure true:=by rfl):X1 c (.Assign [.Name y py] (.ListComp elt [⟨.Name x px,iter,[],0⟩] scope pos) sp) P :=
 .comp V i ok p (λC=>by
  have:=CL.n1 (c:=c) (px:=px) (pos:=pos) (iter:=iter) ok f (λ_=>true) o C (λy hy=>⟨PTs.nil,λ_=>h ok C y hy⟩)
  rwa [Yt.mpr λ_ _=>rfl]at this) hi hp (by rw [Qy];exact hz) hs hsw
theorem PI.rng1{tg f e:Expr}{pos:Pos}(n:Nat)(hh:c.A.handled=Qg)(p:PE c f (.raw (.type "range")))(q:PE c e (.int n))(hn:n<=2^40)
  (hs:Qv [e] c.env=[(false,eval e c.env)]:=by rfl)
  (he:eval (.Call f [e] [] pos) c.env=(do VL pos (<-eval f c.env) [] (VO pos (Qv [e] c.env)) (VE pos (V3 [] c.env))):=by rfl):PI c tg (.Call f [e] [] pos) ((Qj n).map λk:Nat=>AV.int k):=by
 have:=PI.range1 (tg:=tg) (pos:=pos) hh p q (vA (by decide) (by exact zr17 ‹_› rfl)) hs he
 simpa using this
theorem PI.rng2{tg f e e':Expr}{pos:Pos}(a b:Nat)(hh:c.A.handled=Qg)(p:PE c f (.raw (.type "range")))(q:PE c e (.int a))(q':PE c e' (.int b))(ha:a<=2^40)(hb:b<=2^40)
  (hs:Qv [e,e'] c.env=[(false,eval e c.env),(false,eval e' c.env)]:=by rfl)
  (he:eval (.Call f [e,e'] [] pos) c.env=(do VL pos (<-eval f c.env) [] (VO pos (Qv [e,e'] c.env)) (VE pos (V3 [] c.env))):=by rfl):PI c tg (.Call f [e,e'] [] pos) ((Qj (b-a)).map λk:Nat=>AV.int ((a+k:Nat):Int)):=by
 have:=PI.range2 (tg:=tg) (pos:=pos) hh p q q' (vA (by exact zr17 ‹_› rfl) (by exact zr17 ‹_› rfl)) hs he
 rw [show((b:Int)-(a:Int)).toNat=b-a by exact zr7]at this
 exact this
theorem kI{α:Type}(l:List α)(a b:Nat):(l.take (min b l.length)).drop (min a l.length)=(l.take b).drop a:=by
 have h1:l.take (min b l.length)=l.take b:=by rw [<-List.take_take,YT]
 rw [h1]
 by_cases h:a<=l.length
 ·rw [Nat.min_eq_left h]
 ·rw [Nat.min_eq_right (by lia),Ve (by rw [VK];exact Nat.min_le_right _ _),Ve (by rw [VK];lia)]
theorem xg{l:List AV}(b:Nat):qA l Qg (Qf (b:Int))=l.take b:=by
 have:=kI l 0 b
 rw [List.drop_zero]at this
 rw [<-this]
 exact vm (by simp only [Vg];refine Prod.ext ?_ (Prod.ext ?_ rfl)<;>simp<;>lia)
theorem xh{l:List AV}(a:Nat):qA l (Qf (a:Int)) Qg=l.drop a:=by
 have:=kI l a l.length
 rw [Nat.min_self,YT]at this
 rw [<-this]
 conv=>rhs;rw [<-YT (l:=l)]
 simp only [VK,Nat.min_self]
 exact vm (by simp only [Vg];refine Prod.ext ?_ (Prod.ext ?_ rfl)<;>simp<;>lia)
theorem PE.slc{e:Expr}{lo hi:Option Expr}{p pos:Pos}{l l':List AV}{i j:Option Int}(q:PSq c e "list" l)(qi:PP c lo i)(qj:PP c hi j)(h:qA l i j=l')(hz:l.length<=Qt):PE c (.Subscript e (.Slice lo hi Qg p) pos) (.list l') :=
 h▸.sliceL q qi qj hz
theorem PP.nat{e:Expr}(n:Nat)(p:PE c e (.int n)):PP c (Qf e) (Qf (n:Int)):=PP.some p
end
noncomputable def minF:Int->List Int->Int
 | m,[]=>m
 | m,x::r=>minF (min m x) r
theorem minF0{m:Int}:minF m []=m:=rfl
theorem minF1{m x:Int}{r:List Int}:minF m (x::r)=minF (min m x) r:=rfl
noncomputable def maxF:Int->List Int->Int
 | m,[]=>m
 | m,x::r=>maxF (max m x) r
theorem maxF1{m x:Int}{r:List Int}:maxF m (x::r)=maxF (max m x) r:=rfl
theorem Km:∀(l:List Int) (m:Int),minF m l<=m/\∀x∈l,minF m l<=x
 | [],m=>⟨Int.le_refl _,λ_ h=>nomatch h⟩
 | y::r,m=>by
  (refine jw (Km r (min m y)) ?_;intro a b)
  refine⟨by simp only [minF1];lia,λx hx=>?_⟩
  rcases Qb hx with rfl | hx
  ·simp only [minF1];lia
  ·exact b x hx
theorem zZ:∀(l:List Int) (m:Int),minF m l∈m::l
 | [],m=>.head _
 | y::r,m=>by
  have:=zZ r (min m y)
  simp only [minF1]
  rcases Qb this with h | h
  ·rw [h]
   by_cases q:m<=y
   ·rw [Int.min_eq_left q];simp
   ·rw [Int.min_eq_right (by lia)];simp
  ·exact .tail _ (.tail _ h)
theorem zo:∀(l:List Int) (m:Int),m<=maxF m l/\∀x∈l,x<=maxF m l
 | [],m=>⟨Int.le_refl _,λ_ h=>nomatch h⟩
 | y::r,m=>by
  (refine jw (zo r (max m y)) ?_;intro a b)
  refine⟨by simp only [maxF1];lia,λx hx=>?_⟩
  rcases Qb hx with rfl | hx
  ·simp only [maxF1];lia
  ·exact b x hx
theorem J0:∀(l:List Int) (m:Int),maxF m l∈m::l
 | [],m=>.head _
 | y::r,m=>by
  have:=J0 r (max m y)
  simp only [maxF1]
  rcases Qb this with h | h
  ·rw [h]
   by_cases q:m<=y
   ·rw [Int.max_eq_right q];simp
   ·rw [Int.max_eq_left (by lia)];simp
  ·exact .tail _ (.tail _ h)
noncomputable def maxI:List Int->Int
 | []=>0
 | x::r=>maxF x r
theorem Ko{l:List Int}(h:l≠[]):maxI l∈l/\∀x∈l,x<=maxI l:=by
 cases l with
 | nil=>exact absurd rfl h
 | cons x r =>
  refine⟨J0 r x,λy hy=>?_⟩
  rcases Qb hy with rfl | hy
  ·exact(zo r y).1
  ·exact(zo r x).2 y hy
noncomputable def endC(l:List Int)(a b:Nat):Bool:=decide (l.getD a 0<minF 9 ((l.take (b+1)).drop (a+1)))
noncomputable def Jw(l:List Int)(a:Nat):List Nat:=(Qj (5-a)).filter λk=>endC l a (a+k)
noncomputable def endOf(l:List Int)(a:Nat):Int:=maxI ((Jw l a).map λk:Nat=>((a+k:Nat):Int))
noncomputable def xa(l:List Int):List Int:=(Qj 5).map λa=>endOf l a
theorem g_min(w:Ql):mg w "min"=none:=by kernel_rfl
theorem m_min(w:Ql):mb w "min"=Qf (.builtin "min"):=by kernel_rfl
noncomputable abbrev F188(w:Ql):FuncData:=vx (o_201 w.params)
theorem n188(w:Ql):Names (F188 w) ["depths"]:=.of (by kernel_rfl)
theorem sb5:∀a:Nat,a<5->∀b:Nat,b<5->Vg (Qf ((a:Int)+1)) (Qf ((b:Int)+1)) Qg 5=(((a+1:Nat):Int),((b+1:Nat):Int),1):=by decide
theorem d188(w:Ql):∃body,Df (Bh w) 188 (o_201 w.params) (F188 w) body ["depths"] []/\∀A n prog (l:List Int),Room (n+1) A->l.length=5->(∀x∈l,x<9)->∀L,
  XS (cx (F188 w) 188 ["depths"] prog w A L [] [Qf (.list (iL l))]) body (λo=>o=.rt (.list (iL (xa l)))):=by
 refine⟨_,⟨by kernel_rfl,rfl,rfl,rfl,ji (by kernel_rfl),n188 w,λvs h=>?_⟩,?_⟩
 ·(refine jd (jQ h) ?_;rintro u rfl);rfl
 ·intro A n prog l room hl hb L
  have V:=(n188 w).cV (a:=188) (prog:=prog) (w:=w) (A:=A) (L:=L)
  have G:=(n188 w).cG (a:=188) (w:=w) (prog:=prog) (L:=L) room rfl rfl
  refine XS.cons (X1.ret (.map1 (fr:=[0]) (.of (by kernel_rfl)) (λk:Nat=>.int k) (λk:Nat=>.int (endOf l k)) (.rng1 5 room.deeper.1 (.b (G _ _) (jz w) (jy w)) .int (by decide)) (λok C a ha=>?_) (by decide)) ?_)
  ·have ha5:a<5:=by simpa using ha
   have hget:(iL l)[a]?=Qf (.int (l.getD a 0)):=by rw [Qx,Qu (by exact JI ‹_› ‹_›)];simp [show a<l.length by exact JI ‹_› ‹_›]
   have hla:l.getD a 0<9:=by rw [QL,Qu (by exact JI ‹_› ‹_›)];exact hb _ (XY _)
   have ne:(Jw l a).map (λk:Nat=>((a+k:Nat):Int))≠[]:=by
    have:0∈Jw l a:=List.mem_filter.mpr ⟨Xd.mpr (by exact zr27 ‹_›),by
     have:(l.take (a+0+1)).drop (a+1)=[]:=Ve (by rw [VK];exact Nat.min_le_left _ _)
     simp only [endC,this,minF0,hla,decide_true]⟩
    intro e
    rw [List.map_eq_nil_iff.mp e]at this;cases this
   have G1:=(G _ _).cc ok C [Qf (.int a)]
   refine .callB (.b G1 (g_max w) (m_max w)) (.cons (?_:PE _ _ (.list (iL ((Jw l a).map λk:Nat=>((a+k:Nat):Int))))) .nil) (Jk room.deeper.1 (Ko ne).1 (Ko ne).2)
   have e1:iL ((Jw l a).map λk:Nat=>((a+k:Nat):Int))=(Jw l a).map λk:Nat=>AV.int ((a+k:Nat):Int):=by simp [iL]
   rw [e1]
   refine .comp1 (ys:=Qj (5-a)) (fr:=[0,1]) (.of (by kernel_rfl)) (λk:Nat=>.int ((a+k:Nat):Int)) (λk=>endC l a (a+k)) (λk:Nat=>.int ((a+k:Nat):Int)) (.rng2 a 5 room.deeper.1 (.b G1 (jz w) (jy w)) (.v 0 rfl) .int (by exact zq2 ‹_› rfl) (by decide)) (λok' C' k hk=>?_) (by simp [Qt];lia)
   have hk5:a+k<5:=by have:=Qc hk;exact zr29 ‹_›
   have G2:=G1.cc ok' C' [Qf (.int ((a+k:Nat):Int))]
   have hlen:(iL l).length=5:=by simp [hl]
   have hpick:qA (iL l) (Qf ((a:Int)+1)) (Qf (((a+k:Nat):Int)+1))=iL ((l.take (a+k+1)).drop (a+1)):=by
    rw [vm (a:=a+1) (b:=a+k+1) (by rw [hlen];exact sb5 a ha5 (a+k) hk5)]
    simp [iL,List.map_drop,List.map_take]
   have hmin:=Km ((l.take (a+k+1)).drop (a+1)) 9
   refine⟨.one (.cmp (.callB (.b G2 (g_min w) (m_min w)) (.cons (.addL (.list (.list (.cons .int .nil) (by decide))) (.list (.slc (.list (.v 2 rfl)) (.some (.add (.v 1 rfl) .int)) (.some (.add (.v 0 rfl) .int)) hpick (by rw [hlen];decide))) ?_) .nil) (cal_minL (l:=9::(l.take (a+k+1)).drop (a+1)) room.deeper.1 (zZ _ _) λx hx=>?_)) (.itemL (.list (.v 2 rfl)) (.v 1 rfl) a (by rw [if_neg (by exact zq6)]) hget (by exact zq4 ‹_› rfl)) (jV .Gt rfl)),λ_=>.v 0 rfl⟩
   ·simp [Qt];lia
   ·rcases Qb hx with rfl | hx
    ·exact hmin.1
    ·exact hmin.2 x hx
  ·rfl
noncomputable abbrev tL(ls:List (List Nat)):List AV:=ls.map λl=>.str (tx l)
theorem tL_sL(ls:List (List Nat)):tL ls=sL (ls.map tx):=by simp [tL,sL]
theorem tx_cps(l:List Nat):(tx l).cps.toList=l:=rfl
theorem Kz:∀ls:List (List Nat),Y7 (tx []) (ls.map tx)=tx ls.flatten
 | []=>rfl
 | [a]=>by simp [Y7]
 | a::b::r=>by
  have:=Kz (b::r)
  simp only [QP]at this ⊢
  rw [Xj,this,kZ,kZ]
  simp
theorem strRep1(k n:Nat):yq (tx [k]) n=tx (Qr n k):=by
 unfold yq
 rw [tx_cps]
 congr 2
 induction n with
 | zero=>rfl
 | succ n ih=>rw [QZ,VC,ih,QZ];rfl
theorem sum_len(ls:List (List Nat)):((ls.map tx).map (·.length)).sum=ls.flatten.length:=by
 rw [List.length_flatten,Xp];rfl
section
variable {c:Ct}
theorem PE.as{e:Expr}{a b:AV}(p:PE c e a)(h:a=b):PE c e b:=h▸p
theorem PE.joinT{o e:Expr}{apos cpos:Pos}{ls:List (List Nat)}(p:PE c o (.str (tx [])))(q:PE c e (.list (tL ls)))(hz:ls.flatten.length<=16777216)
  (hst:Qv [e] c.env=[(false,eval e c.env)]:=by rfl) (hbase:Vp o "join" c.env (eval o c.env)=eval o c.env:=by rfl) (hline:(apos.endLine==cpos.line)=true:=by rfl) :
  PE c (.Call (.Attribute o "join" apos) [e] [] cpos) (.str (tx ls.flatten)):=by
 rw [<-Kz]
 refine PE.join p (tL_sL ls▸q) ?_ hst hbase hline
 rw [sum_len,show(tx []).length=0 from rfl];assumption
theorem PE.addT{l r:Expr}{pos:Pos}{x y:List Nat}(p:PE c l (.str (tx x)))(q:PE c r (.str (tx y)))(hz:x.length+y.length<=Qt):PE c (.BinOp l .Add r pos) (.str (tx (x++y))):=by
 rw [<-kZ]
 exact PE.addS p q hz
theorem PE.mulT{l r:Expr}{pos:Pos}{k:Nat}{n:Int}(p:PE c l (.str (tx [k])))(q:PE c r (.int n))(hlo:-(2^40)<=n/\n<=2^20):PE c (.BinOp l .Mult r pos) (.str (tx (Qr n.toNat k))):=by
 rw [<-strRep1]
 exact PE.mulS p q hlo (show 1<=8 by decide)
end
theorem cal188{w:Ql}{prog:QI}{A:QO}{n:Nat}(room:Room (n+1) A)(l:List Int)(hl:l.length=5)(hb:∀x∈l,x<9):Cal prog w (Bh w) A (.ref 188) [.list (iL l)] (.list (iL (xa l))):=by
 (refine jc (d188 w) ?_;intro body D h)
 exact D.cal room rfl λL=>h A n prog l room hl hb L
noncomputable def jx(d:Nat)(r:List Int):List Int:=r.take 2++Qr d 0
noncomputable def qU(d:Nat)(r:List Int)(cell:Int):List Nat :=
 (((jx d r).drop (cell%(d+2)).toNat++(jx d r).take (cell%(d+2)).toNat).map λn=>Qr n.toNat 32++[9]).flatten++Qr (r.getD 2 0).toNat 32
theorem qJ{α:Type}(f:α->List Nat)(B:Nat):∀l:List α,(∀x∈l,(f x).length<=B)->(l.map f).flatten.length<=l.length*B
 | [],_=>(Vj _)
 | x::l,h=>by
  have h1:=h x (.head _)
  have h2:=qJ f B l λy hy=>h y (.tail _ hy)
  rw [QP,VC,QC,QA,Nat.succ_mul];lia
noncomputable abbrev F193(w:Ql):FuncData:=vx (o_206 w.params)
noncomputable abbrev v193:List Qd:=["depth","runs","cell","row","spot"]
theorem n193(w:Ql):Names (F193 w) v193:=.of (by kernel_rfl)
theorem yC(d:Nat)(r:List Int)(cell:Int)(hd:d<=9)(hr:∀x∈r,x<=2)(hl:r.length=3):(((jx d r).drop (cell%(d+2)).toNat++(jx d r).take (cell%(d+2)).toNat).map λn:Int=>Qr n.toNat 32++[9]).flatten.length<=66:=by
 have hring:∀x∈jx d r,x<=2:=λx hx=>by
  rcases Qa hx with h | h
  ·exact hr x (Xi h)
  ·rw [(VG.mp h).2];decide
 have hlen:(jx d r).length<=11:=by simp only [jx,QC,VK,Vv];lia
 refine Qp (qJ _ 3 _ λx hx=>?_) ?_
 ·have:x<=2:=by
   rcases Qa hx with h | h
   ·exact hring x (List.mem_of_mem_drop h)
   ·exact hring x (Xi h)
  simp only [QC,Vv,X2];lia
 ·simp only [QC,List.length_drop,VK];rw [zr47];exact Qp (QJ 3 hlen) (by decide)
theorem d193(w:Ql):∃body,Df (Bh w) 193 (o_206 w.params) (F193 w) body ["depth","runs","cell"] ["row","spot"]/\∀A n prog (d:Nat) (r:List Int) (cell:Int),Room (n+1) A->d<=9->r.length=3->(∀x∈r,0<=x/\x<=2)->0<=cell->∀L,
  XS (cx (F193 w) 193 v193 prog w A L [] [Qf (.int d),Qf (.list (iL r)),Qf (.int cell),Qg,Qg]) body (λo=>o=.rt (.str (tx (qU d r cell)))):=by
 refine⟨_,⟨by kernel_rfl,rfl,rfl,rfl,ji (by kernel_rfl),n193 w,λvs h=>?_⟩,?_⟩
 ·(refine e3_1 (vL h) ?_;rintro u v x rfl);rfl
 ·intro A n prog d r cell room hd hl hr hc L
  have V:=(n193 w).cV (a:=193) (prog:=prog) (w:=w) (A:=A) (L:=L)
  have G:=(n193 w).cG (a:=193) (w:=w) (prog:=prog) (L:=L) room rfl rfl
  have hs0:0<=cell%((d:Int)+2):=Yg _ (by lia)
  have hs1:((cell%((d:Int)+2)).toNat:Int)=cell%((d:Int)+2):=by lia
  have hrow:(iL r).take 2++(Qr (d:Int).toNat [AV.int 0]).flatten=iL (jx d r):=by rw [rep0];simp [iL,jx,List.map_take]
  have hring:(jx d r).length<=11:=by simp only [jx,QC,VK,Vv];lia
  refine XS.cons (X1.tupR (V _ _) room.1 ["row","spot"] (.cons 4 rfl (.cons 3 rfl .nil)) (.tup (.cons (PE.as (.addL (.list (.slc (.list (.v 1 rfl)) .none (.some .int) (xg 2) (by simp [hl,Qt]))) (.list (.repL (.cons .int .nil) (.v 0 rfl) (by lia) (by omega) (by decide) (by simp;exact zq1 ‹_› rfl))) ?_) (congrArg AV.list hrow)) (.cons (.mod (.v 2 rfl) (.add (.v 0 rfl) .int) (by lia)) .nil)) (show 2<=Qt by decide)) ?_ rfl rfl rfl (by rfl))
  ·rw [rep0];simp [Qt];lia
  show XS (cx (F193 w) 193 v193 prog w A L [] [Qf (.int d),Qf (.list (iL r)),Qf (.int cell),Qf (.list (iL (jx d r))),Qf (.int (cell%((d:Int)+2)))]) _ _
  rw [<-hs1]
  have hlen:=yC d r cell hd (λx hx=>(hr x hx).2) hl
  have hr2:r.getD 2 0=r[2]'(by lia):=by rw [QL,Qu (by lia)];rfl
  have h2:=hr (r.getD 2 0) (hr2▸XY _)
  refine XS.cons (X1.ret (.addT (.joinT (ls:=((jx d r).drop (cell%(d+2)).toNat++(jx d r).take (cell%(d+2)).toNat).map λn:Int=>Qr n.toNat 32++[9]) .str (.as (.map1 (ys:=(jx d r).drop (cell%(d+2)).toNat++(jx d r).take (cell%(d+2)).toNat) (fr:=[]) (.of (by kernel_rfl)) (λk:Int=>.int k) (λk:Int=>.str (tx (Qr k.toNat 32++[9]))) ?_ (λok C k hk=>?_) ?_) ?_) ?_) (.mulT (k:=32) (n:=r.getD 2 0) .str (.itemL (.list (.v 1 rfl)) .int 2 rfl ?_ (by decide)) ?_) ?_) ?_)
  ·refine PI.list room.deeper.1 (.as (.addL (.list (.slc (.list (.v 3 rfl)) (.nat _ (.v 4 rfl)) .none (xh _) ?_)) (.list (.slc (.list (.v 3 rfl)) .none (.nat _ (.v 4 rfl)) (xg _) ?_)) ?_) ?_)
   ·simp [Qt];exact zq1 ‹_› rfl
   ·simp [Qt];exact zq1 ‹_› rfl
   ·simp [Qt];lia
   ·simp [iL,List.map_drop,List.map_take]
  ·have hk2:k<=2:=by
    have hring':∀x∈jx d r,x<=2:=λx hx=>by
     rcases Qa hx with h | h
     ·exact(hr x (Xi h)).2
     ·rw [(VG.mp h).2];decide
    rcases Qa hk with h | h
    ·exact hring' k (List.mem_of_mem_drop h)
    ·exact hring' k (Xi h)
   have hk0:0<=k:=by
    have hring':∀x∈jx d r,0<=x:=λx hx=>by
     rcases Qa hx with h | h
     ·exact(hr x (Xi h)).1
     ·rw [(VG.mp h).2];decide
    rcases Qa hk with h | h
    ·exact hring' k (List.mem_of_mem_drop h)
    ·exact hring' k (Xi h)
   exact .addT (x:=Qr k.toNat 32) (y:=[9]) (.mulT (k:=32) .str (.v 0 rfl) (by lia)) .str (by simp [Qt];lia)
  ·simp [Qt];lia
  ·rw [tL,Xp];rfl
  ·exact zq1 ‹_› rfl
  ·rw [Qx,Qu (by lia),hr2];rfl
  ·lia
  ·rw [Vv];simp only [Qt];lia
  ·rfl
theorem cal193{w:Ql}{prog:QI}{A:QO}{n:Nat}(room:Room (n+1) A)(d:Nat)(r:List Int)(cell:Int)(hd:d<=9)(hl:r.length=3)(hr:∀x∈r,0<=x/\x<=2)(hc:0<=cell):Cal prog w (Bh w) A (.ref 193) [.int d,.list (iL r),.int cell] (.str (tx (qU d r cell))):=by
 (refine jc (d193 w) ?_;intro body D h)
 exact D.cal room rfl λL=>h A n prog d r cell room hd hl hr hc L
noncomputable def entI(w:Ql)(x:Qd×Tok×Int×Tok):DictEntry:=⟨hashStr w x.1,.str x.1 x.2.1,.int x.2.2.1 x.2.2.2⟩
noncomputable def rawsOf:Obj->List (Qd×Tok×Int×Tok)
 | o=>match o.data with
  | .dict es _=>es.toList.filterMap λe=>match e.key,e.val with
   | .str x t,.int i u=>Qf (x,t,i,u)
   | _,_=>Qg
  | _=>[]
theorem zz{prog:QI}{w:Ql}{h:QU}{a:Qk}{o:Obj}(raws:List (Qd×Tok×Int×Tok))(n:Nat)(ho:h.get? a=Qf o)(he:o=Vh (raws.map (entI w)) n)(nd:(raws.map (·.1)).Nodup) :
  h.DictOf (QH prog w) a (intPairs (raws.map λx=>(x.1,x.2.2.1,x.2.2.2))):=by
 subst he
 refine⟨_,_,n,ho,⟨rfl,rfl,rfl⟩,rfl,λe hm=>?_,?_,?_⟩
 ·have hm:e∈(raws.map (entI w)).toArray:=hm
  rw [List.mem_toArray]at hm
  (refine jc (Qw.mp hm) ?_;rintro x _ rfl)
  exact⟨x.1,by simp [QH,entI,ZA],rfl⟩
 ·rw [List.toList_toArray,intPairs,Xp]
  clear ho nd
  induction raws with
  | nil=>exact .nil
  | cons x r ih=>exact .cons (by simp [QH,entI,ZA]) rfl ih
 ·rw [intPairs,Xp,Xp]
  exact nd
section
variable {c:Ct}
theorem qv(prog:QI)(w:Ql)(x:Qd)(t:Tok):(QH prog w).is x (.str x t)=true:=by simp [QH,ZA]
theorem PE.itemDk{e f:Expr}{pos:Pos}{d:Qk}{vals:List (Qd×Int×Tok)}{x:Qd}{i:Int}(hd:c.B.DictOf (QH c.prog c.w) d (intPairs vals))(p:PE c e (.raw (.ref d)))(q:PE c f (.str x))(hv:intAt vals x=Qf i):PE c (.Subscript e f pos) (.int i):=λY s E x₀ =>
 qu (T:="dict") (id:="dict.__getitem__") slot_dict_getitem.lookup (PE.two p q x₀ λv u s₁ k x₁ rv ru=>by
  obtain rfl:=jb rv
  (refine jd (jj ru) ?_;rintro t rfl)
  have hd1:=hd.keep x₁.base
  (refine jd (valueAt_intPairs_of_isSome (vals:=vals) (k:=x) (by rw [hv];rfl)) ?_;intro t' e')
  rw [hv]at e'
  exact⟨hd1.mapOf.typeIs,wpAny_getItem_of (qv _ _ x t) hd1.mapOf e' ⟨ktr k jh,v7⟩⟩)
theorem cmp_inDk{d:Qk}{vals:List (Qd×Int×Tok)}{x:Qd}(hd:c.B.DictOf (QH c.prog c.w) d (intPairs vals))(hs:(d==Vc)=false):jX c .In (.str x) (.raw (.ref d)) (intAt vals x).isSome:=λY s E v u x₀ rv ru=>by
 (refine jd (jj rv) ?_;rintro t rfl)
 obtain rfl:=jb ru
 have hd1:=hd.keep x₀.base
 exact wpAny_in_of (qv _ _ x t) hs hd1.mapOf ⟨jh,by rw [isSome_valueAt_intPairs]⟩
theorem PE.dget3{a1 a2 a3 b1 b2 b3 x y:Qd}{k1 k2 k3 l1 l2 l3:Nat}{p1 p2 p3 q1 q2 q3 dp apos cpos:Pos}{e f:Expr}(hl:c.B.NoLimit)(p:PE c e (.str x))(q:PE c f (.str y))(nd:[a1,a2,a3].Nodup)
  (hst:Qv [e,f] c.env=[(false,eval e c.env),(false,eval f c.env)]:=by rfl)
  (hbase:Vp (.Dict [Qf (.Constant (.str a1) k1 p1),Qf (.Constant (.str a2) k2 p2),Qf (.Constant (.str a3) k3 p3)] [.Constant (.str b1) l1 q1,.Constant (.str b2) l2 q2,.Constant (.str b3) l3 q3] dp) "get" c.env (eval (.Dict [Qf (.Constant (.str a1) k1 p1),Qf (.Constant (.str a2) k2 p2),Qf (.Constant (.str a3) k3 p3)] [.Constant (.str b1) l1 q1,.Constant (.str b2) l2 q2,.Constant (.str b3) l3 q3] dp) c.env)=eval (.Dict [Qf (.Constant (.str a1) k1 p1),Qf (.Constant (.str a2) k2 p2),Qf (.Constant (.str a3) k3 p3)] [.Constant (.str b1) l1 q1,.Constant (.str b2) l2 q2,.Constant (.str b3) l3 q3] dp) c.env:=by rfl)
  (hline:(apos.endLine==cpos.line)=true:=by rfl) :
  PE c (.Call (.Attribute (.Dict [Qf (.Constant (.str a1) k1 p1),Qf (.Constant (.str a2) k2 p2),Qf (.Constant (.str a3) k3 p3)] [.Constant (.str b1) l1 q1,.Constant (.str b2) l2 q2,.Constant (.str b3) l3 q3] dp) "get" apos) [e,f] [] cpos)
   (.str (if a1=x then b1 else if a2=x then b2 else if a3=x then b3 else y)):=λY s E x₀=>by
 have hsz:Vc<s.heap.objs.size:=by
  (refine jc hl ?_;clear hl;rintro mc ⟨o,n1,n2,ho,_⟩ _)
  exact Zn (by decide) (jg (x₀.base _ _ ho))
 refine Call_method2 ?_ ?_ ?_ ?_
 exact hbase;exact hst;exact hline
 refine wpAny_Dict_walk (knd:=QH c.prog c.w) ?_ ?_ ?_ ?_ ?_
 rfl;rfl;(intro h;cases h);exact(by decide:3<=15)
 refine pairTrees_cons_walk ?_
 refine Vw ?_
 refine Vw ?_
 refine pairTrees_cons_walk ?_
 refine Vw ?_
 refine Vw ?_
 refine pairTrees_cons_walk ?_
 refine Vw ?_
 refine Vw ?_
 refine pairTrees_nil_walk ?_
 refine display_done_str rfl nd (Heap.DictOf.new _) λh' hd hsb=>?_
 have hk:Vb s { s with heap:=h',toks:=s.toks+1+1+1+1+1+1+3 }:=jK λb o e=>by
  rw [hsb.2 b (QR (jg e))];exact j7 _ _ e
 refine⟨"dict","dict.get",PySem.F.plainAttrs_dict,PySem.F.slot_dict_get,PySem.F.type_dict_get,hd.mapOf.typeIs,hd.mapOf.noDict,?_⟩
 refine wpAny_dict_get2 (knd:=QH c.prog c.w) (by simpa using Nat.ne_of_gt hsz) ?_
 refine PE.two p q (x₀.mono (jr hk) (by have:=x₀.tk;dsimp only;exact Vn _)) λv u s₂ k₂ x₂ rv ru=>?_
 (refine jd (jj rv) ?_;rintro t rfl)
 (refine jd (jj ru) ?_;rintro t' rfl)
 refine⟨x,_,qv _ _ x t,(hd.keep (jr k₂)).mapOf,ktr hk (ktr k₂ jh),?_⟩
 simp only [strPairs,valueAt,List.find?_cons,List.find?_nil]
 by_cases e1:a1=x
 ·simp [e1,vq]
 ·by_cases e2:a2=x
  ·simp [e1,e2,vq]
  ·by_cases e3:a3=x
   ·simp [e1,e2,e3,vq]
   ·simp [e1,e2,e3,vq]
end
noncomputable def jf(c:Nat)(z l:List Nat):List Nat:=l.flatMap λk=>if k=c then z else [k]
theorem qB(c:Nat)(z a b:List Nat):jf c z (a++b)=jf c z a++jf c z b:=by simp [jf]
theorem qL{c:Nat}{z:List Nat}:∀ {l:List Nat},c∉l->jf c z l=l
 | [],_=>rfl
 | k::l,h=>by
  have hk:k≠c:=λe=>h (e▸.head _)
  have:=qL (z:=z) (l:=l) λm=>h (.tail _ m)
  simp only [jf,List.flatMap_cons,if_neg hk]at this ⊢
  rw [this];rfl
theorem vO{x y:Qd}(h:x.cps.toList=y.cps.toList):x=y:=by
 obtain⟨⟨a⟩⟩:=x
 obtain⟨⟨b⟩⟩:=y
 simp only at h
 rw [h]
theorem tx_of(x:Qd):tx x.cps.toList=x:=vO rfl
theorem J4(c:Nat)(z:List Nat):∀parts:List Qd,(∀p∈parts,c∉p.cps.toList)->(Y7 (tx z) parts).cps.toList=jf c z (Y7 (tx [c]) parts).cps.toList
 | [],_=>rfl
 | [a],h=>by simp only [PyProof.Rows.join_one];rw [qL (h a (.head _))]
 | a::b::r,h=>by
  have ih:=J4 c z (b::r) λp hp=>h p (.tail _ hp)
  rw [Xj,Xj]
  have e:∀x y:Qd,(x++y).cps.toList=x.cps.toList++y.cps.toList:=λx y=>XJ
  rw [e,e,e,e,qB,qB,ih,qL (h a (.head _))]
  simp [jf]
theorem Jr(l:List Nat)(c:Nat)(z:List Nat):Xv (tx l) (tx [c]) (tx z)=tx (jf c z l):=by
 refine vO ?_
 rw [StrLaws.replace_one,J4 c z _ (StrLaws.split_free (tx l) c),StrLaws.join_split]
theorem zA(l:List Nat)(c:Nat):Txt.contains (tx l) (tx [c])=decide (c∈l):=StrLaws.found_one (tx l) c
noncomputable def vf(c:Nat):List (List Nat)->List Nat
 | []=>[]
 | [a]=>a
 | a::b::r=>a++c::vf c (b::r)
theorem yF{c:Nat}{a:List Nat}:vf c [a]=a:=rfl
theorem xA{c:Nat}{a b:List Nat}{r:List (List Nat)}:vf c (a::b::r)=a++c::vf c (b::r):=rfl
theorem xz(c:Nat):∀ls:List (List Nat),Y7 (tx [c]) (ls.map tx)=tx (vf c ls)
 | []=>rfl
 | [a]=>rfl
 | a::b::r=>by
  have:=xz c (b::r)
  simp only [QP]at this ⊢
  rw [Xj,this,kZ,kZ]
  simp [xA]
theorem KP{c:Nat}:∀ {a b r s:List Nat},c∉a->c∉b->a++c::r=b++c::s->a=b/\r=s
 | [],[],_,_,_,_,h=>⟨rfl,by simpa using h⟩
 | [],y::b,_,_,_,hb,h=>by simp only [Z3,VB,Xw]at h;exact absurd (h.1▸.head _) hb
 | x::a,[],_,_,ha,_,h=>by simp only [Z3,VB,Xw]at h;exact absurd (h.1▸.head _) ha
 | x::a,y::b,_,_,ha,hb,h=>by
  simp only [VB,Xw]at h
  (refine jw (KP (λm=>ha (.tail _ m)) (λm=>hb (.tail _ m)) h.2) ?_;intro e1 e2)
  exact⟨by rw [h.1,e1],e2⟩
theorem yE{c:Nat}:∀ {p q:List (List Nat)},p≠[]->q≠[]->(∀x∈p,c∉x)->(∀x∈q,c∉x)->vf c p=vf c q->p=q
 | [],_,h,_,_,_,_=>absurd rfl h
 | _,[],_,h,_,_,_=>absurd rfl h
 | [a],[b],_,_,_,_,h=>by simp only [yF,xA]at h;rw [h]
 | [a],b::b'::q,_,_,hp,_,h=>by
  simp only [yF,xA]at h
  exact absurd (h▸Q7 _ (.head _)) (hp a (.head _))
 | a::a'::p,[b],_,_,_,hq,h=>by
  simp only [yF,xA]at h
  exact absurd (h▸Q7 _ (.head _)) (hq b (.head _))
 | a::a'::p,b::b'::q,_,_,hp,hq,h=>by
  simp only [yF,xA]at h
  (refine jw (KP (hp a (.head _)) (hq b (.head _)) h) ?_;intro e1 e2)
  rw [e1,yE (List.cons_ne_nil _ _) (List.cons_ne_nil _ _) (λx hx=>hp x (.tail _ hx)) (λx hx=>hq x (.tail _ hx)) e2]
theorem split_ne(x:Qd)(c:Nat):Xu x (tx [c])≠[]:=by
 unfold Xu
 split
 ·simp
 ·split
  ·simp
  ·rename_i h
   intro e
   have:=congrArg Yx e
   simp only [Z2,QQ]at this
   simp at this
theorem split_tx(c:Nat)(ls:List (List Nat))(hne:ls≠[])(hf:∀l∈ls,c∉l):Xu (tx (vf c ls)) (tx [c])=ls.map tx:=by
 have h1:=StrLaws.join_split (tx (vf c ls)) (tx [c])
 have h2:=StrLaws.split_free (tx (vf c ls)) c
 have h3:=split_ne (tx (vf c ls)) c
 change ∀p∈Xu (tx (vf c ls)) (tx [c]),_ at h2
 generalize Xu (tx (vf c ls)) (tx [c])=P at h1 h2 h3
 have eP:P=(P.map λp=>p.cps.toList).map tx:=by
  rw [Xp]
  conv=>lhs;rw [<-List.map_id P]
  exact VI λp _=>(tx_of p).symm
 rw [eP,xz]at h1
 have:=yE (c:=c) (p:=P.map λp=>p.cps.toList) (q:=ls) (by simpa using h3) hne (λx hx=>by
  (refine jc (Qw.mp hx) ?_;rintro p hp rfl);exact h2 p hp) hf (tx_inj h1)
 rw [eP,this]
section
variable {c:Ct} {P:Out->Prop}
theorem PE.split{o e:Expr}{apos cpos:Pos}{x y:Qd}(p:PE c o (.str x))(q:PE c e (.str y))(hy:(y.length==0)=false)(hx:x.length<=Qt)(hn:(Xu x y).length<=Qt)
  (hst:Qv [e] c.env=[(false,eval e c.env)]:=by rfl) (hbase:Vp o "split" c.env (eval o c.env)=eval o c.env:=by rfl) (hline:(apos.endLine==cpos.line)=true:=by rfl) :
  PE c (.Call (.Attribute o "split" apos) [e] [] cpos) (.list (sL (Xu x y))):=λY s E x₀ =>
 meth1 (Y:=Y) (p.use x₀ λv s₁ k₁ x₁ r₁=>by
  (refine jd (jj r₁) ?_;rintro t rfl)
  refine⟨"str",_,PySem.F.plainAttrs_str,PySem.F.slot_str_split,PySem.F.type_str_split,typeIs_str _ _ _,(λ_ e=>nomatch e),
   method1_meets PySem.F.slot_str_split PySem.F.entry_str_split (q.use x₁ λu s₂ k₂ x₂ r₂=>?_)⟩
  (refine jd (jj r₂) ?_;rintro t' rfl)
  refine⟨typeIs_str _ _ _,PySem.F.args_str_split_2 _ _,?_⟩
  have done:∀(l:List (Qd×Tok)) (tk:Tok),l.map (·.1)=Xu x y->Vb s { s₂ with heap:=s₂.heap.push { cls:=.type "list",data:=.seq (strValues l).toArray },toks:=tk }/\Rep (hid (c.X++Y) (s₂.heap.push { cls:=.type "list",data:=.seq (strValues l).toArray })) (.list (sL (Xu x y))) (.ref s₂.heap.objs.size):=λl tk hl=>by
   refine⟨ktr k₁ (ktr k₂ (jK j7)),?_⟩
   show Exists _
   exact⟨_,_,0,rfl,kx (λz hz=>x₂.live z hz) rfl,hl▸Reps.ofStrs l⟩
  cases h1:(decide (x.length<y.length)||decide (Builtin.Str.strKind x<Builtin.Str.strKind y))
  ·cases hf:(Zi x y 0 x.length (x.length+1)).isEmpty
   ·have hsp:Xu x y=Z2 x (Zi x y 0 x.length (x.length+1)) y.length:=(if_neg (ne_true_of_eq_false h1)).trans (if_neg (ne_true_of_eq_false hf))
    refine⟨_,meets_str_split_sep x y t t' h1 hy hf hx (hsp▸hn),?_⟩
    show wants _ _ _ { s₂ with toks:=_,heap:=s₂.heap.push { cls:=.type "list",data:=.seq (strsFrom s₂.toks (Z2 x (Zi x y 0 x.length (x.length+1)) y.length)).toArray } }
    rw [strsFrom_eq]
    exact done _ _ ((numbered_texts _ _).trans hsp.symm)
   ·exact⟨_,meets_str_split_not_found x y t t' h1 hy hf,done [(x,t)] _ ((if_neg (ne_true_of_eq_false h1)).trans (if_pos hf)).symm⟩
  ·exact⟨_,meets_str_split_cannot_occur x y t t' h1,done [(x,t)] _ (if_pos h1).symm⟩) hst hbase hline
theorem X1.try{body:List XM}{h₀:ExceptHandler}{hs:List ExceptHandler}{pos:Pos}(h:XS c body P):X1 c (.Try body (h₀::hs) [] [] pos) P:=λYc s₀ s E ht f =>
 wpAny_Try_except (Qz (h s₀ s _ ht f) (λfl s₁ p=>by
  cases fl with
  | next=>exact Vm p
  | brk=>exact p
  | cont=>exact p
  | ret v=>exact p) λ_ _ y=>y)
theorem KT{l:List Nat}{k:Nat}:jX c .In (.str (tx [k])) (.str (tx l)) (decide (k∈l)):=zA l k▸cmp_inS
theorem PE.repT{o:Expr}{a:Nat}{y:Qd}{z:List Nat}{zs:Qd}{k1 k2:Nat}{p1 p2 apos cpos:Pos}{l:List Nat}(hy:y=tx [a])(hz:zs=tx z)(p:PE c o (.str (tx l)))(hyz:(tx [a]==tx z)=false)(hb:l.length+(l.length+1)*z.length<=16777216)
  (hst:Qv [.Constant (.str y) k1 p1,.Constant (.str zs) k2 p2] c.env=[(false,eval (.Constant (.str y) k1 p1) c.env),(false,eval (.Constant (.str zs) k2 p2) c.env)]:=by rfl)
  (hbase:Vp o "replace" c.env (eval o c.env)=eval o c.env:=by rfl) (hline:(apos.endLine==cpos.line)=true:=by rfl) :
  PE c (.Call (.Attribute o "replace" apos) [.Constant (.str y) k1 p1,.Constant (.str zs) k2 p2] [] cpos) (.str (tx (jf a z l))):=by
 subst hy hz
 rw [<-Jr]
 exact PE.replace p hyz hb hst hbase hline
end
noncomputable def vy:List (Nat×List Nat)->List Nat->List Nat
 | [],l=>l
 | p::r,l=>vy r (jf p.1 p.2 l)
theorem escs1{p:Nat×List Nat}{r:List (Nat×List Nat)}{l:List Nat}:vy (p::r) l=vy r (jf p.1 p.2 l):=rfl
theorem jp(a:Nat)(z:List Nat)(hz:1<=z.length)(l:List Nat):(jf a z l).length<=l.length*z.length:=by
 induction l with
 | nil=>simp [jf]
 | cons k l ih =>
  have e:jf a z (k::l)=(if k=a then z else [k])++jf a z l:=rfl
  rw [e,QC,QA,Nat.succ_mul]
  split
  ·lia
  ·simp only [X2];lia
section
variable {c:Ct} {P:Out->Prop}
theorem X1.esc(V:Vars c){x:Qd}{a:Nat}{z l:List Nat}{y zs:Qd}{k0 k1 k2:Nat}{p0 p1 p2 p3 p4 p5 p6 apos cpos pos ipos:Pos}(m:Nat)(hσ:c.σ=[Qf (.str (tx l))])(hx:c.vars[0]?=Qf x)(hy:y=tx [a])(hzs:zs=tx z)(hl:l.length<=m)(hm:m+(m+1)*z.length<=16777216)
  (h:P (.nx c.X [Qf (.str (tx (jf a z l)))])) (hyz:(tx [a]==tx z)=false) (hk:c.env.scope.kind=.function) (hd:(x==("__debug__" : Qd))=false) (hcd:(x==("__classdict__" : Qd))=false)
  (hsw:VU (.Call (.Attribute (.Name x p3) "replace" apos) [.Constant (.str y) k1 p1,.Constant (.str zs) k2 p2] [] cpos) (Qf (.Name x p4)) pos.line c.env=pure false)
  (hst:Qv [.Constant (.str y) k1 p1,.Constant (.str zs) k2 p2] c.env=[(false,eval (.Constant (.str y) k1 p1) c.env),(false,eval (.Constant (.str zs) k2 p2) c.env)])
  (hbase:Vp (.Name x p3) "replace" c.env (eval (.Name x p3) c.env)=eval (.Name x p3) c.env) (hline:(apos.endLine==cpos.line)=true) :
  X1 c (.If (.Compare (.Constant (.str y) k0 p0) [.In] [.Name x p5] p6) [.Assign [.Name x p4] (.Call (.Attribute (.Name x p3) "replace" apos) [.Constant (.str y) k1 p1,.Constant (.str zs) k2 p2] [] cpos) pos] [] ipos) P:=by
 have h0:c.σ[0]?=Qf (Qf (.str (tx l))):=by rw [hσ];rfl
 refine X1.ite (b:=decide (a∈l)) (.cmp (a:=.str (tx [a])) (hy▸PE.str) (PE.v 0 h0 hk hx hd hcd rfl) KT) (λhb=>?_) λhb=>?_
 ·refine XS.cons (X1.assign V 0 hx (.repT hy hzs (PE.v 0 h0 hk hx hd hcd rfl) hyz ?_ hst hbase hline) ?_ hsw)
  ·have:(l.length+1)*z.length<=(m+1)*z.length:=QJ _ (by exact V4 ‹_›)
   lia
  ·refine XS.nil ?_
   show P (.nx c.X (c.σ.set 0 (Qf (.str (tx (jf a z l))))))
   rw [hσ];exact h
 ·refine XS.nil ?_
  have hna:a∉l:=of_decide_eq_false hb
  rw [qL hna]at h
  rw [hσ];exact h
end
noncomputable abbrev s141:List (Nat×List Nat):=[(38,[38,97,109,112,59]),(60,[38,108,116,59]),(62,[38,103,116,59])]
noncomputable abbrev F141(w:Ql):FuncData:=vx (o_151 w.params)
theorem n141(w:Ql):Names (F141 w) ["text"]:=.of (by kernel_rfl)
theorem d141(w:Ql):∃body,Df (Bh w) 141 (o_151 w.params) (F141 w) body ["text"] []/\∀A n prog (l:List Nat),Room (n+1) A->l.length<=60->∀L,
  XS (cx (F141 w) 141 ["text"] prog w A L [] [Qf (.str (tx l))]) body (λo=>o=.rt (.str (tx (vy s141 l)))):=by
 refine⟨_,⟨by kernel_rfl,rfl,rfl,rfl,ji (by kernel_rfl),n141 w,λvs h=>?_⟩,?_⟩
 ·(refine jd (jQ h) ?_;rintro u rfl);rfl
 ·intro A n prog l room hl L
  have V:=(n141 w).cV (a:=141) (prog:=prog) (w:=w) (A:=A) (L:=L)
  refine XS.cons (X1.try ?_)
  refine XS.cons (X1.esc (V _ _) (a:=38) (z:=[38,97,109,112,59]) 60 rfl rfl rfl rfl hl (by decide) ?_ (by decide) rfl (by decide) (by decide) rfl rfl rfl rfl)
  have h0:(jf 38 [38,97,109,112,59] l).length<=300:=by have:=jp 38 [38,97,109,112,59] (by decide) l;have:=QJ 5 hl;simp only [QA,QQ]at *;exact Qp ‹_› ‹_›
  show XS (cx (F141 w) 141 ["text"] prog w A L [] [Qf (.str (tx (jf 38 [38,97,109,112,59] l)))]) _ _
  refine XS.cons (X1.esc (V _ _) (a:=60) (z:=[38,108,116,59]) 300 rfl rfl rfl rfl h0 (by decide) ?_ (by decide) rfl (by decide) (by decide) rfl rfl rfl rfl)
  have h1:(jf 60 [38,108,116,59] (jf 38 [38,97,109,112,59] l)).length<=1200:=by have:=jp 60 [38,108,116,59] (by decide) (jf 38 [38,97,109,112,59] l);have:=QJ 4 h0;simp only [QA,QQ]at *;exact Qp ‹_› ‹_›
  show XS (cx (F141 w) 141 ["text"] prog w A L [] [Qf (.str (tx (jf 60 [38,108,116,59] (jf 38 [38,97,109,112,59] l))))]) _ _
  refine XS.cons (X1.esc (V _ _) (a:=62) (z:=[38,103,116,59]) 1200 rfl rfl rfl rfl h1 (by decide) ?_ (by decide) rfl (by decide) (by decide) rfl rfl rfl rfl)
  have h2:(jf 62 [38,103,116,59] (jf 60 [38,108,116,59] (jf 38 [38,97,109,112,59] l))).length<=4800:=by have:=jp 62 [38,103,116,59] (by decide) (jf 60 [38,108,116,59] (jf 38 [38,97,109,112,59] l));have:=QJ 4 h1;simp only [QA,QQ]at *;exact Qp ‹_› ‹_›
  show XS (cx (F141 w) 141 ["text"] prog w A L [] [Qf (.str (tx (jf 62 [38,103,116,59] (jf 60 [38,108,116,59] (jf 38 [38,97,109,112,59] l)))))]) _ _
  exact XS.cons (X1.ret (.v 0 rfl) rfl)
theorem cal141{w:Ql}{prog:QI}{A:QO}{n:Nat}(room:Room (n+1) A)(l:List Nat)(hl:l.length<=60):Cal prog w (Bh w) A (.ref 141) [.str (tx l)] (.str (tx (vy s141 l))):=by
 (refine jc (d141 w) ?_;intro body D h)
 exact D.cal room rfl λL=>h A n prog l room hl L
noncomputable abbrev s148:List (Nat×List Nat):=[(38,[38,97,109,112,59]),(60,[38,108,116,59]),(62,[38,103,116,59]),(34,[38,113,117,111,116,59]),(13,[38,35,49,51,59]),(10,[38,35,49,48,59]),(9,[38,35,48,57,59])]
noncomputable abbrev Q6(w:Ql):FuncData:=vx (o_158 w.params)
theorem n148(w:Ql):Names (Q6 w) ["text"]:=.of (by kernel_rfl)
theorem d148(w:Ql):∃body,Df (Bh w) 148 (o_158 w.params) (Q6 w) body ["text"] []/\∀A n prog (l:List Nat),Room (n+1) A->l.length<=60->∀L,
  XS (cx (Q6 w) 148 ["text"] prog w A L [] [Qf (.str (tx l))]) body (λo=>o=.rt (.str (tx (vy s148 l)))):=by
 refine⟨_,⟨by kernel_rfl,rfl,rfl,rfl,ji (by kernel_rfl),n148 w,λvs h=>?_⟩,?_⟩
 ·(refine jd (jQ h) ?_;rintro u rfl);rfl
 ·intro A n prog l room hl L
  have V:=(n148 w).cV (a:=148) (prog:=prog) (w:=w) (A:=A) (L:=L)
  refine XS.cons (X1.try ?_)
  refine XS.cons (X1.esc (V _ _) (a:=38) (z:=[38,97,109,112,59]) 60 rfl rfl rfl rfl hl (by decide) ?_ (by decide) rfl (by decide) (by decide) rfl rfl rfl rfl)
  have h0:(jf 38 [38,97,109,112,59] l).length<=300:=by have:=jp 38 [38,97,109,112,59] (by decide) l;have:=QJ 5 hl;simp only [QA,QQ]at *;exact Qp ‹_› ‹_›
  show XS (cx (Q6 w) 148 ["text"] prog w A L [] [Qf (.str (tx (jf 38 [38,97,109,112,59] l)))]) _ _
  refine XS.cons (X1.esc (V _ _) (a:=60) (z:=[38,108,116,59]) 300 rfl rfl rfl rfl h0 (by decide) ?_ (by decide) rfl (by decide) (by decide) rfl rfl rfl rfl)
  have h1:(jf 60 [38,108,116,59] (jf 38 [38,97,109,112,59] l)).length<=1200:=by have:=jp 60 [38,108,116,59] (by decide) (jf 38 [38,97,109,112,59] l);have:=QJ 4 h0;simp only [QA,QQ]at *;exact Qp ‹_› ‹_›
  show XS (cx (Q6 w) 148 ["text"] prog w A L [] [Qf (.str (tx (jf 60 [38,108,116,59] (jf 38 [38,97,109,112,59] l))))]) _ _
  refine XS.cons (X1.esc (V _ _) (a:=62) (z:=[38,103,116,59]) 1200 rfl rfl rfl rfl h1 (by decide) ?_ (by decide) rfl (by decide) (by decide) rfl rfl rfl rfl)
  have h2:(jf 62 [38,103,116,59] (jf 60 [38,108,116,59] (jf 38 [38,97,109,112,59] l))).length<=4800:=by have:=jp 62 [38,103,116,59] (by decide) (jf 60 [38,108,116,59] (jf 38 [38,97,109,112,59] l));have:=QJ 4 h1;simp only [QA,QQ]at *;exact Qp ‹_› ‹_›
  show XS (cx (Q6 w) 148 ["text"] prog w A L [] [Qf (.str (tx (jf 62 [38,103,116,59] (jf 60 [38,108,116,59] (jf 38 [38,97,109,112,59] l)))))]) _ _
  refine XS.cons (X1.esc (V _ _) (a:=34) (z:=[38,113,117,111,116,59]) 4800 rfl rfl rfl rfl h2 (by decide) ?_ (by decide) rfl (by decide) (by decide) rfl rfl rfl rfl)
  have h3:(jf 34 [38,113,117,111,116,59] (jf 62 [38,103,116,59] (jf 60 [38,108,116,59] (jf 38 [38,97,109,112,59] l)))).length<=28800:=by have:=jp 34 [38,113,117,111,116,59] (by decide) (jf 62 [38,103,116,59] (jf 60 [38,108,116,59] (jf 38 [38,97,109,112,59] l)));have:=QJ 6 h2;simp only [QA,QQ]at *;exact Qp ‹_› ‹_›
  show XS (cx (Q6 w) 148 ["text"] prog w A L [] [Qf (.str (tx (jf 34 [38,113,117,111,116,59] (jf 62 [38,103,116,59] (jf 60 [38,108,116,59] (jf 38 [38,97,109,112,59] l))))))]) _ _
  refine XS.cons (X1.esc (V _ _) (a:=13) (z:=[38,35,49,51,59]) 28800 rfl rfl rfl rfl h3 (by decide) ?_ (by decide) rfl (by decide) (by decide) rfl rfl rfl rfl)
  have h4:(jf 13 [38,35,49,51,59] (jf 34 [38,113,117,111,116,59] (jf 62 [38,103,116,59] (jf 60 [38,108,116,59] (jf 38 [38,97,109,112,59] l))))).length<=144000:=by have:=jp 13 [38,35,49,51,59] (by decide) (jf 34 [38,113,117,111,116,59] (jf 62 [38,103,116,59] (jf 60 [38,108,116,59] (jf 38 [38,97,109,112,59] l))));have:=QJ 5 h3;simp only [QA,QQ]at *;exact Qp ‹_› ‹_›
  show XS (cx (Q6 w) 148 ["text"] prog w A L [] [Qf (.str (tx (jf 13 [38,35,49,51,59] (jf 34 [38,113,117,111,116,59] (jf 62 [38,103,116,59] (jf 60 [38,108,116,59] (jf 38 [38,97,109,112,59] l)))))))]) _ _
  refine XS.cons (X1.esc (V _ _) (a:=10) (z:=[38,35,49,48,59]) 144000 rfl rfl rfl rfl h4 (by decide) ?_ (by decide) rfl (by decide) (by decide) rfl rfl rfl rfl)
  have h5:(jf 10 [38,35,49,48,59] (jf 13 [38,35,49,51,59] (jf 34 [38,113,117,111,116,59] (jf 62 [38,103,116,59] (jf 60 [38,108,116,59] (jf 38 [38,97,109,112,59] l)))))).length<=720000:=by have:=jp 10 [38,35,49,48,59] (by decide) (jf 13 [38,35,49,51,59] (jf 34 [38,113,117,111,116,59] (jf 62 [38,103,116,59] (jf 60 [38,108,116,59] (jf 38 [38,97,109,112,59] l)))));have:=QJ 5 h4;simp only [QA,QQ]at *;exact Qp ‹_› ‹_›
  show XS (cx (Q6 w) 148 ["text"] prog w A L [] [Qf (.str (tx (jf 10 [38,35,49,48,59] (jf 13 [38,35,49,51,59] (jf 34 [38,113,117,111,116,59] (jf 62 [38,103,116,59] (jf 60 [38,108,116,59] (jf 38 [38,97,109,112,59] l))))))))]) _ _
  refine XS.cons (X1.esc (V _ _) (a:=9) (z:=[38,35,48,57,59]) 720000 rfl rfl rfl rfl h5 (by decide) ?_ (by decide) rfl (by decide) (by decide) rfl rfl rfl rfl)
  have h6:(jf 9 [38,35,48,57,59] (jf 10 [38,35,49,48,59] (jf 13 [38,35,49,51,59] (jf 34 [38,113,117,111,116,59] (jf 62 [38,103,116,59] (jf 60 [38,108,116,59] (jf 38 [38,97,109,112,59] l))))))).length<=3600000:=by have:=jp 9 [38,35,48,57,59] (by decide) (jf 10 [38,35,49,48,59] (jf 13 [38,35,49,51,59] (jf 34 [38,113,117,111,116,59] (jf 62 [38,103,116,59] (jf 60 [38,108,116,59] (jf 38 [38,97,109,112,59] l))))));have:=QJ 5 h5;simp only [QA,QQ]at *;exact Qp ‹_› ‹_›
  show XS (cx (Q6 w) 148 ["text"] prog w A L [] [Qf (.str (tx (jf 9 [38,35,48,57,59] (jf 10 [38,35,49,48,59] (jf 13 [38,35,49,51,59] (jf 34 [38,113,117,111,116,59] (jf 62 [38,103,116,59] (jf 60 [38,108,116,59] (jf 38 [38,97,109,112,59] l)))))))))]) _ _
  exact XS.cons (X1.ret (.v 0 rfl) rfl)
theorem cal148{w:Ql}{prog:QI}{A:QO}{n:Nat}(room:Room (n+1) A)(l:List Nat)(hl:l.length<=60):Cal prog w (Bh w) A (.ref 148) [.str (tx l)] (.str (tx (vy s148 l))):=by
 (refine jc (d148 w) ?_;intro body D h)
 exact D.cal room rfl λL=>h A n prog l room hl L
noncomputable abbrev s155:List (Nat×List Nat):=[(38,[38,97,109,112,59]),(62,[38,103,116,59]),(34,[38,113,117,111,116,59])]
noncomputable abbrev F155(w:Ql):FuncData:=vx (o_165 w.params)
theorem n155(w:Ql):Names (F155 w) ["text"]:=.of (by kernel_rfl)
theorem d155(w:Ql):∃body,Df (Bh w) 155 (o_165 w.params) (F155 w) body ["text"] []/\∀A n prog (l:List Nat),Room (n+1) A->l.length<=60->∀L,
  XS (cx (F155 w) 155 ["text"] prog w A L [] [Qf (.str (tx l))]) body (λo=>o=.rt (.str (tx (vy s155 l)))):=by
 refine⟨_,⟨by kernel_rfl,rfl,rfl,rfl,ji (by kernel_rfl),n155 w,λvs h=>?_⟩,?_⟩
 ·(refine jd (jQ h) ?_;rintro u rfl);rfl
 ·intro A n prog l room hl L
  have V:=(n155 w).cV (a:=155) (prog:=prog) (w:=w) (A:=A) (L:=L)
  refine XS.cons (X1.try ?_)
  refine XS.cons (X1.esc (V _ _) (a:=38) (z:=[38,97,109,112,59]) 60 rfl rfl rfl rfl hl (by decide) ?_ (by decide) rfl (by decide) (by decide) rfl rfl rfl rfl)
  have h0:(jf 38 [38,97,109,112,59] l).length<=300:=by have:=jp 38 [38,97,109,112,59] (by decide) l;have:=QJ 5 hl;simp only [QA,QQ]at *;exact Qp ‹_› ‹_›
  show XS (cx (F155 w) 155 ["text"] prog w A L [] [Qf (.str (tx (jf 38 [38,97,109,112,59] l)))]) _ _
  refine XS.cons (X1.esc (V _ _) (a:=62) (z:=[38,103,116,59]) 300 rfl rfl rfl rfl h0 (by decide) ?_ (by decide) rfl (by decide) (by decide) rfl rfl rfl rfl)
  have h1:(jf 62 [38,103,116,59] (jf 38 [38,97,109,112,59] l)).length<=1200:=by have:=jp 62 [38,103,116,59] (by decide) (jf 38 [38,97,109,112,59] l);have:=QJ 4 h0;simp only [QA,QQ]at *;exact Qp ‹_› ‹_›
  show XS (cx (F155 w) 155 ["text"] prog w A L [] [Qf (.str (tx (jf 62 [38,103,116,59] (jf 38 [38,97,109,112,59] l))))]) _ _
  refine XS.cons (X1.esc (V _ _) (a:=34) (z:=[38,113,117,111,116,59]) 1200 rfl rfl rfl rfl h1 (by decide) ?_ (by decide) rfl (by decide) (by decide) rfl rfl rfl rfl)
  have h2:(jf 34 [38,113,117,111,116,59] (jf 62 [38,103,116,59] (jf 38 [38,97,109,112,59] l))).length<=7200:=by have:=jp 34 [38,113,117,111,116,59] (by decide) (jf 62 [38,103,116,59] (jf 38 [38,97,109,112,59] l));have:=QJ 6 h1;simp only [QA,QQ]at *;exact Qp ‹_› ‹_›
  show XS (cx (F155 w) 155 ["text"] prog w A L [] [Qf (.str (tx (jf 34 [38,113,117,111,116,59] (jf 62 [38,103,116,59] (jf 38 [38,97,109,112,59] l)))))]) _ _
  exact XS.cons (X1.ret (.v 0 rfl) rfl)
theorem cal155{w:Ql}{prog:QI}{A:QO}{n:Nat}(room:Room (n+1) A)(l:List Nat)(hl:l.length<=60):Cal prog w (Bh w) A (.ref 155) [.str (tx l)] (.str (tx (vy s155 l))):=by
 (refine jc (d155 w) ?_;intro body D h)
 exact D.cal room rfl λL=>h A n prog l room hl L
noncomputable abbrev s162:List (Nat×List Nat):=[(38,[38,97,109,112,59]),(60,[38,108,116,59]),(62,[38,103,116,59]),(13,[38,35,120,68,59])]
noncomputable abbrev F162(w:Ql):FuncData:=vx (o_172 w.params)
theorem n162(w:Ql):Names (F162 w) ["text"]:=.of (by kernel_rfl)
theorem d162(w:Ql):∃body,Df (Bh w) 162 (o_172 w.params) (F162 w) body ["text"] []/\∀A n prog (l:List Nat),Room (n+1) A->l.length<=60->∀L,
  XS (cx (F162 w) 162 ["text"] prog w A L [] [Qf (.str (tx l))]) body (λo=>o=.rt (.str (tx (vy s162 l)))):=by
 refine⟨_,⟨by kernel_rfl,rfl,rfl,rfl,ji (by kernel_rfl),n162 w,λvs h=>?_⟩,?_⟩
 ·(refine jd (jQ h) ?_;rintro u rfl);rfl
 ·intro A n prog l room hl L
  have V:=(n162 w).cV (a:=162) (prog:=prog) (w:=w) (A:=A) (L:=L)
  refine XS.cons (X1.try ?_)
  refine XS.cons (X1.esc (V _ _) (a:=38) (z:=[38,97,109,112,59]) 60 rfl rfl rfl rfl hl (by decide) ?_ (by decide) rfl (by decide) (by decide) rfl rfl rfl rfl)
  have h0:(jf 38 [38,97,109,112,59] l).length<=300:=by have:=jp 38 [38,97,109,112,59] (by decide) l;have:=QJ 5 hl;simp only [QA,QQ]at *;exact Qp ‹_› ‹_›
  show XS (cx (F162 w) 162 ["text"] prog w A L [] [Qf (.str (tx (jf 38 [38,97,109,112,59] l)))]) _ _
  refine XS.cons (X1.esc (V _ _) (a:=60) (z:=[38,108,116,59]) 300 rfl rfl rfl rfl h0 (by decide) ?_ (by decide) rfl (by decide) (by decide) rfl rfl rfl rfl)
  have h1:(jf 60 [38,108,116,59] (jf 38 [38,97,109,112,59] l)).length<=1200:=by have:=jp 60 [38,108,116,59] (by decide) (jf 38 [38,97,109,112,59] l);have:=QJ 4 h0;simp only [QA,QQ]at *;exact Qp ‹_› ‹_›
  show XS (cx (F162 w) 162 ["text"] prog w A L [] [Qf (.str (tx (jf 60 [38,108,116,59] (jf 38 [38,97,109,112,59] l))))]) _ _
  refine XS.cons (X1.esc (V _ _) (a:=62) (z:=[38,103,116,59]) 1200 rfl rfl rfl rfl h1 (by decide) ?_ (by decide) rfl (by decide) (by decide) rfl rfl rfl rfl)
  have h2:(jf 62 [38,103,116,59] (jf 60 [38,108,116,59] (jf 38 [38,97,109,112,59] l))).length<=4800:=by have:=jp 62 [38,103,116,59] (by decide) (jf 60 [38,108,116,59] (jf 38 [38,97,109,112,59] l));have:=QJ 4 h1;simp only [QA,QQ]at *;exact Qp ‹_› ‹_›
  show XS (cx (F162 w) 162 ["text"] prog w A L [] [Qf (.str (tx (jf 62 [38,103,116,59] (jf 60 [38,108,116,59] (jf 38 [38,97,109,112,59] l)))))]) _ _
  refine XS.cons (X1.esc (V _ _) (a:=13) (z:=[38,35,120,68,59]) 4800 rfl rfl rfl rfl h2 (by decide) ?_ (by decide) rfl (by decide) (by decide) rfl rfl rfl rfl)
  have h3:(jf 13 [38,35,120,68,59] (jf 62 [38,103,116,59] (jf 60 [38,108,116,59] (jf 38 [38,97,109,112,59] l)))).length<=24000:=by have:=jp 13 [38,35,120,68,59] (by decide) (jf 62 [38,103,116,59] (jf 60 [38,108,116,59] (jf 38 [38,97,109,112,59] l)));have:=QJ 5 h2;simp only [QA,QQ]at *;exact Qp ‹_› ‹_›
  show XS (cx (F162 w) 162 ["text"] prog w A L [] [Qf (.str (tx (jf 13 [38,35,120,68,59] (jf 62 [38,103,116,59] (jf 60 [38,108,116,59] (jf 38 [38,97,109,112,59] l))))))]) _ _
  exact XS.cons (X1.ret (.v 0 rfl) rfl)
theorem cal162{w:Ql}{prog:QI}{A:QO}{n:Nat}(room:Room (n+1) A)(l:List Nat)(hl:l.length<=60):Cal prog w (Bh w) A (.ref 162) [.str (tx l)] (.str (tx (vy s162 l))):=by
 (refine jc (d162 w) ?_;intro body D h)
 exact D.cal room rfl λL=>h A n prog l room hl L
noncomputable abbrev s169:List (Nat×List Nat):=[(38,[38,97,109,112,59]),(60,[38,108,116,59]),(34,[38,113,117,111,116,59]),(9,[38,35,120,57,59]),(10,[38,35,120,65,59]),(13,[38,35,120,68,59])]
noncomputable abbrev F169(w:Ql):FuncData:=vx (o_179 w.params)
theorem n169(w:Ql):Names (F169 w) ["text"]:=.of (by kernel_rfl)
theorem d169(w:Ql):∃body,Df (Bh w) 169 (o_179 w.params) (F169 w) body ["text"] []/\∀A n prog (l:List Nat),Room (n+1) A->l.length<=60->∀L,
  XS (cx (F169 w) 169 ["text"] prog w A L [] [Qf (.str (tx l))]) body (λo=>o=.rt (.str (tx (vy s169 l)))):=by
 refine⟨_,⟨by kernel_rfl,rfl,rfl,rfl,ji (by kernel_rfl),n169 w,λvs h=>?_⟩,?_⟩
 ·(refine jd (jQ h) ?_;rintro u rfl);rfl
 ·intro A n prog l room hl L
  have V:=(n169 w).cV (a:=169) (prog:=prog) (w:=w) (A:=A) (L:=L)
  refine XS.cons (X1.try ?_)
  refine XS.cons (X1.esc (V _ _) (a:=38) (z:=[38,97,109,112,59]) 60 rfl rfl rfl rfl hl (by decide) ?_ (by decide) rfl (by decide) (by decide) rfl rfl rfl rfl)
  have h0:(jf 38 [38,97,109,112,59] l).length<=300:=by have:=jp 38 [38,97,109,112,59] (by decide) l;have:=QJ 5 hl;simp only [QA,QQ]at *;exact Qp ‹_› ‹_›
  show XS (cx (F169 w) 169 ["text"] prog w A L [] [Qf (.str (tx (jf 38 [38,97,109,112,59] l)))]) _ _
  refine XS.cons (X1.esc (V _ _) (a:=60) (z:=[38,108,116,59]) 300 rfl rfl rfl rfl h0 (by decide) ?_ (by decide) rfl (by decide) (by decide) rfl rfl rfl rfl)
  have h1:(jf 60 [38,108,116,59] (jf 38 [38,97,109,112,59] l)).length<=1200:=by have:=jp 60 [38,108,116,59] (by decide) (jf 38 [38,97,109,112,59] l);have:=QJ 4 h0;simp only [QA,QQ]at *;exact Qp ‹_› ‹_›
  show XS (cx (F169 w) 169 ["text"] prog w A L [] [Qf (.str (tx (jf 60 [38,108,116,59] (jf 38 [38,97,109,112,59] l))))]) _ _
  refine XS.cons (X1.esc (V _ _) (a:=34) (z:=[38,113,117,111,116,59]) 1200 rfl rfl rfl rfl h1 (by decide) ?_ (by decide) rfl (by decide) (by decide) rfl rfl rfl rfl)
  have h2:(jf 34 [38,113,117,111,116,59] (jf 60 [38,108,116,59] (jf 38 [38,97,109,112,59] l))).length<=7200:=by have:=jp 34 [38,113,117,111,116,59] (by decide) (jf 60 [38,108,116,59] (jf 38 [38,97,109,112,59] l));have:=QJ 6 h1;simp only [QA,QQ]at *;exact Qp ‹_› ‹_›
  show XS (cx (F169 w) 169 ["text"] prog w A L [] [Qf (.str (tx (jf 34 [38,113,117,111,116,59] (jf 60 [38,108,116,59] (jf 38 [38,97,109,112,59] l)))))]) _ _
  refine XS.cons (X1.esc (V _ _) (a:=9) (z:=[38,35,120,57,59]) 7200 rfl rfl rfl rfl h2 (by decide) ?_ (by decide) rfl (by decide) (by decide) rfl rfl rfl rfl)
  have h3:(jf 9 [38,35,120,57,59] (jf 34 [38,113,117,111,116,59] (jf 60 [38,108,116,59] (jf 38 [38,97,109,112,59] l)))).length<=36000:=by have:=jp 9 [38,35,120,57,59] (by decide) (jf 34 [38,113,117,111,116,59] (jf 60 [38,108,116,59] (jf 38 [38,97,109,112,59] l)));have:=QJ 5 h2;simp only [QA,QQ]at *;exact Qp ‹_› ‹_›
  show XS (cx (F169 w) 169 ["text"] prog w A L [] [Qf (.str (tx (jf 9 [38,35,120,57,59] (jf 34 [38,113,117,111,116,59] (jf 60 [38,108,116,59] (jf 38 [38,97,109,112,59] l))))))]) _ _
  refine XS.cons (X1.esc (V _ _) (a:=10) (z:=[38,35,120,65,59]) 36000 rfl rfl rfl rfl h3 (by decide) ?_ (by decide) rfl (by decide) (by decide) rfl rfl rfl rfl)
  have h4:(jf 10 [38,35,120,65,59] (jf 9 [38,35,120,57,59] (jf 34 [38,113,117,111,116,59] (jf 60 [38,108,116,59] (jf 38 [38,97,109,112,59] l))))).length<=180000:=by have:=jp 10 [38,35,120,65,59] (by decide) (jf 9 [38,35,120,57,59] (jf 34 [38,113,117,111,116,59] (jf 60 [38,108,116,59] (jf 38 [38,97,109,112,59] l))));have:=QJ 5 h3;simp only [QA,QQ]at *;exact Qp ‹_› ‹_›
  show XS (cx (F169 w) 169 ["text"] prog w A L [] [Qf (.str (tx (jf 10 [38,35,120,65,59] (jf 9 [38,35,120,57,59] (jf 34 [38,113,117,111,116,59] (jf 60 [38,108,116,59] (jf 38 [38,97,109,112,59] l)))))))]) _ _
  refine XS.cons (X1.esc (V _ _) (a:=13) (z:=[38,35,120,68,59]) 180000 rfl rfl rfl rfl h4 (by decide) ?_ (by decide) rfl (by decide) (by decide) rfl rfl rfl rfl)
  have h5:(jf 13 [38,35,120,68,59] (jf 10 [38,35,120,65,59] (jf 9 [38,35,120,57,59] (jf 34 [38,113,117,111,116,59] (jf 60 [38,108,116,59] (jf 38 [38,97,109,112,59] l)))))).length<=900000:=by have:=jp 13 [38,35,120,68,59] (by decide) (jf 10 [38,35,120,65,59] (jf 9 [38,35,120,57,59] (jf 34 [38,113,117,111,116,59] (jf 60 [38,108,116,59] (jf 38 [38,97,109,112,59] l)))));have:=QJ 5 h4;simp only [QA,QQ]at *;exact Qp ‹_› ‹_›
  show XS (cx (F169 w) 169 ["text"] prog w A L [] [Qf (.str (tx (jf 13 [38,35,120,68,59] (jf 10 [38,35,120,65,59] (jf 9 [38,35,120,57,59] (jf 34 [38,113,117,111,116,59] (jf 60 [38,108,116,59] (jf 38 [38,97,109,112,59] l))))))))]) _ _
  exact XS.cons (X1.ret (.v 0 rfl) rfl)
theorem cal169{w:Ql}{prog:QI}{A:QO}{n:Nat}(room:Room (n+1) A)(l:List Nat)(hl:l.length<=60):Cal prog w (Bh w) A (.ref 169) [.str (tx l)] (.str (tx (vy s169 l))):=by
 (refine jc (d169 w) ?_;intro body D h)
 exact D.cal room rfl λL=>h A n prog l room hl L
theorem cal97{w:Ql}{prog:QI}{A:QO}{n:Nat}(room:Room (n+1) A)(i:Int):Cal prog w (Bh w) A (.ref 97) [.int i] (.bool (decide (i<256))):=by
 (refine jc (d97 w) ?_;intro body D h)
 exact D.cal room rfl λL=>h A n prog i room L
noncomputable abbrev F104(w:Ql):FuncData:=vx (o_114 w.params)
theorem n104(w:Ql):Names (F104 w) ["x"]:=.of (by kernel_rfl)
theorem d104(w:Ql):∃body,Df (Bh w) 104 (o_114 w.params) (F104 w) body ["x"] []/\∀A n prog i,Room (n+1) A->∀L,XS (cx (F104 w) 104 ["x"] prog w A L [] [Qf (.int i)]) body (λo=>o=.rt (.bool (decide (256<=i)))):=by
 refine⟨_,⟨by kernel_rfl,rfl,rfl,rfl,ji (by kernel_rfl),n104 w,λvs h=>?_⟩,?_⟩
 ·(refine jd (jQ h) ?_;rintro v rfl);rfl
 ·intro A n prog i room L
  have G:=(n104 w).cG (a:=104) (w:=w) (prog:=prog) (L:=L) room rfl rfl
  exact XS.cons (X1.ret (.cmp (.v 0 rfl) (.gi (G _ _) (g_NT w)) (jV .GtE rfl)) rfl)
theorem cal104{w:Ql}{prog:QI}{A:QO}{n:Nat}(room:Room (n+1) A)(i:Int):Cal prog w (Bh w) A (.ref 104) [.int i] (.bool (decide (256<=i))):=by
 (refine jc (d104 w) ?_;intro body D h)
 exact D.cal room rfl λL=>h A n prog i room L
theorem b_104(w:Ql):(Bh w).get? 104=Qf (o_114 w.params):=by kernel_rfl
noncomputable def KL(w:Ql):List (Qd×Tok×Int×Tok):=rawsOf (o_93 w.params)
noncomputable def Jd(w:Ql):List (Qd×Int×Tok):=(KL w).map λx=>(x.1,x.2.2.1,x.2.2.2)
theorem b_88(w:Ql):(Bh w).get? 88=Qf (o_93 w.params):=by kernel_rfl
theorem ex_obj(w:Ql):o_93 w.params=Vh ((KL w).map (entI w)) 48:=by kernel_rfl
theorem g_EX(w:Ql):mg w "EXACT_TOKEN_TYPES"=Qf (.ref 88):=by kernel_rfl
noncomputable def exT:List (List Nat×Int):=[([33],54),([33,61],28),([37],24),([37,61],40),([38],19),([38,61],41),([40],7),([41],8),([42],16),([42,42],35),([42,42,61],46),([42,61],38),([43],14),([43,61],36),([44],12),([45],15),([45,61],37),([45,62],51),([46],23),([46,46,46],52),([47],17),([47,47],47),([47,47,61],48),([47,61],39),([58],11),([58,61],53),([59],13),([60],20),([60,60],33),([60,60,61],44),([60,61],29),([61],22),([61,61],27),([62],21),([62,61],30),([62,62],34),([62,62,61],45),([64],49),([64,61],50),([91],9),([93],10),([94],32),([94,61],43),([123],25),([124],18),([124,61],42),([125],26),([126],31)]
theorem ex_tab(w:Ql):(Jd w).map (λp=>(p.1.cps.toList,p.2.1))=exT:=by kernel_rfl
noncomputable def Jv(l:List Nat):Option Int:=(exT.find? λp=>p.1=l).map (·.2)
theorem ex_at(w:Ql)(l:List Nat):PySem.intAt (Jd w) (tx l)=Jv l:=by
 unfold Jv
 rw [<-ex_tab w]
 unfold PySem.intAt
 generalize Jd w=vs
 induction vs with
 | nil=>rfl
 | cons p r ih =>
  have e:(decide (p.1=tx l))=decide (p.1.cps.toList=l):=by
   by_cases h:p.1=tx l
   ·rw [decide_eq_true h,decide_eq_true (by rw [h])]
   ·rw [decide_eq_false h,decide_eq_false λq=>h (vO q)]
  simp only [QP,List.find?_cons,e]
  cases decide (p.1.cps.toList=l)with
  | true=>rfl
  | false=>exact ih
theorem ex_nd(w:Ql):((KL w).map (·.1)).Nodup:=by
 have h:((exT.map (·.1)).map tx).Nodup:=by decide +kernel
 have e:(KL w).map (·.1)=(exT.map (·.1)).map tx:=by kernel_rfl
 rw [e];exact h
theorem KK(prog:QI)(w:Ql):(Bh w).DictOf (QH prog w) 88 (intPairs (Jd w)):=zz (KL w) 48 (b_88 w) (ex_obj w) (ex_nd w)
noncomputable def zI(kind:Nat):List Nat:=[[],[],[],[60],[62]].getD kind []
noncomputable def pg(kind k:Nat):List Nat:=if k∈zI kind then [k]else if 38=k then [38,97,109,112,59]else if 60=k then [38,108,116,59]else if 62=k then [38,103,116,59]else [k]
noncomputable def qE(kind:Nat)(l:List Nat):List Nat:=(l.map (pg kind)).flatten
theorem pg_len(kind k:Nat):(pg kind k).length<=5:=by
 unfold pg
 split
 ·simp
 ·split
  ·simp
  ·split
   ·simp
   ·split<;>simp
noncomputable abbrev F198(w:Ql):FuncData:=vx (o_211 w.params)
noncomputable abbrev v198:List Qd:=["text","kind","spared"]
theorem n198(w:Ql):Names (F198 w) v198:=.of (by kernel_rfl)
theorem JO(a k:Nat):(tx [a]=tx [k])↔a=k:=⟨λh=>by have:=tx_inj h;simpa using this,λh=>by rw [h]⟩
theorem d198(w:Ql):∃body,Df (Bh w) 198 (o_211 w.params) (F198 w) body ["text","kind"] ["spared"]/\∀A n prog (l:List Nat) (kind:Nat),Room (n+1) A->l.length<=1000->kind<5->∀L,
  XS (cx (F198 w) 198 v198 prog w A L [] [Qf (.str (tx l)),Qf (.int kind),Qg]) body (λo=>o=.rt (.str (tx (qE kind l)))):=by
 refine⟨_,⟨by kernel_rfl,rfl,rfl,rfl,ji (by kernel_rfl),n198 w,λvs h=>?_⟩,?_⟩
 ·(refine jN (qc h) ?_;rintro u v rfl);rfl
 ·intro A n prog l kind room hl hk L
  have V:=(n198 w).cV (a:=198) (prog:=prog) (w:=w) (A:=A) (L:=L)
  have G:=(n198 w).cG (a:=198) (w:=w) (prog:=prog) (L:=L) room rfl rfl
  have hsp:([AV.str "",.str "",.str "",.str "<",.str ">"]:List AV)[kind]?=Qf (.str (tx (zI kind))):=by
   rcases zr54 hk with rfl | rfl | rfl | rfl | rfl<;>rfl
  refine XS.cons (X1.assign (V _ _) 2 rfl (.itemT (.tup (.tup (.cons .str (.cons .str (.cons .str (.cons .str (.cons .str .nil))))) (by decide))) (.v 1 rfl) kind (by rw [if_neg (by exact zq6)]) hsp (by exact zq4 ‹_› rfl)) ?_)
  show XS (cx (F198 w) 198 v198 prog w A L [] [Qf (.str (tx l)),Qf (.int kind),Qf (.str (tx (zI kind)))]) _ _
  refine XS.cons (X1.ret (.joinT (ls:=l.map (pg kind)) .str (.as (.map1 (ys:=l) (fr:=[2]) (.of (by kernel_rfl)) (λk:Nat=>.str (tx [k])) (λk:Nat=>.str (tx (pg kind k))) ?_ (λok C k hk=>?_) ?_) ?_) ?_) ?_)
  ·exact PIc.pi (PIc.str (x:=tx l) room.deeper.1 (.v 0 rfl))
  ·refine .ite (b:=decide (k∈zI kind)) (.cmp (.v 0 rfl) (.v 1 rfl) KT) (λh=>.as (.v 0 rfl) ?_) λh=>.as (.dget3 (JE w) (.v 0 rfl) (.v 0 rfl) (by decide)) ?_
   ·rw [pg,if_pos (of_decide_eq_true h)]
   ·rw [pg,if_neg (of_decide_eq_false h)]
    congr 1
    by_cases e1:38=k
    ·subst e1;rfl
    ·by_cases e2:60=k
     ·subst e2;rfl
     ·by_cases e3:62=k
      ·subst e3;rfl
      ·rw [if_neg e1,if_neg e2,if_neg e3]
       show(if tx [38]=tx [k]then _ else if tx [60]=tx [k]then _ else if tx [62]=tx [k]then _ else _)=_
       rw [if_neg (λq=>e1 ((JO 38 k).mp q)),if_neg (λq=>e2 ((JO 60 k).mp q)),if_neg (λq=>e3 ((JO 62 k).mp q))]
  ·simp only [Qt];exact zq1 ‹_› rfl
  ·rw [tL,Xp];rfl
  ·have:=qJ (pg kind) 5 l λx _=>pg_len kind x
   lia
  ·rfl
theorem cal198{w:Ql}{prog:QI}{A:QO}{n:Nat}(room:Room (n+1) A)(l:List Nat)(kind:Nat)(hl:l.length<=1000)(hk:kind<5):Cal prog w (Bh w) A (.ref 198) [.str (tx l),.int kind] (.str (tx (qE kind l))):=by
 (refine jc (d198 w) ?_;intro body D h)
 exact D.cal room rfl λL=>h A n prog l kind room hl hk L
section
variable {c:Ct} {P:Out->Prop}
theorem KC{g:Lk}{l:List Int}{vs:Array Qm}(h:Reps g (iL l) vs.toList):∃xs:List (Int×Tok),vs=(xs.map λp=>Value.int p.1 p.2).toArray/\xs.map (·.1)=l:=by
 (refine jc h.asInts ?_;intro xs e1 e2)
 exact⟨xs,by rw [<-e1],e2⟩
theorem yX(i:Int):∀xs:List (Int×Tok),((xs.map λp=>Value.int p.1 p.2).any λy=>ZD i y)=decide (i∈xs.map (·.1))
 | []=>rfl
 | x::r=>by
  rw [QP,List.any_cons,yX i r,QP]
  simp only [ZD,QD]
  by_cases h:x.1=i
  ·simp [h]
  ·have h':¬i=x.1:=λe=>h e.symm
   simp [h,h']
theorem cmp_inI{i:Int}{l:List Int}:jX c .In (.int i) (.tup (iL l)) (decide (i∈l)):=λY s E v u x rv ru=>by
 (refine jd (jk rv) ?_;rintro t rfl)
 (refine xl (kJ ru) ?_;rintro a o vs n rfl ho hc hd hr)
 (refine jc (KC hr) ?_;rintro xs rfl rfl)
 refine SeqAt.in_tupleAt (λy=>ZD i y) ⟨o,j9 ho,hc,n,hd⟩ (λy hy=>?_) ⟨kU,?_⟩
 ·(refine jc (Qw.mp (by simpa only [List.mem_toArray]using hy)) ?_;rintro p _ rfl)
  have:=(MeetsSeq.EqGives.int p.1 i p.2 t).at c.A.in1 s
  exact this
 ·rw [List.any_toArray,yX]
theorem PE.index{o e:Expr}{apos cpos:Pos}{l:List Int}{i:Int}(p:PE c o (.list (iL l)))(q:PE c e (.int i))(hi:i∈l)(hz:l.length<=Qt)
  (hst:Qv [e] c.env=[(false,eval e c.env)]:=by rfl) (hbase:Vp o "index" c.env (eval o c.env)=eval o c.env:=by rfl) (hline:(apos.endLine==cpos.line)=true:=by rfl) :
  PE c (.Call (.Attribute o "index" apos) [e] [] cpos) (.int (l.idxOf i)):=λY s E x₀ =>
 meth1 (Y:=Y) (p.use x₀ λv s₁ k₁ x₁ r₁=>by
  (refine JM (jY r₁) ?_;rintro a vs n rfl ho hr)
  refine⟨"list",_,PySem.F.plainAttrs_list,PySem.F.slot_list_index,PySem.F.type_list_index,⟨_,j9 ho,rfl⟩,λa' e=>?_,
   method1_meets PySem.F.slot_list_index PySem.F.entry_list_index (q.use x₁ λu s₂ k₂ x₂ r₂=>?_)⟩
  ·cases e;exact⟨_,j9 ho,rfl⟩
  (refine jd (jk r₂) ?_;rintro t rfl)
  (refine jc (KC hr) ?_;rintro xs rfl rfl)
  have h2:=jr k₂ _ _ (j9 ho)
  have hlt:(xs.map (·.1)).idxOf i<xs.length:=by simpa using List.idxOf_lt_length_iff.mpr hi
  refine⟨⟨_,h2,rfl⟩,PySem.F.args_list_index_2 _ _,_,SeqAt.list_indexAt a (xs.map λp=>Value.int p.1 p.2).toArray n Qg #[] (.int i t) (λy=>ZD i y) ((xs.map (·.1)).idxOf i) (by simpa using hlt) ?_ ?_ ?_,h2,λy hy=>?_,?_⟩
  ·have:Qt<2^62:=by decide
   rw [Qy]at hz
   lia
  ·have:=List.getElem_idxOf (x:=i) (xs:=xs.map (·.1)) (by simpa using hlt)
   rw [List.getElem_map]at this
   simp [ZD,this]
  ·intro m hm hlt'
   have:=List.not_of_lt_findIdx hlt'
   simp only [List.getElem_map,beq_iff_eq]at this
   simp [ZD,this]
  ·(refine jc (Qw.mp (by simpa only [List.mem_toArray]using hy)) ?_;rintro p _ rfl)
   exact(MeetsSeq.EqGives.int p.1 i p.2 t).at c.A.in1 s₂
  ·exact⟨ktr k₁ (ktr k₂ jh),v7⟩) hst hbase hline
theorem Fm.sameO{Yc:List Qk}{s₀ s s':Qi}(f:Fm c Yc s₀ s)(h:∀y,y≠c.env.locals->y∉c.env.cells.map (·.2)->s'.heap.get? y=s.heap.get? y){av:AV}{v:Qm}(r:RepO c.X (c.Yf Yc) s.heap av v):RepO c.X (c.Yf Yc) s'.heap av v :=
 qs (jD λb hb=>h b (λe=>hb (Q7 _ (e▸.head _))) λm=>hb (Q7 _ (.tail _ (Q8 _ m)))) (λx hx=>h x (f.own x hx).2.1 (f.own x hx).2.2.1) r
inductive RepsO (X Y:List Qk) (h:QU):List AV->List Qm->Prop
 | nil:RepsO X Y h [] []
 | cons {a:AV} {v:Qm} {as:List AV} {vs:List Qm}:RepO X Y h a v->RepsO X Y h as vs->RepsO X Y h (a::as) (v::vs)
theorem RepsO.imp{X Y X' Y':List Qk}{h h':QU}(k:∀a v,RepO X Y h a v->RepO X' Y' h' a v):∀ {as:List AV} {vs:List Qm},RepsO X Y h as vs->RepsO X' Y' h' as vs
 | _,_,.nil=>.nil
 | _,_,.cons r rs=>.cons (k _ _ r) (rs.imp k)
theorem Tg.goO{es:List Expr}{avs:List AV}{σ σ':List (Option AV)}(V:Vars c)(t:Tg c es avs σ σ'):∀ {Yc:List Qk} {s₀ s:Qi} {E:Qe} {Q:Unit->Qi->Prop} {vs:List Qm},Fm (c.up c.X σ) Yc s₀ s->RepsO c.X (c.Yf Yc) s.heap avs vs ->
  (∀s',Grow c s s'->Fm (c.up c.X σ') Yc s₀ s'->Q () s')->Qo c.M c.A (assignInOrder ((Vx es c.env).map (·.2)) vs) Q E s:=by
 induction t with
 | nil=>intro Yc s₀ s E Q vs f r h;cases r;exact Xe (h s (.of kU) f)
 | cons i hi t ih =>
  intro Yc s₀ s E Q vs f r h
  cases r with
  | cons r1 r2 =>
   refine V8 (VX (f.storeK (c:=c.up c.X _) V.up hi r1 λs₁ g hsame f₁=>?_))
   exact ih f₁ (r2.imp λa v r=>f.sameO (c:=c.up c.X _) hsame r) λs' g' f'=>h s' (Grow.trans (c:=c) (X:=c.X) (σ:=c.σ) (λ_ h=>.inl h) g g') f'
theorem X1.tupOO(V:Vars c)(hh:c.A.handled=Qg){x0 x1 x2 x3:Qd}{q0 q1 q2 q3 l0 l1 tp vp pos:Pos}{k k':Nat}{e2 e3:Expr}{a2 a3:AV}(i0 i1 i2 i3:Nat)(h0:c.vars[i0]?=Qf x0)(h1:c.vars[i1]?=Qf x1)(h2:c.vars[i2]?=Qf x2)(h3:c.vars[i3]?=Qf x3)
  (p2:∀X,PE (c.up X c.σ) e2 a2) (p3:∀X,PE (c.up X c.σ) e3 a3)
  (h:∀a b,P (.nx (c.X++[a]++[b]) ((((c.σ.set i0 (Qf (.own c.X.length []))).set i1 (Qf (.own (c.X.length+1) []))).set i2 (Qf a2)).set i3 (Qf a3))))
  (hsp:Qv [.List [] l0,.List [] l1,e2,e3] c.env=[(false,eval (.List [] l0) c.env),(false,eval (.List [] l1) c.env),(false,eval e2 c.env),(false,eval e3 c.env)]:=by rfl)
  (hn:(Vx [.Name x0 q0,.Name x1 q1,.Name x2 q2,.Name x3 q3] c.env).length=4:=by rfl) (hst:(Vx [.Name x0 q0,.Name x1 q1,.Name x2 q2,.Name x3 q3] c.env).findIdx? (·.1)=none:=by rfl)
  (hs:XC [.Tuple [.Name x0 q0,.Name x1 q1,.Name x2 q2,.Name x3 q3] k tp] (.Tuple [.List [] l0,.List [] l1,e2,e3] k' vp) pos.line c.env=pure false:=by rfl)
  (hw:Xl [.Tuple [.Name x0 q0,.Name x1 q1,.Name x2 q2,.Name x3 q3] k tp] (.Tuple [.List [] l0,.List [] l1,e2,e3] k' vp) c.env=pure none:=by rfl) :
  X1 c (.Assign [.Tuple [.Name x0 q0,.Name x1 q1,.Name x2 q2,.Name x3 q3] k tp] (.Tuple [.List [] l0,.List [] l1,e2,e3] k' vp) pos) P:=λYc s₀ s E ht f =>
 Assign_Tuple (Tuple_ (by
  rw [hsp]
  refine Qq (List_ (QK (V1 ?_ (Vj _))))
  (refine jw (f.take (vs:=[]) (l:=[]) .nil) ?_;intro f1 r1)
  refine Qq (List_ (QK (V1 ?_ (Vj _))))
  (refine jw (f1.take (vs:=[]) (l:=[]) .nil) ?_;intro f2 r2)
  have r1':=r1.grow (o:={ cls:=.type "list",data:=.seq #[] }) λz hz=>f1.live z hz
  refine Qq ((p2 (c.X++[s.heap.objs.size]++[(s.heap.push { cls:=.type "list",data:=.seq #[] }).objs.size])).use (f2.at ht) λv s₁ k₁ x₁ ra=>?_)
  have f3:=f2.keeps k₁
  refine Qq ((p3 (c.X++[s.heap.objs.size]++[(s.heap.push { cls:=.type "list",data:=.seq #[] }).objs.size])).use x₁ λu s₂ k₂ x₂ rb=>QK (V1 ?_ (show 4<=Qt by decide)))
  have f4:=(f3.keeps k₂).keeps (ja (s:=s₂) (h':=s₂.heap.push { cls:=.type "tuple",data:=.seq #[.ref s.heap.objs.size,.ref (s.heap.push { cls:=.type "list",data:=.seq #[] }).objs.size,v,u] }) j7)
  have kk:Vb { s with heap:=(s.heap.push { cls:=.type "list",data:=.seq #[] }).push { cls:=.type "list",data:=.seq #[] } } { s₂ with heap:=s₂.heap.push { cls:=.type "tuple",data:=.seq #[.ref s.heap.objs.size,.ref (s.heap.push { cls:=.type "list",data:=.seq #[] }).objs.size,v,u] } }:=ktr k₁ (ktr k₂ (ja j7))
  refine Y6 hh ⟨_,Qs _ rfl,rfl,0,rfl⟩ (by rw [hn];rfl) hst λh' hx=>?_
  have k5:Vb { s₂ with heap:=s₂.heap.push { cls:=.type "tuple",data:=.seq #[.ref s.heap.objs.size,.ref (s.heap.push { cls:=.type "list",data:=.seq #[] }).objs.size,v,u] } } { s₂ with heap:=h' }:=ja λb o e=>hx b o (QR (Vo e)) e
  have f5:=f4.keeps k5
  refine Tg.goO (avs:=[.own c.X.length [],.own (c.X.length+1) [],a2,a3]) (c:=c.up (c.X++[s.heap.objs.size]++[(s.heap.push { cls:=.type "list",data:=.seq #[] }).objs.size]) c.σ) ⟨V.nd,V.kd⟩ (.cons i0 h0 (.cons i1 h1 (.cons i2 h2 (.cons i3 h3 .nil)))) f5 (.cons (r1'.mono (jr (ktr kk k5))) (.cons ?_ (.cons (.of (ra.mono (ju (jr (ktr k₂ (ktr (ja j7) k5)))))) (.cons (.of (rb.mono (ju (jr (ktr (ja j7) k5))))) .nil)))) λs' g f'=>?_
  ·have:=r2.mono (jr (ktr kk k5))
   simpa using this
  ·have hX:∀x∈c.X++[s.heap.objs.size]++[(s.heap.push { cls:=.type "list",data:=.seq #[] }).objs.size],x∈c.X∨s.heap.get? x=none:=λx hx=>by
    rcases Qa hx with hx | hx
    ·rcases Qa hx with hx | hx
     ·exact .inl hx
     ·obtain rfl:=Q9 hx;exact .inr jm
    ·obtain rfl:=Q9 hx
     exact .inr (X5 (by rw [Xn];lia))
   exact⟨(Grow.of (ktr (ja j7) (ktr (ja j7) (ktr kk k5)))).trans (X:=_) (σ:=c.σ) hX g,_,_,h _ _,hX,f'⟩)) hs hw
end
theorem xu{α:Type}(l:List α):∀(n a:Nat),(((Qj n).map (a+·)).filterMap (l[·]?))=(l.drop a).take n
 | 0,a=>by rfl
 | n+1,a=>by
  rw [List.range_succ_eq_map,QP,Xp,YY]
  have e:((a+·) ∘ Nat.succ)=((a+1)+·):=by funext m;simp;lia
  rw [e,xu l n (a+1)]
  by_cases h:a<l.length
  ·rw [Nat.add_zero,Qu h,X8 h];rfl
  ·rw [Nat.add_zero,Xz (by exact VS.mp ‹_›),Ve (by lia),Ve (by exact VS.mp ‹_›)];simp
theorem mm_sub{a b n:Nat}(h:min b n-min a n=n):min b n-a=n:=by
 rcases Nat.le_total a n with q | q
 ·rwa [Nat.min_eq_left q]at h
 ·rw [Nat.min_eq_right q]at h
  have e:=h.symm.trans (YE (Nat.min_le_right _ _))
  rw [e,Nat.min_zero,Nat.zero_sub]
theorem slice_tx(l:List Nat)(a b:Nat):Txt.slice (tx l) (Qf (a:Int)) (Qf (b:Int))=tx ((l.take b).drop a):=by
 have hidx:Xk (Qf (a:Int)) (Qf (b:Int)) 1 l.length=(Qj (min b l.length-min a l.length)).map ((min a l.length)+·):=by
  unfold Xk
  have e1:∀i:Nat,max (0:Int) (min (if(i:Int)<0 then(i:Int)+(l.length:Int)else(i:Int)) (l.length:Int))=((min i l.length:Nat):Int):=λi=>by
   rw [if_neg (by exact zq6)];exact zr8
  simp only [show((1:Int)>0)=True by decide,if_true,e1]
  exact sliceRange_one _ _
 have hlist:(Xk (Qf (a:Int)) (Qf (b:Int)) 1 l.length).filterMap (l[·]?)=(l.take b).drop a:=by
  rw [hidx,xu,<-kI,List.drop_take]
 unfold Txt.slice
 split
 ·rename_i h
  have h':(Xk (Qf (a:Int)) (Qf (b:Int)) 1 l.length).length=l.length:=by
   have:=beq_iff_eq.mp (by simpa only [beq_self_eq_true,Bool.true_and]using h)
   exact this
  have hlen:((l.take b).drop a).length=l.length:=by
   rw [hidx]at h'
   simp only [Qy,Vu]at h'
   simp only [List.length_drop,VK]
   exact mm_sub h'
  have sub:((l.take b).drop a).Sublist l:=(List.drop_sublist a _).trans (List.take_sublist b l)
  rw [sub.eq_of_length hlen]
 ·refine vO ?_
  rw [show(tx l).length=l.length from rfl]
  show((Xk (Qf (a:Int)) (Qf (b:Int)) 1 l.length).filterMap ((tx l).cps[·]?))=_
  have e:∀i:Nat,(tx l).cps[i]?=l[i]?:=λi=>by simp
  simp only [e]
  exact hlist
section
variable {c:Ct}
theorem PE.slcT{e:Expr}{lo hi:Expr}{p pos:Pos}{l:List Nat}{a b:Nat}(q:PE c e (.str (tx l)))(qa:PE c lo (.int a))(qb:PE c hi (.int b))(hz:l.length<=Qt):PE c (.Subscript e (.Slice (Qf lo) (Qf hi) Qg p) pos) (.str (tx ((l.take b).drop a))) :=
 slice_tx l a b▸PE.sliceS q (.some qa) (.some qb) hz
end
inductive Lexed:List Nat->List Int->Prop
 | nil:Lexed [] []
 | cons {t:List Nat} {toks:List Int} (k:Nat) (n:Int):1<=k->k<=3->0<t.length->Jv (t.take k)=Qf n->(∀m,1<=m->m<=3->(Jv (t.take m)).isSome=true->m<=k)->Lexed (t.drop k) toks->Lexed t (n::toks)
noncomputable def kB:List Int->Int->List Int->List Int->List Int×List Int
 | [],_,ds,ns=>(ds,ns)
 | n::r,d,ds,ns=>if n∈[(7:Int),8,12]then kB r (d+if n=7 then 1 else if n=8 then -1 else 0) ds ns else kB r d (ds++[d]) (ns++[n])
theorem xr{n:Int}{r:List Int}{d:Int}{ds ns:List Int}:kB (n::r) d ds ns=if n∈[(7:Int),8,12]then kB r (d+if n=7 then 1 else if n=8 then -1 else 0) ds ns else kB r d (ds++[d]) (ns++[n]):=rfl
theorem g_LPAR(w:Ql):mg w "LPAR"=Qf (.int 7 298):=by kernel_rfl
theorem g_RPAR(w:Ql):mg w "RPAR"=Qf (.int 8 300):=by kernel_rfl
theorem g_COMMA(w:Ql):mg w "COMMA"=Qf (.int 12 308):=by kernel_rfl
theorem g_ISN(w:Ql):mg w "ISNONTERMINAL"=Qf (.ref 104):=by kernel_rfl
theorem g_IST(w:Ql):mg w "ISTERMINAL"=Qf (.ref 97):=by kernel_rfl
noncomputable abbrev F203(w:Ql):FuncData:=vx (o_216 w.params)
noncomputable abbrev v203:List Qd:=["page","known","text","depths","numbers","depth","place","end","number","symbol"]
theorem n203(w:Ql):Names (F203 w) v203:=.of (by kernel_rfl)
noncomputable abbrev iL'(l:List Nat):List Int:=l.map λm:Nat=>(m:Int)
theorem vh(t:List Nat)(p k:Nat):(t.take (p+k)).drop p=(t.drop p).take k:=by
 rw [List.drop_take];congr 1;exact Nat.add_sub_cancel_left _ _
structure S203 (page t:List Nat) (known toks:List Int) (m:Nat) (σ:List (Option AV)) (p:Nat) (toks' ds ns:List Int) (d:Int) (u1 u2 u3:Option AV):Prop where
 h1:qR 0 u1=true
 h2:qR 0 u2=true
 h3:qR 0 u3=true
 h4:qR 1 u1=true
 h5:qR 1 u2=true
 h6:qR 1 u3=true
 hm:m=toks'.length
 hp:p<=t.length+2
 hds:ds.length<=p
 hns:ns.length<=p
 hlx:Lexed (t.drop p) toks'
 hk:∀x∈toks',x∉[(7:Int),8,12]->x∈known
 hrd:kB toks 0 [] []=kB toks' d ds ns
 hσ:σ=[Qf (.str (tx page)),Qf (.list (iL known)),Qf (.str (tx t)),Qf (.own 0 (iL ds)),Qf (.own 1 (iL ns)),Qf (.int d),Qf (.int p),u1,u2,u3]
noncomputable def J203(page t:List Nat)(known toks:List Int)(m:Nat)(σ:List (Option AV)):Prop:=∃(p:Nat) (toks' ds ns:List Int) (d:Int) (u1 u2 u3:Option AV),S203 page t known toks m σ p toks' ds ns d u1 u2 u3
structure E203 (page t:List Nat) (known toks:List Int) (a b:Qk) (X:List Qk) (σ:List (Option AV)) (d p:Int) (u1 u2 u3:Option AV):Prop where
 hX:X=[a,b]
 h1:qR 0 u1=true
 h2:qR 0 u2=true
 h3:qR 0 u3=true
 h4:qR 1 u1=true
 h5:qR 1 u2=true
 h6:qR 1 u3=true
 hσ:σ=[Qf (.str (tx page)),Qf (.list (iL known)),Qf (.str (tx t)),Qf (.own 0 (iL (kB toks 0 [] []).1)),Qf (.own 1 (iL (kB toks 0 [] []).2)),Qf (.int d),Qf (.int p),u1,u2,u3]
noncomputable def K203(page t:List Nat)(known toks:List Int)(a b:Qk)(X:List Qk)(σ:List (Option AV)):Prop:=∃(d p:Int) (u1 u2 u3:Option AV),E203 page t known toks a b X σ d p u1 u2 u3
theorem d203(w:Ql):∃body,Df (Bh w) 203 (o_216 w.params) (F203 w) body ["page","known"] ["text","depths","numbers","depth","place","end","number","symbol"] /\
  ∀A n prog (page t1 t2 t:List Nat) (known toks:List Int),Room (n+2) A->Xv (tx page) (tx [38,108,116,59]) (tx [60])=tx t1->Xv (tx t1) (tx [38,103,116,59]) (tx [62])=tx t2->Xv (tx t2) (tx [38,97,109,112,59]) (tx [38])=tx t ->
   page.length<=1000->t1.length<=1000->t2.length<=1000->t.length<=1000->known.length<=1000->Lexed t toks->(∀x∈toks,x∉[(7:Int),8,12]->x∈known)->∀L,
  XS (cx (F203 w) 203 v203 prog w A L [] [Qf (.str (tx page)),Qf (.list (iL known)),Qg,Qg,Qg,Qg,Qg,Qg,Qg,Qg]) body (λo=>o=.rt (.tup [.list (iL (kB toks 0 [] []).1),.list (iL (kB toks 0 [] []).2)])):=by
 refine⟨_,⟨by kernel_rfl,rfl,rfl,rfl,ji (by kernel_rfl),n203 w,λvs h=>?_⟩,?_⟩
 ·(refine jN (qc h) ?_;rintro u v rfl);rfl
 ·intro A n prog page t1 t2 t known toks room e1 e2 e3 z0 z1 z2 z3 zk hlex hkn L
  have V:=(n203 w).cV (a:=203) (prog:=prog) (w:=w) (A:=A) (L:=L)
  have G:=(n203 w).cG (a:=203) (w:=w) (prog:=prog) (L:=L) room rfl rfl
  refine XS.cons (X1.assign (V _ _) 2 rfl (.as (.replace (x:=tx t2) (.as (.replace (x:=tx t1) (.as (.replace (x:=tx page) (.v 0 rfl) (by decide) ?_) (congrArg AV.str e1)) (by decide) ?_) (congrArg AV.str e2)) (by decide) ?_) (congrArg AV.str e3)) ?_)
  ·show page.length+(page.length+1)*1<=_;lia
  ·show t1.length+(t1.length+1)*1<=_;lia
  ·show t2.length+(t2.length+1)*1<=_;lia
  refine XS.cons (X1.tupOO (V _ _) room.1 3 4 5 6 rfl rfl rfl rfl (λX=>.int) (λX=>.int) λa b=>?_)
  show XS (cx (F203 w) 203 v203 prog w A L [a,b] [Qf (.str (tx page)),Qf (.list (iL known)),Qf (.str (tx t)),Qf (.own 0 (iL [])),Qf (.own 1 (iL [])),Qf (.int 0),Qf (.int 0),Qg,Qg,Qg]) _ _
  refine X1.thn (K203 page t known toks a b) ?_ ?_
  rotate_left
  ·rintro X σ ⟨d,p,u1,u2,u3,rfl,h1,h2,h3,h4,h5,h6,rfl⟩
   refine XS.free (X':=[a]) rfl (i:=4) rfl (by simp only [List.set,XV,Yn,X2,h4,h5,h6];rfl) ?_
   refine XS.free (X':=[]) rfl (i:=3) rfl (by simp only [List.set,XV,Yn,QQ,h1,h2,h3];rfl) ?_
   exact XS.cons (X1.ret (.tup (.cons (.v 3 rfl) (.cons (.v 4 rfl) .nil)) (show 2<=Qt by decide)) rfl)
  refine X1.while (J203 page t known toks) toks.length ⟨0,toks,[],[],0,Qg,Qg,Qg,rfl,rfl,rfl,rfl,rfl,rfl,rfl,Vj _,Vr _,Vr _,by simpa using hlex,hkn,rfl,rfl⟩ ?_
  rintro m σ ⟨p,toks',ds,ns,d,u1,u2,u3,h1,h2,h3,h4,h5,h6,rfl,hp,hds,hns,hlx,hk',hrd,rfl⟩
  refine⟨_,.cmp (.v 6 rfl) (.lenS (.b (G _ _) (yL w) (yB w)) (.v 2 rfl) (Qp z3 (by decide))) (jV (k:=decide (p<t.length)) .Lt (by show decide ((p:Int)<(t.length:Int))=_;simp)),λhb=>?_,λhb=>?_⟩
  rotate_left
  ·have hpe:t.length<=p:=by have:=of_decide_eq_false hb;exact VS.mp ‹_›
   rw [Ve hpe]at hlx
   cases hlx with
   | cons k n h1 h2 h3=>simp at h3
   | nil =>
    exact⟨d,p,u1,u2,u3,rfl,h1,h2,h3,h4,h5,h6,by rw [hrd];rfl⟩
  have hlt:p<t.length:=of_decide_eq_true hb
  generalize hr:t.drop p=r at hlx
  cases hlx with
  | nil=>exact absurd hr (by intro e;have:=congrArg Yx e;simp at this;lia)
  | @cons _ rest k n hk1 hk2 hk3 hex hmax hrest =>
   subst hr
   have hk3':p+k<=t.length+2:=by lia
   have hmem:k∈[1,2,3].filter λm=>(Jv ((t.take (p+m)).drop p)).isSome:=List.mem_filter.mpr ⟨by simp;lia,by rw [vh,hex];rfl⟩
   have hall:∀x∈iL' ([1,2,3].filter λm=>(Jv ((t.take (p+m)).drop p)).isSome),x<=(k:Int):=λx hx=>by
    (refine jc (Qw.mp hx) ?_;rintro m hm rfl)
    (refine jw (List.mem_filter.mp hm) ?_;intro hm1 hm2)
    rw [vh]at hm2
    have hm3:m=1∨m=2∨m=3:=by simpa using hm1
    have:=hmax m (by exact zr58 ‹_›) (by exact zr59 ‹_›) hm2
    exact Zm.mpr ‹_›
   have zt:t.length<=sizeLine:=Qp z3 (by decide)
   refine XS.cons (X1.assign (V _ _) 7 rfl (.as (.add (.v 6 rfl) (.callB (.b (G _ _) (g_max w) (m_max w)) (.cons (.as (.comp1 (ys:=[1,2,3]) (fr:=[2,6]) (.of (by kernel_rfl)) (λm:Nat=>.int m) (λm=>(Jv ((t.take (p+m)).drop p)).isSome) (λm:Nat=>.int m) ?_ (λok C m hm=>?_) (by decide)) ?_) .nil) (Jk (l:=iL' ([1,2,3].filter λm=>(Jv ((t.take (p+m)).drop p)).isSome)) room.deeper.1 (Qw.mpr ⟨k,hmem,rfl⟩) hall))) (congrArg AV.int (Int.natCast_add p k).symm)) ?_)
   ·exact PI.tup room.deeper.1 (.tup (.cons .int (.cons .int (.cons .int .nil))) (by decide))
   ·exact⟨.one (.cmp (.slcT (.v 1 rfl) (.v 2 rfl) (.as (.add (.v 2 rfl) (.v 0 rfl)) (congrArg AV.int (Int.natCast_add p m).symm)) zt) (.g ((G _ _).cc ok C _) (g_EX w)) (ex_at w _▸cmp_inDk (KK prog w) rfl)),λ_=>.v 0 rfl⟩
   ·simp [iL,iL']
   refine XS.cons (X1.assign (V _ _) 8 rfl (.itemDk (i:=n) (KK prog w) (.g (G _ _) (g_EX w)) (.slcT (.v 2 rfl) (.v 6 rfl) (.v 7 rfl) zt) (by rw [ex_at,vh,hex])) ?_)
   have hin:n∉[(7:Int),8,12]->n∈known:=λh=>hk' n (.head _) h
   refine XS.cons (X1.assign (av:=.int (if n∈[(7:Int),8,12]then n else 256+(known.idxOf n:Int))) (V _ _) 9 rfl (.ite (b:=decide (n∈[(7:Int),8,12])) (.cmp (.v 8 rfl) (.tup (.cons (.gi (G _ _) (g_LPAR w)) (.cons (.gi (G _ _) (g_RPAR w)) (.cons (.gi (G _ _) (g_COMMA w)) .nil))) (by decide)) (cmp_inI (l:=[7,8,12]))) (λh=>.as (.v 8 rfl) ?_) λh=>.as (.add (.gi (G _ _) (g_NT w)) (.index (.v 1 rfl) (.v 8 rfl) (hin (of_decide_eq_false h)) (Qp zk (by decide)))) ?_) ?_)
   ·rw [if_pos (of_decide_eq_true h)]
   ·rw [if_neg (of_decide_eq_false h)]
   generalize hsym:(if n∈[(7:Int),8,12]then n else 256+(known.idxOf n:Int))=sym
   show XS (cx (F203 w) 203 v203 prog w A L [a,b] [Qf (.str (tx page)),Qf (.list (iL known)),Qf (.str (tx t)),Qf (.own 0 (iL ds)),Qf (.own 1 (iL ns)),Qf (.int d),Qf (.int p),Qf (.int ((p+k:Nat):Int)),Qf (.int n),Qf (.int sym)]) _ _
   refine XS.cons (X1.ite (.and (.val (.callF (.g (G _ _) (g_ISN w)) (.cons (.v 9 rfl) .nil) (b_104 w) rfl (cal104 room.deeper sym))) λ_=>.and (.not (.val (.callF (.g (G _ _) (g_IST w)) (.cons (.v 9 rfl) .nil) (b_97 w) rfl (cal97 room.deeper sym)))) λ_=>.and_nil) (λhc=>?_) λhc=>?_)
   ·have hc1:256<=sym:=by
     simp only [Vl,decide_eq_true_eq]at hc;exact hc.1
    have hnn:n∉[(7:Int),8,12]:=λhm=>by
     rw [if_pos hm]at hsym
     simp only [QD,QG,or_false]at hm
     lia
    refine XS.cons (X1.append 3 rfl rfl rfl (by decide) (by decide) (.v 5 rfl) (by simp [Qt];lia) rfl ?_)
    refine XS.cons (X1.append 4 rfl rfl rfl (by decide) (by decide) (.v 8 rfl) (by simp [Qt];lia) rfl ?_)
    refine XS.nil (XS.cons (X1.assign (V _ _) 6 rfl (.v 7 rfl) (XS.nil ⟨rfl,rest.length,(Vr _),p+k,rest,ds++[d],ns++[n],d,Qf (.int ((p+k:Nat):Int)),Qf (.int n),Qf (.int sym),rfl,rfl,rfl,rfl,rfl,rfl,rfl,hk3',by simp;lia,by simp;lia,by rw [<-List.drop_drop];exact hrest,λx hx=>hk' x (.tail _ hx),?_,?_⟩)))
    ·rw [hrd,xr,if_neg hnn]
    ·simp [iL]
   ·refine XS.cons (X1.ite (.and (.val (.callF (.g (G _ _) (g_IST w)) (.cons (.v 9 rfl) .nil) (b_97 w) rfl (cal97 room.deeper sym))) λ_=>.and (.not (.val (.callF (.g (G _ _) (g_ISN w)) (.cons (.v 9 rfl) .nil) (b_104 w) rfl (cal104 room.deeper sym)))) λ_=>.and_nil) (λhc'=>?_) λhc'=>?_)
    ·have hc1:sym<256:=by
      simp only [Vl,decide_eq_true_eq]at hc';exact hc'.1
     have hnn:n∈[(7:Int),8,12]:=Classical.byContradiction λhm=>by
      rw [if_neg hm]at hsym;lia
     have hsn:sym=n:=by rw [if_pos hnn]at hsym;exact hsym.symm
     refine XS.cons (X1.assign (av:=.int (d+if n=7 then 1 else if n=8 then -1 else 0)) (V _ _) 5 rfl (.add (.v 5 rfl) (.ite (b:=decide (n=7)) (.cmp (.v 9 rfl) (.gi (G _ _) (g_LPAR w)) (hsn▸jV (k:=decide (sym=7)) .Eq rfl)) (λh=>.as .int ?_) λh=>.ite (b:=decide (n=8)) (.cmp (.v 9 rfl) (.gi (G _ _) (g_RPAR w)) (hsn▸jV (k:=decide (sym=8)) .Eq rfl)) (λh2=>.as (.neg .int) ?_) λh2=>.as .int ?_)) ?_)
     ·rw [if_pos (of_decide_eq_true h)]
     ·rw [if_neg (of_decide_eq_false h),if_pos (of_decide_eq_true h2)]
     ·rw [if_neg (of_decide_eq_false h),if_neg (of_decide_eq_false h2)]
     refine XS.nil (XS.nil (XS.cons (X1.assign (V _ _) 6 rfl (.v 7 rfl) (XS.nil ⟨rfl,rest.length,(Vr _),p+k,rest,ds,ns,d+(if n=7 then 1 else if n=8 then -1 else 0),Qf (.int ((p+k:Nat):Int)),Qf (.int n),Qf (.int sym),rfl,rfl,rfl,rfl,rfl,rfl,rfl,hk3',by lia,by lia,by rw [<-List.drop_drop];exact hrest,λx hx=>hk' x (.tail _ hx),?_,rfl⟩))))
     rw [hrd,xr,if_pos hnn]
    ·exfalso
     simp only [Z1]at hc hc'
     by_cases hs:256<=sym
     ·have h2:¬sym<256:=by exact Int.not_lt.mpr ‹_›
      simp [hs,h2]at hc
     ·have h2:sym<256:=by exact Int.not_le.mp ‹_›
      simp [hs,h2]at hc'
theorem cal203{w:Ql}{prog:QI}{A:QO}{n:Nat}(room:Room (n+2) A)(page t1 t2 t:List Nat)(known toks:List Int)(e1:Xv (tx page) (tx [38,108,116,59]) (tx [60])=tx t1)(e2:Xv (tx t1) (tx [38,103,116,59]) (tx [62])=tx t2)(e3:Xv (tx t2) (tx [38,97,109,112,59]) (tx [38])=tx t)
  (z0:page.length<=1000) (z1:t1.length<=1000) (z2:t2.length<=1000) (z3:t.length<=1000) (zk:known.length<=1000) (hl:Lexed t toks) (hk:∀x∈toks,x∉[(7:Int),8,12]->x∈known) :
  Cal prog w (Bh w) A (.ref 203) [.str (tx page),.list (iL known)] (.tup [.list (iL (kB toks 0 [] []).1),.list (iL (kB toks 0 [] []).2)]):=by
 (refine jc (d203 w) ?_;intro body D h)
 exact D.cal room rfl λL=>h A n prog page t1 t2 t known toks room e1 e2 e3 z0 z1 z2 z3 zk hl hk L
section
variable {c:Ct}
theorem PT.chain2{l m r:Expr}{o1 o2:CmpOp}{pos:Pos}{a b d:AV}{k1 k2:Bool}(p:PE c l a)(q:PE c m b)(u:PE c r d)(h1:jX c o1 a b k1)(h2:jX c o2 b d k2)
  (hm:lastMarks [o1,o2] [m,r]=false:=by with_unfolding_all rfl):PT c (.Compare l [o1,o2] [m,r] pos) (k1&&k2):=λY s E x =>
 isTrue_chain (p.use x λv s₁ e₁ x₁ rv=>test_link (q.use x₁ λv₂ s₂ e₂ x₂ rm=>QB (n:=1) x₂.tk (Qz (h1 s₂ E v v₂ x₂ (rv.mono (ju (jr e₂))) rm) (λcv s₃ ⟨e₃,hc⟩ ht=>by
  subst hc
  refine YG ?_
  have x₃:=x₂.mono (jr e₃) ht
  cases k1 with
  | false=>exact⟨ktr e₁ (ktr e₂ e₃),rfl⟩
  | true =>
   refine test_last (u.use x₃ λv₃ s₄ e₄ x₄ rr=>Qz (h2 s₄ E v₂ v₃ x₄ (rm.mono (ju (jr (ktr e₃ e₄)))) rr) (λcv s₅ ⟨e₅,hc⟩=>?_) λ_ _ y=>y)
   subst hc
   exact YG ⟨ktr e₁ (ktr e₂ (ktr e₃ (ktr e₄ e₅))),rfl⟩) λ_ _ y _=>y))) hm
end
section
variable {c:Ct} {env:Env} {own:List Qd} {fr:List Nat} {Z:List (Qd×Qk)}
theorem CTg.tup2(S:CmS c env own fr Z)(hh:c.A.handled=Qg)(i j:Nat){x y:Qd}{p1 p2 tp:Pos}{k:Nat}{a b:AV}{τ:List (Option AV)}(hi:own[i]?=Qf x)(hj:own[j]?=Qf y)
  (hn:(Vx [.Name x p1,.Name y p2] env).length=2:=by rfl) (hst:(Vx [.Name x p1,.Name y p2] env).findIdx? (·.1)=none:=by rfl) :
  CTg c env own Z (.Tuple [.Name x p1,.Name y p2] k tp) (.tup [a,b]) τ ((τ.set i (Qf a)).set j (Qf b)):=λD W Y s₀ s l E Q v d r h=>by
 (refine xl (kJ r) ?_;rintro t o vs n rfl ho hc hd hr)
 refine Y6 hh ⟨o,j9 ho,hc,n,hd⟩ (by rw [hn,<-VZ,hr.length];rfl) hst λh' hx=>?_
 have kk:Vb s { s with heap:=h' }:=ja λb o e=>hx b o (QR (jg e)) e
 (refine jW (yu hr) ?_;intro v1 v2 e12 r1 r2)
 rw [e12]
 have r1':=r1.mono (ju (jr kk))
 have r2':=r2.mono (ju (jr kk))
 refine V8 (VX ((d.keeps kk).store S hi r1' λs₁ g₁ d₁=>?_))
 refine V8 (VX (d₁.store S hj (r2'.mono (g₁.le λb hb=>mem_Yh.mpr (.inr (.inl hb)))) λs₂ g₂ d₂=>?_))
 exact Xe (h s₂ ((Gz.of kk).trans (g₁.trans g₂)) d₂)
end
section
variable {c:Ct} {fr:List Nat} {scope:Scope} {cl:List (Qd×Qk)}
theorem CL.n2{α:Type}{ys:List α}{x y:Qd}{px py tp pos:Pos}{kt:Nat}{elt iter:Expr}{ifs:List Expr}(ok:CmOk c scope [x,y] fr cl)(hh:c.A.handled=Qg)(f g:α->AV)(b:α->Bool)(o:α->AV)(C:Qk)
  (hn:(Vx [.Name x px,.Name y py] (jT c scope cl C)).length=2) (hst:(Vx [.Name x px,.Name y py] (jT c scope cl C)).findIdx? (·.1)=Qg)
  (h:∀u∈ys,PTs (v8 c (jT c scope cl C) [x,y] fr [Qf (f u),Qf (g u)]) ifs (b u)/\(b u=true->PE (v8 c (jT c scope cl C) [x,y] fr [Qf (f u),Qf (g u)]) elt (o u))) :
  CL c (jT c scope cl C) [x,y] (Vd (C+1) scope.names []) (.ListComp elt [⟨.Tuple [.Name x px,.Name y py] kt tp,iter,ifs,0⟩] scope pos) 0 (.Tuple [.Name x px,.Name y py] kt tp) ([x,y].map λ_=>Qg) (ys.map λu=>.tup [f u,g u]) ((ys.filter b).map o):=by
 rw [<-kO]
 exact CL.ofM (λu=>.tup [f u,g u]) _ turn1 λu hu=>⟨[Qf (f u),Qf (g u)],CTg.tup2 (ok.S C) hh 0 1 rfl rfl hn hst,⟨rfl,λi av e=>by
  match i,e with
  | 0,e=>cases e
  | 1,e=>cases e
  | i+2,e=>exact no1 e⟩,CTn.one (ok.S C) (h u hu).1 (h u hu).2⟩
theorem PE.comp1t{α:Type}{ys:List α}{x y:Qd}{px py tp pos:Pos}{kt:Nat}{elt iter:Expr}{ifs:List Expr}(ok:CmOk c scope [x,y] fr cl)(hh:c.A.handled=Qg)(f g:α->AV)(b:α->Bool)(o:α->AV)(p:PI c (.Tuple [.Name x px,.Name y py] kt tp) iter (ys.map λu=>.tup [f u,g u]))
  (h:CmOk c scope [x,y] fr cl->∀C,∀u∈ys,PTs (v8 c (jT c scope cl C) [x,y] fr [Qf (f u),Qf (g u)]) ifs (b u)/\(b u=true->PE (v8 c (jT c scope cl C) [x,y] fr [Qf (f u),Qf (g u)]) elt (o u)))
  (hz:ys.length<=Qt) (hn:∀C,(Vx [.Name x px,.Name y py] (jT c scope cl C)).length=2:=by intro _;rfl) (hst:∀C,(Vx [.Name x px,.Name y py] (jT c scope cl C)).findIdx? (·.1)=none:=by intro _;rfl)
  (hs:∀x,QN iter c.env x=pure x:=by intro _;rfl):PE c (.ListComp elt [⟨.Tuple [.Name x px,.Name y py] kt tp,iter,ifs,0⟩] scope pos) (.list ((ys.filter b).map o)) :=
 .comp ok p (λC=>CL.n2 ok hh f g b o C (hn C) (hst C) (h ok C)) (by rw [Qy];exact Qp (Yd _ _) hz) hs
theorem PE.map1t{α:Type}{ys:List α}{x y:Qd}{px py tp pos:Pos}{kt:Nat}{elt iter:Expr}(ok:CmOk c scope [x,y] fr cl)(hh:c.A.handled=Qg)(f g:α->AV)(o:α->AV)(p:PI c (.Tuple [.Name x px,.Name y py] kt tp) iter (ys.map λu=>.tup [f u,g u]))
  (h:CmOk c scope [x,y] fr cl->∀C,∀u∈ys,PE (v8 c (jT c scope cl C) [x,y] fr [Qf (f u),Qf (g u)]) elt (o u))
  (hz:ys.length<=Qt) (hn:∀C,(Vx [.Name x px,.Name y py] (jT c scope cl C)).length=2:=by intro _;rfl) (hst:∀C,(Vx [.Name x px,.Name y py] (jT c scope cl C)).findIdx? (·.1)=none:=by intro _;rfl)
  (hs:∀x,QN iter c.env x=pure x:=by intro _;rfl):PE c (.ListComp elt [⟨.Tuple [.Name x px,.Name y py] kt tp,iter,[],0⟩] scope pos) (.list (ys.map o)):=by
 have:=PE.comp1t (pos:=pos) ok hh f g (λ_=>true) o p (λok C y hy=>⟨.nil,λ_=>h ok C y hy⟩) hz hn hst hs
 rwa [Yt.mpr λ_ _=>rfl]at this
theorem X1.map1t{P:Out->Prop}{α:Type}{ys:List α}{x y z:Qd}{px py pz tp pos sp:Pos}{kt:Nat}{elt iter:Expr}(V:Vars c)(i:Nat)(ok:CmOk c scope [x,y] fr cl)(hh:c.A.handled=Qg)(f g:α->AV)(o:α->AV)(p:PI c (.Tuple [.Name x px,.Name y py] kt tp) iter (ys.map λu=>.tup [f u,g u]))
  (h:CmOk c scope [x,y] fr cl->∀C,∀u∈ys,PE (v8 c (jT c scope cl C) [x,y] fr [Qf (f u),Qf (g u)]) elt (o u)) (hi:c.vars[i]?=Qf z)
  (hp:P (.nx c.X (c.σ.set i (Qf (.list (ys.map o)))))) (hz:ys.length<=Qt) (hn:∀C,(Vx [.Name x px,.Name y py] (jT c scope cl C)).length=2:=by intro _;rfl) (hst:∀C,(Vx [.Name x px,.Name y py] (jT c scope cl C)).findIdx? (·.1)=none:=by intro _;rfl)
  (hs:∀x,QN iter c.env x=pure x:=by intro _;rfl)
  (hsw:VU (.ListComp elt [⟨.Tuple [.Name x px,.Name y py] kt tp,iter,[],0⟩] scope pos) (Qf (.Name z pz)) sp.line c.env=pure true:=by rfl):X1 c (.Assign [.Name z pz] (.ListComp elt [⟨.Tuple [.Name x px,.Name y py] kt tp,iter,[],0⟩] scope pos) sp) P :=
 .comp V i ok p (λC=>by
  have:=CL.n2 (c:=c) (px:=px) (py:=py) (kt:=kt) (tp:=tp) (pos:=pos) (iter:=iter) ok hh f g (λ_=>true) o C (hn C) (hst C) (λy hy=>⟨PTs.nil,λ_=>h ok C y hy⟩)
  rwa [Yt.mpr λ_ _=>rfl]at this) hi hp (by rw [Qy];exact hz) hs hsw
theorem CL.c2{α β:Type}{ys:List α}{x y:Qd}{px py pos:Pos}{elt iter iter':Expr}{ifs:List Expr}(ok:CmOk c scope [x,y] fr cl)(f:α->AV)(zs:α->List β)(g:β->AV)(b:α->β->Bool)(o:α->β->AV)(C:Qk)
  (h:∀u∈ys,PI (v8 c (jT c scope cl C) [x,y] fr [Qf (f u),Qg]) (.Name y py) iter' ((zs u).map g)/\∀v∈zs u,PTs (v8 c (jT c scope cl C) [x,y] fr [Qf (f u),Qf (g v)]) ifs (b u v)/\(b u v=true->PE (v8 c (jT c scope cl C) [x,y] fr [Qf (f u),Qf (g v)]) elt (o u v)))
  (hs':∀x,QN iter' (jT c scope cl C) x=pure x) :
  CL c (jT c scope cl C) [x,y] (Vd (C+1) scope.names []) (.ListComp elt [⟨.Name x px,iter,[],0⟩,⟨.Name y py,iter',ifs,0⟩] scope pos) 0 (.Name x px) ([x,y].map λ_=>Qg) (ys.map f) (ys.flatMap λu=>((zs u).filter (b u)).map (o u)) :=
 CL.ofM f _ (turn2a hs') λu hu=>⟨[Qf (f u),Qg],CTg.name (ok.S C) 0 rfl,⟨rfl,λi av e=>by
  match i,e with
  | 0,e=>cases e
  | 1,e=>cases e
  | i+2,e=>exact no1 e⟩,CTn.two (ok.S C) (h u hu).1 (by
   rw [<-kO]
   exact CL.ofM g _ turn2b λv hv=>⟨[Qf (f u),Qf (g v)],CTg.name (ok.S C) 1 rfl,⟨rfl,λi av e=>by
    match i,e with
    | 0,e=>exact e
    | 1,e=>cases e
    | i+2,e=>exact no1 e⟩,CTn.one (ok.S C) ((h u hu).2 v hv).1 ((h u hu).2 v hv).2⟩)⟩
end
section
variable {c:Ct}
noncomputable abbrev yd(xs:List AV):List AV:=(Qj xs.length).map λi:Nat=>AV.tup [.int i,xs.getD i .none]
theorem Jh{xs:List AV}{i:Nat}{av:AV}(h:(yd xs)[i]?=Qf av):i<xs.length/\av=.tup [.int i,xs.getD i .none]:=by
 unfold yd at h
 rw [Qx]at h
 by_cases q:i<xs.length
 ·rw [VQ q]at h;(have q_:=oi h;clear h;subst q_);exact⟨q,rfl⟩
 ·rw [Xz (by simpa using q)]at h;exact no1 h
theorem PI.enumL{es:List Expr}{k:Nat}{tp pos:Pos}{f e:Expr}{xs:List AV}(hh:c.A.handled=Qg)(p:PE c f (.raw (.type "enumerate")))(q:PE c e (.list xs))
  (hs:Qv [e] c.env=[(false,eval e c.env)]:=by rfl)
  (he:eval (.Call f [e] [] pos) c.env=(do VL pos (<-eval f c.env) [] (VO pos (Qv [e] c.env)) (VE pos (V3 [] c.env))):=by rfl):PI c (.Tuple es k tp) (.Call f [e] [] pos) (yd xs):=λY s E Q x₀ h=>by
 rw [he,hs]
 refine Qh (p.use x₀ λv s₁ k₁ x₁ r₁=>?_)
 obtain rfl:=jb r₁
 refine X7 (first:=[]) rfl (je rfl (Qq (q.use x₁ λu s₂ k₂ x₂ r₂=>QK ?_)))
 (refine JM (jY r₂) ?_;rintro l vs n rfl ho hr)
 have hsz:vs.size=xs.length:=by rw [<-hr.length];simp
 refine call_enumerate_list ⟨_,j9 ho,rfl,n,rfl⟩ λh' hen hit hz hk=>YI hen ?_
 have kk:Vb s₂ { s₂ with heap:=h' }:=ja hk
 generalize hI:s₂.heap.objs.size+1=I at hen
 generalize hJ:s₂.heap.objs.size=J at hen hit hI
 have hIJ:I≠J:=by lia
 have lJ:l<J:=hJ▸jg (j9 ho)
 have neI:∀ {b:Qk},b<J->b≠I/\b≠J:=λ{b} hb=>⟨λe=>Nat.lt_asymm hb (by rw [e,<-hI];exact Yu _),QR hb⟩
 have nl:∀H',okH (c.X++Y) [I,J] h' H'->l∉H':=λH' hH m=>by
  rcases hH.2 l m with m | m | m
  ·unfold hid at ho;rw [if_pos m]at ho;exact no1 ho
  ·simp only [QD,QG,or_false]at m
   rcases m with m | m
   ·exact(neI lJ).1 m
   ·exact(neI lJ).2 m
  ·rw [hk _ _ (j9 ho)]at m;exact no2 m
 have hI':(∃o,h'.get? I=Qf o)/\∃o,h'.get? J=Qf o:=⟨⟨_,hen⟩,let ⟨o,e,_⟩:=hit;⟨o,e⟩⟩
 refine h I [I,J] (λH i g=>(∃old,IsEnum g I J i old)/\g.IsListIter J l i/\g.IsList l vs/\Reps (hid H g) xs vs.toList)
  (λH i v g=>∃T x,v=.ref T/\IsEnumOut g I J ((i:Int)+1) x T/\g.IsListIter J l (i+1)/\g.IsList l vs/\Reps (hid H g) xs vs.toList) _ (ktr k₁ (ktr k₂ kk)) (λb hb=>?_) (λH hH=>⟨?_,⟨_,hen⟩,hit,⟨_,hk _ _ (j9 ho),rfl,n,rfl⟩,?_⟩) x₂.tk
 ·have dead:∀b,J<=b->s.heap.get? b=none:=λb hb=>by
   cases e:s.heap.get? b with
   | none=>rfl
   | some o=>exact absurd (hJ▸jg (jr (ktr k₁ k₂) _ _ e)) (VS.mpr hb)
  simp only [QD,QG,or_false]at hb
  rcases hb with rfl | rfl
  ·exact⟨dead _ (hI▸YO _),hI'.1⟩
  ·exact⟨dead _ (Vr _),hI'.2⟩
 ·have hl:=nl H hH
  have hIH:I∈H:=hH.1 I (.inr (.head _))
  have hJH:J∈H:=hH.1 J (.inr (.tail _ (.head _)))
  refine⟨λi g g' st le kw=>?_,λi g st b hb=>?_,λi av s Q E hi st lv hQ=>?_,λi av v s Q E mid r hQ=>?_,λs Q E st hQ=>?_,λi s Q E st hQ=>?_⟩
  ·refine e0_4 st ?_;clear st;rintro⟨old,a⟩ b ⟨o,d,d'⟩ r
   exact⟨⟨old,kw I (.head _) _ a⟩,b.at λo x=>kw J (.tail _ (.head _)) o x,⟨o,j9 (le l o (jl d hl)),d'⟩,r.mono le⟩
  ·(refine xE st ?_;clear st;rintro⟨old,a⟩⟨o,b,_⟩ _)
   simp only [QD,QG,or_false]at hb
   rcases hb with rfl | rfl
   ·exact⟨_,a⟩
   ·exact⟨_,b⟩
  ·(refine jw (Jh hi) ?_;rintro hi1 rfl)
   refine e0_4 st ?_;clear st;rintro⟨old,a⟩ b d r
   have hx:vs[i]?=Qf vs[i]:=VY (by exact JI ‹_› ‹_›)
   (refine jc (r.get (i:=i) (a:=xs.getD i .none) (by rw [QL,Qu hi1];rfl)) ?_;intro u hu ru)
   have hu':u=vs[i]:=by rw [Vi,hx]at hu;exact(oi hu).symm
   subst hu'
   refine wpAny_pyNext_enum_item a b d hx hIJ λh₃ ho₃ hit₃ hT hz₃ hk₃=>?_
   have le₃:Le (hid H s.heap) (hid H h₃):=λb o e=>by
    have nb:b∉H:=λm=>by unfold hid at e;rw [if_pos m]at e;exact no1 e
    exact jl (hk₃ b o (λq=>nb (q▸hIH)) (λq=>nb (q▸hJH)) (j9 e)) nb
   (refine jc d ?_;intro o d1 d2)
   refine hQ _ h₃ _ ⟨_,_,rfl,ho₃,hit₃,⟨o,j9 (le₃ l o (jl d1 hl)),d2⟩,r.mono le₃⟩ ?_ λb o hb e=>hk₃ b o (λq=>hb (q▸.head _)) (λq=>hb (q▸.tail _ (.head _))) e
   show Exists _
   refine⟨_,_,_,0,rfl,jl hT (λm=>?_),rfl,rfl,.cons v7 (.cons (ru.mono le₃) .nil)⟩
   (refine jd (lv _ m) ?_;intro o' e)
   rw [jm]at e;exact no1 e
  ·refine e2_5 mid ?_;clear mid;rintro T x rfl a b ⟨o,d1,d2⟩ rr
   refine wpAny_letOwnedTupleGo_enum a λh₃ he₃ hs₃=>?_
   have same:hid H h₃=hid H s.heap:=jD λb hb=>hs₃.2 b λq=>hb (q▸hIH)
   refine hQ h₃ ⟨⟨x,by simpa using he₃⟩,b.at λo y=>(hs₃.2 J hIJ.symm).trans y,⟨o,(hs₃.2 l λq=>hl (q▸hIH)).trans d1,d2⟩,by rw [same];exact rr⟩ (by rw [same];exact r) λb o hb e=>(hs₃.2 b λq=>hb (q▸.head _)).trans e
  ·refine e0_4 st ?_;clear st;rintro⟨old,a⟩ b d r
   rw [Qy,Vu]at a b
   exact wpAny_pyNext_enum_end hh a b d (Array.getElem?_eq_none (by exact XO ‹_›)) λh₃ hx=>hQ h₃ _ λb o hb e=>hx b o (λq=>hb (q▸.tail _ (.head _))) e
  ·(refine jw st ?_;clear st;rintro⟨old,a⟩ _)
   exact YI a hQ
 ·exact hr.mono λb o e=>jl (hk _ _ (j9 e)) λm=>by
   have nb:b∉c.X++Y:=λm=>by unfold hid at e;rw [if_pos m]at e;exact no1 e
   rcases hH.2 b m with m | m | m
   ·exact nb m
   ·have hb:b<J:=hJ▸jg (j9 e)
    simp only [QD,QG,or_false]at m
    rcases m with m | m
    ·exact(neI hb).1 m
    ·exact(neI hb).2 m
   ·rw [hk _ _ (j9 e)]at m;exact no2 m
end
section
variable {c:Ct} {fr:List Nat} {scope:Scope} {cl:List (Qd×Qk)}
theorem X1.comp2{P:Out->Prop}{α β:Type}{ys:List α}{x y z:Qd}{px py pz pos sp:Pos}{elt iter iter':Expr}{ifs:List Expr}(V:Vars c)(i:Nat)(ok:CmOk c scope [x,y] fr cl)(f:α->AV)(zs:α->List β)(g:β->AV)(b:α->β->Bool)(o:α->β->AV)(p:PI c (.Name x px) iter (ys.map f))
  (h:CmOk c scope [x,y] fr cl->∀C,∀u∈ys,PI (v8 c (jT c scope cl C) [x,y] fr [Qf (f u),Qg]) (.Name y py) iter' ((zs u).map g)/\∀v∈zs u,PTs (v8 c (jT c scope cl C) [x,y] fr [Qf (f u),Qf (g v)]) ifs (b u v)/\(b u v=true->PE (v8 c (jT c scope cl C) [x,y] fr [Qf (f u),Qf (g v)]) elt (o u v)))
  (hi:c.vars[i]?=Qf z) (hp:P (.nx c.X (c.σ.set i (Qf (.list (ys.flatMap λu=>((zs u).filter (b u)).map (o u))))))) (hz:(ys.flatMap λu=>((zs u).filter (b u)).map (o u)).length<=Qt)
  (hs:∀x,QN iter c.env x=pure x:=by intro _;rfl) (hs':∀C x,QN iter' (jT c scope cl C) x=pure x:=by intro _ _;rfl)
  (hsw:VU (.ListComp elt [⟨.Name x px,iter,[],0⟩,⟨.Name y py,iter',ifs,0⟩] scope pos) (Qf (.Name z pz)) sp.line c.env=pure true:=by rfl):X1 c (.Assign [.Name z pz] (.ListComp elt [⟨.Name x px,iter,[],0⟩,⟨.Name y py,iter',ifs,0⟩] scope pos) sp) P :=
 .comp V i ok p (λC=>CL.c2 ok f zs g b o C (h ok C) (hs' C)) hi hp hz hs hsw
end
noncomputable abbrev pL(g:Nat->List Nat):List AV:=(Qj 5).map λk=>AV.str (tx (g k))
noncomputable def jM(g:Nat->List Nat)(k:Nat):Wv:=xn (tx (g k))
noncomputable def eP(g:Nat->List Nat)(a:Nat):Nat:=climb (jM g) a (4-a) a
noncomputable def eqW(u v:Wv):Bool:=decide (u.c=v.c)&&decide (u.b=v.b)
noncomputable def letC(g:Nat->List Nat)(wish:List Int)(a b:Nat):Bool:=decide ((eP g a:Int)=(b:Int)-1)&&(decide ((eP g b:Int)<=wish.getD a 0)&&eqW (jM g a) (jM g b))
noncomputable def letL(g:Nat->List Nat)(wish:List Int):List (Nat×Nat):=(Qj 4).flatMap λk=>((Qj (1+k)).filter λa=>letC g wish a (1+k)).map λa=>(a,1+k)
noncomputable def vM(g:Nat->List Nat)(b:Nat)(k:Nat):List Nat:=if b<=k/\k<=eP g b then 9::g k else g k
noncomputable def vc(g:Nat->List Nat)(wish:List Int)(draw t:Nat):Nat×Nat:=(letL g wish).getD (draw/7^t%(letL g wish).length) (0,0)
noncomputable def yv(wish:List Int)(draw:Nat):Nat->Nat->(Nat->List Nat)->Option (Nat->List Nat)
 | 0,_,_=>Qg
 | n+1,t,g=>if letL g wish=[]then Qf g else yv wish draw n (t+1) (vM g (vc g wish draw t).2)
theorem pushR1{wish:List Int}{draw n t:Nat}{g:Nat->List Nat}:yv wish draw (n+1) t g=if letL g wish=[]then Qf g else yv wish draw n (t+1) (vM g (vc g wish draw t).2):=rfl
noncomputable def qz(wish:List Int)(draw:Nat)(g:Nat->List Nat):List AV:=match yv wish draw 11 0 g with
 | some g'=>pL g'
 | none=>[]
theorem toldK_eP(g:Nat->List Nat):kA (jM g) 5=(Qj 5).map λa=>(eP g a:Int):=rfl
theorem letL_mem{g:Nat->List Nat}{wish:List Int}{p:Nat×Nat}(h:p∈letL g wish):p.1<p.2/\1<=p.2/\p.2<5/\letC g wish p.1 p.2=true:=by
 (refine jc (XZ.mp h) ?_;intro k hk hp)
 (refine jc (Qw.mp hp) ?_;rintro a ha rfl)
 (refine jw (List.mem_filter.mp ha) ?_;intro h1 h2)
 have:=Qc hk
 have:=Qc h1
 exact⟨by show a<1+k;assumption,by show 1<=1+k;exact XW _ _,by show 1+k<5;exact zr19 ‹_›,h2⟩
theorem J2(g:Nat->List Nat)(wish:List Int):(letL g wish).length<=10:=by
 have h:∀k,(((Qj (1+k)).filter λa=>letC g wish a (1+k)).map λa=>(a,1+k)).length<=1+k:=λk=>by
  rw [Qy]
  exact Qp (Yd _ _) (by simp)
 have e:letL g wish=(((Qj (1+0)).filter λa=>letC g wish a (1+0)).map λa=>(a,1+0))++((((Qj (1+1)).filter λa=>letC g wish a (1+1)).map λa=>(a,1+1))++((((Qj (1+2)).filter λa=>letC g wish a (1+2)).map λa=>(a,1+2))++((((Qj (1+3)).filter λa=>letC g wish a (1+3)).map λa=>(a,1+3))++[]))):=rfl
 rw [e]
 have h0:=h 0
 have h1:=h 1
 have h2:=h 2
 have h3:=h 3
 simp only [QC,QQ]at *
 lia
theorem pick_mem{g:Nat->List Nat}{wish:List Int}(draw t:Nat)(h:letL g wish≠[]):vc g wish draw t∈letL g wish/\(letL g wish)[draw/7^t%(letL g wish).length]?=Qf (vc g wish draw t):=by
 have hp:0<(letL g wish).length:=XK.mpr h
 have hlt:=Nat.mod_lt (draw/7^t) hp
 have e:(letL g wish)[draw/7^t%(letL g wish).length]?=Qf (vc g wish draw t):=by
  unfold vc
  rw [QL,Qu hlt];rfl
 exact⟨QE e,e⟩
noncomputable abbrev vS(l:List (Nat×Nat)):List AV:=l.map λp=>AV.tup [.int p.1,.int p.2]
theorem ym:∀l:List (Nat×Nat),∃ds,toDs (vS l)=Qf ds/\Xq ds=true/\Xf ds<=2/\Yq ds []=l.isEmpty
 | []=>⟨[],rfl,rfl,by simp [Xf],rfl⟩
 | p::l=>by
  refine e1_4 (ym l) ?_;intro ds h1 h2 h3 _
  refine⟨.tuple [.int p.1,.int p.2]::ds,?_,?_,?_,rfl⟩
  ·simp only [vS,QP,JQ,JP,toD_t,toD_i,Option.bind_some,Option.map_some]at h1 ⊢
   rw [h1];rfl
  ·simp [Xq,Xr,h2]
  ·simp only [Xf,XQ];lia
theorem KR{c:Ct}{n:Nat}(room:Room n c.A)(l:List (Nat×Nat)):jX c .Eq (.list (vS l)) (.list []) l.isEmpty:=by
 refine e1_4 (ym l) ?_;intro ds h1 h2 h3 h4
 have hsh:VR (.list ds)=true:=Bool.and_eq_true_iff.mpr ⟨by simp only [Xr];exact h2,decide_eq_true (by simp only [XQ];exact zq8 ‹_› rfl)⟩
 have:=yg (c:=c) (a:=.list (vS l)) (b:=.list []) (da:=.list ds) (db:=.list []) room (by simp only [Jq,h1];rfl) rfl hsh (by decide)
 rwa [show Xh (.list ds) (.list [])=l.isEmpty by simp only [Xh,h4]]at this
theorem PT.as'{c:Ct}{e:Expr}{a b:Bool}(p:PT c e a)(h:a=b):PT c e b:=h▸p
theorem b_215(w:Ql):(Bh w).get? 215=Qf (o_228 w.params):=by kernel_rfl
theorem J8(w:Ql):mg w "enumerate"=none:=by kernel_rfl
theorem J1(w:Ql):mb w "enumerate"=Qf (.type "enumerate"):=by kernel_rfl
noncomputable abbrev F220(w:Ql):FuncData:=vx (o_233 w.params)
noncomputable abbrev v220:List Qd:=["page","wish","draw","turn","guys","ends","let","a","b"]
theorem n220(w:Ql):Names (F220 w) v220:=.of (by kernel_rfl)
theorem d220(w:Ql):∃body,Df (Bh w) 220 (o_233 w.params) (F220 w) body ["page","wish","draw"] ["turn","guys","ends","let","a","b"] /\
  ∀A n prog (g:Nat->List Nat) (wish:List Int) (draw:Nat),Room (n+5) A->wish.length=5->(∀k,k<5->(g k).length<=500)->draw<=2^40->∀L,
  XS (cx (F220 w) 220 v220 prog w A L [] [Qf (.list (pL g)),Qf (.list (iL wish)),Qf (.int draw),Qg,Qg,Qg,Qg,Qg,Qg]) body (λo=>o=.rt (.list (qz wish draw g))):=by
 refine⟨_,⟨by kernel_rfl,rfl,rfl,rfl,ji (by kernel_rfl),n220 w,λvs h=>?_⟩,?_⟩
 ·(refine e3_1 (vL h) ?_;rintro u v x rfl);rfl
 ·intro A n prog g wish draw room hw hg hd L
  have V:=(n220 w).cV (a:=220) (prog:=prog) (w:=w) (A:=A) (L:=L)
  have G:=(n220 w).cG (a:=220) (w:=w) (prog:=prog) (L:=L) room rfl rfl
  refine XS.cons (X1.for (λt σ=>∃(g':Nat->List Nat) (z1 z2 z3 z4 z5 z6:Option AV),t<=11/\yv wish draw 11 0 g=yv wish draw (11-t) t g'/\(∀k,k<5->(g' k).length<=500+t) /\
   σ=[Qf (.list (pL g')),Qf (.list (iL wish)),Qf (.int draw),z1,z2,z3,z4,z5,z6]) (.rng1 11 room.deeper.1 (.b (G _ _) (jz w) (jy w)) .int (by decide)) (i7_4 g Qg Qg Qg Qg Qg Qg (by exact Vj _) rfl (λk hk=>by have:=hg k hk;assumption) rfl) ?_ ?_)
  ·(intro t av σ hk q_;refine e7_4 q_ ?_;clear q_;rintro g' z1 z2 z3 z4 z5 z6 ht hp hl rfl)
   (refine jw (xP hk) ?_;rintro ht11 rfl)
   refine⟨[Qf (.list (pL g')),Qf (.list (iL wish)),Qf (.int draw),Qf (.int t),z2,z3,z4,z5,z6],TA.name (V _ _) 3 rfl,?_⟩
   refine XS.cons (X1.assign (V _ _) 4 rfl (.map1 (ys:=Qj 5) (fr:=[]) (.of (by kernel_rfl)) (λk=>.str (tx (g' k))) (λk=>(jM g' k).av) ?_ (λok C k hk=>?_) (by decide)) ?_)
   ·exact PI.list room.deeper.1 (.v 0 rfl)
   ·exact .wnew (w:=w) rfl rfl room.deeper (.g ((G _ _).cc ok C _) (kw_C w)) (.cons (.v 0 rfl) .nil) (by have:=hl k (Qc hk);show(g' k).length<=_;lia)
   have hok:∀k,k<5->(jM g' k).ok:=λk hk=>xH _ (by have:=hl k hk;show(g' k).length<=_;lia)
   refine XS.cons (X1.assign (V _ _) 5 rfl (.callF (.g (G _ _) (g_told w)) (.cons (.v 4 rfl) .nil) (b_215 w) rfl (cal215 room.deeper (jM g') hok)) ?_)
   show XS (cx (F220 w) 220 v220 prog w A L [] [Qf (.list (pL g')),Qf (.list (iL wish)),Qf (.int draw),Qf (.int t),Qf (.list (gL (jM g'))),Qf (.list (iL (kA (jM g') 5))),z4,z5,z6]) _ _
   have gE:∀a:Nat,a<5->(iL (kA (jM g') 5))[a]?=Qf (.int (eP g' a)):=λa ha=>by rw [toldK_eP];simp [ha]
   have gW:∀a:Nat,a<5->(iL wish)[a]?=Qf (.int (wish.getD a 0)):=λa ha=>by rw [Qx,Qu (by exact JI ‹_› ‹_›)];simp [show a<wish.length by exact JI ‹_› ‹_›]
   have hLL:((Qj 4).flatMap λk=>((Qj (1+k)).filter λa=>letC g' wish a (1+k)).map λa:Nat=>AV.tup [.int a,.int ((1+k:Nat):Int)])=vS (letL g' wish):=by
    simp only [letL,vS,List.map_flatMap,Xp]
    rfl
   refine XS.cons (X1.comp2 (V _ _) 6 (ys:=Qj 4) (fr:=[5,1,4]) (.of (by kernel_rfl)) (λk:Nat=>.int ((1+k:Nat):Int)) (λk=>Qj (1+k)) (λa:Nat=>.int a) (λk a=>letC g' wish a (1+k)) (λk a=>.tup [.int a,.int ((1+k:Nat):Int)]) ?_ (λok C k hk=>⟨?_,λa ha=>⟨?_,λhlet=>?_⟩⟩) rfl ?_ ?_)
   ·exact .rng2 1 5 room.deeper.1 (.b (G _ _) (jz w) (jy w)) .int .int (by decide) (by decide)
   ·have:=Qc hk
    exact .rng1 (1+k) room.deeper.1 (.b ((G _ _).cc ok C _) (jz w) (jy w)) (.v 0 rfl) (by lia)
   ·have hk4:=Qc hk
    have ha4:=Qc ha
    refine .one (.as' (.and (.cmp (.itemL (.list (.v 2 rfl)) (.v 1 rfl) a (by rw [if_neg (by exact zq6)]) (gE a (by exact zr55 ‹_› ‹_›)) (by lia)) (.sub (.v 0 rfl) .int) (jV (k:=decide ((eP g' a:Int)=((1+k:Nat):Int)-1)) .Eq rfl)) λ_=>.and (.cmp (.itemL (.list (.v 2 rfl)) (.v 0 rfl) (1+k) (by rw [if_neg (by exact zq6)]) (gE (1+k) (by exact zr19 ‹_›)) (by lia)) (.itemL (.list (.v 3 rfl)) (.v 1 rfl) a (by rw [if_neg (by exact zq6)]) (gW a (by exact zr55 ‹_› ‹_›)) (by lia)) (jV (k:=decide ((eP g' (1+k):Int)<=wish.getD a 0)) .LtE rfl)) λ_=>.and (.val (.wequal rfl rfl room.deeper (.itemL (.list (.v 4 rfl)) (.v 1 rfl) a (by rw [if_neg (by exact zq6)]) (gL_at (jM g') (by exact zr55 ‹_› ‹_›)) (by lia)) (.itemL (.list (.v 4 rfl)) (.v 0 rfl) (1+k) (by rw [if_neg (by exact zq6)]) (gL_at (jM g') (by exact zr19 ‹_›)) (by lia)))) λ_=>.and_nil) ?_)
    rw [Z1];rfl
   ·exact .tup (.cons (.v 1 rfl) (.cons (.v 0 rfl) .nil)) (show 2<=Qt by decide)
   ·rw [hLL]
    show XS (cx (F220 w) 220 v220 prog w A L [] [Qf (.list (pL g')),Qf (.list (iL wish)),Qf (.int draw),Qf (.int t),Qf (.list (gL (jM g'))),Qf (.list (iL (kA (jM g') 5))),Qf (.list (vS (letL g' wish))),z5,z6]) _ _
    have hlen:=J2 g' wish
    refine XS.cons (X1.ite (.cmp (.v 6 rfl) (.list .nil (by decide)) (KR room.deeper _)) (λhe=>?_) λhe=>?_)
    ·refine XS.cons (X1.ret (.v 0 rfl) ?_)
     have hnil:letL g' wish=[]:=List.isEmpty_iff.mp he
     obtain⟨m,hm⟩:∃m,11-t=m+1:=⟨10-t,by exact zr37 ‹_›⟩
     have hp':yv wish draw (11-t) t g'=Qf g':=by
      rw [hm]
      show(if letL g' wish=[]then _ else _)=_
      rw [if_pos hnil]
     unfold qz
     rw [hp,hp']
    ·have hne:letL g' wish≠[]:=λe=>by rw [e]at he;exact no3 he
     (refine jw (pick_mem draw t hne) ?_;intro pm pe)
     refine e0_4 (letL_mem pm) ?_;intro q1 q2 q3 q4
     have hpos:0<(letL g' wish).length:=XK.mpr hne
     refine XS.nil (XS.cons (X1.tupA (V _ _) room.1 (.cons 7 rfl (.cons 8 rfl .nil)) (.itemL (av:=.tup [.int (vc g' wish draw t).1,.int (vc g' wish draw t).2]) (.list (.v 6 rfl)) (.mod (.div (.v 2 rfl) (.pow .int (.v 3 rfl) ?_) ?_ ?_) (.len (.b (G _ _) (yL w) (yB w)) (.list (.v 6 rfl)) ?_) ?_) (draw/7^t%(letL g' wish).length) ?_ ?_ ?_) ?_))
     ·show(3:Int)*(t:Int)<=2^27
      lia
     ·exact Int.pow_pos (by decide)
     ·refine VM ?_
      rw [Int.natAbs_pow]
      have:=Nat.pow_le_pow_right (n:=7) (by decide) (show t<=10 by exact zq2 ‹_› rfl)
      exact VN this (by decide)
     ·simp only [Qy,Qt];exact zq1 ‹_› rfl
     ·rw [Qy];exact Zm.mpr ‹_›
     ·have hi:((draw/7^t%(letL g' wish).length:Nat):Int)=(draw:Int)/7^t%((vS (letL g' wish)).length:Int):=by
       rw [Qy];push_cast;rfl
      rw [<-hi,if_neg (by exact zq6)]
     ·rw [Qx,pe];rfl
     ·have h0:=Yg ((draw:Int)/7^t) (b:=((vS (letL g' wish)).length:Int)) (by rw [Qy];lia)
      have h1:=Ze ((draw:Int)/7^t) (b:=((vS (letL g' wish)).length:Int)) (by rw [Qy];exact Zm.mpr ‹_›)
      rw [Qy]at h0 h1 ⊢
      lia
     ·generalize hq:vc g' wish draw t=q at pm pe q1 q2 q3 q4
      have hen:yd (pL g')=(Qj 5).map λu:Nat=>AV.tup [.int u,.str (tx (g' u))]:=rfl
      refine XS.cons (X1.map1t (V _ _) 0 (ys:=Qj 5) (fr:=[8,5]) (.of (by kernel_rfl)) room.deeper.1 (λu:Nat=>.int u) (λu=>.str (tx (g' u))) (λu=>.str (tx (vM g' q.2 u))) (hen▸PI.enumL room.deeper.1 (.b (G _ _) (J8 w) (J1 w)) (.v 0 rfl)) (λok C u hu=>?_) rfl ?_ (by decide))
      ·have hu5:=Qc hu
       have:=hl u hu5
       refine .as (.addT (x:=if q.2<=u/\u<=eP g' q.2 then [9]else []) (y:=g' u) (.ite (b:=decide ((q.2:Int)<=(u:Int))&&decide ((u:Int)<=(eP g' q.2:Int))) (.chain2 (.v 2 rfl) (.v 0 rfl) (.itemL (.list (.v 3 rfl)) (.v 2 rfl) q.2 (by rw [if_neg (by exact zq6)]) (gE q.2 q3) (by exact zq4 ‹_› rfl)) (jV .LtE rfl) (jV .LtE rfl)) (λh=>.as .str ?_) λh=>.as .str ?_) (.v 1 rfl) ?_) ?_
       ·rw [if_pos (by simp only [Vl,decide_eq_true_eq]at h;lia)];rfl
       ·rw [if_neg (by
         simp only [Bool.and_eq_false_iff,decide_eq_false_iff_not]at h;lia)];rfl
       ·split<;>simp [Qt]<;>lia
       ·unfold vM
        split<;>rfl
      ·refine XS.nil ⟨rfl,i7_4 (vM g' q.2) (Qf (.int t)) (Qf (.list (gL (jM g')))) (Qf (.list (iL (kA (jM g') 5)))) (Qf (.list (vS (letL g' wish)))) (Qf (.int q.1)) (Qf (.int q.2)) (by assumption) ?_ (λk hk=>?_) rfl⟩
       ·obtain⟨m,hm⟩:∃m,11-t=m+1:=⟨10-t,by exact zr37 ‹_›⟩
        have hm':11-(t+1)=m:=by exact zr2 ‹_›
        rw [hp,hm,hm']
        show(if letL g' wish=[]then _ else _)=_
        rw [if_neg hne,hq]
       ·have:=hl k hk
        unfold vM
        split
        ·simp only [QA];exact V4 ‹_›
        ·exact Xb ‹_›
   ·rw [hLL,Qy]
    have:=J2 g' wish
    simp only [Qt];exact zq1 ‹_› rfl
  ·(intro σ q_;refine e7_4 q_ ?_;clear q_;rintro g' z1 z2 z3 z4 z5 z6 ht hp hl rfl)
   refine XS.cons (X1.ret (.list .nil (by decide)) ?_)
   rw [Qy,Vu]at hp
   unfold qz
   rw [hp]
   rfl
theorem cal220{w:Ql}{prog:QI}{A:QO}{n:Nat}(room:Room (n+5) A)(g:Nat->List Nat)(wish:List Int)(draw:Nat)(hw:wish.length=5)(hg:∀k,k<5->(g k).length<=500)(hd:draw<=2^40) :
  Cal prog w (Bh w) A (.ref 220) [.list (pL g),.list (iL wish),.int draw] (.list (qz wish draw g)):=by
 (refine jc (d220 w) ?_;intro body D h)
 exact D.cal room rfl λL=>h A n prog g wish draw room hw hg hd L
theorem stack_b{M:Model}{A:QO}{E:Qe}{s:Qi}{Q:Bool->Qi->Prop}{f:List (Code×Pos)->Bool}(h:∀b,Q b s):Qo M A stack (λst s'=>Qo M A (pure (f st)) Q E s') E s:=wpAny_stack_any λ_=>Qn (h _)
open AutoSeq1 (wpAny_loadPart')
theorem zn(l:Qk)(items:Array Qm)(n:Nat)(dct:Option Qk)(sl:Array (Option Qm)) :
  Meets (Builtin.«enumerate.__new__» ⟨[.type "enumerate",.ref l],[]⟩) (λ_ R s=>s.heap.get? l=Qf { cls:=.type "tuple",dict:=dct,data:=.seq items n,slots:=sl } /\
   R (.ok (.ret (.ref (s.heap.push { cls:=.type "tuple_iterator",data:=.fields #[.ref l,.int 0 0] }).objs.size)))
    { s with heap:=(s.heap.push { cls:=.type "tuple_iterator",data:=.fields #[.ref l,.int 0 0] }).push { cls:=.type "enumerate",data:=.fields #[.none,.bool false,.ref s.heap.objs.size,rawInt 0,.none,.none] } }) :=
 .of_wp λprog w A R s h=>by
  obtain⟨hp,g,d,tk,os⟩:=s;(refine jw h ?_;intro hl h)
  have hsub:=sub_enumerate
  have hL:Heap.IsTuple (Shared.heap ⟨hp,g,d,tk,os⟩) l items:=⟨_,hl,rfl,n,rfl⟩
  wp_walk using wpAny_loadPart' hl
  refine stack_b λb=>?_
  cases b
  ·wp_walk using wpAny_loadPart' hl,wpAny_pyIter_tuple hL
   exact⟨_,rfl,h⟩
  ·wp_walk using wpAny_loadPart' hl,wpAny_pyIter_tuple hL
   exact⟨_,rfl,h⟩
section
variable {prog:QI} {w:Ql} {A:QO} {E:Qe} {s:Qi}
theorem JC{l:Qk}{items:Array Qm}{Q:Qe}(hL:s.heap.IsTuple l items)
  (h:∀h',IsEnum h' (s.heap.objs.size+1) s.heap.objs.size 0 .none->h'.IsTupleIter s.heap.objs.size l 0->h'.objs.size=s.heap.objs.size+2 ->
   (∀b o,s.heap.get? b=Qf o->h'.get? b=Qf o)->Q (.ref (s.heap.objs.size+1)) { s with heap:=h' }) :
  Qo (model prog w) A (call (.type "enumerate") [.ref l]) Q E s:=by
 obtain⟨⟨c,dct,dt,sl⟩,hl,hc,n,hd⟩:=hL
 replace hc:c=.type "tuple":=hc
 replace hd:dt=.seq items n:=hd
 subst hc hd
 refine callType_new F.called_enumerate (by decide) (F.typeCall_enumerate_1 _) (F.newCall_enumerate_1 _) (λobj=>F.args_object_init_2 obj _) F.entry_enumerate_new
  (zn l items n dct sl) ⟨hl,?_⟩
 have hz:(s.heap.push { cls:=.type "tuple_iterator",data:=.fields #[.ref l,.int 0 0] }).objs.size=s.heap.objs.size+1:=Xn ..
 show _/\_
 rw [hz]
 have he:IsEnum ((s.heap.push { cls:=.type "tuple_iterator",data:=.fields #[.ref l,.int 0 0] }).push
   { cls:=.type "enumerate",data:=.fields #[.none,.bool false,.ref s.heap.objs.size,rawInt 0,.none,.none] }) (s.heap.objs.size+1) s.heap.objs.size 0 .none:=by
  have:=Qs (s.heap.push { cls:=.type "tuple_iterator",data:=.fields #[.ref l,.int 0 0] })
   (o:={ cls:=.type "enumerate",data:=.fields #[.none,.bool false,.ref s.heap.objs.size,rawInt 0,.none,.none] }) rfl
  rw [hz]at this;exact this
 refine⟨⟨_,he,rfl⟩,h _ he ⟨_,XN _ (Qs _ rfl),rfl,rfl⟩ (by rw [Xn,hz]) λb o x=>XN _ (XN _ x)⟩
theorem Js{it t:Qk}{i:Nat}{items}{x:Qm}{Q:Qe}(hit:s.heap.IsTupleIter it t i)
  (ht:s.heap.IsTuple t items) (hx:items[i]?=Qf x)
  (hQ:∀h',h'.IsTupleIter it t (i+1)->V9 it s.heap h'->Q x { s with heap:=h' }) :
  Qo (model prog w) A (Ye (.ref it)) Q E s:=by
 (refine ye (id hit) ?_;intro o ho hc hd)
 obtain⟨ol,hol,_,nl,hdl⟩:=ht
 unfold Ye
 refine Qh (wpAny_callSpecial?_slot (name:=QM "__next__") hit.typeIs Y9
  (wpAny_call_entry Y9 hit.typeIs F.entry_tuple_iterator_next ?_ (F.args_tuple_iterator_next_1 _)))
 show Qo _ _ (field (.ref it) 0 >>= _) _ _ s
 refine Qh (wpAny_field ho hd (x:=.ref t) rfl ?_)
 show Qo _ _ (if(VW t==Value.none)=true then _ else _) _ _ s
 rw [if_neg (show ¬((VW t==Value.none)=true)from Bool.false_ne_true)]
 show Qo _ _ (field (.ref it) 1 >>= _) _ _ s
 refine Qh (wpAny_field ho hd (x:=.int i 0) rfl ?_)
 show Qo _ _ (seqItems? (.ref t) >>= _) _ _ s
 refine Qh (wpAny_seqItems hol hdl ?_)
 simp only [Int.toNat_natCast,hx]
 refine Qh (wpAny_setField ho hd (Vr _) (Qn ⟨x,rfl,Qn (hQ _ ?_ (VH ..))⟩))
 exact⟨_,VP _ ho (Obj.isFreed_of_fields (Obj.data_mapFields hd _)),(Obj.cls_mapFields ..).trans hc,by
  rw [Obj.data_mapFields hd];simp [rawInt]⟩
theorem Kh{it t:Qk}{i:Nat}{items}{Q:Qe}(hh:A.handled=Qg)
  (hit:s.heap.IsTupleIter it t i) (ht:s.heap.IsTuple t items) (hx:items[i]?=Qg)
  (hE:∀h' e,Heap.ExtBut it s.heap h'->(∃o,h'.get? e=Qf o/\o.cls=.type "StopIteration")->E (.ref e) { s with heap:=h' }) :
  Qo (model prog w) A (Ye (.ref it)) Q E s:=by
 (refine ye (id hit) ?_;intro o ho hc hd)
 obtain⟨ol,hol,_,nl,hdl⟩:=ht
 unfold Ye
 refine Qh (wpAny_callSpecial?_slot (name:=QM "__next__") hit.typeIs Y9
  (wpAny_call_entry Y9 hit.typeIs F.entry_tuple_iterator_next ?_ (F.args_tuple_iterator_next_1 _)))
 show Qo _ _ (field (.ref it) 0 >>= _) _ _ s
 refine Qh (wpAny_field ho hd (x:=.ref t) rfl ?_)
 show Qo _ _ (if(VW t==Value.none)=true then _ else _) _ _ s
 rw [if_neg (show ¬((VW t==Value.none)=true)from Bool.false_ne_true)]
 show Qo _ _ (field (.ref it) 1 >>= _) _ _ s
 refine Qh (wpAny_field ho hd (x:=.int i 0) rfl ?_)
 show Qo _ _ (seqItems? (.ref t) >>= _) _ _ s
 refine Qh (wpAny_seqItems hol hdl ?_)
 simp only [Int.toNat_natCast,hx]
 refine Qh (wpAny_rule (Qh (wpAny_setField ho hd (Vn _) ?_)))
 show Qo _ _ (newExc (.type "StopIteration") [] >>= _) _ _ _
 refine Qh ?_
 simp only [newExc,newTuple]
 refine Qh (V1 ?_ (by size_fits))
 refine Qh (m:=firstArgMember _ _) (Vs (a:=Value.none) (by first | rfl | (simp only [firstArgMember];rfl)) ?_)
 refine V1 ?_ (by size_fits)
 show Qo _ _ (handled >>= _) _ _ _
 refine Qh (wpAny_handled ?_)
 first | rw [show A.in1.handled=Qg from hh] | rw [hh]
 refine Qh (Qn (Zj ?_))
 exact hE _ _ (((VH ..).extBut.push _).push _) ⟨_,Qs _ rfl,rfl⟩
end
theorem drawsT{prog:QI}{w:Ql}{A:QO}(hh:A.handled=Qg)(it l:Qk)(hne:l≠it)(items:Array Qm) :
  Draws prog w A it [it,l] items.size (λi v=>items[i]?=Qf v) (λi h=>h.IsTupleIter it l i/\h.IsTuple l items) where
 live:=λ_ _ st=>let ⟨o,ho,_⟩:=st.1;⟨o,ho⟩
 frame:=λ_ _ _ st hk=>⟨st.1.at λo e=>hk it (.head _) o e,let ⟨o,e,r⟩:=st.2;⟨o,hk l (.tail _ (.head _)) o e,r⟩⟩
 item:=λi s Q E hi st hQ=>by
  refine Js st.1 st.2 (x:=items[i]) (by simp [hi]) λh' hit' hs'=>?_
  exact hQ _ h' s.toks (by simp [hi]) ⟨hit',st.2.extBut hs'.extBut hne⟩ hs'
 done:=λs Q E st hE=>Kh hh st.1 st.2 (by simp) hE
section
variable {c:Ct}
theorem yO{es:List Expr}{k:Nat}{tp:Pos}{xs:List AV}{Y:List Qk}{s s₂:Qi}{u:Qm}{E:Qe}{Q:Qe}(hh:c.A.handled=Qg)(k₂:Vb s s₂)(x₂:c.At Y s₂)(r₂:Rep (hid (c.X++Y) s₂.heap) (.tup xs) u)
  (h:∀I W (St:List Qk->Nat->QU->Prop) (Mid:List Qk->Nat->Qm->QU->Prop) s',Vb s s'->(∀b∈W,s.heap.get? b=Qg/\∃o,s'.heap.get? b=Qf o)->(∀H',okH (c.X++Y) W s'.heap H'->Itr c.prog c.w c.A (.Tuple es k tp) H' W I (yd xs) (St H') (Mid H')/\St H' 0 s'.heap)->1<=s'.toks->Q (.ref I) s') :
  Qo c.M c.A (call (.type "enumerate") [u]) (λx s₁=>Qo c.M c.A (pyIter x) Q E s₁) E s₂:=by
 (refine xl (kJ r₂) ?_;rintro l ob vs n rfl ho hcl hda hr)
 have hsz:vs.size=xs.length:=by rw [<-hr.length];simp
 refine JC ⟨_,j9 ho,hcl,n,hda⟩ λh' hen hit hz hk=>YI hen ?_
 have kk:Vb s₂ { s₂ with heap:=h' }:=ja hk
 generalize hI:s₂.heap.objs.size+1=I at hen
 generalize hJ:s₂.heap.objs.size=J at hen hit hI
 have hIJ:I≠J:=by lia
 have lJ:l<J:=hJ▸jg (j9 ho)
 have neI:∀ {b:Qk},b<J->b≠I/\b≠J:=λ{b} hb=>⟨λe=>Nat.lt_asymm hb (by rw [e,<-hI];exact Yu _),QR hb⟩
 have nl:∀H',okH (c.X++Y) [I,J] h' H'->l∉H':=λH' hH m=>by
  rcases hH.2 l m with m | m | m
  ·unfold hid at ho;rw [if_pos m]at ho;exact no1 ho
  ·simp only [QD,QG,or_false]at m
   rcases m with m | m
   ·exact(neI lJ).1 m
   ·exact(neI lJ).2 m
  ·rw [hk _ _ (j9 ho)]at m;exact no2 m
 have hI':(∃o,h'.get? I=Qf o)/\∃o,h'.get? J=Qf o:=⟨⟨_,hen⟩,let ⟨o,e,_⟩:=hit;⟨o,e⟩⟩
 refine h I [I,J] (λH i g=>(∃old,IsEnum g I J i old)/\g.IsTupleIter J l i/\g.IsTuple l vs/\Reps (hid H g) xs vs.toList)
  (λH i v g=>∃T x,v=.ref T/\IsEnumOut g I J ((i:Int)+1) x T/\g.IsTupleIter J l (i+1)/\g.IsTuple l vs/\Reps (hid H g) xs vs.toList) _ (ktr k₂ kk) (λb hb=>?_) (λH hH=>⟨?_,⟨_,hen⟩,hit,⟨_,hk _ _ (j9 ho),hcl,n,hda⟩,?_⟩) x₂.tk
 ·have dead:∀b,J<=b->s.heap.get? b=none:=λb hb=>by
   cases e:s.heap.get? b with
   | none=>rfl
   | some o=>exact absurd (hJ▸jg (jr k₂ _ _ e)) (VS.mpr hb)
  simp only [QD,QG,or_false]at hb
  rcases hb with rfl | rfl
  ·exact⟨dead _ (hI▸YO _),hI'.1⟩
  ·exact⟨dead _ (Vr _),hI'.2⟩
 ·have hl:=nl H hH
  have hIH:I∈H:=hH.1 I (.inr (.head _))
  have hJH:J∈H:=hH.1 J (.inr (.tail _ (.head _)))
  refine⟨λi g g' st le kw=>?_,λi g st b hb=>?_,λi av s Q E hi st lv hQ=>?_,λi av v s Q E mid r hQ=>?_,λs Q E st hQ=>?_,λi s Q E st hQ=>?_⟩
  ·refine e0_4 st ?_;clear st;rintro⟨old,a⟩ b ⟨o,d,d'⟩ r
   exact⟨⟨old,kw I (.head _) _ a⟩,b.at λo x=>kw J (.tail _ (.head _)) o x,⟨o,j9 (le l o (jl d hl)),d'⟩,r.mono le⟩
  ·(refine xE st ?_;clear st;rintro⟨old,a⟩⟨o,b,_⟩ _)
   simp only [QD,QG,or_false]at hb
   rcases hb with rfl | rfl
   ·exact⟨_,a⟩
   ·exact⟨_,b⟩
  ·(refine jw (Jh hi) ?_;rintro hi1 rfl)
   refine e0_4 st ?_;clear st;rintro⟨old,a⟩ b d r
   have hx:vs[i]?=Qf vs[i]:=VY (by exact JI ‹_› ‹_›)
   (refine jc (r.get (i:=i) (a:=xs.getD i .none) (by rw [QL,Qu hi1];rfl)) ?_;intro u hu ru)
   have hu':u=vs[i]:=by rw [Vi,hx]at hu;exact(oi hu).symm
   subst hu'
   have lne:l≠J:=λq=>hl (q▸hJH)
   have hiv:i<vs.size:=by exact JI ‹_› ‹_›
   refine wpAny_pyNext_enum_itemD (drawsT (prog:=c.prog) (w:=c.w) (A:=c.A.in1) hh J l lne vs) a ⟨b,d⟩ hiv hIJ (λq=>by simp only [QD,QG,or_false]at q;rcases q with q | q;exact hIJ q;exact hl (q▸hIH)) λx h₃ tk₃ hPx ho₃ hSt hT hz₃ hk₃=>?_
   obtain rfl:vs[i]=x:=oi (hx.symm.trans hPx)
   have hit₃:=hSt.1
   have le₃:Le (hid H s.heap) (hid H h₃):=λb o e=>by
    have nb:b∉H:=λm=>by unfold hid at e;rw [if_pos m]at e;exact no1 e
    exact jl (hk₃ b o (λq=>nb (q▸hIH)) (λq=>nb (q▸hJH)) (j9 e)) nb
   (refine jc d ?_;intro o d1 d2)
   refine hQ _ h₃ _ ⟨_,_,rfl,ho₃,hit₃,⟨o,j9 (le₃ l o (jl d1 hl)),d2⟩,r.mono le₃⟩ ?_ λb o hb e=>hk₃ b o (λq=>hb (q▸.head _)) (λq=>hb (q▸.tail _ (.head _))) e
   show Exists _
   refine⟨_,_,_,0,rfl,jl hT (λm=>?_),rfl,rfl,.cons v7 (.cons (ru.mono le₃) .nil)⟩
   (refine jd (lv _ m) ?_;intro o' e)
   rw [jm]at e;exact no1 e
  ·refine e2_5 mid ?_;clear mid;rintro T x rfl a b ⟨o,d1,d2⟩ rr
   refine wpAny_letOwnedTupleGo_enum a λh₃ he₃ hs₃=>?_
   have same:hid H h₃=hid H s.heap:=jD λb hb=>hs₃.2 b λq=>hb (q▸hIH)
   refine hQ h₃ ⟨⟨x,by simpa using he₃⟩,b.at λo y=>(hs₃.2 J hIJ.symm).trans y,⟨o,(hs₃.2 l λq=>hl (q▸hIH)).trans d1,d2⟩,by rw [same];exact rr⟩ (by rw [same];exact r) λb o hb e=>(hs₃.2 b λq=>hb (q▸.head _)).trans e
  ·refine e0_4 st ?_;clear st;rintro⟨old,a⟩ b d r
   rw [Qy,Vu]at a b
   rw [<-hsz]at a b
   have lne:l≠J:=λq=>hl (q▸hJH)
   exact wpAny_pyNext_enum_endD (drawsT (prog:=c.prog) (w:=c.w) (A:=c.A.in1) hh J l lne vs) a ⟨b,d⟩ λh₃ hx=>hQ h₃ _ λb o hb e=>hx b o (λq=>hb (q▸.tail _ (.head _))) e
  ·(refine jw st ?_;clear st;rintro⟨old,a⟩ _)
   exact YI a hQ
 ·exact hr.mono λb o e=>jl (hk _ _ (j9 e)) λm=>by
   have nb:b∉c.X++Y:=λm=>by unfold hid at e;rw [if_pos m]at e;exact no1 e
   rcases hH.2 b m with m | m | m
   ·exact nb m
   ·have hb:b<J:=hJ▸jg (j9 e)
    simp only [QD,QG,or_false]at m
    rcases m with m | m
    ·exact(neI hb).1 m
    ·exact(neI hb).2 m
   ·rw [hk _ _ (j9 e)]at m;exact no2 m
theorem PI.enumT{es:List Expr}{k:Nat}{tp pos:Pos}{f e:Expr}{xs:List AV}(hh:c.A.handled=Qg)(p:PE c f (.raw (.type "enumerate")))(q:PE c e (.tup xs))
  (hs:Qv [e] c.env=[(false,eval e c.env)]:=by rfl)
  (he:eval (.Call f [e] [] pos) c.env=(do VL pos (<-eval f c.env) [] (VO pos (Qv [e] c.env)) (VE pos (V3 [] c.env))):=by rfl):PI c (.Tuple es k tp) (.Call f [e] [] pos) (yd xs):=λY s E Q x₀ h=>by
 rw [he,hs]
 refine Qh (p.use x₀ λv s₁ k₁ x₁ r₁=>?_)
 obtain rfl:=jb r₁
 refine X7 (first:=[]) rfl (je rfl (Qq (q.use x₁ λu s₂ k₂ x₂ r₂=>QK ?_)))
 exact yO hh (ktr k₁ k₂) x₂ r₂ h
end
noncomputable abbrev F225(w:Ql):FuncData:=vx (o_238 w.params)
noncomputable abbrev m225:List Qd:=["cells","one","two","draw","k","own","other","signs","numbers","names","hand","row","text","pages","read","words","first","wishes","nearer","b","a","third","leads","lines","tail","wish","depths","last","pairs","due"]
noncomputable abbrev p225:List Qd:=["script"]
noncomputable abbrev v225:List Qd:=p225++m225
theorem jL(w:Ql):Names (F225 w) v225:=.of (by kernel_rfl)
theorem b_225(w:Ql):(Bh w).get? 225=Qf (o_238 w.params):=by kernel_rfl
theorem d225(w:Ql):∃body,Df (Bh w) 225 (o_238 w.params) (F225 w) body p225 m225/\(F225 w).body=.stmts body:=by
 refine⟨_,⟨b_225 w,rfl,rfl,rfl,ji (by kernel_rfl),jL w,λvs h=>?_⟩,rfl⟩
 (refine jd (jQ h) ?_;rintro u rfl);rfl
noncomputable def KG(st:XM):List Stmt:=if h:st.ctorIdx=9 then Stmt.For.elim (motive_2:=λ_=>List XM) st h λ_ _ b _ _=>b else []
noncomputable abbrev stL(w:Ql)(i:Nat):Stmt:=(bodyOf (F225 w)).getD i (.Pass ⟨0,0,0,0⟩)
noncomputable abbrev ouL(w:Ql)(i:Nat):Stmt:=(KG (stL w 20)).getD i (.Pass ⟨0,0,0,0⟩)
noncomputable abbrev inL(w:Ql)(i:Nat):Stmt:=(KG (ouL w 2)).getD i (.Pass ⟨0,0,0,0⟩)
section
variable {c:Ct}
noncomputable def vw(l:List Int)(i j k:Option Int):List Int:=(YN (Vg i j k l.length).1 (Vg i j k l.length).2.1 (Vg i j k l.length).2.2).filterMap (l[·]?)
theorem PE.slc3{e lo hi st:Expr}{p pos:Pos}{l:List Int}{i j k:Int}(q:PSq c e "list" (iL l))(qi:PE c lo (.int i))(qj:PE c hi (.int j))(qk:PE c st (.int k))(h0:k≠0)(hz:l.length<=Qt):PE c (.Subscript e (.Slice (Qf lo) (Qf hi) (Qf st) p) pos) (.list (iL (vw l (Qf i) (Qf j) (Qf k)))):=λY s E x =>
 qu slot_list_getitem.lookup (q s E _ x λa vs s₁ k₁ x₁ ho hr=>wpAny_Slice ((PP.some qi).use x₁ λvi s₂ k₂ x₂ pi=>(PP.some qj).use x₂ λvj s₃ k₃ x₃ pj=>(PP.some qk).use x₃ λvk s₄ k₄ x₄ pk=>by
  (refine jW ho ?_;intro o n h1 h2 h3)
  have hL:s₄.heap.IsList a vs:=⟨o,jr (ktr k₂ (ktr k₃ k₄)) _ _ h1,h2,n,h3⟩
  have hlen:vs.size=l.length:=by have:=hr.length;simp at this;assumption
  refine⟨(hL.push _).typeIs,wpAny_getItem_list_slice (hL.push _) (Heap.IsSliceOf.new ..) pi pj pk (by simpa using h0) ?_ (hlen▸hz)⟩
  have kk:Vb s₄ { s₄ with heap:=(s₄.heap.push { cls:=.type "slice",data:=.fields #[vi,vj,vk] }).push { cls:=.type "list",data:=.seq (Zx vs (Qf i) (Qf j) (Qf k)) } }:=ja λb o e=>j7 b o (j7 b o e)
  have lv:∀z∈c.X++Y,∃o,(s₄.heap.push { cls:=.type "slice",data:=.fields #[vi,vj,vk] }).get? z=Qf o:=λz hz=>((x₄.live z hz).imp λo e=>j7 _ _ e)
  refine⟨ktr k₁ (ktr k₂ (ktr k₃ (ktr k₄ kk))),?_⟩
  show Exists _
  refine⟨_,Zx vs (Qf i) (Qf j) (Qf k),0,rfl,kx lv rfl,?_⟩
  have:=(hr.mono (ju (jr (ktr k₂ (ktr k₃ (ktr k₄ kk)))))).pick (YN (Vg (Qf i) (Qf j) (Qf k) l.length).1 (Vg (Qf i) (Qf j) (Qf k) l.length).2.1 (Vg (Qf i) (Qf j) (Qf k) l.length).2.2)
  have e:(Zx vs (Qf i) (Qf j) (Qf k)).toList=(YN (Vg (Qf i) (Qf j) (Qf k) l.length).1 (Vg (Qf i) (Qf j) (Qf k) l.length).2.1 (Vg (Qf i) (Qf j) (Qf k) l.length).2.2).filterMap (vs.toList[·]?):=by
   unfold Zx;rw [hlen];simp
  have e2:iL (vw l (Qf i) (Qf j) (Qf k))=(YN (Vg (Qf i) (Qf j) (Qf k) l.length).1 (Vg (Qf i) (Qf j) (Qf k) l.length).2.1 (Vg (Qf i) (Qf j) (Qf k) l.length).2.2).filterMap ((iL l)[·]?):=by
   simp only [iL,vw,List.map_filterMap,Qx]
  rw [e,e2];exact this))
end
theorem g_sum(w:Ql):mg w "sum"=none:=by kernel_rfl
theorem m_sum(w:Ql):mb w "sum"=Qf (.builtin "sum"):=by kernel_rfl
noncomputable def zE(j:Nat):Int:=([11,31,388,87,215]:List Int).getD j 0
noncomputable def cellOf(sc:List Int)(j:Nat):Int:=zE j+((vw sc (Qf j) (Qf 60) (Qf 5)).map (·%5040)).sum
noncomputable abbrev LC(w:Ql)(prog:QI)(A:QO)(L:Qk)(σ:List (Option AV)):Ct:=cx (F225 w) 225 v225 prog w A L [] σ
theorem xR(l:List Int)(u:Nat):(vw l (Qf u) (Qf 60) (Qf 5)).length<=12:=by
 refine Qp (List.length_filterMap_le _ _) ?_
 simp only [YN,Vg,Qy,Vu,Option.getD_some]
 have h1:¬((u:Int)<0):=by exact zq6
 have h2:¬((60:Int)<0):=by decide
 have h3:(5:Int)>0:=by decide
 simp only [h1,h2,h3,if_false,if_true]
 have h4:max (0:Int) (min 60 (l.length:Int))<=60:=Int.max_le.mpr ⟨by decide,Int.min_le_left _ _⟩
 have h5:0<=max (0:Int) (min (u:Int) (l.length:Int)):=Int.le_max_left _ _
 generalize max (0:Int) (min 60 (l.length:Int))=b at *
 generalize max (0:Int) (min (u:Int) (l.length:Int))=a at *
 split<;>lia
theorem l0(w:Ql):∀prog A n L (sc:List Int),Room (n+1) A->sc.length<=63 ->
  X1 (LC w prog A L [Qf (.list (iL sc)),Qg,Qg,Qg,Qg,Qg,Qg,Qg,Qg,Qg,Qg,Qg,Qg,Qg,Qg,Qg,Qg,Qg,Qg,Qg,Qg,Qg,Qg,Qg,Qg,Qg,Qg,Qg,Qg,Qg,Qg]) (stL w 0)
   (λo=>o=.nx [] [Qf (.list (iL sc)),Qf (.list (iL ((Qj 5).map (cellOf sc)))),Qg,Qg,Qg,Qg,Qg,Qg,Qg,Qg,Qg,Qg,Qg,Qg,Qg,Qg,Qg,Qg,Qg,Qg,Qg,Qg,Qg,Qg,Qg,Qg,Qg,Qg,Qg,Qg,Qg]):=by
 refine λprog A n L sc room hsc=>?_
 have V:=(jL w).cV (a:=225) (prog:=prog) (w:=w) (A:=A) (L:=L)
 have G:=(jL w).cG (a:=225) (w:=w) (prog:=prog) (L:=L) room rfl rfl
 refine X1.assign (V _ _) 1 rfl (.map1t (ys:=Qj 5) (fr:=[0]) (.of (by kernel_rfl)) room.deeper.1 (λu:Nat=>.int u) (λu=>.int (zE u)) (λu=>.int (cellOf sc u)) (PI.enumT (xs:=[.int 11,.int 31,.int 388,.int 87,.int 215]) room.deeper.1 (.b (G _ _) (J8 w) (J1 w)) (.tup (.cons .int (.cons .int (.cons .int (.cons .int (.cons .int .nil))))) (by decide))) (λok C u hu=>?_) (by decide)) rfl
 have G1:=(G _ _).cc ok C [Qf (.int u),Qf (.int (zE u))]
 refine(PE.add (.v 1 rfl) (.callB (.b G1 (g_sum w) (m_sum w)) (.cons (?_:PE _ _ (.list (iL ((vw sc (Qf (u:Int)) (Qf 60) (Qf 5)).map (·%5040))))) .nil) (KY room.deeper.1))).as rfl
 have e1:iL ((vw sc (Qf (u:Int)) (Qf 60) (Qf 5)).map (·%5040))=(vw sc (Qf (u:Int)) (Qf 60) (Qf 5)).map λx=>AV.int (x%5040):=by simp [iL]
 rw [e1]
 refine .map1 (fr:=[]) (.of (by kernel_rfl)) (λx:Int=>.int x) (λx=>.int (x%5040)) (.list room.deeper.1 (.slc3 (.list (.v 2 rfl)) (.v 0 rfl) .int .int (by decide) (by rw [QV];exact zq1 ‹_› rfl))) (λok' C' x hx=>.mod (.v 0 rfl) .int (by decide)) ?_
 have:=xR sc u
 rw [QV];exact zq1 ‹_› rfl
theorem g_183(w:Ql):mg w "_law_depths"=Qf (.ref 183):=by kernel_rfl
theorem b_183(w:Ql):(Bh w).get? 183=Qf (o_196 w.params):=by kernel_rfl
noncomputable abbrev kL(ks:Nat->Int):AV:=.list (iL ((Qj 5).map ks))
theorem vW(ks:Nat->Int){k:Nat}(h:k<5):(iL ((Qj 5).map ks))[k]?=Qf (.int (ks k)):=by simp [iL,h]
noncomputable def ownL(k:Int)(l:List Nat):List Int:=l.map λj=>k/3^j%3
theorem l1(w:Ql):∀prog A n L (sc:AV) (ks:Nat->Int),Room (n+2) A ->
  X1 (LC w prog A L [Qf sc,Qf (kL ks),Qg,Qg,Qg,Qg,Qg,Qg,Qg,Qg,Qg,Qg,Qg,Qg,Qg,Qg,Qg,Qg,Qg,Qg,Qg,Qg,Qg,Qg,Qg,Qg,Qg,Qg,Qg,Qg,Qg]) (stL w 1)
   (λo=>o=.nx [] [Qf sc,Qf (kL ks),Qf (.list (iL (kq (ks 0)))),Qf (.list (iL (kq (ks 1)))),Qf (.int (ks 4)),Qg,Qg,Qg,Qg,Qg,Qg,Qg,Qg,Qg,Qg,Qg,Qg,Qg,Qg,Qg,Qg,Qg,Qg,Qg,Qg,Qg,Qg,Qg,Qg,Qg,Qg]):=by
 refine λprog A n L sc ks room=>?_
 have V:=(jL w).cV (a:=225) (prog:=prog) (w:=w) (A:=A) (L:=L)
 have G:=(jL w).cG (a:=225) (w:=w) (prog:=prog) (L:=L) room rfl rfl
 refine X1.tupA (V _ _) room.deeper.1 (.cons 2 rfl (.cons 3 rfl (.cons 4 rfl .nil))) (.tup (.cons (.callF (.g (G _ _) (g_183 w)) (.cons (.itemL (.list (.v 1 rfl)) .int 0 rfl (vW ks (by decide)) (by decide)) .nil) (b_183 w) rfl (cal183 room.deeper _)) (.cons (.callF (.g (G _ _) (g_183 w)) (.cons (.itemL (.list (.v 1 rfl)) .int 1 rfl (vW ks (by decide)) (by decide)) .nil) (b_183 w) rfl (cal183 room.deeper _)) (.cons (.itemL (.list (.v 1 rfl)) .int 4 rfl (vW ks (by decide)) (by decide)) .nil))) (show 3<=Qt by decide)) rfl
theorem pow3:∀k:Nat,k<6->((3:Int)^k).natAbs<1073741824/\(YW 3:Int)*k<=2^27/\0<(3:Int)^k:=by decide +kernel
theorem own_pe{c:Ct}{sc:Scope}{cl:List (Qd×Qk)}{l:List Nat}{ks:Nat->Int}{es:List Expr}{p1 p2 p3 p4 p5 p6 p7 p8 p9 p10 p11 p12:Pos}{k1 k2 k3 k4:Nat}(ok:CmOk c sc ["k"] [1] cl)(hh:c.A.handled=Qg)(hv:c.vars[1]?=Qf ("cells" : Qd))(hσ:c.σ[1]?=Qf (Qf (kL ks)))(hl:∀k∈l,k<6)(hz:l.length<=6)(he:PE c (.Tuple es k4 p10) (.tup (l.map λk:Nat=>.int k)))
  (hs:∀x,QN (.Tuple es k4 p10) c.env x=pure x:=by intro _;rfl) :
  PE c (.ListComp (.BinOp (.BinOp (.Subscript (.Name "cells" p1) (.Constant (.int 2) k1 p2) p3) .FloorDiv (.BinOp (.Constant (.int 3) k2 p4) .Pow (.Name "k" p5) p6) p7) .Mod (.Constant (.int 3) k3 p8) p9) [⟨.Name "k" p11,.Tuple es k4 p10,[],0⟩] sc p12) (.list (iL (ownL (ks 2) l))):=by
 have e1:iL (ownL (ks 2) l)=l.map λk=>AV.int (ks 2/3^k%3):=by simp [iL,ownL]
 rw [e1]
 refine .map1 ok (λk:Nat=>.int k) (λk=>.int (ks 2/3^k%3)) (.tup hh he) (λok C k hk=>?_) (by rw [QV];exact zq1 ‹_› rfl) hs
 (refine xE (pow3 k (hl k hk)) ?_;intro h1 h2 h3)
 refine .mod (.div (.itemL (.list (.var 1 ok.kind ?_ ?_ (by decide) (by decide))) .int 2 rfl (vW ks (by decide)) (by decide)) (.pow .int (.var 0 ok.kind rfl rfl (by decide) (by decide)) h2) h3 (VM h1)) .int (by decide)
 ·show Qf (c.vars.getD 1 _)=Qf _
  rw [QL,hv];rfl
 ·show Qf (c.σ.getD 1 _)=Qf _
  rw [QL,hσ];rfl
theorem l2(w:Ql):∀prog A n L (sc one two draw:AV) (ks:Nat->Int),Room (n+2) A ->
  X1 (LC w prog A L [Qf sc,Qf (kL ks),Qf one,Qf two,Qf draw,Qg,Qg,Qg,Qg,Qg,Qg,Qg,Qg,Qg,Qg,Qg,Qg,Qg,Qg,Qg,Qg,Qg,Qg,Qg,Qg,Qg,Qg,Qg,Qg,Qg,Qg]) (stL w 2)
   (λo=>o=.nx [] [Qf sc,Qf (kL ks),Qf one,Qf two,Qf draw,Qg,Qf (.list (iL (ownL (ks 2) [0,1,2]))),Qf (.list (iL (ownL (ks 2) [3,4,5]))),Qg,Qg,Qg,Qg,Qg,Qg,Qg,Qg,Qg,Qg,Qg,Qg,Qg,Qg,Qg,Qg,Qg,Qg,Qg,Qg,Qg,Qg,Qg]):=by
 refine λprog A n L sc one two draw ks room=>?_
 have V:=(jL w).cV (a:=225) (prog:=prog) (w:=w) (A:=A) (L:=L)
 have G:=(jL w).cG (a:=225) (w:=w) (prog:=prog) (L:=L) room rfl rfl
 refine X1.tupA (V _ _) room.deeper.1 (.cons 6 rfl (.cons 7 rfl .nil)) (.tup (.cons (own_pe (l:=[0,1,2]) (.of (by kernel_rfl)) room.deeper.1 rfl rfl (by decide) (by decide) (.tup (.cons .int (.cons .int (.cons .int .nil))) (show 3<=Qt by decide))) (.cons (own_pe (l:=[3,4,5]) (.of (by kernel_rfl)) room.deeper.1 rfl rfl (by decide) (by decide) (.tup (.cons .int (.cons .int (.cons .int .nil))) (show 3<=Qt by decide))) .nil)) (show 2<=Qt by decide)) rfl
noncomputable def signsL:List (List Nat):=[[43],[45],[42],[47],[124],[38],[60],[62],[61],[46],[37],[123],[125],[61,61],[33,61],[60,61],[62,61],[126],[94],[60,60],[62,62],[42,42],[43,61],[45,61],[42,61],[47,61],[37,61],[38,61],[124,61],[94,61],[60,60,61],[62,62,61],[42,42,61],[47,47],[47,47,61],[64],[64,61],[45,62],[46,46,46],[58,61],[33]]
noncomputable def xk(ks:Nat->Int)(k:Nat):Int:=14+(ks 3/15+11*k)%41
noncomputable def nmK(ks:Nat->Int)(k:Nat):List Nat:=signsL.getD (xk ks k-14).toNat []
theorem num_ok(ks:Nat->Int)(k:Nat):14<=xk ks k/\xk ks k<55:=by unfold xk;lia
noncomputable abbrev nmL(ks:Nat->Int):AV:=.list (tL ((Qj 5).map (nmK ks)))
theorem l3(w:Ql):∀prog A n L (sc one two draw own other:AV) (ks:Nat->Int),Room (n+2) A ->
  X1 (LC w prog A L [Qf sc,Qf (kL ks),Qf one,Qf two,Qf draw,Qg,Qf own,Qf other,Qg,Qg,Qg,Qg,Qg,Qg,Qg,Qg,Qg,Qg,Qg,Qg,Qg,Qg,Qg,Qg,Qg,Qg,Qg,Qg,Qg,Qg,Qg]) (stL w 3)
   (λo=>o=.nx [] [Qf sc,Qf (kL ks),Qf one,Qf two,Qf draw,Qg,Qf own,Qf other,Qf (.list (tL signsL)),Qg,Qg,Qg,Qg,Qg,Qg,Qg,Qg,Qg,Qg,Qg,Qg,Qg,Qg,Qg,Qg,Qg,Qg,Qg,Qg,Qg,Qg]):=by
 refine λprog A n L sc one two draw own other ks room=>?_
 have V:=(jL w).cV (a:=225) (prog:=prog) (w:=w) (A:=A) (L:=L)
 have G:=(jL w).cG (a:=225) (w:=w) (prog:=prog) (L:=L) room rfl rfl
 refine X1.assign (V _ _) 8 rfl ((PE.split .str .str (by kernel_rfl) (by decide +kernel) (by decide +kernel)).as ?_) rfl
 kernel_rfl
theorem l4(w:Ql):∀prog A n L (sc one two draw own other:AV) (ks:Nat->Int),Room (n+2) A ->
  X1 (LC w prog A L [Qf sc,Qf (kL ks),Qf one,Qf two,Qf draw,Qg,Qf own,Qf other,Qf (.list (tL signsL)),Qg,Qg,Qg,Qg,Qg,Qg,Qg,Qg,Qg,Qg,Qg,Qg,Qg,Qg,Qg,Qg,Qg,Qg,Qg,Qg,Qg,Qg]) (stL w 4)
   (λo=>o=.nx [] [Qf sc,Qf (kL ks),Qf one,Qf two,Qf draw,Qg,Qf own,Qf other,Qf (.list (tL signsL)),Qf (.list (iL ((Qj 5).map (xk ks)))),Qg,Qg,Qg,Qg,Qg,Qg,Qg,Qg,Qg,Qg,Qg,Qg,Qg,Qg,Qg,Qg,Qg,Qg,Qg,Qg,Qg]):=by
 refine λprog A n L sc one two draw own other ks room=>?_
 have V:=(jL w).cV (a:=225) (prog:=prog) (w:=w) (A:=A) (L:=L)
 have G:=(jL w).cG (a:=225) (w:=w) (prog:=prog) (L:=L) room rfl rfl
 have e1:iL ((Qj 5).map (xk ks))=(Qj 5).map λk=>AV.int (xk ks k):=by simp [iL]
 rw [e1]
 refine X1.map1 (V _ _) 9 (fr:=[1]) (.of (by kernel_rfl)) (λk:Nat=>.int k) (λk=>.int (xk ks k)) (.rng1 5 room.deeper.1 (.b (G _ _) (jz w) (jy w)) .int (by decide)) (λok C k hk=>?_) rfl rfl (by decide)
 exact .add .int (.mod (.add (.div (.itemL (.list (.v 1 rfl)) .int 3 rfl (vW ks (by decide)) (by decide)) .int (by decide) (VM (by decide))) (.mul .int (.v 0 rfl) (Kj (by decide)))) .int (by decide))
theorem l5(w:Ql):∀prog A n L (sc one two draw own other:AV) (ks:Nat->Int),Room (n+2) A ->
  X1 (LC w prog A L [Qf sc,Qf (kL ks),Qf one,Qf two,Qf draw,Qg,Qf own,Qf other,Qf (.list (tL signsL)),Qf (.list (iL ((Qj 5).map (xk ks)))),Qg,Qg,Qg,Qg,Qg,Qg,Qg,Qg,Qg,Qg,Qg,Qg,Qg,Qg,Qg,Qg,Qg,Qg,Qg,Qg,Qg]) (stL w 5)
   (λo=>o=.nx [] [Qf sc,Qf (kL ks),Qf one,Qf two,Qf draw,Qg,Qf own,Qf other,Qf (.list (tL signsL)),Qf (.list (iL ((Qj 5).map (xk ks)))),Qf (nmL ks),Qg,Qg,Qg,Qg,Qg,Qg,Qg,Qg,Qg,Qg,Qg,Qg,Qg,Qg,Qg,Qg,Qg,Qg,Qg,Qg]):=by
 refine λprog A n L sc one two draw own other ks room=>?_
 have V:=(jL w).cV (a:=225) (prog:=prog) (w:=w) (A:=A) (L:=L)
 have G:=(jL w).cG (a:=225) (w:=w) (prog:=prog) (L:=L) room rfl rfl
 have e1:nmL ks=.list ((Qj 5).map λk=>AV.str (tx (nmK ks k))):=by simp [nmL,tL]
 rw [e1]
 refine X1.assign (V _ _) 10 rfl (.map1 (ys:=Qj 5) (fr:=[8]) (.of (by kernel_rfl)) (λk:Nat=>.int (xk ks k)) (λk=>.str (tx (nmK ks k))) (.list room.deeper.1 ((PE.v 9 rfl).as (by simp [iL]))) (λok C k hk=>?_) (by decide)) rfl
 (refine jw (num_ok ks k) ?_;intro h1 h2)
 have hlen:signsL.length=41:=rfl
 refine .itemL (.list (.v 1 rfl)) (.sub (.v 0 rfl) .int) (xk ks k-14).toNat (by rw [if_neg (by lia)];lia) ?_ (by lia)
 show(tL signsL)[(xk ks k-14).toNat]?=_
 rw [Qx,nmK,QL,Qu (by lia)]
 rfl
noncomputable def dK(c:Int)(k:Nat):Nat:=((kq c).getD k 0).toNat
noncomputable abbrev dnL(d:Nat->Nat):AV:=.list (iL ((Qj 5).map λk=>(d k:Int)))
structure Out5 (d:Nat->Nat):Prop where
 d0:d 0=0
 d1:d 1<=1
 d2:d 2<=d 1+1
 d3:d 3<=d 2+1
 d4:d 4<=d 3+1
theorem Ji(c:Int):∃x1 x2 x3 x4:Nat,kq c=[0,(x1:Int),(x2:Int),(x3:Int),(x4:Int)]/\x1<=1/\x2<=x1+1/\x3<=x2+1/\x4<=x3+1:=by
 have step:∀(x:Int) (m:Nat),∃y:Nat,x%((m:Int)+2)=y/\y<=m+1:=λx m=>⟨(x%((m:Int)+2)).toNat,by
  have h1:=Yg x (show(m:Int)+2≠0 by lia)
  have h2:=Ze x (show 0<(m:Int)+2 by lia)
  lia⟩
 (refine jc (step c 0) ?_;intro x1 e1 b1)
 (refine jc (step (c/(((0:Nat):Int)+2)) x1) ?_;intro x2 e2 b2)
 (refine jc (step (c/(((0:Nat):Int)+2)/((x1:Int)+2)) x2) ?_;intro x3 e3 b3)
 (refine jc (step (c/(((0:Nat):Int)+2)/((x1:Int)+2)/((x2:Int)+2)) x3) ?_;intro x4 e4 b4)
 refine⟨x1,x2,x3,x4,?_,b1,b2,b3,b4⟩
 have f1:dps c 1=(c/(((0:Nat):Int)+2),[0,(x1:Int)]):=by rw [<-e1];rfl
 have f2:dps c 2=(c/(((0:Nat):Int)+2)/((x1:Int)+2),[0,(x1:Int),(x2:Int)]):=by rw [dps1,f1,<-e2];rfl
 have f3:dps c 3=(c/(((0:Nat):Int)+2)/((x1:Int)+2)/((x2:Int)+2),[0,(x1:Int),(x2:Int),(x3:Int)]):=by rw [dps1,f2,<-e3];rfl
 rw [kq,dps1,f3,<-e4];rfl
theorem dK_eq(c:Int):kq c=(Qj 5).map λk=>(dK c k:Int):=by
 (refine JL (Ji c) ?_;intro x1 x2 x3 x4 e _)
 have:∀k,dK c k=(([0,(x1:Int),(x2:Int),(x3:Int),(x4:Int)]:List Int).getD k 0).toNat:=λk=>by rw [dK,e]
 simp only [this]
 rw [e];simp [Xg]
theorem jP(c:Int):Out5 (dK c):=by
 (refine xl (Ji c) ?_;intro x1 x2 x3 x4 e b1 b2 b3 b4)
 have:∀k,dK c k=(([0,(x1:Int),(x2:Int),(x3:Int),(x4:Int)]:List Int).getD k 0).toNat:=λk=>by rw [dK,e]
 constructor<;>simp only [this]<;>simp<;>lia
noncomputable def yH(j:Nat):Addr:=[141,162,148,155,169].getD j 0
noncomputable def sK(j:Nat):List (Nat×List Nat):=[s141,s162,s148,s155,s169].getD j []
noncomputable def xm(ks:Nat->Int):Nat:=(ks 3%5).toNat
theorem zr(ks:Nat->Int):(xm ks:Int)=ks 3%5/\xm ks<5:=by unfold xm;lia
theorem g_141(w:Ql):mg w "_escape_cdata"=Qf (.ref 141):=by kernel_rfl
theorem g_148(w:Ql):mg w "_escape_attrib"=Qf (.ref 148):=by kernel_rfl
theorem g_155(w:Ql):mg w "_escape_attrib_html"=Qf (.ref 155):=by kernel_rfl
theorem g_162(w:Ql):mg w "_escape_cdata_c14n"=Qf (.ref 162):=by kernel_rfl
theorem g_169(w:Ql):mg w "_escape_attrib_c14n"=Qf (.ref 169):=by kernel_rfl
theorem l6(w:Ql):∀prog A n L (sc one two draw own other signs nums names:AV) (ks:Nat->Int),Room (n+2) A ->
  X1 (LC w prog A L [Qf sc,Qf (kL ks),Qf one,Qf two,Qf draw,Qg,Qf own,Qf other,Qf signs,Qf nums,Qf names,Qg,Qg,Qg,Qg,Qg,Qg,Qg,Qg,Qg,Qg,Qg,Qg,Qg,Qg,Qg,Qg,Qg,Qg,Qg,Qg]) (stL w 6)
   (λo=>o=.nx [] [Qf sc,Qf (kL ks),Qf one,Qf two,Qf draw,Qg,Qf own,Qf other,Qf signs,Qf nums,Qf names,Qf (.raw (.ref (yH (xm ks)))),Qg,Qg,Qg,Qg,Qg,Qg,Qg,Qg,Qg,Qg,Qg,Qg,Qg,Qg,Qg,Qg,Qg,Qg,Qg]):=by
 refine λprog A n L sc one two draw own other signs nums names ks room=>?_
 have V:=(jL w).cV (a:=225) (prog:=prog) (w:=w) (A:=A) (L:=L)
 have G:=(jL w).cG (a:=225) (w:=w) (prog:=prog) (L:=L) room rfl rfl
 (refine jw (zr ks) ?_;intro h1 h2)
 refine X1.assign (V _ _) 11 rfl (.itemT (.tup (.tup (.cons (.g (G _ _) (g_141 w)) (.cons (.g (G _ _) (g_162 w)) (.cons (.g (G _ _) (g_148 w)) (.cons (.g (G _ _) (g_155 w)) (.cons (.g (G _ _) (g_169 w)) .nil))))) (show 5<=Qt by decide))) (.mod (.itemL (.list (.v 1 rfl)) .int 3 rfl (vW ks (by decide)) (by decide)) .int (by decide)) (xm ks) (by rw [if_neg (by exact zr26 rfl)];exact h1.symm) ?_ (by lia)) rfl
 have:xm ks=0∨xm ks=1∨xm ks=2∨xm ks=3∨xm ks=4:=by exact zr54 ‹_›
 rcases this with e | e | e | e | e<;>rw [e]<;>rfl
noncomputable def rowP(d:Nat->Nat)(nm:Nat->List Nat)(k:Nat):List Nat:=(if d k<d (k+1)then [40]else Qr (d k-d (k+1)) 41++[44])++nm (k+1)
noncomputable def rowT(d:Nat->Nat)(nm:Nat->List Nat):List Nat:=nm 0++((Qj 4).map (rowP d nm)).flatten++Qr (d 4) 41
noncomputable abbrev nmF(nm:Nat->List Nat):AV:=.list (tL ((Qj 5).map nm))
theorem yz(nm:Nat->List Nat){k:Nat}(h:k<5):(tL ((Qj 5).map nm))[k]?=Qf (.str (tx (nm k))):=by simp [tL,h]
theorem xc(d:Nat->Nat){k:Nat}(h:k<5):(iL ((Qj 5).map λk=>(d k:Int)))[k]?=Qf (.int (d k)):=by simp [iL,h]
theorem jZ{d:Nat->Nat}(o:Out5 d):∀k,k<5->d k<=4:=by
 intro k hk
 have:=o.d0;have:=o.d1;have:=o.d2;have:=o.d3;have:=o.d4
 have:k=0∨k=1∨k=2∨k=3∨k=4:=by exact zr54 ‹_›
 rcases this with rfl | rfl | rfl | rfl | rfl<;>lia
theorem zO{d:Nat->Nat}{nm:Nat->List Nat}(o:Out5 d)(hn:∀k,k<5->(nm k).length<=3)(k:Nat)(hk:k<4):(rowP d nm k).length<=8:=by
 have h1:=jZ o k (by exact Xb ‹_›)
 have h2:=hn (k+1) (by exact V4 ‹_›)
 unfold rowP
 split<;>simp<;>lia
theorem xO{d:Nat->Nat}{nm:Nat->List Nat}(o:Out5 d)(hn:∀k,k<5->(nm k).length<=3):(rowT d nm).length<=60:=by
 have h0:=hn 0 (by decide)
 have h4:=jZ o 4 (by decide)
 have:=qJ (rowP d nm) 8 (Qj 4) λk hk=>zO o hn k (Qc hk)
 simp only [Vu]at this
 simp only [rowT,QC,Vv]
 exact zr46 ‹_› ‹_› ‹_› rfl
theorem l7(w:Ql):∀prog A n L (sc cells one draw own other signs nums hand:AV) (d:Nat->Nat) (nm:Nat->List Nat),Room (n+2) A->Out5 d->(∀k,k<5->(nm k).length<=3) ->
  X1 (LC w prog A L [Qf sc,Qf cells,Qf one,Qf (dnL d),Qf draw,Qg,Qf own,Qf other,Qf signs,Qf nums,Qf (nmF nm),Qf hand,Qg,Qg,Qg,Qg,Qg,Qg,Qg,Qg,Qg,Qg,Qg,Qg,Qg,Qg,Qg,Qg,Qg,Qg,Qg]) (stL w 7)
   (λo=>o=.nx [] [Qf sc,Qf cells,Qf one,Qf (dnL d),Qf draw,Qg,Qf own,Qf other,Qf signs,Qf nums,Qf (nmF nm),Qf hand,Qf (.str (tx (rowT d nm))),Qg,Qg,Qg,Qg,Qg,Qg,Qg,Qg,Qg,Qg,Qg,Qg,Qg,Qg,Qg,Qg,Qg,Qg]):=by
 refine λprog A n L sc cells one draw own other signs nums hand d nm room o hn=>?_
 have V:=(jL w).cV (a:=225) (prog:=prog) (w:=w) (A:=A) (L:=L)
 have G:=(jL w).cG (a:=225) (w:=w) (prog:=prog) (L:=L) room rfl rfl
 have hP:=zO o hn
 have h0:=hn 0 (by decide)
 have h4:=jZ o 4 (by decide)
 have hfl:=qJ (rowP d nm) 8 (Qj 4) λk hk=>hP k (Qc hk)
 simp only [Vu]at hfl
 refine X1.assign (V _ _) 12 rfl (av:=.str (tx (rowT d nm))) ?_ rfl
 refine .addT (.addT (.itemL (.list (.v 10 rfl)) .int 0 rfl (yz nm (by decide)) (by decide)) (.joinT (ls:=(Qj 4).map (rowP d nm)) (PE.str.as (by kernel_rfl)) ((PE.map1 (ys:=Qj 4) (fr:=[10,3]) (.of (by kernel_rfl)) (λk:Nat=>.int ((1+k:Nat):Int)) (λk=>.str (tx (rowP d nm k))) (.rng2 1 5 room.deeper.1 (.b (G _ _) (jz w) (jy w)) .int .int (by decide) (by decide)) (λok C k hk=>?_) (by decide)).as ?_) ?_) ?_) (.mulT (PE.str.as (by kernel_rfl)) (.itemL (.list (.v 3 rfl)) .int 4 rfl (xc d (by decide)) (by decide)) ?_) ?_
 ·have hk4:=Qc hk
  have G1:=(G _ _).cc ok C [Qf (.int ((1+k:Nat):Int))]
  have hk1:1+k<5:=by exact zr19 ‹_›
  have h1:=jZ o k (by exact Xb ‹_›)
  have h2:=hn (1+k) hk1
  have h3:=jZ o (1+k) hk1
  have e1:k+1=1+k:=by exact Yl _ _
  unfold rowP
  rw [e1]
  refine .addT (.ite (b:=decide (d k<d (1+k))) (.cmp (.itemL (.list (.v 2 rfl)) (.v 0 rfl) (1+k) (by rw [if_neg (by exact zq6)]) (xc d hk1) (by exact zq4 ‹_› rfl)) (.itemL (.list (.v 2 rfl)) (.sub (.v 0 rfl) .int) k (by rw [if_neg (by exact zr10)];exact zr9) (xc d (by exact Xb ‹_›)) (by lia)) (jV .Gt (by simp))) (λq=>?_) (λq=>?_)) (.itemL (.list (.v 1 rfl)) (.v 0 rfl) (1+k) (by rw [if_neg (by exact zq6)]) (yz nm hk1) (by exact zq4 ‹_› rfl)) ?_
  ·rw [if_pos (of_decide_eq_true q)]
   exact PE.str.as (by kernel_rfl)
  ·rw [if_neg (of_decide_eq_false q)]
   refine(PE.addT (.mulT (PE.str.as (by kernel_rfl)) (.sub (.itemL (.list (.v 2 rfl)) (.sub (.v 0 rfl) .int) k (by rw [if_neg (by exact zr10)];exact zr9) (xc d (by exact Xb ‹_›)) (by lia)) (.itemL (.list (.v 2 rfl)) (.v 0 rfl) (1+k) (by rw [if_neg (by exact zq6)]) (xc d hk1) (by exact zq4 ‹_› rfl))) (by lia)) (PE.str.as (by kernel_rfl)) (y:=[44]) (by simp [QV];lia)).as (by rw [show((d k:Int)-(d (1+k):Int)).toNat=d k-d (1+k)by exact zr7])
  ·have:=hP k hk4
   unfold rowP at this
   rw [e1,QC]at this
   rw [QV];exact zq1 ‹_› rfl
 ·simp [tL]
 ·exact zq1 ‹_› rfl
 ·simp only [QV];exact zr45 ‹_› ‹_› rfl
 ·exact zr17 ‹_› rfl
 ·simp only [QV,QC,Vv];exact zr46 ‹_› ‹_› ‹_› rfl
theorem b_141(w:Ql):(Bh w).get? 141=Qf (o_151 w.params):=by kernel_rfl
theorem b_148(w:Ql):(Bh w).get? 148=Qf (o_158 w.params):=by kernel_rfl
theorem b_155(w:Ql):(Bh w).get? 155=Qf (o_165 w.params):=by kernel_rfl
theorem b_162(w:Ql):(Bh w).get? 162=Qf (o_172 w.params):=by kernel_rfl
theorem b_169(w:Ql):(Bh w).get? 169=Qf (o_179 w.params):=by kernel_rfl
theorem hand_cal(w:Ql){kd:Nat}(h:kd<5):∃o fd,(Bh w).get? (yH kd)=Qf o/\o.data=.func fd/\∀prog A n (l:List Nat),Room (n+1) A->l.length<=60->Cal prog w (Bh w) A (.ref (yH kd)) [.str (tx l)] (.str (tx (vy (sK kd) l))):=by
 have:kd=0∨kd=1∨kd=2∨kd=3∨kd=4:=by exact zr54 ‹_›
 rcases this with e | e | e | e | e<;>subst e
 ·exact⟨_,F141 w,b_141 w,rfl,λprog A n l r hl=>cal141 r l hl⟩
 ·exact⟨_,F162 w,b_162 w,rfl,λprog A n l r hl=>cal162 r l hl⟩
 ·exact⟨_,Q6 w,b_148 w,rfl,λprog A n l r hl=>cal148 r l hl⟩
 ·exact⟨_,F155 w,b_155 w,rfl,λprog A n l r hl=>cal155 r l hl⟩
 ·exact⟨_,F169 w,b_169 w,rfl,λprog A n l r hl=>cal169 r l hl⟩
noncomputable def xG(row:List Nat)(nm:Nat->List Nat)(k:Nat):List Nat:=if k=0 then row else nm (k-1)
noncomputable abbrev pg6(pg:Nat->List Nat):AV:=.list (tL ((Qj 6).map pg))
theorem Q3{row:List Nat}{nm:Nat->List Nat}(h:row.length<=60)(hn:∀k,k<5->(nm k).length<=3){k:Nat}(hk:k<6):(xG row nm k).length<=60:=by
 unfold xG
 split
 ·exact h
 ·have:=hn (k-1) (by lia);exact zq1 ‹_› rfl
theorem pi_all{c:Ct}{a b:Expr}{tg:Expr}{p1 p2:Pos}{row:List Nat}{nm:Nat->List Nat}(hh:c.A.handled=Qg)(q1:PE c a (.str (tx row)))(q2:PE c b (nmF nm))(hst:Qv [a] c.env=(false,eval a c.env)::Qv [] c.env:=by rfl):PI c tg (.BinOp (.List [a] p1) .Add b p2) ((Qj 6).map λk=>AV.str (tx (xG row nm k))) :=
 .list hh ((PE.addL (.list (.list (.cons q1 .nil hst) (show 1<=Qt by decide))) (.list q2) (by simp [tL,Qt])).as (by simp [tL,Xg,xG]))
theorem l8(w:Ql):∀prog A n L (sc cells one two draw own other signs nums:AV) (row:List Nat) (nm:Nat->List Nat) (kd:Nat),Room (n+3) A->kd<5->row.length<=60->(∀k,k<5->(nm k).length<=3) ->
  X1 (LC w prog A L [Qf sc,Qf cells,Qf one,Qf two,Qf draw,Qg,Qf own,Qf other,Qf signs,Qf nums,Qf (nmF nm),Qf (.raw (.ref (yH kd))),Qf (.str (tx row)),Qg,Qg,Qg,Qg,Qg,Qg,Qg,Qg,Qg,Qg,Qg,Qg,Qg,Qg,Qg,Qg,Qg,Qg]) (stL w 8)
   (λo=>o=.nx [] [Qf sc,Qf cells,Qf one,Qf two,Qf draw,Qg,Qf own,Qf other,Qf signs,Qf nums,Qf (nmF nm),Qf (.raw (.ref (yH kd))),Qf (.str (tx row)),Qg,Qf (pg6 λk=>vy (sK kd) (xG row nm k)),Qg,Qg,Qg,Qg,Qg,Qg,Qg,Qg,Qg,Qg,Qg,Qg,Qg,Qg,Qg,Qg]):=by
 refine λprog A n L sc cells one two draw own other signs nums row nm kd room hk5 hr hn=>?_
 have V:=(jL w).cV (a:=225) (prog:=prog) (w:=w) (A:=A) (L:=L)
 have G:=(jL w).cG (a:=225) (w:=w) (prog:=prog) (L:=L) room rfl rfl
 have e1:pg6 (λk=>vy (sK kd) (xG row nm k))=.list ((Qj 6).map λk=>AV.str (tx (vy (sK kd) (xG row nm k)))):=by simp [pg6,tL]
 rw [e1]
 (refine jW (hand_cal w hk5) ?_;intro o fd ho hd hc)
 refine X1.map1 (V _ _) 14 (ys:=Qj 6) (fr:=[11]) (.of (by kernel_rfl)) (λk:Nat=>.str (tx (xG row nm k))) (λk=>.str (tx (vy (sK kd) (xG row nm k)))) (pi_all room.deeper.1 (.v 12 rfl) (.v 10 rfl)) (λok C k hk=>?_) rfl rfl (by decide)
 exact .callF (.v 1 rfl) (.cons (.v 0 rfl) .nil) ho hd (hc _ _ _ _ room.deeper (Q3 hr hn (Qc hk)))
section
open Builtin
section
theorem zp(name:Qd)(h:name="tag"∨name="attrib"∨name="text"∨name="tail"∨name="kids"∨name="makeelement"∨name="append"∨name="itertext"):Xo (.type "function") name=pure none:=by
 rcases h with rfl | rfl | rfl | rfl | rfl | rfl | rfl | rfl<;>(rw [XI,X3];kernel_rfl)
theorem xX:Xo (.type "function") "__getattr__"=pure none:=by rw [XI,X3];kernel_rfl
theorem KH:isSubtype (.type "function") (.type "staticmethod")=pure false:=by rw [Xs];kernel_rfl
theorem KJ:isSubtype (.type "function") (.type "classmethod")=pure false:=by rw [Xs];kernel_rfl
theorem slot_fn_ga:Slot "function" "__getattribute__" "object.__getattribute__" :=
 .of (owner:="object") (n:="__getattribute__") (by rw [XI,X3];kernel_rfl) (by decide +kernel) (by decide +kernel) (by decide +kernel)
  (by first | exact .inl (by decide +kernel) | exact .inr (by decide +kernel)) (by rw [Xs];kernel_rfl)
theorem slot_fn_sa:Slot "function" "__setattr__" "object.__setattr__" :=
 .of (owner:="object") (n:="__setattr__") (by rw [XI,X3];kernel_rfl) (by decide +kernel) (by decide +kernel) (by decide +kernel)
  (by first | exact .inl (by decide +kernel) | exact .inr (by decide +kernel)) (by rw [Xs];kernel_rfl)
noncomputable abbrev kc(d:Option Qk)(fd:VF):Obj:={ cls:=.type "function",dict:=d,data:=.func fd }
variable {prog:QI} {w:Ql} {A:QO} {E:Qe} {h:QU} {g:Array GenState} {d:Drawn} {t:Nat} {os:YR} {f D:Qk} {fd:VF} {es:List VJ} {n:Nat} {name:Qd} {v:Qm}
theorem Jb{tk:Tok}{Q:Fin->Qi->Prop}(hf:h.get? f=Qf (kc (Qf D) fd))(hD:h.get? D=Qf (Vh es n))(hnm:Xo (.type "function") name=pure Qg)(hv:lookIn name (Vh es n)=Qf (Qf v))
  (hq:Q (.done (.ret v)) ⟨h,g,d,t,os⟩):Qo (model prog w) A (Builtin.«object.__getattribute__» ⟨[.ref f,.str name tk],[]⟩) Q E ⟨h,g,d,t,os⟩:=by
 have hT:(⟨h,g,d,t,os⟩:Qi).TypeIs (.ref f) "function":=⟨_,hf,rfl⟩
 have f1:=KH
 have f2:=KJ
 have hl:nsLook name (Vh es n)=pure (Qf v):=nsLook_of hv
 unfold Builtin.«object.__getattribute__»
 refine Qh (Qn ?_)
 repeat (any_goals (first | assumption | ((with_reducible show Qo _ _ (Zt _ _) _ _ _);with_reducible apply wpAny_loadPart_known) | (first | with_reducible (first | refine Qh ?_ | refine Qn ?_ | refine Vs (by assumption) ?_ | refine Vy (by assumption) ?_ | refine Vq ?_ | refine QS ?_ | refine QX (by assumption) (by assumption) ?_ | refine QW (by assumption) (by assumption) ?_) | wp_delta | ((with_reducible show Qo _ _ (ite _ _ _) _ _ _);first | refine V2 (by rfl) ?_ | refine V6 (by rfl) ?_) | wp_step)))
theorem fn_get{ex:Bool}{Q:Qe}(hf:h.get? f=Qf (kc (Qf D) fd))(hD:h.get? D=Qf (Vh es n))(hnm:Xo (.type "function") name=pure Qg)(hv:lookIn name (Vh es n)=Qf (Qf v))(hh:Z0 v=true)
  (hq:Q v ⟨h,g,d,t+1,os⟩):Qo (model prog w) A (Zs (.ref f) name ex) Q E ⟨h,g,d,t,os⟩:=by
 have hT:(⟨h,g,d,t,os⟩:Qi).TypeIs (.ref f) "function":=⟨_,hf,rfl⟩
 have hT1:(⟨h,g,d,t+1,os⟩:Qi).TypeIs (.ref f) "function":=⟨_,hf,rfl⟩
 have f1:=slot_fn_ga.lookup
 have f2:=xX
 have f4:=slot_fn_ga.bind (.ref f)
 have f5:=handedOut_of hh
 unfold Zs Zk
 cases ex
 all_goals (
  repeat (any_goals (first | assumption | (rw [if_neg (show ¬(true&&onTheHeap (Value.builtin "object.__getattribute__"))=true by decide)]) | (first | with_reducible (first | refine Qh ?_ | refine Qn ?_ | refine Vs (by assumption) ?_ | refine Vy (by assumption) ?_ | refine Vq ?_ | refine QS ?_ | refine QX (by assumption) (by assumption) ?_ | refine QW (by assumption) (by assumption) ?_) | wp_delta | ((with_reducible show Qo _ _ (ite _ _ _) _ _ _);first | refine V2 (by rfl) ?_ | refine V6 (by rfl) ?_) | wp_step)))
  refine XF slot_fn_ga.plain F.entry_object_getattribute (slot_fn_ga.check _ _ _ _ _ _ _ _ hT1 (by unfold argsOk;kernel_rfl) (Jb hf hD hnm hv ?_))
  repeat (any_goals (first | assumption | (first | with_reducible (first | refine Qh ?_ | refine Qn ?_ | refine Vs (by assumption) ?_ | refine Vy (by assumption) ?_ | refine Vq ?_ | refine QS ?_ | refine QX (by assumption) (by assumption) ?_ | refine QW (by assumption) (by assumption) ?_) | wp_delta | ((with_reducible show Qo _ _ (ite _ _ _) _ _ _);first | refine V2 (by rfl) ?_ | refine V6 (by rfl) ?_) | wp_step))))
theorem fn_mro:mroOf (.type "function")=pure [.type "function",.type "object"]:=by rw [mroOf_type];kernel_rfl
theorem zS(name:Qd)(hsh:Int)(key v:Qm):∀es:List VJ,(putL name hsh key v es).length<=es.length+1
 | []=>Vr _
 | e::r=>by
  unfold putL
  split
  ·simp
  ·have:=zS name hsh key v r;simp only [QA];exact V4 ‹_›
theorem fn_put{tk:Tok}{Q:Fin->Qi->Prop}(hD:h.get? D=Qf (Vh es n))(hr:es.any (·.refKey)=false)(hz:es.length+1<=1000)
  (hq:∀h' tk' hs,h'.get? D=Qf (Vh (putL name hs (.str name tk') v es) (putN name es n))->V9 D h h'->Q (.done (.ret .none)) ⟨h',g,d,tk'+1,os⟩) :
  Qo (model prog w) A (ObjectAttr.storeInDict D (.str name tk) name v) Q E ⟨h,g,d,t,os⟩:=by
 have ep:=putName_dict name (VD w.params name) (.str name t) v es n
 have D':(h.update D (Obj.putName name (VD w.params name) (.str name t) v)).get? D=Qf (Vh (putL name (VD w.params name) (.str name t) v es) (putN name es n)):=by
  rw [VP _ hD (by rw [ep];rfl),ep]
 unfold ObjectAttr.storeInDict
 refine Qh (Qn (Qh ?_))
 unfold nsSet
 refine Qh (Qh (wpAny_askSetting (Qn (Qh (wpAny_mkText (Qh (wpAny_loadPart hD ?_)))))))
 dsimp only
 have cc:(!es.toArray.any (·.key.isStr name)&&es.toArray.any (·.refKey))=false:=by simp [hr]
 rw [aRefKeyMayBeTheName_at,cc]
 refine wpAny_updatePart hD ?_
 refine Qh (wpAny_lookBehind D' (pastItsLine_dict (by have:=zS name (VD w.params name) (.str name t) v es;rw [Vk,QV];lia)) ?_)
 exact Qn (hq _ _ _ D' (VH ..))
theorem fn_set{tk:Tok}{Q:Fin->Qi->Prop}(hf:h.get? f=Qf (kc (Qf D) fd))(hD:h.get? D=Qf (Vh es n))(hnm:Xo (.type "function") name=pure Qg)(hr:es.any (·.refKey)=false)(hz:es.length+1<=1000)
  (hq:∀h' tk' hs,h'.get? D=Qf (Vh (putL name hs (.str name tk') v es) (putN name es n))->V9 D h h'->Q (.done (.ret .none)) ⟨h',g,d,tk'+1,os⟩) :
  Qo (model prog w) A (Builtin.«object.__setattr__» ⟨[.ref f,.str name tk,v],[]⟩) Q E ⟨h,g,d,t,os⟩:=by
 have hT:(⟨h,g,d,t,os⟩:Qi).TypeIs (.ref f) "function":=⟨_,hf,rfl⟩
 have f1:=fn_mro
 have hp:∀ {Q':Fin->Qi->Prop},(∀fin s',Q fin s'->Q' fin s')->Qo (model prog w) A (ObjectAttr.storeInDict D (.str name tk) name v) Q' E ⟨h,g,d,t,os⟩:=λk=>fn_put hD hr hz λh' tk' hs a b=>k _ _ (hq h' tk' hs a b)
 unfold Builtin.«object.__setattr__»
 repeat (any_goals (first | assumption | ((with_reducible show Qo _ _ (ObjectAttr.storeInDict _ _ _ _) _ _ _);exact hp λ_ _ z=>z) | ((with_reducible show Qo _ _ (Zt _ _) _ _ _);with_reducible apply wpAny_loadPart_known) | (first | with_reducible (first | refine Qh ?_ | refine Qn ?_ | refine Vs (by assumption) ?_ | refine Vy (by assumption) ?_ | refine Vq ?_ | refine QS ?_ | refine QX (by assumption) (by assumption) ?_ | refine QW (by assumption) (by assumption) ?_) | wp_delta | ((with_reducible show Qo _ _ (ite _ _ _) _ _ _);first | refine V2 (by rfl) ?_ | refine V6 (by rfl) ?_) | wp_step)))
theorem xC{Q:Unit->Qi->Prop}(hf:h.get? f=Qf (kc (Qf D) fd))(hD:h.get? D=Qf (Vh es n))(hnm:Xo (.type "function") name=pure Qg)(hr:es.any (·.refKey)=false)(hz:es.length+1<=1000)
  (hq:∀h' tk' hs,h'.get? D=Qf (Vh (putL name hs (.str name tk') v es) (putN name es n))->V9 D h h'->Q () ⟨h',g,d,tk'+1,os⟩) :
  Qo (model prog w) A (setAttr (.ref f) name v) Q E ⟨h,g,d,t,os⟩:=by
 have hT:(⟨h,g,d,t,os⟩:Qi).TypeIs (.ref f) "function":=⟨_,hf,rfl⟩
 have hT1:(⟨h,g,d,t+1,os⟩:Qi).TypeIs (.ref f) "function":=⟨_,hf,rfl⟩
 have f1:=slot_fn_sa.lookup
 have f4:=slot_fn_sa.bind (.ref f)
 unfold setAttr
 repeat (any_goals (first | assumption | (first | with_reducible (first | refine Qh ?_ | refine Qn ?_ | refine Vs (by assumption) ?_ | refine Vy (by assumption) ?_ | refine Vq ?_ | refine QS ?_ | refine QX (by assumption) (by assumption) ?_ | refine QW (by assumption) (by assumption) ?_) | wp_delta | ((with_reducible show Qo _ _ (ite _ _ _) _ _ _);first | refine V2 (by rfl) ?_ | refine V6 (by rfl) ?_) | wp_step)))
 refine XF slot_fn_sa.plain F.entry_object_setattr (slot_fn_sa.check _ _ _ _ _ _ _ _ hT1 (by unfold argsOk;kernel_rfl) (fn_set hf hD hnm hr hz λh' tk' hs a b=>?_))
 exact Qn (Qn (hq h' tk' hs a b))
theorem fn_set0{tk:Tok}{Q:Fin->Qi->Prop}(hf:h.get? f=Qf (kc Qg fd))(hnm:Xo (.type "function") name=pure Qg)
  (hq:∀h' tk' hs,h'.get? h.objs.size=Qf (Vh [⟨hs,.str name tk',v⟩] 1)->h'.get? f=Qf (kc (Qf h.objs.size) fd)->(∀b o,b≠f->h.get? b=Qf o->h'.get? b=Qf o)->Q (.done (.ret .none)) ⟨h',g,d,tk'+1,os⟩) :
  Qo (model prog w) A (Builtin.«object.__setattr__» ⟨[.ref f,.str name tk,v],[]⟩) Q E ⟨h,g,d,t,os⟩:=by
 have hT:(⟨h,g,d,t,os⟩:Qi).TypeIs (.ref f) "function":=⟨_,hf,rfl⟩
 have f1:=fn_mro
 have hlt:f<h.objs.size:=jg hf
 have hf1:(h.push { cls:=.type "dict",data:=.dict #[] }).get? f=Qf (kc Qg fd):=j7 _ _ hf
 have hf2:((h.push { cls:=.type "dict",data:=.dict #[] }).update f λo=>{ o with dict:=Qf h.objs.size }).get? f=Qf (kc (Qf h.objs.size) fd):=VP _ hf1 rfl
 have hsb:V9 f (h.push { cls:=.type "dict",data:=.dict #[] }) ((h.push { cls:=.type "dict",data:=.dict #[] }).update f λo=>{ o with dict:=Qf h.objs.size }):=VH ..
 have hD2:((h.push { cls:=.type "dict",data:=.dict #[] }).update f λo=>{ o with dict:=Qf h.objs.size }).get? h.objs.size=Qf (Vh [] 0):=(hsb.2 _ (Nat.ne_of_gt hlt)).trans (Qs _ rfl)
 have hp:∀ {Q':Fin->Qi->Prop},(∀fin s',Q fin s'->Q' fin s')->Qo (model prog w) A (ObjectAttr.storeInDict h.objs.size (.str name tk) name v) Q' E ⟨(h.push { cls:=.type "dict",data:=.dict #[] }).update f λo=>{ o with dict:=Qf h.objs.size },g,d,t,os⟩:=λk=>fn_put hD2 rfl (by decide) λh' tk' hs a b=>k _ _ (hq h' tk' hs a ((b.2 _ (QR hlt)).trans hf2) λb' o hb e=>(b.2 b' (QR (jg e))).trans ((hsb.2 b' hb).trans (j7 _ _ e)))
 unfold Builtin.«object.__setattr__»
 repeat (any_goals (first | assumption | ((with_reducible show Qo _ _ (ObjectAttr.storeInDict _ _ _ _) _ _ _);exact hp λ_ _ z=>z) | ((with_reducible show Qo _ _ (Zt _ _) _ _ _);with_reducible apply wpAny_loadPart_known) | (first | with_reducible (first | refine Qh ?_ | refine Qn ?_ | refine Vs (by assumption) ?_ | refine Vy (by assumption) ?_ | refine Vq ?_ | refine QS ?_ | refine QX (by assumption) (by assumption) ?_ | refine QW (by assumption) (by assumption) ?_) | wp_delta | ((with_reducible show Qo _ _ (ite _ _ _) _ _ _);first | refine V2 (by rfl) ?_ | refine V6 (by rfl) ?_) | wp_step)))
theorem zw{Q:Unit->Qi->Prop}(hf:h.get? f=Qf (kc Qg fd))(hnm:Xo (.type "function") name=pure Qg)
  (hq:∀h' tk' hs,h'.get? h.objs.size=Qf (Vh [⟨hs,.str name tk',v⟩] 1)->h'.get? f=Qf (kc (Qf h.objs.size) fd)->(∀b o,b≠f->h.get? b=Qf o->h'.get? b=Qf o)->Q () ⟨h',g,d,tk'+1,os⟩) :
  Qo (model prog w) A (setAttr (.ref f) name v) Q E ⟨h,g,d,t,os⟩:=by
 have hT:(⟨h,g,d,t,os⟩:Qi).TypeIs (.ref f) "function":=⟨_,hf,rfl⟩
 have hT1:(⟨h,g,d,t+1,os⟩:Qi).TypeIs (.ref f) "function":=⟨_,hf,rfl⟩
 have f1:=slot_fn_sa.lookup
 have f4:=slot_fn_sa.bind (.ref f)
 unfold setAttr
 repeat (any_goals (first | assumption | (first | with_reducible (first | refine Qh ?_ | refine Qn ?_ | refine Vs (by assumption) ?_ | refine Vy (by assumption) ?_ | refine Vq ?_ | refine QS ?_ | refine QX (by assumption) (by assumption) ?_ | refine QW (by assumption) (by assumption) ?_) | wp_delta | ((with_reducible show Qo _ _ (ite _ _ _) _ _ _);first | refine V2 (by rfl) ?_ | refine V6 (by rfl) ?_) | wp_step)))
 refine XF slot_fn_sa.plain F.entry_object_setattr (slot_fn_sa.check _ _ _ _ _ _ _ _ hT1 (by unfold argsOk;kernel_rfl) (fn_set0 hf hnm λh' tk' hs a b c=>?_))
 exact Qn (Qn (hq h' tk' hs a b c))
theorem put_new{ns:List Qd}{name:Qd}{hs:Int}{tk:Tok}{v:Qm}{es:List VJ}(hk:es.map jU=ns.map Qf)(hn:name∉ns) :
  (putL name hs (.str name tk) v es).map jU=(ns++[name]).map Qf/\(putL name hs (.str name tk) v es).map (·.val)=es.map (·.val)++[v]:=by
 rw [xQ hk hn]
 exact⟨by rw [Va,Va,hk];rfl,by rw [Va];rfl⟩
theorem K6{name:Qd}{hs:Int}{key v:Qm}:∀ {es:List VJ} {ns:List Qd} {i:Nat},es.map jU=ns.map Qf->ns.Nodup->ns[i]?=Qf name ->
  (putL name hs key v es).map jU=ns.map Qf/\(putL name hs key v es).map (·.val)=(es.map (·.val)).set i v
 | [],[],i,_,_,h=>by cases h
 | [],_::_,_,h,_,_=>by cases h
 | _::_,[],_,h,_,_=>by cases h
 | e::es,y::ns,i,hk,nd,hi=>by
  simp only [QP,Xw]at hk
  (refine jw hk ?_;intro k1 k2)
  rw [Yi]at nd
  unfold putL
  rw [(jH k1 name).1]
  cases i with
  | zero =>
   simp only [List.getElem?_cons_zero,Option.some.injEq]at hi
   subst hi
   rw [if_pos (by simp)]
   refine⟨?_,rfl⟩
   simp only [QP,k2]
   rw [<-k1];rfl
  | succ i =>
   simp only [List.getElem?_cons_succ]at hi
   have hne:y≠name:=λq=>nd.1 (q▸QE hi)
   rw [if_neg (by simpa using hne)]
   (refine jw (K6 (hs:=hs) (key:=key) (v:=v) k2 nd.2 hi) ?_;intro a b)
   exact⟨by simp only [QP,a,k1],by simp only [QP,b,List.set_cons_succ]⟩
theorem zR{es:List VJ}{ns:List Qd}(hk:es.map jU=ns.map Qf):es.any (·.refKey)=false:=by
 rw [List.any_eq_false]
 intro e he q
 have hm:jU e∈ns.map some:=hk▸X9 he
 (refine jc (Qw.mp hm) ?_;intro y hy e1)
 rw [(jH e1.symm "").2]at q;exact no4 q
end
section
variable {prog:QI} {w:Ql} {A:QO} {E:Qe} {h:QU} {g:Array GenState} {d:Drawn} {t:Nat} {os:YR} {k b:Qk} {items:Array Qm} {n:Nat}
noncomputable abbrev jv(k:Qk):Obj:={ cls:=.type "builtin_function_or_method",data:=.fields #[.builtin "list.append",.ref k] }
theorem slot_md_get:Slot "method_descriptor" "__get__" "method_descriptor.__get__" :=
 .of (owner:="method_descriptor") (n:="__get__") (by rw [XI,X3];kernel_rfl) (by decide +kernel) (by decide +kernel) (by decide +kernel)
  (by first | exact .inl (by decide +kernel) | exact .inr (by decide +kernel)) (by rw [Xs];kernel_rfl)
theorem yP:entryFor table "method_descriptor.__get__"=Qf Builtin.«method_descriptor.__get__»:=entryFor_of_tree (by kernel_rfl)
theorem zF(a b c:Qm):argsOk "method_descriptor.__get__" ⟨[a,b,c],[]⟩:=by unfold argsOk;kernel_rfl
theorem JN(s:Qi):s.TypeIs (.builtin "list.append") "method_descriptor":=by
 show builtinType _=_
 rw [builtinType_eq_fast];kernel_rfl
theorem md_get{Q:Fin->Qi->Prop}(hk:h.get? k=Qf { cls:=.type "list",data:=.seq items n })
  (hq:Q (.done (.ret (.ref h.objs.size))) ⟨h.push (jv k),g,d,t,os⟩):Qo (model prog w) A (Builtin.«method_descriptor.__get__» ⟨[.builtin "list.append",.ref k,.type "list"],[]⟩) Q E ⟨h,g,d,t,os⟩:=by
 have hT:(⟨h,g,d,t,os⟩:Qi).TypeIs (.ref k) "list":=⟨_,hk,rfl⟩
 have f1:isSubtype (.type "list") (.type (".".intercalate ("list.append".cutAt '.').dropLast))=pure true:=by
  rw [show ".".intercalate ("list.append".cutAt '.').dropLast="list" by decide +kernel,Xs];kernel_rfl
 unfold Builtin.«method_descriptor.__get__»
 repeat (any_goals (first | assumption | ((with_reducible show Qo _ _ (Zt _ _) _ _ _);with_reducible apply wpAny_loadPart_known) | (first | with_reducible (first | refine Qh ?_ | refine Qn ?_ | refine Vs (by assumption) ?_ | refine Vy (by assumption) ?_ | refine Vq ?_ | refine QS ?_ | refine QX (by assumption) (by assumption) ?_ | refine QW (by assumption) (by assumption) ?_) | wp_delta | ((with_reducible show Qo _ _ (ite _ _ _) _ _ _);first | refine V2 (by rfl) ?_ | refine V6 (by rfl) ?_) | wp_step)))
theorem ls_entry{tk:Tok}{Q:Fin->Qi->Prop}(hk:h.get? k=Qf { cls:=.type "list",data:=.seq items n })
  (hq:Q (.done (.ret (.ref h.objs.size))) ⟨h.push (jv k),g,d,t,os⟩):Qo (model prog w) A (Builtin.«object.__getattribute__» ⟨[.ref k,.str "append" tk],[]⟩) Q E ⟨h,g,d,t,os⟩:=by
 have hT:(⟨h,g,d,t,os⟩:Qi).TypeIs (.ref k) "list":=⟨_,hk,rfl⟩
 unfold Builtin.«object.__getattribute__»
 refine Qh (Qn ?_)
 have X0:Frag.In [] h:=λa o e=>by exact no1 e
 have L1:Looks (model prog w) h (Xo (.type "list") "append") (Qf (.builtin "list.append")):=Looks.of_pure F.slot_list_append.lookup
 have L2:Looks (model prog w) h (ObjectAttr.getOf (Qf (.builtin "list.append"))) (Qf (.builtin "method_descriptor.__get__")):=looks_specialIn X0 (by decide +kernel)
 have L3:Looks (model prog w) h (ObjectAttr.takesStores (.builtin "list.append")) false:=looks_takesIn X0 (by decide +kernel)
 have L4:Looks (model prog w) h (ObjectAttr.dataDescriptor? (Qf (.builtin "list.append")) (Qf (.builtin "method_descriptor.__get__"))) none:=L3.andThen .now
 have L5:Looks (model prog w) h (ObjectAttr.inOwnDict "append" (.ref k)) none:=by
  intro A Q E s kk q
  have hk':=kk _ _ hk
  obtain⟨h₂,g₂,d₂,t₂,os₂⟩:=s
  repeat (any_goals (first | assumption | ((with_reducible show Qo _ _ (Zt _ _) _ _ _);with_reducible apply wpAny_loadPart_known) | (first | with_reducible (first | refine Qh ?_ | refine Qn ?_ | refine Vs (by assumption) ?_ | refine Vy (by assumption) ?_ | refine Vq ?_ | refine QS ?_ | refine QX (by assumption) (by assumption) ?_ | refine QW (by assumption) (by assumption) ?_) | wp_delta | ((with_reducible show Qo _ _ (ite _ _ _) _ _ _);first | refine V2 (by rfl) ?_ | refine V6 (by rfl) ?_) | wp_step)))
 have L6:Looks (model prog w) h (ObjectAttr.find (.ref k) (.type "list") "append") (.bind (.builtin "method_descriptor.__get__") (.builtin "list.append")) :=
  L1.andThen (L2.andThen (L4.andThen (L5.andThen (by
   intro A Q E s kk q
   obtain⟨h₂,g₂,d₂,t₂,os₂⟩:=s
   repeat (any_goals (first | assumption | (first | with_reducible (first | refine Qh ?_ | refine Qn ?_ | refine Vs (by assumption) ?_ | refine Vy (by assumption) ?_ | refine Vq ?_ | refine QS ?_ | refine QX (by assumption) (by assumption) ?_ | refine QW (by assumption) (by assumption) ?_) | wp_delta | ((with_reducible show Qo _ _ (ite _ _ _) _ _ _);first | refine V2 (by rfl) ?_ | refine V6 (by rfl) ?_) | wp_step)))))))
 refine Qh (Qn (Qh ((show Looks (model prog w) h (typeOf (.ref k)) (.type "list")from(Looks.ld hk).andThen .now).at (Qh (L6.at ?_)))))
 show Qo _ _ (ObjectAttr.bindTo _ _ _ _) _ _ _
 unfold ObjectAttr.bindTo
 repeat (any_goals (first | assumption | ((with_reducible show Qo _ _ (Zt _ _) _ _ _);with_reducible apply wpAny_loadPart_known) | (first | with_reducible (first | refine Qh ?_ | refine Qn ?_ | refine Vs (by assumption) ?_ | refine Vy (by assumption) ?_ | refine Vq ?_ | refine QS ?_ | refine QX (by assumption) (by assumption) ?_ | refine QW (by assumption) (by assumption) ?_) | wp_delta | ((with_reducible show Qo _ _ (ite _ _ _) _ _ _);first | refine V2 (by rfl) ?_ | refine V6 (by rfl) ?_) | wp_step)))
 refine XF slot_md_get.plain yP (slot_md_get.check _ _ _ _ _ _ _ _ (JN _) (zF _ _ _) (md_get hk ?_))
 exact Qn hq
end
end
section
open Builtin
section
variable {prog:QI} {w:Ql} {A:QO} {E:Qe} {h:QU} {g:Array GenState} {d:Drawn} {t:Nat} {os:YR} {k b:Qk} {items:Array Qm} {n:Nat}
theorem ls_get{ex:Bool}{Q:Qe}(hk:h.get? k=Qf { cls:=.type "list",data:=.seq items n })
  (hq:Q (.ref h.objs.size) ⟨h.push (jv k),g,d,t+1,os⟩):Qo (model prog w) A (Zs (.ref k) "append" ex) Q E ⟨h,g,d,t,os⟩:=by
 have hT:(⟨h,g,d,t,os⟩:Qi).TypeIs (.ref k) "list":=⟨_,hk,rfl⟩
 have hT1:(⟨h,g,d,t+1,os⟩:Qi).TypeIs (.ref k) "list":=⟨_,hk,rfl⟩
 have f1:=Yr.lookup
 have f2:Xo (.type "list") "__getattr__"=pure none:=by rw [XI,X3];kernel_rfl
 have f4:=Yr.bind (.ref k)
 unfold Zs Zk
 cases ex
 all_goals (
  repeat (any_goals (first | assumption | (rw [if_neg (show ¬(true&&onTheHeap (Value.builtin "list.__getattribute__"))=true by decide)]) | (first | with_reducible (first | refine Qh ?_ | refine Qn ?_ | refine Vs (by assumption) ?_ | refine Vy (by assumption) ?_ | refine Vq ?_ | refine QS ?_ | refine QX (by assumption) (by assumption) ?_ | refine QW (by assumption) (by assumption) ?_) | wp_delta | ((with_reducible show Qo _ _ (ite _ _ _) _ _ _);first | refine V2 (by rfl) ?_ | refine V6 (by rfl) ?_) | wp_step)))
  refine XF Yr.plain am_entry_list_getattribute (Yr.check _ _ _ _ _ _ _ _ hT1 (F.args_list_getattribute_2 _ _) (ls_entry hk ?_))
  repeat (any_goals (first | assumption | (first | with_reducible (first | refine Qh ?_ | refine Qn ?_ | refine Vs (by assumption) ?_ | refine Vy (by assumption) ?_ | refine Vq ?_ | refine QS ?_ | refine QX (by assumption) (by assumption) ?_ | refine QW (by assumption) (by assumption) ?_) | wp_delta | ((with_reducible show Qo _ _ (ite _ _ _) _ _ _);first | refine V2 (by rfl) ?_ | refine V6 (by rfl) ?_) | wp_step))))
theorem yU{x:Qm}{Q:Unit->Qi->Prop}(hk:h.get? k=Qf { cls:=.type "list",data:=.seq items n })(hq:Q () ⟨h,g,d,t,os⟩):Qo (model prog w) A (checkBoundCall "list.append" ⟨[.ref k,x],[]⟩) Q E ⟨h,g,d,t,os⟩:=by
 have hT:(⟨h,g,d,t,os⟩:Qi).TypeIs (.ref k) "list":=⟨_,hk,rfl⟩
 have f1:isSubtype (.type "list") (.type "module")=pure false:=by rw [Xs];kernel_rfl
 have s1:Manifest.signature? "list.append"=Qf { machinery:=.oneArg,full:="list.append",short:="append",receiver:=.self,params:=[{ name:="object",kind:=.posOnly,required:=true }] }:=by kernel_rfl
 have s2:builtinKind "list.append"=Qf .method:=by kernel_rfl
 unfold checkBoundCall
 rw [s1,s2]
 dsimp only
 rw [if_neg (by decide)]
 refine Qh (QX hT f1 ?_)
 rw [if_neg (by decide +kernel)]
 refine Qh (m:=isType _) ?_
 repeat (any_goals (first | assumption | ((with_reducible show Qo _ _ (Zt _ _) _ _ _);with_reducible apply wpAny_loadPart_known) | (first | with_reducible (first | refine Qh ?_ | refine Qn ?_ | refine Vs (by assumption) ?_ | refine Vy (by assumption) ?_ | refine Vq ?_ | refine QS ?_ | refine QX (by assumption) (by assumption) ?_ | refine QW (by assumption) (by assumption) ?_) | wp_delta | ((with_reducible show Qo _ _ (ite _ _ _) _ _ _);first | refine V2 (by rfl) ?_ | refine V6 (by rfl) ?_) | wp_step)))
theorem Jm{x:Qm}{Q:Qe}(hb:h.get? b=Qf (jv k))(hk:h.get? k=Qf { cls:=.type "list",data:=.seq items n })(hz:items.size<=Qt)
  (hq:∀h' n',h'.get? k=Qf { cls:=.type "list",data:=.seq (items.push x) n' }->V9 k h h'->Q .none ⟨h',g,d,t,os⟩):Qo (model prog w) A (call (.ref b) [x]) Q E ⟨h,g,d,t,os⟩:=by
 have hT:(⟨h,g,d,t,os⟩:Qi).TypeIs (.ref k) "list":=⟨_,hk,rfl⟩
 refine wpAny_call (codeAny_of_tree ?_)
 show Qo _ A.in1 (callAny (.ref b) ⟨[x],[]⟩) _ _ _
 show Qo _ _ (load b >>= _) _ _ _
 refine Qh (wpAny_load hb ?_)
 show Qo _ _ (do
  checkBoundCall "list.append" ⟨[.ref k,x],[]⟩
  return <-again (.builtin "list.append" ⟨[.ref k,x],[]⟩)) _ _ _
 refine Qh (yU hk ?_)
 refine Qh (Qn (Qn ⟨plainId_quiet (by decide +kernel) _,codeAny_builtin entry_list_append ?_⟩))
 show Qo _ _ (updateSeq k (·.push x) >>= λ_=>ret .none) _ _ _
 refine Qh (wpAny_updateSeq hk rfl (Qn (hq _ (n+1) ?_ (VH ..))))
 rw [VP _ hk (by rw [Obj.mapSeq_push_plain];rfl),Obj.mapSeq_push_plain]
end
end
noncomputable def intV:Qm->Option Int
 | .int x _=>Qf x
 | _=>Qg
noncomputable def boolV:Qm->Option Bool
 | .bool x=>Qf x
 | _=>Qg
noncomputable def isPl(o:Obj):Bool:=match o.data with
 | .plain=>true
 | _=>false
theorem intV_i{v:Qm}(e:(intV v).isSome=true):∃x t,v=.int x t:=by
 cases v<;>first | exact no4 e | exact⟨_,_,rfl⟩
theorem boolV_i{v:Qm}(e:(boolV v).isSome=true):∃x,v=.bool x:=by
 cases v<;>first | exact no4 e | exact⟨_,rfl⟩
theorem isPl_i{o:Obj}(e:isPl o=true):o.data=.plain:=by
 cases o with
 | mk c d data sl=>cases data<;>first | exact no4 e | rfl
noncomputable def codeHdOk(h:QU)(c P:Qk):Bool:=((h.get? c).bind λo=>(fldO o).map λvs=>o.cls==.type "code"&&(vs[11]? : Option Qm)==Qf (.ref P)&&(strV (vs.getD 18 .none)).isSome&&(intV (vs.getD 7 .none)).isSome&&(boolV (vs.getD 9 .none)).isSome&&(intV (vs.getD 10 .none)).isSome&&c != P)==Qf true
theorem KQ{h:QU}{c P:Qk}(e:codeHdOk h c P=true):CodeHd h c P:=by
 refine jc (Option.bind_eq_some_iff.mp (beq_iff_eq.mp e)) ?_;intro o ho e
 refine jc (Option.map_eq_some_iff.mp e) ?_;intro vs hd e
 simp only [Vl,beq_iff_eq,bne_iff_ne]at e
 (refine jw e ?_;clear e;rintro⟨⟨⟨⟨⟨e1,e2⟩,e3⟩,e4⟩,e5⟩,e6⟩ e7)
 (refine jd (Vz.mp e3) ?_;intro x3 q3)
 (refine jd (JW q3) ?_;intro t3 q3)
 (refine jN (intV_i e4) ?_;intro x4 t4 q4)
 (refine jd (boolV_i e5) ?_;intro x5 q5)
 (refine jN (intV_i e6) ?_;intro x6 t6 q6)
 refine⟨o,vs,x3,t3,x4,t4,x5,x6,t6,ho,e1,fldO_i hd,e2,?_,q3,q4,q5,q6,e7⟩
 rw [Array.getD_eq_getD_getElem?,e2];rfl
theorem c_175(w:Ql):CodeHd (Bh w) 175 171:=KQ (by kernel_rfl)
noncomputable def biOk(h:QU)(m:Option Qm):Bool:=((m.bind refO).bind λbm=>(h.get? bm).map λo=>bm != YL&&bm != XD&&bm != 171&&o.cls==.type "module"&&o.dict==Qf YL&&isPl o)==Qf true
theorem bi_of{h:QU}{mg:Qd->Option Qm}(e:biOk h (mg "__builtins__")=true):h.BuiltinsAt mg 171:=by
 refine jc (Option.bind_eq_some_iff.mp (beq_iff_eq.mp e)) ?_;intro bm e1 e
 refine jc (Option.bind_eq_some_iff.mp e1) ?_;intro v hm hv
 refine jc (Option.map_eq_some_iff.mp e) ?_;intro o ho e
 obtain rfl:=refO_i hv
 simp only [Vl,beq_iff_eq,bne_iff_ne]at e
 (refine jw e ?_;clear e;rintro⟨⟨⟨⟨e1,e2⟩,e3⟩,e4⟩,e5⟩ e6)
 exact⟨bm,o,hm,e1,e2,e3,ho,e4,e5,isPl_i e6⟩
theorem b_at(w:Ql):(Bh w).BuiltinsAt (mg w) 171:=bi_of (by kernel_rfl)
noncomputable abbrev qn:Qd:="_law_node.<locals>.<lambda>"
noncomputable def TabOk(h:QU):Prop:=∃ps,h.get? 171=Qf (Zy ps)/\TriplesOk ps.toList/\∀pos cv,codeAmong pos ps.toList=Qf cv->h.CodeRec cv qn
theorem vt{pos:Pos}{c cv:Qm}{a b:Int}:∀ {l:List Qm},TriplesOk l->codeAmong pos (l++[rawInt a,rawInt b,c])=Qf cv->codeAmong pos l=Qf cv∨cv=c
 | [],_,h=>by
  simp only [Z3,rawInt,codeAmong]at h
  split at h
  ·(have q_:=oi h;clear h;subst q_);exact .inr rfl
  ·cases h
 | .int x t::.int y u::z::r,ht,h=>by
  simp only [TriplesOk]at ht
  simp only [VB,codeAmong]at h ⊢
  split at h
  ·rename_i q;rw [if_pos q];exact .inl h
  ·rename_i q;rw [if_neg q];exact vt ht h
theorem yT{h h':QU}{P:Qk}{cv:Qm}{q:Qd}(r:h.CodeRec cv q)(k:∀b o,b≠P->h.get? b=Qf o->h'.get? b=Qf o)(hP:∀o,h.get? P=Qf o->∃ps:Array Qm,o=Zy ps/\TriplesOk ps.toList):h'.CodeRec cv q:=by
 refine e4_4 r ?_;intro c o vs t e1 e2 e3 e4
 refine⟨c,o,vs,t,e1,k c o (λe=>?_) e2,e3,e4⟩
 (refine jc (hP o (e▸e2)) ?_;rintro ps rfl ht)
 cases e3
 exact triples_no_str ht q t (by rw [Vi];exact e4)
theorem mkLam{w:Ql}{prog:QI}{A:QO}{E:Qe}{Q:Qe}{s:Qi}{env:Env}{clos:List (Qd×Qk)}{params:Arguments}{body:Expr}{scope:Scope}{pos:Pos}
  (hB:∀a o,(Bh w).get? a=Qf o->s.heap.get? a=Qf o) (T:TabOk s.heap) (htk:1<=s.toks) (hcl:closureFor scope env=pure clos) (hge0:env.globals=XD) (hcode:env.code=.ref 175) (hq:env.qual++"<lambda>"=qn) (hdef:defaultsOf params env=([],[]))
  (h:∀h' tk f cv ctv,1<=tk->(∀b o,b≠171->s.heap.get? b=Qf o->h'.get? b=Qf o)->s.heap.objs.size<=f->h'.get? f=Qf (kc Qg (kla_fn "<lambda>" qn params body scope clos ((mg w "__name__").getD .none) cv ctv))->h'.CodeRec cv qn->TabOk h'->Q (.ref f) { s with heap:=h',toks:=tk }) :
  Qo (model prog w) A (eval (.Lambda params body scope pos) env) Q E s:=by
 (refine ye T ?_;intro ps hP ht hcs)
 have hgs:s.heap.Ns XD (mg w):=(mg_ns w).keeps hB
 have C:=(c_175 w).keeps hB
 have hb:s.heap.BuiltinsAt (mg w) 171:=by
  refine e2_6 (b_at w) ?_;intro bm o h1 h2 h3 h4 h5 r
  exact⟨bm,o,h1,h2,h3,h4,hB _ _ h5,r⟩
 have hPt:∀o,s.heap.get? 171=Qf o->∃ps:Array Qm,o=Zy ps/\TriplesOk ps.toList:=λo e=>by rw [hP]at e;(have q_:=oi e;clear e;subst q_);exact⟨ps,rfl,ht⟩
 refine kla_eval hdef ?_
 rw [hq]
 cases hf:codeAmong pos ps.toList with
 | none =>
  refine QB (n:=1) htk (kla_makeFunction (mg:=mg w) hcl hge0 hgs hcode C hP ht hf (by decide) hb λc' ctv h' tk hx hge hlt hrec htb htk'=>?_)
  have kk:∀b o,b≠171->s.heap.get? b=Qf o->(h'.push (kla_obj "<lambda>" qn params body scope clos ((mg w "__name__").getD .none) c' ctv)).get? b=Qf o:=λb o hb e=>j7 _ _ (hx b o hb e)
  refine h _ tk _ (.ref c') ctv htk' kk (by exact Qp ‹_› (Vt ‹_›)) (Qs _ rfl) (hrec.keeps j7) ⟨_,j7 _ _ htb,?_,λpos' cv e=>?_⟩
  ·rw [XJ];exact TriplesOk_snoc _ _ _ _ ht
  ·rw [XJ]at e
   rcases vt ht e with e | rfl
   ·exact yT (hcs _ _ e) kk hPt
   ·exact hrec.keeps j7
 | some cv =>
  refine QB (n:=1) htk (kla_makeFunctionHit (mg:=mg w) hcl hge0 hgs hcode C hP ht hf hb λctv h' tk hk hsz htk'=>?_)
  exact h _ tk _ cv ctv htk' (λb o _ e=>j7 _ _ (hk b o e)) hsz (Qs _ rfl) ((hcs _ _ hf).keeps λb o e=>j7 _ _ (hk b o e)) ⟨ps,j7 _ _ (hk _ _ hP),ht,λpos' cv e=>(hcs _ _ e).keeps λb o e=>j7 _ _ (hk b o e)⟩
theorem Jn(w:Ql):(Bh w).get? 171=none:=Zu _ (.head _)
noncomputable abbrev qq(s:Qi)(M:List Qk):Shared:={ s with heap:=hideAll s.heap M }
theorem ghostM_get?{h:QU}{b:Qk}{o:Obj}{M:List Qk}(e:h.get? b=Qf o)(hb:b∉M):(hideAll h M).get? b=Qf o:=hideAll_get _ e hb
theorem Jc{t0:Nat}{w:Ql}{prog:QI}{A:QO}{n:Nat}{a:Qk}{o:Obj}{fd:VF}{body:List XM}{names more:List Qd}{args:Args}{X M:List Qk}{s:Qi}{E:Qe}{Q:Qe}(P:List AV->Qi->Prop)
  (ho:(Bh w).get? a=Qf o) (hd:o.data=.func fd) (hbd:fd.body=.stmts body) (hclo:fd.closure=[]) (hcd:(Bh w).CodeRec fd.code fd.qualname) (N:Names fd (names++more)) (room:Room (n+1) A) (hB:∀a o,(Bh w).get? a=Qf o->s.heap.get? a=Qf o) (hM:∀m∈M,(Bh w).get? m=Qg) (hX:∀x∈X,∃o,s.heap.get? x=Qf o) (htk:t0<=s.toks)
  (hbind:∀(E':Qe) (Q':List (Qd×Qm)->Qi->Prop),(∀s' vs avs,Vb s s'->Reps (hid X s'.heap) avs vs->avs.length=names.length->P avs s'->Q' (names.zip vs) s')->Qo (model prog w) A.in1 (bindArgs fd args) Q' E' s)
  (h:∀(E':Qe) s' s₁ avs,Vb s s'->P avs s'->t0<=s₁.toks->Vb s' s₁->Fm (cx fd a (names++more) prog w A s'.heap.objs.size [] (avs.map Qf++more.map λ_=>Qg)) X (qq s' M) s₁ ->
   Qo (model prog w) (A.deeper (QY fd s'.heap.objs.size a)) (execs body (QY fd s'.heap.objs.size a)) (λfl s'=>match fl with | .ret v=>Q v s' | .next=>Q .none s' | _=>False) E' s₁):Qo (model prog w) A (call (.ref a) args.pos args.kw) Q E s:=by
 have nd:names.Nodup:=(Xa.mp N.nd).1
 refine wpAny_call ?_
 have hl0:s.heap.NoLimit:=by(refine jc (JE w) ?_;intro mc q r);exact⟨mc,q.keeps hB,r⟩
 refine codeAny_call_function room.depth (hB _ _ ho) hd N.co N.gen hbd (hcd.keeps hB) ?_
 rw [hclo]
 refine QB (n:=t0) htk (hbind _ _ λs' vs avs kz hr hlen hP htk=>?_)
 have hB:∀a o,(Bh w).get? a=Qf o->s'.heap.get? a=Qf o:=λa o e=>jr kz _ _ (hB a o e)
 have hX:∀x∈X,∃o,s'.heap.get? x=Qf o:=λx hx=>((hX x hx).imp λo e=>jr kz _ _ e)
 have hl1:s'.heap.NoLimit:=hl0.keeps (jr kz)
 have hl:vs.length=names.length:=hr.length.trans hlen
 have hkeys:(names.zip vs).map (·.1)=names:=by rw [List.map_fst_zip (by exact XO (Eq.symm ‹_›))]
 refine QB (n:=t0) htk (wpAny_newFunctionEnv_cells N.kind (λx hx=>?_) λenv he s₁ ic ht₁=>?_)
 ·have hm:x.1∈names:=by rw [<-hkeys];exact X9 hx
  exact(N.kd x.1 (Q8 _ hm)).imp id λq=>⟨q,XE _ _ _ (.inl q)⟩
 ·subst he
  refine⟨hl1.keeps ic.toInCall.keep,codeAny_func ?_⟩
  change InCallC s' (QY fd s'.heap.objs.size a).locals (bindL (QY fd s'.heap.objs.size a).kindOf (names.zip vs) λ_=>Qg) (QY fd s'.heap.objs.size a).cells (bindC (QY fd s'.heap.objs.size a).kindOf (names.zip vs) λ_=>Qg) s₁ at ic
  change Qo (model prog w) (A.deeper (QY fd s'.heap.objs.size a)) (execs body (QY fd s'.heap.objs.size a)) _ _ s₁
  have ks:Vb s' s₁:=by
   (refine jN ic.toInCall.same ?_;rintro h' tk rfl)
   exact⟨h',tk,rfl,ic.toInCall.keep⟩
  have icg:InCallC (qq s' M) (QY fd s'.heap.objs.size a).locals (bindL (QY fd s'.heap.objs.size a).kindOf (names.zip vs) λ_=>Qg) (QY fd s'.heap.objs.size a).cells (bindC (QY fd s'.heap.objs.size a).kindOf (names.zip vs) λ_=>Qg) s₁ :=
   ⟨⟨ic.toInCall.same,ic.toInCall.ns,λb o e=>ic.toInCall.keep b o (of_hideAll _ e),by rw [hideAll_size];exact ic.toInCall.fresh⟩,ic.cell,ic.apart,ic.above⟩
  have hsz:∀b o,s'.heap.get? b=Qf o->b<s'.heap.objs.size:=λb o e=>Vo e
  have up:Le (hid X s'.heap) (hid ([]++(cx fd a (names++more) prog w A s'.heap.objs.size [] (avs.map Qf++more.map λ_=>Qg)).Yf X) s₁.heap):=λb o e=>by
   have e1:=j9 e
   have hb:=hsz b o e1
   refine jl (ic.toInCall.keep b o e1) λm=>?_
   rcases Qb m with m | m
   ·exact absurd hb (by rw [m];exact XT _)
   ·rcases Qa m with m | m
    ·(refine jc (Qw.mp m) ?_;rintro⟨k,d⟩ hm rfl)
     exact absurd (ic.above k d hm) (VS.mpr (Vt hb))
    ·unfold hid at e;rw [if_pos m]at e;exact no1 e
  have F:Fm (cx fd a (names++more) prog w A s'.heap.objs.size [] (avs.map Qf++more.map λ_=>Qg)) X (qq s' M) s₁:=by
   refine⟨λb o e=>ghostM_get? (hB b o e) (λq=>by rw [hM b q]at e;exact no1 e),λy hy=>((hX y hy).imp λo e=>ic.toInCall.keep _ _ e),λx hx=>(nomatch hx),⟨Zo,λ_ h=>nomatch h⟩,?_,N.kind,_,_,icg,λi x av e e'=>?_⟩
   ·show((Vd (s'.heap.objs.size+1) fd.scope.names []).map (·.1)).Nodup
    rw [cellsFrom_names fd.scope.names (s'.heap.objs.size+1) 0 [] [] rfl];exact N.cnd
   ·have e2:avs[i]?=Qf av:=by
     have e':(avs.map Qf++more.map λ_=>Qg)[i]?=Qf (Qf av):=e'
     rcases Nat.lt_or_ge i avs.length with h | h
     ·rw [V5 (by simpa using h),Qx]at e'
      cases q:avs[i]? with
      | none=>rw [q]at e';cases e'
      | some u=>rw [q]at e';(have q_:=oi e';clear e';cases q_);rfl
     ·rw [X6 (by simpa using h),Qx]at e'
      cases q:more[i-(avs.map Qf).length]? with
      | none=>rw [q]at e';cases e'
      | some u=>rw [q]at e';(have q_:=oi e';clear e';cases q_)
    have hi:i<names.length:=by rw [<-hlen];exact(QT.mp e2).1
    have e3:names[i]?=Qf x:=by rw [<-V5 (l₂:=more) hi];exact e
    (refine jc (hr.get e2) ?_;intro v e4 rv)
    have hmem:(x,v)∈names.zip vs:=by
     refine QE (i:=i) ?_
     rw [YU];exact⟨e3,e4⟩
    refine⟨v,.of (rv.mono up),?_⟩
    rcases N.kd x (QE e)with q | q
    ·exact .inl ⟨q,vI q (by rw [hkeys];exact nd) hmem⟩
    ·exact .inr ⟨q,vJ q (by rw [hkeys];exact nd) hmem,XE _ _ _ (.inl q)⟩
  refine Qz (h _ s' s₁ avs kz hP ht₁ ks F) (λf s' p=>?_) λ_ _ y=>y
  cases f with
  | next=>exact p
  | brk=>exact p.elim
  | cont=>exact p.elim
  | ret v=>exact p
theorem yc{t0:Nat}{w:Ql}{prog:QI}{A:QO}{n:Nat}{a:Qk}{o:Obj}{fd:VF}{body:List XM}{names more:List Qd}{avs:List AV}{vs:List Qm}{X:List Qk}{s:Qi}{E:Qe}{Q:Qe}(M:List Qk)
  (D:Df (Bh w) a o fd body names more) (room:Room (n+1) A) (hlen:avs.length=names.length) (hB:∀a o,(Bh w).get? a=Qf o->s.heap.get? a=Qf o) (hM:∀m∈M,(Bh w).get? m=Qg) (hX:∀x∈X,∃o,s.heap.get? x=Qf o) (htk:t0<=s.toks) (hr:Reps (hid X s.heap) avs vs)
  (h:∀(E':Qe) s₁,t0<=s₁.toks->Vb s s₁->Fm (cx fd a (names++more) prog w A s.heap.objs.size [] (avs.map Qf++more.map λ_=>Qg)) X (qq s M) s₁ ->
   Qo (model prog w) (A.deeper (QY fd s.heap.objs.size a)) (execs body (QY fd s.heap.objs.size a)) (λfl s'=>match fl with | .ret v=>Q v s' | .next=>Q .none s' | _=>False) E' s₁):Qo (model prog w) A (call (.ref a) vs) Q E s:=by
 have hl:vs.length=names.length:=hr.length.trans hlen
 refine Jc (args:=⟨vs,[]⟩) (M:=M) (λa s'=>a=avs/\s'=s) D.ho D.hd D.hb D.hclo D.hcd D.N room hB hM hX htk (λE' Q' k=>?_) λE' s' s₁ a _ q ht ks F=>?_
 ·rw [D.hbind vs hl]
  exact Qn (k s vs avs kU hr hlen ⟨rfl,rfl⟩)
 ·(refine jw q ?_;clear q;rintro rfl rfl)
  exact h E' s₁ ht ks F
section
variable {c:Ct}
theorem Fm.evo{Yc W M:List Qk}{s₀ s:Qi}{h':QU}{tk:Nat}(f:Fm c Yc s₀ s)(hM:∀m∈M,m∈Yc/\s₀.heap.get? m=Qg/\m≠c.env.locals/\m∉c.env.cells.map (·.2))(lv:∀m∈M,∃o,h'.get? m=Qf o)
  (k:∀b o,b∉M->s.heap.get? b=Qf o->h'.get? b=Qf o) (hW:∀b∈W,s.heap.get? b=Qg/\∃o,h'.get? b=Qf o):Fm c (W++Yc) s₀ { s with heap:=h',toks:=tk }:=by
 (refine jn f.fr ?_;intro m cm ic lk)
 have xM:∀x∈c.X,x∉M:=λx hx hm=>f.nodup.2 x hx (hM x hm).1
 have kX:∀x∈c.X,∀o,s.heap.get? x=Qf o->h'.get? x=Qf o:=λx hx o e=>k x o (xM x hx) e
 have le:Le (hid (c.X++c.Yf Yc) s.heap) (hid (c.X++c.Yf (W++Yc)) h'):=λa o e=>by
  have e1:=j9 e
  have n:a∉c.X++c.Yf Yc:=λm=>by unfold hid at e;rw [if_pos m]at e;exact no1 e
  have nM:a∉M:=λhm=>n (Q7 _ (.tail _ (Q7 _ (hM a hm).1)))
  refine jl (k _ _ nM e1) λhx=>?_
  rcases Qa hx with h | h
  ·exact n (Q8 _ h)
  ·rcases Qb h with h | h
   ·exact n (Q7 _ (h▸.head _))
   ·rcases Qa h with h | h
    ·exact n (Q7 _ (.tail _ (Q8 _ h)))
    ·rcases Qa h with h | h
     ·rw [(hW a h).1]at e1;exact no1 e1
     ·exact n (Q7 _ (.tail _ (Q7 _ h)))
 have old':∀y∈W++Yc,∃o,h'.get? y=Qf o:=λy hy=>by
  rcases Qa hy with h | h
  ·exact(hW y h).2
  ·by_cases q:y∈M
   ·exact lv y q
   ·(refine jd (f.old y h) ?_;intro o e);exact⟨o,k _ _ q e⟩
 (refine jN ic.toInCall.same ?_;intro h₁ t₁ e1)
 refine⟨f.base,old',λx hx=>⟨(f.own x hx).1,(f.own x hx).2.1,(f.own x hx).2.2.1,(((f.own x hx).2.2.2).imp λo e=>kX x hx o e)⟩,
  ⟨f.nodup.1,λx hx m=>(Qa m).elim (λh=>let ⟨o,e⟩:=(f.own x hx).2.2.2;by rw [(hW x h).1]at e;exact no1 e) (f.nodup.2 x hx)⟩,f.cnd,f.kind,m,cm,
  ⟨⟨⟨h',tk,by rw [e1]⟩,ic.toInCall.ns.at' λo e=>k _ o (λm=>(hM _ m).2.2.1 rfl) e,λb o e=>k b o (λm=>by rw [(hM b m).2.1]at e;exact no1 e) (ic.toInCall.keep b o e),ic.toInCall.fresh⟩,λn a e=>?_,ic.apart,ic.above⟩,λi x av e e'=>?_⟩
 ·(refine jc (ic.cell n a e) ?_;intro o ho hd)
  exact⟨o,k _ _ (λm=>(hM _ m).2.2.2 (Qw.mpr ⟨(n,a),mem_of_lookup e,rfl⟩)) ho,hd⟩
 ·(refine jc (lk i x av e e') ?_;intro v r q)
  exact⟨v,r.to le λp _ a o e1 e2=>⟨e1,kX a (QE e1) o e2⟩,q⟩
theorem xi{o:Expr}{attr:Qd}{pos:Pos}{v:Qm}{s:Qi}{E:Qe}{Q:Unit->Qi->Prop}(h:Qo c.M c.A (eval o c.env) (λov s₁=>Qo c.M c.A (setAttr ov attr v) Q E s₁) E s):Qo c.M c.A (assign (.Attribute o attr pos) c.env v) Q E s:=by
 rw [assign_Attribute]
 refine Qh (QS (Qz h (λov s₁ h₁=>Qh (VA (Qh (QS (Qz h₁ (λ_ s₂ h₂=>?_) λ_ _ y=>y))))) λ_ _ y=>y))
 exact wpAny_release' h₂
end
noncomputable abbrev Q5(w:Ql):FuncData:=vx (o_186 w.params)
noncomputable abbrev v176:List Qd:=["tag","attrib","node"]
theorem n176(w:Ql):Names (Q5 w) v176:=.of (by kernel_rfl)
noncomputable def lamE(e:Expr):Arguments×Expr×Scope:=if h:e.ctorIdx=4 then Expr.Lambda.elim (motive_1:=λ_=>Arguments×Expr×Scope) e h λa b s _=>(a,b,s)else(⟨[],[],Qg,[],[],Qg,[]⟩,e,{ kind:=.module,names:=[],isGenerator:=false,isCoroutine:=false,more:=[] })
noncomputable def asgV(s:XM):Expr:=if h:s.ctorIdx=5 then Stmt.Assign.elim (motive_2:=λ_=>Expr) s h λ_ v _=>v else .Constant .none 0 ⟨0,0,0,0⟩
noncomputable def yD(w:Ql):Arguments×Expr×Scope:=lamE (asgV ((bodyOf (Q5 w)).getD 3 (.Pass ⟨0,0,0,0⟩)))
structure Nd where
 f:Qk
 d:Qk
 k:Qk
 b:Qk
 g:Qk
 c:Qk
noncomputable abbrev nmN:List Qd:=["tag","attrib","text","tail","kids","makeelement","append","itertext"]
structure NdFix (w:Ql) (h:QU) (nd:Nd):Prop where
 fo:∃fd,h.get? nd.f=Qf (kc (Qf nd.d) fd)
 bo:h.get? nd.b=Qf (jv nd.k)
 go:∃cv ctv,h.get? nd.g=Qf (kc Qg (kla_fn "<lambda>" qn (yD w).1 (yD w).2.1 (yD w).2.2 [("node",nd.c)] ((mg w "__name__").getD .none) cv ctv))/\h.CodeRec cv qn
 ce:h.IsCell nd.c (Qf (.ref nd.f))
noncomputable def NdDic(h:QU)(nd:Nd)(x:Qd)(ad:Qk)(t:Qd)(tl:Qm):Prop :=
 ∃es n t1 t2,h.get? nd.d=Qf (Vh es n)/\es.map jU=nmN.map Qf/\es.map (·.val)=[.str x t1,.ref ad,.str t t2,tl,.ref nd.k,.ref 176,.ref nd.b,.ref nd.g]
theorem TabOk.keeps{h h':QU}(T:TabOk h)(k:∀b o,h.get? b=Qf o->h'.get? b=Qf o):TabOk h':=by
 (refine ye T ?_;intro ps a b c)
 exact⟨ps,k _ _ a,b,λpos cv e=>(c pos cv e).keeps k⟩
theorem TabOk.but{h h':QU}{M:List Qk}(T:TabOk h)(k:∀b o,b∉M->h.get? b=Qf o->h'.get? b=Qf o)(h1:171∉M)(hM:∀m∈M,∀o vs,h.get? m=Qf o->o.data≠.fields vs):TabOk h':=by
 (refine ye T ?_;intro ps a b c)
 refine⟨ps,k _ _ h1 a,b,λpos cv e=>?_⟩
 refine e4_4 (c pos cv e) ?_;intro cd o vs t e1 e2 e3 e4
 exact⟨cd,o,vs,t,e1,k _ _ (λm=>hM _ m o vs e2 e3) e2,e3,e4⟩
theorem g_node(w:Ql):mg w "_law_node"=Qf (.ref 176):=by kernel_rfl
theorem b_176(w:Ql):(Bh w).get? 176=Qf (o_186 w.params):=by kernel_rfl
section
open Builtin
noncomputable def FnAt(h:QU)(f D:Qk)(ns:List Qd)(vals:List Qm):Prop :=
 (∃fd,h.get? f=Qf (kc (Qf D) fd))/\∃es n,h.get? D=Qf (Vh es n)/\es.map jU=ns.map Qf/\es.map (·.val)=vals
theorem FnAt.at{h h':QU}{f D:Qk}{ns:List Qd}{vals:List Qm}(P:FnAt h f D ns vals)(k:∀b,b=f∨b=D->∀o,h.get? b=Qf o->h'.get? b=Qf o):FnAt h' f D ns vals:=by
 obtain⟨⟨fd,a⟩,es,n,b,c⟩:=P
 exact⟨⟨fd,k _ (.inl rfl) _ a⟩,es,n,k _ (.inr rfl) _ b,c⟩
theorem FnAt.keeps{h h':QU}{f D:Qk}{ns:List Qd}{vals:List Qm}(P:FnAt h f D ns vals)(k:∀b o,h.get? b=Qf o->h'.get? b=Qf o):FnAt h' f D ns vals:=P.at λb _ o e=>k b o e
theorem FnAt.ne{h:QU}{f D:Qk}{ns:List Qd}{vals:List Qm}(P:FnAt h f D ns vals):f≠D:=by
 obtain⟨⟨fd,a⟩,es,n,b,c⟩:=P
 intro e;rw [e,b]at a
 have q:=congrArg Obj.data (oi a)
 cases q
noncomputable abbrev fnNm(name:Qd):Prop:=name="tag"∨name="attrib"∨name="text"∨name="tail"∨name="kids"∨name="makeelement"∨name="append"∨name="itertext"
section
variable {prog:QI} {w:Ql} {A:QO} {E:Qe} {s:Qi} {f D:Qk} {ns:List Qd} {vals:List Qm} {name:Qd} {v:Qm}
theorem vH{ex:Bool}{Q:Qe}(P:FnAt s.heap f D ns vals)(i:Nat)(hn:ns[i]?=Qf name)(hv:vals[i]?=Qf v)(nd:ns.Nodup)(hh:Z0 v=true)(hnm:fnNm name)
  (hq:Q v { s with toks:=s.toks+1 }):Qo (model prog w) A (Zs (.ref f) name ex) Q E s:=by
 obtain⟨⟨fd,a⟩,es,n,b,c,e⟩:=P
 exact fn_get a b (zp _ hnm) (by rw [lookIn_dict];exact ya c nd hn (by rw [e];exact hv)) hh hq
theorem Ja{Q:Unit->Qi->Prop}(P:FnAt s.heap f D ns vals)(hn:name∉ns)(hz:ns.length<=100)(hnm:fnNm name)
  (hq:∀h' tk,1<=tk->FnAt h' f D (ns++[name]) (vals++[v])->V9 D s.heap h'->Q () { s with heap:=h',toks:=tk }):Qo (model prog w) A (setAttr (.ref f) name v) Q E s:=by
 have ne:=P.ne
 obtain⟨⟨fd,a⟩,es,n,b,c,e⟩:=P
 have hl:es.length=ns.length:=by simpa using congrArg Yx c
 refine xC a b (zp _ hnm) (zR c) (by lia) λh' tk hs hd sb=>hq _ _ (Vn _) ⟨⟨fd,(sb.2 _ ne).trans a⟩,_,_,hd,?_⟩ sb
 (refine jw (put_new (hs:=hs) (tk:=tk) (v:=v) c hn) ?_;intro q1 q2)
 exact⟨q1,by rw [q2,e]⟩
theorem J9{Q:Unit->Qi->Prop}(P:FnAt s.heap f D ns vals)(i:Nat)(hn:ns[i]?=Qf name)(nd:ns.Nodup)(hz:ns.length<=100)(hnm:fnNm name)
  (hq:∀h' tk,1<=tk->FnAt h' f D ns (vals.set i v)->V9 D s.heap h'->Q () { s with heap:=h',toks:=tk }):Qo (model prog w) A (setAttr (.ref f) name v) Q E s:=by
 have ne:=P.ne
 obtain⟨⟨fd,a⟩,es,n,b,c,e⟩:=P
 have hl:es.length=ns.length:=by simpa using congrArg Yx c
 refine xC a b (zp _ hnm) (zR c) (by lia) λh' tk hs hd sb=>hq _ _ (Vn _) ⟨⟨fd,(sb.2 _ ne).trans a⟩,_,_,hd,?_⟩ sb
 (refine jw (K6 (hs:=hs) (key:=.str name tk) (v:=v) c nd hn) ?_;intro q1 q2)
 exact⟨q1,by rw [q2,e]⟩
theorem Ju{Q:Unit->Qi->Prop}{fd:VF}(hf:s.heap.get? f=Qf (kc Qg fd))(hnm:fnNm name)
  (hq:∀h' tk,1<=tk->FnAt h' f s.heap.objs.size [name] [v]->(∀b o,b≠f->s.heap.get? b=Qf o->h'.get? b=Qf o)->Q () { s with heap:=h',toks:=tk }):Qo (model prog w) A (setAttr (.ref f) name v) Q E s :=
 zw hf (zp _ hnm) λh' tk hs a b k=>hq _ _ (Vn _) ⟨⟨fd,b⟩,_,_,a,rfl,rfl⟩ k
end
section
variable {c:Ct}
theorem PE.natt{e:Expr}{pos:Pos}{f D:Qk}{ns:List Qd}{vals:List Qm}{name:Qd}{v:Qm}(P:FnAt c.B f D ns vals)(p:PE c e (.raw (.ref f)))(i:Nat)(hn:ns[i]?=Qf name)(hv:vals[i]?=Qf v)(nd:ns.Nodup)(hh:Z0 v=true)(hnm:fnNm name){av:AV}(hr:∀g,Rep g av v)
  (he:eval (.Attribute e name pos) c.env=(do
   let o <-eval e c.env
   Xy pos.atName
   let r <-Zz [o] (Zs o name true)
   YM e o r
   pure r):=by with_unfolding_all rfl):PE c (.Attribute e name pos) av:=λY s E x₀ =>
 Y8 (p.use x₀ λu s₁ k₁ x₁ r=>by
  obtain rfl:=jb r
  exact vH (P.keeps x₁.base) i hn hv nd hh hnm ⟨ktr k₁ jh,hr _⟩) he
theorem PE.fatt{e:Expr}{pos:Pos}{f:Qk}{ns:List Qd}{l:List AV}{name:Qd}{av:AV}(p:PE c e (.fn f ns l))(i:Nat)(hn:ns[i]?=Qf name)(hl:l[i]?=Qf av)(nd:ns.Nodup)(hnm:fnNm name)(hv:qV av=true:=by rfl)
  (he:eval (.Attribute e name pos) c.env=(do
   let o <-eval e c.env
   Xy pos.atName
   let r <-Zz [o] (Zs o name true)
   YM e o r
   pure r):=by with_unfolding_all rfl):PE c (.Attribute e name pos) av:=λY s E x₀ =>
 Y8 (p.use x₀ λu s₁ k₁ x₁ r=>by
  (refine xl r ?_;clear r;rintro dx fd es n rfl h1 h2 h3 h4)
  (refine jc (h4.get hl) ?_;intro v hv' rv)
  exact vH (⟨⟨fd,j9 h1⟩,es,n,j9 h2,h3,rfl⟩:FnAt s₁.heap f dx ns (es.map (·.val))) i hn hv' nd (vY hv rv) hnm ⟨ktr k₁ jh,rv⟩) he
end
end
structure HidOk (c:Ct) (Yc:List Qk) (g:Qi) (m:Qk):Prop where
 mem:m∈Yc
 dead:g.heap.get? m=Qg
 nl:m≠c.env.locals
 nc:m∉c.env.cells.map (·.2)
section
variable {c:Ct} {Yc:List Qk} {g s:Qi}
theorem HidOk.more{m:Qk}(H:HidOk c Yc g m)(W:List Qk):HidOk c (W++Yc) g m:=⟨Q7 _ H.mem,H.dead,H.nl,H.nc⟩
theorem HidOk.new{W:List Qk}{m:Qk}(f:Fm c Yc g s)(hm:m∈W)(e:s.heap.get? m=Qg):HidOk c (W++Yc) g m:=by
 refine⟨Q8 _ hm,?_,λq=>?_,λq=>?_⟩
 ·cases q:g.heap.get? m with
  | none=>rfl
  | some o=>rw [jr f.kept _ _ q]at e;exact no2 e
 ·(refine jd (f.live c.env.locals (Q7 _ (.head _))) ?_;intro o ho)
  rw [<-q,e]at ho;exact no1 ho
 ·(refine jd (f.live m (Q7 _ (.tail _ (Q8 _ q)))) ?_;intro o ho)
  rw [e]at ho;exact no1 ho
theorem Fm.but1{h':QU}{tk:Nat}{D:Qk}(f:Fm c Yc g s)(H:HidOk c Yc g D)(hl:∃o,h'.get? D=Qf o)(sb:V9 D s.heap h'):Fm c Yc g { s with heap:=h',toks:=tk }:=by
 have:=f.evo (M:=[D]) (W:=[]) (tk:=tk) (λm hm=>by obtain rfl:=Q9 hm;exact⟨H.mem,H.dead,H.nl,H.nc⟩) (λm hm=>by obtain rfl:=Q9 hm;exact hl)
  (λb o hb e=>(sb.2 b λq=>hb (q▸.head _)).trans e) (λb hb=>nomatch hb)
 exact this
theorem qx{E:Qe}{Q:Unit->Qi->Prop}{fa D:Qk}{ns:List Qd}{vals:List Qm}{x name:Qd}{v:Qm}{np pos:Pos}(f:Fm c Yc g s)(ht:1<=s.toks)(H:HidOk c Yc g D)(P:FnAt s.heap fa D ns vals)(i:Nat)(hσ:c.σ[i]?=Qf (Qf (.raw (.ref fa))))(hi:c.vars[i]?=Qf x)(hd:(x==("__debug__" : Qd))=false)(hcd:(x==("__classdict__" : Qd))=false)
  (hn:name∉ns) (hz:ns.length<=100) (hnm:fnNm name)
  (h:∀h' tk,1<=tk->FnAt h' fa D (ns++[name]) (vals++[v])->V9 D s.heap h'->Fm c Yc g { s with heap:=h',toks:=tk }->Q () { s with heap:=h',toks:=tk }):Qo c.M c.A (assign (.Attribute (.Name x np) name pos) c.env v) Q E s :=
 xi (kr i hσ f.kind hi hd hcd (f.at ht) λu r=>by
  obtain rfl:=jb (r.rep rfl)
  exact Ja P hn hz hnm λh' tk htk P' sb=>h h' tk htk P' sb (f.but1 H (let ⟨_,es,n,e,_⟩:=P';⟨_,e⟩) sb))
theorem Kd{E:Qe}{Q:Unit->Qi->Prop}{fa:Qk}{fd:VF}{x name:Qd}{v:Qm}{np pos:Pos}(f:Fm c Yc g s)(ht:1<=s.toks)(H:HidOk c Yc g fa)(ho:s.heap.get? fa=Qf (kc Qg fd))(i:Nat)(hσ:c.σ[i]?=Qf (Qf (.raw (.ref fa))))(hi:c.vars[i]?=Qf x)(hd:(x==("__debug__" : Qd))=false)(hcd:(x==("__classdict__" : Qd))=false)
  (hnm:fnNm name)
  (h:∀h' tk D,1<=tk->FnAt h' fa D [name] [v]->(∀b o,b≠fa->s.heap.get? b=Qf o->h'.get? b=Qf o)->s.heap.get? D=Qg->HidOk c ([D]++Yc) g D->Fm c ([D]++Yc) g { s with heap:=h',toks:=tk }->Q () { s with heap:=h',toks:=tk }):Qo c.M c.A (assign (.Attribute (.Name x np) name pos) c.env v) Q E s :=
 xi (kr i hσ f.kind hi hd hcd (f.at ht) λu r=>by
  obtain rfl:=jb (r.rep rfl)
  refine Ju ho hnm λh' tk htk P' k=>h h' tk _ htk P' k jm (HidOk.new f (.head _) jm) ?_
  refine f.evo (M:=[fa]) (W:=[s.heap.objs.size]) (λm hm=>?_) (λm hm=>?_) (λb o hb e=>k b o (λq=>hb (q▸.head _)) e) (λb hb=>?_)
  ·obtain rfl:=Q9 hm;exact⟨H.mem,H.dead,H.nl,H.nc⟩
  ·obtain rfl:=Q9 hm;(refine jw P' ?_;clear P';rintro⟨_,e⟩ _);exact⟨_,e⟩
  ·obtain rfl:=Q9 hb;obtain⟨_,es,n,e,_⟩:=P';exact⟨jm,_,e⟩)
noncomputable abbrev nm5:List Qd:=["tag","attrib","text","tail","kids"]
theorem node_tup{E:Qe}{Q:Flow->Qi->Prop}{fa:Qk}{fd:VF}{x:Qd}{ad:Qk}{p1 p2 p3 p4 p5 q1 q2 q3 q4 q5 r1 r2 r3 r4 r5 tp vp pos:Pos}{k k' k3 k4:Nat}(hh:c.A.handled=Qg)(hv:c.vars=(["tag","attrib","node"]:List Qd))(hσ:c.σ=[Qf (.str x),Qf (.raw (.ref ad)),Qf (.raw (.ref fa))])(f:Fm c Yc g s)(ht:1<=s.toks)(H:HidOk c Yc g fa)(ho:s.heap.get? fa=Qf (kc Qg fd))
  (h:∀h' tk D ka t1 t2 t3,1<=tk->FnAt h' fa D nm5 [.str x t1,.ref ad,.str "" t2,.str "" t3,.ref ka]->h'.PlainList ka #[]->(∀b o,b≠fa->s.heap.get? b=Qf o->h'.get? b=Qf o)->s.heap.get? D=Qg->s.heap.get? ka=Qg->D≠ka->HidOk c ([D]++Yc) g D->Fm c ([D]++Yc) g { s with heap:=h',toks:=tk }->Q .next { s with heap:=h',toks:=tk })
  (hn:∀env:Env,(Vx [.Attribute (.Name "node" p1) "tag" q1,.Attribute (.Name "node" p2) "attrib" q2,.Attribute (.Name "node" p3) "text" q3,.Attribute (.Name "node" p4) "tail" q4,.Attribute (.Name "node" p5) "kids" q5] env).length=5:=by intro _;rfl)
  (hst:∀env:Env,(Vx [.Attribute (.Name "node" p1) "tag" q1,.Attribute (.Name "node" p2) "attrib" q2,.Attribute (.Name "node" p3) "text" q3,.Attribute (.Name "node" p4) "tail" q4,.Attribute (.Name "node" p5) "kids" q5] env).findIdx? (·.1)=Option.none:=by intro _;rfl)
  (hs:XC [.Tuple [.Attribute (.Name "node" p1) "tag" q1,.Attribute (.Name "node" p2) "attrib" q2,.Attribute (.Name "node" p3) "text" q3,.Attribute (.Name "node" p4) "tail" q4,.Attribute (.Name "node" p5) "kids" q5] k tp] (.Tuple [.Name "tag" r1,.Name "attrib" r2,.Constant (.str "") k3 r3,.Constant (.str "") k4 r4,.List [] r5] k' vp) pos.line c.env=pure false:=by rfl)
  (hw:Xl [.Tuple [.Attribute (.Name "node" p1) "tag" q1,.Attribute (.Name "node" p2) "attrib" q2,.Attribute (.Name "node" p3) "text" q3,.Attribute (.Name "node" p4) "tail" q4,.Attribute (.Name "node" p5) "kids" q5] k tp] (.Tuple [.Name "tag" r1,.Name "attrib" r2,.Constant (.str "") k3 r3,.Constant (.str "") k4 r4,.List [] r5] k' vp) c.env=pure Option.none:=by rfl) :
  Qo c.M c.A (exec (.Assign [.Tuple [.Attribute (.Name "node" p1) "tag" q1,.Attribute (.Name "node" p2) "attrib" q2,.Attribute (.Name "node" p3) "text" q3,.Attribute (.Name "node" p4) "tail" q4,.Attribute (.Name "node" p5) "kids" q5] k tp] (.Tuple [.Name "tag" r1,.Name "attrib" r2,.Constant (.str "") k3 r3,.Constant (.str "") k4 r4,.List [] r5] k' vp) pos) c.env) Q E s:=by
 have b1:PE c (.Name "tag" r1) (.str x):=.var 0 f.kind (by rw [hv];rfl) (by rw [hσ];rfl) (by decide) (by decide)
 have b2:PE c (.Name "attrib" r2) (.raw (.ref ad)):=.var 1 f.kind (by rw [hv];rfl) (by rw [hσ];rfl) (by decide) (by decide)
 have c5:5<=sizeLine:=by decide
 refine Assign_Tuple (Tuple_ (Qq (b1.use (f.at ht) λv1 s1 k1 x1 e1=>?_))) hs hw
 refine Qq (b2.use x1 λv2 s2 k2 x2 e2=>?_)
 refine Qq ((PE.str (x:="") (k:=k3) (pos:=r3)).use x2 λv3 s3 k3 x3 e3=>?_)
 refine Qq ((PE.str (x:="") (k:=k4) (pos:=r4)).use x3 λv4 s4 k4 x4 e4=>?_)
 refine Qq (List_ (QK (V1 ?_ (Vj _))))
 refine QK (V1 ?_ ?_)
 rotate_left
 ·exact c5
 (refine jd (jj e1) ?_;rintro t1 rfl)
 obtain rfl:=jb e2
 (refine jd (jj e3) ?_;rintro t3 rfl)
 (refine jd (jj e4) ?_;rintro t4 rfl)
 have f4:=f.keeps (ktr k1 (ktr k2 (ktr k3 k4)))
 have ht4:1<=s4.toks:=x4.tk
 obtain⟨h4,tk4,rfl,kk4⟩:Vb s s4:=ktr k1 (ktr k2 (ktr k3 k4))
 clear k1 k2 k3 k4 x1 x2 x3 x4 b1 b2
 have ho4:=kk4 _ _ ho
 refine Y6 hh ⟨_,Qs _ rfl,rfl,0,rfl⟩ (hn _) (hst _) λh5 hx5=>?_
 have kk:∀b o,h4.get? b=Qf o->h5.get? b=Qf o:=λb o e=>hx5 b o (QR (jg (j7 _ _ (j7 _ _ e)))) (j7 _ _ (j7 _ _ e))
 have hka:h5.get? h4.objs.size=Qf { cls:=.type "list",data:=.seq #[] 0 }:=hx5 _ _ (QR (jg (j7 _ _ (Qs _ rfl)))) (j7 _ _ (Qs _ rfl))
 have nka:s.heap.get? h4.objs.size=Option.none:=by
  cases q:s.heap.get? h4.objs.size with
  | none=>rfl
  | some o=>have:=kk4 _ _ q;rw [jm]at this;exact no1 this
 generalize hg:h4.objs.size=ka at hka nka ⊢
 have k05:∀b o,s.heap.get? b=Qf o->h5.get? b=Qf o:=λb o e=>kk b o (kk4 b o e)
 have f5:Fm c Yc g { s with heap:=h5,toks:=tk4 }:=f4.keeps (ja kk)
 refine V8 (Kd f5 ht4 H (kk _ _ ho4) 2 (by rw [hσ];rfl) (by rw [hv];rfl) (by decide) (by decide) (.inl rfl) λh6 tk6 D ht6 P6 k6 nD HD f6=>?_)
 have neD:D≠ka:=λq=>by
  have q2:h5.get? ka=Option.none:=q▸nD
  rw [q2]at hka;exact no1 hka
 have nD0:s.heap.get? D=Option.none:=by
  cases q:s.heap.get? D with
  | none=>rfl
  | some o=>have:=k05 _ _ q;rw [show h5.get? D=Qg from nD]at this;exact no1 this
 have nf:fa≠ka:=λq=>by rw [q]at ho;rw [nka]at ho;exact no1 ho
 refine V8 (qx f6 ht6 HD P6 2 (by rw [hσ];rfl) (by rw [hv];rfl) (by decide) (by decide) (by decide) (by decide) (.inr (.inl rfl)) λh7 tk7 ht7 P7 k7 f7=>?_)
 refine V8 (qx f7 ht7 HD P7 2 (by rw [hσ];rfl) (by rw [hv];rfl) (by decide) (by decide) (by decide) (by decide) (.inr (.inr (.inl rfl))) λh8 tk8 ht8 P8 k8 f8=>?_)
 refine V8 (qx f8 ht8 HD P8 2 (by rw [hσ];rfl) (by rw [hv];rfl) (by decide) (by decide) (by decide) (by decide) (.inr (.inr (.inr (.inl rfl)))) λh9 tk9 ht9 P9 k9 f9=>?_)
 refine V8 (qx f9 ht9 HD P9 2 (by rw [hσ];rfl) (by rw [hv];rfl) (by decide) (by decide) (by decide) (by decide) (.inr (.inr (.inr (.inr (.inl rfl))))) λh10 tk10 ht10 P10 k10 f10=>Xe ?_)
 have same:∀b o,b≠fa->b≠D->h5.get? b=Qf o->h10.get? b=Qf o:=λb o n1 n2 e=>(k10.2 b n2).trans ((k9.2 b n2).trans ((k8.2 b n2).trans ((k7.2 b n2).trans (k6 b o n1 e))))
 exact h h10 tk10 D ka t1 t3 t4 ht10 P10 ⟨0,same _ _ nf.symm neD.symm hka⟩ (λb o n e=>same b o n (λq=>by rw [q,nD0]at e;exact no1 e) (k05 b o e)) nD0 nka neD HD f10
end
section
variable {c:Ct} {Yc:List Qk} {g s:Qi}
noncomputable abbrev nm7:List Qd:=nm5++[("makeelement" : Qd)]++[("append" : Qd)]
theorem node_two{n:Nat}{mg mb:Qd->Option Qm}{E:Qe}{Q:Flow->Qi->Prop}{fa D ka ln:Qk}{u1 u2 u3 u4:Qm}{p1 p2 q1 q2 r1 r2 r3 r4 tp vp pos:Pos}{k k':Nat}(G:Gd c n mg mb)(hln:mg "_law_node"=Qf (.ref ln))(hgl:c.env.kindOf "_law_node"=Qf .globalImplicit)(hv:c.vars=(["tag","attrib","node"]:List Qd)){o1 o2:Option AV}(hσ:c.σ=[o1,o2,Qf (.raw (.ref fa))])(f:Fm c Yc g s)(ht:1<=s.toks)(H:HidOk c Yc g D)(P:FnAt s.heap fa D nm5 [u1,u2,u3,u4,.ref ka])(hk:s.heap.PlainList ka #[])
  (h:∀h' tk b,1<=tk->FnAt h' fa D nm7 [u1,u2,u3,u4,.ref ka,.ref ln,.ref b]->h'.get? b=Qf (jv ka)->s.heap.get? b=Qg->Heap.ExtBut D s.heap h'->Fm c Yc g { s with heap:=h',toks:=tk }->Q .next { s with heap:=h',toks:=tk })
  (hn:∀env:Env,(Vx [.Attribute (.Name "node" p1) "makeelement" q1,.Attribute (.Name "node" p2) "append" q2] env).length=2:=by intro _;rfl)
  (hst:∀env:Env,(Vx [.Attribute (.Name "node" p1) "makeelement" q1,.Attribute (.Name "node" p2) "append" q2] env).findIdx? (·.1)=Option.none:=by intro _;rfl)
  (hs:XC [.Tuple [.Attribute (.Name "node" p1) "makeelement" q1,.Attribute (.Name "node" p2) "append" q2] k tp] (.Tuple [.Name "_law_node" r1,.Attribute (.Attribute (.Name "node" r2) "kids" r3) "append" r4] k' vp) pos.line c.env=pure false:=by rfl)
  (hw:Xl [.Tuple [.Attribute (.Name "node" p1) "makeelement" q1,.Attribute (.Name "node" p2) "append" q2] k tp] (.Tuple [.Name "_law_node" r1,.Attribute (.Attribute (.Name "node" r2) "kids" r3) "append" r4] k' vp) c.env=pure Option.none:=by rfl) :
  Qo c.M c.A (exec (.Assign [.Tuple [.Attribute (.Name "node" p1) "makeelement" q1,.Attribute (.Name "node" p2) "append" q2] k tp] (.Tuple [.Name "_law_node" r1,.Attribute (.Attribute (.Name "node" r2) "kids" r3) "append" r4] k' vp) pos) c.env) Q E s:=by
 have b1:PE c (.Name "_law_node" r1) (.raw (.ref ln)):=.glob G hln hgl (by decide)
 have hi2:c.vars[2]?=Qf ("node" : Qd):=by rw [hv];rfl
 have hs2:c.σ[2]?=Qf (Qf (.raw (.ref fa))):=by rw [hσ];rfl
 have c2:2<=sizeLine:=by decide
 refine Assign_Tuple (Tuple_ (Qq (b1.use (f.at ht) λv1 s1 k1 x1 e1=>?_))) hs hw
 obtain rfl:=jb e1
 have f1:=f.keeps k1
 (refine jn k1 ?_;clear k1;rintro h1 tk1 rfl kk1)
 (refine jd hk ?_;intro nk hko)
 refine Qq (Y8 (Y8 (kr 2 hs2 f.kind hi2 (by decide) (by decide) x1 λu r=>?_)))
 obtain rfl:=jb (r.rep rfl)
 refine vH (P.keeps kk1) 4 rfl rfl (by decide) rfl (.inr (.inr (.inr (.inr (.inl rfl))))) ?_
 refine ls_get (kk1 _ _ hko) ?_
 refine QK (V1 ?_ ?_)
 rotate_left
 ·exact c2
 generalize hb:h1.objs.size=b
 refine Y6 G.room.1 ⟨_,Qs _ rfl,rfl,0,rfl⟩ (hn _) (hst _) λh5 hx5=>?_
 have kk:∀b o,h1.get? b=Qf o->h5.get? b=Qf o:=λb o e=>hx5 b o (QR (jg (j7 _ _ (j7 _ _ e)))) (j7 _ _ (j7 _ _ e))
 have hbo:h5.get? b=Qf (jv ka):=hb▸hx5 _ _ (QR (jg (j7 _ _ (Qs _ rfl)))) (j7 _ _ (Qs _ rfl))
 have nb:s.heap.get? b=Option.none:=by
  cases q:s.heap.get? b with
  | none=>rfl
  | some o=>have:=kk1 _ _ q;rw [<-hb,jm]at this;exact no1 this
 have k05:∀b o,s.heap.get? b=Qf o->h5.get? b=Qf o:=λb o e=>kk b o (kk1 b o e)
 have f5:Fm c Yc g { s with heap:=h5,toks:=tk1+1+1 }:=f.keeps ⟨h5,_,rfl,k05⟩
 refine V8 (qx f5 (Vn _) H (P.keeps k05) 2 hs2 hi2 (by decide) (by decide) (by decide) (by decide) (.inr (.inr (.inr (.inr (.inr (.inl rfl)))))) λh6 tk6 ht6 P6 k6 f6=>?_)
 refine V8 (qx f6 ht6 H P6 2 hs2 hi2 (by decide) (by decide) (by decide) (by decide) (.inr (.inr (.inr (.inr (.inr (.inr (.inl rfl))))))) λh7 tk7 ht7 P7 k7 f7=>Xe ?_)
 have neb:b≠D:=λq=>by
  obtain⟨_,es,n,e,_⟩:=P
  rw [q,e]at nb;exact no2 nb
 exact h h7 tk7 b ht7 P7 ((k7.2 b neb).trans ((k6.2 b neb).trans hbo)) nb (λa o n e=>(k7.2 a n).trans ((k6.2 a n).trans (k05 a o e))) f7
theorem Fm.cellAt(f:Fm c Yc g s){i:Nat}{x:Qd}{v:Qm}(hi:c.vars[i]?=Qf x)(hs:c.σ[i]?=Qf (Qf (.raw v)))(hk:c.env.kindOf x=Qf .cell):∃a,c.env.cells.lookup x=Qf a/\s.heap.IsCell a (Qf v):=by
 (refine jn f.fr ?_;intro m cm ic lk)
 (refine jc (lk i x _ hi hs) ?_;rintro u r (q | ⟨q1,q2,q3⟩))
 ·rw [hk]at q;cases q.1
 ·obtain rfl:=jb (r.rep rfl)
  (refine jd (Vz.mp q3) ?_;intro a ha)
  exact⟨a,ha,q2▸ic.cell x a ha⟩
theorem node_lam{w:Ql}{n:Nat}{E:Qe}{Q:Flow->Qi->Prop}{fa D ca:Qk}{vals:List Qm}{p1 q1 pos lp:Pos}{params:Arguments}{body:Expr}{scope:Scope}(hw:c.w=w)(hB:c.B=Bh w)(G:Gd c n (mg w) (mb w))(hv:c.vars=(["tag","attrib","node"]:List Qd)){o1 o2:Option AV}(hσ:c.σ=[o1,o2,Qf (.raw (.ref fa))])(f:Fm c Yc g s)(ht:1<=s.toks)(H:HidOk c Yc g D)(H1:HidOk c Yc g 171)(P:FnAt s.heap fa D nm7 vals)(T:TabOk s.heap)
  (hcl:closureFor scope c.env=pure [(("node" : Qd),ca)]) (hcode:c.env.code=.ref 175) (hq:c.env.qual++"<lambda>"=qn) (hdef:defaultsOf params c.env=([],[]))
  (h:∀h' tk gl cv ctv,1<=tk->FnAt h' fa D (nm7++[("itertext" : Qd)]) (vals++[.ref gl])->h'.get? gl=Qf (kc Qg (kla_fn "<lambda>" qn params body scope [("node",ca)] ((mg w "__name__").getD .none) cv ctv))->h'.CodeRec cv qn->TabOk h'->s.heap.get? gl=Qg ->
   (∀b o,b≠171->b≠D->s.heap.get? b=Qf o->h'.get? b=Qf o)->Fm c ([gl]++Yc) g { s with heap:=h',toks:=tk }->Q .next { s with heap:=h',toks:=tk })
  (hs:VU (.Lambda params body scope lp) (Qf (.Attribute (.Name "node" p1) "itertext" q1)) pos.line c.env=pure false:=by rfl) :
  Qo c.M c.A (exec (.Assign [.Attribute (.Name "node" p1) "itertext" q1] (.Lambda params body scope lp) pos) c.env) Q E s:=by
 subst hw
 have hi2:c.vars[2]?=Qf ("node" : Qd):=by rw [hv];rfl
 have hs2:c.σ[2]?=Qf (Qf (.raw (.ref fa))):=by rw [hσ];rfl
 have hb:∀a o,(Bh c.w).get? a=Qf o->s.heap.get? a=Qf o:=λa o e=>(f.at ht).base a o (hB▸e)
 refine Xx (mkLam (w:=c.w) hb T ht hcl G.glob hcode hq hdef λh₂ tk₂ gl cv ctv ht₂ k₂ hgl ho hcr T₂=>?_) hs
 have ngl:s.heap.get? gl=none:=X5 hgl
 have f₂:Fm c ([gl]++Yc) g { s with heap:=h₂,toks:=tk₂ }:=f.evo (M:=[171]) (W:=[gl]) (λm hm=>by obtain rfl:=Q9 hm;exact⟨H1.mem,H1.dead,H1.nl,H1.nc⟩) (λm hm=>by obtain rfl:=Q9 hm;(refine jc T₂ ?_;intro ps e _);exact⟨_,e⟩)
  (λb o hb e=>k₂ b o (λq=>hb (q▸.head _)) e) (λb hb=>by obtain rfl:=Q9 hb;exact⟨ngl,_,ho⟩)
 have tabn:∀ {a:Qk} {o:Obj},s.heap.get? a=Qf o->(∀vs,o.data≠.fields vs)->a≠171:=λ{a o} e n q=>by
  (refine jc T ?_;intro ps e' _)
  rw [q,e']at e;(have q_:=oi e;clear e;subst q_);exact n _ rfl
 have P₂:FnAt h₂ fa D nm7 vals:=P.at λb hb o e=>k₂ b o (by
  obtain⟨⟨fd,e1⟩,es,n,e2,_⟩:=P
  rcases hb with rfl | rfl
  ·exact tabn e1 (λvs q=>by cases q)
  ·exact tabn e2 (λvs q=>by cases q)) e
 refine kr 2 hs2 f.kind hi2 (by decide) (by decide) (f₂.at ht₂) λu r=>?_
 obtain rfl:=jb (r.rep rfl)
 have nD:gl≠D:=λq=>by obtain⟨_,es,n,e,_⟩:=P;rw [<-q,ngl]at e;exact no1 e
 refine Ja P₂ (by decide) (by decide) (.inr (.inr (.inr (.inr (.inr (.inr (.inr rfl))))))) λh₃ tk₃ ht₃ P₃ sb=>?_
 refine h h₃ tk₃ gl cv ctv ht₃ P₃ ((sb.2 _ nD).trans ho) ?_ ?_ ngl (λb o n1 n2 e=>(sb.2 b n2).trans (k₂ b o n1 e)) (f₂.but1 (H.more [gl]) (let ⟨_,es,n,e,_⟩:=P₃;⟨_,e⟩) sb)
 ·refine e4_4 hcr ?_;intro cd o vs t e1 e2 e3 e4
  refine⟨cd,o,vs,t,e1,(sb.2 _ λq=>?_).trans e2,e3,e4⟩
  obtain⟨_,es,n,e,_⟩:=P₂
  rw [q,e]at e2;(have q_:=oi e2;clear e2;subst q_);cases e3
 ·refine T₂.but (M:=[D]) (λb o hb e=>(sb.2 b λq=>hb (q▸.head _)).trans e) (λm=>?_) λm hm o vs e q=>?_
  ·obtain⟨_,es,n,e,_⟩:=P
   exact tabn e (λvs q=>by cases q) (Q9 m).symm
  ·obtain rfl:=Q9 hm
   obtain⟨_,es,n,e',_⟩:=P₂
   rw [e']at e;(have q_:=oi e;clear e;subst q_);cases q
end
section
variable {c:Ct} {Yc:List Qk} {g s:Qi}
noncomputable abbrev Kp(h h':QU):Prop:=∀b o,b≠171->h.get? b=Qf o->h'.get? b=Qf o
theorem Ke{w:Ql}{n:Nat}{E:Qe}{Q:Qe}{fa ca:Qk}{fd:VF}{x:Qd}{ad:Qk}
  {p1 p2 p3 p4 p5 q1 q2 q3 q4 q5 r1 r2 r3 r4 r5 tp vp pos:Pos} {k k' k3 k4:Nat}
  {p1' p2' q1' q2' r1' r2' r3' r4' tp' vp' pos':Pos} {kk kk':Nat}
  {p1'' q1'' pos'' lp'':Pos} {params:Arguments} {body:Expr} {scope:Scope} {np rp:Pos}
  (hw:c.w=w) (hB:c.B=Bh w) (G:Gd c n (mg w) (mb w)) (hgl:c.env.kindOf "_law_node"=Qf .globalImplicit) (hkn:c.env.kindOf "node"=Qf .cell)
  (hv:c.vars=(["tag","attrib","node"]:List Qd)) (hσ:c.σ=[Qf (.str x),Qf (.raw (.ref ad)),Qf (.raw (.ref fa))]) (f:Fm c Yc g s) (ht:1<=s.toks)
  (H:HidOk c Yc g fa) (H1:HidOk c Yc g 171) (ho:s.heap.get? fa=Qf (kc Qg fd)) (T:TabOk s.heap)
  (hlk:c.env.cells.lookup ("node" : Qd)=Qf ca) (hcl:closureFor scope c.env=pure [(("node" : Qd),ca)]) (hcode:c.env.code=.ref 175) (hq:c.env.qual++"<lambda>"=qn) (hdef:defaultsOf params c.env=([],[]))
  (h:∀(nd:Nd) h' tk t,1<=tk->nd.f=fa->nd.c=ca->(∀b o,b≠171->b≠fa->s.heap.get? b=Qf o->h'.get? b=Qf o)->TabOk h'->(∀a∈[nd.d,nd.k,nd.b,nd.g],s.heap.get? a=Qg) ->
   (∃fd,h'.get? nd.f=Qf (kc (Qf nd.d) fd))->h'.get? nd.b=Qf (jv nd.k)->(∃cv ctv,h'.get? nd.g=Qf (kc Qg (kla_fn "<lambda>" qn params body scope [("node",nd.c)] ((mg w "__name__").getD .none) cv ctv))/\h'.CodeRec cv qn)->h'.IsCell nd.c (Qf (.ref nd.f)) ->
   NdDic h' nd x ad "" (.str "" t)->h'.PlainList nd.k #[]->[nd.f,nd.d,nd.k,nd.b,nd.g].Nodup->Q (.ref nd.f) { s with heap:=h',toks:=tk })
  (hs1:XC [.Tuple [.Attribute (.Name "node" p1) "tag" q1,.Attribute (.Name "node" p2) "attrib" q2,.Attribute (.Name "node" p3) "text" q3,.Attribute (.Name "node" p4) "tail" q4,.Attribute (.Name "node" p5) "kids" q5] k tp] (.Tuple [.Name "tag" r1,.Name "attrib" r2,.Constant (.str "") k3 r3,.Constant (.str "") k4 r4,.List [] r5] k' vp) pos.line c.env=pure false:=by rfl)
  (hw1:Xl [.Tuple [.Attribute (.Name "node" p1) "tag" q1,.Attribute (.Name "node" p2) "attrib" q2,.Attribute (.Name "node" p3) "text" q3,.Attribute (.Name "node" p4) "tail" q4,.Attribute (.Name "node" p5) "kids" q5] k tp] (.Tuple [.Name "tag" r1,.Name "attrib" r2,.Constant (.str "") k3 r3,.Constant (.str "") k4 r4,.List [] r5] k' vp) c.env=pure Option.none:=by rfl)
  (hs2:XC [.Tuple [.Attribute (.Name "node" p1') "makeelement" q1',.Attribute (.Name "node" p2') "append" q2'] kk tp'] (.Tuple [.Name "_law_node" r1',.Attribute (.Attribute (.Name "node" r2') "kids" r3') "append" r4'] kk' vp') pos'.line c.env=pure false:=by rfl)
  (hw2:Xl [.Tuple [.Attribute (.Name "node" p1') "makeelement" q1',.Attribute (.Name "node" p2') "append" q2'] kk tp'] (.Tuple [.Name "_law_node" r1',.Attribute (.Attribute (.Name "node" r2') "kids" r3') "append" r4'] kk' vp') c.env=pure Option.none:=by rfl)
  (hs3:VU (.Lambda params body scope lp'') (Qf (.Attribute (.Name "node" p1'') "itertext" q1'')) pos''.line c.env=pure false:=by rfl) :
  Qo c.M c.A (execs [.Assign [.Tuple [.Attribute (.Name "node" p1) "tag" q1,.Attribute (.Name "node" p2) "attrib" q2,.Attribute (.Name "node" p3) "text" q3,.Attribute (.Name "node" p4) "tail" q4,.Attribute (.Name "node" p5) "kids" q5] k tp] (.Tuple [.Name "tag" r1,.Name "attrib" r2,.Constant (.str "") k3 r3,.Constant (.str "") k4 r4,.List [] r5] k' vp) pos,
   .Assign [.Tuple [.Attribute (.Name "node" p1') "makeelement" q1',.Attribute (.Name "node" p2') "append" q2'] kk tp'] (.Tuple [.Name "_law_node" r1',.Attribute (.Attribute (.Name "node" r2') "kids" r3') "append" r4'] kk' vp') pos',
   .Assign [.Attribute (.Name "node" p1'') "itertext" q1''] (.Lambda params body scope lp'') pos'',
   .Return (Qf (.Name "node" np)) rp] c.env) (λfl s'=>match fl with | .ret v=>Q v s' | .next=>Q .none s' | _=>False) E s:=by
 have tabn:∀ {h:QU} {a:Qk} {o:Obj},TabOk h->h.get? a=Qf o->(∀vs,o.data≠.fields vs)->a≠171:=λ{h a o} T e n q=>by
  (refine jc T ?_;intro ps e' _)
  rw [q,e']at e;(have q_:=oi e;clear e;subst q_);exact n _ rfl
 have nfa:fa≠171:=tabn T ho (λvs q=>by cases q)
 refine QF (node_tup G.room.1 hv hσ f ht H ho (λh1 tk1 D ka t1 t2 t3 ht1 P1 hk1 kk1 nD nka nDk HD f1=>?_) (by intro _;rfl) (by intro _;rfl) hs1 hw1)
 have nD1:D≠171:=by
  obtain⟨_,es,n,e,_⟩:=P1
  intro q;(refine jc T ?_;intro ps e' _);rw [q,e']at nD;exact no2 nD
 have T1:TabOk h1:=T.but (M:=[fa]) (λb o hb e=>kk1 b o (λq=>hb (q▸.head _)) e) (λm=>nfa (Q9 m).symm) λm hm o vs e q=>by
  obtain rfl:=Q9 hm
  rw [ho]at e;(have q_:=oi e;clear e;subst q_);cases q
 refine QF (node_two G (g_node w) hgl hv hσ f1 ht1 HD P1 hk1 (λh2 tk2 b ht2 P2 hb2 nb2 x2 f2=>?_) (by intro _;rfl) (by intro _;rfl) hs2 hw2)
 have T2:TabOk h2:=T1.but (M:=[D]) (λb o hb e=>x2 b o (λq=>hb (q▸.head _)) e) (λm=>nD1 (Q9 m).symm) λm hm o vs e q=>by
  obtain rfl:=Q9 hm
  obtain⟨_,es,n,e',_⟩:=P1
  rw [show h1.get? m=Qf o from e]at e';(have q_:=oi e';clear e';subst q_);cases q
 refine QF (node_lam hw hB G hv hσ f2 ht2 HD (H1.more [D]) P2 T2 hcl hcode hq hdef (λh3 tk3 gl cv ctv ht3 P3 ho3 hcr T3 ngl k3 f3=>?_) hs3)
 have hi2:c.vars[2]?=Qf ("node" : Qd):=by rw [hv];rfl
 have hs2:c.σ[2]?=Qf (Qf (.raw (.ref fa))):=by rw [hσ];rfl
 (refine jc (f3.cellAt hi2 hs2 hkn) ?_;intro ca' hlk' hce)
 obtain rfl:ca=ca':=oi (hlk.symm.trans hlk')
 have hbD:b≠D:=λq=>by obtain⟨_,es,n,e,_⟩:=P1;rw [q]at nb2;rw [show h1.get? D=Qg from nb2]at e;exact no1 e
 have nb171:b≠171:=λq=>by(refine jc T1 ?_;intro ps e _);rw [q]at nb2;rw [show h1.get? 171=Qg from nb2]at e;exact no1 e
 have nka171:ka≠171:=λq=>by(refine jc T ?_;intro ps e _);rw [q,e]at nka;exact no2 nka
 have up:∀b o,b≠fa->s.heap.get? b=Qf o->h1.get? b=Qf o:=kk1
 have nb0:s.heap.get? b=none:=by
  cases q:s.heap.get? b with
  | none=>rfl
  | some o =>
   by_cases e:b=fa
   ·have e1:=f1.kept
    (refine jw P1 ?_;clear P1;rintro⟨_,e2⟩ _)
    rw [e]at nb2;rw [show h1.get? fa=Qg from nb2]at e2;exact no1 e2
   ·have:=up b o e q;rw [show h1.get? b=Qg from nb2]at this;exact no1 this
 have ngl0:s.heap.get? gl=none:=by
  cases q:s.heap.get? gl with
  | none=>rfl
  | some o =>
   by_cases e:gl=fa
   ·(refine jw P2 ?_;clear P2;rintro⟨_,e2⟩ _)
    rw [e]at ngl;rw [show h2.get? fa=Qg from ngl]at e2;exact no1 e2
   ·have e1:=up gl o e q
    have e3:h2.get? gl=Qf o:=x2 gl o (λq'=>by rw [q',nD]at q;exact no1 q) e1
    rw [show h2.get? gl=Qg from ngl]at e3;exact no1 e3
 have fk:∀ {a:Qk},s.heap.get? a=Qg->fa≠a:=λ{a} e q=>by rw [<-q,ho]at e;exact no2 e
 refine QF (YH (kr 2 hs2 f.kind hi2 (by decide) (by decide) (f3.at ht3) λu r=>?_))
 obtain rfl:=jb (r.rep rfl)
 have ne_b_ka:b≠ka:=λq=>by(refine jd hk1 ?_;intro n e);rw [q]at nb2;rw [show h1.get? ka=Qg from nb2]at e;exact no1 e
 have ngk:∀ {a:Qk} {o:Obj},h2.get? a=Qf o->gl≠a:=λ{a o} e q=>by rw [<-q]at e;rw [show h2.get? gl=Qg from ngl]at e;exact no1 e
 (refine jd hk1 ?_;intro nk hko1)
 have hko2:h2.get? ka=Qf { cls:=.type "list",data:=.seq #[] nk }:=x2 _ _ nDk.symm hko1
 obtain⟨⟨fd2,ef2⟩,es2,n2,eD2,_⟩:=P2
 have hb3:h3.get? b=Qf (jv ka):=k3 _ _ nb171 hbD hb2
 obtain⟨hfo3,es3,n3,eD3,ek3,ev3⟩:=P3
 refine h ⟨fa,D,ka,b,gl,ca⟩ h3 tk3 t3 ht3 rfl rfl (λa o n1 n2 e=>?_) T3 ?_ hfo3 hb3 ⟨cv,ctv,ho3,hcr⟩ hce ⟨es3,n3,t1,t2,eD3,ek3,?_⟩ ⟨nk,k3 _ _ nka171 nDk.symm hko2⟩ ?_
 ·have nDa:a≠D:=λq=>by rw [q,nD]at e;exact no1 e
  exact k3 a o n1 nDa (x2 a o nDa (kk1 a o n2 e))
 ·intro a ha
  simp only [QD,QG,or_false]at ha
  rcases ha with rfl | rfl | rfl | rfl
  ·exact nD
  ·exact nka
  ·exact nb0
  ·exact ngl0
 ·rw [ev3];rfl
 ·simp only [Yi,QD,QG,or_false,not_or,Zo,and_true,not_false_eq_true]
  exact⟨⟨fk nD,fk nka,fk nb0,fk ngl0⟩,⟨nDk,hbD.symm,(ngk eD2).symm⟩,⟨ne_b_ka.symm,(ngk hko2).symm⟩,(ngk hb2).symm⟩
end
theorem d176(w:Ql):∃body,Df (Bh w) 176 (o_186 w.params) (Q5 w) body ["tag","attrib"] ["node"]/\(Q5 w).body=.stmts body:=by
 refine⟨_,⟨b_176 w,rfl,rfl,rfl,ji (by kernel_rfl),n176 w,λvs h=>?_⟩,rfl⟩
 (refine jN (qc h) ?_;rintro u v rfl);rfl
theorem Kf{w:Ql}{prog:QI}{A:QO}{n:Nat}{X:List Qk}{s:Qi}{E:Qe}{Q:Qe}{x:Qd}{ad:Qk}{t0:Tok}(room:Room (n+1) A)
  (hB:∀a o,(Bh w).get? a=Qf o->s.heap.get? a=Qf o) (hX:∀x∈X,∃o,s.heap.get? x=Qf o) (h171:171∈X) (htk:1<=s.toks) (T:TabOk s.heap)
  (h:∀(nd:Nd) h' tk t,1<=tk->Kp s.heap h'->TabOk h'->(∀a∈[nd.f,nd.d,nd.k,nd.b,nd.g,nd.c],s.heap.get? a=Qg)->[nd.f,nd.d,nd.k,nd.b,nd.g].Nodup->NdFix w h' nd->NdDic h' nd x ad "" (.str "" t)->h'.PlainList nd.k #[]->Q (.ref nd.f) { s with heap:=h',toks:=tk }) :
  Qo (model prog w) A (call (.ref 176) [.str x t0,.ref ad]) Q E s:=by
 (refine jc (d176 w) ?_;intro body D hbody)
 refine yc [171] D room (avs:=[.str x,.raw (.ref ad)]) rfl hB (λm hm=>by obtain rfl:=Q9 hm;exact Jn w) hX htk (.cons vq (.cons vC .nil)) λE' s₁ ht₁ ks f₁=>?_
 have hsz:176<s.heap.objs.size:=jg (hB _ _ (b_176 w))
 have V:=(n176 w).cV (a:=176) (prog:=prog) (w:=w) (A:=A) (L:=s.heap.objs.size)
 have G:=(n176 w).cG (a:=176) (w:=w) (prog:=prog) (L:=s.heap.objs.size) room rfl rfl
 cases hbody
 have g171:(qq s [171]).heap.get? 171=none:=Zu _ (.head _)
 have H1:HidOk (cx (Q5 w) 176 v176 prog w A s.heap.objs.size [] [Qf (.str x),Qf (.raw (.ref ad)),Qg]) X (qq s [171]) 171:=by
  refine⟨h171,g171,QR (Zn (by decide) hsz),λm=>?_⟩
  (refine jc (Qw.mp m) ?_;intro p hp e)
  have:=(jA (show p∈Vd (s.heap.objs.size+1) (Q5 w).scope.names []from hp)).2
  rw [e]at this
  exact absurd (Zn (show(171:Nat)<176 by decide) hsz) (VS.mpr (Qp (YO _) this))
 (refine jn ks ?_;clear ks;rintro h₁ tk₁ rfl kk₁)
 refine QF (X4 (mkLam (w:=w) (λa o e=>kk₁ _ _ (hB a o e)) (T.keeps kk₁) ht₁ rfl rfl rfl (by kernel_rfl) rfl λh₂ tk₂ fa cv ctv ht₂ k₂ hfa ho hcr T₂=>?_) rfl)
 have nfa:h₁.get? fa=none:=X5 hfa
 have f₂:Fm (cx (Q5 w) 176 v176 prog w A s.heap.objs.size [] [Qf (.str x),Qf (.raw (.ref ad)),Qg]) ([fa]++X) (qq s [171]) { s with heap:=h₂,toks:=tk₂ }:=by
  refine f₁.evo (M:=[171]) (W:=[fa]) (λm hm=>?_) (λm hm=>?_) (λb o hb e=>k₂ b o (by simpa using hb) e) (λb hb=>?_)
  ·obtain rfl:=Q9 hm
   exact⟨H1.mem,H1.dead,H1.nl,H1.nc⟩
  ·obtain rfl:=Q9 hm
   (refine jc T₂ ?_;intro ps e _);exact⟨_,e⟩
  ·obtain rfl:=Q9 hb
   exact⟨nfa,_,ho⟩
 have Hfa:=HidOk.new (W:=[fa]) f₁ (.head _) nfa
 refine QB (n:=1) ht₂ (f₂.storeK (V _ _) (i:=2) rfl (.of (av:=.raw (.ref fa)) vC) λs₃ g₃ same₃ f₃ ht₃=>?_)
 have ho₃:=(same₃ fa Hfa.nl Hfa.nc).trans ho
 have T₃:TabOk s₃.heap:=by
  (refine jn f₂.fr ?_;intro m₂ cm₂ ic₂ _)
  refine T₂.but (M:=s.heap.objs.size::(Vd (s.heap.objs.size+1) (Q5 w).scope.names []).map (·.2)) (λb o hb e=>?_) ?_ ?_
  ·exact(same₃ b (λq=>hb (q▸.head _)) λm=>hb (.tail _ m)).trans e
  ·intro m
   rcases Qb m with m | m
   ·exact H1.nl m
   ·exact H1.nc m
  ·intro m hm o vs e q
   rcases Qb hm with rfl | hm
   ·(refine JM ic₂.toInCall.ns ?_;intro o' es ep e' hd _)
    obtain rfl:o=o':=oi (e.symm.trans e')
    rw [hd]at q;cases q
   ·(refine jc (Qw.mp hm) ?_;rintro⟨nm,a⟩ hp rfl)
    (refine jc (ic₂.cell nm a (kC f₂.cnd hp)) ?_;intro o' e' hd)
    obtain rfl:o=o':=oi (e.symm.trans e')
    rw [hd]at q;cases q
 have keep3:Kp s.heap s₃.heap:=λb o hb e=>by
  have e2:=k₂ b o hb (kk₁ b o e)
  have hlt:=jg e
  refine(same₃ b (QR hlt) λm=>?_).trans e2
  (refine jc (Qw.mp m) ?_;intro p hp e')
  have:=(jA (show p∈Vd (s.heap.objs.size+1) (Q5 w).scope.names []from hp)).2
  rw [e']at this
  exact absurd hlt (VS.mpr (Qp (YO _) this))
 (refine jn g₃ ?_;clear g₃;rintro h₃ tk₃ rfl _)
 have nfa0:s.heap.get? fa=none:=by
  cases q:s.heap.get? fa with
  | none=>rfl
  | some o=>have:=kk₁ _ _ q;rw [nfa]at this;exact no1 this
 refine Ke (w:=w) (ca:=s.heap.objs.size+1) rfl rfl (G _ _) rfl rfl rfl rfl f₃ ht₃ ⟨Hfa.mem,Hfa.dead,Hfa.nl,Hfa.nc⟩ ⟨(H1.more [fa]).mem,H1.dead,H1.nl,H1.nc⟩ ho₃ T₃ rfl (qZ rfl) rfl (by kernel_rfl) rfl λnd h' tk t ht' e1 e2 kp T' dead' fo bo go ce dic kl nod=>?_
 refine h nd h' tk t ht' (λb o hb e=>kp b o hb (λq=>by rw [q,nfa0]at e;exact no1 e) (keep3 b o hb e)) T' (λa ha=>?_) nod ⟨fo,bo,go,ce⟩ dic kl
 have dn:∀ {a:Qk},a≠171->h₃.get? a=Qg->s.heap.get? a=none:=λ{a} n e=>by
  cases q:s.heap.get? a with
  | none=>rfl
  | some o=>have:=keep3 a o n q;rw [e]at this;exact no1 this
 have n171:∀ {a:Qk},h₃.get? a=Qg->a≠171:=λ{a} e q=>by(refine jc T₃ ?_;intro ps e' _);rw [q]at e;rw [show h₃.get? 171=Qg from e]at e';exact no1 e'
 simp only [QD,QG,or_false]at ha
 rcases ha with rfl | rfl | rfl | rfl | rfl | rfl
 ·rw [e1];exact nfa0
 ·exact dn (n171 (dead' _ (.head _))) (dead' _ (.head _))
 ·exact dn (n171 (dead' _ (.tail _ (.head _)))) (dead' _ (.tail _ (.head _)))
 ·exact dn (n171 (dead' _ (.tail _ (.tail _ (.head _))))) (dead' _ (.tail _ (.tail _ (.head _))))
 ·exact dn (n171 (dead' _ (.tail _ (.tail _ (.tail _ (.head _)))))) (dead' _ (.tail _ (.tail _ (.tail _ (.head _)))))
 ·rw [e2];exact X5 (YO _)
section
open Builtin
section
variable {prog:QI} {w:Ql} {A:QO} {E:Qe} {s:Qi}
noncomputable abbrev p120(p1 p2 p3 p4:Pos)(dflt:List Expr):Arguments:={ posonlyargs:=[],args:=[{ arg:="parent",annotation:=Qg,pos:=p1 },{ arg:="tag",annotation:=Qg,pos:=p2 },{ arg:="attrib",annotation:=Qg,pos:=p3 }],vararg:=Qg,kwonlyargs:=[],kw_defaults:=[],kwarg:=Qf { arg:="extra",annotation:=Qg,pos:=p4 },defaults:=dflt }
theorem ns_set{d:Qk}{es:List VJ}{n:Nat}{name:Qd}{v:Qm}{Q:Unit->Qi->Prop}(hD:s.heap.get? d=Qf (Vh es n))(hr:es.any (·.refKey)=false)(hz:es.length+1<=1000)
  (hq:∀h' tk,h'.get? d=Qf (Vh (putL name (VD w.params name) (.str name tk) v es) (putN name es n))->V9 d s.heap h'->Q () { s with heap:=h',toks:=tk+1 }) :
  Qo (model prog w) A (nsSet d name v) Q E s:=by
 have ep:=putName_dict name (VD w.params name) (.str name s.toks) v es n
 have D':(s.heap.update d (Obj.putName name (VD w.params name) (.str name s.toks) v)).get? d=Qf (Vh (putL name (VD w.params name) (.str name s.toks) v es) (putN name es n)):=by
  rw [VP _ hD (by rw [ep];rfl),ep]
 unfold nsSet
 refine Qh (Qh (wpAny_askSetting (Qn (Qh (wpAny_mkText (Qh (wpAny_loadPart hD ?_)))))))
 dsimp only
 have cc:(!es.toArray.any (·.key.isStr name)&&es.toArray.any (·.refKey))=false:=by simp [hr]
 rw [aRefKeyMayBeTheName_at,cc]
 refine wpAny_updatePart hD ?_
 exact hq _ _ D' (VH ..)
theorem dict1{h:QU}{d:Qk}{name:Qd}{v:Qm}{tk n:Nat}(e:h.get? d=Qf (Vh (putL name (VD w.params name) (.str name tk) v []) n)):h.DictOf (QH prog w) d [(name,v)] :=
 Heap.dictOf_iff.mpr ⟨_,e,kp_isDict (ex:=[(name,v)]) tk n (by simp)⟩
theorem Jy{h:QU}{d:Qk}{n:Nat}(e:h.get? d=Qf (Vh [] n)):h.DictOf (QH prog w) d [] :=
 Heap.dictOf_iff.mpr ⟨_,e,kp_isDict (ex:=[]) 0 n (by decide)⟩
noncomputable abbrev binds120(p t a:Qm)(d:Qk):List (Qd×Qm):=[("parent",p),("tag",t),("attrib",a),("extra",.ref d)]
theorem castQ{α:Type}{Q:α->Qi->Prop}{a b:α}{s:Qi}(h:Q a s)(e:b=a):Q b s:=e▸h
noncomputable def JH(prog:QI)(w:Ql)(A:QO)(fd:VF)(args:Args)(p t a:Qm)(ex:List (Qd×Qm))(s:Qi):Prop :=
 ∀(E:Qe) (Q:List (Qd×Qm)->Qi->Prop),(∀h' tk d,s.heap.get? d=Qg->h'.DictOf (QH prog w) d ex->(∀b o,s.heap.get? b=Qf o->h'.get? b=Qf o)->Q (binds120 p t a d) { s with heap:=h',toks:=tk })->Qo (model prog w) A (bindArgs fd args) Q E s
theorem bindA{fd:VF}{p1 p2 p3 p4:Pos}{dflt:List Expr}{D0:Qk}{d0 p t a v:Qm}(hp:fd.params=p120 p1 p2 p3 p4 dflt)(hd:fd.defaults=.ref D0){n0:Nat}(h0:s.heap.get? D0=Qf { cls:=.type "tuple",data:=.seq #[d0] n0 }) :
  JH prog w A fd ⟨[p,t,a],[("place",v)]⟩ p t a [("place",v)] s:=λE Q h=>by
 have N:∀ {Q:Unit->Qi->Prop},(∀h' tk,h'.get? s.heap.objs.size=Qf (Vh (putL "place" (VD w.params "place") (.str "place" tk) v []) (putN "place" [] 0))->V9 s.heap.objs.size (s.heap.push { cls:=.type "dict",data:=.dict #[] }) h'->Q () { s with heap:=h',toks:=tk+1 })->Qo (model prog w) A (nsSet s.heap.objs.size "place" v) Q E { s with heap:=s.heap.push { cls:=.type "dict",data:=.dict #[] } }:=λ{Q} k =>
  ns_set (s:={ s with heap:=s.heap.push { cls:=.type "dict",data:=.dict #[] } }) (es:=[]) (n:=0) (Qs _ rfl) rfl (by decide) λh' tk e sb=>k h' tk e sb
 unfold bindArgs
 rw [hp,hd]
 repeat (any_goals (first | assumption | ((with_reducible show Qo _ _ (Zt _ _) _ _ _);with_reducible apply wpAny_loadPart_known) | ((with_reducible show Qo _ _ (nsSet _ _ _) _ _ _);apply N;intro h' tk e sb) | (first | with_reducible (first | refine Qh ?_ | refine Qn ?_) | wp_delta | ((with_reducible show Qo _ _ (ite _ _ _) _ _ _);first | refine V2 (by rfl) ?_ | refine V6 (by rfl) ?_) | wp_step)))
 exact castQ (h h' (tk+1) _ jm (dict1 e) λb o q=>(sb.2 b (QR (jg q))).trans (j7 _ _ q)) (by kernel_rfl)
theorem bindB{fd:VF}{p1 p2 p3 p4:Pos}{dflt:List Expr}{D0:Qk}{p t a v:Qm}(hp:fd.params=p120 p1 p2 p3 p4 dflt)(hd:fd.defaults=.ref D0){n0:Nat}(h0:s.heap.get? D0=Qf { cls:=.type "tuple",data:=.seq #[a] n0 }) :
  JH prog w A fd ⟨[p,t],[("place",v)]⟩ p t a [("place",v)] s:=λE Q h=>by
 have N:∀ {Q:Unit->Qi->Prop},(∀h' tk,h'.get? s.heap.objs.size=Qf (Vh (putL "place" (VD w.params "place") (.str "place" tk) v []) (putN "place" [] 0))->V9 s.heap.objs.size (s.heap.push { cls:=.type "dict",data:=.dict #[] }) h'->Q () { s with heap:=h',toks:=tk+1 })->Qo (model prog w) A (nsSet s.heap.objs.size "place" v) Q E { s with heap:=s.heap.push { cls:=.type "dict",data:=.dict #[] } }:=λ{Q} k =>
  ns_set (s:={ s with heap:=s.heap.push { cls:=.type "dict",data:=.dict #[] } }) (es:=[]) (n:=0) (Qs _ rfl) rfl (by decide) λh' tk e sb=>k h' tk e sb
 unfold bindArgs
 rw [hp,hd]
 repeat (any_goals (first | assumption | ((with_reducible show Qo _ _ (Zt _ _) _ _ _);with_reducible apply wpAny_loadPart_known) | ((with_reducible show Qo _ _ (nsSet _ _ _) _ _ _);apply N;intro h' tk e sb) | (first | with_reducible (first | refine Qh ?_ | refine Qn ?_) | wp_delta | ((with_reducible show Qo _ _ (ite _ _ _) _ _ _);first | refine V2 (by rfl) ?_ | refine V6 (by rfl) ?_) | wp_step)))
 exact castQ (h h' (tk+1) _ jm (dict1 e) λb o q=>(sb.2 b (QR (jg q))).trans (j7 _ _ q)) (by kernel_rfl)
theorem bindC{fd:VF}{p1 p2 p3 p4:Pos}{dflt:List Expr}{D0:Qk}{d0 p t a:Qm}(hp:fd.params=p120 p1 p2 p3 p4 dflt)(hd:fd.defaults=.ref D0){n0:Nat}(h0:s.heap.get? D0=Qf { cls:=.type "tuple",data:=.seq #[d0] n0 }) :
  JH prog w A fd ⟨[p,t,a],[]⟩ p t a [] s:=λE Q h=>by
 unfold bindArgs
 rw [hp,hd]
 repeat (any_goals (first | assumption | ((with_reducible show Qo _ _ (Zt _ _) _ _ _);with_reducible apply wpAny_loadPart_known) | (first | with_reducible (first | refine Qh ?_ | refine Qn ?_) | wp_delta | ((with_reducible show Qo _ _ (ite _ _ _) _ _ _);first | refine V2 (by rfl) ?_ | refine V6 (by rfl) ?_) | wp_step)))
 exact castQ (h (s.heap.push { cls:=.type "dict",data:=.dict #[] }) s.toks _ jm (Jy (n:=0) (Qs _ rfl)) j7) (by kernel_rfl)
end
end
section
open Builtin
section
variable {prog:QI} {w:Ql} {A:QO} {E:Qe} {s:Qi} {K:Type} [DecidableEq K] {knd:KeyKind prog w K}
theorem K5{d:Qk}{kvs:List (K×Qm)}{k:K}{key v:Qm}{Q:Unit->Qi->Prop}(hkey:knd.is k key=true)(hm:s.heap.DictOf knd d kvs)(hz:kvs.length<=1000)
  (hQ:∀h',h'.DictOf knd d (stored kvs k v)->V9 d s.heap h'->Q () { s with heap:=h' }):Qo (model prog w) A (dictPut d (knd.hash k) key v) Q E s:=by
 (refine KN hm ?_;intro o es ep ho hx hd hk pr nd)
 obtain⟨l,rfl⟩:∃l:List VJ,es=l.toArray:=⟨es.toList,by rfl⟩
 have el:l.length=kvs.length:=pr.length
 have sz:l.toArray.size<=sizeLine:=by rw [Vk,QV];lia
 have idx:(l.toArray.findIdx? λe=>knd.is k e.key)=kvs.findIdx? λkv=>decide (kv.1=k):=by rw [<-pr.findIdx k];simp
 unfold dictPut
 refine Qh (wpAny_dictFind_of hkey ho hd hk ?_)
 rw [idx]
 cases q:kvs.findIdx? λkv=>decide (kv.1=k)with
 | some i =>
  have q':(l.findIdx? λe=>knd.is k e.key)=Qf i:=by rw [<-q,<-idx];simp
  have st:stored kvs k v=kvs.map λkv=>if kv.1=k then(kv.1,v)else kv:=if_pos (any_of_findIdx_some q)
  refine wpAny_updateDict ho hd (hQ _ ⟨_,_,ep,VP _ ho (Obj.isFreed_of_dict (Obj.data_mapDict hd _)),hx.mapDict _,Obj.data_mapDict hd _,hk.modify i v,?_,?_⟩ (VH ..))
  ·rw [st];simpa using pr.modify nd q' v
  ·rw [st,keys_map_store];exact nd
 | none =>
  have nm:k∉kvs.map (·.1):=not_mem_of_findIdx_none q
  have st:stored kvs k v=kvs++[(k,v)]:=if_neg λh=>by
   (refine jc (List.any_eq_true.mp h) ?_;intro kv m e)
   exact nm (Qw.mpr ⟨kv,m,of_decide_eq_true e⟩)
  refine wpAny_updateDictKeys (hz:=sz) ho hd (hQ _ ⟨_,_,ep+1,VP _ ho (Obj.isFreed_of_dict (Obj.data_mapDictKeys hd _)),hx.mapDictKeys _,Obj.data_mapDictKeys hd _,hk.push hkey v,?_,?_⟩ (VH ..))
  ·rw [st];simpa using pr.append hkey (knd.hash k) v
  ·rw [st,Va,Xa]
   exact⟨nd,by simp,λx hx y hy e=>nm (by simp only [QP,List.map_nil,Y2]at hy;rw [<-hy,<-e];exact hx)⟩
theorem ite_join{α:Type}{b:Prop}[Decidable b]{M:Model}{x y:Sem α}{Q:α->Qi->Prop}(h:b->Qo M A y Q E s->Qo M A x Q E s)(hy:Qo M A y Q E s):Qo M A (if b then x else y) Q E s:=by
 split
 ·rename_i q;exact h q hy
 ·exact hy
theorem key_str{es:Array VJ}(hk:KeysOf (QH prog w) es){e:VJ}(he:e∈es):∃k t,e.key=.str k t/\e.hash=(QH prog w).hash k:=by
 (refine jc (hk e he) ?_;intro k h1 h2)
 have h1':ZA k e.key=true:=h1
 obtain⟨hs,key,v⟩:=e
 cases key<;>simp [ZA]at h1'
 exact⟨_,_,rfl,h1'▸h2⟩
theorem yA{d a:Qk}{kvs more:List (Qd×Qm)}{Q:Unit->Qi->Prop}(hda:d≠a)(hs:(a==Vc)=false)(hd:s.heap.DictOf (QH prog w) d kvs)(ha:s.heap.DictOf (QH prog w) a more)(hz:kvs.length+more.length<=1000)
  (hQ:∀h',h'.DictOf (QH prog w) d (Yb kvs more)->V9 d s.heap h'->Q () { s with heap:=h' }):Qo (model prog w) A (mergeMapping d (.ref a) false) Q E s:=by
 (refine KN (id ha) ?_;intro oa ea na hoa hxa hda' hka pa nda)
 (refine KN (id hd) ?_;intro od ed nd' hod hxd hdd hkd pd ndd)
 have hT:s.TypeIs (.ref a) "dict":=⟨_,hoa,hxa.1⟩
 have f1:isSubtype (.type "dict") (.type "dict")=pure true:=by rw [Xs];kernel_rfl
 have f2:Xo (.type "dict") "__iter__"=pure (Qf (.builtin "dict.__iter__")):=by rw [XI,X3];kernel_rfl
 unfold mergeMapping
 refine Qh ?_
 repeat (first | assumption | with_reducible refine Qh (Xc hod hdd ?_) | with_reducible apply wpAny_loadPart_known | wp_step)
 refine ite_join (λhb H=>?_) ?_
 ·refine Qh (Xc hoa hda' (Qh ?_))
  rw [<-Array.forIn_toList]
  refine wpAny_forIn_list _ (λl _ s'=>s'=s/\∀e∈l,e∈ea) _ ?_ ?_ _ _ ⟨rfl,λe he=>Array.mem_toList_iff.mp he⟩
  ·(intro e r _ s' q_;refine jw q_ ?_;clear q_;rintro rfl hl)
   (refine jn (key_str hka (hl e (.head _))) ?_;intro k t e1 e2)
   rw [e1]
   exact Qn ⟨rfl,λx hx=>hl x (.tail _ hx)⟩
  ·(intro _ s' q_;refine jw q_ ?_;clear q_;rintro rfl _)
   exact H
 ·refine Qh (Xc hoa hda' (Qh (YD hoa hda' (Qh ?_))))
  have len:more.length=ea.size:=by rw [<-pa.length];simp
  refine wpAny_forIn_list _ (λl _ s'=>∃h' i,s'={ s with heap:=h' }/\l=(Qj ea.size).drop i/\i<=ea.size/\h'.DictOf (QH prog w) d (Yb kvs (more.take i))/\V9 d s.heap h') _ ?_ ?_ _ _ ⟨s.heap,0,rfl,rfl,Vj _,by simpa [Yb]using hd,Heap.SameBut.refl _ _⟩
  ·(intro x r _ s' q_;refine e2_5 q_ ?_;clear q_;rintro h' i rfl hl hi D sb)
   have lt:i<ea.size:=by
    rcases Nat.lt_or_ge i ea.size with q | q
    ·exact q
    ·rw [Ve (by simpa using q)]at hl;cases hl
   obtain⟨rfl,hr⟩:x=i/\r=(Qj ea.size).drop (i+1):=by
    rw [X8 (by simpa using lt)]at hl
    injection hl with e1 e2
    exact⟨by simpa using e1,e2⟩
   have ha2:h'.get? a=Qf oa:=(sb.2 a hda.symm).trans hoa
   refine Qh (Xc ha2 hda' ?_)
   rw [VY lt]
   obtain⟨⟨k,v⟩,hkv⟩:∃kv,more[x]?=Qf kv:=⟨more[x],Qu (by exact JI ‹_› ‹_›)⟩
   (refine jw (pa.get? (e:=ea[x]) (by simp [lt]) hkv) ?_;intro hkey hval)
   (refine jc (hka ea[x] (Array.getElem_mem lt)) ?_;intro k' hk' hh)
   obtain rfl:k'=k:=(QH prog w).inj _ _ _ hk' hkey
   refine Qh (QS ?_)
   show Qo _ _ (dictPut d ea[x].hash ea[x].key ea[x].val) _ _ _
   rw [hh]
   have mz:(Yb kvs (more.take x)).length<=1000:=by
    have e1:=merged_length_le kvs (more.take x)
    rw [VK]at e1;lia
   refine K5 hkey D mz λh'' D' sb'=>?_
   refine Qh (YD ((sb'.2 a hda.symm).trans ha2) hda' ?_)
   rw [if_neg (by simp)]
   refine Qn ⟨h'',x+1,rfl,hr,lt,?_,sb.trans sb'⟩
   rw [merged_take_succ kvs more x (k',v) hkv,<-hval];exact D'
  ·(intro _ s' q_;refine e2_5 q_ ?_;clear q_;rintro h' i rfl hl hi D sb)
   have hin:i=ea.size:=by
    rcases Nat.lt_or_ge i ea.size with q | q
    ·rw [X8 (by simpa using q)]at hl;cases hl
    ·lia
   rw [hin,<-len,YT]at D
   exact Qn (hQ h' D sb)
end
end
section
open Builtin
section
variable {c:Ct}
theorem dmerge{Y:List Qk}{s:Qi}{E:Qe}{Q:Qe}{e1 e2:Expr}{pos:Pos}{a1 a2:Qk}{k1 k2:List (Qd×Qm)}(x:c.At Y s)(p1:PE c e1 (.raw (.ref a1)))(p2:PE c e2 (.raw (.ref a2)))
  (D1:c.B.DictOf (QH c.prog c.w) a1 k1) (D2:c.B.DictOf (QH c.prog c.w) a2 k2) (hz:k1.length+k2.length<=900) (s1:(a1==Vc)=false) (s2:(a2==Vc)=false)
  (h:∀d h' tk,s.heap.get? d=Qg->h'.DictOf (QH c.prog c.w) d (Yb (Yb [] k1) k2)->(∀b o,s.heap.get? b=Qf o->h'.get? b=Qf o)->1<=tk->Q (.ref d) { s with heap:=h',toks:=tk })
  (hsh:(evalEachOpt [Qg,Qg] c.env).zip ((evalEach [e1,e2] c.env).map λv=>do let x <-v;Xy pos;pure x)=[(Qg,(do let x <-eval e1 c.env;Xy pos;pure x)),(Qg,(do let x <-eval e2 c.env;Xy pos;pure x))]:=by rfl) :
  Qo c.M c.A (eval (.Dict [Qg,Qg] [e1,e2] pos) c.env) Q E s:=by
 rw [arm_eval_Dict,hsh]
 refine Qh (VA ?_)
 unfold dictDisplay
 repeat (first | assumption | ((with_reducible show Qo _ _ (eval _ _) _ _ _);fail) | wp_step)
 have hd0:(s.heap.push { cls:=.type "dict",data:=.dict #[] }).get? s.heap.objs.size=Qf (Vh [] 0):=Qs _ rfl
 have dead:s.heap.get? s.heap.objs.size=none:=jm
 generalize hd:s.heap.objs.size=d at hd0 dead ⊢
 have K0:∀b o,s.heap.get? b=Qf o->(s.heap.push { cls:=.type "dict",data:=.dict #[] }).get? b=Qf o:=j7
 generalize s.heap.push { cls:=.type "dict",data:=.dict #[] }=h0 at hd0 K0 ⊢
 refine p1.use (x.mono K0 x.tk) λv t1 j1 x1 r1=>?_
 obtain rfl:=jb r1
 have d1:t1.heap.get? d=Qf (Vh [] 0):=jr j1 _ _ hd0
 have ne1:d≠a1:=λe=>by
  (refine yY D1 ?_;intro o _ _ e1 _)
  have:=jr j1 _ _ (K0 _ _ (x.base _ _ e1));rw [<-e,d1]at this
  have:=x.base _ _ e1;rw [<-e,dead]at this;exact no1 this
 have ne2:d≠a2:=λe=>by
  (refine yY D2 ?_;intro o _ _ e1 _)
  have:=x.base _ _ e1;rw [<-e,dead]at this;exact no1 this
 (refine jn j1 ?_;clear j1;rintro h1 tk1 rfl kk1)
 have A1:∀ {h:QU} {a:Qk} {k:List (Qd×Qm)},c.B.DictOf (QH c.prog c.w) a k->(∀b o,c.B.get? b=Qf o->h.get? b=Qf o)->h.DictOf (QH c.prog c.w) a k:=λD k=>by
  (refine yY D ?_;intro o es ep e1 r);exact⟨o,es,ep,k _ _ e1,r⟩
 have D01:({ s with heap:=h1,toks:=tk1 }:Qi).heap.DictOf (QH c.prog c.w) d []:=Jy d1
 refine Qh (VA (Qn (Qh (wpAny_onRaise (wpAny_tryCatch (wpAny_onRaise (QS (yA (w:=c.w) ne1 s1 D01 (A1 D1 x1.base) (by simp;lia) λh2 D2h sb2=>?_))))))))
 have x2:c.At Y { s with heap:=h2,toks:=tk1 }:=x.mono (s':={ s with heap:=h2,toks:=tk1 }) (λb o e=>(sb2.2 b (λq=>by rw [q,dead]at e;exact no1 e)).trans (kk1 _ _ (K0 _ _ e))) x1.tk
 repeat (first | assumption | ((with_reducible show Qo _ _ (eval _ _) _ _ _);fail) | wp_step)
 refine p2.use x2 λv t3 j3 x3 r3=>?_
 obtain rfl:=jb r3
 have D3:t3.heap.DictOf (QH c.prog c.w) d (Yb [] k1):=by
  (refine yY D2h ?_;intro o es ep e1 r);exact⟨o,es,ep,jr j3 _ _ e1,r⟩
 (refine jn j3 ?_;clear j3;rintro h3 tk3 rfl kk3)
 have ml:(Yb [] k1).length<=k1.length:=by have:=merged_length_le [] k1;simpa using this
 refine Qh (VA (Qn (Qh (wpAny_onRaise (wpAny_tryCatch (wpAny_onRaise (QS (yA (w:=c.w) ne2 s2 D3 (A1 D2 x3.base) (by lia) λh4 D4h sb4=>?_))))))))
 have fin:=h d h4 tk3 dead D4h (λb o e=>(sb4.2 b (λq=>by rw [q,dead]at e;exact no1 e)).trans (kk3 _ _ ((sb2.2 b (λq=>by rw [q,dead]at e;exact no1 e)).trans (kk1 _ _ (K0 _ _ e))))) x3.tk
 repeat (first | assumption | exact fin | wp_step)
end
end
section
open Builtin
section
variable {c:Ct}
noncomputable abbrev kS(c:Ct):=QH c.prog c.w
theorem strK(c:Ct)(x:Qd)(t:Tok):(kS c).is x (.str x t)=true:=qv _ _ _ _
theorem dnew0{Y:List Qk}{s:Qi}{E:Qe}{Q:Qe}{pos:Pos}{e:Expr}(he:e=.Dict [] [] pos)(x:c.At Y s)
  (h:∀d h' tk,s.heap.get? d=Qg->h'.DictOf (kS c) d []->(∀b o,s.heap.get? b=Qf o->h'.get? b=Qf o)->1<=tk->Q (.ref d) { s with heap:=h',toks:=tk }) :
  Qo c.M c.A (eval e c.env) Q E s:=by
 subst he
 rw [arm_eval_Dict]
 refine Qh (VA ?_)
 show Qo c.M c.A (dictDisplay []) Q E s
 have fin:=h _ _ s.toks (jm (h:=s.heap)) (Jy (w:=c.w) (n:=0) (Qs _ rfl)) j7 x.tk
 unfold dictDisplay
 repeat (first | assumption | exact fin | wp_step)
theorem KO{Y:List Qk}{s:Qi}{E:Qe}{Q:Qe}{n1 n2 v1:Qd}{i:Int}{e2:Expr}{k1 k2 k3:Nat}{p1 p2 p3 pos:Pos}{e:Expr}(he:e=.Dict [Qf (.Constant (.str n1) k1 p1),Qf (.Constant (.str n2) k2 p2)] [.Constant (.str v1) k3 p3,e2] pos)(x:c.At Y s)(p:PE c e2 (.int i))(ne:n1≠n2)
  (h:∀d h' tk t t',s.heap.get? d=Qg->h'.DictOf (kS c) d [(n1,.str v1 t),(n2,.int i t')]->(∀b o,s.heap.get? b=Qf o->h'.get? b=Qf o)->1<=tk->Q (.ref d) { s with heap:=h',toks:=tk }) :
  Qo c.M c.A (eval e c.env) Q E s:=by
 subst he
 have hsh:(evalEachOpt [Qf (.Constant (.str n1) k1 p1),Qf (.Constant (.str n2) k2 p2)] c.env).zip ((evalEach [.Constant (.str v1) k3 p3,e2] c.env).map λv=>do let x <-v;Xy pos;pure x) =
  [(eval (.Constant (.str n1) k1 p1) c.env,(do let x <-eval (.Constant (.str v1) k3 p3) c.env;Xy pos;pure x)),(eval (.Constant (.str n2) k2 p2) c.env,(do let x <-eval e2 c.env;Xy pos;pure x))].map λp=>(Qf p.1,p.2):=by kernel_rfl
 have K0:∀b o,s.heap.get? b=Qf o->(s.heap.push { cls:=.type "dict",data:=.dict #[] }).get? b=Qf o:=j7
 have hd0:(s.heap.push { cls:=.type "dict",data:=.dict #[] }).get? s.heap.objs.size=Qf (Vh [] 0):=Qs _ rfl
 have dead:s.heap.get? s.heap.objs.size=none:=jm
 refine wpAny_Dict_pairs (knd:=kS c) hsh (by(intro h;cases h)) (by simp) ?_
 refine evalPairs_cons (Vw (Qh (Vw (Qh (VA (Qn ?_))))))
 refine evalPairs_cons (Vw (Qh (p.use (x.mono K0 (Vn _)) λv t j x2 r=>Qh (VA (Qn (evalPairs_nil ?_))))))
 (refine jd (jk r) ?_;rintro t' rfl)
 have d1:=jr j _ _ hd0
 (refine jn j ?_;clear j;rintro h1 tk1 rfl kk1)
 refine⟨[(n1,.str v1 (s.toks+1)),(n2,.int i t')],⟨strK c _ _,rfl,strK c _ _,rfl,trivial⟩,Jy (w:=c.w) d1,λh' D sb=>?_⟩
 refine h _ h' _ (s.toks+1) t' dead ?_ (λb o e=>(sb.2 b (λq=>by rw [q,dead]at e;exact no1 e)).trans (kk1 _ _ (K0 _ _ e))) (Qp x2.tk (XW _ _))
 rw [merged_nil_of_nodup _ (by simpa using ne)]at D
 exact D
theorem dnew1{Y:List Qk}{s:Qi}{E:Qe}{Q:Qe}{n2:Qd}{i:Int}{e2:Expr}{k2:Nat}{p2 pos:Pos}{e:Expr}(he:e=.Dict [Qf (.Constant (.str n2) k2 p2)] [e2] pos)(x:c.At Y s)(p:PE c e2 (.int i))
  (h:∀d h' tk t',s.heap.get? d=Qg->h'.DictOf (kS c) d [(n2,.int i t')]->(∀b o,s.heap.get? b=Qf o->h'.get? b=Qf o)->1<=tk->Q (.ref d) { s with heap:=h',toks:=tk }) :
  Qo c.M c.A (eval e c.env) Q E s:=by
 subst he
 have hsh:(evalEachOpt [Qf (.Constant (.str n2) k2 p2)] c.env).zip ((evalEach [e2] c.env).map λv=>do let x <-v;Xy pos;pure x) =
  [(eval (.Constant (.str n2) k2 p2) c.env,(do let x <-eval e2 c.env;Xy pos;pure x))].map λp=>(Qf p.1,p.2):=by kernel_rfl
 have K0:∀b o,s.heap.get? b=Qf o->(s.heap.push { cls:=.type "dict",data:=.dict #[] }).get? b=Qf o:=j7
 have hd0:(s.heap.push { cls:=.type "dict",data:=.dict #[] }).get? s.heap.objs.size=Qf (Vh [] 0):=Qs _ rfl
 have dead:s.heap.get? s.heap.objs.size=none:=jm
 refine wpAny_Dict_pairs (knd:=kS c) hsh (by(intro h;cases h)) (Vn _) ?_
 refine evalPairs_cons (Vw (Qh (p.use (x.mono K0 (Vn _)) λv t j x2 r=>Qh (VA (Qn (evalPairs_nil ?_))))))
 (refine jd (jk r) ?_;rintro t' rfl)
 have d1:=jr j _ _ hd0
 (refine jn j ?_;clear j;rintro h1 tk1 rfl kk1)
 refine⟨[(n2,.int i t')],⟨strK c _ _,rfl,trivial⟩,Jy (w:=c.w) d1,λh' D sb=>?_⟩
 refine h _ h' _ t' dead ?_ (λb o e=>(sb.2 b (λq=>by rw [q,dead]at e;exact no1 e)).trans (kk1 _ _ (K0 _ _ e))) (Qp x2.tk (XW _ _))
 rw [merged_nil_of_nodup _ (by simp)]at D
 exact D
end
end
section
variable {prog:QI} {w:Ql} {A:QO} {E:Qe} {s:Qi} {f D:Qk} {ns:List Qd} {vals:List Qm} {name:Qd} {v:Qm}
theorem qI{pl:Sem Bool}{Q:Qm×List Qm->Qi->Prop}(P:FnAt s.heap f D ns vals)(i:Nat)(hn:ns[i]?=Qf name)(hv:vals[i]?=Qf v)(nd:ns.Nodup)(hh:Z0 v=true)(hnm:fnNm name)
  (hq:Q (v,[]) { s with toks:=s.toks+1 }):Qo (model prog w) A (getMethod (.ref f) name pl) Q E s:=by
 have hT:s.TypeIs (.ref f) "function":=by(refine jw P ?_;clear P;rintro⟨fd,a⟩ _);exact⟨_,a,rfl⟩
 have f1:=slot_fn_ga.lookup
 have f2:=xX
 have f3:=zp _ hnm
 have f4:Manifest.canonical "object.__getattribute__"="object.__getattribute__":=by decide +kernel
 have G:∀ {Q:Qe},Q v { s with toks:=s.toks+1 }->Qo (model prog w) A (Zs (.ref f) name) Q E s:=λhq=>vH P i hn hv nd hh hnm hq
 unfold getMethod
 refine Qh (QW hT f1 ?_)
 dsimp only
 rw [if_neg (by rw [f4];decide)]
 refine Qh (QW hT f2 ?_)
 rw [if_neg (by decide)]
 refine Qh (QW hT f3 ?_)
 exact Qh (G (Qn hq))
theorem vu{pos:Pos}{b k:Qk}{args:List (Bool×Sem Qm)}{Q:Qe}(hs:args.any (·.1)=false)
  (h:Qo (model prog w) A (evalArgs (.ref b) true args []) (λx s₁=>s₁.heap.get? b=Qf (jv k)/\Qo (model prog w) A (call (.ref b) x.pos x.kw) Q E s₁) E s):Qo (model prog w) A (VL pos (.ref b) [] args []) Q E s:=by
 unfold VL
 refine Qh (QS (Qz h (λx s₁ h₁=>Qh (VA ?_)) λ_ _ y=>y))
 refine Qh (m:=keeperOf (.ref b)) ?_
 unfold keeperOf
 refine Qh (wpAny_load h₁.1 ?_)
 dsimp only
 rw [if_pos (by decide),if_pos (by decide)]
 refine Qn ?_
 rw [hs]
 refine Qh (Qz h₁.2 (λr s₂ h₂=>Qh (QS (wpAny_point (Qn h₂)))) λ_ _ y=>y)
end
section
variable {c:Ct} {Yc:List Qk} {g s:Qi}
noncomputable abbrev Ct.here(c:Ct)(s:Qi):Ct:={ c with B:=s.heap }
theorem Ct.At.here{Y:List Qk}(x:c.At Y s):(c.here s).At Y s:=⟨λa o e=>e,x.live,x.look,x.tk⟩
noncomputable def Off(c:Ct)(y:Qk):Prop:=y≠c.env.locals/\y∉c.env.cells.map (·.2)
theorem Fm.offNew(f:Fm c Yc g s){y:Qk}(e:s.heap.get? y=Qg):Off c y:=by
 refine⟨λq=>?_,λq=>?_⟩
 ·(refine jd (f.live c.env.locals (Q7 _ (.head _))) ?_;intro o ho)
  rw [<-q,e]at ho;exact no1 ho
 ·(refine jd (f.live y (Q7 _ (.tail _ (Q8 _ q)))) ?_;intro o ho)
  rw [e]at ho;exact no1 ho
theorem Fm.offLt(f:Fm c Yc g s){y:Qk}(e:y<c.env.locals):Off c y:=by
 (refine jn f.fr ?_;intro m cm ic _)
 refine⟨QR e,λq=>?_⟩
 (refine jc (Qw.mp q) ?_;rintro⟨x,a⟩ hm rfl)
 exact absurd (ic.above x a hm) (VS.mpr (Vt e))
noncomputable abbrev Sm(c:Ct)(s s':Qi):Prop:=∀y,y≠c.env.locals->y∉c.env.cells.map (·.2)->s'.heap.get? y=s.heap.get? y
theorem TabOk.store{s':Qi}(T:TabOk s.heap)(f:Fm c Yc g s)(same:Sm c s s')(o1:Off c 171):TabOk s'.heap:=by
 (refine jn f.fr ?_;intro m₂ cm₂ ic₂ _)
 refine T.but (M:=c.env.locals::c.env.cells.map (·.2)) (λb o hb e=>(same b (λq=>hb (q▸.head _)) λm=>hb (.tail _ m)).trans e) ?_ ?_
 ·intro m
  rcases Qb m with m | m
  ·exact o1.1 m
  ·exact o1.2 m
 ·intro m hm o vs e q
  rcases Qb hm with rfl | hm
  ·(refine JM ic₂.toInCall.ns ?_;intro o' es ep e' hd _)
   obtain rfl:o=o':=oi (e.symm.trans e')
   rw [hd]at q;cases q
  ·(refine jc (Qw.mp hm) ?_;rintro⟨nm,a⟩ hp rfl)
   (refine jc (ic₂.cell nm a (kC f.cnd hp)) ?_;intro o' e' hd)
   obtain rfl:o=o':=oi (e.symm.trans e')
   rw [hd]at q;cases q
theorem HidOk.up{X:List Qk}{σ:List (Option AV)}{m:Qk}(H:HidOk c Yc g m):HidOk (c.up X σ) Yc g m:=⟨H.mem,H.dead,H.nl,H.nc⟩
theorem HidOk.off{m:Qk}(H:HidOk c Yc g m):Off c m:=⟨H.nl,H.nc⟩
end
theorem js:nmN.Nodup:=by decide
section
variable {c:Ct} {Yc:List Qk} {g s:Qi}
theorem Fm.evoL{M W:List Qk}{h':QU}{tk:Nat}(f:Fm c Yc g s)(H:∀m∈M,HidOk c Yc g m)(lv:∀m∈M,∃o,h'.get? m=Qf o)(k:∀b o,b∉M->s.heap.get? b=Qf o->h'.get? b=Qf o)(hW:∀b∈W,s.heap.get? b=Qg/\∃o,h'.get? b=Qf o):Fm c (W++Yc) g { s with heap:=h',toks:=tk } :=
 f.evo (λm hm=>⟨(H m hm).mem,(H m hm).dead,(H m hm).nl,(H m hm).nc⟩) lv k hW
theorem jq{prog:QI}{w:Ql}{h h':QU}{a:Qk}{k:List (Qd×Qm)}(D:h.DictOf (QH prog w) a k)(e:∀o,h.get? a=Qf o->h'.get? a=Qf o):h'.DictOf (QH prog w) a k:=by
 (refine yY D ?_;intro o es ep e1 r);exact⟨o,es,ep,e _ e1,r⟩
theorem Fm.offFields(f:Fm c Yc g s){y:Qk}{o:Obj}{vs:Array Qm}(e:s.heap.get? y=Qf o)(q:o.data=.fields vs):Off c y:=by
 (refine jn f.fr ?_;intro m₂ cm₂ ic₂ _)
 refine⟨λm=>?_,λm=>?_⟩
 ·(refine JM ic₂.toInCall.ns ?_;intro o' es ep e' hd _)
  rw [m]at e
  obtain rfl:o=o':=oi (e.symm.trans e')
  rw [hd]at q;cases q
 ·(refine jc (Qw.mp m) ?_;rintro⟨nm,a⟩ hp rfl)
  (refine jc (ic₂.cell nm a (kC f.cnd hp)) ?_;intro o' e' hd)
  obtain rfl:o=o':=oi (e.symm.trans e')
  rw [hd]at q;cases q
theorem JA{h h':QU}{cv:Qm}{q:Qd}(r:h.CodeRec cv q)(k:∀b o vs,o.data=.fields vs->h.get? b=Qf o->h'.get? b=Qf o):h'.CodeRec cv q:=by
 refine e4_4 r ?_;intro cd o vs t e1 e2 e3 e4
 exact⟨cd,o,vs,t,e1,k _ _ _ e3 e2,e3,e4⟩
theorem NdFix.at{w:Ql}{h h':QU}{nd:Nd}(F:NdFix w h nd)(k:∀b,b∈[nd.f,nd.b,nd.g,nd.c]->∀o,h.get? b=Qf o->h'.get? b=Qf o)(kf:∀b o vs,o.data=.fields vs->h.get? b=Qf o->h'.get? b=Qf o):NdFix w h' nd:=by
 obtain⟨⟨fd,e1⟩,e2,⟨cv,ctv,e3,e4⟩,o,e5,e6⟩:=F
 exact⟨⟨fd,k _ (.head _) _ e1⟩,k _ (.tail _ (.head _)) _ e2,⟨cv,ctv,k _ (.tail _ (.tail _ (.head _))) _ e3,JA e4 kf⟩,o,k _ (.tail _ (.tail _ (.tail _ (.head _)))) _ e5,e6⟩
theorem NdDic.at{h h':QU}{nd:Nd}{x:Qd}{ad:Qk}{t:Qd}{tl:Qm}(D:NdDic h nd x ad t tl)(k:∀o,h.get? nd.d=Qf o->h'.get? nd.d=Qf o):NdDic h' nd x ad t tl:=by
 (refine JL D ?_;intro es n t1 t2 e r);exact⟨es,n,t1,t2,k _ e,r⟩
theorem sub_body{n:Nat}{E:Qe}{Q:Qe}{fo Do bo ko a1 d:Qk}{vals:List Qm}{tg:Qd}{k1 k2:List (Qd×Qm)}{kids:Array Qm}{nk:Nat}
  {x1 x2 x3 x4 x5 x6 x7 x8 x9 x10 x11 x12 x13 x14 x15 x16 x17 x18 x19:Pos}
  {S2 S3 S4:XM} (hB:c.B=Bh c.w) (G:Gd c (n+2) (mg c.w) (mb c.w)) (hv:c.vars=(["parent","tag","attrib","extra","element"]:List Qd)) (hσ:c.σ=[Qf (.raw (.ref fo)),Qf (.str tg),Qf (.raw (.ref a1)),Qf (.raw (.ref d)),Qg]) (V:Vars c)
  (f:Fm c Yc g s) (ht:1<=s.toks) (H1:HidOk c Yc g 171) (Hk:HidOk c Yc g ko) (T:TabOk s.heap)
  (P:FnAt s.heap fo Do nmN vals) (v5:vals[5]?=Qf (.ref 176)) (v6:vals[6]?=Qf (.ref bo)) (hbo:s.heap.get? bo=Qf (jv ko)) (hko:s.heap.get? ko=Qf { cls:=.type "list",data:=.seq kids nk }) (hkz:kids.size<=1000)
  (D1:s.heap.DictOf (kS c) a1 k1) (D2:s.heap.DictOf (kS c) d k2) (hz:k1.length+k2.length<=900) (s1:(a1==Vc)=false) (s2:(d==Vc)=false) (off:∀y∈[fo,Do,bo],Off c y) (nb:bo≠171)
  (h:∀(nd:Nd) ad h' tk t,1<=tk->(∀b o,Off c b->b≠171->b≠ko->s.heap.get? b=Qf o->h'.get? b=Qf o)->TabOk h'->(∀a∈[ad,nd.f,nd.d,nd.k,nd.b,nd.g,nd.c],s.heap.get? a=Qg)->[nd.f,nd.d,nd.k,nd.b,nd.g].Nodup->NdFix c.w h' nd->NdDic h' nd tg ad "" (.str "" t)->h'.DictOf (kS c) ad (Yb (Yb [] k1) k2) ->
   h'.PlainList nd.k #[]->h'.PlainList ko (kids.push (.ref nd.f))->Q (.ref nd.f) { s with heap:=h',toks:=tk })
  (hint:Zg c.env=false)
  (eS2:S2=.Assign [.Name "element" x10] (.Call (.Attribute (.Name "parent" x11) "makeelement" x6) [.Name "tag" x7,.Name "attrib" x8] [] x9) x18) (eS3:S3=.Expr (.Call (.Attribute (.Name "parent" x15) "append" x12) [.Name "element" x13] [] x14) x16) (eS4:S4=.Return (Qf (.Name "element" x17)) x19)
  (hst1:Qv [.Name "tag" x7,.Name "attrib" x8] c.env=[(false,eval (.Name "tag" x7) c.env),(false,eval (.Name "attrib" x8) c.env)]:=by rfl)
  (hst2:Qv [.Name "element" x13] c.env=[(false,eval (.Name "element" x13) c.env)]:=by rfl)
  (hbase:∀(p:Pos) (nm:Qd),Vp (.Name "parent" p) nm c.env (eval (.Name "parent" p) c.env)=eval (.Name "parent" p) c.env:=by intro _ _;rfl)
  (hl1:(x6.endLine==x9.line)=true:=by rfl) (hl2:(x12.endLine==x14.line)=true:=by rfl)
  (hs1:VU (.Dict [Qg,Qg] [.Name "attrib" x2,.Name "extra" x3] x4) (Qf (.Name "attrib" x1)) x5.line c.env=pure false:=by rfl)
  (hs2:VU (.Call (.Attribute (.Name "parent" x11) "makeelement" x6) [.Name "tag" x7,.Name "attrib" x8] [] x9) (Qf (.Name "element" x10)) x18.line c.env=pure false:=by rfl) :
  Qo c.M c.A (execs [.Assign [.Name "attrib" x1] (.Dict [Qg,Qg] [.Name "attrib" x2,.Name "extra" x3] x4) x5,S2,S3,S4] c.env) (λfl s'=>match fl with | .ret v=>Q v s' | .next=>Q .none s' | _=>False) E s:=by
 have hk:=f.kind
 have vi:∀(i:Nat) (x:Qd),(["parent","tag","attrib","extra","element"]:List Qd)[i]?=Qf x->c.vars[i]?=Qf x:=λi x e=>by rw [hv];exact e
 refine QF (X4 (dmerge (c:=c.here s) (f.at ht).here (.var 2 hk (vi 2 _ rfl) (by show c.σ[2]?=_;rw [hσ];rfl) (by decide) (by decide)) (.var 3 hk (vi 3 _ rfl) (by show c.σ[3]?=_;rw [hσ];rfl) (by decide) (by decide)) D1 D2 hz s1 s2 (λad h1 tk1 dad Dad kk1 ht1=>?_) rfl) hs1)
 have f1:Fm c Yc g { s with heap:=h1,toks:=tk1 }:=f.keeps ⟨h1,tk1,rfl,kk1⟩
 refine QB (n:=1) ht1 (f1.storeK V (i:=2) (vi 2 _ rfl) (.of (av:=.raw (.ref ad)) vC) λs₂ g₂ same₂ f₂ ht₂=>?_)
 (refine jn g₂ ?_;clear g₂;rintro h2 tk2 rfl _)
 have sm2:∀y,Off c y->h2.get? y=h1.get? y:=λy o=>same₂ y o.1 o.2
 have k02:∀y o,Off c y->s.heap.get? y=Qf o->h2.get? y=Qf o:=λy o f e=>(sm2 y f).trans (kk1 _ _ e)
 have T2:TabOk h2:=(T.keeps kk1).store f1 same₂ H1.off
 have P2:FnAt h2 fo Do nmN vals:=P.at λb hb o e=>k02 b o (by rcases hb with rfl | rfl<;>exact off _ (by simp)) e
 have offad:Off c ad:=f.offNew dad
 have Dad2:h2.DictOf (kS c) ad (Yb (Yb [] k1) k2):=jq Dad λo e=>(sm2 ad offad).trans e
 have σ2:∀i:Nat,(c.st 2 (.raw (.ref ad))).σ[i]?=([Qf (.raw (.ref fo)),Qf (.str tg),Qf (.raw (.ref ad)),Qf (.raw (.ref d)),Qg]:List (Option AV))[i]?:=λi=>by show(c.σ.set 2 _)[i]?=_;rw [hσ];rfl
 subst eS2
 refine QF (X4 (qS (c:=c.st 2 (.raw (.ref ad))) (kr (c:=c.st 2 (.raw (.ref ad))) 0 (σ2 0) hk (vi 0 _ rfl) (by decide) (by decide) (f₂.at ht₂) λu r pl=>?_) (hbase _ _) rfl hl1) hs2)
 obtain rfl:=jb (r.rep rfl)
 refine qI P2 5 rfl v5 js rfl (.inr (.inr (.inr (.inr (.inr (.inl rfl)))))) ?_
 have x2:=(f₂.keeps (jh (tk:=tk2+1))).at (Vn _)
 have q2:PEs (c.st 2 (.raw (.ref ad))) [.Name "tag" x7,.Name "attrib" x8] [.str tg,.raw (.ref ad)]:=.cons (.var 1 hk (vi 1 _ rfl) (σ2 1) (by decide) (by decide)) (.cons (.var 2 hk (vi 2 _ rfl) (σ2 2) (by decide) (by decide)) .nil)
 refine VT (o:=o_186 c.w.params) (fd:=Q5 c.w) (je rfl (q2.use x2 λvs s3 k3 x3 r3=>?_))
 (refine jW (yu r3) ?_;rintro v1 v2 rfl e1 e2)
 (refine jd (jj e1) ?_;rintro t1 rfl)
 obtain rfl:=jb e2
 (refine jn k3 ?_;clear k3;rintro h3 tk3 rfl kk3)
 refine⟨⟨x3.base _ _ (by show c.B.get? 176=_;rw [hB];exact b_176 _),rfl⟩,?_⟩
 refine Kf (w:=c.w) (X:=c.X++c.Yf Yc) G.room (λa o e=>x3.base a o (by show c.B.get? a=_;rw [hB];exact e)) x3.live (Q7 _ (.tail _ (Q7 _ H1.mem))) x3.tk (T2.keeps kk3) λnd h4 tk4 t4 ht4 kp4 T4 dead4 nod4 fix4 dic4 kl4=>?_
 have f3:=f₂.keeps (s':={ s with heap:=h3,toks:=tk3 }) ⟨h3,tk3,rfl,kk3⟩
 have hd4:∃o,h4.get? nd.d=Qf o:=let ⟨es,n,_,_,e,_⟩:=dic4;⟨_,e⟩
 have hk4:∃o,h4.get? nd.k=Qf o:=let ⟨n,e⟩:=kl4;⟨_,e⟩
 have f4:=f3.evoL (M:=[171]) (W:=[nd.d,nd.k]) (h':=h4) (tk:=tk4) (λm hm=>by obtain rfl:=Q9 hm;exact H1.up) (λm hm=>by obtain rfl:=Q9 hm;(refine jc T4 ?_;intro ps e _);exact⟨_,e⟩) (λb o hb e=>kp4 b o (λq=>hb (q▸.head _)) e) (λb hb=>by
  simp only [QD,QG,or_false]at hb
  rcases hb with rfl | rfl
  ·exact⟨dead4 _ (.tail _ (.head _)),hd4⟩
  ·exact⟨dead4 _ (.tail _ (.tail _ (.head _))),hk4⟩)
 refine QB (n:=1) ht4 (f4.storeK V.up (i:=4) (vi 4 _ rfl) (.of (av:=.raw (.ref nd.f)) vC) λs₅ g₅ same₅ f₅ ht₅=>?_)
 (refine jn g₅ ?_;clear g₅;rintro h5 tk5 rfl _)
 have sm5:∀y,Off c y->h5.get? y=h4.get? y:=λy o=>same₅ y o.1 o.2
 have σ5:∀i:Nat,((c.st 2 (.raw (.ref ad))).st 4 (.raw (.ref nd.f))).σ[i]?=([Qf (.raw (.ref fo)),Qf (.str tg),Qf (.raw (.ref ad)),Qf (.raw (.ref d)),Qf (.raw (.ref nd.f))]:List (Option AV))[i]?:=λi=>by show((c.σ.set 2 _).set 4 _)[i]?=_;rw [hσ];rfl
 have k05:∀y o,Off c y->y≠171->s.heap.get? y=Qf o->h5.get? y=Qf o:=λy o f n e=>(sm5 y f).trans (kp4 _ _ n (kk3 _ _ (k02 y o f e)))
 have offN:∀a∈[nd.f,nd.d,nd.k,nd.b,nd.g,nd.c],Off c a:=λa ha=>f3.offNew (dead4 a ha)
 have T5:TabOk h5:=T4.store f4 same₅ H1.off
 have n171:∀ {y:Qk} {o:Obj},s.heap.get? y=Qf o->(∀vs,o.data≠.fields vs)->y≠171:=λ{y o} e n q=>by
  (refine jc T ?_;intro ps e' _)
  rw [q,e']at e;(have q_:=oi e;clear e;subst q_);exact n _ rfl
 have P5:FnAt h5 fo Do nmN vals:=P.at λb hb o e=>k05 b o (by rcases hb with rfl | rfl<;>exact off _ (by simp)) (by
  obtain⟨⟨fd,e1⟩,es,n,e2,_⟩:=P
  rcases hb with rfl | rfl
  ·exact n171 e1 (λvs q=>by cases q)
  ·exact n171 e2 (λvs q=>by cases q)) e
 have hbo5:h5.get? bo=Qf (jv ko):=k05 _ _ (off _ (.tail _ (.tail _ (.head _)))) nb hbo
 have nk171:ko≠171:=n171 hko (λvs q=>by cases q)
 have hko5:h5.get? ko=Qf { cls:=.type "list",data:=.seq kids nk }:=k05 _ _ Hk.off nk171 hko
 subst eS3
 refine QF (wpAny_Expr_any (qS (c:=(c.st 2 (.raw (.ref ad))).st 4 (.raw (.ref nd.f))) (kr (c:=(c.st 2 (.raw (.ref ad))).st 4 (.raw (.ref nd.f))) 0 (σ5 0) hk (vi 0 _ rfl) (by decide) (by decide) (f₅.at ht₅) λu r pl=>?_) (hbase _ _) rfl hl2) hint)
 obtain rfl:=jb (r.rep rfl)
 refine qI P5 6 rfl v6 js rfl (.inr (.inr (.inr (.inr (.inr (.inr (.inl rfl))))))) ?_
 have x5:=(f₅.keeps (jh (tk:=tk5+1))).at (Vn _)
 have q5:PEs ((c.st 2 (.raw (.ref ad))).st 4 (.raw (.ref nd.f))) [.Name "element" x13] [.raw (.ref nd.f)]:=.cons (.var 4 hk (vi 4 _ rfl) (σ5 4) (by decide) (by decide)) .nil
 refine vu (k:=ko) rfl (je rfl (q5.use x5 λvs s6 k6 x6 r6=>?_))
 obtain⟨v1,rfl,e1⟩:∃v,vs=[v]/\Rep _ (.raw (.ref nd.f)) v:=by
  (refine jW r6 ?_;rintro v vs' rfl e rfl)
  exact⟨v,rfl,e⟩
 obtain rfl:=jb e1
 (refine jn k6 ?_;clear k6;rintro h6 tk6 rfl kk6)
 refine⟨kk6 _ _ hbo5,Jm (kk6 _ _ hbo5) (kk6 _ _ hko5) (by rw [QV];exact zq1 ‹_› rfl) λh7 n7 hk7 sb7=>?_⟩
 have f6:=f₅.keeps (s':={ s with heap:=h6,toks:=tk6 }) ⟨h6,tk6,rfl,kk6⟩
 have f7:=f6.but1 (h':=h7) (tk:=tk6) (D:=ko) ⟨Q7 _ Hk.mem,Hk.dead,Hk.nl,Hk.nc⟩ ⟨_,hk7⟩ sb7
 subst eS4
 refine QF (YH (kr (c:=(c.st 2 (.raw (.ref ad))).st 4 (.raw (.ref nd.f))) 4 (σ5 4) hk (vi 4 _ rfl) (by decide) (by decide) (f7.at x6.tk) λu r=>?_))
 obtain rfl:=jb (r.rep rfl)
 have nko:∀ {y:Qk},h3.get? y=Qg->y≠ko:=λ{y} e q=>by
  have:=kk3 _ _ (k02 _ _ Hk.off hko);rw [q,this]at e;exact no2 e
 have up7:∀y o,Off c y->y≠ko->h4.get? y=Qf o->h7.get? y=Qf o:=λy o f n e=>(sb7.2 y n).trans (kk6 _ _ ((sm5 y f).trans e))
 have dead0:∀a∈[nd.f,nd.d,nd.k,nd.b,nd.g,nd.c],s.heap.get? a=none:=λa ha=>by
  cases q:s.heap.get? a with
  | none=>rfl
  | some o=>have:=kk3 _ _ (k02 a o (offN a ha) q);rw [dead4 a ha]at this;exact no1 this
 have offA:∀ {a},a∈[nd.f,nd.d,nd.k,nd.b,nd.g,nd.c]->∀o,h4.get? a=Qf o->h7.get? a=Qf o:=λ{a} ha o e=>up7 a o (offN a ha) (nko (dead4 a ha)) e
 have kf:∀b o vs,o.data=.fields vs->h4.get? b=Qf o->h7.get? b=Qf o:=λb o vs q e=>up7 b o (f4.offFields e q) (λe'=>by
  rw [e',kp4 _ _ nk171 (kk3 _ _ (k02 _ _ Hk.off hko))]at e;(have q_:=oi e;clear e;subst q_);cases q) e
 refine h nd ad h7 tk6 t4 x6.tk (λb o ob n1 n2 e=>(sb7.2 b n2).trans (kk6 _ _ (k05 b o ob n1 e))) ?_ ?_ nod4 (fix4.at (λb hb o e=>offA (by simp at hb ⊢;rcases hb with h | h | h | h<;>simp [h]) o e) kf) (dic4.at λo e=>offA (.tail _ (.head _)) o e) ?_ ?_ ⟨_,hk7⟩
 ·refine(T5.keeps kk6).but (M:=[ko]) (λb o hb e=>(sb7.2 b λq=>hb (q▸.head _)).trans e) (λm=>nk171 (Q9 m).symm) λm hm o vs e q=>?_
  obtain rfl:=Q9 hm
  rw [kk6 _ _ hko5]at e;(have q_:=oi e;clear e;subst q_);cases q
 ·intro a ha
  rcases Qb ha with rfl | ha
  ·exact dad
  ·exact dead0 a ha
 ·have nad171:ad≠171:=λq=>by(refine jc T ?_;intro ps e _);rw [q,e]at dad;exact no2 dad
  exact jq Dad2 λo e=>(sb7.2 ad (λq=>by rw [q,hko]at dad;exact no2 dad)).trans (kk6 _ _ ((sm5 ad offad).trans (kp4 _ _ nad171 (kk3 _ _ e))))
 ·(refine jd kl4 ?_;intro n e)
  exact⟨n,offA (.tail _ (.tail _ (.head _))) _ e⟩
end
noncomputable abbrev JG(w:Ql):FuncData:=vx (o_130 w.params)
noncomputable abbrev zY:List Qd:=["parent","tag","attrib","extra"]
noncomputable abbrev v120:List Qd:=["parent","tag","attrib","extra","element"]
theorem n120(w:Ql):Names (JG w) v120:=.of (by kernel_rfl)
theorem b_120(w:Ql):(Bh w).get? 120=Qf (o_130 w.params):=by kernel_rfl
theorem cd_120(w:Ql):(Bh w).CodeRec (JG w).code (JG w).qualname:=ji (by kernel_rfl)
theorem b_113(w:Ql):(Bh w).get? 113=Qf { cls:=.type "tuple",data:=.seq #[.ref 112] 0 }:=by kernel_rfl
theorem b_112(w:Ql):(Bh w).get? 112=Qf (Vh [] 0):=by kernel_rfl
theorem b_1(w:Ql):((Bh w).get? 1).isSome=true:=by kernel_rfl
theorem qY{w:Ql}{h:QU}(hB:∀a o,(Bh w).get? a=Qf o->h.get? a=Qf o){d:Qk}(e:h.get? d=Qg):(d==Vc)=false:=by
 (refine jd (Vz.mp (b_1 w)) ?_;intro o ho)
 refine beq_eq_false_iff_ne.mpr λq=>?_
 rw [q]at e
 have:h.get? 1=none:=e
 rw [hB _ _ ho]at this;exact no2 this
theorem st120(w:Ql):∃body,(JG w).body=.stmts body/\∀(c:Ct),c=c->body=body:=⟨_,rfl,λ_ _=>rfl⟩
theorem sub120{w:Ql}{prog:QI}{A:QO}{n:Nat}{args:Args}{X:List Qk}{s:Qi}{E:Qe}{Q:Qe}{fo Do bo ko a1:Qk}{vals:List Qm}{tg:Qd}{t0:Tok}{k1 ex:List (Qd×Qm)}{kids:Array Qm}{nk:Nat}(room:Room (n+3) A)
  (hB:∀a o,(Bh w).get? a=Qf o->s.heap.get? a=Qf o) (hX:∀x∈X,∃o,s.heap.get? x=Qf o) (h171:171∈X) (hkX:ko∈X) (hkB:(Bh w).get? ko=Qg) (htk:1<=s.toks) (T:TabOk s.heap)
  (P:FnAt s.heap fo Do nmN vals) (v5:vals[5]?=Qf (.ref 176)) (v6:vals[6]?=Qf (.ref bo)) (hbo:s.heap.get? bo=Qf (jv ko)) (hko:s.heap.get? ko=Qf { cls:=.type "list",data:=.seq kids nk }) (hkz:kids.size<=1000) (nb:bo≠171)
  (D1:s.heap.DictOf (QH prog w) a1 k1) (hz:k1.length+ex.length<=900) (s1:(a1==Vc)=false)
  (hb:JH prog w A.in1 (JG w) args (.ref fo) (.str tg t0) (.ref a1) ex s)
  (h:∀(nd:Nd) ad h' tk t,1<=tk->(∀b o,b≠171->b≠ko->s.heap.get? b=Qf o->h'.get? b=Qf o)->TabOk h'->(∀a∈[ad,nd.f,nd.d,nd.k,nd.b,nd.g,nd.c],s.heap.get? a=Qg)->[nd.f,nd.d,nd.k,nd.b,nd.g].Nodup->NdFix w h' nd->NdDic h' nd tg ad "" (.str "" t)->h'.DictOf (QH prog w) ad (Yb (Yb [] k1) ex) ->
   h'.PlainList nd.k #[]->h'.PlainList ko (kids.push (.ref nd.f))->Q (.ref nd.f) { s with heap:=h',toks:=tk }) :
  Qo (model prog w) A (call (.ref 120) args.pos args.kw) Q E s:=by
 (refine jc (st120 w) ?_;intro body hbody _)
 have hsys:∀ {d:Qk},s.heap.get? d=Qg->(d==Vc)=false:=qY hB
 refine Jc (names:=zY) (more:=["element"]) (args:=args) (M:=[171,ko]) (λavs s'=>∃d,avs=[.raw (.ref fo),.str tg,.raw (.ref a1),.raw (.ref d)]/\s'.heap.DictOf (QH prog w) d ex/\s.heap.get? d=Qg) (b_120 w) rfl hbody rfl (cd_120 w) (n120 w) room hB (λm hm=>?_) hX htk (λE' Q' k=>?_) λE' s' s₁ avs kz q ht ks f₁=>?_
 ·simp only [QD,QG,or_false]at hm
  rcases hm with rfl | rfl
  ·exact Jn w
  ·exact hkB
 ·refine hb E' Q' λh' tk d dead D kk=>k { s with heap:=h',toks:=tk } _ _ ⟨h',tk,rfl,kk⟩ (.cons (a:=.raw (.ref fo)) vC (.cons vq (.cons (a:=.raw (.ref a1)) vC (.cons (a:=.raw (.ref d)) vC .nil)))) rfl ⟨d,rfl,D,dead⟩
 ·(refine ye q ?_;clear q;rintro d rfl D2 dead)
  have V:=(n120 w).cV (a:=120) (prog:=prog) (w:=w) (A:=A) (L:=s'.heap.objs.size)
  have G:=(n120 w).cG (a:=120) (w:=w) (prog:=prog) (L:=s'.heap.objs.size) room rfl rfl
  (refine jn kz ?_;clear kz;rintro h' tk' rfl kk)
  (refine jn ks ?_;clear ks;rintro h1 tk1 rfl kk1)
  have up:∀b o,s.heap.get? b=Qf o->h1.get? b=Qf o:=λb o e=>kk1 _ _ (kk _ _ e)
  have offs:∀ {y:Qk} {o:Obj},s.heap.get? y=Qf o->Off (cx (JG w) 120 (zY++[("element" : Qd)]) prog w A h'.objs.size [] [Qf (.raw (.ref fo)),Qf (.str tg),Qf (.raw (.ref a1)),Qf (.raw (.ref d)),Qg]) y:=λ{y o} e=>f₁.offLt (jg (kk _ _ e))
  have Hm:∀m,m∈X->m∈[171,ko]->∀o,s.heap.get? m=Qf o->HidOk (cx (JG w) 120 (zY++[("element" : Qd)]) prog w A h'.objs.size [] [Qf (.raw (.ref fo)),Qf (.str tg),Qf (.raw (.ref a1)),Qf (.raw (.ref d)),Qg]) X (qq { s with heap:=h',toks:=tk' } [171,ko]) m:=λm hx hm o e=>⟨hx,Zu _ hm,(offs e).1,(offs e).2⟩
  (refine jc (id T) ?_;intro ps h171' _)
  obtain⟨⟨fd,hfo⟩,es,ne,hDo,_⟩:=id P
  have D1':=jq D1 (h':=h1) λo e=>up _ _ e
  have D2':=jq D2 (h':=h1) λo e=>kk1 _ _ e
  cases hbody
  refine sub_body (c:=cx (JG w) 120 (zY++[("element" : Qd)]) prog w A h'.objs.size [] [Qf (.raw (.ref fo)),Qf (.str tg),Qf (.raw (.ref a1)),Qf (.raw (.ref d)),Qg]) rfl (G _ _) rfl rfl (V _ _) f₁ ht (Hm _ h171 (.head _) _ h171') (Hm _ hkX (.tail _ (.head _)) _ hko) (T.keeps up) (P.keeps up) v5 v6 (up _ _ hbo) (up _ _ hko) hkz D1' D2' hz s1 (hsys dead) (λy hy=>?_) nb (λnd ad h2 tk2 t2 ht2 kk2 T2 dead2 nod fix dic D3 kl2 kl3=>?_) rfl rfl rfl rfl
  ·simp only [QD,QG,or_false]at hy
   rcases hy with rfl | rfl | rfl
   ·exact offs hfo
   ·exact offs hDo
   ·exact offs hbo
  ·refine h nd ad h2 tk2 t2 ht2 (λb o n1 n2 e=>kk2 b o (offs e) n1 n2 (up _ _ e)) T2 (λa ha=>?_) nod fix dic D3 kl2 kl3
   cases q:s.heap.get? a with
   | none=>rfl
   | some o=>have:=up _ _ q;rw [dead2 a ha]at this;exact no1 this
section
open Builtin
section
variable {prog:QI} {w:Ql} {A:QO} {E:Qe} {s:Qi}
theorem qW:entryFor table "hasattr"=Qf Builtin.«hasattr»:=entryFor_of_tree (by kernel_rfl)
theorem vv(a b:Qm):argsOk "hasattr" ⟨[a,b],[]⟩:=by unfold argsOk;kernel_rfl
theorem fn_mod:isSubtype (.type "function") (.type "module")=pure false:=by rw [Xs];kernel_rfl
theorem dict_mod:isSubtype (.type "dict") (.type "module")=pure false:=by rw [Xs];kernel_rfl
theorem vU:Xo (.type "dict") "tag"=pure none:=by rw [XI,X3];kernel_rfl
theorem fn_by{f D:Qk}{fd:VF}{es:List VJ}{n:Nat}{name:Qd}{v:Qm}{tk:Tok}{Q:Qe}(hf:s.heap.get? f=Qf (kc (Qf D) fd))(hD:s.heap.get? D=Qf (Vh es n))(hnm:Xo (.type "function") name=pure Qg)(hv:lookIn name (Vh es n)=Qf (Qf v))(hh:Z0 v=true)
  (hq:Q v s):Qo (model prog w) A (Zk (.ref f) (.str name tk) false) Q E s:=by
 obtain⟨h,g,d,t,os⟩:=s
 have hT:(⟨h,g,d,t,os⟩:Qi).TypeIs (.ref f) "function":=⟨_,hf,rfl⟩
 have f1:=slot_fn_ga.lookup
 have f2:=xX
 have f4:=slot_fn_ga.bind (.ref f)
 have f5:=handedOut_of hh
 unfold Zk
 repeat (any_goals (first | assumption | (first | with_reducible (first | refine Qh ?_ | refine Qn ?_ | refine Vs (by assumption) ?_ | refine Vy (by assumption) ?_ | refine Vq ?_ | refine Zj ?_ | refine QS ?_ | refine QX (by assumption) (by assumption) ?_ | refine QW (by assumption) (by assumption) ?_) | wp_delta | ((with_reducible show Qo _ _ (ite _ _ _) _ _ _);first | refine V2 (by rfl) ?_ | refine V6 (by rfl) ?_) | wp_step)))
 refine XF slot_fn_ga.plain F.entry_object_getattribute (slot_fn_ga.check _ _ _ _ _ _ _ _ hT (by unfold argsOk;kernel_rfl) (Jb hf hD hnm hv ?_))
 repeat (any_goals (first | assumption | (first | with_reducible (first | refine Qh ?_ | refine Qn ?_ | refine Vs (by assumption) ?_ | refine Vy (by assumption) ?_ | refine Vq ?_ | refine Zj ?_ | refine QS ?_ | refine QX (by assumption) (by assumption) ?_ | refine QW (by assumption) (by assumption) ?_) | wp_delta | ((with_reducible show Qo _ _ (ite _ _ _) _ _ _);first | refine V2 (by rfl) ?_ | refine V6 (by rfl) ?_) | wp_step)))
theorem dict_by{a:Qk}{es:Array VJ}{k:Nat}{name:Qd}{tk:Tok}{Q:Qe}{sl:Array (Option Qm)}
  (hx:s.heap.get? a=Qf { cls:=.type "dict",dict:=Qg,data:=.dict es k,slots:=sl }) (hmiss:Xo (.type "dict") name=pure Qg) (hname:(["__module__","__name__","__qualname__","__doc__","__annotations__"]:List Qd).contains name=false) (hA:A.handled=Qg)
  (h:∀h' tk e,Heap.NewExcOf s.heap h' e "AttributeError"->E (.ref e) { s with heap:=h',toks:=tk }) (hsz:name.length+100<=sizeLine:=by size_fits) :
  Qo (model prog w) A (Zk (.ref a) (.str name tk) false) Q E s:=by
 obtain⟨hp,g,d,t,os⟩:=s
 have hT:∀tk',(⟨hp,g,d,tk',os⟩:Qi).TypeIs (.ref a) "dict":=λ_=>⟨_,hx,rfl⟩
 have f1:=sub_AttributeError
 have f3:=F.slot_dict_getattribute.lookup
 have f4:=F.slot_dict_getattribute.bind (.ref a)
 have f5:=am_dict_getattr_none
 unfold Zk
 repeat (any_goals (first | assumption | exact hT _ | ((with_reducible show Qo _ _ (call (Value.builtin "dict.__getattribute__") _ _) _ _ _);refine call_meets F.slot_dict_getattribute (hT _) am_entry_dict_getattribute (F.args_dict_getattribute_2 _ _) (meets_getattribute_miss_dict a es k sl name _ hmiss hname hsz) ⟨hx,hA,λh' tk' e hx'=>?_⟩) | (first | with_reducible (first | refine Qh ?_ | refine Qn ?_ | refine Vs (by assumption) ?_ | refine Vy (by assumption) ?_ | refine Vq ?_ | refine Zj ?_ | refine QS ?_ | refine QX (by assumption) (by assumption) ?_ | refine QW (by assumption) (by assumption) ?_) | wp_delta | ((with_reducible show Qo _ _ (ite _ _ _) _ _ _);first | refine V2 (by rfl) ?_ | refine V6 (by rfl) ?_) | wp_step)))
 (refine jN hx'.there ?_;intro t' u' he)
 show Qo _ _ (getattributeRaised _ _ _ _ _ _ _) _ _ _
 unfold getattributeRaised
 repeat (any_goals (first | assumption | (first | with_reducible (first | refine Qh ?_ | refine Qn ?_ | refine Vs (by assumption) ?_ | refine Vy (by assumption) ?_ | refine Vq ?_ | refine Zj ?_ | refine QS ?_ | refine QX (by assumption) (by assumption) ?_ | refine QW (by assumption) (by assumption) ?_) | wp_delta | ((with_reducible show Qo _ _ (ite _ _ _) _ _ _);first | refine V2 (by rfl) ?_ | refine V6 (by rfl) ?_) | wp_step)))
 exact h _ _ _ hx'.of
theorem has_fn{f D:Qk}{ns:List Qd}{vals:List Qm}{v:Qm}{tk:Tok}{Q:Qe}(P:FnAt s.heap f D ns vals)(i:Nat)(hn:ns[i]?=Qf "tag")(hv:vals[i]?=Qf v)(nd:ns.Nodup)(hh:Z0 v=true)(hq:Q (.bool true) s) :
  Qo (model prog w) A (call (.builtin "hasattr") [.ref f,.str "tag" tk]) Q E s:=by
 refine Calls.call_function_entry (by kernel_rfl) (by decide +kernel) qW (vv _ _) ?_
 have hT:s.TypeIs (.ref f) "function":=by(refine jw P ?_;clear P;rintro⟨fd,a⟩ _);exact⟨_,a,rfl⟩
 have f1:=fn_mod
 have f2:=zp "tag" (.inl rfl)
 obtain⟨⟨fd,a⟩,es,n,b,c,e⟩:=P
 have G:∀ {A:QO} {E:Qe} {Q:Qe},Q v s->Qo (model prog w) A (Zk (.ref f) (.str "tag" tk) false) Q E s:=λq=>fn_by a b (zp _ (.inl rfl)) (by rw [lookIn_dict];exact ya c nd hn (by rw [e];exact hv)) hh q
 unfold Builtin.«hasattr»
 repeat (any_goals (first | assumption | ((with_reducible show Qo _ _ (Zk _ _ _) _ _ _);apply G) | (first | with_reducible (first | refine Qh ?_ | refine Qn ?_ | refine Vs (by assumption) ?_ | refine Vy (by assumption) ?_ | refine Vq ?_ | refine Zj ?_ | refine QS ?_ | refine QX (by assumption) (by assumption) ?_ | refine QW (by assumption) (by assumption) ?_) | wp_delta | ((with_reducible show Qo _ _ (ite _ _ _) _ _ _);first | refine V2 (by rfl) ?_ | refine V6 (by rfl) ?_) | wp_step)))
 exact⟨_,rfl,hq⟩
theorem has_dict{a:Qk}{kvs:List (Qd×Qm)}{tk:Tok}{Q:Qe}(D:s.heap.DictOf (QH prog w) a kvs)(hA:A.handled=Qg)(hq:∀h' tk,(∀b o,s.heap.get? b=Qf o->h'.get? b=Qf o)->Q (.bool false) { s with heap:=h',toks:=tk }) :
  Qo (model prog w) A (call (.builtin "hasattr") [.ref a,.str "tag" tk]) Q E s:=by
 refine Calls.call_function_entry (by kernel_rfl) (by decide +kernel) qW (vv _ _) ?_
 (refine Jx D ?_;clear D;rintro o es ep ho ⟨hc,hd,hs⟩ hdat _)
 obtain⟨cl,dct,dat,sl⟩:=o
 simp only at hc hd hs hdat
 subst hc hd hs hdat
 have hT:s.TypeIs (.ref a) "dict":=⟨_,ho,rfl⟩
 have f1:=dict_mod
 have f2:=vU
 have f3:=sub_AttributeError
 have hA':A.in1.handled=none:=hA
 unfold Builtin.«hasattr»
 repeat (any_goals (first | assumption | ((with_reducible show Qo _ _ (Zk _ _ _) _ _ _);refine dict_by ho vU (by decide) hA' (λh' tk' e hx=>?_);(refine jW hx.there ?_;intro ob vs he hcl _);have hTe:({ s with heap:=h',toks:=tk' }:Qi).TypeIs (.ref e) "AttributeError":=⟨_,he,hcl⟩) | (first | with_reducible (first | refine Qh ?_ | refine Qn ?_ | refine Vs (by assumption) ?_ | refine Vy (by assumption) ?_ | refine Vq ?_ | refine Zj ?_ | refine QS ?_ | refine QX (by assumption) (by assumption) ?_ | refine QW (by assumption) (by assumption) ?_) | wp_delta | ((with_reducible show Qo _ _ (ite _ _ _) _ _ _);first | refine V2 (by rfl) ?_ | refine V6 (by rfl) ?_) | wp_step)))
 exact⟨_,rfl,hq _ _ hx.keeps⟩
end
end
noncomputable abbrev Up(w:Ql)(B:QU):Prop:=∀a o,(Bh w).get? a=Qf o->B.get? a=Qf o
theorem Kq{w:Ql}{B:QU}(U:Up w B):B.NoLimit:=by(refine jc (JE w) ?_;intro mc q r);exact⟨mc,q.keeps U,r⟩
theorem Names.oG{fd:VF}{vars:List Qd}(N:Names fd vars){w:Ql}{B:QU}(U:Up w B){a:Qk}{prog:QI}{A:QO}{n:Nat}{L:Qk}(room:Room (n+1) A)(hg:fd.globals=XD)(hb:fd.builtins=YL)(σ:List (Option AV)):Gd (ctOf prog w B A fd a vars σ L) n (mg w) (mb w) :=
 ⟨N.kind,hg,hb,(mg_ns w).keeps U,(mb_ns w).keeps U,Kq U,room.deeper⟩
theorem Df.calB{w:Ql}{B:QU}(U:Up w B){a:Qk}{o:Obj}{fd:VF}{body:List XM}{names more:List Qd}(D:Df (Bh w) a o fd body names more){prog:QI}{A:QO}{n:Nat}{avs:List AV}{res:AV}
  (room:Room (n+1) A) (hlen:avs.length=names.length) (h:∀L,XS (ctOf prog w B A fd a (names++more) (avs.map Qf++more.map λ_=>Qg) L) body (λo=>o=.rt res)):Cal prog w B A (.ref a) avs res :=
 cal_of (U _ _ D.ho) D.hd D.hb D.hclo (Kq U) (D.hcd.keeps U) D.N D.hbind hlen room h
noncomputable abbrev F111(w:Ql):FuncData:=vx (o_121 w.params)
theorem n111(w:Ql):Names (F111 w) ["element"]:=.of (by kernel_rfl)
theorem b_111(w:Ql):(Bh w).get? 111=Qf (o_121 w.params):=by kernel_rfl
theorem g_has(w:Ql):mg w "hasattr"=none:=by kernel_rfl
theorem m_has(w:Ql):mb w "hasattr"=Qf (.builtin "hasattr"):=by kernel_rfl
theorem d111(w:Ql):∃body,Df (Bh w) 111 (o_121 w.params) (F111 w) body ["element"] []/\∀(B:QU) (A:QO) n prog a r,Up w B->Room (n+1) A->(∀A',A'.handled=Qg->Cal prog w B A' (.builtin "hasattr") [.raw (.ref a),.str "tag"] (.bool r))->∀L,
  XS (ctOf prog w B A (F111 w) 111 ["element"] [Qf (.raw (.ref a))] L) body (λo=>o=.rt (.bool r)):=by
 refine⟨_,⟨b_111 w,rfl,rfl,rfl,ji (by kernel_rfl),n111 w,λvs h=>?_⟩,?_⟩
 ·(refine jd (jQ h) ?_;rintro v rfl);rfl
 ·intro B A n prog a r U room hc L
  have G:=(n111 w).oG (a:=111) U (prog:=prog) (L:=L) room rfl rfl
  exact XS.cons (X1.ret (PE.callB (.blt (G _) (g_has w) (m_has w) rfl (by decide)) (.cons (.var 0 rfl rfl rfl (by decide) (by decide)) (.cons .str .nil)) (hc _ room.1)) rfl)
theorem ise_fn{w:Ql}{B:QU}(U:Up w B){prog:QI}{A:QO}{n:Nat}{f D:Qk}{vals:List Qm}{v:Qm}(room:Room (n+1) A)(P:FnAt B f D nmN vals)(hv:vals[0]?=Qf v)(hh:Z0 v=true):Cal prog w B A (.ref 111) [.raw (.ref f)] (.bool true):=by
 (refine jc (d111 w) ?_;intro body D h)
 refine D.calB U room rfl λL=>h B A n prog f true U room (λA' hA X s E vs hB hX ht hr=>?_) L
 (refine jW (yu hr) ?_;rintro u1 u2 rfl e1 e2)
 obtain rfl:=jb e1
 (refine jd (jj e2) ?_;rintro t rfl)
 exact has_fn (P.keeps hB) 0 rfl hv js hh ⟨kU,repB⟩
theorem ise_dict{w:Ql}{B:QU}(U:Up w B){prog:QI}{A:QO}{n:Nat}{a:Qk}{kvs:List (Qd×Qm)}(room:Room (n+1) A)(D:B.DictOf (QH prog w) a kvs):Cal prog w B A (.ref 111) [.raw (.ref a)] (.bool false):=by
 (refine jc (d111 w) ?_;intro body D' h)
 refine D'.calB U room rfl λL=>h B A n prog a false U room (λA' hA X s E vs hB hX ht hr=>?_) L
 (refine jW (yu hr) ?_;rintro u1 u2 rfl e1 e2)
 obtain rfl:=jb e1
 (refine jd (jj e2) ?_;rintro t rfl)
 exact has_dict (jq D λo e=>hB _ _ e) hA λh' tk k=>⟨⟨h',tk,rfl,k⟩,repB⟩
structure TreeD where
 nd:Nat->Nd
 tg:Nat->Qd
 ad:Nat->Qk
 txt:Nat->List Nat
 tv:Nat->AV
 kd:Nat->List Nat
noncomputable def jo(T:TreeD):Nat->Nat->AV
 | 0,_=>.none
 | F+1,j=>.fn (T.nd j).f nmN [.str (T.tg j),.raw (.ref (T.ad j)),.str (tx (T.txt j)),T.tv j,.list ((T.kd j).map (jo T F)),.raw (.ref 176),.raw (.ref (T.nd j).b),.raw (.ref (T.nd j).g)]
noncomputable def jB(T:TreeD):Nat->Nat->List (List Nat)
 | 0,_=>[]
 | F+1,j=>[T.txt j]++(T.kd j).flatMap λk=>jB T F k++[[]]
theorem iterL1{T:TreeD}{F j:Nat}:jB T (F+1) j=[T.txt j]++(T.kd j).flatMap λk=>jB T F k++[[]]:=rfl
noncomputable def ItxC(prog:QI)(w:Ql)(B:QU)(A:QO)(g:Qk)(av res:AV)(f:Qk):Prop:=∀ ⦃X:List Qk⦄ (s:Qi) (E:Qe),
 (∀a o,B.get? a=Qf o->s.heap.get? a=Qf o)->(∀x∈X,∃o,s.heap.get? x=Qf o)->1<=s.toks->Rep (hid X s.heap) av (.ref f) ->
 Qo (model prog w) A (call (.ref g) []) (λv s'=>Vb s s'/\Rep (hid X s'.heap) res v) E s
section
variable {c:Ct}
theorem PE.itx{T:TreeD}{F j:Nat}{e:Expr}{apos cpos:Pos}{res:AV}(p:PE c e (jo T (F+1) j))(N:NdFix c.w c.B (T.nd j))(h:ItxC c.prog c.w c.B c.A (T.nd j).g (jo T (F+1) j) res (T.nd j).f)
  (hbase:Vp e "itertext" c.env (eval e c.env)=eval e c.env:=by rfl) (hline:(apos.endLine==cpos.line)=true:=by rfl):PE c (.Call (.Attribute e "itertext" apos) [] [] cpos) res:=λY s E x₀ =>
 qS (es:=[]) (p.use x₀ λv s₁ k₁ x₁ r pl=>by
  have r':=r
  (refine xl r ?_;clear r;rintro dx fd es n rfl h1 h2 h3 h4)
  (refine jc (h4.get (i:=7) (a:=.raw (.ref (T.nd j).g)) rfl) ?_;intro u hu ru)
  obtain rfl:=jb ru
  obtain⟨_,_,⟨cv,ctv,hg,_⟩,_⟩:=N
  refine qI (⟨⟨fd,j9 h1⟩,es,n,j9 h2,h3,rfl⟩:FnAt s₁.heap (T.nd j).f dx nmN (es.map (·.val))) 7 rfl hu js rfl (.inr (.inr (.inr (.inr (.inr (.inr (.inr rfl))))))) ?_
  refine VT (fd:=kla_fn "<lambda>" qn (yD c.w).1 (yD c.w).2.1 (yD c.w).2.2 [("node",(T.nd j).c)] ((mg c.w "__name__").getD .none) cv ctv) (je rfl (QK ⟨⟨x₁.base _ _ hg,rfl⟩,?_⟩))
  have r2:Rep (hid (c.X++Y) s₁.heap) (jo T (F+1) j) (.ref (T.nd j).f):=r'
  exact Qz (h { s₁ with toks:=s₁.toks+1 } E x₁.base x₁.live (Vn _) r2) (λv s₃ ⟨k₃,r₃⟩=>⟨ktr k₁ (ktr jh k₃),r₃⟩) λ_ _ y=>y) hbase rfl hline
theorem lam_pe{T:TreeD}{F j:Nat}{sc:Scope}{cl:List (Qd×Qk)}{p1 p2 p3 p4 p5 p6 p7 p8 p9 p10 p11 p12 p13 p14 p15 p16 p17:Pos}(ok:CmOk c sc ["kid","part"] [] cl)(hh:c.A.handled=Qg)(hk:c.env.scope.kind=.function)(hv:c.vars=(["node"]:List Qd))(hσ:c.σ=[Qf (jo T (F+1) j)])
  (hN:∀k∈T.kd j,∃F',F=F'+1/\NdFix c.w c.B (T.nd k)/\T.tv k=.str (tx [])/\ItxC c.prog c.w c.B c.A (T.nd k).g (jo T F k) (.list (tL (jB T F k))) (T.nd k).f) (hz:(jB T (F+1) j).length<=1000) (hzk:∀k∈T.kd j,(jB T F k).length<=1000)
  (hs':∀C x,QN (.BinOp (.Call (.Attribute (.Name "kid" p9) "itertext" p10) [] [] p11) .Add (.List [.Attribute (.Name "kid" p12) "tail" p13] p14) p15) (jT c sc cl C) x=pure x:=by intro _ _;rfl)
  (hl:(p10.endLine==p11.line)=true:=by rfl) :
  PE c (.BinOp (.List [.Attribute (.Name "node" p1) "text" p2] p3) .Add (.ListComp (.Name "part" p4) [⟨.Name "kid" p5,.Attribute (.Name "node" p6) "kids" p7,[],0⟩,⟨.Name "part" p8,.BinOp (.Call (.Attribute (.Name "kid" p9) "itertext" p10) [] [] p11) .Add (.List [.Attribute (.Name "kid" p12) "tail" p13] p14) p15,[],0⟩] sc p16) p17) (.list (tL (jB T (F+1) j))):=by
 have hn:∀p:Pos,PE c (.Name "node" p) (jo T (F+1) j):=λp=>.var 0 hk (by rw [hv];rfl) (by rw [hσ];rfl) (by decide) (by decide)
 have z1:1<=sizeLine:=by decide
 have len:jB T (F+1) j=[T.txt j]++(T.kd j).flatMap λk=>jB T F k++[[]]:=rfl
 have hz':((T.kd j).flatMap λk=>jB T F k++[[]]).length<=1000:=by rw [len]at hz;simp only [QC]at hz;lia
 have e0:((T.kd j).flatMap λk=>((jB T F k++[[]]).filter λ_=>true).map λl=>AV.str (tx l))=tL ((T.kd j).flatMap λk=>jB T F k++[[]]):=by
  have ft:∀l:List (List Nat),l.filter (λ_=>true)=l:=λl=>Yt.mpr (by simp)
  simp only [ft,tL,List.map_flatMap]
 have q:PE c (.ListComp (.Name "part" p4) [⟨.Name "kid" p5,.Attribute (.Name "node" p6) "kids" p7,[],0⟩,⟨.Name "part" p8,.BinOp (.Call (.Attribute (.Name "kid" p9) "itertext" p10) [] [] p11) .Add (.List [.Attribute (.Name "kid" p12) "tail" p13] p14) p15,[],0⟩] sc p16) (.list (tL ((T.kd j).flatMap λk=>jB T F k++[[]]))):=by
  rw [<-e0]
  refine PE.comp ok (PI.list hh (PE.fatt (hn _) 4 rfl rfl js (.inr (.inr (.inr (.inr (.inl rfl))))))) (λC=>CL.c2 ok (jo T F) (λk=>jB T F k++[[]]) (λl=>AV.str (tx l)) (λ_ _=>true) (λ_ l=>AV.str (tx l)) C (λk hk'=>?_) (hs' C)) (by rw [e0,Qy,QV];exact zq1 ‹_› rfl)
  refine e1_4 (hN k hk') ?_;rintro F' rfl N tv it
  have kv:∀p:Pos,PE (v8 c (jT c sc cl C) ["kid","part"] [] [Qf (jo T (F'+1) k),Qg]) (.Name "kid" p) (jo T (F'+1) k):=λp=>.var 0 (ok.S C).kind rfl rfl (by decide) (by decide)
  have tl:PE (v8 c (jT c sc cl C) ["kid","part"] [] [Qf (jo T (F'+1) k),Qg]) (.Attribute (.Name "kid" p12) "tail" p13) (.str (tx [])):=.fatt (kv _) 3 rfl (by show Qf (T.tv k)=_;rw [tv]) js (.inr (.inr (.inr (.inl rfl))))
  refine⟨PI.list hh ((PE.addL (.list (PE.itx (kv _) N it rfl hl)) (.list (.list (.cons tl .nil) z1)) (by rw [Qy,QV];have:=hzk k hk';simp;exact zq1 ‹_› rfl)).as ?_),λl hl'=>⟨.nil,λ_=>.var 1 (ok.S C).kind rfl rfl (by decide) (by decide)⟩⟩
  simp [tL]
 refine(PE.addL (.list (.list (.cons (.fatt (hn _) 2 rfl rfl js (.inr (.inr (.inl rfl)))) .nil) z1)) (.list q) (by rw [Qy,QV];simp only [QA,QQ];lia)).as ?_
 rw [len];simp [tL]
end
noncomputable abbrev lamFd(w:Ql)(ca:Qk)(cv ctv:Qm):FuncData:=kla_fn "<lambda>" qn (yD w).1 (yD w).2.1 (yD w).2.2 [("node",ca)] ((mg w "__name__").getD .none) cv ctv
theorem lam_bind(w:Ql)(ca:Qk)(cv ctv:Qm):bindArgs (lamFd w ca cv ctv) ⟨[],[]⟩=pure []:=by kernel_rfl
theorem lam_sc(w:Ql):(yD w).2.2.isCoroutine=false/\(yD w).2.2.isGenerator=false/\(yD w).2.2.kind=.function/\(yD w).2.2.names.all (λx=>x.2 != .cell)=true/\(yD w).2.2.names.lookup ("node" : Qd)=Qf .free:=⟨by kernel_rfl,by kernel_rfl,by kernel_rfl,by kernel_rfl,by kernel_rfl⟩
noncomputable abbrev lamEnv(w:Ql)(ca g:Qk)(cv ctv:Qm)(L:Qk):Env:=newEnv (yD w).2.2 L XD [("node",ca)] (qn++".<locals>.") (Qf g) cv Qg YL
noncomputable abbrev lamC(prog:QI)(w:Ql)(B:QU)(A:QO)(ca g:Qk)(cv ctv:Qm)(L:Qk)(av:AV):Ct :=
 { prog:=prog,w:=w,B:=B,A:=A.deeper (lamEnv w ca g cv ctv L),env:=lamEnv w ca g cv ctv L,vars:=["node"],X:=[],σ:=[Qf av] }
theorem lam_itx{w:Ql}{prog:QI}{B:QU}{A:QO}{n:Nat}{f g ca:Qk}{cv ctv:Qm}{av res:AV}(U:Up w B)(room:Room (n+1) A)(hg:B.get? g=Qf (kc Qg (lamFd w ca cv ctv)))(hcd:B.CodeRec cv qn)(hce:B.IsCell ca (Qf (.ref f)))(hno:yy av)
  (h:∀L,PE (lamC prog w B A ca g cv ctv L av) (yD w).2.1 res):ItxC prog w B A g av res f:=λX s E hB hX ht hr=>by
 refine e0_5 (lam_sc w) ?_;intro c1 c2 c3 c4 c5
 have hl0:s.heap.NoLimit:=(Kq U).keeps hB
 refine wpAny_call (kla_callFunE room.depth (hB _ _ hg) rfl c1 c2 rfl (hcd.keeps hB) ?_)
 refine Vs (a:=[]) ?_ ?_
 ·exact lam_bind w ca cv ctv
 refine QB (n:=1) ht (wpAny_newFunctionEnv (λx hx=>?_) (λx hx=>nomatch hx) (λh' hns sb ht'=>?_) c3)
 ·have:=VV.mp c4 x hx
  simpa using this
 have up:∀b o,s.heap.get? b=Qf o->h'.get? b=Qf o:=λb o e=>(sb.2 b (QR (jg e))).trans (j7 _ _ e)
 refine⟨hl0.keeps up,kla_codeExpr ?_⟩
 have live:∀x∈s.heap.objs.size::X,∃o,h'.get? x=Qf o:=λx hx=>by
  rcases Qb hx with rfl | hx
  ·(refine yY hns ?_;intro o _ _ ho _);exact⟨o,ho⟩
  ·(refine jd (hX x hx) ?_;intro o e);exact⟨o,up _ _ e⟩
 have le:Le (hid X s.heap) (hid (s.heap.objs.size::X) h'):=λb o e=>by
  have e1:=j9 e
  refine jl (up _ _ e1) λm=>?_
  rcases Qb m with m | m
  ·exact absurd (jg e1) (by rw [m];exact XT _)
  ·unfold hid at e;rw [if_pos m]at e;exact no1 e
 have x:(lamC prog w B A ca g cv ctv s.heap.objs.size av).At (s.heap.objs.size::X) { s with heap:=h',toks:=s.toks+0 }:=by
  refine⟨λa o e=>up _ _ (hB a o e),live,λi y av' e e'=>?_,ht⟩
  match i,e,e' with
  | 0,e,e' =>
   (have q_:=oi e;clear e;subst q_);(have q_:=oi e';clear e';cases q_)
   exact .inr ⟨.inr c5,ca,.ref f,rfl,(hce.keeps hB).keeps up,.of (hr.mono le)⟩
  | i+1,e,e'=>exact no1 e
 refine Qz (h s.heap.objs.size _ _ x) (λv s' ⟨k,r⟩=>?_) λ_ _ y=>y
 exact⟨ktr ⟨h',_,rfl,up⟩ k,r.mono (jE λz hz=>.tail _ hz)⟩
theorem lam_pe'{w:Ql}{prog:QI}{B:QU}{A:QO}{n:Nat}{T:TreeD}{F j:Nat}{ca g:Qk}{cv ctv:Qm}(room:Room (n+1) A)
  (hN:∀k∈T.kd j,∃F',F=F'+1/\NdFix w B (T.nd k)/\T.tv k=.str (tx [])/\∀A',Room n A'->ItxC prog w B A' (T.nd k).g (jo T F k) (.list (tL (jB T F k))) (T.nd k).f) (hz:(jB T (F+1) j).length<=1000) (hzk:∀k∈T.kd j,(jB T F k).length<=1000) (L:Qk) :
  PE (lamC prog w B A ca g cv ctv L (jo T (F+1) j)) (yD w).2.1 (.list (tL (jB T (F+1) j))) :=
 lam_pe (CmOk.of (by kernel_rfl)) room.1 rfl rfl rfl (λk hk=>let ⟨F',a,b,c,d⟩:=hN k hk;⟨F',a,b,c,d _ room.deeper⟩) hz hzk
theorem KA{w:Ql}{prog:QI}{B:QU}(U:Up w B){T:TreeD}{N:Nat}(hk:∀j,j<N->∀k∈T.kd j,j<k/\k<N/\T.tv k=.str (tx []))(hn:∀j,j<N->NdFix w B (T.nd j))(hz:∀F j,F<=N->j<N->(jB T F j).length<=1000) :
  ∀F j,F<=N->N<=F+j->j<N->∀A,Room (F+1) A->ItxC prog w B A (T.nd j).g (jo T F j) (.list (tL (jB T F j))) (T.nd j).f
 | 0,j,_,h1,h2,_,_=>absurd h2 (by lia)
 | F+1,j,h0,h1,h2,A,room=>by
  obtain⟨_,_,⟨cv,ctv,hg,hcd⟩,hce⟩:=hn j h2
  refine lam_itx U room hg hcd hce rfl λL=>lam_pe' room (λk hk'=>?_) (hz _ _ h0 h2) (λk hk'=>hz _ _ (by exact Vt ‹_›) (hk j h2 k hk').2.1) L
  (refine xE (hk j h2 k hk') ?_;intro a b c)
  refine⟨F-1,by lia,hn k b,c,λA' room'=>KA U hk hn hz F k (by exact Vt ‹_›) (by lia) b A' room'⟩
section
variable {c:Ct} {Yc:List Qk} {g s:Qi}
theorem PT.non{e:Expr}(p:PE c e .none)(he:isTrue e c.env (eval e c.env)=(do let v <-eval e c.env;Xy e.pos;Zz [v] (truthy v)):=by rfl):PT c e false:=λY s E x₀ =>
 isTrue_plain (p.use x₀ λv s₁ k x₁ r=>by
  have:v=.none:=r
  subst this
  exact truthy_none ⟨k,rfl⟩) he
noncomputable abbrev kT(items:Array Qm)(n:Nat):Obj:={ cls:=.type "list",data:=.seq items n }
theorem xo{E:Qe}{Q:Flow->Qi->Prop}{bo ko:Qk}{items:Array Qm}{n:Nat}{y:Qd}{x:Qd}{e:Expr}{p1 p2 p3:Pos}(f:Fm c Yc g s)(ht:1<=s.toks)(H:HidOk c Yc g ko)(p:PE (c.here s) e (.str x))(i:Nat)(hσ:c.σ[i]?=Qf (Qf (.raw (.ref bo))))(hi:c.vars[i]?=Qf y)(hd:(y==("__debug__" : Qd))=false)(hcd:(y==("__classdict__" : Qd))=false)
  (hbo:s.heap.get? bo=Qf (jv ko)) (hko:s.heap.get? ko=Qf (kT items n)) (hz:items.size<=1000) (hint:Zg c.env=false)
  (h:∀t h' tk n',1<=tk->h'.get? ko=Qf (kT (items.push (.str x t)) n')->(∀b o,b≠ko->s.heap.get? b=Qf o->h'.get? b=Qf o)->Fm c Yc g { s with heap:=h',toks:=tk }->Q .next { s with heap:=h',toks:=tk })
  (hs:(Qv [e] c.env).any (·.1)=false:=by rfl)
  (he:eval (.Call (.Name y p1) [e] [] p2) c.env=(do VL p2 (<-eval (.Name y p1) c.env) [] (VO p2 (Qv [e] c.env)) (VE p2 (V3 [] c.env))):=by rfl)
  (hst:Qv [e] c.env=[(false,eval e c.env)]:=by rfl) (hsw:VU (.Call (.Name y p1) [e] [] p2) Qg p3.line c.env=pure false:=by rfl) :
  Qo c.M c.A (exec (.Expr (.Call (.Name y p1) [e] [] p2) p3) c.env) Q E s:=by
 refine wpAny_Expr_any ?_ hint hsw
 rw [he]
 refine Qh (kr i hσ f.kind hi hd hcd (f.at ht) λu r=>?_)
 obtain rfl:=jb (r.rep rfl)
 refine vu (k:=ko) (jC hs p2) (je (jC hs p2) ?_)
 rw [hst]
 refine Qq (p.use (f.at ht).here λv s2 k2 x2 r2=>QK ?_)
 (refine jd (jj r2) ?_;rintro t rfl)
 (refine jn k2 ?_;clear k2;rintro h2 tk2 rfl kk2)
 refine⟨kk2 _ _ hbo,Jm (kk2 _ _ hbo) (kk2 _ _ hko) (by rw [QV];exact zq1 ‹_› rfl) λh3 n3 hk3 sb3=>?_⟩
 have f2:=f.keeps (s':={ s with heap:=h2,toks:=tk2 }) ⟨h2,tk2,rfl,kk2⟩
 exact h t h3 tk2 n3 x2.tk hk3 (λb o nb e=>(sb3.2 b nb).trans (kk2 _ _ e)) (f2.but1 H ⟨_,hk3⟩ sb3)
noncomputable abbrev kH:Option (List Nat)->AV
 | none=>.none
 | some t=>.str (tx t)
noncomputable def tlX:Option (List Nat)->List (List Nat)
 | none=>[]
 | some t=>if t=[]then []else [t]
noncomputable def SerJ(c:Ct)(g s:Qi)(Yc:List Qk)(bo ko I l:Qk)(a:AV)(L:List (List Nat))(vs:Array Qm)(hp:QU)(k:Nat)(s₁:Qi):Prop:=∃i tk' h' y no,k=vs.size+1-i/\i<=vs.size/\s₁={ s with heap:=h',toks:=tk' }/\1<=tk'/\Fm (c.up c.X [Qf (.raw (.ref bo)),Qf (a),y]) ([I]++Yc) g s₁/\(h'.IsListIter I l i/\h'.IsList l vs)/\(∃ws:List Qm,h'.get? ko=Qf (kT ws.toArray no)/\∀G,Reps G (tL (L.take i)) ws)/\(∀b o,Off c b->b≠ko->b≠I->hp.get? b=Qf o->h'.get? b=Qf o)
theorem ser_for{E:Qe}{Φ:Flow->Qi->Prop}{bo ko:Qk}{n:Nat}{T:TreeD}{F j:Nat}{L:List (List Nat)}{p1 p2 p3 p4 p5 p6 p7 p8 p9:Pos}(hh:c.A.handled=Qg)(V:Vars c)(hv:c.vars=(["write","elem","part"]:List Qd))(hσ:c.σ=[Qf (.raw (.ref bo)),Qf (jo T (F+1) j),Qg])(f:Fm c Yc g s)(ht:1<=s.toks)(H:HidOk c Yc g ko)
  (hbo:s.heap.get? bo=Qf (jv ko)) (hko:s.heap.get? ko=Qf (kT #[] n)) (obo:Off c bo) (N:NdFix c.w s.heap (T.nd j)) (it:ItxC c.prog c.w s.heap c.A (T.nd j).g (jo T (F+1) j) (.list (tL L)) (T.nd j).f) (hL:L.length<=900) (hint:Zg c.env=false)
  (h:∀h2 tk2 ws no y,1<=tk2->Fm (c.up c.X [Qf (.raw (.ref bo)),Qf (jo T (F+1) j),y]) Yc g { s with heap:=h2,toks:=tk2 }->h2.get? ko=Qf (kT ws.toArray no)->(∀G,Reps G (tL L) ws)->h2.get? bo=Qf (jv ko)->(∀b o,Off c b->b≠ko->s.heap.get? b=Qf o->h2.get? b=Qf o)->Φ .next { s with heap:=h2,toks:=tk2 })
  (hbase:Vp (.Name "elem" p2) "itertext" c.env (eval (.Name "elem" p2) c.env)=eval (.Name "elem" p2) c.env:=by rfl) (hl:(p3.endLine==p4.line)=true:=by rfl)
  (hs:∀x,QN (.Call (.Attribute (.Name "elem" p2) "itertext" p3) [] [] p4) c.env x=pure x:=by intro _;rfl) :
  Qo c.M c.A (exec (.For (.Name "part" p1) (.Call (.Attribute (.Name "elem" p2) "itertext" p3) [] [] p4) [.Expr (.Call (.Name "write" p5) [.Name "part" p6] [] p7) p8] [] p9) c.env) Φ E s:=by
 have hk:=f.kind
 have vi:∀(i:Nat) (x:Qd),(["write","elem","part"]:List Qd)[i]?=Qf x->c.vars[i]?=Qf x:=λi x e=>by rw [hv];exact e
 have q0:PE (c.here s) (.Name "elem" p2) (jo T (F+1) j):=.var 1 hk (vi 1 _ rfl) (by show c.σ[1]?=_;rw [hσ];rfl) (by decide) (by decide)
 refine wpAny_For ((PE.itx q0 N it hbase hl).use (f.at ht).here λv s1 k1 x1 r1=>?_) hs
 (refine JM (jY r1) ?_;rintro l vs nl rfl ho hr)
 have hL1:s1.heap.IsList l vs:=⟨_,j9 ho,rfl,nl,rfl⟩
 have hlt:=jg (j9 ho)
 refine wpAny_pyIter_list hL1 ?_
 have hdead:s1.heap.get? s1.heap.objs.size=none:=jm
 have hit0:(s1.heap.push { cls:=.type "list_iterator",data:=.fields #[.ref l,.int 0 0] }).IsListIter s1.heap.objs.size l 0:=⟨_,Qs _ rfl,rfl,rfl⟩
 have hpk:∀b o,s1.heap.get? b=Qf o->(s1.heap.push { cls:=.type "list_iterator",data:=.fields #[.ref l,.int 0 0] }).get? b=Qf o:=j7
 have hne:l≠s1.heap.objs.size:=QR hlt
 have W:=Walks.list (prog:=c.prog) (w:=c.w) (A:=c.A) hh s1.heap.objs.size l hne vs
 have ht1:=x1.tk
 have f1:=f.keeps k1
 have lko:l≠ko:=λe=>by
  have m:ko∈c.X++c.Yf Yc:=Q7 _ (.tail _ (Q7 _ H.mem))
  unfold hid at ho;rw [e,if_pos m]at ho;exact no1 ho
 (refine jn k1 ?_;clear k1;rintro h1 tk1 rfl kk1)
 have hL2:(h1.push { cls:=.type "list_iterator",data:=.fields #[.ref l,.int 0 0] }).IsList l vs:=⟨_,hpk _ _ (j9 ho),rfl,nl,rfl⟩
 change Walks _ _ _ h1.objs.size _ _ _ _ _ at W
 change h1.get? h1.objs.size=Qg at hdead
 change l≠h1.objs.size at hne
 change (h1.push { cls:=.type "list_iterator",data:=.fields #[.ref l,.int 0 0] }).IsListIter h1.objs.size l 0 at hit0
 change ∀b o,h1.get? b=Qf o->(h1.push { cls:=.type "list_iterator",data:=.fields #[.ref l,.int 0 0] }).get? b=Qf o at hpk
 show Zq (model c.prog c.w) c.A (.forLoop _ (.ref h1.objs.size) _ _ _) _ { s with heap:=h1.push { cls:=.type "list_iterator",data:=.fields #[.ref l,.int 0 0] },toks:=tk1 }
 generalize h1.push { cls:=.type "list_iterator",data:=.fields #[.ref l,.int 0 0] }=hp at hit0 hpk hL2 ⊢
 generalize h1.objs.size=I at W hdead hne hit0 ⊢
 have fI:Fm c ([I]++Yc) g { s with heap:=hp,toks:=tk1 }:=f1.evoL (M:=[]) (W:=[I]) (λm hm=>nomatch hm) (λm hm=>nomatch hm) (λb o _ e=>hpk b o e) λb hb=>by
  obtain rfl:=Q9 hb
  (refine jc hit0 ?_;intro o e _);exact⟨hdead,o,e⟩
 have HI:HidOk c ([I]++Yc) g I:=HidOk.new f1 (.head _) hdead
 have HK:HidOk c ([I]++Yc) g ko:=H.more [I]
 have oI:Off c I:=HI.off
 have nbk:bo≠ko:=λe=>by
  rw [e,hko]at hbo
  have q:=congrArg Obj.data (oi hbo)
  cases q
 have nIko:I≠ko:=λe=>by rw [e]at hdead;rw [kk1 _ _ hko]at hdead;exact no2 hdead
 have nIbo:I≠bo:=λe=>by rw [e]at hdead;rw [kk1 _ _ hbo]at hdead;exact no2 hdead
 have lv:vs.toList.length=L.length:=by have:=hr.length;simpa using this
 have vsz:vs.size=L.length:=by simpa using lv
 have rstr:∀i,i<vs.size->∃t,vs[i]?=Qf (.str (tx (L.getD i [])) t):=λi hi=>by
  (refine jc (hr.get (i:=i) (a:=.str (tx (L.getD i []))) (by rw [Qx,Qu (by lia),QL,Qu (by lia)];rfl)) ?_;intro u hu ru)
  (refine jd (jj ru) ?_;rintro t rfl)
  exact⟨t,by rw [<-Vi];exact hu⟩
 have offl:Off c l:=by
  have m:l∉c.X++c.Yf Yc:=λm=>by unfold hid at ho;rw [if_pos m]at ho;exact no1 ho
  exact⟨λq=>m (Q7 _ (q▸.head _)),λq=>m (Q7 _ (.tail _ (Q8 _ q)))⟩
 refine YX (SerJ c g s Yc bo ko I l (jo T (F+1) j) L vs hp) ?_ (vs.size+1) (i5_8 0 tk1 hp Qg n rfl (Vj _) rfl ht1 ?_ ⟨hit0,hL2⟩ ⟨[],hpk _ _ (kk1 _ _ hko),λG=>.nil⟩ (λ_ _ _ _ _ e=>e))
 rotate_left
 ·have:c.up c.X [Qf (.raw (.ref bo)),Qf (jo T (F+1) j),Qg]=c:=by rw [<-hσ]
  rw [this];exact fI
 (intro k s₁ q_;refine e5_8 q_ ?_;clear q_;rintro i tk' h' y no rfl hi rfl ht' fm st ⟨ws,hko',hws⟩ kp)
 have hbo':h'.get? bo=Qf (jv ko):=kp bo _ obo nbk nIbo.symm (hpk _ _ (kk1 _ _ hbo))
 by_cases hlt':i<vs.size
 ·(refine jd (rstr i hlt') ?_;intro t hvt)
  refine QB (n:=1) ht' (W.item i _ _ _ hlt' st λv h2 tk2 pv st2 hk2 ht2=>?_)
  obtain rfl:v=.str (tx (L.getD i [])) t:=oi (pv.symm.trans hvt)
  have fm2:=fm.evoL (M:=[I]) (W:=[]) (h':=h2) (tk:=tk2) (λm hm=>by obtain rfl:=Q9 hm;exact HI.up) (λm hm=>by obtain rfl:=Q9 hm;(refine jc st2.1 ?_;intro o e _);exact⟨o,e⟩) hk2 (λb hb=>nomatch hb)
  (refine ye (id st2.1) ?_;intro o2 e2 c2 _)
  refine xZ e2 c2 (by decide +kernel) ?_
  refine VX (QB (n:=1) ht2 (fm2.storeK V.up (i:=2) (vi 2 _ rfl) (.of (av:=.str (tx (L.getD i []))) vq) λs3 g3 same3 f3 ht3=>?_))
  (refine jn g3 ?_;clear g3;rintro h3 tk3 rfl _)
  have sm3:∀b,Off c b->h3.get? b=h2.get? b:=λb o=>same3 b o.1 o.2
  have ko3:h3.get? ko=Qf (kT ws.toArray no):=(sm3 ko H.off).trans (hk2 ko _ (λm=>nIko (Q9 m).symm) hko')
  have bo3:h3.get? bo=Qf (jv ko):=(sm3 bo obo).trans (hk2 bo _ (λm=>nIbo (Q9 m).symm) hbo')
  refine QF (xo (c:=c.up c.X [Qf (.raw (.ref bo)),Qf (jo T (F+1) j),Qf (.str (tx (L.getD i [])))]) (x:=tx (L.getD i [])) f3 ht3 HK.up (.var 2 hk (vi 2 _ rfl) rfl (by decide) (by decide)) 0 rfl (vi 0 _ rfl) (by decide) (by decide) bo3 ko3 (by have:=(hws (λ_=>Qg)).length;rw [Vk,this,Qy,VK];lia) hint λt4 h4 tk4 n4 ht4 hk4 kk4 f4=>Vm ?_)
  have i4:h4.IsListIter I l (i+1):=by
   (refine jc st2.1 ?_;intro o e r);exact⟨o,kk4 _ _ nIko ((sm3 I oI).trans e),r⟩
  have l4:h4.IsList l vs:=by
   (refine jc st.2 ?_;intro o e r)
   exact⟨o,kk4 _ _ lko ((sm3 l offl).trans (hk2 l o (λm=>hne (Q9 m)) e)),r⟩
  have e5:L.take (i+1)=L.take i++[L.getD i []]:=by
   rw [Zr,Qu (by lia),QL,Qu (by lia)];rfl
  refine⟨vs.size+1-(i+1),by exact zr1 ‹_›,i5_8 (i+1) tk4 h4 _ n4 rfl hlt' rfl ht4 f4 ⟨i4,l4⟩ ⟨ws++[.str (tx (L.getD i [])) t4],?_,λG=>?_⟩ (λb o ob n1 n2 e=>?_)⟩
  ·rw [hk4];simp
  ·rw [e5,tL,Va];exact(hws G).append (.cons vq .nil)
  ·exact kk4 _ _ n1 ((sm3 b ob).trans (hk2 b o (λm=>n2 (Q9 m)) (kp b o ob n1 n2 e)))
 ·have hi':i=vs.size:=by exact zr4 ‹_› ‹_›
  subst hi'
  refine QB (n:=1) ht' (W.done _ _ _ st λh2 tk2 hk2 ht2=>Vm ?_)
  rw [Yy (by exact XO (Eq.symm ‹_›))]at hws
  have fe:Fm (c.up c.X [Qf (.raw (.ref bo)),Qf (jo T (F+1) j),y]) Yc g { s with heap:=h2,toks:=tk2 }:=Fm.off (s₁:={ s with heap:=h',toks:=tk' }) (h₁:=h2) (tk₁:=tk2) f1 (λb hb=>by obtain rfl:=Q9 hb;exact hdead) fm hk2
  have ko2:h2.get? ko=Qf (kT ws.toArray no):=hk2 ko _ (λm=>nIko (Q9 m).symm) hko'
  have bo2:h2.get? bo=Qf (jv ko):=hk2 bo _ (λm=>nIbo (Q9 m).symm) hbo'
  have up2:∀b o,Off c b->b≠ko->s.heap.get? b=Qf o->h2.get? b=Qf o:=λb o ob n1 e=>by
   have nI:b≠I:=λq=>by rw [q]at e;rw [kk1 _ _ e]at hdead;exact no2 hdead
   exact hk2 b o (λm=>nI (Q9 m)) (kp b o ob n1 nI (hpk _ _ (kk1 _ _ e)))
  exact h h2 tk2 ws no y ht2 fe ko2 hws bo2 up2
theorem ser_body{E:Qe}{Q:Qe}{bo ko:Qk}{n:Nat}{T:TreeD}{F j:Nat}{L:List (List Nat)}{tl:Option (List Nat)}{p1 p2 p3 p4 p5 p6 p7 p8 p9 p10 p11 p12 p13 p14 p15 p16 p17:Pos}(hh:c.A.handled=Qg)(V:Vars c)(hv:c.vars=(["write","elem","part"]:List Qd))(hσ:c.σ=[Qf (.raw (.ref bo)),Qf (jo T (F+1) j),Qg])(f:Fm c Yc g s)(ht:1<=s.toks)(H:HidOk c Yc g ko)
  (hbo:s.heap.get? bo=Qf (jv ko)) (hko:s.heap.get? ko=Qf (kT #[] n)) (obo:Off c bo) (N:NdFix c.w s.heap (T.nd j)) (it:ItxC c.prog c.w s.heap c.A (T.nd j).g (jo T (F+1) j) (.list (tL L)) (T.nd j).f) (hL:L.length<=900) (htl:T.tv j=kH tl) (htz:∀t,tl=Qf t->t.length<=1000) (hint:Zg c.env=false)
  (h:∀h' tk vs n',1<=tk->h'.get? ko=Qf (kT vs.toArray n')->(∀G,Reps G (tL (L++tlX tl)) vs)->(∀b o,Off c b->b≠ko->s.heap.get? b=Qf o->h'.get? b=Qf o)->Q .none { s with heap:=h',toks:=tk })
  (hbase:Vp (.Name "elem" p2) "itertext" c.env (eval (.Name "elem" p2) c.env)=eval (.Name "elem" p2) c.env:=by rfl) (hl:(p3.endLine==p4.line)=true:=by rfl)
  (hs:∀x,QN (.Call (.Attribute (.Name "elem" p2) "itertext" p3) [] [] p4) c.env x=pure x:=by intro _;rfl) :
  Qo c.M c.A (execs [.For (.Name "part" p1) (.Call (.Attribute (.Name "elem" p2) "itertext" p3) [] [] p4) [.Expr (.Call (.Name "write" p5) [.Name "part" p6] [] p7) p8] [] p9,
   .If (.Attribute (.Name "elem" p10) "tail" p11) [.Expr (.Call (.Name "write" p12) [.Attribute (.Name "elem" p13) "tail" p14] [] p15) p16] [] p17] c.env) (λfl s'=>match fl with | .ret v=>Q v s' | .next=>Q .none s' | _=>False) E s:=by
 have hk:=f.kind
 have vi:∀(i:Nat) (x:Qd),(["write","elem","part"]:List Qd)[i]?=Qf x->c.vars[i]?=Qf x:=λi x e=>by rw [hv];exact e
 refine QF (ser_for hh V hv hσ f ht H hbo hko obo N it hL hint (λh2 tk2 ws no y ht2 fe ko2 hws bo2 up2=>?_) hbase hl hs)
 have wz:ws.toArray.size<=1000:=by have:=(hws (λ_=>Qg)).length;rw [Vk,this,Qy];exact zq1 ‹_› rfl
 have qe:∀(h:QU) (p:Pos),PE ((c.up c.X [Qf (.raw (.ref bo)),Qf (jo T (F+1) j),y]).here { s with heap:=h,toks:=tk2 }) (.Name "elem" p) (jo T (F+1) j):=λh p=>.var 1 hk (vi 1 _ rfl) rfl (by decide) (by decide)
 cases tl with
 | none =>
  have qt:PE ((c.up c.X [Qf (.raw (.ref bo)),Qf (jo T (F+1) j),y]).here { s with heap:=h2,toks:=tk2 }) (.Attribute (.Name "elem" p10) "tail" p11) .none:=.fatt (qe _ _) 3 rfl (by show Qf (T.tv j)=_;rw [htl]) js (.inr (.inr (.inr (.inl rfl))))
  refine QF (wpAny_If (PT.use (PT.non qt) (fe.at ht2).here λs3 k3 x3=>Vm (Vm ?_)))
  (refine jn k3 ?_;clear k3;rintro h3 tk3 rfl kk3)
  exact h h3 tk3 ws no x3.tk (kk3 _ _ ko2) (λG=>by simpa [tlX]using hws G) λb o ob n1 e=>kk3 _ _ (up2 b o ob n1 e)
 | some t =>
  have tz:=htz t rfl
  have qt:∀(h:QU) (p p':Pos),PE ((c.up c.X [Qf (.raw (.ref bo)),Qf (jo T (F+1) j),y]).here { s with heap:=h,toks:=tk2 }) (.Attribute (.Name "elem" p) "tail" p') (.str (tx t)):=λh p p'=>.fatt (qe _ _) 3 rfl (by show Qf (T.tv j)=_;rw [htl]) js (.inr (.inr (.inr (.inl rfl))))
  refine QF (wpAny_If (PT.use (PT.str (qt h2 _ _) (by rw [jO,QV];exact zq1 ‹_› rfl)) (fe.at ht2).here λs3 k3 x3=>?_))
  (refine jn k3 ?_;clear k3;rintro h3 tk3 rfl kk3)
  have f3:=fe.keeps (s':={ s with heap:=h3,toks:=tk3 }) ⟨h3,tk3,rfl,kk3⟩
  by_cases et:t=[]
  ·subst et
   exact Vm (Vm (h h3 tk3 ws no x3.tk (kk3 _ _ ko2) (λG=>by simpa [tlX]using hws G) λb o ob n1 e=>kk3 _ _ (up2 b o ob n1 e)))
  ·have eb:(((tx t).length:Int) != 0)=true:=by
    rw [jO];simp only [bne_iff_ne,ne_eq,Int.natCast_eq_zero,List.length_eq_zero_iff];exact et
   rw [eb]
   have qt3:PE ((c.up c.X [Qf (.raw (.ref bo)),Qf (jo T (F+1) j),y]).here { s with heap:=h3,toks:=tk3 }) (.Attribute (.Name "elem" p13) "tail" p14) (.str (tx t)):=.fatt (.var 1 hk (vi 1 _ rfl) rfl (by decide) (by decide)) 3 rfl (by show Qf (T.tv j)=_;rw [htl]) js (.inr (.inr (.inr (.inl rfl))))
   refine QF (xo (c:=c.up c.X [Qf (.raw (.ref bo)),Qf (jo T (F+1) j),y]) (x:=tx t) f3 x3.tk H.up qt3 0 rfl (vi 0 _ rfl) (by decide) (by decide) (kk3 _ _ bo2) (kk3 _ _ ko2) wz hint λt4 h4 tk4 n4 ht4 hk4 kk4 f4=>Vm (Vm ?_))
   refine h h4 tk4 (ws++[.str (tx t) t4]) n4 ht4 (by rw [hk4];simp) (λG=>?_) λb o ob n1 e=>kk4 _ _ n1 (kk3 _ _ (up2 b o ob n1 e))
   rw [tlX,if_neg et,tL,Va]
   exact(hws G).append (.cons vq .nil)
end
theorem ItxC.up{prog:QI}{w:Ql}{B B':QU}{A:QO}{g:Qk}{av res:AV}{f:Qk}(it:ItxC prog w B A g av res f)(k:∀b o,B.get? b=Qf o->B'.get? b=Qf o):ItxC prog w B' A g av res f :=
 λX s E hB hX ht hr=>it s E (λa o e=>hB a o (k a o e)) hX ht hr
theorem NdFix.keeps{w:Ql}{h h':QU}{nd:Nd}(F:NdFix w h nd)(k:∀b o,h.get? b=Qf o->h'.get? b=Qf o):NdFix w h' nd:=F.at (λb _ o e=>k b o e) λb o _ _ e=>k b o e
noncomputable abbrev F127(w:Ql):FuncData:=vx (o_137 w.params)
noncomputable abbrev v127:List Qd:=["write","elem","part"]
theorem n127(w:Ql):Names (F127 w) v127:=.of (by kernel_rfl)
theorem b_127(w:Ql):(Bh w).get? 127=Qf (o_137 w.params):=by kernel_rfl
theorem d127(w:Ql):∃body,Df (Bh w) 127 (o_137 w.params) (F127 w) body ["write","elem"] ["part"]/\(F127 w).body=.stmts body:=by
 refine⟨_,⟨b_127 w,rfl,rfl,rfl,ji (by kernel_rfl),n127 w,λvs h=>?_⟩,rfl⟩
 (refine jN (qc h) ?_;rintro u v rfl);rfl
theorem ser127{w:Ql}{prog:QI}{A:QO}{n:Nat}{X:List Qk}{s:Qi}{E:Qe}{Q:Qe}{bo ko f:Qk}{n0:Nat}{T:TreeD}{F j:Nat}{L:List (List Nat)}{tl:Option (List Nat)}(room:Room (n+1) A)
  (hB:Up w s.heap) (hX:∀x∈X,∃o,s.heap.get? x=Qf o) (hkX:ko∈X) (hkB:(Bh w).get? ko=Qg) (htk:1<=s.toks) (hbo:s.heap.get? bo=Qf (jv ko)) (hko:s.heap.get? ko=Qf (kT #[] n0)) (hr:Rep (hid X s.heap) (jo T (F+1) j) (.ref f)) (N:NdFix w s.heap (T.nd j))
  (it:∀A',Room n A'->ItxC prog w s.heap A' (T.nd j).g (jo T (F+1) j) (.list (tL L)) (T.nd j).f) (hL:L.length<=900) (htl:T.tv j=kH tl) (htz:∀t,tl=Qf t->t.length<=1000)
  (h:∀h' tk vs n',1<=tk->h'.get? ko=Qf (kT vs.toArray n')->(∀G,Reps G (tL (L++tlX tl)) vs)->(∀b o,b≠ko->s.heap.get? b=Qf o->h'.get? b=Qf o)->Q .none { s with heap:=h',toks:=tk }) :
  Qo (model prog w) A (call (.ref 127) [.ref bo,.ref f]) Q E s:=by
 (refine jc (d127 w) ?_;intro body D hbody)
 refine yc [ko] D room (avs:=[.raw (.ref bo),jo T (F+1) j]) rfl hB (λm hm=>by obtain rfl:=Q9 hm;exact hkB) hX htk (.cons (a:=.raw (.ref bo)) vC (.cons hr .nil)) λE' s₁ ht₁ ks f₁=>?_
 have V:=(n127 w).cV (a:=127) (prog:=prog) (w:=w) (A:=A) (L:=s.heap.objs.size)
 (refine jn ks ?_;clear ks;rintro h1 tk1 rfl kk1)
 have offs:∀ {y:Qk} {o:Obj},s.heap.get? y=Qf o->Off (cx (F127 w) 127 v127 prog w A s.heap.objs.size [] [Qf (.raw (.ref bo)),Qf (jo T (F+1) j),Qg]) y:=λ{y o} e=>f₁.offLt (jg e)
 cases hbody
 exact ser_body (c:=cx (F127 w) 127 v127 prog w A s.heap.objs.size [] [Qf (.raw (.ref bo)),Qf (jo T (F+1) j),Qg]) room.1 (V _ _) rfl rfl f₁ ht₁ ⟨hkX,Zu _ (.head _),(offs hko).1,(offs hko).2⟩ (kk1 _ _ hbo) (kk1 _ _ hko) (offs hbo) (N.keeps kk1) ((it _ room.deeper).up kk1) hL htl htz rfl λh' tk vs n' ht hk hv kp=>h h' tk vs n' ht hk hv λb o nb e=>kp b o (offs e) nb (kk1 _ _ e)
section
variable {c:Ct}
theorem PSq.base{e:Expr}{a:Qk}{l:List AV}{vs:Array Qm}{n:Nat}(p:PE c e (.raw (.ref a)))(hL:c.B.get? a=Qf (kT vs n))(hv:∀G,Reps G l vs.toList):PSq c e "list" l:=λY s E Q x h=>p.use x λv s₁ k x₁ r=>by
 obtain rfl:=jb r
 exact h a vs s₁ k x₁ ⟨_,n,x₁.base _ _ hL,rfl,rfl⟩ (hv _)
theorem JB{a:Qk}:jX c .IsNot (.raw (.ref a)) (.raw (.ref a)) false:=λY s E v u x rv ru=>by
 obtain rfl:=jb rv;obtain rfl:=jb ru
 show Qo c.M c.A (do return Value.bool (!(<-isSame (VW a) (VW a))):Sem Qm) _ E s
 exact Qh (wpAny_isSame_ref_self (Qn ⟨kU,rfl⟩))
theorem cmp_isR{a b:Qk}{oa ob:Obj}(ne:a≠b)(ha:c.B.get? a=Qf oa)(hb:c.B.get? b=Qf ob)(ht:oa.cls≠.type "tuple"):jX c .Is (.raw (.ref a)) (.raw (.ref b)) false:=λY s E v u x rv ru=>by
 obtain rfl:=jb rv;obtain rfl:=jb ru
 show Qo c.M c.A (do return Value.bool (<-isSame (VW a) (VW b)):Sem Qm) _ E s
 exact Qh (wpAny_isSame_ref_other ne (x.base _ _ ha) (x.base _ _ hb) ht (Qn ⟨kU,rfl⟩))
theorem kE{a b:Bool}:jX c .IsNot (.bool a) (.bool b) (a != b):=λY s E v u x rv ru=>by
 have e1:v=.bool a:=rv
 have e2:u=.bool b:=ru
 subst e1 e2
 exact isnot_bool ⟨kU,rfl⟩
end
theorem zB{h h':QU}{cv:Qm}{q:Qd}(r:h.CodeRec cv q)(T:TabOk h)(k:∀b o vs,o.data=.fields vs->(∃q t,vs[1]?=Qf (.str q t))->b≠171->h.get? b=Qf o->h'.get? b=Qf o):h'.CodeRec cv q:=by
 refine e4_4 r ?_;intro cd o vs t e1 e2 e3 e4
 refine⟨cd,o,vs,t,e1,k _ _ _ e3 ⟨q,t,e4⟩ (λe=>?_) e2,e3,e4⟩
 (refine ye T ?_;intro ps a b _)
 rw [e,a]at e2;(have q_:=oi e2;clear e2;subst q_);cases e3
 exact triples_no_str b q t (by rw [Vi];exact e4)
theorem NdFix.tab{w:Ql}{h h':QU}{nd:Nd}(F:NdFix w h nd)(T:TabOk h)(k:∀b,b∈[nd.f,nd.b,nd.g,nd.c]->∀o,h.get? b=Qf o->h'.get? b=Qf o)(kf:∀b o vs,o.data=.fields vs->(∃q t,vs[1]?=Qf (.str q t))->b≠171->h.get? b=Qf o->h'.get? b=Qf o):NdFix w h' nd:=by
 obtain⟨⟨fd,e1⟩,e2,⟨cv,ctv,e3,e4⟩,o,e5,e6⟩:=F
 exact⟨⟨fd,k _ (.head _) _ e1⟩,k _ (.tail _ (.head _)) _ e2,⟨cv,ctv,k _ (.tail _ (.tail _ (.head _))) _ e3,zB e4 T kf⟩,o,k _ (.tail _ (.tail _ (.tail _ (.head _)))) _ e5,e6⟩
noncomputable def Itk(o:Obj):Prop:=∃n vs,o.cls=.type n/\(n="enumerate"∨n="list_iterator")/\o.data=.fields vs/\∀q t,vs[1]?≠Qf (.str q t)
theorem nitk{o:Obj}{vs:Array Qm}(e:o.data=.fields vs)(h:∃q t,vs[1]?=Qf (.str q t)):¬Itk o:=λq=>by
 obtain⟨n,vs',_,_,e',h'⟩:=q
 (refine jN h ?_;intro q t x)
 rw [e]at e';cases e';exact h' q t x
theorem nitkC{o:Obj}(h:∀n,o.cls=.type n->n≠"enumerate"/\n≠"list_iterator"):¬Itk o:=λq=>by
 obtain⟨n,vs',e,e',_⟩:=q
 (refine jw (h n e) ?_;intro a b)
 rcases e' with q | q
 ·exact a q
 ·exact b q
theorem qG{o:Obj}(h:∀vs,o.data≠.fields vs):¬Itk o:=λq=>by
 obtain⟨n,vs',_,_,e,_⟩:=q;exact h vs' e
theorem nitkT(ps:Array Qm):¬Itk (Zy ps):=λq=>by
 obtain⟨n,_,e,_⟩:=q;cases e
theorem TabOk.keepI{h h':QU}(T:TabOk h)(k:∀b o,¬Itk o->h.get? b=Qf o->h'.get? b=Qf o):TabOk h':=by
 (refine ye T ?_;intro ps a b c)
 refine⟨ps,k _ _ (nitkT ps) a,b,λpos cv e=>?_⟩
 refine e4_4 (c pos cv e) ?_;intro cd o vs t e1 e2 e3 e4
 exact⟨cd,o,vs,t,e1,k _ _ (nitk e3 ⟨_,t,e4⟩) e2,e3,e4⟩
structure NOk (w:Ql) (c:Ct) (Yc:List Qk) (g:Qi) (h0 h:QU) (n:Nat) (T:TreeD):Prop where
 fix:∀k,k<n->NdFix w h (T.nd k)
 dic:∀k,k<n->∃tl,NdDic h (T.nd k) (T.tg k) (T.ad k) (tx (T.txt k)) tl/\∀G,Rep G (T.tv k) tl
 kid:∀k,k<n->∃m,h.get? (T.nd k).k=Qf (kT ((T.kd k).map λj=>VW (T.nd j).f).toArray m)
 hidD:∀k,k<n->HidOk c Yc g (T.nd k).d
 hidK:∀k,k<n->HidOk c Yc g (T.nd k).k
 off:∀k,k<n->∀a∈[(T.nd k).f,(T.nd k).b,(T.nd k).g,(T.nd k).c],Off c a
 disD:∀k j,k<n->j<n->k≠j->(T.nd k).d≠(T.nd j).d
 disK:∀k j,k<n->j<n->k≠j->(T.nd k).k≠(T.nd j).k
 new:∀k,k<n->∀a∈[(T.nd k).f,(T.nd k).d,(T.nd k).k],h0.get? a=Qg
 kdl:∀k,k<n->∀j∈T.kd k,k<j/\j<n
section
variable {w:Ql} {c:Ct} {Yc:List Qk} {g:Qi} {h0 h h':QU} {n:Nat} {T T':TreeD}
theorem NOk.fnat(N:NOk w c Yc g h0 h n T){k:Nat}(hk:k<n):∃vals,FnAt h (T.nd k).f (T.nd k).d nmN vals/\(∃t,vals[0]?=Qf (.str (T.tg k) t))/\vals[1]?=Qf (.ref (T.ad k))/\vals[4]?=Qf (.ref (T.nd k).k)/\vals[5]?=Qf (.ref 176)/\vals[6]?=Qf (.ref (T.nd k).b):=by
 (refine jc (N.dic k hk) ?_;rintro tl ⟨es,m,t1,t2,e1,e2,e3⟩ _)
 exact⟨_,⟨(N.fix k hk).fo,es,m,e1,e2,e3⟩,⟨t1,rfl⟩,rfl,rfl,rfl,rfl⟩
theorem qm{h:QU}(T:TabOk h){a:Qk}{o:Obj}(e:h.get? a=Qf o)(n:o.cls≠.none):a≠171:=λq=>by
 (refine jc T ?_;intro ps e' _)
 rw [q,e']at e;(have q_:=oi e;clear e;subst q_);exact n rfl
theorem kR{h:QU}{a b:Qk}{o o':Obj}(e:h.get? a=Qf o)(e':h.get? b=Qf o')(n:o.data≠o'.data):a≠b:=λq=>by
 rw [q,e']at e;(have q_:=oi e;clear e;subst q_);exact n rfl
theorem NOk.grow(N:NOk w c Yc g h0 h n T)(Tb:TabOk h){W:List Qk}{own:Nat}(ho:own<n){m':Nat}
  (kp:∀b o,Off c b->b≠171->b≠(T.nd own).k->h.get? b=Qf o->h'.get? b=Qf o) (kf:∀b o vs,o.data=.fields vs->h.get? b=Qf o->Off c b)
  (e1:∀k,k<n->T'.nd k=T.nd k/\T'.tg k=T.tg k/\T'.ad k=T.ad k/\T'.txt k=T.txt k/\T'.tv k=T.tv k) (e2:∀k,k<n->k≠own->T'.kd k=T.kd k) (e3:T'.kd own=T.kd own++[n]) (e4:T'.kd n=[])
  (hko:h'.get? (T.nd own).k=Qf (kT (((T.kd own).map λj=>VW (T.nd j).f)++[VW (T'.nd n).f]).toArray m'))
  (hF:NdFix w h' (T'.nd n)) (hD:∃tl,NdDic h' (T'.nd n) (T'.tg n) (T'.ad n) (tx (T'.txt n)) tl/\∀G,Rep G (T'.tv n) tl) (hK:∃m,h'.get? (T'.nd n).k=Qf (kT #[] m)) (hdd:HidOk c (W++Yc) g (T'.nd n).d) (hkk:HidOk c (W++Yc) g (T'.nd n).k)
  (hoff:∀a∈[(T'.nd n).f,(T'.nd n).b,(T'.nd n).g,(T'.nd n).c],Off c a) (hdead:∀a∈[(T'.nd n).d,(T'.nd n).k],h.get? a=Qg) (hnew:∀a∈[(T'.nd n).f,(T'.nd n).d,(T'.nd n).k],h0.get? a=Qg) :
  NOk w c (W++Yc) g h0 h' (n+1) T':=by
 (refine jd (N.kid own ho) ?_;intro mo hkO)
 have lt1:∀ {k},k<n+1->k<n∨k=n:=λh=>by exact zr60 ‹_›
 have nt:∀ {a o},h.get? a=Qf o->o.cls≠.none->a≠171:=λe n=>qm Tb e n
 have nk:∀ {a:Qk} {o:Obj},h.get? a=Qf o->(∀vs m,o.data≠.seq vs m)->a≠(T.nd own).k:=λe n=>kR e hkO (n _ _)
 have old:∀k,k<n->NdFix w h' (T.nd k)/\(∃tl,NdDic h' (T.nd k) (T.tg k) (T.ad k) (tx (T.txt k)) tl/\∀G,Rep G (T.tv k) tl):=λk hk=>by
  have F:=N.fix k hk
  refine⟨F.tab Tb (λb hb o e=>?_) λb o vs q _ n1 e=>kp b o (kf b o vs q e) n1 (nk e λvs' m e'=>by rw [q]at e';cases e') e,?_⟩
  ·have oo:=N.off k hk b hb
   obtain⟨⟨fd,q1⟩,q2,⟨cv,ctv,q3,_⟩,oc,q5,q6⟩:=F
   simp only [QD,QG,or_false]at hb
   rcases hb with rfl | rfl | rfl | rfl
   ·exact kp _ _ oo (nt q1 (by simp)) (nk q1 (by simp)) e
   ·exact kp _ _ oo (nt q2 (by simp)) (nk q2 (by simp)) e
   ·exact kp _ _ oo (nt q3 (by simp)) (nk q3 (by simp)) e
   ·obtain rfl:=oi (q5.symm.trans e)
    refine kp _ _ oo (λq=>?_) (nk e (by rw [q6];simp)) e
    (refine jc Tb ?_;intro ps e' _)
    rw [q,e']at e;(have q_:=oi e;clear e;subst q_);cases q6
  ·(refine jc (N.dic k hk) ?_;intro tl D r)
   refine⟨tl,D.at λo e=>?_,r⟩
   (refine JL D ?_;intro es mm t1 t2 q1 _)
   exact kp _ _ (N.hidD k hk).off (nt q1 (by simp)) (nk q1 (by simp)) e
 have refs:∀l:List Nat,(∀j∈l,j<n)->(l.map λj=>VW (T'.nd j).f)=l.map λj=>VW (T.nd j).f:=λl hl=>VI λj hj=>by rw [(e1 j (hl j hj)).1]
 have deadne:∀k,k<n->(T.nd k).d≠(T'.nd n).d/\(T.nd k).k≠(T'.nd n).k:=λk hk=>by
  (refine jc (N.dic k hk) ?_;rintro tl ⟨es,mm,t1,t2,q1,_⟩ _)
  (refine jd (N.kid k hk) ?_;intro m2 q2)
  exact⟨λe=>(by rw [e,hdead _ (.head _)]at q1;exact no1 q1),λe=>(by rw [e,hdead _ (.tail _ (.head _))]at q2;exact no1 q2)⟩
 refine⟨λk hk=>?_,λk hk=>?_,λk hk=>?_,λk hk=>?_,λk hk=>?_,λk hk=>?_,λk j hk hj ne=>?_,λk j hk hj ne=>?_,λk hk=>?_,λk hk=>?_⟩
 ·rcases lt1 hk with hk | rfl
  ·rw [(e1 k hk).1];exact(old k hk).1
  ·exact hF
 ·rcases lt1 hk with hk | rfl
  ·refine e0_5 (e1 k hk) ?_;intro a1 a2 a3 a4 a5
   rw [a1,a2,a3,a4,a5];exact(old k hk).2
  ·exact hD
 ·rcases lt1 hk with hk | rfl
  ·rw [(e1 k hk).1]
   by_cases q:k=own
   ·subst q
    rw [e3,Va,refs _ λj hj=>(N.kdl k hk j hj).2]
    exact⟨_,hko⟩
   ·rw [e2 k hk q,refs _ λj hj=>(N.kdl k hk j hj).2]
    (refine jd (N.kid k hk) ?_;intro m2 q2)
    exact⟨m2,kp _ _ (N.hidK k hk).off (nt q2 (by simp)) (N.disK k own hk ho q) q2⟩
  ·rw [e4];exact hK
 ·rcases lt1 hk with hk | rfl
  ·rw [(e1 k hk).1];exact(N.hidD k hk).more W
  ·exact hdd
 ·rcases lt1 hk with hk | rfl
  ·rw [(e1 k hk).1];exact(N.hidK k hk).more W
  ·exact hkk
 ·rcases lt1 hk with hk | rfl
  ·rw [(e1 k hk).1];exact N.off k hk
  ·exact hoff
 ·rcases lt1 hk with hk | rfl<;>rcases lt1 hj with hj | rfl
  ·rw [(e1 k hk).1,(e1 j hj).1];exact N.disD k j hk hj ne
  ·rw [(e1 k hk).1];exact(deadne k hk).1
  ·rw [(e1 j hj).1];exact(deadne j hj).1.symm
  ·exact absurd rfl ne
 ·rcases lt1 hk with hk | rfl<;>rcases lt1 hj with hj | rfl
  ·rw [(e1 k hk).1,(e1 j hj).1];exact N.disK k j hk hj ne
  ·rw [(e1 k hk).1];exact(deadne k hk).2
  ·rw [(e1 j hj).1];exact(deadne j hj).2.symm
  ·exact absurd rfl ne
 ·rcases lt1 hk with hk | rfl
  ·rw [(e1 k hk).1];exact N.new k hk
  ·exact hnew
 ·rcases lt1 hk with hk | rfl
  ·intro j hj
   by_cases q:k=own
   ·subst q
    rw [e3]at hj
    rcases Qa hj with hj | hj
    ·have:=N.kdl k hk j hj;lia
    ·have:=Q9 hj;lia
   ·rw [e2 k hk q]at hj
    have:=N.kdl k hk j hj;lia
  ·rw [e4];intro j hj;cases hj
end
section
variable {w:Ql} {c:Ct} {Yc:List Qk} {g:Qi} {h0 h h':QU} {n:Nat} {T T':TreeD}
theorem NOk.keep(N:NOk w c Yc g h0 h n T)(Tb:TabOk h)(W:List Qk)(kp:∀b o,Off c b->b≠171->¬Itk o->h.get? b=Qf o->h'.get? b=Qf o)(kf:∀b o vs,o.data=.fields vs->h.get? b=Qf o->Off c b):NOk w c (W++Yc) g h0 h' n T:=by
 have nt:∀ {a o},h.get? a=Qf o->o.cls≠.none->a≠171:=λe n=>qm Tb e n
 refine⟨λk hk=>?_,λk hk=>?_,λk hk=>?_,λk hk=>(N.hidD k hk).more W,λk hk=>(N.hidK k hk).more W,N.off,N.disD,N.disK,N.new,N.kdl⟩
 ·have F:=N.fix k hk
  refine F.tab Tb (λb hb o e=>?_) λb o vs q q' n1 e=>kp b o (kf b o vs q e) n1 (nitk q q') e
  have oo:=N.off k hk b hb
  obtain⟨⟨fd,q1⟩,q2,⟨cv,ctv,q3,_⟩,oc,q5,q6⟩:=F
  simp only [QD,QG,or_false]at hb
  rcases hb with rfl | rfl | rfl | rfl
  ·obtain rfl:=oi (q1.symm.trans e)
   exact kp _ _ oo (nt q1 (by simp)) (qG (by simp)) e
  ·obtain rfl:=oi (q2.symm.trans e)
   exact kp _ _ oo (nt q2 (by simp)) (nitkC λn q=>by cases q;decide) e
  ·obtain rfl:=oi (q3.symm.trans e)
   exact kp _ _ oo (nt q3 (by simp)) (qG (by simp)) e
  ·obtain rfl:=oi (q5.symm.trans e)
   refine kp _ _ oo (λq=>?_) (qG (by rw [q6];simp)) e
   (refine jc Tb ?_;intro ps e' _)
   rw [q,e']at e;(have q_:=oi e;clear e;subst q_);cases q6
 ·(refine jc (N.dic k hk) ?_;intro tl D r)
  refine⟨tl,D.at λo e=>?_,r⟩
  (refine JL D ?_;intro es mm t1 t2 q1 _)
  obtain rfl:=oi (q1.symm.trans e)
  exact kp _ _ (N.hidD k hk).off (nt q1 (by simp)) (qG (by simp)) e
 ·(refine jd (N.kid k hk) ?_;intro m2 q2)
  exact⟨m2,kp _ _ (N.hidK k hk).off (nt q2 (by simp)) (qG (by simp)) q2⟩
theorem NOk.up{X:List Qk}{σ:List (Option AV)}(N:NOk w c Yc g h0 h n T):NOk w (c.up X σ) Yc g h0 h n T :=
 ⟨N.fix,N.dic,N.kid,λk hk=>(N.hidD k hk).up,λk hk=>(N.hidK k hk).up,N.off,N.disD,N.disK,N.new,N.kdl⟩
theorem vB{α:Type}{G:Lk}{f:α->AV}{v:α->Qm}:∀ {l:List α},(∀x∈l,Rep G (f x) (v x))->Reps G (l.map f) (l.map v)
 | [],_=>.nil
 | x::l,h=>.cons (h x (.head _)) (vB λy hy=>h y (.tail _ hy))
theorem NOk.rep(N:NOk w c Yc g h0 h n T){X:List Qk}(hX:∀k,k<n->∀a∈[(T.nd k).f,(T.nd k).d,(T.nd k).k],a∉X):∀F j,j<n->n<=F+j->Rep (hid X h) (jo T F j) (.ref (T.nd j).f)
 | 0,j,h1,h2=>absurd h1 (by lia)
 | F+1,j,h1,h2=>by
  have vis:∀ {a o},a∈[(T.nd j).f,(T.nd j).d,(T.nd j).k]->h.get? a=Qf o->hid X h a=Qf o:=λ{a o} ha e=>jl e (hX j h1 a ha)
  obtain⟨⟨fd,q1⟩,_⟩:=N.fix j h1
  (refine jc (N.dic j h1) ?_;rintro tl ⟨es,mm,t1,t2,d1,d2,d3⟩ rt)
  (refine jd (N.kid j h1) ?_;intro m k1)
  show Exists _
  refine⟨(T.nd j).d,fd,es,mm,by trivial,vis (.head _) q1,vis (.tail _ (.head _)) d1,d2,?_⟩
  rw [d3]
  refine .cons vq (.cons vC (.cons vq (.cons (rt _) (.cons ?_ (.cons vC (.cons vC (.cons vC .nil)))))))
  show Exists _
  exact⟨(T.nd j).k,_,m,rfl,vis (.tail _ (.tail _ (.head _))) k1,vB λk hk=>N.rep hX F k (N.kdl j h1 k hk).2 (by have:=(N.kdl j h1 k hk).1;lia)⟩
end
noncomputable def qf(dp:Nat->Nat):Nat->List Nat
 | 0=>[0]
 | i+1=>(qf dp i).take (dp i+1)++[i+1]
theorem trailK0{dp:Nat->Nat}:qf dp 0=[0]:=rfl
theorem za{dp:Nat->Nat}{i:Nat}:qf dp (i+1)=(qf dp i).take (dp i+1)++[i+1]:=rfl
noncomputable def qF(dp:Nat->Nat)(i:Nat):Nat:=(qf dp i).getD (dp i) 0
noncomputable def kdK(dp:Nat->Nat)(i j:Nat):List Nat:=((Qj i).filter λk=>qF dp k=j).map (·+1)
noncomputable def txK(ln:Nat->List Nat):Nat->List Nat
 | 0=>[]
 | k+1=>ln k
noncomputable def tvK(tl:Option (List Nat)):Nat->AV
 | 0=>kH tl
 | _+1=>.str (tx [])
noncomputable def tgK:Nat->Qd
 | 0=>"page"
 | _+1=>"line"
theorem xI(dp:Nat->Nat):∀i,∀j∈qf dp i,j<=i
 | 0,j,h=>by simp [trailK0]at h;exact zr32 ‹_› rfl
 | i+1,j,h=>by
  simp only [za,XH,Y2]at h
  rcases h with h | h
  ·have:=xI dp i j (Xi h);exact Xb ‹_›
  ·exact XO ‹_›
theorem zV(dp:Nat->Nat)(i:Nat):qF dp i<=i:=by
 unfold qF
 rw [QL]
 cases q:(qf dp i)[dp i]? with
 | none=>simp
 | some j=>exact xI dp i j (QE q)
theorem vE(dp:Nat->Nat)(i j:Nat):kdK dp (i+1) j=if qF dp i=j then kdK dp i j++[i+1]else kdK dp i j:=by
 unfold kdK
 rw [Xg,List.filter_append]
 by_cases q:qF dp i=j
 ·simp [q]
 ·simp [q]
theorem kdK_new(dp:Nat->Nat)(i:Nat):kdK dp i (i+1)=[]:=by
 unfold kdK
 rw [List.map_eq_nil_iff,List.filter_eq_nil_iff]
 intro k hk q
 have h1:=Qc hk
 have:=zV dp k
 simp at q;lia
noncomputable abbrev trK(dp:Nat->Nat)(ln:Nat->List Nat)(tl:Option (List Nat))(i:Nat)(nd:Nat->Nd)(ad:Nat->Qk):TreeD:=⟨nd,tgK,ad,txK ln,tvK tl,kdK dp i⟩
noncomputable def AtV(k:Nat)(kvs:List (Qd×Qm)):Prop :=
 if k%3=0 then ∃t t',kvs=([("kind",.str "line" t),("place",.int k t')]:List (Qd×Qm))
 else if k%3=1 then ∃t',kvs=([("place",.int k t')]:List (Qd×Qm))
 else ∃t t',kvs=([("kind",.str "line" t),("place",.int (-1) t')]:List (Qd×Qm))
noncomputable def AtK(prog:QI)(w:Ql)(h:QU)(a:Qk)(k:Nat):Prop:=∃kvs,h.DictOf (QH prog w) a kvs/\AtV k kvs
theorem AtK.at{prog:QI}{w:Ql}{h h':QU}{a:Qk}{k:Nat}(A:AtK prog w h a k)(e:∀o,h.get? a=Qf o->h'.get? a=Qf o):AtK prog w h' a k :=
 let ⟨kvs,D,v⟩:=A;⟨kvs,jq D e,v⟩
theorem AtV.len{k:Nat}{kvs:List (Qd×Qm)}(v:AtV k kvs):kvs.length<=2:=by
 unfold AtV at v
 by_cases h:k%3=0
 ·rw [if_pos h]at v;(refine jN v ?_;clear v;rintro t t' rfl);simp
 ·rw [if_neg h]at v
  by_cases h':k%3=1
  ·rw [if_pos h']at v;(refine jd v ?_;clear v;rintro t' rfl);simp
  ·rw [if_neg h']at v;(refine jN v ?_;clear v;rintro t t' rfl);simp
theorem dict_ne{prog:QI}{w:Ql}{h:QU}{a d:Qk}{kvs:List (Qd×Qm)}{es:List VJ}{n:Nat}(D:h.DictOf (QH prog w) a kvs)(e:h.get? d=Qf (Vh es n))(ne:es.length≠kvs.length):a≠d:=λq=>by
 (refine KN D ?_;intro o es' ep e1 _ e2 _ pr _)
 rw [q,e]at e1;(have q_:=oi e1;clear e1;subst q_);cases e2
 exact ne pr.length
section
variable {c:Ct} {Yc:List Qk} {g s:Qi}
noncomputable abbrev hK(t t':Tok):List (Qd×Qm):=[("kind",.str "line" t),("place",.int (-1) t')]
theorem sub_go{n:Nat}{E:Qe}{Q:Qe}{h0:QU}{N:Nat}{T:TreeD}{own:Nat}{args:Args}{a1:Qk}{k1 ex:List (Qd×Qm)}{t0:Tok}(hB:c.B=Bh c.w)(G:Gd c (n+3) (mg c.w) (mb c.w))(f:Fm c Yc g s)(ht:1<=s.toks)(H1:HidOk c Yc g 171)(Tb:TabOk s.heap)(O:NOk c.w c Yc g h0 s.heap N T)(ho:own<N)(hkz:(T.kd own).length<=1000)(hkB:∀a,s.heap.get? a≠Qg->g.heap.get? a=Qg->(Bh c.w).get? a=Qg)
  (D1:s.heap.DictOf (kS c) a1 k1) (hz:k1.length+ex.length<=900) (s1:(a1==Vc)=false) (hb:JH c.prog c.w c.A.in1 (JG c.w) args (.ref (T.nd own).f) (.str "line" t0) (.ref a1) ex s)
  (h:∀(nd:Nd) ad h' tk t m,1<=tk->(∀b o,b≠171->b≠(T.nd own).k->s.heap.get? b=Qf o->h'.get? b=Qf o)->TabOk h'->(∀a∈[ad,nd.f,nd.d,nd.k,nd.b,nd.g,nd.c],s.heap.get? a=Qg)->[nd.f,nd.d,nd.k,nd.b,nd.g].Nodup->NdFix c.w h' nd->NdDic h' nd "line" ad "" (.str "" t)->h'.DictOf (kS c) ad (Yb (Yb [] k1) ex) ->
   h'.PlainList nd.k #[]->h'.get? (T.nd own).k=Qf (kT (((T.kd own).map λj=>VW (T.nd j).f)++[VW nd.f]).toArray m)->Fm c ([nd.d,nd.k]++Yc) g { s with heap:=h',toks:=tk }->Q (.ref nd.f) { s with heap:=h',toks:=tk }) :
  Qo c.M c.A (call (.ref 120) args.pos args.kw) Q E s:=by
 have x:=f.at ht
 refine e1_6 (O.fnat ho) ?_;intro vals P _ _ v4 v5 v6
 (refine jd (O.kid own ho) ?_;intro m hko)
 have bo:=(O.fix own ho).bo
 have Hk:=O.hidK own ho
 have nb:(T.nd own).b≠171:=qm Tb bo (by(intro h;cases h))
 refine sub120 (w:=c.w) (X:=c.X++c.Yf Yc) (n:=n) G.room (λa o e=>x.base a o (hB▸e)) x.live (Q7 _ (.tail _ (Q7 _ H1.mem))) (Q7 _ (.tail _ (Q7 _ Hk.mem))) (hkB _ (by rw [hko];simp) Hk.dead) ht Tb P v5 v6 bo hko (by rw [Vk,Qy];exact hkz) nb D1 hz s1 hb λnd ad h' tk t ht' kp T' dead nod fix dic D3 kl ko'=>?_
 (refine jd ko' ?_;intro m' ko')
 have f':Fm c ([nd.d,nd.k]++Yc) g { s with heap:=h',toks:=tk }:=by
  refine f.evoL (M:=[171,(T.nd own).k]) (λm hm=>?_) (λm hm=>?_) (λb o hb e=>kp b o (λq=>hb (q▸.head _)) (λq=>hb (q▸.tail _ (.head _))) e) λb hb=>?_
  ·simp only [QD,QG,or_false]at hm
   rcases hm with rfl | rfl
   ·exact H1
   ·exact Hk
  ·simp only [QD,QG,or_false]at hm
   rcases hm with rfl | rfl
   ·(refine jc T' ?_;intro ps e _);exact⟨_,e⟩
   ·exact⟨_,ko'⟩
  ·simp only [QD,QG,or_false]at hb
   rcases hb with rfl | rfl
   ·(refine JL dic ?_;intro es n _ _ e _);exact⟨dead _ (.tail _ (.tail _ (.head _))),_,e⟩
   ·(refine jd kl ?_;intro n e);exact⟨dead _ (.tail _ (.tail _ (.tail _ (.head _)))),_,e⟩
 refine h nd ad h' tk t m' ht' kp T' dead nod fix dic D3 kl ?_ f'
 rw [ko'];simp
noncomputable abbrev kwP(v:Qm):List (Qd×Qm):=[("place",v)]
theorem JV{n:Nat}{E:Qe}{Q:Qe}{fo a1:Qk}{i:Int}{p1 p2 p3 p4 p5 p6 p7:Pos}{k3:Nat}(hB:c.B=Bh c.w)(G:Gd c n (mg c.w) (mb c.w))(f:Fm c Yc g s)(ht:1<=s.toks)(q1:∀p,PE c (.Name "owner" p) (.raw (.ref fo)))(q2:∀p,PE c (.Name "handed" p) (.raw (.ref a1)))(q3:∀p,PE c (.Name "place" p) (.int i))(hk:c.env.kindOf "SubElement"=Qf .globalImplicit)
  (h:∀h' tk t0 t1,(∀b o,s.heap.get? b=Qf o->h'.get? b=Qf o)->1<=tk->Qo c.M c.A (call (.ref 120) [.ref fo,.str "line" t0,.ref a1] (kwP (.int i t1))) Q E { s with heap:=h',toks:=tk })
  (he:eval (.Call (.Name "SubElement" p1) [.Name "owner" p2,.Constant (.str "line") k3 p3,.Name "handed" p4] [⟨Qf "place",.Name "place" p5,p6⟩] p7) c.env=(do VL p7 (<-eval (.Name "SubElement" p1) c.env) [] (VO p7 (Qv [.Name "owner" p2,.Constant (.str "line") k3 p3,.Name "handed" p4] c.env)) (VE p7 (V3 [⟨Qf "place",.Name "place" p5,p6⟩] c.env))):=by rfl) :
  Qo c.M c.A (eval (.Call (.Name "SubElement" p1) [.Name "owner" p2,.Constant (.str "line") k3 p3,.Name "handed" p4] [⟨Qf "place",.Name "place" p5,p6⟩] p7) c.env) Q E s:=by
 have g120:mg c.w "SubElement"=Qf (.ref 120):=by kernel_rfl
 rw [he]
 refine Qh ((PE.glob G g120 hk (by decide)).use (f.at ht) λv s1 k1 x1 r1=>?_)
 obtain rfl:=jb r1
 refine callWith_def_kw (o:=o_130 c.w.params) (fd:=JG c.w) rfl (evalArgs_kw2 rfl ?_)
 have q:PEs c [.Name "owner" p2,.Constant (.str "line") k3 p3,.Name "handed" p4] [.raw (.ref fo),.str "line",.raw (.ref a1)]:=.cons (q1 _) (.cons .str (.cons (q2 _) .nil))
 refine q.use x1 λvs s2 k2 x2 r2=>kwAll_cons ((q3 p5).use x2 λv s3 k3 x3 r3=>kwAll_nil ⟨x3.base _ _ (by rw [hB];exact b_120 _),?_⟩)
 obtain⟨v1,_,rfl,e1,v2,_,rfl,e2,v3,_,rfl,e3,rfl⟩:=r2
 obtain rfl:=jb e1
 (refine jd (jj e2) ?_;rintro t0 rfl)
 obtain rfl:=jb e3
 (refine jd (jk r3) ?_;rintro t1 rfl)
 (refine jn (ktr k1 (ktr k2 k3)) ?_;rintro h3 tk3 rfl kk3)
 exact h h3 tk3 t0 t1 kk3 x3.tk
end
section
variable {c:Ct} {Yc:List Qk} {g s:Qi}
theorem JU{n:Nat}{E:Qe}{Q:Qe}{fo:Qk}{i:Int}{p1 p2 p3 p5 p6 p7:Pos}{k3:Nat}(hB:c.B=Bh c.w)(G:Gd c n (mg c.w) (mb c.w))(f:Fm c Yc g s)(ht:1<=s.toks)(q1:∀p,PE c (.Name "owner" p) (.raw (.ref fo)))(q3:∀p,PE c (.Name "place" p) (.int i))(hk:c.env.kindOf "SubElement"=Qf .globalImplicit)
  (h:∀h' tk t0 t1,(∀b o,s.heap.get? b=Qf o->h'.get? b=Qf o)->1<=tk->Qo c.M c.A (call (.ref 120) [.ref fo,.str "line" t0] (kwP (.int i t1))) Q E { s with heap:=h',toks:=tk })
  (he:eval (.Call (.Name "SubElement" p1) [.Name "owner" p2,.Constant (.str "line") k3 p3] [⟨Qf "place",.Name "place" p5,p6⟩] p7) c.env=(do VL p7 (<-eval (.Name "SubElement" p1) c.env) [] (VO p7 (Qv [.Name "owner" p2,.Constant (.str "line") k3 p3] c.env)) (VE p7 (V3 [⟨Qf "place",.Name "place" p5,p6⟩] c.env))):=by rfl) :
  Qo c.M c.A (eval (.Call (.Name "SubElement" p1) [.Name "owner" p2,.Constant (.str "line") k3 p3] [⟨Qf "place",.Name "place" p5,p6⟩] p7) c.env) Q E s:=by
 have g120:mg c.w "SubElement"=Qf (.ref 120):=by kernel_rfl
 rw [he]
 refine Qh ((PE.glob G g120 hk (by decide)).use (f.at ht) λv s1 k1 x1 r1=>?_)
 obtain rfl:=jb r1
 refine callWith_def_kw (o:=o_130 c.w.params) (fd:=JG c.w) rfl (evalArgs_kw2 rfl ?_)
 have q:PEs c [.Name "owner" p2,.Constant (.str "line") k3 p3] [.raw (.ref fo),.str "line"]:=.cons (q1 _) (.cons .str .nil)
 refine q.use x1 λvs s2 k2 x2 r2=>kwAll_cons ((q3 p5).use x2 λv s3 k3 x3 r3=>kwAll_nil ⟨x3.base _ _ (by rw [hB];exact b_120 _),?_⟩)
 (refine jW (yu r2) ?_;rintro v1 v2 rfl e1 e2)
 obtain rfl:=jb e1
 (refine jd (jj e2) ?_;rintro t0 rfl)
 (refine jd (jk r3) ?_;rintro t1 rfl)
 (refine jn (ktr k1 (ktr k2 k3)) ?_;rintro h3 tk3 rfl kk3)
 exact h h3 tk3 t0 t1 kk3 x3.tk
theorem JT{n:Nat}{E:Qe}{Q:Qe}{fo a1:Qk}{p1 p2 p3 p4 p7:Pos}{k3:Nat}(hB:c.B=Bh c.w)(G:Gd c n (mg c.w) (mb c.w))(f:Fm c Yc g s)(ht:1<=s.toks)(q1:∀p,PE c (.Name "owner" p) (.raw (.ref fo)))(q2:∀p,PE c (.Name "handed" p) (.raw (.ref a1)))(hk:c.env.kindOf "SubElement"=Qf .globalImplicit)
  (h:∀h' tk t0,(∀b o,s.heap.get? b=Qf o->h'.get? b=Qf o)->1<=tk->Qo c.M c.A (call (.ref 120) [.ref fo,.str "line" t0,.ref a1] []) Q E { s with heap:=h',toks:=tk })
  (he:eval (.Call (.Name "SubElement" p1) [.Name "owner" p2,.Constant (.str "line") k3 p3,.Name "handed" p4] [] p7) c.env=(do VL p7 (<-eval (.Name "SubElement" p1) c.env) [] (VO p7 (Qv [.Name "owner" p2,.Constant (.str "line") k3 p3,.Name "handed" p4] c.env)) (VE p7 (V3 [] c.env))):=by rfl) :
  Qo c.M c.A (eval (.Call (.Name "SubElement" p1) [.Name "owner" p2,.Constant (.str "line") k3 p3,.Name "handed" p4] [] p7) c.env) Q E s:=by
 have g120:mg c.w "SubElement"=Qf (.ref 120):=by kernel_rfl
 rw [he]
 refine Qh ((PE.glob G g120 hk (by decide)).use (f.at ht) λv s1 k1 x1 r1=>?_)
 obtain rfl:=jb r1
 have q:PEs c [.Name "owner" p2,.Constant (.str "line") k3 p3,.Name "handed" p4] [.raw (.ref fo),.str "line",.raw (.ref a1)]:=.cons (q1 _) (.cons .str (.cons (q2 _) .nil))
 refine VT (o:=o_130 c.w.params) (fd:=JG c.w) (je rfl (q.use x1 λvs s2 k2 x2 r2=>?_))
 refine⟨⟨x2.base _ _ (by rw [hB];exact b_120 _),rfl⟩,?_⟩
 obtain⟨v1,_,rfl,e1,v2,_,rfl,e2,v3,_,rfl,e3,rfl⟩:=r2
 obtain rfl:=jb e1
 (refine jd (jj e2) ?_;rintro t0 rfl)
 obtain rfl:=jb e3
 (refine jn (ktr k1 k2) ?_;rintro h3 tk3 rfl kk3)
 exact h h3 tk3 t0 kk3 x2.tk
theorem mrgA(t t' t1:Tok)(i:Int):Yb (Yb [] (hK t t')) (kwP (.int i t1))=([("kind",.str "line" t),("place",.int i t1)]:List (Qd×Qm)):=by kernel_rfl
theorem mrgB(t1:Tok)(i:Int):Yb (Yb [] []) (kwP (.int i t1))=([("place",.int i t1)]:List (Qd×Qm)):=by kernel_rfl
theorem mrgC(t t':Tok):Yb (Yb [] (hK t t')) []=hK t t':=by kernel_rfl
theorem sub_pick{n:Nat}{E:Qe}{Q:Qe}{h0:QU}{N i own:Nat}{T:TreeD}{hd:Qk}{t t':Tok}
  {p1 p2 p3 p4 p5 p6 p7 p8 p9 p10 p11 p12 p13 p14 p15 p16 p17 p18 p19 p20 p21 p22 p23 p24 p25 p26 p27 p28 p29:Pos} {k1 k2 k3 k4 k5 k6 k7:Nat}
  (hB:c.B=Bh c.w) (G:Gd c (n+3) (mg c.w) (mb c.w)) (f:Fm c Yc g s) (ht:1<=s.toks) (H1:HidOk c Yc g 171) (Tb:TabOk s.heap) (O:NOk c.w c Yc g h0 s.heap N T) (ho:own<N) (hkz:(T.kd own).length<=1000) (hkB:∀a,s.heap.get? a≠Qg->g.heap.get? a=Qg->(Bh c.w).get? a=Qg)
  (Dh:s.heap.DictOf (kS c) hd (hK t t')) (s1:(hd==Vc)=false) (q1:∀p,PE c (.Name "owner" p) (.raw (.ref (T.nd own).f))) (q2:∀p,PE c (.Name "handed" p) (.raw (.ref hd))) (q3:∀p,PE c (.Name "place" p) (.int i)) (hk:c.env.kindOf "SubElement"=Qf .globalImplicit)
  (h:∀(nd:Nd) ad h' tk t m,1<=tk->(∀b o,b≠171->b≠(T.nd own).k->s.heap.get? b=Qf o->h'.get? b=Qf o)->TabOk h'->(∀a∈[ad,nd.f,nd.d,nd.k,nd.b,nd.g,nd.c],s.heap.get? a=Qg)->[nd.f,nd.d,nd.k,nd.b,nd.g].Nodup->NdFix c.w h' nd->NdDic h' nd "line" ad "" (.str "" t)->AtK c.prog c.w h' ad i ->
   h'.PlainList nd.k #[]->h'.get? (T.nd own).k=Qf (kT (((T.kd own).map λj=>VW (T.nd j).f)++[VW nd.f]).toArray m)->Fm c ([nd.d,nd.k]++Yc) g { s with heap:=h',toks:=tk }->Q (.ref nd.f) { s with heap:=h',toks:=tk }) :
  Qo c.M c.A (eval (.IfExp (.Compare (.BinOp (.Name "place" p1) .Mod (.Constant (.int 3) k1 p2) p3) [.Eq] [.Constant (.int 0) k2 p4] p5) (.Call (.Name "SubElement" p6) [.Name "owner" p7,.Constant (.str "line") k3 p8,.Name "handed" p9] [⟨Qf "place",.Name "place" p10,p11⟩] p12)
   (.IfExp (.Compare (.BinOp (.Name "place" p13) .Mod (.Constant (.int 3) k4 p14) p15) [.Eq] [.Constant (.int 1) k5 p16] p17) (.Call (.Name "SubElement" p18) [.Name "owner" p19,.Constant (.str "line") k6 p20] [⟨Qf "place",.Name "place" p21,p22⟩] p23)
    (.Call (.Name "SubElement" p24) [.Name "owner" p25,.Constant (.str "line") k7 p26,.Name "handed" p27] [] p28) p29) p29) c.env) Q E s:=by
 have kf:∀b o vs,o.data=.fields vs->s.heap.get? b=Qf o->Off c b:=λb o vs q e=>f.offFields e q
 have go:∀ {h1:QU} {tk1:Tok} {args:Args} {a1:Qk} {kk ex:List (Qd×Qm)} {t0:Tok},(∀b o,s.heap.get? b=Qf o->h1.get? b=Qf o)->1<=tk1->h1.DictOf (kS c) a1 kk->kk.length<=2->ex.length<=1->(a1==Vc)=false->JH c.prog c.w c.A.in1 (JG c.w) args (.ref (T.nd own).f) (.str "line" t0) (.ref a1) ex { s with heap:=h1,toks:=tk1 }->AtV i (Yb (Yb [] kk) ex) ->
   Qo c.M c.A (call (.ref 120) args.pos args.kw) Q E { s with heap:=h1,toks:=tk1 }:=λ{h1 tk1 args a1 kk ex t0} kp ht1 D1 z1 z2 sy hb at'=>by
  have f1:Fm c Yc g { s with heap:=h1,toks:=tk1 }:=f.keeps ⟨h1,tk1,rfl,kp⟩
  have O1:=O.keep (h':=h1) Tb [] (λb o _ _ _ e=>kp b o e) kf
  refine sub_go (s:={ s with heap:=h1,toks:=tk1 }) (n:=n) hB G f1 ht1 H1 (Tb.keeps kp) O1 ho hkz (λa e1 e2=>?_) D1 (by exact zr45 ‹_› ‹_› rfl) sy hb λnd ad h' tk t m ht' kp' T' dead nod fix dic D3 kl ko' f'=>?_
  ·cases q:(Bh c.w).get? a with
   | none=>rfl
   | some o =>
    have b1:=(f.at ht).base a o (hB▸q)
    have:=hkB a (by rw [b1];simp) e2
    rw [q]at this;exact no2 this
  ·refine h nd ad h' tk t m ht' (λb o n1 n2 e=>kp' b o n1 n2 (kp b o e)) T' (λa ha=>?_) nod fix dic ⟨_,D3,at'⟩ kl ko' f'
   cases q:s.heap.get? a with
   | none=>rfl
   | some o=>have:=kp _ _ q;rw [show h1.get? a=Qg from dead a ha]at this;exact no1 this
 have b113:∀ {h1:QU},(∀b o,s.heap.get? b=Qf o->h1.get? b=Qf o)->h1.get? 113=Qf { cls:=.type "tuple",data:=.seq #[.ref 112] 0 }:=λkp=>kp _ _ ((f.at ht).base _ _ (by rw [hB];exact b_113 _))
 have p3:PE c (.BinOp (.Name "place" p1) .Mod (.Constant (.int 3) k1 p2) p3) (.int ((i:Int)%3)):=.mod (q3 _) .int (by decide)
 by_cases c0:(i:Int)%3=0
 ·have c0':i%3=0:=by lia
  refine IfExp_ (PT.use (b:=true) (.cmp p3 .int (jV .Eq (decide_eq_true c0))) (f.at ht) λs1' j1 x1=>?_)
  (refine jn j1 ?_;clear j1;rintro h1 tk1 rfl kk1)
  have f1:Fm c Yc g { s with heap:=h1,toks:=tk1 }:=f.keeps ⟨h1,tk1,rfl,kk1⟩
  rw [if_pos rfl]
  refine JV (s:={ s with heap:=h1,toks:=tk1 }) hB G f1 x1.tk q1 q2 q3 hk λh2 tk2 u0 u1 kk2 ht2=>?_
  have kp:∀b o,s.heap.get? b=Qf o->h2.get? b=Qf o:=λb o e=>kk2 _ _ (kk1 _ _ e)
  refine go (args:=⟨[_,_,_],kwP _⟩) kp ht2 (jq Dh λo e=>kp _ _ e) (Vr _) (Vr _) s1 (bindA rfl rfl (b113 kp)) ?_
  rw [mrgA];unfold AtV;rw [if_pos c0'];exact⟨t,u1,rfl⟩
 ·have c0':¬i%3=0:=by lia
  refine IfExp_ (PT.use (b:=false) (.cmp p3 .int (jV .Eq (decide_eq_false c0))) (f.at ht) λs1' j1 x1=>?_)
  (refine jn j1 ?_;clear j1;rintro h1 tk1 rfl kk1)
  rw [if_neg (by decide)]
  have p15':PE c (.BinOp (.Name "place" p13) .Mod (.Constant (.int 3) k4 p14) p15) (.int ((i:Int)%3)):=.mod (q3 _) .int (by decide)
  by_cases c1:(i:Int)%3=1
  ·have c1':i%3=1:=by lia
   refine IfExp_ (PT.use (b:=true) (.cmp p15' .int (jV .Eq (decide_eq_true c1))) x1 λs2' j2 x2=>?_)
   (refine jn j2 ?_;clear j2;rintro h2 tk2 rfl kk2)
   have k02:∀b o,s.heap.get? b=Qf o->h2.get? b=Qf o:=λb o e=>kk2 _ _ (kk1 _ _ e)
   have f2:Fm c Yc g { s with heap:=h2,toks:=tk2 }:=f.keeps ⟨h2,tk2,rfl,k02⟩
   rw [if_pos rfl]
   refine JU (s:={ s with heap:=h2,toks:=tk2 }) hB G f2 x2.tk q1 q3 hk λh3 tk3 u0 u1 kk3 ht3=>?_
   have kp:∀b o,s.heap.get? b=Qf o->h3.get? b=Qf o:=λb o e=>kk3 _ _ (k02 _ _ e)
   have b112:h3.DictOf (kS c) 112 []:=Jy (w:=c.w) (n:=0) (kp _ _ ((f.at ht).base _ _ (by rw [hB];exact b_112 _)))
   refine go (args:=⟨[_,_],kwP _⟩) kp ht3 b112 (Vj _) (Vr _) (by decide) (bindB rfl rfl (b113 kp)) ?_
   rw [mrgB];unfold AtV;rw [if_neg c0',if_pos c1'];exact⟨u1,rfl⟩
  ·have c1':¬i%3=1:=by lia
   refine IfExp_ (PT.use (b:=false) (.cmp p15' .int (jV .Eq (decide_eq_false c1))) x1 λs2' j2 x2=>?_)
   (refine jn j2 ?_;clear j2;rintro h2 tk2 rfl kk2)
   have k02:∀b o,s.heap.get? b=Qf o->h2.get? b=Qf o:=λb o e=>kk2 _ _ (kk1 _ _ e)
   have f2:Fm c Yc g { s with heap:=h2,toks:=tk2 }:=f.keeps ⟨h2,tk2,rfl,k02⟩
   rw [if_neg (by decide)]
   refine JT (s:={ s with heap:=h2,toks:=tk2 }) hB G f2 x2.tk q1 q2 hk λh3 tk3 u0 kk3 ht3=>?_
   have kp:∀b o,s.heap.get? b=Qf o->h3.get? b=Qf o:=λb o e=>kk3 _ _ (k02 _ _ e)
   refine go (args:=⟨[_,_,_],[]⟩) kp ht3 (jq Dh λo e=>kp _ _ e) (Vr _) (Vj _) s1 (bindC rfl rfl (b113 kp)) ?_
   rw [mrgC];unfold AtV;rw [if_neg c0',if_neg c1'];exact⟨t,t',rfl⟩
end
section
variable {c:Ct} {Yc:List Qk} {g s:Qi}
theorem TabOk.storeG{s':Qi}(T:TabOk s.heap)(f:Fm c Yc g s)(kp:∀b o,Off c b->s.heap.get? b=Qf o->s'.heap.get? b=Qf o)(o1:Off c 171):TabOk s'.heap:=by
 refine T.but (M:=c.env.locals::c.env.cells.map (·.2)) (λb o hb e=>kp b o ⟨λq=>hb (q▸.head _),λm=>hb (.tail _ m)⟩ e) ?_ ?_
 ·intro m
  rcases Qb m with m | m
  ·exact o1.1 m
  ·exact o1.2 m
 ·intro m hm o vs e q
  have:=f.offFields e q
  rcases Qb hm with rfl | hm
  ·exact this.1 rfl
  ·exact this.2 hm
theorem X1.go{st:XM}{σ':List (Option AV)}{E:Qe}{Q:Flow->Qi->Prop}(h:X1 c st (λo=>o=.nx c.X σ'))(f:Fm c Yc g s)(ht:1<=s.toks)(hX:c.X=[])(k:∀s',Fm (c.up c.X σ') Yc g s'->1<=s'.toks->(∀b o,Off c b->s.heap.get? b=Qf o->s'.heap.get? b=Qf o)->(∃h' tk,s'={ s with heap:=h',toks:=tk })->Q .next s'):Qo c.M c.A (exec st c.env) Q E s :=
 QB (n:=1) ht (Qz (h g s _ ht f) (λfl s' ⟨gr,q⟩ ht'=>by
  cases fl with
  | next =>
   (refine jn q ?_;intro X σ e st)
   cases e
   refine k s' st.2 ht' (λb o ob e=>gr.get b o (λm=>?_) e) (let ⟨h',tk,e,_⟩:=gr;⟨h',tk,e⟩)
   unfold Own at m
   rw [hX]at m
   rcases Qb m with m | m
   ·exact ob.1 m
   ·exact ob.2 m
  | brk=>(refine jn q ?_;intro X σ e st);cases e
  | cont=>(refine jn q ?_;intro X σ e st);cases e
  | ret v=>(refine jc q ?_;intro av e st);cases e) λ_ _ y=>y)
theorem Gd.here{n:Nat}{mg mb:Qd->Option Qm}(G:Gd c n mg mb)(x:c.At (c.Yf Yc) s):Gd (c.here s) n mg mb :=
 ⟨G.kind,G.glob,G.blt,G.ns.keeps x.base,G.bs.keeps x.base,G.lim.keeps x.base,G.room⟩
noncomputable abbrev sg(dps lns tl:AV)(root hd:Qk)(trail grown:AV)(o:Qk)(y8 y9 y10 y11 y12:Option AV):List (Option AV):=[Qf dps,Qf lns,Qf tl,Qf (.raw (.ref root)),Qf (.raw (.ref hd)),Qf trail,Qf grown,Qf (.raw (.ref o)),y8,y9,y10,y11,y12]
noncomputable abbrev xj:List Qd:=["depths","lines","tail","root","handed","trail","grown","out","place","line","owner","element","due"]
structure GS (c:Ct) (Yc:List Qk) (g:Qi) (h0:QU) (dp:Nat->Nat) (ln:Nat->List Nat) (tl:Option (List Nat)) (hd o:Qk) (i:Nat) (nd:Nat->Nd) (ad:Nat->Qk) (s:Qi):Prop where
 fm:Fm c Yc g s
 tk:1<=s.toks
 h171:HidOk c Yc g 171
 tab:TabOk s.heap
 nok:NOk c.w c Yc g h0 s.heap (i+1) (trK dp ln tl i nd ad)
 adk:∀k,k<i->AtK c.prog c.w s.heap (ad (k+1)) k/\Off c (ad (k+1))
 hand:∃t t',s.heap.DictOf (kS c) hd (hK t t')
 handO:Off c hd
 out:∃m,s.heap.get? o=Qf (kT #[] m)
 outH:HidOk c Yc g o
 outK:∀j,j<i+1->o≠(nd j).k
 adH:∀k,k<i->ad (k+1)≠hd/\(ad (k+1)==Vc)=false
theorem AtK.ne{prog:QI}{w:Ql}{h:QU}{a:Qk}{k:Nat}(A:AtK prog w h a k)(T:TabOk h):a≠171:=by
 (refine jc A ?_;clear A;rintro kvs ⟨o,es,ep,e,⟨ec,_⟩,_⟩ _)
 exact qm T e (by rw [ec];simp)
section
variable {h0:QU} {dp:Nat->Nat} {ln:Nat->List Nat} {tl:Option (List Nat)} {hd o:Qk} {i:Nat} {nd:Nat->Nd} {ad:Nat->Qk}
theorem GS.keep(S:GS c Yc g h0 dp ln tl hd o i nd ad s){s':Qi}{σ':List (Option AV)}(W:List Qk)(fm':Fm (c.up c.X σ') (W++Yc) g s')(ht:1<=s'.toks)(T':TabOk s'.heap)(kp:∀b o,Off c b->b≠171->¬Itk o->s.heap.get? b=Qf o->s'.heap.get? b=Qf o):GS (c.up c.X σ') (W++Yc) g h0 dp ln tl hd o i nd ad s':=by
 (refine jN S.hand ?_;intro t t' D)
 (refine jd S.out ?_;intro m e)
 refine⟨fm',ht,(S.h171.more W).up,T',(S.nok.keep S.tab W kp λb o vs q e=>S.fm.offFields e q).up,λk hk=>?_,⟨t,t',jq D λo e=>?_⟩,S.handO,⟨m,kp _ _ S.outH.off (qm S.tab e (by simp)) (qG (by simp)) e⟩,(S.outH.more W).up,S.outK,S.adH⟩
 ·(refine jw (S.adk k hk) ?_;intro A ob)
  refine⟨A.at λo e=>kp _ _ ob (A.ne S.tab) ?_ e,ob⟩
  (refine jc A ?_;clear A;rintro kvs ⟨o',es,ep,e',_,e'',_⟩ _)
  rw [e']at e;(have q_:=oi e;clear e;subst q_)
  exact qG (by rw [e''];simp)
 ·(refine Jx D ?_;clear D;rintro o' es ep e' ⟨ec,_⟩ e'' _)
  rw [e']at e;(have q_:=oi e;clear e;subst q_)
  exact kp _ _ S.handO (qm S.tab e' (by rw [ec];simp)) (qG (by rw [e''];simp)) e'
theorem GS.st(S:GS c Yc g h0 dp ln tl hd o i nd ad s){s':Qi}{σ':List (Option AV)}(fm':Fm (c.up c.X σ') Yc g s')(ht:1<=s'.toks)(kp:∀b o,Off c b->s.heap.get? b=Qf o->s'.heap.get? b=Qf o):GS (c.up c.X σ') Yc g h0 dp ln tl hd o i nd ad s' :=
 S.keep [] fm' ht (S.tab.storeG S.fm kp S.h171.off) λb o ob _ _ e=>kp b o ob e
end
end
noncomputable abbrev dpL(dp:Nat->Nat):AV:=.list (iL ((Qj 5).map λk=>(dp k:Int)))
noncomputable abbrev lnL(ln:Nat->List Nat):AV:=.list (tL ((Qj 5).map ln))
noncomputable abbrev trL(dp:Nat->Nat)(nd:Nat->Nd)(i:Nat):AV:=.list ((qf dp i).map λj=>AV.raw (.ref (nd j).f))
noncomputable abbrev grL(nd:Nat->Nd)(i:Nat):AV:=.list ((Qj i).map λk=>AV.raw (.ref (nd (k+1)).f))
noncomputable abbrev sgG(dp:Nat->Nat)(ln:Nat->List Nat)(tl:Option (List Nat))(nd:Nat->Nd)(hd o:Qk)(i:Nat)(y8 y9 y10 y11 y12:Option AV):List (Option AV):=sg (dpL dp) (lnL ln) (kH tl) (nd 0).f hd (trL dp nd i) (grL nd i) o y8 y9 y10 y11 y12
theorem vK(dp:Nat->Nat):∀i,(qf dp i).length<=i+1
 | 0=>Vr _
 | i+1=>by
  have:=vK dp i
  simp only [za,QC,VK,X2];lia
theorem Ky(dp:Nat->Nat)(i j:Nat):(kdK dp i j).length<=i:=by
 unfold kdK
 rw [Qy]
 exact Qp (Yd _ _) (by simp)
theorem str0:("" : Qd)=tx []:=by kernel_rfl
noncomputable def kG{α:Type}(f:Nat->α)(n:Nat)(a:α):Nat->α:=λk=>if k=n then a else f k
theorem v9{α:Type}{f:Nat->α}{n k:Nat}{a:α}(h:k<n):kG f n a k=f k:=if_neg (by exact QR ‹_›)
theorem jG{α:Type}{f:Nat->α}{n:Nat}{a:α}:kG f n a n=a:=if_pos rfl
theorem HidOk.dn{c:Ct}{Yc:List Qk}{g:Qi}{X:List Qk}{σ:List (Option AV)}{m:Qk}(H:HidOk (c.up X σ) Yc g m):HidOk c Yc g m:=⟨H.mem,H.dead,H.nl,H.nc⟩
theorem NOk.dn{w:Ql}{c:Ct}{Yc:List Qk}{g:Qi}{h0 h:QU}{n:Nat}{T:TreeD}{X:List Qk}{σ:List (Option AV)}(N:NOk w (c.up X σ) Yc g h0 h n T):NOk w c Yc g h0 h n T :=
 ⟨N.fix,N.dic,N.kid,λk hk=>(N.hidD k hk).dn,λk hk=>(N.hidK k hk).dn,N.off,N.disD,N.disK,N.new,N.kdl⟩
section
variable {c:Ct} {Yc:List Qk} {g s:Qi} {h0:QU} {dp:Nat->Nat} {ln:Nat->List Nat} {tl:Option (List Nat)} {hd o:Qk} {i:Nat} {nd:Nat->Nd} {ad:Nat->Qk}
theorem turn_a{n:Nat}{E:Qe}{R:Flow->Qi->Prop}{rest:List XM}{y10 y11 y12:Option AV}
    {a1 a2 a3 a4 a5 a6 a7 a8 b0 b1 e1 e2 e3 e4:Pos}
    {p1 p2 p3 p4 p5 p6 p7 p8 p9 p10 p11 p12 p13 p14 p15 p16 p17 p18 p19 p20 p21 p22 p23 p24 p25 p26 p27 p28 p29:Pos} {k1 k2 k3 k4 k5 k6 k7:Nat}
    (hB:c.B=Bh c.w) (G:Gd c (n+3) (mg c.w) (mb c.w)) (V:Vars c) (hX:c.X=[]) (hv:c.vars=xj) (hk:c.env.kindOf "SubElement"=Qf .globalImplicit)
    (hσ:c.σ=sgG dp ln tl nd hd o i (Qf (.int i)) (Qf (.str (tx (ln i)))) y10 y11 y12) (hi:i<5) (hdp:dp i<(qf dp i).length) (S:GS c Yc g h0 dp ln tl hd o i nd ad s) (hG:∀b ob,h0.get? b=Qf ob->b=171∨∃o',g.heap.get? b=Qf o') (hsys:(hd==Vc)=false)
    (h:∀(nw:Nd) aw W s',GS (c.up c.X (sgG dp ln tl nd hd o i (Qf (.int i)) (Qf (.str (tx (ln i)))) (Qf (.raw (.ref (nd (qF dp i)).f))) (Qf (.raw (.ref nw.f))) y12)) (W++Yc) g h0 dp ln tl hd o (i+1) (kG nd (i+1) nw) (kG ad (i+1) aw) s' ->
      (∀b o,Off c b->b≠171->(∀j,j<i+1->b≠(nd j).k)->s.heap.get? b=Qf o->s'.heap.get? b=Qf o)->(∃h' tk,s'={ s with heap:=h',toks:=tk })->(∀b ob,Off c b->s.heap.get? b=Qf ob->b≠nw.k)->Qo c.M c.A (execs rest c.env) R E s')
    (hbase:VU (.Subscript (.Name "trail" a2) (.Subscript (.Name "depths" a3) (.Name "place" a4) a5) a6) (Qf (.Name "owner" a1)) a7.line c.env=pure false:=by rfl)
    (hs2:VU (.IfExp (.Compare (.BinOp (.Name "place" p1) .Mod (.Constant (.int 3) k1 p2) p3) [.Eq] [.Constant (.int 0) k2 p4] p5) (.Call (.Name "SubElement" p6) [.Name "owner" p7,.Constant (.str "line") k3 p8,.Name "handed" p9] [⟨Qf "place",.Name "place" p10,p11⟩] p12)
      (.IfExp (.Compare (.BinOp (.Name "place" p13) .Mod (.Constant (.int 3) k4 p14) p15) [.Eq] [.Constant (.int 1) k5 p16] p17) (.Call (.Name "SubElement" p18) [.Name "owner" p19,.Constant (.str "line") k6 p20] [⟨Qf "place",.Name "place" p21,p22⟩] p23)
        (.Call (.Name "SubElement" p24) [.Name "owner" p25,.Constant (.str "line") k7 p26,.Name "handed" p27] [] p28) p29) p29) (Qf (.Name "element" b0)) b1.line c.env=pure false:=by rfl)
    (hs3:VU (.Name "line" e3) (Qf (.Attribute (.Name "element" e1) "text" e2)) e4.line c.env=pure false:=by rfl) :
    Qo c.M c.A (execs (.Assign [.Name "owner" a1] (.Subscript (.Name "trail" a2) (.Subscript (.Name "depths" a3) (.Name "place" a4) a5) a6) a7 ::
      .Assign [.Name "element" b0] (.IfExp (.Compare (.BinOp (.Name "place" p1) .Mod (.Constant (.int 3) k1 p2) p3) [.Eq] [.Constant (.int 0) k2 p4] p5) (.Call (.Name "SubElement" p6) [.Name "owner" p7,.Constant (.str "line") k3 p8,.Name "handed" p9] [⟨Qf "place",.Name "place" p10,p11⟩] p12)
      (.IfExp (.Compare (.BinOp (.Name "place" p13) .Mod (.Constant (.int 3) k4 p14) p15) [.Eq] [.Constant (.int 1) k5 p16] p17) (.Call (.Name "SubElement" p18) [.Name "owner" p19,.Constant (.str "line") k6 p20] [⟨Qf "place",.Name "place" p21,p22⟩] p23)
        (.Call (.Name "SubElement" p24) [.Name "owner" p25,.Constant (.str "line") k7 p26,.Name "handed" p27] [] p28) p29) p29) b1 ::
      .Assign [.Attribute (.Name "element" e1) "text" e2] (.Name "line" e3) e4::rest) c.env) R E s:=by
  have hkf:=S.fm.kind
  have vi:∀(j:Nat) (x:Qd),xj[j]?=Qf x->c.vars[j]?=Qf x:=λj x e=>by rw [hv];exact e
  have si:∀(j:Nat) (a:Option AV),(sgG dp ln tl nd hd o i (Qf (.int i)) (Qf (.str (tx (ln i)))) y10 y11 y12)[j]?=Qf a->c.σ[j]?=Qf a:=λj a e=>by rw [hσ];exact e
  have ho:qF dp i<i+1:=V4 (zV dp i)
  have q1:PE c (.Subscript (.Name "trail" a2) (.Subscript (.Name "depths" a3) (.Name "place" a4) a5) a6) (.raw (.ref (nd (qF dp i)).f)):=by
    refine .itemL (.list (.var 5 hkf (vi 5 _ rfl) (si 5 _ rfl) (by decide) (by decide))) (.itemL (.list (.var 0 hkf (vi 0 _ rfl) (si 0 _ rfl) (by decide) (by decide))) (.var 8 hkf (vi 8 _ rfl) (si 8 _ rfl) (by decide) (by decide)) i (by rw [if_neg (by exact zq6)]) (av:=.int (dp i)) ?_ (by exact zq4 ‹_› rfl)) (dp i) (by rw [if_neg (by exact zq6)]) ?_ ?_
    · rw [Qx,Qx,VQ hi];rfl
    · rw [Qx,Qu hdp,qF,QL,Qu hdp];rfl
    · have:=vK dp i
      lia
  refine QF (X1.go (X1.assign V 10 (vi 10 _ rfl) q1 rfl hbase) S.fm S.tk hX λs1 f1 ht1 kp1 eq1=>?_)
  have e1:c.σ.set 10 (Qf (.raw (.ref (nd (qF dp i)).f)))=sgG dp ln tl nd hd o i (Qf (.int i)) (Qf (.str (tx (ln i)))) (Qf (.raw (.ref (nd (qF dp i)).f))) y11 y12:=by rw [hσ];rfl
  rw [e1]at f1
  have S1:=S.st f1 ht1 kp1
  (refine jN S1.hand ?_;intro t t' Dh)
  have hk1:(c.up c.X (sgG dp ln tl nd hd o i (Qf (.int i)) (Qf (.str (tx (ln i)))) (Qf (.raw (.ref (nd (qF dp i)).f))) y11 y12)).env.kindOf "SubElement"=Qf .globalImplicit:=hk
  have hkB:∀ {s':Qi} {c':Ct} {Y':List Qk},Fm c' Y' g s'->c'.B=Bh c.w->∀a,s'.heap.get? a≠Qg->g.heap.get? a=Qg->(Bh c.w).get? a=none:=λF eB a _ e2=>by
    cases q:(Bh c.w).get? a with
    | none=>rfl
    | some o=>have:=F.base a o (eB▸q);rw [e2]at this;exact no1 this
  have G1:Gd (c.up c.X (sgG dp ln tl nd hd o i (Qf (.int i)) (Qf (.str (tx (ln i)))) (Qf (.raw (.ref (nd (qF dp i)).f))) y11 y12)) (n+3) (mg c.w) (mb c.w):=⟨G.kind,G.glob,G.blt,G.ns,G.bs,G.lim,G.room⟩
  refine QF (X4 (sub_pick (c:=c.up c.X (sgG dp ln tl nd hd o i (Qf (.int i)) (Qf (.str (tx (ln i)))) (Qf (.raw (.ref (nd (qF dp i)).f))) y11 y12)) (i:=i) (own:=qF dp i) (n:=n) hB G1 f1 ht1 S1.h171 S1.tab S1.nok ho (Qp (Ky dp i _) (by exact zq2 ‹_› rfl)) (hkB f1 hB) Dh hsys
    (λp=>.var 10 hkf (vi 10 _ rfl) rfl (by decide) (by decide)) (λp=>.var 4 hkf (vi 4 _ rfl) rfl (by decide) (by decide)) (λp=>.var 8 hkf (vi 8 _ rfl) rfl (by decide) (by decide)) hk1
    λnw aw h2 tk2 t2 m2 ht2 kp2 T2 dead2 nod2 fix2 dic2 at2 kl2 ko2 f2=>?_) hs2)
  (refine jN eq1 ?_;clear eq1;rintro h1 tk1 rfl)
  have off2:∀a∈[aw,nw.f,nw.d,nw.k,nw.b,nw.g,nw.c],Off c a:=λa ha=>f1.offNew (dead2 a ha)
  refine QB (n:=1) ht2 (f2.storeK V.up (i:=11) (vi 11 _ rfl) (.of (av:=.raw (.ref nw.f)) vC) λs3 g3 same3 f3 ht3=>?_)
  (refine jn g3 ?_;clear g3;rintro h3 tk3 rfl _)
  have sm3:∀b,Off c b->h3.get? b=h2.get? b:=λb ob=>same3 b ob.1 ob.2
  change Fm (c.up c.X (sgG dp ln tl nd hd o i (Qf (.int i)) (Qf (.str (tx (ln i)))) (Qf (.raw (.ref (nd (qF dp i)).f))) (Qf (.raw (.ref nw.f))) y12)) ([nw.d,nw.k]++Yc) g { s with heap:=h3,toks:=tk3 }at f3
  have q9:PE (c.up c.X (sgG dp ln tl nd hd o i (Qf (.int i)) (Qf (.str (tx (ln i)))) (Qf (.raw (.ref (nd (qF dp i)).f))) (Qf (.raw (.ref nw.f))) y12)) (.Name "line" e3) (.str (tx (ln i))):=.var 9 hkf (vi 9 _ rfl) rfl (by decide) (by decide)
  refine QF (Xx (q9.use (f3.at ht3) λv s4 k4 x4 r4=>kr (c:=c.up c.X (sgG dp ln tl nd hd o i (Qf (.int i)) (Qf (.str (tx (ln i)))) (Qf (.raw (.ref (nd (qF dp i)).f))) (Qf (.raw (.ref nw.f))) y12)) 11 rfl hkf (vi 11 _ rfl) (by decide) (by decide) x4 λu ru=>?_) hs3)
  (refine jd (jj r4) ?_;rintro t4 rfl)
  obtain rfl:=jb (ru.rep rfl)
  (refine jn k4 ?_;clear k4;rintro h4 tk4 rfl kk4)
  have f4:=f3.keeps (s':={ s with heap:=h4,toks:=tk4 }) ⟨h4,tk4,rfl,kk4⟩
  have k24:∀b ob,Off c b->h2.get? b=Qf ob->h4.get? b=Qf ob:=λb ob o1 e=>kk4 _ _ ((sm3 b o1).trans e)
  refine e4_3 (id dic2) ?_;intro es2 n2 u1 u2 d1 d2 d3
  (refine jd fix2.fo ?_;intro fd2 fo2)
  have P4:FnAt h4 nw.f nw.d nmN [.str "line" u1,.ref aw,.str "" u2,.str "" t2,.ref nw.k,.ref 176,.ref nw.b,.ref nw.g]:=⟨⟨fd2,k24 _ _ (off2 _ (.tail _ (.head _))) fo2⟩,es2,n2,k24 _ _ (off2 _ (.tail _ (.tail _ (.head _)))) d1,d2,d3⟩
  refine J9 (s:={ s with heap:=h4,toks:=tk4 }) P4 2 rfl js (by decide) (.inr (.inr (.inl rfl))) λh5 tk5 ht5 P5 sb5=>?_
  have Hd:HidOk c ([nw.d,nw.k]++Yc) g nw.d:=(HidOk.new (W:=[nw.d,nw.k]) f1 (.head _) (dead2 _ (.tail _ (.tail _ (.head _))))).dn
  have Hk':HidOk c ([nw.d,nw.k]++Yc) g nw.k:=(HidOk.new (W:=[nw.d,nw.k]) f1 (.tail _ (.head _)) (dead2 _ (.tail _ (.tail _ (.tail _ (.head _)))))).dn
  have f5:=f4.but1 (h':=h5) (tk:=tk5) Hd.up (let ⟨_,es,n,e,_⟩:=P5;⟨_,e⟩) sb5
  have k25:∀b ob,Off c b->b≠nw.d->h2.get? b=Qf ob->h5.get? b=Qf ob:=λb ob o1 n1 e=>(sb5.2 b n1).trans (k24 b ob o1 e)
  have nd1:∀ {b:Qk} {ob:Obj},h1.get? b=Qf ob->b≠nw.d:=λ{b ob} e q=>by rw [q,dead2 nw.d (.tail _ (.tail _ (.head _)))]at e;exact no1 e
  have k15:∀b ob,Off c b->b≠171->b≠(nd (qF dp i)).k->h1.get? b=Qf ob->h5.get? b=Qf ob:=λb ob o1 n1 n2 e=>k25 b ob o1 (nd1 e) (kp2 b ob n1 n2 e)
  have nseq:∀ {b:Qk} {ob:Obj},h2.get? b=Qf ob->(∀es n,ob.data≠.dict es n)->b≠nw.d:=λ{b ob} e n1=>kR e d1 (n1 _ _)
  (refine jd (S1.nok.kid _ ho) ?_;intro mo kO1)
  have n171:∀ {b:Qk} {ob:Obj},h1.get? b=Qf ob->ob.cls≠.none->b≠171:=λe n=>qm S1.tab e n
  have nlst:∀ {b:Qk} {ob:Obj},h1.get? b=Qf ob->(∀vs m,ob.data≠.seq vs m)->b≠(nd (qF dp i)).k:=λe n=>kR e kO1 (n _ _)
  have okO:Off c (nd (qF dp i)).k:=(S1.nok.hidK _ ho).off
  have ko5:h5.get? (nd (qF dp i)).k=Qf (kT (((kdK dp i (qF dp i)).map λj=>VW (nd j).f)++[VW nw.f]).toArray m2):=k25 _ _ okO (nseq ko2 (by simp)) ko2
  have fix5:NdFix c.w h5 nw:=by
    obtain⟨⟨fd,q1⟩,q2,⟨cv,ctv,q3,_⟩,oc,q5,q6⟩:=id fix2
    refine fix2.at (λb hb ob e=>k25 b ob (off2 b (by simp at hb ⊢;rcases hb with h | h | h | h<;>simp [h])) (nseq e λes n q=>?_) e) λb ob vs q e=>k25 b ob (f2.offFields e q) (nseq e λes n q'=>by rw [q]at q';cases q') e
    simp only [QD,QG,or_false]at hb
    rcases hb with rfl | rfl | rfl | rfl
    · rw [q1]at e;(have q_:=oi e;clear e;subst q_);cases q
    · rw [q2]at e;(have q_:=oi e;clear e;subst q_);cases q
    · rw [q3]at e;(have q_:=oi e;clear e;subst q_);cases q
    · rw [q5]at e;(have q_:=oi e;clear e;subst q_);rw [q6]at q;cases q
  have T5:TabOk h5:=by
    have T4:TabOk h4:=(T2.storeG (s':={ s with heap:=h3,toks:=tk3 }) f2 (λb ob o1 e=>(sm3 b o1).trans e) S1.h171.off).keeps kk4
    refine T4.but (M:=[nw.d]) (λb ob hb e=>(sb5.2 b λq=>hb (q▸.head _)).trans e) (λm=>?_) λm hm ob vs e q=>?_
    · (refine jc T4 ?_;intro ps e _)
      have:=kR e (k24 _ _ (off2 nw.d (.tail _ (.tail _ (.head _)))) d1) (by simp)
      exact this (Q9 m)
    · obtain rfl:=Q9 hm
      rw [k24 _ _ (off2 nw.d (.tail _ (.tail _ (.head _)))) d1]at e;(have q_:=oi e;clear e;subst q_);cases q
  have hnew:∀a∈[nw.f,nw.d,nw.k],h0.get? a=none:=λa ha=>by
    have da:h1.get? a=none:=dead2 a (by simp at ha ⊢;rcases ha with h | h | h<;>simp [h])
    cases q:h0.get? a with
    | none=>rfl
    | some ob =>
      rcases hG a ob q with rfl | ⟨o',e'⟩
      · (refine jc S1.tab ?_;intro ps e _);rw [show h1.get? 171=_ from e]at da;exact no2 da
      · have:=jr f1.kept _ _ e';rw [show h1.get? a=Qf o' from this]at da;exact no2 da
  have N5:NOk c.w c ([nw.d,nw.k]++Yc) g h0 h5 (i+1+1) (trK dp ln tl (i+1) (kG nd (i+1) nw) (kG ad (i+1) aw)):=by
    have N1:NOk c.w c Yc g h0 h1 (i+1) (trK dp ln tl i nd ad):=S1.nok.dn
    refine N1.grow S1.tab (own:=qF dp i) ho (T':=trK dp ln tl (i+1) (kG nd (i+1) nw) (kG ad (i+1) aw)) (m':=m2) k15 (λb ob vs q e=>f1.offFields e q) (λk hk'=>⟨v9 hk',rfl,v9 hk',rfl,rfl⟩) (λk hk' ne=>?_) ?_ ?_ ?_ ?_ ?_ ?_ ?_ ?_ ?_ ?_ ?_
    · show kdK dp (i+1) k=kdK dp i k
      rw [vE,if_neg (Ne.symm ne)]
    · show kdK dp (i+1) (qF dp i)=kdK dp i (qF dp i)++[i+1]
      rw [vE,if_pos rfl]
    · show kdK dp (i+1) (i+1)=[]
      rw [vE,if_neg (by exact QR ‹_›),kdK_new]
    · show h5.get? _=Qf (kT (_++[VW (kG nd (i+1) nw (i+1)).f]).toArray m2)
      rw [jG];exact ko5
    · show NdFix c.w h5 (kG nd (i+1) nw (i+1))
      rw [jG];exact fix5
    · show ∃tl',NdDic h5 (kG nd (i+1) nw (i+1)) "line" (kG ad (i+1) aw (i+1)) (tx (ln i)) tl'/\∀G,Rep G (.str (tx [])) tl'
      rw [jG,jG]
      obtain⟨_,es5,n5,e5,e6,e7⟩:=P5
      exact⟨.str "" t2,⟨es5,n5,u1,t4,e5,e6,e7⟩,λG=>by rw [str0];exact vq⟩
    · show ∃m,h5.get? (kG nd (i+1) nw (i+1)).k=_
      rw [jG]
      (refine jd kl2 ?_;intro m e)
      exact⟨m,k25 _ _ (off2 _ (.tail _ (.tail _ (.tail _ (.head _))))) (nseq e (by simp)) e⟩
    · show HidOk c ([nw.d,nw.k]++Yc) g (kG nd (i+1) nw (i+1)).d
      rw [jG];exact Hd
    · show HidOk c ([nw.d,nw.k]++Yc) g (kG nd (i+1) nw (i+1)).k
      rw [jG];exact Hk'
    · show ∀a∈[(kG nd (i+1) nw (i+1)).f,(kG nd (i+1) nw (i+1)).b,(kG nd (i+1) nw (i+1)).g,(kG nd (i+1) nw (i+1)).c],Off c a
      rw [jG]
      exact λa ha=>off2 a (by simp at ha ⊢;rcases ha with h | h | h | h<;>simp [h])
    · show ∀a∈[(kG nd (i+1) nw (i+1)).d,(kG nd (i+1) nw (i+1)).k],h1.get? a=Qg
      rw [jG]
      exact λa ha=>dead2 a (by simp at ha ⊢;rcases ha with h | h<;>simp [h])
    · show ∀a∈[(kG nd (i+1) nw (i+1)).f,(kG nd (i+1) nw (i+1)).d,(kG nd (i+1) nw (i+1)).k],h0.get? a=Qg
      rw [jG];exact hnew
  (refine jd S1.out ?_;intro mo' eo)
  refine h nw aw [nw.d,nw.k] _ ⟨f5,ht5,(S1.h171.more _).up,T5,N5.up,λk hk'=>?_,⟨t,t',jq Dh λob e=>?_⟩,S1.handO,⟨mo',k15 _ _ S1.outH.off (n171 eo (by simp)) (S1.outK _ ho) eo⟩,(S1.outH.more _).up,λj hj=>?_,λk hk'=>?_⟩ (λb ob o1 n1 n2 e=>k15 b ob o1 n1 (n2 _ ho) (kp1 b ob o1 e)) ⟨h5,tk5,rfl⟩ λb ob o1 e q=>by
    have:=kp1 b ob o1 e
    rw [q,show h1.get? nw.k=Qg from dead2 _ (.tail _ (.tail _ (.tail _ (.head _))))]at this;exact no1 this
  · by_cases hki:k=i
    · subst hki
      have offa:Off c aw:=off2 aw (.head _)
      refine⟨?_,?_⟩
      · show AtK c.prog c.w h5 (kG ad (k+1) aw (k+1)) k
        rw [jG]
        (refine jc (id at2) ?_;intro kvs D v)
        exact at2.at fun ob e => k25 aw ob offa (dict_ne D d1 (by have := v.len; have : es2.length = 8 := by simpa using congrArg Yx d2
                                                                  lia)) e
      · show Off c (kG ad (k+1) aw (k+1))
        rw [jG];exact offa
    · have hk2:k<i:=by exact zr5 ‹_› ‹_›
      (refine jw (S1.adk k hk2) ?_;intro A oa)
      have e1:kG ad (i+1) aw (k+1)=ad (k+1):=v9 (by exact V4 ‹_›)
      refine⟨?_,?_⟩
      · show AtK c.prog c.w h5 (kG ad (i+1) aw (k+1)) k
        rw [e1]
        refine A.at λob e=>k15 _ ob oa (A.ne S1.tab) (nlst e λvs m q=>?_) e
        (refine jc A ?_;clear A;rintro kvs ⟨o',es,ep,e',_,e'',_⟩ _)
        rw [show h1.get? _=Qf o' from e']at e;(have q_:=oi e;clear e;subst q_);rw [q]at e'';cases e''
      · show Off c (kG ad (i+1) aw (k+1))
        rw [e1];exact oa
  · (refine Jx (id Dh) ?_;rintro o' es ep e' ⟨ec,_⟩ e'' _)
    rw [show h1.get? _=Qf o' from e']at e;(have q_:=oi e;clear e;subst q_)
    exact k15 _ _ S1.handO (n171 e' (by rw [ec];simp)) (nlst e' λvs m q=>by rw [q]at e'';cases e'') e'
  · by_cases hji:j=i+1
    · subst hji
      rw [jG]
      exact λq=>by rw [q]at eo;rw [show h1.get? nw.k=Qg from dead2 _ (.tail _ (.tail _ (.tail _ (.head _))))]at eo;exact no1 eo
    · rw [v9 (by exact zr5 ‹_› ‹_›)];exact S1.outK j (by exact zr5 ‹_› ‹_›)
  · by_cases hki:k=i
    · subst hki
      rw [jG]
      (refine yY Dh ?_;intro o' es ep e' _)
      refine⟨λq=>(by rw [<-q,show h1.get? aw=Qg from dead2 _ (.head _)]at e';exact no1 e'),?_⟩
      exact qY (w:=c.w) (h:=h1) (λa ob e=>(f1.at ht1).base a ob (by show c.B.get? a=_;rw [hB];exact e)) (dead2 _ (.head _))
    · rw [v9 (by lia)];exact S1.adH k (by exact zr5 ‹_› ‹_›)
end
section
variable {c:Ct} {Yc:List Qk} {g s:Qi} {h0:QU} {dp:Nat->Nat} {ln:Nat->List Nat} {tl:Option (List Nat)} {hd o:Qk} {i:Nat} {nd:Nat->Nd} {ad:Nat->Qk}
theorem turn_b{n:Nat}{E:Qe}{R:Flow->Qi->Prop}{nw:Nd}{own:Nat}{y12:Option AV}
  {p1 p2 p3 p4 p5 p6 p7 p8 p9 p10 p11 p12 p13 p14 p15 p16 p17 p18 p19 p20 q1 q2 q3 q4 q5 q6 q7 q8 q9 q10 q11 q12 q13 q14 q15 q16 q17 q18 q19 q20 q21:Pos} {k1 k2 k3 k4 k5 k6 k7:Nat}
  (hB:c.B=Bh c.w) (G:Gd c (n+3) (mg c.w) (mb c.w)) (V:Vars c) (hX:c.X=[]) (hv:c.vars=xj) (hki:c.env.kindOf "iselement"=Qf .globalImplicit)
  (hσ:c.σ=sgG dp ln tl nd hd o i (Qf (.int i)) (Qf (.str (tx (ln i)))) (Qf (.raw (.ref (nd own).f))) (Qf (.raw (.ref (nd (i+1)).f))) y12) (hown:own=qF dp i) (hi:i<5) (hdp:dp i<=5) (S:GS c Yc g h0 dp ln tl hd o (i+1) nd ad s)
  (h:∀s',GS (c.up c.X (sgG dp ln tl nd hd o (i+1) (Qf (.int i)) (Qf (.str (tx (ln i)))) (Qf (.raw (.ref (nd own).f))) (Qf (.raw (.ref (nd (i+1)).f))) y12)) Yc g h0 dp ln tl hd o (i+1) nd ad s' ->
   (∀b o,Off c b->s.heap.get? b=Qf o->s'.heap.get? b=Qf o)->(∃h' tk,s'={ s with heap:=h',toks:=tk })->R .next s')
  (hs1:XC [.Tuple [.Name "trail" p1,.Name "grown" p2] k1 p3] (.Tuple [.BinOp (.Subscript (.Name "trail" p4) (.Slice Qg (Qf (.BinOp (.Subscript (.Name "depths" p5) (.Name "place" p6) p7) .Add (.Constant (.int 1) k2 p8) p9)) Qg p10) p11) .Add (.List [.Name "element" p12] p13) p14,.BinOp (.Name "grown" p15) .Add (.List [.Name "element" p16] p17) p18] k3 p19) p20.line c.env=pure false:=by rfl)
  (hw1:Xl [.Tuple [.Name "trail" p1,.Name "grown" p2] k1 p3] (.Tuple [.BinOp (.Subscript (.Name "trail" p4) (.Slice Qg (Qf (.BinOp (.Subscript (.Name "depths" p5) (.Name "place" p6) p7) .Add (.Constant (.int 1) k2 p8) p9)) Qg p10) p11) .Add (.List [.Name "element" p12] p13) p14,.BinOp (.Name "grown" p15) .Add (.List [.Name "element" p16] p17) p18] k3 p19) c.env=pure (Qf (["trail","grown"]:List Qd)):=by rfl) :
  Qo c.M c.A (execs [.Assign [.Tuple [.Name "trail" p1,.Name "grown" p2] k1 p3] (.Tuple [.BinOp (.Subscript (.Name "trail" p4) (.Slice Qg (Qf (.BinOp (.Subscript (.Name "depths" p5) (.Name "place" p6) p7) .Add (.Constant (.int 1) k2 p8) p9)) Qg p10) p11) .Add (.List [.Name "element" p12] p13) p14,.BinOp (.Name "grown" p15) .Add (.List [.Name "element" p16] p17) p18] k3 p19) p20,
   .If (.BoolOp .Or [.Compare (.Subscript (.Attribute (.Name "owner" q1) "kids" q2) (.UnaryOp .USub (.Constant (.int 1) k4 q3) q4) q5) [.IsNot] [.Name "element" q6] q7,.Compare (.Attribute (.Name "element" q8) "tag" q9) [.NotEq] [.Constant (.str "line") k5 q10] q11,.Compare (.Call (.Name "iselement" q12) [.Name "element" q13] [] q14) [.IsNot] [.Constant (.bool true) k6 q15] q16] q17) [.Return (Qf (.Constant (.str "") k7 q18)) q19] [] q20] c.env) R E s:=by
 have hkf:=S.fm.kind
 have vi:∀(j:Nat) (x:Qd),xj[j]?=Qf x->c.vars[j]?=Qf x:=λj x e=>by rw [hv];exact e
 have si:∀(j:Nat) (a:Option AV),(sgG dp ln tl nd hd o i (Qf (.int i)) (Qf (.str (tx (ln i)))) (Qf (.raw (.ref (nd own).f))) (Qf (.raw (.ref (nd (i+1)).f))) y12)[j]?=Qf a->c.σ[j]?=Qf a:=λj a e=>by rw [hσ];exact e
 have c1:1<=sizeLine:=by decide
 have tl1:=vK dp i
 have sz:∀k:Nat,k<=1000->k<=sizeLine:=λk h=>by rw [QV];exact zq1 ‹_› rfl
 have b5:PE c (.Name "trail" p4) (trL dp nd i):=.var 5 hkf (vi 5 _ rfl) (si 5 _ rfl) (by decide) (by decide)
 have b6:PE c (.Name "grown" p15) (grL nd i):=.var 6 hkf (vi 6 _ rfl) (si 6 _ rfl) (by decide) (by decide)
 have be:∀p,PE c (.Name "element" p) (.raw (.ref (nd (i+1)).f)):=λp=>.var 11 hkf (vi 11 _ rfl) (si 11 _ rfl) (by decide) (by decide)
 have bd:PE c (.BinOp (.Subscript (.Name "depths" p5) (.Name "place" p6) p7) .Add (.Constant (.int 1) k2 p8) p9) (.int ((dp i+1:Nat):Int)):=by
  refine(PE.add (.itemL (.list (.var 0 hkf (vi 0 _ rfl) (si 0 _ rfl) (by decide) (by decide))) (.var 8 hkf (vi 8 _ rfl) (si 8 _ rfl) (by decide) (by decide)) i (by rw [if_neg (by exact zq6)]) (av:=.int (dp i)) ?_ (by exact zq4 ‹_› rfl)) .int).as (by push_cast;rfl)
  rw [Qx,Qx,VQ hi];rfl
 have v1:PE c (.BinOp (.Subscript (.Name "trail" p4) (.Slice Qg (Qf (.BinOp (.Subscript (.Name "depths" p5) (.Name "place" p6) p7) .Add (.Constant (.int 1) k2 p8) p9)) Qg p10) p11) .Add (.List [.Name "element" p12] p13) p14) (trL dp nd (i+1)) :=
  (PE.addL (.list (.slc (.list b5) .none (.some bd) (xg _) (by rw [Qy];exact sz _ (by lia)))) (.list (.list (.cons (be _) .nil) c1)) (by rw [VK,Qy];exact sz _ (by simp;lia))).as (by
   show AV.list _=AV.list _
   rw [za,Va,List.map_take];rfl)
 have v2:PE c (.BinOp (.Name "grown" p15) .Add (.List [.Name "element" p16] p17) p18) (grL nd (i+1)) :=
  (PE.addL (.list b6) (.list (.list (.cons (be _) .nil) c1)) (by rw [Qy,Vu];exact sz _ (by simp;exact zq2 ‹_› rfl))).as (by
   show AV.list _=AV.list _
   rw [Xg,Va];rfl)
 refine QF (X1.go (σ':=(c.σ.set 6 (Qf (grL nd (i+1)))).set 5 (Qf (trL dp nd (i+1)))) (X1.tupR (avs:=[trL dp nd (i+1),grL nd (i+1)]) V G.room.1 ["trail","grown"] (show Tg c [.Name "grown" p2,.Name "trail" p1] [grL nd (i+1),trL dp nd (i+1)] c.σ _ from .cons 6 (vi 6 _ rfl) (.cons 5 (vi 5 _ rfl) .nil)) (.tup (.cons v1 (.cons v2 .nil)) (by show 2<=Qt;decide)) rfl rfl rfl hs1 hw1) S.fm S.tk hX λs1 f1 ht1 kp1 eq1=>?_)
 have e1:(c.σ.set 6 (Qf (grL nd (i+1)))).set 5 (Qf (trL dp nd (i+1)))=sgG dp ln tl nd hd o (i+1) (Qf (.int i)) (Qf (.str (tx (ln i)))) (Qf (.raw (.ref (nd own).f))) (Qf (.raw (.ref (nd (i+1)).f))) y12:=by rw [hσ];rfl
 rw [e1]at f1
 have S1:=S.st f1 ht1 kp1
 (refine jN eq1 ?_;clear eq1;rintro h1 tk1 rfl)
 have x1:=f1.at ht1
 have N1:=S1.nok
 have ho:own<i+1+1:=by have:=zV dp i;lia
 refine e1_5 (N1.fnat ho) ?_;intro vo Po _ _ v4 _
 (refine ye (N1.fnat (Yu (i+1))) ?_;rintro vn Pn ⟨tt,v0⟩ _)
 (refine jd (N1.kid own ho) ?_;intro m hko)
 have ek:kdK dp (i+1) own=kdK dp i own++[i+1]:=by rw [vE,if_pos hown.symm]
 have kl:=Ky dp i own
 have U:Up c.w h1:=λa ob e=>x1.base a ob (by show c.B.get? a=_;rw [hB];exact e)
 have bo':∀p,PE ((c.up c.X (sgG dp ln tl nd hd o (i+1) (Qf (.int i)) (Qf (.str (tx (ln i)))) (Qf (.raw (.ref (nd own).f))) (Qf (.raw (.ref (nd (i+1)).f))) y12)).here { s with heap:=h1,toks:=tk1 }) (.Name "owner" p) (.raw (.ref (nd own).f)):=λp=>.var 10 hkf (vi 10 _ rfl) rfl (by decide) (by decide)
 have be':∀p,PE ((c.up c.X (sgG dp ln tl nd hd o (i+1) (Qf (.int i)) (Qf (.str (tx (ln i)))) (Qf (.raw (.ref (nd own).f))) (Qf (.raw (.ref (nd (i+1)).f))) y12)).here { s with heap:=h1,toks:=tk1 }) (.Name "element" p) (.raw (.ref (nd (i+1)).f)):=λp=>.var 11 hkf (vi 11 _ rfl) rfl (by decide) (by decide)
 have d1:PT ((c.up c.X (sgG dp ln tl nd hd o (i+1) (Qf (.int i)) (Qf (.str (tx (ln i)))) (Qf (.raw (.ref (nd own).f))) (Qf (.raw (.ref (nd (i+1)).f))) y12)).here { s with heap:=h1,toks:=tk1 }) (.Compare (.Subscript (.Attribute (.Name "owner" q1) "kids" q2) (.UnaryOp .USub (.Constant (.int 1) k4 q3) q4) q5) [.IsNot] [.Name "element" q6] q7) false:=by
  refine .cmp (.itemL (l:=(kdK dp (i+1) own).map λj=>AV.raw (.ref (nd j).f)) (.base (.natt Po (bo' _) 4 rfl v4 js rfl (.inr (.inr (.inr (.inr (.inl rfl))))) (av:=.raw (.ref (nd own).k)) λ_=>vC) hko λG=>vB λk _=>vC) (.neg .int) (kdK dp i own).length ?_ (av:=.raw (.ref (nd (i+1)).f)) ?_ (by decide)) (be' _) JB
  ·rw [if_pos (by decide),Qy,ek,QC,X2];push_cast;lia
  ·rw [ek,Va,X6 (by simp)];simp
 have d2:PT ((c.up c.X (sgG dp ln tl nd hd o (i+1) (Qf (.int i)) (Qf (.str (tx (ln i)))) (Qf (.raw (.ref (nd own).f))) (Qf (.raw (.ref (nd (i+1)).f))) y12)).here { s with heap:=h1,toks:=tk1 }) (.Compare (.Attribute (.Name "element" q8) "tag" q9) [.NotEq] [.Constant (.str "line") k5 q10] q11) false :=
  PT.as' (.cmp (.natt Pn (be' _) 0 rfl v0 js rfl (.inl rfl) (av:=.str "line") λ_=>vq) .str KS) (by decide)
 have hise:mg c.w "iselement"=Qf (.ref 111):=by kernel_rfl
 have d3:PT ((c.up c.X (sgG dp ln tl nd hd o (i+1) (Qf (.int i)) (Qf (.str (tx (ln i)))) (Qf (.raw (.ref (nd own).f))) (Qf (.raw (.ref (nd (i+1)).f))) y12)).here { s with heap:=h1,toks:=tk1 }) (.Compare (.Call (.Name "iselement" q12) [.Name "element" q13] [] q14) [.IsNot] [.Constant (.bool true) k6 q15] q16) false:=by
  have G1:Gd (c.up c.X (sgG dp ln tl nd hd o (i+1) (Qf (.int i)) (Qf (.str (tx (ln i)))) (Qf (.raw (.ref (nd own).f))) (Qf (.raw (.ref (nd (i+1)).f))) y12)) (n+3) (mg c.w) (mb c.w):=⟨G.kind,G.glob,G.blt,G.ns,G.bs,G.lim,G.room⟩
  refine PT.as' (.cmp (.callF (o:=o_121 c.w.params) (fd:=F111 c.w) (.glob (G1.here x1) hise hki (by decide)) (.cons (be' _) .nil) (U _ _ (b_111 c.w)) rfl (ise_fn (n:=0) U (G.room.le (by exact Vn _)) Pn v0 rfl)) .bool kE) rfl
 have d:=PT.as' (PT.or (pos:=q17) d1 λ_=>.or (pos:=q17) d2 λ_=>.or (pos:=q17) d3 λ_=>.or_nil (pos:=q17)) (b:=false) rfl
 refine QF (wpAny_If (d.use x1.here λs2 j2 x2=>?_))
 (refine jn j2 ?_;clear j2;rintro h2 tk2 rfl kk2)
 refine Vm (Vm ?_)
 have f2:=f1.keeps (s':={ s with heap:=h2,toks:=tk2 }) ⟨h2,tk2,rfl,kk2⟩
 exact h _ (S1.st f2 x2.tk λb ob _ e=>kk2 _ _ e) (λb ob o1 e=>kk2 _ _ (kp1 b ob o1 e)) ⟨h2,tk2,rfl⟩
end
theorem enum_itk{h:QU}{I J:Qk}{i:Int}{old:Qm}{o:Obj}(e:IsEnum h I J i old)(q:h.get? I=Qf o):Itk o:=by
 rw [e]at q;(have q_:=oi q;clear q;subst q_)
 exact⟨_,_,rfl,.inl rfl,rfl,λq t e=>by(have q_:=oi e;clear e;cases q_)⟩
theorem J5{h:QU}{J l:Qk}{i:Nat}{o:Obj}(e:h.IsListIter J l i)(q:h.get? J=Qf o):Itk o:=by
 (refine ye e ?_;intro o' e1 e2 e3)
 rw [e1]at q;(have q_:=oi q;clear q;subst q_)
 exact⟨_,_,e2,.inr rfl,e3,λq t e=>by(have q_:=oi e;clear e;cases q_)⟩
noncomputable def TurnOk(c:Ct)(g:Qi)(h0:QU)(dp:Nat->Nat)(ln:Nat->List Nat)(tl:Option (List Nat))(hd o:Qk)(body:List XM):Prop :=
 ∀(i:Nat) (nd:Nat->Nd) (ad:Nat->Qk) (Yc:List Qk) (s:Qi) (E:Qe) (y10 y11 y12:Option AV),i<5 ->
  GS (c.up c.X (sgG dp ln tl nd hd o i (Qf (.int i)) (Qf (.str (tx (ln i)))) y10 y11 y12)) Yc g h0 dp ln tl hd o i nd ad s ->
  Qo c.M c.A (execs body c.env) (λfl s'=>fl=.next/\∃nd' ad' W y10' y11',(∀k,k<i+1->nd' k=nd k)/\GS (c.up c.X (sgG dp ln tl nd' hd o (i+1) (Qf (.int i)) (Qf (.str (tx (ln i)))) y10' y11' y12)) (W++Yc) g h0 dp ln tl hd o (i+1) nd' ad' s' /\
   (∀b o,Off c b->b≠171->(∀j,j<i+1->b≠(nd j).k)->s.heap.get? b=Qf o->s'.heap.get? b=Qf o)/\(∃h' tk,s'={ s with heap:=h',toks:=tk })/\(∀b ob,Off c b->s.heap.get? b=Qf ob->b≠(nd' (i+1)).k)) E s
section
variable {c:Ct} {Y:List Qk} {g s:Qi}
theorem Fm.lose{J:Qk}{h':QU}{tk:Nat}(f:Fm c Y g s)(H:HidOk c Y g J)(k:∀b o,b≠J->s.heap.get? b=Qf o->h'.get? b=Qf o):Fm c (Y.filter λy=>decide (y≠J)) g { s with heap:=h',toks:=tk }:=by
 (refine jn f.fr ?_;intro m cm ic lk)
 have sub:∀y,y∈Y.filter (λy=>decide (y≠J))->y∈Y/\y≠J:=λy hy=>by simpa using hy
 have kX:∀x∈c.X,∀o,s.heap.get? x=Qf o->h'.get? x=Qf o:=λx hx o e=>k x o (λq=>f.nodup.2 x hx (q▸H.mem)) e
 have le:Le (hid (c.X++c.Yf Y) s.heap) (hid (c.X++c.Yf (Y.filter λy=>decide (y≠J))) h'):=λa o e=>by
  have e1:=j9 e
  have n:a∉c.X++c.Yf Y:=λm=>by unfold hid at e;rw [if_pos m]at e;exact no1 e
  refine jl (k _ _ (λq=>n (q▸Q7 _ (.tail _ (Q7 _ H.mem)))) e1) λhx=>n ?_
  rcases Qa hx with h | h
  ·exact Q8 _ h
  ·rcases Qb h with h | h
   ·exact Q7 _ (h▸.head _)
   ·rcases Qa h with h | h
    ·exact Q7 _ (.tail _ (Q8 _ h))
    ·exact Q7 _ (.tail _ (Q7 _ (sub _ h).1))
 (refine jN ic.toInCall.same ?_;intro h₁ t₁ e1)
 refine⟨f.base,λy hy=>((f.old y (sub y hy).1).imp λo e=>k _ _ (sub y hy).2 e),λx hx=>⟨(f.own x hx).1,(f.own x hx).2.1,(f.own x hx).2.2.1,(((f.own x hx).2.2.2).imp λo e=>kX x hx o e)⟩,
  ⟨f.nodup.1,λx hx m=>f.nodup.2 x hx (sub x m).1⟩,f.cnd,f.kind,m,cm,
  ⟨⟨⟨h',tk,by rw [e1]⟩,ic.toInCall.ns.at' λo e=>k _ o (λq=>H.nl q.symm) e,λb o e=>k b o (λq=>by rw [q,H.dead]at e;exact no1 e) (ic.toInCall.keep b o e),ic.toInCall.fresh⟩,λn a e=>?_,ic.apart,ic.above⟩,λi x av e e'=>?_⟩
 ·(refine jc (ic.cell n a e) ?_;intro o ho hd)
  exact⟨o,k _ _ (λq=>H.nc (q▸Qw.mpr ⟨(n,a),mem_of_lookup e,rfl⟩)) ho,hd⟩
 ·(refine jc (lk i x av e e') ?_;intro v r q)
  exact⟨v,r.to le λp _ a o e1 e2=>⟨e1,kX a (QE e1) o e2⟩,q⟩
theorem HidOk.lose{J m:Qk}(H:HidOk c Y g m)(n:m≠J):HidOk c (Y.filter λy=>decide (y≠J)) g m:=⟨by simp [H.mem,n],H.dead,H.nl,H.nc⟩
theorem GS.lose{h0:QU}{dp:Nat->Nat}{ln:Nat->List Nat}{tl:Option (List Nat)}{hd o J:Qk}{i:Nat}{nd:Nat->Nd}{ad:Nat->Qk}{h':QU}(S:GS c Y g h0 dp ln tl hd o i nd ad s)(H:HidOk c Y g J)(hJ:∀ob,s.heap.get? J=Qf ob->Itk ob)(k:∀b o,b≠J->s.heap.get? b=Qf o->h'.get? b=Qf o) :
  GS c (Y.filter λy=>decide (y≠J)) g h0 dp ln tl hd o i nd ad { s with heap:=h' }:=by
 have nj:∀ {b:Qk} {ob:Obj},¬Itk ob->s.heap.get? b=Qf ob->b≠J:=λn e q=>n (hJ _ (q▸e))
 have N':=S.nok.keep (h':=h') S.tab [] (λb ob _ _ ni e=>k b ob (nj ni e) e) λb ob vs q e=>S.fm.offFields e q
 have dne:∀k',k'<i+1->(nd k').d≠J:=λk' hk=>by
  (refine jc (S.nok.dic k' hk) ?_;rintro _ ⟨es,m,t1,t2,e,_⟩ _)
  exact nj (qG (by simp)) e
 have kne:∀k',k'<i+1->(nd k').k≠J:=λk' hk=>by
  (refine jd (S.nok.kid k' hk) ?_;intro m e)
  exact nj (qG (by simp)) e
 (refine jN S.hand ?_;intro t t' D)
 (refine jd S.out ?_;intro m eo)
 (refine jc (id S.tab) ?_;intro ps e171 _)
 refine⟨S.fm.lose H k,S.tk,S.h171.lose (nj (nitkT ps) e171),S.tab.keepI λb ob ni e=>k b ob (nj ni e) e,
  ⟨N'.fix,N'.dic,N'.kid,λk' hk=>(S.nok.hidD k' hk).lose (dne k' hk),λk' hk=>(S.nok.hidK k' hk).lose (kne k' hk),N'.off,N'.disD,N'.disK,N'.new,N'.kdl⟩,λk' hk'=>?_,⟨t,t',jq D λob e=>?_⟩,S.handO,⟨m,k _ _ (nj (qG (by simp)) eo) eo⟩,S.outH.lose (nj (qG (by simp)) eo),S.outK,S.adH⟩
 ·(refine jw (S.adk k' hk') ?_;intro A ob)
  refine⟨A.at λo e=>k _ _ (nj ?_ e) e,ob⟩
  (refine jc A ?_;clear A;rintro kvs ⟨o',es,ep,e',_,e'',_⟩ _)
  rw [e']at e;(have q_:=oi e;clear e;subst q_)
  exact qG (by rw [e''];simp)
 ·(refine Jx D ?_;clear D;rintro o' es ep e' ⟨ec,_⟩ e'' _)
  rw [e']at e;(have q_:=oi e;clear e;subst q_)
  exact k _ _ (nj (qG (by rw [e''];simp)) e') e'
end
noncomputable def GrJ(c:Ct)(g s:Qi)(h0:QU)(dp:Nat->Nat)(ln:Nat->List Nat)(tl:Option (List Nat))(hd o:Qk)(y12:Option AV)(n0:Nd)(vs:Array Qm)(I J l:Qk)(k:Nat)(s₁:Qi):Prop:=∃i nd ad Y' y8 y9 y10 y11 old h' tk',k=6-i/\i<=5/\s₁={ s with heap:=h',toks:=tk' }/\nd 0=n0/\GS (c.up c.X (sgG dp ln tl nd hd o i y8 y9 y10 y11 y12)) Y' g h0 dp ln tl hd o i nd ad s₁/\IsEnum h' I J i old/\h'.IsListIter J l i/\h'.IsList l vs/\HidOk c Y' g I/\HidOk c Y' g J/\∀j,j<i+1->l≠(nd j).k
section
variable {c:Ct} {g s:Qi} {h0:QU} {dp:Nat->Nat} {ln:Nat->List Nat} {tl:Option (List Nat)} {hd o:Qk}
theorem KE{n:Nat}{E:Qe}{Q:Flow->Qi->Prop}{body:List XM}{nd0:Nat->Nd}{ad0:Nat->Qk}{Y0:List Qk}{y8 y9 y10 y11 y12:Option AV}{a1 a2 a3 a4 a5 a6 a7:Pos}{k:Nat}(G:Gd c n (mg c.w) (mb c.w))(V:Vars c)(hX:c.X=[])(hv:c.vars=xj)(hge:c.env.kindOf "enumerate"=Qf .globalImplicit)
  (hσ:c.σ=sgG dp ln tl nd0 hd o 0 y8 y9 y10 y11 y12) (S0:GS c Y0 g h0 dp ln tl hd o 0 nd0 ad0 s) (hturn:TurnOk c g h0 dp ln tl hd o body)
  (h:∀nd ad Y' y8' y9' y10' y11' s',nd 0=nd0 0->GS (c.up c.X (sgG dp ln tl nd hd o 5 y8' y9' y10' y11' y12)) Y' g h0 dp ln tl hd o 5 nd ad s'->(∃h' tk,s'={ s with heap:=h',toks:=tk })->Q .next s')
  (he:eval (.Call (.Name "enumerate" a4) [.Name "lines" a5] [] a6) c.env=(do VL a6 (<-eval (.Name "enumerate" a4) c.env) [] (VO a6 (Qv [.Name "lines" a5] c.env)) (VE a6 (V3 [] c.env))):=by rfl)
  (hs:Qv [.Name "lines" a5] c.env=[(false,eval (.Name "lines" a5) c.env)]:=by rfl)
  (hf:∀x,QN (.Call (.Name "enumerate" a4) [.Name "lines" a5] [] a6) c.env x=pure x:=by intro _;rfl) :
  Qo c.M c.A (exec (.For (.Tuple [.Name "place" a1,.Name "line" a2] k a3) (.Call (.Name "enumerate" a4) [.Name "lines" a5] [] a6) body [] a7) c.env) Q E s:=by
 have hkf:=S0.fm.kind
 have vi:∀(j:Nat) (x:Qd),xj[j]?=Qf x->c.vars[j]?=Qf x:=λj x e=>by rw [hv];exact e
 have qe:PE c (.Name "enumerate" a4) (.raw (.type "enumerate")):=.blt G (by show mg c.w "enumerate"=_;exact J8 _) (J1 _) hge (by decide)
 have ql:PE c (.Name "lines" a5) (lnL ln):=.var 1 hkf (vi 1 _ rfl) (by rw [hσ];rfl) (by decide) (by decide)
 refine wpAny_For ?_ hf
 rw [he,hs]
 refine Qh (qe.use (S0.fm.at S0.tk) λv s₁ k₁ x₁ r₁=>?_)
 obtain rfl:=jb r₁
 refine X7 (first:=[]) rfl (je rfl (Qq (ql.use x₁ λu s₂ k₂ x₂ r₂=>QK ?_)))
 (refine JM (jY r₂) ?_;rintro l vs nl rfl ho hr)
 have hz:vs.size=5:=by have:=hr.length;simpa using this
 refine call_enumerate_list ⟨_,j9 ho,rfl,nl,rfl⟩ λh' hen hit hz2 hk=>YI hen ?_
 have hlv:l∉c.X++c.Yf Y0:=λm=>by unfold hid at ho;rw [if_pos m]at ho;exact no1 ho
 have ol:Off c l:=⟨λq=>hlv (Q7 _ (q▸.head _)),λq=>hlv (Q7 _ (.tail _ (Q8 _ q)))⟩
 have hlk:l≠(nd0 0).k:=λq=>hlv (q▸Q7 _ (.tail _ (Q7 _ (S0.nok.hidK 0 (by decide)).mem)))
 have hL:h'.IsList l vs:=⟨_,hk _ _ (j9 ho),rfl,nl,rfl⟩
 have dead:∀b,s₂.heap.objs.size<=b->s₂.heap.get? b=none:=λb hb=>X5 hb
 (refine jn (ktr k₁ k₂) ?_;rintro h2 tk2 rfl kk2)
 have ht2:1<=tk2:=x₂.tk
 have hr':=hr
 have f2:Fm c Y0 g { s with heap:=h2,toks:=tk2 }:=S0.fm.keeps ⟨h2,tk2,rfl,kk2⟩
 change IsEnum h' (h2.objs.size+1) h2.objs.size 0 .none at hen
 change h'.IsListIter h2.objs.size l 0 at hit
 have dI:=dead (h2.objs.size+1) (YO _)
 have dJ:=dead h2.objs.size (Vr _)
 have hIJ:h2.objs.size+1≠h2.objs.size:=Nat.succ_ne_self _
 show Zq (model c.prog c.w) c.A (.forLoop _ (.ref (h2.objs.size+1)) _ _ _) _ { s with heap:=h',toks:=tk2 }
 generalize h2.objs.size+1=I at hen dI hIJ ⊢
 generalize h2.objs.size=J at hen hit dJ hIJ
 have fI:Fm c ([I,J]++Y0) g { s with heap:=h',toks:=tk2 }:=f2.evoL (M:=[]) (W:=[I,J]) (λm hm=>nomatch hm) (λm hm=>nomatch hm) (λb o _ e=>hk b o e) λb hb=>by
  simp only [QD,QG,or_false]at hb
  rcases hb with rfl | rfl
  ·exact⟨dI,_,hen⟩
  ·(refine jc hit ?_;intro o e _);exact⟨dJ,o,e⟩
 have HI:HidOk c ([I,J]++Y0) g I:=HidOk.new f2 (.head _) dI
 have HJ:HidOk c ([I,J]++Y0) g J:=HidOk.new f2 (.tail _ (.head _)) dJ
 have S1:GS (c.up c.X (sgG dp ln tl nd0 hd o 0 y8 y9 y10 y11 y12)) ([I,J]++Y0) g h0 dp ln tl hd o 0 nd0 ad0 { s with heap:=h',toks:=tk2 }:=by
  have e:c.up c.X (sgG dp ln tl nd0 hd o 0 y8 y9 y10 y11 y12)=c:=by rw [<-hσ]
  exact S0.keep [I,J] (by rw [e];exact fI) ht2 (S0.tab.keeps λb o q=>hk _ _ (kk2 _ _ q)) λb o _ _ _ q=>hk _ _ (kk2 _ _ q)
 have lk0:∀j,j<0+1->l≠(nd0 j).k:=λj hj=>by
  cases j with
  | zero=>exact hlk
  | succ j=>lia
 refine YX (GrJ c g s h0 dp ln tl hd o y12 (nd0 0) vs I J l) ?_ 6 (i11_11 0 nd0 ad0 ([I,J]++Y0) y8 y9 y10 y11 .none h' tk2 rfl (by decide) rfl rfl S1 hen hit hL HI HJ lk0)
 (intro k s₁ q_;refine e11_11 q_ ?_;clear q_;rintro i nd ad Y' y8 y9 y10 y11 old h3 tk3 rfl hi rfl e0 S en it lL HI HJ lk)
 have nIt:∀ {b:Qk} {ob:Obj},¬Itk ob->h3.get? b=Qf ob->b≠I/\b≠J:=λ{b ob} q e=>⟨λq'=>q (enum_itk en (q'▸e)),λq'=>q (J5 it (q'▸e))⟩
 by_cases hlt:i<5
 ·have hx:vs[i]?=Qf vs[i]:=VY (by exact JI ‹_› ‹_›)
  (refine jc (hr.get (i:=i) (a:=.str (tx (ln i))) (by rw [Qx,Qx,VQ hlt];rfl)) ?_;intro u hu ru)
  have hu':u=vs[i]:=by rw [Vi,hx]at hu;exact(oi hu).symm
  (refine jd (jj ru) ?_;rintro tu rfl)
  refine wpAny_pyNext_enum_item en it lL hx hIJ λh4 en4 it4 hT4 hz4 hk4=>?_
  have f4:=S.fm.evoL (M:=[I,J]) (W:=[]) (h':=h4) (tk:=tk3+1) (λm hm=>by
   simp only [QD,QG,or_false]at hm
   rcases hm with rfl | rfl
   ·exact HI.up
   ·exact HJ.up) (λm hm=>by
   simp only [QD,QG,or_false]at hm
   rcases hm with rfl | rfl
   ·exact⟨_,en4⟩
   ·(refine jc it4 ?_;intro ob e _);exact⟨ob,e⟩) (λb ob hb e=>hk4 b ob (λq=>hb (q▸.head _)) (λq=>hb (q▸.tail _ (.head _))) e) (λb hb=>nomatch hb)
  have tq4:h4.get? h3.objs.size=Qf { cls:=.type "tuple",data:=.seq #[.int i tk3,vs[i]] }:=hT4
  refine wpAny_letOwnedTupleGo_enum en4 λh5 en5 sb5=>?_
  have f5:=f4.but1 (h':=h5) (tk:=tk3+1) HI.up ⟨_,en5⟩ sb5
  have k35:∀b ob,b≠I->b≠J->h3.get? b=Qf ob->h5.get? b=Qf ob:=λb ob n1 n2 e=>(sb5.2 b n1).trans (hk4 b ob n1 n2 e)
  have S5:=S.keep (s':={ s with heap:=h5,toks:=tk3+1 }) (W:=[]) (σ':=sgG dp ln tl nd hd o i y8 y9 y10 y11 y12) f5 (Vn _) (S.tab.keepI λb ob ni e=>k35 b ob (nIt ni e).1 (nIt ni e).2 e) λb ob _ _ ni e=>k35 b ob (nIt ni e).1 (nIt ni e).2 e
  have it5:h5.IsListIter J l (i+1):=by(refine jc it4 ?_;intro ob e r);exact⟨ob,(sb5.2 J hIJ.symm).trans e,r⟩
  have nlI:l≠I/\l≠J:=by obtain⟨ob,e,ec,nn,ed⟩:=lL;exact nIt (qG (by rw [ed];simp)) e
  have l5:h5.IsList l vs:=by(refine jc lL ?_;intro ob e r);exact⟨ob,k35 _ _ nlI.1 nlI.2 e,r⟩
  have TT:TA (c.up c.X (sgG dp ln tl nd hd o i y8 y9 y10 y11 y12)) (.Tuple [.Name "place" a1,.Name "line" a2] k a3) (.tup [.int i,.str (tx (ln i))]) (sgG dp ln tl nd hd o i (Qf (.int i)) (Qf (.str (tx (ln i)))) y10 y11 y12) :=
   TA.tup (c:=c.up c.X (sgG dp ln tl nd hd o i y8 y9 y10 y11 y12)) V.up G.room.1 (.cons 8 (vi 8 _ rfl) (.cons 9 (vi 9 _ rfl) .nil))
  have nT:∀y∈c.X++c.Yf Y',y≠h3.objs.size:=λy hy q=>by
   (refine jd (S.fm.live y hy) ?_;intro ob e)
   exact absurd (jg e) (by rw [q];exact XT _)
  have rT:Rep (hid (c.X++c.Yf Y') h5) (.tup [.int i,.str (tx (ln i))]) (.ref h3.objs.size):=by
   show Exists _
   exact⟨_,_,_,0,rfl,jl ((sb5.2 _ (λq=>nT I (Q7 _ (.tail _ (Q7 _ HI.mem))) q.symm)).trans tq4) (λm=>nT _ m rfl),rfl,rfl,.cons v7 (.cons (hu'▸vq) .nil)⟩
  refine QB (n:=1) (Vn _) (TT g { s with heap:=h5,toks:=tk3+1 } _ _ _ f5 rT λs6 g6 f6 ht6=>?_)
  have kp6:∀b ob,Off c b->h5.get? b=Qf ob->s6.heap.get? b=Qf ob:=λb ob o1 e=>g6.get b ob (λm=>by
   unfold Own at m
   rw [show(c.up c.X (sgG dp ln tl nd hd o i y8 y9 y10 y11 y12)).X=[]from hX]at m
   rcases Qb m with m | m
   ·exact o1.1 m
   ·exact o1.2 m) e
  have S6:=S5.st f6 ht6 kp6
  (refine jn g6 ?_;clear g6;rintro h6 tk6 rfl _)
  have oI:=HI.off
  have oJ:=HJ.off
  have en6:h6.get? I=_:=kp6 I _ oI en5
  refine Qz (hturn i nd ad Y' _ _ y10 y11 y12 hlt S6) (λfl s7 q=>?_) λ_ _ y=>y
  (refine jw q ?_;intro efl q;refine e5_5 q ?_;intro nd' ad' W y10' y11' eqs S7 kp7 eq7 lk7)
  subst efl
  (refine jN eq7 ?_;clear eq7;rintro h7 tk7 rfl)
  have tI:I≠171:=qm S6.tab en6 (by simp)
  have nkk:∀ {b:Qk} {ob:Obj},h6.get? b=Qf ob->(∀vs m,ob.data≠.seq vs m)->∀j,j<i+1->b≠(nd j).k:=λ{b ob} e n j hj=>by
   (refine jd (S6.nok.kid j hj) ?_;intro m q)
   exact kR e q (n _ _)
  (refine ye it5 ?_;intro oj ej cj dj)
  have ej6:=kp6 J oj oJ ej
  obtain⟨ol',el,cl,nl',dl⟩:=l5
  have el6:=kp6 l ol' ol el
  refine⟨6-(i+1),by exact zr1 ‹_›,i11_11 (i+1) nd' ad' (W++Y') (Qf (.int i)) (Qf (.str (tx (ln i)))) y10' y11' (vs[i]) h7 tk7 rfl (by assumption) rfl ((eqs 0 (by exact Vn _)).trans e0) S7 ?_ ⟨oj,kp7 J oj oJ (qm S6.tab ej6 (by rw [cj];simp)) (nkk ej6 (by rw [dj];simp)) ej6,cj,dj⟩ ⟨ol',kp7 l ol' ol (qm S6.tab el6 (by rw [cl];simp)) lk el6,cl,nl',dl⟩ (HI.more W) (HJ.more W) (λj hj=>?_)⟩
  ·have:=kp7 I _ oI tI (nkk en6 (by simp)) en6
   show h7.get? I=_
   rw [this];push_cast;rfl
  ·by_cases q:j=i+1
   ·subst q;exact lk7 l ol' ol el6
   ·rw [eqs j (by exact zr5 ‹_› ‹_›)];exact lk j (by exact zr5 ‹_› ‹_›)
 ·obtain rfl:i=5:=by exact zr4 ‹_› ‹_›
  refine wpAny_pyNext_enum_end G.room.1 en it lL (Array.getElem?_eq_none (by exact zr32 ‹_› rfl)) λh4 hx4=>Vm ?_
  have S4:=S.lose (h':=h4) HJ.up (λob e=>J5 it e) λb ob n e=>hx4 b ob n e
  exact h nd ad _ y8 y9 y10 y11 _ e0 S4 ⟨h4,tk3,rfl⟩
end
section
variable {c:Ct} {Yc:List Qk} {g s:Qi}
theorem JS{E:Qe}{Q:Qi->Prop}{es:List Expr}{avs:List AV}{σ':List (Option AV)}{names:List Qd}{a:Qk}{vs:Array Qm}{n:Nat}(V:Vars c)(hh:c.A.handled=Qg)(hX:c.X=[])(f:Fm c Yc g s)(ht:1<=s.toks)(t:Tg c es.reverse avs.reverse c.σ σ')(hT:s.heap.get? a=Qf { cls:=.type "tuple",data:=.seq vs n })(hr:Reps (hid (c.X++c.Yf Yc) s.heap) avs vs.toList)
  (k:∀s',Fm (c.up c.X σ') Yc g s'->1<=s'.toks->(∀b o,Off c b->s.heap.get? b=Qf o->s'.heap.get? b=Qf o)->(∃h' tk,s'={ s with heap:=h',toks:=tk })->Q s')
  (hn:(es.reverse.map nmE)=names.reverse) (hl:names.length=avs.length) :
  Qo c.M c.A (unpackItems (.ref a) names.length Qg) (λitems s₂=>Qo c.M c.A (assignInOrder (names.reverse.map λn=>bindName c.env n) items.reverse) (λ_=>Q) E s₂) E s:=by
 have e:names.length=vs.size:=by rw [hl,<-hr.length];simp
 rw [e]
 refine wpAny_unpackItems_tuple hh ⟨_,hT,rfl,n,rfl⟩ λh' hx=>?_
 have kk:Vb s { s with heap:=h' }:=ja λb o e=>hx b o (QR (Vo e)) e
 refine QB (n:=1) ht (t.goR V hn (f.keeps kk) ((hr.mono (ju (jr kk))).rev) λs' gr f' ht'=>k s' f' ht' (λb o o1 e=>?_) ?_)
 ·refine gr.get b o (λm=>?_) (hx b o (QR (Vo e)) e)
  unfold Own at m
  rw [hX]at m
  rcases Qb m with m | m
  ·exact o1.1 m
  ·exact o1.2 m
 ·(refine jn gr ?_;clear gr;rintro h2 tk2 rfl _);exact⟨h2,tk2,rfl⟩
theorem xf{p:Pos}{t:Sem Qm}{l:List (Bool×Sem Qm)}:VO p ((false,t)::l)=(false,t)::VO p l:=rfl
theorem yj{p:Pos}:VO p []=[]:=rfl
noncomputable abbrev s0g(dps lns tl:AV):List (Option AV):=[Qf dps,Qf lns,Qf tl,Qg,Qg,Qg,Qg,Qg,Qg,Qg,Qg,Qg,Qg]
theorem zb{E:Qe}{Q:Qe}{Y:List Qk}{e:Expr}{f:Qk}{p1 p2 p3 p4:Pos}{k:Nat}(x:c.At Y s)(q:PE c e (.raw (.ref f)))
  (h:∀la lb o T h' tk,1<=tk->s.heap.get? la=Qg->s.heap.get? lb=Qg->s.heap.get? o=Qg->la≠o->lb≠o->(∃m,h'.get? la=Qf (kT #[.ref f] m))->(∃m,h'.get? lb=Qf (kT #[] m))->(∃m,h'.get? o=Qf (kT #[] m))->(∃m,h'.get? T=Qf { cls:=.type "tuple",data:=.seq #[.ref la,.ref lb,.ref o] m })->(∀b ob,s.heap.get? b=Qf ob->h'.get? b=Qf ob)->Q (.ref T) { s with heap:=h',toks:=tk })
  (hs1:Qv [e] c.env=[(false,eval e c.env)]:=by rfl):Qo c.M c.A (eval (.Tuple [.List [e] p1,.List [] p2,.List [] p3] k p4) c.env) Q E s:=by
 refine Tuple_ (Qq (List_ ?_))
 rw [hs1]
 refine Qq (q.use x λv s1 j1 x1 r1=>QK (V1 ?_ (by show 1<=Qt;decide)))
 obtain rfl:=jb r1
 (refine jn j1 ?_;clear j1;rintro h1 tk1 rfl kk1)
 refine Qq (List_ (QK (V1 ?_ (Vj _))))
 refine Qq (List_ (QK (V1 ?_ (Vj _))))
 refine QK (V1 ?_ (by show 3<=Qt;decide))
 have P:∀ {h:QU} {o:Obj} {b:Qk} {ob:Obj},h.get? b=Qf ob->(h.push o).get? b=Qf ob:=λe=>j7 _ _ e
 have dd:∀ {b:Qk},h1.objs.size<=b->s.heap.get? b=none:=λ{b} hb=>by
  cases q:s.heap.get? b with
  | none=>rfl
  | some o=>exact absurd (jg (kk1 _ _ q)) (VS.mpr hb)
 have z1:(h1.push (kT #[.ref f] 0)).objs.size=h1.objs.size+1:=by rw [Xn]
 have z2:((h1.push (kT #[.ref f] 0)).push (kT #[] 0)).objs.size=h1.objs.size+2:=by rw [Xn,z1]
 have n1:h1.objs.size≠((h1.push (kT #[.ref f] 0)).push (kT #[] 0)).objs.size:=by lia
 have n2:(h1.push (kT #[.ref f] 0)).objs.size≠((h1.push (kT #[.ref f] 0)).push (kT #[] 0)).objs.size:=by lia
 exact h h1.objs.size (h1.push (kT #[.ref f] 0)).objs.size ((h1.push (kT #[.ref f] 0)).push (kT #[] 0)).objs.size _ ((((h1.push (kT #[.ref f] 0)).push (kT #[] 0)).push (kT #[] 0)).push _) tk1 x1.tk (dd (Vr _)) (dd (by rw [z1];exact XW _ _)) (dd (by rw [z2];exact XW _ _)) n1 n2
  ⟨0,P (P (P (Qs _ rfl)))⟩ ⟨0,P (P (Qs _ rfl))⟩ ⟨0,P (Qs _ rfl)⟩ ⟨0,Qs _ rfl⟩ λb ob e=>P (P (P (P (kk1 _ _ e))))
theorem rep_tl{G:Lk}{tl:Option (List Nat)}{v:Qm}(h:Rep G (kH tl) v):∀G',Rep G' (kH tl) v:=λG'=>by
 cases tl with
 | none=>exact h
 | some t=>exact h
theorem yo(tl:Option (List Nat)):yy (kH tl):=by cases tl<;>rfl
noncomputable abbrev sg'(c:Ct)(root hd:Qk):List (Option AV):=(c.σ.set 4 (Qf (.raw (.ref hd)))).set 3 (Qf (.raw (.ref root)))
theorem zu{n:Nat}{E:Qe}{R:Flow->Qi->Prop}{rest:List XM}{dp:Nat->Nat}{ln:Nat->List Nat}{tl:Option (List Nat)}{h0:QU}
  {p1 p2 p3 p4 p5 p6 p7 p8 p9 p10 p11 p12 p13 p14 p15 p16 q1 q2 q3 q4 r1 r2 r3 r4 r5 r6 r7 r8 r9 r10:Pos} {k1 k2 k3 k4 k5 k6 k7 k8 k9:Nat}
  {e0 ed:Expr} {S2 S3:XM} (eS2:S2=.Assign [.Attribute (.Name "root" q1) "tail" q2] (.Name "tail" q3) q4) (eS3:S3=.Assign [.Tuple [.Name "trail" r1,.Name "grown" r2,.Name "out" r3] k8 r10] (.Tuple [.List [.Name "root" r4] r5,.List [] r6,.List [] r7] k9 r8) r9) (he0:e0=.Dict [] [] p5) (hed:ed=.Dict [Qf (.Constant (.str "kind") k3 p7),Qf (.Constant (.str "place") k4 p8)] [.Constant (.str "line") k5 p9,.UnaryOp .USub (.Constant (.int 1) k6 p10) p11] p12)
  (hB:c.B=Bh c.w) (G:Gd c (n+3) (mg c.w) (mb c.w)) (V:Vars c) (hX:c.X=[]) (hv:c.vars=xj) (hgl:c.env.kindOf "_law_node"=Qf .globalImplicit) (hσ:c.σ=s0g (dpL dp) (lnL ln) (kH tl)) (f:Fm c Yc g s) (ht:1<=s.toks) (H1:HidOk c Yc g 171) (Tb:TabOk s.heap) (hG:∀b ob,h0.get? b=Qf ob->b=171∨∃o',g.heap.get? b=Qf o')
  (h:∀nd ad hd o Y' s',(hd==Vc)=false->GS (c.up c.X (sgG dp ln tl nd hd o 0 Qg Qg Qg Qg Qg)) Y' g h0 dp ln tl hd o 0 nd ad s'->(∃h' tk,s'={ s with heap:=h',toks:=tk })->Qo c.M c.A (execs rest c.env) R E s')
  (he:eval (.Call (.Name "_law_node" p3) [.Constant (.str "page") k2 p4,e0] [] p6) c.env=(do VL p6 (<-eval (.Name "_law_node" p3) c.env) [] (VO p6 (Qv [.Constant (.str "page") k2 p4,e0] c.env)) (VE p6 (V3 [] c.env))):=by rfl)
  (hst2:Qv [.Call (.Name "_law_node" p3) [.Constant (.str "page") k2 p4,e0] [] p6,ed] c.env=[(false,eval (.Call (.Name "_law_node" p3) [.Constant (.str "page") k2 p4,e0] [] p6) c.env),(false,eval ed c.env)]:=by rfl)
  (hst:Qv [.Constant (.str "page") k2 p4,e0] c.env=[(false,eval (.Constant (.str "page") k2 p4) c.env),(false,eval (e0) c.env)]:=by rfl)
  (hs1:XC [.Tuple [.Name "root" p1,.Name "handed" p2] k1 p16] (.Tuple [.Call (.Name "_law_node" p3) [.Constant (.str "page") k2 p4,e0] [] p6,ed] k7 p13) p14.line c.env=pure false:=by rfl)
  (hw1:Xl [.Tuple [.Name "root" p1,.Name "handed" p2] k1 p16] (.Tuple [.Call (.Name "_law_node" p3) [.Constant (.str "page") k2 p4,e0] [] p6,ed] k7 p13) c.env=pure (Qf (["root","handed"]:List Qd)):=by rfl)
  (hs2:VU (.Name "tail" q3) (Qf (.Attribute (.Name "root" q1) "tail" q2)) q4.line c.env=pure false:=by rfl)
  (hs3:XC [.Tuple [.Name "trail" r1,.Name "grown" r2,.Name "out" r3] k8 r10] (.Tuple [.List [.Name "root" r4] r5,.List [] r6,.List [] r7] k9 r8) r9.line c.env=pure false:=by rfl)
  (hw3:Xl [.Tuple [.Name "trail" r1,.Name "grown" r2,.Name "out" r3] k8 r10] (.Tuple [.List [.Name "root" r4] r5,.List [] r6,.List [] r7] k9 r8) c.env=pure (Qf (["trail","grown","out"]:List Qd)):=by rfl) :
  Qo c.M c.A (execs (.Assign [.Tuple [.Name "root" p1,.Name "handed" p2] k1 p16] (.Tuple [.Call (.Name "_law_node" p3) [.Constant (.str "page") k2 p4,e0] [] p6,ed] k7 p13) p14 ::
   S2 ::
   S3::rest) c.env) R E s:=by
 have hkf:=f.kind
 have vi:∀(j:Nat) (x:Qd),xj[j]?=Qf x->c.vars[j]?=Qf x:=λj x e=>by rw [hv];exact e
 have c2:2<=sizeLine:=by decide
 have c3:3<=sizeLine:=by decide
 refine QF (Assign_Tuple_swapped (Tuple_ ?_) hs1 hw1)
 rw [hst2]
 simp only [xf,yj]
 refine Qq ?_
 rw [he]
 refine Qh ((PE.glob G (g_node c.w) hgl (by decide)).use (f.at ht) λv s1 j1 x1 rr1=>?_)
 obtain rfl:=jb rr1
 refine VT (o:=o_186 c.w.params) (fd:=Q5 c.w) (je (by rw [hst];rfl) ?_)
 rw [hst]
 refine Qq ((PE.str (x:="page") (k:=k2) (pos:=p4)).use x1 λv2 s2 j2 x2 e2=>Qq (dnew0 he0 x2 λd0 h3 tk3 dd D0 kk3 ht3=>QK ?_))
 (refine jd (jj e2) ?_;rintro t0 rfl)
 (refine jn (ktr j1 j2) ?_;rintro h2 tk2 rfl kk2)
 have k03:∀b ob,s.heap.get? b=Qf ob->h3.get? b=Qf ob:=λb ob e=>kk3 _ _ (kk2 _ _ e)
 have x3:c.At (c.Yf Yc) { s with heap:=h3,toks:=tk3 }:=(f.at ht).mono (s':={ s with heap:=h3,toks:=tk3 }) k03 ht3
 have f3:Fm c Yc g { s with heap:=h3,toks:=tk3 }:=f.keeps ⟨h3,tk3,rfl,k03⟩
 refine⟨⟨x3.base _ _ (by rw [hB];exact b_176 _),rfl⟩,?_⟩
 refine Kf (w:=c.w) (n:=n+2) (X:=c.X++c.Yf Yc) G.room (λa ob e=>x3.base a ob (by rw [hB];exact e)) x3.live (Q7 _ (.tail _ (Q7 _ H1.mem))) ht3 (Tb.keeps k03) λnw h4 tk4 t4 ht4 kp4 T4 dead4 nod4 fix4 dic4 kl4=>?_
 have f4:Fm c ([nw.d,nw.k]++Yc) g { s with heap:=h4,toks:=tk4 }:=f3.evoL (M:=[171]) (λm hm=>by obtain rfl:=Q9 hm;exact H1) (λm hm=>by obtain rfl:=Q9 hm;(refine jc T4 ?_;intro ps e _);exact⟨_,e⟩) (λb ob hb e=>kp4 b ob (λq=>hb (q▸.head _)) e) λb hb=>by
  simp only [QD,QG,or_false]at hb
  rcases hb with rfl | rfl
  ·(refine JL dic4 ?_;intro es n _ _ e _);exact⟨dead4 _ (.tail _ (.head _)),_,e⟩
  ·(refine jd kl4 ?_;intro n e);exact⟨dead4 _ (.tail _ (.tail _ (.head _))),_,e⟩
 have Hd:HidOk c ([nw.d,nw.k]++Yc) g nw.d:=HidOk.new f3 (.head _) (dead4 _ (.tail _ (.head _)))
 have Hk:HidOk c ([nw.d,nw.k]++Yc) g nw.k:=HidOk.new f3 (.tail _ (.head _)) (dead4 _ (.tail _ (.tail _ (.head _))))
 refine Qq (KO hed (f4.at ht4) (.neg .int) (by decide) λhd h5 tk5 u5 u5' dh Dh kk5 ht5=>?_)
 have f5:Fm c ([nw.d,nw.k]++Yc) g { s with heap:=h5,toks:=tk5 }:=f4.keeps ⟨h5,tk5,rfl,kk5⟩
 have ohd:Off c hd:=f4.offNew dh
 refine QK (V1 ?_ (by show 2<=Qt;exact c2))
 have f6:=f5.keeps (s':={ s with heap:=h5.push { cls:=.type "tuple",data:=.seq #[.ref nw.f,.ref hd] },toks:=tk5 }) (ja j7)
 have offN:∀a∈[nw.f,nw.d,nw.k,nw.b,nw.g,nw.c],Off c a:=λa ha=>f3.offNew (dead4 a ha)
 refine JS (es:=[.Name "root" p1,.Name "handed" p2]) (names:=["root","handed"]) (avs:=[.raw (.ref nw.f),.raw (.ref hd)]) (σ':=sg' c nw.f hd) V G.room.1 hX f6 ht5 (show Tg c [.Name "handed" p2,.Name "root" p1] [.raw (.ref hd),.raw (.ref nw.f)] c.σ _ from .cons 4 (vi 4 _ rfl) (.cons 3 (vi 3 _ rfl) .nil)) (Qs _ rfl) (.cons vC (.cons vC .nil)) (λs7 f7 ht7 kp7 eq7=>?_) rfl rfl
 have e7:sg' c nw.f hd=[Qf (dpL dp),Qf (lnL ln),Qf (kH tl),Qf (.raw (.ref nw.f)),Qf (.raw (.ref hd)),Qg,Qg,Qg,Qg,Qg,Qg,Qg,Qg]:=by show(c.σ.set 4 _).set 3 _=_;rw [hσ];rfl
 rw [e7]at f7
 have q2:PE (c.up c.X [Qf (dpL dp),Qf (lnL ln),Qf (kH tl),Qf (.raw (.ref nw.f)),Qf (.raw (.ref hd)),Qg,Qg,Qg,Qg,Qg,Qg,Qg,Qg]) (.Name "tail" q3) (kH tl):=.var 2 hkf (vi 2 _ rfl) rfl (by decide) (by decide) (yo tl)
 have k47:∀b ob,Off c b->h4.get? b=Qf ob->s7.heap.get? b=Qf ob:=λb ob o1 e=>kp7 b ob o1 (j7 _ _ (kk5 _ _ e))
 subst eS2
 refine QF (Xx (q2.use (f7.at ht7) λv s8 j8 x8 rr8=>kr (c:=c.up c.X [Qf (dpL dp),Qf (lnL ln),Qf (kH tl),Qf (.raw (.ref nw.f)),Qf (.raw (.ref hd)),Qg,Qg,Qg,Qg,Qg,Qg,Qg,Qg]) 3 rfl hkf (vi 3 _ rfl) (by decide) (by decide) x8 λu ru=>?_) hs2)
 obtain rfl:=jb (ru.rep rfl)
 have k48:∀b ob,Off c b->h4.get? b=Qf ob->s8.heap.get? b=Qf ob:=λb ob o1 e=>jr j8 _ _ (k47 b ob o1 e)
 refine e4_3 (id dic4) ?_;intro es2 n2 u1 u2 d1 d2 d3
 (refine jd fix4.fo ?_;intro fd2 fo2)
 have P8:FnAt s8.heap nw.f nw.d nmN [.str "page" u1,.ref d0,.str "" u2,.str "" t4,.ref nw.k,.ref 176,.ref nw.b,.ref nw.g]:=⟨⟨fd2,k48 _ _ (offN _ (.head _)) fo2⟩,es2,n2,k48 _ _ (offN _ (.tail _ (.head _))) d1,d2,d3⟩
 have f8:=f7.keeps j8
 have T8:TabOk s8.heap:=((((T4.keeps kk5).keeps (j7 (o:={ cls:=.type "tuple",data:=.seq #[.ref nw.f,.ref hd] }))).storeG (s':=s7) f6 kp7 H1.off)).keeps (jr j8)
 refine J9 P8 3 rfl js (by decide) (.inr (.inr (.inr (.inl rfl)))) λh9 tk9 ht9 P9 sb9=>?_
 have f9:=f8.but1 (h':=h9) (tk:=tk9) Hd.up (let ⟨_,es,n,e,_⟩:=P9;⟨_,e⟩) sb9
 have eq8:∃h' tk,s8={ s with heap:=h',toks:=tk }:=by
  (refine jN eq7 ?_;clear eq7;rintro h' tk rfl)
  (refine jn j8 ?_;clear j8;rintro h'' tk' rfl _)
  exact⟨h'',tk',rfl⟩
 (refine jN eq8 ?_;clear eq8;rintro h8 tk8 rfl)
 have T9:TabOk h9:=T8.but (M:=[nw.d]) (λb ob hb e=>(sb9.2 b λq=>hb (q▸.head _)).trans e) (λm=>by
  (refine jc T8 ?_;intro ps e _)
  obtain⟨_,es,n,e',_⟩:=P8
  exact kR e e' (by simp) (Q9 m)) λm hm ob vs e q=>by
   obtain rfl:=Q9 hm
   obtain⟨_,es,n,e',_⟩:=P8
   rw [e']at e;(have q_:=oi e;clear e;subst q_);cases q
 have k49:∀b ob,Off c b->b≠nw.d->h4.get? b=Qf ob->h9.get? b=Qf ob:=λb ob o1 n1 e=>(sb9.2 b n1).trans (k48 b ob o1 e)
 have k59:∀b ob,Off c b->b≠nw.d->h5.get? b=Qf ob->h9.get? b=Qf ob:=λb ob o1 n1 e=>(sb9.2 b n1).trans (jr j8 _ _ (kp7 b ob o1 (j7 _ _ e)))
 have r8':=rr8
 clear P8 f8 T8 j8 x8 kp7 eq7 ht7 f7 k47 k48 sb9
 have q4:PE (c.up c.X [Qf (dpL dp),Qf (lnL ln),Qf (kH tl),Qf (.raw (.ref nw.f)),Qf (.raw (.ref hd)),Qg,Qg,Qg,Qg,Qg,Qg,Qg,Qg]) (.Name "root" r4) (.raw (.ref nw.f)):=.var 3 hkf (vi 3 _ rfl) rfl (by decide) (by decide)
 have hd4:h4.get? hd=none:=dh
 have nhd:hd≠nw.d:=λq=>by rw [q,d1]at hd4;exact no2 hd4
 have Dh9:h9.DictOf (kS c) hd (hK u5 u5'):=by
  (refine yY Dh ?_;intro ob es ep e r)
  exact⟨ob,es,ep,k59 hd ob ohd nhd e,r⟩
 subst eS3
 refine QF (Assign_Tuple_swapped (zb (c:=c.up c.X [Qf (dpL dp),Qf (lnL ln),Qf (kH tl),Qf (.raw (.ref nw.f)),Qf (.raw (.ref hd)),Qg,Qg,Qg,Qg,Qg,Qg,Qg,Qg]) (f9.at ht9) q4 λla lb o T h10 tk10 ht10 dla dlb dlo no1 no2 ela elb eo eT kk10=>?_) hs3 hw3)
 have f10:Fm (c.up c.X [Qf (dpL dp),Qf (lnL ln),Qf (kH tl),Qf (.raw (.ref nw.f)),Qf (.raw (.ref hd)),Qg,Qg,Qg,Qg,Qg,Qg,Qg,Qg]) ([o]++([nw.d,nw.k]++Yc)) g { s with heap:=h10,toks:=tk10 }:=f9.evoL (M:=[]) (W:=[o]) (λm hm=>nomatch hm) (λm hm=>nomatch hm) (λb ob _ e=>kk10 _ _ e) λb hb=>by
  obtain rfl:=Q9 hb
  (refine jd eo ?_;intro m e);exact⟨dlo,_,e⟩
 have Ho:HidOk c ([o]++([nw.d,nw.k]++Yc)) g o:=(HidOk.new (W:=[o]) f9 (.head _) dlo).dn
 have vis:∀ {a:Qk},h9.get? a=Qg->a≠o->a∉c.X++c.Yf ([o]++([nw.d,nw.k]++Yc)):=λ{a} e n m=>by
  have:a∈c.X++c.Yf ([nw.d,nw.k]++Yc):=by
   rcases Qa m with m | m
   ·exact Q8 _ m
   ·rcases Qb m with m | m
    ·exact Q7 _ (m▸.head _)
    ·rcases Qa m with m | m
     ·exact Q7 _ (.tail _ (Q8 _ m))
     ·rcases Qa m with m | m
      ·exact absurd (Q9 m) n
      ·exact Q7 _ (.tail _ (Q7 _ m))
  (refine jd (f9.live a this) ?_;intro ob e')
  rw [show h9.get? a=Qf ob from e']at e;cases e
 (refine jd eT ?_;intro mT eT)
 (refine jd ela ?_;intro ma ea)
 (refine jd elb ?_;intro mb eb)
 (refine jd eo ?_;intro mo eo)
 have rr:Reps (hid (c.X++c.Yf ([o]++([nw.d,nw.k]++Yc))) h10) [.list [.raw (.ref nw.f)],.list [],.raw (.ref o)] [.ref la,.ref lb,.ref o]:=by
  refine .cons ?_ (.cons ?_ (.cons vC .nil))
  ·show Exists _;exact⟨la,_,ma,rfl,jl ea (vis dla no1),.cons vC .nil⟩
  ·show Exists _;exact⟨lb,_,mb,rfl,jl eb (vis dlb no2),.nil⟩
 refine JS (c:=c.up c.X [Qf (dpL dp),Qf (lnL ln),Qf (kH tl),Qf (.raw (.ref nw.f)),Qf (.raw (.ref hd)),Qg,Qg,Qg,Qg,Qg,Qg,Qg,Qg]) (es:=[.Name "trail" r1,.Name "grown" r2,.Name "out" r3]) (names:=["trail","grown","out"]) (avs:=[.list [.raw (.ref nw.f)],.list [],.raw (.ref o)]) (σ':=sg (dpL dp) (lnL ln) (kH tl) nw.f hd (.list [.raw (.ref nw.f)]) (.list []) o Qg Qg Qg Qg Qg) V.up G.room.1 hX f10 ht10
  (show Tg _ [.Name "out" r3,.Name "grown" r2,.Name "trail" r1] [.raw (.ref o),.list [],.list [.raw (.ref nw.f)]] [Qf (dpL dp),Qf (lnL ln),Qf (kH tl),Qf (.raw (.ref nw.f)),Qf (.raw (.ref hd)),Qg,Qg,Qg,Qg,Qg,Qg,Qg,Qg] _ from .cons 7 (vi 7 _ rfl) (.cons 6 (vi 6 _ rfl) (.cons 5 (vi 5 _ rfl) .nil))) eT rr (λs11 f11 ht11 kp11 eq11=>?_) rfl rfl
 have T10:TabOk h10:=T9.keeps kk10
 have T11:TabOk s11.heap:=T10.storeG (s':=s11) f10 kp11 H1.off
 have k9:∀b ob,Off c b->h9.get? b=Qf ob->s11.heap.get? b=Qf ob:=λb ob o1 e=>kp11 b ob o1 (kk10 _ _ e)
 have k4:∀b ob,Off c b->b≠nw.d->h4.get? b=Qf ob->s11.heap.get? b=Qf ob:=λb ob o1 n1 e=>k9 b ob o1 (k49 b ob o1 n1 e)
 have nseq:∀ {b:Qk} {ob:Obj},h4.get? b=Qf ob->(∀es n,ob.data≠.dict es n)->b≠nw.d:=λ{b ob} e n1=>kR e d1 (n1 _ _)
 (refine jd kl4 ?_;intro mk ek)
 have ek9:=k49 _ _ Hk.off (nseq ek (by simp)) ek
 have fix11:NdFix c.w s11.heap nw:=by
  obtain⟨⟨fd,q1⟩,q2,⟨cv,ctv,q3,_⟩,oc,q5,q6⟩:=id fix4
  refine fix4.at (λb hb ob e=>k4 b ob (offN b (by simp at hb ⊢;rcases hb with h | h | h | h<;>simp [h])) (nseq e λes n q=>?_) e) λb ob vs q e=>k4 b ob (f4.offFields e q) (nseq e λes n q'=>by rw [q]at q';cases q') e
  simp only [QD,QG,or_false]at hb
  rcases hb with rfl | rfl | rfl | rfl
  ·rw [q1]at e;(have q_:=oi e;clear e;subst q_);cases q
  ·rw [q2]at e;(have q_:=oi e;clear e;subst q_);cases q
  ·rw [q3]at e;(have q_:=oi e;clear e;subst q_);cases q
  ·rw [q5]at e;(have q_:=oi e;clear e;subst q_);rw [q6]at q;cases q
 have P11:=P9.at (h':=s11.heap) λb hb ob e=>k9 b ob (by rcases hb with rfl | rfl<;>exact offN _ (by simp)) e
 have rv:=rep_tl r8'
 refine h (λ_=>nw) (λ_=>d0) hd o ([o]++([nw.d,nw.k]++Yc)) s11 ?_ ⟨f11,ht11,⟨Q7 _ (Q7 _ H1.mem),H1.dead,H1.nl,H1.nc⟩,T11,?_,λk hk=>absurd hk (Nat.not_lt_zero _),⟨u5,u5',jq Dh9 λob e=>k9 hd ob ohd e⟩,ohd,⟨mo,kp11 o _ Ho.off eo⟩,Ho.up,λj _=>?_,λk hk=>absurd hk (Nat.not_lt_zero _)⟩ eq11
 ·exact qY (w:=c.w) (h:=h4) (λa ob e=>(f4.at ht4).base a ob (by rw [hB];exact e)) hd4
 ·refine NOk.up ⟨λk hk=>fix11,λk hk=>?_,λk hk=>?_,λk hk=>Hd.more [o],λk hk=>Hk.more [o],λk hk a ha=>offN a (by simp at ha ⊢;rcases ha with h | h | h | h<;>simp [h]),λk j hk hj ne=>absurd (by lia) ne,λk j hk hj ne=>absurd (by lia) ne,λk hk a ha=>?_,λk hk j hj=>?_⟩
  ·obtain rfl:k=0:=by exact YE ‹_›
   obtain⟨_,es,n,e1,e2,e3⟩:=P11
   exact⟨v,⟨es,n,u1,u2,e1,e2,by rw [e3];show _=[Value.str "page" u1,.ref d0,.str (tx []) u2,v,.ref nw.k,.ref 176,.ref nw.b,.ref nw.g];rw [<-str0];rfl⟩,rv⟩
  ·obtain rfl:k=0:=by exact YE ‹_›
   exact⟨mk,k9 _ _ Hk.off ek9⟩
  ·have da:h3.get? a=none:=dead4 a (by simp at ha ⊢;rcases ha with h | h | h<;>simp [h])
   cases q:h0.get? a with
   | none=>rfl
   | some ob =>
    rcases hG a ob q with rfl | ⟨o',e'⟩
    ·(refine jc Tb ?_;intro ps e _)
     rw [k03 _ _ e]at da;cases da
    ·have:=jr f3.kept _ _ e';rw [show h3.get? a=Qf o' from this]at da;cases da
  ·obtain rfl:k=0:=by exact YE ‹_›
   have hj':j∈kdK dp 0 0:=hj
   simp [kdK]at hj'
 ·exact λq=>by rw [q]at dlo;rw [show h9.get? nw.k=Qg from dlo]at ek9;cases ek9
end
section
variable {prog:QI} {w:Ql} {A:QO} {E:Qe} {s:Qi}
noncomputable abbrev dO(es:Array VJ)(ep:Nat):Obj:={ cls:=.type "dict",data:=.dict es ep }
theorem xd{d:Qk}{es:List VJ}{ep j:Nat}{x:Qd}{t u:Tok}{h:Int}{e:VJ}{Q:Option Nat->Qi->Prop}(hd:s.heap.get? d=Qf (dO es.toArray ep))(hall:(es.all λe=>isExactStrKey e.key)=true)(hf:(es.findIdx? λe=>e.key.isStr x)=Qf j)(he:es[j]?=Qf e)(hk:e.key=.str x u)(hq:Q (Qf j) s) :
  Qo (model prog w) A (dictFind d (.str x t) h) Q E s:=by
 unfold dictFind
 refine QS (Qh (Xc hd rfl ?_))
 dsimp only
 rw [if_pos (by simpa using hall)]
 unfold foundByValue
 rw [List.findIdx?_toArray,hf]
 dsimp only
 rw [List.getElem?_toArray,he]
 refine Qh (YD hd rfl (Qh ?_))
 rw [hk]
 refine SeqAt.EqAt.str_str x u x t prog w _ _ (Qh (YD hd rfl ?_))
 rw [if_neg (by simp)]
 rw [if_pos (by simp)]
 exact Qh (wpAny_rule (Qn hq))
theorem zy{a b:Qk}{ea eb:Array VJ}{na nb:Nat}{Q:Qe}(ha:s.heap.get? a=Qf (dO ea na))(hb:s.heap.get? b=Qf (dO eb nb))(hu:A.units<cLine)
  (hs:∀(A':QO) (E':Qe) (Q':Bool->Qi->Prop),Q' true s->Qo (model prog w) A' (XR "dict.__eq__" a b) Q' E' s) (h:Q (.bool true) s) :
  Qo (model prog w) A (richCompare .Eq (.ref a) (.ref b)) Q E s:=by
 have ta:s.TypeIs (.ref a) "dict":=⟨_,ha,rfl⟩
 have tb:s.TypeIs (.ref b) "dict":=⟨_,hb,rfl⟩
 refine wpAny_richCompare_same_room (op:=.Eq) ta tb PySem.F.slot_dict_eq (wpAny_call_entry PySem.F.slot_dict_eq ta PySem.F.entry_dict_eq ?_ (PySem.F.args_dict_eq_2 _ _)) hu
 show Qo _ _ (Builtin.Dict.dictSlotArgs "__eq__" ⟨[.ref a,.ref b],[]⟩ >>= _) _ _ s
 refine Qh ?_
 unfold Builtin.Dict.dictSlotArgs
 refine Qh (wpAny_notOrdered_dict ta ?_)
 show Qo _ _ (pure (VW a,VW b)) _ _ s
 refine Qn (Qh (QX (T:="dict") tb PySem.F.sub_dict_dict ?_))
 rw [if_neg (by decide)]
 refine Qh (Qn (Qh (Qn ?_)))
 refine Qh (hs _ _ _ (Qn ⟨_,rfl,?_,?_⟩))
 ·exact λx=>nomatch x
 ·exact h
noncomputable abbrev ent2(h1 h2:Int)(t1 u1 t2 u2:Tok)(i:Int):Array DictEntry:=#[⟨h1,.str "kind" t1,.str "line" u1⟩,⟨h2,.str "place" t2,.int i u2⟩]
noncomputable abbrev ent1(h2:Int)(t2 u2:Tok)(i:Int):Array DictEntry:=#[⟨h2,.str "place" t2,.int i u2⟩]
theorem same1{a b:Qk}{na nb:Nat}{h2 h2':Int}{t2 u2 t2' u2':Tok}{i:Int}{Q:Bool->Qi->Prop}(ha:s.heap.get? a=Qf (dO (ent1 h2 t2 u2 i) na))(hb:s.heap.get? b=Qf (dO (ent1 h2' t2' u2' i) nb))(sa:(a==Vc)=false)(sb:(b==Vc)=false)(hq:Q true s) :
  Qo (model prog w) A (XR "dict.__eq__" a b) Q E s:=by
 have F:∀ {A:QO} {E:Qe} {Q:Option Nat->Qi->Prop} {t:Tok} {h:Int},Q (Qf 0) s->Qo (model prog w) A (dictFind b (.str "place" t) h) Q E s:=λq=>xd (es:=[⟨h2',.str "place" t2',.int i u2'⟩]) hb rfl (by kernel_rfl) rfl rfl q
 have V:∀ {A:QO} {E:Qe} {Q:Bool->Qi->Prop},Q true s->Qo (model prog w) A (eqBool (.int i u2) (.int i u2')) Q E s:=λ{A E Q} q=>SeqAt.EqAt.int_int (A:=A) (s:=s) i u2 i u2' prog w E Q (by simpa using q)
 have hR:List.range' 0 (((ent1 h2 t2 u2 i).size-0+1-1)/1)=[0]:=by kernel_rfl
 unfold XR Builtin.Dict.showsAll
 rw [sa,sb]
 simp only [YQ,Std.Legacy.Range.size]
 repeat (first | assumption | exact hq | rw [hR] | ((with_reducible show Qo _ _ (dictFind _ _ _) _ _ _);apply F) | ((with_reducible show Qo _ _ (eqBool _ _) _ _ _);apply V) | with_reducible refine Xc ha rfl ?_ | with_reducible refine Xc hb rfl ?_ | with_reducible refine YD ha rfl ?_ | wp_step)
theorem same2{a b:Qk}{na nb:Nat}{h1 h1' h2 h2':Int}{t1 u1 t1' u1' t2 u2 t2' u2':Tok}{i:Int}{Q:Bool->Qi->Prop}(ha:s.heap.get? a=Qf (dO (ent2 h1 h2 t1 u1 t2 u2 i) na))(hb:s.heap.get? b=Qf (dO (ent2 h1' h2' t1' u1' t2' u2' i) nb))(sa:(a==Vc)=false)(sb:(b==Vc)=false)(hq:Q true s) :
  Qo (model prog w) A (XR "dict.__eq__" a b) Q E s:=by
 have F:∀ {A:QO} {E:Qe} {Q:Option Nat->Qi->Prop} {t:Tok} {h:Int},Q (Qf 1) s->Qo (model prog w) A (dictFind b (.str "place" t) h) Q E s:=λq=>xd (es:=[⟨h1',.str "kind" t1',.str "line" u1'⟩,⟨h2',.str "place" t2',.int i u2'⟩]) hb rfl (by kernel_rfl) rfl rfl q
 have F0:∀ {A:QO} {E:Qe} {Q:Option Nat->Qi->Prop} {t:Tok} {h:Int},Q (Qf 0) s->Qo (model prog w) A (dictFind b (.str "kind" t) h) Q E s:=λq=>xd (es:=[⟨h1',.str "kind" t1',.str "line" u1'⟩,⟨h2',.str "place" t2',.int i u2'⟩]) hb rfl (by kernel_rfl) rfl rfl q
 have V:∀ {A:QO} {E:Qe} {Q:Bool->Qi->Prop},Q true s->Qo (model prog w) A (eqBool (.int i u2) (.int i u2')) Q E s:=λ{A E Q} q=>SeqAt.EqAt.int_int (A:=A) (s:=s) i u2 i u2' prog w E Q (by simpa using q)
 have V0:∀ {A:QO} {E:Qe} {Q:Bool->Qi->Prop},Q true s->Qo (model prog w) A (eqBool (.str "line" u1) (.str "line" u1')) Q E s:=λ{A E Q} q=>SeqAt.EqAt.str_str (A:=A) (s:=s) "line" u1 "line" u1' prog w E Q (by simpa using q)
 have hR:List.range' 0 (((ent2 h1 h2 t1 u1 t2 u2 i).size-0+1-1)/1)=[0,1]:=by kernel_rfl
 unfold XR Builtin.Dict.showsAll
 rw [sa,sb]
 simp only [YQ,Std.Legacy.Range.size]
 repeat (first | assumption | exact hq | rw [hR] | ((with_reducible show Qo _ _ (dictFind _ _ _) _ _ _);first | apply F0 | apply F) | ((with_reducible show Qo _ _ (eqBool _ _) _ _ _);first | apply V0 | apply V) | with_reducible refine Xc ha rfl ?_ | with_reducible refine Xc hb rfl ?_ | with_reducible refine YD ha rfl ?_ | wp_step)
end
section
variable {prog:QI} {w:Ql} {h:QU} {a:Qk}
theorem yQ{x:Qd}{v:Qm}(D:h.DictOf (QH prog w) a [(x,v)]):∃h2 t2 n,h.get? a=Qf (dO #[⟨h2,.str x t2,v⟩] n):=by
 (refine KN D ?_;clear D;rintro⟨cl,dct,dat,sl⟩ es ep e ⟨e1,e2,e3⟩ e4 hk pr _)
 obtain⟨l⟩:=es
 simp only at e1 e2 e3 e4
 subst e1 e2 e3 e4
 have pr:Pairs (QH prog w) l [(x,v)]:=pr
 cases pr with
 | cons p1 p2 r =>
  cases r
  rename_i en
  (refine jd (Value.isStrOf_shape p1) ?_;intro t ht)
  obtain⟨hs,key,val⟩:=en
  simp only at ht p2
  subst ht p2
  exact⟨hs,t,ep,e⟩
theorem qX{x y:Qd}{v u:Qm}(D:h.DictOf (QH prog w) a [(x,v),(y,u)]):∃h1 h2 t1 t2 n,h.get? a=Qf (dO #[⟨h1,.str x t1,v⟩,⟨h2,.str y t2,u⟩] n):=by
 (refine KN D ?_;clear D;rintro⟨cl,dct,dat,sl⟩ es ep e ⟨e1,e2,e3⟩ e4 hk pr _)
 obtain⟨l⟩:=es
 simp only at e1 e2 e3 e4
 subst e1 e2 e3 e4
 have pr:Pairs (QH prog w) l [(x,v),(y,u)]:=pr
 cases pr with
 | cons p1 p2 r =>
  cases r with
  | cons p3 p4 r =>
   cases r
   rename_i en em
   (refine jd (Value.isStrOf_shape p1) ?_;intro t ht)
   (refine jd (Value.isStrOf_shape p3) ?_;intro t' ht')
   obtain⟨hs,key,val⟩:=en
   obtain⟨hs',key',val'⟩:=em
   simp only at ht p2 ht' p4
   subst ht p2 ht' p4
   exact⟨hs,hs',t,t',ep,e⟩
theorem AtK.rc{b:Qk}{k:Nat}(Aa:AtK prog w h a k)(Ab:AtK prog w h b k)(sa:(a==Vc)=false)(sb:(b==Vc)=false){A:QO}{s:Qi}(hu:A.units<cLine)(kp:∀b o,h.get? b=Qf o->s.heap.get? b=Qf o):SeqAt.RcAt A s (.ref a) (.ref b) true:=λprog' w' E Q hq=>by
 (refine jc Aa ?_;intro ka Da va)
 (refine jc Ab ?_;intro kb Db vb)
 unfold AtV at va vb
 by_cases c0:k%3=0
 ·rw [if_pos c0]at va vb
  (refine jN va ?_;clear va;rintro t t' rfl)
  (refine jN vb ?_;clear vb;rintro u u' rfl)
  refine e5_1 (qX Da) ?_;intro _ _ _ _ _ ea
  refine e5_1 (qX Db) ?_;intro _ _ _ _ _ eb
  exact zy (kp _ _ ea) (kp _ _ eb) hu (λA' E' Q' q=>same2 (kp _ _ ea) (kp _ _ eb) sa sb q) hq
 ·rw [if_neg c0]at va vb
  by_cases c1:k%3=1
  ·rw [if_pos c1]at va vb
   (refine jd va ?_;clear va;rintro t' rfl)
   (refine jd vb ?_;clear vb;rintro u' rfl)
   refine e3_1 (yQ Da) ?_;intro _ _ _ ea
   refine e3_1 (yQ Db) ?_;intro _ _ _ eb
   exact zy (kp _ _ ea) (kp _ _ eb) hu (λA' E' Q' q=>same1 (kp _ _ ea) (kp _ _ eb) sa sb q) hq
  ·rw [if_neg c1]at va vb
   (refine jN va ?_;clear va;rintro t t' rfl)
   (refine jN vb ?_;clear vb;rintro u u' rfl)
   refine e5_1 (qX Da) ?_;intro _ _ _ _ _ ea
   refine e5_1 (qX Db) ?_;intro _ _ _ _ _ eb
   exact zy (kp _ _ ea) (kp _ _ eb) hu (λA' E' Q' q=>same2 (kp _ _ ea) (kp _ _ eb) sa sb q) hq
end
section
variable {c:Ct}
noncomputable abbrev JK(as:Nat->Qk)(n:Nat):AV:=.list ((Qj n).map λk=>AV.raw (.ref (as k)))
theorem vQ{G:Lk}{as:Nat->Qk}:∀ {l:List Nat} {vs:List Qm},Reps G (l.map λk=>AV.raw (.ref (as k))) vs->vs=l.map λk=>VW (as k)
 | [],vs,h=>h
 | k::l,vs,h=>by
  (refine jW h ?_;clear h;rintro v vs' rfl r1 r2)
  obtain rfl:=jb r1
  rw [vQ r2];rfl
theorem cmp_neLD{n m:Nat}{as bs:Nat->Qk}(room:Room m c.A)(h:∀k,k<n->as k≠bs k/\∀s:Qi,(∀b o,c.B.get? b=Qf o->s.heap.get? b=Qf o)->SeqAt.RcAt c.A.in1 s (.ref (as k)) (.ref (bs k)) true):jX c .NotEq (JK as n) (JK bs n) false:=λY s E v u x rv ru=>by
 (refine JM (jY rv) ?_;rintro a vs na rfl ea ra)
 (refine JM (jY ru) ?_;rintro b us nb rfl eb rb)
 have e1:=vQ ra
 have e2:=vQ rb
 have z1:vs.size=n:=by have:=congrArg Yx e1;simpa using this
 have z2:us.size=n:=by have:=congrArg Yx e2;simpa using this
 have g1:∀j (h1:j<vs.size),vs[j]=.ref (as j):=λj h1=>by
  have:vs.toList[j]?=Qf (.ref (as j)):=by rw [e1,Qx,VQ (by lia)];rfl
  rw [Vi,VY h1]at this
  exact oi this
 have g2:∀j (h1:j<us.size),us[j]=.ref (bs j):=λj h1=>by
  have:us.toList[j]?=Qf (.ref (bs j)):=by rw [e2,Qx,VQ (by lia)];rfl
  rw [Vi,VY h1]at this
  exact oi this
 have hu:=room.units
 refine SeqAt.RcNeAt.lists (A:=c.A) (s:=s) (e:=λ_=>true) ⟨_,j9 ea,rfl,na,rfl⟩ ⟨_,j9 eb,rfl,nb,rfl⟩ (by rw [z1,z2]) (by exact zr25 ‹_›) (λj h1 h2=>?_) c.prog c.w E _ ⟨kU,by simp⟩
 rw [g1 j h1,g2 j h2]
 (refine jw (h j (by lia)) ?_;intro ne rc)
 exact SeqAt.EqAt.of_refs ne (rc s x.base)
end
noncomputable def yG(kd:Nat->List Nat):Nat->Nat->List (Option Nat)
 | 0,_=>[]
 | F+1,j=>[Qf j]++(kd j).flatMap λk=>yG kd F k++[Qg]
theorem iterI1{kd:Nat->List Nat}{F j:Nat}:yG kd (F+1) j=[Qf j]++(kd j).flatMap λk=>yG kd F k++[Qg]:=rfl
noncomputable def o2t(tt:Nat->List Nat):Option Nat->List Nat
 | some j=>tt j
 | none=>[]
theorem o2tS{tt:Nat->List Nat}{j:Nat}:o2t tt (Qf j)=tt j:=rfl
theorem o2tN{tt:Nat->List Nat}:o2t tt Qg=[]:=rfl
theorem qp(T:TreeD):∀F j,jB T F j=(yG T.kd F j).map (o2t T.txt)
 | 0,_=>rfl
 | F+1,j=>by
  simp only [iterL1,iterI1,Va,List.map_flatMap,QP,List.map_nil,o2tS,o2tN]
  congr 2
  funext k
  rw [qp T F k]
theorem xW(tt:Nat->List Nat):∀l:List (Option Nat),(l.map (o2t tt)).flatten=(l.filterMap id).flatMap tt
 | []=>rfl
 | some j::l=>by simp [o2tS,o2tN,xW tt l]
 | none::l=>by simp [o2tS,o2tN,xW tt l]
noncomputable def outl:List (List Nat):=(Qj 2).flatMap λa=>(Qj (a+2)).flatMap λb=>(Qj (b+2)).flatMap λc=>(Qj (c+2)).map λd=>[0,a,b,c,d]
noncomputable abbrev jt(l:List Nat):Nat->Nat:=λi=>l.getD i 0
theorem xU:∀l∈outl,(∀i,i<5->jt l i<(qf (jt l) i).length/\jt l i<=5)/\(∀F,F<7->∀j,j<6->(yG (kdK (jt l) 5) F j).length<=800)/\(yG (kdK (jt l) 5) 6 0).filterMap id=[0,1,2,3,4,5]:=by decide +kernel
section
variable {c:Ct}
theorem due_eval{E:Qe}{Q:Qe}{Y:List Qk}{s:Qi}{p1 p2 p3 p4 p5 p6 p7 p8 p9 p10 p11 p12 p13 p14 p15 p16 p17 p18 p19 p20 p21 p22 p23 p24:Pos}{k1 k2 k3 k4 k5 k6 k7 k8 k9 k10 k11 k12 k13 k14 k15 k16:Nat}{e0 e1 e2 e3 e4:Expr}(x:c.At Y s)
  (he0:e0=.Dict [Qf (.Constant (.str "kind") k1 p1),Qf (.Constant (.str "place") k2 p2)] [.Constant (.str "line") k3 p3,.Constant (.int 0) k4 p4] p5) (he1:e1=.Dict [Qf (.Constant (.str "place") k5 p6)] [.Constant (.int 1) k6 p7] p8) (he2:e2=.Dict [Qf (.Constant (.str "kind") k7 p9),Qf (.Constant (.str "place") k8 p10)] [.Constant (.str "line") k9 p11,.UnaryOp .USub (.Constant (.int 1) k10 p12) p13] p14) (he3:e3=.Dict [Qf (.Constant (.str "kind") k11 p15),Qf (.Constant (.str "place") k12 p16)] [.Constant (.str "line") k13 p17,.Constant (.int 3) k14 p18] p19) (he4:e4=.Dict [Qf (.Constant (.str "place") k15 p20)] [.Constant (.int 4) k16 p21] p22)
  (h:∀(as:Nat->Qk) l m h' tk,1<=tk->(∀k,k<5->AtK c.prog c.w h' (as k) k/\s.heap.get? (as k)=Qg)->s.heap.get? l=Qg->h'.get? l=Qf (kT ((Qj 5).map λk=>VW (as k)).toArray m)->(∀b ob,s.heap.get? b=Qf ob->h'.get? b=Qf ob)->Q (.ref l) { s with heap:=h',toks:=tk })
  (hst:Qv [e0,e1,e2,e3,e4] c.env=[(false,eval e0 c.env),(false,eval e1 c.env),(false,eval e2 c.env),(false,eval e3 c.env),(false,eval e4 c.env)]) :
  Qo c.M c.A (eval (.List [e0,e1,e2,e3,e4] p23) c.env) Q E s:=by
 refine List_ ?_
 rw [hst]
 simp only [xf,yj]
 refine Qq (KO he0 x .int (by decide) λd0 h0 t0 u0 v0 dd0 D0 kk0 ht0=>?_)
 have x0:c.At Y { s with heap:=h0,toks:=t0 }:=x.mono (s':={ s with heap:=h0,toks:=t0 }) kk0 ht0
 refine Qq (dnew1 he1 x0 .int λd1 h1 t1 v1 dd1 D1 kk1 ht1=>?_)
 have k01:∀b ob,s.heap.get? b=Qf ob->h1.get? b=Qf ob:=λb ob e=>kk1 _ _ (kk0 _ _ e)
 have x1:c.At Y { s with heap:=h1,toks:=t1 }:=x.mono (s':={ s with heap:=h1,toks:=t1 }) k01 ht1
 refine Qq (KO he2 x1 (.neg .int) (by decide) λd2 h2 t2 u2 v2 dd2 D2 kk2 ht2=>?_)
 have k02:∀b ob,s.heap.get? b=Qf ob->h2.get? b=Qf ob:=λb ob e=>kk2 _ _ (k01 _ _ e)
 have x2:c.At Y { s with heap:=h2,toks:=t2 }:=x.mono (s':={ s with heap:=h2,toks:=t2 }) k02 ht2
 refine Qq (KO he3 x2 .int (by decide) λd3 h3 t3 u3 v3 dd3 D3 kk3 ht3=>?_)
 have k03:∀b ob,s.heap.get? b=Qf ob->h3.get? b=Qf ob:=λb ob e=>kk3 _ _ (k02 _ _ e)
 have x3:c.At Y { s with heap:=h3,toks:=t3 }:=x.mono (s':={ s with heap:=h3,toks:=t3 }) k03 ht3
 refine Qq (dnew1 he4 x3 .int λd4 h4 t4 v4 dd4 D4 kk4 ht4=>?_)
 have k04:∀b ob,s.heap.get? b=Qf ob->h4.get? b=Qf ob:=λb ob e=>kk4 _ _ (k03 _ _ e)
 refine QK (V1 ?_ (by show 5<=Qt;decide))
 have dead:∀ {h:QU} {b:Qk},(∀b ob,s.heap.get? b=Qf ob->h.get? b=Qf ob)->h.get? b=Qg->s.heap.get? b=none:=λ{h b} k e=>by
  cases q:s.heap.get? b with
  | none=>rfl
  | some o=>rw [k _ _ q]at e;exact no2 e
 have P:∀ {b:Qk} {ob:Obj} {o:Obj},h4.get? b=Qf ob->(h4.push o).get? b=Qf ob:=λe=>j7 _ _ e
 refine h (λk=>[d0,d1,d2,d3,d4].getD k 0) h4.objs.size 0 _ t4 ht4 (λk hk=>?_) (dead k04 jm) (Qs _ rfl) λb ob e=>P (k04 _ _ e)
 match k,hk with
 | 0,_=>exact⟨⟨_,jq D0 λo e=>P (kk4 _ _ (kk3 _ _ (kk2 _ _ (kk1 _ _ e)))),u0,v0,rfl⟩,dd0⟩
 | 1,_=>exact⟨⟨_,jq D1 λo e=>P (kk4 _ _ (kk3 _ _ (kk2 _ _ e))),v1,rfl⟩,dead kk0 dd1⟩
 | 2,_=>exact⟨⟨_,jq D2 λo e=>P (kk4 _ _ (kk3 _ _ e)),u2,v2,rfl⟩,dead k01 dd2⟩
 | 3,_=>exact⟨⟨_,jq D3 λo e=>P (kk4 _ _ e),u3,v3,rfl⟩,dead k02 dd3⟩
 | 4,_=>exact⟨⟨_,jq D4 λo e=>P e,v4,rfl⟩,dead k03 dd4⟩
end
section
variable {c:Ct} {Yc:List Qk} {g s:Qi} {h0:QU} {dp:Nat->Nat} {ln:Nat->List Nat} {tl:Option (List Nat)} {hd o:Qk} {nd:Nat->Nd} {ad:Nat->Qk}
theorem CmOk.here{sc:Scope}{own:List Qd}{fr:List Nat}{cl:List (Qd×Qk)}(ok:CmOk c sc own fr cl):CmOk (c.here s) sc own fr cl :=
 ⟨ok.hcl,ok.kind,ok.nd,λC=>⟨(ok.S C).kind,(ok.S C).nd,(ok.S C).kd,(ok.S C).fk⟩⟩
theorem K8{t t':Tok}{ed e2:Expr}{k1 k2 k3:Nat}{p0 p1 p2 p3 p4 p5:Pos}{m:Nat}(room:Room m c.A)(Dh:c.B.DictOf (kS c) hd (hK t t'))(hs:(hd==Vc)=false)(hsys:∀ {h:QU} {d:Qk},(∀b ob,c.B.get? b=Qf ob->h.get? b=Qf ob)->h.get? d=Qg->(d==Vc)=false)(q:PE c (.Name "handed" p0) (.raw (.ref hd)))(hed:ed=.Dict [Qf (.Constant (.str "kind") k1 p1),Qf (.Constant (.str "place") k2 p2)] [.Constant (.str "line") k3 p3,e2] p4)(qe:PE c e2 (.int (-1)))
  (hm:Yp .NotEq ed=false):PT c (.Compare (.Name "handed" p0) [.NotEq] [ed] p5) false:=λY s E x =>
 wpAny_isTrue_Compare1 (q.use x λv s1 j1 x1 r1=>by
  obtain rfl:=jb r1
  refine KO hed x1 qe (by decide) λd h2 tk2 u u' dd D kk ht=>?_
  have D1:h2.DictOf (kS c) hd (hK t t'):=jq Dh λob e=>kk _ _ (x1.base _ _ e)
  have hu:=room.units
  have kS0:Vb s { s1 with heap:=h2,toks:=tk2 }:=ktr j1 ⟨h2,tk2,rfl,kk⟩
  have eK:SeqAt.EqAt c.A.in1 { s1 with heap:=h2,toks:=tk2 } (.str "line" t) (.str "line" u) true:=by
   have:=SeqAt.EqAt.str_str (A:=c.A.in1) (s:={ s1 with heap:=h2,toks:=tk2 }) "line" t "line" u
   simpa using this
  have eP:SeqAt.EqAt c.A.in1 { s1 with heap:=h2,toks:=tk2 } (.int (-1) t') (.int (-1) u') true:=by
   have:=SeqAt.EqAt.int_int (A:=c.A.in1) (s:={ s1 with heap:=h2,toks:=tk2 }) (-1) t' (-1) u'
   simpa using this
  refine keq_ne (knd:=kS c) (r:=true&&(true&&true)) hs (hsys x1.base dd) D1 D (by exact zr25 ‹_›) (λ_=>.hit (by kernel_rfl) eK (.hit (by kernel_rfl) eP .nil)) (YG ⟨kS0,rfl⟩)) hm
theorem pt_four{n:Nat}{w:Ql}{as:Nat->Qk}{t t':Tok}{sc:Scope}{cl:List (Qd×Qk)}{ed e2:Expr}{p1 p2 p3 p4 p5 p6 p7 p8 p9 p10 p11 p12 p13 p14 p15 p16 p17 p18 p19 p20 p21 p22 p23 p24 p25:Pos}{k0 k1 k2 k3 k4:Nat}(hw:c.w=w)(G:Gd c (n+1) (mg w) (mb w))(U:Up w c.B)(ok:CmOk c sc ["element"] [] cl)(hki:c.env.kindOf "iselement"=Qf .globalImplicit)
  (qg:∀p,PE c (.Name "grown" p) (grL nd 5)) (qd:∀p,PE c (.Name "due" p) (JK as 5)) (qh:∀p,PE c (.Name "handed" p) (.raw (.ref hd)))
  (hP:∀k,k<5->∃D vals,FnAt c.B (nd (k+1)).f D nmN vals/\vals[1]?=Qf (.ref (ad (k+1)))) (Dh:c.B.DictOf (kS c) hd (hK t t')) (hadk:∀k,k<5->AtK c.prog c.w c.B (ad (k+1)) k/\ad (k+1)≠hd) (hask:∀k,k<5->AtK c.prog c.w c.B (as k) k/\as k≠ad (k+1))
  (hs:(hd==Vc)=false) (hsys:∀ {h:QU} {d:Qk},(∀b ob,c.B.get? b=Qf ob->h.get? b=Qf ob)->h.get? d=Qg->(d==Vc)=false) (hsk:∀k,k<5->(ad (k+1)==Vc)=false/\(as k==Vc)=false) (hed:ed=.Dict [Qf (.Constant (.str "kind") k1 p14),Qf (.Constant (.str "place") k2 p15)] [.Constant (.str "line") k3 p16,e2] p17) (qe:PE c e2 (.int (-1))) (hm:Yp .NotEq ed=false)
  (hf:∀x,QN (.Name "grown" p4) c.env x=pure x:=by intro _;rfl) :
  PT c (.BoolOp .Or [.Compare (.ListComp (.Attribute (.Name "element" p1) "attrib" p2) [⟨.Name "element" p3,.Name "grown" p4,[],0⟩] sc p5) [.NotEq] [.Name "due" p6] p7,
   .Compare (.Attribute (.Subscript (.Name "grown" p8) (.Constant (.int 2) k0 p9) p10) "attrib" p11) [.Is] [.Name "handed" p12] p13,
   .Compare (.Name "handed" p18) [.NotEq] [ed] p19,
   .Compare (.Call (.Name "iselement" p20) [.Name "handed" p21] [] p22) [.IsNot] [.Constant (.bool false) k4 p23] p24] p25) false:=by
 subst hw
 have hu:=G.room.units
 have d1:PT c (.Compare (.ListComp (.Attribute (.Name "element" p1) "attrib" p2) [⟨.Name "element" p3,.Name "grown" p4,[],0⟩] sc p5) [.NotEq] [.Name "due" p6] p7) false:=by
  refine .cmp (a:=JK (λk=>ad (k+1)) 5) (PE.map1 (ys:=Qj 5) ok (λk=>AV.raw (.ref (nd (k+1)).f)) (λk=>AV.raw (.ref (ad (k+1)))) (.list G.room.1 (qg _)) (λok C k hk=>?_) (by rw [Vu,QV];decide) hf) (qd _) (cmp_neLD G.room λk hk=>⟨(hask k hk).2.symm,λs kp=>?_⟩)
  ·(refine jn (hP k (Qc hk)) ?_;intro D vals P v1)
   exact PE.natt (c:=v8 c (jT c sc cl C) ["element"] [] [Qf (AV.raw (.ref (nd (k+1)).f))]) P (.var 0 (ok.S C).kind rfl rfl (by decide) (by decide)) 1 rfl v1 js rfl (.inr (.inl rfl)) λ_=>vC
  ·exact(hadk k hk).1.rc (hask k hk).1 (hsk k hk).1 (hsk k hk).2 (by show c.A.units+1<cLine;exact zr23 ‹_› rfl) kp
 have d2:PT c (.Compare (.Attribute (.Subscript (.Name "grown" p8) (.Constant (.int 2) k0 p9) p10) "attrib" p11) [.Is] [.Name "handed" p12] p13) false:=by
  (refine jn (hP 2 (by decide)) ?_;intro D vals P v1)
  (refine jw (hadk 2 (by decide)) ?_;rintro⟨kvs,⟨oa,_,_,ea,⟨ca,_⟩,_⟩,_⟩ ne)
  (refine yY (id Dh) ?_;intro ob _ _ eb _)
  exact .cmp (.natt P (.itemL (.list (qg _)) .int 2 rfl rfl (by decide)) 1 rfl v1 js rfl (.inr (.inl rfl)) (av:=.raw (.ref (ad 3))) λ_=>vC) (qh _) (cmp_isR ne ea eb (by rw [ca];simp))
 have d3:PT c (.Compare (.Name "handed" p18) [.NotEq] [ed] p19) false:=K8 G.room Dh hs hsys (qh _) hed qe hm
 have hise:mg c.w "iselement"=Qf (.ref 111):=by kernel_rfl
 have d4:PT c (.Compare (.Call (.Name "iselement" p20) [.Name "handed" p21] [] p22) [.IsNot] [.Constant (.bool false) k4 p23] p24) false :=
  PT.as' (.cmp (.callF (o:=o_121 c.w.params) (fd:=F111 c.w) (.glob G hise hki (by decide)) (.cons (qh _) .nil) (U _ _ (b_111 c.w)) rfl (ise_dict (n:=n) U G.room Dh)) .bool kE) rfl
 exact PT.as' (PT.or d1 λ_=>.or d2 λ_=>.or d3 λ_=>.or d4 λ_=>.or_nil) rfl
end
theorem JR:∀l:List (List Nat),toDs (tL l)=Qf (l.map λx=>XB (tx x))
 | []=>rfl
 | x::l=>by
  exact congrArg (Option.map (XB (tx x)::·)) (JR l)
theorem Ku:∀l:List (List Nat),(∀x∈l,Vf (tx x)=true)->Xq (l.map λx=>XB (tx x))=true/\Xf (l.map λx=>XB (tx x))<=1
 | [],_=>⟨rfl,by decide⟩
 | x::l,h=>by
  (refine jw (Ku l λy hy=>h y (.tail _ hy)) ?_;intro a b)
  refine⟨by simp [Xq,Xr,a,h x (.head _)],?_⟩
  simp only [QP,Xf,XQ]
  assumption
theorem KM:∀l:List (List Nat),Yq (l.map λx=>XB (tx x)) (l.map λx=>XB (tx x))=true
 | []=>rfl
 | x::l=>by simp [Yq,Xh,KM l]
section
variable {c:Ct} {Yc:List Qk} {g s:Qi}
theorem cmp_tL{n:Nat}(room:Room n c.A)(l:List (List Nat))(hok:∀x∈l,Vf (tx x)=true):jX c .Eq (.list (tL l)) (.list (tL l)) true:=by
 have e:toD (.list (tL l))=Qf (.list (l.map λx=>XB (tx x))):=by rw [Jq,JR];rfl
 have sh:VR (.list (l.map λx=>XB (tx x)))=true:=by
  (refine jw (Ku l hok) ?_;intro a b)
  simp [VR,Xr,XQ,a];exact zq1 ‹_› rfl
 have:=yg room e e sh sh
 rwa [show Xh (.list (l.map λx=>XB (tx x))) (.list (l.map λx=>XB (tx x)))=true from by simp [Xh,KM]]at this
theorem at_free(f:Fm c Yc g s)(ht:1<=s.toks)(σ2:List (Option AV))(h:∀(i:Nat) (x:Qd) (av:AV),c.vars[i]?=Qf x->σ2[i]?=Qf (Qf av)->∃av0,c.σ[i]?=Qf (Qf av0)/\∀v,RepO c.X (c.Yf Yc) s.heap av0 v->Rep (hid [] s.heap) av v):({ c with B:=s.heap,X:=[],σ:=σ2 }:Ct).At [] s:=by
 refine⟨λa o e=>e,λx hx=>(nomatch hx),λi x av hi hs=>?_,ht⟩
 (refine jc (h i x av hi hs) ?_;intro av0 e0 k)
 rcases (f.at ht).look i x av0 hi e0 with⟨a,m,v,b,e,d⟩ | ⟨a,cc,v,b,e,d⟩
 ·exact .inl ⟨a,m,v,b,e,.of (k v d)⟩
 ·exact .inr ⟨a,cc,v,b,e,.of (k v d)⟩
theorem ret_pe{n:Nat}{T:TreeD}{tl:Option (List Nat)}{p1 p2 p3 p4 p5 p6 p7 p8 p9 p10 p11 p12 p13 p14 p15 p16 p17:Pos}{k1 k2:Nat}(room:Room (n+1) c.A)
  (qo:∀p,PE c (.Name "out" p) (.list (tL (jB T 6 0++tlX tl)))) (qr:∀p,PE c (.Name "root" p) (jo T 6 0)) (qt:∀p,PE c (.Name "tail" p) (kH tl)) (N:NdFix c.w c.B (T.nd 0)) (it:ItxC c.prog c.w c.B c.A (T.nd 0).g (jo T 6 0) (.list (tL (jB T 6 0))) (T.nd 0).f)
  (hz:(jB T 6 0).length<=900) (hzt:∀t,tl=Qf t->t.length<=1000) (hzf:(jB T 6 0++tlX tl).flatten.length<=10000) (hok:∀x∈jB T 6 0++tlX tl,Vf (tx x)=true)
  (hbase:Vp (.Name "root" p2) "itertext" c.env (eval (.Name "root" p2) c.env)=eval (.Name "root" p2) c.env:=by rfl) (hl:(p3.endLine==p4.line)=true:=by rfl)
  (he:∀e,isTrue (.Name "tail" p5) c.env (eval (.Name "tail" p5) c.env)=(do let v <-eval (.Name "tail" p5) c.env;Xy e;Zz [v] (truthy v))->True:=by intro _ _;trivial)
  (het:isTrue (.Name "tail" p5) c.env (eval (.Name "tail" p5) c.env)=(do let v <-eval (.Name "tail" p5) c.env;Xy (Expr.Name "tail" p5).pos;Zz [v] (truthy v)):=by rfl)
  (hm:Yp .Eq (.BinOp (.Call (.Attribute (.Name "root" p2) "itertext" p3) [] [] p4) .Add (.IfExp (.Name "tail" p5) (.List [.Name "tail" p6] p7) (.List [] p8) p9) p10)=false:=by rfl)
  (hst:Qv [.Name "out" p14] c.env=[(false,eval (.Name "out" p14) c.env)]:=by rfl) (hbj:Vp (.Constant (.str "") k1 p12) "join" c.env (eval (.Constant (.str "") k1 p12) c.env)=eval (.Constant (.str "") k1 p12) c.env:=by rfl) (hlj:(p13.endLine==p15.line)=true:=by rfl) :
  PE c (.IfExp (.Compare (.Name "out" p1) [.Eq] [.BinOp (.Call (.Attribute (.Name "root" p2) "itertext" p3) [] [] p4) .Add (.IfExp (.Name "tail" p5) (.List [.Name "tail" p6] p7) (.List [] p8) p9) p10] p11) (.Call (.Attribute (.Constant (.str "") k1 p12) "join" p13) [.Name "out" p14] [] p15) (.Constant (.str "") k2 p16) p17) (.str (tx (jB T 6 0++tlX tl).flatten)):=by
 have c1:1<=sizeLine:=by decide
 have q1:PE c (.IfExp (.Name "tail" p5) (.List [.Name "tail" p6] p7) (.List [] p8) p9) (.list (tL (tlX tl))):=by
  cases tl with
  | none=>exact .ite (PT.non (qt _) het) (λh=>nomatch h) λ_=>.list .nil (Vj _)
  | some t =>
   have tz:=hzt t rfl
   by_cases e:t=[]
   ·subst e
    have e0:tlX (Qf [])=[]:=by simp [tlX]
    rw [e0]
    exact .ite (PT.as' (PT.str (qt _) (by rw [jO,QV];simp) het) (b:=false) (by decide)) (λh=>nomatch h) λ_=>.list .nil (Vj _)
   ·have eb:(((tx t).length:Int) != 0)=true:=by
     rw [jO];simp only [bne_iff_ne,ne_eq,Int.natCast_eq_zero,List.length_eq_zero_iff];exact e
    have e1:tlX (Qf t)=[t]:=by simp [tlX,e]
    rw [e1]
    exact .ite (PT.as' (PT.str (qt _) (by rw [jO,QV];exact zq1 ‹_› rfl) het) eb) (λ_=>.list (.cons (qt _) .nil) c1) λh=>nomatch h
 have tz:(tlX tl).length<=1:=by
  cases tl with
  | none=>simp [tlX]
  | some t=>by_cases e:t=[]<;>simp [tlX,e]
 have q2:PE c (.BinOp (.Call (.Attribute (.Name "root" p2) "itertext" p3) [] [] p4) .Add (.IfExp (.Name "tail" p5) (.List [.Name "tail" p6] p7) (.List [] p8) p9) p10) (.list (tL (jB T 6 0++tlX tl))) :=
  (PE.addL (.list (PE.itx (qr _) N it hbase hl)) (.list q1) (by rw [Qy,Qy,QV];exact zr45 ‹_› ‹_› rfl)).as (by simp [tL])
 refine .ite (b:=true) (.cmp (qo _) q2 (cmp_tL room _ hok) hm) (λ_=>?_) (λh=>nomatch h)
 exact .joinT (PE.as .str (by rw [str0])) (qo _) (by exact zq1 ‹_› rfl) hst hbj hlj
end
section
variable {c:Ct} {Yc:List Qk} {g s:Qi} {h0:QU} {dp:Nat->Nat} {ln:Nat->List Nat} {tl:Option (List Nat)} {hd o:Qk} {nd:Nat->Nd} {ad:Nat->Qk}
theorem KD{n:Nat}{E:Qe}{Q:Qe}{L:List (List Nat)}{y8 y9 y10 y11 y12:Option AV}{p0 p1 p2 p3 p4 p5:Pos}{rp:Pos}{re:Expr}
  (hB:c.B=Bh c.w) (G:Gd c (n+8) (mg c.w) (mb c.w)) (hv:c.vars=xj) (hks:c.env.kindOf "_serialize_text"=Qf .globalImplicit) (hint:Zg c.env=false)
  (hσ:c.σ=sgG dp ln tl nd hd o 5 y8 y9 y10 y11 y12) (S:GS c Yc g h0 dp ln tl hd o 5 nd ad s) (hl:jB (trK dp ln tl 5 nd ad) 6 0=L) (hz:∀F j,F<=6->j<6->(jB (trK dp ln tl 5 nd ad) F j).length<=800) (hzt:∀t,tl=Qf t->t.length<=1000)
  (hre:∀(B:QU) (σ2:List (Option AV)),NdFix c.w B (nd 0)->(∀p,PE ({ c with B:=B,X:=[],σ:=σ2 }:Ct) (.Name "out" p) (.list (tL (L++tlX tl))))->(∀p,PE ({ c with B:=B,X:=[],σ:=σ2 }:Ct) (.Name "root" p) (jo (trK dp ln tl 5 nd ad) 6 0))->(∀p,PE ({ c with B:=B,X:=[],σ:=σ2 }:Ct) (.Name "tail" p) (kH tl))->ItxC c.prog c.w B c.A (nd 0).g (jo (trK dp ln tl 5 nd ad) 6 0) (.list (tL L)) (nd 0).f->PE ({ c with B:=B,X:=[],σ:=σ2 }:Ct) re (.str (tx (L++tlX tl).flatten)))
  (h:∀t s',Kp h0 s'.heap->(∃ps,s'.heap.get? 171=Qf (Zy ps))->(∃h' tk,s'={ s with heap:=h',toks:=tk })->Q (.str (tx (L++tlX tl).flatten) t) s') (hG:g.heap=hideAll h0 [171])
  (he:eval (.Call (.Name "_serialize_text" p0) [.Attribute (.Name "out" p1) "append" p2,.Name "root" p3] [] p4) c.env=(do VL p4 (<-eval (.Name "_serialize_text" p0) c.env) [] (VO p4 (Qv [.Attribute (.Name "out" p1) "append" p2,.Name "root" p3] c.env)) (VE p4 (V3 [] c.env))):=by rfl)
  (hst:Qv [.Attribute (.Name "out" p1) "append" p2,.Name "root" p3] c.env=[(false,eval (.Attribute (.Name "out" p1) "append" p2) c.env),(false,eval (.Name "root" p3) c.env)]:=by rfl)
  (hsw:VU (.Call (.Name "_serialize_text" p0) [.Attribute (.Name "out" p1) "append" p2,.Name "root" p3] [] p4) Qg p5.line c.env=pure false:=by rfl) :
  Qo c.M c.A (execs [.Expr (.Call (.Name "_serialize_text" p0) [.Attribute (.Name "out" p1) "append" p2,.Name "root" p3] [] p4) p5,.Return (Qf re) rp] c.env) (λfl s'=>match fl with | .ret v=>Q v s' | .next=>Q .none s' | _=>False) E s:=by
 have hkf:=S.fm.kind
 have vi:∀(j:Nat) (x:Qd),xj[j]?=Qf x->c.vars[j]?=Qf x:=λj x e=>by rw [hv];exact e
 have si:∀(j:Nat) (a:Option AV),(sgG dp ln tl nd hd o 5 y8 y9 y10 y11 y12)[j]?=Qf a->c.σ[j]?=Qf a:=λj a e=>by rw [hσ];exact e
 have g127:mg c.w "_serialize_text"=Qf (.ref 127):=by kernel_rfl
 refine QF (wpAny_Expr_any ?_ hint hsw)
 rw [he]
 refine Qh ((PE.glob G g127 hks (by decide)).use (S.fm.at S.tk) λv s1 j1 x1 r1=>?_)
 obtain rfl:=jb r1
 refine VT (o:=o_137 c.w.params) (fd:=F127 c.w) (je (by rw [hst];rfl) ?_)
 rw [hst]
 simp only [xf,yj]
 have f1:=S.fm.keeps j1
 have ht1:=x1.tk
 refine Qq (Y8 (kr 7 (si 7 _ rfl) hkf (vi 7 _ rfl) (by decide) (by decide) x1 λu ru=>?_))
 obtain rfl:=jb (ru.rep rfl)
 (refine jd S.out ?_;intro mo eo)
 have eo1:=jr j1 _ _ eo
 refine ls_get eo1 ?_
 have hb0:(s1.heap.push (jv o)).get? s1.heap.objs.size=Qf (jv o):=Qs _ rfl
 have kpu:∀b ob,s1.heap.get? b=Qf ob->(s1.heap.push (jv o)).get? b=Qf ob:=j7
 have x2:c.At (c.Yf Yc) ⟨s1.heap.push (jv o),s1.gens,s1.drawn,s1.toks+1,s1.os⟩:=x1.mono (s':=⟨s1.heap.push (jv o),s1.gens,s1.drawn,s1.toks+1,s1.os⟩) kpu (Vn _)
 generalize s1.heap.objs.size=bo at hb0 ⊢
 generalize hs2:(⟨s1.heap.push (jv o),s1.gens,s1.drawn,s1.toks+1,s1.os⟩:Qi)=s2 at x2 ⊢
 have j2:Vb s1 s2:=by rw [<-hs2];exact⟨_,_,rfl,kpu⟩
 have hb2:s2.heap.get? bo=Qf (jv o):=by rw [<-hs2];exact hb0
 clear hb0 kpu hs2
 refine Qq ((PE.var 3 hkf (vi 3 _ rfl) (si 3 _ rfl) (by decide) (by decide)).use x2 λv3 s3 j3 x3 r3=>QK ?_)
 obtain rfl:=jb r3
 have k03:∀b ob,s.heap.get? b=Qf ob->s3.heap.get? b=Qf ob:=λb ob e=>jr j3 _ _ (jr j2 _ _ (jr j1 _ _ e))
 have f3:Fm c Yc g s3:=(f1.keeps j2).keeps j3
 have U3:Up c.w s3.heap:=λa ob e=>x3.base a ob (by rw [hB];exact e)
 refine⟨⟨U3 _ _ (b_127 c.w),rfl⟩,?_⟩
 have N3:NOk c.w c Yc g h0 s3.heap 6 (trK dp ln tl 5 nd ad):=S.nok.keep S.tab [] (λb ob _ _ _ e=>k03 b ob e) λb ob vs q e=>S.fm.offFields e q
 have eo3:=k03 _ _ eo
 have hbB:(Bh c.w).get? o=none:=by
  cases q:(Bh c.w).get? o with
  | none=>rfl
  | some ob=>have:=S.fm.base o ob (hB▸q);rw [S.outH.dead]at this;exact no1 this
 have oX:∀k,k<6->∀a∈[(nd k).f,(nd k).d,(nd k).k],a∉[o]:=λk hk a ha m=>by
  obtain rfl:=Q9 m
  obtain⟨⟨fd,q1⟩,_⟩:=N3.fix k hk
  (refine jc (N3.dic k hk) ?_;rintro _ ⟨es,mm,t1,t2,q2,_⟩ _)
  simp only [QD,QG,or_false]at ha
  rcases ha with e | e | e
  ·exact kR eo3 q1 (by(intro h;cases h)) e
  ·exact kR eo3 q2 (by(intro h;cases h)) e
  ·exact S.outK k hk e
 have tvk:∀k,1<=k->tvK tl k=.str (tx []):=λk hk=>by
  cases k with
  | zero=>exact absurd ‹_› (Nat.not_lt_zero _)
  | succ k=>rfl
 have itx:∀ {B:QU},Up c.w B->(∀k,k<6->NdFix c.w B (nd k))->∀A,Room 7 A->ItxC c.prog c.w B A (nd 0).g (jo (trK dp ln tl 5 nd ad) 6 0) (.list (tL L)) (nd 0).f:=λU hn A room=>by
  rw [<-hl]
  exact KA U (T:=trK dp ln tl 5 nd ad) (N:=6) (λj hj k hk=>⟨(S.nok.kdl j hj k hk).1,(S.nok.kdl j hj k hk).2,tvk k (by have:=(S.nok.kdl j hj k hk).1;exact zr6 ‹_›)⟩) hn (λF j hF hj=>Qp (hz F j hF hj) (by decide)) 6 0 (by decide) (by decide) (by decide) A room
 have hL:L.length<=800:=by rw [<-hl];exact hz 6 0 (by decide) (by decide)
 refine ser127 (w:=c.w) (n:=n+7) (X:=[o]) (T:=trK dp ln tl 5 nd ad) (F:=5) (j:=0) (L:=L) (tl:=tl) G.room U3 (λx hx=>by obtain rfl:=Q9 hx;exact⟨_,eo3⟩) (.head _) hbB x3.tk (jr j3 _ _ hb2) eo3 (N3.rep oX 6 0 (by decide) (by decide)) (N3.fix 0 (by decide)) (λA' room'=>itx U3 N3.fix A' (room'.le (by exact Nat.le_add_left _ _))) (by exact zq1 ‹_› rfl) rfl hzt λh4 tk4 vs n4 ht4 ek4 rv4 kp4=>?_
 have f4:Fm c Yc g { s3 with heap:=h4,toks:=tk4 }:=f3.evoL (M:=[o]) (W:=[]) (λm hm=>by obtain rfl:=Q9 hm;exact S.outH) (λm hm=>by obtain rfl:=Q9 hm;exact⟨_,ek4⟩) (λb ob hb e=>kp4 b ob (λq=>hb (Y2.mpr q)) e) λb hb=>nomatch hb
 have fx4:∀k,k<6->NdFix c.w h4 (nd k):=λk hk=>by
  have F:=N3.fix k hk
  refine F.at (λb hb ob e=>kp4 b ob (λq=>?_) e) λb ob vs' q e=>kp4 b ob (λq'=>by subst q';rw [eo3]at e;(have q_:=oi e;clear e;subst q_);cases q) e
  subst q
  obtain⟨⟨fd,q1⟩,q2,⟨cv,ctv,q3,_⟩,oc,q5,q6⟩:=F
  simp only [QD,QG,or_false]at hb
  rcases hb with q | q | q | q
  ·exact kR eo3 (q▸q1) (by(intro h;cases h)) rfl
  ·exact kR eo3 (q▸q2) (by(intro h;cases h)) rfl
  ·exact kR eo3 (q▸q3) (by(intro h;cases h)) rfl
  ·rw [q]at eo3;have:=q5.symm.trans eo3;(have q_:=oi this;clear this;subst q_);cases q6
 have U4:Up c.w h4:=λa ob e=>kp4 a ob (λq=>by subst q;rw [hbB]at e;exact no1 e) (U3 a ob e)
 have le4:∀b ob,hid [o] s3.heap b=Qf ob->hid [] h4 b=Qf ob:=λb ob e=>jl (kp4 b ob (λq=>by subst q;simp [hid]at e) (j9 e)) (by(intro h;cases h))
 have rt:Rep (hid [] h4) (jo (trK dp ln tl 5 nd ad) 6 0) (.ref (nd 0).f):=(N3.rep oX 6 0 (by decide) (by decide)).mono le4
 have ro:Rep (hid [] h4) (.list (tL (L++tlX tl))) (.ref o):=by
  show Exists _
  exact⟨o,_,n4,rfl,jl ek4 (by(intro h;cases h)),rv4 _⟩
 refine QF (YH ?_)
 have at4:=at_free f4 ht4 [Qg,Qg,Qf (kH tl),Qf (jo (trK dp ln tl 5 nd ad) 6 0),Qg,Qg,Qg,Qf (.list (tL (L++tlX tl)))] (λi x av hi hs=>by
  rcases i with _ | _ | _ | _ | _ | _ | _ | _ | i
  ·(have q_:=oi hs;clear hs;cases q_)
  ·(have q_:=oi hs;clear hs;cases q_)
  ·obtain rfl:=oi (oi hs)
   exact⟨_,si 2 _ rfl,λv r=>rep_tl (r.rep (yo tl)) _⟩
  ·obtain rfl:=oi (oi hs)
   exact⟨_,si 3 _ rfl,λv r=>by obtain rfl:=jb (r.rep rfl);exact rt⟩
  ·(have q_:=oi hs;clear hs;cases q_)
  ·(have q_:=oi hs;clear hs;cases q_)
  ·(have q_:=oi hs;clear hs;cases q_)
  ·obtain rfl:=oi (oi hs)
   exact⟨_,si 7 _ rfl,λv r=>by obtain rfl:=jb (r.rep rfl);exact ro⟩
  ·exact no1 hs)
 refine(hre h4 _ (fx4 0 (by decide)) (λp=>PE.var 7 hkf (vi 7 _ rfl) rfl (by decide) (by decide)) (λp=>PE.var 3 hkf (vi 3 _ rfl) rfl (by decide) (by decide)) (λp=>PE.var 2 hkf (vi 2 _ rfl) rfl (by decide) (by decide) (yo tl)) (itx U4 fx4 _ (G.room.le (by exact Nat.le_add_left _ _)))).use at4 λv s5 j5 x5 r5=>?_
 (refine jd r5 ?_;clear r5;rintro t5 rfl)
 refine h t5 s5 (λb ob hb e=>jr j5 b ob (jr f4.kept b ob (by rw [hG];exact ghostM_get? e (by simpa using hb)))) (by(refine jc S.tab ?_;intro ps e _);exact⟨ps,jr j5 _ _ (kp4 171 _ (λq=>qm S.tab eo (λz=>by cases z) q.symm) (k03 _ _ e))⟩) ?_
 (refine jn j5 ?_;intro h5 tk5 e5 _)
 (refine jn j3 ?_;intro ha ta ea _)
 (refine jn j2 ?_;intro hb' tb eb _)
 (refine jn j1 ?_;intro hc' tc ec _)
 subst e5 ea eb ec
 exact⟨_,_,rfl⟩
end
section
variable {c:Ct} {Yc:List Qk} {g s:Qi} {h0:QU} {dp:Nat->Nat} {ln:Nat->List Nat} {tl:Option (List Nat)} {hd o:Qk} {nd:Nat->Nd} {ad as:Nat->Qk}
theorem due_set{E:Qe}{R:Flow->Qi->Prop}{p1 p2 p3 p4 p5 p6 p7 p8 p9 p10 p11 p12 p13 p14 p15 p16 p17 p18 p19 p20 p21 p22 p23 q1 q2:Pos}{k1 k2 k3 k4 k5 k6 k7 k8 k9 k10 k11 k12 k13 k14 k15 k16:Nat}{e0 e1 e2 e3 e4:Expr}
  (he0:e0=.Dict [Qf (.Constant (.str "kind") k1 p1),Qf (.Constant (.str "place") k2 p2)] [.Constant (.str "line") k3 p3,.Constant (.int 0) k4 p4] p5) (he1:e1=.Dict [Qf (.Constant (.str "place") k5 p6)] [.Constant (.int 1) k6 p7] p8) (he2:e2=.Dict [Qf (.Constant (.str "kind") k7 p9),Qf (.Constant (.str "place") k8 p10)] [.Constant (.str "line") k9 p11,.UnaryOp .USub (.Constant (.int 1) k10 p12) p13] p14) (he3:e3=.Dict [Qf (.Constant (.str "kind") k11 p15),Qf (.Constant (.str "place") k12 p16)] [.Constant (.str "line") k13 p17,.Constant (.int 3) k14 p18] p19) (he4:e4=.Dict [Qf (.Constant (.str "place") k15 p20)] [.Constant (.int 4) k16 p21] p22)
  (hst:Qv [e0,e1,e2,e3,e4] c.env=[(false,eval e0 c.env),(false,eval e1 c.env),(false,eval e2 c.env),(false,eval e3 c.env),(false,eval e4 c.env)])
  (hs1:VU (.List [e0,e1,e2,e3,e4] p23) (Qf (.Name "due" q1)) q2.line c.env=pure false)
  (V:Vars c) (hX:c.X=[]) (hv:c.vars=xj) (S:GS c Yc g h0 dp ln tl hd o 5 nd ad s)
  (h:∀as s',(∀k,k<5->AtK c.prog c.w s'.heap (as k) k/\s.heap.get? (as k)=Qg)->GS (c.up c.X (c.σ.set 12 (Qf (JK as 5)))) Yc g h0 dp ln tl hd o 5 nd ad s'->(∃h' tk,s'={ s with heap:=h',toks:=tk })->R .next s') :
  Qo c.M c.A (exec (.Assign [.Name "due" q1] (.List [e0,e1,e2,e3,e4] p23) q2) c.env) R E s:=by
 refine X4 (due_eval (p24:=p23) (S.fm.at S.tk) he0 he1 he2 he3 he4 (λas l m h1 tk1 ht1 ha hl el kp=>?_) hst) hs1
 have f1:Fm c Yc g { s with heap:=h1,toks:=tk1 }:=S.fm.keeps ⟨h1,tk1,rfl,kp⟩
 have dead:∀a,s.heap.get? a=Qg->a∉c.X++c.Yf Yc:=λa e m=>by
  (refine jd (S.fm.live a m) ?_;intro ob q)
  rw [e]at q;exact no1 q
 have r:Rep (hid (c.X++c.Yf Yc) h1) (JK as 5) (.ref l):=by
  show Exists _
  exact⟨l,_,m,rfl,jl el (dead l hl),vB λk hk=>vC⟩
 refine QB (n:=1) ht1 (f1.store V (i:=12) (by rw [hv];rfl) (.of r) λs2 g2 f2 ht2=>?_)
 have own:∀ {a},a∈Own c->a∈c.X++c.Yf Yc:=λ{a} m=>by
  rcases Qa m with m | m
  ·exact Q8 _ m
  ·refine Q7 _ ?_
   rcases Qb m with rfl | m
   ·exact .head _
   ·exact .tail _ (Q8 _ m)
 have k2:∀b ob,Off c b->h1.get? b=Qf ob->s2.heap.get? b=Qf ob:=λb ob ob' e=>g2.get b ob (λm=>by
  unfold Own at m
  rw [hX]at m
  rcases Qb m with m | m
  ·exact ob'.1 m
  ·exact ob'.2 m) e
 (refine jn g2 ?_;clear g2;rintro h2 tk2 rfl kk2)
 refine h as _ (λk hk=>⟨(ha k hk).1.at λob e=>kk2 _ _ (λm=>dead _ (ha k hk).2 (own m)) e,(ha k hk).2⟩) (S.st f2 ht2 λb ob o1 e=>k2 b ob o1 (kp _ _ e)) ⟨h2,tk2,rfl⟩
theorem four_if{n:Nat}{E:Qe}{R:Flow->Qi->Prop}{sc:Scope}{cl:List (Qd×Qk)}{ed e2:Expr}{y8 y9 y10 y11:Option AV}{p1 p2 p3 p4 p5 p6 p7 p8 p9 p10 p11 p12 p13 p14 p15 p16 p17 p18 p19 p20 p21 p22 p23 p24 p25 q1 q2 q3 q4 q5:Pos}{k0 k1 k2 k3 k4 k5 k6:Nat}
  (hB:c.B=Bh c.w) (G:Gd c (n+1) (mg c.w) (mb c.w)) (V:Vars c) (hv:c.vars=xj) (hki:c.env.kindOf "iselement"=Qf .globalImplicit) (ok:CmOk c sc ["element"] [] cl)
  (hσ:c.σ=sgG dp ln tl nd hd o 5 y8 y9 y10 y11 (Qf (JK as 5))) (S:GS c Yc g h0 dp ln tl hd o 5 nd ad s) (hs:(hd==Vc)=false)
  (ha:∀k,k<5->AtK c.prog c.w s.heap (as k) k/\as k≠ad (k+1)/\(as k==Vc)=false)
  (hed:ed=.Dict [Qf (.Constant (.str "kind") k1 p14),Qf (.Constant (.str "place") k2 p15)] [.Constant (.str "line") k3 p16,e2] p17) (he2:e2=.UnaryOp .USub (.Constant (.int 1) k5 q1) q2) (hm:Yp .NotEq ed=false)
  (h:∀s',GS c Yc g h0 dp ln tl hd o 5 nd ad s'->(∃h' tk,s'={ s with heap:=h',toks:=tk })->R .next s')
  (hf:∀x,QN (.Name "grown" p4) c.env x=pure x:=by intro _;rfl) :
  Qo c.M c.A (exec (.If (.BoolOp .Or [.Compare (.ListComp (.Attribute (.Name "element" p1) "attrib" p2) [⟨.Name "element" p3,.Name "grown" p4,[],0⟩] sc p5) [.NotEq] [.Name "due" p6] p7,
   .Compare (.Attribute (.Subscript (.Name "grown" p8) (.Constant (.int 2) k0 p9) p10) "attrib" p11) [.Is] [.Name "handed" p12] p13,
   .Compare (.Name "handed" p18) [.NotEq] [ed] p19,
   .Compare (.Call (.Name "iselement" p20) [.Name "handed" p21] [] p22) [.IsNot] [.Constant (.bool false) k4 p23] p24] p25) [.Return (Qf (.Constant (.str "") k6 q3)) q4] [] q5) c.env) R E s:=by
 have x:=S.fm.at S.tk
 have hkf:=S.fm.kind
 have U:Up c.w s.heap:=λa ob e=>x.base a ob (by rw [hB];exact e)
 (refine jN S.hand ?_;intro t t' Dh)
 have vi:∀(j:Nat) (x:Qd),xj[j]?=Qf x->c.vars[j]?=Qf x:=λj x e=>by rw [hv];exact e
 have si:∀(j:Nat) (a:Option AV),(sgG dp ln tl nd hd o 5 y8 y9 y10 y11 (Qf (JK as 5)))[j]?=Qf a->c.σ[j]?=Qf a:=λj a e=>by rw [hσ];exact e
 refine wpAny_If ((pt_four (c:=c.here s) (n:=n) (as:=as) (nd:=nd) (ad:=ad) rfl (G.here x) U ok.here hki (λp=>.var 6 hkf (vi 6 _ rfl) (si 6 _ rfl) (by decide) (by decide)) (λp=>.var 12 hkf (vi 12 _ rfl) (si 12 _ rfl) (by decide) (by decide)) (λp=>.var 4 hkf (vi 4 _ rfl) (si 4 _ rfl) (by decide) (by decide))
  (λk hk=>?_) Dh (λk hk=>⟨(S.adk k hk).1,(S.adH k hk).1⟩) (λk hk=>⟨(ha k hk).1,(ha k hk).2.1⟩) hs (λ{h d} kk e=>qY (λa ob q=>kk a ob (U a ob q)) e) (λk hk=>⟨(S.adH k hk).2,(ha k hk).2.2⟩) hed (he2▸.neg .int) hm hf).use x.here λs2 j2 x2=>?_)
 ·refine e1_4 (S.nok.fnat (k:=k+1) (by exact V4 ‹_›)) ?_;intro vals P _ v1 _
  exact⟨_,vals,P,v1⟩
 ·(refine jn j2 ?_;clear j2;rintro h2 tk2 rfl kk2)
  refine Vm ?_
  have f2:=S.fm.keeps (s':={ s with heap:=h2,toks:=tk2 }) ⟨h2,tk2,rfl,kk2⟩
  exact h _ (S.st f2 x2.tk λb ob _ e=>kk2 _ _ e) ⟨h2,tk2,rfl⟩
end
noncomputable abbrev Q4(w:Ql):FuncData:=vx (o_221 w.params)
theorem n208(w:Ql):Names (Q4 w) xj:=.of (by kernel_rfl)
theorem b_208(w:Ql):(Bh w).get? 208=Qf (o_221 w.params):=by kernel_rfl
theorem d208(w:Ql):∃body,Df (Bh w) 208 (o_221 w.params) (Q4 w) body ["depths","lines","tail"] ["root","handed","trail","grown","out","place","line","owner","element","due"]/\(Q4 w).body=.stmts body:=by
 refine⟨_,⟨b_208 w,rfl,rfl,rfl,ji (by kernel_rfl),n208 w,λvs h=>?_⟩,rfl⟩
 (refine e3_1 (vL h) ?_;rintro u v x rfl);rfl
noncomputable def grT(ln:Nat->List Nat)(tl:Option (List Nat)):List Nat:=((Qj 5).flatMap ln)++tl.getD []
theorem tlX_flat(tl:Option (List Nat)):(tlX tl).flatten=tl.getD []:=by
 cases tl with
 | none=>rfl
 | some t=>by_cases e:t=[]<;>simp [tlX,e]
theorem J6{l:List Nat}(hl:l∈outl)(ln:Nat->List Nat)(tl:Option (List Nat))(nd:Nat->Nd)(ad:Nat->Qk):(jB (trK (jt l) ln tl 5 nd ad) 6 0++tlX tl).flatten=grT ln tl:=by
 rw [List.flatten_append,tlX_flat,qp,xW]
 show((yG (kdK (jt l) 5) 6 0).filterMap id).flatMap (txK ln)++_=_
 rw [(xU l hl).2.2]
 simp [grT,txK,Xg]
theorem iter_ok{l:List Nat}(hl:l∈outl)(ln:Nat->List Nat)(tl:Option (List Nat))(nd:Nat->Nd)(ad:Nat->Qk)(h:∀k,k<5->Vf (tx (ln k))=true)(ht:∀t,tl=Qf t->Vf (tx t)=true):∀x∈jB (trK (jt l) ln tl 5 nd ad) 6 0++tlX tl,Vf (tx x)=true:=by
 have h0:Vf (tx [])=true:=by kernel_rfl
 intro x hx
 rcases Qa hx with hx | hx
 ·rw [qp]at hx
  (refine jc (Qw.mp hx) ?_;rintro a ha rfl)
  cases a with
  | none=>exact h0
  | some k =>
   have hk:k∈(yG (kdK (jt l) 5) 6 0).filterMap id:=List.mem_filterMap.mpr ⟨Qf k,ha,rfl⟩
   rw [(xU l hl).2.2]at hk
   show Vf (tx (txK ln k))=true
   simp only [QD,QG,or_false]at hk
   rcases hk with rfl | rfl | rfl | rfl | rfl | rfl
   ·exact h0
   ·exact h 0 (by decide)
   ·exact h 1 (by decide)
   ·exact h 2 (by decide)
   ·exact h 3 (by decide)
   ·exact h 4 (by decide)
 ·cases tl with
  | none=>simp [tlX]at hx
  | some t =>
   by_cases e:t=[]
   ·simp [tlX,e]at hx
   ·simp [tlX,e]at hx;exact hx▸ht t rfl
section
variable {c:Ct} {Yc:List Qk} {g s:Qi} {h0:QU} {dp:Nat->Nat} {ln:Nat->List Nat} {tl:Option (List Nat)} {hd o:Qk} {i:Nat} {nd nd':Nat->Nd} {ad:Nat->Qk}
theorem trL_eq(e:∀k,k<i+1->nd' k=nd k):trL dp nd' i=trL dp nd i:=by
 show AV.list _=AV.list _
 exact congrArg AV.list (VI λj hj=>by rw [e j (by have:=xI dp i j hj;exact V4 ‹_›)])
theorem grL_eq(e:∀k,k<i+1->nd' k=nd k):grL nd' i=grL nd i:=by
 show AV.list _=AV.list _
 exact congrArg AV.list (VI λj hj=>by rw [e (j+1) (by have:=Qc hj;exact V4 ‹_›)])
end
section
variable {c:Ct} {Yc:List Qk} {g s:Qi} {h0:QU} {dp:Nat->Nat} {ln:Nat->List Nat} {tl:Option (List Nat)} {hd o:Qk} {nd:Nat->Nd} {ad:Nat->Qk}
theorem Gd.up'{n:Nat}{mg mb:Qd->Option Qm}{X:List Qk}{σ:List (Option AV)}(G:Gd c n mg mb):Gd (c.up X σ) n mg mb:=⟨G.kind,G.glob,G.blt,G.ns,G.bs,G.lim,G.room⟩
theorem CmOk.up'{X:List Qk}{σ:List (Option AV)}{sc:Scope}{own:List Qd}{fr:List Nat}{cl:List (Qd×Qk)}(ok:CmOk c sc own fr cl):CmOk (c.up X σ) sc own fr cl :=
 ⟨ok.hcl,ok.kind,ok.nd,λC=>⟨(ok.S C).kind,(ok.S C).nd,(ok.S C).kd,(ok.S C).fk⟩⟩
theorem KF{n:Nat}{E:Qe}{Q:Qe}{L:List (List Nat)}{sc:Scope}{cl:List (Qd×Qk)}{y8 y9 y10 y11:Option AV}{ed eu:Expr}
  {p1 p2 p3 p4 p5 p6 p7 p8 p9 p10 p11 p12 p13 p14 p15 p16 p17 p18 p19 p20 p21 p22 p23 q1 q2:Pos} {k1 k2 k3 k4 k5 k6 k7 k8 k9 k10 k11 k12 k13 k14 k15 k16:Nat} {e0 e1 e2 e3 e4:Expr}
  {a1 a2 a3 a4 a5 a6 a7 a8 a9 a10 a11 a12 a13 a14 a15 a16 a17 a18 a19 a20 a21 a22 a23 a24 a25 b1 b2 b3 b4 b5 c0 c1 c2 c3 c4 c5 rp:Pos} {j0 j1 j2 j3 j4 j5 j6:Nat} {re:Expr}
  (he0:e0=.Dict [Qf (.Constant (.str "kind") k1 p1),Qf (.Constant (.str "place") k2 p2)] [.Constant (.str "line") k3 p3,.Constant (.int 0) k4 p4] p5) (he1:e1=.Dict [Qf (.Constant (.str "place") k5 p6)] [.Constant (.int 1) k6 p7] p8) (he2:e2=.Dict [Qf (.Constant (.str "kind") k7 p9),Qf (.Constant (.str "place") k8 p10)] [.Constant (.str "line") k9 p11,.UnaryOp .USub (.Constant (.int 1) k10 p12) p13] p14) (he3:e3=.Dict [Qf (.Constant (.str "kind") k11 p15),Qf (.Constant (.str "place") k12 p16)] [.Constant (.str "line") k13 p17,.Constant (.int 3) k14 p18] p19) (he4:e4=.Dict [Qf (.Constant (.str "place") k15 p20)] [.Constant (.int 4) k16 p21] p22)
  (hst:Qv [e0,e1,e2,e3,e4] c.env=[(false,eval e0 c.env),(false,eval e1 c.env),(false,eval e2 c.env),(false,eval e3 c.env),(false,eval e4 c.env)])
  (hs1:VU (.List [e0,e1,e2,e3,e4] p23) (Qf (.Name "due" q1)) q2.line c.env=pure false)
  (hB:c.B=Bh c.w) (G:Gd c (n+8) (mg c.w) (mb c.w)) (V:Vars c) (hX:c.X=[]) (hv:c.vars=xj) (hks:c.env.kindOf "_serialize_text"=Qf .globalImplicit) (hki:c.env.kindOf "iselement"=Qf .globalImplicit) (hint:Zg c.env=false) (ok:CmOk c sc ["element"] [] cl)
  (hσ:c.σ=sgG dp ln tl nd hd o 5 y8 y9 y10 y11 Qg) (S:GS c Yc g h0 dp ln tl hd o 5 nd ad s) (hs:(hd==Vc)=false)
  (hed:ed=.Dict [Qf (.Constant (.str "kind") j1 a14),Qf (.Constant (.str "place") j2 a15)] [.Constant (.str "line") j3 a16,eu] a17) (heu:eu=.UnaryOp .USub (.Constant (.int 1) j5 b1) b2) (hm:Yp .NotEq ed=false)
  (hl:jB (trK dp ln tl 5 nd ad) 6 0=L) (hz:∀F j,F<=6->j<6->(jB (trK dp ln tl 5 nd ad) F j).length<=800) (hzt:∀t,tl=Qf t->t.length<=1000)
  (hre:∀(B:QU) (σ2:List (Option AV)),NdFix c.w B (nd 0)->(∀p,PE ({ c with B:=B,X:=[],σ:=σ2 }:Ct) (.Name "out" p) (.list (tL (L++tlX tl))))->(∀p,PE ({ c with B:=B,X:=[],σ:=σ2 }:Ct) (.Name "root" p) (jo (trK dp ln tl 5 nd ad) 6 0))->(∀p,PE ({ c with B:=B,X:=[],σ:=σ2 }:Ct) (.Name "tail" p) (kH tl))->ItxC c.prog c.w B c.A (nd 0).g (jo (trK dp ln tl 5 nd ad) 6 0) (.list (tL L)) (nd 0).f->PE ({ c with B:=B,X:=[],σ:=σ2 }:Ct) re (.str (tx (L++tlX tl).flatten)))
  (h:∀t s',Kp h0 s'.heap->(∃ps,s'.heap.get? 171=Qf (Zy ps))->(∃h' tk,s'={ s with heap:=h',toks:=tk })->Q (.str (tx (L++tlX tl).flatten) t) s') (hG:g.heap=hideAll h0 [171])
  (hf:∀x,QN (.Name "grown" a4) c.env x=pure x)
  (he:eval (.Call (.Name "_serialize_text" c0) [.Attribute (.Name "out" c1) "append" c2,.Name "root" c3] [] c4) c.env=(do VL c4 (<-eval (.Name "_serialize_text" c0) c.env) [] (VO c4 (Qv [.Attribute (.Name "out" c1) "append" c2,.Name "root" c3] c.env)) (VE c4 (V3 [] c.env))))
  (hst2:Qv [.Attribute (.Name "out" c1) "append" c2,.Name "root" c3] c.env=[(false,eval (.Attribute (.Name "out" c1) "append" c2) c.env),(false,eval (.Name "root" c3) c.env)])
  (hsw:VU (.Call (.Name "_serialize_text" c0) [.Attribute (.Name "out" c1) "append" c2,.Name "root" c3] [] c4) Qg c5.line c.env=pure false) :
  Wz c.M c.A (execs [.Assign [.Name "due" q1] (.List [e0,e1,e2,e3,e4] p23) q2,
   .If (.BoolOp .Or [.Compare (.ListComp (.Attribute (.Name "element" a1) "attrib" a2) [⟨.Name "element" a3,.Name "grown" a4,[],0⟩] sc a5) [.NotEq] [.Name "due" a6] a7,
   .Compare (.Attribute (.Subscript (.Name "grown" a8) (.Constant (.int 2) j0 a9) a10) "attrib" a11) [.Is] [.Name "handed" a12] a13,
   .Compare (.Name "handed" a18) [.NotEq] [ed] a19,
   .Compare (.Call (.Name "iselement" a20) [.Name "handed" a21] [] a22) [.IsNot] [.Constant (.bool false) j4 a23] a24] a25) [.Return (Qf (.Constant (.str "") j6 b3)) b4] [] b5,
   .Expr (.Call (.Name "_serialize_text" c0) [.Attribute (.Name "out" c1) "append" c2,.Name "root" c3] [] c4) c5,.Return (Qf re) rp] c.env) (λfl s'=>match fl with | .ret v=>Q v s' | .next=>Q .none s' | _=>False) E s:=by
 show Qo _ _ _ _ _ _
 refine QF (due_set he0 he1 he2 he3 he4 hst hs1 V hX hv S λas s4 ha S2 eq2=>?_)
 have eσ:c.σ.set 12 (Qf (JK as 5))=sgG dp ln tl nd hd o 5 y8 y9 y10 y11 (Qf (JK as 5)):=by rw [hσ];rfl
 rw [eσ]at S2
 have ne:∀k,k<5->as k≠ad (k+1):=λk hk q=>by
  (refine jc ((S.adk k hk).1) ?_;rintro kvs ⟨ob,_,_,e,_⟩ _)
  rw [<-q,(ha k hk).2]at e;exact no1 e
 have U:Up c.w s.heap:=λa ob e=>(S.fm.at S.tk).base a ob (by rw [hB];exact e)
 refine QF (four_if (c:=c.up c.X (sgG dp ln tl nd hd o 5 y8 y9 y10 y11 (Qf (JK as 5)))) (n:=n+7) hB G.up' V.up hv hki ok.up' rfl S2 hs (λk hk=>⟨(ha k hk).1,ne k hk,qY U (ha k hk).2⟩) hed heu hm (λs5 S3 eq3=>?_) hf)
 refine KD (c:=c.up c.X (sgG dp ln tl nd hd o 5 y8 y9 y10 y11 (Qf (JK as 5)))) (n:=n) hB G.up' hv hks hint rfl S3 hl hz hzt hre (λt s6 kp l171 eq4=>h t s6 kp l171 ?_) hG he hst2 hsw
 (refine jN eq2 ?_;clear eq2;rintro h4 t4 rfl)
 (refine jN eq3 ?_;clear eq3;rintro h5 t5 rfl)
 (refine jN eq4 ?_;clear eq4;rintro h6 t6 rfl)
 exact⟨h6,t6,rfl⟩
end
theorem grown208{w:Ql}{prog:QI}{A:QO}{n:Nat}{X:List Qk}{s:Qi}{E:Qe}{Q:Qe}{l:List Nat}{ln:Nat->List Nat}{tl:Option (List Nat)}{vs:List Qm}(hl:l∈outl)(room:Room (n+9) A)
  (hB:∀a o,(Bh w).get? a=Qf o->s.heap.get? a=Qf o) (hX:∀x∈X,∃o,s.heap.get? x=Qf o) (h171:171∈X) (htk:1<=s.toks) (T:TabOk s.heap) (hr:Reps (hid X s.heap) [dpL (jt l),lnL ln,kH tl] vs)
  (hzt:∀t,tl=Qf t->t.length<=1000) (hzf:(grT ln tl).length<=10000) (hok:∀k,k<5->Vf (tx (ln k))=true) (hokt:∀t,tl=Qf t->Vf (tx t)=true)
  (h:∀t s',Kp s.heap s'.heap->(∃ps,s'.heap.get? 171=Qf (Zy ps))->(∃h' tk,s'={ s with heap:=h',toks:=tk })->Q (.str (tx (grT ln tl)) t) s') :
  Qo (model prog w) A (call (.ref 208) vs) Q E s:=by
 obtain⟨body,D,hbody⟩:=d208 w
 refine yc [171] D room (avs:=[dpL (jt l),lnL ln,kH tl]) rfl hB (λm hm=>by obtain rfl:=Q9 hm;exact Jn w) hX htk hr λE' s₁ ht₁ ks f₁=>?_
 have V:=(n208 w).cV (a:=208) (prog:=prog) (w:=w) (A:=A) (L:=s.heap.objs.size)
 have G:=(n208 w).cG (a:=208) (w:=w) (prog:=prog) (L:=s.heap.objs.size) room rfl rfl
 obtain⟨ps,h171',_⟩:=id T
 have H1:HidOk (cx (Q4 w) 208 xj prog w A s.heap.objs.size [] (s0g (dpL (jt l)) (lnL ln) (kH tl))) X (qq s [171]) 171:=by
  have o:=f₁.offLt (jg h171')
  exact⟨h171,Zu _ (.head _),o.1,o.2⟩
 have T1:TabOk s₁.heap:=T.keeps λb o e=>jr ks b o e
 have hG:∀b ob,s.heap.get? b=Qf ob->b=171∨∃o',(qq s [171]).heap.get? b=Qf o':=λb ob e=>by
  by_cases q:b=171
  ·exact .inl q
  ·exact .inr ⟨ob,ghostM_get? e (by simpa using q)⟩
 obtain⟨O1,O2,_⟩:=xU l hl
 cases hbody
 refine zu (p15:=⟨0,0,0,0⟩) (n:=n+5) (c:=cx (Q4 w) 208 xj prog w A s.heap.objs.size [] (s0g (dpL (jt l)) (lnL ln) (kH tl))) rfl rfl rfl rfl rfl (G _ _) (V _ _) rfl rfl rfl rfl f₁ ht₁ H1 T1 hG (λnd0 ad0 hd o Y0 s2 hsys S0 eq0=>?_)
 refine QF (KE (c:=cx (Q4 w) 208 xj prog w A s.heap.objs.size [] (sgG (jt l) ln tl nd0 hd o 0 Qg Qg Qg Qg Qg)) (n:=n+8) (G _ _) (V _ _) rfl rfl rfl rfl S0 ?_ (λnd ad Y1 y8 y9 y10 y11 s3 e0 S1 eq1=>?_))
 ·intro i nd ad Yc s4 E4 y10 y11 y12 hi S4
  refine turn_a (a8:=⟨0,0,0,0⟩) (n:=n+5) (c:=cx (Q4 w) 208 xj prog w A s.heap.objs.size [] (sgG (jt l) ln tl nd hd o i (Qf (.int i)) (Qf (.str (tx (ln i)))) y10 y11 y12)) rfl (G _ _) (V _ _) rfl rfl rfl rfl hi (O1 i hi).1 S4 hG hsys (λnw aw W s5 S5 kp5 eq5 lk5=>?_)
  have en:∀k,k<i+1->kG nd (i+1) nw k=nd k:=λk hk=>v9 hk
  have eσ:sgG (jt l) ln tl nd hd o i (Qf (.int i)) (Qf (.str (tx (ln i)))) (Qf (.raw (.ref (nd (qF (jt l) i)).f))) (Qf (.raw (.ref nw.f))) y12=sgG (jt l) ln tl (kG nd (i+1) nw) hd o i (Qf (.int i)) (Qf (.str (tx (ln i)))) (Qf (.raw (.ref (kG nd (i+1) nw (qF (jt l) i)).f))) (Qf (.raw (.ref (kG nd (i+1) nw (i+1)).f))) y12:=by
   unfold sgG;rw [trL_eq en,grL_eq en,en 0 (by exact Vn _),en _ (V4 (zV (jt l) i)),jG]
  rw [eσ]at S5
  refine turn_b (q21:=⟨0,0,0,0⟩) (n:=n+5) (c:=cx (Q4 w) 208 xj prog w A s.heap.objs.size [] (sgG (jt l) ln tl (kG nd (i+1) nw) hd o i (Qf (.int i)) (Qf (.str (tx (ln i)))) (Qf (.raw (.ref (kG nd (i+1) nw (qF (jt l) i)).f))) (Qf (.raw (.ref (kG nd (i+1) nw (i+1)).f))) y12)) (nw:=nw) (own:=qF (jt l) i) (nd:=kG nd (i+1) nw) (ad:=kG ad (i+1) aw) rfl (G _ _) (V _ _) rfl rfl rfl rfl rfl hi (O1 i hi).2 S5 (λs6 S6 kp6 eq6=>⟨rfl,kG nd (i+1) nw,kG ad (i+1) aw,W,_,_,en,S6,λb ob o1 n1 n2 e=>kp6 b ob o1 (kp5 b ob o1 n1 n2 e),?_,λb ob o1 e=>by rw [jG];exact lk5 b ob o1 e⟩)
  obtain⟨h5,t5,rfl⟩:=eq5
  obtain⟨h6,t6,rfl⟩:=eq6
  exact⟨h6,t6,rfl⟩
 ·obtain⟨h2,t2,rfl⟩:=eq0
  obtain⟨h3,t3,rfl⟩:=eq1
  obtain⟨h1,t1,rfl,_⟩:=ks
  refine KF (c:=cx (Q4 w) 208 xj prog w A s.heap.objs.size [] (sgG (jt l) ln tl nd hd o 5 y8 y9 y10 y11 Qg)) (n:=n) (L:=jB (trK (jt l) ln tl 5 nd ad) 6 0) rfl rfl rfl rfl rfl rfl rfl rfl (G _ _) (V _ _) rfl rfl rfl rfl rfl (CmOk.of (by kernel_rfl)) rfl S1 hsys rfl rfl rfl rfl (λF j hF hj=>?_) hzt (λB σ2 fx qo qr qt it=>?_) (λt s6 kp l171 eq4=>?_) rfl (λ_=>rfl) rfl rfl rfl
  ·rw [qp,Qy]
   exact O2 F (by exact V4 ‹_›) j hj
  ·have hz6:(jB (trK (jt l) ln tl 5 nd ad) 6 0).length<=900:=by
    rw [qp,Qy]
    exact Qp (O2 6 (by decide) 0 (by decide)) (by decide)
   exact ret_pe (c:={ prog:=prog,w:=w,B:=B,A:=A.deeper (QY (Q4 w) s.heap.objs.size 208),env:=QY (Q4 w) s.heap.objs.size 208,vars:=xj,X:=[],σ:=σ2 }) (n:=n+7) (T:=trK (jt l) ln tl 5 nd ad) room.deeper qo qr qt fx it hz6 hzt (by rw [J6 hl];exact hzf) (iter_ok hl ln tl nd ad hok hokt)
  ·obtain⟨h6,t6,rfl⟩:=eq4
   rw [J6 hl]
   exact h t _ kp l171 ⟨h6,t6,rfl⟩
theorem g_203(w:Ql):mg w "_law_read"=Qf (.ref 203):=by kernel_rfl
theorem b_203(w:Ql):(Bh w).get? 203=Qf (o_216 w.params):=by kernel_rfl
theorem g_198(w:Ql):mg w "_law_page"=Qf (.ref 198):=by kernel_rfl
theorem b_198(w:Ql):(Bh w).get? 198=Qf (o_211 w.params):=by kernel_rfl
theorem pg_at(pg:Nat->List Nat){k:Nat}(h:k<6):(tL ((Qj 6).map pg))[k]?=Qf (.str (tx (pg k))):=by simp [tL,h]
theorem l9(w:Ql):∀prog A n L (sc cells one two draw own other signs names hand row:AV) (pg:Nat->List Nat) (nums r1 r2:List Int),Room (n+3) A ->
  (∀A n,Room (n+2) A->Cal prog w (Bh w) A (.ref 203) [.str (tx (pg 0)),.list (iL nums)] (.tup [.list (iL r1),.list (iL r2)])) ->
  X1 (LC w prog A L [Qf sc,Qf cells,Qf one,Qf two,Qf draw,Qg,Qf own,Qf other,Qf signs,Qf (.list (iL nums)),Qf names,Qf hand,Qf row,Qg,Qf (pg6 pg),Qg,Qg,Qg,Qg,Qg,Qg,Qg,Qg,Qg,Qg,Qg,Qg,Qg,Qg,Qg,Qg]) (stL w 9)
   (λo=>o=.nx [] [Qf sc,Qf cells,Qf one,Qf two,Qf draw,Qg,Qf own,Qf other,Qf signs,Qf (.list (iL nums)),Qf names,Qf hand,Qf row,Qg,Qf (pg6 pg),Qf (.tup [.list (iL r1),.list (iL r2)]),Qf (nmF λk=>pg (k+1)),Qg,Qg,Qg,Qg,Qg,Qg,Qg,Qg,Qg,Qg,Qg,Qg,Qg,Qg]):=by
 refine λprog A n L sc cells one two draw own other signs names hand row pg nums r1 r2 room hc=>?_
 have V:=(jL w).cV (a:=225) (prog:=prog) (w:=w) (A:=A) (L:=L)
 have G:=(jL w).cG (a:=225) (w:=w) (prog:=prog) (L:=L) room rfl rfl
 refine X1.tupA (V _ _) room.deeper.1 (.cons 15 rfl (.cons 16 rfl .nil)) (.tup (.cons (.callF (.g (G _ _) (g_203 w)) (.cons (.itemL (.list (.v 14 rfl)) .int 0 rfl (pg_at pg (by decide)) (by decide)) (.cons (.v 9 rfl) .nil)) (b_203 w) rfl (hc _ n room.deeper)) (.cons (.slc (.list (.v 14 rfl)) (.some .int) .none ((xh 1).trans ?_) ?_) .nil)) (show 2<=Qt by decide)) rfl
 ·simp [tL,Xg]
 ·simp [tL,Qt]
theorem Jj{c:Ct}{n:Nat}(room:Room n c.A)(l:List (List Nat))(hok:∀x∈l,Vf (tx x)=true):jX c .NotEq (.list (tL l)) (.list (tL l)) false:=by
 have e:toD (.list (tL l))=Qf (.list (l.map λx=>XB (tx x))):=by rw [Jq,JR];rfl
 have sh:VR (.list (l.map λx=>XB (tx x)))=true:=by
  (refine jw (Ku l hok) ?_;intro a b)
  simp [VR,Xr,XQ,a];exact zq1 ‹_› rfl
 have:=zC room e e sh sh
 rwa [show Xh (.list (l.map λx=>XB (tx x))) (.list (l.map λx=>XB (tx x)))=true from by simp [Xh,KM]]at this
theorem cmp_neII{c:Ct}{n:Nat}(room:Room n c.A)(a b:List Int):jX c .NotEq (.tup [.list (iL a),.list (iL b)]) (.tup [.list (iL a),.list (iL b)]) false:=by
 have e:toD (.tup [.list (iL a),.list (iL b)])=Qf (.tuple [.list (a.map .int),.list (b.map .int)]):=by simp [toD_t,JQ,JP,Jq,yn]
 have sh:VR (.tuple [.list (a.map .int),.list (b.map .int)])=true:=by
  (refine jw (xy a) ?_;intro a1 b1)
  (refine jw (xy b) ?_;intro a2 b2)
  simp [VR,Xr,Xq,XQ,Xf,a1,a2];lia
 have:=zC room e e sh sh
 rwa [show Xh (.tuple [.list (a.map .int),.list (b.map .int)]) (.tuple [.list (a.map .int),.list (b.map .int)])=true from by simp [Xh,Yq,Jg]]at this
theorem l10(w:Ql):∀prog A n L (sc one draw own other signs hand words:AV) (ks:Nat->Int) (d:Nat->Nat) (nums:List Int) (nm:Nat->List Nat) (row:List Nat) (pg:Nat->List Nat),Room (n+3) A->row.length<=60->(∀k,k<5->(nm k).length<=3) ->
  (∀k,k<6->pg k=qE (xm ks) (xG row nm k))->(∀k,k<6->Vf (tx (pg k))=true) ->
  X1 (LC w prog A L [Qf sc,Qf (kL ks),Qf one,Qf (dnL d),Qf draw,Qg,Qf own,Qf other,Qf signs,Qf (.list (iL nums)),Qf (nmF nm),Qf hand,Qf (.str (tx row)),Qg,Qf (pg6 pg),Qf (.tup [dnL d,.list (iL nums)]),Qf words,Qg,Qg,Qg,Qg,Qg,Qg,Qg,Qg,Qg,Qg,Qg,Qg,Qg,Qg]) (stL w 10)
   (λo=>o=.nx [] [Qf sc,Qf (kL ks),Qf one,Qf (dnL d),Qf draw,Qg,Qf own,Qf other,Qf signs,Qf (.list (iL nums)),Qf (nmF nm),Qf hand,Qf (.str (tx row)),Qg,Qf (pg6 pg),Qf (.tup [dnL d,.list (iL nums)]),Qf words,Qg,Qg,Qg,Qg,Qg,Qg,Qg,Qg,Qg,Qg,Qg,Qg,Qg,Qg]):=by
 refine λprog A n L sc one draw own other signs hand words ks d nums nm row pg room hr hn hpg hok=>?_
 have V:=(jL w).cV (a:=225) (prog:=prog) (w:=w) (A:=A) (L:=L)
 have G:=(jL w).cG (a:=225) (w:=w) (prog:=prog) (L:=L) room rfl rfl
 (refine jw (zr ks) ?_;intro k1 k2)
 refine X1.ite (b:=false) (PT.as' (.or (.cmp (a:=pg6 pg) (b:=pg6 pg) (.v 14 rfl) ((PE.map1 (ys:=Qj 6) (fr:=[1]) (.of (by kernel_rfl)) (λk:Nat=>.str (tx (xG row nm k))) (λk=>.str (tx (qE (xm ks) (xG row nm k)))) (pi_all room.deeper.1 (.v 12 rfl) (.v 10 rfl)) (λok C k hk=>?_) (by decide)).as ?_) (Jj room.deeper _ ?_)) λ_=>.or (.cmp (.v 15 rfl) (.tup (.cons (.v 3 rfl) (.cons (.v 9 rfl) .nil)) (show 2<=Qt by decide)) (cmp_neII room.deeper _ _)) λ_=>.or_nil) rfl) (λq=>nomatch q) λ_=>XS.nil rfl
 ·have hk6:=Qc hk
  have G1:=(G _ _).cc ok C [Qf (.str (tx (xG row nm k)))]
  refine .callF (.g G1 (g_198 w)) (.cons (.v 0 rfl) (.cons ((PE.mod (.itemL (.list (.v 1 rfl)) .int 3 rfl (vW ks (by decide)) (by decide)) .int (by decide)).as (by rw [k1])) .nil)) (b_198 w) rfl (cal198 room.deeper _ _ (Qp (Q3 hr hn hk6) (by decide)) k2)
 ·show AV.list _=AV.list (tL ((Qj 6).map pg))
  congr 1
  rw [tL,Xp]
  exact VI λk hk=>by show AV.str (tx (qE _ _))=AV.str (tx (pg k));rw [hpg k (Qc hk)]
 ·intro x hx
  (refine jc (Qw.mp hx) ?_;rintro k hk rfl)
  exact hok k (Qc hk)
theorem g_193(w:Ql):mg w "_law_lead"=Qf (.ref 193):=by kernel_rfl
theorem b_193(w:Ql):(Bh w).get? 193=Qf (o_206 w.params):=by kernel_rfl
theorem g_188(w:Ql):mg w "_law_ends"=Qf (.ref 188):=by kernel_rfl
theorem b_188(w:Ql):(Bh w).get? 188=Qf (o_201 w.params):=by kernel_rfl
theorem g_215(w:Ql):mg w "_law_told"=Qf (.ref 215):=by kernel_rfl
theorem pow5:∀k:Nat,k<5->((5:Int)^k).natAbs<1073741824/\(YW 5:Int)*k<=2^27/\0<(5:Int)^k:=by decide +kernel
structure Run3 (r:List Int):Prop where
 len:r.length=3
 bd:∀x∈r,0<=x/\x<=2
theorem qT{d:Nat}{r:List Int}{cell:Int}(hd:d<=9)(h:Run3 r):(qU d r cell).length<=68:=by
 have h1:=yC d r cell hd (λx hx=>(h.bd x hx).2) h.len
 unfold qU
 rw [QC,Vv]
 have h2:r.getD 2 0<=2:=by
  have:=h.len
  rw [QL,Qu (by exact zr31 ‹_› rfl)]
  exact(h.bd _ (XY _)).2
 lia
noncomputable def fT(d:Nat->Nat)(ow:List Int)(b:Int)(dr:Int)(wd:Nat->List Nat)(k:Nat):List Nat:=qU (d k) ow (dr/b^k)++wd k
theorem fT_le{d:Nat->Nat}{ow:List Int}{b dr:Int}{wd:Nat->List Nat}(hd:∀k,k<5->d k<=9)(h:Run3 ow)(hw:∀k,k<5->(wd k).length<=100){k:Nat}(hk:k<5):(fT d ow b dr wd k).length<=168:=by
 have:=qT (cell:=dr/b^k) (hd k hk) h
 have:=hw k hk
 rw [fT,QC];exact zr45 ‹_› ‹_› rfl
theorem l11(w:Ql):∀prog A n L (sc cells two other signs nums names hand row pages Zv:AV) (d:Nat->Nat) (ow:List Int) (dr:Int) (wd:Nat->List Nat),Room (n+3) A->(∀k,k<5->d k<=9)->Run3 ow->0<=dr->(∀k,k<5->(wd k).length<=100) ->
  X1 (LC w prog A L [Qf sc,Qf cells,Qf (dnL d),Qf two,Qf (.int dr),Qg,Qf (.list (iL ow)),Qf other,Qf signs,Qf nums,Qf names,Qf hand,Qf row,Qg,Qf pages,Qf Zv,Qf (nmF wd),Qg,Qg,Qg,Qg,Qg,Qg,Qg,Qg,Qg,Qg,Qg,Qg,Qg,Qg]) (stL w 11)
   (λo=>o=.nx [] [Qf sc,Qf cells,Qf (dnL d),Qf two,Qf (.int dr),Qg,Qf (.list (iL ow)),Qf other,Qf signs,Qf nums,Qf names,Qf hand,Qf row,Qg,Qf pages,Qf Zv,Qf (nmF wd),Qf (nmF (fT d ow 5 dr wd)),Qg,Qg,Qg,Qg,Qg,Qg,Qg,Qg,Qg,Qg,Qg,Qg,Qg]):=by
 refine λprog A n L sc cells two other signs nums names hand row pages Zv d ow dr wd room hd ho hr hw=>?_
 have V:=(jL w).cV (a:=225) (prog:=prog) (w:=w) (A:=A) (L:=L)
 have G:=(jL w).cG (a:=225) (w:=w) (prog:=prog) (L:=L) room rfl rfl
 have e1:nmF (fT d ow 5 dr wd)=.list ((Qj 5).map λk=>AV.str (tx (fT d ow 5 dr wd k))):=by simp [nmF,tL]
 rw [e1]
 refine X1.map1 (V _ _) 17 (ys:=Qj 5) (fr:=[4,2,6,16]) (.of (by kernel_rfl)) (λk:Nat=>.int k) (λk=>.str (tx (fT d ow 5 dr wd k))) (.rng1 5 room.deeper.1 (.b (G _ _) (jz w) (jy w)) .int (by decide)) (λok C k hk=>?_) rfl rfl (by decide)
 have hk5:=Qc hk
 (refine xE (pow5 k hk5) ?_;intro h1 h2 h3)
 have G1:=(G _ _).cc ok C [Qf (.int k)]
 refine .addT (.callF (.g G1 (g_193 w)) (.cons (.itemL (.list (.v 2 rfl)) (.v 0 rfl) k (by rw [if_neg (by exact zq6)]) (xc d hk5) (by exact zq4 ‹_› rfl)) (.cons (.v 3 rfl) (.cons (.div (.v 1 rfl) (.pow .int (.v 0 rfl) h2) h3 (VM h1)) .nil))) (b_193 w) rfl (cal193 room.deeper (d k) ow _ (hd k hk5) ho.len ho.bd (Int.ediv_nonneg hr (Int.le_of_lt h3)))) (.itemL (.list (.v 4 rfl)) (.v 0 rfl) k (by rw [if_neg (by exact zq6)]) (yz wd hk5) (by exact zq4 ‹_› rfl)) ?_
 have:=qT (cell:=dr/5^k) (hd k hk5) ho
 have:=hw k hk5
 rw [QV];exact zr45 ‹_› ‹_› rfl
theorem l12(w:Ql):∀prog A n L (sc cells one two draw own other signs nums names hand row pages r2 words:AV) (ft:Nat->List Nat) (r1:List Int),Room (n+5) A->(∀k,k<5->(ft k).length<=168)->r1.length=5->(∀x∈r1,x<9) ->
  X1 (LC w prog A L [Qf sc,Qf cells,Qf one,Qf two,Qf draw,Qg,Qf own,Qf other,Qf signs,Qf nums,Qf names,Qf hand,Qf row,Qg,Qf pages,Qf (.tup [.list (iL r1),r2]),Qf words,Qf (nmF ft),Qg,Qg,Qg,Qg,Qg,Qg,Qg,Qg,Qg,Qg,Qg,Qg,Qg]) (stL w 12)
   (λo=>o=.nx [] [Qf sc,Qf cells,Qf one,Qf two,Qf draw,Qg,Qf own,Qf other,Qf signs,Qf nums,Qf names,Qf hand,Qf row,Qg,Qf pages,Qf (.tup [.list (iL r1),r2]),Qf words,Qf (nmF ft),Qf (.list [.list (iL (kA (jM ft) 5)),.list (iL (xa r1))]),Qg,Qg,Qg,Qg,Qg,Qg,Qg,Qg,Qg,Qg,Qg,Qg]):=by
 refine λprog A n L sc cells one two draw own other signs nums names hand row pages r2 words ft r1 room hf hl hb=>?_
 have V:=(jL w).cV (a:=225) (prog:=prog) (w:=w) (A:=A) (L:=L)
 have G:=(jL w).cG (a:=225) (w:=w) (prog:=prog) (L:=L) room rfl rfl
 refine X1.assign (V _ _) 18 rfl (.list (.cons (.callF (.g (G _ _) (g_215 w)) (.cons (PE.map1 (ys:=Qj 5) (fr:=[]) (.of (by kernel_rfl)) (λk:Nat=>.str (tx (ft k))) (λk=>(jM ft k).av) (.list room.deeper.1 ((PE.v 17 rfl).as (by simp [tL]))) (λok C k hk=>?_) (by decide)) .nil) (b_215 w) rfl (cal215 room.deeper (jM ft) λk hk=>xH _ (by have:=hf k hk;rw [jO];exact zq1 ‹_› rfl))) (.cons (.callF (.g (G _ _) (g_188 w)) (.cons (.itemT (.tup (.v 15 rfl)) .int 0 rfl rfl (by decide)) .nil) (b_188 w) rfl (cal188 room.deeper r1 hl hb)) .nil)) (show 2<=Qt by decide)) rfl
 exact .wnew (w:=w) rfl rfl room.deeper (.g ((G _ _).cc ok C _) (kw_C w)) (.cons (.v 0 rfl) .nil) (by have:=hf k (Qc hk);rw [jO];exact zq1 ‹_› rfl)
theorem cmp_neIL{c:Ct}{n:Nat}(room:Room n c.A)(a:List Int):jX c .NotEq (.list (iL a)) (.list (iL a)) false:=by
 have e:toD (.list (iL a))=Qf (.list (a.map .int)):=by rw [Jq,yn];rfl
 have sh:VR (.list (a.map .int))=true:=by
  (refine jw (xy a) ?_;intro a1 b1)
  simp [VR,Xr,XQ,a1];exact zq1 ‹_› rfl
 have:=zC room e e sh sh
 rwa [show Xh (.list (a.map .int)) (.list (a.map .int))=true from by simp [Xh,Jg]]at this
theorem l13(w:Ql):∀prog A n L (sc cells two draw own other signs nums names hand row pages Zv words first:AV) (d:Nat->Nat) (w1:List Int) (wv:AV),Room (n+5) A->(∀k,k<5->d k<=4)->w1=xa ((Qj 5).map λk=>(d k:Int)) ->
  X1 (LC w prog A L [Qf sc,Qf cells,Qf (dnL d),Qf two,Qf draw,Qg,Qf own,Qf other,Qf signs,Qf nums,Qf names,Qf hand,Qf row,Qg,Qf pages,Qf Zv,Qf words,Qf first,Qf (.list [.list (iL w1),wv]),Qg,Qg,Qg,Qg,Qg,Qg,Qg,Qg,Qg,Qg,Qg,Qg]) (stL w 13)
   (λo=>o=.nx [] [Qf sc,Qf cells,Qf (dnL d),Qf two,Qf draw,Qg,Qf own,Qf other,Qf signs,Qf nums,Qf names,Qf hand,Qf row,Qg,Qf pages,Qf Zv,Qf words,Qf first,Qf (.list [.list (iL w1),wv]),Qg,Qg,Qg,Qg,Qg,Qg,Qg,Qg,Qg,Qg,Qg,Qg]):=by
 refine λprog A n L sc cells two draw own other signs nums names hand row pages Zv words first d w1 wv room hd hw=>?_
 have V:=(jL w).cV (a:=225) (prog:=prog) (w:=w) (A:=A) (L:=L)
 have G:=(jL w).cG (a:=225) (w:=w) (prog:=prog) (L:=L) room rfl rfl
 subst hw
 refine X1.ite (b:=false) (.cmp (.itemL (.list (.v 18 rfl)) .int 0 rfl rfl (by decide)) (.callF (.g (G _ _) (g_188 w)) (.cons (.v 2 rfl) .nil) (b_188 w) rfl (cal188 room.deeper _ (by rfl) λx hx=>?_)) (cmp_neIL room.deeper _)) (λq=>nomatch q) λ_=>XS.nil rfl
 (refine jc (Qw.mp hx) ?_;rintro k hk rfl)
 have:=hd k (Qc hk)
 exact zr41 ‹_› rfl
theorem l14(w:Ql):∀prog A n L (sc cells one two draw own other signs nums names hand row pages Zv words first:AV) (w1 w2:Nat->Int),Room (n+5) A ->
  X1 (LC w prog A L [Qf sc,Qf cells,Qf one,Qf two,Qf draw,Qg,Qf own,Qf other,Qf signs,Qf nums,Qf names,Qf hand,Qf row,Qg,Qf pages,Qf Zv,Qf words,Qf first,Qf (.list [kL w1,kL w2]),Qg,Qg,Qg,Qg,Qg,Qg,Qg,Qg,Qg,Qg,Qg,Qg]) (stL w 14)
   (λo=>o=.nx [] [Qf sc,Qf cells,Qf one,Qf two,Qf draw,Qg,Qf own,Qf other,Qf signs,Qf nums,Qf names,Qf hand,Qf row,Qg,Qf pages,Qf Zv,Qf words,Qf first,Qf (.list [kL w1,kL w2]),Qf (kL λk=>min (w1 k) (w2 k)),Qg,Qg,Qg,Qg,Qg,Qg,Qg,Qg,Qg,Qg,Qg]):=by
 refine λprog A n L sc cells one two draw own other signs nums names hand row pages Zv words first w1 w2 room=>?_
 have V:=(jL w).cV (a:=225) (prog:=prog) (w:=w) (A:=A) (L:=L)
 have G:=(jL w).cG (a:=225) (w:=w) (prog:=prog) (L:=L) room rfl rfl
 have e1:kL (λk=>min (w1 k) (w2 k))=.list ((Qj 5).map λk=>AV.int (min (w1 k) (w2 k))):=by simp [kL,iL]
 rw [e1]
 refine X1.assign (V _ _) 19 rfl (.map1 (ys:=Qj 5) (fr:=[18]) (.of (by kernel_rfl)) (λk:Nat=>.int k) (λk=>.int (min (w1 k) (w2 k))) (.rng1 5 room.deeper.1 (.b (G _ _) (jz w) (jy w)) .int (by decide)) (λok C k hk=>?_) (by decide)) rfl
 have hk5:=Qc hk
 exact .callB (.b ((G _ _).cc ok C _) (g_min w) (m_min w)) (.cons (.itemL (.list (.itemL (.list (.v 1 rfl)) .int 0 rfl rfl (by decide))) (.v 0 rfl) k (by rw [if_neg (by exact zq6)]) (vW w1 hk5) (by exact zq4 ‹_› rfl)) (.cons (.itemL (.list (.itemL (.list (.v 1 rfl)) .int 1 rfl rfl (by decide))) (.v 0 rfl) k (by rw [if_neg (by exact zq6)]) (vW w2 hk5) (by exact zq4 ‹_› rfl)) .nil)) (cal_min2 room.deeper.1)
noncomputable def thK(nr:Nat->Int)(b:Nat):Nat:=((Qj b).filter λa=>decide ((b:Int)<=nr a)).length
theorem l15(w:Ql):∀prog A n L (sc cells one two draw own other signs nums names hand row pages Zv words first wishes:AV) (nr:Nat->Int),Room (n+5) A ->
  X1 (LC w prog A L [Qf sc,Qf cells,Qf one,Qf two,Qf draw,Qg,Qf own,Qf other,Qf signs,Qf nums,Qf names,Qf hand,Qf row,Qg,Qf pages,Qf Zv,Qf words,Qf first,Qf wishes,Qf (kL nr),Qg,Qg,Qg,Qg,Qg,Qg,Qg,Qg,Qg,Qg,Qg]) (stL w 15)
   (λo=>o=.nx [] [Qf sc,Qf cells,Qf one,Qf two,Qf draw,Qg,Qf own,Qf other,Qf signs,Qf nums,Qf names,Qf hand,Qf row,Qg,Qf pages,Qf Zv,Qf words,Qf first,Qf wishes,Qf (kL nr),Qg,Qg,Qf (dnL (thK nr)),Qg,Qg,Qg,Qg,Qg,Qg,Qg,Qg]):=by
 refine λprog A n L sc cells one two draw own other signs nums names hand row pages Zv words first wishes nr room=>?_
 have V:=(jL w).cV (a:=225) (prog:=prog) (w:=w) (A:=A) (L:=L)
 have G:=(jL w).cG (a:=225) (w:=w) (prog:=prog) (L:=L) room rfl rfl
 have e1:dnL (thK nr)=.list ((Qj 5).map λk=>AV.int ((thK nr k:Nat):Int)):=by simp [dnL,iL]
 rw [e1]
 refine X1.assign (V _ _) 22 rfl (.map1 (ys:=Qj 5) (fr:=[19]) (.of (by kernel_rfl)) (λk:Nat=>.int k) (λk=>.int (thK nr k:Nat)) (.rng1 5 room.deeper.1 (.b (G _ _) (jz w) (jy w)) .int (by decide)) (λok C b hb=>?_) (by decide)) rfl
 have hb5:=Qc hb
 have G1:=(G _ _).cc ok C [Qf (.int b)]
 refine(PE.len (.b G1 (yL w) (yB w)) (.list (.comp1 (ys:=Qj b) (fr:=[0,1]) (.of (by kernel_rfl)) (λa:Nat=>.int a) (λa=>decide ((b:Int)<=nr a)) (λa:Nat=>.int a) (.rng1 b room.deeper.1 (.b G1 (jz w) (jy w)) (.v 0 rfl) (by exact zq2 ‹_› rfl)) (λok' C' a ha=>?_) (by rw [Vu,QV];exact zq2 ‹_› rfl))) ?_).as (by rw [Qy,thK])
 ·have ha5:=Qc ha
  exact⟨.one (.cmp (.itemL (.list (.v 2 rfl)) (.v 0 rfl) a (by rw [if_neg (by exact zq6)]) (vW nr (by exact zr53 ‹_› ‹_›)) (by lia)) (.v 1 rfl) (jV .GtE rfl)),λ_=>.v 0 rfl⟩
 ·rw [Qy]
  refine Qp (Yd _ _) ?_
  rw [Vu,QV];exact zq2 ‹_› rfl
noncomputable def ldT(d:Nat->Nat)(ot:List Int)(b dr:Int)(k:Nat):List Nat:=qU (d k) ot (dr/b^k)
theorem l16(w:Ql):∀prog A n L (sc cells one two own signs nums names hand row pages Zv words first wishes nearer:AV) (d:Nat->Nat) (ot:List Int) (dr:Int),Room (n+5) A->(∀k,k<5->d k<=9)->Run3 ot->0<=dr ->
  X1 (LC w prog A L [Qf sc,Qf cells,Qf one,Qf two,Qf (.int dr),Qg,Qf own,Qf (.list (iL ot)),Qf signs,Qf nums,Qf names,Qf hand,Qf row,Qg,Qf pages,Qf Zv,Qf words,Qf first,Qf wishes,Qf nearer,Qg,Qg,Qf (dnL d),Qg,Qg,Qg,Qg,Qg,Qg,Qg,Qg]) (stL w 16)
   (λo=>o=.nx [] [Qf sc,Qf cells,Qf one,Qf two,Qf (.int dr),Qg,Qf own,Qf (.list (iL ot)),Qf signs,Qf nums,Qf names,Qf hand,Qf row,Qg,Qf pages,Qf Zv,Qf words,Qf first,Qf wishes,Qf nearer,Qg,Qg,Qf (dnL d),Qf (nmF (ldT d ot 3 dr)),Qg,Qg,Qg,Qg,Qg,Qg,Qg]):=by
 refine λprog A n L sc cells one two own signs nums names hand row pages Zv words first wishes nearer d ot dr room hd ho hr=>?_
 have V:=(jL w).cV (a:=225) (prog:=prog) (w:=w) (A:=A) (L:=L)
 have G:=(jL w).cG (a:=225) (w:=w) (prog:=prog) (L:=L) room rfl rfl
 have e1:nmF (ldT d ot 3 dr)=.list ((Qj 5).map λk=>AV.str (tx (ldT d ot 3 dr k))):=by simp [nmF,tL]
 rw [e1]
 refine X1.assign (V _ _) 23 rfl (.map1 (ys:=Qj 5) (fr:=[4,7,22]) (.of (by kernel_rfl)) (λk:Nat=>.int k) (λk=>.str (tx (ldT d ot 3 dr k))) (.rng1 5 room.deeper.1 (.b (G _ _) (jz w) (jy w)) .int (by decide)) (λok C k hk=>?_) (by decide)) rfl
 have hk5:=Qc hk
 (refine xE (pow3 k (by exact zq1 ‹_› rfl)) ?_;intro h1 h2 h3)
 exact .callF (.g ((G _ _).cc ok C _) (g_193 w)) (.cons (.itemL (.list (.v 3 rfl)) (.v 0 rfl) k (by rw [if_neg (by exact zq6)]) (xc d hk5) (by exact zq4 ‹_› rfl)) (.cons (.v 2 rfl) (.cons (.div (.v 1 rfl) (.pow .int (.v 0 rfl) h2) h3 (VM h1)) .nil))) (b_193 w) rfl (cal193 room.deeper (d k) ot _ (hd k hk5) ho.len ho.bd (Int.ediv_nonneg hr (Int.le_of_lt h3)))
noncomputable def yp(ks:Nat->Int):Option (List Nat):=if ks 3/5%3=0 then Qf []else if ks 3/5%3=1 then Qg else Qf [46]
noncomputable def lnT(ld wd:Nat->List Nat)(k:Nat):List Nat:=(ld k++wd k)++[10]
theorem l17(w:Ql):∀prog A n L (sc one two draw own other signs nums names hand row pages Zv first wishes nearer third:AV) (ks:Nat->Int) (ld wd:Nat->List Nat),Room (n+5) A->(∀k,k<5->(ld k).length<=100/\(wd k).length<=100) ->
  X1 (LC w prog A L [Qf sc,Qf (kL ks),Qf one,Qf two,Qf draw,Qg,Qf own,Qf other,Qf signs,Qf nums,Qf names,Qf hand,Qf row,Qg,Qf pages,Qf Zv,Qf (nmF wd),Qf first,Qf wishes,Qf nearer,Qg,Qg,Qf third,Qf (nmF ld),Qg,Qg,Qg,Qg,Qg,Qg,Qg]) (stL w 17)
   (λo=>o=.nx [] [Qf sc,Qf (kL ks),Qf one,Qf two,Qf draw,Qg,Qf own,Qf other,Qf signs,Qf nums,Qf names,Qf hand,Qf row,Qg,Qf pages,Qf Zv,Qf (nmF wd),Qf first,Qf wishes,Qf nearer,Qg,Qg,Qf third,Qf (nmF ld),Qf (nmF (lnT ld wd)),Qf (kH (yp ks)),Qg,Qg,Qg,Qg,Qg]):=by
 refine λprog A n L sc one two draw own other signs nums names hand row pages Zv first wishes nearer third ks ld wd room hz=>?_
 have V:=(jL w).cV (a:=225) (prog:=prog) (w:=w) (A:=A) (L:=L)
 have G:=(jL w).cG (a:=225) (w:=w) (prog:=prog) (L:=L) room rfl rfl
 have e1:nmF (lnT ld wd)=.list ((Qj 5).map λk=>AV.str (tx (lnT ld wd k))):=by simp [nmF,tL]
 rw [e1]
 refine X1.tupR (avs:=[.list ((Qj 5).map λk=>AV.str (tx (lnT ld wd k))),kH (yp ks)]) (V _ _) room.deeper.1 ["lines","tail"] ?_ ?_ (σ':=[Qf sc,Qf (kL ks),Qf one,Qf two,Qf draw,Qg,Qf own,Qf other,Qf signs,Qf nums,Qf names,Qf hand,Qf row,Qg,Qf pages,Qf Zv,Qf (nmF wd),Qf first,Qf wishes,Qf nearer,Qg,Qg,Qf third,Qf (nmF ld),Qf (.list ((Qj 5).map λk=>AV.str (tx (lnT ld wd k)))),Qf (kH (yp ks)),Qg,Qg,Qg,Qg,Qg]) rfl rfl rfl rfl (by rfl)
 ·exact .cons 25 rfl (.cons 24 rfl .nil)
 refine .tup (.cons (.map1 (ys:=Qj 5) (fr:=[23,16]) (.of (by kernel_rfl)) (λk:Nat=>.int k) (λk=>.str (tx (lnT ld wd k))) (.rng1 5 room.deeper.1 (.b (G _ _) (jz w) (jy w)) .int (by decide)) (λok C k hk=>?_) (by decide)) (.cons (.itemT (.tup (.tup (.cons .str (.cons .non (.cons .str .nil))) (show 3<=Qt by decide))) (.mod (.div (.itemL (.list (.v 1 rfl)) .int 3 rfl (vW ks (by decide)) (by decide)) .int (by decide) (VM (by decide))) .int (by decide)) (ks 3/5%3).toNat (by rw [if_neg (by exact zr26 rfl)];exact(Int.toNat_of_nonneg (Yg _ (by decide))).symm) ?_ (by lia)) .nil)) (show 2<=Qt by decide)
 ·have hk5:=Qc hk
  have h:=hz k hk5
  refine .addT (.addT (.itemL (.list (.v 1 rfl)) (.v 0 rfl) k (by rw [if_neg (by exact zq6)]) (yz ld hk5) (by exact zq4 ‹_› rfl)) (.itemL (.list (.v 2 rfl)) (.v 0 rfl) k (by rw [if_neg (by exact zq6)]) (yz wd hk5) (by exact zq4 ‹_› rfl)) (by rw [QV];lia)) (PE.str.as (by kernel_rfl)) (by rw [QC,QV];simp;lia)
 ·have:ks 3/5%3=0∨ks 3/5%3=1∨ks 3/5%3=2:=by lia
  rcases this with e | e | e<;>rw [yp,e]<;>kernel_rfl
theorem PE.tailOr{c:Ct}{e f:Expr}{pos:Pos}{tl:Option (List Nat)}(p:PE c e (kH tl))(q:PE c f (.str (tx [])))(hz:∀t,tl=Qf t->t.length<=1000):PE c (.BoolOp .Or [e,f] pos) (.str (tx (tl.getD []))):=λY s E x =>
 BoolOp_or (p.use x λv s₁ k x₁ r=>by
  cases tl with
  | none =>
   have:v=.none:=r
   subst this
   refine truthy_none ?_
   rw [if_neg (by decide)]
   exact BoolOp_one (q.use x₁ λu s₂ k₂ x₂ r₂=>⟨ktr k k₂,r₂⟩)
  | some t =>
   have tz:=hz t rfl
   (refine jd (jj (show Rep _ (.str (tx t)) v from r)) ?_;rintro t' rfl)
   refine P.truthy_str (by rw [jO];lia) ?_
   rw [jO]
   have kt:Vb s₁ { s₁ with toks:=s₁.toks+1+1 }:=jh
   by_cases e:t=[]
   ·subst e
    rw [if_neg (by decide)]
    exact BoolOp_one (q.use (x₁.mono (jr kt) (Vn _)) λu s₂ k₂ x₂ r₂=>⟨ktr k (ktr kt k₂),r₂⟩)
   ·have:((t.length:Int) != 0)=true:=by simpa using e
    rw [if_pos this]
    exact⟨ktr k kt,vq⟩)
theorem l19(w:Ql):∀prog A n L (sc cells one two draw own other signs nums names hand row pages Zv words first wishes nearer third leads:AV) (ln:Nat->List Nat) (tl:Option (List Nat)),Room (n+5) A->(∀k,k<5->(ln k).length<=300)->(∀t,tl=Qf t->t.length<=1000) ->
  X1 (LC w prog A L [Qf sc,Qf cells,Qf one,Qf two,Qf draw,Qg,Qf own,Qf other,Qf signs,Qf nums,Qf names,Qf hand,Qf row,Qf (.str (tx (grT ln tl))),Qf pages,Qf Zv,Qf words,Qf first,Qf wishes,Qf nearer,Qg,Qg,Qf third,Qf leads,Qf (nmF ln),Qf (kH tl),Qg,Qg,Qg,Qg,Qg]) (stL w 19)
   (λo=>o=.nx [] [Qf sc,Qf cells,Qf one,Qf two,Qf draw,Qg,Qf own,Qf other,Qf signs,Qf nums,Qf names,Qf hand,Qf row,Qf (.str (tx (grT ln tl))),Qf pages,Qf Zv,Qf words,Qf first,Qf wishes,Qf nearer,Qg,Qg,Qf third,Qf leads,Qf (nmF ln),Qf (kH tl),Qg,Qg,Qg,Qg,Qg]):=by
 refine λprog A n L sc cells one two draw own other signs nums names hand row pages Zv words first wishes nearer third leads ln tl room hl ht=>?_
 have V:=(jL w).cV (a:=225) (prog:=prog) (w:=w) (A:=A) (L:=L)
 have G:=(jL w).cG (a:=225) (w:=w) (prog:=prog) (L:=L) room rfl rfl
 have fl:=qJ ln 300 (Qj 5) λk hk=>hl k (Qc hk)
 simp only [Vu]at fl
 have tz:(tl.getD []).length<=1000:=by
  cases tl with
  | none=>simp
  | some t=>exact ht t rfl
 refine X1.ite (b:=false) (PT.as' (.cmp (.v 13 rfl) (.addT (.joinT (ls:=(Qj 5).map ln) (PE.str.as (by kernel_rfl)) (.v 24 rfl) (by exact zq1 ‹_› rfl)) (.tailOr (.var 25 rfl rfl rfl (by decide) (by decide) (yo tl)) (PE.str.as (by kernel_rfl)) ht) (by rw [QV];exact zr45 ‹_› ‹_› rfl)) KS) ?_) (λq=>nomatch q) λ_=>XS.nil rfl
 rw [grT,List.flatMap_def]
 simp
theorem ws_at{c:Ct}{w:Ql}{n:Nat}{f e g:Expr}{p1 p2:Pos}{ft:Nat->List Nat}{k:Nat}(hB:c.B=Bh w)(hw:c.w=w)(room:Room (n+2) c.A)(p:PE c f (.raw (.ref 83)))(q:PE c e (nmF ft))(r:PE c g (.int k))(hk:k<5)(hz:(ft k).length<=500)
  (h1:(Qv [.Subscript e g p1] c.env).any (·.1)=false:=by rfl) (h2:Qv [.Subscript e g p1] c.env=(false,eval (.Subscript e g p1) c.env)::Qv [] c.env:=by rfl)
  (he:eval (.Call f [.Subscript e g p1] [] p2) c.env=(do VL p2 (<-eval f c.env) [] (VO p2 (Qv [.Subscript e g p1] c.env)) (VE p2 (V3 [] c.env))):=by rfl):PE c (.Call f [.Subscript e g p1] [] p2) (jM ft k).av :=
 .wnew hB hw room p (.cons (.itemL (.list q) r k (by rw [if_neg (by exact zq6)]) (yz ft hk) (by exact zq4 ‹_› rfl)) .nil h2) (by rw [jO];exact zq1 ‹_› rfl) h1 he
theorem m1(w:Ql):∀prog A n L (y0 y1 y2 y3 y4 y6 y7 y8 y9 y10 y11 y12 y13 y14 y15 y16 y18 y19 y20 y21 y22 y23 y24 y25 y26 y27 y29 y30:Option AV) (k:Nat) (ft lt:Nat->List Nat),Room (n+5) A->k<5->(∀k,k<5->(ft k).length<=500/\(lt k).length<=500) ->
  X1 (LC w prog A L [y0,y1,y2,y3,y4,Qf (.int k),y6,y7,y8,y9,y10,y11,y12,y13,y14,y15,y16,Qf (nmF ft),y18,y19,y20,y21,y22,y23,y24,y25,y26,y27,Qf (nmF lt),y29,y30]) (inL w 0) (λo=>o=.nx [] [y0,y1,y2,y3,y4,Qf (.int k),y6,y7,y8,y9,y10,y11,y12,y13,y14,y15,y16,Qf (nmF ft),y18,y19,Qf ((jM lt k).av),Qf ((jM ft k).av),y22,y23,y24,y25,y26,y27,Qf (nmF lt),y29,y30]):=by
 intro prog A n L y0 y1 y2 y3 y4 y6 y7 y8 y9 y10 y11 y12 y13 y14 y15 y16 y18 y19 y20 y21 y22 y23 y24 y25 y26 y27 y29 y30 k ft lt room hk hz
 have V:=(jL w).cV (a:=225) (prog:=prog) (w:=w) (A:=A) (L:=L)
 have G:=(jL w).cG (a:=225) (w:=w) (prog:=prog) (L:=L) room rfl rfl
 refine X1.tupR (avs:=[(jM ft k).av,(jM lt k).av]) (V _ _) room.deeper.1 ["a","b"] ?_ ?_ rfl rfl rfl rfl (by rfl)
 ·exact .cons 20 rfl (.cons 21 rfl .nil)
 ·exact .tup (.cons (ws_at rfl rfl room.deeper (.g (G _ _) (kw_C w)) (.v 17 rfl) (.v 5 rfl) hk (hz k hk).1) (.cons (ws_at rfl rfl room.deeper (.g (G _ _) (kw_C w)) (.v 28 rfl) (.v 5 rfl) hk (hz k hk).2) .nil)) (show 2<=Qt by decide)
noncomputable def xT(d:Nat)(o:List Int)(t:Int):Int:=t*(d+2+o.getD 0 0/t+o.getD 1 0/t)+o.getD 2 0
theorem xp{r:List Int}(h:r.length=3){j:Nat}(hj:j<3):(iL r)[j]?=Qf (.int (r.getD j 0)):=by
 rw [Qx,Qu (by exact JI ‹_› ‹_›),QL,Qu (by exact JI ‹_› ‹_›)];rfl
noncomputable def zU(d1 d2:Nat)(ow ot:List Int):List (Int×Int):=([1,2,3]:List Nat).map λt:Nat=>(xT d1 ow t,xT d2 ot t)
noncomputable abbrev prsL(P:List (Int×Int)):AV:=.list (P.map λu=>.tup [.int u.1,.int u.2])
theorem m2(w:Ql):∀prog A n L (y0 y1 y3 y4 y8 y9 y10 y11 y12 y13 y14 y15 y16 y17 y18 y19 y20 y21 y22 y23 y24 y25 y26 y28 y29 y30:Option AV) (k:Nat) (d1 d2:Nat->Nat) (ow ot:List Int),Room (n+5) A->k<5->ow.length=3->ot.length=3 ->
  X1 (LC w prog A L [y0,y1,Qf (dnL d1),y3,y4,Qf (.int k),Qf (.list (iL ow)),Qf (.list (iL ot)),y8,y9,y10,y11,y12,y13,y14,y15,y16,y17,y18,y19,y20,y21,y22,y23,y24,y25,y26,Qf (dnL d2),y28,y29,y30]) (inL w 1) (λo=>o=.nx [] [y0,y1,Qf (dnL d1),y3,y4,Qf (.int k),Qf (.list (iL ow)),Qf (.list (iL ot)),y8,y9,y10,y11,y12,y13,y14,y15,y16,y17,y18,y19,y20,y21,y22,y23,y24,y25,y26,Qf (dnL d2),y28,Qf (prsL (zU (d1 k) (d2 k) ow ot)),y30]):=by
 intro prog A n L y0 y1 y3 y4 y8 y9 y10 y11 y12 y13 y14 y15 y16 y17 y18 y19 y20 y21 y22 y23 y24 y25 y26 y28 y29 y30 k d1 d2 ow ot room hk h1 h2
 have V:=(jL w).cV (a:=225) (prog:=prog) (w:=w) (A:=A) (L:=L)
 have G:=(jL w).cG (a:=225) (w:=w) (prog:=prog) (L:=L) room rfl rfl
 have e1:prsL (zU (d1 k) (d2 k) ow ot)=.list (([1,2,3]:List Nat).map λt:Nat=>.tup [.int (xT (d1 k) ow t),.int (xT (d2 k) ot t)]):=by simp [prsL,zU]
 rw [e1]
 refine X1.map1 (V _ _) 29 (ys:=([1,2,3]:List Nat)) (fr:=[27,5,2,7,6]) (.of (by kernel_rfl)) (λt:Nat=>.int t) (λt:Nat=>.tup [.int (xT (d1 k) ow t),.int (xT (d2 k) ot t)]) (.tup room.deeper.1 (.tup (.cons .int (.cons .int (.cons .int .nil))) (show 3<=Qt by decide))) (λok C t ht=>?_) rfl rfl (by decide)
 have ht':1<=t/\t<=3:=by simp at ht;lia
 have np:∀x:Int,YB x (t:Int)=false:=λx=>VM (by lia)
 refine .tup (.cons (.add (.mul (.v 0 rfl) (.add (.add (.add (.itemL (.list (.v 3 rfl)) (.v 2 rfl) k (by rw [if_neg (by exact zq6)]) (xc d1 hk) (by exact zq4 ‹_› rfl)) .int) (.div (.itemL (.list (.v 5 rfl)) .int 0 rfl (xp h1 (by decide)) (by decide)) (.v 0 rfl) (by lia) (np _))) (.div (.itemL (.list (.v 5 rfl)) .int 1 rfl (xp h1 (by decide)) (by decide)) (.v 0 rfl) (by lia) (np _))) (Kj (by lia))) (.itemL (.list (.v 5 rfl)) .int 2 rfl (xp h1 (by decide)) (by decide))) (.cons (.add (.mul (.v 0 rfl) (.add (.add (.add (.itemL (.list (.v 1 rfl)) (.v 2 rfl) k (by rw [if_neg (by exact zq6)]) (xc d2 hk) (by exact zq4 ‹_› rfl)) .int) (.div (.itemL (.list (.v 4 rfl)) .int 0 rfl (xp h2 (by decide)) (by decide)) (.v 0 rfl) (by lia) (np _))) (.div (.itemL (.list (.v 4 rfl)) .int 1 rfl (xp h2 (by decide)) (by decide)) (.v 0 rfl) (by lia) (np _))) (Kj (by lia))) (.itemL (.list (.v 4 rfl)) .int 2 rfl (xp h2 (by decide)) (by decide))) .nil)) (show 2<=Qt by decide)
noncomputable def dueG(P:List (Int×Int)):Bool:=(P.filter λu=>decide (u.2<=u.1)).isEmpty
noncomputable def dueL(P:List (Int×Int)):Bool:=(P.filter λu=>decide (u.1<=u.2)).isEmpty
noncomputable def dueN(P:List (Int×Int)):Bool:=(P.filter λu=>decide (u.1≠u.2)).isEmpty
theorem cmp_nilI{c:Ct}{n:Nat}(room:Room n c.A)(l:List (Int×Int)):jX c .Eq (.list (l.map λu=>.int u.1)) (.list []) l.isEmpty:=by
 have e0:(l.map λu=>AV.int u.1)=iL (l.map (·.1)):=by simp [iL]
 rw [e0]
 have e:∀m:List Int,toD (.list (iL m))=Qf (.list (m.map .int)):=λm=>by rw [Jq,yn];rfl
 have e2:toD (.list [])=Qf (.list []):=rfl
 have sh:∀m:List Int,VR (.list (m.map .int))=true:=λm=>by
  (refine jw (xy m) ?_;intro a1 b1)
  simp [VR,Xr,XQ,a1];exact zq1 ‹_› rfl
 have:=yg room (e (l.map (·.1))) e2 (sh _) (by decide)
 cases l<;>simpa [Xh,Yq]using this
theorem zx{c:Ct}{n:Nat}{sc:Scope}{cl:List (Qd×Qk)}{P:List (Int×Int)}{op:CmpOp}{f:Int×Int->Bool}{e:Expr}{p1 p2 p3 p4 p5 p6 p7 p8 p9 p10:Pos}{k1:Nat}(ok:CmOk c sc ["x","y"] [] cl)(room:Room n c.A)(q:PE c e (prsL P))(hz:P.length<=10)(hf:∀(c:Ct) (u:Int×Int),jX c op (.int u.1) (.int u.2) (f u))
  (hm:∀e,Yp op (.Name "y" e)=false)
  (hn:∀C,(Vx [.Name "x" p4,.Name "y" p5] (jT c sc cl C)).length=2:=by intro _;rfl) (hst:∀C,(Vx [.Name "x" p4,.Name "y" p5] (jT c sc cl C)).findIdx? (·.1)=none:=by intro _;rfl)
  (hs:∀x,QN e c.env x=pure x:=by intro _;rfl) :
  PE c (.Compare (.ListComp (.Name "x" p1) [⟨.Tuple [.Name "x" p4,.Name "y" p5] k1 p6,e,[.Compare (.Name "x" p7) [op] [.Name "y" p8] p9],0⟩] sc p2) [.Eq] [.List [] p3] p10) (.bool (P.filter f).isEmpty) :=
 .cmp (.comp1t (ys:=P) ok room.1 (λu=>.int u.1) (λu=>.int u.2) f (λu=>.int u.1) (.list room.1 q) (λok C u hu=>⟨.one (.cmp (.var 0 ok.kind rfl rfl (by decide) (by decide)) (.var 1 ok.kind rfl rfl (by decide) (by decide)) (hf _ u) (hm _)),λ_=>.var 0 ok.kind rfl rfl (by decide) (by decide)⟩) (by rw [QV];exact zq1 ‹_› rfl) hn hst hs) (.list .nil (Vj _)) (cmp_nilI room _)
theorem m3(w:Ql):∀prog A n L (y0 y1 y2 y3 y4 y5 y6 y7 y8 y9 y10 y11 y12 y13 y14 y15 y16 y17 y18 y19 y20 y21 y22 y23 y24 y25 y26 y27 y28 y30:Option AV) (P:List (Int×Int)),Room (n+5) A->P.length<=10 ->
  X1 (LC w prog A L [y0,y1,y2,y3,y4,y5,y6,y7,y8,y9,y10,y11,y12,y13,y14,y15,y16,y17,y18,y19,y20,y21,y22,y23,y24,y25,y26,y27,y28,Qf (prsL P),y30]) (inL w 2) (λo=>o=.nx [] [y0,y1,y2,y3,y4,y5,y6,y7,y8,y9,y10,y11,y12,y13,y14,y15,y16,y17,y18,y19,y20,y21,y22,y23,y24,y25,y26,y27,y28,Qf (prsL P),Qf (.list [.bool (dueG P),.bool (dueL P),.bool (dueN P)])]):=by
 intro prog A n L y0 y1 y2 y3 y4 y5 y6 y7 y8 y9 y10 y11 y12 y13 y14 y15 y16 y17 y18 y19 y20 y21 y22 y23 y24 y25 y26 y27 y28 y30 P room hz
 have V:=(jL w).cV (a:=225) (prog:=prog) (w:=w) (A:=A) (L:=L)
 have G:=(jL w).cG (a:=225) (w:=w) (prog:=prog) (L:=L) room rfl rfl
 exact X1.assign (V _ _) 30 rfl (.list (.cons (zx (.of (by kernel_rfl)) room.deeper (.v 29 rfl) hz (λc u=>jV .GtE rfl) λ_=>rfl) (.cons (zx (.of (by kernel_rfl)) room.deeper (.v 29 rfl) hz (λc u=>jV .LtE rfl) λ_=>rfl) (.cons (zx (.of (by kernel_rfl)) room.deeper (.v 29 rfl) hz (λc u=>jV .NotEq rfl) λ_=>rfl) .nil))) (show 3<=Qt by decide)) rfl
theorem m4(w:Ql):∀prog A n L (y0 y1 y2 y3 y4 y5 y6 y7 y8 y9 y10 y11 y12 y13 y14 y15 y16 y17 y18 y19 y22 y23 y24 y25 y26 y27 y28 y29:Option AV) (u v:Wv) (x1 x2 x3:Bool),Room (n+5) A->u.ok->v.ok->kh u v=x1->kh v u=x2->eqW u v=x3 ->
  X1 (LC w prog A L [y0,y1,y2,y3,y4,y5,y6,y7,y8,y9,y10,y11,y12,y13,y14,y15,y16,y17,y18,y19,Qf (v.av),Qf (u.av),y22,y23,y24,y25,y26,y27,y28,y29,Qf (.list [.bool x1,.bool x2,.bool x3])]) (inL w 3) (λo=>o=.nx [] [y0,y1,y2,y3,y4,y5,y6,y7,y8,y9,y10,y11,y12,y13,y14,y15,y16,y17,y18,y19,Qf (v.av),Qf (u.av),y22,y23,y24,y25,y26,y27,y28,y29,Qf (.list [.bool x1,.bool x2,.bool x3])]):=by
 intro prog A n L y0 y1 y2 y3 y4 y5 y6 y7 y8 y9 y10 y11 y12 y13 y14 y15 y16 y17 y18 y19 y22 y23 y24 y25 y26 y27 y28 y29 u v x1 x2 x3 room hu hv e1 e2 e3
 have V:=(jL w).cV (a:=225) (prog:=prog) (w:=w) (A:=A) (L:=L)
 have G:=(jL w).cG (a:=225) (w:=w) (prog:=prog) (L:=L) room rfl rfl
 subst e1 e2 e3
 refine X1.ite (b:=false) (PT.as' (.or (.cmp (.wless rfl rfl room.deeper (.v 21 rfl) (.v 20 rfl) hu hv) (.itemL (.list (.v 30 rfl)) .int 0 rfl rfl (by decide)) kE) λ_=>.or (.cmp (.wless rfl rfl room.deeper (.v 20 rfl) (.v 21 rfl) hv hu) (.itemL (.list (.v 30 rfl)) .int 1 rfl rfl (by decide)) kE) λ_=>.or (.cmp (.wequal rfl rfl room.deeper (.v 21 rfl) (.v 20 rfl)) (.itemL (.list (.v 30 rfl)) .int 2 rfl rfl (by decide)) kE) λ_=>.or_nil) (by simp [eqW])) (λq=>nomatch q) λ_=>XS.nil rfl
theorem g_220(w:Ql):mg w "_law_pushed"=Qf (.ref 220):=by kernel_rfl
theorem b_220(w:Ql):(Bh w).get? 220=Qf (o_233 w.params):=by kernel_rfl
theorem o0(w:Ql):∀prog A n L (y0 y1 y2 y3 y5 y6 y7 y8 y9 y10 y11 y12 y14 y15 y16 y17 y18 y19 y20 y21 y22 y23 y24 y25 y27 y28 y29 y30:Option AV) (txt:List Nat) (ws:List Int) (dr:Nat) (g:Nat->List Nat),Room (n+6) A->txt.length<=10000->(Xu (tx txt) (tx [10])).length<=1000->qA (sL (Xu (tx txt) (tx [10]))) Qg (Qf 5)=pL g->ws.length=5->(∀k,k<5->(g k).length<=500)->dr<=2^40 ->
  X1 (LC w prog A L [y0,y1,y2,y3,Qf (.int (dr:Nat)),y5,y6,y7,y8,y9,y10,y11,y12,Qf (.str (tx txt)),y14,y15,y16,y17,y18,y19,y20,y21,y22,y23,y24,y25,Qf (.list (iL ws)),y27,y28,y29,y30]) (ouL w 0) (λo=>o=.nx [] [y0,y1,y2,y3,Qf (.int (dr:Nat)),y5,y6,y7,y8,y9,y10,y11,y12,Qf (.str (tx txt)),y14,y15,y16,y17,y18,y19,y20,y21,y22,y23,y24,y25,Qf (.list (iL ws)),y27,Qf (.list (qz ws dr g)),y29,y30]):=by
 intro prog A n L y0 y1 y2 y3 y5 y6 y7 y8 y9 y10 y11 y12 y14 y15 y16 y17 y18 y19 y20 y21 y22 y23 y24 y25 y27 y28 y29 y30 txt ws dr g room h1 h2 h3 h4 h5 h6
 have V:=(jL w).cV (a:=225) (prog:=prog) (w:=w) (A:=A) (L:=L)
 have G:=(jL w).cG (a:=225) (w:=w) (prog:=prog) (L:=L) room rfl rfl
 refine X1.assign (V _ _) 28 rfl (.callF (.g (G _ _) (g_220 w)) (.cons (.slc (.list (.split (.v 13 rfl) (PE.str.as (by kernel_rfl)) (y:=tx [10]) (by kernel_rfl) (by rw [jO,QV];exact zq1 ‹_› rfl) (by rw [QV];exact zq1 ‹_› rfl))) .none (.some .int) h3 (by rw [Qy,QV];exact zq1 ‹_› rfl)) (.cons (.v 26 rfl) (.cons (.v 4 rfl) .nil))) (b_220 w) rfl (cal220 room.deeper g ws dr h4 h5 h6)) rfl
noncomputable def gT(d th:Nat->Nat)(ld wd:Nat->List Nat)(k:Nat):List Nat:=Qr (d k-th k) 9++ld k++wd k
theorem o1(w:Ql):∀prog A n L (y0 y1 y2 y3 y4 y5 y6 y7 y8 y9 y10 y11 y12 y13 y14 y15 y17 y18 y19 y20 y21 y24 y25 y26 y29 y30:Option AV) (d th:Nat->Nat) (ld wd:Nat->List Nat),Room (n+5) A->(∀k,k<5->d k<=9/\th k<=9/\(ld k).length<=100/\(wd k).length<=100)->(∀k,k<5->Vf (tx (gT d th ld wd k))=true) ->
  X1 (LC w prog A L [y0,y1,y2,y3,y4,y5,y6,y7,y8,y9,y10,y11,y12,y13,y14,y15,Qf (nmF wd),y17,y18,y19,y20,y21,Qf (dnL th),Qf (nmF ld),y24,y25,y26,Qf (dnL d),Qf (nmF (gT d th ld wd)),y29,y30]) (ouL w 1) (λo=>o=.nx [] [y0,y1,y2,y3,y4,y5,y6,y7,y8,y9,y10,y11,y12,y13,y14,y15,Qf (nmF wd),y17,y18,y19,y20,y21,Qf (dnL th),Qf (nmF ld),y24,y25,y26,Qf (dnL d),Qf (nmF (gT d th ld wd)),y29,y30]):=by
 intro prog A n L y0 y1 y2 y3 y4 y5 y6 y7 y8 y9 y10 y11 y12 y13 y14 y15 y17 y18 y19 y20 y21 y24 y25 y26 y29 y30 d th ld wd room hz hok
 have V:=(jL w).cV (a:=225) (prog:=prog) (w:=w) (A:=A) (L:=L)
 have G:=(jL w).cG (a:=225) (w:=w) (prog:=prog) (L:=L) room rfl rfl
 refine X1.ite (b:=false) (.cmp (a:=nmF (gT d th ld wd)) (b:=nmF (gT d th ld wd)) (.v 28 rfl) ((PE.map1 (ys:=Qj 5) (fr:=[27,22,23,16]) (.of (by kernel_rfl)) (λk:Nat=>.int k) (λk=>.str (tx (gT d th ld wd k))) (.rng1 5 room.deeper.1 (.b (G _ _) (jz w) (jy w)) .int (by decide)) (λok C k hk=>?_) (by decide)).as (by simp [nmF,tL])) (Jj room.deeper _ ?_)) (λq=>nomatch q) λ_=>XS.nil rfl
 ·have hk5:=Qc hk
  refine e0_4 (hz k hk5) ?_;intro z1 z2 z3 z4
  refine .addT (.addT ((PE.mulT (PE.str.as (by kernel_rfl)) (.sub (.itemL (.list (.v 1 rfl)) (.v 0 rfl) k (by rw [if_neg (by exact zq6)]) (xc d hk5) (by exact zq4 ‹_› rfl)) (.itemL (.list (.v 2 rfl)) (.v 0 rfl) k (by rw [if_neg (by exact zq6)]) (xc th hk5) (by exact zq4 ‹_› rfl))) (k:=9) (by lia)).as (by rw [show((d k:Int)-(th k:Int)).toNat=d k-th k by exact zr7])) (.itemL (.list (.v 3 rfl)) (.v 0 rfl) k (by rw [if_neg (by exact zq6)]) (yz ld hk5) (by exact zq4 ‹_› rfl)) ?_) (.itemL (.list (.v 4 rfl)) (.v 0 rfl) k (by rw [if_neg (by exact zq6)]) (yz wd hk5) (by exact zq4 ‹_› rfl)) ?_
  ·rw [Vv,QV];lia
  ·rw [QC,Vv,QV];lia
 ·intro x hx
  (refine jc (Qw.mp hx) ?_;rintro k hk rfl)
  exact hok k (Qc hk)
theorem g_208(w:Ql):mg w "_law_grown"=Qf (.ref 208):=by kernel_rfl
theorem KX{c:Ct}{f:Expr}{es:List Expr}{pos:Pos}{a:Qk}{o:Obj}{fd:VF}{avs:List AV}{Y:List Qk}{s:Qi}{E:Qe}{Q:Qe}(p:PE c f (.raw (.ref a)))(q:PEs c es avs)(ho:c.B.get? a=Qf o)(hd:o.data=.func fd)(x:c.At Y s)
  (h:∀vs s',Vb s s'->c.At Y s'->Reps (hid (c.X++Y) s'.heap) avs vs->Qo c.M c.A (call (.ref a) vs) Q E s')
  (hs:(Qv es c.env).any (·.1)=false:=by rfl)
  (he:eval (.Call f es [] pos) c.env=(do VL pos (<-eval f c.env) [] (VO pos (Qv es c.env)) (VE pos (V3 [] c.env))):=by rfl):Qo c.M c.A (eval (.Call f es [] pos) c.env) Q E s:=by
 rw [he]
 refine Qh (p.use x λv s₁ k₁ x₁ r₁=>?_)
 obtain rfl:=jb r₁
 refine VT (o:=o) (fd:=fd) (je (jC hs pos) (q.use x₁ λvs s₂ k₂ x₂ r₂=>?_))
 exact⟨⟨x₂.base _ _ ho,hd⟩,h vs s₂ (ktr k₁ k₂) x₂ r₂⟩
theorem l18(w:Ql):∀prog A n L (y0 y1 y2 y3 y4 y5 y6 y7 y8 y9 y10 y11 y12 y13 y14 y15 y16 y17 y18 y19 y20 y21 y23 y26 y27 y28 y29 y30:Option AV) (l:List Nat) (ln:Nat->List Nat) (tl:Option (List Nat)) (Yc:List Qk) (g s:Qi) (E:Qe) (Q:Flow->Qi->Prop),Room (n+10) A->l∈outl ->
  Fm (LC w prog A L [y0,y1,y2,y3,y4,y5,y6,y7,y8,y9,y10,y11,y12,y13,y14,y15,y16,y17,y18,y19,y20,y21,Qf (dnL (jt l)),y23,Qf (nmF ln),Qf (kH tl),y26,y27,y28,y29,y30]) Yc g s->1<=s.toks->HidOk (LC w prog A L []) Yc g 171->TabOk s.heap ->
  (∀t,tl=Qf t->t.length<=1000)->(grT ln tl).length<=10000->(∀k,k<5->Vf (tx (ln k))=true)->(∀t,tl=Qf t->Vf (tx t)=true) ->
  (∀s',Fm (LC w prog A L [y0,y1,y2,y3,y4,y5,y6,y7,y8,y9,y10,y11,y12,Qf (.str (tx (grT ln tl))),y14,y15,y16,y17,y18,y19,y20,y21,Qf (dnL (jt l)),y23,Qf (nmF ln),Qf (kH tl),y26,y27,y28,y29,y30]) Yc g s'->1<=s'.toks->(∃ps,s'.heap.get? 171=Qf (Zy ps))->(∃h' tk,s'={ s with heap:=h',toks:=tk })->Q .next s') ->
  Qo (model prog w) (LC w prog A L []).A (exec (stL w 18) (LC w prog A L []).env) Q E s:=by
 intro prog A n L y0 y1 y2 y3 y4 y5 y6 y7 y8 y9 y10 y11 y12 y13 y14 y15 y16 y17 y18 y19 y20 y21 y23 y26 y27 y28 y29 y30 l ln tl Yc g s E Q room hl f ht H1 T hzt hzf hok hokt k
 have V:=(jL w).cV (a:=225) (prog:=prog) (w:=w) (A:=A) (L:=L)
 have G:=(jL w).cG (a:=225) (w:=w) (prog:=prog) (L:=L) room rfl rfl
 refine X4 (KX (c:=LC w prog A L [y0,y1,y2,y3,y4,y5,y6,y7,y8,y9,y10,y11,y12,y13,y14,y15,y16,y17,y18,y19,y20,y21,Qf (dnL (jt l)),y23,Qf (nmF ln),Qf (kH tl),y26,y27,y28,y29,y30]) (avs:=[dnL (jt l),nmF ln,kH tl]) (.g (G _ _) (g_208 w)) (.cons (.v 22 rfl) (.cons (.v 24 rfl) (.cons (.var 25 rfl rfl rfl (by decide) (by decide) (yo tl)) .nil))) (b_208 w) rfl (f.at ht) λvs s1 k1 x1 r1=>?_) rfl
 have f1:=f.keeps k1
 refine QB (n:=1) x1.tk (grown208 (w:=w) (n:=n) hl room.deeper x1.base x1.live (Q7 _ (.tail _ (Q7 _ H1.mem))) x1.tk (T.keeps λb o e=>jr k1 b o e) r1 hzt hzf hok hokt λt s2 kp l171 eq2 ht2=>?_)
 (refine jN eq2 ?_;clear eq2;rintro h2 t2 rfl)
 have f2:Fm (LC w prog A L [y0,y1,y2,y3,y4,y5,y6,y7,y8,y9,y10,y11,y12,y13,y14,y15,y16,y17,y18,y19,y20,y21,Qf (dnL (jt l)),y23,Qf (nmF ln),Qf (kH tl),y26,y27,y28,y29,y30]) ([]++Yc) g { s1 with heap:=h2,toks:=t2 }:=f1.evoL (M:=[171]) (W:=[]) (λm hm=>by obtain rfl:=Q9 hm;exact⟨H1.mem,H1.dead,H1.nl,H1.nc⟩) (λm hm=>by obtain rfl:=Q9 hm;exact⟨_,l171.choose_spec⟩) (λb ob hb e=>kp b ob (λq=>hb (Y2.mpr q)) e) λb hb=>nomatch hb
 refine QB (n:=1) ht2 (f2.storeK (V _ _) (i:=13) rfl (.of vq) λs3 g3 sm3 f3 ht3=>?_)
 (refine jn k1 ?_;clear k1;rintro h1 t1 rfl _)
 (refine jn g3 ?_;clear g3;rintro h3 t3 rfl _)
 (refine jd l171 ?_;intro ps l171)
 exact k _ f3 ht3 ⟨ps,(sm3 171 H1.nl H1.nc).trans l171⟩ ⟨h3,t3,rfl⟩
section
variable (ks:Nat->Int)
noncomputable def d1K:Nat->Nat:=dK (ks 0)
noncomputable def d2K:Nat->Nat:=dK (ks 1)
noncomputable def owK:List Int:=ownL (ks 2) [0,1,2]
noncomputable def otK:List Int:=ownL (ks 2) [3,4,5]
noncomputable def nuK:List Int:=(Qj 5).map (xk ks)
noncomputable def rwK:List Nat:=rowT (d2K ks) (nmK ks)
noncomputable def pgK(k:Nat):List Nat:=vy (sK (xm ks)) (xG (rwK ks) (nmK ks) k)
noncomputable def wdK(k:Nat):List Nat:=pgK ks (k+1)
noncomputable def ftK:Nat->List Nat:=fT (d1K ks) (owK ks) 5 ((ks 4).toNat:Nat) (wdK ks)
noncomputable def WK(i k:Nat):Int:=if i=0 then(climb (jM (ftK ks)) k (4-k) k:Int)else endOf ((Qj 5).map λk=>(d2K ks k:Int)) k
noncomputable def nrK(k:Nat):Int:=min (WK ks 0 k) (WK ks 1 k)
noncomputable def thF:Nat->Nat:=thK (nrK ks)
noncomputable def ldK:Nat->List Nat:=ldT (thF ks) (otK ks) 3 ((ks 4).toNat:Nat)
noncomputable def lnK:Nat->List Nat:=lnT (ldK ks) (wdK ks)
noncomputable def txF:List Nat:=grT (lnK ks) (yp ks)
noncomputable def DK(i:Nat):Nat->Nat:=if i=0 then d1K ks else d2K ks
structure LawOk:Prop where
 rdk:∀(w:Ql) (prog:QI) (A:QO) (n:Nat),Room (n+2) A->Cal prog w (Bh w) A (.ref 203) [.str (tx (pgK ks 0)),.list (iL (nuK ks))] (.tup [dnL (d2K ks),.list (iL (nuK ks))])
 page:∀k,k<6->pgK ks k=qE (xm ks) (xG (rwK ks) (nmK ks) k)
 okp:∀k,k<6->Vf (tx (pgK ks k))=true
 told:kA (jM (ftK ks)) 5=xa ((Qj 5).map λk=>(d1K ks k:Int))
 out:(Qj 5).map (thF ks)∈outl
 okl:∀k,k<5->Vf (tx (lnK ks k))=true
 split1:(Xu (tx (txF ks)) (tx [10])).length<=1000
 split2:qA (sL (Xu (tx (txF ks)) (tx [10]))) Qg (Qf 5)=pL (λk=>ldK ks k++wdK ks k)
 push:∀i,i<2->qz ((Qj 5).map (WK ks i)) (ks 4).toNat (λk=>ldK ks k++wdK ks k)=pL (gT (DK ks i) (thF ks) (ldK ks) (wdK ks))
 okg:∀i,i<2->∀k,k<5->Vf (tx (gT (DK ks i) (thF ks) (ldK ks) (wdK ks) k))=true
 last:∀i,i<2->∀k,k<5->kh (jM (ftK ks) k) (jM (gT (DK ks i) (thF ks) (ldK ks) (wdK ks)) k)=dueG (zU (DK ks 0 k) (DK ks i k) (owK ks) (otK ks))/\kh (jM (gT (DK ks i) (thF ks) (ldK ks) (wdK ks)) k) (jM (ftK ks) k)=dueL (zU (DK ks 0 k) (DK ks i k) (owK ks) (otK ks))/\eqW (jM (ftK ks) k) (jM (gT (DK ks i) (thF ks) (ldK ks) (wdK ks)) k)=dueN (zU (DK ks 0 k) (DK ks i k) (owK ks) (otK ks))
 wd:∀k,k<5->(wdK ks k).length<=100
 nm:∀k,k<5->(nmK ks k).length<=3
 th:∀k,k<5->thF ks k<=9
 dr:0<=ks 4/\ks 4<=2^40
end
theorem kK(k:Int)(l:List Nat)(h:l.length=3):Run3 (ownL k l):=by
 refine⟨by simp [ownL,h],λx hx=>?_⟩
 (refine jc (Qw.mp hx) ?_;rintro j hj rfl)
 constructor<;>lia
theorem WK0(ks:Nat->Int):kA (jM (ftK ks)) 5=(Qj 5).map (WK ks 0):=rfl
theorem WK1(ks:Nat->Int):xa ((Qj 5).map λk=>(d2K ks k:Int))=(Qj 5).map (WK ks 1):=rfl
variable {c:Ct} {Yc:List Qk} {g s:Qi}
theorem X1.goP{st:XM}{R:List (Option AV)->Prop}{E:Qe}{Q:Flow->Qi->Prop}(h:X1 c st (λo=>∃σ',R σ'/\o=.nx c.X σ'))(f:Fm c Yc g s)(ht:1<=s.toks)(hX:c.X=[])(k:∀σ' s',R σ'->Fm (c.up c.X σ') Yc g s'->1<=s'.toks->(∀b o,Off c b->s.heap.get? b=Qf o->s'.heap.get? b=Qf o)->(∃h' tk,s'={ s with heap:=h',toks:=tk })->Q .next s'):Qo c.M c.A (exec st c.env) Q E s :=
 QB (n:=1) ht (Qz (h g s _ ht f) (λfl s' ⟨gr,q⟩ ht'=>by
  cases fl with
  | next =>
   (refine jn q ?_;clear q;rintro X σ ⟨σ',r,e⟩ st)
   cases e
   refine k _ s' r st.2 ht' (λb o ob e=>gr.get b o (λm=>?_) e) (let ⟨h',tk,e,_⟩:=gr;⟨h',tk,e⟩)
   unfold Own at m
   rw [hX]at m
   rcases Qb m with m | m
   ·exact ob.1 m
   ·exact ob.2 m
  | brk=>(refine jn q ?_;clear q;rintro X σ ⟨_,_,e⟩ st);cases e
  | cont=>(refine jn q ?_;clear q;rintro X σ ⟨_,_,e⟩ st);cases e
  | ret v=>(refine jc q ?_;clear q;rintro av ⟨_,_,e⟩ st);cases e) λ_ _ y=>y)
noncomputable def atT(k t:Nat)(v:AV):Option AV:=bif Nat.ble t k then Qf v else Qg
noncomputable def sgK(sc:List Int)(k:Nat):List (Option AV) :=
 [Qf (.list (iL sc)),atT k 1 (kL (cellOf sc)),atT k 2 (dnL (d1K (cellOf sc))),atT k 2 (dnL (d2K (cellOf sc))),atT k 2 (.int (((cellOf sc 4).toNat:Nat):Int)),Qg,atT k 3 (.list (iL (owK (cellOf sc)))),atT k 3 (.list (iL (otK (cellOf sc)))),atT k 4 (.list (tL signsL)),atT k 5 (.list (iL (nuK (cellOf sc)))),atT k 6 (nmL (cellOf sc)),atT k 7 (.raw (.ref (yH (xm (cellOf sc))))),atT k 8 (.str (tx (rwK (cellOf sc)))),Qg,atT k 9 (pg6 (pgK (cellOf sc))),atT k 10 (.tup [dnL (d2K (cellOf sc)),.list (iL (nuK (cellOf sc)))]),atT k 10 (nmF (wdK (cellOf sc))),atT k 12 (nmF (ftK (cellOf sc))),atT k 13 (.list [kL (WK (cellOf sc) 0),kL (WK (cellOf sc) 1)]),atT k 15 (kL (nrK (cellOf sc))),Qg,Qg,atT k 16 (dnL (thF (cellOf sc))),atT k 17 (nmF (ldK (cellOf sc))),atT k 18 (nmF (lnK (cellOf sc))),atT k 18 (kH (yp (cellOf sc))),Qg,Qg,Qg,Qg,Qg]
noncomputable abbrev kP(w:Ql)(prog:QI)(A:QO)(L:Qk)(sc:List Int)(k:Nat):Prop :=
 X1 (LC w prog A L (sgK sc k)) (stL w k) (λo=>o=.nx [] (sgK sc (k+1)))
section
variable (w:Ql) (prog:QI) (A:QO) (n:Nat) (L:Qk) (sc:List Int) (O:LawOk (cellOf sc)) (room:Room (n+10) A) (hsc:sc.length<=63)
include O room hsc
theorem hft(k:Nat)(hk:k<5):(ftK (cellOf sc) k).length<=168:=fT_le (λk hk=>Qp (jZ (jP _) k hk) (by decide)) (kK _ _ rfl) O.wd hk
theorem hld(k:Nat)(hk:k<5):(ldK (cellOf sc) k).length<=100:=Qp (qT (O.th k hk) (kK _ _ rfl)) (by decide)
theorem a0:kP w prog A L sc 0:=l0 w prog A _ L sc room hsc
theorem a1:kP w prog A L sc 1:=X1.mono (l1 w prog A _ L _ (cellOf sc) room) λo e=>by
 rw [e,dK_eq,dK_eq,show cellOf sc 4=(((cellOf sc 4).toNat:Nat):Int)from(Int.toNat_of_nonneg O.dr.1).symm]
 rfl
theorem a2:kP w prog A L sc 2:=l2 w prog A _ L _ _ _ _ (cellOf sc) room
theorem a3:kP w prog A L sc 3:=l3 w prog A _ L _ _ _ _ _ _ (cellOf sc) room
theorem a4:kP w prog A L sc 4:=l4 w prog A _ L _ _ _ _ _ _ (cellOf sc) room
theorem a5:kP w prog A L sc 5:=l5 w prog A _ L _ _ _ _ _ _ (cellOf sc) room
theorem a6:kP w prog A L sc 6:=l6 w prog A _ L _ _ _ _ _ _ _ _ _ (cellOf sc) room
theorem a7:kP w prog A L sc 7:=l7 w prog A _ L _ _ _ _ _ _ _ _ _ (d2K (cellOf sc)) (nmK (cellOf sc)) room (jP _) O.nm
theorem a8:kP w prog A L sc 8:=l8 w prog A _ L _ _ _ _ _ _ _ _ _ (rwK (cellOf sc)) (nmK (cellOf sc)) (xm (cellOf sc)) room (zr _).2 (xO (jP _) O.nm) O.nm
theorem a9:kP w prog A L sc 9:=l9 w prog A _ L _ _ _ _ _ _ _ _ _ _ _ (pgK (cellOf sc)) (nuK (cellOf sc)) _ _ room (λA n r=>O.rdk w prog A n r)
theorem a10:kP w prog A L sc 10:=l10 w prog A _ L _ _ _ _ _ _ _ _ (cellOf sc) (d2K (cellOf sc)) (nuK (cellOf sc)) (nmK (cellOf sc)) (rwK (cellOf sc)) (pgK (cellOf sc)) room (xO (jP _) O.nm) O.nm O.page O.okp
theorem a11:kP w prog A L sc 11:=l11 w prog A _ L _ _ _ _ _ _ _ _ _ _ _ (d1K (cellOf sc)) (owK (cellOf sc)) ((((cellOf sc) 4).toNat:Nat):Int) (wdK (cellOf sc)) room (λk hk=>Qp (jZ (jP _) k hk) (by decide)) (kK _ _ rfl) (XA _) O.wd
theorem a12:kP w prog A L sc 12:=l12 w prog A _ L _ _ _ _ _ _ _ _ _ _ _ _ _ _ _ (ftK (cellOf sc)) ((Qj 5).map λk=>(d2K (cellOf sc) k:Int)) room (hft A n sc O room hsc) (by rfl) (λx hx=>by(refine jc (Qw.mp hx) ?_;rintro k hk rfl);have:=jZ (jP (cellOf sc 1)) k (Qc hk);show((dK (cellOf sc 1) k:Nat):Int)<9;exact zr41 ‹_› rfl)
theorem a13:kP w prog A L sc 13:=l13 w prog A _ L _ _ _ _ _ _ _ _ _ _ _ _ _ _ _ (d1K (cellOf sc)) (kA (jM (ftK (cellOf sc))) 5) _ room (λk hk=>jZ (jP _) k hk) O.told
theorem a14:kP w prog A L sc 14:=l14 w prog A _ L _ _ _ _ _ _ _ _ _ _ _ _ _ _ _ _ (WK (cellOf sc) 0) (WK (cellOf sc) 1) room
theorem a15:kP w prog A L sc 15:=l15 w prog A _ L _ _ _ _ _ _ _ _ _ _ _ _ _ _ _ _ _ (nrK (cellOf sc)) room
theorem a16:kP w prog A L sc 16:=l16 w prog A _ L _ _ _ _ _ _ _ _ _ _ _ _ _ _ _ _ (thF (cellOf sc)) (otK (cellOf sc)) ((((cellOf sc) 4).toNat:Nat):Int) room O.th (kK _ _ rfl) (XA _)
theorem a17:kP w prog A L sc 17:=l17 w prog A _ L _ _ _ _ _ _ _ _ _ _ _ _ _ _ _ _ _ (cellOf sc) (ldK (cellOf sc)) (wdK (cellOf sc)) room (λk hk=>⟨hld A n sc O room hsc k hk,O.wd k hk⟩)
theorem a_all(k:Nat)(hk:k<18):kP w prog A L sc k:=by
 rcases k with _ | _ | _ | _ | _ | _ | _ | _ | _ | _ | _ | _ | _ | _ | _ | _ | _ | _ | k
 ·exact a0 w prog A n L sc O room hsc
 ·exact a1 w prog A n L sc O room hsc
 ·exact a2 w prog A n L sc O room hsc
 ·exact a3 w prog A n L sc O room hsc
 ·exact a4 w prog A n L sc O room hsc
 ·exact a5 w prog A n L sc O room hsc
 ·exact a6 w prog A n L sc O room hsc
 ·exact a7 w prog A n L sc O room hsc
 ·exact a8 w prog A n L sc O room hsc
 ·exact a9 w prog A n L sc O room hsc
 ·exact a10 w prog A n L sc O room hsc
 ·exact a11 w prog A n L sc O room hsc
 ·exact a12 w prog A n L sc O room hsc
 ·exact a13 w prog A n L sc O room hsc
 ·exact a14 w prog A n L sc O room hsc
 ·exact a15 w prog A n L sc O room hsc
 ·exact a16 w prog A n L sc O room hsc
 ·exact a17 w prog A n L sc O room hsc
 ·lia
end
theorem chainK{w:Ql}{prog:QI}{A:QO}{L:Qk}{σ:Nat->List (Option AV)}{st:Nat->XM}{N:Nat}{Yc:List Qk}{g:Qi}{rest:List XM}{E:Qe}{Q:Flow->Qi->Prop}(h:∀k,k<N->X1 (LC w prog A L (σ k)) (st k) (λo=>o=.nx [] (σ (k+1)))):∀m k,k+m=N->∀s,Fm (LC w prog A L (σ k)) Yc g s->1<=s.toks ->
  (∀s',Fm (LC w prog A L (σ N)) Yc g s'->1<=s'.toks->(∀b o,Off (LC w prog A L []) b->s.heap.get? b=Qf o->s'.heap.get? b=Qf o)->(∃h' tk,s'={ s with heap:=h',toks:=tk })->Qo (model prog w) (LC w prog A L []).A (execs rest (LC w prog A L []).env) Q E s') ->
  Qo (model prog w) (LC w prog A L []).A (execs ((List.range' k m).map st++rest) (LC w prog A L []).env) Q E s
 | 0,k,e,s,f,ht,cont=>by
  obtain rfl:k=N:=e
  exact cont s f ht (λb o _ e=>e) ⟨_,_,rfl⟩
 | m+1,k,e,s,f,ht,cont=>by
  refine QF (X1.go (c:=LC w prog A L (σ k)) (h k (by exact zr11 ‹_›)) f ht rfl λs1 f1 ht1 kp1 eq1=>?_)
  refine chainK h m (k+1) (by exact zr12 ‹_›) s1 f1 ht1 λs' f' ht' kp' eq'=>?_
  (refine jN eq1 ?_;clear eq1;rintro h1 t1 rfl)
  (refine jN eq' ?_;clear eq';rintro h2 t2 rfl)
  exact cont _ f' ht' (λb o ob e=>kp' b o ob (kp1 b o ob e)) ⟨h2,t2,rfl⟩
section
variable {c:Ct} {own:List Qd} {fr:List Nat}
theorem compZ{elt tg iter:Expr}{ifs:List Expr}{gs:List XU}{scope:Scope}{pos:Pos}{cl:List (Qd×Qk)}{xs outs:List AV}{Y:List Qk}{s:Qi}{E:Qe}{Q:Qe}(ok:CmOk c scope own fr cl)(p:PIa c tg iter xs Y s)(x:c.At Y (KZ s))
  (lp:∀C,CL c (jT c scope cl C) own (Vd (C+1) scope.names []) (.ListComp elt (⟨tg,iter,ifs,0⟩::gs) scope pos) 0 tg (own.map λ_=>Qg) xs outs) (hz:outs.length<=Qt) (hs:∀x,QN iter c.env x=pure x)
  (h:∀v s',Vb s s'->1<=s'.toks->Rep (hid (c.X++Y) s'.heap) (.list outs) v->Q v s'):Qo c.M c.A (eval (.ListComp elt (⟨tg,iter,ifs,0⟩::gs) scope pos) c.env) Q E s:=by
 rw [eval_ListComp]
 refine xF ok lp hz hs Qg p x λD C s₁ ht k hC hD hne _ ⟨H,vs,hH,hl,hr⟩ h' hs'=>?_
 have kk:Vb s { s₁ with heap:=h' }:=by
  (refine jn k ?_;clear k;rintro h t rfl kk)
  exact⟨h',t,rfl,λb o e=>hs'.extBut b o (λq=>by rw [q,hC]at e;exact no1 e) (kk b o e)⟩
 refine h _ _ kk ht ?_
 (refine jd hl ?_;intro n ho)
 show Exists _
 refine⟨D,vs,n,rfl,jl (hs'.extBut D _ hne ho) (λm=>?_),?_⟩
 ·(refine jd (x.live D m) ?_;intro o' e)
  have:s.heap.get? D=Qf o':=e
  rw [hD]at this;exact no1 this
 ·have e1:hid H h'=hid H s₁.heap:=jD λb hb=>hs'.2 b λq=>hb (hH b (.inr (.inl q)))
  have:=hr.mono (show Le (hid H s₁.heap) (hid (c.X++Y) h')from λb o e=>jE (λb hb=>hH b (.inl hb)) b o (by rw [e1];exact e))
  exact this
theorem tupZ{i:Int}{k:Nat}{p1:Pos}{es:List Expr}{as:List AV}{kt:Nat}{tp:Pos}{Y:List Qk}{s:Qi}{E:Qe}{Q:Qe}(q:PEs c es as)(x:c.At Y (KZ s))(hz:as.length+1<=Qt)
  (h:∀v s',Vb s s'->c.At Y s'->Rep (hid (c.X++Y) s'.heap) (.tup (.int i::as)) v->Q v s')
  (hs:Qv (.Constant (.int i) k p1::es) c.env=(false,eval (.Constant (.int i) k p1) c.env)::Qv es c.env:=by rfl):Qo c.M c.A (eval (.Tuple (.Constant (.int i) k p1::es) kt tp) c.env) Q E s:=by
 refine Tuple_ ?_
 rw [hs]
 show Qo c.M c.A (spliced ((false,eval (.Constant (.int i) k p1) c.env)::VO tp (Qv es c.env))) _ E s
 refine Qq (wpAny_Constant_int (q.use x λvs s₂ k₂ x₂ r₂=>?_))
 have kk:Vb s s₂:=vr k₂
 have r:Reps (hid (c.X++Y) s₂.heap) (.int i::as) (.int i s.toks::vs):=.cons v7 r₂
 refine V1 (h _ _ (ktr kk (ja j7)) (x₂.mono j7 x₂.tk) ?_) (by show(Value.int i s.toks::vs).toArray.size<=Qt;rw [Vk,r.length];exact hz)
 show Exists _
 exact⟨_,_,_,0,rfl,kx x₂.live rfl,rfl,rfl,r.mono (ju j7)⟩
theorem enumZ{n:Nat}{mg mb:Qd->Option Qm}{y:Qd}{px:Pos}{i:Int}{k k':Nat}{p1 tp':Pos}{ts es:List Expr}{as:List AV}{kt:Nat}{tp pos:Pos}{Y:List Qk}{s:Qi}(hh:c.A.handled=Qg)(G:Gd c n mg mb)(hm:mg y=Qg)(hv:mb y=Qf (.type "enumerate"))(q:PEs c es as)(x:c.At Y (KZ s))(hz:as.length+1<=Qt)
  (hx:c.env.kindOf y=Qf .globalImplicit:=by rfl) (hd:(y==("__debug__" : Qd))=false:=by decide)
  (hss:Qv (.Constant (.int i) k p1::es) c.env=(false,eval (.Constant (.int i) k p1) c.env)::Qv es c.env:=by rfl)
  (hs:Qv [.Tuple (.Constant (.int i) k p1::es) kt tp] c.env=[(false,eval (.Tuple (.Constant (.int i) k p1::es) kt tp) c.env)]:=by rfl)
  (he:eval (.Call (.Name y px) [.Tuple (.Constant (.int i) k p1::es) kt tp] [] pos) c.env=(do VL pos (<-eval (.Name y px) c.env) [] (VO pos (Qv [.Tuple (.Constant (.int i) k p1::es) kt tp] c.env)) (VE pos (V3 [] c.env))):=by rfl) :
  PIa c (.Tuple ts k' tp') (.Call (.Name y px) [.Tuple (.Constant (.int i) k p1::es) kt tp] [] pos) (yd (.int i::as)) Y s:=λE Q h=>by
 rw [he,hs]
 refine Qh (Y5 G.kind hx (Calls.loadGlobal_builtin (mg:=mg) (mb:=mb) ?_ hm ?_ hv ?_) hd)
 ·rw [G.glob];exact G.ns.keeps x.base
 ·rw [G.blt];exact G.bs.keeps x.base
 ·exact X7 (first:=[]) rfl (je rfl (Qq (tupZ (kt:=kt) (tp:=tp) (p1:=p1) (k:=k) q x hz (λu s₂ k₂ x₂ r₂=>QK (yO hh k₂ x₂ r₂ h)) hss)))
end
theorem l0Z(w:Ql){prog:QI}{A:QO}{n:Nat}{L:Qk}{sc:List Int}{X:List Qk}{g s:Qi}{E:Qe}{Q:Flow->Qi->Prop}(room:Room (n+1) A)(hsc:sc.length<=63)(f:Fm (LC w prog A L (sgK sc 0)) X g s)
  (k:∀s',Fm (LC w prog A L (sgK sc 1)) X g s'->1<=s'.toks->(∀b o,Off (LC w prog A L []) b->s.heap.get? b=Qf o->s'.heap.get? b=Qf o)->(∃h' tk,s'={ s with heap:=h',toks:=tk })->Q .next s') :
  Qo (model prog w) (LC w prog A L []).A (exec (stL w 0) (LC w prog A L []).env) Q E s:=by
 have V:=(jL w).cV (a:=225) (prog:=prog) (w:=w) (A:=A) (L:=L)
 have G:=(jL w).cG (a:=225) (w:=w) (prog:=prog) (L:=L) room rfl rfl
 have x:(LC w prog A L (sgK sc 0)).At ((LC w prog A L (sgK sc 0)).Yf X) (KZ s):=(f.keeps (s':=KZ s) ⟨_,_,rfl,λ_ _ e=>e⟩).at (Vn _)
 have gv:=J8 w
 have mv:=J1 w
 refine X4 (compZ (c:=LC w prog A L (sgK sc 0)) (own:=["place","base"]) (fr:=[0]) (xs:=yd [.int 11,.int 31,.int 388,.int 87,.int 215]) (outs:=((Qj 5).filter λ_=>true).map λu=>.int (cellOf sc u)) (.of (by kernel_rfl)) (λE' Q' kk=>?_) x (λC=>?_) (show 5<=Qt by decide) (by intro _;rfl) λv s1 k1 ht1 r1=>?_) rfl
 ·exact enumZ (c:=LC w prog A L (sgK sc 0)) room.deeper.1 (G _ _) gv mv (.cons .int (.cons .int (.cons .int (.cons .int .nil)))) x (by decide) rfl (by decide) rfl rfl rfl E' Q' kk
 ·have n2:∀ {scope:Scope} {cl:List (Qd×Qk)} {px py tp pos:Pos} {kt:Nat} {elt iter:Expr} (ok:CmOk (LC w prog A L (sgK sc 0)) scope ["place","base"] [0] cl) (hn:(Vx [.Name "place" px,.Name "base" py] (jT (LC w prog A L (sgK sc 0)) scope cl C)).length=2) (hst:(Vx [.Name "place" px,.Name "base" py] (jT (LC w prog A L (sgK sc 0)) scope cl C)).findIdx? (·.1)=Qg),(CmOk (LC w prog A L (sgK sc 0)) scope ["place","base"] [0] cl->∀u∈Qj 5,PE (v8 (LC w prog A L (sgK sc 0)) (jT (LC w prog A L (sgK sc 0)) scope cl C) ["place","base"] [0] [Qf (.int (u:Nat)),Qf (.int (zE u))]) elt (.int (cellOf sc u))) ->
    CL (LC w prog A L (sgK sc 0)) (jT (LC w prog A L (sgK sc 0)) scope cl C) ["place","base"] (Vd (C+1) scope.names []) (.ListComp elt [⟨.Tuple [.Name "place" px,.Name "base" py] kt tp,iter,[],0⟩] scope pos) 0 (.Tuple [.Name "place" px,.Name "base" py] kt tp) (["place","base"].map λ_=>Qg) (yd [.int 11,.int 31,.int 388,.int 87,.int 215]) (((Qj 5).filter λ_=>true).map λu=>.int (cellOf sc u)):=λok hn hst h =>
   CL.n2 (c:=LC w prog A L (sgK sc 0)) (x:="place") (y:="base") (ys:=Qj 5) (fr:=[0]) ok room.deeper.1 (λu:Nat=>.int u) (λu=>.int (zE u)) (λ_=>true) (λu=>.int (cellOf sc u)) C hn hst (λu hu=>⟨.nil,λ_=>h ok u hu⟩)
  refine n2 (.of (by kernel_rfl)) rfl rfl λok u hu=>?_
  ·have G1:=(G _ _).cc ok C [Qf (.int u),Qf (.int (zE u))]
   refine(PE.add (.v 1 rfl) (.callB (.b G1 (g_sum w) (m_sum w)) (.cons (?_:PE _ _ (.list (iL ((vw sc (Qf (u:Int)) (Qf 60) (Qf 5)).map (·%5040))))) .nil) (KY room.deeper.1))).as rfl
   have e1:iL ((vw sc (Qf (u:Int)) (Qf 60) (Qf 5)).map (·%5040))=(vw sc (Qf (u:Int)) (Qf 60) (Qf 5)).map λx=>AV.int (x%5040):=by simp [iL]
   rw [e1]
   refine .map1 (fr:=[]) (.of (by kernel_rfl)) (λx:Int=>.int x) (λx=>.int (x%5040)) (.list room.deeper.1 (.slc3 (.list (.v 2 rfl)) (.v 0 rfl) .int .int (by decide) (by rw [QV];exact zq1 ‹_› rfl))) (λok' C' x hx=>.mod (.v 0 rfl) .int (by decide)) ?_
   have:=xR sc u
   rw [QV];exact zq1 ‹_› rfl
 ·refine QB (n:=1) ht1 ((f.keeps k1).storeK (V _ _) (i:=1) rfl (.of r1) λs2 g2 sm2 f2 ht2=>?_)
  refine k s2 f2 ht2 (λb o ob e=>(sm2 b ob.1 ob.2).trans (jr k1 _ _ e)) ?_
  (refine jn k1 ?_;clear k1;rintro h1 t1 rfl _)
  (refine jn g2 ?_;clear g2;rintro h2 t2 rfl _)
  exact⟨h2,t2,rfl⟩
noncomputable def zd(sc:List Int)(uk ub ua uw ud ul up ue:Option AV):List (Option AV):=[Qf (.list (iL sc)),Qf (kL (cellOf sc)),Qf (dnL (d1K (cellOf sc))),Qf (dnL (d2K (cellOf sc))),Qf (.int ((((cellOf sc) 4).toNat:Nat):Int)),uk,Qf (.list (iL (owK (cellOf sc)))),Qf (.list (iL (otK (cellOf sc)))),Qf (.list (tL signsL)),Qf (.list (iL (nuK (cellOf sc)))),Qf (nmL (cellOf sc)),Qf (.raw (.ref (yH (xm (cellOf sc))))),Qf (.str (tx (rwK (cellOf sc)))),Qf (.str (tx (txF (cellOf sc)))),Qf (pg6 (pgK (cellOf sc))),Qf (.tup [dnL (d2K (cellOf sc)),.list (iL (nuK (cellOf sc)))]),Qf (nmF (wdK (cellOf sc))),Qf (nmF (ftK (cellOf sc))),Qf (.list [kL (WK (cellOf sc) 0),kL (WK (cellOf sc) 1)]),Qf (kL (nrK (cellOf sc))),ub,ua,Qf (dnL (thF (cellOf sc))),Qf (nmF (ldK (cellOf sc))),Qf (nmF (lnK (cellOf sc))),Qf (kH (yp (cellOf sc))),uw,ud,ul,up,ue]
theorem XS.toL{w:Ql}{prog:QI}{A:QO}{L:Qk}{σ σ':List (Option AV)}{st:XM}{rest:List XM}{P:Out->Prop}(h:X1 (LC w prog A L σ) st (λo=>o=.nx [] σ'))(k:XS (LC w prog A L σ') rest P):XS (LC w prog A L σ) (st::rest) P :=
 XS.cons (X1.mono h λo e=>by subst e;exact k)
noncomputable def J20(sc:List Int)(uw ud ul:Option AV)(i:Nat)(σ:List (Option AV)):Prop:=∃uk ub ua up ue,σ=zd sc uk ub ua uw ud ul up ue
noncomputable def I20(sc:List Int)(i:Nat)(σ:List (Option AV)):Prop:=∃uk ub ua uw ud ul up ue,σ=zd sc uk ub ua uw ud ul up ue
noncomputable def kM(sc:List Int)(i:Nat):Nat->List Nat:=gT (DK (cellOf sc) i) (thF (cellOf sc)) (ldK (cellOf sc)) (wdK (cellOf sc))
section
variable {w:Ql} {prog:QI} {A:QO} {n:Nat} {L:Qk} {sc:List Int}
theorem ft_len(O:LawOk (cellOf sc))(k:Nat)(hk:k<5):(ftK (cellOf sc) k).length<=500:=Qp (fT_le (λk hk=>Qp (jZ (jP _) k hk) (by decide)) (kK _ _ rfl) O.wd hk) (by decide)
theorem DK_le(sc:List Int)(i k:Nat)(hk:k<5):DK (cellOf sc) i k<=9:=by
 unfold DK
 split
 ·exact Qp (jZ (jP _) k hk) (by decide)
 ·exact Qp (jZ (jP _) k hk) (by decide)
theorem Kt(O:LawOk (cellOf sc))(k:Nat)(hk:k<5):(ldK (cellOf sc) k).length<=100:=Qp (qT (O.th k hk) (kK _ _ rfl)) (by decide)
theorem last_len(O:LawOk (cellOf sc))(i k:Nat)(hk:k<5):(kM sc i k).length<=500:=by
 have a1:=Kt O k hk
 have a2:=O.wd k hk
 have a3:=DK_le sc i k hk
 simp only [kM,gT,QC,Vv];lia
theorem htl(sc:List Int)(t:List Nat)(e:yp (cellOf sc)=Qf t):t.length<=1/\Vf (tx t)=true:=by
 unfold yp at e
 split at e
 ·(have q_:=oi e;clear e;subst q_);exact⟨by decide,by kernel_rfl⟩
 ·split at e
  ·exact no1 e
  ·(have q_:=oi e;clear e;subst q_);exact⟨by decide,by kernel_rfl⟩
theorem hln(O:LawOk (cellOf sc))(k:Nat)(hk:k<5):(lnK (cellOf sc) k).length<=300:=by
 have a1:(ldK (cellOf sc) k).length<=100:=Qp (qT (O.th k hk) (kK _ _ rfl)) (by decide)
 have a2:=O.wd k hk
 simp only [lnK,lnT,QC,QA,QQ];lia
theorem htx(O:LawOk (cellOf sc)):(txF (cellOf sc)).length<=10000:=by
 have fl:=qJ (lnK (cellOf sc)) 300 (Qj 5) λk hk=>hln O k (Qc hk)
 simp only [Vu]at fl
 have tz:((yp (cellOf sc)).getD []).length<=1:=by
  cases e:yp (cellOf sc)with
  | none=>simp
  | some t=>exact(htl sc t e).1
 rw [txF,grT,List.flatMap_def,QC];exact zr45 ‹_› ‹_› rfl
theorem turn20(O:LawOk (cellOf sc))(room:Room (n+5) A){i:Nat}(hi:i<2){k:Nat}(hk:k<5)(ub ua up ue:Option AV) :
  XS (LC w prog A L (zd sc (Qf (.int k)) ub ua (Qf (kL (WK (cellOf sc) i))) (Qf (dnL (DK (cellOf sc) i))) (Qf (nmF (kM sc i))) up ue)) [inL w 0,inL w 1,inL w 2,inL w 3] (λo=>∃ub ua up ue,o=.nx [] (zd sc (Qf (.int k)) ub ua (Qf (kL (WK (cellOf sc) i))) (Qf (dnL (DK (cellOf sc) i))) (Qf (nmF (kM sc i))) up ue)):=by
 (refine xE (O.last i hi k hk) ?_;intro g1 g2 g3)
 have hz:∀k,k<5->(ftK (cellOf sc) k).length<=500/\(kM sc i k).length<=500:=λk hk=>⟨ft_len O k hk,last_len O i k hk⟩
 refine XS.toL (σ':=zd sc (Qf (.int k)) (Qf (jM (kM sc i) k).av) (Qf (jM (ftK (cellOf sc)) k).av) (Qf (kL (WK (cellOf sc) i))) (Qf (dnL (DK (cellOf sc) i))) (Qf (nmF (kM sc i))) up ue) (m1 w prog A n L _ _ _ _ _ _ _ _ _ _ _ _ _ _ _ _ _ _ _ _ _ _ _ _ _ _ _ _ k (ftK (cellOf sc)) (kM sc i) room hk hz) ?_
 refine XS.toL (σ':=zd sc (Qf (.int k)) (Qf (jM (kM sc i) k).av) (Qf (jM (ftK (cellOf sc)) k).av) (Qf (kL (WK (cellOf sc) i))) (Qf (dnL (DK (cellOf sc) i))) (Qf (nmF (kM sc i))) (Qf (prsL (zU (d1K (cellOf sc) k) (DK (cellOf sc) i k) (owK (cellOf sc)) (otK (cellOf sc))))) ue) (m2 w prog A n L _ _ _ _ _ _ _ _ _ _ _ _ _ _ _ _ _ _ _ _ _ _ _ _ _ _ k (d1K (cellOf sc)) (DK (cellOf sc) i) (owK (cellOf sc)) (otK (cellOf sc)) room hk rfl rfl) ?_
 refine XS.toL (m3 w prog A n L _ _ _ _ _ _ _ _ _ _ _ _ _ _ _ _ _ _ _ _ _ _ _ _ _ _ _ _ _ _ (zU (d1K (cellOf sc) k) (DK (cellOf sc) i k) (owK (cellOf sc)) (otK (cellOf sc))) room (show 3<=10 by decide)) ?_
 refine XS.toL (m4 w prog A n L _ _ _ _ _ _ _ _ _ _ _ _ _ _ _ _ _ _ _ _ _ _ _ _ _ _ _ _ (jM (ftK (cellOf sc)) k) (jM (kM sc i) k) _ _ _ room (xH _ (by have:=(hz k hk).1;rw [jO];exact zq1 ‹_› rfl)) (xH _ (by have:=(hz k hk).2;rw [jO];exact zq1 ‹_› rfl)) g1 g2 g3) ?_
 exact XS.nil ⟨_,_,_,_,rfl⟩
theorem inner20(O:LawOk (cellOf sc))(room:Room (n+5) A){i:Nat}(hi:i<2)(uk ub ua up ue:Option AV) :
  X1 (LC w prog A L (zd sc uk ub ua (Qf (kL (WK (cellOf sc) i))) (Qf (dnL (DK (cellOf sc) i))) (Qf (nmF (kM sc i))) up ue)) (ouL w 2) (λo=>∃σ',J20 sc (Qf (kL (WK (cellOf sc) i))) (Qf (dnL (DK (cellOf sc) i))) (Qf (nmF (kM sc i))) 0 σ'/\o=.nx [] σ'):=by
 have V:=(jL w).cV (a:=225) (prog:=prog) (w:=w) (A:=A) (L:=L)
 have G:=(jL w).cG (a:=225) (w:=w) (prog:=prog) (L:=L) room rfl rfl
 refine X1.for (J20 sc (Qf (kL (WK (cellOf sc) i))) (Qf (dnL (DK (cellOf sc) i))) (Qf (nmF (kM sc i)))) (.rng1 5 room.deeper.1 (.b (G _ _) (jz w) (jy w)) .int (by decide)) ⟨uk,ub,ua,up,ue,rfl⟩ (λk av σ hi' hJ=>?_) (λσ hJ=>⟨σ,hJ,rfl⟩)
 refine e5_1 hJ ?_;clear hJ;rintro uk ub ua up ue rfl
 (refine jw (xP hi') ?_;rintro hk5 rfl)
 refine⟨_,.name (V _ _) 5 rfl,?_⟩
 exact XS.mono (turn20 O room hi hk5 ub ua up ue) λo ⟨ub,ua,up,ue,e⟩=>e▸⟨rfl,_,ub,ua,up,ue,rfl⟩
theorem outer20(O:LawOk (cellOf sc))(room:Room (n+6) A){i:Nat}(hi:i<2)(uk ub ua ul up ue:Option AV) :
  XS (LC w prog A L (zd sc uk ub ua (Qf (kL (WK (cellOf sc) i))) (Qf (dnL (DK (cellOf sc) i))) ul up ue)) [ouL w 0,ouL w 1,ouL w 2] (λo=>match o with
   | .nx X σ=>X=[]/\I20 sc (i+1) σ
   | .ct X σ=>X=[]/\I20 sc (i+1) σ
   | .br X σ=>False
   | .rt av=>False):=by
 have hp:qz ((Qj 5).map (WK (cellOf sc) i)) ((cellOf sc) 4).toNat (λk=>ldK (cellOf sc) k++wdK (cellOf sc) k)=pL (kM sc i):=O.push i hi
 have e4:AV.list (pL (kM sc i))=nmF (kM sc i):=by simp [nmF,tL]
 have q0:X1 (LC w prog A L (zd sc uk ub ua (Qf (kL (WK (cellOf sc) i))) (Qf (dnL (DK (cellOf sc) i))) ul up ue)) (ouL w 0) (λo=>o=.nx [] (zd sc uk ub ua (Qf (kL (WK (cellOf sc) i))) (Qf (dnL (DK (cellOf sc) i))) (Qf (.list (qz ((Qj 5).map (WK (cellOf sc) i)) ((cellOf sc) 4).toNat λk=>ldK (cellOf sc) k++wdK (cellOf sc) k))) up ue)):=o0 w prog A n L _ _ _ _ _ _ _ _ _ _ _ _ _ _ _ _ _ _ _ _ _ _ _ _ _ _ _ _ (txF (cellOf sc)) ((Qj 5).map (WK (cellOf sc) i)) ((cellOf sc) 4).toNat (λk=>ldK (cellOf sc) k++wdK (cellOf sc) k) room (htx O) O.split1 O.split2 (by rfl) (λk hk=>by have:=Kt O k hk;have:=O.wd k hk;rw [QC];exact zr45 ‹_› ‹_› rfl) (by have:=O.dr;lia)
 rw [hp,e4]at q0
 refine XS.toL (σ':=zd sc uk ub ua (Qf (kL (WK (cellOf sc) i))) (Qf (dnL (DK (cellOf sc) i))) (Qf (nmF (kM sc i))) up ue) q0 ?_
 refine XS.toL (σ':=zd sc uk ub ua (Qf (kL (WK (cellOf sc) i))) (Qf (dnL (DK (cellOf sc) i))) (Qf (nmF (kM sc i))) up ue) (o1 w prog A (n+1) L _ _ _ _ _ _ _ _ _ _ _ _ _ _ _ _ _ _ _ _ _ _ _ _ _ _ (DK (cellOf sc) i) (thF (cellOf sc)) (ldK (cellOf sc)) (wdK (cellOf sc)) room (λk hk=>⟨DK_le sc i k hk,O.th k hk,Kt O k hk,O.wd k hk⟩) (O.okg i hi)) ?_
 exact XS.cons (X1.mono (inner20 (n:=n+1) O room hi uk ub ua up ue) λo ⟨σ',⟨uk,ub,ua,up,ue,e⟩,e'⟩=>by subst e' e;exact XS.nil ⟨rfl,_,_,_,_,_,_,_,_,rfl⟩)
theorem run20(O:LawOk (cellOf sc))(room:Room (n+10) A):X1 (LC w prog A L (zd sc Qg Qg Qg Qg Qg Qg Qg Qg)) (stL w 20) (λo=>∃σ',True/\o=.nx [] σ'):=by
 have V:=(jL w).cV (a:=225) (prog:=prog) (w:=w) (A:=A) (L:=L)
 refine X1.for (xs:=[.tup [kL (WK (cellOf sc) 0),dnL (DK (cellOf sc) 0)],.tup [kL (WK (cellOf sc) 1),dnL (DK (cellOf sc) 1)]]) (I20 sc) (.tup room.deeper.1 (.tup (.cons (.tup (.cons (.itemL (.list (.v 18 rfl)) .int 0 rfl rfl (by decide)) (.cons (.v 2 rfl) .nil)) (show 2<=Qt by decide)) (.cons (.tup (.cons (.itemL (.list (.v 18 rfl)) .int 1 rfl rfl (by decide)) (.cons (.v 3 rfl) .nil)) (show 2<=Qt by decide)) .nil)) (show 2<=Qt by decide))) ⟨Qg,Qg,Qg,Qg,Qg,Qg,Qg,Qg,rfl⟩ (λi av σ hi hJ=>?_) (λσ hJ=>⟨σ,trivial,rfl⟩)
 obtain⟨uk,ub,ua,uw,ud,ul,up,ue,rfl⟩:=hJ
 have hi2:i<2/\av=.tup [kL (WK (cellOf sc) i),dnL (DK (cellOf sc) i)]:=by
  rcases i with _ | _ | i
  ·(have q_:=oi hi;clear hi;subst q_);exact⟨by decide,rfl⟩
  ·(have q_:=oi hi;clear hi;subst q_);exact⟨by decide,rfl⟩
  ·exact no1 hi
 (refine jw hi2 ?_;clear hi2;rintro hi2 rfl)
 refine⟨zd sc uk ub ua (Qf (kL (WK (cellOf sc) i))) (Qf (dnL (DK (cellOf sc) i))) ul up ue,.tup (V _ _) room.deeper.1 (.cons 26 rfl (.cons 27 rfl .nil)),?_⟩
 exact XS.mono (outer20 (n:=n+4) O room hi2 uk ub ua ul up ue) λo h=>by
  cases o with
  | nx X σ=>exact h
  | ct X σ=>exact h
  | br X σ=>exact h.elim
  | rt av=>exact h.elim
end
theorem body225(w:Ql):(F225 w).body=.stmts ((List.range' 0 18).map (stL w)++[stL w 18,stL w 19,stL w 20,stL w 21]):=by kernel_rfl
section
variable {w:Ql} {prog:QI} {A:QO} {n:Nat} {L:Qk} {sc:List Int} {X:List Qk} {g s:Qi} {E:Qe} {Q:Flow->Qi->Prop}
noncomputable abbrev sgP(sc:List Int):List (Option AV):=zd sc Qg Qg Qg Qg Qg Qg Qg Qg
theorem run18(O:LawOk (cellOf sc))(room:Room (n+10) A)(f:Fm (LC w prog A L (sgK sc 18)) X g s)(ht:1<=s.toks)(H1:HidOk (LC w prog A L []) X g 171)(T:TabOk s.heap)
  (k:∀s',Fm (LC w prog A L (sgP sc)) X g s'->1<=s'.toks->(∃ps,s'.heap.get? 171=Qf (Zy ps))->(∃h' tk,s'={ s with heap:=h',toks:=tk })->Q .next s') :
  Qo (model prog w) (LC w prog A L []).A (exec (stL w 18) (LC w prog A L []).env) Q E s:=by
 have eo:dnL (thF (cellOf sc))=dnL (jt ((Qj 5).map (thF (cellOf sc)))):=by
  unfold dnL
  refine congrArg AV.list (congrArg iL (VI λa ha=>?_))
  have:=Qc ha
  simp [jt,List.getD,this]
 have f':Fm (LC w prog A L [Qf (.list (iL sc)),Qf (kL (cellOf sc)),Qf (dnL (d1K (cellOf sc))),Qf (dnL (d2K (cellOf sc))),Qf (.int (((cellOf sc 4).toNat:Nat):Int)),Qg,Qf (.list (iL (owK (cellOf sc)))),Qf (.list (iL (otK (cellOf sc)))),Qf (.list (tL signsL)),Qf (.list (iL (nuK (cellOf sc)))),Qf (nmL (cellOf sc)),Qf (.raw (.ref (yH (xm (cellOf sc))))),Qf (.str (tx (rwK (cellOf sc)))),Qg,Qf (pg6 (pgK (cellOf sc))),Qf (.tup [dnL (d2K (cellOf sc)),.list (iL (nuK (cellOf sc)))]),Qf (nmF (wdK (cellOf sc))),Qf (nmF (ftK (cellOf sc))),Qf (.list [kL (WK (cellOf sc) 0),kL (WK (cellOf sc) 1)]),Qf (kL (nrK (cellOf sc))),Qg,Qg,Qf (dnL (thF (cellOf sc))),Qf (nmF (ldK (cellOf sc))),Qf (nmF (lnK (cellOf sc))),Qf (kH (yp (cellOf sc))),Qg,Qg,Qg,Qg,Qg]) X g s:=f
 rw [eo]at f'
 refine l18 w prog A n L _ _ _ _ _ _ _ _ _ _ _ _ _ _ _ _ _ _ _ _ _ _ _ _ _ _ _ _ ((Qj 5).map (thF (cellOf sc))) (lnK (cellOf sc)) (yp (cellOf sc)) X _ _ _ _ room O.out f' ht H1 T (λt e=>Qp (htl sc t e).1 (by decide)) (htx O) O.okl (λt e=>(htl sc t e).2) λs19 f19 ht19 l19 eq19=>?_
 rw [<-eo]at f19
 exact k s19 f19 ht19 l19 eq19
theorem run19(O:LawOk (cellOf sc))(room:Room (n+10) A):X1 (LC w prog A L (sgP sc)) (stL w 19) (λo=>o=.nx [] (sgP sc)) :=
 l19 w prog A _ L _ _ _ _ _ _ _ _ _ _ _ _ _ _ _ _ _ _ _ _ (lnK (cellOf sc)) (yp (cellOf sc)) room (hln O) (λt e=>Qp (htl sc t e).1 (by decide))
end
theorem lawRun{w:Ql}{prog:QI}{A:QO}{n:Nat}{s:Qi}{E:Qe}{Q:Qe}{sc:List Int}{vs:List Qm}{X:List Qk}(O:LawOk (cellOf sc))(room:Room (n+12) A)(hB:∀a o,(Bh w).get? a=Qf o->s.heap.get? a=Qf o)(hX:∀x∈X,∃o,s.heap.get? x=Qf o)(h171:171∈X)(T:TabOk s.heap)(hsc:sc.length<=63)(hr:Reps (hid X s.heap) [.list (iL sc)] vs)
  (h:∀s',Kp s.heap s'.heap->(∃ps,s'.heap.get? 171=Qf (Zy ps))->(∃h' tk,s'={ s with heap:=h',toks:=tk })->Q (.bool true) s'):Qo (model prog w) A (call (.ref 225) vs) Q E s:=by
 (refine jc (d225 w) ?_;intro body D hbody)
 have e:=hbody.symm.trans (body225 w)
 injection e with e
 subst e
 refine yc (t0:=0) [171] D room (avs:=[.list (iL sc)]) rfl hB (λm hm=>by obtain rfl:=Q9 hm;exact Jn w) hX (Vj _) hr λE' s₁ ht₁ ks f₁=>?_
 refine QF (l0Z w room hsc f₁ λs1 f1 ht1 kp1 eq1=>?_)
 (refine jN eq1 ?_;clear eq1;rintro h1 tk1 rfl)
 refine chainK (N:=18) (λk hk=>a_all w prog A (n+2) s.heap.objs.size sc O room hsc k hk) 17 1 rfl _ f1 ht1 λs2 f2 ht2 kp2 eq2=>?_
 (refine jN eq2 ?_;clear eq2;rintro h2 tk2 rfl)
 have H1:HidOk (LC w prog A s.heap.objs.size []) X (qq s [171]) 171:=by
  (refine jc (id T) ?_;intro ps h171' _)
  have o:=f₁.offLt (jg h171')
  exact⟨h171,Zu _ (.head _),o.1,o.2⟩
 have T2:TabOk h2:=(T.keeps λb o e=>jr ks b o e).storeG (s':={ s₁ with heap:=h2,toks:=tk2 }) f₁ (λb o ob e=>kp2 b o ob (kp1 b o ob e)) ⟨H1.nl,H1.nc⟩
 refine QF (run18 (n:=n+2) O room f2 ht2 H1 T2 λs3 f3 ht3 l171 eq3=>?_)
 (refine jd l171 ?_;intro ps l171)
 refine QF (X1.go (c:=LC w prog A s.heap.objs.size (sgP sc)) (run19 (n:=n+2) O room) f3 ht3 rfl λs4 f4 ht4 kp4 eq4=>?_)
 refine QF (X1.goP (c:=LC w prog A s.heap.objs.size (sgP sc)) (run20 (n:=n+2) O room) f4 ht4 rfl λσ5 s5 _ f5 ht5 kp5 eq5=>?_)
 refine QF (YH ((PE.bool (c:=LC w prog A s.heap.objs.size σ5)).use (f5.at ht5) λv s6 k6 x6 r6=>?_))
 have:v=.bool true:=r6
 subst this
 refine h s6 (λb o hb e=>jr k6 b o (jr f5.kept b o (ghostM_get? e (by simpa using hb)))) ⟨ps,jr k6 _ _ (kp5 _ _ ⟨H1.nl,H1.nc⟩ (kp4 _ _ ⟨H1.nl,H1.nc⟩ l171))⟩ ?_
 (refine jn ks ?_;clear ks;rintro h1' t1' rfl _)
 (refine jN eq3 ?_;clear eq3;rintro h3 t3 rfl)
 (refine jN eq4 ?_;clear eq4;rintro h4 t4 rfl)
 (refine jN eq5 ?_;clear eq5;rintro h5 t5 rfl)
 (refine jn k6 ?_;clear k6;rintro h6 t6 rfl _)
 exact⟨h6,t6,rfl⟩
abbrev rrow:RowW:=rw0.row.toRowW
abbrev Xt0:Qi->Bool:=λs=>xlAt q [] s&&recOk (RowW.records rrow) s
theorem h_runs:∀(w:Ql) (os:YR),topRun YS pw w 11 (Qf (.ref 6)) (12+(1+(XG 39 (XG 493 (XG 397 (XG 55 (XG 979 (XG 378 (XG 247 2))))))))) (S0 w os) (topStub pw)=Qf (SK w os):=λw os =>
 go_top (h_pre w os) (piece_block (h_block w os) (h_body▸top.chain pw (behindTheImports pw) w os [] 2 (SK w os) (h_fin w os)))
theorem l_1:∀w:Ql,(λos=>(staticsOk (importedModules pw.main.body) (Zw w.params) (H1 w.params)&&namesBound pw (H1 w.params)&&gensDone ⟨H1 w.params,⟨[]⟩,{},651,os⟩&&laidKept (Zw w.params) (H1 w.params)))=λ_=>true:=λw=>by kernel_rfl
theorem l_2:∀w:Ql,(λos=>openSeen q vd (importedModules pw.main.body) Xt0 true ⟨H1 w.params,⟨[]⟩,{},651,os⟩)=λ_=>openGood q vd:=λw=>by kernel_rfl
def dLaw:DefRec:=match defOf q "law" with
 | some (d,_)=>d
 | none=>{ name:="",params:=⟨[],[],Qg,[],[],Qg,[]⟩,body:=[],scope:={ kind:=.module,names:=[],isGenerator:=false,isCoroutine:=false,more:=[] },pos:=⟨0,0,0,0⟩ }
abbrev YP0:Ql->QU->Prop:=λw h=>∀a o,(H1 w.params).get? a=Qf o->h.get? a=Qf o
theorem left0:LeftO pw q vd Xt0 (λs=>s.heap) (λw=>H1 w.params) 5288 true :=
 LeftO.of_pieces (H₀:=Zw) (H₁:=H1) (gs₁:=⟨[]⟩) (d₁:={}) (k₁:=651) (M:=(12+(1+(XG 39 (XG 493 (XG 397 (XG 55 (XG 979 (XG 378 (XG 247 2)))))))))) h_open h_size h_runs (by decide)
  (λw=>by
   funext os
   have a:=congrFun (l_1 w) os
   have b:=congrFun (l_2 w) os
   exact Prod.ext a (Prod.ext b rfl))
theorem head(call:WalkO q vd (XL q []) YP0 rrow dLaw [] λf vs=>PySem.call f vs):rw0.Holds :=
 holds_law ws λsaid=>holds_open (r:=rw0.row) (q:=q) (loose:=vd) (Xt:=Xt0) (XP:=XL q []) (Yf:=λs=>s.heap) (Ya:=λw=>H1 w.params) (YP:=YP0) (d:=dLaw) (kwd:=[]) (N:=5288)
  left0 (λw s e a o h=>by rw [<-e]at h;exact h) (λw h h' y k a o e=>k a o (y a o e))
  (λs e=>xl_of s (Bool.and_eq_true_iff.mp e).1) XL.keeps (by kernel_rfl) (by kernel_rfl) (by kernel_rfl) (λs e=>recFacts_of (Bool.and_eq_true_iff.mp e).2) (by rfl) said (by decide +kernel) ⟨rfl,rfl,rfl,rfl,rfl,by decide +kernel⟩ (by w_witness2) call
theorem h1_171(w:Ql):(H1 w.params).get? 171=Qf (Zy #[]):=by kernel_rfl
theorem mg_law(w:Ql):mg w "law"=Qf (.ref 225):=by kernel_rfl
theorem ns_one{h:QU}{a:Qk}{m m':Qd->Option Qm}(x:h.Ns a m)(y:h.Ns a m')(n:Qd):m n=m' n:=by
 (refine Jx x ?_;intro o es ep e1 e2 _ e4)
 (refine Jx y ?_;intro o' es' ep' f1 f2 _ f4)
 rw [e1]at f1;(have q_:=oi f1;clear f1;subst q_)
 rw [e2]at f2;cases f2
 rw [<-e4,<-f4]
theorem yl:∀ {xs:List WData},WShape.hasItems [] xs .int=true->∃l:List Int,xs=l.map WData.int
 | [],_=>⟨[],rfl⟩
 | d::xs,h=>by
  simp only [WShape.hasItems,Vl]at h
  (refine jd (hasW_int h.1) ?_;rintro i rfl)
  (refine jd (yl h.2) ?_;rintro l rfl)
  exact⟨i::l,rfl⟩
theorem K3{P:Y3}{h:QU}{g:Lk}:∀ {l:List Int} {vs:List Qm},WellAll P h vs (l.map WData.int)->Reps g (iL l) vs:=by
 intro l;induction l with
 | nil=>intro vs h;cases h;exact .nil
 | cons i l ih =>
  intro vs h
  cases h with
  | cons a r =>
   cases a
   have:=ih r
   exact show Exists _ from⟨_,_,rfl,v7,this⟩
theorem arg_of{args:List WData}(h:rrow.claim.pre args=true):∃l:List Int,args=[.list (l.map WData.int)]/\l.length<=63:=by
 (refine jw (pre_splitW h) ?_;intro h1 h2)
 (refine jW (hasAllW_cons (e:=.list .int) (es:=[]) h1) ?_;rintro d r rfl h3 h4)
 obtain rfl:=hasAllW_nil h4
 (refine jc (hasW_list h3) ?_;rintro xs rfl h5)
 (refine jd (yl h5) ?_;rintro l rfl)
 refine⟨l,rfl,?_⟩
 have e:rrow.pre=.and (.not (.lt (.lit (.int 63)) (.len (.arg 0)))) (.lit (.bool true)):=rfl
 rw [e]at h2
 by_cases q:l.length<=63
 ·exact q
 ·have q':(63:Int)<(l.length:Int):=by lia
  have e2:less? (.int 63) (.int (l.length:Nat))=Qf (decide ((63:Int)<(l.length:Nat))):=rfl
  simp [WTm.holds,WTm.value,e2,q']at h2
theorem oldK_of{h h':QU}(k:Kp h h')(ic:isCodeTable h 171)(e:h.get? 171=Qf (Zy #[]))(e':∃ps,h'.get? 171=Qf (Zy ps)):OldK h h':=by
 (refine jd e' ?_;intro ps e')
 refine⟨λb o q=>?_,λb o q=>?_⟩
 ·by_cases hb:b=171
  ·subst hb
   rw [e]at q;(have q_:=oi q;clear q;subst q_)
   exact .inr (.inl ⟨ic,rfl,#[],ps,rfl,by rw [e'];simp [Zy]⟩)
  ·exact .inl (k b o hb q)
 ·by_cases hb:b=171
  ·subst hb;exact⟨_,e'⟩
  ·exact⟨o,k b o hb q⟩
theorem theCall(hok:∀sc:List Int,sc.length<=63->LawOk (cellOf sc)):WalkO q vd (XL q []) YP0 rrow dLaw [] λf vs=>PySem.call f vs:=by
 intro w s₀ s₁ mg' mb' G Y a o pm cd doc dV kV ha hd hc hD hma hg args vals as hpre hlay R W low
 (refine jc (arg_of hpre) ?_;rintro l rfl hl)
 have hB:∀a o,(Bh w).get? a=Qf o->s₁.heap.get? a=Qf o:=λa o e=>Y a o (of_hideAll _ e)
 have h171:=Y 171 _ (h1_171 w)
 have ea:mg' "law"=Qf (.ref 225):=(ns_one G.T.g ((mg_ns w).keeps hB) "law").trans (mg_law w)
 have:a=225:=by
  have e1:mg' dLaw.name=mg' "law":=congrArg mg' (by kernel_rfl)
  rw [e1,ea]at hma
  (have q_:=oi hma;clear hma;cases q_);rfl
 subst this
 obtain⟨la,vs,W1,W2,rfl⟩:∃la vs,s₁.heap.get? la=Qf { cls:=.type "list",data:=.seq vs.toArray }/\WellAll w.params s₁.heap vs (l.map WData.int)/\vals=[.ref la]:=by
  cases W with
  | cons x y=>cases y;cases x with
   | list x1 x2=>exact⟨_,_,x1,x2,rfl⟩
 have T:TabOk s₁.heap:=⟨#[],h171,trivial,λpos cv e=>by simp [codeAmong]at e⟩
 have hr:Reps (hid [171] s₁.heap) [.list (iL l)] [.ref la]:=by
  refine .cons (show Exists _ from⟨la,_,_,rfl,jl W1 (λm=>?_),K3 W2⟩) .nil
  obtain rfl:=Q9 m
  rw [h171]at W1;(have q_:=oi W1;clear W1;cases q_)
 refine lawRun (n:=0) (hok l hl) ⟨rfl,by decide,by decide⟩ hB (λx hx=>by obtain rfl:=Q9 hx;exact⟨_,h171⟩) (.head _) T hl hr λs' kp tb eq=>?_
 (refine jN eq ?_;clear eq;rintro h' tk rfl)
 have ic:isCodeTable s₁.heap 171:=by
  obtain⟨o,vs,_,_,_,_,_,_,_,e1,e2,e3,e4,_⟩:=(c_175 w).keeps hB
  exact⟨175,o,vs,e1,e2,e3,e4⟩
 exact⟨.inl ⟨_,.bool true,[],rfl,λcls=>rfl,.bool true,by kernel_rfl,λ_=>⟨Zo,λa h=>nomatch h⟩⟩,oldK_of kp ic h171 tb,rfl,.of_eq hg⟩
theorem holds_of(hok:∀sc:List Int,sc.length<=63->LawOk (cellOf sc)):rw0.Holds:=head (theCall hok)
noncomputable def cnt(a b c:Nat):List Int:=if c≠0 then [(a:Int),b,c]else if b≠0 then [(a:Int),b]else if a≠0 then [(a:Int)]else []
theorem xN:∀(n:Nat) (r:List Nat) (a:Wst),jI (Qr n 32++r) a=jI r ⟨a.n+n,a.nt,a.c,a.b+n⟩
 | 0,r,a=>by simp
 | n+1,r,a=>by
  rw [QZ,VB,zK,if_pos rfl,xN n r]
  congr 2<;>simp<;>lia
noncomputable def put(c:List Int)(n:Nat):List Int:=(Wst.grown ⟨0,0,c,n⟩).set n ((Wst.grown ⟨0,0,c,n⟩).getD n 0+1)
theorem put0(a b c:Nat):put (cnt a b c) 0=cnt (a+1) b c:=by
 unfold put cnt Wst.grown
 by_cases hc:c=0<;>by_cases hb:b=0<;>by_cases ha:a=0<;>simp [hc,hb,ha]
theorem put1(a b c:Nat):put (cnt a b c) 1=cnt a (b+1) c:=by
 unfold put cnt Wst.grown
 by_cases hc:c=0<;>by_cases hb:b=0<;>by_cases ha:a=0<;>simp [hc,hb,ha]
theorem put2(a b c:Nat):put (cnt a b c) 2=cnt a b (c+1):=by
 unfold put cnt Wst.grown
 by_cases hc:c=0<;>by_cases hb:b=0<;>by_cases ha:a=0<;>simp [hc,hb,ha,Qr]
theorem put_cnt(a b c:Nat){n:Nat}(hn:n<=2):put (cnt a b c) n=cnt (a+if n=0 then 1 else 0) (b+if n=1 then 1 else 0) (c+if n=2 then 1 else 0):=by
 have:n=0∨n=1∨n=2:=by lia
 rcases this with rfl | rfl | rfl
 ·exact put0 a b c
 ·exact put1 a b c
 ·exact put2 a b c
theorem scan_one{n:Nat}(r:List Nat)(N T:Int)(a b c:Nat)(hn:n<=2) :
  jI (Qr n 32++9::r) ⟨N,T,cnt a b c,0⟩=jI r ⟨N+n+1,T+1,cnt (a+if n=0 then 1 else 0) (b+if n=1 then 1 else 0) (c+if n=2 then 1 else 0),0⟩:=by
 rw [xN,zK,if_neg (by decide),if_pos rfl,<-put_cnt a b c hn]
 simp only [Wst.tab,Nat.zero_add]
 rfl
noncomputable def zN(rs:List Nat):List Nat:=(rs.map λn=>Qr n 32++[9]).flatten
theorem zJ:∀(rs:List Nat) (r:List Nat) (N T:Int) (a b c:Nat),(∀n∈rs,n<=2) ->
  jI (zN rs++r) ⟨N,T,cnt a b c,0⟩=jI r ⟨N+(rs.sum:Nat)+(rs.length:Nat),T+(rs.length:Nat),cnt (a+rs.count 0) (b+rs.count 1) (c+rs.count 2),0⟩
 | [],r,N,T,a,b,c,_=>by simp [zN]
 | n::rs,r,N,T,a,b,c,h=>by
  have e:zN (n::rs)++r=Qr n 32++9::(zN rs++r):=by simp [zN]
  have hn:=h n (.head _)
  rw [e,scan_one _ N T a b c hn,zJ rs r _ _ _ _ _ λm hm=>h m (.tail _ hm)]
  have:n=0∨n=1∨n=2:=by lia
  congr 2
  ·simp;lia
  ·simp;lia
  ·rcases this with rfl | rfl | rfl<;>simp [List.count_cons]<;>congr 1<;>lia
noncomputable def Bare(l:List Nat):Prop:=∀k,l.head?=Qf k->k≠32/\k≠9
theorem K2{l:List Nat}(h:Bare l)(a:Wst):jI l a=a:=by
 cases l with
 | nil=>rfl
 | cons k r =>
  have:=h k rfl
  rw [zK,if_neg this.1,if_neg this.2]
theorem scan_all(rs:List Nat)(t:Nat)(w:List Nat)(h:∀n∈rs,n<=2)(hw:Bare w) :
  jI (zN rs++(Qr t 32++w)) ⟨0,0,[],0⟩=⟨(rs.sum:Nat)+(rs.length:Nat)+(t:Nat),(rs.length:Nat),cnt (rs.count 0) (rs.count 1) (rs.count 2),t⟩:=by
 have:=zJ rs (Qr t 32++w) 0 0 0 0 0 h
 rw [show cnt 0 0 0=[]from rfl]at this
 rw [this,xN,K2 hw]
 simp
noncomputable def is(x n:Nat):Nat:=if x=n then 1 else 0
noncomputable def wK(D:Nat)(r:List Int):Wst :=
 ⟨(((r.getD 0 0).toNat+(r.getD 1 0).toNat+D+2+(r.getD 2 0).toNat:Nat):Int),((D+2:Nat):Int),cnt (D+is (r.getD 0 0).toNat 0+is (r.getD 1 0).toNat 0) (is (r.getD 0 0).toNat 1+is (r.getD 1 0).toNat 1) (is (r.getD 0 0).toNat 2+is (r.getD 1 0).toNat 2),(r.getD 2 0).toNat⟩
theorem row_tabs(m:Nat):Qr m 9=zN (Qr m 0):=by
 induction m with
 | zero=>rfl
 | succ m ih=>rw [QZ,QZ,ih];simp [zN]
theorem zf(a b:List Nat):zN (a++b)=zN a++zN b:=by simp [zN]
theorem vV{r:List Int}(hr:Run3 r)(m d:Nat)(cell:Int){w:List Nat}(hw:Bare w) :
  jI (Qr m 9++qU d r cell++w) ⟨0,0,[],0⟩=wK (m+d) r:=by
 obtain⟨x,y,z,rfl⟩:=len3 hr.len
 have bx:=hr.bd x (.head _)
 have bY:=hr.bd y (.tail _ (.head _))
 have bz:=hr.bd z (.tail _ (.tail _ (.head _)))
 have P:((jx d [x,y,z]).drop (cell%(d+2)).toNat++(jx d [x,y,z]).take (cell%(d+2)).toNat).Perm (jx d [x,y,z]):=by
  refine(List.perm_append_comm).trans ?_
  rw [List.take_append_drop]
 have Q:(Qr m 0++((jx d [x,y,z]).drop (cell%(d+2)).toNat++(jx d [x,y,z]).take (cell%(d+2)).toNat).map Int.toNat).Perm (x.toNat::y.toNat::Qr (m+d) 0):=by
  refine((P.map Int.toNat).append_left (Qr m 0)).trans ?_
  have e:(jx d [x,y,z]).map Int.toNat=[x.toNat,y.toNat]++Qr d 0:=by simp [jx]
  rw [e,<-Yo]
  refine(List.perm_append_comm.append_right _).trans ?_
  rw [Yo,List.replicate_append_replicate]
  simp
 generalize hR:Qr m 0++((jx d [x,y,z]).drop (cell%(d+2)).toNat++(jx d [x,y,z]).take (cell%(d+2)).toNat).map Int.toNat=R at Q
 have e1:Qr m 9++qU d [x,y,z] cell++w=zN R++(Qr z.toNat 32++w):=by
  rw [<-hR,zf,<-row_tabs]
  simp [qU,zN,Xp,Function.comp_def]
 have h2:∀n∈R,n<=2:=λn hn=>by
  have:=Q.mem_iff.mp hn
  simp only [QD,VG]at this
  lia
 rw [e1,scan_all R _ w h2 hw,Q.sum_nat,Q.length_eq,Q.count_eq,Q.count_eq,Q.count_eq]
 have r0:∀k,(x.toNat::y.toNat::Qr (m+d) 0).count k=(if k=0 then m+d else 0)+is y.toNat k+is x.toNat k:=λk=>by
  rw [List.count_cons,List.count_cons,List.count_replicate]
  simp only [is,beq_iff_eq]
  by_cases h:k=0<;>simp [h,eq_comm]
 have s0:(x.toNat::y.toNat::Qr (m+d) 0).sum=x.toNat+y.toNat:=by simp
 have l0:(x.toNat::y.toNat::Qr (m+d) 0).length=m+d+2:=by simp
 rw [r0,r0,r0,s0,l0]
 show _=Wst.mk (((x.toNat+y.toNat+(m+d)+2+z.toNat:Nat):Int)) (((m+d)+2:Nat):Int) (cnt ((m+d)+is x.toNat 0+is y.toNat 0) (is x.toNat 1+is y.toNat 1) (is x.toNat 2+is y.toNat 2)) z.toNat
 simp only [if_true,show ¬(1:Nat)=0 from by decide,show ¬(2:Nat)=0 from by decide,if_false,Nat.zero_add]
 rw [Yl (is y.toNat 1),Yl (is y.toNat 2),show m+d+is y.toNat 0+is x.toNat 0=m+d+is x.toNat 0+is y.toNat 0 by exact Nat.add_right_comm _ _ _]
 congr 1
noncomputable def wvK(a:Wst):Wv:=⟨"",a.n,a.nt,a.c,a.b,decide (a.c.length<=1)⟩
theorem zq(l l':List Nat):kh (xn (tx l)) (xn (tx l'))=kh (wvK (jI l ⟨0,0,[],0⟩)) (wvK (jI l' ⟨0,0,[],0⟩)):=rfl
theorem eq_ws(l l':List Nat):eqW (xn (tx l)) (xn (tx l'))=eqW (wvK (jI l ⟨0,0,[],0⟩)) (wvK (jI l' ⟨0,0,[],0⟩)):=rfl
noncomputable def runs:List (List Int):=(Qj 3).flatMap λa:Nat=>(Qj 3).flatMap λb:Nat=>(Qj 3).map λc:Nat=>[(a:Int),(b:Int),(c:Int)]
theorem zL:∀r∈runs,∀D1,D1<10->∀D2,D2<10->kh (wvK (wK D1 r)) (wvK (wK D2 r))=decide (D1<D2)/\eqW (wvK (wK D1 r)) (wvK (wK D2 r))=decide (D1=D2):=by decide +kernel
noncomputable def xe(e:Nat->Nat)(a:Nat):Nat->Nat->Nat
 | 0,b=>b
 | n+1,b=>if e a<e (b+1)then xe e a n (b+1)else b
theorem zD{e:Nat->Nat}{a n b:Nat}:xe e a (n+1) b=if e a<e (b+1)then xe e a n (b+1)else b:=rfl
noncomputable def vz(e:Nat->Nat)(a:Nat):Nat:=xe e a (4-a) a
noncomputable def letP(e:Nat->Nat)(wish:List Int)(a b:Nat):Bool:=decide ((vz e a:Int)=(b:Int)-1)&&(decide ((vz e b:Int)<=wish.getD a 0)&&decide (e a=e b))
noncomputable def letD(e:Nat->Nat)(wish:List Int):List (Nat×Nat):=(Qj 4).flatMap λk=>((Qj (1+k)).filter λa=>letP e wish a (1+k)).map λa=>(a,1+k)
noncomputable def yw(e:Nat->Nat)(b k:Nat):Nat:=if b<=k/\k<=vz e b then e k+1 else e k
noncomputable def lof(e:Nat->Nat):List Nat:=(Qj 5).map e
noncomputable def kW(e:Nat->Nat):List Int:=(Qj 5).map λa=>(vz e a:Int)
noncomputable def muD(e:Nat->Nat):Nat:=((Qj 5).map λa=>vz e a-a).sum
theorem lof_in{e:Nat->Nat}(h0:e 0=0)(h1:e 1<=1)(h2:e 2<=e 1+1)(h3:e 3<=e 2+1)(h4:e 4<=e 3+1):lof e∈outl:=by
 refine XZ.mpr ⟨e 1,Xd.mpr (by exact V4 ‹_›),XZ.mpr ⟨e 2,Xd.mpr (by exact V4 ‹_›),XZ.mpr ⟨e 3,Xd.mpr (by exact V4 ‹_›),Qw.mpr ⟨e 4,Xd.mpr (by exact V4 ‹_›),?_⟩⟩⟩⟩
 simp [lof,Xg,h0]
noncomputable def xY(e:Nat->Nat):Bool:=Nat.beq (e 0) 0&&(Nat.ble (e 1) 1&&(Nat.ble (e 2) (e 1+1)&&(Nat.ble (e 3) (e 2+1)&&Nat.ble (e 4) (e 3+1))))
theorem J7{e:Nat->Nat}(h:xY e=true):lof e∈outl:=by
 simp only [xY,Vl,Nat.beq_eq,Nat.ble_eq]at h
 exact lof_in h.1 h.2.1 h.2.2.1 h.2.2.2.1 h.2.2.2.2
theorem ends_f:∀l∈outl,kW (jt l)=xa ((Qj 5).map λk=>(jt l k:Int)):=by decide +kernel
theorem mu_f:∀l∈outl,muD (jt l)<=10:=by decide +kernel
noncomputable def thD(u v:List Nat)(b:Nat):Nat:=((Qj b).filter λa=>Nat.ble b (Nat.min (u.getD a 0) (v.getD a 0))).length
noncomputable def qy(l:List Nat):List Nat:=(Qj 5).map λa=>vz (jt l) a
noncomputable def kF:List Nat->List Nat->Bool
 | a::u,b::v=>Nat.ble a b&&kF u v
 | _,_=>true
noncomputable def zh(l m:List Nat):Bool:=let u:=qy l;let v:=qy m;let t:=(Qj 5).map (thD u v);xY (jt t)&&(kF (qy t) u&&kF (qy t) v)
noncomputable def Kb(w:List Nat)(d l:List Nat):Bool:=!(kF (qy l) w)||(let p:=letD (jt l) (w.map Int.ofNat);(!p.isEmpty||l==d)&&p.all λq=>let t:=(Qj 5).map (yw (jt l) q.2);xY (jt t)&&(kF (qy t) w&&Nat.blt (muD (jt l)) (muD (jt t))))
theorem third_b:(outl.all λl=>outl.all λm=>zh l m)=true:=by kernel_rfl
theorem push_b:(outl.all λd=>let w:=qy d;outl.all λl=>Kb w d l)=true:=by kernel_rfl
theorem jS(e:Nat->Nat){k:Nat}(hk:k<5):jt (lof e) k=e k:=by
 simp [jt,lof,List.getD,hk]
theorem vX{e f:Nat->Nat}(h:∀k,k<5->e k=f k):xY e=xY f:=by
 unfold xY
 rw [h 0 (by decide),h 1 (by decide),h 2 (by decide),h 3 (by decide),h 4 (by decide)]
theorem push_f{d l:List Nat}(hd:d∈outl)(hl:l∈outl)(hb:kF (qy l) (qy d)=true):(letD (jt l) (kW (jt d))=[]->l=d)/\∀p∈letD (jt l) (kW (jt d)),lof (yw (jt l) p.2)∈outl/\kF (qy (lof (yw (jt l) p.2))) (qy d)=true/\muD (jt l)<muD (jt (lof (yw (jt l) p.2))):=by
 have h:Kb (qy d) d l=true:=VV.mp (VV.mp push_b d hd) l hl
 unfold Kb at h
 have ew:(qy d).map Int.ofNat=kW (jt d):=by simp [qy,kW]
 rw [hb,ew]at h
 simp only [Bool.not_true,Bool.false_or,Vl,Yj,Zp,VV]at h
 (refine jw h ?_;intro h1 h2)
 refine⟨λe=>?_,λp hp=>?_⟩
 ·rcases h1 with h1 | h1
  ·rw [e]at h1;exact no3 h1
  ·exact beq_iff_eq.mp h1
 ·(refine xE (h2 p hp) ?_;intro a b c)
  have a:xY (jt (lof (yw (jt l) p.2)))=true:=a
  rw [vX (f:=yw (jt l) p.2) λk hk=>jS _ hk]at a
  have c:Nat.blt (muD (jt l)) (muD (jt (lof (yw (jt l) p.2))))=true:=c
  exact⟨J7 a,b,Nat.le_of_ble_eq_true c⟩
theorem third_f{l m:List Nat}(hl:l∈outl)(hm:m∈outl){nr:Nat->Int}(h:∀a,a<5->nr a=min ((vz (jt l) a:Nat):Int) ((vz (jt m) a:Nat):Int)):lof (thK nr)∈outl/\kF (qy (lof (thK nr))) (qy l)=true/\kF (qy (lof (thK nr))) (qy m)=true:=by
 have g:zh l m=true:=VV.mp (VV.mp third_b l hl) m hm
 have e:lof (thK nr)=lof (thD (qy l) (qy m)):=by
  refine VI λb hb=>?_
  have hb:=Qc hb
  unfold thK thD
  congr 1
  refine List.filter_congr λa ha=>?_
  have ha:=Qc ha
  have e1:∀u:List Nat,(qy u).getD a 0=vz (jt u) a:=λu=>by simp [qy,List.getD,show a<5 by exact zr53 ‹_› ‹_›]
  rw [h a (by exact zr53 ‹_› ‹_›),e1,e1]
  by_cases q:b<=Nat.min (vz (jt l) a) (vz (jt m) a)
  ·have q':(b:Int)<=min ((vz (jt l) a:Nat):Int) ((vz (jt m) a:Nat):Int):=by
    have:b<=min (vz (jt l) a) (vz (jt m) a):=q
    lia
   rw [decide_eq_true q',Nat.ble_eq_true_of_le q]
  ·have q':¬(b:Int)<=min ((vz (jt l) a:Nat):Int) ((vz (jt m) a:Nat):Int):=by
    have:¬b<=min (vz (jt l) a) (vz (jt m) a):=q
    lia
   rw [decide_eq_false q']
   exact(Bool.eq_false_iff.mpr λz=>q (Nat.le_of_ble_eq_true z)).symm
 rw [e]
 unfold zh at g
 simp only [Vl]at g
 (refine xE g ?_;intro a b c)
 have a:xY (jt (lof (thD (qy l) (qy m))))=true:=a
 rw [vX (f:=thD (qy l) (qy m)) λk hk=>jS _ hk]at a
 exact⟨J7 a,b,c⟩
theorem zM{r:List Int}(h:Run3 r):r∈runs:=by
 obtain⟨x,y,z,rfl⟩:=len3 h.len
 have bx:=h.bd x (.head _)
 have bY:=h.bd y (.tail _ (.head _))
 have bz:=h.bd z (.tail _ (.tail _ (.head _)))
 (refine jd (Yw bx.1) ?_;rintro a rfl)
 (refine jd (Yw bY.1) ?_;rintro b rfl)
 (refine jd (Yw bz.1) ?_;rintro c rfl)
 exact XZ.mpr ⟨a,Xd.mpr (by lia),XZ.mpr ⟨b,Xd.mpr (by lia),Qw.mpr ⟨c,Xd.mpr (by lia),rfl⟩⟩⟩
theorem out_in{d:Nat->Nat}(h:Out5 d):lof d∈outl:=lof_in h.d0 h.d1 h.d2 h.d3 h.d4
noncomputable def Lines(g:Nat->List Nat)(e:Nat->Nat)(r:List Int):Prop:=∀k,k<5->jI (g k) ⟨0,0,[],0⟩=wK (e k) r/\e k<10
section
variable {g:Nat->List Nat} {e:Nat->Nat} {r:List Int}
theorem Lines.less(h:Lines g e r)(hr:Run3 r){i j:Nat}(hi:i<5)(hj:j<5):kh (jM g i) (jM g j)=decide (e i<e j):=by
 rw [jM,jM,zq,(h i hi).1,(h j hj).1]
 exact(zL r (zM hr) _ (h i hi).2 _ (h j hj).2).1
theorem Lines.eq(h:Lines g e r)(hr:Run3 r){i j:Nat}(hi:i<5)(hj:j<5):eqW (jM g i) (jM g j)=decide (e i=e j):=by
 rw [jM,jM,eq_ws,(h i hi).1,(h j hj).1]
 exact(zL r (zM hr) _ (h i hi).2 _ (h j hj).2).2
theorem Lines.climb(h:Lines g e r)(hr:Run3 r):∀n a b,a<5->b+n<=4->climb (jM g) a n b=xe e a n b
 | 0,a,b,_,_=>rfl
 | n+1,a,b,ha,hb=>by
  rw [KV,zD,h.less hr ha (show b+1<5 by exact zr35 ‹_› rfl),h.climb hr n a (b+1) ha (by exact zr34 ‹_›)]
  simp
theorem Lines.eP(h:Lines g e r)(hr:Run3 r){a:Nat}(ha:a<5):eP g a=vz e a:=h.climb hr _ _ _ ha (by lia)
theorem Lines.letL(h:Lines g e r)(hr:Run3 r)(W:List Int):letL g W=letD e W:=by
 unfold Mine.Internal.letL letD
 rw [List.flatMap_def,List.flatMap_def]
 congr 1
 refine VI λk hk=>?_
 have hk:=Qc hk
 congr 1
 refine List.filter_congr λa ha=>?_
 have ha:=Qc ha
 unfold letC letP
 rw [h.eP hr (by exact zr55 ‹_› ‹_›),h.eP hr (by exact zr19 ‹_›),h.eq hr (by exact zr55 ‹_› ‹_›) (by exact zr19 ‹_›)]
theorem Lines.told(h:Lines g e r)(hr:Run3 r):kA (jM g) 5=kW e:=by
 unfold kA kW
 refine VI λa ha=>?_
 have ha:=Qc ha
 rw [h.climb hr _ _ _ ha (by lia)];rfl
end
theorem letD_mem{e:Nat->Nat}{W:List Int}{p:Nat×Nat}(h:p∈letD e W):p.2<5:=by
 (refine jc (XZ.mp h) ?_;intro k hk h)
 (refine jc (Qw.mp h) ?_;rintro a _ rfl)
 have:=Qc hk
 show 1+k<5;exact zr19 ‹_›
theorem xv{l:List Nat}(h:l∈outl){k:Nat}(hk:k<5):jt l k<10:=by
 have:=((xU l h).1 k hk).2;exact zq8 ‹_› rfl
section
variable {r:List Int} {ld wd:Nat->List Nat} {th:Nat->Nat} {W:List Int} {draw:Nat}
noncomputable def At(r:List Int)(ld wd:Nat->List Nat)(th:Nat->Nat)(g:Nat->List Nat)(l:List Nat):Prop:=∀k,k<5->th k<=jt l k/\g k=gT (jt l) th ld wd k
theorem At.lines{g:Nat->List Nat}{l:List Nat}(hr:Run3 r)(hld:∀k,k<5->∃cell,ld k=qU (th k) r cell)(hwd:∀k,k<5->Bare (wd k))(hl:l∈outl)(h:At r ld wd th g l):Lines g (jt l) r:=λk hk=>by
 (refine jw (h k hk) ?_;intro h1 h2)
 (refine jd (hld k hk) ?_;intro cell e)
 refine⟨?_,xv hl hk⟩
 rw [h2,gT,e,vV hr _ _ _ (hwd k hk),Nat.sub_add_cancel h1]
theorem zT{d:List Nat}(hd:d∈outl)(hr:Run3 r)(hld:∀k,k<5->∃cell,ld k=qU (th k) r cell)(hwd:∀k,k<5->Bare (wd k)):∀n t l g,n+t=11->t<=muD (jt l)->l∈outl->kF (qy l) (qy d)=true->At r ld wd th g l ->
  ∃g',yv (kW (jt d)) draw n t g=Qf g'/\∀k,k<5->th k<=jt d k/\g' k=gT (jt d) th ld wd k
 | 0,t,l,g,ht,hm,hl,hb,h=>by have:=mu_f l hl;lia
 | n+1,t,l,g,ht,hm,hl,hb,h=>by
  have L:=h.lines hr hld hwd hl
  (refine jw (push_f hd hl hb) ?_;intro p1 p2)
  rw [pushR1,L.letL hr]
  by_cases q:letD (jt l) (kW (jt d))=[]
  ·rw [if_pos q]
   obtain rfl:=p1 q
   exact⟨g,rfl,h⟩
  ·rw [if_neg q]
   have hmem:vc g (kW (jt d)) draw t∈letD (jt l) (kW (jt d)):=by
    unfold vc
    rw [L.letL hr,QL,Qu (Nat.mod_lt _ (XK.mpr q))]
    exact XY _
   (refine xE (p2 _ hmem) ?_;intro q1 q2 q3)
   have hb5:=letD_mem hmem
   refine zT hd hr hld hwd n (t+1) _ _ (by lia) (VN hm q3) q1 q2 λk hk=>?_
   (refine jw (h k hk) ?_;intro h1 h2)
   rw [jS _ hk]
   unfold vM
   rw [L.eP hr hb5]
   unfold gT
   rw [jS _ hk]
   unfold yw
   by_cases c:(vc g (kW (jt d)) draw t).2<=k/\k<=vz (jt l) (vc g (kW (jt d)) draw t).2
   ·rw [if_pos c,if_pos c]
    refine⟨by exact Xb ‹_›,?_⟩
    rw [h2,gT,show jt l k+1-th k=(jt l k-th k)+1 by exact zr38 ‹_›,QZ];rfl
   ·rw [if_neg c,if_neg c]
    exact⟨h1,h2⟩
end
noncomputable def sgn:List Nat:=[33,37,38,40,41,42,43,44,45,46,47,58,60,61,62,64,94,123,124,125,126]
theorem vZ:∀(s:List (Nat×List Nat)) (a b:List Nat),vy s (a++b)=vy s a++vy s b
 | [],a,b=>rfl
 | p::r,a,b=>by rw [escs1,escs1,escs1,qB,vZ r]
theorem Je:∀s:List (Nat×List Nat),vy s []=[]
 | []=>rfl
 | p::r=>by rw [escs1,show jf p.1 p.2 []=[]from rfl,Je r]
theorem esc_one:∀kd,kd<5->∀c∈sgn,vy (sK kd) [c]=pg kd c:=by decide +kernel
theorem Jf{kd:Nat}(hk:kd<5):∀l:List Nat,(∀c∈l,c∈sgn)->vy (sK kd) l=qE kd l
 | [],_=>Je _
 | c::l,h=>by
  rw [show c::l=[c]++l from rfl,vZ,esc_one kd hk c (h c (.head _)),Jf hk l λx hx=>h x (.tail _ hx)]
  simp [qE]
theorem zc:∀l∈signsL,l.length<=3/\1<=l.length/\∀c∈l,c∈sgn/\c≠40/\c≠41/\c≠44:=by decide +kernel
theorem zi(ks:Nat->Int)(k:Nat):14<=xk ks k/\xk ks k<55:=by unfold xk;lia
theorem nm_in(ks:Nat->Int)(k:Nat):nmK ks k∈signsL:=by
 have h:=zi ks k
 unfold nmK
 rw [QL,Qu (show(xk ks k-14).toNat<signsL.length by show _<41;lia)]
 exact XY _
theorem row_sgn{d:Nat->Nat}{nm:Nat->List Nat}(h:∀k,k<5->∀c∈nm k,c∈sgn):∀c∈rowT d nm,c∈sgn:=by
 intro c hc
 unfold rowT at hc
 rcases Qa hc with hc | hc
 ·rcases Qa hc with hc | hc
  ·exact h 0 (by decide) c hc
  ·(refine jc (List.mem_flatten.mp hc) ?_;intro l hl hc)
   (refine jc (Qw.mp hl) ?_;rintro k hk rfl)
   have hk:=Qc hk
   rcases Qa hc with hc | hc
   ·split at hc
    ·obtain rfl:=Q9 hc;decide
    ·rcases Qa hc with hc | hc
     ·obtain rfl:=(VG.mp hc).2;decide
     ·obtain rfl:=Q9 hc;decide
   ·exact h (k+1) (by exact V4 ‹_›) c hc
 ·obtain rfl:=(VG.mp hc).2;decide
theorem yk(ks:Nat->Int)(k:Nat):∀c∈xG (rwK ks) (nmK ks) k,c∈sgn:=by
 intro c hc
 have hn:∀j,∀c∈nmK ks j,c∈sgn:=λj c hc=>((zc _ (nm_in ks j)).2.2 c hc).1
 unfold xG at hc
 split at hc
 ·exact row_sgn (λk _=>hn k) c hc
 ·exact hn _ c hc
theorem vT(ks:Nat->Int)(k:Nat):pgK ks k=qE (xm ks) (xG (rwK ks) (nmK ks) k):=Jf (zr ks).2 _ (yk ks k)
noncomputable def sgp:List Nat:=sgn++[97,109,112,59,108,116,103]
theorem pg_sgp:∀kd,kd<5->∀c∈sgn,(∀x∈pg kd c,x∈sgp)/\(pg kd c).length<=5/\Bare (pg kd c):=by
 have h:∀kd,kd<5->∀c∈sgn,(∀x∈pg kd c,x∈sgp)/\(pg kd c).length<=5/\(pg kd c).headD 0≠32/\(pg kd c).headD 0≠9:=by decide +kernel
 intro kd hk c hc
 refine e0_4 (h kd hk c hc) ?_;intro a b c1 c2
 refine⟨a,b,λk e=>?_⟩
 cases q:pg kd c with
 | nil=>rw [q]at e;cases e
 | cons x l=>rw [q]at e c1 c2;(have q_:=oi e;clear e;subst q_);exact⟨c1,c2⟩
theorem xJ{l:List Nat}(h:∀x∈l,x<1000):Vf (tx l)=true:=by
 unfold Vf
 rw [<-Array.all_toList,VV]
 intro x hx
 have:=h x hx
 exact decide_eq_true (by exact zq1 ‹_› rfl)
theorem lead_mem{d:Nat}{r:List Int}{c:Int}:∀x∈qU d r c,x=32∨x=9:=by
 intro x hx
 unfold qU at hx
 rcases Qa hx with hx | hx
 ·(refine jc (List.mem_flatten.mp hx) ?_;intro l hl hx)
  (refine jc (Qw.mp hl) ?_;rintro n _ rfl)
  rcases Qa hx with hx | hx
  ·exact .inl (VG.mp hx).2
  ·exact .inr (Q9 hx)
 ·exact .inl (VG.mp hx).2
section
variable (ks:Nat->Int)
theorem qP(k:Nat):∀x∈pgK ks k,x∈sgp:=by
 intro x hx
 rw [vT,qE]at hx
 (refine jc (List.mem_flatten.mp hx) ?_;intro l hl hx)
 (refine jc (Qw.mp hl) ?_;rintro c hc rfl)
 exact(pg_sgp _ (zr ks).2 c (yk ks k c hc)).1 x hx
theorem yt:∀x∈sgp,x<1000/\x≠32/\x≠9/\x≠10:=by decide
theorem xS{kd:Nat}(hk:kd<5):∀l:List Nat,(∀c∈l,c∈sgn)->(qE kd l).length<=5*l.length
 | [],_=>by simp [qE]
 | c::l,h=>by
  have h1:=(pg_sgp kd hk c (h c (.head _))).2.1
  have h2:=xS hk l λx hx=>h x (.tail _ hx)
  simp only [qE,QP,VC,QC,QA]at h2 ⊢
  lia
theorem yZ(k:Nat):Bare (wdK ks k):=λx e=>by
 have:=yt x (qP ks (k+1) x (List.mem_of_head? e))
 exact⟨this.2.1,this.2.2.1⟩
theorem Kg(k:Nat):(nmK ks k).length<=3:=(zc _ (nm_in ks k)).1
theorem wd_len(k:Nat):(wdK ks k).length<=15:=by
 have h:=xS (zr ks).2 _ (yk ks (k+1))
 have h2:=Kg ks k
 rw [wdK,vT]
 refine Qp h ?_
 simp only [xG,show ¬(k+1=0)from by exact Nat.succ_ne_zero _,if_false,Nat.add_sub_cancel]
 lia
theorem page_str(k:Nat):Vf (tx (pgK ks k))=true:=xJ λx hx=>(yt x (qP ks k x hx)).1
theorem Ks(k:Nat):∀x∈ldK ks k,x=32∨x=9:=lead_mem
theorem ln_str(k:Nat):Vf (tx (lnK ks k))=true:=xJ λx hx=>by
 unfold lnK lnT at hx
 rcases Qa hx with hx | hx
 ·rcases Qa hx with hx | hx
  ·have:=Ks ks k x hx;lia
  ·exact(yt x (qP ks (k+1) x hx)).1
 ·obtain rfl:=Q9 hx;decide
theorem g_str(d th:Nat->Nat)(k:Nat):Vf (tx (gT d th (ldK ks) (wdK ks) k))=true:=xJ λx hx=>by
 unfold gT at hx
 rcases Qa hx with hx | hx
 ·rcases Qa hx with hx | hx
  ·have:=(VG.mp hx).2;lia
  ·have:=Ks ks k x hx;lia
 ·exact(yt x (qP ks (k+1) x hx)).1
theorem tl_ten:10∉(yp ks).getD []:=by
 unfold yp
 split
 ·simp
 ·split<;>simp
theorem yr:Xu (tx (txF ks)) (tx [10])=((Qj 5).map (λk=>ldK ks k++wdK ks k)++[(yp ks).getD []]).map tx:=by
 have hl:∀k,10∉ldK ks k++wdK ks k:=λk m=>by
  rcases Qa m with m | m
  ·have:=Ks ks k _ m;lia
  ·exact(yt _ (qP ks (k+1) _ m)).2.2.2 rfl
 rw [<-split_tx 10 _ (by(intro h;cases h)) (λl h=>?_)]
 ·congr 2
  simp [txF,grT,lnK,lnT,Xg,yF,xA]
 ·rcases Qa h with h | h
  ·(refine jc (Qw.mp h) ?_;rintro k _ rfl);exact hl k
  ·obtain rfl:=Q9 h;exact tl_ten ks
theorem JY:(Xu (tx (txF ks)) (tx [10])).length<=1000:=by rw [yr];simp
theorem JX:qA (sL (Xu (tx (txF ks)) (tx [10]))) Qg (Qf 5)=pL (λk=>ldK ks k++wdK ks k):=by
 rw [yr];rfl
end
noncomputable def rep(p z:List Nat):List Nat->Nat->List Nat
 | [],_=>[]
 | _::r,k+1=>rep p z r k
 | c::r,0=>if(c::r).take p.length=p then z++rep p z r (p.length-1)else c::rep p z r 0
theorem rep1{p z:List Nat}{k:Nat}:rep p z [] k=[]:=rfl
theorem rep2{p z:List Nat}{c:Nat}{r:List Nat}{k:Nat}:rep p z (c::r) (k+1)=rep p z r k:=rfl
theorem rep3{p z:List Nat}{c:Nat}{r:List Nat}:rep p z (c::r) 0=if(c::r).take p.length=p then z++rep p z r (p.length-1)else c::rep p z r 0:=rfl
noncomputable def zX(p:List Nat):List Nat->Nat->Nat->List Nat
 | [],_,_=>[]
 | _::r,i,k+1=>zX p r (i+1) k
 | c::r,i,0=>if(c::r).take p.length=p then i::zX p r (i+1) (p.length-1)else zX p r (i+1) 0
theorem occR1{p:List Nat}{i k:Nat}:zX p [] i k=[]:=rfl
theorem occR2{p:List Nat}{c:Nat}{r:List Nat}{i k:Nat}:zX p (c::r) i (k+1)=zX p r (i+1) k:=rfl
theorem occR3{p:List Nat}{c:Nat}{r:List Nat}{i:Nat}:zX p (c::r) i 0=if(c::r).take p.length=p then i::zX p r (i+1) (p.length-1)else zX p r (i+1) 0:=rfl
open Builtin Builtin.Str StrLaws in
theorem xV(l p:List Nat)(hp:p≠[]):∀n i (st:Array Nat×Nat),i+n=l.length+1->st.1.size+n<=l.length+1 ->
  (forIn (List.range' i n) st (occBody (tx l) (tx p) l.length (l.length+1))).run.fst.toList=st.1.toList++zX p (l.drop i) i (st.2-i)
 | 0,i,st,h,_=>by
  have:l.drop i=[]:=Ve (by lia)
  rw [this];simp [occR1]
 | n+1,i,st,h,hs=>by
  have pl:(tx p).length=p.length:=jO p
  have ps:1<=p.length:=XK.mpr hp
  rw [List.range'_succ,List.forIn_cons]
  by_cases hi:i<l.length
  ·have ed:l.drop i=l[i]::l.drop (i+1):=X8 hi
   have hsub:subAt (tx l) (tx p) i=decide ((l.drop i).take p.length=p):=by
    rw [subAt_eq,pl]
    by_cases q:(l.drop i).take p.length=p
    ·rw [decide_eq_true q];exact beq_iff_eq.mpr q
    ·rw [decide_eq_false q];exact beq_eq_false_iff_ne.mpr q
   unfold occBody
   by_cases hc:((st.fst.size<l.length+1/\st.snd<=i)/\i+(tx p).length<=l.length)/\subAt (tx l) (tx p) i=true
   ·rw [if_pos hc]
    have ih:=xV l p hp n (i+1) (st.fst.push i,i+(tx p).length) (by exact zr12 ‹_›) (by simp;exact zr34 ‹_›)
    refine ih.trans ?_
    rw [ed,show st.2-i=0 by lia,occR3]
    rw [hsub,ed]at hc
    rw [if_pos (of_decide_eq_true hc.2)]
    simp only [Array.toList_push,Yo,List.singleton_append]
    rw [pl,show i+p.length-(i+1)=p.length-1 by lia]
   ·rw [if_neg hc]
    have ih:=xV l p hp n (i+1) (st.fst,st.snd) (by exact zr12 ‹_›) (by simp;exact Vt ‹_›)
    refine ih.trans ?_
    rw [ed]
    congr 1
    cases hk:st.2-i with
    | succ k=>rw [occR2,show st.2-(i+1)=k by exact zr2 ‹_›]
    | zero =>
     rw [occR3,show(st.fst,st.snd).snd-(i+1)=0 by show st.2-(i+1)=0;exact zr3 ‹_›,if_neg]
     intro q
     apply hc
     have:p.length<=l.length-i:=by
      have:=congrArg Yx q
      rw [<-ed,VK,List.length_drop]at this;lia
     refine⟨⟨⟨by exact zr25 ‹_›,by exact Nat.le_of_sub_eq_zero ‹_›⟩,by lia⟩,?_⟩
     rw [hsub,ed,decide_eq_true q]
  ·have e0:l.drop i=[]:=Ve (by exact VS.mp ‹_›)
   have hn:n=0:=by lia
   subst hn
   unfold occBody
   rw [if_neg (λhc=>by lia),e0]
   simp [occR1]
open Builtin Builtin.Str StrLaws in
theorem pF1{x:Qd}{w a c:Nat}{r:List Nat}:partsFrom x w a (c::r)=strSub x a c::partsFrom x w (c+w) r:=rfl
open Builtin Builtin.Str StrLaws in
theorem qM(l p z:List Nat)(hp:p≠[]):∀n i k a,i+n=l.length->(k=0->a<=i)->(k≠0->a=i+k) ->
  (Y7 (tx z) (partsFrom (tx l) p.length a (zX p (l.drop i) i k))).cps.toList=(l.drop a).take (i-a)++rep p z (l.drop i) k
 | 0,i,k,a,h,h0,h1=>by
  have e0:l.drop i=[]:=Ve (by exact XO (Eq.symm ‹_›))
  rw [e0]
  show(strSub (tx l) a (tx l).length).cps.toList=_
  rw [strSub_toList,jO,rep1]
  show(l.drop a).take (l.length-a)=_
  rw [Yk]
  cases k with
  | zero=>have:=h0 rfl;rw [show i=l.length by assumption]
  | succ k=>have:=h1 (by exact Nat.succ_ne_zero _);rw [Ve (by lia)];simp
 | n+1,i,k,a,h,h0,h1=>by
  have hi:i<l.length:=by exact zr11 ‹_›
  have ed:l.drop i=l[i]::l.drop (i+1):=X8 hi
  cases k with
  | succ k =>
   have ha:=h1 (by exact Nat.succ_ne_zero _)
   have ih:=qM l p z hp n (i+1) k a (by exact zr12 ‹_›) (by lia) (by lia)
   rw [ed,occR2,rep2,ih,show i-a=0 by lia,show i+1-a=0 by lia]
   first | done | simp
  | zero =>
   have ha:=h0 rfl
   rw [ed,occR3,rep3]
   by_cases q:(l[i]::l.drop (i+1)).take p.length=p
   ·rw [if_pos q,if_pos q]
    have ps:1<=p.length:=XK.mpr hp
    have ih:=qM l p z hp n (i+1) (p.length-1) (i+p.length) (by exact zr12 ‹_›) (by lia) (by lia)
    (refine jN (partsFrom_ne (tx l) p.length (i+p.length) (zX p (l.drop (i+1)) (i+1) (p.length-1))) ?_;intro y r e)
    rw [pF1,e,Xj,<-e]
    have ea:∀x y:Qd,(x++y).cps.toList=x.cps.toList++y.cps.toList:=λx y=>XJ
    rw [ea,ea,ih,strSub_toList,show i+1-(i+p.length)=0 by lia]
    simp only [List.take_zero,Z3,Yo]
    first | done | rfl
   ·rw [if_neg q,if_neg q]
    have ih:=qM l p z hp n (i+1) 0 a (by exact zr12 ‹_›) (by lia) (by lia)
    rw [ih,show i+1-a=(i-a)+1 by exact zr38 ‹_›,Zr,List.getElem?_drop,show a+(i-a)=i by lia,Qu hi]
    simp
open Builtin Builtin.Str StrLaws in
theorem qD(l p z:List Nat)(hp:p≠[]):Xv (tx l) (tx p) (tx z)=tx (rep p z l 0):=by
 have ho:occurrences (tx l) (tx p) 0 (tx l).length ((tx l).length+1)=zX p l 0 0:=by
  rw [occ_eq,jO]
  have:=xV l p hp (l.length+1) 0 (#[],0) (by exact Yl _ _) (by simp)
  simpa using this
 have hr:=qM l p z hp l.length 0 0 0 (by exact Yl _ _) (by decide) (by decide)
 simp only [List.drop_zero,Nat.sub_self,List.take_zero,Z3]at hr
 refine vO ?_
 unfold Xv
 rw [ho]
 have ps:1<=p.length:=XK.mpr hp
 by_cases q:zX p l 0 0=[]
 ·rw [if_pos (by rw [q];rfl)]
  rw [q]at hr
  show l=rep p z l 0
  rw [<-hr]
  show l=(strSub (tx l) 0 (tx l).length).cps.toList
  rw [sub_whole]
  first | done | rfl
 ·rw [if_neg (by simp [q];intro h;have:(tx p).length=0:=h;rw [jO]at this;lia),glued_eq_join,jO,partsBetween_eq]
  exact hr
noncomputable def mism:List Nat->List Nat->Bool
 | a::p,b::s=>a != b||mism p s
 | _,_=>false
theorem mism1{a b:Nat}{p s:List Nat}:mism (a::p) (b::s)=(a != b||mism p s):=rfl
noncomputable def yM(p:List Nat):List Nat->Bool
 | []=>true
 | c::s=>mism p (c::s)&&yM p s
theorem freeB1{p:List Nat}{c:Nat}{s:List Nat}:yM p (c::s)=(mism p (c::s)&&yM p s):=rfl
theorem Kk:∀ {p s:List Nat},mism p s=true->∀t,(s++t).take p.length≠p
 | a::p,b::s,h,t,e=>by
  simp only [VB,QA,List.take_succ_cons,Xw]at e
  simp only [mism1,Yj,bne_iff_ne]at h
  rcases h with h | h
  ·exact h e.1.symm
  ·exact Kk h t e.2
theorem zQ{p z:List Nat}:∀ {b:List Nat},yM p b=true->∀t,rep p z (b++t) 0=b++rep p z t 0
 | [],_,_=>rfl
 | c::s,h,t=>by
  simp only [freeB1,Vl]at h
  have e:=Kk h.1 t
  rw [VB]at e
  rw [VB,rep3,if_neg e,zQ h.2 t];rfl
theorem zP{p z:List Nat}:∀(u t:List Nat),rep p z (u++t) u.length=rep p z t 0
 | [],_=>rfl
 | c::u,t=>by rw [VB,QA,rep2,zP u t]
theorem rep_hit{p z:List Nat}(hp:p≠[])(t:List Nat):rep p z (p++t) 0=z++rep p z t 0:=by
 match p,hp with
 | c::u,_ =>
  rw [VB,rep3,if_pos (by simp),show(c::u).length-1=u.length from rfl,zP]
theorem qw{p z:List Nat}(hp:p≠[]){f g:Nat->List Nat}:∀l:List Nat,(∀c∈l,(f c=p/\g c=z)∨(yM p (f c)=true/\g c=f c))->rep p z (l.map f).flatten 0=(l.map g).flatten
 | [],_=>rfl
 | c::l,h=>by
  have ih:=qw hp (f:=f) (g:=g) (z:=z) l λx hx=>h x (.tail _ hx)
  rw [QP,VC,QP,VC]
  rcases h c (.head _)with⟨e,eg⟩ | ⟨e,eg⟩
  ·rw [e,rep_hit hp,ih,eg]
  ·rw [zQ e,ih,eg]
noncomputable abbrev LT:List Nat:=[38,108,116,59]
noncomputable abbrev GT:List Nat:=[38,103,116,59]
noncomputable abbrev AMP:List Nat:=[38,97,109,112,59]
noncomputable def D1(kd c:Nat):List Nat:=if pg kd c=LT then [60]else pg kd c
noncomputable def D2(kd c:Nat):List Nat:=if D1 kd c=GT then [62]else D1 kd c
theorem yR:∀kd,kd<5->∀c∈sgn,((pg kd c=LT/\D1 kd c=[60])∨(yM LT (pg kd c)=true/\D1 kd c=pg kd c))/\((D1 kd c=GT/\D2 kd c=[62])∨(yM GT (D1 kd c)=true/\D2 kd c=D1 kd c))/\((D2 kd c=AMP/\[c]=[38])∨(yM AMP (D2 kd c)=true/\[c]=D2 kd c))/\(D1 kd c).length<=5/\(D2 kd c).length<=5:=by decide +kernel
theorem xw:∀l:List Nat,(l.map λc=>[c]).flatten=l
 | []=>rfl
 | c::l=>by rw [QP,VC,xw l];rfl
theorem flat5{f:Nat->List Nat}:∀l:List Nat,(∀c∈l,(f c).length<=5)->(l.map f).flatten.length<=5*l.length
 | [],_=>(Vr _)
 | c::l,h=>by
  have h1:=h c (.head _)
  have h2:=flat5 l λx hx=>h x (.tail _ hx)
  simp only [QP,VC,QC,QA]at h2 ⊢
  lia
theorem undo{kd:Nat}(hk:kd<5){l:List Nat}(h:∀c∈l,c∈sgn):Xv (tx (qE kd l)) (tx LT) (tx [60])=tx (l.map (D1 kd)).flatten/\Xv (tx (l.map (D1 kd)).flatten) (tx GT) (tx [62])=tx (l.map (D2 kd)).flatten/\Xv (tx (l.map (D2 kd)).flatten) (tx AMP) (tx [38])=tx l:=by
 refine⟨?_,?_,?_⟩
 ·rw [qD _ _ _ (by decide),qE,qw (by decide) l λc hc=>(yR kd hk c (h c hc)).1]
 ·rw [qD _ _ _ (by decide),qw (by decide) l λc hc=>(yR kd hk c (h c hc)).2.1]
 ·rw [qD _ _ _ (by decide),qw (g:=λc=>[c]) (by decide) l λc hc=>(yR kd hk c (h c hc)).2.2.1,xw]
noncomputable def isB(t:List Nat×Int):Prop:=t=([40],7)∨t=([41],8)∨t=([44],12)
noncomputable def Alt:List (List Nat×Int)->Prop
 | []=>True
 | [_]=>True
 | a::b::r=>(isB a∨isB b)/\Alt (b::r)
noncomputable def tokOk(t:List Nat×Int):Prop:=Jv t.1=Qf t.2/\1<=t.1.length/\t.1.length<=3
theorem ex_brk{l:List Nat}(h:(Jv l).isSome=true)(h2:2<=l.length):∀c∈l,c≠40/\c≠41/\c≠44:=by
 have key:∀p∈exT,2<=p.1.length->∀c∈p.1,c≠40/\c≠41/\c≠44:=by decide +kernel
 unfold Jv at h
 rw [Option.isSome_map]at h
 (refine jd (Vz.mp h) ?_;intro p e)
 have e1:=List.find?_some e
 have e2:=List.mem_of_find?_eq_some e
 obtain rfl:p.1=l:=of_decide_eq_true e1
 exact key p e2 h2
theorem KB{t:List Nat×Int}(h:isB t):∃c,t.1=[c]/\(c=40∨c=41∨c=44):=by
 rcases h with rfl | rfl | rfl
 ·exact⟨40,rfl,.inl rfl⟩
 ·exact⟨41,rfl,.inr (.inl rfl)⟩
 ·exact⟨44,rfl,.inr (.inr rfl)⟩
theorem Kr:∀T:List (List Nat×Int),(∀t∈T,tokOk t)->Alt T->Lexed (T.map (·.1)).flatten (T.map (·.2))
 | [],_,_=>.nil
 | [t],h,_=>by
  (refine xE (h t (.head _)) ?_;intro h1 h2 h3)
  have e:(List.map (·.1) [t]).flatten=t.1:=(Yk _)
  rw [e]
  refine .cons 3 t.2 (by decide) (by decide) (by assumption) ?_ (λm _ hm _=>hm) ?_
  ·rw [Yy h3];exact h1
  ·rw [Ve h3];exact .nil
 | t::u::r,h,ha=>by
  (refine xE (h t (.head _)) ?_;intro h1 h2 h3)
  (refine xE (h u (.tail _ (.head _))) ?_;intro u1 u2 u3)
  have ih:=Kr (u::r) (λx hx=>h x (.tail _ hx)) ha.2
  have e:(List.map (·.1) (t::u::r)).flatten=t.1++(List.map (·.1) (u::r)).flatten:=by rfl
  rw [e]
  obtain⟨c,v,ev⟩:∃c v,(List.map (·.1) (u::r)).flatten=c::v/\(isB u->c=40∨c=41∨c=44):=by
   cases hu:u.1 with
   | nil=>rw [hu]at u2;simp at u2
   | cons c w =>
    refine⟨c,w++(List.map (·.1) r).flatten,by simp [hu],λq=>?_⟩
    (refine jc (KB q) ?_;intro c' e' q')
    rw [hu]at e';cases e';exact q'
  (refine jw ev ?_;intro ev evB)
  refine .cons t.1.length t.2 h2 h3 (by rw [QC];lia) ?_ (λm hm1 hm3 hs=>?_) ?_
  ·rw [List.take_left];exact h1
  ·refine Classical.byContradiction λhlt=>?_
   have hlt:t.1.length<m:=by exact Nat.not_le.mp ‹_›
   rw [List.take_append,Yy (Vt hlt),ev,show m-t.1.length=(m-t.1.length-1)+1 by exact zr39 ‹_›,List.take_succ_cons]at hs
   have:=ex_brk hs (by rw [QC,QA];lia)
   rcases ha.1 with q | q
   ·(refine jc (KB q) ?_;intro b eb qb)
    have:=this b (Q8 _ (by rw [eb];exact .head _))
    lia
   ·have:=this c (Q7 _ (.head _))
    have:=evB q
    lia
  ·rw [List.drop_left];exact ih
theorem alt_b:∀ {S R:List (List Nat×Int)},(∀t∈S,isB t)->Alt R->Alt (S++R)
 | [],_,_,h=>h
 | a::S,R,h,hr=>by
  have ih:=alt_b (S:=S) (λt ht=>h t (.tail _ ht)) hr
  rw [VB]
  cases q:S++R with
  | nil=>trivial
  | cons b r=>rw [q]at ih;exact⟨.inl (h a (.head _)),ih⟩
theorem Q1{n:List Nat×Int}:∀ {S R:List (List Nat×Int)},S≠[]->(∀t∈S,isB t)->Alt R->Alt (n::(S++R))
 | [],_,h,_,_=>absurd rfl h
 | a::S,R,_,h,hr=>⟨.inr (h a (.head _)),alt_b h hr⟩
noncomputable def JJ(d:Nat->Nat)(k:Nat):List (List Nat×Int):=if d k<d (k+1)then [([40],7)]else Qr (d k-d (k+1)) ([41],8)++[([44],12)]
noncomputable def tokT(d:Nat->Nat)(nm:Nat->List Nat)(nu:Nat->Int):List (List Nat×Int) :=
 (nm 0,nu 0)::(JJ d 0++((nm 1,nu 1)::(JJ d 1++((nm 2,nu 2)::(JJ d 2++((nm 3,nu 3)::(JJ d 3++((nm 4,nu 4)::Qr (d 4) ([41],8)))))))))
section
variable {d:Nat->Nat} {nm:Nat->List Nat} {nu:Nat->Int}
theorem sep_txt(k:Nat):((JJ d k).map (·.1)).flatten=if d k<d (k+1)then [40]else Qr (d k-d (k+1)) 41++[44]:=by
 unfold JJ
 have:∀m:Nat,(Qr m [41]).flatten=Qr m 41:=λm=>by
  induction m with
  | zero=>rfl
  | succ m ih=>rw [QZ,VC,ih,QZ];rfl
 split
 ·rfl
 ·rw [Va,List.flatten_append,Zf,this];rfl
theorem tok_txt:((tokT d nm nu).map (·.1)).flatten=rowT d nm:=by
 have:∀m:Nat,(Qr m [41]).flatten=Qr m 41:=λm=>by
  induction m with
  | zero=>rfl
  | succ m ih=>rw [QZ,VC,ih,QZ];rfl
 simp only [tokT,QP,Va,VC,List.flatten_append,sep_txt,Zf,this]
 simp [rowT,rowP,Xg]
theorem xL(k:Nat):(∀t∈JJ d k,isB t)/\JJ d k≠[]:=by
 unfold JJ
 split
 ·exact⟨λt h=>by obtain rfl:=Q9 h;exact .inl rfl,by decide⟩
 ·refine⟨λt h=>?_,by simp⟩
  rcases Qa h with h | h
  ·exact .inr (.inl (VG.mp h).2)
  ·exact .inr (.inr (Q9 h))
theorem tok_alt:Alt (tokT d nm nu):=by
 refine Q1 (xL 0).2 (xL 0).1 (Q1 (xL 1).2 (xL 1).1 (Q1 (xL 2).2 (xL 2).1 (Q1 (xL 3).2 (xL 3).1 ?_)))
 cases d 4 with
 | zero=>trivial
 | succ m =>
  have:=Q1 (n:=(nm 4,nu 4)) (S:=Qr (m+1) ([41],8)) (R:=[]) (by simp) (λt h=>.inr (.inl (VG.mp h).2)) trivial
  rwa [Yk]at this
theorem b_ok{t:List Nat×Int}(h:isB t):tokOk t:=by
 rcases h with rfl | rfl | rfl<;>exact⟨by decide +kernel,by decide,by decide⟩
theorem Kn{t:List Nat×Int}(h:t∈tokT d nm nu):isB t∨∃k,k<5/\t=(nm k,nu k):=by
 have r:∀k,t∈JJ d k->isB t:=λk=>(xL k).1 t
 simp only [tokT,QD,XH]at h
 rcases h with h | h | h | h | h | h | h | h | h | h
 ·exact .inr ⟨0,by decide,h⟩
 ·exact .inl (r 0 h)
 ·exact .inr ⟨1,by decide,h⟩
 ·exact .inl (r 1 h)
 ·exact .inr ⟨2,by decide,h⟩
 ·exact .inl (r 2 h)
 ·exact .inr ⟨3,by decide,h⟩
 ·exact .inl (r 3 h)
 ·exact .inr ⟨4,by decide,h⟩
 ·exact .inl (.inr (.inl (VG.mp h).2))
theorem zg:∀(m:Nat) (r:List Int) (x:Int) (ds ns:List Int),kB (Qr m 8++r) x ds ns=kB r (x-m) ds ns
 | 0,r,x,ds,ns=>by simp
 | m+1,r,x,ds,ns=>by
  rw [QZ,VB,xr,if_pos (by decide),zg m r]
  congr 1
  simp;lia
theorem qO(k:Nat)(h:d (k+1)<=d k+1)(r ds ns:List Int):kB ((JJ d k).map (·.2)++r) (d k:Nat) ds ns=kB r (d (k+1):Nat) ds ns:=by
 unfold JJ
 split
 ·rw [List.map_singleton,List.singleton_append,xr,if_pos (by decide)]
  congr 1
  simp;lia
 ·rw [Va,Zf,Yo,zg,List.map_singleton,List.singleton_append,xr,if_pos (by decide)]
  congr 1
  simp;lia
theorem vR{n:Int}(hn:14<=n)(r:List Int)(x:Int)(ds ns:List Int):kB (n::r) x ds ns=kB r x (ds++[x]) (ns++[n]):=by
 rw [xr,if_neg (by simp;lia)]
theorem tok_read(o:Out5 d)(hn:∀k,14<=nu k):kB ((tokT d nm nu).map (·.2)) 0 [] []=((Qj 5).map (λk=>(d k:Int)),(Qj 5).map nu):=by
 simp only [tokT,QP,Va]
 have e0:(0:Int)=(d 0:Nat):=by rw [o.d0];rfl
 rw [e0,vR (hn 0),qO 0 (Qp o.d1 (Nat.succ_le_succ (Vj _))),vR (hn 1),qO 1 o.d2,vR (hn 2),qO 2 o.d3,vR (hn 3),qO 3 o.d4,vR (hn 4),Zf]
 have:=zg (d 4) [] (d 4:Nat) ([]++[((d 0:Nat):Int)]++[((d (0+1):Nat):Int)]++[((d (1+1):Nat):Int)]++[((d (2+1):Nat):Int)]++[((d (3+1):Nat):Int)]) ([]++[nu 0]++[nu 1]++[nu 2]++[nu 3]++[nu 4])
 rw [Yk]at this
 rw [this]
 rfl
end
theorem nm_ex(ks:Nat->Int)(k:Nat):Jv (nmK ks k)=Qf (xk ks k):=by
 have key:∀i,i<41->Jv (signsL.getD i [])=Qf (14+(i:Int)):=by decide +kernel
 have h:=zi ks k
 unfold nmK
 rw [key _ (by lia)]
 congr 1;lia
theorem read_ok(ks:Nat->Int)(w:Ql)(prog:QI)(A:QO)(n:Nat)(room:Room (n+2) A):Cal prog w (Bh w) A (.ref 203) [.str (tx (pgK ks 0)),.list (iL (nuK ks))] (.tup [dnL (d2K ks),.list (iL (nuK ks))]):=by
 have hs:=yk ks 0
 have hk:=(zr ks).2
 have es:xG (rwK ks) (nmK ks) 0=rwK ks:=rfl
 rw [es]at hs
 have hl:(rwK ks).length<=60:=xO (jP _) λk _=>Kg ks k
 (refine xE (undo hk hs) ?_;intro e1 e2 e3)
 have z0:=xS hk _ hs
 have z1:=flat5 (f:=D1 (xm ks)) _ λc hc=>(yR _ hk c (hs c hc)).2.2.2.1
 have z2:=flat5 (f:=D2 (xm ks)) _ λc hc=>(yR _ hk c (hs c hc)).2.2.2.2
 have hx:Lexed (rwK ks) ((tokT (d2K ks) (nmK ks) (xk ks)).map (·.2)):=by
  have:=Kr (tokT (d2K ks) (nmK ks) (xk ks)) (λt ht=>by
   rcases Kn ht with h | ⟨k,_,rfl⟩
   ·exact b_ok h
   ·have:=zc _ (nm_in ks k)
    exact⟨nm_ex ks k,this.2.1,this.1⟩) tok_alt
  rw [tok_txt]at this
  exact this
 have hm:∀x∈(tokT (d2K ks) (nmK ks) (xk ks)).map (·.2),x∉[(7:Int),8,12]->x∈nuK ks:=λx hx hn=>by
  (refine jc (Qw.mp hx) ?_;rintro t ht rfl)
  rcases Kn ht with h | ⟨k,hk,rfl⟩
  ·exfalso
   rcases h with rfl | rfl | rfl<;>exact hn (by decide)
  ·exact Qw.mpr ⟨k,Xd.mpr hk,rfl⟩
 have:=cal203 (w:=w) (prog:=prog) room (pgK ks 0) _ _ _ (nuK ks) _ (by rw [vT];exact e1) e2 e3 (by rw [vT];exact Qp z0 (by lia)) (by lia) (by lia) (by exact zq1 ‹_› rfl) (by simp [nuK]) hx hm
 rw [tok_read (d:=d2K ks) (jP _) λk=>(zi ks k).1]at this
 exact this
noncomputable def run1:List (List Int):=(Qj 3).flatMap λb:Nat=>(Qj (b+1)).flatMap λa:Nat=>(Qj 3).map λc:Nat=>[(a:Int),(b:Int),(c:Int)]
theorem ZG{a b c:Nat}(h:a<=b)(hb:b<3)(hc:c<3):[(a:Int),(b:Int),(c:Int)]∈run1 :=
 XZ.mpr ⟨b,Xd.mpr hb,XZ.mpr ⟨a,Xd.mpr (V4 h),Qw.mpr ⟨c,Xd.mpr hc,rfl⟩⟩⟩
theorem wK_comm(D:Nat)(a b c:Int):wK D [a,b,c]=wK D [b,a,c]:=by
 show Wst.mk _ _ (cnt (D+is a.toNat 0+is b.toNat 0) (is a.toNat 1+is b.toNat 1) (is a.toNat 2+is b.toNat 2)) _=Wst.mk _ _ (cnt (D+is b.toNat 0+is a.toNat 0) (is b.toNat 1+is a.toNat 1) (is b.toNat 2+is a.toNat 2)) _
 rw [Nat.add_right_comm D,Yl (is a.toNat 1),Yl (is a.toNat 2)]
 congr 1
 show(((a.toNat+b.toNat+D+2+c.toNat:Nat):Int))=((b.toNat+a.toNat+D+2+c.toNat:Nat):Int)
 rw [Yl a.toNat]
theorem xT_comm(D:Nat)(a b c t:Int):xT D [a,b,c] t=xT D [b,a,c] t:=by
 show t*((D:Int)+2+a/t+b/t)+c=t*((D:Int)+2+b/t+a/t)+c
 rw [Int.add_right_comm]
theorem ZF:∀r∈runs,∃s∈run1,∀D,wK D r=wK D s/\∀t,xT D r t=xT D s t:=λr h=>by
 (refine jc (XZ.mp h) ?_;intro a ha h)
 (refine jc (XZ.mp h) ?_;intro b hb h)
 (refine jc (Qw.mp h) ?_;rintro c hc rfl)
 rcases Nat.le_total a b with q | q
 ·exact⟨_,ZG q (Qc hb) (Qc hc),λD=>⟨rfl,λt=>rfl⟩⟩
 ·exact⟨_,ZG q (Qc ha) (Qc hc),λD=>⟨wK_comm D _ _ _,λt=>xT_comm D _ _ _ t⟩⟩
theorem due_swap(D1 D2:Nat)(r r':List Int):dueL (zU D1 D2 r r')=dueG (zU D2 D1 r' r):=by
 show _=(((zU D1 D2 r r').map Prod.swap).filter _).isEmpty
 rw [List.filter_map,List.isEmpty_map];rfl
theorem ZH:∀r∈run1,∀r'∈run1,∀D1,D1<5->∀D2,D2<5->kh (wvK (wK D1 r)) (wvK (wK D2 r'))=dueG (zU D1 D2 r r')/\eqW (wvK (wK D1 r)) (wvK (wK D2 r'))=dueN (zU D1 D2 r r'):=by decide +kernel
theorem cross:∀r∈runs,∀r'∈runs,∀D1,D1<5->∀D2,D2<5->kh (wvK (wK D1 r)) (wvK (wK D2 r'))=dueG (zU D1 D2 r r')/\kh (wvK (wK D2 r')) (wvK (wK D1 r))=dueL (zU D1 D2 r r')/\eqW (wvK (wK D1 r)) (wvK (wK D2 r'))=dueN (zU D1 D2 r r'):=λr hr r' hr' D1 h1 D2 h2=>by
 (refine jc (ZF r hr) ?_;intro s hs e)
 (refine jc (ZF r' hr') ?_;intro s' hs' e')
 rw [(e D1).1,(e' D2).1,show zU D1 D2 r r'=zU D1 D2 s s' by simp only [zU,(e D1).2,(e' D2).2],due_swap]
 exact⟨(ZH s hs s' hs' D1 h1 D2 h2).1,(ZH s' hs' s hs D2 h2 D1 h1).1,(ZH s hs s' hs' D1 h1 D2 h2).2⟩
section
variable (ks:Nat->Int)
theorem zW:Run3 (owK ks):=kK _ _ rfl
theorem Ka:Run3 (otK ks):=kK _ _ rfl
noncomputable abbrev l1K:List Nat:=lof (d1K ks)
noncomputable abbrev l2K:List Nat:=lof (d2K ks)
noncomputable abbrev thL:List Nat:=lof (thF ks)
theorem l1_in:l1K ks∈outl:=out_in (jP _)
theorem l2_in:l2K ks∈outl:=out_in (jP _)
theorem xD{e f:Nat->Nat}(h:∀k,k<5->e k=f k):∀n a b,a<5->b+n<=4->xe e a n b=xe f a n b
 | 0,_,_,_,_=>rfl
 | n+1,a,b,ha,hb=>by
  rw [zD,zD,h a ha,h (b+1) (by exact zr35 ‹_› rfl),xD h n a (b+1) ha (by exact zr34 ‹_›)]
theorem endD_lof(e:Nat->Nat){a:Nat}(ha:a<5):vz (jt (lof e)) a=vz e a:=xD (λk hk=>jS e hk) _ _ _ ha (by lia)
theorem zG(e:Nat->Nat):kW (jt (lof e))=kW e:=VI λa ha=>by rw [endD_lof e (Qc ha)]
theorem yb:Lines (ftK ks) (d1K ks) (owK ks):=λk hk=>by
 refine⟨?_,by have:=jZ (jP (ks 0)) k hk;show dK (ks 0) k<10;exact zq8 ‹_› rfl⟩
 have:=vV (zW ks) 0 (d1K ks k) (((ks 4).toNat:Nat)/5^k) (yZ ks k)
 rw [Nat.zero_add]at this
 exact this
theorem W0_eq:(Qj 5).map (WK ks 0)=kW (jt (l1K ks)):=by
 rw [<-WK0,(yb ks).told (zW ks),zG]
theorem W1_eq:(Qj 5).map (WK ks 1)=kW (jt (l2K ks)):=by
 rw [<-WK1,ends_f _ (l2_in ks)]
 rfl
theorem Jo{α:Type}{f g:Nat->α}(h:(Qj 5).map f=(Qj 5).map g){k:Nat}(hk:k<5):f k=g k:=by
 have:=congrArg (·[k]?) h
 simpa [hk]using this
theorem nr_eq(a:Nat)(ha:a<5):nrK ks a=min ((vz (jt (l1K ks)) a:Nat):Int) ((vz (jt (l2K ks)) a:Nat):Int):=by
 rw [nrK,Jo (W0_eq ks) ha,Jo (W1_eq ks) ha]
theorem qK:thL ks∈outl/\kF (qy (thL ks)) (qy (l1K ks))=true/\kF (qy (thL ks)) (qy (l2K ks))=true:=third_f (l1_in ks) (l2_in ks) (nr_eq ks)
theorem th_small{k:Nat}(hk:k<5):thF ks k<10:=by
 have:=xv (qK ks).1 hk
 rwa [jS _ hk]at this
theorem ld_is(k:Nat):∃cell,ldK ks k=qU (thF ks k) (otK ks) cell:=⟨_,rfl⟩
theorem start_at:At (otK ks) (ldK ks) (wdK ks) (thF ks) (λk=>ldK ks k++wdK ks k) (thL ks):=λk hk=>by
 rw [jS _ hk]
 refine⟨Vr _,?_⟩
 rw [gT,jS _ hk,Nat.sub_self]
 first | done | rfl
theorem K7{d:Nat->Nat}(hd:lof d∈outl)(hb:kF (qy (thL ks)) (qy (lof d))=true)(draw:Nat){W:List Int}(hW:W=kW (jt (lof d))) :
  (∀k,k<5->thF ks k<=d k)/\qz W draw (λk=>ldK ks k++wdK ks k)=pL (gT d (thF ks) (ldK ks) (wdK ks)):=by
 subst hW
 (refine jc (zT (draw:=draw) hd (Ka ks) (λk _=>ld_is ks k) (λk _=>yZ ks k) 11 0 (thL ks) _ rfl (Vj _) (qK ks).1 hb (start_at ks)) ?_;intro g' e h)
 have hg:∀k,k<5->thF ks k<=d k/\g' k=gT d (thF ks) (ldK ks) (wdK ks) k:=λk hk=>by
  (refine jw (h k hk) ?_;intro h1 h2)
  rw [jS _ hk]at h1
  rw [gT,jS _ hk]at h2
  exact⟨h1,h2⟩
 refine⟨λk hk=>(hg k hk).1,?_⟩
 unfold qz
 rw [e]
 exact VI λk hk=>by rw [(hg k (Qc hk)).2]
theorem Kw{d:Nat->Nat}(hd:Out5 d)(hth:∀k,k<5->thF ks k<=d k)(k:Nat)(hk:k<5):kh (jM (ftK ks) k) (jM (gT d (thF ks) (ldK ks) (wdK ks)) k)=dueG (zU (d1K ks k) (d k) (owK ks) (otK ks))/\kh (jM (gT d (thF ks) (ldK ks) (wdK ks)) k) (jM (ftK ks) k)=dueL (zU (d1K ks k) (d k) (owK ks) (otK ks))/\eqW (jM (ftK ks) k) (jM (gT d (thF ks) (ldK ks) (wdK ks)) k)=dueN (zU (d1K ks k) (d k) (owK ks) (otK ks)):=by
 have e1:=(yb ks k hk).1
 have e2:jI (gT d (thF ks) (ldK ks) (wdK ks) k) ⟨0,0,[],0⟩=wK (d k) (otK ks):=by
  have:=vV (Ka ks) (d k-thF ks k) (thF ks k) ((((ks 4).toNat:Nat):Int)/3^k) (yZ ks k)
  rw [Nat.sub_add_cancel (hth k hk)]at this
  exact this
 rw [jM,jM,zq,zq,eq_ws,e1,e2]
 exact cross _ (zM (zW ks)) _ (zM (Ka ks)) _ (V4 (jZ (jP (ks 0)) k hk)) _ (V4 (jZ hd k hk))
theorem law_ok(dr:0<=ks 4/\ks 4<=2^40):LawOk ks:=by
 have p0:=K7 ks (l1_in ks) (qK ks).2.1 (ks 4).toNat (W0_eq ks)
 have p1:=K7 ks (l2_in ks) (qK ks).2.2 (ks 4).toNat (W1_eq ks)
 refine { rdk:=λw prog A n room=>read_ok ks w prog A n room,page:=λk _=>vT ks k,okp:=λk _=>page_str ks k,told:=?_,out:=(qK ks).1,okl:=λk _=>ln_str ks k,split1:=JY ks,split2:=JX ks,push:=λi hi=>?_,okg:=λi _ k _=>g_str ks _ _ k,last:=λi hi k hk=>?_,wd:=λk _=>Qp (wd_len ks k) (by decide),nm:=λk _=>Kg ks k,th:=λk hk=>YF (th_small ks hk),dr:=dr }
 ·rw [(yb ks).told (zW ks),<-zG,ends_f _ (l1_in ks)]
  rfl
 ·rcases i with _ | _ | i
  ·exact p0.2
  ·exact p1.2
  ·lia
 ·rcases i with _ | _ | i
  ·exact Kw ks (jP _) p0.1 k hk
  ·exact Kw ks (jP _) p1.1 k hk
  ·lia
end
theorem cell_bd(sc:List Int):0<=cellOf sc 4/\cellOf sc 4<=2^40:=by
 have h:∀l:List Int,0<=(l.map (·%5040)).sum/\(l.map (·%5040)).sum<=5040*(l.length:Int):=λl=>by
  induction l with
  | nil=>simp
  | cons x l ih =>
   have h1:=Yg x (show(5040:Int)≠0 by decide)
   have h2:=Ze x (show(0:Int)<5040 by decide)
   simp only [QP,List.sum_cons,QA]
   lia
 have h2:=h (vw sc (Qf (4:Nat)) (Qf 60) (Qf 5))
 have h3:=xR sc 4
 unfold cellOf
 rw [show zE 4=215 from rfl]
 lia
theorem Kv:∀sc:List Int,sc.length<=63->LawOk (cellOf sc):=λsc _=>law_ok _ (cell_bd sc)
theorem fin:YA.Holds:=holds_of Kv
end Mine.Internal
end
theorem PySem.Challenge.cw_ta0102_01_holds : PySem.Challenge.rw_ta0102_01.Holds :=
  Mine.Internal.fin
