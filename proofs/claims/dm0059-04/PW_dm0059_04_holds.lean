import PyProof.Rows.All
import Wide.All
import OpenK.AllK
import Wide.FinOn
import Open.Tops
import Lean
import PySem.Challenge.RW_dm0059_04
set_option Elab.async false
set_option linter.all false
set_option maxRecDepth 100000
set_option maxHeartbeats 0
set_option genSizeOf false
set_option genInjectivity false
noncomputable section
open Nat renaming le_trans→aA0,le_refl→aB6,eq_of_beq_eq_true→aB8,le_of_eq→aB9,lt_of_lt_of_le→aC0,lt_succ_self→aC6,le_add_right→aD0,lt_of_le_of_lt→aD5,le_of_lt→aD8,beq→aE0,ne_of_lt→aE2,zero_le→aE9,add_le_add_left→aF6,pos_of_ne_zero→aG7,lt_succ_of_lt→aH1,not_lt_zero→aI0,le_succ→aI3,succ_le_succ→aJ2,lt_add_of_pos_right→aJ3,le_succ_of_le→aJ4,ne_of_gt→aJ8,le_of_succ_le→aL6,lt_irrefl→aL7,add_right_cancel→aO3,le_of_lt_succ→aO6,sub_self→aP0,lt_or_eq_of_le→aP5,add_le_add→aP6,le_of_ble_eq_true→aP7,add_le_add_right→aQ5,add_zero→aR0,add_assoc→aR1,rec→aR2,not_lt→aS6,eq_zero_of_not_pos→aS9,le_of_add_right_le→aT1,min_eq_left→aT2,succ→aT3,lt_of_add_lt_add_left→aV2,add_lt_add_left→aV7,add_right_comm→aW5,succ_sub_succ→aZ1,succ_le_of_lt→aZ2,le_of_not_lt→aZ8,not_succ_le_self→bB0,add_sub_cancel'→bB8,zero_add→bC2,succ_pos→bC4,sub_zero→bC7,min_eq_right→bE7,min_le_right→bF4,lt_one_iff→bH6,ble→bH9,lt_trans→bJ7,one_pos→bL2,not_le→bM8
open PySem.Str renaming ofString→aA1,length→bM9
open Option.some renaming inj→aA2
open PySem renaming wpAny_bind→aA3,wpAny_pure→aA7,Shared→aA8,Addr→aC3,World→aC7,Params→aD6,wpAny→aD7,Builtin→aE3,model→aE5,Heap→aE8,Stmt→aF3,builtinLookup_eq_fast→aF4,Comprehension→aF5,Arguments→aG2,wpAny_call_entry→aG9,Program→aH0,wpAny_newObj_type→aH2,typeLookup_type→aH9,typeLookup→aI9,wpAny_callSpecial?_slot→aJ0,mainGlobals→aJ5,Around→aK5,isSubtype_type→aK7,wpAny_holding→aK8,wpAny_standAt→aL8,pyIter→aM3,getMethod_builtin→aM4,DictEntry→aM7,wpAny_mono→aN2,assignInOrder→aN8,codeAny_call_builtin→aO0,Spec→aP1,NameKind→aP4,letOwnedTupleGo→aP9,wpAny_truthy_bool→aQ1,codeAny→aQ3,codeAny_mono→aQ6,sizeLine→aR5,isSubtype→aR6,wpAny_setField→aR7,bindArgs→aS1,OsState→aS4,wpAny_load→aS8,wpAny_of_eq→aU3,wpAny_field→aU4,firstArgMember→aU5,checkBoundCall→aU6,compareOp→aU7,wpAny_askSetting→aU8,wpAny_isInstance→aU9,entryFor_of_tree→aV1,pyNext→aV3,FuncData→aV8,holding→aW1,strValues→aW2,codeAny_builtin→aW3,builtinsNs→aW4,wpAny_isSame_plain→aW6,argsOk→aW8,wpAny_call→aW9,slot_listiter_next→aX0,treeTable→aX4,getMethod→aX8,wpAny_loadPart→aY2,wpAny_seqItems→aY3,getAttr→aY4,wpAny_pyIter_enum→aY5,BindsTo→aY9,Setting→aZ0,CmpOp→aZ5,isInstance→bA0,wpAny_attempt→bA4,entryFor→bA7,SetTable→bA8,evalThenUse→bA9,wpAny_specialOf→bB2,wpAny_updateSeq→bB3,wpAny_contains_slot→bB7,specialOf→bC8,keeperOf→bD0,wpAny_pyIter_slot→bD7,Result→bD9,plainId_quiet→bE1,signature?_of→bE2,swappedStores→bE4,Operator→bF0,call_meets→bF6,setsByText→bF9,wpAny_tryCatch→bG7,isSubtype_stop→bG8,unpackItems→bG9,builtinKind→bH1,entryFor_alias→bH3,UnaryOp→bH8,Model→bI4,wpAny_handled→bI5,typeIs_str→bI9,wpAny_rule→bJ0,GenState→bJ3,call_meetsIn→bJ9,wpAny_typeOf→bK0,Flow→bK5,rawInt→bK8,wpAny_throw→bL1,wpAny_letGo→bL5,Keyword→bL8,intKind_is→bL9,strKind_is→bM0,setState→bM6,wpAny_Name→bM7,Code→bN0,Fin→bN2,Slot→bO0
open List renaming getElem?_eq_some_iff→aA4,getElem?_eq_getElem→aA5,length_map→aA6,mem_append→aB0,mem_singleton→aB1,length_append→aB2,getElem?_map→aB3,mem_cons_self→aB4,rec→aB7,mem_cons_of_mem→aC1,range→aC2,mem_cons→aC4,append_assoc→aC9,getD_eq_getElem?_getD→aD2,mem_of_getElem?→aD3,toArray→aE1,length_take→aE4,map_append→aF1,length_range→aF2,append_nil→aF9,getElem?_append_right→aG0,getElem?_toArray→aG1,length_drop→aG3,map_map→aG4,getElem?_append_left→aG8,getElem?_eq_none→aH7,map_cons→aH8,flatMap_singleton→aI2,range'→aI4,mem_map→aI5,getElem?_of_mem→aJ6,getElem?_drop→aK0,drop_eq_getElem_cons→aL2,length_reverse→aL4,flatMap_append→aL5,replicate→aM0,length_cons→aM2,pairwise_map→aM5,take_append_drop→aN1,getElem?_take→aN6,sublist_append_left→aN9,eq_nil_of_length_eq_zero→aO1,nodup_cons→aO8,mem_range→aP2,mem_filter→aP8,range_succ→aQ0,reverse_cons→aQ7,drop_sublist→aQ8,mem_of_mem_drop→aQ9,getElem?_cons_succ→aR3,take_length→aR8,getElem_map→aS0,map→aS2,drop_length→aS3,map_drop→aT5,filterMap_append→aT6,getElem?_inj→aT8,perm_append_comm_assoc→aT9,ext_getElem?→aU0,mem_range'_1→aU2,map_congr_left→aV6,map_take→aV9,range'_eq_map_range→aW0,getElem_range→aX1,pairwise_cons→aX2,flatMap_cons→aZ3,size_toArray→aZ4,drop→bA1,nodup_range→bA2,ext_getElem→bA3,getElem?_append→bB1,getElem?_range→bB6,mem_map_of_mem→bB9,drop_take→bD1,take_succ→bD2,take_zero→bD3,take_add_one→bD6,Pairwise→bE5,any_eq_true→bE9,all_eq_true→bF1,take→bF2,foldl_cons→bG2,drop_zero→bH0,nodup_nil→bH4,lookup→bH5,Perm→bK9,cons→bN9
open False renaming elim→aA9
open PySem.Heap renaming get?_push_of_some→aB5,get?_push_size→aC5,size_push→aF8,SameBut→aH6,get?_update_self→aK2,lt_size→aK9,size_update→aL0,get?_update_other→aL1,ExtBut→aX6
open Int renaming ofNat_lt→aC8,toNat_eq_max→aD1,natCast_nonneg→aH4,zero_add→aI1,ofNat_le→aJ7,fmod_nonneg_of_pos→aM6,toNat_natCast→aO4,le_trans→aQ2,add_zero→aS5,not_lt→aS7,lt_of_le_of_lt→aW7,fmod_lt_of_pos→aX3,zero_mul→aY1,lt_trans→bC1,sub_zero→bC5,max_eq_right→bE8,ediv_one→bF8,max_eq_left→bG0,mul_add→bG4,neg_mul→bG5,mul_nonneg→bG6,le_refl→bH2,ofNat→bH7,add_assoc→bI2,mul_assoc→bI3,not_le→bI8,mul_zero→bJ4,le_of_lt→bJ5,mul_comm→bJ6,one_mul→bL0
open Option renaming map→aD4,rec→aD9,map_eq_some_iff→aT0,getD_none→bF3,none→bL3,bind→bL7
open LawfulBEq renaming eq_of_beq→aE6
open Classical renaming byContradiction→aE7,em→aN7
open PySem.W renaming Looks→aF0,kas_place→aN5,boot_heap→aX5,kas_desc→aY7,kas_sort→aY8,kas_descPart→bC6,Frag→bF7,boot_drawn→bI7,boot_toks→bK6,plainGet_of→bL4,check_slot→bM2,kas_count→bN4,SharedT→bN5,LeftO→bN7,KasT→bN8
open PySem.NameKind renaming free→aF7,cell→aT4,rec→bK3
open Bool renaming and_eq_true_iff→aG5,false_eq_true→aH5,rec→aI6,and_eq_true→aI7,false_ne_true→aK6,and_false→aP3,noConfusion→aV0,or_eq_true_iff→aV5,not_eq_true'→bD8,not_true→bE3,eq_iff_iff→bG1
open PySem.Challenge renaming pw_dm0059_04→aG6
open PySem.Builtin.Str renaming glued→aH3,strSliceIndices→aK3,tooLong→bB5
open PySem.Value renaming none→aI8,ref→aM8,type→aZ9,str→bK7
open PySem.Obj renaming mapSeq→aJ1
open PyProof renaming noPylong_small→aJ9
open PySem.Builtin renaming divisionGoesByPylong→aK1
open PySem.F renaming slot_tuple_iterator_next→aK4,slot_dict_getattribute→aN4,slot_set_getattribute→aO2,plainAttrs_list→aO5,plain_extend_loop→aV4,slot_tuple_iter→aX7,plainAttrs_dict→aX9,slot_dict_get→aZ6
open PySem.Builtin.SmallTypes renaming nextOf→aL3
open PySem.W.Looks renaming of_peek→aL9,of_pure→bA5,ld→bM4
open Prod renaming ext→aM1
open PySem.Heap.SameBut renaming update→aM9
open Array renaming getElem?_toList→aN0,length_toList→aO9,eq_empty_of_size_eq_zero→aR4,toList_append→bC0,any_toList→bE6,size→bJ1,any→bN1
open PySem.Sem renaming wp→aN3
open ForInStep renaming yield→aO7
open PySem.Around renaming under_plainId→aQ4
open PySem.Builtin.Range renaming rangeSize→aR9
open PySem.Builtin.List renaming listExtendWith→aT7
open List.Sublist renaming refl→aU1
open PySem.SeqAt renaming EqAt→aY0,RcNeAt→bF5,RcAt→bM1
open PySem.W.KasT renaming ret→aY6,rec→bK2,ask→bM5
open List.Perm renaming append_left→aZ7
open List.cons renaming inj→bA6
open PySem.W.WShape renaming hasItems→bB4,has→bJ2
open PySem.Code renaming builtin→bC3
open PySem.PyData renaming keyHash→bC9
open Ne renaming symm→bD4
open PySem.Bind renaming madeBy→bD5
open Int.ofNat renaming inj→bE0
open PySem.W.SharedT renaming abs→bG3
open PySem.W.WData renaming int→bI0
open PySem.ExcName renaming means→bI1
open PyProof.Rows renaming listUpdate_at→bI6,tail_any→bJ8,seqEpoch_at→bL6
open Nat.succ renaming inj→bK1
open PySem.Stmt renaming casesOn→bK4
open PySem.IsL renaming update→bM3
open And renaming intro→bN3
open PySem.Slot renaming of→bN6
namespace Mine
def bO1:=@congrArg
def bO2:=@if_pos
def bO3:=@if_neg
def bO4:=@absurd
def bO5:=@decide_eq_true
def bO6:=@decide_eq_false
def bO7:=@of_decide_eq_true
def bO8:=@beq_self_eq_true
def bO9:=@beq_eq_false_iff_ne
def bP0:=@decide_eq_decide
end Mine
open Mine
local macro_rules
 | `(tactic| rfl') => `(tactic| kernel_rfl)

section
open PySem PySem.W PyProof.Rows
namespace Mine
def Xo{α:Type}(as:Array α)(p:α->Bool)(a b:Nat):Bool:=
 aI6 (as.any p a b) (R.anyR as.toList p) (aE0 a 0&&aE0 b as.size)
def Tt:@bN1.{0}=@Xo:=by
 funext α as p a b
 unfold Xo
 cases h:(aE0 a 0&&aE0 b as.size)with
 | false=>rfl
 | true=>
  obtain⟨h1,h2⟩:=aG5.mp h
  have:=aB8 h1
  subst this
  have:=aB8 h2
  subst this
  show as.any p 0 as.size=R.anyR as.toList p
  rw[<-bE6]
  exact congrFun (congrFun (congrFun R.anyR_eq α) as.toList) p
abbrev LG:Type 1:=(α:Type)->(as:Array α)->(p:α->Bool)->(start:Nat)->(stop:Nat)->Bool
inductive Y7:(LG->aE3)->aE3->LG->Type 2
 | mk (F:LG->aE3) (a:LG):Y7 F (F a) a
structure jN(v:aE3)(a:LG):Type 2 where
 F:LG->aE3
 h:Y7 F v a
def jN.ok{v:aE3}{a:LG}(x:jN v a):v=x.F a:=by
 obtain⟨F,h⟩:=x
 cases h
 rfl
def rW:jN Fast.tw4202317264376624991 (@bN1.{0}):=by
 apply jN.mk
 delta Fast.tw4202317264376624991
 generalize @bN1.{0}=any
 exact Y7.mk _ @any
def tnB:aE3:=rW.F (@Xo)
def YG:aE3.«type.__new__» = tnB:=by
 refine Fast.te4202317264376624991.trans (rW.ok.trans ?_)
 exact bO1 rW.F Tt
noncomputable def gL(b:aE3)(id:String):Option aE3:=if id == "type.__new__" then some b else aX4 id
def XR:aX4=gL aE3.«type.__new__»:=by
 funext id
 unfold gL
 by_cases h:(id == "type.__new__")=true
 ·rw[bO2 h,aE6 h]
  rfl'
 ·rw[bO3 h]
lay_quick Mine.gL
def jF:String->Option aE3:=gL tnB
def Yj:aX4=jF:=XR.trans (bO1 gL YG)
end Mine
end
section
open PySem PySem.W PyProof.Rows
def PySem.W.Fast.tw1544363975561320374:aE3:=Mine.tnB
def PySem.W.Fast.te1544363975561320374:Mine.tnB=PySem.W.Fast.tw1544363975561320374:=rfl
end
section
open PySem PySem.W PyProof.Rows
namespace Mine
lay_quick Mine.jF
noncomputable def IM:Option Value:=some (.ref 6)
def Vi(n:Nat)(w:aC7)(p:aH0)(l b:List aF3)(s:bN5)(e:Env):Option (bK5×bN5×bN0×Pos):=
 segRunT jF p w 11 IM 1 n s (piecesOf l e (.body b e) ⟨0,0,0,0⟩ [topFrame ⟨0,0,0,0⟩])
lay_quick Mine.Vi
noncomputable def Ae:Option aF3->List aF3
 | some (.ClassDef _ _ _ b _ _ _ _ _ _ _)=>b
 | _=>[]
noncomputable def AP:Pos:={line:=0,col:=0,endLine:=0,endCol:=0}
noncomputable abbrev Δ:aH0:=aG6
noncomputable def GE:Option aF3->aG2×List aF3×Scope
 | some (.FunctionDef _ a b _ _ _ sc _ _ _)=>(a,b,sc)
 | _=>(⟨[],[],none,[],[],none,[]⟩,[],⟨.module,[],false,false,[]⟩)
noncomputable def Vn(b:List aF3):Str:=(docOf b).getD ⟨#[]⟩
def Mj(q:aG2×List aF3×Scope):Str:=Vn q.2.1
noncomputable def dg(n:Nat):List Nat:=aR2 (λ_=>[]) (λ_ r n=>cond (aE0 n 0) [] (n%128::r (n / 128))) 64 n
def st(n:Nat):Str:=⟨(dg n).toArray⟩
def z0:=st 0xbf7f2edc3bafdf
def ī:=st 0xe7bb4f4d9a7ae2
def z2:=st 0x17efe3df92fdf
def ā:=st 0x17efe5cf875e3c3c2fdf
def ş:=st 0x2fdfe597261dfb2fdf
def ò:=st 0xbf7f1e5e1cefdf
def yA:=st 0x1cb463
def ä:=st 0x39f3c3b31e2ebcf9e9
def Â:=st 0x1bb2ec
def zF:=st 0x1e30ed
def yJ:=st 0x1b7af3
def zD:=st 0x1937e8e9976f3e787663
def É:=st 0x65e987965dbd7765
def w6:=st 0xe9cf4ec
def vO:=st 0x1c30ed
def wG:=st 0x65cfbb0f2
def xX:=st 0x1d32f3
def v7:=st 0x65d9c3af4
def vW:=st 0xcbc3cf4
def Ô:=st 0x396fe5ca2e5e9d7169e5d3a41
def qV:=st 0x72dfcb945cbc3cd4
def Zh:=st 0xbf7f769c3b6fdf
def eR:=st 0x17eff3ddbf4f4c3d37eedd86fdf
def qO:=st 0xbf7f9eed3d3669eb8afdf
def kT:=st 0xbf7f2ecd39afdf
def CC:=st 0x79e0bba75c6bf6e9c3b31af
def mT:=st 0x2fdfc997463c38efdf
def iT:=st 0x7d97675c9bf6bc
def Oy:=st 0x34617dcb560c36e4bfdf0ec
def Kx:=st 0x6cd987bdf
def J1:=st 0xe597a74cb9f2ece1d7a5f
def JQ:=st 0x68c7d30cd
def KH:=st 0xdfa7a61e57f2f4c3b3ae3d9871df
def Jf:=st 0x1cb2e8c7d30cdcb8f765ebc72d3
def Ks:=st 0x64cb9725fef8765f
def Jt:=st 0x64c39795fef8765f
def KB:=st 0x3cf2e5871dfef8765f
def Ki:=st 0x1df0ec
def Sv:=st 0x6b
def MC:=st 0x2fdfcbb3ae4dfb6fdf
def CE:=st 0x3169d99b369c8b99b167e7863
def Sx:=st 0xbf7f2edc3bb661ebc6fdf
def O9:=st 0x17efefdd97769d9d39f2d39afdf
def Hy:=st 0xbf7fa69dda6fdf
def O3:=st 0x17eff4cb9efdf
def PW:=st 0x17eff4cbcefdf
def OQ:=st 0x2fdfcbd32eccb92fdf
def OJ:=st 0x5fbfcf2f4eb8b4f2e9d30dfc7a7a61e9cefdf
def DF:=st 0xcdb32f3
def JC:=st 0x78cb93769
def R4:=st 0x18f7e4
def Y4:=st 0x5fbfd34eed37efaee597a74cb9f2ece1d7a5f
def VP:=st 0x1ab16f
def g4:=st 0x197879e9ab16f
def ZO:=st 0xbf7fa65cf7efaee597a74cb9f2ece1d7a5f
def gZ:=st 0x65ebb30f6
def WY:=st 0xbf7fa65e77efaee597a74cb9f2ece1d7a5f
def Yn:=st 0x17efe5e997665c97efaee597a74cb9f2ece1d7a5f
def TW:=st 0xbf7fa63d392fdf
def Te:=st 0x17efe6cbcb5e1cbdefdf
def YN:=st 0x5fbfcfa6fd9cefdf
def ZQ:=st 0x1cf26ccba735f
def XC:=st 0x1cfa6ceb87365c97f26ccba735f
def OS:=st 0x17eff7cbbafdf
def MD:=st 0x65d7876df
def Ov:=st 0xcb8f0ece19795f
def WT:=st 0x17efe5c787670cbcafdf
def PM:=st 0xbf7f970cbcafdf
def O0:=st 0x1d31e9c9cf0df
def Ox:=st 0x2fdfe79f961ef97774cb9efdf
def W9:=st 0x2fdfe79f961bfa31f4c3b6fdf
def Gy:=st 0x61
def Gg:=st 0x62
def LH:=st 0xcbeb4f3
def qC:=st 0x5fbfb3665c7cf9e1d98efdf
def hZ:=st 0xe7b31df
def Wj:=st 0x5fbfdf2eebf7d768c7d30cd
def aS:=st 0x1cf663
def cO:=st 0xcbb3161e597a69
def Yu:=st 0x3a6cebcf2f2
def VX:=st 0x1975e1db7d768c7d30cd
def Wv:=st 0x5fbfcf9e1d98efdf
def f9:=st 0xe793beb
def Xk:=st 0x32e3c3b3865e57d768c7d30cd
def Yo:=st 0x2fdfe5c32f2bf7d768c7d30cd
def WV:=st 0x74c7a7273c37d768c7d30cd
def X2:=st 0xbf7f9e7e587be5ddd32e7bf7d768c7d30cd
def X4:=st 0x6083965c5b7aee4193665d399072df99073c3a7641
def Wy:=st 0x6283965c5b7aee4193665d399072df99073c3a7641
def XD:=st 0x6483965c5b7aee4193665d399072df99073c3a7641
def Ym:=st 0x1cf2e8c7d30ed
def aZ:=st 0x3474cfbb2ec
def PO:=st 0xe7c72f3bfd32f3
def Om:=st 0x63c72f3bfd32f3
def Nl:=st 0x65c72f3bfd32f3
def Y1:=st 0x62bfbb4e1d18efdfe597463e9866e5c7bb2f5e3969df
def PD:=st 0x3463e9876dfe9cf2e7ddbf65fc9bb4e6
def PU:=st 0x1cf5e3dfb315fcfbb4e8c7d30edbfd32e7
def OF:=st 0x1cf2e4df8f86fbfd32e7
def OA:=st 0x1cf2e4df8f86fbf932f0ebbf967bfd32e7
def OT:=st 0x6fd3d30f2
def Np:=st 0x1bf4f4c3cafebc7a7af1
def Oa:=st 0xdfa7a61e57f5e3d3d78dfd9872f2
def XW:=st 0x0
def TO:=st 0x35eeebab9e9
def WR:=st 0xd7bbaeadfd3ae1
def WQ:=st 0xbf7fa69dda6fdf5dcb2e8c7d30cdcb8f765ebc72d3
def YC:=st 0xe7c72f3bfd32f35dcb2e8c7d30cdcb8f765ebc72d3
def Xn:=st 0x63c72f3bfd32f35dcb2e8c7d30cdcb8f765ebc72d3
def XU:=st 0x65c72f3bfd32f35dcb2e8c7d30cdcb8f765ebc72d3
def TN:=st 0x1a9962
def RG:=st 0x69
def aF:=st 0x1d3665
def dP:=st 0x1cf2e3d393769
def g9:=st 0xd7bbaea
def eK:=st 0x1cb0ecebc37f0
def W1:=st 0x6e
def Zf:=st 0x74e797a6e
def gW:=st 0xe7e3269
def T0:=st 0x62bfbb4e1d18efdf
def XJ:=st 0x62bfbb4e1d18efdf5dcb2e8c7d30cdcb8f765ebc72d3
def Wz:=st 0x1bf661
def W0:=st 0x1a7461
def ZH:=st 0x1bf662
def XV:=st 0x1a7462
def aO:=st 0x1af775d58b9e9
def d7:=st 0x69e9cf2e2
def aV:=st 0x6ae9cf2e2
def iB:=st 0xcbeb4f3e9cf2e2
def fL:=st 0x6ecbb196a
def fU:=st 0x19f769d1d37ee
def dV:=st 0xe9973eecbb196a
def gR:=st 0xdd97632d5df2ee
def Ty:=st 0x6a
def W4:=st 0x3463e9876dfe9cf2e7ddbf65fc9bb4e65dcb2e8c7d30cdcb8f765ebc72d3
def d8:=st 0x30ec
def cZ:=st 0x316c
def dX:=st 0x65eb97af1
def Y0:=st 0x1cf5e3dfb315fcfbb4e8c7d30ed
def gD:=st 0x78
def gV:=st 0x18e9
def aR:=st 0x18ea
def Zt:=st 0x18eb
def gQ:=st 0xe9bb2e3c3ab261bfbb7ee
def iZ:=st 0x1969
def eF:=st 0x196a
def dY:=st 0x196b
def Yi:=st 0x1cf5e3dfb315fcfbb4e8c7d30edbfd32e75dcb2e8c7d30cdcb8f765ebc72d3
def fB:=st 0x3965efcf761
def iH:=st 0x34e1
def cK:=st 0x3562
def aK:=st 0x19f0f4
def Wg:=st 0x1cf2e4df8f86fbfd32e75dcb2e8c7d30cdcb8f765ebc72d3
def XT:=st 0x1cf2e4df8f86fbf932f0ebbf967bfd32e75dcb2e8c7d30cdcb8f765ebc72d3
def Yz:=st 0x6fd3d30f25dcb2e8c7d30cdcb8f765ebc72d3
def Wr:=st 0x1bf4f4c3cafebc7a7af15dcb2e8c7d30cdcb8f765ebc72d3
def Xm:=st 0xdfa7a61e57f5e3d3d78dfd9872f25dcb2e8c7d30cdcb8f765ebc72d3
def bE:=st 0x6bddd7562
def eT:=st 0xe587675e1bf862
def fA:=st 0x3a6eebbf1e2d9b3ae6
def dQ:=st 0x1cf2e4df8f86f
def sE:=st 0x17efedcbd34f4cb9efdf
def rE:=st 0x197a75c5a7974e985074cbcd0744fbb0e3
def p9:=st 0x32f4eb8b4f2e9d30a0cbd32eccb910744fbb0e3
def rN:=st 0x29cbeb4f340b31205985468c7d30cd
def mN:=st 0x1074df9d02ce7d3765dbd73f2c2819a0c997a63cbc3c45
def oO:=st 0x17efeecbb2fdf
def nG:=st 0x1c37f0
def qW:=st 0x40eb9e5db87720c9b32e9cc83265e98f2f0f19777541d37c7
def lK:=st 0x29e495ee5f5a79a059c92bdc4816724af70a8
def oA:=st 0x3a6ceb87365c9d32f3
def oR:=st 0x326ecbc3861
def tD:=st 0xe7e72eb
def l0:=st 0x193261
def lJ:=st 0x73db97a69
def rC:=st 0xbf7f9eed387a6edf8efdf
def mY:=st 0x1d32e7
def qN:=st 0xe9cb7f3
def qX:=st 0x1971e1d9c32f2
def s6:=st 0x32f4cbb32e4
def k8:=st 0x3a72cbcf769
def nB:=st 0x6cc3d78e5
def qY:=st 0x32ece1a7974
def tF:=st 0x182e
def nM:=st 0xe9e32f4
def sH:=st 0xcb930ed
def sV:=st 0xc9bb4eb
def mL:=st 0x3a61
def sJ:=st 0x19776f
def oH:=st 0x1bfbf4
def pJ:=st 0xc9872e8
def nC:=st 0xd9a70f4
def nL:=st 0x70
def qR:=st 0x71
def lZ:=st 0x65e597474
def k9:=st 0xd78f0e2
def lW:=st 0x3265ddcbaf4
def lH:=st 0x1d3aef
def kX:=st 0xcbbb4ec
def pH:=st 0x74e7cb4e6
def nZ:=st 0xe9cf0e6
def sI:=st 0x73cb937e3
def rL:=st 0x19366f
def lC:=st 0x1df2ee
def mD:=st 0x73cbd37ee
def oC:=st 0x1df7ee
def mZ:=st 0xc9b37f4
def kO:=st 0xe9cf0ec
def qU:=st 0xc9cb7f7
def nU:=st 0x326ecbd3c65
def mQ:=st 0x73cbbb4ec
def sA:=st 0x73dd9f4f3
def mX:=st 0x1cf965e9a7977
def n9:=st 0xc9872f2
def oJ:=st 0xe9cb0f0
def qS:=st 0xdd9f4f3
def mU:=st 0x3a70d3cb1f3
def pQ:=st 0xc98f161
def lR:=st 0x73e197a73
def pG:=st 0x197ae4
def nD:=st 0x73d7cb0ed
def mM:=st 0x72cbd3361
def pC:=st 0xcbb70ee
def qK:=st 0x1df7f2
def rX:=st 0xc9972e4
def pA:=st 0xe1bf964
def pP:=st 0x1cf0f7
def lE:=st 0xdda77ea
noncomputable abbrev kh(P:aD6)(x:Str):Int:=bC9 P x
def q0:aG2×List aF3×Scope:=GE (Δ.main.body[0]?)
def q1:aG2×List aF3×Scope:=GE ((Ae (Δ.main.body[2]?))[0]?)
def ĉ:aG2×List aF3×Scope:=GE ((Ae (Δ.main.body[2]?))[1]?)
def q3:aG2×List aF3×Scope:=GE ((Ae (Δ.main.body[2]?))[2]?)
def ě:aG2×List aF3×Scope:=GE ((Ae (Δ.main.body[2]?))[3]?)
def ť:aG2×List aF3×Scope:=GE ((Ae (Δ.main.body[3]?))[4]?)
def Ā:aG2×List aF3×Scope:=GE ((Ae (Δ.main.body[3]?))[5]?)
def q7:aG2×List aF3×Scope:=GE ((Ae (Δ.main.body[3]?))[6]?)
def Ģ:aG2×List aF3×Scope:=GE ((Ae (Δ.main.body[3]?))[8]?)
def Į:aG2×List aF3×Scope:=GE ((Ae (Δ.main.body[3]?))[9]?)
def Zr:aG2×List aF3×Scope:=GE ((Ae (Δ.main.body[3]?))[10]?)
def jC:aG2×List aF3×Scope:=GE (Δ.main.body[4]?)
def Zg:aG2×List aF3×Scope:=GE ((Ae (Δ.main.body[5]?))[1]?)
def iF:aG2×List aF3×Scope:=GE ((Ae (Δ.main.body[5]?))[2]?)
def iM:aG2×List aF3×Scope:=GE ((Ae (Δ.main.body[5]?))[3]?)
def bR:aG2×List aF3×Scope:=GE ((Ae (Δ.main.body[5]?))[4]?)
def kA:aG2×List aF3×Scope:=GE ((Ae (Δ.main.body[5]?))[5]?)
def gK:aG2×List aF3×Scope:=GE ((Ae (Δ.main.body[5]?))[6]?)
def gX:aG2×List aF3×Scope:=GE ((Ae (Δ.main.body[5]?))[7]?)
def dG:aG2×List aF3×Scope:=GE ((Ae (Δ.main.body[5]?))[8]?)
def jE:aG2×List aF3×Scope:=GE ((Ae (Δ.main.body[5]?))[9]?)
def Zu:aG2×List aF3×Scope:=GE ((Ae (Δ.main.body[5]?))[10]?)
def uM:aG2×List aF3×Scope:=GE ((Ae (Δ.main.body[5]?))[11]?)
def t8:aG2×List aF3×Scope:=GE ((Ae (Δ.main.body[5]?))[12]?)
def jT:aG2×List aF3×Scope:=GE (Δ.main.body[7]?)
def j3:aG2×List aF3×Scope:=GE (Δ.main.body[8]?)
def kI:aG2×List aF3×Scope:=GE (Δ.main.body[9]?)
def jD:aG2×List aF3×Scope:=GE (Δ.main.body[10]?)
noncomputable def ob(t:String)(d:Data):Obj:=⟨.type t,.none,d,#[]⟩
noncomputable abbrev ķ:Value:=.int 0 0
noncomputable def fb(n q:Str)(x y:aG2×List aF3×Scope):Obj:=⟨.none,.none,.func ⟨n,q,x.1,.stmts x.2.1,y.2.2,0,[],.none,.none,.none,.none,.none,.none,.none,0⟩,#[]⟩
def ň(n q:Str)(x y:aG2×List aF3×Scope)(d e:Value)(m:Str)(k r:Nat):Obj:=ob "function" (.func ⟨n,q,x.1,.stmts x.2.1,y.2.2,3,[],d,.none,e,.str m k,.none,.ref r,.none,0⟩)
def ū(n q f:Str)(a:Nat)(l:Int)(k:Int)(r:Nat)(t:Int)(u:Nat):Obj:=ob "code" (.fields #[.str n a,.str q (a+1),.str f (a+2),.int l 0,.int k 0,ķ,ķ,.int 3 0,.ref r,.bool .true,.int t 0,.ref (r+1),.none,.ref (r+2),.ref (r+3),.ref (r+4),.int u 0,.int l 0,.str f (u+1)])
def fe(n q f:Str)(a:Nat)(l:Int)(k:Int)(r:Nat)(t:Int)(u:Nat):Obj:=ob "code" (.fields #[.str n a,.str q (a+1),.str f (a+2),.int l 0,.int k 0,ķ,ķ,.int 3 0,.ref r,.bool .true,.int t 0,.ref (r+1),.none,.none,.none,.ref (r+2),.int u 0,.int l 0,.str f (u+1)])
def fk(n q f:Str)(a:Nat)(l:Int)(r:Nat)(t:Int)(u:Nat):Obj:=ob "code" (.fields #[.str n a,.str q (a+1),.str f (a+2),.int l 0,ķ,ķ,ķ,ķ,.ref r,.bool .false,.int t 0,.ref (r+1),.none,.none,.none,.none,.int u 0,.int l 0,.str f (u+1)])
noncomputable def tV:Nat->List Str->List Value
 | k,x::r=>.str x k::tV (k+1) r
 | _,[]=>[]
def Ž(k:Nat)(l:List Str):Obj:=ob "tuple" (.seq ⟨tV k l⟩ 0)
def Ĵ(P:aD6)(x:Str)(k:Nat)(v:Value):aM7:=⟨kh P x,.str x k,v⟩
noncomputable def ý:Nat->List Obj->BT
 | n+1,x::r=>.node x (ý n (r.foldr (λx p=>(x::p.2,p.1)) ([],[])).1) (ý n (r.foldr (λx p=>(x::p.2,p.1)) ([],[])).2)
 | _,_=>.nil
noncomputable def h0:Obj:=ob "tuple" (.seq #[] 0)
noncomputable def h1:Obj:=⟨.none,.none,.fields #[],#[]⟩
def h2:Obj:=fk iT iT CC 182 1 11 181 185
def h3:Obj:=⟨.type "frame",.none,.plain,#[.some (.ref 13),.some (.ref 3),.some (.ref 3),.none,.some (.str Zh 164),.none,.some (.ref 0)]⟩
def h4(P:aD6):Obj:=ob "dict" (.dict #[Ĵ P z0 165 (.str Oy 583),Ĵ P z2 166 (.none),Ĵ P ā 167 (.none),Ĵ P ş 168 (.builtin "__main__.__loader__#opaque"),Ĵ P ò 169 (.none),Ĵ P eR 170 (.ref 6),Ĵ P qO 171 (.ref 4),Ĵ P kT 173 (.str CC 172),Ĵ P mT 174 (.none),Ĵ P Kx 193 (.ref 21),Ĵ P J1 252 (.ref 60),Ĵ P JQ 380 (.ref 135),Ĵ P KH 388 (.ref 145),Ĵ P Jf 582 (.ref 242),Ĵ P Ks 590 (.ref 251),Ĵ P Jt 596 (.ref 256),Ĵ P KB 602 (.ref 261),Ĵ P Ki 608 (.ref 266)] 18)
noncomputable def h5:Obj:=⟨.none,.none,.fields #[.int 1 0,ķ,.ref 20,.int 5 0,ķ,.ref 27,.int 23 0,ķ,.ref 71,.int 66 0,ķ,.ref 144,.int 70 0,ķ,.ref 151,.int 463 0,ķ,.ref 250,.int 483 0,ķ,.ref 255,.int 504 0,ķ,.ref 260,.int 523 0,ķ,.ref 265],#[]⟩
def h6:Obj:=Ž 190 [Sv]
def h7:Obj:=fb Kx Kx q0 q0
def ſ:Obj:=ū Kx Kx CC 187 1 1 15 181 191
def h9:Obj:=ň Kx Kx q0 q0 .none .none Zh 164 20
noncomputable def cE:Obj:=ob "builtin_function_or_method" (.fields #[.builtin "type.__prepare__",.type "type"])
def Å(P:aD6):Obj:=ob "dict" (.dict #[Ĵ P MC 203 (.str CE 194),Ĵ P Sx 205 (.str J1 204),Ĵ P O9 207 (.int 5 206),Ĵ P Hy 216 (.ref 35),Ĵ P O3 225 (.ref 43),Ĵ P PW 234 (.ref 50),Ĵ P OQ 242 (.ref 57),Ĵ P OJ 245 (.ref 58)] 8)
noncomputable def tG:Obj:=⟨.none,.none,.fields #[.int 7 0,.int 4 0,.ref 34,.int 11 0,.int 4 0,.ref 42,.int 18 0,.int 4 0,.ref 49,.int 21 0,.int 4 0,.ref 56],#[]⟩
def zM:Obj:=fk J1 J1 CC 198 5 25 181 201
def xH:Obj:=⟨.type "frame",.none,.plain,#[.some (.ref 27),.some (.ref 3),.some (.ref 24),.none,.some (.str CE 194),.none,.some (.ref 0)]⟩
def wF:Obj:=Ž 211 [DF,JC,R4]
def Þ:Obj:=fb Hy Y4 q1 q1
def v3:Obj:=ū Hy Y4 CC 208 7 3 29 181 214
def v8:Obj:=ň Hy Y4 q1 q1 .none .none CE 194 34
noncomputable def xY:Obj:=ob "tuple" (.seq #[.none] 0)
def À:Obj:=Ž 220 [DF,VP,g4]
def zG:Obj:=fb O3 ZO ĉ ĉ
def yY:Obj:=ū O3 ZO CC 217 11 3 37 181 223
def wU:Obj:=ň O3 ZO ĉ ĉ (.ref 36) .none CE 194 42
def Ó:Obj:=Ž 229 [DF,VP,gZ]
def wW:Obj:=fb PW WY q3 q3
def w8:Obj:=ū PW WY CC 226 18 3 44 181 232
def xJ:Obj:=ň PW WY q3 q3 .none .none CE 194 49
def Ã:Obj:=Ž 238 [DF,VP]
def vM:Obj:=fb OQ Yn ě ě
def yZ:Obj:=ū OQ Yn CC 235 21 2 51 181 240
def Ø:Obj:=ň OQ Yn ě ě .none .none CE 194 56
def zS:Obj:=Ž 243 [z2,JC]
def vN(P:aD6):Obj:=ob "dict" (.dict #[Ĵ P MC 203 (.str CE 194),Ĵ P O9 207 (.int 5 206),Ĵ P Hy 216 (.ref 35),Ĵ P O3 225 (.ref 43),Ĵ P PW 234 (.ref 50),Ĵ P OQ 242 (.ref 57),Ĵ P OJ 245 (.ref 58),Ĵ P TW 247 (.ref 61),Ĵ P Te 249 (.ref 62),Ĵ P z2 250 (.none)] 4)
def yE:Obj:=⟨.type "type",.none,.cls ⟨J1,[.type "object"],[.ref 60,.type "object"],59,J1,.true,[],[],.false,.none,.false⟩,#[.none,.none,.some (.str J1 196),.some (.str J1 204),.some (.builtin "object.__new__"),.some (.bool .true)]⟩
def zU:Obj:=ob "getset_descriptor" (.fields #[.str TW 246,.ref 60,.builtin "function.__dict__",.builtin "function.__dict__#set"])
def yN:Obj:=ob "getset_descriptor" (.fields #[.str Te 248,.ref 60,.builtin "ExceptionGroup.__weakref__",.none])
noncomputable def yU:Obj:=ob "super" (.fields #[.ref 60,.ref 60,.ref 60])
noncomputable def uU:Obj:=ob "builtin_function_or_method" (.fields #[.builtin "object.__init_subclass__",.ref 60])
noncomputable def uX:Obj:=ob "tuple" (.seq #[.type "tuple"] 0)
def wD(P:aD6):Obj:=ob "dict" (.dict #[Ĵ P MC 260 (.str CE 194),Ĵ P Sx 262 (.str JQ 261),Ĵ P O9 264 (.int 23 263),Ĵ P z2 266 (.str (Vn (Ae (Δ.main.body[3]?))) 265),Ĵ P YN 268 (.ref 73),Ĵ P ZQ 272 (.ref 74),Ĵ P XC 273 (.ref 75),Ĵ P OS 284 (.ref 82),Ĵ P MD 306 (.ref 91),Ĵ P Ov 317 (.ref 100),Ĵ P WT 318 (.ref 100),Ĵ P PM 326 (.ref 107),Ĵ P O0 333 (.ref 114),Ĵ P Ox 341 (.ref 121),Ĵ P W9 345 (.ref 122),Ĵ P Gy 355 (.ref 124),Ĵ P Gg 365 (.ref 127),Ĵ P LH 375 (.ref 130),Ĵ P OJ 376 (.ref 132),Ĵ P qC 377 (.ref 68)] 20)
noncomputable def xP:Obj:=ob "cell" (.cell (.some (.ref 135)))
noncomputable def æ:Obj:=⟨.none,.none,.fields #[.int 29 0,.int 4 0,.ref 81,.int 34 0,.int 4 0,.ref 88,.int 41 0,.int 4 0,.ref 99,.int 52 0,.int 4 0,.ref 106,.int 56 0,.int 4 0,.ref 113,.int 59 0,.int 4 0,.ref 120],#[]⟩
def vY:Obj:=fk JQ JQ CC 255 23 69 181 258
def yR:Obj:=⟨.type "frame",.none,.plain,#[.some (.ref 71),.some (.ref 3),.some (.ref 67),.none,.some (.str CE 194),.none,.some (.ref 0)]⟩
def v9:Obj:=Ž 269 [Gy,Gg,LH]
noncomputable def uP:Obj:=ob "dict" (.dict #[] 0)
def wZ:Obj:=Ž 277 [hZ,Gy,Gg,LH]
def zW:Obj:=fb OS Wj ť ť
def zT:Obj:=ū OS Wj CC 274 29 4 76 181 281
def zY:Obj:=ň OS Wj ť ť .none (.str (Mj ť) 283) CE 194 81
def Ñ:Obj:=Ž 288 [aS,cO,Yu]
def Ä:Obj:=fb MD VX Ā Ā
def y8:Obj:=ū MD VX CC 285 33 2 83 181 291
def wH:Obj:=ob "function" (.func ⟨MD,VX,Ā.1,.stmts Ā.2.1,Ā.2.2,3,[],.none,.none,.str (Mj Ā) 293,.str CE 194,.some 92,.ref 88,.none,0⟩)
def ß(P:aD6):Obj:=ob "dict" (.dict #[Ĵ P MC 295 (.str CE 194),Ĵ P z0 298 (.str MD 297),Ĵ P Sx 301 (.str VX 300),Ĵ P z2 303 (.str (Mj Ā) 293),Ĵ P eR 305 (.ref 92)] 5)
noncomputable def xK:Obj:=⟨.type "classmethod",.some 90,.fields #[.ref 89,.bool .false],#[]⟩
noncomputable def vE:Obj:=ob "tuple" (.seq #[.ref 68] 0)
def wP:Obj:=Ž 310 [Wv]
def wT:Obj:=Ž 311 [DF,f9,Yu]
def xW:Obj:=fb Ov Xk q7 q7
def wY:Obj:=ob "code" (.fields #[.str Ov 307,.str Xk 308,.str CC 309,.int 41 0,.int 1 0,.int 1 0,ķ,.int 11 0,.ref 94,.bool .true,.int 181 0,.ref 95,.none,.ref 96,.ref 97,.ref 98,.int 314 0,.int 41 0,.str CC 315])
def vL:Obj:=ob "function" (.func ⟨Ov,Xk,q7.1,.stmts q7.2.1,q7.2.2,3,[(Wv,68)],.none,.none,.str (Mj q7) 316,.str CE 194,.none,.ref 99,.ref 93,0⟩)
def â:Obj:=Ž 322 [DF]
def Tw:Obj:=fb PM Yo Ģ Ģ
def u7:Obj:=ū PM Yo CC 319 52 1 101 181 323
def yV:Obj:=ň PM Yo Ģ Ģ .none (.str (Mj Ģ) 325) CE 194 106
def uY:Obj:=Ž 330 [DF]
def yQ:Obj:=fb O0 WV Į Į
def wR:Obj:=ū O0 WV CC 327 56 1 108 181 331
def Í:Obj:=ň O0 WV Į Į .none .none CE 194 113
def wQ:Obj:=Ž 337 [DF]
def zZ:Obj:=fb Ox X2 Zr Zr
def vI:Obj:=ū Ox X2 CC 334 59 1 115 181 338
def á:Obj:=ň Ox X2 Zr Zr .none (.str (Mj Zr) 340) CE 194 120
def w9:Obj:=Ž 342 [Gy,Gg,LH]
def zV(P:aD6):Obj:=ob "dict" (.dict #[Ĵ P JC 352 (.int 0 346),Ĵ P z2 354 (.str X4 347)] 2)
noncomputable def zO:Obj:=⟨.ref 60,.some 123,.plain,#[]⟩
def yM(P:aD6):Obj:=ob "frame" (.dict #[Ĵ P DF 348 (.ref 124),Ĵ P JC 349 (.int 0 346),Ĵ P R4 350 (.str X4 347)] 3)
def xU(P:aD6):Obj:=ob "dict" (.dict #[Ĵ P JC 362 (.int 1 356),Ĵ P z2 364 (.str Wy 357)] 2)
noncomputable def Õ:Obj:=⟨.ref 60,.some 126,.plain,#[]⟩
def wE(P:aD6):Obj:=ob "frame" (.dict #[Ĵ P DF 358 (.ref 127),Ĵ P JC 359 (.int 1 356),Ĵ P R4 360 (.str Wy 357)] 3)
def zJ(P:aD6):Obj:=ob "dict" (.dict #[Ĵ P JC 372 (.int 2 366),Ĵ P z2 374 (.str XD 367)] 2)
noncomputable def xR:Obj:=⟨.ref 60,.some 129,.plain,#[]⟩
def vS(P:aD6):Obj:=ob "frame" (.dict #[Ĵ P DF 368 (.ref 130),Ĵ P JC 369 (.int 2 366),Ĵ P R4 370 (.str XD 367)] 3)
noncomputable def y6:Obj:=ob "list" (.seq #[] 0)
def wN(P:aD6):Obj:=ob "dict" (.dict #[Ĵ P MC 260 (.str CE 194),Ĵ P O9 264 (.int 23 263),Ĵ P z2 266 (.str (Vn (Ae (Δ.main.body[3]?))) 265),Ĵ P YN 268 (.ref 73),Ĵ P ZQ 272 (.ref 74),Ĵ P XC 273 (.ref 75),Ĵ P OS 284 (.ref 136),Ĵ P MD 306 (.ref 91),Ĵ P Ov 317 (.ref 100),Ĵ P WT 318 (.ref 100),Ĵ P PM 326 (.ref 107),Ĵ P O0 333 (.ref 114),Ĵ P Ox 341 (.ref 121),Ĵ P W9 345 (.ref 122),Ĵ P Gy 355 (.ref 124),Ĵ P Gg 365 (.ref 127),Ĵ P LH 375 (.ref 130),Ĵ P OJ 376 (.ref 132)] 2)
def zB:Obj:=⟨.type "type",.none,.cls ⟨JQ,[.type "tuple"],[.ref 135,.type "tuple",.type "object"],134,JQ,.false,[],[],.false,.none,.false⟩,#[.some (.ref 65),.none,.some (.str JQ 253),.some (.str JQ 261),.some .none,.some (.bool .false)]⟩
noncomputable def zA:Obj:=ob "staticmethod" (.fields #[.ref 82])
noncomputable def xM:Obj:=ob "super" (.fields #[.ref 135,.ref 135,.ref 135])
noncomputable def vZ:Obj:=ob "builtin_function_or_method" (.fields #[.builtin "object.__init_subclass__",.ref 135])
def z9:Obj:=Ž 384 [Ym,aZ]
def Ý:Obj:=fb KH KH jC jC
def wX:Obj:=ū KH KH CC 381 66 2 139 181 386
def xV:Obj:=ň KH KH jC jC .none .none CE 194 144
def vB(P:aD6):Obj:=ob "dict" (.dict #[Ĵ P MC 396 (.str CE 194),Ĵ P Sx 398 (.str Jf 397),Ĵ P O9 400 (.int 70 399),Ĵ P z2 402 (.str (Vn (Ae (Δ.main.body[5]?))) 401),Ĵ P Hy 417 (.ref 160),Ĵ P PO 427 (.ref 167),Ĵ P Om 436 (.ref 174),Ĵ P Nl 445 (.ref 181),Ĵ P Y1 463 (.ref 188),Ĵ P PD 491 (.ref 196),Ĵ P PU 518 (.ref 203),Ĵ P OF 533 (.ref 210),Ĵ P OA 542 (.ref 218),Ĵ P OT 551 (.ref 225),Ĵ P Np 558 (.ref 232),Ĵ P Oa 565 (.ref 239),Ĵ P OJ 576 (.ref 240)] 17)
noncomputable def yG:Obj:=⟨.none,.none,.fields #[.int 145 0,.int 4 0,.ref 159,.int 173 0,.int 4 0,.ref 166,.int 184 0,.int 4 0,.ref 173,.int 209 0,.int 4 0,.ref 180,.int 236 0,.int 4 0,.ref 187,.int 260 0,.int 4 0,.ref 195,.int 335 0,.int 4 0,.ref 202,.int 383 0,.int 4 0,.ref 209,.int 430 0,.int 4 0,.ref 217,.int 433 0,.int 4 0,.ref 224,.int 457 0,.int 4 0,.ref 231,.int 460 0,.int 4 0,.ref 238],#[]⟩
def Ö:Obj:=fk Jf Jf CC 391 70 149 181 394
def wK:Obj:=⟨.type "frame",.none,.plain,#[.some (.ref 151),.some (.ref 3),.some (.ref 148),.none,.some (.str CE 194),.none,.some (.ref 0)]⟩
def z6:Obj:=ob "tuple" (.seq #[.none,.str XW 404,.str XW 405,.bool .true] 0)
def sL:Obj:=Ž 409 [DF,TO,Gy,Gg,WR]
def oU:Obj:=fb Hy WQ Zg Zg
def nO:Obj:=ū Hy WQ CC 406 145 5 154 181 414
def k7:Obj:=ň Hy WQ Zg Zg (.ref 153) (.str (Mj Zg) 416) CE 194 159
def pY:Obj:=Ž 421 [DF,Gy,Gg]
def tH:Obj:=fb PO YC iF iF
def mJ:Obj:=ū PO YC CC 418 173 3 161 181 424
def nQ:Obj:=ň PO YC iF iF .none (.str (Mj iF) 426) CE 194 166
def lV:Obj:=Ž 431 [DF,Gy]
def sM:Obj:=fb Om Xn iM iM
def mR:Obj:=ū Om Xn CC 428 184 2 168 181 433
def tE:Obj:=ň Om Xn iM iM .none (.str (Mj iM) 435) CE 194 173
def lX:Obj:=Ž 440 [DF,Gg]
def s8:Obj:=fb Nl XU bR bR
def pU:Obj:=ū Nl XU CC 437 209 2 175 181 442
def rO:Obj:=ň Nl XU bR bR .none (.str (Mj bR) 444) CE 194 180
def rR:Obj:=Ž 449 [DF,Gg,TN,RG,aF,dP,g9,TO,eK,W1,Zf,gW]
def qB:Obj:=fb T0 XJ kA kA
def mB:Obj:=ū T0 XJ CC 446 236 1 182 181 461
def oP:Obj:=ň T0 XJ kA kA .none .none CE 194 187
noncomputable def rQ:Obj:=ob "tuple" (.seq #[.int 0 464,.none,.int 0 465,.none] 0)
def nK:Obj:=Ž 469 [DF,Wz,W0,ZH,XV,Gy,Gg,TN,aO,d7,aV,iB,fL,fU,RG,dV,gR,Ty,Sv]
def pX:Obj:=fb PD W4 gK gK
def qD:Obj:=ū PD W4 CC 466 260 5 190 181 488
def oX:Obj:=ň PD W4 gK gK (.ref 189) (.str (Mj gK) 490) CE 194 195
def rH:Obj:=Ž 495 [DF,d8,cZ,dX,Y0,Wz,W0,ZH,XV,RG,Ty,Sv,gD,gV,aR,Zt,gQ,iZ,eF,dY]
def p7:Obj:=fb PU Yi gX gX
noncomputable def nP:Obj:=ū PU Yi CC 492 335 1 197 181 515
def kM:Obj:=ň PU Yi gX gX .none (.str (Mj gX) 517) CE 194 202
def sR:Obj:=Ž 522 [DF,RG,Ty,fB,iH,cK,LH,aK]
def qJ:Obj:=fb OF Wg dG dG
def oL:Obj:=ū OF Wg CC 519 383 1 204 181 530
def pS:Obj:=ň OF Wg dG dG .none (.str (Mj dG) 532) CE 194 209
noncomputable def mV:Obj:=ob "tuple" (.seq #[.int 3 534] 0)
def oD:Obj:=Ž 538 [DF,W1]
def mK:Obj:=fb OA XT jE jE
def nH:Obj:=ū OA XT CC 535 430 2 212 181 540
def qQ:Obj:=ň OA XT jE jE (.ref 211) .none CE 194 217
def s7:Obj:=Ž 546 [DF,Ym]
def pM:Obj:=fb OT Yz Zu Zu
def sQ:Obj:=ū OT Yz CC 543 433 1 219 181 548
def l7:Obj:=ň OT Yz Zu Zu .none (.str (Mj Zu) 550) CE 194 224
def tL:Obj:=Ž 555 [DF]
def oY:Obj:=fb Np Wr uM Į
def mG:Obj:=ū Np Wr CC 552 457 1 226 181 556
def qL:Obj:=ň Np Wr uM Į .none .none CE 194 231
def rU:Obj:=Ž 562 [DF]
def kR:Obj:=fb Oa Xm t8 Į
def tA:Obj:=ū Oa Xm CC 559 460 1 233 181 563
def lQ:Obj:=ň Oa Xm t8 Į .none .none CE 194 238
def kZ:Obj:=Ž 566 [Gy,WR,Gg,TN,bE,eT,fA,TO,Y0,dQ]
def p8(P:aD6):Obj:=ob "dict" (.dict #[Ĵ P MC 396 (.str CE 194),Ĵ P O9 400 (.int 70 399),Ĵ P z2 402 (.str (Vn (Ae (Δ.main.body[5]?))) 401),Ĵ P Hy 417 (.ref 160),Ĵ P PO 427 (.ref 167),Ĵ P Om 436 (.ref 174),Ĵ P Nl 445 (.ref 181),Ĵ P Y1 463 (.ref 188),Ĵ P PD 491 (.ref 196),Ĵ P PU 518 (.ref 203),Ĵ P OF 533 (.ref 210),Ĵ P OA 542 (.ref 218),Ĵ P OT 551 (.ref 225),Ĵ P Np 558 (.ref 232),Ĵ P Oa 565 (.ref 239),Ĵ P OJ 576 (.ref 240),Ĵ P TW 578 (.ref 243),Ĵ P Te 580 (.ref 244)] 3)
def lN:Obj:=⟨.type "type",.none,.cls ⟨Jf,[.type "object"],[.ref 242,.type "object"],241,Jf,.true,[],[],.false,.none,.false⟩,#[.none,.none,.some (.str Jf 389),.some (.str Jf 397),.some (.builtin "object.__new__"),.some (.bool .true)]⟩
def nJ:Obj:=ob "getset_descriptor" (.fields #[.str TW 577,.ref 242,.builtin "function.__dict__",.builtin "function.__dict__#set"])
def sO:Obj:=ob "getset_descriptor" (.fields #[.str Te 579,.ref 242,.builtin "ExceptionGroup.__weakref__",.none])
noncomputable def sP:Obj:=ob "super" (.fields #[.ref 242,.ref 242,.ref 242])
noncomputable def s9:Obj:=ob "builtin_function_or_method" (.fields #[.builtin "object.__init_subclass__",.ref 242])
def kU:Obj:=fb Ks Ks jT jT
def nN:Obj:=fe Ks Ks CC 585 463 3 247 181 588
def nW:Obj:=ň Ks Ks jT jT .none .none Oy 583 250
def pK:Obj:=fb Jt Jt j3 j3
def sU:Obj:=fe Jt Jt CC 591 483 5 252 181 594
def kY:Obj:=ň Jt Jt j3 j3 .none .none Oy 583 255
def rG:Obj:=fb KB KB kI kI
def sC:Obj:=fe KB KB CC 597 504 7 257 181 600
def qP:Obj:=ň KB KB kI kI .none .none Oy 583 260
def pB:Obj:=fb Ki Ki jD jD
def qH:Obj:=fe Ki Ki CC 603 523 1 262 181 606
def pR:Obj:=ň Ki Ki jD jD .none .none Oy 583 265
def o0(P:aD6):List Obj:=[boot_o_0 P,boot_o_1 P,boot_o_2 P,h4 P,boot_o_4 P,boot_o_5 P,boot_o_6 P,boot_o_7 P,boot_o_8 P,boot_o_9 P,boot_o_10 P,h0]
def o1(P:aD6):List Obj:=[h5,h2,h3,h0,h1,h6,h0,h7,ſ,h9,h0,cE]
def ó(P:aD6):List Obj:=[Å P,h0,tG,zM,xH,h0,h1,wF,h0,Þ,v3,v8]
def o3(P:aD6):List Obj:=[xY,h0,h1,À,h0,zG,yY,wU,h0,h1,Ó,h0]
def Ś(P:aD6):List Obj:=[wW,w8,xJ,h0,h1,Ã,h0,vM,yZ,Ø,zS,vN P]
def ê(P:aD6):List Obj:=[yE,zU,yN,yU,uU,uX,cE,wD P,xP,h0,æ,vY]
def Ĕ(P:aD6):List Obj:=[yR,h0,v9,uP,h0,h1,wZ,h0,zW,zT,zY,h0]
def Ť(P:aD6):List Obj:=[h1,Ñ,h0,Ä,y8,wH,ß P,xK,uP,vE,wP,h1]
def o8(P:aD6):List Obj:=[wT,h0,xW,wY,vL,h0,h1,â,h0,Tw,u7,yV]
def o9(P:aD6):List Obj:=[h0,h1,uY,h0,yQ,wR,Í,h0,h1,wQ,h0,zZ]
def uW(P:aD6):List Obj:=[vI,á,w9,zV P,zO,yM P,xU P,Õ,wE P,zJ P,xR,vS P]
def wM(P:aD6):List Obj:=[h0,y6,wN P,zB,zA,xM,vZ,h0,h1,z9,h0,Ý]
def wV(P:aD6):List Obj:=[wX,xV,h0,cE,vB P,h0,yG,Ö,wK,z6,h0,h1]
def xF(P:aD6):List Obj:=[sL,h0,oU,nO,k7,h0,h1,pY,h0,tH,mJ,nQ]
def yK(P:aD6):List Obj:=[h0,h1,lV,h0,sM,mR,tE,h0,h1,lX,h0,s8]
def xA(P:aD6):List Obj:=[pU,rO,h0,h1,rR,h0,qB,mB,oP,rQ,h0,h1]
def w7(P:aD6):List Obj:=[nK,h0,pX,qD,oX,h0,h1,rH,h0,p7,nP,kM]
def zI(P:aD6):List Obj:=[h0,h1,sR,h0,qJ,oL,pS,mV,h0,h1,oD,h0]
def zH(P:aD6):List Obj:=[mK,nH,qQ,h0,h1,s7,h0,pM,sQ,l7,h0,h1]
def wI(P:aD6):List Obj:=[tL,h0,oY,mG,qL,h0,h1,rU,h0,kR,tA,lQ]
def yP(P:aD6):List Obj:=[kZ,p8 P,lN,nJ,sO,sP,s9,h0,h1,kU,nN,nW]
def ç(P:aD6):List Obj:=[h0,h1,pK,sU,kY,h0,h1,rG,sC,qP,h0,h1]
def xD(P:aD6):List Obj:=[pB,qH,pR]
def KU(P:aD6):BT:=ý 20 [boot_o_0 P,boot_o_1 P,boot_o_2 P,boot_o_3 P,boot_o_4 P,boot_o_5 P,boot_o_6 P,boot_o_7 P,boot_o_8 P,boot_o_9 P,boot_o_10 P,h0,h1,h2,h3]
def Hk(P:aD6):List Obj:=o0 P++(o1 P++(ó P++(o3 P++(Ś P++(ê P++(Ĕ P++(Ť P++(o8 P++(o9 P++(uW P++(wM P++(wV P++(xF P++(yK P++(xA P++(w7 P++(zI P++(zH P++(wI P++(yP P++(ç P++(xD P))))))))))))))))))))))
def Nj(P:aD6):BT:=ý 20 (Hk P)
def ë(P:aD6):aE8:=⟨⟨Hk P⟩,{}⟩
noncomputable def fH:Pos:=⟨523,0,557,15⟩
noncomputable abbrev nF:Nat:=267
noncomputable abbrev kF:Nat:=609
def G8:Env:={scope:=Δ.main.scope,locals:=mainNs,globals:=mainNs,cells:=[],code:=.ref 13,frame:=some 14}
def bF:List aF3:=behindTheImports Δ
def Mg(w:aC7)(p:aH0)(b:List aF3)(os:aS4):Option (bK5×bN5×bN0×Pos):=
 Vi 2222 w p bF b ⟨KU w.params,15,{},⟨[]⟩,{},187,os⟩ G8
def M1(w:aC7)(p:aH0)(b:List aF3)(os:aS4):Option (bK5×bN5×bN0×Pos):=
 some (.next,⟨Nj w.params,nF,{},⟨[]⟩,{},kF,os⟩,.body b G8,fH)
abbrev Wn:Str:=Vn (Ae (Δ.main.body[5]?))
noncomputable def lY:{cs:List Char // aA1 (String.ofList cs)=Wn}:=by
 apply Subtype.mk
 dsimp only[Wn,Δ,aG6,aR3,List.getElem?_cons_zero,Ae,Vn,docOf,Option.getD]
def hxS:Str:=⟨(lY.1.map Char.toNat).toArray⟩
def YB:Wn=hxS:=lY.2.symm.trans (Fast.ofString_ofList lY.1)
abbrev rM:Type:=Str->Str->Str->Str->Str->Str->Str->Str->Str->Str->Str->Str->Str->Str->Str->Str->Str->Str->Str->Str->Str->Str->Str->Str->Str->Str->Str->Str->Str->Str->Str->Str->Str->Str->Str->Str->Str->Str->Str->Str->Str->Str->Str->Str->Str->Str->Str->Str->Str->Str->Str->Str->Str->Str->Str->Str->Str->Str->Str->Str->Str->Str->Str->Str->Str->Str->Str->Str->Str->Str->Str->Str->Str->Str->Str->Str->Str->Str->Str->Str->Str->Str->Str->Str->Str->Str->Str->Str->Str->Str->Str->Str->Str->Str->Str->Str->Str->Str->Str->Str->Str->Str->Str->Str->Str->Str->Str->Str->Str->Str->Str->Str->Str->Str->Str->Str->Str->Str->Str->Str->Str->Str->Str->Str->Str->Str->Str->Str->Str->Str->Str->Str->Str->Str->Str->Str->Str->Str->Str->Str->Str->Str->Str->Str->Str->Str->Str->Str->Str->Str->Str->Str->Str->Str->Str->Str->Str->Str->Str->Str->Str->Str->Str->Str->Str->Str->Str->Str->Str->Str->Str->Str->Str->Str->Str->Str->Str->Str->Str->Str->Str->Str->Str->Str->Str->Str->Str->Str->Str->Str->(String->Str)->Option aH0
noncomputable abbrev jM(F:rM):Str->(String->Str)->Option aH0:=F (.ofString "_wall") (.ofString "k") (.ofString "__name__") (.ofString "cpy313.difflib") (.ofString "_tuplegetter") (.ofString "__init__") (.ofString "self") (.ofString "index") (.ofString "doc") (.ofString "__doc__") (.ofString "__get__") (.ofString "obj") (.ofString "objtype") (.ofString "issubclass") (.ofString "type") (.ofString "tuple") (.ofString "__getitem__") (.ofString "__set__") (.ofString "value") (.ofString "AttributeError") (.ofString "can't set attribute") (.ofString "__delete__") (.ofString "can't delete attribute") (.ofString "Match") (.ofString "Match(a, b, size)") (.ofString "__slots__") (.ofString "_fields") (.ofString "a") (.ofString "b") (.ofString "size") (.ofString "_field_defaults") (.ofString "__new__") (.ofString "_cls") (.ofString "_make") (.ofString "cls") (.ofString "iterable") (.ofString "result") (.ofString "len") (.ofString "TypeError") (.ofString "Expected 3 arguments, got ") (.ofString "classmethod") (.ofString "_replace") (.ofString "kwds") (.ofString "__class__") (.ofString "__len__") (.ofString "pop") (.ofString "map") (.ofString "Got unexpected field names: ") (.ofString "list") (.ofString "__replace__") (.ofString "__repr__") (.ofString "(a=%r, b=%r, size=%r)") (.ofString "_asdict") (.ofString "__getnewargs__") (.ofString "__match_args__") (.ofString "Alias for field number 0") (.ofString "Alias for field number 1") (.ofString "Alias for field number 2") (.ofString "_calculate_ratio") (.ofString "matches") (.ofString "length") (.ofString "SequenceMatcher") (.ofString "isjunk") (.ofString "autojunk") (.ofString "") (.ofString "set_seqs") (.ofString "set_seq1") (.ofString "set_seq2") (.ofString "matching_blocks") (.ofString "opcodes") (.ofString "fullbcount") (.ofString "_SequenceMatcher__chain_b") (.ofString "__chain_b") (.ofString "b2j") (.ofString "i") (.ofString "elt") (.ofString "enumerate") (.ofString "indices") (.ofString "setdefault") (.ofString "append") (.ofString "bjunk") (.ofString "junk") (.ofString "set") (.ofString "keys") (.ofString "add") (.ofString "bpopular") (.ofString "popular") (.ofString "n") (.ofString "ntest") (.ofString "idxs") (.ofString "items") (.ofString "find_longest_match") (.ofString "alo") (.ofString "ahi") (.ofString "blo") (.ofString "bhi") (.ofString "isbjunk") (.ofString "__contains__") (.ofString "besti") (.ofString "bestj") (.ofString "bestsize") (.ofString "j2len") (.ofString "nothing") (.ofString "range") (.ofString "j2lenget") (.ofString "get") (.ofString "newj2len") (.ofString "j") (.ofString "get_matching_blocks") (.ofString "la") (.ofString "lb") (.ofString "queue") (.ofString "x") (.ofString "sort") (.ofString "i1") (.ofString "j1") (.ofString "k1") (.ofString "non_adjacent") (.ofString "i2") (.ofString "j2") (.ofString "k2") (.ofString "get_opcodes") (.ofString "answer") (.ofString "ai") (.ofString "bj") (.ofString "tag") (.ofString "replace") (.ofString "delete") (.ofString "insert") (.ofString "equal") (.ofString "get_grouped_opcodes") (.ofString "ratio") (.ofString "sum") (.ofString "triple") (.ofString ".0") (.ofString "quick_ratio") (.ofString "real_quick_ratio") (.ofString "law_dm0059_04") (.ofString "_law_deed") (.ofString "text") (.ofString "made") (.ofString "kind") (.ofString "at") (.ofString "one") (.ofString "two") (.ofString "head") (.ofString "tail") (.ofString "p") (.ofString "q") (.ofString "there") (.ofString "back") (.ofString "turned") (.ofString "out") (.ofString "line") (.ofString "first") (.ofString "fast") (.ofString "_law_read") (.ofString "codes") (.ofString "old") (.ofString "new") (.ofString "notes") (.ofString "now") (.ofString "told") (.ofString "last") (.ofString "word") (.ofString "extend") (.ofString "_law_carry") (.ofString "lines") (.ofString "signs") (.ofString "writers") (.ofString "read") (.ofString "part") (.ofString "sign") (.ofString "law") (.ofString "script") (.ofString "chr") (.ofString "abcd") (.ofString "steps") (.ofString "due") (.ofString "marks") (.ofString "after") (.ofString "name") (.ofString "row") (.ofString "deed") (.ofString "drop") (.ofString "was") (.ofString "max") (.ofString "join") (.ofString "/claim/cut.py")
noncomputable def uR:{F:rM // jM F Wn aA1=some aG6}:=by
 refine Subtype.mk ?F ?pf
 case pf=>
  refine have hD:Wn=aA1 ?lit:=?pr;(congrFun (bO1 (jM ?F) hD) aA1).trans ?rest
  case pr=>
   dsimp only[Wn,Δ,aG6,aR3,List.getElem?_cons_zero,Ae,Vn,docOf,Option.getD]
   exact rfl
  case rest=>
   delta aG6 jM
   generalize aA1 "_wall" = x0,aA1 "k" = x1,aA1 "__name__" = x2,aA1 "cpy313.difflib" = x3,aA1 "_tuplegetter" = x4,aA1 "__init__" = x5,aA1 "self" = x6,aA1 "index" = x7,aA1 "doc" = x8,aA1 "__doc__" = x9,aA1 "__get__" = x10,aA1 "obj" = x11,aA1 "objtype" = x12,aA1 "issubclass" = x13,aA1 "type" = x14,aA1 "tuple" = x15,aA1 "__getitem__" = x16,aA1 "__set__" = x17,aA1 "value" = x18,aA1 "AttributeError" = x19,aA1 "can't set attribute" = x20,aA1 "__delete__" = x21,aA1 "can't delete attribute" = x22,aA1 "Match" = x23,aA1 "Match(a, b, size)" = x24,aA1 "__slots__" = x25,aA1 "_fields" = x26,aA1 "a" = x27,aA1 "b" = x28,aA1 "size" = x29,aA1 "_field_defaults" = x30,aA1 "__new__" = x31,aA1 "_cls" = x32,aA1 "_make" = x33,aA1 "cls" = x34,aA1 "iterable" = x35,aA1 "result" = x36,aA1 "len" = x37,aA1 "TypeError" = x38,aA1 "Expected 3 arguments, got " = x39,aA1 "classmethod" = x40,aA1 "_replace" = x41,aA1 "kwds" = x42,aA1 "__class__" = x43,aA1 "__len__" = x44,aA1 "pop" = x45,aA1 "map" = x46,aA1 "Got unexpected field names: " = x47,aA1 "list" = x48,aA1 "__replace__" = x49,aA1 "__repr__" = x50,aA1 "(a=%r, b=%r, size=%r)" = x51,aA1 "_asdict" = x52,aA1 "__getnewargs__" = x53,aA1 "__match_args__" = x54,aA1 "Alias for field number 0" = x55,aA1 "Alias for field number 1" = x56,aA1 "Alias for field number 2" = x57,aA1 "_calculate_ratio" = x58,aA1 "matches" = x59,aA1 "length" = x60,aA1 "SequenceMatcher" = x61,aA1 "isjunk" = x62,aA1 "autojunk" = x63,aA1 "" = x64,aA1 "set_seqs" = x65,aA1 "set_seq1" = x66,aA1 "set_seq2" = x67,aA1 "matching_blocks" = x68,aA1 "opcodes" = x69,aA1 "fullbcount" = x70,aA1 "_SequenceMatcher__chain_b" = x71,aA1 "__chain_b" = x72,aA1 "b2j" = x73,aA1 "i" = x74,aA1 "elt" = x75,aA1 "enumerate" = x76,aA1 "indices" = x77,aA1 "setdefault" = x78,aA1 "append" = x79,aA1 "bjunk" = x80,aA1 "junk" = x81,aA1 "set" = x82,aA1 "keys" = x83,aA1 "add" = x84,aA1 "bpopular" = x85,aA1 "popular" = x86,aA1 "n" = x87,aA1 "ntest" = x88,aA1 "idxs" = x89,aA1 "items" = x90,aA1 "find_longest_match" = x91,aA1 "alo" = x92,aA1 "ahi" = x93,aA1 "blo" = x94,aA1 "bhi" = x95,aA1 "isbjunk" = x96,aA1 "__contains__" = x97,aA1 "besti" = x98,aA1 "bestj" = x99,aA1 "bestsize" = x100,aA1 "j2len" = x101,aA1 "nothing" = x102,aA1 "range" = x103,aA1 "j2lenget" = x104,aA1 "get" = x105,aA1 "newj2len" = x106,aA1 "j" = x107,aA1 "get_matching_blocks" = x108,aA1 "la" = x109,aA1 "lb" = x110,aA1 "queue" = x111,aA1 "x" = x112,aA1 "sort" = x113,aA1 "i1" = x114,aA1 "j1" = x115,aA1 "k1" = x116,aA1 "non_adjacent" = x117,aA1 "i2" = x118,aA1 "j2" = x119,aA1 "k2" = x120,aA1 "get_opcodes" = x121,aA1 "answer" = x122,aA1 "ai" = x123,aA1 "bj" = x124,aA1 "tag" = x125,aA1 "replace" = x126,aA1 "delete" = x127,aA1 "insert" = x128,aA1 "equal" = x129,aA1 "get_grouped_opcodes" = x130,aA1 "ratio" = x131,aA1 "sum" = x132,aA1 "triple" = x133,aA1 ".0" = x134,aA1 "quick_ratio" = x135,aA1 "real_quick_ratio" = x136,aA1 "law_dm0059_04" = x137,aA1 "_law_deed" = x138,aA1 "text" = x139,aA1 "made" = x140,aA1 "kind" = x141,aA1 "at" = x142,aA1 "one" = x143,aA1 "two" = x144,aA1 "head" = x145,aA1 "tail" = x146,aA1 "p" = x147,aA1 "q" = x148,aA1 "there" = x149,aA1 "back" = x150,aA1 "turned" = x151,aA1 "out" = x152,aA1 "line" = x153,aA1 "first" = x154,aA1 "fast" = x155,aA1 "_law_read" = x156,aA1 "codes" = x157,aA1 "old" = x158,aA1 "new" = x159,aA1 "notes" = x160,aA1 "now" = x161,aA1 "told" = x162,aA1 "last" = x163,aA1 "word" = x164,aA1 "extend" = x165,aA1 "_law_carry" = x166,aA1 "lines" = x167,aA1 "signs" = x168,aA1 "writers" = x169,aA1 "read" = x170,aA1 "part" = x171,aA1 "sign" = x172,aA1 "law" = x173,aA1 "script" = x174,aA1 "chr" = x175,aA1 "abcd" = x176,aA1 "steps" = x177,aA1 "due" = x178,aA1 "marks" = x179,aA1 "after" = x180,aA1 "name" = x181,aA1 "row" = x182,aA1 "deed" = x183,aA1 "drop" = x184,aA1 "was" = x185,aA1 "max" = x186,aA1 "join" = x187,aA1 "/claim/cut.py" = x188
   generalize aA1 ?lit=y
   generalize aA1=f
   exact rfl
noncomputable def tZ:rM:=uR.1
end Mine
end
section
open PySem PySem.W PyProof.Rows
def Mine.uO:String->Str:=λs=>⟨(aA1 s).cps⟩
def Mine.ZN:aA1=Mine.uO:=funext λs=>rfl
def Mine.j5:Str->(String->Str)->Option aH0:=Mine.tZ Mine.Kx Mine.Sv Mine.z0 Mine.CE Mine.J1 Mine.Hy Mine.DF Mine.JC Mine.R4 Mine.z2 Mine.O3 Mine.VP Mine.g4 Mine.ä Mine.vW Mine.v7 Mine.sE Mine.PW Mine.gZ Mine.Ô Mine.rE Mine.OQ Mine.p9 Mine.JQ Mine.rN Mine.YN Mine.ZQ Mine.Gy Mine.Gg Mine.LH Mine.XC Mine.OS Mine.hZ Mine.MD Mine.aS Mine.cO Mine.Yu Mine.Â Mine.qV Mine.mN Mine.zD Mine.Ov Mine.f9 Mine.Wv Mine.oO Mine.nG Mine.vO Mine.qW Mine.w6 Mine.WT Mine.PM Mine.lK Mine.O0 Mine.Ox Mine.W9 Mine.X4 Mine.Wy Mine.XD Mine.KH Mine.Ym Mine.aZ Mine.Jf Mine.TO Mine.WR Mine.XW Mine.PO Mine.Om Mine.Nl Mine.Y0 Mine.dQ Mine.fA Mine.Y1 Mine.T0 Mine.TN Mine.RG Mine.aF Mine.É Mine.dP Mine.oA Mine.oR Mine.bE Mine.g9 Mine.xX Mine.tD Mine.l0 Mine.eT Mine.eK Mine.W1 Mine.Zf Mine.gW Mine.lJ Mine.PD Mine.Wz Mine.W0 Mine.ZH Mine.XV Mine.aO Mine.rC Mine.d7 Mine.aV Mine.iB Mine.fL Mine.fU Mine.wG Mine.dV Mine.mY Mine.gR Mine.Ty Mine.PU Mine.d8 Mine.cZ Mine.dX Mine.gD Mine.qN Mine.gV Mine.aR Mine.Zt Mine.gQ Mine.iZ Mine.eF Mine.dY Mine.OF Mine.fB Mine.iH Mine.cK Mine.aK Mine.qX Mine.s6 Mine.k8 Mine.nB Mine.OA Mine.OT Mine.yJ Mine.qY Mine.tF Mine.Np Mine.Oa Mine.Oy Mine.Ks Mine.nM Mine.sH Mine.sV Mine.mL Mine.sJ Mine.oH Mine.pJ Mine.nC Mine.nL Mine.qR Mine.lZ Mine.k9 Mine.lW Mine.lH Mine.kX Mine.pH Mine.nZ Mine.Jt Mine.sI Mine.rL Mine.lC Mine.mD Mine.oC Mine.mZ Mine.kO Mine.qU Mine.nU Mine.KB Mine.mQ Mine.sA Mine.mX Mine.n9 Mine.oJ Mine.qS Mine.Ki Mine.mU Mine.yA Mine.pQ Mine.lR Mine.pG Mine.nD Mine.mM Mine.pC Mine.qK Mine.rX Mine.pA Mine.pP Mine.zF Mine.lE Mine.CC
def Mine.YX:Mine.jM Mine.tZ=Mine.j5:=by rfl'
def PySem.W.Fast.tw15876093925039982309:aH0:=aD9 aG6 (λp=>p) (Mine.j5 Mine.hxS Mine.uO)
def PySem.W.Fast.te15876093925039982309:aG6=PySem.W.Fast.tw15876093925039982309:=bO1 (λo:Option aH0=>(aD9 aG6 (λp=>p) o:aH0)) (Mine.uR.2.symm.trans ((congrFun (congrFun Mine.YX Mine.Wn) aA1).trans ((congrFun (bO1 Mine.j5 Mine.YB) aA1).trans (bO1 (Mine.j5 Mine.hxS) Mine.ZN))))
def PySem.W.Fast.tw3097827553188353559:Str:=Mine.hxS
def PySem.W.Fast.te3097827553188353559:Mine.hxS=PySem.W.Fast.tw3097827553188353559:=rfl
end
section
open PySem PySem.W PyProof.Rows
namespace Mine
def UH:Mg=Mg:=rfl
def Ts:M1=M1:=rfl
name_quick zzL for Mine.Mg by Mine.UH
name_quick zzR for Mine.M1 by Mine.Ts
def qF:aH0:={Δ with main:={Δ.main with body:=((Δ.main.body.drop 0).take 1)++((Δ.main.body.drop 2).take 4)++((Δ.main.body.drop 7).take 4)}}
noncomputable def looseF:List Str:=["_tuplegetter","Match","SequenceMatcher"]
def eL(s:aA8):Bool:=xlAt qF [] s&&recOk ([]:WRecords) s
def Uv:Mg=M1:=Fast.zzL_eq.trans ((by rfl':Fast.zzL=Fast.zzR).trans Fast.zzR_eq.symm)
def Vx(w:aC7)(os:aS4):((staticsOk (importedModules Δ.main.body) (aX5 w.params) (ë w.params)&&namesBound Δ (ë w.params)&&gensDone ⟨ë w.params,⟨[]⟩,{},kF,os⟩&&laidKept (aX5 w.params) (ë w.params)))=true:=by rfl'
def Vq(w:aC7)(os:aS4):(seen ((recsOf qF).map (·.name)) (ownsOf qF) [] ⟨ë w.params,#[],{},kF,os⟩)=expectedOf qF:=by rfl'
def Ve(w:aC7)(os:aS4):((ë w.params).bltView)=bltViewBooted:=by rfl'
def V1(w:aC7)(os:aS4):((ë w.params).keysOk (looseW qF looseF) ((recsOf qF).map (·.name)) ((litsOf qF).map (·.1)) ((clssOf qF (looseW qF looseF)).map (·.name))&&(ë w.params).accountedOkI (importedModules Δ.main.body)&&(ë w.params).isNs aJ5&&(ë w.params).isNs aW4&&tablesOk qF (ë w.params)&&eL ⟨ë w.params,⟨[]⟩,{},kF,os⟩&&(if true then(⟨[]⟩:Array bJ3).size==0 else !leftWithCleanup (⟨[]⟩:Array bJ3)))=true:=by rfl'
def Vt(w:aC7)(os:aS4):(tabsOk qF ⟨ë w.params,⟨[]⟩,{},kF,os⟩)=true:=by rfl'
def WJ(w:aC7)(os:aS4):(pinSeenD qF (drecsOf qF) ⟨ë w.params,⟨[]⟩,{},kF,os⟩)=pinGoodD (drecsOf qF):=by rfl'
def V4(w:aC7)(os:aS4):(plainSeenE qF (looseW qF looseF) ⟨ë w.params,⟨[]⟩,{},kF,os⟩)=plainGoodE qF (looseW qF looseF):=by rfl'
def Vj(w:aC7)(os:aS4):(plainSeenD qF looseF ⟨ë w.params,⟨[]⟩,{},kF,os⟩)=plainGoodD qF looseF:=by rfl'
def V6(w:aC7)(os:aS4):(wideSeen qF ⟨ë w.params,⟨[]⟩,{},kF,os⟩)=wideGood qF:=by rfl'
def Vb(w:aC7)(os:aS4):(clsSeenW qF looseF ⟨ë w.params,⟨[]⟩,{},kF,os⟩)=clsGoodW qF looseF:=by rfl'
def We(w:aC7)(os:aS4):(absHeap (Nj w.params) nF {})=ë w.params:=by rfl'
noncomputable abbrev Ŗ:Nat:=12+(1+(2222+2))
def Q7(w:aC7)(os:aS4):topRun aX4 Δ w 11 IM Ŗ ⟨aX5 w.params,⟨[]⟩,bI7,bK6,os⟩ (topStub Δ)=some ⟨ë w.params,⟨[]⟩,{},kF,os⟩:=by
 have e1:topGo aX4 Δ w 11 IM 12 ⟨aX5 w.params,⟨[]⟩,bI7,bK6,os⟩ (topStub Δ)=some ((bG3 ⟨KU w.params,15,{},⟨[]⟩,{},187,os⟩),⟨denote aX4 (.body bF G8),.body bF G8,AP,[topFrame AP]⟩):=by rfl'
 have e2:segRun aX4 Δ w 11 IM 1 1 (bG3 ⟨KU w.params,15,{},⟨[]⟩,{},187,os⟩) (blockOf bF G8 (.body bF G8) AP [topFrame AP])=some (.next,(bG3 ⟨KU w.params,15,{},⟨[]⟩,{},187,os⟩),.body bF G8,AP):=by rfl'
 have e3:segRunT jF Δ w 11 IM 1 2222 ⟨KU w.params,15,{},⟨[]⟩,{},187,os⟩ (piecesOf bF G8 (.body bF G8) AP [topFrame AP])=_:=congrFun (congrFun (congrFun (congrFun Uv w) Δ) bF) os
 have e4:topRun aX4 Δ w 11 IM 2 (bG3 ⟨Nj w.params,nF,{},⟨[]⟩,{},kF,os⟩) ⟨doneF .next,.body bF G8,fH,[topFrame AP]⟩=some ⟨absHeap (Nj w.params) nF {},⟨[]⟩,{},kF,os⟩:=by rfl'
 rw[<-Yj]at e3
 rw[We w os]at e4
 refine go_top e1 (piece_block e2 ?_)
 refine(bO1 (λl=>topRun aX4 Δ w 11 IM _ _ (restOf l G8 (.body bF G8) AP [topFrame AP])) (aF9 bF).symm).trans ?_
 exact piece_app (segRun_of e3) (piece_nil e4)
def ŕ(w:aC7)(h:aE8):Prop:=∀b o,(ë w.params).get? b=some o->h.get? b=some o
def Š:DefRec×List (Str×Expr):=(defOf qF "law").getD (⟨"",⟨[],[],none,[],[],none,[]⟩,[],default,default⟩,[])
def NI(w:aC7):((aX5 w.params).isNs aJ5&&(⟨[]⟩:Array bJ3).size==0,(aX5 w.params).objs.size,(aX5 w.params).nsMap aJ5 "__annotations__")=(true,11,IM):=by rfl'
def M0(s:aA8):fenceModules? Δ s=some s:=by rfl'
def Hi:opening Δ=plainProg Δ.main.scope.names:=by rfl'
def gU:bN7 Δ qF looseF eL (λs=>s.heap) (λw=>ë w.params) 4538 true:=by
 refine bN7.of_pieces (H₀:=aX5) (H₁:=ë) (gs₀:=⟨[]⟩) (gs₁:=⟨[]⟩) (d₀:=bI7) (d₁:={}) (k₀:=bK6) (k₁:=kF) (m₀:=11) (ann:=IM) (M:=Ŗ)
  (boot_open Hi (by decide) M0) NI Q7 (by decide) (λw=>?_)
 funext os
 have c0:=Vx w os
 have c1:=Vq w os
 have ĳ:=Ve w os
 have c3:=V1 w os
 have ŗ:=Vt w os
 have c5:=WJ w os
 have c6:=V4 w os
 have c7:=Vj w os
 have ź:=V6 w os
 have c9:=Vb w os
 exact aM1 c0 (aM1 (aM1 c1 (aM1 ĳ (aM1 c3 (aM1 ŗ (aM1 c5 (aM1 c6 (aM1 c7 (aM1 ź c9)))))))) rfl)
abbrev Za:OpenLaw:=PySem.Challenge.rw_dm0059_04
def hd(call:WalkO qF looseF (XL qF []) ŕ Za.row.toRowW Š.1 Š.2 λf vs=>PySem.call f vs):Za.Holds:=by
 w_on
 o_law
 refine holds_open (q:=qF) (loose:=looseF) (Xt:=eL) (XP:=XL qF []) (Yf:=λs=>s.heap) (Ya:=λw=>ë w.params) (YP:=ŕ) (N:=4538) gU
  (λw s e b o h=>?_) (λw h h' y k b o e=>k b o (y b o e)) (λs e=>xl_of s (aG5.mp e).1) XL.keeps
  (by rfl') (by rfl') (by rfl') (λs e=>recFacts_of (aG5.mp e).2) (by rfl) (by assumption) (by decide +kernel) ⟨rfl,rfl,rfl,rfl,rfl,by decide +kernel⟩ ?hw call
 ·rw[show s.heap=ë w.params from e];exact h
 case hw=>w_witness2
def cU:bN7 Δ qF looseF eL (λs=>(s.heap,s.toks)) (λw=>(ë w.params,kF)) 4538 true:=by
 refine bN7.of_pieces (H₀:=aX5) (H₁:=ë) (gs₀:=⟨[]⟩) (gs₁:=⟨[]⟩) (d₀:=bI7) (d₁:={}) (k₀:=bK6) (k₁:=kF) (m₀:=11) (ann:=IM) (M:=Ŗ)
  (boot_open Hi (by decide) M0) NI Q7 (by decide) (λw=>?_)
 funext os
 have c0:=Vx w os
 have c1:=Vq w os
 have ĳ:=Ve w os
 have c3:=V1 w os
 have ŗ:=Vt w os
 have c5:=WJ w os
 have c6:=V4 w os
 have c7:=Vj w os
 have ź:=V6 w os
 have c9:=Vb w os
 exact aM1 c0 (aM1 (aM1 c1 (aM1 ĳ (aM1 c3 (aM1 ŗ (aM1 c5 (aM1 c6 (aM1 c7 (aM1 ź c9)))))))) rfl)
abbrev P2(r:OpenRow)(H:aC7->aE8)(k:Nat)(f:Value):Prop:=∀(w:aC7) (s₀ s₁:aA8),(∀b o,(H w).get? b=some o->s₁.heap.get? b=some o)->k<=s₁.toks->s₁.gens = #[]->∀(args:List WData) (vs:List Value),r.toRowW.claim.pre args=true->WellAll w.params s₁.heap vs args->
 aD7 (aE5 r.prog w) callerA (PySem.call f vs) (λv s'=>GoodWG r.toRowW.claim (classAt s₀.heap) (bI1 s₀.heap) args s₁ (.ok (.ret v)) s')
  (λe s'=>GoodWG r.toRowW.claim (classAt s₀.heap) (bI1 s₀.heap) args s₁ (.error e) s') s₁
def LL{r:OpenRow}{q:aH0}{loose:List Str}{Xt:aA8->Bool}{XP:(Str->Option Value)->aE8->Prop}{H:aC7->aE8}{k N:Nat}{d:DefRec}{kwd:List (Str×Expr)}{f:Value}
  (left:bN7 r.prog q loose Xt (λs=>(s.heap,s.toks)) (λw=>(H w,k)) N) (hX :∀s,Xt s=true->XP (s.heap.nsMap aJ5) s.heap)
  (hdef:defOf q r.name=some (d,kwd)) (hp:r.prog.theDef r.name=some (d.params,d.body,d.scope)) (hk:kwWritten? d.params.kwonlyargs d.params.kw_defaults=some kwd) (hr:r.records=[])
  (k1:r.wellSaid=true) (ch:chainsOk q=true) (ow:opensWell r.prog=true) (hf:frees r.toRowW=true) (hi:r.within=[]) (hb:r.prog.bare) (hw:r.toRowW.promised)
  (hm :∀w,(H w).isNs aJ5=true/\(H w).nsMap aJ5 r.name=some f) (call:P2 r H k f):r.Holds:=by
 obtain⟨f1,f2,f3,f4,f5⟩:=frees_parts hf
 have no :∀x,x∉r.toRowW.claim.records:=λx hx=>by
  rw[show r.toRowW.claim.records=[]from hr]at hx
  exact nomatch hx
 refine⟨k1,hw,⟨hb,ow,by show r.makers.map _=[];rw[f5];rfl⟩,hw.witness,λw=>?_⟩
 obtain⟨b1,b2⟩:=left.behind hX ch w
 refine⟨b1,λsa ha=>?_⟩
 obtain⟨s₀,e1,e2,s,T,z,g0,g1,G,y⟩:=b2 sa ha
 have yh:s.heap=H w:=bO1 Prod.fst y
 have yk:s.toks=k:=bO1 Prod.snd y
 have gn:s.gens = #[]:=aR4 (beq_iff_eq.mp g0)
 refine⟨s₀,e1,e2,s,T,λn hn=>?_,λx hx=>(no x hx).elim,λx hx=>(no x hx).elim,?_⟩
 ·cases hpn:r.pinned with
  | false=>rw[hpn]at hn;exact nomatch hn
  | true=>
   rw[hpn]at hn
   cases aB1.mp hn
   exact pinned_of_view g1 G hdef hp hk
 ·refine ClaimW.callFrom_of_specG z gn λargs hp hl ord ho=>?_
  obtain⟨⟨vs,s₁⟩,e⟩:=Option.isSome_iff_exists.mp (layAllW_isSome (P:=w.params) (ord:=ord) (RecFacts.ground (recFacts_nil hr) G).has args r.args s (pre_splitW hp).1)
  have gr:=layAllW_grows _ _ _ e
  have al:=layAllW_rest _ _ _ e
  obtain⟨as,r1,ś,r3⟩:=reads_layAllW ho _ _ _ e hl s₁.heap λ_ _ q=>q
  have L:Laid r.records w s s₁ args vs as:=⟨⟨ord,ho,e⟩,r1,ś,r3,gr.keeps,al.1.trans gn,al.2.2.1⟩
  have c:=call w s s₁ (λb o q=>gr.keeps b o (yh.symm▸q)) (yk▸gr.toks) L.gens args vs hp L.well
  have fin :∀{x:bD9} {s':aA8},GoodWG r.toRowW.claim (classAt s.heap) (bI1 s.heap) args s₁ x s'->r.toRowW.claim.Ends s args vs s₁ x s'/\s'.os=s.os/\AllBare s'.gens/\
    (r.writes=true->namesKept r.prog r.keeps s.heap s'.heap/\∀x∈r.toRowW.claim.records,∀a,classAt s.heap x.1=some a->recordClass s'.heap a x.1 (x.2.map (·.1))=true):=λg=>
   have q:=g.laid (c:=r.toRowW.claim) f1 hi (ident_freeW f2 f3 f4) L
   ⟨q.1,q.2.1,q.2.2,λ_=>⟨namesKept_of T g1 _ gr.keeps g.2.1.old,λx hx=>(no x hx).elim⟩⟩
  have g2:s₁.heap.Ns aJ5 ((H w).nsMap aJ5):=yh▸(aE8.Ns.of_isNs g1).keeps gr.keeps
  exact⟨vs,s₁,e,aA3 (wpAny_nsGet g2 (by rw[(hm w).2];exact aA3 (aN2 c (λ_ _ q=>aA7 ⟨_,rfl,fin q⟩) λ_ _ q=>fin q)))⟩
def VY(call:P2 Za.row (λw=>ë w.params) kF (.ref 266)):Za.Holds:=by
 w_on
 o_law
 refine LL (q:=qF) (loose:=looseF) (Xt:=eL) (XP:=XL qF []) (d:=Š.1) (kwd:=Š.2) cU (λs e=>xl_of s (aG5.mp e).1) (by rfl') (by rfl') (by rfl') rfl (by assumption) (by rfl') (by rfl') (by rfl') rfl
  ⟨rfl,rfl,rfl,rfl,rfl,by decide +kernel⟩ ?hw (λw=>⟨by rfl',by rfl'⟩) call
 case hw=>w_witness2
end Mine
end
namespace Lq
inductive Đ where
 | v (i:Nat) | k (n:Nat) | a (x y:Đ) | s (x y:Đ) | m (n:Nat) (x:Đ) | mi (x y:Đ) | ma (x y:Đ) | c (x:Đ) | g (x:Đ)
inductive FF where
 | le (x y:Đ) | lt (x y:Đ) | eq (x y:Đ) | il (x y:Đ) | it (x y:Đ) | ie (x y:Đ) | an (p q:FF) | or(p q:FF) | im (p q:FF) | no (p:FF) | fa
noncomputable abbrev Dq{α}(d:α):List α->Nat->α
 | [],_=>d
 | a::_,0=>a
 | _::r,i+1=>Dq d r i
noncomputable abbrev Đ.dn(c:List Nat):Đ->Nat
 | v i=>Dq 0 c i
 | k n=>n
 | a x y=>x.dn c+y.dn c
 | s x y=>x.dn c-y.dn c
 | m n x=>n*x.dn c
 | mi x y=>min (x.dn c) (y.dn c)
 | ma x y=>max (x.dn c) (y.dn c)
 | .c x=>x.dn c
 | g x=>x.dn c
noncomputable abbrev Đ.di(c:List Nat)(z:List Int):Đ->Int
 | v i=>Dq 0 z i
 | k n=>n
 | a x y=>x.di c z+y.di c z
 | s x y=>x.di c z-y.di c z
 | m n x=>n*x.di c z
 | mi x y=>min (x.di c z) (y.di c z)
 | ma x y=>max (x.di c z) (y.di c z)
 | .c x=>(x.dn c:Int)
 | g x=>- x.di c z
abbrev FF.dn(c:List Nat)(z:List Int):FF->Prop
 | le x y=>x.dn c<=y.dn c
 | lt x y=>x.dn c<y.dn c
 | eq x y=>x.dn c=y.dn c
 | il x y=>x.di c z<=y.di c z
 | it x y=>x.di c z<y.di c z
 | ie x y=>x.di c z=y.di c z
 | an p q=>p.dn c z/\q.dn c z
 | or p q=>p.dn c z\/q.dn c z
 | im p q=>p.dn c z->q.dn c z
 | no p=>¬ p.dn c z
 | fa=>False
noncomputable abbrev pT:Nat->Nat->(Đ->Nat->FF)->FF
 | 0,_,_=>.fa
 | f+1,n,r=>
  let t:=n%16
  let n:=n / 16
  if t<8 then r (.v t) n else if t=8 then r (.k (n%16)) (n / 16)else if t=9 then r (.k (n%16777216)) (n / 16777216)
  else if t=10 then pT f n λx n=>pT f n λy=>r (.a x y)else if t=11 then pT f n λx n=>pT f n λy=>r (.s x y)
  else if t=12 then pT f (n / 256) λx=>r (.m (n%256) x)
  else if t=13 then pT f n λx n=>pT f n λy=>r (.mi x y)else if t=14 then pT f n λx n=>pT f n λy=>r (.ma x y)
  else if n%16=0 then pT f (n / 16) λx=>r (.c x)else if n%16=1 then pT f (n / 16) λx=>r (.g x)else r (.v (n%16+6)) (n / 16)
noncomputable abbrev Ţ:Nat->Nat->(FF->Nat->FF)->FF
 | 0,_,_=>.fa
 | f+1,n,r=>
  let t:=n%16
  let n:=n / 16
  if t<6 then pT f n λx n=>pT f n λy=>r (if t=0 then .le x y else if t=1 then .lt x y else if t=2 then .eq x y else if t=3 then .il x y else if t=4 then .it x y else .ie x y)
  else if t=6 then Ţ f n λp n=>Ţ f n λq=>r (.an p q)else if t=7 then Ţ f n λp n=>Ţ f n λq=>r (.or p q)
  else if t=8 then Ţ f n λp n=>Ţ f n λq=>r (.im p q)else if t=9 then Ţ f n λp=>r (.no p)else r .fa n
abbrev rd(n:Nat):FF:=Ţ 60 n λp _=>p
abbrev Ļ:=Int×List Int
noncomputable def Qc:List Int->List Int->List Int
 | [],l=>l
 | l,[]=>l
 | a::l,b::m=>(a+b)::Qc l m
noncomputable def Tc(k:Int)(l:List Int):List Int:=l.map (k * ·)
def Ļ.add(p q:Ļ):Ļ:=(p.1+q.1,Qc p.2 q.2)
def Ļ.mul(k:Int)(p:Ļ):Ļ:=(k*p.1,Tc k p.2)
noncomputable def Kc:Nat->List Int
 | 0=>[1]
 | i+1=>0::0::Kc i
def Ļ.le(p q:Ļ):Ļ:=q.add (p.mul (-1))
def Ļ.lt(p q:Ļ):Ļ:=((p.le q).1-1,(p.le q).2)
abbrev CN:=Bool×Ļ
def Xu(p q:Ļ)(r1 ś:List CN->Bool)(cs:List CN):Bool:=
 bif cs.contains (false,p.le q)then r1 cs else bif cs.contains (false,q.lt p)then ś cs else r1 ((false,p.le q)::cs)&&ś ((false,q.lt p)::cs)
noncomputable def Đ.cn:Đ->(Ļ->List CN->Bool)->List CN->Bool
 | v i,r,cs=>r (0,Kc i) cs
 | k n,r,cs=>r (n,[]) cs
 | a x y,r,cs=>x.cn (λp=>y.cn λq=>r (p.add q)) cs
 | s x y,r,cs=>x.cn (λp=>y.cn λq=>Xu q p (r (p.add (q.mul (-1)))) (r (0,[]))) cs
 | m n x,r,cs=>x.cn (λp=>r (p.mul n)) cs
 | mi x y,r,cs=>x.cn (λp=>y.cn λq=>Xu p q (r p) (r q)) cs
 | ma x y,r,cs=>x.cn (λp=>y.cn λq=>Xu p q (r q) (r p)) cs
 | c x,r,cs=>x.cn r cs
 | g x,r,cs=>x.cn r cs
noncomputable def Đ.ci:Đ->(Ļ->List CN->Bool)->List CN->Bool
 | v i,r,cs=>r (0,0::Kc i) cs
 | k n,r,cs=>r (n,[]) cs
 | a x y,r,cs=>x.ci (λp=>y.ci λq=>r (p.add q)) cs
 | s x y,r,cs=>x.ci (λp=>y.ci λq=>r (p.add (q.mul (-1)))) cs
 | m n x,r,cs=>x.ci (λp=>r (p.mul n)) cs
 | mi x y,r,cs=>x.ci (λp=>y.ci λq=>Xu p q (r p) (r q)) cs
 | ma x y,r,cs=>x.ci (λp=>y.ci λq=>Xu p q (r q) (r p)) cs
 | c x,r,cs=>x.cn r cs
 | g x,r,cs=>x.ci (λp=>r (p.mul (-1))) cs
def E9(b:Nat)(r:List CN->Bool)(p q:Ļ)(cs:List CN):Bool:=
 match b with
 | 0=>r ((false,p.le q)::cs)
 | 1=>r ((false,p.lt q)::cs)
 | 2=>r ((true,p.le q)::cs)
 | _=>r ((false,p.lt q)::cs)&&r ((false,q.lt p)::cs)
noncomputable def FF.br:FF->Bool->(List CN->Bool)->List CN->Bool
 | le x y,true,r,cs=>x.cn (λp=>y.cn (E9 0 r p)) cs
 | le x y,false,r,cs=>x.cn (λp=>y.cn λq=>E9 1 r q p) cs
 | lt x y,true,r,cs=>x.cn (λp=>y.cn (E9 1 r p)) cs
 | lt x y,false,r,cs=>x.cn (λp=>y.cn λq=>E9 0 r q p) cs
 | eq x y,true,r,cs=>x.cn (λp=>y.cn (E9 2 r p)) cs
 | eq x y,false,r,cs=>x.cn (λp=>y.cn (E9 3 r p)) cs
 | il x y,true,r,cs=>x.ci (λp=>y.ci (E9 0 r p)) cs
 | il x y,false,r,cs=>x.ci (λp=>y.ci λq=>E9 1 r q p) cs
 | it x y,true,r,cs=>x.ci (λp=>y.ci (E9 1 r p)) cs
 | it x y,false,r,cs=>x.ci (λp=>y.ci λq=>E9 0 r q p) cs
 | ie x y,true,r,cs=>x.ci (λp=>y.ci (E9 2 r p)) cs
 | ie x y,false,r,cs=>x.ci (λp=>y.ci (E9 3 r p)) cs
 | an p q,true,r,cs=>p.br true (q.br true r) cs
 | an p q,false,r,cs=>p.br false r cs&&q.br false r cs
 | or p q,true,r,cs=>p.br true r cs&&q.br true r cs
 | or p q,false,r,cs=>p.br false (q.br false r) cs
 | im p q,true,r,cs=>p.br false r cs&&q.br true r cs
 | im p q,false,r,cs=>p.br true (q.br false r) cs
 | no p,b,r,cs=>p.br (!b) r cs
 | fa,true,_,_=>true
 | fa,false,r,cs=>r cs
noncomputable def FM:Ļ->Int
 | (_,[])=>0
 | (_,a::_)=>a
noncomputable def jY(p:Ļ):Ļ:=(p.1,p.2.tail)
def J8(m n:Int)(p q:Ļ):Ļ:=((jY p).mul m).add ((jY q).mul n)
def Uc(e:Ļ)(c:CN):CN:=(c.1,bif FM e<0 then J8 (- FM e) (FM c.2) c.2 e else J8 (FM e) (- FM c.2) c.2 e)
def eV(cs:List CN):List CN:=
 let ng:=cs.filter (FM ·.2<0)
 cs.filterMap (λp=>if FM p.2=0 then some (p.1,jY p.2)else none)++(cs.filter (0<FM ·.2)).flatMap λp=>ng.map λq=>(false,J8 (- FM q.2) (FM p.2) p.2 q.2)
def Sc(cs:List CN):List CN:=
 match cs.find? λc=>c.1&&FM c.2 != 0 with
 | some e=>cs.map (Uc e.2)
 | none=>eV cs
noncomputable def YL(p:Ļ):Bool:=p.2.all (· = 0)
def lB(p:CN):Bool:=YL p.2&&(p.2.1<0||(p.1&&0<p.2.1))
noncomputable def fm:Nat->Bool->List CN->Bool
 | 0,_,cs=>cs.any lB
 | f+1,b,cs=>cs.any lB||(let cs:=cs.filter (λp=>!YL p.2);if cs.isEmpty||150<cs.length then false else fm f (!b) (Sc (bif b then(false,(0,[1]))::cs else cs)))
def chk(n:Nat):Bool:=(rd n).br false (fm 40 true) []
section
variable{c:List Nat}{z:List Int}
noncomputable def ev(f:Nat->Int):List Int->Int
 | []=>0
 | a::l=>a*f 0+ev (λi=>f (i+1)) l
noncomputable def Zd(f g:Nat->Int)(i:Nat):Int:=aR2 (motive:=λ_=>(Nat->Int)->(Nat->Int)->Int) (λf _=>f 0) (λ_ r f g=>r g λj=>f (j+1)) i f g
noncomputable def env(c:List Nat)(z:List Int):Nat->Int:=Zd (λi=>(Dq 0 c i:Nat)) (Dq 0 z)
def Ļ.val(f:Nat->Int)(p:Ļ):Int:=p.1+ev f p.2
def tP(a b c d:Int):a+b+(c+d)=a+c+(b+d):=by rw[bI2,bI2,Int.add_left_comm b]
theorem SX :∀(f:Nat->Int) (l m:List Int),ev f (Qc l m)=ev f l+ev f m
 | f,[],m=>(aI1 _).symm
 | f,a::l,[]=>(aS5 _).symm
 | f,a::l,b::m=>by
  show(a+b)*f 0+ev _ (Qc l m)=(a*f 0+ev _ l)+(b*f 0+ev _ m)
  rw[SX,Int.add_mul];exact tP ..
theorem Rr(k:Int) :∀(f:Nat->Int) (l:List Int),ev f (Tc k l)=k*ev f l
 | f,[]=>(bJ4 k).symm
 | f,a::l=>by
  show(k*a)*f 0+ev _ (Tc k l)=k*(a*f 0+ev _ l)
  rw[Rr,bG4,bI3]
def Ep(f:Nat->Int)(p q:Ļ):(p.add q).val f=p.val f+q.val f:=by
 show p.1+q.1+ev f (Qc p.2 q.2)=_
 rw[SX];exact tP ..
def Dh(f:Nat->Int)(k:Int)(p:Ļ):(p.mul k).val f=k*p.val f:=by
 show k*p.1+ev f (Tc k p.2)=k*(p.1+_)
 rw[Rr,bG4]
def HW(f:Nat->Int)(p q:Ļ):(p.le q).val f=q.val f-p.val f:=by
 unfold Ļ.le;rw[Ep,Dh,bG5,bL0];rfl
def HF(f:Nat->Int)(p q:Ļ):(p.lt q).val f=q.val f-p.val f-1:=by
 rw[<-HW];exact Int.add_right_comm _ (-1) _
theorem JG :∀(i:Nat) (f g:Nat->Int),ev (Zd f g) (Kc i)=f i
 | 0,f,g=>by show 1*f 0+0=f 0;rw[bL0,aS5]
 | i+1,f,g=>by
  show 0*_+(0*_+ev (Zd (λj=>f (j+1)) λj=>g (j+1)) (Kc i))=_
  rw[JG i,aY1,aY1,aI1,aI1]
def CN.is(f:Nat->Int)(c:CN):Prop:=match c.1 with
 | true=>c.2.val f=0
 | false=>0<=c.2.val f
def Mx(f:Nat->Int)(cs:List CN):Prop:=∀p∈cs,p.is f
def Ok(f:Nat->Int)(r:List CN->Bool):Prop:=∀cs,Mx f cs->r cs=true->False
def t0(f:Nat->Int)(v:Int)(r:Ļ->List CN->Bool):Prop:=∀p,p.val f=v->Ok f (r p)
def Mx.cons{f:Nat->Int}{p:CN}{cs:List CN}(h:p.is f)(s:Mx f cs):Mx f (p::cs):=λq hq=>(aC4.mp hq).elim (λe=>e▸h) (s q)
def Mx.c0{f:Nat->Int}{p:Ļ}{cs:List CN}(s:Mx f cs)(h:0<=p.val f):Mx f ((false,p)::cs):=s.cons (p:=(false,p)) h
def Mx.c1{f:Nat->Int}{p:Ļ}{cs:List CN}(s:Mx f cs)(h:p.val f=0):Mx f ((true,p)::cs):=s.cons (p:=(true,p)) h
def Gz{f:Nat->Int}{p q:Ļ}{r1 ś}(h1:p.val f<=q.val f->Ok f r1)(h2:q.val f<p.val f->Ok f ś):Ok f (Xu p q r1 ś):=λcs s e=>by
 unfold Xu at e
 have g1:CN.is f (false,p.le q)->p.val f<=q.val f:=λ(g:0<=(p.le q).val f)=>by rw[HW]at g;omega
 have g2:CN.is f (false,q.lt p)->q.val f<p.val f:=λ(g:0<=(q.lt p).val f)=>by rw[HF]at g;omega
 cases c1:cs.contains (false,p.le q)with
 | true=>rw[c1]at e;exact h1 (g1 (s _ (List.contains_iff_mem.mp c1))) _ s e
 | false=>
  rw[c1]at e
  cases ĳ:cs.contains (false,q.lt p)with
  | true=>rw[ĳ]at e;exact h2 (g2 (s _ (List.contains_iff_mem.mp ĳ))) _ s e
  | false=>
   rw[ĳ]at e
   have e:=aI7 _ _▸e
   by_cases l:p.val f<=q.val f
   ·exact h1 l _ (s.c0 (by rw[HW];omega)) e.1
   ·exact h2 (by omega) _ (s.c0 (by rw[HF];omega)) e.2
def qZ(i:Nat):ev (env c z) (Kc i)=(Dq 0 c i:Nat):=JG i _ _
def oQ(i:Nat):ev (env c z) (0::Kc i)=Dq 0 z i:=by
 show 0*_+ev (Zd (Dq 0 z) λj=>(Dq 0 c (j+1):Nat)) (Kc i)=_
 rw[JG i,aY1,aI1]
theorem Cz :∀(x:Đ) {r},t0 (env c z) (x.dn c) r->Ok (env c z) (x.cn r)
 | .v i,r,h=>h _ (by show 0+ev _ _=_;rw[qZ];exact aI1 _)
 | .k n,r,h=>h _ (aS5 _)
 | .a x y,r,h=>Cz x λp hp=>Cz y λq hq=>h _ (by rw[Ep,hp,hq];rfl)
 | .m n x,r,h=>Cz x λp hp=>h _ (by rw[Dh,hp];rfl)
 | .c x,r,h=>Cz x h
 | .g x,r,h=>Cz x h
 | .s x y,r,h=>Cz x λp hp=>Cz y λq hq=>Gz (λl=>h _ (by rw[Ep,Dh,hp,hq];rw[hp,hq]at l;show _=((x.dn c-y.dn c:Nat):Int);omega)) λl=>h _ (by rw[hp,hq]at l;show(0:Int)+0=((x.dn c-y.dn c:Nat):Int);omega)
 | .mi x y,r,h=>Cz x λp hp=>Cz y λq hq=>Gz (λl=>h _ (by rw[hp,hq]at l;rw[hp];exact bO1 bH7 (aT2 (aJ7.mp l)).symm)) λl=>h _ (by rw[hp,hq]at l;rw[hq];exact bO1 bH7 (bE7 (aD8 (aC8.mp l))).symm)
 | .ma x y,r,h=>Cz x λp hp=>Cz y λq hq=>Gz (λl=>h _ (by rw[hp,hq]at l;rw[hq];exact bO1 bH7 (Nat.max_eq_right (aJ7.mp l)).symm)) λl=>h _ (by rw[hp,hq]at l;rw[hp];exact bO1 bH7 (Nat.max_eq_left (aD8 (aC8.mp l))).symm)
theorem Dc :∀(x:Đ) {r},t0 (env c z) (x.di c z) r->Ok (env c z) (x.ci r)
 | .v i,r,h=>h _ (by show 0+ev _ _=_;rw[oQ];exact aI1 _)
 | .k n,r,h=>h _ (aS5 _)
 | .a x y,r,h=>Dc x λp hp=>Dc y λq hq=>h _ (by rw[Ep,hp,hq])
 | .m n x,r,h=>Dc x λp hp=>h _ (by rw[Dh,hp])
 | .c x,r,h=>Cz x h
 | .g x,r,h=>Dc x λp hp=>h _ (by rw[Dh,hp];show -1*x.di c z = - x.di c z;omega)
 | .s x y,r,h=>Dc x λp hp=>Dc y λq hq=>h _ (by rw[Ep,Dh,hp,hq];show _=x.di c z-y.di c z;omega)
 | .mi x y,r,h=>Dc x λp hp=>Dc y λq hq=>Gz (λl=>h _ (by rw[hp,hq]at l;rw[hp];exact(Int.min_eq_left l).symm)) λl=>h _ (by rw[hp,hq]at l;rw[hq];exact(Int.min_eq_right (bJ5 l)).symm)
 | .ma x y,r,h=>Dc x λp hp=>Dc y λq hq=>Gz (λl=>h _ (by rw[hp,hq]at l;rw[hq];exact(bE8 l).symm)) λl=>h _ (by rw[hp,hq]at l;rw[hp];exact(bG0 (bJ5 l)).symm)
def Q6(b:Nat)(v w:Int):Prop:=match b with
 | 0=>v<=w
 | 1=>v<w
 | 2=>v=w
 | _=>v≠w
def Gq{f:Nat->Int}{r}(h:Ok f r){p q:Ļ} :∀{b:Nat},Q6 b (p.val f) (q.val f)->Ok f (E9 b r p q)
 | 0,e=>λcs s=>h _ (s.c0 (by rw[HW];exact Int.sub_nonneg_of_le e))
 | 1,e=>λcs s=>h _ (s.c0 (by rw[HF];have e:p.val f<q.val f:=e;omega))
 | 2,e=>λcs s=>h _ (s.c1 (by rw[HW];have e:p.val f=q.val f:=e;omega))
 | b+3,e=>λcs s y=>by
  have e:p.val f≠q.val f:=e
  have y:=aI7 _ _▸y
  rcases Int.lt_or_gt_of_ne e with l | l
  ·exact h _ (s.c0 (by rw[HF];omega)) y.1
  ·exact h _ (s.c0 (by rw[HF];omega)) y.2
def Fv{r}(h:Ok (env c z) r)(x y:Đ){b:Nat}(e:Q6 b (x.dn c) (y.dn c)):Ok (env c z) (x.cn λp=>y.cn (E9 b r p)):=
 Cz x λ_ hp=>Cz y λ_ hq=>Gq h (by rw[hp,hq];exact e)
def K3{r}(h:Ok (env c z) r)(x y:Đ){b:Nat}(e:Q6 b (y.dn c) (x.dn c)):Ok (env c z) (x.cn λp=>y.cn λq=>E9 b r q p):=
 Cz x λ_ hp=>Cz y λ_ hq=>Gq h (by rw[hp,hq];exact e)
def Fc{r}(h:Ok (env c z) r)(x y:Đ){b:Nat}(e:Q6 b (x.di c z) (y.di c z)):Ok (env c z) (x.ci λp=>y.ci (E9 b r p)):=
 Dc x λ_ hp=>Dc y λ_ hq=>Gq h (by rw[hp,hq];exact e)
def Km{r}(h:Ok (env c z) r)(x y:Đ){b:Nat}(e:Q6 b (y.di c z) (x.di c z)):Ok (env c z) (x.ci λp=>y.ci λq=>E9 b r q p):=
 Dc x λ_ hp=>Dc y λ_ hq=>Gq h (by rw[hp,hq];exact e)
def Ê(b:Bool)(P:Prop):Prop:=match b with
 | true=>P
 | false=>¬ P
theorem DR :∀(p:FF) {b:Bool} {r},Ok (env c z) r->Ê b (p.dn c z)->Ok (env c z) (p.br b r)
 | .le x y,true,r,h,e=>Fv h x y (b:=0) (aJ7.mpr e)
 | .le x y,false,r,h,e=>K3 h x y (b:=1) (aC8.mpr (Nat.lt_of_not_le e))
 | .lt x y,true,r,h,e=>Fv h x y (b:=1) (aC8.mpr e)
 | .lt x y,false,r,h,e=>K3 h x y (b:=0) (aJ7.mpr (aZ8 e))
 | .eq x y,true,r,h,e=>Fv h x y (b:=2) (bO1 bH7 e)
 | .eq x y,false,r,h,e=>Fv h x y (b:=3) λq=>e (bE0 q)
 | .il x y,true,r,h,e=>Fc h x y (b:=0) e
 | .il x y,false,r,h,e=>Km h x y (b:=1) (Int.lt_of_not_ge e)
 | .it x y,true,r,h,e=>Fc h x y (b:=1) e
 | .it x y,false,r,h,e=>Km h x y (b:=0) (Int.le_of_not_gt e)
 | .ie x y,true,r,h,e=>Fc h x y (b:=2) e
 | .ie x y,false,r,h,e=>Fc h x y (b:=3) e
 | .an p q,true,r,h,e=>DR p (b:=true) (DR q (b:=true) h e.2) e.1
 | .an p q,false,r,h,e=>λcs s y=>by
  have y:=aI7 _ _▸y
  exact e ⟨aE7 λn=>DR p (b:=false) h n cs s y.1,aE7 λn=>DR q (b:=false) h n cs s y.2⟩
 | .or p q,true,r,h,e=>λcs s y=>by
  have y:=aI7 _ _▸y
  exact Or.elim e (λn=>DR p (b:=true) h n cs s y.1) λn=>DR q (b:=true) h n cs s y.2
 | .or p q,false,r,h,e=>DR p (b:=false) (DR q (b:=false) h λn=>e (.inr n)) λn=>e (.inl n)
 | .im p q,true,r,h,e=>λcs s y=>by
  have y:=aI7 _ _▸y
  exact DR p (b:=false) h (λn=>DR q (b:=true) h (e n) cs s y.2) cs s y.1
 | .im p q,false,r,h,e=>DR p (b:=true) (DR q (b:=false) h λn=>e λ_=>n) (aE7 λn=>e λm=>bO4 m n)
 | .no p,true,r,h,e=>DR p (b:=false) h e
 | .no p,false,r,h,e=>DR p (b:=true) h (Classical.not_not.mp e)
 | .fa,true,r,h,e=>e.elim
 | .fa,false,r,h,e=>h
theorem Pi :∀(f:Nat->Int) (l:List Int),l.all (· = 0)=true->ev f l=0
 | f,[],_=>rfl
 | f,a::l,h=>by
  have h:=aI7 _ _▸h
  have e:a=0:=bO7 h.1
  show a*f 0+ev _ l=0
  rw[e,Pi _ l h.2,aY1];rfl
def RX{f:Nat->Int}{cs:List CN}(s:Mx f cs)(h:cs.any lB=true):False:=by
 obtain⟨⟨b,p⟩,hp,e⟩:=bE9.mp h
 have e:=aI7 _ _▸e
 have v:p.val f=p.1:=by unfold Ļ.val;rw[Pi f _ e.1];exact aS5 _
 rcases(Bool.or_eq_true _ _).mp e.2 with l | l
 ·have l:p.1<0:=bO7 l
  cases b
  ·have:=s _ hp;have:0<=p.val f:=this;omega
  ·have:=s _ hp;have:p.val f=0:=this;omega
 ·have l:=aI7 _ _▸l
  have l2:0<p.1:=bO7 l.2
  cases b
  ·exact nomatch l.1
  ·have:=s _ hp;have:p.val f=0:=this;omega
def LD(f:Nat->Int) :∀(p:Ļ),p.val f=FM p*f 0+(jY p).val λi=>f (i+1)
 | (k,[])=>by show k+0=0*f 0+(k+0);omega
 | (k,a::l)=>by show k+(a*f 0+ev _ l)=a*f 0+(k+ev _ l);omega
def Kw(f:Nat->Int)(m n:Int)(p q:Ļ)(h:m*FM p+n*FM q=0):(J8 m n p q).val (λi=>f (i+1))=m*p.val f+n*q.val f:=by
 have e:m*(FM p*f 0)+n*(FM q*f 0)=0:=by rw[<-bI3,<-bI3,<-Int.add_mul,h,aY1]
 unfold J8
 rw[Ep,Dh,Dh,LD f p,LD f q,bG4,bG4]
 omega
def YZ{f:Nat->Int}{e:Ļ}(he:e.val f=0)(h0:FM e≠0){c:CN}(hc:c.is f):(Uc e c).is λi=>f (i+1):=by
 obtain⟨b,p⟩:=c
 have k :∃m n,0<=m/\m*FM p+n*FM e=0/\Uc e (b,p)=(b,J8 m n p e):=by
  unfold Uc
  by_cases l:FM e<0
  ·exact⟨- FM e,FM p,by omega,by rw[bG5,bJ6 (FM p)];omega,by rw[bO5 l];rfl⟩
  ·exact⟨FM e,- FM p,by omega,by rw[bG5,bJ6 (FM p)];omega,by rw[bO6 l];rfl⟩
 obtain⟨m,n,hm,h,e1⟩:=k
 rw[e1]
 have v:=Kw f m n p e h
 rw[he,bJ4,aS5]at v
 cases b
 ·show 0<=(J8 m n p e).val _
  exact v▸bG6 hm hc
 ·show(J8 m n p e).val _=0
  have hc:p.val f=0:=hc
  rw[v,hc,bJ4]
def CN.nn{f:Nat->Int} :∀{c:CN},c.is f->0<=c.2.val f
 | (true,_),h=>Int.le_of_eq (Eq.symm h)
 | (false,_),h=>h
def T4{f:Nat->Int}{cs:List CN}(s:Mx f cs):Mx (λi=>f (i+1)) (Sc cs):=λp hp=>by
 unfold Sc at hp
 cases fe:cs.find? λc=>c.1&&FM c.2 != 0 with
 | some e=>
  rw[fe]at hp
  obtain⟨q,hq,rfl⟩:=aI5.mp hp
  have k:=aI7 _ _▸List.find?_some fe
  have he:=s e (List.mem_of_find?_eq_some fe)
  obtain⟨b,e⟩:=e
  have k1:b=true:=k.1
  subst k1
  exact YZ he (bne_iff_ne.mp k.2) (s q hq)
 | none=>
  rw[fe]at hp
  rcases aB0.mp hp with hp | hp
  ·obtain⟨⟨b,q⟩,hq,e⟩:=List.mem_filterMap.mp hp
   split at e
   ·rename_i h0
    have:=s _ hq
    have v:=LD f q
    rw[show FM q=0 from h0,aY1,aI1]at v
    have e:=aA2 e
    subst e
    cases b
    ·have t:0<=q.val f:=this
     rw[v]at t
     exact t
    ·have t:q.val f=0:=this
     rw[v]at t
     exact t
   ·cases e
  ·obtain⟨q,hq,e⟩:=List.mem_flatMap.mp hp
   obtain⟨r,hr,rfl⟩:=aI5.mp e
   have hr:=aP8.mp hr
   have hq:=aP8.mp hq
   have Ĳ:FM r.2<0:=bO7 hr.2
   have q0:0<FM q.2:=bO7 hq.2
   show 0<=Ļ.val _ (J8 _ _ _ _)
   rw[Kw f _ _ _ _ (by rw[bG5,bJ6 (FM q.2)];omega)]
   exact Int.add_nonneg (bG6 (by omega) (CN.nn (s q hq.1))) (bG6 (by omega) (CN.nn (s r hr.1)))
noncomputable def lU(b:Bool)(i:Nat):Bool:=aR2 (motive:=λ_=>Bool->Bool) (λb=>b) (λ_ r b=>r (!b)) i b
theorem LR :∀(i:Nat) (f g:Nat->Int),(∀j,0<=f j)->(lU true i=true->0<=Zd f g i)/\(lU false i=true->0<=Zd g f i)
 | 0,f,g,h=>⟨λ_=>h 0,λe=>(nomatch e)⟩
 | i+1,f,g,h=>⟨(LR i (λj=>f (j+1)) g λj=>h (j+1)).2,(LR i f (λj=>g (j+1)) h).1⟩
theorem Vf :∀(n:Nat) (b:Bool) (f:Nat->Int),(∀i,lU b i=true->0<=f i)->Ok f (fm n b)
 | 0,b,f,h,cs,s,e=>RX s e
 | n+1,b,f,h,cs,s,e=>by
  rcases(Bool.or_eq_true _ _).mp e with e | e
  ·exact RX s e
  ·have s':Mx f (cs.filter (λp=>!YL p.2)):=λp hp=>s p (aP8.mp hp).1
   dsimp only at e
   split at e
   ·cases e
   ·refine Vf n (!b) (λi=>f (i+1)) (λi hi=>h (i+1) hi) _ (T4 ?_) e
    cases b
    ·exact s'
    ·exact s'.c0 (by show 0<=0+(1*f 0+0);rw[aI1,bL0,aS5];exact h 0 rfl)
def Q(c:List Nat)(z:List Int)(n:Nat)(ok:chk n=true):(rd n).dn c z:=
 aE7 λh=>DR (c:=c) (z:=z) (rd n) (b:=false) (Vf 40 true _ λi hi=>(LR i _ _ λ_=>aH4 _).1 hi) h [] (λp hp=>nomatch hp) ok
end
end Lq
namespace Mine
def ĸ(c:List Nat)(z:List Int)(n:Nat)(ok:Lq.chk n=true):(Lq.rd n).dn c z:=Lq.Q c z n ok
def ql(c:List Nat)(n:Nat)(ok:Lq.chk n=true):(Lq.rd n).dn c []:=Lq.Q c [] n ok
end Mine
local macro_rules
 | `(tactic| exists[$a,*],[$b,*],$n,$h,*)=>`(tactic| exact Mine.ĸ [$a,*] [$b,*] $n (by rfl') $h*)
local macro_rules
 | `(tactic| exists[$a,*],$n:num,$h,*)=>`(tactic| exact Mine.ql [$a,*] $n (by rfl') $h*)
local macro_rules
 | `(tactic| exists[$a,*],$n:num)=>`(tactic| exact Mine.ql [$a,*] $n (by rfl'))
local macro_rules
 | `(tactic| exists $k:num,$n:num,$h,*)=>do
  let u<-`(_)
  let a:=Array.replicate k.getNat u
  `(tactic| exact Mine.ql [$a,*] $n (by rfl') $h*)
local macro_rules
 | `(tactic| exists $k:num,$n:num)=>do
  let u<-`(_)
  let a:=Array.replicate k.getNat u
  `(tactic| exact Mine.ql [$a,*] $n (by rfl'))
section
open PySem PySem.W PyProof.Rows PySem.Spec PySem.Calls
namespace Mine
set_option genInjectivity true in
inductive AD where
 | int (i:Int)
 | str (s:Str)
deriving DecidableEq
inductive SK where
 | tup | lst | mat
deriving DecidableEq
inductive Ų where
 | len | range | set | enumerate | sum | append | pop | sort | get | setdefault | has | tnew | tuple | list | map | extend | divmod | min | sorted | index | max | chr | join
noncomputable def Ų.val(b:Ų):Value:=match b with
 | .len=>.builtin "len"
 | .range=>.type "range"
 | .set=>.type "set"
 | .enumerate=>.type "enumerate"
 | .sum=>.builtin "sum"
 | .append=>.builtin "list.append"
 | .pop=>.builtin "list.pop"
 | .sort=>.builtin "list.sort"
 | .get=>.builtin "dict.get"
 | .setdefault=>.builtin "dict.setdefault"
 | .has=>.builtin "set.__contains__"
 | .tnew=>.builtin "tuple.__new__"
 | .tuple=>.type "tuple"
 | .list=>.type "list"
 | .map=>.type "map"
 | .extend=>.builtin "list.extend"
 | .divmod=>.builtin "divmod"
 | .min=>.builtin "min"
 | .sorted=>.builtin "sorted"
 | .index=>.builtin "list.index"
 | .max=>.builtin "max"
 | .chr=>.builtin "chr"
 | .join=>.builtin "str.join"
inductive AV where
 | none
 | bool (b:Bool)
 | key (k:AD)
 | seq (k:SK) (vs:List AV)
 | ref (x:Nat)
 | fn (b:Ų)
 | glo (a:aC3)
 | bm (f:Ų) (x:AV)
 | dct (es:List (AD×AV))
 | fset (xs:List AD)
 | txt (s:Str)
noncomputable abbrev AV.int(i:Int):AV:=.key (.int i)
noncomputable abbrev AV.str(s:Str):AV:=.key (.str s)
noncomputable abbrev AV.tup(vs:List AV):AV:=.seq .tup vs
noncomputable abbrev AV.lst(vs:List AV):AV:=.seq .lst vs
noncomputable abbrev AV.mat(vs:List AV):AV:=.seq .mat vs
inductive Ÿ where
 | list (vs:List AV)
 | dict (es:List (AD×AV))
 | set (xs:List AD)
 | inst (C:aC3) (attrs:List (Str×AV))
structure St where
 ρ:List (Str×AV)
 H:List (Nat×Ÿ)
 n:Nat
 anc:Nat
inductive A3 where
 | loc
 | lock
 | cell (x:Str)
 | obj (x:Nat)
 | dict (x:Nat)
structure ļ where
 tag:aC3->Option A3
 μ:Nat->aC3
 δ:Nat->aC3
 τ:Tok->Option Str
noncomputable def ļ.tau(G:ļ)(τ:Tok->Option Str):ļ:=⟨G.tag,G.μ,G.δ,τ⟩
def Vr(τ:Tok->Option Str):Prop:=τ 404=some ⟨#[]⟩/\τ 405=some ⟨#[]⟩
theorem Vr.up{τ τ':Tok->Option Str}(up :∀t s,τ t=some s->τ' t=some s)(h:Vr τ):Vr τ':=⟨up _ _ h.1,up _ _ h.2⟩
def ļ.own(G:ļ)(a:aC3):Prop:=G.tag a≠none
def ļ.mt(G:ļ)(a:aC3):Prop:=∃p,G.tag a=some p/\p≠.lock
def Ag{G:ļ}{a:aC3}{p:A3}(h:G.tag a=some p):G.own a:=λz=>Option.noConfusion rfl (heq_of_eq (h.symm.trans z))
def ļ.mt_own{G:ļ}{a:aC3}(h:G.mt a):G.own a:=h.elim λ_ e=>Ag e.1
noncomputable def BW:AD->Value->Bool
 | .int i,.int j _=>i==j
 | .str s,.str t _=>s==t
 | _,_=>false
noncomputable def Aw(vs:List Value)(n:Nat):Obj:={cls:=.type "tuple",data:=.seq vs.toArray n}
noncomputable def Ao(vs:List Value)(n:Nat):Obj:={cls:=.type "list",data:=.seq vs.toArray n}
noncomputable def B4(C:aC3)(vs:List Value)(e:Nat×Option aC3):Obj:={cls:=.ref C,dict:=e.2,data:=.seq vs.toArray e.1}
noncomputable def DD(f v:Value):Obj:={cls:=.type "builtin_function_or_method",data:=.fields #[f,v]}
def BP{i:Int}{v:Value}(h:BW (.int i) v=true) :∃t,v = .int i t:=by
 cases v with
 | int j t=>exact⟨t,bO1 (Value.int · t) (aE6 h).symm⟩
 | _=>cases h
def BR{i:Str}{v:Value}(h:BW (.str i) v=true) :∃t,v = .str i t:=by
 cases v with
 | str j t=>exact⟨t,bO1 (bK7 · t) (aE6 h).symm⟩
 | _=>cases h
def E8{a b:AD}{v:Value}(ha:BW a v=true)(hb:BW b v=true):a=b:=by
 cases a with
 | int i=>obtain⟨t,rfl⟩:=BP ha;cases b with
  | int j=>exact bO1 AD.int (aE6 hb).symm
  | str=>cases hb
 | str i=>obtain⟨t,rfl⟩:=BR ha;cases b with
  | int=>cases hb
  | str j=>exact bO1 AD.str (aE6 hb).symm
noncomputable def keyHash(w:aC7):AD->Int
 | .int i=>hashInt i
 | .str s=>hashStr w s
def UM(i j:Int):(i==j)=decide (AD.int i=AD.int j):=(bP0 (p:=i=j)).mpr ⟨bO1 AD.int,AD.int.inj⟩
def T7(i j:Str):(i==j)=decide (AD.str i=AD.str j):=bG1.mpr (beq_iff_eq.trans (Iff.trans ⟨bO1 AD.str,AD.str.inj⟩ decide_eq_true_iff.symm))
def MO(prog:aH0)(w:aC7){A E s}{a b:AD}{u v:Value}{Q:Bool->aA8->Prop}(hu:BW a u=true)(hv:BW b v=true)(h:Q (decide (a=b)) s):aD7 (aE5 prog w) A (eqBool u v) Q E s:=by
 cases a with
 | int i=>
  obtain⟨t,rfl⟩:=BP hu
  cases b with
  | int j=>
   obtain⟨t',rfl⟩:=BP hv
   exact(intKind prog w).eqBool (bL9 prog w i t) (bL9 prog w j t') ((decide_eq_decide.mpr ⟨bO1 AD.int,AD.int.inj⟩:decide (i=j)=decide (AD.int i=AD.int j))▸h)
  | str j=>
   obtain⟨t',rfl⟩:=BR hv
   exact aY0.int_str i t j t' _ _ _ _ h
 | str i=>
  obtain⟨t,rfl⟩:=BR hu
  cases b with
  | int j=>
   obtain⟨t',rfl⟩:=BP hv
   exact aY0.str_int i t j t' _ _ _ _ h
  | str j=>
   obtain⟨t',rfl⟩:=BR hv
   exact(PySem.strKind prog w).eqBool (bM0 prog w i t) (bM0 prog w j t') ((decide_eq_decide.mpr ⟨bO1 AD.str,AD.str.inj⟩:decide (i=j)=decide (AD.str i=AD.str j))▸h)
def CH(prog:aH0)(w:aC7):PySem.KeyKind prog w AD where
 is:=BW
 hash:=keyHash w
 inj:=λv a b ha hb=>E8 ha hb
 byValue:=λk v h=>by
  cases k with
  | int i=>obtain⟨t,rfl⟩:=BP h;rfl
  | str i=>obtain⟨t,rfl⟩:=BR h;rfl
 pyHash:=λ{A E s k v Q} hv h=>by
  cases k with
  | int i=>obtain⟨t,rfl⟩:=BP hv;exact(intKind prog w).pyHash (bL9 prog w i t) h
  | str i=>obtain⟨t,rfl⟩:=BR hv;exact(PySem.strKind prog w).pyHash (bM0 prog w i t) h
 eqBool:=λhu hv h=>MO prog w hu hv h
 «strs»:=λk x t v h=>by
  cases k with
  | int i=>cases h
  | str i=>
   obtain rfl:i=x:=aE6 h
   cases v with
   | str j u=>exact Bool.beq_comm
   | _=>rfl
structure Ci where
 prog:aH0
 w:aC7
 C:aC3
section
variable(L:Ci)(h:aE8)(a:aC3)
def SK.cls(k:SK):Value:=SK.rec (.type "tuple") (.type "list") (.ref L.C) k
def SK.dict(k:SK)(d:Option aC3):Option aC3:=SK.rec none none d k
def W3(k:SK)(vs:List Value)(e:Nat×Option aC3):Obj:={cls:=k.cls L,dict:=k.dict e.2,data:=.seq vs.toArray e.1}
def Ci.sq(k:SK)(vs:List Value):Prop:=∃e,h.get? a=some (W3 L k vs e)
def Ci.dct(kvs:List (AD×Value)):Prop:=h.DictOf (CH L.prog L.w) a kvs/\(a==sysModules)=false
def Ci.set(ks:List AD):Prop:=h.SetOf (CH L.prog L.w) a (λk=>decide (k∈ks)) ks.length/\ks.Nodup
end
structure Ld(P:aE8->aC3->Prop):Prop where
 inn :∀{h a},P h a->∃o,h.get? a=some o
 keep :∀{h h':aE8} {a},(∀o,h.get? a=some o->h'.get? a=some o)->P h a->P h' a
def Ld.at(f:aC3->Obj->Prop):Ld λh a=>∃o,h.get? a=some o/\f a o:=⟨λq=>q.imp λ_ e=>e.1,λk q=>q.imp λ_ e=>⟨k _ e.1,e.2⟩⟩
section
variable{L:Ci}
def Ma(k:SK)(vs:List Value):Ld λh a=>L.sq h a k vs:=⟨λq=>q.elim λ_ e=>⟨_,e⟩,λk q=>q.imp λ_ e=>k _ e⟩
def Hp(vs:List (AD×Value)):Ld λh a=>L.dct h a vs:=⟨λq=>q.1.imp λ_ x=>x.elim λ_ x=>x.elim λ_ x=>x.1,λk q=>⟨q.1.at k,q.2⟩⟩
def K2(ks:List AD):Ld λh a=>L.set h a ks:=⟨λq=>q.1.objOf.imp λ_ x=>x.1,λk q=>⟨q.1.imp λ_ x=>x.imp λ_ x=>x.imp λ_ x=>x.imp λ_ x=>⟨k _ x.1,x.2⟩,q.2⟩⟩
def UV(f v:Value):Ld λh a=>h.get? a=some (DD f v):=⟨λe=>⟨_,e⟩,λk e=>k _ e⟩
end
inductive FZ{β:Type}(P:aC3->β->Prop)(G:ļ)(R:β->Prop)(v:Value):Prop
 | mk (a:aC3) (b:β) (hv:v = .ref a) (hp:P a b) (ho:¬ G.own a) (hr:R b)
structure Ca(G:ļ)(h:aE8)(G':ļ)(h':aE8):Prop where
 at_ :∀a o,h.get? a=some o->¬ G.own a->h'.get? a=some o/\¬ G'.own a
 tok :∀t s,G.τ t=some s->G'.τ t=some s
def FZ.imp{β:Type}{P:β->aE8->aC3->Prop}{G G':ļ}{h h':aE8}{R R':β->Prop}{v:Value}(t :∀b,Ld (P b))(k:Ca G h G' h')(r :∀b,R b->R' b)(q:FZ (λa b=>P b h a) G R v):FZ (λa b=>P b h' a) G' R' v:=
 q.casesOn λa b hv hp ho hr=>⟨a,b,hv,(t b).keep (λo e=>(k.at_ a o e ho).1) hp,((t b).inn hp).elim λo e=>(k.at_ a o e ho).2,r b hr⟩
section
variable(L:Ci)(G:ļ)(h:aE8)(n:Nat)
mutual
def Ab:AV->Value->Prop
 | .none,v=>v = .none
 | .bool b,v=>v = .bool b
 | .key k,v=>BW k v=true
 | .seq k avs,v=>FZ (λa us=>L.sq h a k us) G (AX avs) v
 | .ref x,v=>v = .ref (G.μ x)/\x<n
 | .fn b,v=>v=b.val
 | .glo a,v=>v = .ref a
 | .bm f x,v=>FZ (λa u=>h.get? a=some (DD f.val u)) G (Ab x) v
 | .dct es,v=>FZ (L.dct h) G (Am es) v
 | .fset ks,v=>FZ (λa (_:Unit)=>L.set h a ks) G (λ_=>True) v
 | .txt s,v=>∃t,v = .str s t/\t≠0/\G.τ t=some s
def AX:List AV->List Value->Prop
 | [],vs=>vs=[]
 | a::as,vs=>∃v r,vs=v::r/\Ab a v/\AX as r
def Am:List (AD×AV)->List (AD×Value)->Prop
 | [],vs=>vs=[]
 | a::as,vs=>∃v r,vs=(a.1,v)::r/\Va a v/\Am as r
def Va:AD×AV->Value->Prop
 | (_,a),v=>Ab a v
end
end
section
variable(g:Nat->Option AV)
mutual
noncomputable def AV.sub:AV->Option AV
 | .ref x=>g x
 | .seq k vs=>(AC vs).map (.seq k)
 | .bm f x=>x.sub.map (.bm f)
 | .dct es=>(AW es).map .dct
 | v=>some v
noncomputable def AC:List AV->Option (List AV)
 | []=>some []
 | a::r=>a.sub.bind λa'=>(AC r).map (a' :: ·)
noncomputable def AW:List (AD×AV)->Option (List (AD×AV))
 | []=>some []
 | a::r=>(El a).bind λa'=>(AW r).map ((a.1,a') :: ·)
noncomputable def El:AD×AV->Option AV
 | (_,a)=>a.sub
end
end
noncomputable def AJ(g:Nat->Option AV):List (Str×AV)->Option (List (Str×AV))
 | []=>some []
 | a::r=>(a.2.sub g).bind λa'=>(AJ g r).map ((a.1,a') :: ·)
def Ÿ.sub(g:Nat->Option AV):Ÿ->Option Ÿ
 | .list vs=>(AC g vs).map .list
 | .dict es=>(AW g es).map .dict
 | .inst C at_=>(AJ g at_).map (.inst C)
 | o=>some o
def AH{α β:Type}{f:α->β}{o:Option α}{b:β}(h:o.map f=some b) :∃a,o=some a/\f a=b:=by
 cases o with
 | none=>cases h
 | some a=>exact⟨a,rfl,aA2 h⟩
def AG{α β:Type}{f:α->Option β}{o:Option α}{b:β}(h:o.bind f=some b) :∃a,o=some a/\f a=some b:=by
 cases o with
 | none=>cases h
 | some a=>exact⟨a,rfl,h⟩
def DX{α β:Type}{f:α->β}{P:β->Prop}{o:Option α}{b:β}(h:o.map f=some b)(k :∀a,o=some a->P (f a)):P b:=by
 obtain⟨a,e,rfl⟩:=AH h
 exact k a e
def JE{α β γ:Type}{f:α->β}{P:β->γ->Prop}{o:Option α}{b:β}{c:γ}(h:o.map f=some b)(k :∀a,o=some a->P (f a) c):P b c:=DX (P:=(P · c)) h k
def Fn{β γ:Type}{f:β->γ}{o:Option β}{l:Option (List γ)}{b:List γ}{δ:Type}{P:List γ->δ->Prop}{c:δ}(h:(o.bind λa=>l.map (f a :: ·))=some b)(k :∀a r,o=some a->l=some r->P (f a::r) c):P b c:=by
 obtain⟨a,e,h⟩:=AG h
 obtain⟨r,e',rfl⟩:=AH h
 exact k a r e e'
section
variable{L:Ci}{G G':ļ}{h h':aE8}{n n':Nat}{g:Nat->Option AV}(k:Ca G h G' h')(hg :∀x w,g x=some w->x<n->Ab L G' h' n' w (.ref (G.μ x)))
include k hg
theorem Ab.sub(av:AV) :∀av' v,av.sub g=some av'->Ab L G h n av v->Ab L G' h' n' av' v:=by
 refine AV.rec (motive_1:=λav=>∀av' v,av.sub g=some av'->Ab L G h n av v->Ab L G' h' n' av' v) (motive_2:=λas=>∀as' vs,AC g as=some as'->AX L G h n as vs->AX L G' h' n' as' vs)
  (motive_3:=λas=>∀as' vs,AW g as=some as'->Am L G h n as vs->Am L G' h' n' as' vs) (motive_4:=λp=>∀a' v,El g p=some a'->Va L G h n p v->Ab L G' h' n' a' v)
  (λ_ _ e=>aA2 e▸id) (λ_ _ _ e=>aA2 e▸id) (λ_ _ _ e=>aA2 e▸id) (λkd vs ih av' v e q=>JE e λas e=>FZ.imp (Ma kd) k (λb=>ih as b e) q) (λx av' v e q=>?_) (λ_ _ _ e=>aA2 e▸id) (λ_ _ _ e=>aA2 e▸id) (λf x ih av' v e q=>JE e λas e=>FZ.imp (UV f.val) k (λb=>ih as b e) q)
  (λvs ih av' v e q=>JE e λas e=>FZ.imp Hp k (λb=>ih as b e) q) (λks av' v e q=>aA2 e▸FZ.imp (λ_=>K2 ks) k (λ_=>id) q)
  (λs av' v e q=>aA2 e▸(show∃t,v = .str s t/\t≠0/\G'.τ t=some s from q.imp λt q=>⟨q.1,q.2.1,k.tok t s q.2.2⟩))
  (λ_ _ e=>aA2 e▸id) (λa r i1 i2 as' vs e q=>?_) (λ_ _ e=>aA2 e▸id) (λa r i1 i2 as' vs e q=>?_) (λkey a ih=>ih) av
 ·have q:v = .ref (G.μ x)/\x<n:=q
  rw[q.1]
  exact hg x av' e q.2
 ·exact Fn e λa' r' e1 e2=>q.imp λv q=>q.imp λu q=>⟨q.1,i1 a' v e1 q.2.1,i2 r' u e2 q.2.2⟩
 ·exact Fn e λa' r' e1 e2=>q.imp λv q=>q.imp λu q=>⟨q.1,i1 a' v e1 q.2.1,i2 r' u e2 q.2.2⟩
theorem AX.sub{as as':List AV}{vs:List Value}(e:AC g as=some as')(q:AX L G h n as vs):AX L G' h' n' as' vs:=
 aB7 (motive:=λas=>∀as' vs,AC g as=some as'->AX L G h n as vs->AX L G' h' n' as' vs) (λ_ _ e=>aA2 e▸id)
  (λa r ih as' vs e q=>Fn e λa' r' e1 e2=>q.imp λv q=>q.imp λu q=>⟨q.1,Ab.sub k hg a a' v e1 q.2.1,ih r' u e2 q.2.2⟩) as as' vs e q
theorem Am.sub{as as':List (AD×AV)}{vs:List (AD×Value)}(e:AW g as=some as')(q:Am L G h n as vs):Am L G' h' n' as' vs:=
 aB7 (motive:=λas=>∀as' vs,AW g as=some as'->Am L G h n as vs->Am L G' h' n' as' vs) (λ_ _ e=>aA2 e▸id)
  (λa r ih as' vs e q=>by obtain⟨key,a⟩:=a;exact Fn e λa' r' e1 e2=>q.imp λv q=>q.imp λu q=>⟨q.1,Ab.sub k hg a a' v e1 q.2.1,ih r' u e2 q.2.2⟩) as as' vs e q
end
section
variable(L:Ci)(G:ļ)(h:aE8)(n:Nat)
def AR:List (Str×AV)->List aM7->Prop
 | [],l=>l=[]
 | a::r,l=>∃hsh t v l',l=⟨hsh,.str a.1 t,v⟩::l'/\Ab L G h n a.2 v/\AR r l'
inductive LK{β:Type}(P R:β->Prop):Prop
 | mk (b:β) (hp:P b) (hr:R b)
inductive bY(x:Nat)(C:aC3)(R:List aM7->Prop):Prop
 | mk (es:List aM7) (e:Nat) (h1:h.get? (G.μ x)=some (instObj C (G.δ x))) (h2:h.get? (G.δ x)=some (dictOf es e)) (hr:R es) (ht:G.tag (G.δ x)=some (.dict x))
def D5(x:Nat):Ÿ->Prop
 | .list avs=>LK (λus=>L.sq h (G.μ x) .lst us) (AX L G h n avs)
 | .dict es=>LK (L.dct h (G.μ x)) (Am L G h n es)
 | .set ks=>L.set h (G.μ x) ks
 | .inst C attrs=>bY G h x C (AR L G h n attrs)
end
noncomputable def Ÿ.two:Ÿ->Bool
 | .inst ..=>true
 | _=>false
def LK.imp{β:Type}{P P' R R':β->Prop}(k :∀b,P b->P' b)(r :∀b,R b->R' b)(q:LK P R):LK P' R':=q.casesOn λb hp hr=>⟨b,k b hp,r b hr⟩
section
variable{L:Ci}{G G':ļ}{h h':aE8}{n n':Nat}{g:Nat->Option AV}
theorem AR.sub(k:Ca G h G' h')(hg :∀x w,g x=some w->x<n->Ab L G' h' n' w (.ref (G.μ x))){as as':List (Str×AV)}{es:List aM7}(e:AJ g as=some as')(q:AR L G h n as es):AR L G' h' n' as' es:=
 aB7 (motive:=λas=>∀as' vs,AJ g as=some as'->AR L G h n as vs->AR L G' h' n' as' vs) (λ_ _ e=>aA2 e▸id)
  (λa r ih as' vs e q=>Fn (f:=λa'=>(a.1,a')) e λa' r' e1 e2=>q.imp λ_ q=>q.imp λ_ q=>q.imp λv q=>q.imp λu q=>⟨q.1,Ab.sub k hg a.2 a' v e1 q.2.1,ih r' u e2 q.2.2⟩) as as' es e q
theorem D5.sub(k:Ca G h G' h')(hg :∀x w,g x=some w->x<n->Ab L G' h' n' w (.ref (G.μ x))){x y:Nat}(e1:G'.μ y=G.μ x)(e2:G'.δ y=G.δ x)
  (h1 :∀o,h.get? (G.μ x)=some o->h'.get? (G.μ x)=some o) (h2:G.tag (G.δ x)=some (.dict x)->(∀o,h.get? (G.δ x)=some o->h'.get? (G.δ x)=some o)/\G'.tag (G.δ x)=some (.dict y)) :
  ∀(o o':Ÿ),o.sub g=some o'->D5 L G h n x o->D5 L G' h' n' y o':=by
 intro o o' e q
 cases o with
 | list vs=>exact DX e λvs' e=>LK.imp (λb p=>e1.symm▸(Ma .lst b).keep h1 p) (λb r=>AX.sub k hg e r) q
 | dict vs=>exact DX e λvs' e=>LK.imp (λb p=>e1.symm▸(Hp b).keep h1 p) (λb r=>Am.sub k hg e r) q
 | set ks=>exact aA2 e▸(e1.symm▸(K2 ks).keep h1 q:L.set h' (G'.μ y) ks)
 | inst C at_=>exact DX e λvs' e=>q.casesOn λes z q1 ĉ q3 ě=>⟨es,z,by rw[e1,e2];exact h1 _ q1,e2.symm▸(h2 ě).1 _ ĉ,AR.sub k hg e q3,e2.symm▸(h2 ě).2⟩
def D5.tagd{y:Nat}{o:Ÿ}(q:D5 L G h n y o)(ho:o.two=true):G.tag (G.δ y)=some (.dict y):=by
 cases o with
 | inst C at_=>exact q.casesOn λ_ _ _ _ _ t=>t
 | _=>cases ho
end
def DG{α β:Type}{o:Option β}{l:Option (List α)}{f:β->α}{a:β}{r:List α}(h1:o=some a)(h2:l=some r):(o.bind λa=>l.map (f a :: ·))=some (f a::r):=by rw[h1,h2];rfl
def sub_id(av:AV):av.sub (λx=>some (.ref x))=some av:=
 AV.rec (motive_1:=λav=>av.sub (λx=>some (.ref x))=some av) (motive_2:=λas=>AC (λx=>some (.ref x)) as=some as)
  (motive_3:=λas=>AW (λx=>some (.ref x)) as=some as) (motive_4:=λp=>El (λx=>some (.ref x)) p=some p.2)
  rfl (λ_=>rfl) (λ_=>rfl) (λk _=>bO1 (aD4 (AV.seq k))) (λ_=>rfl) (λ_=>rfl) (λ_=>rfl)
  (λf _=>bO1 (aD4 (AV.bm f))) (λ_=>bO1 (aD4 AV.dct)) (λ_=>rfl) (λ_=>rfl) rfl (λa r i1 i2=>DG i1 i2) rfl (λa r i1 i2=>DG (f:=λb=>(a.1,b)) i1 i2) (λ_ _ ih=>ih) av
def Es(as:List AV):AC (λx=>some (.ref x)) as=some as:=aB7 rfl (λa r ih=>DG (sub_id a) ih) as
def DQ(as:List (AD×AV)):AW (λx=>some (.ref x)) as=some as:=aB7 rfl (λa r ih=>by obtain⟨key,a⟩:=a;exact DG (f:=λb=>(key,b)) (sub_id a) ih) as
def GZ(as:List (Str×AV)):AJ (λx=>some (.ref x)) as=some as:=aB7 rfl (λa r ih=>DG (f:=λb=>(a.1,b)) (sub_id a.2) ih) as
def Ÿ.sub_id :∀o:Ÿ,o.sub (λx=>some (.ref x))=some o:=λo=>by
 cases o with
 | list vs=>exact bO1 (aD4 Ÿ.list) (Es vs)
 | dict vs=>exact bO1 (aD4 Ÿ.dict) (DQ vs)
 | inst C vs=>exact bO1 (aD4 (Ÿ.inst C)) (GZ vs)
 | _=>rfl
section
variable{α β:Type} [BEq α] [LawfulBEq α]
def Al(l:List (α×β))(x:α)(v:β):List (α×β):=aB7 [(x,v)] (λp r ih=>bif p.1==x then(p.1,v)::r else p::ih) l
def A1(y:α)(p:α×β)(r:List (α×β)):(p::r).lookup y=bif y==p.1 then some p.2 else r.lookup y:=by
 show(match y==p.1 with | true=>_ | false=>_)=_
 cases y==p.1<;>rfl
def E4(x y:α)(v:β)(l:List (α×β)):(Al l x v).lookup y=bif y==x then some v else l.lookup y:=by
 refine aB7 (A1 y (x,v) []) (λp r ih=>?_) l
 show(bif p.1==x then(p.1,v)::r else p::Al r x v).lookup y=_
 rw[A1]
 cases hp:p.1==x with
 | true=>
  rw[<-aE6 hp]
  refine(A1 y (p.1,v) r).trans ?_
  cases y==p.1<;>rfl
 | false=>
  refine(A1 y p _).trans ?_
  rw[ih]
  cases hy:y==p.1 with
  | true=>rw[aE6 hy,hp];rfl
  | false=>rfl
def Ck{l:List (α×β)}{x y:α}{v w:β}{P:Prop}(h:(Al l x v).lookup y=some w)(a:y=x->v=w->P)(b:y≠x->l.lookup y=some w->P):P:=by
 rw[E4]at h
 cases hy:y==x with
 | true=>rw[hy]at h;exact a (aE6 hy) (aA2 h)
 | false=>rw[hy]at h;exact b (ne_of_beq_false hy) h
end
def St.put(σ:St)(x:Str)(v:AV):St:=⟨Al σ.ρ x v,σ.H,σ.n,σ.anc⟩
def St.set(σ:St)(x:Nat)(o:Ÿ):St:=⟨σ.ρ,Al σ.H x o,σ.n,σ.anc⟩
def St.new(σ:St)(o:Ÿ):St:=⟨σ.ρ,Al σ.H σ.n o,σ.n+1,σ.anc⟩
structure ċ(G:ļ)(h:aE8)(G':ļ)(h':aE8):Prop where
 keep :∀a o,h.get? a=some o->¬ G.mt a->h'.get? a=some o
 own :∀a,G'.own a->G.own a\/h.objs.size<=a
 mt :∀a,G'.mt a->G.mt a\/h.objs.size<=a
 size:h.objs.size<=h'.objs.size
 lock :∀a,G.tag a=some .lock->G'.tag a=some .lock
 tok :∀t s,G.τ t=some s->G'.τ t=some s
def Cd{h:aE8}{a:aC3}{o:Obj}{P:Prop}(e:h.get? a=some o)(w:h.objs.size<=a):P:=bO4 (aK9 e) (aS6.mpr w)
def ċ.off{G G':ļ}{h h':aE8}(k:ċ G h G' h'){a:aC3}{o:Obj}(e:h.get? a=some o)(q:¬ G.own a):¬ G'.own a:=λz=>(k.own a z).elim q (Cd e)
def ċ.offm{G G':ļ}{h h':aE8}(k:ċ G h G' h'){a:aC3}{o:Obj}(e:h.get? a=some o)(q:¬ G.mt a):¬ G'.mt a:=λz=>(k.mt a z).elim q (Cd e)
def ċ.still{G G':ļ}{h h':aE8}(k:ċ G h G' h'):Ca G h G' h':=⟨λa o e q=>⟨k.keep a o e λz=>q (ļ.mt_own z),k.off e q⟩,k.tok⟩
def ċ.refl(G:ļ)(h:aE8):ċ G h G h:=⟨λ_ _ e _=>e,λ_=>.inl,λ_=>.inl,aB6 _,λ_=>id,λ_ _=>id⟩
def ċ.trans{G₁ G₂ G₃:ļ}{h₁ h₂ h₃:aE8}(a:ċ G₁ h₁ G₂ h₂)(b:ċ G₂ h₂ G₃ h₃):ċ G₁ h₁ G₃ h₃:=
 ⟨λx o e q=>b.keep x o (a.keep x o e q) (a.offm e q),λx e=>(b.own x e).elim (a.own x) λz=>.inr (aA0 a.size z),
  λx e=>(b.mt x e).elim (a.mt x) λz=>.inr (aA0 a.size z),aA0 a.size b.size,λx e=>b.lock x (a.lock x e),λt s e=>b.tok t s (a.tok t s e)⟩
def ü(n:Nat)(G G':ļ):Prop:=∀x,x<n->G'.μ x=G.μ x/\G'.δ x=G.δ x
structure Ω where
 L:Ci
 A:aK5
 env:Env
 hs:aE8
 h₀:aE8
 aG:ļ
 an:Nat
 gens:Array bJ3
 os:aS4
noncomputable abbrev Ω.en(X:Ω)(e:Env):Ω:={X with env:=e}
structure Ŋ where
 G:ļ
 σ:St
 s:aA8
noncomputable def Ŋ.hp(c:Ŋ)(σ:St)(h:aE8)(t:Nat):Ŋ:=⟨c.G,σ,{c.s with heap:=h,toks:=t}⟩
def Ξ(X:Ω)(c:Ŋ)(a:AV)(v:Value):Prop:=Ab X.L c.G c.s.heap c.σ.n a v
def į(X:Ω)(c:Ŋ)(a:List AV)(v:List Value):Prop:=AX X.L c.G c.s.heap c.σ.n a v
def VD(X:Ω)(c:Ŋ)(a:List (AD×AV))(v:List (AD×Value)):Prop:=Am X.L c.G c.s.heap c.σ.n a v
inductive PY(X:Ω)(c:Ŋ):Prop
 | mk (m:Str->Option Value) (hm:c.s.heap.Ns X.env.locals m) (r :∀x av,c.σ.ρ.lookup x=some av->X.env.kindOf x=some .local->∃v,m x=some v/\Ξ X c av v)
inductive OC(X:Ω)(c:Ŋ)(x:Str)(a:aC3):Prop
 | mk (v:Option Value) (hv:c.s.heap.IsCell a v) (r :∀av,c.σ.ρ.lookup x=some av->X.env.kindOf x≠some .local->∃u,v=some u/\Ξ X c av u)
structure GL(X:Ω)(c:Ŋ)(x:Nat)(o:Ÿ):Prop where
 lt:x<c.σ.n
 tag:c.G.tag (c.G.μ x)=some (.obj x)
 rel:D5 X.L c.G c.s.heap c.σ.n x o
structure Ł(X:Ω)(c:Ŋ):Prop where
 base :∀b o,X.h₀.get? b=some o->c.s.heap.get? b=some o
 keep :∀b o,X.hs.get? b=some o->¬ X.aG.mt b->c.s.heap.get? b=some o
 size:X.hs.objs.size<=c.s.heap.objs.size
 mutHs :∀a,c.G.mt a->X.aG.mt a\/X.hs.objs.size<=a
 ownB :∀a,c.G.own a->X.h₀.objs.size<=a
 ownLt :∀a,c.G.own a->a<c.s.heap.objs.size
 gens:c.s.gens=X.gens
 os:c.s.os=X.os
 loc:PY X c
 cel :∀x a,X.env.cells.lookup x=some a->OC X c x a
 celAll :∀x,X.env.kindOf x=some .cell\/X.env.kindOf x=some .free->X.env.cells.lookup x=none->False
 tloc:c.G.tag X.env.locals=some .loc
 tcel :∀x a,X.env.cells.lookup x=some a->c.G.tag a=some (.cell x)
 obj :∀x o,c.σ.H.lookup x=some o->GL X c x o
 anc:X.an<=c.σ.anc/\c.σ.anc<=c.σ.n/\∀i,i<X.an->c.G.μ i=X.aG.μ i/\c.G.δ i=X.aG.δ i
 tk :∀t s,c.G.τ t=some s->t<c.s.toks
 tk0:Vr c.G.τ
 aτ :∀t s,X.aG.τ t=some s->c.G.τ t=some s
structure E1(c c':Ŋ):Prop where
 still:Ca c.G c.s.heap c'.G c'.s.heap
 nm:ü c.σ.n c.G c'.G
 n:c.σ.n<=c'.σ.n
structure Ct(X:Ω)(c c':Ŋ):Prop where
 kp:ċ c.G c.s.heap c'.G c'.s.heap
 pre:E1 c c'
 R:Ł X c'
theorem E1.trans{a b c:Ŋ}(x:E1 a b)(y:E1 b c):E1 a c:=
 ⟨⟨λa o e q=>(x.still.at_ a o e q).elim λe q=>y.still.at_ a o e q,λt s e=>y.still.tok t s (x.still.tok t s e)⟩,λz hz=>⟨(y.nm z (aC0 hz x.n)).1.trans (x.nm z hz).1,(y.nm z (aC0 hz x.n)).2.trans (x.nm z hz).2⟩,aA0 x.n y.n⟩
theorem Ct.trans{X:Ω}{a b c:Ŋ}(x:Ct X a b)(y:Ct X b c):Ct X a c:=⟨x.kp.trans y.kp,x.pre.trans y.pre,y.R⟩
theorem Ct.refl{X:Ω}{c:Ŋ}(R:Ł X c):Ct X c c:=⟨.refl _ _,⟨(ċ.refl _ _).still,λ_ _=>⟨rfl,rfl⟩,aB6 _⟩,R⟩
section
variable{X:Ω}{c c':Ŋ}(p:E1 c c')
include p
theorem E1.hg(L:Ci) :∀x w,(λx=>some (AV.ref x)) x=some w->x<c.σ.n->Ab L c'.G c'.s.heap c'.σ.n w (.ref (c.G.μ x)):=λx w e hx=>by
 cases e
 exact⟨bO1 _ (p.nm x hx).1.symm,aC0 hx p.n⟩
theorem E1.v{a:AV}{v:Value}(r:Ξ X c a v):Ξ X c' a v:=Ab.sub p.still (p.hg _) a a v (sub_id a) r
theorem E1.va{a:List AV}{v:List Value}(r:į X c a v):į X c' a v:=AX.sub p.still (p.hg _) (Es a) r
theorem E1.vd{a:List (AD×AV)}{v:List (AD×Value)}(r:VD X c a v):VD X c' a v:=Am.sub p.still (p.hg _) (DQ a) r
theorem E1.loc(e:c'.σ.ρ=c.σ.ρ)(h :∀o,c.s.heap.get? X.env.locals=some o->c'.s.heap.get? X.env.locals=some o)(l:PY X c):PY X c':=
 l.casesOn λm hm r=>⟨m,hm.at' h,λx av e1 e2=>(r x av (e▸e1) e2).imp λv q=>⟨q.1,p.v q.2⟩⟩
theorem E1.cel{x:Str}{a:aC3}(e:c'.σ.ρ=c.σ.ρ)(h :∀o,c.s.heap.get? a=some o->c'.s.heap.get? a=some o)(l:OC X c x a):OC X c' x a:=
 l.casesOn λv hv r=>⟨v,hv.imp λo q=>⟨h o q.1,q.2⟩,λav e1 e2=>(r av (e▸e1) e2).imp λu q=>⟨q.1,p.v q.2⟩⟩
theorem E1.obj{x:Nat}{o:Ÿ}(t1:c'.G.tag (c.G.μ x)=some (.obj x))(h1 :∀o,c.s.heap.get? (c.G.μ x)=some o->c'.s.heap.get? (c.G.μ x)=some o)
  (h2:c.G.tag (c.G.δ x)=some (.dict x)->(∀o,c.s.heap.get? (c.G.δ x)=some o->c'.s.heap.get? (c.G.δ x)=some o)/\c'.G.tag (c.G.δ x)=some (.dict x)) (q:GL X c x o):GL X c' x o:=
 ⟨aC0 q.lt p.n,(p.nm x q.lt).1.symm▸t1,D5.sub p.still (p.hg _) (p.nm x q.lt).1 (p.nm x q.lt).2 h1 h2 o o (Ÿ.sub_id o) q.rel⟩
end
def Ł.go{X:Ω}{c c':Ŋ}(R:Ł X c)(k:ċ c.G c.s.heap c'.G c'.s.heap)(p:E1 c c')(hl :∀a,c'.G.own a->a<c'.s.heap.objs.size)(ht:c.s.toks<=c'.s.toks)(hτ :∀t s,c'.G.τ t=some s->c.G.τ t=some s\/t<c'.s.toks)(hg:c'.s.gens=c.s.gens)(ho:c'.s.os=c.s.os)(ha:c'.σ.anc=c.σ.anc)
  (tl :∀a q,c.G.tag a=some q->c'.G.tag a=some q) (loc:PY X c') (cel :∀x a,X.env.cells.lookup x=some a->OC X c' x a) (obj :∀x o,c'.σ.H.lookup x=some o->GL X c' x o):Ct X c c' where
 kp:=k
 pre:=p
 R:={
  base:=λb o e=>k.keep b o (R.base b o e) λz=>Cd e (R.ownB b (ļ.mt_own z))
  keep:=λb o e q=>k.keep b o (R.keep b o e q) λz=>(R.mutHs b z).elim q (Cd e)
  size:=aA0 R.size k.size
  mutHs:=λa z=>(k.mt a z).elim (R.mutHs a) λw=>.inr (aA0 R.size w)
  ownB:=λa z=>(k.own a z).elim (R.ownB a) λw=>aA0 (aD8 (aD5 (R.ownB _ (Ag R.tloc)) (R.ownLt _ (Ag R.tloc)))) w
  ownLt:=hl
  gens:=hg.trans R.gens
  os:=ho.trans R.os
  loc:=loc
  cel:=cel
  celAll:=R.celAll
  tloc:=tl _ _ R.tloc
  tcel:=λx a e=>tl _ _ (R.tcel x a e)
  obj:=obj
  anc:=⟨ha.symm▸R.anc.1,ha.symm▸aA0 R.anc.2.1 p.n,λi e=>
   have hi:i<c.σ.n:=aC0 e (aA0 R.anc.1 R.anc.2.1)
   ⟨(p.nm i hi).1.trans (R.anc.2.2 i e).1,(p.nm i hi).2.trans (R.anc.2.2 i e).2⟩⟩
  tk:=λt s e=>(hτ t s e).elim (λe=>aC0 (R.tk t s e) ht) id
  tk0:=R.tk0.up k.tok
  aτ:=λt s e=>k.tok t s (R.aτ t s e)}
def Ef{G:ļ}{a:aC3}{p:A3}(h:G.tag a=some p)(hp:p≠.lock):G.mt a:=⟨p,h,hp⟩
def IE{G:ļ}{a b:aC3}{p q:A3}(ha:G.tag a=some p)(hb:G.tag b=some q)(hn:p≠q):a≠b:=λe=>hn (aA2 ((e▸ha).symm.trans hb))
def Kn(p:A3):Prop:=p = .loc\/∃y,p = .cell y
def FS{x:Nat}:¬ Kn (.obj x):=λz=>z.elim (λz=>nomatch z) λz=>z.elim λ_ z=>nomatch z
def Ed{x:Nat}:¬ Kn (.dict x):=λz=>z.elim (λz=>nomatch z) λz=>z.elim λ_ z=>nomatch z
section
variable{X:Ω}{c c':Ŋ}
def Ł.gone(R:Ł X c):¬ c.G.own c.s.heap.objs.size:=λz=>aL7 _ (R.ownLt _ z)
def Ł.more(R:Ł X c)(hk :∀a o,c.s.heap.get? a=some o->c'.s.heap.get? a=some o)(hs:c.s.heap.objs.size<=c'.s.heap.objs.size)(ht :∀a,a<c.s.heap.objs.size->c'.G.tag a=c.G.tag a)
  (hl :∀a,c'.G.own a->a<c'.s.heap.objs.size) (m:ü c.σ.n c.G c'.G) (hn:c.σ.n<=c'.σ.n) (hg:c'.s.gens=c.s.gens) (ho:c'.s.os=c.s.os) (er:c'.σ.ρ=c.σ.ρ) (ha:c'.σ.anc=c.σ.anc)
  (obj :∀x o,c'.σ.H.lookup x=some o->c.σ.H.lookup x=some o\/(E1 c c'->GL X c' x o)) (hτ :∀t s,c.G.τ t=some s->c'.G.τ t=some s) (hu :∀t s,c'.G.τ t=some s->c.G.τ t=some s\/t<c'.s.toks) (htk:c.s.toks<=c'.s.toks):Ct X c c':=by
 have told :∀a p,c.G.tag a=some p->c'.G.tag a=some p:=λa p e=>(ht a (R.ownLt a (Ag e))).trans e
 have cs :∀{a} {P:Prop},(a<c.s.heap.objs.size->P)->P\/c.s.heap.objs.size<=a:=λ{a P} f=>(Nat.lt_or_ge a c.s.heap.objs.size).imp f id
 have k:ċ c.G c.s.heap c'.G c'.s.heap:=⟨λa o e _=>hk a o e,λa e=>cs λl z=>e ((ht a l).trans z),λa e=>cs λl=>e.imp λp q=>⟨(ht a l).symm.trans q.1,q.2⟩,hs,λa=>told a _,hτ⟩
 have p:E1 c c':=⟨k.still,m,hn⟩
 exact R.go k p hl htk hu hg ho ha told (p.loc er (hk _) R.loc) (λx a e=>p.cel er (hk a) (R.cel x a e)) λx o e=>(obj x o e).elim (λe=>p.obj (told _ _ (R.obj x o e).tag) (hk _) (λz=>⟨hk _,told _ _ z⟩) (R.obj x o e)) λf=>f p
def Ł.grow(R:Ł X c){h':aE8}(t:Nat)(hk :∀a o,c.s.heap.get? a=some o->h'.get? a=some o)(hs:c.s.heap.objs.size<=h'.objs.size)(htk:c.s.toks<=t:=by first | assumption | repeat constructor):Ct X c (c.hp c.σ h' t):=
 R.more hk hs (λ_ _=>rfl) (λa e=>aC0 (R.ownLt a e) hs) (λ_ _=>⟨rfl,rfl⟩) (aB6 _) rfl rfl rfl rfl (λ_ _=>.inl) (λ_ _=>id) (λ_ _=>.inl) htk
theorem Ł.toks(R:Ł X c)(t:Nat)(htk:c.s.toks<=t:=by first | assumption | repeat constructor):Ct X c (c.hp c.σ c.s.heap t):=R.grow t (λ_ _ e=>e) (aB6 _) htk
def De{h:aE8}(o:Obj):h.objs.size<=(h.push o).objs.size:=aF8 h o▸aI3 _
theorem Ł.push(R:Ł X c)(o:Obj)(t:Nat)(htk:c.s.toks<=t:=by first | assumption | repeat constructor):Ct X c (c.hp c.σ (c.s.heap.push o) t):=R.grow t (λ_ _ e=>aB5 o e) (De o) htk
def ċ.at{G:ļ}{h h':aE8}{a:aC3}(ha:G.mt a)(hb:aH6 a h h'):ċ G h G h':=⟨λb o e q=>(hb.2 b λz=>q (z▸ha)).trans e,λ_=>.inl,λ_=>.inl,aB9 hb.1.symm,λ_=>id,λ_ _=>id⟩
theorem E1.at{a:aC3}(ha:c.G.mt a){h':aE8}{t:Nat}{σ':St}(hb:aH6 a c.s.heap h')(e1:σ'.n=c.σ.n):E1 c (c.hp σ' h' t):=⟨(ċ.at ha hb).still,λ_ _=>⟨rfl,rfl⟩,aB9 e1.symm⟩
def Ł.chg(R:Ł X c){a:aC3}{pl:A3}(hp:c.G.tag a=some pl)(hl:pl≠.lock){h':aE8}{t:Nat}{σ':St}(hb:aH6 a c.s.heap h')(e1:σ'.n=c.σ.n)(e2:σ'.anc=c.σ.anc)
  (loc:Kn pl->PY X (c.hp σ' h' t)/\∀x a,X.env.cells.lookup x=some a->OC X (c.hp σ' h' t) x a) (hr:¬ Kn pl->σ'.ρ=c.σ.ρ)
  (obj :∀x o,σ'.H.lookup x=some o->GL X (c.hp σ' h' t) x o\/pl≠.obj x/\pl≠.dict x/\c.σ.H.lookup x=some o) (htk:c.s.toks<=t:=by first | assumption | repeat constructor):Ct X c (c.hp σ' h' t):=by
 have p:E1 c (c.hp σ' h' t):=.at (Ef hp hl) hb e1
 have Ī :∀{b q},c.G.tag b=some q->pl≠q->∀o,c.s.heap.get? b=some o->h'.get? b=some o:=λ{b q} hq hn o e=>(hb.2 b (IE hq hp hn.symm)).trans e
 have ă:PY X (c.hp σ' h' t)/\∀x a,X.env.cells.lookup x=some a->OC X (c.hp σ' h' t) x a:=(aN7 (Kn pl)).elim loc λhc=>⟨p.loc (hr hc) (Ī R.tloc λz=>hc (.inl z)) R.loc,λx a e=>p.cel (hr hc) (Ī (R.tcel x a e) λz=>hc (.inr ⟨x,z⟩)) (R.cel x a e)⟩
 exact R.go (.at (Ef hp hl) hb) p (λb e=>hb.1.symm▸R.ownLt b e) htk (λ_ _=>.inl) rfl rfl e2 (λ_ _ e=>e) ă.1 ă.2 λx o e=>(obj x o e).elim id λq=>p.obj (R.obj x o q.2.2).tag (Ī (R.obj x o q.2.2).tag q.1) (λz=>⟨Ī z q.2.1,z⟩) (R.obj x o q.2.2)
def Ł.storeLocal(R:Ł X c){x:Str}{av:AV}{v:Value}(hx:X.env.kindOf x=some .local)(hv:Ξ X c av v){m:Str->Option Value}
  (hl :∀x av,c.σ.ρ.lookup x=some av->X.env.kindOf x=some .local->∃v,m x=some v/\Ξ X c av v)
  {h':aE8} {t:Nat} (hn:h'.Ns X.env.locals (λy=>if y=x then some v else m y)) (hb:aH6 X.env.locals c.s.heap h') (htk:c.s.toks<=t:=by first | assumption | repeat constructor):Ct X c (c.hp (c.σ.put x av) h' t):=by
 have p:E1 c (c.hp (c.σ.put x av) h' t):=.at (Ef R.tloc λz=>nomatch z) hb rfl
 refine R.chg R.tloc (λz=>nomatch z) hb rfl rfl (λ_=>⟨⟨_,hn,λy w e1 e2=>?_⟩,λy a e=>?_⟩) (λz=>bO4 (.inl rfl) z) λy o e=>.inr ⟨λz=>(nomatch z),λz=>(nomatch z),e⟩
 ·exact Ck e1 (λhy hw=>⟨v,bO2 hy,hw▸p.v hv⟩) λhy e1=>(hl y w e1 e2).imp λu q=>⟨(bO3 hy).trans q.1,p.v q.2⟩
 ·exact(R.cel y a e).casesOn λu hu r=>⟨u,hu.sameBut hb (IE (R.tcel y a e) R.tloc λz=>nomatch z),λw e1 e2=>Ck e1 (λhy _=>bO4 (hy▸hx) e2) λ_ e1=>(r w e1 e2).imp λu q=>⟨q.1,p.v q.2⟩⟩
def Ł.storeCell(R:Ł X c){x:Str}{a:aC3}{av:AV}{v:Value}(hx:X.env.kindOf x≠some .local)(hc:X.env.cells.lookup x=some a)(hv:Ξ X c av v)
  {h':aE8} {t:Nat} (hn:h'.IsCell a (some v)) (hb:aH6 a c.s.heap h') (htk:c.s.toks<=t:=by first | assumption | repeat constructor):Ct X c (c.hp (c.σ.put x av) h' t):=by
 have p:E1 c (c.hp (c.σ.put x av) h' t):=.at (Ef (R.tcel x a hc) λz=>nomatch z) hb rfl
 refine R.chg (R.tcel x a hc) (λz=>nomatch z) hb rfl rfl (λ_=>⟨?_,λy b e=>?_⟩) (λz=>bO4 (.inr ⟨x,rfl⟩) z) λy o e=>.inr ⟨λz=>(nomatch z),λz=>(nomatch z),e⟩
 ·exact R.loc.casesOn λm hm r=>⟨m,hm.sameBut hb (IE R.tloc (R.tcel x a hc) λz=>nomatch z),λy w e1 e2=>Ck e1 (λhy _=>bO4 (hy▸e2) hx) λ_ e1=>(r y w e1 e2).imp λu q=>⟨q.1,p.v q.2⟩⟩
 ·refine(aN7 (y=x)).elim (λhy=>⟨some v,aA2 ((hy▸e).symm.trans hc)▸hn,λw e1 _=>Ck e1 (λ_ hw=>⟨v,rfl,hw▸p.v hv⟩) λz _=>bO4 hy z⟩) λhy=>?_
  exact(R.cel y b e).casesOn λu hu r=>⟨u,hu.sameBut hb (IE (R.tcel y b e) (R.tcel x a hc) λz=>hy (by cases z;rfl)),λw e1 e2=>Ck e1 (λz _=>bO4 z hy) λ_ e1=>(r w e1 e2).imp λu q=>⟨q.1,p.v q.2⟩⟩
def Ł.setAt(R:Ł X c){x:Nat}{o₀ o:Ÿ}(hx:c.σ.H.lookup x=some o₀){a:aC3}{pl:A3}(hp:c.G.tag a=some pl)(h2:pl = .obj x\/pl = .dict x){h':aE8}{t:Nat}(hb:aH6 a c.s.heap h')
  (hr:E1 c (c.hp (c.σ.set x o) h' t)->D5 X.L c.G h' c.σ.n x o) (htk:c.s.toks<=t:=by first | assumption | repeat constructor):Ct X c (c.hp (c.σ.set x o) h' t):=by
 have hl:pl≠.lock:=λz=>h2.elim (λw=>nomatch z.symm.trans w) λw=>nomatch z.symm.trans w
 have no:¬ Kn pl:=h2.elim (λw=>w▸FS) λw=>w▸Ed
 refine R.chg hp hl hb rfl rfl (λz=>bO4 z no) (λ_=>rfl) λy o' e=>Ck e (λhy hw=>.inl ?_) λhy e=>.inr ⟨λz=>?_,λz=>?_,e⟩
 ·subst hy;subst hw
  exact⟨(R.obj y o₀ hx).lt,(R.obj y o₀ hx).tag,hr (.at (Ef hp hl) hb rfl)⟩
 ·exact h2.elim (λw=>hy (by cases z.symm.trans w;rfl)) λw=>nomatch z.symm.trans w
 ·exact h2.elim (λw=>nomatch z.symm.trans w) λw=>hy (by cases z.symm.trans w;rfl)
def Ł.setObj(R:Ł X c){x:Nat}{o₀ o:Ÿ}(hx:c.σ.H.lookup x=some o₀){h':aE8}{t:Nat}(hb:aH6 (c.G.μ x) c.s.heap h')(hr:E1 c (c.hp (c.σ.set x o) h' t)->D5 X.L c.G h' c.σ.n x o)(htk:c.s.toks<=t:=by first | assumption | repeat constructor):Ct X c (c.hp (c.σ.set x o) h' t):=
 R.setAt hx (R.obj x o₀ hx).tag (.inl rfl) hb hr htk
def Ł.setInst(R:Ł X c){x:Nat}{o₀ o:Ÿ}(hx:c.σ.H.lookup x=some o₀)(h2:o₀.two=true){h':aE8}{t:Nat}(hb:aH6 (c.G.δ x) c.s.heap h')(hr:E1 c (c.hp (c.σ.set x o) h' t)->D5 X.L c.G h' c.σ.n x o)(htk:c.s.toks<=t:=by first | assumption | repeat constructor):Ct X c (c.hp (c.σ.set x o) h' t):=
 R.setAt hx ((R.obj x o₀ hx).rel.tagd h2) (.inr rfl) hb hr htk
def Ł.chgs(R:Ł X c){S:A3->Prop}(hS :∀p,S p->∃x,p = .obj x\/p = .dict x)(k :∀b o,c.s.heap.get? b=some o->(∀p,c.G.tag b=some p->¬ S p)->c'.s.heap.get? b=some o)(hs:c.s.heap.objs.size<=c'.s.heap.objs.size)(eG:c'.G.tag=c.G.tag/\c'.G.μ=c.G.μ/\c'.G.δ=c.G.δ)(up :∀t s,c.G.τ t=some s->c'.G.τ t=some s)(hu :∀t s,c'.G.τ t=some s->c.G.τ t=some s\/t<c'.s.toks)(hg:c'.s.gens=c.s.gens)(ho:c'.s.os=c.s.os)
  (er:c'.σ.ρ=c.σ.ρ) (en:c'.σ.n=c.σ.n) (ea:c'.σ.anc=c.σ.anc) (obj :∀x o,c'.σ.H.lookup x=some o->(E1 c c'->GL X c' x o)\/¬ S (.obj x)/\¬ S (.dict x)/\c.σ.H.lookup x=some o) (htk:c.s.toks<=c'.s.toks:=by first | assumption | repeat constructor):Ct X c c':=by
 have tg :∀{a o},c.G.tag a=o->c'.G.tag a=o:=λ{a o} e=>(congrFun eG.1 a).trans e
 have ow :∀{a},c'.G.own a->c.G.own a:=λ{a} e z=>e ((congrFun eG.1 a).trans z)
 have kn :∀{b q},c.G.tag b=some q->¬ S q->∀o,c.s.heap.get? b=some o->c'.s.heap.get? b=some o:=λ{b q} hq hn o e=>k b o e λp hp=>aA2 (hq.symm.trans hp)▸hn
 have kp:ċ c.G c.s.heap c'.G c'.s.heap:=⟨λa o e q=>k a o e λp hp z=>q ⟨p,hp,λw=>(hS p z).elim λx z=>z.elim (λz=>nomatch w.symm.trans z) λz=>nomatch w.symm.trans z⟩,λa e=>.inl (ow e),λa e=>.inl (e.imp λp q=>⟨(congrFun eG.1 a).symm.trans q.1,q.2⟩),hs,λa e=>tg e,up⟩
 have p:E1 c c':=⟨kp.still,λx _=>⟨congrFun eG.2.1 x,congrFun eG.2.2 x⟩,aB9 en.symm⟩
 have nl :∀{q},(∀x,q≠.obj x/\q≠.dict x)->¬ S q:=λh z=>(hS _ z).elim λx z=>z.elim (h x).1 (h x).2
 exact R.go kp p (λb e=>aC0 (R.ownLt b (ow e)) hs) htk hu hg ho ea (λa q=>tg) (p.loc er (kn R.tloc (nl λx=>⟨λz=>(nomatch z),λz=>nomatch z⟩)) R.loc) (λx a e=>p.cel er (kn (R.tcel x a e) (nl λx=>⟨λz=>(nomatch z),λz=>nomatch z⟩)) (R.cel x a e))
  λx o e=>(obj x o e).elim (λf=>f p) λq=>p.obj (tg (R.obj x o q.2.2).tag) (kn (R.obj x o q.2.2).tag q.1) (λz=>⟨kn z q.2.1,tg z⟩) (R.obj x o q.2.2)
end
noncomputable def ļ.put(G:ļ)(a:aC3)(p:A3):ļ:=⟨λb=>bif b==a then some p else G.tag b,G.μ,G.δ,G.τ⟩
def ļ.put_at{G:ļ}{a:aC3}{p:A3}:(G.put a p).tag a=some p:=bO1 (cond · (some p) (G.tag a)) (bO8 a)
def ļ.put_ne{G:ļ}{a b:aC3}{p:A3}(h:b≠a):(G.put a p).tag b=G.tag b:=bO1 (cond · (some p) (G.tag b)) (beq_eq_false_iff_ne.mpr h)
def ļ.put_own{G:ļ}{a b:aC3}{p:A3}(h:(G.put a p).own b):b=a\/G.own b:=(aN7 (b=a)).imp id λn z=>h ((ļ.put_ne n).trans z)
noncomputable def ļ.name(G:ļ)(n:Nat)(a d:aC3):ļ:=⟨G.tag,λx=>bif x==n then a else G.μ x,λx=>bif x==n then d else G.δ x,G.τ⟩
def ļ.name_mu{G:ļ}{n:Nat}{a d:aC3}:(G.name n a d).μ n=a:=bO1 (cond · a (G.μ n)) (bO8 n)
def ļ.name_de{G:ļ}{n:Nat}{a d:aC3}:(G.name n a d).δ n=d:=bO1 (cond · d (G.δ n)) (bO8 n)
def ļ.name_nm{G:ļ}{n:Nat}{a d:aC3}:ü n G (G.name n a d):=λx hx=>⟨bO1 (cond · a (G.μ x)) (beq_eq_false_iff_ne.mpr (aE2 hx)),bO1 (cond · d (G.δ x)) (beq_eq_false_iff_ne.mpr (aE2 hx))⟩
section
variable{X:Ω}{c:Ŋ}
def Iy{G:ļ}{h:aE8}{n:Nat}(hl :∀a,G.own a->a<h.objs.size)(o:Obj){p:A3} :∀a,((G.put h.objs.size p).own a)->a<(h.push o).objs.size:=λa e=>by
 rw[aF8]
 exact(ļ.put_own e).elim (λz=>z▸aC6 _) λz=>aH1 (hl a z)
def Ŋ.add(c:Ŋ)(ao:Ÿ)(o:Obj)(t:Nat):Ŋ:=⟨(c.G.put c.s.heap.objs.size (.obj c.σ.n)).name c.σ.n c.s.heap.objs.size 0,c.σ.new ao,{c.s with heap:=c.s.heap.push o,toks:=t}⟩
def Ł.alloc(R:Ł X c){o:Obj}{ao:Ÿ}{t:Nat}(hr:E1 c (c.add ao o t)->(c.add ao o t).G.μ c.σ.n=c.s.heap.objs.size->D5 X.L (c.add ao o t).G (c.s.heap.push o) (c.σ.n+1) c.σ.n ao)(htk:c.s.toks<=t:=by first | assumption | repeat constructor):Ct X c (c.add ao o t):=
 R.more (λ_ _ e=>aB5 o e) (De o) (λa l=>ļ.put_ne (aE2 l)) (Iy (n:=0) R.ownLt o) (λx hx=>ļ.name_nm x hx) (aI3 _) rfl rfl rfl rfl
  (λx o' e=>Ck e (λhx hw=>.inr λp=>hx▸hw▸⟨aC6 _,(bO1 _ ļ.name_mu).trans ļ.put_at,hr p ļ.name_mu⟩) λ_ e=>.inl e) (λ_ _=>id) (λ_ _=>.inl) htk
def Ŋ.lck(c:Ŋ)(o:Obj)(t:Nat):Ŋ:=⟨c.G.put c.s.heap.objs.size .lock,c.σ,{c.s with heap:=c.s.heap.push o,toks:=t}⟩
theorem Ł.lck(R:Ł X c)(o:Obj)(t:Nat)(htk:c.s.toks<=t:=by first | assumption | repeat constructor):Ct X c (c.lck o t):=
 R.more (λ_ _ e=>aB5 o e) (De o) (λa l=>ļ.put_ne (aE2 l)) (Iy (n:=0) R.ownLt o) (λx hx=>⟨rfl,rfl⟩) (aB6 _) rfl rfl rfl rfl (λ_ _=>.inl) (λ_ _=>id) (λ_ _=>.inl) htk
def Ł.lockAt(R:Ł X c){wr:List aC3}(hI :∀b∈wr,c.G.tag b=some .lock/\X.hs.objs.size<=b){h':aE8}{t:Nat}(hk :∀a o,a∉wr->c.s.heap.get? a=some o->h'.get? a=some o)(hs:c.s.heap.objs.size<=h'.objs.size)(htk:c.s.toks<=t:=by first | assumption | repeat constructor):E1 c (c.hp c.σ h' t)/\Ł X (c.hp c.σ h' t):=by
 have ow :∀{a},a∈wr->c.G.own a:=λz=>Ag (hI _ z).1
 have ne :∀{a p},c.G.tag a=some p->p≠.lock->∀o,c.s.heap.get? a=some o->h'.get? a=some o:=λ{a p} e hp o=>hk a o λz=>hp (aA2 (e.symm.trans (hI a z).1))
 have p:E1 c (c.hp c.σ h' t):=⟨⟨λa o e q=>⟨hk a o (λz=>q (ow z)) e,q⟩,λ_ _=>id⟩,λ_ _=>⟨rfl,rfl⟩,aB6 _⟩
 exact⟨p,λb o e=>hk b o (λz=>Cd e (R.ownB _ (ow z))) (R.base b o e),λb o e q=>hk b o (λz=>Cd e (hI b z).2) (R.keep b o e q),aA0 R.size hs,R.mutHs,R.ownB,λa e=>aC0 (R.ownLt a e) hs,R.gens,R.os,
  p.loc rfl (ne R.tloc λz=>nomatch z) R.loc,λx a e=>p.cel rfl (ne (R.tcel x a e) λz=>nomatch z) (R.cel x a e),R.celAll,R.tloc,R.tcel,λx o e=>p.obj (R.obj x o e).tag (ne (R.obj x o e).tag λz=>nomatch z) (λz=>⟨ne z λz=>(nomatch z),z⟩) (R.obj x o e),R.anc,λt s e=>aC0 (R.tk t s e) htk,R.tk0,R.aτ⟩
end
def ĭ{α:Type}(X:Ω)(t:Sem α)(Q:α->aA8->Prop)(s:aA8):Prop:=aD7 (aE5 X.L.prog X.L.w) X.A t Q (λ_ _=>False) s
inductive A8{α β:Type}(X:Ω)(rel:Ŋ->β->α->Prop)(c:Ŋ)(Q:β->St->Prop)(v:α)(s':aA8):Prop
 | mk (G':ļ) (σ':St) (b:β) (x:Ct X c ⟨G',σ',s'⟩) (r:rel ⟨G',σ',s'⟩ b v) (q:Q b σ')
def ď{α β:Type}(X:Ω)(rel:Ŋ->β->α->Prop)(t:Sem α)(σ:St)(Q:β->St->Prop):Prop:=∀G s,Ł X ⟨G,σ,s⟩->ĭ X t (A8 X rel ⟨G,σ,s⟩ Q) s
def Hh{α:Type}(_:Ŋ)(b a:α):Prop:=a=b
def JT{α β:Type}(_:Ŋ)(_:β)(_:α):Prop:=True
def ŧ(X:Ω)(t:Sem Value)(σ:St)(Q:AV->St->Prop):Prop:=ď X (Ξ X) t σ Q
def TL(X:Ω)(t:Sem (List Value))(σ:St)(Q:List AV->St->Prop):Prop:=ď X (į X) t σ Q
def í(X:Ω)(t:Sem Bool)(σ:St)(Q:Bool->St->Prop):Prop:=ď X Hh t σ Q
def Ħ(X:Ω)(c:Ŋ)(Q:AV->St->Prop)(t:Sem Value):Prop:=ĭ X t (A8 X (Ξ X) c Q) c.s
def GD(X:Ω)(c:Ŋ)(Q:St->Prop)(t:Sem Unit):Prop:=ĭ X t (A8 X (β:=Unit) JT c λ_=>Q) c.s
section
variable{X:Ω}{α β γ ε:Type}
def ĭ.mono{t:Sem α}{Q Q':α->aA8->Prop}{s:aA8}(h:ĭ X t Q s)(k :∀v s,Q v s->Q' v s):ĭ X t Q' s:=aN2 h k λ_ _ x=>x
def ĭ.any{t:Sem α}{Q Q':α->aA8->Prop}{E:Value->aA8->Prop}{s:aA8}(h:ĭ X t Q s)(k :∀v s,Q v s->Q' v s):aD7 (aE5 X.L.prog X.L.w) X.A t Q' E s:=aN2 h k λ_ _ x=>x.elim
def ĭ.bind{t:Sem α}{f:α->Sem γ}{Q:γ->aA8->Prop}{s:aA8}(h:ĭ X t (λv s=>ĭ X (f v) Q s) s):ĭ X (t >>= f) Q s:=aA3 h
def ĭ.hold{t:Sem α}{vs:List Value}{Q:α->aA8->Prop}{s:aA8}(h:ĭ X t Q s):ĭ X (aW1 vs t) Q s:=aK8 h
theorem ĭ.pure{v:α}{Q:α->aA8->Prop}{s:aA8}(h:Q v s):ĭ X (Pure.pure v) Q s:=aA7 h
def A8.lift{rel:Ŋ->β->α->Prop}{c c':Ŋ}{Q:β->St->Prop}{v:α}{s':aA8}(x:Ct X c c')(p:A8 X rel c' Q v s'):A8 X rel c Q v s':=p.casesOn λG σ b y r q=>⟨G,σ,b,x.trans y,r,q⟩
def A8.here{rel:Ŋ->β->α->Prop}{c:Ŋ}{Q:β->St->Prop}{v:α}{b:β}(R:Ł X c)(r:rel c b v)(q:Q b c.σ):A8 X rel c Q v c.s:=⟨c.G,c.σ,b,.refl R,r,q⟩
def A8.to{rel:Ŋ->β->α->Prop}{c c':Ŋ}{Q:β->St->Prop}{v:α}{b:β}(x:Ct X c c')(r:rel c' b v)(q:Q b c'.σ):A8 X rel c Q v c'.s:=⟨c'.G,c'.σ,b,x,r,q⟩
def A8.up{rel:Ŋ->β->α->Prop}{c c':Ŋ}{Q:β->St->Prop}{t:Sem α}{s:aA8}(h:ĭ X t (A8 X rel c' Q) s)(x:Ct X c c'):ĭ X t (A8 X rel c Q) s:=h.mono λ_ _ p=>p.lift x
theorem ď.mono{rel:Ŋ->β->α->Prop}{t:Sem α}{σ:St}{Q Q':β->St->Prop}(h:ď X rel t σ Q)(k :∀b σ,Q b σ->Q' b σ):ď X rel t σ Q':=λG s R=>(h G s R).mono λ_ _ p=>p.casesOn λG σ b y r q=>⟨G,σ,b,y,r,k _ _ q⟩
def ď.go{rel:Ŋ->β->α->Prop}{t:Sem α}{c:Ŋ}{P:β->St->Prop}{f:α->aA8->Prop}(h:ď X rel t c.σ P)(R:Ł X c)(hf :∀b c₁ a,P b c₁.σ->Ct X c c₁->rel c₁ b a->f a c₁.s):ĭ X t f c.s:=
 (h c.G c.s R).mono λa s₁ p=>p.casesOn λG σ b y r q=>hf b ⟨G,σ,s₁⟩ a q y r
end
def Ap{α:Type}(o:Option α)(k:α->Prop):Prop:=aD9 False k o
def AE{α:Type}{o:Option α}{k:α->Prop}{P:Prop}(h:Ap o k)(f :∀a,o=some a->k a->P):P:=by
 cases o with
 | none=>exact h.elim
 | some a=>exact f a rfl h
def D1(c:Bool)(P:Prop):Prop:=aI6 False P c
def Ah{c:Bool}{P:Prop}(h:D1 c P):c=true/\P:=by
 cases c with
 | true=>exact⟨rfl,h⟩
 | false=>exact h.elim
def AQ{a b:Bool}(h:(a&&b)=true):a=true/\b=true:=aG5.mp h
noncomputable def B7:AV->Option AD
 | .key k=>some k
 | .txt s=>some (.str s)
 | _=>none
noncomputable def AD.toInt:AD->Option Int
 | .int i=>some i
 | .str _=>none
def Bg(a:AV):Option Int:=(B7 a).bind AD.toInt
noncomputable def Ÿ.lst:Ÿ->Option (List AV)
 | .list vs=>some vs
 | _=>none
noncomputable def Dt(σ:St):AV->Option (Nat×Ÿ)
 | .ref x=>(σ.H.lookup x).map (x,·)
 | _=>none
def objOf(σ:St)(a:AV):Option Ÿ:=(Dt σ a).map (·.2)
def B6(σ:St)(a:AV):Option (List AV):=match a with
 | .seq .lst vs=>some vs
 | a=>(objOf σ a).bind Ÿ.lst
def AF(n:Nat):Prop:=n<=1000000
def AF.line{n m:Nat}(h:AF n)(e:m=n):m<=aR5:=e▸aA0 h (by decide)
def AA{α:Type}{a:α}{P:Prop}(e:none=some a):P:=Option.noConfusion rfl (heq_of_eq e)
def Fq{P:AV->Prop}{a:AV}{k:AD}(e:B7 a=some k)(f:P (.key k))(g :∀s,k = .str s->P (.txt s)):P a:=
 AV.casesOn (motive_1:=λa=>B7 a=some k->P a) a AA (λ_=>AA) (λ_ e=>aA2 e▸f) (λ_ _=>AA) (λ_=>AA) (λ_=>AA) (λ_=>AA) (λ_ _=>AA) (λ_=>AA) (λ_=>AA) (λs e=>g s (aA2 e).symm) e
def RE{P:AV->Prop}{a:AV}{i:Int}(e:Bg a=some i)(f:P (.int i)):P a:=by
 obtain⟨k,e1,e2⟩:=AG e
 exact Fq e1 (AD.casesOn (motive:=λk=>k.toInt=some i->P (.key k)) k (λ_ e=>aA2 e▸f) (λ_=>AA) e2) λs z=>AA ((bO1 AD.toInt z).symm.trans e2)
def Pa{P:AV->Prop}{σ:St}{a:AV}{q:Nat×Ÿ}(e:Dt σ a=some q)(f:σ.H.lookup q.1=some q.2->P (.ref q.1)):P a:=
 AV.casesOn (motive_1:=λa=>Dt σ a=some q->P a) a AA (λ_=>AA) (λ_=>AA) (λ_ _=>AA) (λx e=>by
  obtain⟨o',e1,rfl⟩:=AH e
  exact f e1) (λ_=>AA) (λ_=>AA) (λ_ _=>AA) (λ_=>AA) (λ_=>AA) (λ_=>AA) e
def Ÿ.lst_eq{o:Ÿ}{vs:List AV}(e:o.lst=some vs):o = .list vs:=
 Ÿ.casesOn (motive:=λo=>o.lst=some vs->o = .list vs) o (λ_ e=>bO1 _ (aA2 e)) (λ_=>AA) (λ_=>AA) (λ_ _=>AA) e
section
variable{X:Ω}{c:Ŋ}
@[elab_as_elim] theorem Aj{P:Value->Prop}{a:AV}{i:Int}{v:Value}(e:Bg a=some i)(r:Ξ X c a v)(f :∀t,P (.int i t)):P v:=by
 obtain⟨t,rfl⟩:=BP (RE (P:=λa=>Ξ X c a v->BW (.int i) v=true) e id r)
 exact f t
def CA{a:AV}{k:AD}{v:Value}(e:B7 a=some k):Ξ X c a v->BW k v=true:=Fq (P:=λa=>Ξ X c a v->BW k v=true) e id λs z q=>q.elim λt q=>z▸q.1▸bO8 s
def Ej{a:AV}{q:Nat×Ÿ}{v:Value}(e:Dt c.σ a=some q):Ξ X c a v->v = .ref (c.G.μ q.1)/\c.σ.H.lookup q.1=some q.2:=Pa (P:=λa=>Ξ X c a v->v = .ref (c.G.μ q.1)/\c.σ.H.lookup q.1=some q.2) e λh r=>⟨r.1,h⟩
def IA{a:AV}{o:Ÿ}{v:Value}(e:objOf c.σ a=some o)(R:Ł X c)(r:Ξ X c a v) :∃x,v = .ref (c.G.μ x)/\GL X c x o:=by
 obtain⟨q,e1,rfl⟩:=AH e
 exact⟨q.1,(Ej e1 r).1,R.obj q.1 q.2 (Ej e1 r).2⟩
@[elab_as_elim] theorem BE{P:Value->Prop}{a:AV}{vs:List AV}{v:Value}(e:B6 c.σ a=some vs)(R:Ł X c)(r:Ξ X c a v)(f :∀l us k,c.s.heap.get? l=some (Ao us k)->į X c vs us->P (.ref l)):P v:=by
 have ow :∀{a},Ξ X c a v->(objOf c.σ a).bind Ÿ.lst=some vs->P v:=λ{a} r e=>by
  obtain⟨o,e1,e2⟩:=AG e
  obtain⟨x,rfl,q⟩:=IA e1 R r
  rw[Ÿ.lst_eq e2]at q
  exact q.rel.casesOn λus hp hr=>hp.elim λk hp=>f _ us k.1 hp hr
 exact AV.casesOn (motive_1:=λa=>Ξ X c a v->B6 c.σ a=some vs->P v) a ow (λ_=>ow) (λ_=>ow) (λk=>SK.casesOn (motive:=λk=>∀us,Ξ X c (.seq k us) v->B6 c.σ (.seq k us)=some vs->P v) k (λ_=>ow) (λus r e=>r.casesOn λl us hv hp ho hr=>hp.elim λk hp=>hv▸f l us k.1 hp (aA2 e▸hr)) λ_=>ow) (λ_=>ow) (λ_=>ow) (λ_=>ow) (λ_ _=>ow) (λ_=>ow) (λ_=>ow) (λ_=>ow) r e
def A8.val{Q:AV->St->Prop}{av:AV}{v:Value}(t:Nat)(R:Ł X c)(r:Ξ X c av v)(q:Q av c.σ)(htk:c.s.toks<=t:=by first | assumption | repeat constructor):A8 X (Ξ X) c Q v {c.s with toks:=t}:=.to (R.toks t htk) ((R.toks t htk).pre.v r) q
theorem A8.int{Q:AV->St->Prop}{i:Int}{u:Tok}(t:Nat)(R:Ł X c)(q:Q (.int i) c.σ)(htk:c.s.toks<=t:=by first | assumption | repeat constructor):A8 X (Ξ X) c Q (.int i u) {c.s with toks:=t}:=.to (b:=AV.int i) (R.toks t htk) (bO8 i) q
def A8.newLst{Q:AV->St->Prop}{vs:List AV}{us:List Value}(t k:Nat)(R:Ł X c)(r:į X c vs us)(q:Q (.lst vs) c.σ)(htk:c.s.toks<=t:=by first | assumption | repeat constructor):A8 X (Ξ X) c Q (.ref c.s.heap.objs.size) {c.s with heap:=c.s.heap.push (Ao us k),toks:=t}:=
 .to (b:=AV.lst vs) (R.push (Ao us k) t htk) ⟨_,us,rfl,⟨(k,none),aC5 _ rfl⟩,R.gone,(R.push (Ao us k) t htk).pre.va r⟩ q
def A8.newTup{Q:AV->St->Prop}{vs:List AV}{us:List Value}(t k:Nat)(R:Ł X c)(r:į X c vs us)(q:Q (.tup vs) c.σ)(htk:c.s.toks<=t:=by first | assumption | repeat constructor):A8 X (Ξ X) c Q (.ref c.s.heap.objs.size) {c.s with heap:=c.s.heap.push (Aw us k),toks:=t}:=
 .to (b:=AV.tup vs) (R.push (Aw us k) t htk) ⟨_,us,rfl,⟨(k,none),aC5 _ rfl⟩,R.gone,(R.push (Aw us k) t htk).pre.va r⟩ q
def A8.newList{Q:AV->St->Prop}{vs:List AV}{us:List Value}(t k:Nat)(R:Ł X c)(r:į X c vs us)(q:Q (.ref c.σ.n) (c.σ.new (.list vs)))(htk:c.s.toks<=t:=by first | assumption | repeat constructor):A8 X (Ξ X) c Q (.ref c.s.heap.objs.size) {c.s with heap:=c.s.heap.push (Ao us k),toks:=t}:=
 .to (c':=c.add (.list vs) (Ao us k) t) (b:=AV.ref c.σ.n) (R.alloc (λp e=>⟨us,⟨(k,none),(bO1 _ e).trans (aC5 _ rfl)⟩,p.va r⟩) htk) ⟨bO1 _ ļ.name_mu.symm,aC6 _⟩ q
end
section
variable{L:Ci}{G:ļ}{h:aE8}{n:Nat}
def AX.len{as:List AV}{vs:List Value}(q:AX L G h n as vs):vs.length=as.length:=
 aB7 (motive:=λas=>∀vs,AX L G h n as vs->vs.length=as.length) (λ_ q=>bO1 _ q) (λa r ih vs q=>q.elim λv q=>q.elim λu q=>(bO1 _ q.1).trans (bO1 aT3 (ih u q.2.2))) as vs q
def AX.append{as bs:List AV}{vs us:List Value}(q:AX L G h n as vs)(r:AX L G h n bs us):AX L G h n (as++bs) (vs++us):=
 aB7 (motive:=λas=>∀vs,AX L G h n as vs->AX L G h n (as++bs) (vs++us)) (λvs q=>(show vs=[]from q).symm▸r) (λa l ih vs q=>q.elim λv q=>q.elim λu q=>⟨v,u++us,bO1 (· ++ us) q.1,q.2.1,ih u q.2.2⟩) as vs q
def AX.get{as:List AV}{vs:List Value}{i:Nat}{a:AV}(q:AX L G h n as vs)(e:as[i]?=some a) :∃v,vs[i]?=some v/\Ab L G h n a v:=
 aB7 (motive:=λas=>∀vs (i:Nat),AX L G h n as vs->as[i]?=some a->∃v,vs[i]?=some v/\Ab L G h n a v) (λvs i q e=>nomatch e)
  (λb l ih vs i q e=>q.elim λv q=>q.elim λu q=>by
   rw[q.1]
   cases i with
   | zero=>exact⟨v,rfl,aA2 e▸q.2.1⟩
   | succ i=>exact ih u i q.2.2 e) as vs i q e
noncomputable def Tg{α:Type}(n:Nat)(l:List α):List α:=aR2 [] (λ_ r=>l++r) n
def AX.rep{as:List AV}{vs:List Value}(q:AX L G h n as vs)(k:Nat):AX L G h n (Tg k as) (Tg k vs):=aR2 (motive:=λk=>AX L G h n (Tg k as) (Tg k vs)) rfl (λ_ ih=>q.append ih) k
end
def AS{h:aE8}{l:aC3}{us:List Value}{k:Nat}(e:h.get? l=some (Ao us k)):h.IsList l us.toArray:=⟨_,e,rfl,k,rfl⟩
def Bf{h:aE8}{l:aC3}{us:List Value}{k:Nat}(e:h.get? l=some (Aw us k)):h.IsTuple l us.toArray:=⟨_,e,rfl,k,rfl⟩
section
variable{prog:aH0}{w:aC7}{A:aK5}{E:Value->aA8->Prop}{Q:Value->aA8->Prop}{s:aA8}{l l':aC3}{us us':List Value}{k k':Nat}
def On(h:s.heap.get? l=some (Ao us k))(h':s.heap.get? l'=some (Ao us' k'))(hz:us.length+us'.length<=aR5)(q:Q (.ref s.heap.objs.size) {s with heap:=s.heap.push (Ao (us++us') 0)}) :
  aD7 (aE5 prog w) A (binaryOp .Add (.ref l) (.ref l')) Q E s:=
 concat_meets ⟨_,h,rfl⟩ ⟨_,h',rfl⟩ noFill_list_add seq_list_add PySem.F.slot_list_add PySem.F.entry_list_add (PySem.F.args_list_add_2 _ _) (list_addW l l' us.toArray us'.toArray k k' none none #[] #[] hz) ⟨h,h',(List.append_toArray us us').symm▸q⟩
end
noncomputable def AD.toStr:AD->Option Str
 | .str i=>some i
 | .int _=>none
def DC(a:AV):Option Str:=(B7 a).bind AD.toStr
noncomputable def I4(a:AV):Option Str:=match a with
 | .txt s=>some s
 | _=>none
section
variable{X:Ω}{c:Ŋ}{a:AV}
def Rm{P:AV->Prop}{a:AV}{i:Str}(e:DC a=some i)(f:P (.str i))(g:P (.txt i)):P a:=by
 obtain⟨k,e1,e2⟩:=AG e
 exact Fq e1 (AD.casesOn (motive:=λk=>k.toStr=some i->P (.key k)) k (λ_=>AA) (λ_ e=>aA2 e▸f) e2) λs z=>aA2 ((bO1 AD.toStr z).symm.trans e2)▸g
@[elab_as_elim] theorem Bl{P:Value->Prop}{a:AV}{i:Str}{v:Value}(e:DC a=some i)(r:Ξ X c a v)(f :∀t,P (.str i t)):P v:=by
 obtain⟨t,rfl⟩:=BR (Rm (P:=λa=>Ξ X c a v->BW (.str i) v=true) e id (λq=>q.elim λt q=>q.1▸bO8 i) r)
 exact f t
def HG{i:Str}{v:Value}(e:I4 a=some i)(r:Ξ X c a v) :∃t,v = .str i t/\t≠0/\c.G.τ t=some i:=
 AV.casesOn (motive_1:=λa=>I4 a=some i->Ξ X c a v->∃t,v = .str i t/\t≠0/\c.G.τ t=some i) a AA (λ_=>AA) (λ_=>AA) (λ_ _=>AA) (λ_=>AA) (λ_=>AA) (λ_=>AA) (λ_ _=>AA) (λ_=>AA) (λ_=>AA) (λs e r=>aA2 e▸r) e r
noncomputable def XA(τ:Tok->Option Str)(n:Tok)(z:Str):Tok->Option Str:=λt=>bif t==n then some z else τ t
noncomputable def Ŋ.told(c:Ŋ)(z:Str):Ŋ:=⟨c.G.tau (XA c.G.τ c.s.toks z),c.σ,{c.s with toks:=c.s.toks+1}⟩
def VZ{τ:Tok->Option Str}{n:Tok}{z:Str}:XA τ n z n=some z:=bO1 (cond · (some z) (τ n)) (bO8 n)
def NY{τ:Tok->Option Str}{n t:Tok}{z:Str}(h:t≠n):XA τ n z t=τ t:=bO1 (cond · (some z) (τ t)) (beq_eq_false_iff_ne.mpr h)
theorem Ł.told(R:Ł X c)(z:Str):Ct X c (c.told z):=
 R.more (λ_ _ e=>e) (aB6 _) (λ_ _=>rfl) R.ownLt (λ_ _=>⟨rfl,rfl⟩) (aB6 _) rfl rfl rfl rfl (λ_ _=>.inl) (λt s e=>(NY (aE2 (R.tk t s e))).trans e)
  (λt s e=>(aN7 (t=c.s.toks)).elim (λz=>.inr (z▸aC6 _)) λz=>.inl ((NY z).symm.trans e)) (aI3 _)
theorem Ł.txt(R:Ł X c)(z:Str):Ξ X (c.told z) (.txt z) (.str z c.s.toks):=⟨_,rfl,aJ8 (aD5 (aE9 _) (R.tk _ _ R.tk0.1)),VZ⟩
end
def ED(op:bF0)(a b:AV)(σ:St)(Q:AV->St->Prop):Prop:=match op with
 | .Add=>aD9 (aD9 (Ap (B6 σ a) λxs=>Ap (B6 σ b) λys=>AF (xs.length+ys.length)/\Q (.lst (xs++ys)) σ) (λx=>Ap (DC b) λy=>(x.length≠0/\x.length+y.length<=1000000)/\Q (.txt (x++y)) σ) (I4 a)) (λx=>Ap (Bg b) λy=>Q (.int (x+y)) σ) (Bg a)
 | .Sub=>Ap (Bg a) λx=>Ap (Bg b) λy=>Q (.int (x-y)) σ
 | .Mod=>Ap (Bg a) λx=>Ap (Bg b) λy=>y≠0/\Q (.int (x.fmod y)) σ
 | .FloorDiv=>Ap (Bg a) λx=>Ap (Bg b) λy=>y≠0/\aK1 x y=false/\Q (.int (x.fdiv y)) σ
 | _=>False
def XS(op:bF0)(a b:AV)(σ:St)(Q:AV->St->Prop):Prop:=match op with
 | .Add=>Ap (Bg a) λx=>Ap (Bg b) λy=>Q (.int (x+y)) σ
 | _=>False
def gG(op:bH8)(a:AV)(σ:St)(Q:AV->St->Prop):Prop:=match op with
 | .USub=>Ap (Bg a) λx=>Q (.int (-x)) σ
 | _=>False
section
variable{X:Ω}{c:Ŋ}{a b:AV}{Q:AV->St->Prop}{va vb:Value}
def Az{α:Type}{o:Option α}{A:Prop}{B:α->Prop}{P:Prop}(h:aD9 (motive:=λ_=>Prop) A B o)(f:A->P)(g :∀x,o=some x->B x->P):P:=by
 cases o with
 | none=>exact f h
 | some x=>exact g x rfl h
def X7{x y:Str}(h:(x.length≠0/\x.length+y.length<=1000000)/\Q (.txt (x++y)) c.σ)(e1:I4 a=some x)(e2:DC b=some y)(R:Ł X c)(ra:Ξ X c a va)(rb:Ξ X c b vb):Ħ X c Q (binaryOp .Add va vb):=by
 obtain⟨t,rfl,t1,t2⟩:=HG e1 ra
 refine Bl e2 rb λu=>PySem.P.add_str ?_
 rw[bO3 (λz=>h.1.1 (aE6 z))]
 by_cases hy:(y.length==0)=true
 ·rw[bO2 hy]
  have e:x++y=x:=bO1 Str.mk (by rw[aR4 (aE6 hy)];exact Array.append_empty)
  exact .here (b:=AV.txt (x++y)) R (e.symm▸⟨t,rfl,t1,t2⟩) h.2
 ·rw[bO3 hy]
  exact⟨aA0 (aB9 Array.size_append) (aA0 h.1.2 (by decide)),.to (c':=c.told (x++y)) (b:=AV.txt (x++y)) (R.told _) (R.txt _) h.2⟩
def fZ{op:bF0}(h:ED op a b c.σ Q)(R:Ł X c)(ra:Ξ X c a va)(rb:Ξ X c b vb):Ħ X c Q (binaryOp op va vb):=
 bF0.casesOn (motive:=λop=>ED op a b c.σ Q->Ħ X c Q (binaryOp op va vb)) op
  (λh=>Az h (λh=>Az h (λh=>AE h λxs e1 h=>AE h λys e2 h=>BE e1 R ra λl us k p1 ŝ=>BE e2 R rb λl' us' k' p3 p4=>On p1 p3 (h.1.line (ŝ.len▸p4.len▸rfl)) (.newLst _ 0 R (ŝ.append p4) h.2))
    λx e1 h=>AE h λy e2 h=>X7 h e1 e2 R ra rb)
   λx e1 h=>AE h λy e2 h=>Aj e1 ra λt=>Aj e2 rb λu=>add_int (.int _ R h))
  (λh=>AE h λx e1 h=>AE h λy e2 h=>Aj e1 ra λt=>Aj e2 rb λu=>PyProof.Rows.sub_int' (.int _ R h))
  aA9
  aA9 aA9
  (λh=>AE h λx e1 h=>AE h λy e2 h=>Aj e1 ra λt=>Aj e2 rb λu=>mod_int' h.1 (.int _ R h.2))
  aA9
  aA9 aA9 aA9 aA9 aA9
  (λh=>AE h λx e1 h=>AE h λy e2 h=>Aj e1 ra λt=>Aj e2 rb λu=>floordiv_int h.1 (.int _ R h.2.2) (.inl h.2.1)) h
def gH{op:bF0}(h:XS op a b c.σ Q)(R:Ł X c)(ra:Ξ X c a va)(rb:Ξ X c b vb):Ħ X c Q (inplaceOp op va vb):=by
 cases op with
 | Add=>exact AE h λx e1 h=>AE h λy e2 h=>Aj e1 ra λt=>Aj e2 rb λu=>iadd_int (.int _ R h)
 | _=>exact h.elim
def eX{op:bH8}(h:gG op a c.σ Q)(R:Ł X c)(ra:Ξ X c a va):Ħ X c Q (unaryOp op va):=by
 cases op with
 | USub=>exact AE h λx e1 h=>Aj e1 ra λt=>neg_int (.int _ R h)
 | _=>exact h.elim
end
end Mine
end
section
open PySem PySem.W PyProof.Rows PySem.Spec PySem.Calls PySem.SeqAt
namespace Mine
noncomputable def Dd:AV->Option (SK×List AV)
 | .seq k vs=>some (k,vs)
 | _=>none
def Ft{P:AV->Prop}{a:AV}{q:SK×List AV}(e:Dd a=some q)(f:P (.seq q.1 q.2)):P a:=
 AV.casesOn (motive_1:=λa=>Dd a=some q->P a) a AA (λ_=>AA) (λ_=>AA) (λ_ _ e=>Eq.mp (bO1 (λq:SK×List AV=>P (.seq q.1 q.2)) (aA2 e).symm) f) (λ_=>AA) (λ_=>AA) (λ_=>AA) (λ_ _=>AA) (λ_=>AA) (λ_=>AA) (λ_=>AA) e
def DB(f:AV->AV->Option Bool)(xs:List AV):List AV->Option Bool:=
 aB7 (λys=>some ys.isEmpty) (λa _ ih ys=>aB7 (some false) (λb bs _=>(f a b).bind λx=>(ih bs).map (x && ·)) ys) xs
def SK.eqs(k k':SK):Bool:=SK.rec (SK.rec true false false k') (SK.rec false true false k') false k
def Re(a b:AV):Option Bool:=(B7 a).bind λx=>(B7 b).map λy=>decide (x=y)
def S4(f:AV->AV->Option Bool)(a b:AV):Option Bool:=(Dd a).bind λp=>(Dd b).bind λq=>bif p.1.eqs q.1 then DB f p.2 q.2 else none
def GH{α:Type}(o p:Option α):Option α:=aD9 p some o
def HS(n:Nat):AV->AV->Option Bool:=aR2 (λ_ _=>none) (λ_ f a b=>GH (Re a b) (S4 f a b)) n
def Cu{α:Type}{o p:Option α}{a:α}{P:Prop}(h:GH o p=some a)(f:o=some a->P)(g:p=some a->P):P:=by
 cases o with
 | none=>exact g h
 | some x=>exact f h
def Hb{a b:AV}{r:Bool}{P:Prop}(h:Re a b=some r)(f :∀x y,B7 a=some x->B7 b=some y->decide (x=y)=r->P):P:=by
 obtain⟨x,e1,h⟩:=AG h
 obtain⟨y,e2,h⟩:=AH h
 exact f x y e1 e2 h
def K6{f:AV->AV->Option Bool}{a b:AV}{r:Bool}{P:Prop}(h:S4 f a b=some r)(g :∀p q,Dd a=some p->Dd b=some q->p.1.eqs q.1=true->DB f p.2 q.2=some r->P):P:=by
 obtain⟨p,e1,h⟩:=AG h
 obtain⟨q,e2,h⟩:=AG h
 cases hk:p.1.eqs q.1 with
 | false=>rw[hk]at h;exact AA h
 | true=>rw[hk]at h;exact g p q e1 e2 hk h
noncomputable def FI(f:Nat->Bool)(n m:Nat):Bool:=(aC2 (min n m)).all f&&n==m
def OV{g:Nat->Bool}{n m:Nat}:FI g (n+1) (m+1)=(g 0&&FI (λj=>g (j+1)) n m):=by
 unfold FI
 rw[Nat.succ_min_succ,List.range_succ_eq_map,List.all_cons,List.all_map,Bool.and_assoc]
 exact bO1 (λb=>g 0&&(_&&b)) (by rw[bG1,beq_iff_eq,beq_iff_eq,Nat.succ_inj])
def Jx{f:AV->AV->Option Bool}{xs:List AV} :∀{ys:List AV} {r:Bool},DB f xs ys=some r->∃e:Nat->Bool,(∀(j:Nat) (a b:AV),xs[j]?=some a->ys[j]?=some b->f a b=some (e j))/\r=FI e xs.length ys.length:=by
 refine aB7 (motive:=λxs=>∀{ys:List AV} {r:Bool},DB f xs ys=some r->∃e:Nat->Bool,(∀(j:Nat) (a b:AV),xs[j]?=some a->ys[j]?=some b->f a b=some (e j))/\r=FI e xs.length ys.length) (λ{ys r} h=>⟨λ_=>true,λ_ _ _=>AA,?_⟩) (λa as ih ys r h=>?_) xs
 ·rw[<-aA2 h]
  cases ys<;>rfl
 ·cases ys with
  | nil=>exact⟨λ_=>true,λ_ _ _ _=>AA,(aA2 h).symm⟩
  | cons b bs=>
   obtain⟨x,e1,h⟩:=AG h
   obtain⟨y,e2,h⟩:=AH h
   obtain⟨e,q1,ĉ⟩:=ih e2
   refine⟨λj=>aR2 x (λj _=>e j) j,λj=>?_,?_⟩
   ·cases j with
    | zero=>exact λa' b' p1 ŝ=>aA2 p1▸aA2 ŝ▸e1
    | succ j=>exact q1 j
   ·exact h▸ĉ▸(OV (g:=λj=>aR2 x (λj _=>e j) j)).symm
section
variable{L:Ci}{G:ļ}{h:aE8}{n:Nat}
def DS{a:AV}{q:SK×List AV}{v:Value}(e:Dd a=some q):Ab L G h n a v->FZ (λa us=>L.sq h a q.1 us) G (AX L G h n q.2) v:=Ft (P:=λa=>Ab L G h n a v->FZ (λa us=>L.sq h a q.1 us) G (AX L G h n q.2) v) e id
def FK{a:AV}{k:AD}{v:Value}(e:B7 a=some k):Ab L G h n a v->BW k v=true:=Fq (P:=λa=>Ab L G h n a v->BW k v=true) e id λs z q=>q.elim λt q=>z▸q.1▸bO8 s
def Kb{k k':SK}{us us':List Value}{e e':Nat×Option aC3}(z:some (W3 L k us e)=some (W3 L k' us' e')):k.cls L=k'.cls L/\us=us':=
 ⟨bO1 Obj.cls (aA2 z),bO1 (λo:Obj=>match o.data with | .seq a _=>a.toList | _=>[]) (aA2 z)⟩
def QB(m:Nat) :∀{a b:AV} {v:Value} {r:Bool},Ab L G h n a v->Ab L G h n b v->HS m a b=some r->r=true:=by
 refine aR2 (motive:=λm=>∀{a b:AV} {v:Value} {r:Bool},Ab L G h n a v->Ab L G h n b v->HS m a b=some r->r=true) (λ_ _=>AA) (λm ih a b v r q1 ĉ e=>?_) m
 refine Cu e (λe=>Hb e λx y e1 e2 e=>e▸bO5 (E8 (FK e1 q1) (FK e2 ĉ))) λe=>K6 e λp q e1 e2 hk e=>?_
 cases DS e1 q1 with
 | mk l us hv hp _ hr=>
 cases DS e2 ĉ with
 | mk l' us' hv' hp' _ hr'=>
 obtain⟨k,hp⟩:=hp
 obtain⟨k',hp'⟩:=hp'
 cases hv.symm.trans hv'
 rw[<-(Kb (hp.symm.trans hp')).2]at hr'
 obtain⟨g,g1,g2⟩:=Jx e
 rw[g2,<-hr.len,<-hr'.len]
 refine aG5.mpr ⟨bF1.mpr λj hj=>?_,bO8 _⟩
 have hj:j<us.length:=aC0 (aP2.mp hj) (Nat.min_le_left _ _)
 have a1:p.2[j]?=some (p.2[j]'(hr.len▸hj)):=aA5 _
 have a2:q.2[j]?=some (q.2[j]'(hr'.len▸hj)):=aA5 _
 obtain⟨u,u1,u2⟩:=hr.get a1
 obtain⟨u',u3,u4⟩:=hr'.get a2
 cases u1.symm.trans u3
 exact ih u2 u4 (g1 j _ _ a1 a2)
end
section
variable{L:Ci}{G:ļ}{s:aA8}{n:Nat}{A:aK5}{l l':aC3}{us us':List Value}{f:Nat->Bool}
def Ug{n m:Nat}(h:n≠m):FI f n m=false:=by
 unfold FI
 rw[beq_eq_false_iff_ne.mpr h,aP3]
def To(n:Nat):FI f n n=(aC2 n).all f:=by
 unfold FI
 rw[Nat.min_self,bO8,Bool.and_true]
def Kv{k k':Nat}(hu:A.units<cLine)(p:s.heap.get? l=some (Ao us k))(p':s.heap.get? l'=some (Ao us' k'))(he :∀j (h1:j<us.length) (h2:j<us'.length),aY0 A.in1 s us[j] us'[j] (f j)) :
  bM1 A s (.ref l) (.ref l') (FI f us.length us'.length)/\bF5 A s (.ref l) (.ref l') (!FI f us.length us'.length):=by
 by_cases hz:us.length=us'.length
 ·rw[<-hz,To]
  exact⟨bM1.lists (AS p) (AS p') hz hu he,bF5.lists (AS p) (AS p') hz hu he⟩
 ·rw[Ug hz]
  exact⟨bM1.lists_lengths (AS p) (AS p') (bne_iff_ne.mpr hz) hu,bF5.lists_lengths (AS p) (AS p') (bne_iff_ne.mpr hz) hu⟩
def N7{k k':Nat}(hu:A.units<cLine)(p:s.heap.get? l=some (Aw us k))(p':s.heap.get? l'=some (Aw us' k'))(he :∀j (h1:j<us.length) (h2:j<us'.length),aY0 A.in1 s us[j] us'[j] (f j)) :
  bM1 A s (.ref l) (.ref l') (FI f us.length us'.length)/\bF5 A s (.ref l) (.ref l') (!FI f us.length us'.length):=
 ⟨bM1.tuples (Bf p) (Bf p') hu he,bF5.tuples (Bf p) (Bf p') hu he⟩
def VS{k k':SK}(hk:k.eqs k'=true)(hu:A.units<cLine)(p:L.sq s.heap l k us)(p':L.sq s.heap l' k' us')(he :∀j (h1:j<us.length) (h2:j<us'.length),aY0 A.in1 s us[j] us'[j] (f j)) :
  bM1 A s (.ref l) (.ref l') (FI f us.length us'.length):=by
 obtain⟨e,p⟩:=p
 obtain⟨e',p'⟩:=p'
 cases k with
 | tup=>cases k' with
  | tup=>exact(N7 (k:=e.1) (k':=e'.1) hu p p' he).1
  | _=>cases hk
 | lst=>cases k' with
  | lst=>exact(Kv (k:=e.1) (k':=e'.1) hu p p' he).1
  | _=>cases hk
 | mat=>cases hk
def HR{m:Nat}(ih :∀a b va vb r,Ab L G s.heap n a va->Ab L G s.heap n b vb->HS m a b=some r->aY0 A.in1 s va vb r){xs ys:List AV}{r:Bool}(q1:AX L G s.heap n xs us)(ĉ:AX L G s.heap n ys us')(h:DB (HS m) xs ys=some r){P:Bool->Prop}
  (k :∀f:Nat->Bool,(∀j (h1:j<us.length) (h2:j<us'.length),aY0 A.in1 s us[j] us'[j] (f j))->P (FI f us.length us'.length)):P r:=by
 obtain⟨e,p1,ŝ⟩:=Jx h
 rw[ŝ,<-q1.len,<-ĉ.len]
 refine k e λj h1 h2=>?_
 have e1:xs[j]?=some (xs[j]'(q1.len▸h1)):=aA5 _
 have e2:ys[j]?=some (ys[j]'(ĉ.len▸h2)):=aA5 _
 obtain⟨v1,g1,r1⟩:=q1.get e1
 obtain⟨v2,g2,ś⟩:=ĉ.get e2
 rw[aA5 h1]at g1
 rw[aA5 h2]at g2
 cases g1;cases g2
 exact ih _ _ _ _ _ r1 ś (p1 j _ _ e1 e2)
def Sy(m:Nat) :∀(A:aK5) (a b:AV) (va vb:Value) (r:Bool),A.units+m<cLine->Ab L G s.heap n a va->Ab L G s.heap n b vb->HS m a b=some r->aY0 A s va vb r:=by
 refine aR2 (motive:=λm=>∀(A:aK5) (a b:AV) (va vb:Value) (r:Bool),A.units+m<cLine->Ab L G s.heap n a va->Ab L G s.heap n b vb->HS m a b=some r->aY0 A s va vb r) (λ_ _ _ _ _ _ _ _ _=>AA) (λm ih A a b va vb r hu q1 ĉ e=>?_) m
 refine Cu e (λe=>Hb e λx y e1 e2 e=>e▸λprog w E Q h=>MO prog w (FK e1 q1) (FK e2 ĉ) h) λe'=>K6 e' λp q e1 e2 hk e'=>?_
 by_cases hs:va=vb
 ·subst hs
  exact QB (m+1) q1 ĉ e▸aY0.same _
 have hu':A.units+1+m<cLine:=aW5 A.units m 1▸hu
 cases DS e1 q1 with
 | mk l us hv hp _ hr=>
 cases DS e2 ĉ with
 | mk l' us' hv' hp' _ hr'=>
 subst hv;subst hv'
 exact aY0.of_refs (λz=>hs (bO1 _ z)) (HR (P:=bM1 A s (.ref l) (.ref l')) (λa b va vb r p1 ŝ p3=>ih A.in1 a b va vb r hu' p1 ŝ p3) hr hr' e' λf he=>VS hk (aD5 (aD0 _ _) hu) hp hp' he)
def Yk{a b:AD}{u v:Value}(hu:BW a u=true)(hv:BW b v=true):bM1 A s u v (decide (a=b))/\bF5 A s u v (!decide (a=b)):=by
 cases a with
 | int i=>
  obtain⟨t,rfl⟩:=BP hu
  cases b with
  | int j=>obtain⟨t',rfl⟩:=BP hv;exact UM i j▸⟨.int_int _ _ _ _,.int_int _ _ _ _⟩
  | str j=>obtain⟨t',rfl⟩:=BR hv;exact⟨.int_str _ _ _ _,.int_str _ _ _ _⟩
 | str i=>
  obtain⟨t,rfl⟩:=BR hu
  cases b with
  | int j=>obtain⟨t',rfl⟩:=BP hv;exact⟨.str_int _ _ _ _,.str_int _ _ _ _⟩
  | str j=>obtain⟨t',rfl⟩:=BR hv;exact T7 i j▸⟨.str_str _ _ _ _,.str_str _ _ _ _⟩
end
def F2(a:AV):Option (List AV):=(Dd a).bind λp=>SK.rec (some p.2) none none p.1
def Se(a b:AV):Option Bool:=match a with
 | .none=>(F2 b).map λ_=>false
 | _=>none
noncomputable def Ta(a:AV):Option Bool:=match a with
 | .bool b=>some b
 | _=>none
def pV(a b:AV):Option Bool:=(Ta a).bind λx=>(Ta b).map λy=>x==y
def Nh{P:AV->Prop}{a:AV}{b:Bool}(e:Ta a=some b)(f:P (.bool b)):P a:=
 AV.casesOn (motive_1:=λa=>Ta a=some b->P a) a AA (λ_ e=>aA2 e▸f) (λ_=>AA) (λ_ _=>AA) (λ_=>AA) (λ_=>AA) (λ_=>AA) (λ_ _=>AA) (λ_=>AA) (λ_=>AA) (λ_=>AA) e
def F9(σ:St)(a b:AV):Option Bool:=GH (Re a b) (GH (pV a b) (GH ((B6 σ a).bind λxs=>(B6 σ b).bind λys=>DB (HS 8) xs ys) (GH ((F2 a).bind λxs=>(F2 b).bind λys=>DB (HS 8) xs ys) (Se a b))))
def R8{P:AV->Bool->Prop}{a b:AV}{r:Bool}(e:Se a b=some r)(f :∀vs,F2 b=some vs->P .none false):P a r:=
 AV.casesOn (motive_1:=λa=>Se a b=some r->P a r) a (λe=>DX (P:=P .none) e f) (λ_=>AA) (λ_=>AA) (λ_ _=>AA) (λ_=>AA) (λ_=>AA) (λ_=>AA) (λ_ _=>AA) (λ_=>AA) (λ_=>AA) (λ_=>AA) e
def Rv{P:AV->Prop}{a:AV}{vs:List AV}(e:F2 a=some vs)(f:P (.tup vs)):P a:=by
 obtain⟨⟨k,us⟩,e1,e⟩:=AG e
 exact Ft e1 (SK.casesOn (motive:=λk=>SK.rec (motive:=λ_=>Option (List AV)) (some us) none none k=some vs->P (.seq k us)) k (λe=>aA2 e▸f) AA AA e)
section
variable{X:Ω}{c:Ŋ}{a b:AV}{va vb:Value}
@[elab_as_elim] theorem EE{P:Value->Prop}{vs:List AV}{v:Value}(e:F2 a=some vs)(r:Ξ X c a v)(f :∀l us k,c.s.heap.get? l=some (Aw us k)->į X c vs us->P (.ref l)):P v:=
 Rv (P:=λa=>Ξ X c a v->P v) e (λr=>r.casesOn λl us hv hp _ hr=>hp.elim λk hp=>hv▸f l us k.1 hp hr) r
def a6{r:Bool}(hu:X.A.units+10<cLine)(e:F9 c.σ a b=some r)(R:Ł X c)(ra:Ξ X c a va)(rb:Ξ X c b vb):bM1 X.A c.s va vb r/\bF5 X.A c.s va vb (!r):=by
 have ih :∀a b va vb r,Ξ X c a va->Ξ X c b vb->HS 8 a b=some r->aY0 X.A.in1 c.s va vb r:=λa b va vb r=>Sy 8 X.A.in1 a b va vb r (bJ7 (aC6 _) hu)
 have hu':X.A.units<cLine:=aD5 (aD0 _ _) hu
 refine Cu e (λe=>Hb e λx y e1 e2 e=>e▸Yk (CA e1 ra) (CA e2 rb)) λe=>Cu e (λe=>?_) λe=>Cu e (λe=>?_) λe=>Cu e (λe=>?_) λe=>R8 (P:=λa r=>Ξ X c a va->bM1 X.A c.s va vb r/\bF5 X.A c.s va vb (!r)) e (λvs e2 ra=>?_) ra
 ·obtain⟨x,e1,e⟩:=AG e
  obtain⟨y,e2,rfl⟩:=AH e
  rw[Nh (P:=λa=>Ξ X c a va->va = .bool x) e1 id ra,Nh (P:=λb=>Ξ X c b vb->vb = .bool y) e2 id rb]
  exact⟨.bool_bool x y,.bool_bool x y⟩
 ·obtain⟨xs,e1,e⟩:=AG e
  obtain⟨ys,e2,e⟩:=AG e
  exact BE e1 R ra λl us k p1 ŝ=>BE e2 R rb λl' us' k' p3 p4=>HR (P:=λr=>bM1 X.A c.s (.ref l) (.ref l') r/\bF5 X.A c.s (.ref l) (.ref l') (!r)) ih ŝ p4 e λf he=>Kv hu' p1 p3 he
 ·obtain⟨xs,e1,e⟩:=AG e
  obtain⟨ys,e2,e⟩:=AG e
  exact EE e1 ra λl us k p1 ŝ=>EE e2 rb λl' us' k' p3 p4=>HR (P:=λr=>bM1 X.A c.s (.ref l) (.ref l') r/\bF5 X.A c.s (.ref l) (.ref l') (!r)) ih ŝ p4 e λf he=>N7 hu' p1 p3 he
 ·rw[show va = .none from ra]
  exact EE e2 rb λl us k p1 ŝ=>⟨.none_tuple (Bf p1) hu',.none_tuple (Bf p1) hu'⟩
end
noncomputable def Nc(a:AV):Option Bool:=match a with
 | .none=>some true
 | .fn _=>none
 | _=>some false
def Bc(vs:List AV):Option (List AD):=aB7 (some []) (λa _ ih=>(B7 a).bind λk=>ih.map (k :: ·)) vs
def JS(xs ys:List AV)(K:Bool->Prop):Prop:=Ap (Bc xs) λks=>Ap (Bc ys) λls=>K false/\(ks=ls->K true)
def K4(a:AV):Option (List AV):=(Dd a).bind λp=>SK.rec none (some p.2) none p.1
def lD(a b:AV)(K:Bool->Prop):Prop:=aD9 (Ap (K4 a) λxs=>aD9 (Ap (K4 b) λys=>JS xs ys K) (λ_=>K false) (DC b)) (λ_=>aD9 (Ap (I4 a) λx=>Ap (I4 b) λy=>x≠y/\K false) (λ_=>K false) (K4 b)) (DC a)
def PC(a b:AV)(K:Bool->Prop):Prop:=Ap (Nc a) λx=>Ap (Nc b) λy=>
 aI6 (aI6 (lD a b K) (K false) y) (K y) x
def Ke(a b:AV)(σ:St)(Q:AV->St->Prop)(f:Int->Int->Bool):Prop:=Ap (Bg a) λx=>Ap (Bg b) λy=>Q (.bool (f x y)) σ
def GJ(op:aZ5)(a b:AV)(σ:St)(Q:AV->St->Prop):Prop:=match op with
 | .Lt=>Ke a b σ Q λx y=>decide (x<y)
 | .LtE=>Ke a b σ Q λx y=>decide (x<=y)
 | .Gt=>Ke a b σ Q λx y=>decide (y<x)
 | .GtE=>Ke a b σ Q λx y=>decide (y<=x)
 | .Eq=>Ap (F9 σ a b) λr=>Q (.bool r) σ
 | .NotEq=>Ap (F9 σ a b) λr=>Q (.bool (!r)) σ
 | .Is=>PC a b λr=>Q (.bool r) σ
 | .IsNot=>PC a b λr=>Q (.bool (!r)) σ
 | _=>False
def Ee{P:AV->Prop}{a:AV}{vs:List AV}(e:K4 a=some vs)(f:P (.lst vs)):P a:=by
 obtain⟨⟨k,us⟩,e1,e⟩:=AG e
 exact Ft e1 (SK.casesOn (motive:=λk=>SK.rec (motive:=λ_=>Option (List AV)) none (some us) none k=some vs->P (.seq k us)) k AA (λe=>aA2 e▸f) AA e)
section
variable{L:Ci}{G:ļ}{h:aE8}{n:Nat}
def Oh{xs:List AV} :∀{ys:List AV} {ks ls:List AD} {us:List Value},Bc xs=some ks->Bc ys=some ls->AX L G h n xs us->AX L G h n ys us->ks=ls:=by
 refine aB7 (motive:=λxs=>∀{ys:List AV} {ks ls:List AD} {us:List Value},Bc xs=some ks->Bc ys=some ls->AX L G h n xs us->AX L G h n ys us->ks=ls) (λ{ys ks ls us} e1 e2 q1 ĉ=>?_) (λa as ih ys ks ls us e1 e2 q1 ĉ=>?_) xs
 ·have hl:=ĉ.len
  rw[show us=[]from q1]at hl
  cases ys with
  | nil=>exact aA2 (e1.symm.trans e2)
  | cons b bs=>cases hl
 ·obtain⟨v,u,rfl,a1,a2⟩:=q1
  cases ys with
  | nil=>cases ĉ
  | cons b bs=>
   obtain⟨v',u',e,b1,b2⟩:=ĉ
   cases e
   obtain⟨x,p1,e1⟩:=AG e1
   obtain⟨xs',ŝ,rfl⟩:=AH e1
   obtain⟨y,p3,e2⟩:=AG e2
   obtain⟨ys',p4,rfl⟩:=AH e2
   rw[E8 (FK p1 a1) (FK p3 b1),ih ŝ p4 a2 b2]
def FL(b:Bool)(v:Value):Prop:=(v == .none)=b/\plainIs v .none=true/\plainIs .none v=true/\(aI8==v)=b
def En{b b':Bool}{v v':Value}(q:FL b' v')(e:v=v')(z:some b'=some b):FL b v:=e▸aA2 z▸q
def M8{a:AV}{b:Bool}{v:Value}(e:Nc a=some b)(q:Ab L G h n a v):FL b v:=by
 have rf :∀{l:aC3},v = .ref l->some false=some b->FL b v:=En ⟨rfl,rfl,rfl,rfl⟩
 have bx :∀{β:Type} {P:aC3->β->Prop} {R:β->Prop},FZ P G R v->some false=some b->FL b v:=λq=>q.casesOn λ_ _ hv _ _ _=>rf hv
 exact AV.casesOn (motive_1:=λa=>Ab L G h n a v->Nc a=some b->FL b v) a (En ⟨rfl,rfl,rfl,rfl⟩) (λx=>En ⟨rfl,rfl,rfl,rfl⟩)
  (λk=>AD.casesOn (motive:=λk=>Ab L G h n (.key k) v->some false=some b->FL b v) k (λi q=>(BP q).elim λt=>En ⟨rfl,rfl,rfl,rfl⟩) λi q=>(BR q).elim λt=>En ⟨rfl,rfl,rfl,rfl⟩)
  (λ_ _=>bx) (λx q=>rf q.1) (λ_ _=>AA) (λx=>rf) (λ_ _=>bx) (λ_=>bx) (λ_=>bx) (λs q=>q.elim λt q=>En ⟨rfl,rfl,rfl,rfl⟩ q.1) q e
end
section
variable{X:Ω}{c:Ŋ}{a b:AV}{va vb:Value}
def dD{K:Bool->Prop}(h:PC a b K)(R:Ł X c)(ra:Ξ X c a va)(rb:Ξ X c b vb){Q:Bool->aA8->Prop}(hq :∀r,K r->Q r c.s):ĭ X (isSame va vb) Q c.s:=by
 refine AE h λx e1 h=>AE h λy e2 h=>?_
 have pa:=M8 e1 ra
 have pb:=M8 e2 rb
 cases x with
 | true=>
  have hv:va = .none:=aE6 pa.1
  exact aW6 (hv▸pb.2.2.1) (hv▸pb.2.2.2.symm▸hq y h)
 | false=>
  cases y with
  | true=>
   have hv:vb = .none:=aE6 pb.1
   exact aW6 (hv▸pa.2.1) (hv▸pa.1.symm▸hq false h)
  | false=>
   refine Az h (λh=>AE h λxs e1 h=>Az h (λh=>AE h λys e2 h=>AE h λks e3 h=>AE h λls e4 h=>?_) λx e2 h=>?_) λx e1 h=>Az h (λh=>AE h λx e2 h=>AE h λy e3 h=>?_) λys e2 h=>?_
   ·cases Ee (P:=λa=>Ξ X c a va->Ξ X c (.lst xs) va) e1 id ra with
    | mk l us hv hp _ hr=>
    cases Ee (P:=λb=>Ξ X c b vb->Ξ X c (.lst ys) vb) e2 id rb with
    | mk l' us' hv' hp' _ hr'=>
    subst hv;subst hv'
    obtain⟨k,hp⟩:=hp
    obtain⟨k',hp'⟩:=hp'
    by_cases hl:l=l'
    ·subst hl
     rw[<-(Kb (hp.symm.trans hp')).2]at hr'
     exact wpAny_isSame_ref_self (hq _ (h.2 (Oh e3 e4 hr hr')))
    ·exact wpAny_isSame_ref_other hl hp hp' (show aZ9 "list"≠aZ9 "tuple" by decide) (hq _ h.1)
   ·cases Ee (P:=λa=>Ξ X c a va->Ξ X c (.lst xs) va) e1 id ra with
    | mk l us hv hp _ hr=>
    subst hv
    exact Bl (P:=λvb=>ĭ X (isSame (.ref l) vb) Q c.s) e2 rb λt=>aW6 rfl (hq _ h)
   ·obtain⟨t,rfl,t1,t2⟩:=HG e2 ra
    obtain⟨u,rfl,u1,u2⟩:=HG e3 rb
    have ht:t≠u:=λz=>h.1 (aA2 (t2.symm.trans (z▸u2)))
    exact aU3 (isSame_str_other x y t u (Bool.or_eq_false_iff.mpr ⟨beq_eq_false_iff_ne.mpr t1,beq_eq_false_iff_ne.mpr u1⟩) (beq_eq_false_iff_ne.mpr ht) (beq_eq_false_iff_ne.mpr h.1)) (hq _ h.2)
   ·cases Ee (P:=λa=>Ξ X c a vb->Ξ X c (.lst ys) vb) e2 id rb with
    | mk l us hv hp _ hr=>
    subst hv
    exact Bl (P:=λva=>ĭ X (isSame va (.ref l)) Q c.s) e1 ra λt=>aW6 rfl (hq _ h)
def JA{f:Int->Int->Bool}{op:aZ5}{Q:AV->St->Prop}(h:Ke a b c.σ Q f)(R:Ł X c)(ra:Ξ X c a va)(rb:Ξ X c b vb)(g :∀{x y:Int} {t u:Tok},A8 X (Ξ X) c Q (.bool (f x y)) c.s->Ħ X c Q (aU7 op (.int x t) (.int y u))):Ħ X c Q (aU7 op va vb):=
 AE h λx e1 h=>AE h λy e2 h=>Aj e1 ra λt=>Aj e2 rb λu=>g (.here (b:=AV.bool (f x y)) R rfl h)
def fJ{op:aZ5}{Q:AV->St->Prop}(hu:X.A.units+10<cLine)(h:GJ op a b c.σ Q)(R:Ł X c)(ra:Ξ X c a va)(rb:Ξ X c b vb):Ħ X c Q (aU7 op va vb):=
 aZ5.casesOn (motive:=λop=>GJ op a b c.σ Q->Ħ X c Q (aU7 op va vb)) op
  (λh=>AE h λr e h=>(a6 hu e R ra rb).1 _ _ _ _ (.here (b:=AV.bool r) R rfl h)) (λh=>AE h λr e h=>(a6 hu e R ra rb).2 _ _ _ _ (.here (b:=AV.bool (!r)) R rfl h))
  (λh=>JA h R ra rb λq=>lt_int q) (λh=>JA h R ra rb λq=>le_int q) (λh=>JA h R ra rb λq=>gt_int q) (λh=>JA h R ra rb λq=>ge_int q)
  (λh=>ĭ.bind (dD h R ra rb λr h=>ĭ.pure (.here (b:=AV.bool r) R rfl h))) (λh=>ĭ.bind (dD h R ra rb λr h=>ĭ.pure (.here (b:=AV.bool (!r)) R rfl h))) aA9 aA9 h
end
noncomputable def LO(a:AV):Option Bool:=match a with
 | .bool b=>some b
 | .none=>some false
 | _=>none
def Ce(a:AV)(σ:St)(Q:Bool->St->Prop):Prop:=aD9 (aD9 (aD9 (Ap (B6 σ a) λvs=>AF vs.length/\Q (!vs.isEmpty) σ) (λx=>x.length<1000000/\Q ((x.length:Int) != 0) σ) (DC a)) (λi=>Q (i != 0) σ) (Bg a)) (λb=>Q b σ) (LO a)
def fits{n:Nat}(h:n<=1000000):(n:Int)<2 ^ 63:=aW7 (aJ7.mpr h) (by decide)
def Oo{α β:Type}{us:List α}{vs:List β}(h:us.length=vs.length):us.toArray.isEmpty=vs.isEmpty:=by
 cases us with
 | nil=>cases vs with
  | nil=>rfl
  | cons=>cases h
 | cons=>cases vs with
  | nil=>cases h
  | cons=>rfl
section
variable{X:Ω}{c:Ŋ}{a b:AV}{va vb:Value}
def Oe{b:Bool}(e:LO a=some b)(q:Ξ X c a va){Q:Bool->aA8->Prop}(h:Q b c.s):ĭ X (truthy va) Q c.s:=
 AV.casesOn (motive_1:=λa=>Ξ X c a va->LO a=some b->ĭ X (truthy va) Q c.s) a (λq e=>(show va = .none from q).symm▸truthy_none (aA2 e▸h)) (λx q e=>(show va = .bool x from q).symm▸aQ1 (aA2 e▸h))
  (λ_ _=>AA) (λ_ _ _=>AA) (λ_ _=>AA) (λ_ _=>AA) (λ_ _=>AA) (λ_ _ _=>AA) (λ_ _=>AA) (λ_ _=>AA) (λ_ _=>AA) q e
def KL{Q:Bool->St->Prop}(h:Ce a c.σ Q)(R:Ł X c)(ra:Ξ X c a va):ĭ X (truthy va) (A8 X Hh c Q) c.s:=
 Az h (λh=>Az h (λh=>Az h (λh=>AE h λvs e h=>BE e R ra λl us k p1 ŝ=>wpAny_truthy_list (AS p1) (fits (aA0 (aB9 ŝ.len) h.1)) (Oo ŝ.len▸A8.to (b:=!vs.isEmpty) (R.toks _) rfl h.2))
  λx e h=>Bl e ra λt=>PySem.P.truthy_str (bI8.mpr (fits (aD8 h.1))) (.to (b:=((x.length:Int) != 0)) (R.toks _) rfl h.2)) λi e h=>Aj e ra λt=>PyProof.Rows.truthy_int (A8.here (b:=(i != 0)) R rfl h)) λb e h=>Oe e ra (A8.here (b:=b) R rfl h)
end
noncomputable def Ÿ.dct:Ÿ->Option (List (AD×AV))
 | .dict es=>some es
 | _=>none
def Ei(σ:St)(a:AV):Option (List (AD×AV)):=match a with
 | .dct es=>some es
 | a=>(objOf σ a).bind Ÿ.dct
noncomputable def Ÿ.fs:Ÿ->Option (List AD)
 | .set es=>some es
 | _=>none
def Jy(σ:St)(a:AV):Option (List AD):=match a with
 | .fset es=>some es
 | a=>(objOf σ a).bind Ÿ.fs
def Ÿ.dct_eq{o:Ÿ}{vs:List (AD×AV)}(e:o.dct=some vs):o = .dict vs:=
 Ÿ.casesOn (motive:=λo=>o.dct=some vs->o = .dict vs) o (λ_=>AA) (λ_ e=>bO1 _ (aA2 e)) (λ_=>AA) (λ_ _=>AA) e
def Ÿ.fs_eq{o:Ÿ}{vs:List AD}(e:o.fs=some vs):o = .set vs:=
 Ÿ.casesOn (motive:=λo=>o.fs=some vs->o = .set vs) o (λ_=>AA) (λ_=>AA) (λ_ e=>bO1 _ (aA2 e)) (λ_ _=>AA) e
section
variable{X:Ω}{c:Ŋ}{a b:AV}{va vb:Value}
@[elab_as_elim] theorem DI{P:Value->Prop}{es:List (AD×AV)}{v:Value}(e:Ei c.σ a=some es)(R:Ł X c)(r:Ξ X c a v)(f :∀d kvs,X.L.dct c.s.heap d kvs->VD X c es kvs->P (.ref d)):P v:=by
 have ow :∀{a},Ξ X c a v->(objOf c.σ a).bind Ÿ.dct=some es->P v:=λ{a} r e=>by
  obtain⟨o,e1,e2⟩:=AG e
  obtain⟨x,rfl,q⟩:=IA e1 R r
  rw[Ÿ.dct_eq e2]at q
  exact q.rel.casesOn λus hp hr=>f _ us hp hr
 exact AV.casesOn (motive_1:=λa=>Ξ X c a v->Ei c.σ a=some es->P v) a ow (λ_=>ow) (λ_=>ow) (λ_ _=>ow) (λ_=>ow) (λ_=>ow) (λ_=>ow) (λ_ _=>ow) (λus r e=>r.casesOn λl us hv hp ho hr=>hv▸f l us hp (aA2 e▸hr)) (λ_=>ow) (λ_=>ow) r e
@[elab_as_elim] theorem HH{P:Value->Prop}{ks:List AD}{v:Value}(e:Jy c.σ a=some ks)(R:Ł X c)(r:Ξ X c a v)(f :∀d,X.L.set c.s.heap d ks->P (.ref d)):P v:=by
 have ow :∀{a},Ξ X c a v->(objOf c.σ a).bind Ÿ.fs=some ks->P v:=λ{a} r e=>by
  obtain⟨o,e1,e2⟩:=AG e
  obtain⟨x,rfl,q⟩:=IA e1 R r
  rw[Ÿ.fs_eq e2]at q
  exact f _ q.rel
 exact AV.casesOn (motive_1:=λa=>Ξ X c a v->Jy c.σ a=some ks->P v) a ow (λ_=>ow) (λ_=>ow) (λ_ _=>ow) (λ_=>ow) (λ_=>ow) (λ_=>ow) (λ_ _=>ow) (λ_=>ow) (λus r e=>r.casesOn λl _ hv hp ho hr=>hv▸f l (aA2 e▸hp)) (λ_=>ow) r e
end
section
variable{L:Ci}{G:ļ}{h:aE8}{n:Nat}
def OW(k:AD)(p:AD×Value)(r:List (AD×Value)):valueAt (p::r) k=bif k==p.1 then some p.2 else valueAt r k:=by
 unfold valueAt
 rw[List.find?_cons]
 by_cases hk:p.1=k
 ·rw[bO5 hk,<-hk,bO8];rfl
 ·rw[bO6 hk,beq_eq_false_iff_ne.mpr (bD4 hk)];rfl
def Am.look{es:List (AD×AV)}(k:AD) :∀{kvs:List (AD×Value)},Am L G h n es kvs->∀{P:Option AV->Option Value->Prop},P none none->(∀a v,Ab L G h n a v->P (some a) (some v))->P (es.lookup k) (valueAt kvs k):=by
 refine aB7 (motive:=λes=>∀{kvs:List (AD×Value)},Am L G h n es kvs->∀{P:Option AV->Option Value->Prop},P none none->(∀a v,Ab L G h n a v->P (some a) (some v))->P (es.lookup k) (valueAt kvs k)) (λ{kvs} q P p _=>(show kvs=[]from q)▸p) (λa r ih kvs q P p f=>?_) es
 obtain⟨key,a⟩:=a
 obtain⟨v,us,rfl,q1,ĉ⟩:=q
 rw[A1,OW]
 cases k==key with
 | true=>exact f a v q1
 | false=>exact ih ĉ p f
def Am.len{as:List (AD×AV)}{vs:List (AD×Value)}(q:Am L G h n as vs):vs.length=as.length:=
 aB7 (motive:=λas=>∀vs,Am L G h n as vs->vs.length=as.length) (λ_ q=>bO1 _ q) (λa r ih vs q=>q.elim λv q=>q.elim λu q=>(bO1 _ q.1).trans (bO1 aT3 (ih u q.2.2))) as vs q
def AX.pick{vs:List AV}{us:List Value}(q:AX L G h n vs us)(is:List Nat):AX L G h n (is.filterMap (vs[·]?)) (is.filterMap (us.toArray[·]?)):=by
 refine aB7 (motive:=λis=>AX L G h n (is.filterMap (vs[·]?)) (is.filterMap (us.toArray[·]?))) rfl (λi r ih=>?_) is
 cases e1:vs[i]? with
 | none=>
  rw[List.filterMap_cons_none e1,List.filterMap_cons_none (aG1.trans (aH7 (q.len▸List.getElem?_eq_none_iff.mp e1)))]
  exact ih
 | some a=>
  obtain⟨u,g1,g2⟩:=q.get e1
  rw[List.filterMap_cons_some e1,List.filterMap_cons_some (aG1.trans g1)]
  exact⟨u,_,rfl,g2,ih⟩
end
noncomputable def Dq(vs:List AV)(k:Int):Option AV:=(seqIndex? k vs.length).bind (vs[·]?)
def C1(k:Int):Prop:=-1000000<=k/\k<1000000
def U8(vs:List AV)(b:AV)(σ:St)(Q:AV->St->Prop):Prop:=Ap (Bg b) λk=>C1 k/\∃v,Dq vs k=some v/\Q v σ
def D6(x:Str):List AV:=x.cps.toList.map λc=>.str ⟨#[c]⟩
def DT(x:Str):(D6 x).length=x.cps.size:=aA6 ..
def K8{x:Str}{i c:Nat}(e:x.cps[i]?=some c):(D6 x)[i]?=some (.str ⟨#[c]⟩):=(aB3 ..).trans (bO1 (aD4 _) (aN0.trans e))
def FY(a b:AV)(σ:St)(Q:AV->St->Prop):Prop:=
 aD9 (aD9 (aD9 (Ap (Ei σ a) λes=>Ap (B7 b) λk=>∃v,es.lookup k=some v/\Q v σ) (λx=>U8 (D6 x) b σ Q) (DC a)) (λvs=>U8 vs b σ Q) (B6 σ a)) (λvs=>U8 vs b σ Q) (F2 a)
def HM(a:AV):Option (Option Int):=match a with
 | .none=>some none
 | a=>(Bg a).map some
noncomputable def AZ{α:Type}(vs:List α)(lo hi st:Option Int):List α:=
 (sliceRange (sliceBounds lo hi st vs.length).1 (sliceBounds lo hi st vs.length).2.1 (sliceBounds lo hi st vs.length).2.2).filterMap (vs[·]?)
noncomputable def H0(x:Str)(l h:Option Int):Str:=bif (aK3 l h 1 x.length).length==x.length then x else⟨((aK3 l h 1 x.length).filterMap (x.cps[·]?)).toArray⟩
def PH(a lo hi st:AV)(σ:St)(Q:AV->St->Prop):Prop:=Ap (HM lo) λl=>Ap (HM hi) λh=>Ap (HM st) λt=>
 aD9 (Ap (B6 σ a) λvs=>t≠some 0/\AF vs.length/\Q (.lst (AZ vs l h t)) σ) (λx=>(t=none/\(H0 x l h).length<=1000000)/\Q (.str (H0 x l h)) σ) (DC a)
def C1.hi{k:Int}(h:C1 k):k<2 ^ 63:=bC1 h.2 (by decide)
def C1.lo{k:Int}(h:C1 k):-(2 ^ 63)<=k:=aQ2 (by decide) h.1
section
variable{X:Ω}{c:Ŋ}{a b:AV}{va vb:Value}{Q:AV->St->Prop}
def Ru{vs:List AV}{us:List Value}{k:Int}{v:AV}(e:Dq vs k=some v)(q:į X c vs us) :∃j u,seqIndex? k us.length=some j/\us[j]?=some u/\Ξ X c v u:=by
 obtain⟨j,e1,e2⟩:=AG e
 obtain⟨u,g1,g2⟩:=q.get e2
 exact⟨j,u,q.len.symm▸e1,g1,g2⟩
def PQ{prog:aH0}{w:aC7}{A:aK5}{E:Value->aA8->Prop}{s:aA8}{l:aC3}{us:List Value}{k:Int}{t:Tok}{n j:Nat}{x:Value}{Q:Value->aA8->Prop}(hl:s.heap.get? l=some (Ao us n))(hk:C1 k)(hj:seqIndex? k us.length=some j)(hx:us[j]?=some x)(q:Q x s) :
  aD7 (aE5 prog w) A (getItem (.ref l) (.int k t)) Q E s:=by
 unfold seqIndex? at hj
 by_cases h0:k<0
 ·rw[bO2 h0]at hj
  obtain⟨h1,h2⟩:=Option.ite_none_right_eq_some.mp hj
  have h3:=(AQ h1).1
  exact wpAny_getItem_list_neg (AS hl) h0 (Int.zero_sub (us.length:Int)▸Int.sub_left_le_of_le_add (Int.add_comm k us.length▸bO7 h3)) hk.lo (aG1.trans ((aA2 h2).symm▸hx)) q
 ·rw[bO3 h0]at hj
  obtain⟨h1,h2⟩:=Option.ite_none_right_eq_some.mp hj
  exact wpAny_getItem_list (AS hl) (aS7.mp h0) hk.hi (aG1.trans ((aA2 h2).symm▸hx)) q
def Uw{x:Str}{t u:Tok}{k:Int}{v:AV}(hk:C1 k)(e:Dq (D6 x) k=some v)(hq:Q v c.σ)(R:Ł X c){value slice:Expr}(hs:subscripted slice false (.str x t) (.int k u)=operate [.str x t,.int k u] (getItem (.str x t) (.int k u))):Ħ X c Q (subscriptTail value slice (.str x t) (.int k u)):=by
 obtain⟨j,e1,e2⟩:=AG e
 rw[DT]at e1
 obtain⟨g,g1,rfl⟩:=AH ((aB3 ..).symm.trans e2)
 refine bJ8 (bI9 _ x t) PySem.F.slot_str_getitem.lookup (PySem.P.getItem_str ?_ ((bO1 (λo:Option Nat=>o.bind (x.cps[·]?)) e1).trans (aN0.symm.trans g1)) (.to (b:=AV.str ⟨#[g]⟩) (R.toks _) (bO8 _) hq)) hs
 rw[bO6 (aS7.mpr hk.lo),bO6 (bI8.mpr hk.hi)];rfl
def bQ(h:FY a b c.σ Q){value slice:Expr}(hs :∀o i,subscripted slice false o i=operate [o,i] (getItem o i))(R:Ł X c)(ra:Ξ X c a va)(rb:Ξ X c b vb):Ħ X c Q (subscriptTail value slice va vb):=
 Az h (λh=>Az h
  (λh=>Az h (λh=>AE h λes e1 h=>AE h λk e2 h=>DI e1 R ra λd kvs p1 ŝ=>h.elim λv h=>by
   have hv :∃u,valueAt kvs k=some u/\Ξ X c v u:=ŝ.look k (P:=λx y=>x=some v->∃u,y=some u/\Ξ X c v u) AA (λa u r e=>⟨u,rfl,aA2 e▸r⟩) h.1
   obtain⟨u,e3,r3⟩:=hv
   exact bJ8 p1.1.typeIs slot_dict_getitem.lookup (wpAny_getItem_of (CA e2 rb) p1.1.mapOf e3 (.val _ R r3 h.2)) (hs _ _)) λx e1 h=>AE h λk e2 h=>Bl (P:=λva=>Ħ X c Q (subscriptTail value slice va vb)) e1 ra λt=>Aj e2 rb λu=>h.2.elim λv h'=>Uw h.1 h'.1 h'.2 R (hs _ _))
  λvs e1 h=>AE h λk e2 h=>BE e1 R ra λl us n p1 ŝ=>Aj e2 rb λt=>h.2.elim λv h'=>(Ru h'.1 ŝ).elim λj z=>z.elim λu z=>bJ8 (AS p1).typeIs slot_list_getitem.lookup (PQ p1 h.1 z.1 z.2.1 (.here R z.2.2 h'.2)) (hs _ _))
 λvs e1 h=>AE h λk e2 h=>EE e1 ra λl us n p1 ŝ=>Aj e2 rb λt=>h.2.elim λv h'=>(Ru h'.1 ŝ).elim λj z=>z.elim λu z=>item_tupleT ⟨_,p1,rfl,n,rfl⟩ h.1.lo h.1.hi z.1 z.2.1 (.here R z.2.2 h'.2) (hs _ _)
def Eo{k:Option Int}(e:HM a=some k)(r:Ξ X c a va):IsPart va k:=by
 have ow :∀{a},Ξ X c a va->(Bg a).map some=some k->IsPart va k:=λ{a} r e=>by
  obtain⟨i,e1,rfl⟩:=AH e
  exact Aj e1 r λt=>.int i t
 exact AV.casesOn (motive_1:=λa=>Ξ X c a va->HM a=some k->IsPart va k) a (λq e=>(show va = .none from q)▸aA2 e▸.none) (λ_=>ow) (λ_=>ow) (λ_ _=>ow) (λ_=>ow) (λ_=>ow) (λ_=>ow) (λ_ _=>ow) (λ_=>ow) (λ_=>ow) (λ_=>ow) r e
def Il{lo hi st:Option Expr}{p:Pos}{o i:Value} :∃ops,subscripted (.Slice lo hi st p) false o i=operate ops (getItem o i):=by
 cases st<;>exact⟨_,rfl⟩
def JR{v:Value}{k:Option Int}(h:IsPart v k) :∃p:Option (Int×Tok),v=partValue p/\p.map (·.1)=k:=by
 cases h with
 | none=>exact⟨none,rfl,rfl⟩
 | int i t=>exact⟨some (i,t),rfl,rfl⟩
def gO{d e:AV}{vd ve:Value}(h:PH a b d e c.σ Q){value:Expr}{el eh et:Option Expr}{p:Pos}(R:Ł X c)(ra:Ξ X c a va)(rb:Ξ X c b vb)(rd:Ξ X c d vd)(re:Ξ X c e ve) :
  ĭ X (newFields "slice" [vb,vd,ve]) (λi s'=>ĭ X (subscriptTail value (.Slice el eh et p) va i) (A8 X (Ξ X) c Q) s') c.s:=
 AE h λl e1 h=>AE h λu e2 h=>AE h λt e3 h=>Az h (λh=>AE h λvs e0 h=>BE e0 R ra λll us n p1 ŝ=>aH2 (T:="slice") (data:=.fields #[vb,vd,ve]) (dict:=none) (by
 have x:=R.push {cls:=.type "slice",data:=.fields #[vb,vd,ve]} c.s.toks
 obtain⟨ops,hs⟩:=Il (lo:=el) (hi:=eh) (st:=et) (p:=p) (o:=.ref ll) (i:=.ref c.s.heap.objs.size)
 have l1:(c.s.heap.push {cls:=.type "slice",data:=.fields #[vb,vd,ve]}).IsList ll us.toArray:=AS (k:=n) (aB5 _ p1)
 have pk:į X c (AZ vs l u t) (slicePick us.toArray l u t).toList:=by
  unfold AZ
  rw[<-ŝ.len]
  exact ŝ.pick _
 exact bJ8 (aE8.IsList.typeIs (s:={c.s with heap:=c.s.heap.push {cls:=.type "slice",data:=.fields #[vb,vd,ve]}}) l1) slot_list_getitem.lookup
  (wpAny_getItem_list_slice l1 (aE8.IsSliceOf.new ..) (Eo e1 rb) (Eo e2 rd) (Eo e3 re) h.1 (.lift x (.newLst (c:=c.hp c.σ _ c.s.toks) _ 0 x.R (x.pre.va pk) h.2.2)) (h.2.1.line ŝ.len)) hs)) λx e0 h=>Bl (P:=λva=>ĭ X (newFields "slice" [vb,vd,ve]) (λi s'=>ĭ X (subscriptTail value (.Slice el eh et p) va i) (A8 X (Ξ X) c Q) s') c.s) e0 ra λtx=>by
 obtain⟨⟨rfl,hz⟩,hq⟩:=h
 obtain⟨pb,rfl,b1⟩:=JR (Eo e1 rb)
 obtain⟨pd,rfl,ŭ⟩:=JR (Eo e2 rd)
 obtain⟨pe,rfl,f1⟩:=JR (Eo e3 re)
 have f1:pe=none:=Option.map_eq_none_iff.mp f1
 subst f1;subst b1;subst ŭ
 refine aH2 (T:="slice") (data:=.fields #[partValue pb,partValue pd,partValue none]) (dict:=none) ?_
 have y:=R.push {cls:=.type "slice",data:=.fields #[partValue pb,partValue pd,partValue none]} c.s.toks
 obtain⟨ops,hs⟩:=Il (lo:=el) (hi:=eh) (st:=et) (p:=p) (o:=.str x tx) (i:=.ref c.s.heap.objs.size)
 refine bJ8 (bI9 _ x tx) PySem.F.slot_str_getitem.lookup (wpAny_getItem_str_slice (l:=pb) (u:=pd) (st:=none) ⟨_,aC5 _ rfl,rfl,rfl⟩ rfl ?_) hs
 unfold sliceMade
 revert hq hz
 unfold H0 slicePicked
 show _->_->(if((1:Int)==1&&((aK3 (pb.map (·.1)) (pd.map (·.1)) 1 x.length).length==x.length))=true then Made.val (.str x tx)else Made.str _).post _ _
 cases(aK3 (pb.map (·.1)) (pd.map (·.1)) 1 x.length).length==x.length with
 | true=>exact λhq hz=>.to (b:=AV.str x) y (bO8 x) hq
 | false=>exact λhq hz=>⟨aA0 hz (by decide),.to (b:=AV.str _) (y.trans (y.R.toks _)) (bO8 _) hq⟩
end
end Mine
end
section
open PySem PySem.W PyProof.Rows
namespace Mine
def Lt(s s':aA8):Prop:=s.heap.objs.size<=s'.heap.objs.size/\s.toks<=s'.toks
def Lt.rfl{s:aA8}:Lt s s:=⟨aB6 _,aB6 _⟩
def Lt.tr{a b c:aA8}(x:Lt a b)(y:Lt b c):Lt a c:=⟨aA0 x.1 y.1,aA0 x.2 y.2⟩
def Lt.up{s:aA8}{a:aC3}{f:Obj->Obj}:Lt s {s with heap:=s.heap.update a f}:=⟨aB9 (aL0 ..).symm,aB6 _⟩
def Lt.al{s:aA8}{o:Obj}:Lt s {s with heap:=s.heap.push o}:=⟨aD8 (Nat.lt_of_lt_of_eq (aC6 _) (aF8 ..).symm),aB6 _⟩
def Lt.fr{s:aA8}:Lt s {s with toks:=s.toks+1}:=⟨aB6 _,aI3 _⟩
def GM{M:bI4}{Γ:Ctx}{p:Pos}{t:Sem bN2}{fs:List Frame}{s:aA8}{e:End}{s':aA8}(h:Runs M Γ p t fs s e s'):Lt s s':=by
 induction h with
 | update _ _ ih=>exact Lt.up.tr ih
 | alloc _ ih=>exact Lt.al.tr ih
 | fresh _ ih=>exact Lt.fr.tr ih
 | _=>first | exact Lt.rfl | assumption | (rename_i a b;exact Lt.tr a b) | (rename_i a b c;exact a.tr b) | skip
def MK{M:bI4}{Γ:Ctx}{p:Pos}{g:Nat}{r:Resume}{s:aA8}{res:GenResult}{s':aA8}(h:Wakes M Γ p g r s res s'):Lt s s':=by
 unfold Wakes at h
 split at h
 ·exact h.elim
 ·split at h
  ·obtain⟨e₁,s₁,h1,_,_,rfl⟩:=h
   have:=GM h1;exact this
  ·rw[h.2];exact Lt.rfl
  ·rw[h.2];exact Lt.rfl
 ·obtain⟨e₁,s₁,h1,_,_,rfl⟩:=h
  have:=GM h1;exact this
 ·rw[h.2];exact Lt.rfl
 ·rw[h.2];exact Lt.rfl
def Uo{α:Type}{M:bI4}{Γ:Ctx} :∀(t:Sem α) {Q:α->Pos->aA8->Prop} {E:Value->Pos->aA8->Prop} {p:Pos} {s:aA8} (n:aA8),Lt n s->aN3 M Γ t Q E p s->aN3 M Γ t (λa p' s'=>Q a p' s'/\Lt n s') (λa p' s'=>E a p' s'/\Lt n s') p s:=by
 intro t
 induction t with
 | pure a=>intro Q E p s n hn h;unfold aN3 at h ⊢;exact⟨h,hn⟩
 | raise a=>intro Q E p s n hn h;unfold aN3 at h ⊢;exact⟨h,hn⟩
 | unsupported=>intro Q E p s n hn h;unfold aN3 at h;exact h.elim
 | finish=>intro Q E p s n hn h;unfold aN3 at h;exact h.elim
 | register=>intro Q E p s n hn h;unfold aN3 at h;exact h.elim
 | yield=>intro Q E p s n hn h;unfold aN3 at h;exact h.elim
 | fork=>intro Q E p s n hn h;unfold aN3 at h;exact h.elim
 | await=>intro Q E p s n hn h;unfold aN3 at h;exact h.elim
 | rule tag k ih=>intro Q E p s n hn h;unfold aN3 at h ⊢;exact ih _ n hn h
 | «at» p' k ih=>intro Q E p s n hn h;unfold aN3 at h ⊢;exact ih _ n hn h
 | load a pt k ih=>intro Q E p s n hn h;unfold aN3 at h ⊢;obtain⟨o,h1,h2⟩:=h;exact⟨o,h1,ih _ n hn h2⟩
 | update a pt f k ih=>intro Q E p s n hn h;unfold aN3 at h ⊢;exact⟨h.1,ih _ n (hn.tr Lt.up) h.2⟩
 | loadIfAlive a k ih=>intro Q E p s n hn h;unfold aN3 at h ⊢;exact ih _ n hn h
 | point l k ih=>intro Q E p s n hn h;unfold aN3 at h ⊢;exact ih _ n hn h
 | alloc o k ih=>intro Q E p s n hn h;unfold aN3 at h ⊢;exact ih _ n (hn.tr Lt.al) h
 | fresh k ih=>intro Q E p s n hn h;unfold aN3 at h ⊢;exact ih _ n (hn.tr Lt.fr) h
 | ask k ih=>intro Q E p s n hn h;unfold aN3 at h ⊢;exact ih _ n hn h
 | choose src m k ih=>intro Q E p s n hn h;unfold aN3 at h ⊢;exact⟨h.1,ih _ n hn h.2⟩
 | os q l k ih=>intro Q E p s n hn h;unfold aN3 at h ⊢;exact ih _ n hn h
 | call c hd g l k ih=>
  intro Q E p s n hn h
  unfold aN3 at h ⊢
  obtain⟨r,s',h1,h2⟩:=h
  exact⟨r,s',h1,ih r n (hn.tr (GM h1)) h2⟩
 | handled own k ih=>intro Q E p s n hn h;unfold aN3 at h ⊢;exact ih _ n hn h
 | genState g k ih=>intro Q E p s n hn h;unfold aN3 at h ⊢;obtain⟨o,h1,h2⟩:=h;exact⟨o,h1,ih _ n hn h2⟩
 | newGen c k ih=>intro Q E p s n hn h;unfold aN3 at h ⊢;exact ih _ n hn h
 | resume g r l k ih=>
  intro Q E p s n hn h
  unfold aN3 at h ⊢
  obtain⟨res,s',h1,h2⟩:=h
  exact⟨res,s',h1,ih res n (hn.tr (MK h1)) h2⟩
 | stack k ih=>intro Q E p s n hn h;unfold aN3 at h ⊢;exact ih _ n hn h
 | thread k ih=>intro Q E p s n hn h;unfold aN3 at h ⊢;exact ih _ n hn h
section
variable{α:Type}{M:bI4}{A:aK5}{t:Sem α}{Q:α->aA8->Prop}{E:Value->aA8->Prop}{s:aA8}
def MI(h:aD7 M A t Q E s):aD7 M A t (λa s'=>Q a s'/\Lt s s') (λe s'=>E e s'/\Lt s s') s:=λΓ p hΓ=>Uo t _ Lt.rfl (h Γ p hΓ)
def F4(h:aD7 M A t (λa s'=>Lt s s'->Q a s') E s):aD7 M A t Q E s:=aN2 (MI h) (λa s' h'=>h'.1 h'.2) λe s' h'=>h'.1
def Hd(h:aD7 M A t (λa s'=>s.heap.objs.size<=s'.heap.objs.size->Q a s') E s):aD7 M A t Q E s:=F4 (aN2 h (λ_ _ f l=>f l.1) λ_ _=>id)
end
end Mine
end
section
open PySem PySem.W PyProof.Rows PySem.Spec PySem.Calls PySem.SeqAt
namespace Mine
structure MatC(h₀:aE8)(C:aC3):Prop where
 iter :∀M,aF0 M h₀ (aI9 (.ref C) "__iter__") (some (.builtin "tuple.__iter__"))
 sub :∀M,aF0 M h₀ (aR6 (.ref C) (.type "tuple")) true
section
variable{prog:aH0}{w:aC7}{A:aK5}{E:Value->aA8->Prop}{s:aA8}{h₀:aE8}{C m:aC3}{us:List Value}{k:Nat×Option aC3}
def HI{M:bI4}{Q:Value->aA8->Prop}(hm:s.heap.get? m=some (B4 C us k))(h:Q (.ref C) s):aD7 M A (typeOf (.ref m)) Q E s:=
 aA3 (aY2 hm (aA7 h))
def Cm{M:bI4}{name:Str}{r:Option Value}{Q:Option Value->aA8->Prop}(hm:s.heap.get? m=some (B4 C us k))(hk :∀b o,h₀.get? b=some o->s.heap.get? b=some o)
  (hl:aF0 M h₀ (aI9 (.ref C) name) r) (h:Q r s):aD7 M A (bC8 (.ref m) name) Q E s:=
 aA3 (HI hm (hl A Q E s hk h))
def Sn{M:bI4}(hc:MatC h₀ C)(hm:s.heap.get? m=some (B4 C us k))(hk :∀b o,h₀.get? b=some o->s.heap.get? b=some o):aF0 M s.heap (bA0 (.ref m) (.type "tuple")) true:=
 λA Q E s' k' q=>aA3 (HI (k' _ _ hm) ((hc.sub M) A Q E s' (λb o e=>k' _ _ (hk b o e)) q))
def OE{M:bI4}{name:Str}{id:String}{args:List Value}{Q:Option Value->aA8->Prop}(hm:s.heap.get? m=some (B4 C us k))(hk :∀b o,h₀.get? b=some o->s.heap.get? b=some o)
  (hl:aF0 M h₀ (aI9 (.ref C) name) (some (.builtin id))) (hb :∀self,bindSpecial (.builtin id) self=pure (.builtin id,[self]))
  (hc:aD7 M A (call (.builtin id) (.ref m::args)) (λv=>Q (some v)) E s):aD7 M A (callSpecialIfBound? (.ref m) name args) Q E s:=by
 simp only[callSpecialIfBound?,bindSpecialIfBound?]
 refine aK8 (aA3 (aA3 (Cm hm hk hl ?_)))
 simp only[hb]
 refine aA3 (aU8 (wpAny_ite ?_))
 have fin:aD7 M A (call (.builtin id) ([.ref m]++args) >>= λv=>pure (some v)) Q E s:=
  aA3 (aN2 hc (λv s' h'=>aA7 h') λ_ _ h'=>h')
 split
 ·exact aA3 (aA7 (aA7 fin))
 ·exact bG7 (aA3 (aA7 (aA7 fin)))
def Lz{M:bI4}{name:Str}{id:String}{refuse:Sem Value}{Q:Option Value->aA8->Prop}(hm:s.heap.get? m=some (B4 C us k))(hk :∀b o,h₀.get? b=some o->s.heap.get? b=some o)
  (hl:aF0 M h₀ (aI9 (.ref C) name) (some (.builtin id))) (hb :∀self,bindSpecial (.builtin id) self=pure (.builtin id,[self]))
  (hc:aD7 M A (call (.builtin id) [.ref m]) (λv=>Q (some v)) E s):aD7 M A (callSpecialIfBoundUnlessNone? (.ref m) name refuse) Q E s:=by
 simp only[callSpecialIfBoundUnlessNone?,bindSpecialIfBound?]
 refine aK8 (aA3 (aA3 (Cm hm hk hl ?_)))
 simp only[hb]
 refine aA3 (aU8 (wpAny_ite ?_))
 have fin:aD7 M A (if(Value.builtin id==aI8)=true then(refuse >>= λv=>pure (some v))else(call (.builtin id) [.ref m] >>= λv=>pure (some v))) Q E s:=by
  simp only[builtin_beq_none,aH5,if_false]
  exact aA3 (aN2 hc (λv s' h'=>aA7 h') λ_ _ h'=>h')
 split
 ·exact aA3 (aA7 (aA7 fin))
 ·exact bG7 (aA3 (aA7 (aA7 fin)))
end
def Hw(h:aE8)(t:aC3)(items:Array Value):Prop:=∃o n,h.get? t=some o/\o.data = .seq items n
section
variable{prog:aH0}{w:aC7}{A:aK5}{E:Value->aA8->Prop}{s:aA8}
def Nt{it t:aC3}{i:Nat}{items:Array Value}{x:Value}{Q:Option Value->aA8->Prop}(hit:s.heap.IsTupleIter it t i)
  (ht:Hw s.heap t items) (hx:items[i]?=some x)
  (hQ :∀h',h'.IsTupleIter it t (i+1)->aH6 it s.heap h'->Q (some x) {s with heap:=h'}) :
  aD7 (aE5 prog w) A (aV3 (.ref it)) Q E s:=by
 obtain⟨o,ho,hc,hd⟩:=id hit
 obtain⟨ol,nl,hol,hdl⟩:=ht
 unfold aV3
 refine aA3 (bA4 (aJ0 (name:=aA1 "__next__") hit.typeIs aK4
  (aG9 aK4 hit.typeIs PySem.F.entry_tuple_iterator_next ?_ (PySem.F.args_tuple_iterator_next_1 _))))
 show aD7 _ _ (field (.ref it) 0 >>= _) _ _ s
 refine aA3 (aU4 ho hd (x:=.ref t) rfl ?_)
 show aD7 _ _ (if(aM8 t==aI8)=true then _ else _) _ _ s
 rw[bO3 (show ¬ ((aM8 t==aI8)=true)from aK6)]
 show aD7 _ _ (field (.ref it) 1 >>= _) _ _ s
 refine aA3 (aU4 ho hd (x:=.int i 0) rfl ?_)
 show aD7 _ _ (seqItems? (.ref t) >>= _) _ _ s
 refine aA3 (aY3 hol hdl ?_)
 simp only[aO4,hx]
 refine aA3 (aR7 ho hd (by simp) (aA7 ⟨x,rfl,aA7 (hQ _ ?_ (aM9 ..))⟩))
 exact⟨_,aK2 _ ho (Obj.isFreed_of_fields (Obj.data_mapFields hd _)),(Obj.cls_mapFields ..).trans hc,by
  rw[Obj.data_mapFields hd];simp[bK8]⟩
def RZ{it t:aC3}{i:Nat}{items:Array Value}{Q:Option Value->aA8->Prop}(hh:A.handled=none)
  (hit:s.heap.IsTupleIter it t i) (ht:Hw s.heap t items) (hx:items[i]?=none)
  (hQ :∀h',aX6 it s.heap h'->s.heap.objs.size<=h'.objs.size->Q none {s with heap:=h'}):aD7 (aE5 prog w) A (aV3 (.ref it)) Q E s:=by
 obtain⟨o,ho,hc,hd⟩:=id hit
 obtain⟨ol,nl,hol,hdl⟩:=ht
 unfold aV3
 refine aA3 (bA4 (aJ0 (name:=aA1 "__next__") hit.typeIs aK4
  (aG9 aK4 hit.typeIs PySem.F.entry_tuple_iterator_next ?_ (PySem.F.args_tuple_iterator_next_1 _))))
 show aD7 _ _ (field (.ref it) 0 >>= _) _ _ s
 refine aA3 (aU4 ho hd (x:=.ref t) rfl ?_)
 show aD7 _ _ (if(aM8 t==aI8)=true then _ else _) _ _ s
 rw[bO3 (show ¬ ((aM8 t==aI8)=true)from aK6)]
 show aD7 _ _ (field (.ref it) 1 >>= _) _ _ s
 refine aA3 (aU4 ho hd (x:=.int i 0) rfl ?_)
 show aD7 _ _ (seqItems? (.ref t) >>= _) _ _ s
 refine aA3 (aY3 hol hdl ?_)
 simp only[aO4,hx]
 refine aA3 (bJ0 (aA3 (aR7 ho hd (by simp) ?_)))
 show aD7 _ _ (newExc (.type "StopIteration") [] >>= _) _ _ _
 refine aA3 ?_
 simp only[newExc,newTuple]
 refine aA3 (aH2 ?_ (by size_fits))
 refine aA3 (m:=aU5 _ _) (aU3 (a:=aI8) (by first | rfl | (simp only[aU5];rfl)) ?_)
 refine aH2 ?_ (by size_fits)
 simp only[raiseNew]
 refine aA3 (bI5 ?_)
 first | rw[show A.in1.handled=none from hh] | rw[hh]
 refine aA3 (aA7 (bL1 ?_))
 refine aA3 (aU9 (T:="StopIteration") (b:=true) ⟨_,aC5 _ rfl,rfl⟩ bG8 ?_)
 refine aA7 (hQ _ (((aM9 ..).extBut.push _).push _) ?_)
 rw[aF8,aF8,aL0]
 exists 1,0x18180aa00
theorem KP{it t:aC3}{items:Array Value}(hne:t≠it) :∀(n i:Nat) (s:aA8) (Q:List Value->aA8->Prop),s.heap.IsTupleIter it t i->Hw s.heap t items->i+n<=items.size->
  (∀h',h'.IsTupleIter it t (i+n)->aH6 it s.heap h'->Q ((items.toList.drop i).take n) {s with heap:=h'})->aD7 (aE5 prog w) A (draw (.ref it) n) Q E s
 | 0,i,s,Q,hit,_,_,hQ=>by
  show aD7 _ _ (pure []) Q E s
  exact aA7 (by simpa using hQ s.heap hit (aH6.refl ..))
 | n+1,i,s,Q,hit,ht,hle,hQ=>by
  have hlt:i<items.size:=by exists 3,0x2012181a0a08,hle
  show aD7 _ _ (aV3 (.ref it) >>= _) Q E s
  refine aA3 (Nt hit ht (x:=items[i]) (by simp[hlt]) λh₁ hit₁ hs₁=>?_)
  have ht₁:Hw h₁ t items:=let⟨o,n,e,r⟩:=ht;⟨o,n,(hs₁.2 t hne).trans e,r⟩
  refine aA3 (aK8 (KP hne n (i+1) _ _ hit₁ ht₁ (by exists 3,0x21180aa02181a0a08,hle) λh₂ hit₂ hs₂=>aA7 ?_))
  have hd:items.toList.drop i=items[i]::items.toList.drop (i+1):=by simp[aL2,hlt]
  have:=hQ h₂ (by rw[show i+(n+1)=i+1+n by exists 2,0x1180aa181a0a2];exact hit₂) (hs₁.trans hs₂)
  rw[hd,List.take_succ_cons]at this
  exact this
def LP{t:aC3}{items:Array Value}{Q:List Value->aA8->Prop}(hh:A.handled=none)(ht:Hw s.heap t items)
  (hn :∀{Q:Bool->aA8->Prop} {E},Q false s->aD7 (aE5 prog w) A (notIterableAtAll (.ref t)) Q E s)
  (hi :∀{Q:Value->aA8->Prop} {E},Q (.ref s.heap.objs.size) {s with heap:=s.heap.push {cls:=.type "tuple_iterator",data:=.fields #[.ref t,.int 0 0]}}->aD7 (aE5 prog w) A (aM3 (.ref t)) Q E s)
  (hQ :∀h',(∀b o,s.heap.get? b=some o->h'.get? b=some o)->s.heap.objs.size<=h'.objs.size->Q items.toList {s with heap:=h'}):aD7 (aE5 prog w) A (bG9 (.ref t) items.size none) Q E s:=by
 have hlt:t≠s.heap.objs.size:=by obtain⟨o,n,ho,_⟩:=ht;exact aE2 (aK9 ho)
 unfold bG9
 refine aA3 (hn ?_)
 simp only[aH5,if_false]
 refine aA3 (aK8 (hi ?_))
 have ht0:Hw (s.heap.push {cls:=.type "tuple_iterator",data:=.fields #[.ref t,.int 0 0]}) t items:=let⟨o,n,e,r⟩:=ht;⟨o,n,aB5 _ e,r⟩
 refine aA3 (aK8 (KP hlt items.size 0 _ _ ⟨_,aC5 _ rfl,rfl,rfl⟩ ht0 (by exists 1,0x8a0) λh₁ hit₁ hs₁=>?_))
 have hall:bF2 items.size (bA1 0 items.toList)=items.toList:=by
  rw[bH0];exact List.take_of_length_le (by simp)
 rw[hall]
 rw[bO3 (by simp)]
 have ht₁:Hw h₁ t items:=let⟨o,n,e,r⟩:=ht0;⟨o,n,(hs₁.2 t hlt).trans e,r⟩
 refine aA3 (aK8 (RZ hh hit₁ ht₁ (by simp) λh₂ he₂ hsz=>?_))
 simp only[Option.isSome_none,aH5,if_false]
 refine aA7 (hQ h₂ (λb o e=>?_) ?_)
 ·have hb:b≠s.heap.objs.size:=aE2 (aK9 e)
  exact he₂ b o hb (hs₁.extBut b o hb (aB5 _ e))
 ·have:=hs₁.1
  rw[aF8]at this
  dsimp only at hsz this
  exists 3,0x120182a0281008,hsz,this
end
section
variable{prog:aH0}{w:aC7}{A:aK5}{E:Value->aA8->Prop}{s:aA8}{h₀:aE8}{C m:aC3}{us:List Value}{k:Nat×Option aC3}
def DV{id n:String}{B:aE3}{rest:List Value}{Q:Value->aA8->Prop}(hc:MatC h₀ C)(hm:s.heap.get? m=some (B4 C us k))(hk :∀b o,h₀.get? b=some o->s.heap.get? b=some o)
  (plain:plainId id=true) (kind:bH1 id=some .slot) (split:splitId id=some ("tuple",n)) (entry:bA7 table id=some B) (args:aW8 id ⟨.ref m::rest,[]⟩)
  (h:aD7 (aE5 prog w) A.in1 (B ⟨.ref m::rest,[]⟩) (λfin s'=>∃v,fin = .done (.ret v)/\Q v s') E s):aD7 (aE5 prog w) A (call (.builtin id) (.ref m::rest)) Q E s:=by
 refine aW9 (aO0 plain entry (bM2 kind split (Sn hc hm hk) args (aN2 h (λfin s' h'=>?_) λ_ _ h'=>h')))
 obtain⟨v,rfl,hv⟩:=h';exact hv
def Qy{Q:Value->aA8->Prop}(hc:MatC h₀ C)(hm:s.heap.get? m=some (B4 C us k))(hk :∀b o,h₀.get? b=some o->s.heap.get? b=some o)
  (hQ:Q (.ref s.heap.objs.size) {s with heap:=s.heap.push {cls:=.type "tuple_iterator",data:=.fields #[.ref m,.int 0 0]}}):aD7 (aE5 prog w) A (aM3 (.ref m)) Q E s:=by
 unfold aM3
 refine aA3 (Cm hm hk (hc.iter _) ?_)
 show aD7 _ A (callSpecialIfBoundUnlessNone? (.ref m) "__iter__" _ >>= _) Q E s
 refine aA3 (Lz hm hk (hc.iter _) aX7.bind (DV (n:="__iter__") hc hm hk aX7.plain (by decide +kernel) (by decide +kernel) PySem.F.entry_tuple_iter (PySem.F.args_tuple_iter_1 _) ?_))
 show aD7 _ _ (do ret (<-newFields "tuple_iterator" [.ref m,bK8 0])) _ _ s
 refine aA3 (aH2 (aA7 ⟨_,rfl,?_⟩))
 have hT:aA8.TypeIs {s with heap:=s.heap.push {cls:=.type "tuple_iterator",data:=.fields #[.ref m,.int 0 0]}} (.ref s.heap.objs.size) "tuple_iterator":=⟨_,aC5 _ rfl,rfl⟩
 exact aA3 (bB2 hT aK4.lookup (aA7 hQ))
end
def Oz(a:AV)(k:Nat)(σ:St)(Q:List AV->St->Prop):Prop:=Ap (Dd a) λp=>SK.rec (p.2.length=k/\Q p.2 σ) False (p.2.length=k/\Q p.2 σ) p.1
section
variable{X:Ω}{c:Ŋ}{a:AV}{va:Value}
def V8{k:Nat}{Q:List AV->St->Prop}(hh:X.A.handled=none)(hc:MatC X.h₀ X.L.C)(h:Oz a k c.σ Q)(R:Ł X c)(ra:Ξ X c a va):ĭ X (bG9 va k none) (A8 X (į X) c Q) c.s:=by
 refine AE h λp e h=>?_
 have q:=DS e ra
 obtain⟨kd,vs⟩:=p
 cases q with
 | mk l us hv hp _ hr=>
 subst hv
 obtain⟨n,hp⟩:=hp
 have fin :∀{k},vs.length=k/\Q vs c.σ->(∀{Q:Bool->aA8->Prop} {E},Q false c.s->aD7 (aE5 X.L.prog X.L.w) X.A (notIterableAtAll (.ref l)) Q E c.s)->
   (∀{Q:Value->aA8->Prop} {E},Q (.ref c.s.heap.objs.size) {c.s with heap:=c.s.heap.push {cls:=.type "tuple_iterator",data:=.fields #[.ref l,.int 0 0]}}->aD7 (aE5 X.L.prog X.L.w) X.A (aM3 (.ref l)) Q E c.s)->ĭ X (bG9 (.ref l) k none) (A8 X (į X) c Q) c.s:=λ{k} h hn hi=>
  h.1▸hr.len▸LP hh ⟨_,_,hp,rfl⟩ hn hi λh' k1 k2=>.to (R.grow c.s.toks k1 k2) ((R.grow c.s.toks k1 k2).pre.va hr) h.2
 cases kd with
 | tup=>exact fin h (λq=>aA3 (bB2 (Bf (k:=n.1) hp).typeIs aX7.lookup (aA7 q))) λq=>wpAny_pyIter_tuple (Bf (k:=n.1) hp) q
 | lst=>exact h.elim
 | mat=>exact fin h (λq=>aA3 (Cm (us:=us) (k:=n) hp R.base (hc.iter _) (aA7 q))) λq=>Qy (us:=us) (k:=n) hc hp R.base q
end
end Mine
end
section
open PySem PySem.W PyProof.Rows PySem.Spec PySem.Calls
namespace Mine
section
variable{prog:aH0}{w:aC7}{A:aK5}{E:Value->aA8->Prop}{s:aA8}
def Og{l b:aC3}{us ws:List Value}{n m:Nat}{Q:Value->aA8->Prop}(hl:s.heap.get? l=some {cls:=.type "list",data:=.seq us.toArray n})(hb:s.heap.get? b=some {cls:=.type "list",data:=.seq ws.toArray m})(hz:us.length+ws.length<=1000000)
  (q:Q .none {s with heap:=s.heap.update l (aJ1 λx=>x++ws.toArray)}):aD7 (aE5 prog w) A (call (.builtin "list.extend") [.ref l,.ref b] []) Q E s:=
 have h6:1000000<=aR5:=by decide
 have h7:¬(!us.toArray.isEmpty&&aE3.List.listTooLong (us.toArray.size+ws.toArray.size))=true:=by simp[aE3.List.listTooLong];intro _;exists 3,0x210a020f42409080f4240910a08,hz,h6
 bF6 PySem.F.slot_list_extend ⟨_,hl,rfl⟩ PySem.F.entry_list_extend (PySem.F.args_list_extend_2 _ _) (AutoSeq1.list_extend_list_list_0 l us.toArray n b ws.toArray m h7 (by simp;exact aA0 (aA0 (aD0 _ _) hz) (by decide)) (by simp;exact aA0 hz (by decide))) ⟨hl,hb,q⟩
def IT{l:aC3}{us:List Value}{n j:Nat}{t:Tok}{v:Value}{Q:Unit->aA8->Prop}(hl:s.heap.get? l=some {cls:=.type "list",data:=.seq us.toArray n})(hj:j<us.length)(hfit:j<9223372036854775808)
  (q:Q () {s with heap:=s.heap.update l (aJ1 λxs=>xs.setIfInBounds j v)}):aD7 (aE5 prog w) A (setItem (.ref l) (.int (j:Int) t) v) Q E s:=by
 have hL:s.TypeIs (.ref l) "list":=⟨_,hl,rfl⟩
 have hf:aE3.List.listFitsIndex (j:Int)=true:=fitsIndex_of (aH4 j) (aC8.mpr hfit)
 have hx:us.toArray[j]?=some us[j]:=aG1.trans (aA5 hj)
 generalize hk:(j:Int)=k at hf
 unfold setItem
 with_reducible refine aK8 ?_
 refine aA3 (wpAny_sequenceKey hL (by decide) ?_)
 refine aA3 (aJ0 (name:=aA1 "__setitem__") hL PySem.F.slot_list_setitem (aG9 PySem.F.slot_list_setitem hL PySem.F.entry_list_setitem ?_ (PySem.F.args_list_setitem_3 _ _ _)))
 unfold aE3.«list.__setitem__»
 refine aA3 (aU3 (show aE3.List.listBlankSlotArgs "__setitem__" 2 ⟨[.ref l,.int k t,v],[]⟩=pure (.ref l,[.int k t,v])from rfl) ?_)
 dsimp only
 refine aA3 (wpAny_listSubscript_int hf ?_)
 subst hk
 show aD7 _ _ ((seqItemAt l j >>= λr=>pure (r.map (j,·))) >>= _) _ _ s
 refine aA3 (aA3 (wpAny_seqItemAt hl rfl (aA7 ?_)))
 rw[hx]
 exact aA3 (wpAny_setSeqItemAt hl rfl (aA7 ⟨_,rfl,aA7 q⟩))
end
end Mine
end
section
open PySem PySem.W PyProof.Rows PySem.Spec PySem.Calls PySem.SeqAt
namespace Mine
def BH(as:List AV)(k:AV->List AV->Prop):Prop:=aB7 False (λa r _=>k a r) as
def nil(as:List AV)(P:Prop):Prop:=aB7 P (λ_ _ _=>False) as
noncomputable def dset{β:Type}(es:List (AD×β))(k:AD)(v:β):List (AD×β):=
 if es.any (λkv=>kv.1=k)then es.map (λkv=>if kv.1=k then(kv.1,v)else kv)else es++[(k,v)]
section
variable{L:Ci}{G:ļ}{h:aE8}{n:Nat}{es:List (AD×AV)}{kvs:List (AD×Value)}
def Am.cases{M:List (AD×AV)->List (AD×Value)->Prop}(Ņ:M [] [])(Ę :∀k a v r u,Ab L G h n a v->M r u->M ((k,a)::r) ((k,v)::u)):Am L G h n es kvs->M es kvs:=
 aB7 (motive:=λes=>∀kvs,Am L G h n es kvs->M es kvs) (λkvs q=>(show kvs=[]from q)▸Ņ) (λa r ih kvs q=>by
  obtain⟨k,a⟩:=a
  obtain⟨v,u,rfl,q1,ĉ⟩:=q
  exact Ę k a v r u q1 (ih u ĉ)) es kvs
def Am.cons{k:AD}{a:AV}{v:Value}{r:List (AD×AV)}{u:List (AD×Value)}(q:Ab L G h n a v)(q':Am L G h n r u):Am L G h n ((k,a)::r) ((k,v)::u):=⟨v,u,rfl,q,q'⟩
theorem Am.dset(q:Am L G h n es kvs)(k:AD){a:AV}{v:Value}(hv:Ab L G h n a v):Am L G h n (dset es k a) (stored kvs k v):=by
 have e:es.any (λkv=>kv.1=k)=kvs.any (λkv=>kv.1=k):=Am.cases (M:=λes kvs=>es.any (λkv=>kv.1=k)=kvs.any (λkv=>kv.1=k)) rfl (λk' _ _ _ _ _ ih=>bO1 (decide (k'=k) || ·) ih) q
 unfold Mine.dset stored
 rw[e]
 cases kvs.any (λkv=>kv.1=k)with
 | true=>
  refine Am.cases (M:=λes kvs=>Am L G h n (es.map λkv=>if kv.1=k then(kv.1,a)else kv) (kvs.map λkv=>if kv.1=k then(kv.1,v)else kv)) rfl (λk' b w r u hw ih=>?_) q
  rw[aH8,aH8]
  by_cases hk:k'=k
  ·rw[bO2 hk,bO2 hk];exact ih.cons hv
  ·rw[bO3 hk,bO3 hk];exact ih.cons hw
 | false=>exact Am.cases (M:=λes kvs=>Am L G h n (es++[(k,a)]) (kvs++[(k,v)])) (Am.cons hv rfl) (λk' b w r u hw ih=>ih.cons hw) q
end
section
variable{X:Ω}{c:Ŋ}{a b d:AV}{va vb vd:Value}{Q:AV->St->Prop}
@[elab_as_elim] theorem A7{as:List AV}{k:AV->List AV->Prop}{P:List Value->Prop}{vas:List Value}(h:BH as k)(q:į X c as vas)(f :∀a r v vr,Ξ X c a v->į X c r vr->k a r->P (v::vr)):P vas:=by
 cases as with
 | nil=>exact h.elim
 | cons a r=>
  obtain⟨v,u,rfl,q1,ĉ⟩:=q
  exact f a r v u q1 ĉ h
@[elab_as_elim] theorem Ba{as:List AV}{K:Prop}{P:List Value->Prop}{vas:List Value}(h:nil as K)(q:į X c as vas)(f:K->P []):P vas:=by
 cases as with
 | nil=>rw[show vas=[]from q];exact f h
 | cons a r=>exact h.elim
def G1(σ:St)(a:AV)(k:Nat->List AV->Prop):Prop:=Ap (Dt σ a) λp=>Ap p.2.lst λvs=>AF vs.length/\k p.1 vs
def Ir(σ:St)(a:AV)(k:Nat->List (AD×AV)->Prop):Prop:=Ap (Dt σ a) λp=>Ap p.2.dct λvs=>AF vs.length/\k p.1 vs
@[elab_as_elim] theorem E3{k:Nat->List AV->Prop}{P:Value->Prop}(h:G1 c.σ a k)(R:Ł X c)(r:Ξ X c a va)(f :∀x vs us n,c.σ.H.lookup x=some (.list vs)->c.s.heap.get? (c.G.μ x)=some (Ao us n)->į X c vs us->us.length<=aR5->k x vs->P (.ref (c.G.μ x))):P va:=by
 refine AE h λp e1 h=>AE h λvs e2 h=>?_
 have q:=Ej e1 r
 rw[Ÿ.lst_eq e2]at q
 rw[q.1]
 exact(R.obj _ _ q.2).rel.casesOn λus hp hr=>hp.elim λn hp=>f _ vs us n.1 q.2 hp hr (h.1.line hr.len) h.2
@[elab_as_elim] theorem H9{k:Nat->List (AD×AV)->Prop}{P:Value->Prop}(h:Ir c.σ a k)(R:Ł X c)(r:Ξ X c a va)(f :∀x es kvs,c.σ.H.lookup x=some (.dict es)->X.L.dct c.s.heap (c.G.μ x) kvs->VD X c es kvs->kvs.length<=aR5->k x es->P (.ref (c.G.μ x))):P va:=by
 refine AE h λp e1 h=>AE h λvs e2 h=>?_
 have q:=Ej e1 r
 rw[Ÿ.dct_eq e2]at q
 rw[q.1]
 exact(R.obj _ _ q.2).rel.casesOn λus hp hr=>f _ vs us q.2 hp hr (h.1.line (Am.len hr)) h.2
def Ł.setList(R:Ł X c){x:Nat}{vs vs':List AV}{us:List Value}{h':aE8}{n:Nat}(t:Nat)(hx:c.σ.H.lookup x=some (.list vs))(hs:aH6 (c.G.μ x) c.s.heap h')(hl:h'.get? (c.G.μ x)=some (Ao us n))(r:į X c vs' us)(htk:c.s.toks<=t:=by first | assumption | repeat constructor):Ct X c (c.hp (c.σ.set x (.list vs')) h' t):=
 R.setObj hx hs λp=>⟨us,⟨(n,none),hl⟩,p.va r⟩
def Ł.setDict(R:Ł X c){x:Nat}{vs vs':List (AD×AV)}{us:List (AD×Value)}{h':aE8}(t:Nat)(hx:c.σ.H.lookup x=some (.dict vs))(hs:aH6 (c.G.μ x) c.s.heap h')(hl:X.L.dct h' (c.G.μ x) us)(r:VD X c vs' us)(htk:c.s.toks<=t:=by first | assumption | repeat constructor):Ct X c (c.hp (c.σ.set x (.dict vs')) h' t):=
 R.setObj hx hs λp=>⟨us,hl,p.vd r⟩
def cG(a b d:AV)(σ:St)(Q:St->Prop):Prop:=Ap (Dt σ a) λp=>Ÿ.rec (λvs=>AF vs.length/\Ap (Bg b) λk=>(0<=k/\k<vs.length)/\Q (σ.set p.1 (.list (vs.set k.toNat d)))) (λes=>AF es.length/\Ap (B7 b) λk=>Q (σ.set p.1 (.dict (dset es k d)))) (λ_=>False) (λ_ _=>False) p.2
theorem AX.set{L:Ci}{G:ļ}{h:aE8}{n:Nat}{vs:List AV}{d:AV}{v:Value}(hd:Ab L G h n d v) :∀{us:List Value} (j:Nat),AX L G h n vs us->AX L G h n (vs.set j d) (us.set j v):=
 aB7 (motive:=λvs=>∀{us:List Value} (j:Nat),AX L G h n vs us->AX L G h n (vs.set j d) (us.set j v)) (λ{us} j q=>(show us=[]from q)▸rfl) (λa r ih us j q=>by
  obtain⟨w,u,rfl,q1,ĉ⟩:=q
  cases j with
  | zero=>exact⟨v,u,rfl,hd,ĉ⟩
  | succ j=>exact⟨w,u.set j v,rfl,q1,ih j ĉ⟩) vs
def b5{Q:St->Prop}(h:cG a b d c.σ Q)(R:Ł X c)(ra:Ξ X c a va)(rb:Ξ X c b vb)(rd:Ξ X c d vd):GD X c Q (setItem va vb vd):=
 AE h λp e h=>by
  obtain⟨x,o⟩:=p
  cases o with
  | list vs=>
   have h':G1 c.σ a λx vs=>Ap (Bg b) λk=>(0<=k/\k<vs.length)/\Q (c.σ.set x (.list (vs.set k.toNat d))):=by
    unfold G1;rw[e];exact h
   exact E3 h' R ra λx vs us n hx p1 ŝ hz h=>AE h λk e h=>by
    obtain⟨⟨h1,h2⟩,h⟩:=h
    obtain⟨j,rfl⟩:=Int.eq_ofNat_of_zero_le h1
    have hj:j<us.length:=ŝ.len▸aC8.mp h2
    exact Aj e rb λt=>IT p1 hj (aC0 hj (aA0 hz (by decide))) (.to (b:=()) (R.setList _ hx (.update ..) ((bM3 (n:=n) (h:=c.s.heap) (l:=c.G.μ x) (items:=us.toArray) p1 (λxs=>xs.setIfInBounds j vd)).trans (bO1 (λz=>some ({cls:=.type "list",data:=.seq z _}:Obj)) (List.setIfInBounds_toArray us j vd))) (AX.set rd j ŝ)) trivial h)
  | dict es=>
   have h':Ir c.σ a λx es=>Ap (B7 b) λk=>Q (c.σ.set x (.dict (dset es k d))):=by
    unfold Ir;rw[e];exact h
   exact H9 h' R ra λx es kvs hx p1 ŝ hz h=>AE h λk e h=>wpAny_setItem_pairs (CA e rb) p1.1 (λh' hd hs=>.to (b:=()) (R.setDict _ hx hs ⟨hd,p1.2⟩ (ŝ.dset k rd)) trivial h) hz
  | set ks=>exact h.elim
  | inst C at_=>exact h.elim
def GB{prog:aH0}{w:aC7}{A:aK5}{s:aA8}{a:aC3}{k:AD}{key:Value}{S:AD->Bool}{n:Nat}{E:Value->aA8->Prop}{Q:Value->aA8->Prop}(hkey:BW k key=true)(hS:s.heap.SetOf (CH prog w) a S n)
  (h:Q (.bool (S k)) {s with toks:=s.toks+1}):aD7 (aE5 prog w) A (aE3.«frozenset.__contains__» ⟨[.ref a,key],[]⟩) (λfin s'=>∃v,fin = .done (.ret v)/\Q v s') E s:=by
 unfold aE3.«frozenset.__contains__» aE3.Frozenset.oneOther
 simp only[List.isEmpty_nil,bind_assoc]
 unfold aE3.Frozenset.addrOf aE3.Frozenset.withSetAsKey setContains
 refine aA3 (aA7 ?_)
 try dsimp only
 refine aA3 (aA7 ?_)
 try dsimp only
 refine aA3 (bG7 ?_)
 refine aK8 ?_
 have sc:key.scannable=true:=AD.casesOn (motive:=λk=>BW k key=true->key.scannable=true) k (λi q=>(BP q).elim λt e=>e▸rfl) (λi q=>(BR q).elim λt e=>e▸rfl) hkey
 refine aA3 ((CH prog w).pyHash (k:=k) hkey ?_)
 refine aA3 (wpAny_setFind_of (knd:=CH prog w) (k:=k) (s:={s with toks:=s.toks+1}) hkey sc hS λr hr=>?_)
 refine aA7 ?_
 show aD7 _ _ (ret (Value.bool r.isSome)) _ _ _
 rw[hr]
 exact aA7 ⟨_,rfl,h⟩
def Ek(vs:List AV):Option (List Str):=aB7 (some []) (λa _ ih=>(DC a).bind λx=>ih.map (x :: ·)) vs
def PA{vs:List AV} :∀{xs:List Str} {us:List Value},Ek vs=some xs->į X c vs us->∃l:List (Str×Tok),us=aW2 l/\xs=l.map (·.1):=by
 refine aB7 (motive:=λvs=>∀{xs:List Str} {us:List Value},Ek vs=some xs->į X c vs us->∃l:List (Str×Tok),us=aW2 l/\xs=l.map (·.1)) (λ{ns us} e q=>⟨[],q,(aA2 e).symm⟩) (λa r ih ns us e q=>?_) vs
 obtain⟨x,e1,e⟩:=AG e
 obtain⟨ys,e2,rfl⟩:=AH e
 obtain⟨v,u,rfl,q1,ĉ⟩:=q
 obtain⟨ps,rfl,rfl⟩:=ih e2 ĉ
 exact Bl (P:=λv=>∃qs:List (Str×Tok),v::aW2 ps=aW2 qs/\x::ps.map (·.1)=qs.map (·.1)) e1 q1 λt=>⟨(x,t)::ps,rfl,rfl⟩
def ZW{x:Str}{t:Tok}{l:aC3}{ls:List (Str×Tok)}{n:Nat}(R:Ł X c)(p:c.s.heap.get? l=some (Ao (aW2 ls) n))(h1:bB5 ((ls.map (·.1)).toArray.foldl (· + ·.length+x.length) 0)=false)(h2:(aH3 x (ls.map (·.1))).length<=aR5)(h:Q (.str (aH3 x (ls.map (·.1)))) c.σ):Ħ X c Q (call (.builtin "str.join") [.str x t,.ref l] []):=by
 refine bF6 PySem.F.slot_str_join (bI9 _ x t) PySem.F.entry_str_join (PySem.F.args_str_join_2 _ _) (PySem.meets_str_join_list x t l ls h1) ⟨AS p,?_⟩
 cases ls with
 | nil=>exact⟨h2,.to (b:=AV.str _) (R.toks _) (bO8 _) h⟩
 | cons a r=>
  cases r with
  | nil=>exact .here (b:=AV.str (aH3 x [a.1])) R (bO8 a.1) h
  | cons b r=>exact⟨h2,.to (b:=AV.str _) (R.toks _) (bO8 _) h⟩
def An(b:Ų)(as:List AV)(σ:St)(Q:AV->St->Prop):Prop:=BH as λa as=>match b with
 | .append=>BH as λv as=>nil as (G1 σ a λx vs=>Q .none (σ.set x (.list (vs++[v]))))
 | .pop=>nil as (G1 σ a λx vs=>∃v,vs.getLast?=some v/\Q v (σ.set x (.list vs.dropLast)))
 | .get=>BH as λk as=>BH as λd as=>nil as (Ap (Ei σ a) λes=>Ap (B7 k) λk=>Q ((es.lookup k).getD d) σ)
 | .setdefault=>BH as λk as=>BH as λd as=>nil as (Ir σ a λx es=>Ap (B7 k) λk=>(∀u,es.lookup k=some u->Q u σ)/\(es.lookup k=none->Q d (σ.set x (.dict (dset es k d)))))
 | .len=>nil as (aD9 (Ap (B6 σ a) λvs=>AF vs.length/\Q (.int vs.length) σ) (λx=>x.length<1000000/\Q (.int x.length) σ) (DC a))
 | .has=>BH as λk as=>nil as (Ap (Jy σ a) λks=>Ap (B7 k) λk=>Q (.bool (decide (k∈ks))) σ)
 | .extend=>BH as λv as=>nil as (Ap (B6 σ v) λws=>G1 σ a λx vs=>vs.length+ws.length<=1000000/\Q .none (σ.set x (.list (vs++ws))))
 | .divmod=>False
 | .index=>False
 | .chr=>nil as (Ap (Bg a) λi=>(0<=i/\i<=1114111)/\Q (.txt ⟨#[i.toNat]⟩) σ)
 | .join=>BH as λv as=>nil as (Ap (DC a) λx=>Ap (B6 σ v) λvs=>Ap (Ek vs) λxs=>(bB5 (xs.toArray.foldl (· + ·.length+x.length) 0)=false/\(aH3 x xs).length<=aR5)/\Q (.str (aH3 x xs)) σ)
 | _=>False
def Jg(us:List Value)(h:us.length≠0):us.toArray.eraseIdxIfInBounds (us.toArray.size-1)=us.dropLast.toArray:=by
 have hsz:us.length-1<us.length:=Nat.sub_lt (aG7 h) bL2
 simp[Array.eraseIdxIfInBounds,hsz,List.dropLast_eq_take,List.eraseIdx_eq_take_drop_succ]
 exists 1,0x18180ba00
theorem AX.dropLast{L:Ci}{G:ļ}{h:aE8}{n:Nat}{as:List AV}{vs:List Value}(q:AX L G h n as vs):AX L G h n as.dropLast vs.dropLast:=by
 refine aB7 (motive:=λas=>∀vs,AX L G h n as vs->AX L G h n as.dropLast vs.dropLast) (λvs q=>(show vs=[]from q)▸rfl) (λa r ih vs q=>?_) as vs q
 obtain⟨v,u,rfl,q1,ĉ⟩:=q
 cases r with
 | nil=>rw[show u=[]from ĉ];exact rfl
 | cons b r=>
  obtain⟨v',u',rfl,q3⟩:=ĉ
  exact⟨v,_,rfl,q1,ih (v'::u') ⟨v',u',rfl,q3⟩⟩
def dE(h:G1 c.σ a λx vs=>∃v,vs.getLast?=some v/\Q v (c.σ.set x (.list vs.dropLast)))(R:Ł X c)(ra:Ξ X c a va):Ħ X c Q (call (.builtin "list.pop") [va] []):=by
 refine E3 h R ra λx vs us n hx p1 ŝ hz ⟨v,hv,h⟩=>?_
 rw[List.getLast?_eq_getElem?]at hv
 obtain⟨u,g1,g2⟩:=ŝ.get hv
 rw[<-AX.len ŝ]at g1
 have h0:us.length≠0:=λz=>by rw[aO1 z]at g1;exact AA g1
 refine bF6 PySem.F.slot_list_pop ⟨_,p1,rfl⟩ PySem.F.entry_list_pop (PySem.F.args_list_pop_1 _) (PySem.MeetsSeq.list_pop_last (c.G.μ x) us.toArray n u (aG1.trans g1) hz) ⟨p1,?_⟩
 have hs:aH6 (c.G.μ x) c.s.heap (c.s.heap.update (c.G.μ x) (aJ1 λxs=>xs.eraseIdxIfInBounds (us.toArray.size-1))):=aM9 ..
 have hl:=bM3 (n:=n) (h:=c.s.heap) (l:=c.G.μ x) (items:=us.toArray) p1 (λxs=>xs.eraseIdxIfInBounds (us.toArray.size-1))
 rw[Jg us h0]at hl
 have x:=R.setList c.s.toks hx hs hl ŝ.dropLast
 exact .to x (x.pre.v g2) h
def Mf{vs:List AV} :∀{ks:List AD} {us:List Value},Bc vs=some ks->į X c vs us->us.length=ks.length/\∀(i:Nat) (k:AD) (v:Value),ks[i]?=some k->us[i]?=some v->BW k v=true:=by
 refine aB7 (motive:=λvs=>∀{ks:List AD} {us:List Value},Bc vs=some ks->į X c vs us->us.length=ks.length/\∀(i:Nat) (k:AD) (v:Value),ks[i]?=some k->us[i]?=some v->BW k v=true) (λ{ks us} e q=>?_) (λa r ih ks us e q=>?_) vs
 ·rw[show us=[]from q];cases e;exact⟨rfl,λi k v=>AA⟩
 ·obtain⟨x,e1,e⟩:=AG e
  obtain⟨ys,e2,rfl⟩:=AH e
  obtain⟨v,u,rfl,q1,ĉ⟩:=q
  have z:=ih e2 ĉ
  refine⟨bO1 aT3 z.1,λi=>?_⟩
  cases i with
  | zero=>exact λk w a b=>aA2 a▸aA2 b▸FK e1 q1
  | succ i=>exact z.2 i
def Ub{k k':AD}{v:Value}(h:BW k' v=true):BW k v=decide (k'=k):=by
 cases e:BW k v with
 | true=>exact(bO5 (E8 h e)).symm
 | false=>exact(bO6 λz:k'=k=>aV0 (e.symm.trans (z▸h))).symm
def Ig{A:aK5}{s:aA8}{k:AD}{key:Value}{ks:List AD}{us:List Value}(q:us.length=ks.length/\∀(i:Nat) (k:AD) (v:Value),ks[i]?=some k->us[i]?=some v->BW k v=true)(hk:BW k key=true) :∀y,y∈us.toArray->aY0 A s y key (BW k y):=λy hy prog w E Q hQ=>by
 obtain⟨i,hi⟩:=aJ6 (List.mem_toArray.mp hy)
 have hlt:=(aA4.mp hi).1
 have hki:=aA5 (q.1▸hlt:i<ks.length)
 have h:=q.2 i _ y hki hi
 exact MO prog w h hk (Ub h▸hQ)
def Lh{b:Ų}{as:List AV}(h:An b as c.σ Q){vas:List Value}(R:Ł X c)(ra:į X c as vas):Ħ X c Q (call b.val vas []):=
 A7 h ra λa as v vas r ra h=>Ų.casesOn (motive:=λb=>An b (a::as) c.σ Q->Ħ X c Q (call b.val (v::vas) [])) b
  (λh=>Ba h ra λh=>Az h (λh=>AE h λvs e h=>BE e R r λl us k p1 ŝ=>call_len_list (AS p1) (fits (aA0 (aB9 ŝ.len) h.1)) (.int _ R (Eq.mpr (bO1 (λn:Nat=>Q (.int n) c.σ) (show us.toArray.size=vs.length from ŝ.len)) h.2)))
   λx e h=>Bl (P:=λv=>Ħ X c Q (call (.builtin "len") [v] [])) e r λt=>len_str (bI8.mpr (bC1 (aC8.mpr h.1) (by decide))) (.to (b:=AV.int _) (R.toks _) (bO8 _) h.2))
  aA9 aA9 aA9 aA9
  (λh=>A7 h ra λd as vd vas rd ra h=>Ba h ra λh=>E3 h R r λx vs us n hx p1 ŝ hz h=>wpAny_list_append_plain ⟨n,p1⟩ (λh' hl hs=>hl.elim λk hl=>.to (b:=AV.none) (R.setList _ hx hs (hl.trans (bO1 (λz=>some ({cls:=.type "list",data:=.seq z k}:Obj)) (List.push_toArray us vd))) (AX.append (bs:=[d]) (us:=[vd]) ŝ ⟨vd,[],rfl,rd,rfl⟩)) rfl h) hz)
  (λh=>Ba h ra λh=>dE h R r)
  aA9
  (λh=>A7 h ra λk as vk vas rk ra h=>A7 h ra λd as vd vas rd ra h=>Ba h ra λh=>AE h λes e1 h=>AE h λk e2 h=>DI e1 R r λl kvs p1 ŝ=>
   bJ9 aZ6 p1.1.typeIs PySem.F.entry_dict_get (PySem.F.args_dict_get_3 _ _ _) (meets_dict_get_default (CH X.L.prog X.L.w) (k:=k) l (CA e2 rk) p1.2 vd) ⟨_,p1.1.mapOf,ŝ.look k (P:=λx y=>Q (x.getD d) c.σ->A8 X (Ξ X) c Q (y.getD vd) _) (.val _ R rd) (λa v r=>.val _ R r) h⟩)
  (λh=>A7 h ra λk as vk vas rk ra h=>A7 h ra λd as vd vas rd ra h=>Ba h ra λh=>H9 h R r λx es kvs hx p1 ŝ hz h=>AE h λk e2 h=>
   bJ9 PySem.F.slot_dict_setdefault p1.1.typeIs PySem.F.entry_dict_setdefault (PySem.F.args_dict_setdefault_3 _ _ _) (kt_meets_setdefault (CH X.L.prog X.L.w) (k:=k) (c.G.μ x) (CA e2 rk) p1.2 vd) ⟨kvs,p1.1,hz,
    λv hv=>ŝ.look k (P:=λx y=>(∀u,x=some u->Q u c.σ)->y=some v->A8 X (Ξ X) c Q v _) (λ_=>AA) (λa u r f e=>.val _ R (aA2 e▸r) (f a rfl)) h.1 hv,
    λhn h' hd hs=>ŝ.look k (P:=λx y=>(x=none->Q d (c.σ.set _ (.dict (dset es k d))))->y=none->A8 X (Ξ X) c Q vd _) (λf _=>.to (R.setDict _ hx hs ⟨hd,p1.2⟩ (ŝ.dset k rd)) ((R.setDict _ hx hs ⟨hd,p1.2⟩ (ŝ.dset k rd)).pre.v rd) (f rfl)) (λa u r f e=>AA e.symm) h.2 hn⟩)
  (λh=>A7 h ra λk as vk vas rk ra h=>Ba h ra λh=>AE h λks e1 h=>AE h λk e2 h=>HH e1 R r λl p1=>
   aG9 PySem.F.slot_set_contains p1.1.typeIs entry_set_contains (GB (CA e2 rk) p1.1 (.to (b:=AV.bool (decide (k∈ks))) (R.toks _) rfl h)) (PySem.F.args_set_contains_2 _ _))
  aA9 aA9 aA9 aA9
  (λh=>A7 h ra λd as vd vas rd ra h=>Ba h ra λh=>AE h λws e h=>BE e R rd λl wv k q1 ĉ=>E3 h R r λx vs us n hx p1 ŝ hz h=>
   Og p1 q1 (by rw[ŝ.len,ĉ.len];exact h.1) (.to (b:=AV.none) (R.setList _ hx (.update ..) ((bM3 (n:=n) (h:=c.s.heap) (l:=c.G.μ x) (items:=us.toArray) p1 (λxs=>xs++wv.toArray)).trans (bO1 (λz=>some ({cls:=.type "list",data:=.seq z _}:Obj)) (List.append_toArray us wv))) (AX.append ŝ ĉ)) rfl h.2))
  aA9 aA9 aA9 aA9 aA9
  (λh=>Ba h ra λh=>AE h λi e h=>Aj (P:=λv=>Ħ X c Q (call (.builtin "chr") [v] [])) e r λt=>PySem.P.chr_of_int (Bool.or_eq_false_iff.mpr ⟨bO6 (aS7.mpr h.1.1),bO6 (aS7.mpr h.1.2)⟩) (.to (c':=c.told _) (b:=AV.txt _) (R.told _) (R.txt _) h.2))
  (λh=>A7 h ra λd as vd vas rd ra h=>Ba h ra λh=>AE h λx e1 h=>AE h λvs e2 h=>AE h λxs e3 h=>Bl (P:=λv=>Ħ X c Q (call (.builtin "str.join") [v,vd] [])) e1 r λt=>BE (P:=λvd=>Ħ X c Q (call (.builtin "str.join") [.str x t,vd] [])) e2 R rd λl us n p1 ŝ=>by
   obtain⟨ls,rfl,rfl⟩:=PA e3 ŝ
   exact ZW R p1 h.1.1 h.1.2 h.2) h
end
namespace Bm
def slot_get:bO0 "method_descriptor" "__get__" "method_descriptor.__get__":=
 bN6 (owner:="method_descriptor") (n:="__get__") (by rw[aH9,aF4];rfl') (by decide +kernel) (by decide +kernel) (by decide +kernel) (.inl (by decide +kernel)) (by rw[aK7];rfl')
def entry_get:bA7 table "method_descriptor.__get__" = some aE3.«method_descriptor.__get__»:=aV1 (by rfl')
def args_get(a b c:Value):aW8 "method_descriptor.__get__" ⟨[a,b,c],[]⟩:=by unfold aW8;rfl'
def no_set:aI9 (.type "method_descriptor") "__set__" = pure none:=by rw[aH9,aF4];rfl'
def no_del:aI9 (.type "method_descriptor") "__delete__" = pure none:=by rw[aH9,aF4];rfl'
def ty_dict_get:typeOf (.builtin "dict.get")=pure (.type "method_descriptor"):=by rfl'
def ty_set_contains:typeOf (.builtin "set.__contains__")=pure (.type "method_descriptor"):=by rfl'
def lk_dict_get:aI9 (.type "dict") "get" = pure (some (.builtin "dict.get")):=by rw[aH9,aF4];rfl'
def lk_set_contains:aI9 (.type "set") "__contains__" = pure (some (.builtin "set.__contains__")):=by rw[aH9,aF4];rfl'
def owner_dict_get:(".".intercalate ("dict.get".cutAt '.').dropLast) = "dict":=by decide +kernel
def owner_set_contains:(".".intercalate ("set.__contains__".cutAt '.').dropLast) = "set":=by decide +kernel
def sub_dict_get:aR6 (.type "dict") (.type (".".intercalate ("dict.get".cutAt '.').dropLast))=pure true:=by rw[owner_dict_get,aK7];rfl'
def sub_set_contains:aR6 (.type "set") (.type (".".intercalate ("set.__contains__".cutAt '.').dropLast))=pure true:=by rw[owner_set_contains,aK7];rfl'
def told_dict_get:Manifest.toldItsClass.contains "dict.get" = false:=by decide +kernel
def told_set_contains:Manifest.toldItsClass.contains "set.__contains__" = false:=by decide +kernel
end Bm
section
variable{prog:aH0}{w:aC7}{A:aK5}{E:Value->aA8->Prop}{h:aE8}{g:Array bJ3}{d:Drawn}{t:Nat}{os:aS4}{a:aC3}{o:Obj}
def J6{R:bD9->aA8->Prop}(hx:h.get? a=some o)(hc:o.cls = .type "dict")(hq:R (.ok (.ret (.ref h.objs.size))) ⟨h.push (DD (.builtin "dict.get") (.ref a)),g,d,t,os⟩) :
  aQ3 (aE5 prog w) A (.call (.builtin "method_descriptor.__get__") ⟨[.builtin "dict.get",.ref a,.type "dict"],[]⟩) R ⟨h,g,d,t,os⟩:=by
 have hT:(⟨h,g,d,t,os⟩:aA8).TypeIs (.ref a) "dict":=⟨_,hx,hc⟩
 have hT5:(⟨h,g,d,t,os⟩:aA8).TypeIs (.builtin "dict.get") "method_descriptor":=Bm.ty_dict_get
 have f8:=Bm.sub_dict_get
 refine aO0 Bm.slot_get.plain Bm.entry_get (Bm.slot_get.check _ _ _ _ _ _ _ _ hT5 (Bm.args_get _ _ _) ?_)
 repeat (any_goals (first | assumption | wp_step))
def HV{es:Array aM7}{k:Nat}{ę:Array (Option Value)}{tk:Tok}{Q:Fin->aA8->Prop}(hx:h.get? a=some {cls:=.type "dict",dict:=none,data:=.dict es k,slots:=ę})(hq:Q (.done (.ret (.ref h.objs.size))) ⟨h.push (DD (.builtin "dict.get") (.ref a)),g,d,t,os⟩) :
  aD7 (aE5 prog w) A (aE3.«object.__getattribute__» ⟨[.ref a,.str "get" tk],[]⟩) Q E ⟨h,g,d,t,os⟩:=by
 have hT:(⟨h,g,d,t,os⟩:aA8).TypeIs (.ref a) "dict":=⟨_,hx,rfl⟩
 have f4:=Bm.lk_dict_get
 have f5:=Bm.ty_dict_get
 have f6:=Bm.slot_get.lookup
 have f7:=Bm.no_set
 have f8:=Bm.no_del
 repeat (any_goals (first | assumption | wp_step))
 refine J6 hx rfl ?_
 repeat (any_goals (first | assumption | wp_step))
def I2{es:Array aM7}{k:Nat}{ę:Array (Option Value)}{Q:Value->aA8->Prop}(hx:h.get? a=some {cls:=.type "dict",dict:=none,data:=.dict es k,slots:=ę})(hq:Q (.ref h.objs.size) ⟨h.push (DD (.builtin "dict.get") (.ref a)),g,d,t+1,os⟩) :
  aD7 (aE5 prog w) A (aY4 (.ref a) "get" true) Q E ⟨h,g,d,t,os⟩:=by
 have hT :∀tk',(⟨h,g,d,tk',os⟩:aA8).TypeIs (.ref a) "dict":=λ_=>⟨_,hx,rfl⟩
 have hT':(⟨h,g,d,t,os⟩:aA8).TypeIs (.ref a) "dict":=⟨_,hx,rfl⟩
 have f2:=aN4.lookup
 have f3:=aN4.bind (.ref a)
 unfold aY4 getAttrBy
 repeat (any_goals (first | assumption | exact hT _ | wp_step))
 refine aO0 aN4.plain PySem.F.entry_dict_ga (aN4.check _ _ _ _ _ _ _ _ (hT _) (PySem.F.args_dict_getattribute_2 _ _) (HV hx ?_))
 repeat (any_goals (first | assumption | wp_step))
def Rt{R:bD9->aA8->Prop}(hx:h.get? a=some o)(hc:o.cls = .type "set")(hq:R (.ok (.ret (.ref h.objs.size))) ⟨h.push (DD (.builtin "set.__contains__") (.ref a)),g,d,t,os⟩) :
  aQ3 (aE5 prog w) A (.call (.builtin "method_descriptor.__get__") ⟨[.builtin "set.__contains__",.ref a,.type "set"],[]⟩) R ⟨h,g,d,t,os⟩:=by
 have hT:(⟨h,g,d,t,os⟩:aA8).TypeIs (.ref a) "set":=⟨_,hx,hc⟩
 have hT5:(⟨h,g,d,t,os⟩:aA8).TypeIs (.builtin "set.__contains__") "method_descriptor":=Bm.ty_set_contains
 have f8:=Bm.sub_set_contains
 refine aO0 Bm.slot_get.plain Bm.entry_get (Bm.slot_get.check _ _ _ _ _ _ _ _ hT5 (Bm.args_get _ _ _) ?_)
 repeat (any_goals (first | assumption | wp_step))
def Lp{es:Array (Int×Value)}{k:Nat}{tb:bA8}{ę:Array (Option Value)}{tk:Tok}{Q:Fin->aA8->Prop}(hx:h.get? a=some {cls:=.type "set",dict:=none,data:=.set es k tb,slots:=ę})(hq:Q (.done (.ret (.ref h.objs.size))) ⟨h.push (DD (.builtin "set.__contains__") (.ref a)),g,d,t,os⟩) :
  aD7 (aE5 prog w) A (aE3.«object.__getattribute__» ⟨[.ref a,.str "__contains__" tk],[]⟩) Q E ⟨h,g,d,t,os⟩:=by
 have hT:(⟨h,g,d,t,os⟩:aA8).TypeIs (.ref a) "set":=⟨_,hx,rfl⟩
 have f4:=Bm.lk_set_contains
 have f5:=Bm.ty_set_contains
 have f6:=Bm.slot_get.lookup
 have f7:=Bm.no_set
 have f8:=Bm.no_del
 repeat (any_goals (first | assumption | wp_step))
 refine Rt hx rfl ?_
 repeat (any_goals (first | assumption | wp_step))
def PR{es:Array (Int×Value)}{k:Nat}{tb:bA8}{ę:Array (Option Value)}{Q:Value->aA8->Prop}(hx:h.get? a=some {cls:=.type "set",dict:=none,data:=.set es k tb,slots:=ę})(hq:Q (.ref h.objs.size) ⟨h.push (DD (.builtin "set.__contains__") (.ref a)),g,d,t+1,os⟩) :
  aD7 (aE5 prog w) A (aY4 (.ref a) "__contains__" true) Q E ⟨h,g,d,t,os⟩:=by
 have hT :∀tk',(⟨h,g,d,tk',os⟩:aA8).TypeIs (.ref a) "set":=λ_=>⟨_,hx,rfl⟩
 have hT':(⟨h,g,d,t,os⟩:aA8).TypeIs (.ref a) "set":=⟨_,hx,rfl⟩
 have f2:=aO2.lookup
 have f3:=aO2.bind (.ref a)
 unfold aY4 getAttrBy
 repeat (any_goals (first | assumption | exact hT _ | wp_step))
 refine aO0 aO2.plain PySem.F.entry_set_ga (aO2.check _ _ _ _ _ _ _ _ (hT _) (PySem.F.args_set_getattribute_2 _ _) (Lp hx ?_))
 repeat (any_goals (first | assumption | wp_step))
end
section
variable{prog:aH0}{w:aC7}{A:aK5}{E:Value->aA8->Prop}{s:aA8}
def Mo{b a:aC3}{id T:String}{B:aE3}{rest:List Value}{S:aP1}{Q:Value->aA8->Prop}
  (hb:s.heap.get? b=some (DD (.builtin id) (.ref a))) (hT:s.TypeIs (.ref a) T)
  (plain:plainId id=true) (entry:bA7 table id=some B) (hck :∀{Q:Unit->aA8->Prop} {E:Value->aA8->Prop},Q () s->aD7 (aE5 prog w) A.in1 (aU6 id ⟨.ref a::rest,[]⟩) Q E s)
  (g:MeetsIn prog w (B ⟨.ref a::rest,[]⟩) S) (h:S A (wants Q E) s):aD7 (aE5 prog w) A (call (.ref b) rest) Q E s:=by
 refine aW9 (codeAny_of_tree ?_)
 show aD7 (aE5 prog w) A.in1 (callAny (.ref b) ⟨rest,[]⟩) _ _ s
 unfold callAny
 refine aA3 (aS8 hb ?_)
 show aD7 _ A.in1 (do aU6 id ⟨.ref a::rest,[]⟩;return<-again (.builtin id ⟨.ref a::rest,[]⟩)) _ _ s
 refine aA3 (hck ?_)
 refine aA3 (aA7 (aA7 ⟨bE1 plain _,aW3 entry ?_⟩))
 rw[aQ4 plain]
 exact g A (wants Q E) s h
def Jp:Manifest.signature? "dict.get" = some ⟨.positional,"dict.get","get",.self,[⟨"key",.posOnly,true⟩,⟨"default",.posOnly,false⟩]⟩:=by
 rw[bE2 (id:="dict.get") (n:=['t','e','g']) (o:=['t','c','i','d']) (by rfl') PySem.F.owner_dict];rfl'
def Hs{a:aC3}{x y:Value}{es:Array aM7}{k:Nat}{ę:Array (Option Value)}{Q:Unit->aA8->Prop}(hx:s.heap.get? a=some {cls:=.type "dict",dict:=none,data:=.dict es k,slots:=ę})(h:Q () s) :
  aD7 (aE5 prog w) A (aU6 "dict.get" ⟨[.ref a,x,y],[]⟩) Q E s:=by
 have hT:s.TypeIs (.ref a) "dict":=⟨_,hx,rfl⟩
 have f1:aR6 (.type "dict") (.type "module")=pure false:=by rw[aK7];rfl'
 unfold aU6
 rw[Jp,show bH1 "dict.get" = some .method by decide +kernel]
 dsimp only
 refine aA3 (aU9 hT f1 ?_)
 rw[show Manifest.varargsMethods.contains "dict.get" = false by decide +kernel]
 refine aA3 (m:=isType (.ref a)) ?_
 refine aA3 (aY2 hx (aA7 ?_))
 refine aA3 (bK0 hT ?_)
 refine aU3 (a:=()) ?_ h
 rfl'
def GU:Manifest.signature? "set.__contains__" = some ⟨.oneArg,"set.__contains__","__contains__",.self,[⟨"object",.posOnly,true⟩]⟩:=by
 rw[bE2 (id:="set.__contains__") (n:=['_','_','s','n','i','a','t','n','o','c','_','_']) (o:=['t','e','s']) (by rfl') PySem.F.owner_set];rfl'
def FU{a:aC3}{x:Value}{es:Array (Int×Value)}{k:Nat}{tb:bA8}{ę:Array (Option Value)}{Q:Unit->aA8->Prop}(hx:s.heap.get? a=some {cls:=.type "set",dict:=none,data:=.set es k tb,slots:=ę})(h:Q () s) :
  aD7 (aE5 prog w) A (aU6 "set.__contains__" ⟨[.ref a,x],[]⟩) Q E s:=by
 have hT:s.TypeIs (.ref a) "set":=⟨_,hx,rfl⟩
 have f1:aR6 (.type "set") (.type "module")=pure false:=by rw[aK7];rfl'
 unfold aU6
 rw[GU,show bH1 "set.__contains__" = some .method by decide +kernel]
 dsimp only
 refine aA3 (aU9 hT f1 ?_)
 rw[show Manifest.varargsMethods.contains "set.__contains__" = false by decide +kernel]
 refine aA3 (m:=isType (.ref a)) ?_
 refine aA3 (aY2 hx (aA7 ?_))
 refine aA3 (bK0 hT ?_)
 refine aU3 (a:=()) ?_ h
 rfl'
end
def Rd{o:Obj}{c:Value}{d:Option aC3}{dt:Data}{ę:Array (Option Value)}(h1:o.cls=c)(h2:o.dict=d)(h4:o.slots=ę)(h3:o.data=dt):some o=some ⟨c,d,dt,ę⟩:=by
 subst h1;subst h2;subst h3;subst h4;rfl
def Fw{prog:aH0}{w:aC7}{s:aA8}{a:aC3}{kvs:List (AD×Value)}(h:s.heap.DictOf (CH prog w) a kvs) :∃es k,s.heap.get? a=some {cls:=.type "dict",dict:=none,data:=.dict es k,slots:=#[]}:=
 h.elim λo h=>h.imp λes h=>h.imp λep h=>h.1.trans (Rd h.2.1.1 h.2.1.2.1 h.2.1.2.2 h.2.2.1)
def NL{prog:aH0}{w:aC7}{s:aA8}{a:aC3}{S:AD->Bool}{n:Nat}(h:s.heap.SetOf (CH prog w) a S n) :∃es k tb,s.heap.get? a=some {cls:=.type "set",dict:=none,data:=.set es k tb,slots:=#[]}:=
 h.elim λo h=>h.imp λes h=>h.imp λep h=>h.imp λt h=>h.1.trans (Rd h.2.1.1 h.2.1.2.1 h.2.1.2.2 h.2.2.1)
def FV(X:Ω)(f:Value)(s:aA8):Prop:=∀(Q:Keeper->aA8->Prop) E,(∀k,Q k s)->aD7 (aE5 X.L.prog X.L.w) X.A (bD0 f) Q E s
def Wa(X:Ω)(c:Ŋ)(Q:AV->St->Prop)(f:Value)(vas:List Value):Prop:=FV X f c.s/\Ħ X c Q (call f vas [])
noncomputable def YK(a:AV):Option (Ų×AV):=match a with
 | .bm f x=>some (f,x)
 | _=>none
def UF{P:AV->Prop}{a:AV}{q:Ų×AV}(e:YK a=some q)(f:P (.bm q.1 q.2)):P a:=
 AV.casesOn (motive_1:=λa=>YK a=some q->P a) a AA (λ_=>AA) (λ_=>AA) (λ_ _=>AA) (λ_=>AA) (λ_=>AA) (λ_=>AA) (λ_ _ e=>Eq.mp (bO1 (λq:Ų×AV=>P (.bm q.1 q.2)) (aA2 e).symm) f) (λ_=>AA) (λ_=>AA) (λ_=>AA) e
def Qa(f:Ų)(x:AV)(as:List AV)(σ:St)(Q:AV->St->Prop):Prop:=match f with
 | .get=>BH as λk as=>BH as λd as=>nil as (Ap (Ei σ x) λes=>Ap (B7 k) λk=>Q ((es.lookup k).getD d) σ)
 | .has=>BH as λk as=>nil as (Ap (Jy σ x) λks=>Ap (B7 k) λk=>Q (.bool (decide (k∈ks))) σ)
 | _=>False
section
variable{X:Ω}{c:Ŋ}{a x:AV}{va:Value}{Q:AV->St->Prop}
def TK{b:aC3}{f v:Value}{s:aA8}(hb:s.heap.get? b=some (DD f v)):FV X (.ref b) s:=λQ E h=>aA3 (aS8 hb (aA7 (h _)))
def NM(b:Ų){s:aA8}:FV X b.val s:=λQ E h=>Ų.casesOn (motive:=λb=>aD7 (aE5 X.L.prog X.L.w) X.A (bD0 b.val) Q E s) b (aA7 (h _)) (aA7 (h _)) (aA7 (h _)) (aA7 (h _)) (aA7 (h _)) (aA7 (h _)) (aA7 (h _)) (aA7 (h _)) (aA7 (h _)) (aA7 (h _)) (aA7 (h _)) (aA7 (h _)) (aA7 (h _)) (aA7 (h _)) (aA7 (h _)) (aA7 (h _)) (aA7 (h _)) (aA7 (h _)) (aA7 (h _)) (aA7 (h _)) (aA7 (h _)) (aA7 (h _)) (aA7 (h _))
def ZX{f:Ų}{as:List AV}{vas:List Value}(h:Qa f x as c.σ Q)(R:Ł X c)(rv:Ξ X c (.bm f x) va)(ra:į X c as vas):Wa X c Q va vas:=by
 cases rv with
 | mk b u hv hb ho rx=>
 subst hv
 refine⟨TK hb,?_⟩
 exact Ų.casesOn (motive:=λf=>Qa f x as c.σ Q->c.s.heap.get? b=some (DD f.val u)->Ħ X c Q (call (.ref b) vas [])) f (λh _=>h.elim) (λh _=>h.elim) (λh _=>h.elim) (λh _=>h.elim) (λh _=>h.elim) (λh _=>h.elim) (λh _=>h.elim) (λh _=>h.elim)
  (λh hb=>A7 h ra λk as vk vas rk ra h=>A7 h ra λd as vd vas rd ra h=>Ba h ra λh=>AE h λes e1 h=>AE h λk e2 h=>by
   refine DI (P:=λu=>c.s.heap.get? b=some (DD (.builtin "dict.get") u)->Ħ X c Q (call (.ref b) [vk,vd] [])) e1 R rx (λl kvs p1 ŝ hb=>?_) hb
   obtain⟨es',k',ho'⟩:=Fw p1.1
   exact Mo (T:="dict") hb ⟨_,ho',rfl⟩ aZ6.plain PySem.F.entry_dict_get (λq=>Hs ho' q) (meets_dict_get_default (CH X.L.prog X.L.w) (k:=k) l (CA e2 rk) p1.2 vd) ⟨_,p1.1.mapOf,ŝ.look k (P:=λx y=>Q (x.getD d) c.σ->A8 X (Ξ X) c Q (y.getD vd) _) (.val _ R rd) (λa v r=>.val _ R r) h⟩)
  (λh _=>h.elim)
  (λh hb=>A7 h ra λk as vk vas rk ra h=>Ba h ra λh=>AE h λks e1 h=>AE h λk e2 h=>by
   refine HH (P:=λu=>c.s.heap.get? b=some (DD (.builtin "set.__contains__") u)->Ħ X c Q (call (.ref b) [vk] [])) e1 R rx (λl p1 hb=>?_) hb
   obtain⟨es',k',tb,ho'⟩:=NL p1.1
   refine Mo (T:="set") (S:=λA R s=>∃S n,s.heap.SetOf (CH X.L.prog X.L.w) l S n/\R (.ok (.ret (.bool (S k)))) {s with toks:=s.toks+1}) hb ⟨_,ho',rfl⟩ PySem.F.slot_set_contains.plain entry_set_contains (λq=>FU ho' q) (λA R s hS=>?_) ⟨_,_,p1.1,.to (b:=AV.bool (decide (k∈ks))) (R.toks _) rfl h⟩
   exact hS.elim λS hS=>hS.elim λn hS=>aN2 (GB (Q:=λv s'=>R (.ok (.ret v)) s') (CA e2 rk) hS.1 hS.2) (λfin s' z=>z.elim λv z=>z.1▸z.2) λ_ _ x=>x)
  (λh _=>h.elim) (λh _=>h.elim) (λh _=>h.elim) (λh _=>h.elim) (λh _=>h.elim) (λh _=>h.elim) (λh _=>h.elim) (λh _=>h.elim) (λh _=>h.elim) (λh _=>h.elim) (λh _=>h.elim) (λh _=>h.elim) h hb
def Zx(σ:St)(a:AV)(x:Str):Option Ų:=
 GH ((DC a).bind λ_=>bif x==("join":Str)then some .join else none) (GH ((B6 σ a).bind λ_=>bif x==("append":Str)then some .append else bif x==("pop":Str)then some .pop else bif x==("sort":Str)then some .sort else bif x==("extend":Str)then some .extend else bif x==("index":Str)then some .index else none)
  ((Ei σ a).bind λ_=>bif x==("get":Str)then some .get else bif x==("setdefault":Str)then some .setdefault else none))
def BU{α:Type}{b:Bool}{x y:Option α}{r:α}{P:Prop}(h:(bif b then x else y)=some r)(f:b=true->x=some r->P)(g:y=some r->P):P:=by
 cases b with
 | true=>exact f rfl h
 | false=>exact g h
def YO{y:Str}{b:Ų}(e:Zx c.σ a y=some b){pl:Sem Bool}{Q:Value×List Value->aA8->Prop}(R:Ł X c)(ra:Ξ X c a va)(h :∀t,Q (b.val,[va]) {c.s with toks:=t}):ĭ X (aX8 va y pl) Q c.s:=by
 refine Cu e (λe=>?_) λe=>Cu e (λe=>?_) λe=>?_
 ·obtain⟨vs,e1,e⟩:=AG e
  refine Bl (P:=λva=>(∀t,Q (b.val,[va]) {c.s with toks:=t})->ĭ X (aX8 va y pl) Q c.s) e1 ra (λt h=>?_) h
  refine BU e (λhx e=>?_) AA
  rw[aE6 hx];cases e;exact aM4 (bI9 _ vs t) PySem.F.plainAttrs_str PySem.F.slot_str_join PySem.F.type_str_join (λ_ e=>nomatch e) (h _)
 ·obtain⟨vs,e1,e⟩:=AG e
  refine BE (P:=λva=>(∀t,Q (b.val,[va]) {c.s with toks:=t})->ĭ X (aX8 va y pl) Q c.s) e1 R ra (λl us k p1 _ h=>?_) h
  have hd :∀a,aM8 l = .ref a->∃o,c.s.heap.get? a=some o/\o.dict=none:=λa e=>by cases e;exact⟨_,p1,rfl⟩
  have hT:=(AS p1).typeIs
  refine BU e (λhx e=>?_) λe=>BU e (λhx e=>?_) λe=>BU e (λhx e=>?_) λe=>BU e (λhx e=>?_) λe=>BU e (λhx e=>?_) AA
  ·rw[aE6 hx];cases e;exact aM4 hT aO5 PySem.F.slot_list_append (by rfl') hd (h _)
  ·rw[aE6 hx];cases e;exact aM4 hT aO5 PySem.F.slot_list_pop (by rfl') hd (h _)
  ·rw[aE6 hx];cases e;exact aM4 hT aO5 PySem.F.slot_list_sort (by rfl') hd (h _)
  ·rw[aE6 hx];cases e;exact aM4 hT aO5 PySem.F.slot_list_extend (by rfl') hd (h _)
  ·rw[aE6 hx];cases e;exact aM4 hT aO5 PySem.F.slot_list_index PySem.F.type_list_index hd (h _)
 ·obtain⟨vs,e1,e⟩:=AG e
  refine DI (P:=λva=>(∀t,Q (b.val,[va]) {c.s with toks:=t})->ĭ X (aX8 va y pl) Q c.s) e1 R ra (λl us p1 _ h=>?_) h
  obtain⟨es',k',ho'⟩:=Fw p1.1
  have hd :∀a,aM8 l = .ref a->∃o,c.s.heap.get? a=some o/\o.dict=none:=λa e=>by cases e;exact⟨_,ho',rfl⟩
  refine BU e (λhx e=>?_) λe=>BU e (λhx e=>?_) AA
  ·rw[aE6 hx];cases e;exact aM4 p1.1.typeIs aX9 aZ6 PySem.F.type_dict_get hd (h _)
  ·rw[aE6 hx];cases e;exact aM4 p1.1.typeIs aX9 PySem.F.slot_dict_setdefault (by rfl') hd (h _)
def iN(σ:St)(a:AV)(x:Str):Option Ų:=
 bif x==("get":Str)then(Ei σ a).map λ_=>.get else bif x==("__contains__":Str)then(Jy σ a).map λ_=>.has else none
def Z4{y:Str}{b:Ų}(e:iN c.σ a y=some b)(R:Ł X c)(ra:Ξ X c a va)(h:Q (.bm b a) c.σ):Ħ X c Q (aY4 va y true):=by
 have fin :∀{va},Ξ X c a va->A8 X (Ξ X) c Q (.ref c.s.heap.objs.size) {c.s with heap:=c.s.heap.push (DD b.val va),toks:=c.s.toks+1}:=λ{va} ra=>
  .to (b:=AV.bm b a) (R.push (DD b.val va) _) ⟨_,va,rfl,aC5 _ rfl,R.gone,(R.push (DD b.val va) _).pre.v ra⟩ h
 refine BU e (λhx e=>?_) λe=>BU e (λhx e=>?_) AA
 ·obtain⟨es,e1,rfl⟩:=AH e
  rw[aE6 hx]
  refine DI (P:=λva=>Ξ X c a va->Ħ X c Q (aY4 va "get" true)) e1 R ra (λl kvs p1 _ ra=>?_) ra
  obtain⟨es',k',ho'⟩:=Fw p1.1
  exact I2 ho' (fin ra)
 ·obtain⟨es,e1,rfl⟩:=AH e
  rw[aE6 hx]
  refine HH (P:=λva=>Ξ X c a va->Ħ X c Q (aY4 va "__contains__" true)) e1 R ra (λl p1 ra=>?_) ra
  obtain⟨es',k',tb,ho'⟩:=NL p1.1
  exact PR ho' (fin ra)
end
noncomputable def nn:Nat->Option AV:=λ_=>none
section
variable{L:Ci}{G G':ļ}{h h':aE8}{n n':Nat}(k:Ca G h G' h')
include k
theorem Ab.shut{a:AV}{v:Value}(e:a.sub nn=some a)(q:Ab L G h n a v):Ab L G' h' n' a v:=Ab.sub k (λx w e=>AA e) a a v e q
theorem AX.shut{a:List AV}{v:List Value}(e:AC nn a=some a)(q:AX L G h n a v):AX L G' h' n' a v:=AX.sub k (λx w e=>AA e) e q
theorem Ab.zero{a:AV}{v:Value}(q:Ab L G h 0 a v):Ab L G' h' n a v:=Ab.sub k (λx w e h=>bO4 h (aI0 x)) a a v (sub_id a) q
theorem AX.zero{a:List AV}{v:List Value}(q:AX L G h 0 a v):AX L G' h' n a v:=AX.sub k (λx w e h=>bO4 h (aI0 x)) (Es a) q
end
def ċ.lk{G G':ļ}{h h':aE8}(k:ċ G h G' h'){a:aC3}(e:G.tag a=some .lock)(o:Obj)(ho:h.get? a=some o):h'.get? a=some o:=k.keep a o ho λz=>z.elim λp q=>q.2 (aA2 (q.1.symm.trans e))
def j8(wr:List aC3)(h h':aE8):Prop:=(∀b o,b∉wr->h.get? b=some o->h'.get? b=some o)/\h.objs.size<=h'.objs.size
inductive Mi(X:Ω)(c:Ŋ)(wr:List aC3)(items:List AV)(i:Nat)(v:Value)(St:ļ->aE8->Prop)(s₂:aA8):Prop
 | mk (av:AV) (e:items[i]?=some av) (r:Ξ X ⟨c.G,c.σ,s₂⟩ av v) (R:Ł X ⟨c.G,c.σ,s₂⟩) (st:St c.G s₂.heap) (p:j8 wr c.s.heap s₂.heap)
structure Ja(X:Ω)(target:Expr)(I:aC3)(wr:List aC3)(items:List AV)(St:Nat->ļ->aE8->Prop):Prop where
 frame :∀i G h G' h',St i G h->ċ G h G' h'->St i G' h'
 item :∀i c,Ł X c->i<items.length->St i c.G c.s.heap->ĭ X (aV3 (.ref I)) (λr s₁=>∃v,r=some v/\ĭ X (aP9 target (.ref I) v) (λ_ s₂=>Mi X c wr items i v (St (i+1)) s₂) s₁) c.s
 done :∀c,Ł X c->St items.length c.G c.s.heap->ĭ X (aV3 (.ref I)) (λr s₁=>r=none/\Ł X ⟨c.G,c.σ,s₁⟩/\j8 wr c.s.heap s₁.heap) c.s
inductive Bn(X:Ω)(target:Expr)(c:Ŋ)(K:List AV->St->Prop)(it:Value)(s':aA8):Prop
 | mk (c₁:Ŋ) (x:Ct X c c₁) (I:aC3) (wr:List aC3) (items:List AV) (St:Nat->ļ->aE8->Prop) (G':ļ) (e:it = .ref I) (ok :∀e:Env,Ja (X.en e) target I wr items St) (self :∀i G s (Q:Value->aA8->Prop),St i G s.heap->Q (.ref I) s->ĭ X (aM3 (.ref I)) Q s) (st:St 0 G' s'.heap) (hw :∀b∈wr,c₁.s.heap.objs.size<=b) (y:Ct X c₁ ⟨G',c₁.σ,s'⟩) (up :∀a o,c₁.s.heap.get? a=some o->s'.heap.get? a=some o) (q:K items c₁.σ)
theorem Bn.up{X:Ω}{target:Expr}{c c':Ŋ}{K:List AV->St->Prop}{it:Value}{s':aA8}(x:Ct X c c')(p:Bn X target c' K it s'):Bn X target c K it s':=
 p.casesOn λc₁ x₁ I wr items St G' e ok self st hw y up q=>⟨c₁,x.trans x₁,I,wr,items,St,G',e,ok,self,st,hw,y,up,q⟩
def D8{M:bI4}{E:Value->aA8->Prop}{s:aA8}{I:aC3}{target:Expr}{v:Value}{o:Obj}{T:String}{vs:Array Value}{Q:Unit->aA8->Prop}(ho:s.heap.get? I=some o)(hc:o.cls = .type T)(hd:o.data = .fields vs)
  (hT:(["enumerate","zip","dict_itemiterator","dict_reverseitemiterator","odict_iterator","itertools.zip_longest","itertools.pairwise"].contains T)=false) (h:Q () s):aD7 M A (aP9 target (.ref I) v) Q E s:=by
 have body:aD7 M A (do
   let(.ref r,.ref a):=(aM8 I,v) | return
   let o<-load r
   match o.cls,o.data with
   | .type n,.fields vs=>
    if ["enumerate","zip","dict_itemiterator","dict_reverseitemiterator","odict_iterator","itertools.zip_longest","itertools.pairwise"].contains n&&vs[0]?==some (bK8 a)then
     rule "for.unpacks-the-owned-tuple"
     updateField r 0 .none
   | _,_=>pure ()) Q E s:=by
  cases v with
  | ref a=>
   refine aA3 (aS8 ho ?_)
   rw[hc,hd]
   dsimp only
   rw[hT]
   exact aA7 h
  | _=>exact aA7 h
 cases target<;>first | exact body | exact aA7 h
section
variable{X:Ω}{c:Ŋ}
def GR(hs:aE8)(G:ļ)(wr:List aC3):Prop:=∀b∈wr,G.tag b=some .lock/\hs.objs.size<=b
def GR.frame{G G':ļ}{h h':aE8}{wr:List aC3}(x:GR X.hs G wr)(k:ċ G h G' h'):GR X.hs G' wr:=λb hb=>⟨k.lock b (x b hb).1,(x b hb).2⟩
structure MA(L:Ci)(hs:aE8)(wr:List aC3)(I l:aC3)(us:List Value)(items:List AV)(i:Nat)(G:ļ)(h:aE8):Prop where
 lk:GR hs G wr
 mem:I∈wr
 it:h.IsListIter I l i
 ls :∃k,h.get? l=some (Ao us k)
 ow:¬ G.own l
 all:AX L G h 0 items us
section
variable{wr:List aC3}{I l:aC3}{us:List Value}{items:List AV}{i:Nat}
theorem MA.frame{G G':ļ}{h h':aE8}(x:MA X.L X.hs wr I l us items i G h)(kp:ċ G h G' h'):MA X.L X.hs wr I l us items i G' h':=
 ⟨x.lk.frame kp,x.mem,x.it.imp λo q=>⟨kp.lk (x.lk I x.mem).1 o q.1,q.2⟩,x.ls.imp λk e=>(kp.still.at_ l _ e x.ow).1,x.ls.elim λk e=>kp.off e x.ow,x.all.zero kp.still⟩
def MA.ne{G:ļ}{h:aE8}(x:MA X.L X.hs wr I l us items i G h):l∉wr:=λz=>x.ow (Ag (x.lk l z).1)
def MA.next(x:MA X.L X.hs wr I l us items i c.G c.s.heap){h':aE8}{t j:Nat}(it:h'.IsListIter I l j)(hk :∀a o,a∉wr->c.s.heap.get? a=some o->h'.get? a=some o)(p:E1 c (c.hp c.σ h' t)):MA X.L X.hs wr I l us items j c.G h':=
 ⟨x.lk,x.mem,it,x.ls.imp λk e=>hk l _ x.ne e,x.ow,x.all.zero p.still⟩
def MA.item{G:ļ}{h:aE8}(x:MA X.L X.hs wr I l us items i G h)(hi:i<items.length) :∃v,us.toArray[i]?=some v/\Ab X.L G h 0 items[i] v:=(x.all.get (aA5 hi)).imp λv q=>⟨aG1.trans q.1,q.2⟩
theorem MA.none{G:ļ}{h:aE8}(x:MA X.L X.hs wr I l us items items.length G h):us.toArray[items.length]?=none:=aG1.trans (aH7 (aB9 x.all.len))
end
def SF{a I:aC3}(h:a∉[I]):a≠I:=λz=>h (z▸aB4 ..)
def Tf{a I J:aC3}(h:a∉[I,J]):a≠I:=λz=>h (z▸aB4 ..)
def T2{a I J:aC3}(h:a∉[I,J]):a≠J:=λz=>h (z▸aC1 _ (aB4 ..))
def Xb{I l:aC3}{us:List Value}{items:List AV}(hh:X.A.handled=none)(target:Expr):Ja X target I [I] items (MA X.L X.hs [I] I l us items) where
 frame:=λi G h G' h' x kp=>x.frame kp
 item:=λi c R hi x=>by
  obtain⟨v,g1,g2⟩:=x.item hi
  obtain⟨k,x4⟩:=x.ls
  refine wpAny_pyNext_list_item x.it (AS x4) g1 λh' y1 y2=>⟨v,rfl,?_⟩
  have Ī :∀a o,a∉[I]->c.s.heap.get? a=some o->h'.get? a=some o:=λa o ha e=>(y2.2 a (SF ha)).trans e
  have q:=R.lockAt x.lk (t:=c.s.toks) Ī (aB9 y2.1.symm)
  exact y1.elim λo y=>D8 (T:="list_iterator") y.1 y.2.1 y.2.2 (by decide) ⟨items[i],aA5 hi,g2.zero q.1.still,q.2,x.next y1 Ī q.1,Ī,aB9 y2.1.symm⟩
 done:=λc R x=>x.ls.elim λk x4=>Hd (wpAny_pyNext_list_end hh x.it (AS x4) x.none λh' y1 sz=>
  have Ī :∀a o,a∉[I]->c.s.heap.get? a=some o->h'.get? a=some o:=λa o ha e=>y1 a o (SF ha) e
  ⟨rfl,(R.lockAt x.lk (t:=c.s.toks) Ī sz).2,Ī,sz⟩)
structure uF(L:Ci)(hs:aE8)(I l:aC3)(us:List Value)(items:List AV)(i:Nat)(G:ļ)(h:aE8):Prop where
 lk:GR hs G [I]
 it:h.IsTupleIter I l i
 ls :∃k,h.get? l=some (Aw us k)
 ow:¬ G.own l
 all:AX L G h 0 items us
def L2{h:aE8}{l:aC3}{us:List Value}{k:Nat}(e:h.get? l=some (Aw us k)):h.IsTuple l us.toArray:=⟨_,e,rfl,k,rfl⟩
def fV{I l:aC3}{us:List Value}{items:List AV}(hh:X.A.handled=none)(target:Expr):Ja X target I [I] items (uF X.L X.hs I l us items) where
 frame:=λi G h G' h' x kp=>⟨x.lk.frame kp,x.it.imp λo q=>⟨kp.lk (x.lk I (aB1.mpr rfl)).1 o q.1,q.2⟩,x.ls.imp λk e=>(kp.still.at_ l _ e x.ow).1,x.ls.elim λk e=>kp.off e x.ow,x.all.zero kp.still⟩
 item:=λi c R hi x=>by
  obtain⟨v,g1,g2⟩:=x.all.get (aA5 hi)
  obtain⟨k,x4⟩:=x.ls
  refine wpAny_pyNext_tuple_item x.it (L2 x4) (aG1.trans g1) λh' y1 y2=>⟨v,rfl,?_⟩
  have Ī :∀a o,a∉[I]->c.s.heap.get? a=some o->h'.get? a=some o:=λa o ha e=>(y2.2 a (SF ha)).trans e
  have q:=R.lockAt x.lk (t:=c.s.toks) Ī (aB9 y2.1.symm)
  have ne:l∉[I]:=λz=>x.ow (Ag (x.lk l z).1)
  exact y1.elim λo y=>D8 (T:="tuple_iterator") y.1 y.2.1 y.2.2 (by decide) ⟨items[i],aA5 hi,g2.zero q.1.still,q.2,⟨x.lk,y1,⟨k,Ī l _ ne x4⟩,x.ow,x.all.zero q.1.still⟩,Ī,aB9 y2.1.symm⟩
 done:=λc R x=>x.ls.elim λk x4=>Hd (wpAny_pyNext_tuple_end hh x.it (L2 x4) (aG1.trans (aH7 (aB9 x.all.len))) λh' y1 sz=>
  have Ī :∀a o,a∉[I]->c.s.heap.get? a=some o->h'.get? a=some o:=λa o ha e=>y1 a o (SF ha) e
  ⟨rfl,(R.lockAt x.lk (t:=c.s.toks) Ī sz).2,Ī,sz⟩)
def Ad(lo:Int)(n:Nat):List AV:=(aC2 n).map λ(i:Nat)=>.int (lo+(i:Int))
def Au(lo hi:Int):Prop:=-1000000<=lo/\lo<=1000000/\-1000000<=hi/\hi<=1000000
def AU(lo:Int)(n:Nat):(Ad lo n).length=n:=(aA6 ..).trans aF2
def BM{lo:Int}{n i:Nat}(h:i<n):(Ad lo n)[i]?=some (.int (lo+(i:Int))):=by
 unfold Ad
 rw[aB3,bB6 h]
 rfl
structure uA(hs:aE8)(I:aC3)(lo:Int)(n i:Nat)(G:ļ)(h:aE8):Prop where
 lk:GR hs G [I]
 it:IsRangeIter h I (lo+i) ((n:Int)-i) 1
def Ut{I:aC3}{lo:Int}{n:Nat}(hh:X.A.handled=none)(target:Expr):Ja X target I [I] (Ad lo n) (uA X.hs I lo n) where
 frame:=λi G h G' h' x kp=>⟨x.lk.frame kp,kp.lk (x.lk I (aB4 ..)).1 _ x.it⟩
 item:=λi c R hi x=>by
  rw[AU]at hi
  refine wpAny_pyNext_range_item x.it (Int.sub_pos_of_lt (aC8.mpr hi)) λh' y1 y2=>⟨_,rfl,?_⟩
  have Ī :∀a o,a∉[I]->c.s.heap.get? a=some o->h'.get? a=some o:=λa o ha e=>(y2.2 a (SF ha)).trans e
  refine D8 (s:={c.s with heap:=h',toks:=c.s.toks+1}) (T:="range_iterator") y1 rfl rfl (by decide) ⟨_,BM hi,bO8 (lo+(i:Int)),(R.lockAt x.lk Ī (aB9 y2.1.symm)).2,⟨x.lk,?_⟩,Ī,aB9 y2.1.symm⟩
  rw[Int.natCast_add,<-bI2,<-Int.sub_sub]
  exact y1
 done:=λc R x=>Hd (wpAny_pyNext_range_end hh x.it (by rw[AU,Int.sub_self];exact bH2 0) λh' y1 sz=>
  have Ī :∀a o,a∉[I]->c.s.heap.get? a=some o->h'.get? a=some o:=λa o ha e=>y1 a o (SF ha) e
  ⟨rfl,(R.lockAt x.lk (t:=c.s.toks) Ī sz).2,Ī,sz⟩)
structure è(hs:aE8)(I:aC3)(lo:Int)(n i:Nat)(G:ļ)(h:aE8):Prop where
 lk:GR hs G [I]
 it:IsRangeIter h I (lo-i) ((n:Int)-i) (-1)
def BS(vs:List AV):List AV:=vs.zipIdx.map λp=>.tup [.int (p.2:Int),p.1]
def Dm{vs:List AV}{i:Nat}{a:AV}(h:vs[i]?=some a):(BS vs)[i]?=some (.tup [.int (i:Int),a]):=by
 unfold BS
 rw[aB3,List.getElem?_zipIdx,h,bC2]
 rfl
def CQ(vs:List AV):(BS vs).length=vs.length:=(aA6 ..).trans List.length_zipIdx
noncomputable def DU(t:Expr):Bool:=aE0 t.ctorIdx 25
def GW{P:Expr->Prop}{t:Expr}(h:DU t=true)(f :∀a b c,P (.Tuple a b c)):P t:=Expr.Tuple.elim (motive_1:=P) t (aB8 h) f
structure tB(L:Ci)(hs:aE8)(e it l:aC3)(us:List Value)(vs:List AV)(i:Nat)(G:ļ)(h:aE8):Prop where
 ls:MA L hs [e,it] it l us vs i G h
 en :∃old,IsEnum h e it i old
def Wf{e it l:aC3}{us:List Value}{vs:List AV}(hh:X.A.handled=none)(hne:e≠it){target:Expr}(ht:DU target=true):Ja X target e [e,it] (BS vs) (tB X.L X.hs e it l us vs) where
 frame:=λi G h G' h' x kp=>⟨x.ls.frame kp,x.en.imp λold q=>kp.lk (x.ls.lk e (aB4 ..)).1 _ q⟩
 item:=λi c R hi x=>by
  rw[CQ]at hi
  obtain⟨v,g1,g2⟩:=x.ls.item hi
  obtain⟨k,x7⟩:=x.ls.ls
  obtain⟨old,x5⟩:=x.en
  refine wpAny_pyNext_enum_item x5 x.ls.it (AS x7) g1 hne λh' y1 y2 y3 y4 y5=>⟨_,rfl,?_⟩
  refine GW (P:=λT=>ĭ X (aP9 T (.ref e) (.ref c.s.heap.objs.size)) (λ_ s₂=>Mi X c [e,it] (BS vs) i (.ref c.s.heap.objs.size) (tB X.L X.hs e it l us vs (i+1)) s₂) {c.s with heap:=h',toks:=c.s.toks+1}) ht λelts x1 pos=>wpAny_letOwnedTupleGo_enum y1 λh'' ī z2=>?_
  have Ī :∀a o,a∉[e,it]->c.s.heap.get? a=some o->h''.get? a=some o:=λa o a1 ea=>(z2.2 a (Tf a1)).trans (y5 a o (Tf a1) (T2 a1) ea)
  have sz:c.s.heap.objs.size<=h''.objs.size:=z2.1.symm▸y4.symm▸aI3 _
  have hT:h''.get? c.s.heap.objs.size=some (Aw [.int i c.s.toks,v] 0):=(z2.2 _ (aJ8 (aK9 x5))).trans y3
  have q:=R.lockAt x.ls.lk (t:=c.s.toks+1) Ī sz
  exact⟨_,Dm (aA5 hi),⟨_,_,rfl,⟨(0,bL3),hT⟩,R.gone,_,_,rfl,bO8 (i:Int),_,_,rfl,g2.zero q.1.still,rfl⟩,q.2,⟨x.ls.next (y2.imp λo r=>⟨(z2.2 it hne.symm).trans r.1,r.2⟩) Ī q.1,v,ī⟩,Ī,sz⟩
 done:=λc R x=>by
  have x':=x.ls
  have en:=x.en
  rw[CQ]at x' en
  exact x'.ls.elim λk x7=>en.elim λold x5=>Hd (wpAny_pyNext_enum_end hh x5 x'.it (AS x7) x'.none λh' y1 sz=>
   have Ī :∀a o,a∉[e,it]->c.s.heap.get? a=some o->h'.get? a=some o:=λa o ha e=>y1 a o (T2 ha) e
   ⟨rfl,(R.lockAt x'.lk (t:=c.s.toks) Ī sz).2,Ī,sz⟩)
def Xp{vs us:List AV}{va:Value}{K:List AV->St->Prop}(hh:X.A.handled=none)(e:AC nn vs=some vs)(h:K vs c.σ)(target:Expr)(R:Ł X c)(ra:Ξ X c (.lst vs) va):ĭ X (aM3 va) (λit s'=>Bn X target c K it s') c.s:=by
 cases ra with
 | mk l us hv hp ho hr=>
 subst hv
 obtain⟨k,p⟩:=hp
 refine wpAny_pyIter_list (AS (k:=k.1) p) ?_
 have x:=R.lck {cls:=.type "list_iterator",data:=.fields #[.ref l,.int 0 0]} c.s.toks
 exact⟨c,.refl R,_,[c.s.heap.objs.size],vs,MA X.L X.hs [c.s.heap.objs.size] c.s.heap.objs.size l us vs,_,rfl,λe=>Xb (X:=X.en e) (l:=l) (us:=us) hh target,λi G s Q st hQ=>wpAny_pyIter_listiter st.it hQ,⟨λb hb=>⟨aB1.mp hb▸ļ.put_at,aB1.mp hb▸R.size⟩,aB4 ..,⟨_,aC5 _ rfl,rfl,rfl⟩,⟨k.1,aB5 _ p⟩,x.kp.off p ho,hr.shut x.kp.still e⟩,λb hb=>aB9 (aB1.mp hb).symm,x,λ_ _ e=>aB5 _ e,h⟩
def aB(a:AV):Option (List AV):=(Dd a).bind λp=>SK.rec (some p.2) (some p.2) none p.1
def fE{vs:List AV}{va:Value}{K:List AV->St->Prop}(hh:X.A.handled=none)(e:AC nn vs=some vs)(h:K vs c.σ)(target:Expr)(R:Ł X c)(ra:Ξ X c (.tup vs) va):ĭ X (aM3 va) (λit s'=>Bn X target c K it s') c.s:=by
 cases ra with
 | mk l us hv hp ho hr=>
 subst hv
 obtain⟨k,p⟩:=hp
 refine wpAny_pyIter_tuple (L2 (k:=k.1) p) ?_
 have x:=R.lck {cls:=.type "tuple_iterator",data:=.fields #[.ref l,.int 0 0]} c.s.toks
 exact⟨c,.refl R,_,[c.s.heap.objs.size],vs,uF X.L X.hs c.s.heap.objs.size l us vs,_,rfl,λe=>fV (X:=X.en e) (l:=l) (us:=us) hh target,λi G s Q st hQ=>wpAny_pyIter_tupleiter st.it hQ,⟨λb hb=>⟨aB1.mp hb▸ļ.put_at,aB1.mp hb▸R.size⟩,⟨_,aC5 _ rfl,rfl,rfl⟩,⟨k.1,aB5 _ p⟩,x.kp.off p ho,hr.shut x.kp.still e⟩,λb hb=>aB9 (aB1.mp hb).symm,x,λ_ _ e=>aB5 _ e,h⟩
def aT{a:AV}{vs:List AV}{va:Value}{K:List AV->St->Prop}(hh:X.A.handled=none)(ea:aB a=some vs)(e:AC nn vs=some vs)(h:K vs c.σ)(target:Expr)(R:Ł X c)(ra:Ξ X c a va):ĭ X (aM3 va) (λit s'=>Bn X target c K it s') c.s:=by
 obtain⟨⟨k,us⟩,e1,ea⟩:=AG ea
 refine Ft (P:=λa=>Ξ X c a va->_) e1 (λra=>?_) ra
 cases k with
 | tup=>cases aA2 ea;exact fE hh e h target R ra
 | lst=>cases aA2 ea;exact Xp (us:=[]) hh e h target R ra
 | mat=>exact AA ea
end
section
variable{L:Ci}{G:ļ}{h:aE8}{n:Nat}{as:List (Str×AV)}{es:List aM7}
def AR.cases{M:List (Str×AV)->List aM7->Prop}(Ņ:M [] [])(Ę :∀x a hsh t v r u,Ab L G h n a v->AR L G h n r u->M r u->M ((x,a)::r) (⟨hsh,.str x t,v⟩::u)):AR L G h n as es->M as es:=
 aB7 (motive:=λas=>∀es,AR L G h n as es->M as es) (λes q=>(show es=[]from q)▸Ņ) (λa r ih es q=>by
  obtain⟨x,a⟩:=a
  obtain⟨hsh,t,v,u,rfl,q1,ĉ⟩:=q
  exact Ę x a hsh t v r u q1 ĉ (ih u ĉ)) as es
def AR.cons{x:Str}{a:AV}{hsh:Int}{t:Tok}{v:Value}{r:List (Str×AV)}{u:List aM7}(q:Ab L G h n a v)(q':AR L G h n r u):AR L G h n ((x,a)::r) (⟨hsh,.str x t,v⟩::u):=⟨hsh,t,v,u,rfl,q,q'⟩
def AR.noRef:AR L G h n as es->es.any (·.refKey)=false:=AR.cases (M:=λ_ es=>es.any (·.refKey)=false) rfl λ_ _ _ _ _ _ _ _ _ ih=>ih
def AR.len:AR L G h n as es->es.length=as.length:=AR.cases (M:=λas es=>es.length=as.length) rfl λ_ _ _ _ _ _ _ _ _ ih=>bO1 aT3 ih
def AR.look(x:Str)(q:AR L G h n as es) :∀{P:Option AV->Option aM7->Prop},P none none->(∀a e,Ab L G h n a e.val->P (some a) (some e))->P (as.lookup x) (es.find? (·.key.isStr x)):=
 AR.cases (M:=λas es=>∀{P:Option AV->Option aM7->Prop},P none none->(∀a e,Ab L G h n a e.val->P (some a) (some e))->P (as.lookup x) (es.find? (·.key.isStr x))) (λ{P} p _=>p) (λy a hsh t v r u q _ ih P p f=>by
  rw[A1,List.find?_cons,show(bK7 y t).isStr x=(x==y)from Bool.beq_comm]
  cases x==y with
  | true=>exact f a ⟨hsh,.str y t,v⟩ q
  | false=>exact ih p f) q
def AR.put{y:Str}{a:AV}{v:Value}{hsh:Int}{t:Tok}(hv:Ab L G h n a v)(q:AR L G h n as es):AR L G h n (Al as y a) (putL y hsh (.str y t) v es):=
 AR.cases (M:=λas es=>AR L G h n (Al as y a) (putL y hsh (.str y t) v es)) (AR.cons hv rfl) (λz b hs t' u r l q1 ĉ ih=>by
  show AR L G h n (bif z==y then(z,a)::r else(z,b)::Al r y a) (if(bK7 z t').isStr y=true then _ else _)
  rw[show(bK7 z t').isStr y=(z==y)from rfl]
  cases z==y with
  | true=>exact AR.cons hv ĉ
  | false=>exact AR.cons q1 ih) q
end
noncomputable def BK(a:AV):Bool:=match a with
 | .fn _=>false
 | _=>true
def PS{L:Ci}{G:ļ}{h:aE8}{n:Nat}{a:AV}{v:Value}(e:BK a=true)(q:Ab L G h n a v):handedIn v=true:=by
 have bx :∀{β:Type} {P:aC3->β->Prop} {R:β->Prop},FZ P G R v->true=true->handedIn v=true:=λq _=>q.casesOn λ_ _ hv _ _ _=>hv.symm▸rfl
 exact AV.casesOn (motive_1:=λa=>Ab L G h n a v->BK a=true->handedIn v=true) a (λq _=>(show v = .none from q).symm▸rfl) (λx q _=>(show v = .bool x from q).symm▸rfl)
  (λk=>AD.casesOn (motive:=λk=>Ab L G h n (.key k) v->true=true->handedIn v=true) k (λi q _=>(BP q).elim λt e=>e.symm▸rfl) λi q _=>(BR q).elim λt e=>e.symm▸rfl)
  (λ_ _=>bx) (λx q _=>q.1.symm▸rfl) (λ_ _ z=>nomatch z) (λx q _=>(show v = .ref x from q).symm▸rfl) (λ_ _=>bx) (λ_=>bx) (λ_=>bx) (λs q _=>q.elim λt q=>q.1.symm▸rfl) q e
noncomputable def Ÿ.ins:Ÿ->Option (aC3×List (Str×AV))
 | .inst C at_=>some (C,at_)
 | _=>none
def Ÿ.ins_eq{o:Ÿ}{q:aC3×List (Str×AV)}(e:o.ins=some q):o = .inst q.1 q.2:=
 Ÿ.casesOn (motive:=λo=>o.ins=some q->o = .inst q.1 q.2) o (λ_=>AA) (λ_=>AA) (λ_=>AA) (λ_ _ e=>bO1 (λq:aC3×List (Str×AV)=>Ÿ.inst q.1 q.2) (aA2 e)) e
def MU(σ:St)(a:AV)(k:Nat->aC3->List (Str×AV)->Prop):Prop:=Ap (Dt σ a) λp=>Ap p.2.ins λq=>k p.1 q.1 q.2
noncomputable def QL(K:bF7)(D:aC3)(x:Str):Bool:=plainGet K D x&&hasDictIn K D&&(findIn K (.ref D) x).any (noGet K)
def V3(K:bF7)(a:AV)(x:Str)(σ:St)(Q:AV->St->Prop):Prop:=MU σ a λ_ D at_=>D1 (QL K D x) (Ap (at_.lookup x) λv=>D1 (BK v) (Q v σ))
noncomputable def RA(o:Option (Option Value)):Option aC3:=match o with
 | some (some (.ref f))=>some f
 | _=>none
def eN(K:bF7)(σ:St)(a:AV)(x:Str):Option aC3:=(Dt σ a).bind λp=>p.2.ins.bind λq=>(RA (findIn K (.ref q.1) x)).bind λf=>bif (q.2.lookup x).isNone&&(plainGet K q.1 x&&isFn K (.ref f))then some f else none
noncomputable def QN(K:bF7)(D:aC3)(x:Str):Bool:=(findIn K (.ref D) "__setattr__" == some (some (.builtin "object.__setattr__")))&&(plainOver K D&&((takerIn K D x==some none)&&hasDictIn K D))
def bL(K:bF7)(a:AV)(x:Str)(b:AV)(σ:St)(Q:St->Prop):Prop:=MU σ a λy D at_=>D1 (QN K D x&&bH9 at_.length 900) (Q (σ.set y (.inst D (Al at_ x b))))
section
variable{X:Ω}{c:Ŋ}{a b:AV}{va vb:Value}{K:bF7}{Q:AV->St->Prop}
def H2{k:Nat->aC3->List (Str×AV)->Prop}{P:Value->Prop}(h:MU c.σ a k)(R:Ł X c)(r:Ξ X c a va)(f :∀y D at_ es e,c.σ.H.lookup y=some (.inst D at_)->c.s.heap.get? (c.G.μ y)=some (instObj D (c.G.δ y))->c.s.heap.get? (c.G.δ y)=some (dictOf es e)->AR X.L c.G c.s.heap c.σ.n at_ es->c.G.tag (c.G.δ y)=some (.dict y)->k y D at_->P (.ref (c.G.μ y))):P va:=by
 refine AE h λp e1 h=>AE h λq e2 h=>?_
 have z:=Ej e1 r
 rw[Ÿ.ins_eq e2]at z
 rw[z.1]
 exact(R.obj _ _ z.2).rel.casesOn λes e q1 ĉ q3 ě=>f _ _ _ es e z.2 q1 ĉ q3 ě h
def Y9(hK:K.In X.h₀){x:Str}(h:V3 K a x c.σ Q)(R:Ł X c)(ra:Ξ X c a va):Ħ X c Q (aY4 va x true):=by
 refine H2 (P:=λva=>Ħ X c Q (aY4 va x true)) h R ra λy D at_ es k hx o1 ó o3 Ś h=>?_
 obtain⟨hc,h⟩:=Ah h
 obtain⟨c12,c3⟩:=AQ hc
 obtain⟨c1,ĳ⟩:=AQ c12
 refine AE h λv hv h=>?_
 obtain⟨hh,h⟩:=Ah h
 cases ha:findIn K (.ref D) x with
 | none=>rw[ha]at c3;cases c3
 | some attr=>
  rw[ha]at c3
  have fe :∃en,es.find? (·.key.isStr x)=some en/\Ξ X c v en.val:=o3.look x (P:=λp q=>p=some v->∃en,q=some en/\Ξ X c v en.val) AA (λa e r z=>⟨e,rfl,aA2 z▸r⟩) hv
  obtain⟨en,e1,r⟩:=fe
  refine get_value (hK.keeps R.base) ⟨o1,rfl,rfl,ó⟩ (bL4 c1).1 (findObj_own ĳ ha c3 (v:=en.val) ?_) (PS hh r) (.val _ R r h)
  rw[lookIn_dict]
  unfold getL
  rw[e1]
def YA{E:Value->aA8->Prop}(hK:K.In X.h₀){x:Str}{f:aC3}(e:eN K c.σ a x=some f){pl:Sem Bool}{Q:Value×List Value->aA8->Prop}(R:Ł X c)(ra:Ξ X c a va)(h :∀t,Q (.ref f,[va]) {c.s with toks:=t}):ĭ X (aX8 va x pl) Q c.s:=by
 have hi:MU c.σ a λ_ D at_=>RA (findIn K (.ref D) x)=some f/\at_.lookup x=none/\plainGet K D x=true/\isFn K (.ref f)=true:=by
  obtain⟨p,e1,e⟩:=AG e
  obtain⟨q,e2,e⟩:=AG e
  obtain⟨g,e3,e⟩:=AG e
  show Ap (Dt c.σ a) _
  rw[e1]
  show Ap p.2.ins _
  rw[e2]
  refine BU e (λhc e=>?_) AA
  cases e
  obtain⟨ī,z2⟩:=AQ hc
  obtain⟨z2,ā⟩:=AQ z2
  exact⟨e3,Option.isNone_iff_eq_none.mp ī,z2,ā⟩
 refine H2 (P:=λva=>(∀t,Q (.ref f,[va]) {c.s with toks:=t})->ĭ X (aX8 va x pl) Q c.s) hi R ra (λy D at_ es k hx o1 ó o3 Ś h hq=>?_) h
 obtain⟨h1,h2,h3,h4⟩:=h
 have ň:findIn K (.ref D) x=some (some (.ref f)):=by
  unfold RA at h1
  split at h1
  ·rename_i e;cases h1;exact e
  ·cases h1
 have fe:es.find? (·.key.isStr x)=none:=o3.look x (P:=λp q=>p=none->q=none) (λ_=>rfl) (λa e r z=>AA z.symm) h2
 refine method_fn (od:=some (dictOf es k)) (hK.keeps R.base) ⟨o1,rfl,rfl,ó⟩ (bL4 h3).1 (bL4 h3).2 ň (beq_iff_eq.mp h4) ?_ (hq c.s.toks)
 show(lookIn x (dictOf es k)).map _=_
 rw[lookIn_dict]
 unfold getL
 rw[fe]
 simp only[o3.noRef]
 rfl
end
section
variable{prog:aH0}{w:aC7}{A:aK5}{C x:aC3}{s:aA8}{K:bF7}{R:bD9->aA8->Prop}
def Pc{name:Str}{hsh:Int}{k v:Value}(l:List aM7):(putL name hsh k v l).length<=l.length+1:=by
 induction l with
 | nil=>exact aB6 _
 | cons e r ih=>
  unfold putL
  split
  ·exact aI3 _
  ·exact aJ2 ih
def ZL{dx:aC3}{name:Str}{tk:Tok}{v:Value}{es:List aM7}{n:Nat}(X:K.In s.heap)
  (hx:s.heap.get? x=some (instObj C dx)) (D:s.heap.get? dx=some (dictOf es n)) (hp:plainOver K C=true) (ht:takerIn K C name=some none) (hh:hasDictIn K C=true)
  (hr:es.any (·.refKey)=false) (hz:es.length<1000)
  (h :∀h',h'.get? dx=some (dictOf (putL name (bC9 w.params name) (.str name s.toks) v es) (putN name es n))->aH6 dx s.heap h'->R (.ok (.ret .none)) {s with heap:=h',toks:=s.toks+1}) :
  aQ3 (aE5 prog w) A (.call (.builtin "object.__setattr__") ⟨[.ref x,.str name tk,v],[]⟩) R s:=by
 have I:InstAt s.heap x (instObj C dx) C (some (dictOf es n)):=⟨hx,rfl,rfl,D⟩
 refine osa_open X I hp ht λb=>?_
 obtain⟨cd,hc,hd'⟩:=any_some hh
 have D':(s.heap.update dx (Obj.putName name (bC9 w.params name) (.str name s.toks) v)).get? dx=some (dictOf (putL name (bC9 w.params name) (.str name s.toks) v es) (putN name es n)):=by
  rw[aK2 _ D (by rw[putName_dict];rfl),putName_dict]
 refine aA3 (aA7 (aA3 (aA3 (aY2 hx (aA3 ((looks_clsIn X hc).here ?_))))))
 rw[hd']
 refine aA7 (a:=some dx) (aA3 (aA7 (aA3 ?_)))
 unfold nsSet
 refine aA3 (aA3 (aU8 (aA7 (aA3 (wpAny_mkText (aA3 (aY2 D ?_)))))))
 dsimp only[dictOf]
 have c:(!es.toArray.any (·.key.isStr name)&&es.toArray.any (·.refKey))=false:=by
  rw[<-bE6,<-bE6]
  show(!es.any (·.key.isStr name)&&es.any (·.refKey))=false
  rw[hr,aP3]
 rw[aRefKeyMayBeTheName_at,c]
 refine wpAny_updatePart D ?_
 refine aA3 (wpAny_lookBehind D' (pastItsLine_dict (aA0 (Pc es) (aA0 hz (by decide)))) ?_)
 exact aA7 (h _ D' (aM9 ..))
end
section
variable{X:Ω}{c:Ŋ}{a b:AV}{va vb:Value}{K:bF7}{Q:St->Prop}
def iJ(hK:K.In X.h₀){x:Str}(h:bL K a x b c.σ Q)(R:Ł X c)(ra:Ξ X c a va)(rb:Ξ X c b vb):GD X c Q (setAttr va x vb):=by
 refine H2 (P:=λva=>GD X c Q (setAttr va x vb)) h R ra λy D at_ es k hx o1 ó o3 Ś h=>?_
 obtain⟨hc,h⟩:=Ah h
 obtain⟨hc,hz⟩:=AQ hc
 obtain⟨c1,hc⟩:=AQ hc
 obtain⟨ĳ,hc⟩:=AQ hc
 obtain⟨c3,ŗ⟩:=AQ hc
 refine set_plain (od:=some (dictOf es k)) (hK.keeps R.base) ⟨o1,rfl,rfl,ó⟩ (beq_iff_eq.mp c1) (ZL (s:={c.s with toks:=c.s.toks+1}) (hK.keeps R.base) o1 ó ĳ (beq_iff_eq.mp c3) ŗ o3.noRef (aD5 (o3.len▸aP7 hz) (by decide)) λh' ŭ d2=>?_)
 have ne:c.G.μ y≠c.G.δ y:=IE (R.obj y _ hx).tag Ś λq=>nomatch q
 exact .to (b:=()) (R.setInst (o:=.inst D (Al at_ x b)) hx rfl d2 λp=>⟨_,_,(d2.2 _ ne).trans o1,ŭ,AR.sub p.still (p.hg X.L) (GZ _) (o3.put rb),Ś⟩) trivial h
end
end Mine
end
section
open PySem PySem.W PyProof.Rows PySem.Spec PySem.Calls
namespace Mine
abbrev Ob:=aC3×List (Str×AV)
noncomputable def Ob.ao(o:Ob):Ÿ:=.inst o.1 o.2
def CM(os:List Ob):Prop:=∀(i:Nat) (o:Ob),os[i]?=some o->AJ nn o.2=some o.2
structure KT(G:ļ)(h₀:aE8)(s:aA8):Prop where
 lo :∀a,G.own a->h₀.objs.size<=a
 lt :∀a,G.own a->a<s.heap.objs.size
 base :∀b o,h₀.get? b=some o->s.heap.get? b=some o
 size:h₀.objs.size<=s.heap.objs.size
 tk :∀t x,G.τ t=some x->t<s.toks
 tk0:Vr G.τ
structure Kq(L:Ci)(G:ļ)(h:aE8)(k i:Nat)(o:Ob):Prop where
 tag:G.tag (G.μ i)=some (.obj i)
 rel:D5 L G h k i o.ao
inductive VK(L:Ci)(G:ļ)(k:Nat)(s:aA8)(Q:AV->List Ob->Prop)(v:Value)(s':aA8):Prop
 | mk (τ:Tok->Option Str) (up :∀t x,G.τ t=some x->τ t=some x) (tk :∀t x,τ t=some x->t<s'.toks) (le:s.toks<=s'.toks) (r:AV) (os':List Ob) (q:Q r os') (shut:r.sub nn=some r) (len:os'.length=k) (shuts:CM os') (keep :∀b o,s.heap.get? b=some o->¬ G.mt b->s'.heap.get? b=some o) (size:s.heap.objs.size<=s'.heap.objs.size)
  (gens:s'.gens=s.gens) (os:s'.os=s.os) (objs :∀(i:Nat) (o:Ob),os'[i]?=some o->D5 L (G.tau τ) s'.heap k i o.ao) (rel:Ab L (G.tau τ) s'.heap k r v)
def Cp(B:Value->aA8->Prop)(r:bD9)(s:aA8):Prop:=∃v,r = .ok (.ret v)/\B v s
def Cp.mono{B B':Value->aA8->Prop}(h :∀v s,B v s->B' v s){r:bD9}{s:aA8}(x:Cp B r s):Cp B' r s:=x.imp λv q=>⟨q.1,h _ _ q.2⟩
def DW(d:Nat)(A:aK5):Prop:=A.handled=none/\A.depth+d<recursionLimit/\A.units+10*d+40<cLine
abbrev Ġ:=List AV->List Ob->(AV->List Ob->Prop)->Prop
def KZ(L:Ci)(A:aK5)(f:Value)(s:aA8):Prop:=∀(Q:Keeper->aA8->Prop) E,(∀k,Q k s)->aD7 (aE5 L.prog L.w) A (bD0 f) Q E s
def BG(L:Ci)(h₀:aE8)(d:Nat)(f:Value)(tr:Ġ):Prop:=
 ∀{A:aK5} {s:aA8} {G:ļ} {as:List AV} {os:List Ob} {Q:AV->List Ob->Prop} {vas:List Value},DW d A->KT G h₀ s->(∀(i:Nat) (o:Ob),os[i]?=some o->Kq L G s.heap os.length i o)->AX L G s.heap os.length as vas->tr as os Q->
  KZ L A f s/\aQ3 (aE5 L.prog L.w) A (.call f ⟨vas,[]⟩) (Cp (VK L G os.length s Q)) s
def BG.up{L:Ci}{h₀:aE8}{d d':Nat}{f:Value}{tr:Ġ}(h:BG L h₀ d f tr)(hd:d<=d'):BG L h₀ d' f tr:=λhA=>h ⟨hA.1,aD5 (aF6 hd _) hA.2.1,aD5 (aQ5 (aF6 (Nat.mul_le_mul_left 10 hd) _) 40) hA.2.2⟩
noncomputable def Fr(a:AV):Option Nat:=match a with
 | .ref x=>some x
 | _=>none
def hasN(x:Nat)(l:List Nat):Bool:=aB7 false (λy _ ih=>aE0 y x||ih) l
def Af(as:List AV):List Nat:=aB7 [] (λa _ ih=>aD9 ih (λx=>bif hasN x ih then ih else x::ih) (Fr a)) as
def DJ(x:Nat)(l:List Nat):Option Nat:=aB7 none (λy _ ih=>bif aE0 y x then some 0 else ih.map aT3) l
def Fk(l:List Nat)(x:Nat):Option AV:=(DJ x l).map .ref
def Pg(H:List (Nat×Ÿ))(l:List Nat):Option (List Ob):=aB7 (some []) (λx _ ih=>((H.lookup x).bind Ÿ.ins).bind λo=>ih.map (o :: ·)) l
def N5(l:List Nat):List Ob->List (Nat×Ÿ)->List (Nat×Ÿ):=aB7 (λ_ H=>H) (λx _ ih os H=>aB7 H (λo t _=>ih t (Al H x o.ao)) os) l
def St.sets(σ:St)(l:List Nat)(os:List Ob):St:=⟨σ.ρ,N5 l os σ.H,σ.n,σ.anc⟩
def HX(tr:Ġ)(as:List AV)(σ:St)(Q:AV->St->Prop):Prop:=Ap (Pg σ.H (Af as)) λos=>CM os/\Ap (AC (Fk (Af as)) as) λas'=>tr as' os λr os'=>Q r (σ.sets (Af as) os')
def BO(tr:Ġ)(as:List AV)(σ:St)(Q:AV->St->Prop):Prop:=HX tr as σ Q
def GQ(l:List Nat):Prop:=∀i j x:Nat,l[i]?=some x->l[j]?=some x->i=j
def Sj{y x:Nat}(e:y=x):aE0 y x=true:=by
 subst e
 exact Nat.beq_refl y
def MZ{x:Nat}{l:List Nat}{i:Nat}(e:l[i]?=some x):hasN x l=true:=
 aB7 (motive:=λl=>∀i:Nat,l[i]?=some x->hasN x l=true) (λ_=>AA) (λy r ih i e=>Nat.casesOn (motive:=λi=>(y::r)[i]?=some x->(aE0 y x||hasN x r)=true) i (λe=>bO1 (· || hasN x r) (Sj (aA2 e))) (λi e=>(ih i e).symm▸Bool.or_true _) e) l i e
def O4(as:List AV):GQ (Af as):=by
 refine aB7 (motive:=λas=>GQ (Af as)) (λ_ _ _=>AA) (λa r ih=>?_) as
 show GQ (aD9 (Af r) (λx=>bif hasN x (Af r)then Af r else x::Af r) (Fr a))
 cases Fr a with
 | none=>exact ih
 | some x=>
  show GQ (bif hasN x (Af r)then Af r else x::Af r)
  cases hx:hasN x (Af r)with
  | true=>exact ih
  | false=>
   have no :∀{i:Nat} {y:Nat},(Af r)[i]?=some y->x=y->False:=λe z=>aV0 (hx.symm.trans (MZ (z▸e)))
   intro i j y e1 e2
   cases i with
   | zero=>cases j with
    | zero=>rfl
    | succ j=>exact(no e2 (aA2 e1)).elim
   | succ i=>cases j with
    | zero=>exact(no e1 (aA2 e2)).elim
    | succ j=>exact bO1 aT3 (ih i j y e1 e2)
def DO{x:Nat}{l:List Nat} :∀{i:Nat},DJ x l=some i->l[i]?=some x:=by
 refine aB7 (motive:=λl=>∀{i:Nat},DJ x l=some i->l[i]?=some x) AA (λy r ih i e=>?_) l
 refine BU (b:=aE0 y x) (x:=some 0) e (λh e=>aA2 e▸bO1 some (aB8 h)) λe=>?_
 obtain⟨j,e1,rfl⟩:=AH e
 exact ih e1
def Gs{x:Nat}{l:List Nat}{i:Nat}(u:GQ l)(e:l[i]?=some x):DJ x l=some i:=by
 have h :∃j,DJ x l=some j:=aB7 (motive:=λl=>∀i:Nat,l[i]?=some x->∃j,DJ x l=some j) (λ_=>AA) (λy r ih i e=>by
  show∃j,(bif aE0 y x then some 0 else(DJ x r).map aT3)=some j
  cases hb:aE0 y x with
  | true=>exact⟨0,rfl⟩
  | false=>cases i with
   | zero=>exact bO4 (hb.symm.trans (Sj (aA2 e))) (λz=>nomatch z)
   | succ i=>obtain⟨j,hj⟩:=ih i e;exact⟨j+1,by rw[hj];rfl⟩) l i e
 obtain⟨j,hj⟩:=h
 rw[hj,u i j x e (DO hj)]
def OD{H:List (Nat×Ÿ)}{l:List Nat} :∀{os:List Ob},Pg H l=some os->os.length=l.length/\∀(i x:Nat),l[i]?=some x->∃o:Ob,os[i]?=some o/\H.lookup x=some o.ao:=by
 refine aB7 (motive:=λl=>∀{os:List Ob},Pg H l=some os->os.length=l.length/\∀(i x:Nat),l[i]?=some x->∃o:Ob,os[i]?=some o/\H.lookup x=some o.ao) (λ{os} e=>aA2 e▸⟨rfl,λ_ _=>AA⟩) (λy r ih os e=>?_) l
 obtain⟨o,e1,e⟩:=AG e
 obtain⟨t,e2,rfl⟩:=AH e
 obtain⟨ao,e3,e4⟩:=AG e1
 refine⟨bO1 aT3 (ih e2).1,λi x h=>?_⟩
 cases i with
 | zero=>exact⟨o,rfl,aA2 h▸e3.trans (bO1 some (Ÿ.ins_eq e4))⟩
 | succ i=>exact(ih e2).2 i x h
def Oi{l:List Nat} :∀{os:List Ob} {H:List (Nat×Ÿ)} {y:Nat} {o:Ÿ},GQ l->os.length=l.length->(N5 l os H).lookup y=some o->(∃(i:Nat) (b:Ob),l[i]?=some y/\os[i]?=some b/\o=b.ao)\/(∀i:Nat,l[i]?≠some y)/\H.lookup y=some o:=by
 refine aB7 (motive:=λl=>∀{os:List Ob} {H:List (Nat×Ÿ)} {y:Nat} {o:Ÿ},GQ l->os.length=l.length->(N5 l os H).lookup y=some o->(∃(i:Nat) (b:Ob),l[i]?=some y/\os[i]?=some b/\o=b.ao)\/(∀i:Nat,l[i]?≠some y)/\H.lookup y=some o) (λ{os H y o} _ _ h=>.inr ⟨λ_=>AA,h⟩) (λx r ih os H y o u hl h=>?_) l
 cases os with
 | nil=>cases hl
 | cons b t=>
  refine(ih (os:=t) (H:=Al H x b.ao) (λi j z e1 e2=>bK1 (u (i+1) (j+1) z e1 e2)) (bK1 hl) h).elim (λq=>q.elim λi q=>q.elim λc q=>.inl ⟨i+1,c,q⟩) λq=>?_
  exact Ck q.2 (λe1 e2=>.inl ⟨0,b,bO1 some e1.symm,rfl,e2.symm⟩) λe1 e2=>.inr ⟨λi=>Nat.casesOn (motive:=λi=>(x::r)[i]?≠some y) i (λz=>e1 (aA2 z).symm) λi=>q.1 i,e2⟩
def Uy{α β:Type}(o:Option α)(d:β)(f:α->β):β:=aD9 d f o
def Cs{α β:Type}{o:Option α}{a:α}(e:o=some a)(d:β)(f:α->β):Uy o d f=f a:=e▸rfl
def Sh(l:List Nat)(p:A3):A3:=match p with
 | .obj x=>Uy (DJ x l) .lock .obj
 | .dict x=>Uy (DJ x l) .lock .dict
 | _=>.lock
def D0(G:ļ)(l:List Nat):ļ:=⟨λa=>(G.tag a).map (Sh l),λi=>Uy l[i]? 0 G.μ,λi=>Uy l[i]? 0 G.δ,G.τ⟩
section
variable{G:ļ}{l:List Nat}{i x:Nat}
def Gu(e:l[i]?=some x):(D0 G l).μ i=G.μ x:=Cs e 0 G.μ
def JK(e:l[i]?=some x):(D0 G l).δ i=G.δ x:=Cs e 0 G.δ
def Dv{a:aC3}:(D0 G l).own a↔G.own a:=by
 show(G.tag a).map _≠none↔G.tag a≠none
 cases G.tag a with
 | none=>exact Iff.rfl
 | some p=>exact⟨λ_ z=>(nomatch z),λ_ z=>nomatch z⟩
def Q8(u:GQ l)(e:l[i]?=some x){a:aC3}(t:G.tag a=some (.obj x)):(D0 G l).tag a=some (.obj i):=(bO1 (aD4 (Sh l)) t).trans (bO1 some (Cs (Gs u e) A3.lock A3.obj))
def PL(u:GQ l)(e:l[i]?=some x){a:aC3}(t:G.tag a=some (.dict x)):(D0 G l).tag a=some (.dict i):=(bO1 (aD4 (Sh l)) t).trans (bO1 some (Cs (Gs u e) A3.lock A3.dict))
def HA{h:aE8}:Ca G h (D0 G l) h:=⟨λa o e q=>⟨e,λz=>q (Dv.mp z)⟩,λ_ _=>id⟩
def Hm{h:aE8}:Ca (D0 G l) h G h:=⟨λa o e q=>⟨e,λz=>q (Dv.mpr z)⟩,λ_ _=>id⟩
def Ku{a:aC3}{p:A3}(t:(D0 G l).tag a=some p):p = .lock\/∃i x,l[i]?=some x/\(p = .obj i/\G.tag a=some (.obj x)\/p = .dict i/\G.tag a=some (.dict x)):=by
 obtain⟨q,e,rfl⟩:=AH t
 cases q with
 | obj x=>
  show Uy (DJ x l) A3.lock A3.obj=_\/_
  cases hp:DJ x l with
  | none=>exact .inl rfl
  | some i=>exact .inr ⟨i,x,DO hp,.inl ⟨Cs hp A3.lock A3.obj,e⟩⟩
 | dict x=>
  show Uy (DJ x l) A3.lock A3.dict=_\/_
  cases hp:DJ x l with
  | none=>exact .inl rfl
  | some i=>exact .inr ⟨i,x,DO hp,.inr ⟨Cs hp A3.lock A3.dict,e⟩⟩
 | _=>exact .inl rfl
end
section
variable{X:Ω}{c:Ŋ}{l:List Nat}{i x k:Nat}{o:Ob}
def QU(R:Ł X c)(u:GQ l)(e:l[i]?=some x)(ho:c.σ.H.lookup x=some o.ao)(hs:AJ nn o.2=some o.2):Kq X.L (D0 c.G l) c.s.heap k i o:=
 ⟨(bO1 _ (Gu e)).trans (Q8 u e (R.obj x _ ho).tag),D5.sub (g:=nn) HA (λ_ _=>AA) (Gu e) (JK e) (λ_=>id) (λt=>⟨λ_=>id,PL u e t⟩) o.ao o.ao (bO1 (aD4 (Ÿ.inst o.1)) hs) (R.obj x _ ho).rel⟩
def Lc{h:aE8}{n:Nat}{G:ļ}(e:l[i]?=some x)(t:G.tag (G.δ x)=some (.dict x))(hs:AJ nn o.2=some o.2)(q:D5 X.L (D0 G l) h k i o.ao):D5 X.L G h n x o.ao:=
 D5.sub (g:=nn) Hm (λ_ _=>AA) (Gu e).symm (JK e).symm (λ_=>id) (λ_=>⟨λ_=>id,(bO1 _ (JK e)).trans t⟩) o.ao o.ao (bO1 (aD4 (Ÿ.inst o.1)) hs) q
def Fl(R:Ł X c):X.h₀.objs.size<=c.s.heap.objs.size:=aA0 (R.ownB _ (Ag R.tloc)) (aD8 (R.ownLt _ (Ag R.tloc)))
def QM{d:Nat}{f:Value}{tr:Ġ}(hf:BG X.L X.h₀ d f tr){A:aK5}(hA:DW d A){as:List AV}{Q:AV->St->Prop}(h:HX tr as c.σ Q){vas:List Value}(R:Ł X c)(ra:į X c as vas) :
  KZ X.L A f c.s/\aQ3 (aE5 X.L.prog X.L.w) A (.call f ⟨vas,[]⟩) (Cp (A8 X (Ξ X) c Q)) c.s:=by
 refine AE h λos e1 h=>AE h.2 λas' e2 ht=>?_
 have hs:=h.1
 obtain⟨hl,hg⟩:=OD e1
 have u:=O4 as
 generalize Af as=l at hl hg u e2 ht
 have hd :∀{i x},l[i]?=some x->∃o:Ob,os[i]?=some o/\c.σ.H.lookup x=some o.ao/\c.G.tag (c.G.δ x)=some (.dict x)/\c.G.tag (c.G.μ x)=some (.obj x):=λ{i x} e=>(hg i x e).imp λo q=>⟨q.1,q.2,(R.obj x _ q.2).rel.tagd rfl,(R.obj x _ q.2).tag⟩
 have li :∀{i} {o:Ob},os[i]?=some o->∃x,l[i]?=some x:=λ{i o} e=>⟨_,aA5 (hl▸(aA4.mp e).1)⟩
 have D:KT (D0 c.G l) X.h₀ c.s:=⟨λa e=>R.ownB a (Dv.mp e),λa e=>R.ownLt a (Dv.mp e),R.base,Fl R,R.tk,R.tk0⟩
 have hV:AX X.L (D0 c.G l) c.s.heap os.length as' vas:=AX.sub HA (λy w e hy=>by
  obtain⟨j,e3,rfl⟩:=AH e
  obtain⟨o,h1,_⟩:=hd (DO e3)
  exact⟨bO1 _ (Gu (DO e3)).symm,(aA4.mp h1).1⟩) e2 ra
 obtain⟨c1,ĳ⟩:=hf hA D (λi o e=>(li e).elim λx ex=>(hd ex).elim λo' q=>QU R u ex (aA2 (e.symm.trans q.1)▸q.2.1) (hs i o e)) hV ht
 refine⟨c1,aQ6 ĳ λr s'=>Cp.mono λv s' hb=>hb.casesOn λτ up tk le r os' hq hrs hol hoc hkeep hsz hg' ho hO hr=>?_⟩
 have x:Ct X c ⟨c.G.tau τ,⟨c.σ.ρ,N5 l os' c.σ.H,c.σ.n,c.σ.anc⟩,s'⟩:=R.chgs (S:=λp=>∃i x,l[i]?=some x/\(p = .obj x\/p = .dict x)) (λp q=>q.elim λi q=>q.elim λx q=>⟨x,q.2⟩)
  (λb o e q=>hkeep b o e λz=>z.elim λp z=>(Ku z.1).elim z.2 λw=>w.elim λi w=>w.elim λx w=>w.2.elim (λw'=>q _ w'.2 ⟨i,x,w.1,.inl rfl⟩) λw'=>q _ w'.2 ⟨i,x,w.1,.inr rfl⟩) hsz ⟨rfl,rfl,rfl⟩ up (λt x e=>.inr (tk t x e)) hg' ho rfl rfl rfl (λy o e=>(Oi u (hol.trans hl) e).elim
   (λq=>.inl λp=>by
    obtain⟨i,b,q1,ĉ,rfl⟩:=q
    obtain⟨o,h1,h2,h3,h4⟩:=hd q1
    exact⟨(R.obj y _ h2).lt,h4,Lc q1 h3 (hoc i b ĉ) (hO i b ĉ)⟩)
   λq=>.inr ⟨λz=>z.elim λi z=>z.elim λx z=>z.2.elim (λw=>q.1 i (by cases w;exact z.1)) λw=>(nomatch w),λz=>z.elim λi z=>z.elim λx z=>z.2.elim (λw=>(nomatch w)) λw=>q.1 i (by cases w;exact z.1),q.2⟩) le
 exact .to x (hr.shut Hm hrs) hq
def Fp{d:Nat}{f:Value}{tr:Ġ}(hf:BG X.L X.h₀ d f tr){A:aK5}(hA:DW d A){as:List AV}{Q:AV->St->Prop}(h:BO tr as c.σ Q){vas:List Value}(R:Ł X c)(ra:į X c as vas) :
  KZ X.L A f c.s/\aQ3 (aE5 X.L.prog X.L.w) A (.call f ⟨vas,[]⟩) (Cp (A8 X (Ξ X) c Q)) c.s:=QM hf hA h R ra
theorem Cp.call{L:Ci}{A:aK5}{s:aA8}{f:Value}{vas:List Value}{B:Value->aA8->Prop}(h:aQ3 (aE5 L.prog L.w) A (.call f ⟨vas,[]⟩) (Cp B) s):aD7 (aE5 L.prog L.w) A (call f vas []) B (λ_ _=>False) s:=
 aW9 (aQ6 h λr s' x=>x.elim λv x=>x.1▸x.2)
def P7{d:Nat}{f:Value}{tr:Ġ}(hf:BG X.L X.h₀ d f tr)(hA:DW d X.A){as:List AV}{Q:AV->St->Prop}(h:BO tr as c.σ Q){vas:List Value}(R:Ł X c)(ra:į X c as vas):Wa X c Q f vas:=
 ⟨(Fp hf hA h R ra).1,Cp.call (Fp hf hA h R ra).2⟩
def Vg(D:aC3)(trI:Ġ)(as:List AV)(σ:St)(Q:AV->St->Prop):Prop:=BO trI (.ref σ.n::as) (σ.new (.inst D [])) λr σ'=>r = .none/\Q (.ref σ.n) σ'
def K0{A:aK5}{d:Nat}{C:aC3}{rest:List Value}(hA:DW (d+1) A):DW d (A.under (.builtin "type.__call__" ⟨.ref C::rest,[]⟩)):=by
 refine⟨hA.1,?_,?_⟩
 ·show A.depth+1+d<_
  have:=hA.2.1;exists 3,0x21180aa12181a0a18,this
 ·have e:(bC3 "type.__call__" ⟨.ref C::rest,[]⟩).cUnits<=4:=by
   have h :∀n:Nat,n<=1->1+3*n<=4:=λn hn=>by exists 1,0x48003c18a018008,hn
   unfold bN0.cUnits
   refine h _ ?_
   have e:(bC3 "type.__call__" ⟨.ref C::rest,[]⟩).frames=if(bC3 "type.__call__" ⟨.ref C::rest,[]⟩).isFrame then 1 else 0:=by rfl'
   rw[e]
   split<;>decide
  show A.units+(bC3 "type.__call__" ⟨.ref C::rest,[]⟩).cUnits+10*d+40<_
  have:=hA.2.2;exists 4,0x3000028920ac01aaa130000289182a0ac1aa1848008,e,this
def Ŋ.addI(c:Ŋ)(C:aC3):Ŋ:=
 ⟨((c.G.put c.s.heap.objs.size (.dict c.σ.n)).put (c.s.heap.push emptyDict).objs.size (.obj c.σ.n)).name c.σ.n (c.s.heap.push emptyDict).objs.size c.s.heap.objs.size,c.σ.new (.inst C []),{c.s with heap:=(c.s.heap.push emptyDict).push (instObj C c.s.heap.objs.size)}⟩
def Ł.allocI(R:Ł X c)(C:aC3):Ct X c (c.addI C):=by
 have z:=aF8 c.s.heap emptyDict
 have ne:c.s.heap.objs.size≠(c.s.heap.push emptyDict).objs.size:=z▸aE2 (aC6 _)
 have td:(c.addI C).G.tag c.s.heap.objs.size=some (.dict c.σ.n):=(ļ.put_ne ne).trans ļ.put_at
 exact R.more (λ_ _ e=>aB5 _ (aB5 _ e)) (aA0 (De _) (De _)) (λa l=>(ļ.put_ne (z▸aE2 (aH1 l))).trans (ļ.put_ne (aE2 l))) (Iy (n:=0) (Iy (n:=0) R.ownLt _) _) (λx hx=>ļ.name_nm x hx) (aI3 _) rfl rfl rfl rfl
  (λx o' e=>Ck e (λhx hw=>.inr λp=>hx▸hw▸⟨aC6 _,(bO1 _ ļ.name_mu).trans ļ.put_at,⟨[],0,by
   rw[show(c.addI C).G.μ c.σ.n=_ from ļ.name_mu,show(c.addI C).G.δ c.σ.n=_ from ļ.name_de]
   exact aC5 _ rfl,(bO1 _ ļ.name_de).trans (aB5 _ (aC5 _ rfl)),rfl,(bO1 _ ļ.name_de).trans td⟩⟩) λ_ e=>.inl e) (λ_ _=>id) (λ_ _=>.inl) (aB6 _)
def ZU{d:Nat}{C fI:aC3}{trI:Ġ}{K:bF7}(hK:K.In X.h₀)(hm:makesIn K C=true)(hi:findIn K (.ref C) "__init__" = some (some (.ref fI)))(hfn:isFn K (.ref fI)=true)
  (hkp:keepIn K (.ref C)=true) (hf:BG X.L X.h₀ d (.ref fI) trI) (hA:DW (d+1) X.A) {as:List AV} {Q:AV->St->Prop} (h:Vg C trI as c.σ Q) {vas:List Value} (R:Ł X c) (ra:į X c as vas):Wa X c Q (.ref C) vas:=by
 have Xs:K.In c.s.heap:=hK.keeps R.base
 refine⟨λQ' E' hq=>?_,?_⟩
 ·unfold keepIn at hkp
  simp only at hkp
  split at hkp
  ·rename_i o1 ó fd o3 ho
   unfold bD0
   exact aA3 (aS8 (Xs _ _ ho) (aA7 (hq _)))
  ·rename_i o1 ó cd o3 ho
   unfold bD0
   refine aA3 (aS8 (Xs _ _ ho) ?_)
   exact aA3 (((looks_specialIn Xs (beq_iff_eq.mp hkp)).here (aA7 (hq _))))
  ·cases hkp
 have x:=R.allocI C
 have e1:(c.addI C).G.μ c.σ.n=c.s.heap.objs.size+1:=ļ.name_mu.trans (aF8 ..)
 have ĳ:=(Fp (c:=c.addI C) hf (K0 (C:=C) (rest:=vas) hA) h x.R (vas:=.ref (c.s.heap.objs.size+1)::vas) ⟨_,vas,rfl,⟨bO1 _ e1.symm,aC6 _⟩,x.pre.va ra⟩).2
 refine Cp.call (make_core (makes_of Xs hm) (looks_findIn Xs hi) (λself=>bind_fn Xs self (beq_iff_eq.mp hfn)) (.inl rfl) (aQ6 ĳ λr s' hr=>?_))
 obtain⟨v,rfl,hr⟩:=hr
 cases hr with
 | mk G₂ σ₂ b x₂ r₂ q=>
 obtain⟨rfl,q⟩:=q
 exact⟨r₂,_,rfl,.to (c':=⟨G₂,σ₂,s'⟩) (b:=AV.ref c.σ.n) (x.trans x₂) ⟨bO1 _ (((x₂.pre.nm c.σ.n (aC6 _)).1.trans e1).symm),aC0 (aC6 _) x₂.pre.n⟩ q⟩
end
end Mine
end
section
open PySem PySem.W PyProof.Rows PySem.Spec PySem.Calls PySem.SeqAt
namespace Mine
structure Ho(h₀:aE8)(C fN:aC3):Prop extends MatC h₀ C where
 typ :∀M,aF0 M h₀ (isType (.ref C)) true
 len :∀M,aF0 M h₀ (aI9 (.ref C) "__len__") (some (.builtin "tuple.__len__"))
 lt :∀M,aF0 M h₀ (aI9 (.ref C) "__lt__") (some (.builtin "tuple.__lt__"))
 base :∀M,aF0 M h₀ (Bind.staticBase (.ref C)) (.type "tuple")
 init :∀M,aF0 M h₀ (aI9 (.ref C) "__init__") (some (.builtin "object.__init__"))
 obj :∃oc od cd ę,h₀.get? C=some ⟨oc,od,.cls cd,ę⟩/\cd.hasDel=false/\cd.mro.isEmpty=false
 made :∀M,aF0 M h₀ (bD5 (.ref C)) none
 call :∀M,aF0 M h₀ (bC8 (.ref C) "__call__") (some (.builtin "type.__call__"))
 inst :∀M,aF0 M h₀ (bA0 (.ref C) (.type "type")) true
 self :∀M,aF0 M h₀ (aR6 (.ref C) (.ref C)) true
 top :∀M,aF0 M h₀ (aR6 (.ref C) (.type "object")) true
section
variable{prog:aH0}{w:aC7}{A:aK5}{E:Value->aA8->Prop}{s:aA8}{h₀:aE8}{C fN:aC3}
def LC{Q:List Value->aA8->Prop}(it:aC3){T:String}{o:Obj}{items:Array Value}{n:Nat}(hT:T = "list"\/T = "tuple")
  (ho:s.heap.get? it=some o) (hc:o.cls = .type T) (hd:o.data = .seq items n) (hsz:items.size<=aR5)
  (hQ:Q items.toList {s with heap:=(s.heap.push {cls:=.type "list",data:=.seq ([]:List Value).toArray}).update s.heap.objs.size (aJ1 (· ++ items))}) :
  aD7 (aE5 prog w) A (collect (.ref it)) Q E s:=by
 unfold collect
 refine aA3 (wpAny_runValue (aW3 F.entry_proto_collect ?_))
 rw[aQ4 F.plain_proto_collect _]
 refine aA3 (aH2 ?_)
 refine aA7 ⟨bE1 F.plain_list_iadd _,aW3 F.entry_list_iadd ?_⟩
 rw[aQ4 F.plain_list_iadd _]
 have hS:(s.heap.push {cls:=.type "list",data:=.seq ([]:List Value).toArray}).get? s.heap.objs.size=some {cls:=.type "list",data:=.seq #[] 0}:=aC5 _ rfl
 have hS₂:=aK2 (aJ1 (· ++ items)) hS rfl
 have last :∀(r:bD9) (s':aA8),r = .ok (.ret (.ref s.heap.objs.size))/\s' = {s with heap:=(s.heap.push {cls:=.type "list",data:=.seq ([]:List Value).toArray}).update s.heap.objs.size (aJ1 (· ++ items))}->
   (match r with | .ok (.ret v)=>aD7 (aE5 prog w) A (match v with
     | aM8 a=>do
      match(<-load a).data with
       | Data.seq xs _=>pure xs.toList
       | _=>unsupported "internal:collect"
     | _=>unsupported "internal:collect") Q E s' | .ok _=>False | .error e=>E e s'):=by
  rintro r s' ⟨rfl,rfl⟩
  refine aA3 (aS8 hS₂ (aA7 ?_))
  have e:((#[]:Array Value)++items).toList=items.toList:=by simp
  show Q ((#[]:Array Value)++items).toList _
  rw[e];exact hQ
 have ext:=wpAny_extend_seq (prog:=prog) (w:=w) (hsz:=hsz) (A:=A) (R:=λr s'=>r = .ok (.ret (.ref s.heap.objs.size))/\s' = {s with heap:=(s.heap.push {cls:=.type "list",data:=.seq ([]:List Value).toArray}).update s.heap.objs.size (aJ1 (· ++ items))})
  (s:={s with heap:=s.heap.push {cls:=.type "list",data:=.seq ([]:List Value).toArray}}) _ it _ 0 hT hS (aB5 _ ho) hc hd ⟨rfl,rfl⟩
 refine aN2 ext (λfin s' h=>?_) (λe s' h=>bO4 h.1 (by simp))
 cases fin with
 | done f=>exact last _ _ h
 | again c'=>exact⟨h.1,aQ6 h.2 λr s'' hr=>last _ _ hr⟩
def Wu:bH1 "tuple.__new__" = some .builtinFn:=by decide +kernel
def Y3:splitId "tuple.__new__" = some ("tuple","__new__"):=by decide +kernel
def HQ:bD5 (.type "tuple")=pure (some "tuple.__new__"):=F.called_tuple.made
def Ga{t:Value}{Q:Unit->aA8->Prop}{M:bI4}(N:Ho h₀ C fN)(hk :∀b o,h₀.get? b=some o->s.heap.get? b=some o)(q:Q () s):aD7 M A (checkBuiltinCall "tuple.__new__" ⟨[.ref C,t],[]⟩) Q E s:=by
 obtain⟨hh,g,dd,tt,os⟩:=s
 have l1:=(N.typ M).keeps hk
 have l2:=(N.sub M).keeps hk
 have l3:=(N.base M).keeps hk
 have l4:aF0 M hh (bD5 (.type "tuple")) (some "tuple.__new__"):=bA5 HQ
 unfold checkBuiltinCall
 rw[Wu,Y3]
 repeat (first | dsimp only[bE3,aH5,dreduceIte,bne_self_eq_false] | lk)
 exact q
def Nz(args:Args):(bC3 "tuple.__new__" args).quiet=true:=bN0.quiet_builtin _ (by decide +kernel)
def IK{R:bD9->aA8->Prop}{t:aC3}{us:List Value}{k:Nat}(N:Ho h₀ C fN)(hk :∀b o,h₀.get? b=some o->s.heap.get? b=some o)(ht:s.heap.get? t=some (Aw us k))(hsz:us.length<=1000)
  (hq :∀(h':aE8) (dd:Option aC3),(∀b o,s.heap.get? b=some o->h'.get? b=some o)->s.heap.objs.size<=h'.objs.size->R (.ok (.ret (.ref h'.objs.size))) {s with heap:=h'.push (B4 C us (0,dd))}) :
  aQ3 (aE5 prog w) A (.call (.builtin "tuple.__new__") ⟨[.ref C,.ref t],[]⟩) R s:=by
 obtain⟨hh,g,dd,tt,os⟩:=s
 refine codeAny_call_builtin_at (Nz _) F.entry_tuple_new (Ga N hk ?_)
 have l1:=(N.typ (aE5 prog w)).keeps hk
 have l2:=(N.sub (aE5 prog w)).keeps hk
 have l3:=(N.base (aE5 prog w)).keeps hk
 have l4:aF0 (aE5 prog w) hh (bD5 (.type "tuple")) (some "tuple.__new__"):=bA5 HQ
 have l5:=(N.init (aE5 prog w)).keeps hk
 unfold aE3.«tuple.__new__» Bind.madeHere
 have l6:=hk C
 obtain⟨oc,od,cd,ę,c1,ĳ,c3⟩:=N.obj
 have hC:=hk _ _ c1
 have ht:hh.get? t=some (Aw us k):=ht
 repeat (first | dsimp only[bE3,aH5,dreduceIte] | with_reducible refine LC t (.inr rfl) ht rfl rfl (by simp[aR5];omega) ?_ | lk)
 have e:(us.toArray.toList.toArray:Array Value)=us.toArray:=by simp
 generalize hh2:(hh.push {cls:=.type "list",data:=.seq ([]:List Value).toArray}).update hh.objs.size (aJ1 (· ++ us.toArray))=h2
 have k2 :∀b o,hh.get? b=some o->h2.get? b=some o:=λb o e=>by
  rw[<-hh2];exact(aL1 _ _ (aJ8 (aK9 e))).trans (aB5 _ e)
 have s2:hh.objs.size<=h2.objs.size:=by rw[<-hh2,aL0,aF8];exact aI3 _
 have hC2:=k2 _ _ hC
 rw[bO3 (by simp[aR5];omega)]
 unfold newObjAsIs classHasDel
 refine aA3 (wpAny_alloc (aA3 (aA3 (aS8 (aB5 _ (aB5 _ hC2)) (aA7 ?_)))))
 rw[ĳ]
 refine aA7 (aA7 ?_)
 have:=hq (h2.push {cls:=.type "dict",data:=.dict #[]}) (some h2.objs.size) (λb o e=>aB5 _ (k2 b o e)) (aA0 s2 (by rw[aF8];exact aI3 _))
 exact this
def OU(a b c d:Value):aW8 "object.__init__" ⟨[a,b,c,d],[]⟩:=by unfold aW8;rfl'
structure ZI(K:bF7)(C fN st:aC3):Prop where
 reads:readsIn K C (.type "type")=true
 new:findCls K (.ref C) (.type "type") "__new__" = some (.get (.builtin "staticmethod.__get__") (.ref st) .none (.ref C))
 sm :∃rest,recIn K st "staticmethod" = some (.ref fN::rest)
def Pk{K:bF7}{R:Value->aA8->Prop}{a b c:Value}{st:aC3}(X:K.In s.heap)(N:Ho h₀ C fN)(hk :∀b o,h₀.get? b=some o->s.heap.get? b=some o)(Y:ZI K C fN st)
  (hq :∀t,s.toks<=t->aQ3 (aE5 prog w) (A.under (.builtin "type.__call__" ⟨.ref C::[a,b,c],[]⟩)) (.call (.ref fN) ⟨[.ref C,a,b,c],[]⟩) (Cp λv s'=>R v s'/\(∀b o,h₀.get? b=some o->s'.heap.get? b=some o)/\∃m us k,v = .ref m/\s'.heap.get? m=some (B4 C us k)) {s with toks:=t}) :
  aQ3 (aE5 prog w) A (.call (.ref C) ⟨[a,b,c],[]⟩) (Cp R) s:=by
 obtain⟨hh,g,dd,tt,os⟩:=s
 obtain⟨oc,od,cd,ę,c1,ĳ,c3⟩:=N.obj
 have hC:=hk _ _ c1
 have call:=(N.call (aE5 prog w)).keeps hk
 have typ:=(N.inst (aE5 prog w)).keeps hk
 have made:=(N.made (aE5 prog w)).keeps hk
 refine codeAny_of_tree ?_
 show aD7 _ _ (callAny (.ref C) _) _ _ _
 refine nd_load hC ?_
 show aD7 _ _ (callAny.viaDunder (.ref C) _) _ _ _
 unfold callAny.viaDunder
 refine aA3 (call.at ?_)
 dsimp only
 rw[tc_bind]
 refine aA3 (aA7 (aA3 (aA7 ?_)))
 refine aA7 (a:=Fin.again (.call (.builtin "type.__call__") ⟨.ref C::[a,b,c],[]⟩)) (bN3 rfl ?_)
 refine codeAny_call_builtin_at (bN0.quiet_builtin _ (by decide +kernel)) entry_typeCall (bM2 tc_kind tc_split typ (tc_args _ _ _) ?_)
 unfold aE3.«type.__call__»
 have hm:aF0 (aE5 prog w) hh (mroOf (.ref C)) cd.mro:=((bM4 (part:=none) hC).andThen .now).andThen .now
 have X:K.In hh:=X
 obtain⟨rest,hsm⟩:=Y.sm
 repeat (first | dsimp only[aH5,dreduceIte] | simp only[c3] | with_reducible refine cls_bind (s:=⟨hh,g,dd,tt,os⟩) X Y.reads Y.new (aW9 (sm_get X hsm ?_)) | with_reducible refine aW9 (aQ6 (hq _ (aI3 tt)) λr s' hr=>?_) | lk)
 obtain⟨_,rfl,h1,h2,m,us,k,rfl,h3⟩:=hr
 obtain⟨hh',g',dd',tt',os'⟩:=s'
 have h3:hh'.get? m=some (B4 C us k):=h3
 have tm:aF0 (aE5 prog w) hh' (typeOf (.ref m)) (.ref C):=(bM4 h3).andThen .now
 have self:=(N.self (aE5 prog w)).keeps h2
 have init:=(N.init (aE5 prog w)).keeps h2
 have top:=(N.top (aE5 prog w)).keeps h2
 have made':=(N.made (aE5 prog w)).keeps h2
 unfold bA0 callSpecial? bC8
 repeat (first | dsimp only[bE3,aH5,dreduceIte] | with_reducible refine aW9 ?_ | lk)
 have ti:aF0 (aE5 prog w) hh' (bA0 (.ref m) (.type "object")) true:=tm.andThen top
 refine aO0 oi_plain entry_oi (@bM2 (aE5 prog w) _ _ _ "object.__init__" "object" "__init__" (.ref m) [a,b,c] [] _ oi_kind oi_split ti (OU _ _ _ _) ?_)
 unfold aE3.«object.__init__»
 repeat (first | dsimp only[bE3,aH5,dreduceIte,bne_self_eq_false] | lk)
 exact⟨_,rfl,h1⟩
end
section
variable{prog:aH0}{w:aC7}{A:aK5}{E:Value->aA8->Prop}{s:aA8}
def No:opaqueClassAbove (.type "tuple")=pure none:=by rfl'
def Kh:typeOf (.type "tuple")=pure (.type "type"):=by rfl'
def Od:bC8 (.type "tuple") "__getattribute__" = pure (some (.builtin "type.__getattribute__")):=by
 unfold bC8
 rw[Kh]
 show aI9 (.type "type") "__getattribute__" = _
 rw[aH9,aF4];rfl'
def PB:hookBefore (.type "type")=pure none:=by rfl'
def RT:findCls [] (.type "tuple") (.type "type") "__new__" = some (.val (.builtin "tuple.__new__")):=by rfl'
def Xv(h:aE8):bF7.In [] h:=λa o e=>by cases e
def HL{expr:Bool}{Q:Value->aA8->Prop}(h:Q (.builtin "tuple.__new__") {s with toks:=s.toks+1}):aD7 (aE5 prog w) A (aY4 (.type "tuple") "__new__" expr) Q E s:=
 cls_open (K:=[]) (mc:=.type "type") (hook:=none) (Xv _) (bA5 No) (bA5 Kh) (by rfl') (bA5 PB) (by rfl') RT
  (aA7 (by show aD7 _ _ (handedOut _) _ _ _;rw[handedOut_of rfl];exact aA7 h))
def I3{pl:Sem Bool}{Q:Value×List Value->aA8->Prop}(h :∀t,Q (.builtin "tuple.__new__",[]) {s with toks:=t}):aD7 (aE5 prog w) A (aX8 (.type "tuple") "__new__" pl) Q E s:=by
 unfold aX8
 rw[Od]
 refine aA3 (aA7 ?_)
 dsimp only
 rw[bO2 canon_tga]
 exact aA3 (aN2 (HL (Q:=λv s'=>Q (v,[]) s') (h _)) (λ_ _ z=>aA7 z) λ_ _ z=>z)
end
noncomputable def Jo(a:AV):Option Ų:=match a with
 | .fn b=>some b
 | _=>none
noncomputable def Ia(a:AV):Option aC3:=match a with
 | .glo b=>some b
 | _=>none
def Gj{P:AV->Prop}{a:AV}{b:Ų}(e:Jo a=some b)(f:P (.fn b)):P a:=
 AV.casesOn (motive_1:=λa=>Jo a=some b->P a) a AA (λ_=>AA) (λ_=>AA) (λ_ _=>AA) (λ_=>AA) (λ_ e=>aA2 e▸f) (λ_=>AA) (λ_ _=>AA) (λ_=>AA) (λ_=>AA) (λ_=>AA) e
def Hf{P:AV->Prop}{a:AV}{b:aC3}(e:Ia a=some b)(f:P (.glo b)):P a:=
 AV.casesOn (motive_1:=λa=>Ia a=some b->P a) a AA (λ_=>AA) (λ_=>AA) (λ_ _=>AA) (λ_=>AA) (λ_=>AA) (λ_ e=>aA2 e▸f) (λ_ _=>AA) (λ_=>AA) (λ_=>AA) (λ_=>AA) e
def Sk(C:aC3)(as:List AV)(σ:St)(Q:AV->St->Prop):Prop:=BH as λc as=>Ap (Ia c) λa=>BH as λt as=>nil as (Ap (F2 t) λvs=>D1 (aE0 a C&&bH9 vs.length 1000) (Q (.mat vs) σ))
def Kr(C:aC3):Ġ:=λas os Q=>∃a b c,as=[.glo C,a,b,c]/\os=[]/\(a.sub nn=some a/\b.sub nn=some b/\c.sub nn=some c)/\Q (.mat [a,b,c]) []
def Mn(as:List AV)(σ:St)(Q:AV->St->Prop):Prop:=BH as λa as=>BH as λb as=>BH as λc as=>nil as ((a.sub nn=some a/\b.sub nn=some b/\c.sub nn=some c)/\Q (.mat [a,b,c]) σ)
def LY{a:AV}(h:a.sub nn=some a):Fr a=none:=
 AV.casesOn (motive_1:=λa=>a.sub nn=some a->Fr a=none) a (λ_=>rfl) (λ_ _=>rfl) (λ_ _=>rfl) (λ_ _ _=>rfl) (λ_=>AA) (λ_ _=>rfl) (λ_ _=>rfl) (λ_ _ _=>rfl) (λ_ _=>rfl) (λ_ _=>rfl) (λ_ _=>rfl) h
def Cc{as:List AV}:AC nn as=some as->Af as=[]:=
 aB7 (motive:=λas=>AC nn as=some as->Af as=[]) (λ_=>rfl) (λa r ih e=>by
  obtain⟨a',e1,e⟩:=AG e
  obtain⟨r',e2,e⟩:=AH e
  cases e
  show aD9 (Af r) _ (Fr a)=[]
  rw[LY e1]
  exact ih e2) as
def Pv:Fk []=nn:=rfl
section
variable{X:Ω}{c:Ŋ}{fN st:aC3}{Q:AV->St->Prop}
def A8.newMat{vs:List AV}{us:List Value}{h':aE8}{dd:Option aC3}{d:Nat}(t:Nat)(R:Ł X c)(r:į X c vs us)(hk :∀b o,c.s.heap.get? b=some o->h'.get? b=some o)(hs:c.s.heap.objs.size<=h'.objs.size)(q:Q (.mat vs) c.σ)(htk:c.s.toks<=t:=by first | assumption | repeat constructor) :
  A8 X (Ξ X) c Q (.ref h'.objs.size) {c.s with heap:=h'.push (B4 X.L.C us (d,dd)),toks:=t}:=by
 have x:=R.grow (h':=h'.push (B4 X.L.C us (d,dd))) t (λb o e=>aB5 _ (hk b o e)) (aA0 hs (De _))
 exact .to (b:=AV.mat vs) x ⟨_,us,rfl,⟨(d,dd),aC5 _ rfl⟩,λz=>bO4 (R.ownLt _ z) (aS6.mpr hs),x.pre.va r⟩ q
def UN{as:List AV}(N:Ho X.h₀ X.L.C fN)(h:Sk X.L.C as c.σ Q){vas:List Value}(R:Ł X c)(ra:į X c as vas):Ħ X c Q (call (.builtin "tuple.__new__") vas []):=
 A7 h ra λa as va vas ra rr h=>AE h λb e1 h=>A7 h rr λt as vt vas rt rr h=>Ba h rr λh=>AE h λvs e2 h=>by
  obtain⟨hc,h⟩:=Ah h
  obtain⟨h1,h2⟩:=AQ hc
  have hb:va = .ref b:=Hf (P:=λa=>Ξ X c a va->va = .ref b) e1 id ra
  subst hb
  rw[aB8 h1]
  exact EE (P:=λvt=>Ħ X c Q (call (.builtin "tuple.__new__") [.ref X.L.C,vt] [])) e2 rt λl us k p1 ŝ=>aW9 (IK N R.base p1 (ŝ.len▸aP7 h2) λh' dd hk hs=>.newMat c.s.toks R ŝ hk hs h)
def PF{K:bF7}{v:aC3}{A:aK5}{s:aA8}(Xs:K.In s.heap)(hkp:keepIn K (.ref v)=true):KZ X.L A (.ref v) s:=λQ' E' hq=>by
 unfold keepIn at hkp
 simp only at hkp
 split at hkp
 ·rename_i o1 ó fd o3 ho
  unfold bD0
  exact aA3 (aS8 (Xs _ _ ho) (aA7 (hq _)))
 ·rename_i o1 ó cd o3 ho
  unfold bD0
  refine aA3 (aS8 (Xs _ _ ho) ?_)
  exact aA3 (((looks_specialIn Xs (beq_iff_eq.mp hkp)).here (aA7 (hq _))))
 ·cases hkp
def P9{d:Nat}{K:bF7}(hK:K.In X.h₀)(N:Ho X.h₀ X.L.C fN)(Y:ZI K X.L.C fN st)(hkp:keepIn K (.ref X.L.C)=true)(hf:BG X.L X.h₀ d (.ref fN) (Kr X.L.C))(hA:DW (d+1) X.A)
  {as:List AV} (h:Mn as c.σ Q) {vas:List Value} (R:Ł X c) (ra:į X c as vas):Wa X c Q (.ref X.L.C) vas:=by
 refine⟨PF (hK.keeps R.base) hkp,?_⟩
 refine A7 h ra λa as va vas r1 ra h=>A7 h ra λb as vb vas ś ra h=>A7 h ra λd' as vd vas r3 ra h=>Ba h ra λh=>Cp.call (Pk (hK.keeps R.base) N R.base Y λt htk=>?_)
 have x:=R.toks t
 have hs:AC nn [.glo X.L.C,a,b,d']=some [.glo X.L.C,a,b,d']:=DG rfl (DG h.1.1 (DG h.1.2.1 (DG h.1.2.2 rfl)))
 have w1:BO (Kr X.L.C) [.glo X.L.C,a,b,d'] c.σ λr σ'=>(∃vs,r = .mat vs)/\Q r σ':=by
  unfold BO HX
  rw[Cc hs]
  refine⟨λ_ _=>AA,?_⟩
  rw[Pv,hs]
  exact⟨a,b,d',rfl,rfl,h.1,⟨_,rfl⟩,h.2⟩
 refine aQ6 (Fp (c:=c.hp c.σ c.s.heap t) hf (K0 (C:=X.L.C) (rest:=[va,vb,vd]) hA) w1 x.R (vas:=[.ref X.L.C,va,vb,vd]) ⟨_,_,rfl,rfl,x.pre.va ⟨va,_,rfl,r1,vb,_,rfl,ś,vd,_,rfl,r3,rfl⟩⟩).2 λr s'=>Cp.mono λv s' hp=>?_
 cases hp with
 | mk G' σ' bb y rr q=>
 obtain⟨⟨vs,rfl⟩,q⟩:=q
 exact⟨.to (c':=⟨G',σ',s'⟩) (b:=AV.mat vs) (x.trans y) rr q,y.R.base,rr.casesOn λa' us hv hp _ _=>hp.elim λe he=>⟨a',us,e,hv,he⟩⟩
end
def CR:bO0 "map" "__next__" "map.__next__":=
 bN6 (T:="map") (name:="__next__") (owner:="map") (n:="__next__") (by rw[aH9,aF4];rfl') (by decide +kernel) (by decide +kernel) (by decide +kernel) (.inl (by decide +kernel)) (by rw[aK7];rfl')
def E7:bA7 table "map.__next__" = some aE3.«map.__next__»:=aV1 (by rfl')
def FD(a:Value):aW8 "map.__next__" ⟨[a],[]⟩:=by unfold aW8;rfl'
def Gc:aI9 (.type "map") "__iter__" = pure (some (.builtin "map.__iter__")):=by rw[aH9,aF4];rfl'
def N1:mroOf (.type "map")=pure [.type "map",.type "object"]:=by rw[mroOf_type];rfl'
def H4:aI9 (.type "map") "__new__" = pure (some (.builtin "map.__new__")):=by rw[aH9,aF4];rfl'
def IQ:bO0 "map" "__init__" "object.__init__":=
 bN6 (T:="map") (name:="__init__") (owner:="object") (n:="__init__") (by rw[aH9,aF4];rfl') (by decide +kernel) (by decide +kernel) (by decide +kernel) (.inl (by decide +kernel)) (by rw[aK7];rfl')
def Lo:TypeCalled "map" "map.__new__" "object.__init__":=
 ⟨by decide +kernel,by decide +kernel,⟨_,_,N1⟩,madeBy_type N1 H4 (by decide +kernel),by decide +kernel,by rw[aK7];rfl',IQ⟩
def H6(a b:Value):checkTypeCall "map" ⟨[a,b],[]⟩=pure ():=by rfl'
def I1(a b:Value):checkBuiltinCall "map.__new__" ⟨[.type "map",a,b],[]⟩=pure ():=by rfl'
def IP:bA7 table "map.__new__" = some aE3.«map.__new__»:=aV1 (by rfl')
def IN(obj a b:Value):aW8 "object.__init__" ⟨[obj,a,b],[]⟩:=by unfold aW8;rfl'
def O6:aI9 (.type "map") "__len__" = pure none:=by rw[aH9,aF4];rfl'
def L1:aI9 (.type "map") "__length_hint__" = pure none:=by rw[aH9,aF4];rfl'
noncomputable def CS(l:aC3)(i:Nat):Obj:={cls:=.type "list_iterator",data:=.fields #[.ref l,.int i 0]}
noncomputable def Cv(T:aC3)(f:Value):Obj:={cls:=.type "map",data:=.fields #[.ref T,f]}
def VL:aR6 (.type "map") (.type "map")=pure true:=by rw[aK7];rfl'
section
variable{prog:aH0}{w:aC7}{A:aK5}{E:Value->aA8->Prop}{s:aA8}
def IL(l:aC3)(us:List Value)(k:Nat)(f:Value) :
  Meets (aE3.«map.__new__» ⟨[.type "map",f,.ref l],[]⟩)
   (λ_ R s=>s.heap.get? l=some (Ao us k)/\R (.ok (.ret (.ref (s.heap.objs.size+2)))) {s with heap:=((s.heap.push (CS l 0)).push (Aw [.ref s.heap.objs.size] 0)).push (Cv (s.heap.objs.size+1) f)}):=
 .of_wp λprog w A R s h=>by
  obtain⟨hp,g,d,tk,os⟩:=s;obtain⟨hl,h⟩:=h
  have f1:=VL
  have hl:hp.get? l=some (Ao us k):=hl
  unfold aE3.«map.__new__» aE3.SmallTypes.newClass aE3.SmallTypes.iterAll aE3.SmallTypes.refuseKeywords
  have hI:hp.IsList l us.toArray:=AS hl
  repeat (any_goals (first | assumption | with_reducible refine wpAny_pyIter_list (s:=⟨hp,g,d,tk,os⟩) hI ?_ | wp_step))
  refine⟨_,rfl,?_⟩
  have e1:((hp.push (CS l 0)).push (Aw [.ref hp.objs.size] 0)).objs.size=hp.objs.size+2:=by rw[aF8,aF8]
  have e2:(hp.push (CS l 0)).objs.size=hp.objs.size+1:=by rw[aF8]
  show R (.ok (.ret (.ref ((hp.push (CS l 0)).push (Aw [.ref hp.objs.size] 0)).objs.size))) ⟨((hp.push (CS l 0)).push (Aw [.ref hp.objs.size] 0)).push (Cv (hp.push (CS l 0)).objs.size f),g,d,tk,os⟩
  rw[e1,e2]
  exact h
def Pd{it l:aC3}{i:Nat}{us:List Value}{k:Nat}{v:Value}{Q:Value->aA8->Prop}(hit:s.heap.get? it=some (CS l i))(hl:s.heap.get? l=some (Ao us k))(hv:us[i]?=some v)
  (h :∀h',h'.get? it=some (CS l (i+1))->aH6 it s.heap h'->Q v {s with heap:=h'}):aD7 (aE5 prog w) A (aL3 (.ref it)) Q E s:=by
 have hI:s.heap.IsListIter it l i:=⟨_,hit,rfl,rfl⟩
 unfold aL3
 refine aA3 (aJ0 (name:=aA1 "__next__") hI.typeIs aX0 (aG9 aX0 hI.typeIs entry_listiter_next ?_ (args_listiter_next _)))
 show aD7 _ _ (field (.ref it) 0 >>= _) _ _ s
 refine aA3 (aU4 hit rfl (x:=.ref l) rfl ?_)
 show aD7 _ _ (if(aM8 l==aI8)=true then _ else _) _ _ s
 rw[bO3 (show ¬ ((aM8 l==aI8)=true)from aK6)]
 show aD7 _ _ (field (.ref it) 1 >>= _) _ _ s
 refine aA3 (aU4 hit rfl (x:=.int i 0) rfl ?_)
 show aD7 _ _ (seqItems? (.ref l) >>= _) _ _ s
 refine aA3 (aY3 hl rfl ?_)
 simp only[aO4,aG1,hv]
 refine aA3 (aR7 hit rfl (by simp) (aA7 ⟨v,rfl,aA7 (h _ ?_ (aM9 ..))⟩))
 exact aK2 _ hit rfl
def TE{it l:aC3}{i:Nat}{us:List Value}{k:Nat}{Q:Value->aA8->Prop}(hh:A.handled=none)(hit:s.heap.get? it=some (CS l i))(hl:s.heap.get? l=some (Ao us k))(hv:us[i]?=none)
  (h :∀h' x,aX6 it s.heap h'->s.heap.objs.size<=h'.objs.size->({s with heap:=h'}:aA8).TypeIs x "StopIteration"->E x {s with heap:=h'}):aD7 (aE5 prog w) A (aL3 (.ref it)) Q E s:=by
 have hI:s.heap.IsListIter it l i:=⟨_,hit,rfl,rfl⟩
 unfold aL3
 refine aA3 (aJ0 (name:=aA1 "__next__") hI.typeIs aX0 (aG9 aX0 hI.typeIs entry_listiter_next ?_ (args_listiter_next _)))
 show aD7 _ _ (field (.ref it) 0 >>= _) _ _ s
 refine aA3 (aU4 hit rfl (x:=.ref l) rfl ?_)
 show aD7 _ _ (if(aM8 l==aI8)=true then _ else _) _ _ s
 rw[bO3 (show ¬ ((aM8 l==aI8)=true)from aK6)]
 show aD7 _ _ (field (.ref it) 1 >>= _) _ _ s
 refine aA3 (aU4 hit rfl (x:=.int i 0) rfl ?_)
 show aD7 _ _ (seqItems? (.ref l) >>= _) _ _ s
 refine aA3 (aY3 hl rfl ?_)
 simp only[aO4,aG1,hv]
 refine aA3 (bJ0 (aA3 (aR7 hit rfl (by simp) ?_)))
 show aD7 _ _ (newExc (.type "StopIteration") [] >>= _) _ _ _
 refine aA3 ?_
 simp only[newExc,newTuple]
 refine aA3 (aH2 ?_ (by size_fits))
 refine aA3 (m:=aU5 _ _) (aU3 (a:=aI8) (by first | rfl | (simp only[aU5];rfl)) ?_)
 refine aH2 ?_ (by size_fits)
 simp only[raiseNew]
 refine aA3 (bI5 ?_)
 rw[show A.in1.handled=none from hh]
 refine aA3 (aA7 (bL1 ?_))
 refine h _ _ (((aM9 ..).extBut.push _).push _) ?_ ⟨_,aC5 _ rfl,rfl⟩
 rw[aF8,aF8,aL0]
 exists 1,0x18180aa00
def QG{I T it l:aC3}{i:Nat}{us:List Value}{k:Nat}{f v:Value}{Q:Option Value->aA8->Prop}(hI:s.heap.get? I=some (Cv T f))(hT:s.heap.get? T=some (Aw [.ref it] 0))(hit:s.heap.get? it=some (CS l i))(hl:s.heap.get? l=some (Ao us k))
  (hne:I≠it) (hv:us[i]?=some v) (hc :∀h',h'.get? it=some (CS l (i+1))->aH6 it s.heap h'->aQ3 (aE5 prog w) A.in1 (.call f ⟨[v],[]⟩) (Cp λr s'=>Q (some r) s') {s with heap:=h'}):aD7 (aE5 prog w) A (aV3 (.ref I)) Q E s:=by
 have hTy:s.TypeIs (.ref I) "map":=⟨_,hI,rfl⟩
 unfold aV3
 refine aA3 (bA4 (aJ0 (name:=aA1 "__next__") hTy CR
  (aG9 CR hTy E7 ?_ (FD _))))
 obtain⟨hp,g,d,tk,os⟩:=s
 have hI:hp.get? I=some (Cv T f):=hI
 have hT:hp.get? T=some (Aw [.ref it] 0):=hT
 have hit:hp.get? it=some (CS l i):=hit
 have hl:hp.get? l=some (Ao us k):=hl
 unfold aE3.«map.__next__»
 repeat (first | ((with_reducible show aD7 _ _ (aL3 _) _ _ _);refine Pd (s:=⟨hp,g,d,tk,os⟩) hit hl hv ?_) | wp_step)
 intro h' x1 x2
 have hI':h'.get? I=some (Cv T f):=(x2.2 I hne).trans hI
 repeat wp_step
 refine aQ6 (hc h' x1 x2) λr s' hr=>?_
 obtain⟨v,rfl,hr⟩:=hr
 exact aA3 (bL5 (aA7 ⟨_,rfl,aA7 hr⟩))
def Um{I T it l:aC3}{i:Nat}{us:List Value}{k:Nat}{f:Value}{Q:Option Value->aA8->Prop}(hh:A.handled=none)(hI:s.heap.get? I=some (Cv T f))(hT:s.heap.get? T=some (Aw [.ref it] 0))(hit:s.heap.get? it=some (CS l i))(hl:s.heap.get? l=some (Ao us k))
  (hv:us[i]?=none) (hq :∀h',aX6 it s.heap h'->s.heap.objs.size<=h'.objs.size->Q none {s with heap:=h'}):aD7 (aE5 prog w) A (aV3 (.ref I)) Q E s:=by
 have hTy:s.TypeIs (.ref I) "map":=⟨_,hI,rfl⟩
 unfold aV3
 refine aA3 (bA4 (aJ0 (name:=aA1 "__next__") hTy CR
  (aG9 CR hTy E7 ?_ (FD _))))
 obtain⟨hp,g,d,tk,os⟩:=s
 have hI:hp.get? I=some (Cv T f):=hI
 have hT:hp.get? T=some (Aw [.ref it] 0):=hT
 have hit:hp.get? it=some (CS l i):=hit
 have hl:hp.get? l=some (Ao us k):=hl
 unfold aE3.«map.__next__»
 repeat (first | ((with_reducible show aD7 _ _ (aL3 _) _ _ _);refine TE (s:=⟨hp,g,d,tk,os⟩) hh hit hl hv ?_) | wp_step)
 intro h' x y1 y2 y3
 exact aA3 (aU9 (T:="StopIteration") (b:=true) y3 bG8 (aA7 (hq h' y1 y2)))
end
def ID(C:aC3):Ġ:=λas os Q=>∃vs,as=[.glo C,.tup vs]/\vs.length=3/\AC nn vs=some vs/\os=[]/\Q (.mat vs) []
def HZ(vss:List (List AV)):Prop:=∀(i:Nat) (vs:List AV),vss[i]?=some vs->vs.length=3/\AC nn vs=some vs
def Ex(vss:List (List AV)):List AV:=vss.map .mat
section
variable{L:Ci}{A:aK5}{h₀:aE8}{d:Nat}{fM:aC3}{G:ļ}{s₀:aA8}{S I T it l mth:aC3}{us:List Value}{vss:List (List AV)}{k:Nat}
structure Xq(L:Ci)(G:ļ)(s₀:aA8)(S it:aC3)(vss:List (List AV))(i:Nat)(acc:List Value)(s:aA8)(τ:Tok->Option Str):Prop where
 keep :∀b o,s₀.heap.get? b=some o->b≠it->b≠S->s.heap.get? b=some o
 size:s₀.heap.objs.size<=s.heap.objs.size
 gens:s.gens=s₀.gens
 os:s.os=s₀.os
 list :∃c,s.heap.get? S=some (Ao acc c)
 told:AX L (G.tau τ) s.heap 0 (Ex (vss.take i)) acc
 up :∀t x,G.τ t=some x->τ t=some x
 tk :∀t x,τ t=some x->t<s.toks
 le:s₀.toks<=s.toks
def OO{i:Nat}{vs:List AV}(e:vss[i]?=some vs):Ex (vss.take (i+1))=Ex (vss.take i)++[.mat vs]:=by
 unfold Ex
 rw[bD6,e,aF1]
 rfl
def P8{R:bD9->aA8->Prop}(hf:BG L h₀ d (.ref fM) (ID L.C))(hA:DW d A.in1.in1)(D:KT G h₀ s₀)(Ő:G.own S)(ÿ:G.own it)(nom :∀a,¬ G.mt a)(hSi:S≠it)(hIi:I≠it)(hTi:T≠it)(hli:l≠it)(hmi:mth≠it)
  (hI:s₀.heap.get? I=some (Cv T (.ref mth))) (hT:s₀.heap.get? T=some (Aw [.ref it] 0)) (hl:s₀.heap.get? l=some (Ao us k)) (hm:s₀.heap.get? mth=some (methodObj (.ref fM) (.ref L.C)))
  (Ĥ:I≠S/\T≠S/\l≠S/\mth≠S) (ht:HZ vss) (hV:AX L G s₀.heap 0 (vss.map .tup) us) (hn:vss.length<=1000000) (hR :∀acc s' τ,Xq L G s₀ S it vss vss.length acc s' τ->R (.ok (.ret .none)) s') (j:Nat) :
  ∀(i:Nat) (acc:List Value) (s:aA8) (τ:Tok->Option Str),i+j=vss.length->Xq L G s₀ S it vss i acc s τ->s.heap.get? it=some (CS l i)->aQ3 (aE5 L.prog L.w) A (.builtin "list.extend.loop" ⟨[.ref S,.ref I,.none],[]⟩) R s:=by
 have Ă:us.length=vss.length:=hV.len.trans (aA6 ..)
 have Ŕ :∀{a},¬ G.own a->a≠it:=λq z=>q (z▸ÿ)
 have nSS :∀{a},¬ G.own a->a≠S:=λq z=>q (z▸Ő)
 refine aR2 (motive:=λj=>∀(i:Nat) (acc:List Value) (s:aA8) (τ:Tok->Option Str),i+j=vss.length->Xq L G s₀ S it vss i acc s τ->s.heap.get? it=some (CS l i)->aQ3 (aE5 L.prog L.w) A (.builtin "list.extend.loop" ⟨[.ref S,.ref I,.none],[]⟩) R s) (λi acc s τ hi M hit=>?_) (λj ih i acc s τ hi M hit=>?_) j
 ·refine aW3 F.entry_extend_loop ?_
  rw[aQ4 aV4 _]
  show aD7 _ A.in1 (aV3 (.ref I) >>= _) _ _ s
  have hi:i=vss.length:=hi
  subst hi
  refine aA3 (Um hA.1 (M.keep _ _ hI hIi Ĥ.1) (M.keep _ _ hT hTi Ĥ.2.1) hit (M.keep _ _ hl hli Ĥ.2.2.1) (aH7 (aB9 Ă)) λh' y1 y2=>?_)
  exact aA7 (hR acc {s with heap:=h'} τ ⟨λb o e b1 b2=>y1 b o b1 (M.keep b o e b1 b2),aA0 M.size y2,M.gens,M.os,M.list.imp λc hc=>y1 _ _ hSi hc,M.told.zero (show Ca (G.tau τ) _ (G.tau τ) _ from⟨λa o e q=>⟨y1 a o (Ŕ q) e,q⟩,λ_ _=>id⟩),M.up,M.tk,M.le⟩)
 ·have hlt:i<vss.length:=hi▸aJ3 (bC4 j)
  have e1:vss[i]?=some vss[i]:=aA5 hlt
  have h3:=ht i _ e1
  generalize vss[i]=vs at e1 h3
  obtain⟨v,g1,g2⟩:=hV.get ((aB3 ..).trans (bO1 (aD4 AV.tup) e1))
  refine aW3 F.entry_extend_loop ?_
  rw[aQ4 aV4 _]
  show aD7 _ A.in1 (aV3 (.ref I) >>= _) _ _ s
  refine aA3 (QG (M.keep _ _ hI hIi Ĥ.1) (M.keep _ _ hT hTi Ĥ.2.1) hit (M.keep _ _ hl hli Ĥ.2.2.1) hIi g1 λh' x1 x2=>?_)
  have Ī :∀b o,s₀.heap.get? b=some o->b≠it->b≠S->h'.get? b=some o:=λb o e b1 b2=>(x2.2 b b1).trans (M.keep b o e b1 b2)
  have ks:s₀.heap.objs.size<=h'.objs.size:=x2.1.symm▸M.size
  refine method_call (Ī _ _ hm hmi Ĥ.2.2.2) ?_
  have D':KT (G.tau τ) h₀ {s with heap:=h'}:=⟨D.lo,λa ha=>aC0 (D.lt a ha) ks,λb o e=>Ī b o (D.base b o e) (λz=>Cd e (z▸D.lo _ ÿ)) λz=>Cd e (z▸D.lo _ Ő),aA0 D.size ks,M.tk,D.tk0.up M.up⟩
  refine aQ6 (hf hA D' (as:=[.glo L.C,.tup vs]) (os:=[]) (Q:=λr _=>r = .mat vs) (vas:=[.ref L.C,v]) (λ_ _=>AA) ⟨_,_,rfl,rfl,v,_,rfl,g2.zero (G':=G.tau τ) ⟨λa o e q=>⟨Ī a o e (Ŕ q) (nSS q),q⟩,M.up⟩,rfl⟩ ⟨vs,rfl,h3.1,h3.2,rfl,rfl⟩).2 λr s'=>Cp.mono λrv s' hb=>?_
  cases hb with
  | mk τ' up tk le r os' hq hrs _ _ hkeep hsz hg ho _ hr=>
  subst hq
  obtain⟨c,hc⟩:=M.list
  have hkp :∀b o,h'.get? b=some o->s'.heap.get? b=some o:=λb o e=>hkeep b o e (nom b)
  have hS':=hkp _ _ ((x2.2 S hSi).trans hc)
  have hacc:acc.length<=1000000:=aA0 (aB9 (M.told.len.trans ((aA6 ..).trans (List.length_take_of_le (aD8 hlt))))) (aD8 (aC0 hlt hn))
  have hoth :∀b o,b≠S->s'.heap.get? b=some o->(s'.heap.update S (aJ1 (·.push rv))).get? b=some o:=λb o hb e=>(aL1 _ _ (bD4 hb)).trans e
  show aD7 _ A.in1 (updateSeq S (·.push rv) >>= _) _ _ _
  refine aA3 (bB3 hS' rfl (aA7 ⟨bE1 aV4 _,ih (i+1) (acc++[rv]) _ τ' ((Nat.succ_add_eq_add_succ i j).trans hi) ⟨λb o e b1 b2=>hoth b o b2 (hkp _ _ (Ī b o e b1 b2)),?_,hg.trans M.gens,ho.trans M.os,⟨c+1,?_⟩,?_,λt x e=>up t x (M.up t x e),tk,aA0 M.le le⟩ (hoth _ _ (bD4 hSi) (hkp _ _ x1))⟩) (aA0 hacc (by decide)) (by rw[Array.size_push];exact aJ2 (aA0 hacc (by decide))))
  ·show _<=(s'.heap.update S _).objs.size
   rw[aL0]
   exact aA0 ks hsz
  ·exact(aK2 (aJ1 (·.push rv)) hS' rfl).trans (by simp[Ao,aJ1])
  ·rw[OO e1]
   exact AX.append (M.told.zero (show Ca (G.tau τ) _ (G.tau τ') _ from⟨λa o e q=>⟨hoth a o (nSS q) (hkp _ _ ((x2.2 a (Ŕ q)).trans e)),q⟩,up⟩)) ⟨rv,[],rfl,hr.zero (show Ca (G.tau τ') _ (G.tau τ') _ from⟨λa o e q=>⟨hoth a o (nSS q) e,q⟩,λ_ _=>id⟩),rfl⟩
end
def EF:bO0 "map" "__iter__" "map.__iter__":=
 bN6 (T:="map") (name:="__iter__") (owner:="map") (n:="__iter__") Gc (by decide +kernel) (by decide +kernel) (by decide +kernel) (.inl (by decide +kernel)) (by rw[aK7];rfl')
def Hz:bA7 table "map.__iter__" = some aE3.«dict_keyiterator.__iter__»:=
 bH3 (id':="dict_keyiterator.__iter__") (by rfl') (by first | rfl | decide +kernel | (unfold String.splitOn;simp +decide [String.splitOnAux])) (by decide +kernel) (by rfl')
def I0(a:Value):aW8 "map.__iter__" ⟨[a],[]⟩:=by unfold aW8;rfl'
section
variable{prog:aH0}{w:aC7}{A:aK5}{E:Value->aA8->Prop}{s:aA8}
def S6{I T:aC3}{f:Value}{Q:Value->aA8->Prop}(hI:s.heap.get? I=some (Cv T f))(h:Q (.ref I) s):aD7 (aE5 prog w) A (aM3 (.ref I)) Q E s:=by
 have hT:s.TypeIs (.ref I) "map":=⟨_,hI,rfl⟩
 refine bD7 hT EF (aG9 EF hT Hz ?_ (I0 _))
 show aD7 _ _ (ret (.ref I)) _ _ s
 exact aA7 ⟨_,rfl,"map",_,hT,CR.lookup,h⟩
end
section
variable{L:Ci}{A:aK5}{E:Value->aA8->Prop}{s:aA8}{h₀:aE8}{d:Nat}{fM:aC3}{G:ļ}{I T it l mth:aC3}{us:List Value}{vss:List (List AV)}{k:Nat}
def Jv{Q:Value->aA8->Prop}(hf:BG L h₀ d (.ref fM) (ID L.C))(hA:DW (d+1) A)(D:KT G h₀ s)(ÿ:G.own it)(nom :∀a,¬ G.mt a)(hIi:I≠it)(hTi:T≠it)(hli:l≠it)(hmi:mth≠it)
  (hI:s.heap.get? I=some (Cv T (.ref mth))) (hT:s.heap.get? T=some (Aw [.ref it] 0)) (hit:s.heap.get? it=some (CS l 0)) (hl:s.heap.get? l=some (Ao us k)) (hm:s.heap.get? mth=some (methodObj (.ref fM) (.ref L.C)))
  (ht:HZ vss) (hV:AX L G s.heap 0 (vss.map .tup) us) (hn:vss.length<=1000000)
  (hR :∀(acc:List Value) (s':aA8) (τ:Tok->Option Str),(∀t x,G.τ t=some x->τ t=some x)->(∀t x,τ t=some x->t<s'.toks)->s.toks<=s'.toks->(∀b o,s.heap.get? b=some o->b≠it->s'.heap.get? b=some o)->s.heap.objs.size<=s'.heap.objs.size->s'.gens=s.gens->s'.os=s.os->
   (∃c,s'.heap.get? s.heap.objs.size=some (Ao acc c))->AX L ((G.put s.heap.objs.size .lock).tau τ) s'.heap 0 (Ex vss) acc->Q (.ref s.heap.objs.size) s') :
  aD7 (aE5 L.prog L.w) A (call (.type "list") [.ref I]) Q E s:=by
 refine callType_codes (Q₁:=λobj s₁=>obj = .ref s.heap.objs.size/\s₁ = {s with heap:=s.heap.push {cls:=.type "list",data:=.seq #[]}}) F.called_list (F.typeCall_list_1 _) F.entry_list_init
  (code_list_new _ ⟨rfl,rfl⟩) λobj s₁ h₁=>?_
 obtain⟨rfl,rfl⟩:=h₁
 have hS:(s.heap.push {cls:=.type "list",data:=.seq #[]}).get? s.heap.objs.size=some {cls:=.type "list",data:=.seq #[]}:=aC5 _ rfl
 refine⟨⟨_,hS,rfl⟩,F.args_list_init_2 _ _,?_⟩
 generalize hSe:s.heap.objs.size=S at hS hR ⊢
 have lt :∀{a o},s.heap.get? a=some o->a≠S:=λ{a o} e=>hSe▸aE2 (aK9 e)
 show aD7 _ A.in1.in1 (do let old<-aE3.List.listItems (.ref S);aE3.List.listUpdate (.ref S) (λ_=>#[]);letGo old.toList.reverse;aT7 (.ref S) (.ref I) .none) _ _ _
 refine aA3 ?_
 unfold aE3.List.listItems
 refine aA3 (aY3 hS rfl (aA7 ?_))
 show aD7 _ A.in1.in1 (updateSeq S (λ_=>#[]) >>= λ_=>letGo (#[]:Array Value).toList.reverse >>= λ_=>aT7 (.ref S) (.ref I) .none) _ _ _
 refine aA3 (bB3 hS rfl ?_)
 have hS₂:=aK2 (aJ1 (λ_=>(#[]:Array Value))) hS rfl
 refine aA3 (bL5 ?_)
 generalize hp2:(s.heap.push {cls:=.type "list",data:=.seq #[]}).update S (aJ1 (λ_=>(#[]:Array Value)))=ŝ at hS₂
 have k2 :∀b o,s.heap.get? b=some o->ŝ.get? b=some o:=λb o e=>hp2▸(aL1 _ _ (bD4 (lt e))).trans (aB5 _ e)
 have z2:ŝ.objs.size=S+1:=by rw[<-hp2,aL0,aF8,hSe]
 unfold aT7
 have hTy:(⟨ŝ,s.gens,s.drawn,s.toks,s.os⟩:aA8).TypeIs (.ref I) "map":=⟨_,k2 _ _ hI,rfl⟩
 refine aA3 (bK0 hTy ?_)
 rw[show aE3.List.listSameRef (.ref S) (.ref I)=false from beq_eq_false_iff_ne.mpr (bD4 (lt hI)),show(false||aZ9 "map" == aZ9 "list" || aZ9 "map" == aZ9 "tuple")=false by decide]
 rw[bO3 aK6]
 refine aA3 (S6 (k2 _ _ hI) ?_)
 refine aA3 (aK8 ?_)
 unfold aE3.List.listLengthHint
 refine aA3 (bB2 hTy O6 ?_)
 show aD7 _ A.in1.in1 (bC8 (aM8 I) (aA1 "__length_hint__") >>= _) _ _ _
 refine aA3 (bB2 hTy L1 ?_)
 refine aA7 ?_
 show aD7 _ A.in1.in1 (rule "list.extend.makes-room" >>= λ_=>aE3.List.listTouch (.ref S) >>= λ_=>
  again (.builtin "list.extend.loop" ⟨[.ref S,.ref I,.none],[]⟩)) _ _ _
 refine aA3 (bJ0 ?_)
 refine aA3 ?_
 show aD7 _ A.in1.in1 (updateSeq S (·.push .none) >>= λ_=>updateSeq S (·.pop)) _ _ _
 refine aA3 (bB3 hS₂ rfl ?_)
 have hS₃:=aK2 (aJ1 (·.push aI8)) hS₂ rfl
 refine bB3 (hz:=by seq_fits) hS₃ rfl ?_
 have hS₄:=aK2 (aJ1 (·.pop)) hS₃ rfl
 generalize hp4:(ŝ.update S (aJ1 (·.push aI8))).update S (aJ1 (·.pop))=p4 at hS₄
 have k4 :∀b o,s.heap.get? b=some o->p4.get? b=some o:=λb o e=>hp4▸(aL1 _ _ (bD4 (lt e))).trans ((aL1 _ _ (bD4 (lt e))).trans (k2 b o e))
 have ş:p4.objs.size=S+1:=by rw[<-hp4,aL0,aL0,z2]
 refine aA7 ⟨bE1 aV4 _,?_⟩
 have D4:KT (G.put S .lock) h₀ {s with heap:=p4}:=⟨λa ha=>(ļ.put_own ha).elim (λy=>y▸hSe▸D.size) (D.lo a),λa ha=>ş.symm▸(ļ.put_own ha).elim (λy=>y▸aC6 _) λy=>aH1 (hSe▸D.lt a y),λb o e=>k4 _ _ (D.base b o e),ş.symm▸hSe▸aJ4 D.size,D.tk,D.tk0⟩
 have hA2:DW d A.in1.in1.in1:=⟨hA.1,aD5 (aI3 _) hA.2.1,by have:=hA.2.2;show A.units+1+1+1+10*d+40<_;exact id (ql [_,_,_] 0x2000028910ac1818180aaaaa120000289181a0ac0aa18 (by rfl') this)⟩
 have Ő:(G.put S .lock).own S:=Ag ļ.put_at
 have oI':(G.put S .lock).own it:=λz=>ÿ ((ļ.put_ne (lt hit)).symm.trans z)
 have nom' :∀a,¬ (G.put S .lock).mt a:=λa z=>z.elim λp z=>(aN7 (a=S)).elim (λy=>z.2 (aA2 ((y▸z.1).symm.trans ļ.put_at))) λy=>nom a ⟨p,(ļ.put_ne y).symm.trans z.1,z.2⟩
 have st:Ca G s.heap (G.put S .lock) p4:=⟨λa o e q=>⟨k4 a o e,λz=>(ļ.put_own z).elim (lt e) q⟩,λ_ _=>id⟩
 refine P8 (s₀:={s with heap:=p4}) (A:=A.in1) (S:=S) hf hA2 D4 Ő oI' nom' (λz=>lt hit z.symm) hIi hTi hli hmi (k4 _ _ hI) (k4 _ _ hT) (k4 _ _ hl) (k4 _ _ hm) ⟨lt hI,lt hT,lt hl,lt hm⟩ ht (hV.zero st) hn (λacc s' τ M=>?_) vss.length 0 [] _ G.τ (bC2 _) ⟨λb o e _ _=>e,aB6 _,rfl,rfl,⟨_,hS₄⟩,rfl,λ_ _=>id,D.tk,aB6 _⟩ (k4 _ _ hit)
 have told:=M.told
 rw[aR8]at told
 exact⟨rfl,hR acc s' τ M.up M.tk M.le (λb o e b1=>M.keep b o (k4 b o e) b1 (lt e)) (aA0 (ş.symm▸aI3 _) M.size) M.gens M.os M.list told⟩
end
section
variable{prog:aH0}{w:aC7}{A:aK5}{E:Value->aA8->Prop}{s:aA8}{C:aC3}
def OG{a b:Int}{t u:Tok}{Q:Value->aA8->Prop}(h:Q (.bool (decide (a<b))) s):aD7 (aE5 prog w) A (richCompare .Lt (.int a t) (.int b u)) Q E s:=lt_int h
def XQ{l b:aC3}{x y:Int}{r r':List Value}{n n2:Nat×Option aC3}{t u:Tok}{Q:bN2->aA8->Prop}(hl:s.heap.get? l=some (B4 C (.int x t::r) n))(hb:s.heap.get? b=some (B4 C (.int y u::r') n2))(hne:(x==y)=false)
  (hs:aF0 (aE5 prog w) s.heap (aR6 (.ref C) (.type "tuple")) true) (h:Q (.done (.ret (.bool (decide (x<y))))) s):aD7 (aE5 prog w) A (aE3.«tuple.__lt__» ⟨[.ref l,.ref b],[]⟩) Q E s:=by
 obtain⟨hp,g,d,tk,os⟩:=s
 have hl:hp.get? l=some (B4 C (.int x t::r) n):=hl
 have hb:hp.get? b=some (B4 C (.int y u::r') n2):=hb
 have tb:aF0 (aE5 prog w) hp (bA0 (.ref b) (.type "tuple")) true:=(show aF0 (aE5 prog w) hp (typeOf (.ref b)) (.ref C)from(bM4 hb).andThen .now).andThen hs
 unfold aE3.«tuple.__lt__»
 repeat (first | with_reducible refine aF0.at tb ?_ | ((with_reducible show aD7 _ _ (eqBool _ _) _ _ _);refine wpAny_eqBool_int ?_;simp only[hne]) | ((with_reducible show aD7 _ _ (richCompare aZ5.Lt _ _) _ _ _);refine OG ?_) | lk)
 exact h
end
def L8{C:aC3}{us vs:List Value}{e:Nat×Option aC3}{k:Nat}(z:some (B4 C us e)=some (seqObj "list" vs.toArray k)):False:=nomatch(bO1 (λo:Option Obj=>o.map Obj.cls) z:some (aM8 C)=some (aZ9 "list"))
def Cy{α:Type}(f:Nat->Nat->Bool)(t:bN8 α):α:=bK2 (λa=>a) (λi j _ ih=>ih (f i j)) t
def O5(C:aC3)(h:aE8)(v:Value)(x:Int):Prop:=∃m k t r,v = .ref m/\h.get? m=some (B4 C (.int x t::r) k)
section
variable{prog:aH0}{w:aC7}{A:aK5}{E:Value->aA8->Prop}{s:aA8}{h₀:aE8}{C fN:aC3}
def ZT{x y:Value}{a b:Int}{Q:Bool->aA8->Prop}(N:Ho h₀ C fN)(hk :∀b o,h₀.get? b=some o->s.heap.get? b=some o)(hu:A.units<cLine)(hx:O5 C s.heap x a)(hy:O5 C s.heap y b)(hne:(a==b)=false)(h:Q (decide (a<b)) s) :
  aD7 (aE5 prog w) A (keyLt' oneType' x y) Q E s:=by
 obtain⟨m,k,t,r,rfl,hm⟩:=hx
 obtain⟨m',k',u,r',rfl,hm'⟩:=hy
 rw[keyLt'_oneType,oneLt'_eq]
 simp only[if_true]
 refine aA3 (wpAny_cRoomFor_or (.inr hu) ?_)
 exact aA3 (OE hm hk (N.lt _) PySem.F.slot_tuple_lt.bind (DV (n:="__lt__") N.toMatC hm hk PySem.F.slot_tuple_lt.plain (by decide +kernel) (by decide +kernel) PySem.F.entry_tuple_lt (PySem.F.args_tuple_lt_2 _ _) (XQ hm hm' hne ((N.sub _).keeps hk) ⟨_,rfl,aQ1 h⟩)))
end
section
variable{prog:aH0}{w:aC7}{A:aK5}{E:Value->aA8->Prop}{s:aA8}{h₀:aE8}{C fN m:aC3}{us:List Value}{k:Nat×Option aC3}
def Uq{Q:Value->aA8->Prop}(hc:MatC h₀ C)(hlen :∀M,aF0 M h₀ (aI9 (.ref C) "__len__") (some (.builtin "tuple.__len__")))(hm:s.heap.get? m=some (B4 C us k))(hk :∀b o,h₀.get? b=some o->s.heap.get? b=some o)(hz:us.length<=1000)
  (h :∀t u,Q (.int us.length t) {s with toks:=u}):aD7 (aE5 prog w) A (call (.builtin "len") [.ref m]) Q E s:=by
 refine call_function_tree (by decide +kernel) (by decide +kernel) (aV1 (b:=aE3.«len») (by rfl')) (by unfold aW8;rfl') ?_
 unfold aE3.«len» callSpecial?
 refine aA3 (aA7 ?_)
 refine aA3 (aA3 (Cm hm hk (hlen _) ?_))
 dsimp only
 refine aK8 ?_
 rw[PySem.F.slot_tuple_len.bind]
 refine aA3 (aA7 (aA3 ?_))
 refine DV (n:="__len__") hc hm hk PySem.F.slot_tuple_len.plain (by decide +kernel) (by decide +kernel) PySem.F.entry_tuple_len (PySem.F.args_tuple_len_1 _) ?_
 obtain⟨hp,g,d,tk,os⟩:=s
 have hm:hp.get? m=some (B4 C us k):=hm
 unfold aE3.«tuple.__len__»
 repeat lk
 have e:(us.toArray.size:Int)=us.length:=by simp
 refine⟨_,rfl,aA7 ?_⟩
 rw[e]
 dsimp only
 refine aA3 (aK8 ?_)
 refine aU3 (a:=(us.length:Int)) rfl ?_
 refine aA3 (bL5 ?_)
 rw[bO3 (by exists 1,0x800f49),bO3 (by omega)]
 refine aA3 (wpAny_mkInt (aA7 ?_))
 exact h _ _
end
def MN(as:List AV)(σ:St)(K:List AV->St->Prop):Prop:=BH as λa as=>Ap (Bg a) λx=>aB7 (Au 0 x/\K (Ad 0 (x-0).toNat) σ) (λb r _=>Ap (Bg b) λy=>aB7 (Au x y/\K (Ad x (y-x).toNat) σ) (λ_ _ _=>False) r) as
def Ij(tg:Expr)(as:List AV)(σ:St)(K:List AV->St->Prop):Prop:=BH as λa as=>nil as (aD9 (Ap (K4 a) λvs=>DU tg=true/\AC nn vs=some vs/\K (BS vs) σ) (λx=>DU tg=true/\K (BS (D6 x)) σ) (DC a))
section
variable{X:Ω}{c:Ŋ}{Q:AV->St->Prop}{K:List AV->St->Prop}
def Jz{lo hi:Int}{t u v:Tok}{tk:Nat}(hh:X.A.handled=none)(hn:Au lo hi)(h:K (Ad lo (hi-lo).toNat) c.σ)(target:Expr)(R:Ł X c)(htk:c.s.toks<=tk) :
  ĭ X (aM3 (.ref c.s.heap.objs.size)) (λit s'=>Bn X target c K it s') {c.s with heap:=c.s.heap.push {cls:=.type "range",data:=.fields #[.int lo t,.int hi u,.int 1 v]},toks:=tk}:=by
 have x:=R.push {cls:=.type "range",data:=.fields #[.int lo t,.int hi u,.int 1 v]} tk
 have hs:aR9 lo hi 1=((hi-lo).toNat:Int):=by
  unfold aR9
  rw[bO2 (by decide)]
  split
  ·rw[bF8];rename_i u0;exists[_],[_,_],0xf181801bba50801be00f581048,u0,(aD1 _)
  ·rename_i u0;exists[_],[_,_],0xf0850801be00f5810498,u0,(aD1 _)
 have sm:aE3.Range.small lo hi 1=true:=by
  unfold aE3.Range.small
  rw[hs]
  unfold Au at hn
  simp[aE3.Range.rangeFitsLong]
  omega
 have y:=x.R.lck {cls:=.type "range_iterator",data:=.fields #[bK8 lo,bK8 (aR9 lo hi 1),bK8 1]} tk
 refine wpAny_pyIter_range (t:=t) (u:=u) (v:=v) (aC5 _ rfl) sm ⟨_,x,_,[(c.s.heap.push {cls:=.type "range",data:=.fields #[.int lo t,.int hi u,.int 1 v]}).objs.size],Ad lo (hi-lo).toNat,uA X.hs (c.s.heap.push {cls:=.type "range",data:=.fields #[.int lo t,.int hi u,.int 1 v]}).objs.size lo (hi-lo).toNat,_,rfl,λe=>Ut (X:=X.en e) hh target,λi G s Q st hQ=>wpAny_pyIter_rangeiter st.it hQ,⟨λb hb=>⟨aB1.mp hb▸ļ.put_at,aB1.mp hb▸x.R.size⟩,?_⟩,λb hb=>aB9 (aB1.mp hb).symm,y,λ_ _ e=>aB5 _ e,h⟩
 have e0:lo+((0:Nat):Int)=lo:=aS5 lo
 have e1:(((hi-lo).toNat:Nat):Int)-((0:Nat):Int)=aR9 lo hi 1:=hs▸bC5 _
 rw[e0,e1]
 exact aC5 _ rfl
def Uj{as:List AV}(hh:X.A.handled=none)(h:MN as c.σ K)(target:Expr){vas:List Value}(R:Ł X c)(ra:į X c as vas):ĭ X (call (.type "range") vas []) (λr s₁=>ĭ X (aM3 r) (λit s'=>Bn X target c K it s') s₁) c.s:=
 A7 h ra λa as va vas r1 ra h=>AE h λx e1 h=>Aj (P:=λva=>ĭ X (call (.type "range") (va::vas) []) _ c.s) e1 r1 λt=>by
  cases as with
  | nil=>rw[show vas=[]from ra];exact call_range_1 (Jz hh h.1 h.2 target R (aD0 _ 2))
  | cons b r=>
   obtain⟨vb,vr,rfl,ś,ra⟩:=ra
   refine AE h λy e2 h=>Aj (P:=λvb=>ĭ X (call (.type "range") (.int x t::vb::vr) []) _ c.s) e2 ś λu=>?_
   cases r with
   | nil=>rw[show vr=[]from ra];exact call_range_2 (Jz hh h.1 h.2 target R (aI3 _))
   | cons d r=>exact h.elim
structure rY(P:Nat->aE8->Prop)(hs:aE8)(e it:aC3)(i:Nat)(G:ļ)(h:aE8):Prop where
 lk:GR hs G [e,it]
 en :∃old,IsEnum h e it i old
 st:P i h
def O7{e it:aC3}{x:Str}{P:Nat->aE8->Prop}(D:Draws X.L.prog X.L.w X.A.in1 it [it] x.cps.size (SignAt x) P)(hne:e≠it){target:Expr}(ht:DU target=true):Ja X target e [e,it] (BS (D6 x)) (rY P X.hs e it) where
 frame:=λi G h G' h' y kp=>⟨y.lk.frame kp,y.en.imp λold q=>kp.lk (y.lk e (aB4 ..)).1 _ q,D.frame _ _ _ y.st λb hb o q=>aB1.mp hb▸kp.lk (y.lk it (aC1 _ (aB4 ..))).1 _ (aB1.mp hb▸q)⟩
 item:=λi c R hi x=>by
  rw[CQ,DT]at hi
  obtain⟨old,x5⟩:=x.en
  refine F4 (wpAny_pyNext_enum_itemD D x5 x.st hi hne (λz=>hne (aB1.mp z)) λv h' tk hP y1 y2 y3 y4 y5 lt=>⟨_,rfl,?_⟩)
  have tkl:c.s.toks<=tk+1:=lt.2
  refine GW (P:=λT=>ĭ X (aP9 T (.ref e) (.ref c.s.heap.objs.size)) (λ_ s₂=>Mi X c [e,it] (BS (D6 _)) i (.ref c.s.heap.objs.size) (rY P X.hs e it (i+1)) s₂) {c.s with heap:=h',toks:=tk+1}) ht λelts x1 pos=>wpAny_letOwnedTupleGo_enum y1 λh'' ī z2=>?_
  have Ī :∀a o,a∉[e,it]->c.s.heap.get? a=some o->h''.get? a=some o:=λa o a1 ea=>(z2.2 a (Tf a1)).trans (y5 a o (Tf a1) (T2 a1) ea)
  have sz:c.s.heap.objs.size<=h''.objs.size:=z2.1.symm▸y4.symm▸aI3 _
  have hT:h''.get? c.s.heap.objs.size=some (Aw [.int i tk,v] 0):=(z2.2 _ (aJ8 (aK9 x5))).trans y3
  have q:=R.lockAt x.lk (t:=tk+1) Ī sz tkl
  obtain⟨g,u,g1,rfl⟩:=hP
  exact⟨_,Dm (K8 g1),⟨_,_,rfl,⟨(0,bL3),hT⟩,R.gone,_,_,rfl,bO8 (i:Int),_,_,rfl,bO8 _,rfl⟩,q.2,⟨x.lk,⟨_,ī⟩,D.frame _ _ _ y2 λb hb o q=>aB1.mp hb▸(z2.2 it hne.symm).trans (aB1.mp hb▸q)⟩,Ī,sz⟩
 done:=λc R y=>by
  have en:=y.en
  have st:=y.st
  rw[CQ,DT]at en st
  exact en.elim λold q=>Hd (wpAny_pyNext_enum_endD D q st λh' y1 sz=>
   have Ī :∀a o,a∉[e,it]->c.s.heap.get? a=some o->h'.get? a=some o:=λa o ha e=>y1 a o (T2 ha) e
   ⟨rfl,(R.lockAt y.lk (t:=c.s.toks) Ī sz).2,Ī,sz⟩)
def QP(hh:X.A.handled=none)(x:Str)(t:Tok)(it:aC3):Draws X.L.prog X.L.w X.A.in1 it [it] x.cps.size (SignAt x) (λi h=>h.IsStrIter it (strIterType x) x t i):=by
 unfold strIterType
 cases x.cps.all (· < 128)with
 | true=>exact Draws.strAscii (A:=X.A.in1) hh it x t
 | false=>exact Draws.strWide (A:=X.A.in1) hh it x t
def Xl{as:List AV}{target:Expr}(hh:X.A.handled=none)(h:Ij target as c.σ K){vas:List Value}(R:Ł X c)(ra:į X c as vas):ĭ X (call (.type "enumerate") vas []) (λr s₁=>ĭ X (aM3 r) (λit s'=>Bn X target c K it s') s₁) c.s:=
 A7 h ra λa as va vas r1 ra h=>Ba h ra λh=>Az h (λh=>AE h λvs e1 h=>by
  cases Ee (P:=λa=>Ξ X c a va->Ξ X c (.lst vs) va) e1 id r1 with
  | mk l us hv hp ho hr=>
  subst hv
  obtain⟨k,p⟩:=hp
  refine call_enumerate_1 (n:=k.1) p λh' q1 ĉ q3 ě=>aY5 q1 ?_
  have lt :∀{a},a<c.s.heap.objs.size->a≠c.s.heap.objs.size+1:=λl=>aE2 (aH1 l)
  have x:Ct X c ⟨(c.G.put c.s.heap.objs.size .lock).put (c.s.heap.objs.size+1) .lock,c.σ,{c.s with heap:=h'}⟩:=R.more ě (q3▸aD0 _ 2) (λa l=>(ļ.put_ne (lt l)).trans (ļ.put_ne (aE2 l)))
   (λa e=>q3.symm▸(ļ.put_own e).elim (λz=>z▸aC6 _) λe=>(ļ.put_own e).elim (λz=>z▸aH1 (aC6 _)) λe=>aH1 (aH1 (R.ownLt a e))) (λ_ _=>⟨rfl,rfl⟩) (aB6 _) rfl rfl rfl rfl (λ_ _=>.inl) (λ_ _=>id) (λ_ _=>.inl) (aB6 _)
  have mem :∀{P:aC3->Prop},P (c.s.heap.objs.size+1)->P c.s.heap.objs.size->∀b∈[c.s.heap.objs.size+1,c.s.heap.objs.size],P b:=λp q b hb=>(aC4.mp hb).elim (λz=>z▸p) λhb=>aB1.mp hb▸q
  have lk:GR X.hs ((c.G.put c.s.heap.objs.size .lock).put (c.s.heap.objs.size+1) .lock) [c.s.heap.objs.size+1,c.s.heap.objs.size]:=mem ⟨ļ.put_at,aJ4 R.size⟩ ⟨(ļ.put_ne (aE2 (aC6 _))).trans ļ.put_at,R.size⟩
  exact⟨c,.refl R,_,[c.s.heap.objs.size+1,c.s.heap.objs.size],BS vs,tB X.L X.hs (c.s.heap.objs.size+1) c.s.heap.objs.size l us vs,_,rfl,λe=>Wf (X:=X.en e) hh (aJ8 (aC6 _)) h.1,λi G s Q st hQ=>st.en.elim λo q=>aY5 q hQ,⟨⟨lk,aC1 _ (aB4 ..),ĉ,⟨k.1,ě _ _ p⟩,x.kp.off p ho,hr.shut x.kp.still h.2.1⟩,_,q1⟩,
   mem (aI3 _) (aB6 _),x,ě,h.2.2⟩) λx e1 h=>Bl (P:=λva=>ĭ X (call (.type "enumerate") [va] []) _ c.s) e1 r1 λt=>by
  refine call_enumerate_str λh' q1 ĉ q3 ě=>aY5 q1 ?_
  have lt :∀{a},a<c.s.heap.objs.size->a≠c.s.heap.objs.size+1:=λl=>aE2 (aH1 l)
  have y:Ct X c ⟨(c.G.put c.s.heap.objs.size .lock).put (c.s.heap.objs.size+1) .lock,c.σ,{c.s with heap:=h'}⟩:=R.more ě (q3▸aD0 _ 2) (λa l=>(ļ.put_ne (lt l)).trans (ļ.put_ne (aE2 l)))
   (λa e=>q3.symm▸(ļ.put_own e).elim (λz=>z▸aC6 _) λe=>(ļ.put_own e).elim (λz=>z▸aH1 (aC6 _)) λe=>aH1 (aH1 (R.ownLt a e))) (λ_ _=>⟨rfl,rfl⟩) (aB6 _) rfl rfl rfl rfl (λ_ _=>.inl) (λ_ _=>id) (λ_ _=>.inl) (aB6 _)
  have mem :∀{P:aC3->Prop},P (c.s.heap.objs.size+1)->P c.s.heap.objs.size->∀b∈[c.s.heap.objs.size+1,c.s.heap.objs.size],P b:=λp q b hb=>(aC4.mp hb).elim (λz=>z▸p) λhb=>aB1.mp hb▸q
  have lk:GR X.hs ((c.G.put c.s.heap.objs.size .lock).put (c.s.heap.objs.size+1) .lock) [c.s.heap.objs.size+1,c.s.heap.objs.size]:=mem ⟨ļ.put_at,aJ4 R.size⟩ ⟨(ļ.put_ne (aE2 (aC6 _))).trans ļ.put_at,R.size⟩
  exact⟨c,.refl R,_,[c.s.heap.objs.size+1,c.s.heap.objs.size],BS (D6 x),rY (λi h=>h.IsStrIter c.s.heap.objs.size (strIterType x) x t i) X.hs (c.s.heap.objs.size+1) c.s.heap.objs.size,_,rfl,λe=>O7 (X:=X.en e) (QP (X:=X.en e) hh x t _) (aJ8 (aC6 _)) h.1,λi G s Q st hQ=>st.en.elim λo q=>aY5 q hQ,⟨lk,⟨_,q1⟩,ĉ⟩,
   mem (aI3 _) (aB6 _),y,ě,h.2⟩
def sD(a:AV):Option Int:=(Dd a).bind λp=>SK.rec none none (aB7 none (λb _ _=>Bg b) p.2) p.1
theorem AX.getD{L:Ci}{G:ļ}{h:aE8}{n:Nat}{vs:List AV}{us:List Value}(q:AX L G h n vs us)(i:Nat):Ab L G h n (vs.getD i .none) (us.getD i .none):=by
 rw[aD2,aD2]
 cases e:vs[i]? with
 | none=>rw[aH7 (q.len▸List.getElem?_eq_none_iff.mp e)];exact rfl
 | some a=>obtain⟨v,e1,r⟩:=q.get e;rw[e1];exact r
def AX.perm{L:Ci}{G:ļ}{h:aE8}{n:Nat}{vs:List AV}{us:List Value}(q:AX L G h n vs us)(p:List Nat):AX L G h n (p.map λi=>vs.getD i .none) (p.map λi=>us.getD i .none):=aB7 rfl (λi r ih=>⟨_,_,rfl,q.getD i,ih⟩) p
def FO(vs:List AV):Option (List Int):=aB7 (some []) (λa _ ih=>(Bg a).bind λx=>ih.map (x :: ·)) vs
def Ot{vs:List AV} :∀{ns:List Int} {us:List Value},FO vs=some ns->į X c vs us->∃ps:List (Int×Tok),us=ps.map (λp=>.int p.1 p.2)/\ns=ps.map (·.1):=by
 refine aB7 (motive:=λvs=>∀{ns:List Int} {us:List Value},FO vs=some ns->į X c vs us->∃ps:List (Int×Tok),us=ps.map (λp=>.int p.1 p.2)/\ns=ps.map (·.1)) (λ{ns us} e q=>⟨[],q,(aA2 e).symm⟩) (λa r ih ns us e q=>?_) vs
 obtain⟨x,e1,e⟩:=AG e
 obtain⟨ys,e2,rfl⟩:=AH e
 obtain⟨v,u,rfl,q1,ĉ⟩:=q
 obtain⟨ps,rfl,rfl⟩:=ih e2 ĉ
 exact Aj (P:=λv=>∃qs:List (Int×Tok),v::ps.map (λp=>Value.int p.1 p.2)=qs.map (λp=>.int p.1 p.2)/\x::ps.map (·.1)=qs.map (·.1)) e1 q1 λt=>⟨(x,t)::ps,rfl,rfl⟩
def ML(ns:List Int):Int:=aB7 0 (λa r _=>r.foldl max a) ns
def OL{r:List Int} :∀a:Int,(r.foldl max a=a\/r.foldl max a∈r)/\a<=r.foldl max a/\∀x∈r,x<=r.foldl max a:=by
 induction r with
 | nil=>exact λa=>⟨.inl rfl,bH2 _,λx h=>nomatch h⟩
 | cons b r ih=>
  intro a
  obtain⟨h1,h2,h3⟩:=ih (max a b)
  refine⟨?_,aQ2 (Int.le_max_left ..) h2,λx hx=>(aC4.mp hx).elim (λe=>by subst e;exact aQ2 (Int.le_max_right ..) h2) (h3 x)⟩
  rcases h1 with h1 | h1
  ·rcases Int.le_total a b with hab | hab
   ·exact .inr (aC4.mpr (.inl (h1.trans (bE8 hab))))
   ·exact .inl (h1.trans (bG0 hab))
  ·exact .inr (aC1 _ h1)
def Tu{ns:List Int}{m:Int}(hm:m∈ns)(h :∀a∈ns,a<=m):m=ML ns:=by
 cases ns with
 | nil=>cases hm
 | cons a r=>
  obtain⟨h1,h2,h3⟩:=OL (r:=r) a
  refine Int.le_antisymm ((aC4.mp hm).elim (λe=>e▸h2) (h3 m)) (h1.elim (λe=>?_) λe=>h _ (aC1 _ e))
  show r.foldl max a<=m
  rw[e];exact h a (aB4 ..)
def Na(as:List AV)(σ:St)(Q:AV->St->Prop):Prop:=BH as λa as=>nil as (Ap (B6 σ a) λvs=>Ap (FO vs) λns=>ns≠[]/\Q (.int (ML ns)) σ)
def Q1{as:List AV}(hh:X.A.handled=none)(h:Na as c.σ Q){vas:List Value}(R:Ł X c)(ra:į X c as vas):Ħ X c Q (call (.builtin "max") vas []):=
 A7 h ra λa as va vas r1 ra h=>Ba h ra λh=>AE h λvs e1 h=>AE h λns e2 h=>BE e1 R r1 λl us k p1 ŝ=>by
  obtain⟨ps,rfl,rfl⟩:=Ot e2 ŝ
  have hne:0<ps.length:=aG7 λz=>h.1 (by rw[aO1 z];rfl)
  refine F4 (max_intList (xs:=ps.toArray) hh (by have q:=AS p1;simpa[intItems]using q) hne λv h' tk hv hk hz=>?_)
  obtain⟨t,rfl⟩:=intItems_at hv
  obtain⟨h1,h2⟩:=argBest_gt (numAt ps.toArray) (ps.toArray.size-1)
  have hsz:ps.toArray.size=ps.length:=rfl
  rw[Tu (m:=numAt ps.toArray (argBest (λi j=>decide (numAt ps.toArray i>numAt ps.toArray j)) (ps.toArray.size-1))) (ns:=ps.map (·.1)) (by rw[numAt_eq];exact getD_mem (by rw[aA6];exact aD5 h1 (Nat.sub_lt hne bL2))) λa ha=>by
   obtain⟨j,hj,rfl⟩:=mem_getD ha
   rw[aA6]at hj
   have:=h2 j (by exists 3,0x180b2012181028,hsz,hj)
   rw[numAt_eq]at this
   exact this]
  exact .to (b:=AV.int _) (R.grow tk hk hz.1 hz.2) (bO8 _) h.2
def MW(as:List AV)(σ:St)(Q:AV->St->Prop):Prop:=nil as (Q (.ref σ.n) (σ.new (.set [])))
def So{as:List AV}(h:MW as c.σ Q){vas:List Value}(R:Ł X c)(ra:į X c as vas):Ħ X c Q (call (.type "set") vas []):=
 Ba h ra λh=>call_set_0 λled=>.to (c':=c.add (.set []) _ c.s.toks) (b:=AV.ref c.σ.n) (R.alloc λp e=>⟨⟨_,#[],0,.fresh 0 0 led,(bO1 _ e).trans (aC5 _ rfl),⟨rfl,rfl,rfl⟩,rfl,λe he=>(by simp at he),λk=>(by simp),(by decide),by cases led<;>decide,rfl⟩,bH4⟩) ⟨bO1 _ ļ.name_mu.symm,aC6 _⟩ h
def QJ(as:List AV)(σ:St)(Q:AV->St->Prop):Prop:=BH as λa as=>nil as (Ap (Dd a) λp=>SK.rec False False (D1 (bH9 p.2.length 1000) (Q (.int p.2.length) σ)) p.1)
def XZ{fN:aC3}{as:List AV}(N:Ho X.h₀ X.L.C fN)(h:QJ as c.σ Q){vas:List Value}(R:Ł X c)(ra:į X c as vas):Ħ X c Q (call (.builtin "len") vas []):=
 A7 h ra λa as va vas r1 ra h=>Ba h ra λh=>AE h λp e h=>by
  obtain⟨k,vs⟩:=p
  cases DS e r1 with
  | mk l us hv hp _ hr=>
  subst hv
  obtain⟨e',hp⟩:=hp
  cases k with
  | mat=>
   obtain⟨hz,h⟩:=Ah h
   exact F4 (Uq N.toMatC N.len hp R.base (hr.len▸aP7 hz) λt u lt=>.int _ R (Eq.mpr (bO1 (λn:Nat=>Q (.int n) c.σ) hr.len) h) lt.2)
  | _=>exact h.elim
end
def Cw{α:Type}(f:Nat->Nat->Bool)(n:Nat)(t:bN8 α):Prop:=bK2 (λ_=>True) (λi j _ ih=>i<n/\j<n/\i≠j/\ih (f i j)) t
def Eg{α β:Type}(f:Nat->Nat->Bool)(g:α->bN8 β)(t:bN8 α):Cy f (t.bind g)=Cy f (g (Cy f t)):=bK2 (motive:=λt=>Cy f (t.bind g)=Cy f (g (Cy f t))) (λ_=>rfl) (λi j k ih=>ih (f i j)) t
def Dz{α β:Type}(f:Nat->Nat->Bool)(n:Nat)(g:α->bN8 β)(t:bN8 α):Cw f n t->Cw f n (g (Cy f t))->Cw f n (t.bind g):=
 bK2 (motive:=λt=>Cw f n t->Cw f n (g (Cy f t))->Cw f n (t.bind g)) (λ_ _ h=>h) (λi j k ih h h'=>⟨h.1,h.2.1,h.2.2.1,ih (f i j) h.2.2.2 h'⟩) t
def Ol{α:Type}{f:Nat->Nat->Bool}{n:Nat}{cmp:Nat->Nat->(Bool->aA8->Prop)->aA8->Prop}{G:α->aA8->Prop}{s:aA8}(hc :∀i j,i<n->j<n->i≠j->∀C:Bool->aA8->Prop,C (f i j) s->cmp i j C s)(t:bN8 α):Cw f n t->G (Cy f t) s->t.kasWp cmp G s:=
 bK2 (motive:=λt=>Cw f n t->G (Cy f t) s->t.kasWp cmp G s) (λ_ _ h=>h) (λi j k ih hk h=>hc i j hk.1 hk.2.1 hk.2.2.1 _ (ih (f i j) hk.2.2.2 h)) t
structure hY(f:Nat->Nat->Bool)(n:Nat):Prop where
 tot :∀i j,i<n->j<n->i≠j->f i j=false->f j i=true
 asym :∀i j,i<n->j<n->f i j=true->f j i=false
 trans :∀i j k,i<n->j<n->k<n->f i j=true->f j k=true->f i k=true
noncomputable def at_(p:Array Nat)(i:Nat):Nat:=p.getD i 0
def a8{p:Array Nat}{i x:Nat}(h:p[i]?=some x):at_ p i=x:=by
 unfold at_
 obtain⟨h1,h2⟩:=Array.getElem?_eq_some_iff.mp h
 rw[<-h2]
 simp[h1]
def JJ{p:Array Nat}{i:Nat}(h:i<p.size):p[i]?=some (at_ p i):=by
 unfold at_
 simp[h]
def NW{p q:Array Nat}{i j:Nat}(h:p[i]?=q[j]?):at_ p i=at_ q j:=by
 unfold at_
 rw[Array.getD_eq_getD_getElem?,Array.getD_eq_getD_getElem?,h]
structure ľ(n:Nat)(p:Array Nat):Prop where
 perm:p.toList.Perm (aC2 n)
theorem ľ.size{n:Nat}{p:Array Nat}(h:ľ n p):p.size=n:=by have:=h.perm.length_eq;simpa using this
def ľ.lt{n:Nat}{p:Array Nat}(h:ľ n p){i:Nat}(hi:i<n):at_ p i<n:=by
 have hm:at_ p i∈p.toList:=by
  have:=JJ (p:=p) (i:=i) (by rw[h.size];exact hi)
  exact Array.mem_toList_iff.mpr (Array.mem_of_getElem? this)
 simpa using h.perm.mem_iff.mp hm
def ľ.ne{n:Nat}{p:Array Nat}(h:ľ n p){i j:Nat}(hi:i<n)(hj:j<n)(hne:i≠j):at_ p i≠at_ p j:=by
 intro e
 have hnd:p.toList.Nodup:=h.perm.nodup_iff.mpr bA2
 have h1:=JJ (p:=p) (i:=i) (by rw[h.size];exact hi)
 have h2:=JJ (p:=p) (i:=j) (by rw[h.size];exact hj)
 have:i=j:=(aT8 (by rw[aO9,h.size];exact hi) hnd).mp (by rw[aN0,aN0,h1,h2,e])
 exact hne this
section
variable{f:Nat->Nat->Bool}{n:Nat}(L:hY f n)
def Ĝ(f:Nat->Nat->Bool)(p:Array Nat)(k:Nat):Prop:=∀i j,i<j->j<k->f (at_ p i) (at_ p j)=true
def ġ(f:Nat->Nat->Bool)(p:Array Nat)(k:Nat):Prop:=∀i j,i<j->j<k->f (at_ p j) (at_ p i)=true
include L
theorem VH{p:Array Nat}(P:ľ n p){m:Nat}(h1:1<=m)(hm:m<n)(U:Ĝ f p m)(h:f (at_ p m) (at_ p (m-1))=false):Ĝ f p (m+1):=by
 have h0:f (at_ p (m-1)) (at_ p m)=true:=L.tot _ _ (P.lt hm) (P.lt (by exists 2,0x1180b11018,hm)) (P.ne hm (by exists 2,0x1180b11018,hm) (by exists 1,0x180b02901808,h1)) h
 intro i j hij hj
 by_cases e:j=m
 ·subst e
  by_cases e2:i=j-1
  ·subst e2;exact h0
  ·exact L.trans _ _ _ (P.lt (by exists 3,0x20121181018,hij,hm)) (P.lt (by exists 2,0x1180b11018,hm)) (P.lt hm) (U i (j-1) (by exists 2,0x181b01181b02981018,hij,e2) (by exists 2,0x1181b11018,hij)) h0
 ·exact U i j hij (by exists 2,0x10110298181a018,hj,e)
theorem LJ{p:Array Nat}(P:ľ n p) :∀(fuel m:Nat),1<=m->m+fuel<=n->Ĝ f p m->Cw f n (kas_asc p fuel m)/\m<=Cy f (kas_asc p fuel m)/\Cy f (kas_asc p fuel m)<=m+fuel/\Ĝ f p (Cy f (kas_asc p fuel m))/\
  (Cy f (kas_asc p fuel m)<m+fuel->f (at_ p (Cy f (kas_asc p fuel m))) (at_ p (Cy f (kas_asc p fuel m)-1))=true)
 | 0,m,h1,h2,U=>⟨trivial,aB6 _,aB6 _,U,λh=>bO4 h (aL7 _)⟩
 | fuel+1,m,h1,h2,U=>by
  have hm:m<n:=by exists 3,0x2012181a0a08,h2
  cases hc:f (at_ p m) (at_ p (m-1))with
  | true=>
   have e:Cy f (kas_asc p (fuel+1) m)=m:=by
    show Cy f (if f (at_ p m) (at_ p (m-1))=true then aY6 m else kas_asc p fuel (m+1))=m
    rw[hc];rfl
   refine⟨⟨P.lt hm,P.lt (by exists 3,0x2180b12181a0a08,h2),P.ne hm (by exists 3,0x2180b12181a0a08,h2) (by exists 1,0x180b02901808,h1),?_⟩,?_⟩
   ·show Cw f n (if f (at_ p m) (at_ p (m-1))=true then aY6 m else kas_asc p fuel (m+1))
    rw[hc];trivial
   ·rw[e];exact⟨aB6 _,by(exists 2,0x181a0a00),U,λ_=>hc⟩
  | false=>
   have ih:=LJ P fuel (m+1) (by exists 1,0x180a180) (by exists 3,0x21180aa02181a0a08,h2) (VH L P h1 hm U hc)
   have e:Cy f (kas_asc p (fuel+1) m)=Cy f (kas_asc p fuel (m+1)):=by
    show Cy f (if f (at_ p m) (at_ p (m-1))=true then aY6 m else kas_asc p fuel (m+1))=_
    rw[hc];rfl
   refine⟨⟨P.lt hm,P.lt (by exists 3,0x2180b12181a0a08,h2),P.ne hm (by exists 3,0x2180b12181a0a08,h2) (by exists 1,0x180b02901808,h1),?_⟩,?_⟩
   ·show Cw f n (if f (at_ p m) (at_ p (m-1))=true then aY6 m else kas_asc p fuel (m+1))
    rw[hc];exact ih.1
   ·rw[e];exact⟨by(exists 2,0x1001180a08,ih.2.1),by(exists 3,0x182a1a002181aa008,ih.2.2.1),ih.2.2.2.1,λh=>ih.2.2.2.2 (by exists 3,0x2181aa01182a1a018,h)⟩
theorem Ms{p:Array Nat}(P:ľ n p) :∀(fuel m:Nat),1<=m->m+fuel<=n->ġ f p m->Cw f n (aY7 fuel p m 0)/\∃r,Cy f (aY7 fuel p m 0)=(p,r,0)/\m<=r/\r<=m+fuel/\ġ f p r
 | 0,m,h1,h2,U=>⟨trivial,m,rfl,aB6 _,aB6 _,U⟩
 | fuel+1,m,h1,h2,U=>by
  have hm:m<n:=by exists 3,0x2012181a0a08,h2
  have red :∀(b:Bool),f (at_ p m) (at_ p (m-1))=b->(Cw f n (if b=true then(if 0>0 then aY7 fuel (kas_rev p (m-(0+1)) m) (m+1) 0 else aY7 fuel p (m+1) 0)else bM5 (at_ p (m-1)) (at_ p m) λd=>if d=true then aY6 (p,m,0)else aY7 fuel p (m+1) (0+1))->Cw f n (aY7 (fuel+1) p m 0))/\
    Cy f (aY7 (fuel+1) p m 0)=Cy f (if b=true then(if 0>0 then aY7 fuel (kas_rev p (m-(0+1)) m) (m+1) 0 else aY7 fuel p (m+1) 0)else bM5 (at_ p (m-1)) (at_ p m) λd=>if d=true then aY6 (p,m,0)else aY7 fuel p (m+1) (0+1)):=by
   intro b hb
   subst hb
   exact⟨λh=>⟨P.lt hm,P.lt (by exists 3,0x2180b12181a0a08,h2),P.ne hm (by exists 3,0x2180b12181a0a08,h2) (by exists 1,0x180b02901808,h1),h⟩,rfl⟩
  cases hc:f (at_ p m) (at_ p (m-1))with
  | true=>
   have D':ġ f p (m+1):=by
    intro i j hij hj
    by_cases e:j=m
    ·subst e
     by_cases e2:i=j-1
     ·subst e2;exact hc
     ·exact L.trans _ _ _ (P.lt hm) (P.lt (by exists 3,0x2180b12181a0a08,h2)) (P.lt (by exists 4,0x3013182a1a081018,hij,h2)) hc (U i (j-1) (by exists 2,0x181b01181b02981018,hij,e2) (by exists 2,0x1181b11018,hij))
    ·exact U i j hij (by exists 2,0x10110298181a018,hj,e)
   obtain⟨i1,r,i2,i3,i4,i5⟩:=Ms P fuel (m+1) (by exists 1,0x180a180) (by exists 3,0x21180aa02181a0a08,h2) D'
   obtain⟨r1,ś⟩:=red true hc
   refine⟨r1 ?_,r,?_,by(exists 2,0x1001180a08,i3),by(exists 3,0x182a1a002181aa008,i4),i5⟩
   ·simpa using i1
   ·rw[ś];simpa using i2
  | false=>
   have hd:f (at_ p (m-1)) (at_ p m)=true:=L.tot _ _ (P.lt hm) (P.lt (by exists 3,0x2180b12181a0a08,h2)) (P.ne hm (by exists 3,0x2180b12181a0a08,h2) (by exists 1,0x180b02901808,h1)) hc
   obtain⟨r1,ś⟩:=red false hc
   refine⟨r1 ?_,m,?_,aB6 _,by(exists 2,0x181a0a00),U⟩
   ·simp only[aH5,if_false]
    refine⟨P.lt (by exists 3,0x2180b12181a0a08,h2),P.lt hm,P.ne (by exists 3,0x2180b12181a0a08,h2) hm (by exists 1,0x180b2901808,h1),?_⟩
    show Cw f n (if f (at_ p (m-1)) (at_ p m)=true then _ else _)
    rw[hd];trivial
   ·rw[ś]
    simp only[aH5,if_false]
    show Cy f (if f (at_ p (m-1)) (at_ p m)=true then _ else _)=_
    rw[hd];rfl
theorem Hv{p:Array Nat}(P:ľ n p){k:Nat}(hk:k<n)(U:Ĝ f p k) :∀(fuel l r:Nat),l<=r->r<=k->r-l<=fuel->(∀i,i<l->f (at_ p i) (at_ p k)=true)->(∀i,r<=i->i<k->f (at_ p k) (at_ p i)=true)->
  Cw f n (aN5 p k fuel l r)/\Cy f (aN5 p k fuel l r)<=k/\(∀i,i<Cy f (aN5 p k fuel l r)->f (at_ p i) (at_ p k)=true)/\(∀i,Cy f (aN5 p k fuel l r)<=i->i<k->f (at_ p k) (at_ p i)=true)
 | 0,l,r,h1,h2,h3,h4,h5=>by
  have:l=r:=by exists 2,0x1020801b081008,h1,h3
  subst this
  exact⟨trivial,h2,h4,h5⟩
 | fuel+1,l,r,h1,h2,h3,h4,h5=>by
  by_cases hlr:l≥r
  ·have:l=r:=by exists 2,0x10201081008,h1,hlr
   subst this
   have e:aN5 p k (fuel+1) l l = .ret l:=by
    unfold aN5
    rw[bO2 (aB6 _)]
   rw[e]
   exact⟨trivial,h2,h4,h5⟩
  ·have e:aN5 p k (fuel+1) l r = .ask (at_ p k) (at_ p ((l+r) / 2)) λc=>if c=true then aN5 p k fuel l ((l+r) / 2)else aN5 p k fuel ((l+r) / 2+1) r:=by
    show(if l≥r then _ else _)=_
    rw[bO3 hlr];rfl
   have hmid:(l+r) / 2<r/\l<=(l+r) / 2:=by omega
   cases hc:f (at_ p k) (at_ p ((l+r) / 2))with
   | true=>
    have ih:=Hv P hk U fuel l ((l+r) / 2) hmid.2 (by exists 3,0x12002181008,h2,hmid.1) (by exists 4,0x213b00318182a10b08,h3,hmid.1) h4 (λi hi hik=>by
     by_cases e2:i=(l+r) / 2
     ·subst e2;exact hc
     ·exact L.trans _ _ _ (P.lt hk) (P.lt (by exists 4,0x131231802081018,hk,h2,hmid.1)) (P.lt (by exists 3,0x12102181018,hk,hik)) hc (U _ i (by exists 2,0x101012981008,hi,e2) hik))
    have e3:Cy f (aN5 p k (fuel+1) l r)=Cy f (aN5 p k fuel l ((l+r) / 2)):=by
     rw[e]
     show Cy f (if f (at_ p k) (at_ p ((l+r) / 2))=true then _ else _)=_
     rw[hc];rfl
    rw[e3]
    refine⟨?_,ih.2⟩
    rw[e]
    refine⟨P.lt hk,P.lt (by exists 4,0x131231802081018,hk,h2,hmid.1),P.ne hk (by exists 4,0x131231802081018,hk,h2,hmid.1) (by exists 3,0x212902181008,h2,hmid.1),?_⟩
    show Cw f n (if f (at_ p k) (at_ p ((l+r) / 2))=true then _ else _)
    rw[hc];exact ih.1
   | false=>
    have hd:f (at_ p ((l+r) / 2)) (at_ p k)=true:=L.tot _ _ (P.lt hk) (P.lt (by exists 4,0x131231802081018,hk,h2,hmid.1)) (P.ne hk (by exists 4,0x131231802081018,hk,h2,hmid.1) (by exists 3,0x212902181008,h2,hmid.1)) hc
    have ih:=Hv P hk U fuel ((l+r) / 2+1) r (by exists 2,0x1180a01018,hmid.1) h2 (by exists 4,0x2183a0b03108182a10b08,h3,hmid.2) (λi hi=>by
     by_cases e2:i=(l+r) / 2
     ·subst e2;exact hd
     ·exact L.trans _ _ _ (P.lt (by exists 5,0x141183a418231802081018,hk,h2,hmid.1,hi)) (P.lt (by exists 4,0x131231802081018,hk,h2,hmid.1)) (P.lt hk) (U i _ (by exists 2,0x10110298181a018,hi,e2) (by exists 3,0x12102181008,h2,hmid.1)) hd) h5
    have e3:Cy f (aN5 p k (fuel+1) l r)=Cy f (aN5 p k fuel ((l+r) / 2+1) r):=by
     rw[e]
     show Cy f (if f (at_ p k) (at_ p ((l+r) / 2))=true then _ else _)=_
     rw[hc];rfl
    rw[e3]
    refine⟨?_,ih.2⟩
    rw[e]
    refine⟨P.lt hk,P.lt (by exists 4,0x131231802081018,hk,h2,hmid.1),P.ne hk (by exists 4,0x131231802081018,hk,h2,hmid.1) (by exists 3,0x212902181008,h2,hmid.1),?_⟩
    show Cw f n (if f (at_ p k) (at_ p ((l+r) / 2))=true then _ else _)
    rw[hc];exact ih.1
theorem Wt{p:Array Nat}(P:ľ n p){k l:Nat}(hk:k<n)(hl:l<=k)(U:Ĝ f p k)(h1 :∀i,i<l->f (at_ p i) (at_ p k)=true)(h2 :∀i,l<=i->i<k->f (at_ p k) (at_ p i)=true) :
  ľ n (bubble p k (k-l))/\Ĝ f (bubble p k (k-l)) (k+1):=by
 refine⟨⟨(Array.perm_iff_toList_perm.mp (bubble_perm p k (k-l))).trans P.perm⟩,?_⟩
 have g :∀i,(bubble p k (k-l))[i]?=if i=l then p[k]? else if l<i/\i<=k then p[i-1]? else p[i]?:=by
  intro i
  rw[getElem?_bubble (by rw[P.size];exact hk) (k-l) (by exists 2,0x10b0) i,show k-(k-l)=l by exists 2,0x1b1b21008,hl]
 have a :∀i,at_ (bubble p k (k-l)) i=if i=l then at_ p k else if l<i/\i<=k then at_ p (i-1)else at_ p i:=by
  intro i
  by_cases e1:i=l
  ·rw[bO2 e1];exact NW (by rw[g,bO2 e1])
  ·by_cases e2:l<i/\i<=k
   ·rw[bO3 e1,bO2 e2];exact NW (by rw[g,bO3 e1,bO2 e2])
   ·rw[bO3 e1,bO3 e2];exact NW (by rw[g,bO3 e1,bO3 e2])
 intro i j hij hj
 rw[a,a]
 by_cases e1:i=l
 ·rw[bO2 e1,bO3 (by exists 3,0x212920281018,hij,e1),bO2 (by exists 4,0x21013163028182a1181018,hij,hj,e1)]
  exact h2 _ (by exists 3,0x181b2020281018,hij,e1) (by exists 3,0x2181b1182a1181018,hij,hj)
 ·by_cases e2:j=l
  ·rw[bO2 e2,bO3 e1,bO3 (by exists 4,0x3000216921281018,hij,e2)]
   exact h1 i (by exists 3,0x20121281018,hij,e2)
  ·rw[bO3 e1,bO3 e2]
   by_cases e3:l<i/\i<=k
   ·rw[bO2 e3,bO2 (by exists 4,0x21013160318182a1181018,hij,hj,e3.1)]
    exact U _ _ (by exists 3,0x181b180b102181018,hij,e3.1) (by exists 3,0x2181b1182a1181018,hij,hj)
   ·rw[bO3 e3]
    by_cases e4:l<j/\j<=k
    ·rw[bO2 e4];exact U _ _ (by exists 4,0x181b01200031698302981318182a1181018,hij,hj,e4.1,e1,e3) (by exists 3,0x2181b1182a1181018,hij,hj)
    ·rw[bO3 e4];exact U _ _ (by exists 2,0x1011018,hij) (by exists 3,0x12112020169802298181a2181008,hl,hj,e2,e4)
theorem QX :∀(fuel k:Nat) (p:Array Nat),k+fuel=n->1<=k->ľ n p->Ĝ f p k->Cw f n (kas_bin fuel p k)/\ľ n (Cy f (kas_bin fuel p k))/\Ĝ f (Cy f (kas_bin fuel p k)) n
 | 0,k,p,h1,h2,P,U=>by
  have:k=n:=by exists 2,0x1021080a28,h1
  subst this
  exact⟨trivial,P,U⟩
 | fuel+1,k,p,h1,h2,P,U=>by
  have hk:k<n:=by exists 3,0x2012181a0a28,h1
  obtain⟨q1,ĉ,q3,ě⟩:=Hv L P hk U k 0 k (aE9 _) (aB6 _) (by exists 1,0x80b0) (λi hi=>bO4 hi (aI0 _)) (λi hi hik=>bO4 hik (by exists 2,0x1191008,hi))
  obtain⟨b1,b2⟩:=Wt L P hk ĉ U q3 ě
  have ih:=QX fuel (k+1) _ (by exists 3,0x21180aa22181a0a28,h1) (by exists 1,0x180a180) b1 b2
  show Cw f n ((aN5 p k k 0 k).bind _)/\ľ n (Cy f ((aN5 p k k 0 k).bind _))/\Ĝ f (Cy f ((aN5 p k k 0 k).bind _)) n
  rw[Eg]
  exact⟨Dz f n _ _ q1 ih.1,ih.2⟩
theorem WX{p:Array Nat}(P:ľ n p){m:Nat}(hm:m<=n)(D:ġ f p m):ľ n (kas_rev p 0 m)/\Ĝ f (kas_rev p 0 m) m:=by
 refine⟨⟨(Array.perm_iff_toList_perm.mp (mirror_perm p 0 m ((m-0) / 2))).trans P.perm⟩,?_⟩
 have a :∀i,i<m->at_ (kas_rev p 0 m) i=at_ p (m-1-i):=by
  intro i hi
  refine NW ?_
  unfold kas_rev
  rw[getElem?_mirror_all (by rw[P.size];exact hm),bO2 ⟨aE9 _,hi⟩]
  congr 1;exists 2,0x1180bb118008abb2
 intro i j hij hj
 rw[a i (by exists 3,0x20121181018,hij,hj),a j hj]
 exact D _ _ (by exists 3,0x182bb1182bb121181018,hij,hj) (by exists 3,0x12181bb11018,hj)
theorem UY(h2:2<=n):Cw f n (aY8 n)/\ľ n (Cy f (aY8 n))/\Ĝ f (Cy f (aY8 n)) n:=by
 have P₀:ľ n (aE1 (aC2 n)):=⟨by simp⟩
 have U₁ :∀(p:Array Nat),Ĝ f p 1:=λp i j h1 h2=>bO4 h2 (by exists 2,0x181191018,h1)
 have cnt:Cw f n (bN4 n (aE1 (aC2 n)))/\∃m p,Cy f (bN4 n (aE1 (aC2 n)))=(m,p)/\1<=m/\m<=n/\ľ n p/\Ĝ f p m:=by
  unfold bN4
  obtain⟨a1,a2,a3,a4,a5⟩:=LJ L P₀ (n-1) 1 (aB6 _) (by exists 1,0x180b18a002808,h2) (U₁ _)
  rw[Eg]
  generalize hr:Cy f (kas_asc (aE1 (aC2 n)) (n-1) 1)=r at a2 a3 a4 a5
  suffices hh:Cw f n (if(r==n)=true then aY6 (r,aE1 (aC2 n))else if r>1 then bM5 ((aE1 (aC2 n)).getD 0 0) ((aE1 (aC2 n)).getD (r-1) 0) λc=>if c=true then aY6 (r,aE1 (aC2 n))else bC6 r n (kas_rev (aE1 (aC2 n)) 0 r)else bC6 r n (aE1 (aC2 n)))/\
    ∃m p,Cy f (if(r==n)=true then aY6 (r,aE1 (aC2 n))else if r>1 then bM5 ((aE1 (aC2 n)).getD 0 0) ((aE1 (aC2 n)).getD (r-1) 0) λc=>if c=true then aY6 (r,aE1 (aC2 n))else bC6 r n (kas_rev (aE1 (aC2 n)) 0 r)else bC6 r n (aE1 (aC2 n)))=(m,p)/\1<=m/\m<=n/\ľ n p/\Ĝ f p m by
   exact⟨Dz f n _ _ a1 (by rw[hr];exact hh.1),hh.2⟩
  by_cases e1:r=n
  ·have:(r==n)=true:=by simp[e1]
   rw[bO2 this]
   exact⟨trivial,r,_,rfl,a2,by(exists 2,0x10180b18a10802808,h2,a3),P₀,a4⟩
  ·have:¬ (r==n)=true:=by simp[e1]
   rw[bO3 this]
   by_cases e2:r>1
   ·rw[bO2 e2]
    have hc:f (at_ (aE1 (aC2 n)) 0) (at_ (aE1 (aC2 n)) (r-1))=true:=a4 0 (r-1) (by exists 1,0x180b08101818,e2) (by exists 1,0x180b101808,a2)
    refine⟨⟨P₀.lt (by exists 1,0x8102808,h2),P₀.lt (by exists 2,0x181b1180b18a10802808,h2,a3),P₀.ne (by exists 1,0x8102808,h2) (by exists 2,0x181b1180b18a10802808,h2,a3) (by exists 1,0x180b082901818,e2),?_⟩,r,aE1 (aC2 n),?_,a2,by(exists 2,0x10180b18a10802808,h2,a3),P₀,a4⟩
    ·show Cw f n (if f (at_ (aE1 (aC2 n)) 0) (at_ (aE1 (aC2 n)) (r-1))=true then _ else _)
     rw[hc];trivial
    ·show Cy f (if f (at_ (aE1 (aC2 n)) 0) (at_ (aE1 (aC2 n)) (r-1))=true then _ else _)=_
     rw[hc];rfl
   ·rw[bO3 e2]
    have er:r=1:=by exists 1,0x180201819801808,a2,e2
    subst er
    have cE:=a5 (by exists 1,0x180b18a18102808,h2)
    have D2:ġ f (aE1 (aC2 n)) 2:=λi j hij hj=>by
     have:i=0:=by exists 2,0x802281181018,hij,hj
     have:j=1:=by exists 2,0x1812281181018,hij,hj
     subst i j
     exact cE
    obtain⟨ŭ,m,d2,Ē,ô,d5⟩:=Ms L P₀ (n-(1+1)) (1+1) (by exists 0,0x1818a180) (by exists 1,0x1818a0b1818aa002808,h2) D2
    obtain⟨v1,v2⟩:=WX L P₀ (m:=m) (by exists 2,0x101818a0b1818aa10802808,h2,ô) d5
    obtain⟨b1,b2,b3,b4,_⟩:=LJ L v1 (n-m) m (by exists 1,0x18001818a08,Ē) (by exists 2,0x10b1a01818a0b1818aa10802808,h2,ô) v2
    unfold bC6
    rw[Eg,d2]
    have hz:¬ ((aE1 (aC2 n),m,0):Array Nat×Nat×Nat).2.2>0:=by simp
    refine⟨Dz f n _ _ ŭ ?_,?_⟩
    ·rw[d2,bO3 hz]
     exact Dz f n _ _ b1 trivial
    ·rw[bO3 hz]
     unfold kas_tail3
     rw[Eg]
     exact⟨Cy f (kas_asc (kas_rev (aE1 (aC2 n)) 0 m) (n-m) m),kas_rev (aE1 (aC2 n)) 0 m,rfl,by(exists 2,0x1180100801818a08,Ē,b2),by(exists 3,0x2010b1a2081818a0b1818aa10802808,h2,ô,b3),v1,b4⟩
 obtain⟨c1,m,p,ĳ,c3,ŗ,c5,c6⟩:=cnt
 unfold aY8
 rw[Eg,ĳ]
 by_cases e:m<n
 ·rw[bO2 e,show max m 1=m by exists 1,0x180e201808,c3]
  have b:=QX L (n-m) m p (by exists 2,0x101b0a21008,ŗ) c3 c5 c6
  refine⟨Dz f n _ _ c1 ?_,b.2⟩
  rw[ĳ,bO2 e,show max (m,p).1 1=m by simp;exists 1,0x180e201808,c3]
  exact b.1
 ·have:m=n:=by exists 2,0x102101981008,ŗ,e
  subst this
  rw[bO3 (aL7 _)]
  refine⟨Dz f m _ _ c1 ?_,c5,c6⟩
  rw[ĳ,bO3 (aL7 _)]
  trivial
end
def Sd(prog:aH0)(w:aC7)(A:aK5)(us:List Value)(xs:List Int)(s:aA8):Prop:=2<=us.length->∃κ,(∀Q:SortKind->aA8->Prop,Q κ s->∀E,aD7 (aE5 prog w) A (keyKind' us.toArray) Q E s)/\
 ∀i j,i<xs.length->j<xs.length->(xs.getD i 0==xs.getD j 0)=false->∀Q:Bool->aA8->Prop,Q (decide (xs.getD i 0<xs.getD j 0)) s->aD7 (aE5 prog w) A (keyLt' κ (us.getD i .none) (us.getD j .none)) Q (λ_ _=>False) s
def Hu{α:Type}(l:List α)(d:α):(aC2 l.length).map (λi=>l.getD i d)=l:=bA3 (by rw[aA6,aF2]) λi h1 h2=>by
 rw[aS0,aX1,aD2,aA5 h2]
 rfl
def M4{xs:List Int}(hn:xs.Nodup){i j:Nat}(hi:i<xs.length)(hj:j<xs.length)(h:i≠j):(xs.getD i 0==xs.getD j 0)=false:=beq_eq_false_iff_ne.mpr λe=>h ((aT8 hi hn).mp (by
 rw[aD2,aD2,aA5 hi,aA5 hj]at e
 rw[aA5 hi,aA5 hj]
 exact bO1 some e))
def dL{xs:List Int}(hn:xs.Nodup):hY (λi j=>decide (xs.getD i 0<xs.getD j 0)) xs.length:=
 ⟨λi j hi hj h e=>bO5 ((Int.lt_or_gt_of_ne (ne_of_beq_false (M4 hn hi hj h))).resolve_left (of_decide_eq_false e)),λi j _ _ e=>bO6 (aS7.mpr (bJ5 (bO7 e))),λi j k _ _ _ e1 e2=>bO5 (bC1 (bO7 e1) (bO7 e2))⟩
def Pe{xs:List Int}(hn:xs.Nodup)(h2:2<=xs.length):Cw (λi j=>decide (xs.getD i 0<xs.getD j 0)) xs.length (aY8 xs.length)/\(Cy (λi j=>decide (xs.getD i 0<xs.getD j 0)) (aY8 xs.length)).toList.Perm (aC2 xs.length)/\
  ((Cy (λi j=>decide (xs.getD i 0<xs.getD j 0)) (aY8 xs.length)).toList.map λi=>xs.getD i 0).Pairwise (· < ·):=by
 obtain⟨k1,k2,k3⟩:=UY (dL hn) h2
 generalize Cy (λi j=>decide (xs.getD i 0<xs.getD j 0)) (aY8 xs.length)=p at k2 k3 ⊢
 refine⟨k1,k2.perm,aM5.mpr (List.pairwise_iff_getElem.mpr λi j hi hj hij=>?_)⟩
 have g :∀{i} (h:i<p.toList.length),at_ p i=p.toList[i]:=λ{i} h=>a8 (by rw[<-aN0,aA5 h])
 have:=bO7 (k3 i j hij (by rw[<-k2.size,<-aO9];exact hj))
 rw[g hi,g hj]at this
 exact this
section
variable{prog:aH0}{w:aC7}{A:aK5}{E:Value->aA8->Prop}{s:aA8}
def Rz{a:aC3}{us:List Value}{xs:List Int}{k:Nat}{P:bN2->aA8->Prop}(ha:s.heap.get? a=some (Ao us k))(hl:us.length=xs.length)(Tw:xs.length<64)(hn:xs.Nodup)
  (hK :∀h',(∀b o,b≠a->s.heap.get? b=some o->h'.get? b=some o)->Sd prog w A us xs {s with heap:=h'})
  (h :∀(h':aE8) (c:Nat) (p:List Nat),p.Perm (aC2 xs.length)->(p.map λi=>xs.getD i 0).Pairwise (· < ·)->h'.get? a=some (Ao (p.map λi=>us.getD i .none) c)->(∀b o,b≠a->s.heap.get? b=some o->h'.get? b=some o)->s.heap.objs.size<=h'.objs.size->P (.done (.ret .none)) {s with heap:=h'}) :
  aD7 (aE5 prog w) A (aE3.«list.sort» ⟨[.ref a],[]⟩) P E s:=by
 obtain⟨hh,g',d,tk,os⟩:=s
 have ha:hh.get? a=some (seqObj "list" us.toArray k):=ha
 have Ă:us.toArray.size<=aR5:=aA0 (aB9 hl) (aA0 (aD8 Tw) (by decide))
 rw[list_sort_plain]
 refine aA3 (listItems_at ha rfl ?_)
 refine aA3 (bI6 ha rfl ?_ Ă (aE9 _))
 obtain⟨e1,ho1⟩ :∃e1,(hh.update a (aJ1 λ_=>(#[]:Array Value))).get? a=some (seqObj "list" #[] e1):=⟨_,get?_update_seq ha λ_=>#[]⟩
 refine aA3 (bL6 ho1 rfl ?_)
 refine aA3 (wpAny_newTuple ?_ Ă)
 refine aA3 (wpAny_newList ?_ (aE9 _))
 refine aK8 ?_
 generalize hh3:((hh.update a (aJ1 λ_=>(#[]:Array Value))).push {cls:=.type "tuple",data:=.seq us.toArray.toList.toArray}).push {cls:=.type "list",data:=.seq ([]:List Value).toArray}=h3
 have k3 :∀b o,b≠a->hh.get? b=some o->h3.get? b=some o:=λb o hb e=>hh3▸aB5 _ (aB5 _ ((aL1 _ _ (bD4 hb)).trans e))
 have a3:h3.get? a=some (seqObj "list" #[] e1):=hh3▸aB5 _ (aB5 _ ho1)
 have ā:hh.objs.size<=h3.objs.size:=hh3▸aA0 (aB9 (aL0 ..).symm) (aA0 (De _) (De _))
 dsimp only
 have fin :∀(p:List Nat),p.Perm (aC2 xs.length)->(p.map λi=>xs.getD i 0).Pairwise (· < ·)->∀out,out=aE1 (p.map λi=>us.getD i aI8)->P (.done (.ret .none)) ⟨h3.update a (aJ1 λ_=>out),g',d,tk,os⟩:=λp q1 ĉ out e=>by
  subst e
  obtain⟨c,hc⟩ :∃c,(h3.update a (aJ1 λ_=>aE1 (p.map λi=>us.getD i aI8))).get? a=some (seqObj "list" (aE1 (p.map λi=>us.getD i aI8)) c):=⟨_,get?_update_seq a3 λ_=>_⟩
  exact h _ c p q1 ĉ hc (λb o hb e=>(aL1 _ _ (bD4 hb)).trans (k3 b o hb e)) (aA0 ā (aB9 (aL0 ..).symm))
 refine(Nat.lt_or_ge us.toArray.size 2).elim (λls=>?_) λls=>?_
 ·rw[bO2 ls,bO2 ls]
  refine aA3 (aA7 ?_)
  rw[StateT.run_pure]
  refine aA3 (aA7 ?_)
  dsimp only
  refine aA3 (bL6 a3 rfl ?_)
  have e:(arrOf (SortSt.mk' general' (us.toArray.zip us.toArray) #[] 7 none)).map (·.2)=aE1 ((aC2 xs.length).map λi=>us.getD i aI8):=by
   rw[<-hl,Hu]
   show(us.toArray.zip us.toArray).map (·.2)=_
   rw[List.zip_toArray,List.map_toArray]
   exact bO1 aE1 (List.map_snd_zip (aB6 _))
  rw[e]
  refine aA3 (bI6 a3 rfl ?_ (aE9 _) (aA0 (aB9 ((aA6 ..).trans aF2)) (aA0 (aD8 Tw) (by decide))))
  simp only[bne_self_eq_false,aH5,if_false]
  refine aA7 (fin (aC2 xs.length) (.refl _) (List.pairwise_iff_getElem.mpr λi j hi hj hij=>?_) _ rfl)
  rw[aA6,aF2,<-hl]at hj
  exact bO4 (aD5 hij hj) (λz=>bO4 (aC0 z (aO6 ls)) (aS6.mpr (aJ2 (aE9 i))))
 ·have ls':¬ us.toArray.size<2:=aS6.mpr ls
  rw[bO3 ls',bO3 ls']
  obtain⟨κ,q1,ĉ⟩:=hK h3 k3 ls
  obtain⟨s1,s2,s3⟩:=Pe hn (hl▸ls)
  refine aA3 (q1 _ ?_ _)
  refine aA3 (aN2 (kat_run (Q:=λst' s'=>s'=⟨h3,g',d,tk,os⟩/\(arrOf st').map (·.2)=aE1 ((Cy (λi j=>decide (xs.getD i 0<xs.getD j 0)) (aY8 xs.length)).toList.map λi=>us.getD i aI8)/\failedOf st'=none) (G:=λq s'=>s'=⟨h3,g',d,tk,os⟩/\q=Cy (λi j=>decide (xs.getD i 0<xs.getD j 0)) (aY8 xs.length)) rfl ls (aD5 (aB9 hl) Tw) (λq st' s' q1 ĉ q3 ě=>⟨ě.1,?_,q3⟩) ?_) (λr s' hr=>?_) λ_ _ e=>e)
  ·rw[kat_snds rfl ĉ,ě.2]
  ·rw[hl]
   exact Ol (λi j hi hj hij C' hC=>ĉ i j hi hj (M4 hn hi hj hij) _ hC) _ s1 ⟨rfl,rfl⟩
  ·obtain⟨⟨⟩,st'⟩:=r
   obtain⟨rfl,p3,p4⟩:=hr
   refine aA3 (bL6 a3 rfl ?_)
   rw[p3,p4]
   refine aA3 (bI6 a3 rfl ?_ (aE9 _) (aA0 (aB9 ((aA6 ..).trans (s2.length_eq.trans aF2))) (aA0 (aD8 Tw) (by decide))))
   simp only[bne_self_eq_false,aH5,if_false]
   exact aA7 (fin _ s2 s3 _ rfl)
end
def Ib(g:AV->Option Int)(vs:List AV):Option (List Int):=aB7 (some []) (λa _ ih=>(g a).bind λx=>ih.map (x :: ·)) vs
section
variable{X:Ω}{c:Ŋ}{Q:AV->St->Prop}
def X9{a:AV}{x:Int}{v:Value}(e:sD a=some x)(r:Ξ X c a v):O5 X.L.C c.s.heap v x:=by
 obtain⟨⟨k,vs⟩,e1,e⟩:=AG e
 cases DS e1 r with
 | mk l us hv hp _ hr=>
 cases k with
 | mat=>
  cases vs with
  | nil=>exact AA e
  | cons b vs=>
   obtain⟨w,r',rfl,q1,_⟩:=hr
   obtain⟨k,hp⟩:=hp
   exact Aj (P:=λw=>c.s.heap.get? l=some (B4 X.L.C (w::r') k)->O5 X.L.C c.s.heap v x) e q1 (λt hp=>⟨l,k,t,r',hv,hp⟩) hp
 | _=>exact AA e
def Si{g:AV->Option Int}{T:Value->Int->Prop}(hg :∀a x v,g a=some x->Ξ X c a v->T v x){vs:List AV} :∀{xs:List Int} {us:List Value},Ib g vs=some xs->į X c vs us->us.length=xs.length/\∀i,i<xs.length->T (us.getD i .none) (xs.getD i 0):=by
 refine aB7 (motive:=λvs=>∀{xs:List Int} {us:List Value},Ib g vs=some xs->į X c vs us->us.length=xs.length/\∀i,i<xs.length->T (us.getD i .none) (xs.getD i 0)) (λ{xs us} e q=>aA2 e▸(show us=[]from q)▸⟨rfl,λi h=>bO4 h (aI0 i)⟩) (λa r ih xs us e q=>?_) vs
 obtain⟨x,e1,e⟩:=AG e
 obtain⟨ys,e2,rfl⟩:=AH e
 obtain⟨v,u,rfl,q1,ĉ⟩:=q
 refine⟨bO1 aT3 (ih e2 ĉ).1,λi h=>?_⟩
 cases i with
 | zero=>exact hg a x v e1 q1
 | succ i=>exact(ih e2 ĉ).2 i (Nat.lt_of_succ_lt_succ h)
def Pj{A:aK5}{s:aA8}{h₀:aE8}{C fN:aC3}{us:List Value}{xs:List Int}{prog:aH0}{w:aC7}(N:Ho h₀ C fN)(hk :∀b o,h₀.get? b=some o->s.heap.get? b=some o)(hu:A.units<cLine)(hl:us.length=xs.length)(hx :∀i,i<xs.length->O5 C s.heap (us.getD i .none) (xs.getD i 0)):Sd prog w A us xs s:=λh2=>
 ⟨oneType',λQ hQ E=>kas_kind h2 (λv hv=>by
  obtain⟨i,hi⟩:=List.mem_iff_getElem?.mp hv
  obtain⟨m,Ī,t,r,f1,f2⟩:=hx i (hl▸(aA4.mp hi).1)
  rw[aD2,hi]at f1
  rw[show v = .ref m from f1]
  exact(bM4 f2).andThen .now) rfl (by simp) hQ,λi j hi hj hne Q hQ=>ZT N hk hu (hx i hi) (hx j hj) hne hQ⟩
def Yl(g:AV->Option Int)(vs:List AV)(K:List AV->Prop):Prop:=∃xs,Ib g vs=some xs/\(xs.length<64/\xs.Nodup)/\∀p:List Nat,p.Perm (aC2 xs.length)->(p.map λi=>xs.getD i 0).Pairwise (· < ·)->K (p.map λi=>vs.getD i .none)
def He(as:List AV)(σ:St)(Q:AV->St->Prop):Prop:=BH as λa as=>nil as (G1 σ a λx vs=>Yl sD vs λws=>Q .none (σ.set x (.list ws)))
def PV{fN:aC3}{as:List AV}(N:Ho X.h₀ X.L.C fN)(hu:X.A.units+10<cLine)(h:He as c.σ Q){vas:List Value}(R:Ł X c)(ra:į X c as vas):Ħ X c Q (call (.builtin "list.sort") vas []):=
 A7 h ra λa as va vas r1 ra h=>Ba h ra λh=>E3 h R r1 λx vs us n hx p1 ŝ hz h=>by
  obtain⟨xs,e,h2,h⟩:=h
  obtain⟨hl,hus⟩:=Si (T:=O5 X.L.C c.s.heap) (λa x v=>X9) e ŝ
  have hnew :∀{b o},X.h₀.get? b=some o->b≠c.G.μ x:=λe z=>Cd e (z▸R.ownB _ (Ag (R.obj x _ hx).tag))
  refine aG9 PySem.F.slot_list_sort ⟨_,p1,rfl⟩ PySem.F.entry_list_sort ?_ (PySem.F.args_list_sort_1 _)
  refine Rz p1 hl h2.1 h2.2 (λh' hk=>Pj N (λb o e=>hk b o (hnew e) (R.base b o e)) (aD5 (aF6 (by decide) _) hu) hl λi hi=>(hus i hi).imp λm q=>q.imp λĪ q=>q.imp λt q=>q.imp λr q=>⟨q.1,hk m _ (λz=>L8 ((show c.s.heap.get? m=_ from q.2).symm.trans ((bO1 c.s.heap.get? z).trans p1))) q.2⟩) λh' k p q1 ĉ q3 ě ť=>⟨_,rfl,?_⟩
  exact .to (c':=c.hp (c.σ.set x (.list (p.map λi=>vs.getD i .none))) h' c.s.toks) (b:=AV.none) (R.chgs (S:=λp=>p = .obj x) (λp hp=>⟨x,.inl hp⟩) (λb o e q=>ě b o (λz=>q _ (z▸(R.obj x _ hx).tag) rfl) e) ť ⟨rfl,rfl,rfl⟩ (λ_ _=>id) (λ_ _=>.inl) rfl rfl rfl rfl rfl
   λy o e=>Ck e (λhy hw=>.inl λz=>by
    subst hy;subst hw
    exact⟨(R.obj y _ hx).lt,(R.obj y _ hx).tag,_,⟨(k,none),q3⟩,z.va (ŝ.perm p)⟩) λhy e=>.inr ⟨λz=>hy (by cases z;rfl),λz=>(nomatch z),e⟩) rfl (h p q1 ĉ)
end
end Mine
end
section
open PySem PySem.W PyProof.Rows PySem.Spec PySem.Calls
namespace Mine
def NN(tr:Ġ)(as:List AV)(σ:St)(Q:AV->St->Prop):Prop:=Ap ((σ.H.lookup 0).bind Ÿ.ins) λo=>Ap ((o.2.lookup ("opcodes":Str)).bind Fr) λy=>∀a:aC3,
 BO tr as (σ.set 0 (.inst o.1 (Al o.2 ("opcodes":Str) (.glo a)))) λr τ=>Ap ((τ.H.lookup 0).bind Ÿ.ins) λp=>p.2.lookup ("opcodes":Str)=some (.glo a)/\Q r (τ.set 0 (.inst p.1 (Al p.2 ("opcodes":Str) (.ref y))))
def R0{P:AV->Prop}{a:AV}{y:Nat}(e:Fr a=some y)(f:P (.ref y)):P a:=
 AV.casesOn (motive_1:=λa=>Fr a=some y->P a) a AA (λ_=>AA) (λ_=>AA) (λ_ _=>AA) (λ_ e=>aA2 e▸f) (λ_=>AA) (λ_=>AA) (λ_ _=>AA) (λ_=>AA) (λ_=>AA) (λ_=>AA) e
section
variable{L:Ci}{G:ļ}{h:aE8}{n:Nat}{x:Str}{w w':AV}
def AR.re(f :∀v,Ab L G h n w v->Ab L G h n w' v){as:List (Str×AV)} :∀{es:List aM7},AR L G h n as es->as.lookup x=some w->AR L G h n (Al as x w') es:=
 aB7 (motive:=λas=>∀{es:List aM7},AR L G h n as es->as.lookup x=some w->AR L G h n (Al as x w') es) (λ{es} _=>AA) (λp r ih es q e=>by
  obtain⟨hsh,t,v,l',rfl,q1,ĉ⟩:=q
  rw[A1]at e
  show AR L G h n (bif p.1==x then(p.1,w')::r else p::Al r x w') _
  cases hx:p.1==x with
  | true=>
   rw[show(x==p.1)=true from beq_iff_eq.mpr (aE6 hx).symm]at e
   exact⟨hsh,t,v,l',rfl,f v (aA2 e▸q1),ĉ⟩
  | false=>
   rw[show(x==p.1)=false from beq_eq_false_iff_ne.mpr λz=>ne_of_beq_false hx z.symm]at e
   exact⟨hsh,t,v,l',rfl,q1,ih ĉ e⟩) as
end
section
variable{X:Ω}{c:Ŋ}{Q:AV->St->Prop}
def Ł.retell(R:Ł X c){y:Nat}{D:aC3}{at_:List (Str×AV)}(hy:c.σ.H.lookup y=some (.inst D at_)){x:Str}{w w':AV}(e:at_.lookup x=some w)(f :∀v,Ξ X c w v->Ξ X c w' v):Ct X c ⟨c.G,c.σ.set y (.inst D (Al at_ x w')),c.s⟩:=
 R.setObj hy (.refl _ _) (h':=c.s.heap) (t:=c.s.toks) (λ_=>(R.obj y _ hy).rel.casesOn λes k h1 h2 hr ht=>⟨es,k,h1,h2,hr.re f e,ht⟩) (aB6 _)
def ZD{d:Nat}{f:Value}{tr:Ġ}(hf:BG X.L X.h₀ d f tr)(hA:DW d X.A){as:List AV}(h:NN tr as c.σ Q){vas:List Value}(R:Ł X c)(ra:į X c as vas):Wa X c Q f vas:=by
 refine AE h λo e1 h=>AE h λy e2 h=>?_
 obtain⟨ao,e3,e4⟩:=AG e1
 obtain⟨w,e5,e6⟩:=AG e2
 have e5:o.2.lookup ("opcodes":Str)=some (.ref y):=R0 (P:=λw=>o.2.lookup ("opcodes":Str)=some w->o.2.lookup ("opcodes":Str)=some (.ref y)) e6 id e5
 have hx:c.σ.H.lookup 0=some (.inst o.1 o.2):=e3.trans (bO1 some (Ÿ.ins_eq e4))
 have ly:y<c.σ.n:=(R.obj 0 _ hx).rel.casesOn λes k h1 h2 hr ht=>hr.look ("opcodes":Str) (P:=λo _=>o=some (.ref y)->y<c.σ.n) AA (λa e r z=>(show Ab X.L c.G c.s.heap c.σ.n (.ref y) e.val from aA2 z▸r).2) e5
 have x1:=R.retell hx e5 (w':=.glo (c.G.μ y)) λv q=>q.1
 have z:=P7 hf hA (h (c.G.μ y)) x1.R (x1.pre.va ra)
 refine⟨z.1,ĭ.mono z.2 λv s' q=>?_⟩
 cases q with
 | mk G' σ' b x r q=>
 refine AE q λp e7 q=>?_
 obtain⟨e8,q⟩:=q
 obtain⟨ao',e9,e10⟩:=AG e7
 have hx':σ'.H.lookup 0=some (.inst p.1 p.2):=e9.trans (bO1 some (Ÿ.ins_eq e10))
 have x2:=x.R.retell hx' e8 (w':=.ref y) λv q=>⟨(show v = .ref (c.G.μ y)from q).trans (bO1 aM8 (x.pre.nm y ly).1.symm),aC0 ly x.pre.n⟩
 exact .to ((x1.trans x).trans x2) (x2.pre.v r) q
end
structure Pm where
 K:bF7
 C:aC3
 D:aC3
 gl:Str->Option AV
 T:aC3->Option Ġ
 init:Option Ġ
 new:Bool
 mak:Bool
 frz:Pos->Bool
 wk:Pos->Bool
 ro:Bool
def LN(v:AV):Option Value:=aD9 ((Ia v).map .ref) (λb=>some b.val) (Jo v)
structure NX(L:Ci)(h₀:aE8)(P:Pm)(d:Nat)(fN st fM ţ fI:aC3):Prop where
 hC:P.C=L.C
 K:P.K.In h₀
 N:Ho h₀ L.C fN
 Y:ZI P.K L.C fN st
 keepC:keepIn P.K (.ref L.C)=true
 sys:sysModules<h₀.objs.size
 glob :∀x v,P.gl x=some v->∃c,LN v=some c/\((∃mg,h₀.Ns aJ5 mg/\mg x=some c)\/∃mg mb,h₀.Ns aJ5 mg/\mg x=none/\h₀.Ns aW4 mb/\mb x=some c)
 make:findCls P.K (.ref L.C) (.type "type") "_make" = some (.get (.builtin "classmethod.__get__") (.ref ţ) .none (.ref L.C))
 cmo :∃rest,recIn P.K ţ "classmethod" = some (.ref fM::rest)
 fn :∀f tr,P.T f=some tr->BG L h₀ (d+1) (.ref f) tr
 new:P.new=true->BG L h₀ d (.ref fN) (Kr L.C)
 mkOk:P.mak=true->BG L h₀ d (.ref fM) (ID L.C)
 init :∀tr,P.init=some tr->makesIn P.K P.D=true/\findIn P.K (.ref P.D) "__init__" = some (some (.ref fI))/\isFn P.K (.ref fI)=true/\keepIn P.K (.ref P.D)=true/\BG L h₀ d (.ref fI) tr
structure IX(X:Ω)(P:Pm)(d:Nat)(fN st fM ţ fI:aC3)(sc:Scope):Prop where
 w:NX X.L X.h₀ P d fN st fM ţ fI
 A:DW (d+1) X.A
 glb:X.env.globals=aJ5
 bui:X.env.builtins=aW4
 hsc:X.env.scope=sc
 fun_:sc.kind = .function
def HT(as:List AV):Bool:=aB7 false (λa _ _=>(Dd a).any λp=>SK.rec false false true p.1) as
def EU(C:aC3)(b:Ų)(as:List AV)(σ:St)(Q:AV->St->Prop):Prop:=match b with
 | .len=>aI6 (An .len as σ Q) (QJ as σ Q) (HT as)
 | .sort=>He as σ Q
 | .sum=>False
 | .tnew=>Sk C as σ Q
 | .set=>MW as σ Q
 | .min=>False
 | .sorted=>False
 | .max=>Na as σ Q
 | b=>An b as σ Q
def QK(P:Pm)(a:aC3)(as:List AV)(σ:St)(Q:AV->St->Prop):Prop:=
 aI6 (aI6 (Ap (P.T a) λtr=>aI6 (BO tr as σ Q) (NN tr as σ Q) P.ro) (Ap P.init λtr=>Vg P.D tr as σ Q) (aE0 a P.D)) (D1 P.new (Mn as σ Q)) (aE0 a P.C)
def Do(P:Pm)(v:AV)(as:List AV)(σ:St)(Q:AV->St->Prop):Prop:=
 aD9 (aD9 (Ap (YK v) λq=>Qa q.1 q.2 as σ Q) (λa=>QK P a as σ Q) (Ia v)) (λb=>EU P.C b as σ Q) (Jo v)
def Xw(K:bF7)(v:AV)(x:Str)(σ:St)(Q:AV->St->Prop):Prop:=aD9 (V3 K v x σ Q) (λb=>Q (.bm b v) σ) (iN σ v x)
def LW(v:AV)(x:Str):Bool:=(Jo v).any λb=>aE0 b.ctorIdx 12&&x==("__new__":Str)
def S8{b:Ų}(h:aE0 b.ctorIdx 12=true):b = .tuple:=Ų.tuple.elim (motive:=λb=>b = .tuple) b (aB8 h) rfl
def Qn(K:bF7)(v:AV)(x:Str)(σ:St):Option (AV×Bool):=aI6 (GH ((eN K σ v x).map λf=>(.glo f,true)) ((Zx σ v x).map λb=>(.fn b,true))) (some (.fn .tnew,false)) (LW v x)
section
variable{X:Ω}{c:Ŋ}{P:Pm}{d:Nat}{fN st fM ţ fI:aC3}{sc:Scope}{Q:AV->St->Prop}{v:AV}{va:Value}
def VC{L:Ci}{G:ļ}{h:aE8}{n:Nat}{w:Value}(e:LN v=some w):Ab L G h n v w:=
 Az (o:=Jo v) (A:=(Ia v).map aM8=some w) (B:=λb=>some b.val=some w) (by unfold LN at e;cases h:Jo v<;>(rw[h]at e;exact e))
  (λe=>by
   obtain⟨a,e1,rfl⟩:=AH e
   exact Hf (P:=λv=>Ab L G h n v (.ref a)) e1 rfl) λb e1 e=>Gj (P:=λv=>Ab L G h n v w) e1 (aA2 e).symm
def FV.of{f:Value}{s:aA8}(h:KZ X.L X.A f s):FV X f s:=h
variable(F:IX X P d fN st fM ţ fI sc)(R:Ł X c)
include F R
theorem UA{b:Ų}{as:List AV}{vas:List Value}(h:EU P.C b as c.σ Q)(ra:į X c as vas):Ħ X c Q (call b.val vas []):=by
 have hu:X.A.units+10<cLine:=aD5 (aA0 (aF6 (by decide:10<=40) _) (aQ5 (aD0 _ _) 40)) F.A.2.2
 have dflt :∀{b},An b as c.σ Q->Ħ X c Q (call b.val vas []):=λh=>Lh h R ra
 refine Ų.casesOn (motive:=λb=>EU P.C b as c.σ Q->Ħ X c Q (call b.val vas [])) b (λh=>?_) (dflt (b:=.range)) (λh=>So h R ra) (dflt (b:=.enumerate)) aA9 (dflt (b:=.append)) (dflt (b:=.pop)) (λh=>PV F.w.N hu h R ra) (dflt (b:=.get)) (dflt (b:=.setdefault)) (dflt (b:=.has)) (λh=>UN F.w.N (F.w.hC▸h) R ra) (dflt (b:=.tuple)) (dflt (b:=.list)) (dflt (b:=.map)) (dflt (b:=.extend)) (dflt (b:=.divmod)) aA9 aA9 (dflt (b:=.index)) (λh=>Q1 F.A.1 h R ra) (dflt (b:=.chr)) (dflt (b:=.join)) h
 have h:aI6 (An .len as c.σ Q) (QJ as c.σ Q) (HT as):=h
 cases hm:HT as with
 | true=>rw[hm]at h;exact XZ F.w.N h R ra
 | false=>rw[hm]at h;exact Lh h R ra
theorem Wb{a:aC3}{as:List AV}{vas:List Value}(h:QK P a as c.σ Q)(ra:į X c as vas):Wa X c Q (.ref a) vas:=by
 unfold QK at h
 cases h1:aE0 a P.C with
 | true=>
  rw[h1]at h
  rw[aB8 h1,F.w.hC]
  exact P9 F.w.K F.w.N F.w.Y F.w.keepC (F.w.new (Ah h).1) F.A (Ah h).2 R ra
 | false=>
  rw[h1]at h
  cases h2:aE0 a P.D with
  | true=>
   rw[h2]at h
   rw[aB8 h2]
   exact AE h λtr e h=>have z:=F.w.init tr e;ZU F.w.K z.1 z.2.1 z.2.2.1 z.2.2.2.1 z.2.2.2.2 F.A h R ra
  | false=>
   rw[h2]at h
   refine AE h λtr e h=>?_
   cases hr:P.ro with
   | false=>rw[hr]at h;exact P7 (F.w.fn _ tr e) F.A h R ra
   | true=>rw[hr]at h;exact ZD (F.w.fn _ tr e) F.A h R ra
theorem WD{as:List AV}{vas:List Value}(h:Do P v as c.σ Q)(rv:Ξ X c v va)(ra:į X c as vas):Wa X c Q va vas:=
 Az h (λh=>Az h (λh=>AE h λq e h=>ZX h R (UF (P:=λv=>Ξ X c v va->Ξ X c (.bm q.1 q.2) va) e id rv) ra)
  λa e h=>(Hf (P:=λv=>Ξ X c v va->va = .ref a) e id rv)▸Wb F R h ra) λb e h=>(Gj (P:=λv=>Ξ X c v va->va=b.val) e id rv)▸⟨NM b,UA F R h ra⟩
theorem bS{x:Str}(h:Xw P.K v x c.σ Q)(rv:Ξ X c v va):Ħ X c Q (aY4 va x true):=Az h (λh=>Y9 F.w.K h R rv) λb e h=>Z4 e R rv h
theorem cH{x:Str}{q:AV×Bool}(e:Qn P.K v x c.σ=some q){pl:Sem Bool}{K:Value×List Value->aA8->Prop}(rv:Ξ X c v va)(h :∀g t,(∀c,Ξ X c q.1 g)->K (g,bif q.2 then [va]else []) {c.s with toks:=t}):ĭ X (aX8 va x pl) K c.s:=by
 unfold Qn at e
 cases ht:LW v x with
 | true=>
  rw[ht]at e
  cases e
  unfold LW at ht
  cases hv:Jo v with
  | none=>rw[hv]at ht;cases ht
  | some b=>
   rw[hv]at ht
   obtain⟨h1,h2⟩:=AQ (show(_&&_)=true from ht)
   rw[aE6 h2,(Gj (P:=λv=>Ξ X c v va->va=b.val) hv id rv),S8 h1]
   exact I3 λt=>h _ t λ_=>rfl
 | false=>
  rw[ht]at e
  refine Cu e (λe=>?_) λe=>?_
  ·obtain⟨f,e1,rfl⟩:=AH e
   exact YA (E:=λ_ _=>False) F.w.K e1 R rv λt=>h _ t λ_=>rfl
  ·obtain⟨b,e1,rfl⟩:=AH e
   exact YO e1 R rv λt=>h _ t λ_=>rfl
end
end Mine
end
section
open PySem PySem.W PyProof.Rows PySem.Spec PySem.Calls PySem.SeqAt
namespace Mine
def pI(a b:AV)(σ:St)(K:Bool->Prop):Prop:=Ap (B7 a) λk=>
 aD9 (aD9 (Ap (Ei σ b) λes=>K (es.lookup k).isSome) (λvs=>Ap (Bc vs) λks=>K (decide (k∈ks))) (B6 σ b)) (λvs=>Ap (Bc vs) λks=>K (decide (k∈ks))) (F2 b)
def FA(op:aZ5)(a b:AV)(σ:St)(Q:AV->St->Prop):Prop:=
 aI6 (aI6 (GJ op a b σ Q) (pI a b σ λr=>Q (.bool (!r)) σ) (aE0 op.ctorIdx 9)) (pI a b σ λr=>Q (.bool r) σ) (aE0 op.ctorIdx 8)
section
variable{X:Ω}{c:Ŋ}{a b:AV}{va vb:Value}{Q:AV->St->Prop}
def Kj{k:AD}{ks:List AD}{us:List Value}(q:us.length=ks.length/\∀(i:Nat) (k:AD) (v:Value),ks[i]?=some k->us[i]?=some v->BW k v=true):us.any (BW k)=decide (k∈ks):=by
 rw[bG1,bE9,decide_eq_true_iff]
 refine⟨λ⟨y,hy,e⟩=>?_,λh=>?_⟩
 ·obtain⟨i,hi⟩:=aJ6 hy
  have hki:=aA5 (q.1▸(aA4.mp hi).1:i<ks.length)
  rw[E8 e (q.2 i _ y hki hi)]
  exact List.getElem_mem _
 ·obtain⟨i,hi⟩:=aJ6 h
  have hu:=aA5 (q.1.symm▸(aA4.mp hi).1:i<us.length)
  exact⟨_,List.getElem_mem _,q.2 i k _ hi hu⟩
def lM{r:Bool}{op:aZ5}{f:Bool->Bool}(hop :∀{x c':Value},aU7 op x c'=(do return .bool (f (<-contains c' x)))){K:Bool->Prop}{t:Nat}{P:Value->aA8->Prop}{x y:Value}{s:aA8}
  (h:ĭ X (contains y x) (λr s'=>P (.bool (f r)) s') s):ĭ X (aU7 op x y) P s:=by
 rw[hop]
 exact ĭ.bind (h.mono λr s' q=>ĭ.pure q)
def Zk{f:Bool->Bool}{op:aZ5}(hop :∀{x c':Value},aU7 op x c'=(do return .bool (f (<-contains c' x))))(h:pI a b c.σ λr=>Q (.bool (f r)) c.σ)(R:Ł X c)(ra:Ξ X c a va)(rb:Ξ X c b vb):Ħ X c Q (aU7 op va vb):=by
 refine lM (K:=λ_=>True) (t:=0) (r:=true) hop (AE h λk e0 h=>?_)
 have hk:=CA e0 ra
 refine Az h (λh=>Az h (λh=>AE h λes e1 h=>DI e1 R rb λd kvs p1 ŝ=>?_) λvs e1 h=>AE h λks e2 h=>BE e1 R rb λl us n p1 ŝ=>?_) λvs e1 h=>AE h λks e2 h=>EE e1 rb λl us n p1 ŝ=>?_
 ·refine bB7 p1.1.typeIs slot_dict_contains (aG9 slot_dict_contains p1.1.typeIs entry_dict_contains ?_ (args_dict_contains _ _))
  show aD7 _ _ (dictGet d va >>= _) _ _ c.s
  refine aA3 (wpAny_dictGet_of hk p1.1.mapOf ?_)
  have e:(es.lookup k).isSome=(valueAt kvs k).isSome:=ŝ.look k (P:=λx y=>x.isSome=y.isSome) rfl (λ_ _ _=>rfl)
  rw[e]at h
  cases hv:valueAt kvs k with
  | none=>
   rw[hv]at h
   show aD7 _ _ (aE3.Dict.pendingKey? d va >>= _) _ _ _
   exact aA3 (wpAny_pendingKey_other p1.2 (aA7 ⟨_,rfl,aQ1 (.to (b:=AV.bool (f false)) (R.toks _) rfl h)⟩))
  | some v=>
   rw[hv]at h
   show aD7 _ _ (ret (.bool true)) _ _ _
   exact aA7 ⟨_,rfl,aQ1 (.to (b:=AV.bool (f true)) (R.toks _) rfl h)⟩
 ·have q:=Mf e2 ŝ
  refine bB7 (AS p1).typeIs slot_list_contains (bF6 slot_list_contains (AS p1).typeIs entry_list_contains (args_list_contains _ _) (PySem.SeqAt.list_containsAt l us.toArray n none #[] va (BW k)) ⟨p1,Ig q hk,?_⟩)
  rw[List.any_toArray,Kj q]
  exact aQ1 (.here (b:=AV.bool (f (decide (k∈ks)))) R rfl h)
 ·have q:=Mf e2 ŝ
  have hT:c.s.TypeIs (.ref l) "tuple":=⟨_,p1,rfl⟩
  refine bB7 hT slot_tuple_contains (bF6 slot_tuple_contains hT entry_tuple_contains (args_tuple_contains _ _) (PySem.SeqAt.tuple_containsAt l us.toArray n none #[] va (BW k)) ⟨p1,Ig q hk,?_⟩)
  rw[List.any_toArray,Kj q]
  exact aQ1 (.here (b:=AV.bool (f (decide (k∈ks)))) R rfl h)
def Lm{op:aZ5}(hu:X.A.units+10<cLine)(h:FA op a b c.σ Q)(R:Ł X c)(ra:Ξ X c a va)(rb:Ξ X c b vb):Ħ X c Q (aU7 op va vb):=by
 unfold FA at h
 cases ſ:aE0 op.ctorIdx 8 with
 | true=>
  rw[ſ]at h
  obtain rfl:op = .In:=aZ5.In.elim (motive:=λb=>b = .In) op (aB8 ſ) rfl
  exact Zk (f:=id) rfl h R ra rb
 | false=>
  rw[ſ]at h
  cases h9:aE0 op.ctorIdx 9 with
  | true=>
   rw[h9]at h
   obtain rfl:op = .NotIn:=aZ5.NotIn.elim (motive:=λb=>b = .NotIn) op (aB8 h9) rfl
   exact Zk (f:=not) rfl h R ra rb
  | false=>rw[h9]at h;exact fJ hu h R ra rb
end
def DE:bO0 "set_iterator" "__next__" "set_iterator.__next__":=
 .of (owner:="set_iterator") (n:="__next__") (by rw[aH9,aF4];rfl') (by decide +kernel) (by decide +kernel) (by decide +kernel)
  (by first | exact .inl (by decide +kernel) | exact .inr (by decide +kernel)) (by rw[aK7];rfl')
def F1:bO0 "set_iterator" "__iter__" "set_iterator.__iter__":=
 .of (owner:="set_iterator") (n:="__iter__") (by rw[aH9,aF4];rfl') (by decide +kernel) (by decide +kernel) (by decide +kernel)
  (by first | exact .inl (by decide +kernel) | exact .inr (by decide +kernel)) (by rw[aK7];rfl')
def IY:bA7 table "set_iterator.__next__" = some aE3.«set_iterator.__next__»:=aV1 (by rfl')
def KA:Manifest.owners.lookup (String.ofList ['r','o','t','a','r','e','t','i','_','t','e','s'].reverse)=some Manifest.sig_set_iterator:=by rfl'
def J0(a:Value):aW8 "set_iterator.__next__" ⟨[a],[]⟩:=by
 unfold aW8;rw[bE2 (id:="set_iterator.__next__") (n:=['_','_','t','x','e','n','_','_']) (o:=['r','o','t','a','r','e','t','i','_','t','e','s']) (by rfl') KA];rfl'
def H7:bA7 table "set.__iter__" = some aE3.«frozenset.__iter__»:=bH3 (id':="frozenset.__iter__") (by rfl') rfl (by decide +kernel) (by rfl')
def IZ:bA7 table "set_iterator.__iter__" = some aE3.«dict_keyiterator.__iter__»:=bH3 (id':="dict_keyiterator.__iter__") (by rfl') rfl (by decide +kernel) (by rfl')
def Ix(a:Value):aW8 "set_iterator.__iter__" ⟨[a],[]⟩:=by
 unfold aW8;rw[bE2 (id:="set_iterator.__iter__") (n:=['_','_','r','e','t','i','_','_']) (o:=['r','o','t','a','r','e','t','i','_','t','e','s']) (by rfl') KA];rfl'
noncomputable def KY(a:aC3)(ep:Nat):Obj:={cls:=.type "set_iterator",data:=.fields #[.int 0 0,.int 0 0,.ref a,.int 0 0,.int ep 0]}
structure S0(h:aE8)(a:aC3)(ep:Nat)(t:bA8):Prop where
 ex :∃o,h.get? a=some o/\o.ExactSet/\o.data = .set #[] ep t
 fit:t.fits 0=true
section
variable{prog:aH0}{w:aC7}{A:aK5}{E:Value->aA8->Prop}{s:aA8}{a I:aC3}{ep:Nat}{t:bA8}
def Jd{Q:Bool->aA8->Prop}(h :∀b,Q b s):aD7 (aE5 prog w) A bF9 Q E s:=by
 unfold bF9
 exact aA3 (aU8 (aA7 (h _)))
def IF{Q:Array (Int×Value)×Nat×bA8->aA8->Prop}(H:S0 s.heap a ep t)(h:Q (#[],ep,t) s):aD7 (aE5 prog w) A (bM6 a) Q E s:=H.ex.elim λo q=>wpAny_setState_of q.1 q.2.2 H.fit h
def HY{Q:Array (Int×Value)->aA8->Prop}(H:S0 s.heap a ep t)(h:Q #[] s):aD7 (aE5 prog w) A (setEntries a) Q E s:=H.ex.elim λo q=>wpAny_setEntries_of q.1 q.2.2 H.fit h
def RW{Q:Nat->aA8->Prop}(H:S0 s.heap a ep t)(h:Q ep s):aD7 (aE5 prog w) A (setEpoch a) Q E s:=H.ex.elim λo q=>wpAny_setEpoch_of q.1 q.2.2 H.fit h
def VE{Q:Value->aA8->Prop}(H:S0 s.heap a ep t)(h:Q (.ref s.heap.objs.size) {s with heap:=s.heap.push (KY a ep)}):aD7 (aE5 prog w) A (aM3 (.ref a)) Q E s:=by
 obtain⟨o,ho,hex,hd⟩:=H.ex
 have hT:s.TypeIs (.ref a) "set":=⟨o,ho,hex.1⟩
 refine bD7 hT PySem.F.slot_set_iter (aG9 PySem.F.slot_set_iter hT H7 ?_ (PySem.F.args_set_iter_1 _))
 unfold aE3.«frozenset.__iter__»
 refine aA3 (m:=aE3.Frozenset.slot0 _ _) (aA7 ?_)
 refine aA3 (m:=aE3.Frozenset.sizeOf a) ?_
 unfold aE3.Frozenset.sizeOf
 refine aA3 (m:=setEntries a) (HY H (aA7 ?_))
 refine aA3 (m:=setDrawn a) ?_
 unfold setDrawn
 refine aA3 (m:=bM6 a) (IF H ?_)
 refine aA3 (m:=bF9) (Jd λb=>aA7 ?_)
 change aD7 _ _ (if(!b&&(!t.plain&&false))=true then _ else _) _ _ _
 rw[aP3,aP3,bO3 aK6]
 refine aA3 (m:=pure (bK8 0)) (aA7 ?_)
 refine aA3 (m:=setEpoch a) (RW H (aA3 (aH2 ?_ (by size_fits))))
 exact aA7 ⟨_,rfl,"set_iterator",_,⟨_,aC5 _ rfl,rfl⟩,DE.lookup,h⟩
def TZ{Q:Value->aA8->Prop}(ho:s.heap.get? I=some (KY a ep))(hQ:Q (.ref I) s):aD7 (aE5 prog w) A (aM3 (.ref I)) Q E s:=by
 have hT:s.TypeIs (.ref I) "set_iterator":=⟨_,ho,rfl⟩
 refine bD7 hT F1 (aG9 F1 hT IZ ?_ (Ix _))
 show aD7 _ _ (ret (.ref I)) _ _ s
 exact aA7 ⟨_,rfl,"set_iterator",_,hT,DE.lookup,hQ⟩
def Jr{β:Type}{P:β->aA8->Prop}{Q:Option Value->aA8->Prop}{h₁:aE8}(hh:A.handled=none)(hx:aX6 I s.heap h₁)(h :∀h',aX6 I s.heap h'->Q none {s with heap:=h'}) :
  aD7 (aE5 prog w) A.in1 (do let e<-newExc (.type "StopIteration") [];raiseNew e) P (λe s'=>aD7 (aE5 prog w) A (match(Except.error e:Except Value (Option Value))with
  | .ok (some v)=>pure (some v)
  | .ok none=>unsupported "iter:the-iterator's-class-has-lost-its-__next__-amid-the-walk"
  | .error e=>do if<-bA0 e (.type "StopIteration")then pure none else throw e) Q E s') {s with heap:=h₁}:=by
 refine aA3 ?_
 simp only[newExc,newTuple]
 refine aA3 (aH2 ?_ (by size_fits))
 refine aA3 (m:=aU5 _ _) (aU3 (a:=aI8) (by first | rfl | (simp only[aU5];rfl)) ?_)
 refine aH2 ?_ (by size_fits)
 simp only[raiseNew]
 refine aA3 (bI5 ?_)
 rw[show A.in1.handled=none from hh]
 refine aA3 (aA7 (bL1 ?_))
 refine aA3 (aU9 (T:="StopIteration") (b:=true) ⟨_,aC5 _ rfl,rfl⟩ bG8 ?_)
 exact aA7 (h _ ((hx.push _).push _))
def XF{Q:Option Value->aA8->Prop}(hh:A.handled=none)(hI:s.heap.get? I=some (KY a ep))(H:S0 s.heap a ep t)(h :∀h',aX6 I s.heap h'->Q none {s with heap:=h'}):aD7 (aE5 prog w) A (aV3 (.ref I)) Q E s:=by
 have hT:s.TypeIs (.ref I) "set_iterator":=⟨_,hI,rfl⟩
 unfold aV3
 refine aA3 (bA4 (aJ0 (name:=aA1 "__next__") hT DE (aG9 DE hT IY ?_ (J0 _))))
 unfold aE3.«set_iterator.__next__»
 refine aA3 (m:=slotArgs _ _ _) (aA7 ?_)
 refine aA3 (m:=fieldsOf _) (wpAny_fieldsOf hI rfl ?_)
 refine aA3 (m:=setEntries a) (HY H ?_)
 show aD7 _ _ (if((0:Int) != 0)=true then _ else _) _ _ _
 rw[bO3 (by decide)]
 have up:aX6 I s.heap (s.heap.update I (Obj.mapFields (·.setIfInBounds 2 .none))):=(aM9 ..).extBut
 refine aA3 (m:=setNext _ _ _ _) ?_
 unfold setNext
 refine aA3 (m:=bM6 a) (IF H ?_)
 refine aA3 (m:=bF9) (Jd λb=>?_)
 cases b with
 | true=>
  show aD7 _ _ (if(ep != (ep:Int).toNat)=true then _ else _) _ _ _
  rw[bO3 (by simp)]
  refine aA3 (m:=setWalk a) ?_
  unfold setWalk
  refine aA3 (m:=bM6 a) (IF H ?_)
  refine aA3 (m:=bF9) (Jd λb=>?_)
  cases b with
  | true=>
   refine aA3 (m:=ask) (aU8 (aA7 (aA7 ?_)))
   exact aA3 (aR7 hI rfl (by simp) (Jr (s:=s) hh up h))
  | false=>
   show aD7 _ _ (if(!t.plain&&false)=true then _ else _) _ _ _
   rw[aP3,bO3 aK6]
   show aD7 _ _ ((if(!t.led&&false)=true then _ else _) >>= _) _ _ _
   rw[aP3]
   refine aA3 (aA7 (aA7 (aA7 ?_)))
   exact aA3 (aR7 hI rfl (by simp) (Jr (s:=s) hh up h))
 | false=>
  show aD7 _ _ (if(!t.plain&&false)=true then _ else _) _ _ _
  rw[aP3,bO3 aK6]
  show aD7 _ _ ((if(!t.led&&false)=true then _ else _) >>= _) _ _ _
  rw[aP3]
  refine aA3 (aA7 (aA7 ?_))
  exact aA3 (aR7 hI rfl (by simp) (Jr (s:=s) hh up h))
end
section
variable{X:Ω}{c:Ŋ}
structure uJ(x:Str)(t:Tok)(hs:aE8)(I:aC3)(i:Nat)(G:ļ)(h:aE8):Prop where
 lk:GR hs G [I]
 it:h.IsStrIter I (strIterType x) x t i
def J2(hh:X.A.handled=none)(x:Str)(t:Tok)(I:aC3):Walks X.L.prog X.L.w X.A I [I] [I] x.cps.size (SignAt x) (λi h=>h.IsStrIter I (strIterType x) x t i):=by
 unfold strIterType
 cases x.cps.all (· < 128)with
 | true=>exact Walks.strAscii hh I x t
 | false=>exact Walks.strWide hh I x t
def bJ(x:Str):(["enumerate","zip","dict_itemiterator","dict_reverseitemiterator","odict_iterator","itertools.zip_longest","itertools.pairwise"].contains (strIterType x))=false:=by
 unfold strIterType
 cases x.cps.all (· < 128)<;>decide
def dB{x:Str}{t:Tok}{I:aC3}(hh:X.A.handled=none)(target:Expr):Ja X target I [I] (D6 x) (uJ x t X.hs I) where
 frame:=λi G h G' h' y kp=>⟨y.lk.frame kp,y.it.imp λo q=>⟨kp.lk (y.lk I (aB1.mpr rfl)).1 o q.1,q.2⟩⟩
 item:=λi c R hi y=>by
  rw[DT]at hi
  refine F4 ((J2 hh x t I).item i c.s _ _ hi y.it λv h' tk hP y1 Ī lt=>⟨v,rfl,?_⟩)
  have q:=R.lockAt y.lk (t:=tk) Ī lt.1 lt.2
  obtain⟨g,u,g1,rfl⟩:=hP
  exact y1.elim λo z=>D8 (s:={c.s with heap:=h',toks:=tk}) (T:=strIterType x) z.1 z.2.1 z.2.2 (bJ x) ⟨_,K8 g1,bO8 _,q.2,⟨y.lk,y1⟩,Ī,lt.1⟩
 done:=λc R y=>by
  have st:=y.it
  rw[DT]at st
  exact F4 ((J2 hh x t I).done c.s _ _ st λh' tk Ī lt=>⟨rfl,(R.lockAt y.lk (t:=tk) Ī lt.1 lt.2).2,Ī,lt.1⟩)
def iE{x:Str}{a:AV}{va:Value}{K:List AV->St->Prop}(hh:X.A.handled=none)(e:DC a=some x)(h:K (D6 x) c.σ)(target:Expr)(R:Ł X c)(ra:Ξ X c a va):ĭ X (aM3 va) (λit s'=>Bn X target c K it s') c.s:=by
 refine Bl (P:=λva=>ĭ X (aM3 va) (λit s'=>Bn X target c K it s') c.s) e ra λt=>wpAny_pyIter_strU ?_
 have y:=R.lck {cls:=.type (strIterType x),data:=.fields #[.str x t,.int 0 0]} c.s.toks
 exact⟨c,.refl R,_,[c.s.heap.objs.size],D6 x,uJ x t X.hs c.s.heap.objs.size,_,rfl,λe=>dB (X:=X.en e) hh target,λi G s Q st hQ=>(J2 hh x t _).self i s Q _ st.it hQ,⟨λb hb=>⟨aB1.mp hb▸ļ.put_at,aB1.mp hb▸R.size⟩,_,aC5 _ rfl,rfl,rfl⟩,λb hb=>aB9 (aB1.mp hb).symm,y,λ_ _ e=>aB5 _ e,h⟩
structure t6(ep:Nat)(t:bA8)(a:aC3)(hs:aE8)(I:aC3)(i:Nat)(G:ļ)(h:aE8):Prop where
 lk:GR hs G [I]
 it:h.get? I=some (KY a ep)
 has:S0 h a ep t
 ow:¬ G.own a
def S0.keep{h h':aE8}{a:aC3}{ep:Nat}{t:bA8}(H:S0 h a ep t)(hk :∀o,h.get? a=some o->h'.get? a=some o):S0 h' a ep t:=⟨H.ex.imp λo q=>⟨hk o q.1,q.2⟩,H.fit⟩
def ZC{ep:Nat}{t:bA8}{a I:aC3}(hh:X.A.handled=none)(target:Expr):Ja X target I [I] [] (t6 ep t a X.hs I) where
 frame:=λi G h G' h' y kp=>⟨y.lk.frame kp,kp.lk (y.lk I (aB1.mpr rfl)).1 _ y.it,y.has.keep λo e=>(kp.still.at_ a o e y.ow).1,y.has.ex.elim λo q=>kp.off q.1 y.ow⟩
 item:=λi c R hi=>bO4 hi (aI0 i)
 done:=λc R y=>Hd (XF hh y.it y.has λh' y1 sz=>
  have Ī :∀a o,a∉[I]->c.s.heap.get? a=some o->h'.get? a=some o:=λa o ha e=>y1 a o (SF ha) e
  ⟨rfl,(R.lockAt y.lk (t:=c.s.toks) Ī sz).2,Ī,sz⟩)
def XO{va:Value}{K:List AV->St->Prop}(hh:X.A.handled=none)(h:K [] c.σ)(target:Expr)(R:Ł X c)(ra:Ξ X c (.fset []) va):ĭ X (aM3 va) (λit s'=>Bn X target c K it s') c.s:=by
 cases ra with
 | mk a us hv hp ho _=>
 subst hv
 obtain⟨⟨o,es,ep,t,h1,h2,h3,_,_,_,h4,h5⟩,_⟩:=hp
 have h5:es = #[]:=aR4 h5
 subst h5
 have H:S0 c.s.heap a ep t:=⟨⟨o,h1,h2,h3⟩,h4⟩
 have y:=R.lck (KY a ep) c.s.toks
 exact VE H ⟨c,.refl R,_,[c.s.heap.objs.size],[],t6 ep t a X.hs c.s.heap.objs.size,_,rfl,λe=>ZC (X:=X.en e) hh target,λi G s Q st hQ=>TZ st.it hQ,⟨λb hb=>⟨aB1.mp hb▸ļ.put_at,aB1.mp hb▸R.size⟩,aC5 _ rfl,H.keep λo e=>aB5 _ e,y.kp.off h1 ho⟩,λb hb=>aB9 (aB1.mp hb).symm,y,λ_ _ e=>aB5 _ e,h⟩
def Da(es:List (AD×AV)):List AV:=es.map λp=>.tup [.key p.1,p.2]
def GY(es:List (AD×AV)):(Da es).length=es.length:=aA6 ..
structure pZ(L:Ci)(hs:aE8)(I d:aC3)(es:List (AD×AV))(kvs:List (AD×Value))(ep:Nat)(i:Nat)(G:ļ)(h:aE8):Prop where
 lk:GR hs G [I]
 it :∃ok ov,IsItemIter h I d i kvs.length ep ok ov
 at_:h.DictAt (CH L.prog L.w) d kvs ep
 ow:¬ G.own d
 all:Am L G h 0 es kvs
def Am.get{L:Ci}{G:ļ}{h:aE8}{n:Nat}{es:List (AD×AV)} :∀{kvs:List (AD×Value)} {i:Nat} {p:AD×AV},Am L G h n es kvs->es[i]?=some p->∃v,kvs[i]?=some (p.1,v)/\Ab L G h n p.2 v:=
 aB7 (motive:=λes=>∀{kvs:List (AD×Value)} {i:Nat} {p:AD×AV},Am L G h n es kvs->es[i]?=some p->∃v,kvs[i]?=some (p.1,v)/\Ab L G h n p.2 v) (λ{kvs i p} _=>AA) (λa r ih kvs i p q e=>by
  obtain⟨k,b⟩:=a
  obtain⟨v,u,rfl,q1,ĉ⟩:=q
  cases i with
  | zero=>cases aA2 e;exact⟨v,rfl,q1⟩
  | succ i=>exact ih (kvs:=u) (i:=i) ĉ e) es
def XX{I d:aC3}{es:List (AD×AV)}{kvs:List (AD×Value)}{ep:Nat}(hh:X.A.handled=none)(hn:kvs.length=es.length){target:Expr}(ht:DU target=true):Ja X target I [I] (Da es) (pZ X.L X.hs I d es kvs ep) where
 frame:=λi G h G' h' y kp=>⟨y.lk.frame kp,y.it.imp λok q=>q.imp λov q=>kp.lk (y.lk I (aB1.mpr rfl)).1 _ q,y.at_.at' λo e=>(kp.still.at_ d o e y.ow).1,y.at_.elim λo w=>w.elim λes' z=>kp.off z.1 y.ow,Am.sub kp.still (λx w e h=>bO4 h (aI0 x)) (DQ es) y.all⟩
 item:=λi c R hi y=>by
  rw[GY]at hi
  obtain⟨v,e1,r1⟩:=y.all.get (aA5 hi)
  obtain⟨ok,ov,x5⟩:=y.it
  refine wpAny_pyNext_items_item x5 y.at_ e1 λkey h' y1 y2 y3 y4 y5=>⟨_,rfl,?_⟩
  refine GW (P:=λT=>ĭ X (aP9 T (.ref I) (.ref c.s.heap.objs.size)) (λ_ s₂=>Mi X c [I] (Da es) i (.ref c.s.heap.objs.size) (pZ X.L X.hs I d es kvs ep (i+1)) s₂) {c.s with heap:=h'}) ht λelts x1 pos=>wpAny_letOwnedTupleGo_items y2 λh'' ī z2=>?_
  have Ī :∀a o,a∉[I]->c.s.heap.get? a=some o->h''.get? a=some o:=λa o a1 ea=>(z2.2 a (SF a1)).trans (y5 a o (SF a1) ea)
  have sz:c.s.heap.objs.size<=h''.objs.size:=z2.1.symm▸y4.symm▸aI3 _
  have hT:h''.get? c.s.heap.objs.size=some (Aw [key,v] 0):=(z2.2 _ (aJ8 (aK9 x5))).trans y3
  have q:=R.lockAt y.lk (t:=c.s.toks) Ī sz
  have nd:d∉[I]:=λz=>y.ow (Ag (y.lk d z).1)
  exact⟨_,(aB3 ..).trans (bO1 _ (aA5 hi)),⟨_,_,rfl,⟨(0,bL3),hT⟩,R.gone,_,_,rfl,y1,_,_,rfl,Ab.zero q.1.still r1,rfl⟩,q.2,⟨y.lk,⟨_,_,ī⟩,y.at_.at' λo e=>Ī d o nd e,y.ow,Am.sub q.1.still (λx w e h=>bO4 h (aI0 x)) (DQ es) y.all⟩,Ī,sz⟩
 done:=λc R y=>by
  obtain⟨ok,ov,x5⟩:=y.it
  rw[GY,<-hn]at x5
  exact Hd (wpAny_pyNext_items_end hh x5 y.at_ (aH7 (aB6 _)) λh' y1 sz=>
   have Ī :∀a o,a∉[I]->c.s.heap.get? a=some o->h'.get? a=some o:=λa o ha e=>y1 a o (SF ha) e
   ⟨rfl,(R.lockAt y.lk (t:=c.s.toks) Ī sz).2,Ī,sz⟩)
noncomputable def RN(a:AV):Option (List (AD×AV)):=match a with
 | .dct es=>some es
 | _=>none
def QD{P:AV->Prop}{a:AV}{es:List (AD×AV)}(e:RN a=some es)(f:P (.dct es)):P a:=
 AV.casesOn (motive_1:=λa=>RN a=some es->P a) a AA (λ_=>AA) (λ_=>AA) (λ_ _=>AA) (λ_=>AA) (λ_=>AA) (λ_=>AA) (λ_ _=>AA) (λ_ e=>aA2 e▸f) (λ_=>AA) (λ_=>AA) e
def Us{v d:aC3}{kvs:List (AD×Value)}{es:List (AD×AV)}{K:List AV->St->Prop}(hh:X.A.handled=none)(ow:¬ c.G.own d)(h:X.L.dct c.s.heap d kvs)(hd:Am X.L c.G c.s.heap 0 es kvs)(hv:c.s.heap.IsItemsView v d)(q:K (Da es) c.σ){target:Expr}(ht:DU target=true)(R:Ł X c):ĭ X (aM3 (.ref v)) (λit s'=>Bn X target c K it s') c.s:=by
 obtain⟨ep,o,es',z⟩:=h.1.dictAt
 refine wpAny_pyIter_items hv ⟨o,es',z⟩ ?_
 have x:=R.lck {cls:=.type "dict_itemiterator",data:=.fields #[.none,.bool false,.ref d,.int 0 0,.int kvs.length 0,.int ep 0,.none,.none]} c.s.toks
 exact⟨c,.refl R,_,[c.s.heap.objs.size],Da es,pZ X.L X.hs c.s.heap.objs.size d es kvs ep,_,rfl,λe=>XX (X:=X.en e) hh (Am.len hd) ht,λi G s Q st hQ=>st.it.elim λok z=>z.elim λov z=>kcp_self z hQ,
  ⟨λb hb=>⟨aB1.mp hb▸ļ.put_at,aB1.mp hb▸R.size⟩,⟨_,_,aC5 _ rfl⟩,⟨o,es',aB5 _ z.1,z.2⟩,x.kp.off z.1 ow,Am.sub x.kp.still (λx w e h=>bO4 h (aI0 x)) (DQ es) hd⟩,λb hb=>aB9 (aB1.mp hb).symm,x,λa o e=>aB5 _ e,q⟩
def JU(a:AV):Option (List AV):=match a with
 | .fset ks=>aB7 (some []) (λ_ _ _=>none) ks
 | _=>none
def KD(a:AV):Option (List AV):=GH (aB a) (GH ((DC a).map D6) (JU a))
def O2{P:AV->List AV->Prop}{a:AV}{vs:List AV}(e:JU a=some vs)(f:P (.fset []) []):P a vs:=
 AV.casesOn (motive_1:=λa=>JU a=some vs->P a vs) a AA (λ_=>AA) (λ_=>AA) (λ_ _=>AA) (λ_=>AA) (λ_=>AA) (λ_=>AA) (λ_ _=>AA) (λ_=>AA) (λks e=>List.casesOn (motive:=λks=>JU (.fset ks)=some vs->P (.fset ks) vs) ks (λe=>aA2 e▸f) (λ_ _=>AA) e) (λ_=>AA) e
def YE{a:AV}{vs:List AV}{va:Value}{K:List AV->St->Prop}(hh:X.A.handled=none)(ea:KD a=some vs)(e:AC nn vs=some vs)(h:K vs c.σ)(target:Expr)(R:Ł X c)(ra:Ξ X c a va):ĭ X (aM3 va) (λit s'=>Bn X target c K it s') c.s:=
 Cu ea (λea=>aT hh ea e h target R ra) λea=>Cu ea (λea=>by
  obtain⟨x,e1,rfl⟩:=AH ea
  exact iE hh e1 h target R ra) λea=>O2 (P:=λa vs=>Ξ X c a va->K vs c.σ->ĭ X (aM3 va) (λit s'=>Bn X target c K it s') c.s) ea (λra h=>XO hh h target R ra) ra h
end
end Mine
end
section
open PySem PySem.W PyProof.Rows PySem.Spec PySem.Calls
namespace Mine
abbrev WE:=Expr->St->(AV->St->Prop)->Prop
abbrev Ń:=Expr->St->(Bool->St->Prop)->Prop
abbrev ř:=Expr->AV->St->(St->Prop)->Prop
structure ń where
 E:WE
 B:Ń
 A:ř
def A9{α:Type}(l:List α):Option α:=aB7 none (λa r _=>aB7 (some a) (λ_ _ _=>none) r) l
def IB{α:Type}{l:List α}{a:α}{P:List α->Prop}(e:A9 l=some a)(f:P [a]):P l:=by
 cases l with
 | nil=>exact AA e
 | cons b r=>
  cases r with
  | nil=>exact aA2 e▸f
  | cons=>exact AA e
def EZ{α:Type}(l:List α):Bool:=aB7 true (λ_ _ _=>false) l
def EG{α:Type}{l:List α}{P:List α->Prop}(e:EZ l=true)(f:P []):P l:=by
 cases l with
 | nil=>exact f
 | cons=>cases e
noncomputable def ix(e:Expr)(n:Nat):Bool:=aE0 e.ctorIdx n
def CD(es:List Expr):Bool:=aB7 true (λe _ ih=>aI6 ih false (ix e 22)) es
def CW(e:Expr):Expr×Str×Pos:=Expr.casesOn (motive_1:=λ_=>Expr×Str×Pos) e (λ_ _ _=>(e,("":Str),AP)) (λ_ _ _=>(e,("":Str),AP)) (λ_ _ _ _=>(e,("":Str),AP)) (λ_ _ _=>(e,("":Str),AP)) (λ_ _ _ _=>(e,("":Str),AP)) (λ_ _ _ _=>(e,("":Str),AP)) (λ_ _ _=>(e,("":Str),AP)) (λ_ _ _=>(e,("":Str),AP)) (λ_ _ _ _=>(e,("":Str),AP)) (λ_ _ _ _=>(e,("":Str),AP)) (λ_ _ _ _ _=>(e,("":Str),AP)) (λ_ _ _ _=>(e,("":Str),AP)) (λ_ _=>(e,("":Str),AP)) (λ_ _=>(e,("":Str),AP)) (λ_ _=>(e,("":Str),AP)) (λ_ _ _ _=>(e,("":Str),AP)) (λ_ _ _ _=>(e,("":Str),AP)) (λ_ _ _ _=>(e,("":Str),AP)) (λ_ _=>(e,("":Str),AP)) (λ_ _ _=>(e,("":Str),AP)) (λo a p=>(o,a,p)) (λ_ _ _=>(e,("":Str),AP)) (λ_ _=>(e,("":Str),AP)) (λ_ _=>(e,("":Str),AP)) (λ_ _=>(e,("":Str),AP)) (λ_ _ _=>(e,("":Str),AP)) (λ_ _ _ _=>(e,("":Str),AP))
noncomputable def BI(e:Expr):Str:=Expr.casesOn (motive_1:=λ_=>Str) e (λ_ _ _=>("":Str)) (λ_ _ _=>("":Str)) (λ_ _ _ _=>("":Str)) (λ_ _ _=>("":Str)) (λ_ _ _ _=>("":Str)) (λ_ _ _ _=>("":Str)) (λ_ _ _=>("":Str)) (λ_ _ _=>("":Str)) (λ_ _ _ _=>("":Str)) (λ_ _ _ _=>("":Str)) (λ_ _ _ _ _=>("":Str)) (λ_ _ _ _=>("":Str)) (λ_ _=>("":Str)) (λ_ _=>("":Str)) (λ_ _=>("":Str)) (λ_ _ _ _=>("":Str)) (λ_ _ _ _=>("":Str)) (λ_ _ _ _=>("":Str)) (λ_ _=>("":Str)) (λ_ _ _=>("":Str)) (λ_ _ _=>("":Str)) (λ_ _ _=>("":Str)) (λ_ _=>("":Str)) (λx _=>x) (λ_ _=>("":Str)) (λ_ _ _=>("":Str)) (λ_ _ _ _=>("":Str))
noncomputable def JV(e:Expr):Option Expr×Option Expr×Option Expr:=Expr.casesOn (motive_1:=λ_=>Option Expr×Option Expr×Option Expr) e (λ_ _ _=>(none,none,none)) (λ_ _ _=>(none,none,none)) (λ_ _ _ _=>(none,none,none)) (λ_ _ _=>(none,none,none)) (λ_ _ _ _=>(none,none,none)) (λ_ _ _ _=>(none,none,none)) (λ_ _ _=>(none,none,none)) (λ_ _ _=>(none,none,none)) (λ_ _ _ _=>(none,none,none)) (λ_ _ _ _=>(none,none,none)) (λ_ _ _ _ _=>(none,none,none)) (λ_ _ _ _=>(none,none,none)) (λ_ _=>(none,none,none)) (λ_ _=>(none,none,none)) (λ_ _=>(none,none,none)) (λ_ _ _ _=>(none,none,none)) (λ_ _ _ _=>(none,none,none)) (λ_ _ _ _=>(none,none,none)) (λ_ _=>(none,none,none)) (λ_ _ _=>(none,none,none)) (λ_ _ _=>(none,none,none)) (λ_ _ _=>(none,none,none)) (λ_ _=>(none,none,none)) (λ_ _=>(none,none,none)) (λ_ _=>(none,none,none)) (λ_ _ _=>(none,none,none)) (λa b c _=>(a,b,c))
def AY(e:Expr):Expr×List Expr×List bL8×Pos:=Expr.casesOn (motive_1:=λ_=>Expr×List Expr×List bL8×Pos) e (λ_ _ _=>(e,[],[],AP)) (λ_ _ _=>(e,[],[],AP)) (λ_ _ _ _=>(e,[],[],AP)) (λ_ _ _=>(e,[],[],AP)) (λ_ _ _ _=>(e,[],[],AP)) (λ_ _ _ _=>(e,[],[],AP)) (λ_ _ _=>(e,[],[],AP)) (λ_ _ _=>(e,[],[],AP)) (λ_ _ _ _=>(e,[],[],AP)) (λ_ _ _ _=>(e,[],[],AP)) (λ_ _ _ _ _=>(e,[],[],AP)) (λ_ _ _ _=>(e,[],[],AP)) (λ_ _=>(e,[],[],AP)) (λ_ _=>(e,[],[],AP)) (λ_ _=>(e,[],[],AP)) (λ_ _ _ _=>(e,[],[],AP)) (λg as ks p=>(g,as,ks,p)) (λ_ _ _ _=>(e,[],[],AP)) (λ_ _=>(e,[],[],AP)) (λ_ _ _=>(e,[],[],AP)) (λ_ _ _=>(e,[],[],AP)) (λ_ _ _=>(e,[],[],AP)) (λ_ _=>(e,[],[],AP)) (λ_ _=>(e,[],[],AP)) (λ_ _=>(e,[],[],AP)) (λ_ _ _=>(e,[],[],AP)) (λ_ _ _ _=>(e,[],[],AP))
def FJ(e:Expr):Bool:=!ix e 16
def JN(c:Const):Option AV:=Const.casesOn (motive:=λ_=>Option AV) c (some .none) (λb=>some (.bool b)) (λi=>some (.int i)) (λ_=>none) (λ_ _=>none) (λx=>some (.str x)) (λ_=>none) none
noncomputable def At(x:Str):Bool:=!(x==("__debug__":Str)) && !(x==("__classdict__":Str))
def Hl(P:Pm)(sc:Scope)(x:Str)(σ:St)(Q:AV->St->Prop):Prop:=Ap (sc.names.lookup x) λk=>
 bK3 (Ap (σ.ρ.lookup x) λv=>Q v σ) (Ap (σ.ρ.lookup x) λv=>Q v σ) (Ap (σ.ρ.lookup x) λv=>Q v σ) False (Ap (P.gl x) λv=>Q v σ) k
def EB(sc:Scope)(x:Str):Bool:=(sc.names.lookup x).any λk=>bK3 true true false false false k
def Ml(E:WE)(es:List Expr):St->(List AV->St->Prop)->Prop:=aB7 (λσ Q=>Q [] σ) (λe _ ih σ Q=>E e σ λv σ=>ih σ λvs σ=>Q (v::vs) σ) es
def wO(E:WE)(o:Option Expr)(σ:St)(Q:AV->St->Prop):Prop:=aD9 (Q .none σ) (λe=>E e σ Q) o
def BX(b:Bool)(A B:Prop):Prop:=aI6 B A b
def jK(B:Ń)(op:BoolOp)(es:List Expr):St->(Bool->St->Prop)->Prop:=
 BoolOp.rec (aB7 (λσ Q=>Q true σ) (λe _ ih σ Q=>B e σ λb σ=>BX b (ih σ Q) (Q false σ)) es) (aB7 (λσ Q=>Q false σ) (λe _ ih σ Q=>B e σ λb σ=>BX b (Q true σ) (ih σ Q)) es) op
def jR(A:ř)(ts:List Expr):List AV->St->(St->Prop)->Prop:=aB7 (λvs σ Q=>nil vs (Q σ)) (λt _ ih vs σ Q=>BH vs λv vs=>A t v σ λσ=>ih vs σ Q) ts
def ST(P:Pm)(sc:Scope)(i:Expr):Option Ų:=bif ix i 16&&ix (AY i).1 23&&EZ (AY i).2.2.1&&CD (AY i).2.1&&At (BI (AY i).1)then(sc.names.lookup (BI (AY i).1)).bind λk=>bif aE0 k.ctorIdx 4 then(P.gl (BI (AY i).1)).bind Jo else none else none
def Y6(W:ń)(i:Expr)(σ:St)(K:List AV->St->Prop):Prop:=W.E i σ λv σ=>Ap (KD v) λvs=>AC nn vs=some vs/\K vs σ
def JL(i:Expr):Bool:=ix i 16&&EZ (AY i).2.1&&EZ (AY i).2.2.1&&ix (AY i).1 20&&(CW (AY i).1).2.1==("items":Str)&&FJ (CW (AY i).1).1&&aE0 (CW (AY i).1).2.2.endLine (AY i).2.2.2.line
def JW(W:ń)(t o:Expr)(σ:St)(K:List AV->St->Prop):Prop:=W.E o σ λv σ=>Ap (RN v) λes=>(DU t=true/\AW nn es=some es)/\K (Da es) σ
def G5(P:Pm)(sc:Scope)(W:ń)(t i:Expr)(σ:St)(K:List AV->St->Prop):Prop:=aD9 (aI6 (Y6 W i σ K) (JW W t (CW (AY i).1).1 σ K) (JL i))
 (λb=>aI6 (aI6 (Y6 W i σ K) (Ml W.E (AY i).2.1 σ λvs σ=>Ij t vs σ K) (aE0 b.ctorIdx 3)) (Ml W.E (AY i).2.1 σ λvs σ=>MN vs σ K) (aE0 b.ctorIdx 1)) (ST P sc i)
noncomputable def Bw(cs sc:Scope):Scope:={cs with names:=cs.names.map λ(n,k)=>if(k == .free&&sc.kind == .function&&sc.names.lookup n==some .cell)then(n,.cell)else(n,k)}
def Ay(cs:Scope):List Str:=aB7 [] (λp _ ih=>bif aE0 p.2.ctorIdx 2 then p.1::ih else ih) cs.names
def pick(ρ:List (Str×AV))(xs:List Str):List (Str×AV):=aB7 [] (λx _ ih=>aD9 ih (λv=>(x,v)::ih) (ρ.lookup x)) xs
def E6(τ σ:St)(xs:List Str):Prop:=aB7 True (λx _ ih=>τ.ρ.lookup x=σ.ρ.lookup x/\ih) xs
noncomputable def isK(o:Option aP4)(n:Nat):Bool:=o.any λk=>aE0 k.ctorIdx n
def JP(sc cs:Scope)(ps:List (Str×aP4)):Bool:=aB7 true (λp _ ih=>bK3 (isK (cs.names.lookup p.1) 0) false (isK (cs.names.lookup p.1) 2&&(isK (sc.names.lookup p.1) 1||isK (sc.names.lookup p.1) 2)) true true p.2&&ih) ps
def Jc(sc cs:Scope)(g:aF5):Bool:=cs.kind == .function&&JP sc cs cs.names && !ix g.iter 7&&g.is_async==0
def Vc(B:Ń)(ifs:List Expr)(σ:St)(K:Bool->St->Prop):Prop:=aB7 (K true σ) (λe r _=>aB7 (B e σ K) (λ_ _ _=>False) r) ifs
def ET(W:ń)(g:aF5)(rest:St->(St->Prop)->Prop)(v:AV)(τ:St)(K:St->Prop):Prop:=W.A g.target v τ λτ=>Vc W.B g.ifs τ λb τ=>BX b (rest τ K) (K τ)
def XN(P:Pm)(cs:Scope)(W:ń)(g:aF5)(em:St->(St->Prop)->Prop)(τ:St)(K:St->Prop):Prop:=D1 (!ix g.iter 7&&g.is_async==0)
 (G5 P cs W g.target g.iter τ λitems τ=>∃J:Nat->St->Prop,J 0 τ/\(∀k v τ,items[k]?=some v->J k τ->ET W g em v τ (J (k+1)))/\∀τ,J items.length τ->K τ)
def Rx(P:Pm)(cs:Scope)(W:ń)(em:St->(St->Prop)->Prop)(gs:List aF5):St->(St->Prop)->Prop:=aB7 em (λg r _=>aB7 (XN P cs W g em) (λ_ _ _ _ _=>False) r) gs
def BF(o:Ÿ)(items:List AV)(tn:AV->St->(St->Prop)->Prop)(xs:List Str)(σ:St)(Q:AV->St->Prop):Prop:=
 ∃J:Nat->St->Prop,J 0 ⟨pick σ.ρ xs,(σ.new o).H,σ.n+1,σ.anc⟩/\(∀k v τ,items[k]?=some v->J k τ->tn v τ (J (k+1)))/\
  ∀τ,J items.length τ->E6 τ σ xs/\Q (.ref σ.n) ⟨σ.ρ,τ.H,τ.n,τ.anc⟩
def Pf(P:Pm)(Wc:Scope->ń)(sc:Scope)(o:Ÿ)(em:ń->Nat->St->(St->Prop)->Prop)(gens:List aF5)(cs:Scope)(σ:St)(Q:AV->St->Prop):Prop:=aB7 False (λg r _=>D1 (Jc sc cs g)
 (G5 P sc (Wc sc) g.target g.iter σ λitems σ=>BF o items (ET (Wc (Bw cs sc)) g (Rx P (Bw cs sc) (Wc (Bw cs sc)) (em (Wc (Bw cs sc)) σ.n) r)) (Ay cs) σ Q)) gens
def aW(elt:Expr)(W:ń)(n:Nat)(τ:St)(K:St->Prop):Prop:=W.E elt τ λu τ=>An .append [.ref n,u] τ λ_ τ=>K τ
def Vm(ø vx:Expr)(W:ń)(n:Nat)(τ:St)(K:St->Prop):Prop:=W.E ø τ λa τ=>W.E vx τ λv τ=>Ir τ (.ref n) λx es=>Ap (B7 a) λk=>K (τ.set x (.dict (dset es k v)))
def j4(P:Pm)(Wc:Scope->ń)(sc:Scope)(elt:Expr)(gens:List aF5)(cs:Scope)(σ:St)(Q:AV->St->Prop):Prop:=D1 (aE0 gens.length 1) (Pf P Wc sc (.list []) (aW elt) gens cs σ Q)
def jX(P:Pm)(Wc:Scope->ń)(sc:Scope)(ø vx:Expr)(gens:List aF5)(cs:Scope)(σ:St)(Q:AV->St->Prop):Prop:=D1 (aE0 gens.length 1) (Pf P Wc sc (.dict []) (Vm ø vx) gens cs σ Q)
def g5(g:Expr)(as:List Expr):Bool:=BI g==("list":Str)&&as.any λa=>BI (AY a).1==("map":Str)
def bP(P:Pm)(sc:Scope)(g:Expr)(as:List Expr)(σ:St)(Q:AV->St->Prop):Prop:=∃f1 p1 f2 ŝ c p3 p4 x p5 p6,(g = .Name f1 p1/\as=[.Call (.Name f2 ŝ) [.Attribute (.Name c p3) ("_make":Str) p4,.Name x p5] [] p6])/\
 (At f1&&At f2&&At c&&At x&&P.mak)=true/\(sc.names.lookup f1=some .globalImplicit/\sc.names.lookup f2=some .globalImplicit/\sc.names.lookup c=some .globalImplicit)/\(P.gl f1=some (.fn .list)/\P.gl f2=some (.fn .map)/\P.gl c=some (.glo P.C))/\
 Hl P sc x σ λv σ=>∃vss,B6 σ v=some (vss.map .tup)/\HZ vss/\vss.length<=1000000/\Q (.lst (Ex vss)) σ
def M5(as:List Expr):Bool:=CD as&&bH9 as.length 29
def Ra(P:Pm)(W:ń)(q:Expr×Str×Pos)(as:List Expr)(p:Pos)(σ:St)(Q:AV->St->Prop):Prop:=
 D1 (FJ q.1&&aE0 q.2.2.endLine p.line) (W.E q.1 σ λv σ=>Ap (Qn P.K v q.2.1 σ) λg=>Ml W.E as σ λvs σ=>Do P g.1 (bif g.2 then v::vs else vs) σ Q)
def MH(P:Pm)(sc:Scope)(W:ń)(g:Expr)(as:List Expr)(σ:St)(Q:AV->St->Prop):Prop:=
 aI6 (W.E g σ λv σ=>Ml W.E as σ λvs σ=>Do P v vs σ Q) (bP P sc g as σ Q) (g5 g as)
def WP(P:Pm)(sc:Scope)(W:ń)(g:Expr)(as:List Expr)(ks:List bL8)(p:Pos)(σ:St)(Q:AV->St->Prop):Prop:=
 D1 (EZ ks&&M5 as) (aI6 (MH P sc W g as σ Q) (Ra P W (CW g) as p σ Q) (ix g 20))
def ZA(W:ń)(o i:Expr)(σ:St)(Q:AV->St->Prop):Prop:=W.E o σ λv σ=>
 aI6 (W.E i σ λk σ=>FY v k σ Q) (wO W.E (JV i).1 σ λa σ=>wO W.E (JV i).2.1 σ λb σ=>wO W.E (JV i).2.2 σ λc σ=>PH v a b c σ Q) (ix i 26)
def Fj(W:ń)(l:Expr)(ops:List aZ5)(rs:List Expr)(σ:St)(Q:AV->St->Prop):Prop:=Ap (A9 ops) λop=>Ap (A9 rs) λr=>
 D1 (!behindInMarks op r) (W.E l σ λa σ=>W.E r σ λb σ=>FA op a b σ Q)
def two{α:Type}(l:List α):Option (α×α):=aB7 none (λa r _=>(A9 r).map λb=>(a,b)) l
def Qe{α:Type}{l:List α}{q:α×α}{P:List α->Prop}(e:two l=some q)(f:P [q.1,q.2]):P l:=by
 cases l with
 | nil=>exact AA e
 | cons a r=>
  obtain⟨b,e1,rfl⟩:=AH e
  exact IB (P:=λr=>P (a::r)) e1 f
def Sl(W:ń)(l:Expr)(ops:List aZ5)(rs:List Expr)(σ:St)(Q:Bool->St->Prop):Prop:=Ap (two ops) λo=>Ap (two rs) λr=>
 D1 (!PySem.lastMarks [o.1,o.2] [r.1,r.2]) (W.E l σ λa σ=>W.E r.1 σ λb σ=>FA o.1 a b σ λv σ=>Ce v σ λt σ=>BX t (W.E r.2 σ λc σ=>FA o.2 b c σ λv σ=>Ce v σ Q) (Q false σ))
def Rw(W:ń)(l:Expr)(ops:List aZ5)(rs:List Expr)(σ:St)(Q:Bool->St->Prop):Prop:=aI6 (Fj W l ops rs σ λv σ=>Ce v σ Q) (Sl W l ops rs σ Q) (aE0 ops.length 2)
def Ni(op:bH8):Bool:=bH8.rec false true false false op
def uT(W:ń)(op:bH8)(x:Expr)(σ:St)(Q:AV->St->Prop):Prop:=W.E x σ λa σ=>aI6 (gG op a σ Q) (Ce a σ λb σ=>Q (.bool (!b)) σ) (Ni op)
def Uf(W:ń)(es:List Expr)(σ:St)(K:List AV->St->Prop):Prop:=D1 (CD es&&bH9 es.length 1000000) (Ml W.E es σ K)
def Qt(P:Pm)(sc:Scope)(Wc:Scope->ń)(W:ń):WE:=λe σ Q=>Expr.casesOn (motive_1:=λ_=>Prop) e (λ_ _ _=>False) (λ_ _ _=>False) (λl op r _=>W.E l σ λa σ=>W.E r σ λb σ=>ED op a b σ Q) (λop x _=>uT W op x σ Q) (λ_ _ _ _=>False) (λt b o _=>W.B t σ λc σ=>BX c (W.E b σ Q) (W.E o σ Q)) (λks vs _=>D1 (EZ ks&&EZ vs) (Q (.ref σ.n) (σ.new (.dict [])))) (λ_ _ _=>False) (λelt gens cs _=>j4 P Wc sc elt gens cs σ Q) (λ_ _ _ _=>False) (λø vx gens cs _=>jX P Wc sc ø vx gens cs σ Q) (λ_ _ _ _=>False) (λ_ _=>False) (λ_ _=>False) (λ_ _=>False) (λl ops rs _=>Fj W l ops rs σ Q) (λg as ks p=>WP P sc W g as ks p σ Q) (λ_ _ _ _=>False) (λ_ _=>False) (λc _ _=>Ap (JN c) λv=>Q v σ) (λo a _=>D1 (FJ o) (W.E o σ λv σ=>Xw P.K v a σ Q)) (λo i _=>ZA W o i σ Q) (λ_ _=>False) (λx _=>D1 (At x) (Hl P sc x σ Q)) (λes p=>Uf W es σ λvs σ=>aI6 (Q (.ref σ.n) (σ.new (.list vs))) (Q (.lst vs) σ) (P.frz p)) (λes _ _=>Uf W es σ λvs σ=>Q (.tup vs) σ) (λ_ _ _ _=>False)
def RB(W:ń):Ń:=λe σ Q=>Expr.casesOn (motive_1:=λ_=>Prop) e (λop vs _=>jK W.B op vs σ Q) (λ_ _ _=>False) (λ_ _ _ _=>False) (λop x _=>D1 (Ni op) (W.B x σ λb σ=>Q (!b) σ)) (λ_ _ _ _=>False) (λ_ _ _ _=>False) (λ_ _ _=>False) (λ_ _ _=>False) (λ_ _ _ _=>False) (λ_ _ _ _=>False) (λ_ _ _ _ _=>False) (λ_ _ _ _=>False) (λ_ _=>False) (λ_ _=>False) (λ_ _=>False) (λl ops rs _=>Rw W l ops rs σ Q) (λg as ks p=>W.E (.Call g as ks p) σ λv σ=>Ce v σ Q) (λ_ _ _ _=>False) (λ_ _=>False) (λc k p=>W.E (.Constant c k p) σ λv σ=>Ce v σ Q) (λo a p=>W.E (.Attribute o a p) σ λv σ=>Ce v σ Q) (λ_ _ _=>False) (λ_ _=>False) (λx p=>W.E (.Name x p) σ λv σ=>Ce v σ Q) (λ_ _=>False) (λ_ _ _=>False) (λ_ _ _ _=>False)
def SN(P:Pm)(sc:Scope)(W:ń):ř:=λt v σ Q=>Expr.casesOn (motive_1:=λ_=>Prop) t (λ_ _ _=>False) (λ_ _ _=>False) (λ_ _ _ _=>False) (λ_ _ _=>False) (λ_ _ _ _=>False) (λ_ _ _ _=>False) (λ_ _ _=>False) (λ_ _ _=>False) (λ_ _ _ _=>False) (λ_ _ _ _=>False) (λ_ _ _ _ _=>False) (λ_ _ _ _=>False) (λ_ _=>False) (λ_ _=>False) (λ_ _=>False) (λ_ _ _ _=>False) (λ_ _ _ _=>False) (λ_ _ _ _=>False) (λ_ _=>False) (λ_ _ _=>False) (λo a _=>W.E o σ λw σ=>bL P.K w a v σ Q) (λo i _=>W.E o σ λw σ=>W.E i σ λk σ=>cG w k v σ Q) (λ_ _=>False) (λx _=>D1 (EB sc x) (Q (σ.put x v))) (λ_ _=>False) (λes _ _=>D1 (CD es) (Oz v es.length σ λvs σ=>jR W.A es vs σ Q)) (λ_ _ _ _=>False)
noncomputable def Md(P:Pm)(f:Nat):Scope->ń:=aR2 (λ_=>⟨λ_ _ _=>False,λ_ _ _=>False,λ_ _ _ _=>False⟩) (λ_ W sc=>⟨Qt P sc W (W sc),RB (W sc),SN P sc (W sc)⟩) f
def ws(P:Pm)(sc:Scope)(f:Nat):ń:=Md P f sc
def EO{b:Bool}(h:(!b)=true):b=false:=Eq.mp (bD8 b) h
def J3{x:Str}(h:At x=true):(x==("__debug__":Str))=false:=EO (AQ h).1
def VM{x:Str}(h:At x=true):(x==("__classdict__":Str))=false:=EO (AQ h).2
noncomputable def Ak(es:List Expr)(env:Env):List (Bool×Sem Value):=es.map λe=>(false,eval e env)
def Ik{e:Expr}{r:List Expr}(h:CD (e::r)=true):ix e 22=false/\CD r=true:=by
 have h:aI6 (CD r) false (ix e 22)=true:=h
 cases hx:ix e 22 with
 | false=>rw[hx]at h;exact⟨rfl,h⟩
 | true=>rw[hx]at h;cases h
def CB(env:Env)(es:List Expr):CD es=true->starEach es env=Ak es env:=
 aB7 (motive:=λes=>CD es=true->starEach es env=Ak es env) (λ_=>rfl) (λe r ih h=>by
  obtain⟨h1,h2⟩:=Ik h
  refine Eq.trans ?_ (bO1 (bN9 _) (ih h2))
  clear ih h h2
  cases e<;>first | rfl | cases h1) es
def Dx(env:Env)(es:List Expr):CD es=true->assignEach es env=es.map λe=>(false,assign e env):=
 aB7 (motive:=λes=>CD es=true->assignEach es env=es.map λe=>(false,assign e env)) (λ_=>rfl) (λe r ih h=>by
  obtain⟨h1,h2⟩:=Ik h
  refine Eq.trans ?_ (bO1 (bN9 _) (ih h2))
  clear ih h h2
  cases e<;>first | rfl | cases h1) es
def C5(pos:Pos)(es:List Expr)(env:Env):backTo pos (Ak es env)=Ak es env:=(aG4 ..).trans rfl
def OH(es:List Expr)(env:Env):(Ak es env).any (·.1)=false:=aB7 rfl (λ_ _ ih=>ih) es
section
variable{X:Ω}{s:aA8}
def JF{α:Type}{p:Prop} [Decidable p] {a b:α} {P:α->Prop} (x:P a) (y:P b):P (if p then a else b):=by
 by_cases h:p
 ·rw[bO2 h];exact x
 ·rw[bO3 h];exact y
def ĭ.fin{t:Sem Value}{Q:Value->aA8->Prop}(h:ĭ X t Q s):ĭ X (t >>= λr=>aW1 [r] point >>= λ_=>Pure.pure r) Q s:=ĭ.bind (h.mono λr s₂ h₂=>ĭ.bind (ĭ.hold (wpAny_point (aA7 h₂))))
def FG{pos:Pos}{f:Value}{first:List Value}{es:List Expr}{env:Env}{Q:Value->aA8->Prop}
  (h:ĭ X (spliced (Ak es env)) (λvs s₁=>FV X f s₁/\ĭ X (call f (first++vs) []) Q s₁) s) :
  ĭ X (callWith pos f first (Ak es env) []) Q s:=by
 unfold callWith
 have e :∀f,evalArgs f true (Ak es env) []=(do let vs<-spliced (Ak es env);aW1 (vs++[]) (do return ⟨vs,[]⟩)):=by
  intro f
  unfold evalArgs
  cases es with
  | nil=>rfl
  | cons x r=>
   cases r with
   | nil=>rfl
   | cons y r=>rfl
 rw[e]
 refine ĭ.bind (ĭ.hold (ĭ.bind (h.mono λvs s₁ h₁=>?_)))
 refine ĭ.hold (ĭ.pure (ĭ.bind (aL8 ?_)))
 have hs:((Ak es env).any (·.1)||([]:List (Option Str×Sem Value)).any (·.1.isNone))=false:=(bO1 (· || false) (OH es env)).trans rfl
 rw[hs]
 refine ĭ.bind (h₁.1 _ _ λk=>?_)
 cases k with
 | frame=>exact JF (P:=λt=>ĭ X t Q s₁) (ĭ.fin h₁.2) (ĭ.fin (wpAny_keep h₁.2))
 | boundFrame=>exact JF (P:=λt=>ĭ X t Q s₁) (ĭ.fin h₁.2) (ĭ.fin (wpAny_keep h₁.2))
 | machine=>exact ĭ.fin h₁.2
 | caller=>exact ĭ.fin (wpAny_operating h₁.2)
end
def CG{o:Expr}{env:Env}(h:FJ o=true)(a:Str)(Ď:Sem Value):attributeBase o a env Ď=Ď:=by
 cases o with
 | Call g as ks p=>cases h
 | _=>rfl
section
variable{X:Ω}{P:Pm}{d:Nat}{fN st fM ţ fI:aC3}{sc:Scope}(F:IX X P d fN st fM ţ fI sc)
include F
theorem EA(x:Str):X.env.kindOf x=sc.names.lookup x:=bO1 (λs:Scope=>s.names.lookup x) F.hsc
theorem FP:X.env.scope.kind = .function:=F.hsc▸F.fun_
theorem MP{x:Str}{v:AV}{c:Ŋ}{Q:Value->aA8->Prop}(e:P.gl x=some v)(hx:X.env.kindOf x=some .globalImplicit)(R:Ł X c)(hq :∀u,LN v=some u->Q u c.s):ĭ X (loadName X.env x) Q c.s:=by
 obtain⟨u,e',hc⟩:=F.w.glob x v e
 rw[loadName_read (FP F) hx]
 exact hc.elim (λh=>h.elim λmg h=>loadGlobal_global (F.glb▸h.1.keeps R.base) h.2 (hq u e')) λh=>h.elim λmg h=>h.elim λmb h=>loadGlobal_builtin (F.glb▸h.1.keeps R.base) h.2.1 (F.bui▸h.2.2.1.keeps R.base) h.2.2.2 (hq u e')
theorem Vo{x:Str}{v:AV}{c:Ŋ}{P:Prop}(R:Ł X c)(e:c.σ.ρ.lookup x=some v)(hc:X.env.kindOf x=some .cell\/X.env.kindOf x=some .free)(f :∀a u,X.env.cells.lookup x=some a->c.s.heap.IsCell a (some u)->Ξ X c v u->P):P:=by
 cases ha:X.env.cells.lookup x with
 | none=>exact(R.celAll x hc ha).elim
 | some a=>exact(R.cel x a ha).casesOn λu hu r=>(r v e λz=>hc.elim (λq=>nomatch q.symm.trans z) λq=>nomatch q.symm.trans z).elim λu' q=>f a u' ha (q.1▸hu) q.2
theorem Ih{x:Str}{σ:St}{Q:AV->St->Prop}(hp:At x=true)(h:Hl P sc x σ Q):ŧ X (loadName X.env x) σ Q:=λG s R=>by
 have hko:=EA F x
 refine AE h λk e h=>?_
 rw[e]at hko
 cases k with
 | «local»=>exact AE h λv e h=>R.loc.casesOn λm hm r=>(r x v e hko).elim λu q=>wpAny_loadName_local (FP F) hko hm q.1 (A8.here (c:=⟨G,σ,s⟩) R q.2 h)
 | cell=>exact AE h λv e h=>Vo F R e (.inl hko) λa u e1 e2 e3=>wpAny_loadName_cell (FP F) hko e1 e2 (A8.here (c:=⟨G,σ,s⟩) R e3 h)
 | free=>exact AE h λv e h=>Vo F R e (.inr hko) λa u e1 e2 e3=>wpAny_loadName_free (FP F) hko e1 e2 (A8.here (c:=⟨G,σ,s⟩) R e3 h) (VM hp)
 | globalExplicit=>exact h.elim
 | globalImplicit=>exact AE h λv e h=>MP F e hko R λu e=>A8.here (c:=⟨G,σ,s⟩) R (VC e) h
theorem KN{x:Str}{p:Pos}{σ:St}{Q:AV->St->Prop}(hp:At x=true)(h:Hl P sc x σ Q):ŧ X (eval (.Name x p) X.env) σ Q:=λG s R=>bM7 (Ih F hp h G s R) (J3 hp)
theorem JX{x:Str}{av:AV}{v:Value}{c:Ŋ}{Q:St->Prop}(hx:EB sc x=true)(R:Ł X c)(hv:Ξ X c av v)(h:Q (c.σ.put x av)):GD X c Q (storeName X.env x v):=by
 have hko:=EA F x
 unfold EB at hx
 cases e:sc.names.lookup x with
 | none=>rw[e]at hx;cases hx
 | some k=>
  rw[e]at hko hx
  cases k with
  | «local»=>exact R.loc.casesOn λm hm r=>wpAny_storeName_local hko hm (λh' hn hb=>.to (c':=c.hp (c.σ.put x av) h' (c.s.toks+1)) (b:=()) (R.storeLocal (t:=c.s.toks+1) hko hv r hn hb) trivial h) ((FP F).symm▸rfl)
  | cell=>
   cases hc:X.env.cells.lookup x with
   | none=>exact(R.celAll x (.inl hko) hc).elim
   | some a=>exact(R.cel x a hc).casesOn λu hu r=>wpAny_storeName_cell (FP F) hko hc hu λh' hn hb=>.to (c':=c.hp (c.σ.put x av) h' c.s.toks) (b:=()) (R.storeCell (t:=c.s.toks) (λz=>nomatch hko.symm.trans z) hc hv hn hb) trivial h
  | _=>cases hx
end
structure LS(X:Ω)(W:ń):Prop where
 E :∀e σ Q,W.E e σ Q->ŧ X (eval e X.env) σ Q
 B :∀e σ Q,W.B e σ Q->í X (isTrue e X.env (eval e X.env)) σ Q
 A :∀t v c Q,W.A t v c.σ Q->∀{u},Ł X c->Ξ X c v u->GD X c Q (assign t X.env u)
 U :∀elt gens cs p u σ Q Q',W.E (.ListComp elt gens cs p) σ Q->(∀c a v,Ł X c->Ξ X c a v->Q a c.σ->GD X c Q' (u v))->∀G s,Ł X ⟨G,σ,s⟩->GD X ⟨G,σ,s⟩ Q' (bA9 (.ListComp elt gens cs p) X.env u)
 V :∀ø vx gens cs p u σ Q Q',W.E (.DictComp ø vx gens cs p) σ Q->(∀c a v,Ł X c->Ξ X c a v->Q a c.σ->GD X c Q' (u v))->∀G s,Ł X ⟨G,σ,s⟩->GD X ⟨G,σ,s⟩ Q' (bA9 (.DictComp ø vx gens cs p) X.env u)
def PT(l u t:Option Expr)(p:Pos)(env:Env):eval (.Slice l u t p) env=(do
  let l<-valueOrNone (evalOpt l env)
  let u<-aW1 [l] (valueOrNone (evalOpt u env))
  let s<-aW1 [l,u] (valueOrNone (evalOpt t env))
  newFields "slice" [l,u,s]):=rfl
def KC{op:bH8}(h:Ni op=true):op = .Not:=by
 cases op<;>first | rfl | cases h
section
variable{X:Ω}{W:ń}(S:LS X W)
include S
theorem Ip(es:List Expr) :∀{σ:St} {Q:List AV->St->Prop},Ml W.E es σ Q->TL X (spliced (Ak es X.env)) σ λvs σ=>vs.length=es.length/\Q vs σ:=
 aB7 (motive:=λes=>∀{σ:St} {Q:List AV->St->Prop},Ml W.E es σ Q->TL X (spliced (Ak es X.env)) σ λvs σ=>vs.length=es.length/\Q vs σ) (λ{σ Q} h G s R=>aA7 (A8.here (c:=⟨G,σ,s⟩) (b:=([]:List AV)) R rfl ⟨rfl,h⟩))
  (λe r ih σ Q h G s R=>by
   show ĭ X (do
    let v<-eval e X.env
    let here<-pure [v]
    return here++(<-aW1 here (spliced (Ak r X.env)))) _ _
   exact ĭ.bind ((S.E e σ _ h).go (c:=⟨G,σ,s⟩) R λv c₁ vv h₁ x₁ r₁=>ĭ.bind (ĭ.pure (ĭ.bind (ĭ.hold ((ih h₁).go x₁.R λvs c₂ vvs h₂ x₂ r₂=>ĭ.pure (.to (b:=v::vs) (x₁.trans x₂) ⟨vv,vvs,rfl,x₂.pre.v r₁,r₂⟩ ⟨bO1 aT3 h₂.1,h₂.2⟩))))))) es
theorem W6(o:Option Expr){σ:St}{Q:AV->St->Prop}(h:wO W.E o σ Q):ŧ X (valueOrNone (evalOpt o X.env)) σ Q:=by
 cases o with
 | none=>exact λG s R=>aA7 (A8.here (c:=⟨G,σ,s⟩) (b:=AV.none) R rfl h)
 | some e=>exact S.E e σ Q h
theorem aP{op:BoolOp}(es:List Expr) :∀{σ:St} {Q:Bool->St->Prop},jK W.B op es σ Q->í X (allTrue op es X.env) σ Q:=by
 cases op with
 | And=>
  exact aB7 (motive:=λes=>∀{σ:St} {Q:Bool->St->Prop},jK W.B .And es σ Q->í X (allTrue .And es X.env) σ Q) (λ{σ Q} h G s R=>aA7 (A8.here (c:=⟨G,σ,s⟩) (b:=true) R rfl h))
   (λe r ih σ Q h G s R=>wpAny_allTrue_And_cons ((S.B e σ _ h).go (c:=⟨G,σ,s⟩) R λb c₁ vb h₁ x₁ r₁=>by
    cases r₁
    cases b with
    | true=>exact A8.up (ih h₁ _ _ x₁.R) x₁
    | false=>exact .to (b:=false) x₁ rfl h₁)) es
 | Or=>
  exact aB7 (motive:=λes=>∀{σ:St} {Q:Bool->St->Prop},jK W.B .Or es σ Q->í X (allTrue .Or es X.env) σ Q) (λ{σ Q} h G s R=>aA7 (A8.here (c:=⟨G,σ,s⟩) (b:=false) R rfl h))
   (λe r ih σ Q h G s R=>wpAny_allTrue_Or_cons ((S.B e σ _ h).go (c:=⟨G,σ,s⟩) R λb c₁ vb h₁ x₁ r₁=>by
    cases r₁
    cases b with
    | true=>exact .to (b:=true) x₁ rfl h₁
    | false=>exact A8.up (ih h₁ _ _ x₁.R) x₁)) es
theorem gE{ts:List Expr} :∀{vs:List AV} {c:Ŋ} {Q:St->Prop} {us:List Value},jR W.A ts vs c.σ Q->Ł X c->į X c vs us->GD X c Q (aN8 (ts.map λt=>assign t X.env) us):=
 aB7 (motive:=λts=>∀{vs:List AV} {c:Ŋ} {Q:St->Prop} {us:List Value},jR W.A ts vs c.σ Q->Ł X c->į X c vs us->GD X c Q (aN8 (ts.map λt=>assign t X.env) us)) (λ{vs c Q us} h R q=>Ba (P:=λus=>GD X c Q (aN8 [] us)) h q λh=>ĭ.pure (A8.here (b:=()) R trivial h))
  (λt ts ih vs c Q us h R q=>A7 (P:=λus=>GD X c Q (aN8 ((t::ts).map λt=>assign t X.env) us)) h q λa r v vr r1 ś h=>by
   show ĭ X (do aW1 vr (assign t X.env v);aN8 (ts.map λt=>assign t X.env) vr) _ _
   exact ĭ.bind (ĭ.hold (ĭ.mono (S.A t a c _ h R r1) λ_ s₁ q=>q.casesOn λG₁ σ₁ _ x₁ _ q₁=>A8.up (ih (c:=⟨G₁,σ₁,s₁⟩) q₁ x₁.R (x₁.pre.va ś)) x₁))) ts
end
def Hx{n:Nat}(h:bH9 n 1000000=true):AF n:=aP7 h
def MF{i:Expr}(h:ix i 26=false) :∀o k,subscripted i false o k=operate [o,k] (getItem o k):=by
 cases i with
 | Slice=>cases h
 | _=>exact λ_ _=>rfl
def FB{g:Expr}(h:ix g 20=false)(es:List Expr)(p:Pos)(env:Env):eval (.Call g es [] p) env=(do callWith p (<-eval g env) [] (backTo p (starEach es env)) (backToKw p (keywordEach [] env))):=by
 cases g with
 | Attribute=>cases h
 | _=>rfl
section
variable{X:Ω}{P:Pm}{d:Nat}{fN st fM ţ fI:aC3}{sc:Scope}{W:ń}(F:IX X P d fN st fM ţ fI sc)(S:LS X W){σ:St}{Q:AV->St->Prop}
include S
theorem Qs{es:List Expr}{k:Nat}{p:Pos}(h:Uf W es σ λvs σ=>Q (.tup vs) σ):ŧ X (eval (.Tuple es k p) X.env) σ Q:=λG s R=>by
 obtain⟨h1,h⟩:=Ah h
 refine wpAny_Tuple ?_
 rw[CB _ _ (AQ h1).1,C5]
 exact(Ip S es h).go (c:=⟨G,σ,s⟩) R λvs c₁ us h₁ x₁ r₁=>⟨(Hx (AQ h1).2).line (r₁.len.trans h₁.1),(A8.newTup _ 0 x₁.R r₁ h₁.2).lift x₁⟩
theorem UG{es:List Expr}{p:Pos}(h:Uf W es σ λvs σ=>aI6 (Q (.ref σ.n) (σ.new (.list vs))) (Q (.lst vs) σ) (P.frz p)):ŧ X (eval (.List es p) X.env) σ Q:=λG s R=>by
 obtain⟨h1,h⟩:=Ah h
 refine wpAny_List_spliced ?_
 rw[CB _ _ (AQ h1).1,C5]
 refine(Ip S es h).go (c:=⟨G,σ,s⟩) R λvs c₁ us h₁ x₁ r₁=>⟨(Hx (AQ h1).2).line (r₁.len.trans h₁.1),?_⟩
 have h₂:=h₁.2
 cases hz:P.frz p with
 | true=>rw[hz]at h₂;exact(A8.newLst _ 0 x₁.R r₁ h₂).lift x₁
 | false=>rw[hz]at h₂;exact(A8.newList _ 0 x₁.R r₁ h₂).lift x₁
theorem QR{t b o:Expr}{p:Pos}(h:W.B t σ λc σ=>BX c (W.E b σ Q) (W.E o σ Q)):ŧ X (eval (.IfExp t b o p) X.env) σ Q:=λG s R=>
 wpAny_IfExp ((S.B t σ _ h).go (c:=⟨G,σ,s⟩) R λc c₁ vc h₁ x₁ r₁=>by
  cases r₁
  cases c with
  | true=>exact A8.up (S.E b _ _ h₁ _ _ x₁.R) x₁
  | false=>exact A8.up (S.E o _ _ h₁ _ _ x₁.R) x₁)
theorem W2{o i:Expr}{p:Pos}(h:ZA W o i σ Q):ŧ X (eval (.Subscript o i p) X.env) σ Q:=λG s R=>by
 cases hi:ix i 26 with
 | false=>
  exact Subscript_ ((S.E o σ _ h).go (c:=⟨G,σ,s⟩) R λa c₁ va h₁ x₁ r₁=>by
   rw[hi]at h₁
   exact(S.E i _ _ h₁).go x₁.R λb c₂ vb h₂ x₂ r₂=>A8.up (bQ h₂ (MF hi) x₂.R (x₂.pre.v r₁) r₂) (x₁.trans x₂))
 | true=>
  refine Expr.Slice.elim (motive_1:=λi=>ZA W o i σ Q->Ħ X ⟨G,σ,s⟩ Q (eval (.Subscript o i p) X.env)) i (aB8 hi) (λlo up st q h=>?_) h
  show ĭ X _ _ _
  rw[eval_Subscript,PT]
  exact ĭ.bind ((S.E o σ _ h).go (c:=⟨G,σ,s⟩) R λa c₁ va h₁ x₁ r₁=>ĭ.bind (ĭ.hold (ĭ.bind ((W6 S lo h₁).go x₁.R λb c₂ vb h₂ x₂ r₂=>ĭ.bind (ĭ.hold ((W6 S up h₂).go x₂.R λd c₃ vd h₃ x₃ r₃=>ĭ.bind (ĭ.hold ((W6 S st h₃).go x₃.R λe c₄ ve h₄ x₄ r₄=>
   have x24:=x₂.trans (x₃.trans x₄)
   ĭ.mono (gO h₄ x₄.R (x24.pre.v r₁) ((x₃.trans x₄).pre.v r₂) (x₄.pre.v r₃) r₄) λi s₅ h₅=>ĭ.bind (aL8 (A8.up h₅ (x₁.trans x24)))))))))))
include F
theorem L4{l:Expr}{ops:List aZ5}{rs:List Expr}{p:Pos}(h:Fj W l ops rs σ Q):ŧ X (eval (.Compare l ops rs p) X.env) σ Q:=λG s R=>
 AE h λop e1 h=>AE h λr e2 h=>IB (P:=λops=>Ħ X ⟨G,σ,s⟩ Q (eval (.Compare l ops rs p) X.env)) e1 (IB (P:=λrs=>Ħ X ⟨G,σ,s⟩ Q (eval (.Compare l [op] rs p) X.env)) e2
  (wpAny_Compare1 ((S.E l σ _ (Ah h).2).go (c:=⟨G,σ,s⟩) R λa c₁ va h₁ x₁ r₁=>(S.E r _ _ h₁).go x₁.R λb c₂ vb h₂ x₂ r₂=>
   A8.up (Lm (aD5 (aA0 (aF6 (by decide:10<=40) _) (aQ5 (aD0 _ _) 40)) F.A.2.2) h₂ x₂.R (x₂.pre.v r₁) r₂) (x₁.trans x₂)) (EO (Ah h).1)))
theorem bH{op:bH8}{x:Expr}{p:Pos}(h:uT W op x σ Q):ŧ X (eval (.UnaryOp op x p) X.env) σ Q:=λG s R=>
 wpAny_UnaryOp ((S.E x σ _ h).go (c:=⟨G,σ,s⟩) R λa c₁ va h₁ x₁ r₁=>by
  cases hn:Ni op with
  | true=>
   rw[hn]at h₁
   rw[KC hn]
   exact not_of (ĭ.mono (KL h₁ x₁.R r₁) λb s₂ q=>q.casesOn λG₂ σ₂ c y e q=>.to (c':=⟨G₂,σ₂,s₂⟩) (b:=.bool (!c)) (x₁.trans y) (by cases e;rfl) q)
  | false=>rw[hn]at h₁;exact A8.up (eX h₁ x₁.R r₁) x₁)
end
def Of(es:List Expr)(env:Env):(Ak es env).all (!·.1)=true:=aB7 rfl (λ_ _ ih=>ih) es
def MQ{es:List Expr}{env:Env}{n:Nat}(h:bH9 n 29=true):methodCallForm n (Ak es env) []=true:=
 aG5.mpr ⟨aG5.mpr ⟨Of es env,rfl⟩,bO5 (Nat.lt_succ_of_le (aP7 h))⟩
def GP{few:Bool}{o:Expr}{env:Env}{ap p:Pos}(h:aE0 ap.endLine p.line=true):methodCallPos few o env ap p=pure p:=by
 unfold methodCallPos
 exact bO2 ((bO1 (λz=>(!few||z)=true) (show(ap.endLine==p.line)=true from(aB8 h)▸bO8 _)).mpr (Bool.or_true _))
section
variable{X:Ω}{P:Pm}{d:Nat}{fN st fM ţ fI:aC3}{sc:Scope}{W:ń}(F:IX X P d fN st fM ţ fI sc)(S:LS X W){σ:St}{Q:AV->St->Prop}
include F
theorem Po{k0:Const}{k:Nat}{p:Pos}(h:Ap (JN k0) λv=>Q v σ):ŧ X (eval (.Constant k0 k p) X.env) σ Q:=λG s R=>
 Const.casesOn (motive:=λk0=>Ap (JN k0) (λv=>Q v σ)->Ħ X ⟨G,σ,s⟩ Q (eval (.Constant k0 k p) X.env)) k0
  (λh=>wpAny_Constant_none (A8.here (c:=⟨G,σ,s⟩) (b:=AV.none) R rfl h)) (λb h=>wpAny_Constant_bool (A8.here (c:=⟨G,σ,s⟩) (b:=AV.bool b) R rfl h)) (λi h=>wpAny_Constant_int (.int _ R h)) (λ_=>aA9) (λ_ _=>aA9)
  (λy h=>wpAny_Constant_str (.to (b:=AV.str y) (R.toks (s.toks+1)) (bO8 y) h)) (λ_=>aA9) aA9 h
theorem U3{ks:List (Option Expr)}{vs:List Expr}{p:Pos}(h:D1 (EZ ks&&EZ vs) (Q (.ref σ.n) (σ.new (.dict [])))):ŧ X (eval (.Dict ks vs p) X.env) σ Q:=λG s R=>by
 obtain⟨h1,h⟩:=Ah h
 obtain⟨h1,h2⟩:=AQ h1
 exact EG (P:=λks=>Ħ X ⟨G,σ,s⟩ Q (eval (.Dict ks vs p) X.env)) h1 (EG (P:=λvs=>Ħ X ⟨G,σ,s⟩ Q (eval (.Dict [] vs p) X.env)) h2 (wpAny_Dict_empty
  (.to (c':=Ŋ.add ⟨G,σ,s⟩ (.dict []) _ s.toks) (b:=AV.ref σ.n) (R.alloc λq e=>⟨[],e▸⟨aE8.DictOf.new s.heap,beq_eq_false_iff_ne.mpr λz=>bO4 F.w.sys (aS6.mpr (z▸Fl R))⟩,rfl⟩) ⟨bO1 _ ļ.name_mu.symm,aC6 _⟩ h)))
include S
theorem Uk{o:Expr}{a:Str}{p:Pos}(h:D1 (FJ o) (W.E o σ λv σ=>Xw P.K v a σ Q)):ŧ X (eval (.Attribute o a p) X.env) σ Q:=λG s R=>by
 obtain⟨h1,h⟩:=Ah h
 rw[arm_eval_Attribute,CG h1]
 exact ĭ.bind ((S.E o σ _ h).go (c:=⟨G,σ,s⟩) R λv c₁ vv h₁ x₁ r₁=>ĭ.bind (aL8 (ĭ.bind (ĭ.hold (ĭ.mono (A8.up (bS F x₁.R h₁ r₁) x₁) λr s₂ h₂=>ĭ.bind (wpAny_letTemporaryGo (aA7 h₂)))))))
theorem Tp{o:Expr}{m:Str}{ap p:Pos}{es:List Expr}(hf:M5 es=true)(h:Ra P W (o,m,ap) es p σ Q):ŧ X (eval (.Call (.Attribute o m ap) es [] p) X.env) σ Q:=λG s R=>by
 obtain⟨h1,h⟩:=Ah h
 rw[arm_eval_Call,CG (AQ h1).1,CB _ _ (AQ hf).1,C5]
 refine ĭ.bind ((S.E o σ _ h).go (c:=⟨G,σ,s⟩) R λv c₁ vv h₁ x₁ r₁=>ĭ.bind (aL8 ?_))
 unfold methodCall
 rw[show backToKw p (keywordEach [] X.env)=[]from rfl,show methodCallForm (es.length+([]:List bL8).length) (Ak es X.env) []=true from MQ (AQ hf).2,GP (AQ h1).2]
 refine AE h₁ λg e h₁=>ĭ.bind (ĭ.hold (F4 (cH F x₁.R e r₁ λgv t rg lt=>ĭ.bind (ĭ.pure ?_))))
 have htk:c₁.s.toks<=t:=lt.2
 have y:=x₁.R.toks t
 refine FG (ď.go (c:=⟨c₁.G,c₁.σ,{c₁.s with toks:=t}⟩) (Ip S es h₁) y.R λvs c₂ vvs h₂ x₂ r₂=>?_)
 have x:=WD (v:=g.1) (vas:=(bif g.2 then [vv]else [])++vvs) F x₂.R h₂.2 (rg c₂) (by
  cases g.2 with
  | true=>exact⟨vv,vvs,rfl,(y.trans x₂).pre.v r₁,r₂⟩
  | false=>exact r₂)
 exact⟨x.1,A8.up x.2 (x₁.trans (y.trans x₂))⟩
theorem Py{g:Expr}{es:List Expr}{p:Pos}{K:Value->aA8->Prop}{J:AV->List AV->St->Prop}(hg:ix g 20=false)(hs:CD es=true){G:ļ}{s:aA8}(R:Ł X ⟨G,σ,s⟩)(h:W.E g σ λv σ=>Ml W.E es σ λvs σ=>J v vs σ)
  (hk :∀v vs vv vvs c,Ct X ⟨G,σ,s⟩ c->Ξ X c v vv->į X c vs vvs->J v vs c.σ->FV X vv c.s/\ĭ X (call vv vvs []) K c.s):ĭ X (eval (.Call g es [] p) X.env) K s:=by
 rw[FB hg,CB _ _ hs,C5]
 exact ĭ.bind ((S.E g σ _ h).go (c:=⟨G,σ,s⟩) R λv c₁ vv h₁ x₁ r₁=>FG ((Ip S es h₁).go x₁.R λvs c₂ vvs h₂ x₂ r₂=>hk v vs vv vvs c₂ (x₁.trans x₂) (x₂.pre.v r₁) r₂ h₂.2))
theorem Tq(hLM :∀{g as p σ Q},bP P sc g as σ Q->ŧ X (eval (.Call g as [] p) X.env) σ Q){g:Expr}{es:List Expr}{ks:List bL8}{p:Pos}(h:WP P sc W g es ks p σ Q):ŧ X (eval (.Call g es ks p) X.env) σ Q:=by
 obtain⟨h1,h⟩:=Ah h
 refine EG (P:=λks=>ŧ X (eval (.Call g es ks p) X.env) σ Q) (AQ h1).1 ?_
 cases hg:ix g 20 with
 | true=>
  rw[hg]at h
  exact Expr.Attribute.elim (motive_1:=λg=>Ra P W (CW g) es p σ Q->ŧ X (eval (.Call g es [] p) X.env) σ Q) g (aB8 hg) (λo m ap h=>Tp F S (AQ h1).2 h) h
 | false=>
  rw[hg]at h
  have h:MH P sc W g es σ Q:=h
  unfold MH at h
  cases hl:g5 g es with
  | true=>rw[hl]at h;exact hLM h
  | false=>
   rw[hl]at h
   exact λG s R=>Py F S hg (AQ (AQ h1).2).1 R h λv vs vv vvs c x rv ra j=>have z:=WD F x.R j rv ra;⟨z.1,A8.up z.2 x⟩
end
end Mine
end
section
open PySem PySem.W PyProof.Rows PySem.Spec PySem.Calls PySem.SeqAt
namespace Mine
def M3{G:ļ}{a b:aC3}{p:A3}(h:G.own a):(G.put b p).own a:=(aN7 (a=b)).elim (λe=>e▸Ag ļ.put_at) λe=>(bO1 (·≠none) (ļ.put_ne e)).mpr h
def HZ.all{vss:List (List AV)}:HZ vss->AC nn (vss.map .tup)=some (vss.map .tup)/\AC nn (Ex vss)=some (Ex vss):=
 aB7 (motive:=λvss=>HZ vss->AC nn (vss.map .tup)=some (vss.map .tup)/\AC nn (Ex vss)=some (Ex vss)) (λ_=>⟨rfl,rfl⟩) (λvs r ih h=>by
  have q:=ih λi ws e=>h (i+1) ws e
  have z:=(h 0 vs rfl).2
  have A9 :∀k,AV.sub nn (.seq k vs)=some (.seq k vs):=λk=>(bO1 (aD4 (AV.seq k)) z).trans rfl
  have two :∀{k} {l:List AV},AC nn l=some l->AC nn (.seq k vs::l)=some (.seq k vs::l):=λ{k l} e=>by
   show((AV.sub nn (.seq k vs)).bind λa=>(AC nn l).map (a :: ·))=_
   rw[A9,e];rfl
  exact⟨two q.1,two q.2⟩) vss
section
variable{X:Ω}{s:aA8}
def XB{e:Expr}{r:List Expr}{Q:List Value->aA8->Prop}(h:ĭ X (eval e X.env) (λv s₁=>ĭ X (spliced (Ak r X.env)) (λvs s₂=>Q (v::vs) s₂) s₁) s):ĭ X (spliced (Ak (e::r) X.env)) Q s:=by
 show ĭ X (do
  let v<-eval e X.env
  let here<-pure [v]
  return here++(<-aW1 here (spliced (Ak r X.env)))) _ _
 exact ĭ.bind (h.mono λv s₁ h₁=>ĭ.bind (ĭ.pure (ĭ.bind (ĭ.hold (h₁.mono λvs s₂ h₂=>ĭ.pure h₂)))))
end
section
variable{X:Ω}{P:Pm}{d:Nat}{fN st fM ţ fI:aC3}{sc:Scope}{W:ń}(F:IX X P d fN st fM ţ fI sc){c:Ŋ}
include F
theorem NG{f:Str}{b:Ų}{pf p:Pos}{es:List Expr}{K:Value->aA8->Prop}(hp:At f=true)(hx:sc.names.lookup f=some .globalImplicit)(hg:P.gl f=some (.fn b))(hs:CD es=true)(R:Ł X c)
  (h:ĭ X (spliced (Ak es X.env)) (λvs s₁=>ĭ X (call b.val vs []) K s₁) c.s):ĭ X (eval (.Call (.Name f pf) es [] p) X.env) K c.s:=by
 rw[FB rfl,CB _ _ hs,C5]
 exact ĭ.bind (bM7 (MP F hg ((EA F f).trans hx) R λu e=>FG (h.mono λvs s₁ h₁=>aA2 e▸⟨NM b,h₁⟩)) (J3 hp))
theorem PE{expr:Bool}{Q:Value->aA8->Prop}(R:Ł X c)(h:Q (.ref c.s.heap.objs.size) {c.s with heap:=c.s.heap.push (methodObj (.ref fM) (.ref X.L.C)),toks:=c.s.toks+1}):ĭ X (aY4 (.ref X.L.C) "_make" expr) Q c.s:=by
 obtain⟨rest,hr⟩:=F.w.cmo
 refine cls_bind (F.w.K.keeps R.base) F.w.Y.reads F.w.make (aW9 (cm_get (F.w.K.keeps R.base) hr ?_))
 show aD7 _ _ (handedOut _) _ _ _
 rw[handedOut_of rfl]
 exact aA7 h
theorem aH{g:Expr}{as:List Expr}{p:Pos}{σ:St}{Q:AV->St->Prop}(h:bP P sc g as σ Q):ŧ X (eval (.Call g as [] p) X.env) σ Q:=λG s R=>by
 obtain⟨f1,p1,f2,ŝ,c,p3,p4,x,p5,p6,⟨rfl,rfl⟩,hp,⟨k1,k2,k3⟩,⟨g1,g2,g3⟩,h⟩:=h
 obtain⟨hp,hm⟩:=AQ hp
 obtain⟨hp,n4⟩:=AQ hp
 obtain⟨hp,ú⟩:=AQ hp
 refine NG F (c:=⟨G,σ,s⟩) (AQ hp).1 k1 g1 rfl R (XB (NG F (c:=⟨G,σ,s⟩) (AQ hp).2 k2 g2 rfl R (XB ?_)))
 rw[arm_eval_Attribute,CG rfl]
 refine ĭ.bind (bM7 (MP F (c:=⟨G,σ,s⟩) g3 ((EA F c).trans k3) R λu e=>ĭ.bind (aL8 (ĭ.bind (ĭ.hold ?_)))) (J3 ú))
 rw[<-aA2 e,F.w.hC]
 refine PE F R (ĭ.bind (wpAny_letTemporaryGo (aA7 ?_)))
 have x1:=R.push (methodObj (.ref fM) (.ref X.L.C)) (s.toks+1)
 refine XB ((KN F n4 h).go (c:=Ŋ.hp ⟨G,σ,s⟩ σ (s.heap.push (methodObj (.ref fM) (.ref X.L.C))) (s.toks+1)) x1.R λv c₂ vv h₂ x₂ r₂=>aA7 ?_)
 obtain⟨vss,hl,ht,hn,hq⟩:=h₂
 have hmth:c₂.s.heap.get? s.heap.objs.size=some (methodObj (.ref fM) (.ref X.L.C)):=(x₂.kp.still.at_ _ _ (aC5 _ rfl) R.gone).1
 have hml:s.heap.objs.size<c₂.s.heap.objs.size:=aC0 (aC0 (aC6 _) (aB9 (aF8 ..).symm)) x₂.kp.size
 have R2:=x₂.R
 have up:=x1.trans x₂
 clear x₂ x1 R
 generalize hN:s.heap.objs.size=mth at hmth hml
 refine BE (P:=λvv=>ĭ X (call (.type "map") [.ref mth,vv] []) _ c₂.s) hl R2 r₂ λl us k l1 l2=>?_
 refine callType_new Lo (by decide) (H6 _ _) (I1 _ _) (λobj=>IN obj _ _) IP (IL l us k _) ⟨l1,?_⟩
 generalize hh2:((c₂.s.heap.push (CS l 0)).push (Aw [.ref c₂.s.heap.objs.size] 0)).push (Cv (c₂.s.heap.objs.size+1) (.ref mth))=h2
 have y1:(c₂.s.heap.push (CS l 0)).objs.size=c₂.s.heap.objs.size+1:=aF8 ..
 have y2:((c₂.s.heap.push (CS l 0)).push (Aw [.ref c₂.s.heap.objs.size] 0)).objs.size=c₂.s.heap.objs.size+2:=(aF8 ..).trans (bO1 aT3 y1)
 have z2:h2.objs.size=c₂.s.heap.objs.size+3:=hh2▸(aF8 ..).trans (bO1 aT3 y2)
 have k2 :∀b o,c₂.s.heap.get? b=some o->h2.get? b=some o:=λb o e=>hh2▸aB5 _ (aB5 _ (aB5 _ e))
 have hit:h2.get? c₂.s.heap.objs.size=some (CS l 0):=hh2▸aB5 _ (aB5 _ (aC5 _ rfl))
 have hT:h2.get? (c₂.s.heap.objs.size+1)=some (Aw [.ref c₂.s.heap.objs.size] 0):=hh2▸aB5 _ (y1▸aC5 _ rfl)
 have hI:h2.get? (c₂.s.heap.objs.size+2)=some (Cv (c₂.s.heap.objs.size+1) (.ref mth)):=hh2▸y2▸aC5 _ rfl
 refine⟨⟨_,hI,rfl⟩,aA7 ?_⟩
 have lt :∀{a o},c₂.s.heap.get? a=some o->a≠c₂.s.heap.objs.size:=λ{a o} e=>aE2 (aK9 e)
 have ow :∀{a},((D0 c₂.G []).put c₂.s.heap.objs.size .lock).own a->a=c₂.s.heap.objs.size\/c₂.G.own a:=λ{a} e=>(ļ.put_own e).imp id Dv.mp
 have D:KT ((D0 c₂.G []).put c₂.s.heap.objs.size .lock) X.h₀ {c₂.s with heap:=h2}:=⟨λa e=>(ow e).elim (λz=>z▸Fl R2) (R2.ownB a),λa e=>z2.symm▸(ow e).elim (λz=>z▸aJ3 (by decide)) (λe=>aC0 (R2.ownLt a e) (aD0 _ 3)),λb o e=>k2 _ _ (R2.base b o e),z2.symm▸aA0 (Fl R2) (aD0 _ 3),R2.tk,R2.tk0⟩
 have nom :∀a,¬ ((D0 c₂.G []).put c₂.s.heap.objs.size .lock).mt a:=λa z=>z.elim λp z=>(aN7 (a=c₂.s.heap.objs.size)).elim (λy=>z.2 (aA2 ((y▸z.1).symm.trans ļ.put_at))) λy=>(Ku ((ļ.put_ne y).symm.trans z.1)).elim z.2 λz=>z.elim λi z=>z.elim λx z=>nomatch z.1
 have tall:=HZ.all ht
 refine Jv (s:={c₂.s with heap:=h2}) (I:=c₂.s.heap.objs.size+2) (T:=c₂.s.heap.objs.size+1) (it:=c₂.s.heap.objs.size) (l:=l) (mth:=mth) (F.w.mkOk hm) F.A D (Ag ļ.put_at) nom (aJ8 (aJ3 (by decide))) (aJ8 (aC6 _)) (lt l1) (lt hmth) hI hT hit (k2 _ _ l1) (k2 _ _ hmth) ht
  (l2.shut ⟨λa o e q=>⟨k2 _ _ e,λz=>(ow z).elim (lt e) q⟩,λ_ _=>id⟩ tall.1) hn λacc s' τ up' tk' le' q1 ĉ q3 ě ť Ā=>?_
 have Ī :∀b o,c₂.s.heap.get? b=some o->s'.heap.get? b=some o:=λb o e=>q1 b o (k2 _ _ e) (lt e)
 have ks:c₂.s.heap.objs.size<=s'.heap.objs.size:=aA0 (z2.symm▸aD0 _ 3) ĉ
 have x3:Ct X c₂ ⟨c₂.G.tau τ,c₂.σ,s'⟩:=R2.more Ī ks (λ_ _=>rfl) (λa e=>aC0 (R2.ownLt a e) ks) (λ_ _=>⟨rfl,rfl⟩) (aB6 _) q3 ě rfl rfl (λ_ _=>.inl) up' (λt x e=>.inr (tk' t x e)) le'
 refine .to (c':=⟨c₂.G.tau τ,c₂.σ,s'⟩) (b:=.lst (Ex vss)) (up.trans x3) ⟨_,acc,rfl,ť.elim λcc e=>⟨(cc,none),e⟩,λz=>bO4 (R2.ownLt _ z) (aS6.mpr (z2.symm▸aD0 _ 3)),?_⟩ hq
 exact Ā.shut ⟨λa o e q=>⟨e,λz=>q (M3 (M3 (Dv.mpr z)))⟩,λ_ _=>id⟩ tall.2
end
def SJ(cl:List (Str×aC3))(a:aC3)(p:A3):A3:=A3.rec .lock .lock (λy=>bif cl.lookup y==some a then .cell y else .lock) (λx=>.obj x) (λx=>.dict x) p
def ļ.cmp(G:ļ)(C:aC3)(cl:List (Str×aC3)):ļ:=⟨λa=>bif a==C then some .loc else(G.tag a).map (SJ cl a),G.μ,G.δ,G.τ⟩
def I6(o:Option A3)(p:A3):Option A3:=A3.rec (some .loc) o (λy=>some (.cell y)) (λ_=>o) (λ_=>o) p
def ļ.unc(G' G:ļ)(C:aC3):ļ:=⟨λa=>bif a==C then some .lock else aD9 (G'.tag a) (I6 (G'.tag a)) (G.tag a),G'.μ,G'.δ,G'.τ⟩
section
variable{G G':ļ}{C a:aC3}{cl:List (Str×aC3)}{p:A3}
def Yr:(G.cmp C cl).tag C=some .loc:=bO1 (cond · (some A3.loc) ((G.tag C).map (SJ cl C))) (bO8 C)
def Li(h:a≠C):(G.cmp C cl).tag a=(G.tag a).map (SJ cl a):=bO1 (cond · (some A3.loc) ((G.tag a).map (SJ cl a))) (beq_eq_false_iff_ne.mpr h)
def E2(h:a≠C)(e:G.tag a=some p):(G.cmp C cl).tag a=some (SJ cl a p):=(Li h).trans (bO1 _ e)
def Jb(h:(G.cmp C cl).own a):a=C\/G.own a:=(aN7 (a=C)).imp id λn z=>h ((Li n).trans (bO1 _ z))
def Qz(h:(G.cmp C cl).mt a):a=C\/G.mt a:=(aN7 (a=C)).imp id λn=>h.elim λq e=>by
 obtain⟨r,e1,e2⟩:=AH ((Li n).symm.trans e.1)
 exact⟨r,e1,λz=>e.2 (by subst z;exact e2.symm)⟩
def Rg(h:a≠C):(G'.unc G C).tag a=aD9 (G'.tag a) (I6 (G'.tag a)) (G.tag a):=bO1 (cond · (some A3.lock) (aD9 (motive:=λ_=>Option A3) (G'.tag a) (I6 (G'.tag a)) (G.tag a))) (beq_eq_false_iff_ne.mpr h)
def GK(h:a≠C)(e:G.tag a=some p):(G'.unc G C).tag a=I6 (G'.tag a) p:=(Rg h).trans (bO1 (λo=>aD9 (motive:=λ_=>Option A3) (G'.tag a) (I6 (G'.tag a)) o) e)
def L0(h:a≠C)(e:G.tag a=none):(G'.unc G C).tag a=G'.tag a:=(Rg h).trans (bO1 (λo=>aD9 (motive:=λ_=>Option A3) (G'.tag a) (I6 (G'.tag a)) o) e)
end
theorem GL.en{X:Ω}{c:Ŋ}{x:Nat}{o:Ÿ}(e:Env)(q:GL X c x o):GL (X.en e) c x o:=⟨q.lt,q.tag,q.rel⟩
section
variable{X:Ω}{c:Ŋ}{cl:List (Str×aC3)}{env':Env}
def Ł.enter{h':aE8}{t:Nat}{ρc:List (Str×AV)}(R:Ł X c)(hC:env'.locals=c.s.heap.objs.size)(hcl':env'.cells=cl)(hns:h'.Ns c.s.heap.objs.size (λ_=>none))(Ī :∀a o,c.s.heap.get? a=some o->h'.get? a=some o)(sz:c.s.heap.objs.size<h'.objs.size)
  (hcl :∀x a,cl.lookup x=some a->X.env.cells.lookup x=some a) (hcap :∀x,env'.kindOf x=some .cell\/env'.kindOf x=some .free->cl.lookup x=none->False)
  (hρ :∀x av,ρc.lookup x=some av->c.σ.ρ.lookup x=some av/\X.env.kindOf x≠some .local/\env'.kindOf x≠some .local) (htk:c.s.toks<=t) :
  Ł (X.en env') ⟨c.G.cmp c.s.heap.objs.size cl,⟨ρc,c.σ.H,c.σ.n,c.σ.anc⟩,{c.s with heap:=h',toks:=t}⟩/\ċ c.G c.s.heap (c.G.cmp c.s.heap.objs.size cl) h'/\E1 c ⟨c.G.cmp c.s.heap.objs.size cl,⟨ρc,c.σ.H,c.σ.n,c.σ.anc⟩,{c.s with heap:=h',toks:=t}⟩:=by
 have ne :∀{a p},c.G.tag a=some p->a≠c.s.heap.objs.size:=λe=>aE2 (R.ownLt _ (Ag e))
 have kp:ċ c.G c.s.heap (c.G.cmp c.s.heap.objs.size cl) h':=⟨λa o e _=>Ī a o e,λa h=>(Jb h).elim (λz=>.inr (aB9 z.symm)) .inl,λa h=>(Qz h).elim (λz=>.inr (aB9 z.symm)) .inl,aD8 sz,λa h=>E2 (ne h) h,λ_ _=>id⟩
 have p:E1 c ⟨c.G.cmp c.s.heap.objs.size cl,⟨ρc,c.σ.H,c.σ.n,c.σ.anc⟩,{c.s with heap:=h',toks:=t}⟩:=⟨kp.still,λ_ _=>⟨rfl,rfl⟩,aB6 _⟩
 exact⟨{
  base:=λb o e=>Ī _ _ (R.base b o e)
  keep:=λb o e q=>Ī _ _ (R.keep b o e q)
  size:=aA0 R.size kp.size
  mutHs:=λa h=>(Qz h).elim (λz=>.inr (z▸R.size)) (R.mutHs a)
  ownB:=λa h=>(Jb h).elim (λz=>z▸aD8 (aD5 (R.ownB _ (Ag R.tloc)) (R.ownLt _ (Ag R.tloc)))) (R.ownB a)
  ownLt:=λa h=>(Jb h).elim (λz=>z▸sz) λh=>bJ7 (R.ownLt a h) sz
  gens:=R.gens
  os:=R.os
  loc:=⟨λ_=>none,hC.symm▸hns,λx av e k=>bO4 k (hρ x av e).2.2⟩
  cel:=λx a e=>(R.cel x a (hcl x a (hcl'▸e))).casesOn λv hv r=>⟨v,hv.imp λo q=>⟨Ī _ _ q.1,q.2⟩,λav e1 _=>(r av (hρ x av e1).1 (hρ x av e1).2.1).imp λu q=>⟨q.1,p.v q.2⟩⟩
  celAll:=λx h e=>hcap x h (hcl'▸e)
  tloc:=hC.symm▸Yr
  tcel:=λx a e=>by
   have e:cl.lookup x=some a:=hcl'▸e
   have ht:=R.tcel x a (hcl x a e)
   refine(E2 (ne ht) ht).trans (bO1 some ?_)
   show(bif cl.lookup x==some a then A3.cell x else .lock)=_
   rw[e,bO8]
   rfl
  obj:=λx o e=>have q:=R.obj x o e;(p.obj (X:=X) (E2 (ne q.tag) q.tag) (λo=>Ī _ o) (λz=>⟨λo=>Ī _ o,E2 (ne z) z⟩) q).en env'
  anc:=R.anc
  tk:=λt s e=>aC0 (R.tk t s e) htk
  tk0:=R.tk0
  aτ:=R.aτ},kp,p⟩
def Ł.leave{h':aE8}{t:Nat}{cb ci:Ŋ}(Rb:Ł X cb)(R:Ł X c)(kG:ċ cb.G cb.s.heap c.G c.s.heap)(Rc:Ł (X.en env') ci)(k:ċ cb.G cb.s.heap ci.G ci.s.heap)
  (hlk :∀a,(c.G.cmp c.s.heap.objs.size cl).tag a=some .lock->ci.G.tag a=some .lock) (hkeep :∀a o,cb.s.heap.get? a=some o->(c.G.cmp c.s.heap.objs.size cl).tag a=some .lock->ci.s.heap.get? a=some o) (hC:env'.locals=c.s.heap.objs.size) (hcl':env'.cells=cl)
  (m:ü cb.σ.n cb.G ci.G) (hn:cb.σ.n<=ci.σ.n) (hρ :∀x a,cl.lookup x=some a->∀av,cb.σ.ρ.lookup x=some av->X.env.kindOf x≠some .local->ci.σ.ρ.lookup x=some av/\env'.kindOf x≠some .local) (hsb:aH6 c.s.heap.objs.size ci.s.heap h') (htk:ci.s.toks<=t) :
  Ct X cb ⟨ci.G.unc c.G c.s.heap.objs.size,⟨cb.σ.ρ,ci.σ.H,ci.σ.n,ci.σ.anc⟩,{ci.s with heap:=h',toks:=t}⟩:=by
 have neC :∀{a p},c.G.tag a=some p->a≠c.s.heap.objs.size:=λe=>aE2 (R.ownLt _ (Ag e))
 have tC:ci.G.tag c.s.heap.objs.size=some .loc:=hC▸Rc.tloc
 have nCb :∀{a o},cb.s.heap.get? a=some o->a≠c.s.heap.objs.size:=λe=>aE2 (aC0 (aK9 e) kG.size)
 have kC :∀{a o},a≠c.s.heap.objs.size->ci.s.heap.get? a=some o->h'.get? a=some o:=λha e=>hsb.extBut _ _ ha e
 have tl :∀{a},c.G.tag a=some .loc->ci.G.tag a=some .lock:=λe=>hlk _ (E2 (neC e) e)
 have tc0 :∀{a y},c.G.tag a=some (.cell y)->(cl.lookup y==some a)=false->(c.G.cmp c.s.heap.objs.size cl).tag a=some .lock:=λ{a y} e hc=>(E2 (neC e) e).trans (bO1 (λb:Bool=>some (bif b then A3.cell y else .lock)) hc)
 have tc :∀{a y},c.G.tag a=some (.cell y)->ci.G.tag a=some .lock\/ci.G.tag a=some (.cell y):=λ{a y} e=>by
  cases hc:cl.lookup y==some a with
  | true=>exact .inr (Rc.tcel y a (hcl'▸aE6 hc))
  | false=>exact .inl (hlk a (tc0 e hc))
 have own_of :∀{a},(ci.G.unc c.G c.s.heap.objs.size).own a->ci.G.own a:=λ{a} h=>(aN7 (a=c.s.heap.objs.size)).elim (λz=>z▸Ag tC) λn=>by
  cases e:c.G.tag a with
  | none=>exact λz=>h ((L0 n e).trans z)
  | some p=>
   cases p with
   | loc=>exact Ag (tl e)
   | cell y=>exact(tc e).elim Ag Ag
   | _=>exact λz=>h ((GK n e).trans z)
 have mt_of :∀{a},(ci.G.unc c.G c.s.heap.objs.size).mt a->c.G.mt a\/ci.G.mt a:=λ{a} h=>(aN7 (a=c.s.heap.objs.size)).elim (λz=>.inr (z▸Ef tC λz=>nomatch z)) λn=>by
  cases e:c.G.tag a with
  | none=>exact .inr (h.imp λp q=>⟨(L0 n e).symm.trans q.1,q.2⟩)
  | some p=>
   cases p with
   | loc=>exact .inl (Ef e λz=>nomatch z)
   | cell y=>exact .inl (Ef e λz=>nomatch z)
   | _=>exact .inr (h.imp λp q=>⟨(GK n e).symm.trans q.1,q.2⟩)
 have kp:ċ cb.G cb.s.heap (ci.G.unc c.G c.s.heap.objs.size) h':=⟨λa o e q=>kC (nCb e) (k.keep a o e q),λa h=>k.own a (own_of h),λa h=>(mt_of h).elim (kG.mt a) (k.mt a),hsb.1.symm▸k.size,λa h=>have h0:=kG.lock a h;(GK (neC h0) h0).trans (hlk a (E2 (neC h0) h0)),k.tok⟩
 have p:E1 cb ⟨ci.G.unc c.G c.s.heap.objs.size,⟨cb.σ.ρ,ci.σ.H,ci.σ.n,ci.σ.anc⟩,{ci.s with heap:=h',toks:=t}⟩:=⟨kp.still,m,hn⟩
 have pi:E1 ci ⟨ci.G.unc c.G c.s.heap.objs.size,⟨cb.σ.ρ,ci.σ.H,ci.σ.n,ci.σ.anc⟩,{ci.s with heap:=h',toks:=t}⟩:=⟨⟨λa o e q=>⟨kC (λz=>q (z▸Ag tC)) e,λz=>q (own_of z)⟩,λ_ _=>id⟩,λ_ _=>⟨rfl,rfl⟩,aB6 _⟩
 have lk :∀{a},(c.G.cmp c.s.heap.objs.size cl).tag a=some .lock->∀o,cb.s.heap.get? a=some o->h'.get? a=some o:=λh o e=>kC (nCb e) (hkeep _ o e h)
 have kt :∀{a q},ci.G.tag a=some q->q≠.lock->¬ Kn q->(ci.G.unc c.G c.s.heap.objs.size).tag a=some q:=λ{a q} e h1 h2=>by
  have n:a≠c.s.heap.objs.size:=λz=>h2 (.inl (aA2 (e.symm.trans (z▸tC))))
  cases e':c.G.tag a with
  | none=>exact(L0 n e').trans e
  | some p=>
   cases p with
   | loc=>exact bO4 (aA2 (e.symm.trans (tl e'))) h1
   | cell y=>exact(tc e').elim (λz=>bO4 (aA2 (e.symm.trans z)) h1) λz=>bO4 (.inr ⟨y,aA2 (e.symm.trans z)⟩) h2
   | _=>exact(GK n e').trans e
 have nz :∀{a q},ci.G.tag a=some q->¬ Kn q->a≠c.s.heap.objs.size:=λe h z=>h (.inl (aA2 (e.symm.trans (z▸tC))))
 exact⟨kp,p,{
  base:=λb o e=>kC (λz=>bO4 (Rc.ownB _ (Ag tC)) (bM8.mpr (z▸aK9 e))) (Rc.base b o e)
  keep:=λb o e q=>kC (λz=>bO4 R.size (bM8.mpr (z▸aK9 e))) (Rc.keep b o e q)
  size:=hsb.1.symm▸Rc.size
  mutHs:=λa h=>(mt_of h).elim (R.mutHs a) (Rc.mutHs a)
  ownB:=λa h=>Rc.ownB a (own_of h)
  ownLt:=λa h=>hsb.1.symm▸Rc.ownLt a (own_of h)
  gens:=Rc.gens
  os:=Rc.os
  loc:=p.loc rfl (lk (E2 (neC R.tloc) R.tloc)) Rb.loc
  cel:=λx a e=>by
   have ht:=R.tcel x a e
   cases hc:cl.lookup x==some a with
   | true=>
    have e':=aE6 hc
    exact(Rc.cel x a (hcl'▸e')).casesOn λv hv r=>⟨v,hv.imp λo q=>⟨kC (neC ht) q.1,q.2⟩,λav e1 e2=>have q:=hρ x a e' av e1 e2;(r av q.1 q.2).imp λu q=>⟨q.1,pi.v q.2⟩⟩
   | false=>exact p.cel rfl (lk (tc0 ht hc)) (Rb.cel x a e)
  celAll:=R.celAll
  tloc:=GK (neC R.tloc) R.tloc
  tcel:=λx a e=>have ht:=R.tcel x a e;GK (neC ht) ht
  obj:=λx o e=>have q:GL X ci x o:=(Rc.obj x o e).en X.env;pi.obj (kt q.tag (λz=>nomatch z) FS) (λo=>kC (nz q.tag FS)) (λz=>⟨λo=>kC (nz z Ed),kt z (λz=>nomatch z) Ed⟩) q
  anc:=Rc.anc
  tk:=λt s e=>aC0 (Rc.tk t s e) htk
  tk0:=Rc.tk0
  aτ:=Rc.aτ}⟩
end
noncomputable def LU(ifs:List Expr)(env:Env):Sem Bool:=forIn ifs true λc r=>if r=true then do let ok<-isTrue c env (eval c env);pure (aO7 ok)else pure (aO7 r)
def EH(tg:Expr)(ifs:List Expr)(ip:Pos)(it:Value)(env:Env)(body:Sem Fin)(c:bN0):Sem Fin:=standAt ip >>= λ_=>aV3 it >>= λr=>match r with
 | none=>pure (.done .next)
 | some v=>aP9 tg it v >>= λ_=>assign tg env v >>= λ_=>LU ifs env >>= λok=>if ok=true then body else again c
section
variable{elt ø vx tg iter:Expr}{ifs:List Expr}{sc:Scope}{p:Pos}{it acc:Value}{D:aC3}{env:Env}{g:aF5}
noncomputable def TD(elt:Expr)(env:Env)(acc:Value):Sem Unit:=do let _<-call (.builtin "list.append") [acc,<-eval elt env]
noncomputable def VF(ø vx:Expr)(env:Env)(D:aC3):Sem Unit:=do
 let kv<-eval ø env
 let vv<-aW1 [kv] (eval vx env)
 standAt {ø.pos with endLine:=vx.pos.endLine,endCol:=vx.pos.endCol}
 aW1 [kv,vv] (dictSet D kv vv)
def Oc:compTurn (.ListComp elt [⟨tg,iter,ifs,0⟩] sc p) 0 it acc env=EH tg ifs iter.pos it env (TD elt env acc >>= λ_=>again (.compLoop (.ListComp elt [⟨tg,iter,ifs,0⟩] sc p) 0 it acc env)) (.compLoop (.ListComp elt [⟨tg,iter,ifs,0⟩] sc p) 0 it acc env):=rfl
def Nw:compTurn (.DictComp ø vx [⟨tg,iter,ifs,0⟩] sc p) 0 it (.ref D) env=EH tg ifs iter.pos it env (VF ø vx env D >>= λ_=>again (.compLoop (.DictComp ø vx [⟨tg,iter,ifs,0⟩] sc p) 0 it (.ref D) env)) (.compLoop (.DictComp ø vx [⟨tg,iter,ifs,0⟩] sc p) 0 it (.ref D) env):=rfl
variable{prog:aH0}{w:aC7}
def QF:(aE5 prog w).den (.compLoop (.ListComp elt [⟨tg,iter,ifs,0⟩] sc p) 0 it acc env)=(EH tg ifs iter.pos it env (TD elt env acc >>= λ_=>again (.compLoop (.ListComp elt [⟨tg,iter,ifs,0⟩] sc p) 0 it acc env)) (.compLoop (.ListComp elt [⟨tg,iter,ifs,0⟩] sc p) 0 it acc env)).onRaise (λx=>do noteFrame x env;theTreesLotGoes x):=by rw[<-Oc];rfl
def Qv:(aE5 prog w).den (.compLoop (.DictComp ø vx [⟨tg,iter,ifs,0⟩] sc p) 0 it (.ref D) env)=(EH tg ifs iter.pos it env (VF ø vx env D >>= λ_=>again (.compLoop (.DictComp ø vx [⟨tg,iter,ifs,0⟩] sc p) 0 it (.ref D) env)) (.compLoop (.DictComp ø vx [⟨tg,iter,ifs,0⟩] sc p) 0 it (.ref D) env)).onRaise (λx=>do noteFrame x env;theTreesLotGoes x):=by rw[<-Nw];rfl
end
section
variable{X:Ω}{R:bD9->aA8->Prop}{s:aA8}
def LE{tg:Expr}{ifs:List Expr}{ip:Pos}{it:Value}{env:Env}{body:Sem Fin}{c:bN0}(hq:c.quiet=true)(hu:X.A.under c=X.A)
  (hd:(aE5 X.L.prog X.L.w).den c=(EH tg ifs ip it env body c).onRaise (λx=>do noteFrame x env;theTreesLotGoes x)) (I:Nat->aA8->Prop)
  (turn :∀n s,I n s->ĭ X (aV3 it) (λr s₁=>aD9 (R (.ok .next) s₁) (λv=>ĭ X (aP9 tg it v) (λ_ s₁=>ĭ X (assign tg env v) (λ_ s₂=>ĭ X (LU ifs env) (λok s₃=>
     aI6 (∃m,m<n/\I m s₃) (ĭ X body (λfin s₅=>fin = .again c/\∃m,m<n/\I m s₅) s₃) ok) s₂) s₁) s₁) r) s)
  (n:Nat) (h:I n s):aQ3 (aE5 X.L.prog X.L.w) X.A c R s:=by
 refine codeAny_loop hq I (λn s hI=>?_) n h
 rw[hu,hd]
 refine wpAny_noted ?_
 refine aA3 (aL8 (aA3 ((turn n s hI).any λr s₁ h₁=>?_)))
 cases r with
 | none=>exact aA7 h₁
 | some v=>exact aA3 (ĭ.any h₁ λ_ s₁' h₁'=>aA3 (ĭ.any h₁' λ_ s₂ h₂=>aA3 (ĭ.any h₂ λok s₃ h₃=>by
   cases ok with
   | false=>exact aA7 ⟨rfl,h₃⟩
   | true=>exact ĭ.any h₃ λfin s₅ h₅=>by obtain⟨rfl,h₅⟩:=h₅;exact⟨rfl,h₅⟩)))
end
def Ui{env:Env}(names:List (Str×aP4)) :∀(acc:List (Str×aC3)),(∀p∈names,p.2 = .free->∃c,env.cells.lookup p.1=some c)->
  ∃cl:List (Str×aC3),(forIn names acc λ(x:Str×aP4) (r:List (Str×aC3))=>(match x with | (name,kind)=>if(kind==aF7)=true then do let a<-cellOf env name;pure (aO7 ((name,a)::r))else pure (aO7 r):Sem _))=pure cl/\
   (∀x c,cl.lookup x=some c->acc.lookup x=some c\/(x,aF7)∈names/\env.cells.lookup x=some c)/\∀x,(x,aF7)∈names\/acc.lookup x≠none->cl.lookup x≠none:=
 aB7 (motive:=λnames=>∀(acc:List (Str×aC3)),(∀p∈names,p.2 = .free->∃c,env.cells.lookup p.1=some c)->
  ∃cl:List (Str×aC3),(forIn names acc λ(x:Str×aP4) (r:List (Str×aC3))=>(match x with | (name,kind)=>if(kind==aF7)=true then do let a<-cellOf env name;pure (aO7 ((name,a)::r))else pure (aO7 r):Sem _))=pure cl/\
   (∀x c,cl.lookup x=some c->acc.lookup x=some c\/(x,aF7)∈names/\env.cells.lookup x=some c)/\∀x,(x,aF7)∈names\/acc.lookup x≠none->cl.lookup x≠none)
  (λacc _=>⟨acc,rfl,λx c e=>.inl e,λx h=>h.elim (λz=>nomatch z) id⟩) (λp r ih acc h=>by
   obtain⟨n,k⟩:=p
   rw[List.forIn_cons]
   have step :∀acc',(∀x c,acc'.lookup x=some c->acc.lookup x=some c\/(x,aF7)∈(n,k)::r/\env.cells.lookup x=some c)->(∀x,x=n/\k = .free\/acc.lookup x≠none->acc'.lookup x≠none)->∀{t:Sem (List (Str×aC3))},(t=forIn r acc' λ(x:Str×aP4) (r:List (Str×aC3))=>(match x with | (name,kind)=>if(kind==aF7)=true then do let a<-cellOf env name;pure (aO7 ((name,a)::r))else pure (aO7 r):Sem _))->∃cl:List (Str×aC3),t=pure cl/\(∀x c,cl.lookup x=some c->acc.lookup x=some c\/(x,aF7)∈(n,k)::r/\env.cells.lookup x=some c)/\∀x,(x,aF7)∈(n,k)::r\/acc.lookup x≠none->cl.lookup x≠none:=λacc' h1 h2 t ht=>
    (ih acc' λp hp=>h p (aC1 _ hp)).imp λcl q=>⟨ht.trans q.1,λx c e=>(q.2.1 x c e).elim (h1 x c) λz=>.inr ⟨aC1 _ z.1,z.2⟩,λx z=>q.2.2 x (z.elim (λz=>(aC4.mp z).elim (λe=>.inr (h2 x (.inl (by cases e;exact⟨rfl,rfl⟩)))) .inl) λz=>.inr (h2 x (.inr z)))⟩
   cases hk:k==aF7 with
   | false=>exact step acc (λx c=>.inl) (λx z=>z.elim (λz=>bO4 (beq_iff_eq.mpr z.2) (Bool.eq_false_iff.mp hk)) id) (by dsimp only;rw[hk];rfl)
   | true=>
    have hk':=aE6 hk
    obtain⟨c,hc⟩:=h (n,k) (aB4 ..) hk'
    have e1 :∀x,bH5 x ((n,c)::acc)=bif x==n then some c else acc.lookup x:=λx=>A1 x (n,c) acc
    refine step ((n,c)::acc) (λx c' e=>?_) (λx z=>?_) (by dsimp only;rw[hk,bO2 rfl];unfold cellOf;rw[hc];rfl)
    ·rw[e1]at e
     cases hx:x==n with
     | true=>rw[hx]at e;exact .inr ⟨by rw[aE6 hx,hk'];exact aB4 ..,by rw[aE6 hx];exact hc.trans e⟩
     | false=>rw[hx]at e;exact .inl e
    ·rw[e1]
     cases hx:x==n with
     | true=>exact λz=>nomatch z
     | false=>exact z.elim (λz=>bO4 z.1 (ne_of_beq_false hx)) id) names
def VO{env:Env}{cs:Scope}(h :∀p∈cs.names,p.2 = .free->∃c,env.cells.lookup p.1=some c) :∃cl:List (Str×aC3),closureFor cs env=pure cl/\(∀x c,cl.lookup x=some c->(x,aF7)∈cs.names/\env.cells.lookup x=some c)/\∀x,(x,aF7)∈cs.names->cl.lookup x≠none:=
 (Ui cs.names [] h).imp λcl q=>⟨(bO1 (λt:Sem (List (Str×aC3))=>t >>= λr=>pure r) q.1).trans rfl,λx c e=>(q.2.1 x c e).elim (λz=>nomatch z) id,λx z=>q.2.2 x (.inl z)⟩
def KM{α:Type}{b:Bool}{o:Option α}{a:α}(e:(bif b then o else none)=some a):b=true/\o=some a:=by
 cases b with
 | true=>exact⟨rfl,e⟩
 | false=>exact AA e
section
variable{X:Ω}{P:Pm}{d:Nat}{fN st fM ţ fI:aC3}{sc:Scope}{W:ń}(F:IX X P d fN st fM ţ fI sc)(S:LS X W)
def Iv{i:Expr}{b:Ų}(e:ST P sc i=some b){R:Expr->List Expr->Prop}(f :∀x px as p,At x=true->CD as=true->sc.names.lookup x=some .globalImplicit->P.gl x=some (.fn b)->R (.Call (.Name x px) as [] p) as):R i (AY i).2.1:=by
 obtain⟨hc,e⟩:=KM e
 obtain⟨hc,h5⟩:=AQ hc
 obtain⟨hc,h4⟩:=AQ hc
 obtain⟨hc,h3⟩:=AQ hc
 obtain⟨h1,h2⟩:=AQ hc
 obtain⟨k,e1,e⟩:=AG e
 obtain⟨e2,e⟩:=KM e
 obtain⟨v,e3,e4⟩:=AG e
 have e5:P.gl (BI (AY i).1)=some (.fn b):=Gj (P:=λv=>P.gl (BI (AY i).1)=some v->P.gl (BI (AY i).1)=some (.fn b)) e4 id e3
 have e6:sc.names.lookup (BI (AY i).1)=some .globalImplicit:=aP4.globalImplicit.elim (motive:=λk=>sc.names.lookup (BI (AY i).1)=some k->sc.names.lookup (BI (AY i).1)=some .globalImplicit) k (aB8 e2) id e1
 clear e1 e2 e3 e4 e hc
 refine Expr.Call.elim (motive_1:=λi=>ix (AY i).1 23=true->EZ (AY i).2.2.1=true->CD (AY i).2.1=true->At (BI (AY i).1)=true->P.gl (BI (AY i).1)=some (.fn b)->sc.names.lookup (BI (AY i).1)=some .globalImplicit->R i (AY i).2.1) i (aB8 h1) (λg as ks p h2 h3 h4 h5 e5 e6=>?_) h2 h3 h4 h5 e5 e6
 refine EG (P:=λks=>R (.Call g as ks p) as) h3 ?_
 exact Expr.Name.elim (motive_1:=λg=>At (BI g)=true->P.gl (BI g)=some (.fn b)->sc.names.lookup (BI g)=some .globalImplicit->R (.Call g as [] p) as) g (aB8 h2) (λx px h5 e5 e6=>f x px as p h5 h4 e6 e5) h5 e5 e6
include F S
theorem Pl{t i:Expr}{σ:St}{K:List AV->St->Prop}(h:JW W t (CW (AY i).1).1 σ K)(hi:JL i=true){G:ļ}{s:aA8}(R:Ł X ⟨G,σ,s⟩):ĭ X (eval i X.env) (λv s₁=>ĭ X (aM3 v) (λiv s₂=>Bn X t ⟨G,σ,s⟩ K iv s₂) s₁) s:=by
 obtain⟨hi,k6⟩:=AQ hi
 obtain⟨hi,k5⟩:=AQ hi
 obtain⟨hi,k4⟩:=AQ hi
 obtain⟨hi,k3⟩:=AQ hi
 obtain⟨hi,k2⟩:=AQ hi
 obtain⟨hi,k1⟩:=AQ hi
 refine Expr.Call.elim (motive_1:=λi=>EZ (AY i).2.1=true->EZ (AY i).2.2.1=true->ix (AY i).1 20=true->((CW (AY i).1).2.1==("items":Str))=true->FJ (CW (AY i).1).1=true->aE0 (CW (AY i).1).2.2.endLine (AY i).2.2.2.line=true->
  JW W t (CW (AY i).1).1 σ K->ĭ X (eval i X.env) (λv s₁=>ĭ X (aM3 v) (λiv s₂=>Bn X t ⟨G,σ,s⟩ K iv s₂) s₁) s) i (aB8 hi) (λg as ks q k1 k2 k3 k4 k5 k6 h=>?_) k1 k2 k3 k4 k5 k6 h
 refine EG (P:=λas=>ĭ X (eval (.Call g as ks q) X.env) (λv s₁=>ĭ X (aM3 v) (λiv s₂=>Bn X t ⟨G,σ,s⟩ K iv s₂) s₁) s) k1 (EG (P:=λks=>ĭ X (eval (.Call g [] ks q) X.env) (λv s₁=>ĭ X (aM3 v) (λiv s₂=>Bn X t ⟨G,σ,s⟩ K iv s₂) s₁) s) k2 ?_)
 refine Expr.Attribute.elim (motive_1:=λg=>((CW g).2.1==("items":Str))=true->FJ (CW g).1=true->aE0 (CW g).2.2.endLine q.line=true->
  JW W t (CW g).1 σ K->ĭ X (eval (.Call g [] [] q) X.env) (λv s₁=>ĭ X (aM3 v) (λiv s₂=>Bn X t ⟨G,σ,s⟩ K iv s₂) s₁) s) g (aB8 k3) (λob at_ ap k4 k5 k6 h=>?_) k4 k5 k6 h
 rw[show at_=("items":Str)from aE6 k4]
 refine wpAny_Call_method (T:="dict") (id:="dict.items") (CG k5 _ _) rfl (by rw[show ap.endLine=q.line from aB8 k6];exact bO8 _) aX9 PySem.F.slot_dict_items PySem.F.type_dict_items ?_
 refine(S.E ob σ _ h).go (c:=⟨G,σ,s⟩) R λv c₁ vv h₁ x₁ r₁=>AE h₁ λes e h₁=>?_
 cases QD (P:=λv=>Ξ X c₁ v vv->Ξ X c₁ (.dct es) vv) e id r₁ with
 | mk d kvs hv p1 ow hr=>
 subst hv
 obtain⟨es',k',ho'⟩:=Fw p1.1
 refine⟨p1.1.typeIs,λa e=>by cases e;exact⟨_,ho',rfl⟩,callWith_builtin rfl (PySem.evalArgs_none ?_)⟩
 refine bJ9 PySem.F.slot_dict_items p1.1.typeIs PySem.F.entry_dict_items (PySem.F.args_dict_items_1 _) (meets_dict_items (CH X.L.prog X.L.w) d p1.2) ⟨⟨kvs,p1.1⟩,?_⟩
 have x₂:=x₁.R.push {cls:=.type "dict_items",data:=.fields #[.ref d]} c₁.s.toks
 exact(Us (c:=c₁.hp c₁.σ (c₁.s.heap.push {cls:=.type "dict_items",data:=.fields #[.ref d]}) c₁.s.toks) F.A.1 ow ((Hp kvs).keep (λo e=>aB5 _ e) p1) (Am.sub x₂.kp.still (λx w e=>AA e) h₁.1.2 hr) ⟨_,aC5 _ rfl,rfl,rfl⟩ h₁.2 h₁.1.1 x₂.R).mono λ_ _ q=>q.up (x₁.trans x₂)
theorem MY{t i:Expr}{σ:St}{K:List AV->St->Prop}(h:G5 P sc W t i σ K){G:ļ}{s:aA8}(R:Ł X ⟨G,σ,s⟩):ĭ X (eval i X.env) (λv s₁=>ĭ X (aM3 v) (λiv s₂=>Bn X t ⟨G,σ,s⟩ K iv s₂) s₁) s:=by
 have plain:Y6 W i σ K->ĭ X (eval i X.env) (λv s₁=>ĭ X (aM3 v) (λiv s₂=>Bn X t ⟨G,σ,s⟩ K iv s₂) s₁) s:=λh=>(S.E i σ _ h).go (c:=⟨G,σ,s⟩) R λv c₁ vv h₁ x₁ r₁=>
  AE h₁ λvs e h=>(YE F.A.1 e h.1 h.2 t x₁.R r₁).mono λ_ _ q=>q.up x₁
 refine Az h (λh=>?_) λb e h=>?_
 ·cases hi:JL i with
  | false=>rw[hi]at h;exact plain h
  | true=>rw[hi]at h;exact Pl F S h hi R
 cases h1:aE0 b.ctorIdx 1 with
 | true=>
  rw[h1]at h
  obtain rfl:b = .range:=Ų.range.elim (motive:=λb=>b = .range) b (aB8 h1) rfl
  exact Iv e (R:=λi as=>Ml W.E as σ (λvs σ=>MN vs σ K)->ĭ X (eval i X.env) (λv s₁=>ĭ X (aM3 v) (λiv s₂=>Bn X t ⟨G,σ,s⟩ K iv s₂) s₁) s) (λx px as p Ă n2 ú n4 h=>NG F (c:=⟨G,σ,s⟩) Ă ú n4 n2 R ((Ip S as h).go (c:=⟨G,σ,s⟩) R λvs c₁ us h₁ x₁ r₁=>(Uj F.A.1 h₁.2 t x₁.R r₁).mono λ_ _ q=>q.mono λ_ _ q=>q.up x₁)) h
 | false=>
  rw[h1]at h
  cases h3:aE0 b.ctorIdx 3 with
  | true=>
   rw[h3]at h
   obtain rfl:b = .enumerate:=Ų.enumerate.elim (motive:=λb=>b = .enumerate) b (aB8 h3) rfl
   exact Iv e (R:=λi as=>Ml W.E as σ (λvs σ=>Ij t vs σ K)->ĭ X (eval i X.env) (λv s₁=>ĭ X (aM3 v) (λiv s₂=>Bn X t ⟨G,σ,s⟩ K iv s₂) s₁) s) (λx px as p Ă n2 ú n4 h=>NG F (c:=⟨G,σ,s⟩) Ă ú n4 n2 R ((Ip S as h).go (c:=⟨G,σ,s⟩) R λvs c₁ us h₁ x₁ r₁=>(Xl F.A.1 h₁.2 x₁.R r₁).mono λ_ _ q=>q.mono λ_ _ q=>q.up x₁)) h
  | false=>rw[h3]at h;exact plain h
end
def My{k k':aP4}:aE0 k.ctorIdx k'.ctorIdx=true->k=k':=by
 cases k<;>cases k'<;>first | exact λ_=>rfl | exact λh=>nomatch h
def JO{o:Option aP4}(k':aP4)(h:isK o k'.ctorIdx=true):o=some k':=by
 cases o with
 | none=>cases h
 | some k=>exact bO1 some (My h)
def Hj{α:Type}{x:Str}{k:α}{l:List (Str×α)}:l.lookup x=some k->(x,k)∈l:=
 aB7 (motive:=λl=>l.lookup x=some k->(x,k)∈l) AA (λp r ih e=>by
  rw[A1]at e
  cases h:x==p.1 with
  | true=>rw[h]at e;rw[aE6 h,<-aA2 e];exact aB4 ..
  | false=>rw[h]at e;exact aC1 _ (ih e)) l
def P0{sc cs:Scope}{ps:List (Str×aP4)}:JP sc cs ps=true->∀p∈ps,p.2≠.cell/\(p.2 = .local->cs.names.lookup p.1=some .local)/\(p.2 = .free->cs.names.lookup p.1=some .free/\(sc.names.lookup p.1=some .cell\/sc.names.lookup p.1=some .free)):=
 aB7 (motive:=λps=>JP sc cs ps=true->∀p∈ps,p.2≠.cell/\(p.2 = .local->cs.names.lookup p.1=some .local)/\(p.2 = .free->cs.names.lookup p.1=some .free/\(sc.names.lookup p.1=some .cell\/sc.names.lookup p.1=some .free)))
  (λ_ p hp=>nomatch hp) (λp r ih h q hq=>(aC4.mp hq).elim (λz=>by
   subst z
   have h:=(AQ h).1
   obtain⟨n,k⟩:=q
   cases k with
   | «local»=>exact⟨λz=>(nomatch z),λ_=>JO .local h,λz=>nomatch z⟩
   | cell=>cases h
   | free=>exact⟨λz=>(nomatch z),λz=>(nomatch z),λ_=>⟨JO .free (AQ h).1,(aV5.mp (AQ h).2).imp (JO .cell) (JO .free)⟩⟩
   | _=>exact⟨λz=>(nomatch z),λz=>(nomatch z),λz=>nomatch z⟩) λz=>ih (AQ h).2 q z) ps
def FQ{sc:Scope}{names:List (Str×aP4)}{x:Str}{k:aP4}:(names.map λ(n,k)=>if(k==aF7&&sc.kind == .function&&sc.names.lookup n==some .cell)then(n,aT4)else(n,k)).lookup x=some k->names.lookup x=some k\/k = .cell/\names.lookup x=some .free:=
 aB7 (motive:=λnames=>(names.map λ(n,k)=>if(k==aF7&&sc.kind == .function&&sc.names.lookup n==some .cell)then(n,aT4)else(n,k)).lookup x=some k->names.lookup x=some k\/k = .cell/\names.lookup x=some .free) .inl (λp r ih e=>by
  obtain⟨n,j⟩:=p
  rw[aH8]at e
  have go :∀j',(j'=j\/j' = .cell/\j = .free)->((n,j')::(r.map λ(n,k)=>if(k==aF7&&sc.kind == .function&&sc.names.lookup n==some .cell)then(n,aT4)else(n,k))).lookup x=some k->bH5 x ((n,j)::r)=some k\/k = .cell/\bH5 x ((n,j)::r)=some .free:=λj' hj e=>by
   rw[A1]at e
   rw[A1]
   cases h:x==n with
   | true=>
    rw[h]at e
    have e:some j'=some k:=e
    exact hj.imp (λz=>bO1 some (z.symm.trans (aA2 e))) λz=>⟨(aA2 e).symm.trans z.1,bO1 some z.2⟩
   | false=>rw[h]at e;exact ih e
  cases hc:(j==aF7&&sc.kind == .function&&sc.names.lookup n==some .cell)with
  | true=>exact go .cell (.inr ⟨rfl,aE6 (AQ (AQ hc).1).1⟩) (by dsimp only at e;rw[hc]at e;exact e)
  | false=>exact go j (.inl rfl) (by dsimp only at e;rw[hc]at e;exact e)) names
def Tl{ρ:List (Str×AV)}{x:Str}{v:AV}{xs:List Str}:(pick ρ xs).lookup x=some v->x∈xs/\ρ.lookup x=some v:=
 aB7 (motive:=λxs=>(pick ρ xs).lookup x=some v->x∈xs/\ρ.lookup x=some v) AA (λy r ih e=>by
  have e:bH5 x (aD9 (pick ρ r) (λv=>(y,v)::pick ρ r) (ρ.lookup y))=some v:=e
  have mo:x∈r/\ρ.lookup x=some v->x∈y::r/\ρ.lookup x=some v:=λq=>⟨aC1 _ q.1,q.2⟩
  cases h:ρ.lookup y with
  | none=>rw[h]at e;exact mo (ih e)
  | some u=>
   rw[h]at e
   have e:=(A1 x (y,u) _).symm.trans e
   cases hx:x==y with
   | true=>rw[hx]at e;rw[aE6 hx];exact⟨aB4 ..,h.trans e⟩
   | false=>rw[hx]at e;exact mo (ih e)) xs
def I7{x:Str}{ns:List (Str×aP4)}:(x,aF7)∈ns↔x∈(aB7 [] (λp _ ih=>bif aE0 p.2.ctorIdx 2 then p.1::ih else ih) ns:List Str):=
 aB7 (motive:=λns=>(x,aF7)∈ns↔x∈(aB7 [] (λp _ ih=>bif aE0 p.2.ctorIdx 2 then p.1::ih else ih) ns:List Str)) ⟨λh=>(nomatch h),λh=>(nomatch h)⟩ (λp r ih=>by
  obtain⟨n,k⟩:=p
  show _↔x∈(bif aE0 k.ctorIdx aF7.ctorIdx then n::_ else _)
  cases h:aE0 k.ctorIdx aF7.ctorIdx with
  | true=>rw[My h];exact⟨λz=>(aC4.mp z).elim (λz=>by cases z;exact aB4 ..) λz=>aC1 _ (ih.mp z),λz=>(aC4.mp z).elim (λz=>by rw[z];exact aB4 ..) λz=>aC1 _ (ih.mpr z)⟩
  | false=>exact⟨λz=>(aC4.mp z).elim (λz=>by cases z;cases h) ih.mp,λz=>aC1 _ (ih.mpr z)⟩) ns
def ON{τ σ:St}{x:Str}{xs:List Str}:E6 τ σ xs->x∈xs->τ.ρ.lookup x=σ.ρ.lookup x:=
 aB7 (motive:=λxs=>E6 τ σ xs->x∈xs->τ.ρ.lookup x=σ.ρ.lookup x) (λ_ h=>nomatch h) (λy r ih h q=>(aC4.mp q).elim (λz=>z▸h.1) (ih h.2)) xs
def IX.comp{X:Ω}{P:Pm}{d:Nat}{fN st fM ţ fI:aC3}{sc cs:Scope}{cl:List (Str×aC3)}{C:aC3}(F:IX X P d fN st fM ţ fI sc)(h:cs.kind = .function):IX (X.en (compEnvC cs cl C X.env)) P d fN st fM ţ fI (Bw cs sc):=
 ⟨F.w,F.A,F.glb,F.bui,F.hsc▸rfl,h⟩
inductive t9(X:Ω)(c c₃:Ŋ)(env':Env)(cl:List (Str×aC3))(N:Nat)(J:Nat->St->Prop)(It:Nat->ļ->aE8->Prop)(m:Nat)(s':aA8):Prop
 | mk (i:Nat) (G:ļ) (σ:St) (hi:i+m=N) (R:Ł (X.en env') ⟨G,σ,s'⟩) (j:J i σ) (st:It i G s'.heap) (k:ċ c.G c.s.heap G s'.heap) (nm:ü c₃.σ.n c₃.G G) (n:c₃.σ.n<=σ.n)
  (lk :∀a,(c₃.G.cmp c₃.s.heap.objs.size cl).tag a=some .lock->G.tag a=some .lock) (kp :∀a o,c.s.heap.get? a=some o->(c₃.G.cmp c₃.s.heap.objs.size cl).tag a=some .lock->s'.heap.get? a=some o)
def Ct.letC{X:Ω}{c c':Ŋ}{C:aC3}(x:Ct X c c')(t:c'.G.tag C=some .lock)(h1:X.hs.objs.size<=C)(h2:c.s.heap.objs.size<=C){h':aE8}(hb:aH6 C c'.s.heap h'):Ct X c (c'.hp c'.σ h' c'.s.toks)/\E1 c' (c'.hp c'.σ h' c'.s.toks):=by
 have k :∀a o,a∉[C]->c'.s.heap.get? a=some o->h'.get? a=some o:=λa o n e=>hb.extBut a o (SF n) e
 have q:=x.R.lockAt (t:=c'.s.toks) (wr:=[C]) (λb hb=>aB1.mp hb▸⟨t,h1⟩) k (aB9 hb.1.symm)
 exact⟨⟨⟨λa o e z=>k a o (λhm=>Cd e (aB1.mp hm▸h2)) (x.kp.keep a o e z),x.kp.own,x.kp.mt,hb.1.symm▸x.kp.size,x.kp.lock,x.kp.tok⟩,x.pre.trans q.1,q.2⟩,q.1⟩
def Yp{X:Ω}{W:ń}(S:LS X W){ifs:List Expr}{c:Ŋ}{K:Bool->St->Prop}(h:Vc W.B ifs c.σ K)(R:Ł X c):ĭ X (LU ifs X.env) (A8 X Hh c K) c.s:=by
 cases ifs with
 | nil=>exact wpAny_tests_nil (.here (b:=true) R rfl h)
 | cons e r=>
  cases r with
  | nil=>exact wpAny_tests_one (S.B e c.σ K h c.G c.s R)
  | cons=>exact h.elim
section
variable{X:Ω}{P:Pm}{d:Nat}{fN st fM ţ fI:aC3}{sc:Scope}{Wc:Scope->ń}(F:IX X P d fN st fM ţ fI sc)(H :∀X' sc',IX X' P d fN st fM ţ fI sc'->LS X' (Wc sc'))
include F H
theorem WH{e:Expr}{tg iter:Expr}{ifs:List Expr}{asy:Int}{r:List aF5}{cs:Scope}{p:Pos}{o:Ÿ}{ob:Obj}{newAcc:Sem Value}{rest:Nat->St->(St->Prop)->Prop}{bodyF:Env->Value->Value->Sem Fin}
  {σ:St} {Q:AV->St->Prop} {Qf:Value->aA8->Prop} {use:Option (Value->Sem Unit)} {G:ļ} {s:aA8}
  (h:D1 (Jc sc cs ⟨tg,iter,ifs,asy⟩) (G5 P sc (Wc sc) tg iter σ λitems σ=>BF o items (ET (Wc (Bw cs sc)) ⟨tg,iter,ifs,asy⟩ (rest σ.n)) (Ay cs) σ Q)) (R:Ł X ⟨G,σ,s⟩)
  (hcl:clausesOf e=⟨tg,iter,ifs,asy⟩::r)
  (hnew :∀{Q:Value->aA8->Prop} {s:aA8},Q (.ref s.heap.objs.size) {s with heap:=s.heap.push ob}->ĭ X newAcc Q s)
  (hal :∀c,Ł X c->Ct X c (c.add o ob c.s.toks))
  (hq :∀env it acc,(bN0.compLoop e 0 it acc env).quiet=true/\X.A.under (.compLoop e 0 it acc env)=X.A)
  (hd:asy=0->∀env it D,(aE5 X.L.prog X.L.w).den (.compLoop e 0 it (.ref D) env)=(EH tg ifs iter.pos it env (bodyF env it (.ref D)) (.compLoop e 0 it (.ref D) env)).onRaise (λx=>do noteFrame x env;theTreesLotGoes x))
  (hst:asy=0->∀{env it acc} {R:bD9->aA8->Prop} {s:aA8},aQ3 (aE5 X.L.prog X.L.w) X.A (.compLoop e 0 it acc env) R s->ĭ X (aM3 it) (λit' s'=>aQ3 (aE5 X.L.prog X.L.w) X.A (.compLoop e 0 it' acc env) R s') s->aQ3 (aE5 X.L.prog X.L.w) X.A (.compStart e 0 it acc env) R s)
  (hb :∀cl C it (c':Ŋ) n D K,cs.kind = .function->rest n c'.σ K->Ł (X.en (compEnvC cs cl C X.env)) c'->c'.G.μ n=D->n<c'.σ.n->ĭ (X.en (compEnvC cs cl C X.env)) (bodyF (compEnvC cs cl C X.env) it (.ref D)) (λfin s₅=>fin = .again (.compLoop e 0 it (.ref D) (compEnvC cs cl C X.env))/\A8 (X.en (compEnvC cs cl C X.env)) (α:=Unit) (β:=Unit) JT c' (λ_=>K) () s₅) c'.s)
  (fin :∀c a v C mc,Ct X ⟨G,σ,s⟩ c->Ξ X c a v->Q a c.σ->c.G.tag C=some .lock->X.hs.objs.size<=C->s.heap.objs.size<=C->c.s.heap.Ns C mc->compPost (aE5 X.L.prog X.L.w) X.A (λ_ _=>False) use Qf v C (.ok .next) c.s) :
  ĭ X (comprehension e cs X.env p newAcc false (eval iter X.env) use) Qf s:=by
 obtain⟨hc,h⟩:=Ah h
 obtain⟨hc,c5⟩:=AQ hc
 obtain⟨hc,c3⟩:=AQ hc
 obtain⟨c1,ĳ⟩:=AQ hc
 obtain rfl:asy=0:=aE6 c5
 have hk:cs.kind = .function:=aE6 c1
 have hn:=P0 ĳ
 have hset :∀x,foldedSetIterable iter X.env x=pure x:=by
  clear h hd hb hst
  have c3:=EO c3
  cases iter with
  | Set=>cases c3
  | _=>exact λ_=>rfl
 have hko:=EA F
 have hcells :∀q∈cs.names,q.2 = .free->∃c,X.env.cells.lookup q.1=some c:=λq hq e=>by
  cases hl:X.env.cells.lookup q.1 with
  | some c=>exact⟨c,rfl⟩
  | none=>exact(R.celAll q.1 (hko q.1▸((hn q hq).2.2 e).2) hl).elim
 obtain⟨cl,e1,e2,e3⟩:=VO hcells
 refine wpAny_comprehension_free (use:=use) hcl hset e1 hk (λq hq=>(hn q hq).2.1) ((MY F (H X sc F) h R).mono λv s₁ h₁=>ĭ.mono h₁ λit s₂ hit=>?_)
 cases hit with
 | mk c₁ x I wr items It G₂ e okA self st0 hwr y up hcl=>
 subst e
 obtain⟨J,j0,jt,je⟩:=hcl
 refine hnew ?_
 have x₃:Ct X ⟨G₂,c₁.σ,s₂⟩ (Ŋ.add ⟨G₂,c₁.σ,s₂⟩ o ob s₂.toks):=hal _ y.R
 generalize hc3:Ŋ.add ⟨G₂,c₁.σ,s₂⟩ o ob s₂.toks=c₃ at x₃
 have hs3:({s₂ with heap:=s₂.heap.push ob}:aA8)=c₃.s:=hc3▸rfl
 have hn3:c₃.σ.n=c₁.σ.n+1:=hc3▸rfl
 have hm3:c₃.G.μ c₁.σ.n=s₂.heap.objs.size:=hc3▸ļ.name_mu
 have hσ3:c₃.σ=c₁.σ.new o:=hc3▸rfl
 have up3 :∀a o,s₂.heap.get? a=some o->c₃.s.heap.get? a=some o:=λa o e=>hc3▸aB5 _ e
 show aD7 _ _ _ _ _ {s₂ with heap:=s₂.heap.push ob}
 rw[hs3]
 refine wpAny_newFunctionEnv (λq hq=>(hn q hq).1) (λ_ h=>nomatch h) (λh' hns hsb=>?_) hk
 have Ī :∀a o,c₃.s.heap.get? a=some o->h'.get? a=some o:=λa o e=>hsb.extBut a o (aE2 (aK9 e)) (aB5 _ e)
 have sz:c₃.s.heap.objs.size<h'.objs.size:=hsb.1.symm▸aF8 ..▸aC6 _
 have hkl :∀x,(compEnvC cs cl c₃.s.heap.objs.size X.env).kindOf x=(Bw cs sc).names.lookup x:=λx=>F.hsc▸rfl
 have hcf :∀x,(x,aF7)∈cs.names->(compEnvC cs cl c₃.s.heap.objs.size X.env).kindOf x≠some .local/\X.env.kindOf x≠some .local:=λx hx=>by
  have q:=(hn _ hx).2.2 rfl
  exact⟨λz=>(FQ ((hkl x).symm.trans z)).elim (λz=>nomatch z.symm.trans q.1) (λz=>nomatch z.1),λz=>q.2.elim (λw=>nomatch w.symm.trans ((hko x).symm.trans z)) λw=>nomatch w.symm.trans ((hko x).symm.trans z)⟩
 obtain⟨R₄,k₄,p₄⟩:=x₃.R.enter (env':=compEnvC cs cl c₃.s.heap.objs.size X.env) (cl:=cl) (t:=c₃.s.toks) (ρc:=pick c₁.σ.ρ (Ay cs)) rfl rfl hns Ī sz (λx a e=>(e2 x a e).2) (λx hx hl=>by
  have:(x,aF7)∈cs.names:=hx.elim (λz=>(FQ ((hkl x).symm.trans z)).elim (λz=>bO4 rfl (hn _ (Hj z)).1) λz=>Hj z.2) λz=>(FQ ((hkl x).symm.trans z)).elim Hj λz=>nomatch z.1
  exact e3 x this hl) (λx av e=>have q:=Tl e;have z:=hcf x (I7.mpr q.1);⟨hσ3▸q.2,z.2,z.1⟩) (aB6 _)
 have yk:=y.kp.trans x₃.kp
 have okC:=okA (compEnvC cs cl c₃.s.heap.objs.size X.env)
 have SC:=H _ _ (F.comp (cl:=cl) (C:=c₃.s.heap.objs.size) hk)
 have loop:aQ3 (aE5 X.L.prog X.L.w) X.A (.compLoop e 0 (.ref I) (.ref s₂.heap.objs.size) (compEnvC cs cl c₃.s.heap.objs.size X.env))
   (compPost (aE5 X.L.prog X.L.w) X.A (λ_ _=>False) use Qf (.ref s₂.heap.objs.size) c₃.s.heap.objs.size) {c₃.s with heap:=h',toks:=c₃.s.toks}:=by
  refine LE (hq _ _ _).1 (hq _ _ _).2 (hd rfl _ _ _) (t9 X c₁ c₃ (compEnvC cs cl c₃.s.heap.objs.size X.env) cl items.length J It) (λm s' hI=>?_) items.length
   ⟨0,_,_,bC2 _,R₄,hσ3▸j0,(okA X.env).frame _ _ _ _ _ ((okA X.env).frame _ _ _ _ _ st0 x₃.kp) k₄,yk.trans k₄,λ_ _=>⟨rfl,rfl⟩,aB6 _,λ_ e=>e,λa o e _=>Ī a o (up3 a o (up a o e))⟩
  cases hI with
  | mk i G' σ' hi R' hj hst k nm hn' lk kp=>
  have nw :∀{a o},c₁.s.heap.get? a=some o->a∉wr:=λe hm=>Cd e (hwr _ hm)
  have stepK :∀{s'':aA8},j8 wr s'.heap s''.heap->ċ c₁.G c₁.s.heap G' s''.heap:=λhs=>⟨λa o e q=>hs.1 a o (nw e) (k.keep a o e q),k.own,k.mt,aA0 k.size hs.2,k.lock,k.tok⟩
  have hlt:c₁.σ.n<σ'.n:=aC0 (aB9 hn3.symm) hn'
  cases m with
  | zero=>
   obtain rfl:i=items.length:=hi
   refine ĭ.mono (X:=X) (okC.done ⟨G',σ',s'⟩ R' hst) λr s₅ hr=>?_
   obtain⟨rfl,R₅,hs⟩:=hr
   refine R₅.loc.casesOn λmc hmc _=>?_
   have q:=je σ' hj
   have nm1:ü c₁.σ.n c₁.G G':=λz hz=>have w:=nm z (hn3.symm▸aH1 hz);have č:=(y.pre.trans x₃.pre).nm z hz;⟨w.1.trans č.1,w.2.trans č.2⟩
   have lv:=Ł.leave (X:=X) (c:=c₃) (cb:=c₁) (ci:=⟨G',σ',s₅⟩) (cl:=cl) (t:=s₅.toks) x.R x₃.R yk R₅ (stepK hs) lk (λa o e z=>hs.1 a o (nw e) (kp a o e z)) rfl rfl nm1 (aD8 hlt) (λx a e av h1 h2=>have z:=(e2 x a e).1;⟨(ON q.1 (I7.mp z)).trans h1,(hcf x z).1⟩) ⟨rfl,λ_ _=>rfl⟩ (aB6 _)
   exact fin _ (.ref c₁.σ.n) _ c₃.s.heap.objs.size mc (x.trans lv) (bN3 (bO1 _ (hm3.symm.trans (nm c₁.σ.n (hn3.symm▸aC6 _)).1.symm)) hlt) q.2 (bO1 (cond · (some A3.lock) _) (bO8 _)) x₃.R.size (aA0 x.kp.size yk.size) hmc
  | succ m=>
   refine ĭ.mono (X:=X) (okC.item i ⟨G',σ',s'⟩ R' (hi▸aJ3 (bC4 m)) hst) λr s₃ hr=>?_
   obtain⟨u,rfl,hgo⟩:=hr
   refine ĭ.mono (X:=X) hgo λ_ s₄ hx=>?_
   cases hx with
   | mk av hav hvr R₄' st₄ hs=>
   have turned :∀c₇:Ŋ,Ct (X.en (compEnvC cs cl c₃.s.heap.objs.size X.env)) ⟨G',σ',s₄⟩ c₇->J (i+1) c₇.σ->∃m',m'<m+1/\t9 X c₁ c₃ (compEnvC cs cl c₃.s.heap.objs.size X.env) cl items.length J It m' c₇.s:=λc₇ z q₇=>
    ⟨m,aC6 m,i+1,c₇.G,c₇.σ,(aW5 i 1 m).trans hi,z.R,q₇,(okA X.env).frame _ _ _ _ _ st₄ z.kp,(stepK hs).trans z.kp,λw hw=>have a:=z.pre.nm w (aC0 hw hn');have b:=nm w hw;⟨a.1.trans b.1,a.2.trans b.2⟩,aA0 hn' z.pre.n,λa e=>z.kp.lock a (lk a e),λa o e q=>z.kp.lk (lk a q) o (hs.1 a o (nw e) (kp a o e q))⟩
   refine ĭ.mono (X:=X) (SC.A tg av ⟨G',σ',s₄⟩ _ (jt i av σ' hav hj) R₄' hvr) λ_ s₅ q=>?_
   cases q with
   | mk G₅ σ₅ _ x₅ _ q₅=>
   refine ĭ.mono (X:=X) (Yp SC (c:=⟨G₅,σ₅,s₅⟩) q₅ x₅.R) λb s₆ q=>?_
   cases q with
   | mk G₆ σ₆ b' x₆ e₆ q₆=>
   cases e₆
   have x56:=x₅.trans x₆
   cases b with
   | false=>exact turned ⟨G₆,σ₆,s₆⟩ x56 q₆
   | true=>
    have hμ:G₆.μ c₁.σ.n=s₂.heap.objs.size:=(x56.pre.nm c₁.σ.n hlt).1.trans ((nm c₁.σ.n (hn3.symm▸aC6 _)).1.trans hm3)
    refine ĭ.mono (X:=X) (hb cl c₃.s.heap.objs.size (.ref I) ⟨G₆,σ₆,s₆⟩ c₁.σ.n _ _ hk q₆ x₆.R hμ (aC0 hlt x56.pre.n)) λfin s₇ q=>?_
    obtain⟨e₇,q⟩:=q
    cases q with
    | mk G₇ σ₇ _ x₇ _ q₇=>exact⟨e₇,turned ⟨G₇,σ₇,s₇⟩ (x56.trans x₇) q₇⟩
 exact hst rfl loop (ĭ.any (self 0 _ {c₃.s with heap:=h',toks:=c₃.s.toks} (λv s'=>v = .ref I/\s' = {c₃.s with heap:=h',toks:=c₃.s.toks}) ((okA X.env).frame _ _ _ _ _ ((okA X.env).frame _ _ _ _ _ st0 x₃.kp) k₄) ⟨rfl,rfl⟩) λv s' q=>by obtain⟨rfl,rfl⟩:=q;exact loop)
end
abbrev HU(X:Ω)(c':Ŋ)(K:St->Prop)(c:bN0):Fin->aA8->Prop:=λfin s₅=>fin = .again c/\A8 X (α:=Unit) (β:=Unit) JT c' (λ_=>K) () s₅
section
variable{X:Ω}{W:ń}(S:LS X W){n:Nat}{D:aC3}{c':Ŋ}{K:St->Prop}{c:bN0}
include S
theorem dA{elt:Expr}(h:aW elt W n c'.σ K)(R:Ł X c')(hμ:c'.G.μ n=D)(hlt:n<c'.σ.n):ĭ X (TD elt X.env (.ref D) >>= λ_=>again c) (HU X c' K c) c'.s:=by
 refine ĭ.bind (ĭ.bind ((S.E elt c'.σ _ h).go R λu c₆ vu h₆ x₆ r₆=>?_))
 have hμ':c₆.G.μ n=D:=(x₆.pre.nm n hlt).1.trans hμ
 refine ĭ.bind (ĭ.mono (Lh (b:=.append) h₆ x₆.R (vas:=[.ref D,vu]) ⟨_,_,rfl,⟨bO1 _ hμ'.symm,aC0 hlt x₆.pre.n⟩,_,_,rfl,r₆,rfl⟩) λ_ s₇ q=>?_)
 cases q with
 | mk G₇ σ₇ _ x₇ _ q₇=>exact ĭ.pure (ĭ.pure ⟨rfl,.to (c':=⟨G₇,σ₇,s₇⟩) (b:=()) (x₆.trans x₇) trivial q₇⟩)
theorem bU{ø vx:Expr}(h:Vm ø vx W n c'.σ K)(R:Ł X c')(hμ:c'.G.μ n=D)(hlt:n<c'.σ.n):ĭ X (VF ø vx X.env D >>= λ_=>again c) (HU X c' K c) c'.s:=by
 refine ĭ.bind (ĭ.bind ((S.E ø c'.σ _ h).go R λa c₁ va h₁ x₁ r₁=>ĭ.bind (ĭ.hold ((S.E vx c₁.σ _ h₁).go x₁.R λv c₂ vv h₂ x₂ r₂=>ĭ.bind (aL8 (ĭ.hold ?_))))))
 have x:=x₁.trans x₂
 have hμ':c₂.G.μ n=D:=(x.pre.nm n hlt).1.trans hμ
 have rD:Ξ X c₂ (.ref n) (.ref D):=⟨bO1 _ hμ'.symm,aC0 hlt x.pre.n⟩
 refine H9 (P:=λu=>u = .ref D->ĭ X (dictSet D va vv) (λ_ s=>ĭ X (again c) (HU X c' K c) s) c₂.s) h₂ x₂.R rD (λy es kvs hx p1 ŝ hz h e=>?_) rfl
 cases e
 exact AE h λk e h=>wpAny_dictSet_pairs (CA e (x₂.pre.v r₁)) p1.1 (λh' hd hs=>ĭ.pure ⟨rfl,have z:=x₂.R.setDict _ hx hs ⟨hd,p1.2⟩ (ŝ.dset k r₂);.to (b:=()) (x.trans z) trivial h⟩) hz
end
section
variable{X:Ω}{P:Pm}{d:Nat}{fN st fM ţ fI:aC3}{sc:Scope}{Wc:Scope->ń}(F:IX X P d fN st fM ţ fI sc)(H :∀X' sc',IX X' P d fN st fM ţ fI sc'->LS X' (Wc sc'))
include F H
theorem Yd(c:Ŋ)(R:Ł X c):Ct X c (c.add (.list []) (Ao [] 0) c.s.toks):=R.alloc λp e=>⟨[],⟨(0,none),(bO1 _ e).trans (aC5 _ rfl)⟩,rfl⟩
theorem S9{elt:Expr}{gens:List aF5}{cs:Scope}{p:Pos}{σ:St}{Q:AV->St->Prop}{Qf:Value->aA8->Prop}{use:Option (Value->Sem Unit)}{G:ļ}{s:aA8}(h:j4 P Wc sc elt gens cs σ Q)(R:Ł X ⟨G,σ,s⟩)
  (fin :∀c a v C mc,Ct X ⟨G,σ,s⟩ c->Ξ X c a v->Q a c.σ->c.G.tag C=some .lock->X.hs.objs.size<=C->s.heap.objs.size<=C->c.s.heap.Ns C mc->compPost (aE5 X.L.prog X.L.w) X.A (λ_ _=>False) use Qf v C (.ok .next) c.s) :
  ĭ X (comprehension (.ListComp elt gens cs p) cs X.env (firstIterPos gens p) (newList []) (firstAsync gens) (firstIter gens X.env) use) Qf s:=by
 obtain⟨hr,h⟩:=Ah h
 cases gens with
 | nil=>exact h.elim
 | cons g r=>
  cases r with
  | cons=>cases hr
  | nil=>
  obtain⟨tg,iter,ifs,asy⟩:=g
  have h:D1 (Jc sc cs ⟨tg,iter,ifs,asy⟩) (G5 P sc (Wc sc) tg iter σ λitems σ=>BF (.list []) items (ET (Wc (Bw cs sc)) ⟨tg,iter,ifs,asy⟩ (aW elt (Wc (Bw cs sc)) σ.n)) (Ay cs) σ Q):=h
  obtain rfl:asy=0:=aE6 (AQ (Ah h).1).2
  exact WH F H (e:=.ListComp elt [⟨tg,iter,ifs,0⟩] cs p) (rest:=λn=>aW elt (Wc (Bw cs sc)) n) (bodyF:=λenv it acc=>TD elt env acc >>= λ_=>again (.compLoop (.ListComp elt [⟨tg,iter,ifs,0⟩] cs p) 0 it acc env)) h R rfl
   (λq=>aH2 q) (Yd F H) (λ_ _ _=>⟨rfl,rfl⟩) (λ_ env it D=>QF) (λ_ {env it acc R s} h0 h1=>codeAny_compStart_list h0 (ĭ.any h1 λ_ _ q=>q))
   (λcl C it c' n D K hk q R hμ hlt=>dA (H _ _ (F.comp (cl:=cl) (C:=C) hk)) q R hμ hlt) fin
theorem XE(c:Ŋ)(R:Ł X c):Ct X c (c.add (.dict []) {cls:=.type "dict",data:=.dict #[] 0} c.s.toks):=R.alloc λq e=>⟨[],e▸⟨aE8.DictOf.new c.s.heap,beq_eq_false_iff_ne.mpr λz=>bO4 F.w.sys (aS6.mpr (z▸Fl R))⟩,rfl⟩
theorem Qb{ø vx:Expr}{gens:List aF5}{cs:Scope}{p:Pos}{σ:St}{Q:AV->St->Prop}{Qf:Value->aA8->Prop}{use:Option (Value->Sem Unit)}{G:ļ}{s:aA8}(h:jX P Wc sc ø vx gens cs σ Q)(R:Ł X ⟨G,σ,s⟩)
  (fin :∀c a v C mc,Ct X ⟨G,σ,s⟩ c->Ξ X c a v->Q a c.σ->c.G.tag C=some .lock->X.hs.objs.size<=C->s.heap.objs.size<=C->c.s.heap.Ns C mc->compPost (aE5 X.L.prog X.L.w) X.A (λ_ _=>False) use Qf v C (.ok .next) c.s) :
  ĭ X (comprehension (.DictComp ø vx gens cs p) cs X.env (firstIterPos gens p) newDict (firstAsync gens) (firstIter gens X.env) use) Qf s:=by
 obtain⟨hr,h⟩:=Ah h
 cases gens with
 | nil=>exact h.elim
 | cons g r=>
  cases r with
  | cons=>cases hr
  | nil=>
  obtain⟨tg,iter,ifs,asy⟩:=g
  have h:D1 (Jc sc cs ⟨tg,iter,ifs,asy⟩) (G5 P sc (Wc sc) tg iter σ λitems σ=>BF (.dict []) items (ET (Wc (Bw cs sc)) ⟨tg,iter,ifs,asy⟩ (Vm ø vx (Wc (Bw cs sc)) σ.n)) (Ay cs) σ Q):=h
  obtain rfl:asy=0:=aE6 (AQ (Ah h).1).2
  exact WH F H (e:=.DictComp ø vx [⟨tg,iter,ifs,0⟩] cs p) (rest:=λn=>Vm ø vx (Wc (Bw cs sc)) n) (bodyF:=λenv it acc=>match acc with | .ref D=>VF ø vx env D >>= λ_=>again (.compLoop (.DictComp ø vx [⟨tg,iter,ifs,0⟩] cs p) 0 it acc env) | _=>pure (.done .next)) h R rfl
    (ob:={cls:=.type "dict",data:=.dict #[] 0}) (λq=>aH2 q) (XE F H) (λ_ _ _=>⟨rfl,rfl⟩) (λ_ env it D=>Qv) (λ_ {env it acc R s} h0 h1=>codeAny_compStart_dict h0 (ĭ.any h1 λ_ _ q=>q))
    (λcl C it c' n D K hk q R hμ hlt=>bU (H _ _ (F.comp (cl:=cl) (C:=C) hk)) q R hμ hlt) fin
theorem gB{elt:Expr}{gens:List aF5}{cs:Scope}{p:Pos}{σ:St}{Q:AV->St->Prop}(h:j4 P Wc sc elt gens cs σ Q):ŧ X (eval (.ListComp elt gens cs p) X.env) σ Q:=λG s R=>by
 rw[eval_ListComp]
 exact S9 F H h R λc a v C mc x r q t h1 h2 hm=>⟨mc,hm,λh' hb=>have y:=x.letC t h1 h2 hb;.to (b:=a) y.1 (y.2.v r) q⟩
theorem aE{ø vx:Expr}{gens:List aF5}{cs:Scope}{p:Pos}{σ:St}{Q:AV->St->Prop}(h:jX P Wc sc ø vx gens cs σ Q):ŧ X (eval (.DictComp ø vx gens cs p) X.env) σ Q:=λG s R=>by
 show ĭ X (comprehension (.DictComp ø vx gens cs p) cs X.env (firstIterPos gens p) newDict (firstAsync gens) (firstIter gens X.env)) _ _
 exact Qb F H h R λc a v C mc x r q t h1 h2 hm=>⟨mc,hm,λh' hb=>have y:=x.letC t h1 h2 hb;.to (b:=a) y.1 (y.2.v r) q⟩
theorem dJ{t:Sem Value}{u:Value->Sem Unit}{σ:St}{Q:AV->St->Prop}{Q':St->Prop}{G:ļ}{s:aA8}(hu :∀c a v,Ł X c->Ξ X c a v->Q a c.σ->GD X c Q' (u v))
  (core :∀Qf:Value->aA8->Prop,(∀c a v C mc,Ct X ⟨G,σ,s⟩ c->Ξ X c a v->Q a c.σ->c.G.tag C=some .lock->X.hs.objs.size<=C->s.heap.objs.size<=C->c.s.heap.Ns C mc->compPost (aE5 X.L.prog X.L.w) X.A (λ_ _=>False) (some u) Qf v C (.ok .next) c.s)->ĭ X t Qf s) :
  GD X ⟨G,σ,s⟩ Q' (t >>= λ_=>pure ()):=by
 refine ĭ.bind (core (λ_ s'=>ĭ X (pure ()) (A8 X JT ⟨G,σ,s⟩ λ_=>Q') s') λc a v C mc x r q t h1 h2 hm=>ĭ.mono (hu c a v x.R r q) λ_ s₂ z=>?_)
 cases z with
 | mk G₂ σ₂ b x₂ _ q₂=>exact⟨mc,hm.at' λo e=>x₂.kp.lk t o e,λh' hb=>have y:=(x.trans x₂).letC (x₂.kp.lock C t) h1 h2 hb;ĭ.pure (.to (b:=()) y.1 trivial q₂)⟩
theorem Ys{elt:Expr}{gens:List aF5}{cs:Scope}{p:Pos}{u:Value->Sem Unit}{σ:St}{Q:AV->St->Prop}{Q':St->Prop}(h:j4 P Wc sc elt gens cs σ Q)(hu :∀c a v,Ł X c->Ξ X c a v->Q a c.σ->GD X c Q' (u v))(G:ļ)(s:aA8)(R:Ł X ⟨G,σ,s⟩) :
  GD X ⟨G,σ,s⟩ Q' (bA9 (.ListComp elt gens cs p) X.env u):=dJ F H hu λQf=>S9 (Qf:=Qf) F H h R
theorem U2{ø vx:Expr}{gens:List aF5}{cs:Scope}{p:Pos}{u:Value->Sem Unit}{σ:St}{Q:AV->St->Prop}{Q':St->Prop}(h:jX P Wc sc ø vx gens cs σ Q)(hu :∀c a v,Ł X c->Ξ X c a v->Q a c.σ->GD X c Q' (u v))(G:ļ)(s:aA8)(R:Ł X ⟨G,σ,s⟩) :
  GD X ⟨G,σ,s⟩ Q' (bA9 (.DictComp ø vx gens cs p) X.env u):=dJ F H hu λQf=>Qb (Qf:=Qf) F H h R
end
section
variable{X:Ω}{P:Pm}{d:Nat}{fN st fM ţ fI:aC3}{sc:Scope}{W:ń}(F:IX X P d fN st fM ţ fI sc)(S:LS X W)
include F S
theorem sY{Wc:Scope->ń}(H :∀X' sc',IX X' P d fN st fM ţ fI sc'->LS X' (Wc sc'))(e:Expr)(σ:St)(Q:AV->St->Prop)(h:Qt P sc Wc W e σ Q):ŧ X (eval e X.env) σ Q:=
 Expr.casesOn (motive_1:=λe=>Qt P sc Wc W e σ Q->ŧ X (eval e X.env) σ Q) e (λ_ _ _=>aA9) (λ_ _ _=>aA9) (λl op r p h G s R=>wpAny_BinOp ((S.E l σ _ h).go (c:=⟨G,σ,s⟩) R λa c₁ va h₁ x₁ r₁=>(S.E r _ _ h₁).go x₁.R λb c₂ vb h₂ x₂ r₂=>A8.up (fZ h₂ x₂.R (x₂.pre.v r₁) r₂) (x₁.trans x₂))) (λ_ _ _=>bH F S) (λ_ _ _ _=>aA9) (λ_ _ _ _=>QR S) (λ_ _ _=>U3 F) (λ_ _ _=>aA9) (λ_ _ _ _=>gB F H) (λ_ _ _ _=>aA9) (λ_ _ _ _ _=>aE F H) (λ_ _ _ _=>aA9) (λ_ _=>aA9) (λ_ _=>aA9) (λ_ _=>aA9) (λ_ _ _ _=>L4 F S) (λ_ _ _ _=>Tq F S (aH F)) (λ_ _ _ _=>aA9) (λ_ _=>aA9) (λ_ _ _=>Po F) (λ_ _ _=>Uk F S) (λ_ _ _=>W2 S) (λ_ _=>aA9) (λ_ _ h=>KN F (Ah h).1 (Ah h).2) (λ_ _=>UG S) (λ_ _ _=>Qs S) (λ_ _ _ _=>aA9) h
theorem F3{e:Expr}{σ:St}{Q:Bool->St->Prop}(he:isTrue e X.env (eval e X.env)=(do let v<-eval e X.env;standAt e.pos;aW1 [v] (truthy v)))(h:W.E e σ λv σ=>Ce v σ Q):í X (isTrue e X.env (eval e X.env)) σ Q:=λG s R=>
 isTrue_plain ((S.E e σ _ h).go (c:=⟨G,σ,s⟩) R λa c₁ va h₁ x₁ r₁=>A8.up (KL h₁ x₁.R r₁) x₁) he
theorem Je{l:Expr}{ops:List aZ5}{rs:List Expr}{p:Pos}{Ď:Sem Value}{σ:St}{Q:Bool->St->Prop}(h:Fj W l ops rs σ λv σ=>Ce v σ Q):í X (isTrue (.Compare l ops rs p) X.env Ď) σ Q:=λG s R=>
 AE h λop e1 h=>AE h λr e2 h=>IB (P:=λops=>ĭ X (isTrue (.Compare l ops rs p) X.env Ď) (A8 X Hh ⟨G,σ,s⟩ Q) s) e1 (IB (P:=λrs=>ĭ X (isTrue (.Compare l [op] rs p) X.env Ď) (A8 X Hh ⟨G,σ,s⟩ Q) s) e2
  (wpAny_isTrue_Compare1 ((S.E l σ _ (Ah h).2).go (c:=⟨G,σ,s⟩) R λa c₁ va h₁ x₁ r₁=>(S.E r _ _ h₁).go x₁.R λb c₂ vb h₂ x₂ r₂=>
   ĭ.mono (Lm (aD5 (aA0 (aF6 (by decide:10<=40) _) (aQ5 (aD0 _ _) 40)) F.A.2.2) h₂ x₂.R (x₂.pre.v r₁) r₂) λv s₃ q=>q.casesOn λG₃ σ₃ c y e q=>
    A8.up (KL (c:=⟨G₃,σ₃,s₃⟩) q y.R e) ((x₁.trans x₂).trans y)) (EO (Ah h).1)))
theorem Pt{l:Expr}{ops:List aZ5}{rs:List Expr}{p:Pos}{Ď:Sem Value}{σ:St}{Q:Bool->St->Prop}(h:Sl W l ops rs σ Q):í X (isTrue (.Compare l ops rs p) X.env Ď) σ Q:=λG s R=>
 AE h λo e1 h=>AE h λr e2 h=>Qe (P:=λops=>ĭ X (isTrue (.Compare l ops rs p) X.env Ď) (A8 X Hh ⟨G,σ,s⟩ Q) s) e1 (Qe (P:=λrs=>ĭ X (isTrue (.Compare l [o.1,o.2] rs p) X.env Ď) (A8 X Hh ⟨G,σ,s⟩ Q) s) e2 (by
  obtain⟨hm,h⟩:=Ah h
  have cmp :∀{op:aZ5} {c:Ŋ} {a b:AV} {va vb:Value} {Q:AV->St->Prop},Ł X c->FA op a b c.σ Q->Ξ X c a va->Ξ X c b vb->Ħ X c Q (aU7 op va vb):=λR h ra rb=>Lm (aD5 (aA0 (aF6 (by decide:10<=40) _) (aQ5 (aD0 _ _) 40)) F.A.2.2) h R ra rb
  refine isTrue_chain ((S.E l σ _ h).go (c:=⟨G,σ,s⟩) R λa c₁ va h₁ x₁ r₁=>test_link ((S.E r.1 _ _ h₁).go x₁.R λb c₂ vb h₂ x₂ r₂=>ĭ.mono (cmp x₂.R h₂ (x₂.pre.v r₁) r₂) λv s₃ q=>?_)) (EO hm)
  cases q with
  | mk G₃ σ₃ av x₃ r₃ q₃=>
  refine ĭ.mono (KL (c:=⟨G₃,σ₃,s₃⟩) q₃ x₃.R r₃) λt s₄ q=>?_
  cases q with
  | mk G₄ σ₄ t' x₄ e₄ q₄=>
  cases e₄
  have x:=(x₁.trans x₂).trans (x₃.trans x₄)
  cases t with
  | false=>exact .to (c':=⟨G₄,σ₄,s₄⟩) (b:=false) x rfl q₄
  | true=>exact test_last ((S.E r.2 _ _ q₄).go (c:=⟨G₄,σ₄,s₄⟩) x₄.R λc c₅ vc h₅ x₅ r₅=>ĭ.mono (cmp x₅.R h₅ ((x₃.trans (x₄.trans x₅)).pre.v r₂) r₅) λv s₆ q=>q.casesOn λG₆ σ₆ w y e q=>A8.up (KL (c:=⟨G₆,σ₆,s₆⟩) q y.R e) ((x.trans x₅).trans y))))
theorem UU{l:Expr}{ops:List aZ5}{rs:List Expr}{p:Pos}{Ď:Sem Value}{σ:St}{Q:Bool->St->Prop}(h:Rw W l ops rs σ Q):í X (isTrue (.Compare l ops rs p) X.env Ď) σ Q:=by
 unfold Rw at h
 cases h2:aE0 ops.length 2 with
 | false=>rw[h2]at h;exact Je F S h
 | true=>rw[h2]at h;exact Pt F S h
theorem sT(e:Expr)(σ:St)(Q:Bool->St->Prop)(h:RB W e σ Q):í X (isTrue e X.env (eval e X.env)) σ Q:=
 Expr.casesOn (motive_1:=λe=>RB W e σ Q->í X (isTrue e X.env (eval e X.env)) σ Q) e (λop vs p h G s R=>wpAny_isTrue_BoolOp (aP S vs h G s R)) (λ_ _ _=>aA9) (λ_ _ _ _=>aA9) (λop x p h G s R=>KC (Ah h).1▸wpAny_isTrue_Not ((S.B x σ _ (Ah h).2).go (c:=⟨G,σ,s⟩) R λc c₁ vc h₁ x₁ r₁=>.to (b:=!c) x₁ (bO1 not r₁) h₁)) (λ_ _ _ _=>aA9) (λ_ _ _ _=>aA9) (λ_ _ _=>aA9) (λ_ _ _=>aA9) (λ_ _ _ _=>aA9) (λ_ _ _ _=>aA9) (λ_ _ _ _ _=>aA9) (λ_ _ _ _=>aA9) (λ_ _=>aA9) (λ_ _=>aA9) (λ_ _=>aA9) (λ_ _ _ _=>UU F S) (λ_ _ _ _=>F3 F S rfl) (λ_ _ _ _=>aA9) (λ_ _=>aA9) (λ_ _ _=>F3 F S rfl) (λ_ _ _=>F3 F S rfl) (λ_ _ _=>aA9) (λ_ _=>aA9) (λ_ _=>F3 F S rfl) (λ_ _=>aA9) (λ_ _ _=>aA9) (λ_ _ _ _=>aA9) h
theorem Nn{es:List Expr}{k:Nat}{p:Pos}{v:AV}{c:Ŋ}{Q:St->Prop}{u:Value}(h:D1 (CD es) (Oz v es.length c.σ λvs σ=>jR W.A es vs σ Q))(R:Ł X c)(r:Ξ X c v u):GD X c Q (assign (.Tuple es k p) X.env u):=by
 obtain⟨h1,h⟩:=Ah h
 show ĭ X _ _ _
 rw[arm_assign_Tuple]
 refine ĭ.bind (aL8 ?_)
 unfold unpack
 rw[Dx X.env es h1]
 have e1:(es.map λe=>(false,assign e X.env)).findIdx? (·.1)=none:=List.findIdx?_eq_none_iff.mpr λx hx=>(aI5.mp hx).elim λy e=>e.2▸rfl
 rw[e1,aA6,aG4]
 exact ĭ.bind (ĭ.hold (ĭ.mono (V8 F.A.1 F.w.N.toMatC h R r) λvs s₁ q=>q.casesOn λG₁ σ₁ avs x₁ r₁ q₁=>A8.up (gE S (c:=⟨G₁,σ₁,s₁⟩) q₁ x₁.R r₁) x₁))
theorem lL(t:Expr)(v:AV)(c:Ŋ)(Q:St->Prop)(h:SN P sc W t v c.σ Q){u:Value}(R:Ł X c)(r:Ξ X c v u):GD X c Q (assign t X.env u):=
 Expr.casesOn (motive_1:=λt=>SN P sc W t v c.σ Q->GD X c Q (assign t X.env u)) t (λ_ _ _=>aA9) (λ_ _ _=>aA9) (λ_ _ _ _=>aA9) (λ_ _ _=>aA9) (λ_ _ _ _=>aA9) (λ_ _ _ _=>aA9) (λ_ _ _=>aA9) (λ_ _ _=>aA9) (λ_ _ _ _=>aA9) (λ_ _ _ _=>aA9) (λ_ _ _ _ _=>aA9) (λ_ _ _ _=>aA9) (λ_ _=>aA9) (λ_ _=>aA9) (λ_ _=>aA9) (λ_ _ _ _=>aA9) (λ_ _ _ _=>aA9) (λ_ _ _ _=>aA9) (λ_ _=>aA9) (λ_ _ _=>aA9) (λo a p h=>arm_assign_Attribute ..▸ĭ.bind (ĭ.hold ((S.E o c.σ _ h).go R λov c₁ vo h₁ x₁ r₁=>ĭ.bind (aL8 (ĭ.bind (ĭ.hold (ĭ.mono (A8.up (iJ F.w.K h₁ x₁.R r₁ (x₁.pre.v r)) x₁) λ_ s₂ h₂=>wpAny_release h₂))))))) (λo i p h=>arm_assign_Subscript ..▸ĭ.bind (ĭ.hold ((S.E o c.σ _ h).go R λov c₁ vo h₁ x₁ r₁=>ĭ.bind (ĭ.hold ((S.E i c₁.σ _ h₁).go x₁.R λiv c₂ vi h₂ x₂ r₂=>ĭ.bind (aL8 (ĭ.bind (ĭ.hold (ĭ.mono (A8.up (b5 h₂ x₂.R (x₂.pre.v r₁) r₂ ((x₁.trans x₂).pre.v r)) (x₁.trans x₂)) λ_ s₃ h₃=>wpAny_release h₃))))))))) (λ_ _=>aA9) (λx p h=>wpAny_assign_Name (JX F (Ah h).1 R r (Ah h).2)) (λ_ _=>aA9) (λes k p h=>Nn F S h R r) (λ_ _ _ _=>aA9) h
end
def bW{P:Pm}{d:Nat}{fN st fM ţ fI:aC3}(f:Nat) :∀X sc,IX X P d fN st fM ţ fI sc->LS X (Md P f sc):=
 aR2 (λ_ _ _=>⟨λ_ _ _=>aA9,λ_ _ _=>aA9,λ_ _ _ _=>aA9,λ_ _ _ _ _ _ _ _=>aA9,λ_ _ _ _ _ _ _ _ _=>aA9⟩) (λf H X sc F=>have S:=H X sc F;⟨sY F S H,sT F S,λt v c Q h _ R r=>lL F S t v c Q h R r,λelt gens cs p u σ Q Q' h=>Ys F H h,λø vx gens cs p u σ Q Q' h=>U2 F H h⟩) f
def snd{X:Ω}{P:Pm}{d:Nat}{fN st fM ţ fI:aC3}{sc:Scope}(F:IX X P d fN st fM ţ fI sc)(f:Nat):LS X (ws P sc f):=bW f X sc F
inductive Bx where
 | next | brk | cont
 | ret (v:AV)
abbrev ŏ:=Bx->St->Prop
abbrev ì:=aF3->St->ŏ->Prop
def Aa(σ τ:St):Prop:=∀X G s,Ł X ⟨G,σ,s⟩->∃G',ċ G s.heap G' s.heap/\Ł X ⟨G',τ,s⟩
theorem Aa.refl(σ:St):Aa σ σ:=λ_ G s R=>⟨G,.refl _ _,R⟩
theorem Aa.trans{σ τ υ:St}(a:Aa σ τ)(b:Aa τ υ):Aa σ υ:=λX G s R=>(a X G s R).elim λG' p=>(b X G' s p.2).imp λG'' q=>⟨p.1.trans q.1,q.2⟩
def Ri(e:Expr):Bool:=ix e 8||ix e 9||ix e 10
noncomputable def MX(sc:Scope):Env:={scope:=sc,locals:=0,globals:=0,cells:=[]}
noncomputable def kD{α:Type}(t:Sem α):Option α:=Sem.casesOn (motive:=λ_=>Option α) t (λa=>some a) (λ_=>none) (λ_=>none) (λ_=>none) (λ_ _=>none) (λ_ _=>none) (λ_ _ _=>none) (λ_ _ _ _=>none) (λ_ _=>none) (λ_ _=>none) (λ_ _=>none) (λ_ _=>none) (λ_=>none) (λ_=>none) (λ_ _ _=>none) (λ_ _ _=>none) (λ_ _ _ _ _=>none) (λ_ _=>none) (λ_ _=>none) (λ_ _=>none) (λ_ _ _ _=>none) (λ_ _ _ _=>none) (λ_=>none) (λ_ _=>none) (λ_=>none) (λ_ _ _ _ _=>none)
def RC{α:Type}{t:Sem α}{a:α}(e:kD t=some a):t=pure a:=Sem.casesOn (motive:=λt=>kD t=some a->t=pure a) t (λ_ e=>bO1 _ (aA2 e)) (λ_=>AA) (λ_=>AA) (λ_=>AA) (λ_ _=>AA) (λ_ _=>AA) (λ_ _ _=>AA) (λ_ _ _ _=>AA) (λ_ _=>AA) (λ_ _=>AA) (λ_ _=>AA) (λ_ _=>AA) (λ_=>AA) (λ_=>AA) (λ_ _ _=>AA) (λ_ _ _=>AA) (λ_ _ _ _ _=>AA) (λ_ _=>AA) (λ_ _=>AA) (λ_ _=>AA) (λ_ _ _ _=>AA) (λ_ _ _ _=>AA) (λ_=>AA) (λ_ _=>AA) (λ_=>AA) (λ_ _ _ _ _=>AA) e
def B8(A:ř)(ts:List Expr):AV->St->(St->Prop)->Prop:=aB7 (λ_ σ Q=>Q σ) (λt _ ih v σ Q=>A t v σ λσ=>ih v σ Q) ts
def Z5(sc:Scope)(xs:List Str):List AV->St->(St->Prop)->Prop:=aB7 (λvs σ Q=>nil vs (Q σ)) (λx _ ih vs σ Q=>BH vs λv vs=>D1 (EB sc x) (ih vs (σ.put x v) Q)) xs
def N6(sc:Scope)(W:ń)(ts:List Expr)(e:Expr)(line:Nat)(σ:St)(Q:ŏ):Prop:=D1 (CD ts) (Ap (kD (swapsWithSole ts e line (MX sc))) λb=>aI6 (Ap (kD (bE4 ts e (MX sc))) λo=>W.E e σ λv σ=>
 aD9 (B8 W.A ts v σ λσ=>Q .next σ) (λxs=>Oz v xs.length σ λvs σ=>Z5 sc xs.reverse vs.reverse σ λσ=>Q .next σ) o) (D1 (ix e 8||ix e 10) (W.E e σ λv σ=>B8 W.A ts v σ λσ=>Q .next σ)) b)
def Xi(b:Bool)(σ:St)(K:St->Prop):Prop:=aI6 (K σ) (∃τ,Aa σ τ/\K τ) b
def wL(P:Pm)(S:ì)(ss:List aF3):St->ŏ->Prop:=aB7 (λσ Q=>Q .next σ) (λs _ ih σ Q=>Xi (P.wk s.pos) σ λτ=>S s τ λfl υ=>Bx.rec (ih υ Q) (Q .brk υ) (Q .cont υ) (λv=>Q (.ret v) υ) fl) ss
def turn(on:St->Prop)(Q:ŏ)(fl:Bx)(σ:St):Prop:=Bx.rec (on σ) (∃τ,Aa σ τ/\Q .next τ) (on σ) (λr=>Q (.ret r) σ) fl
def EM(items:List AV)(tn:AV->St->ŏ->Prop)(els:St->ŏ->Prop)(σ:St)(Q:ŏ):Prop:=
 ∃I:Nat->St->Prop,(∃τ,Aa σ τ/\I 0 τ)/\(∀k σ v,items[k]?=some v->I k σ->tn v σ (turn (λσ=>∃τ,Aa σ τ/\I (k+1) τ) Q))/\∀σ,I items.length σ->els σ Q
def HB(test:St->(Bool->St->Prop)->Prop)(body els:St->ŏ->Prop)(σ:St)(Q:ŏ):Prop:=
 ∃(I:Nat->St->Prop) (m:Nat),(∃τ,Aa σ τ/\I m τ)/\∀m σ,I m σ->test σ λc σ=>BX c (body σ (turn (λσ=>∃m' τ,m'<m/\Aa σ τ/\I m' τ) Q)) (els σ Q)
def iQ(P:Pm)(sc:Scope)(W:ń)(t:Expr)(op:bF0)(e:Expr)(σ:St)(Q:ŏ):Prop:=D1 (ix t 23&&At (BI t)&&EB sc (BI t)) (Hl P sc (BI t) σ λa σ=>W.E e σ λb σ=>XS op a b σ λr σ=>Q .next (σ.put (BI t) r))
def RY(P:Pm)(sc:Scope)(W:ń)(S:ì):ì:=λst σ Q=>bK4 (motive_2:=λ_=>Prop) st (λ_ _ _ _ _ _ _ _ _ _=>False) (λ_ _ _ _ _ _ _ _ _ _=>False) (λ_ _ _ _ _ _ _ _ _ _ _=>False) (λo _=>aD9 (Q (.ret .none) σ) (λe=>W.E e σ λv σ=>Q (.ret v) σ) o) (λ_ _=>False) (λts e p=>N6 sc W ts e p.line σ Q) (λ_ _ _ _ _ _ _=>False) (λt op e _=>iQ P sc W t op e σ Q) (λ_ _ _ _ _=>False) (λt i b o _=>D1 (!ix i 7) (G5 P sc W t i σ λitems σ=>EM items (λv σ K=>W.A t v σ λσ=>wL P S b σ K) (wL P S o) σ Q)) (λ_ _ _ _ _=>False) (λt b o _=>HB (W.B t) (wL P S b) (wL P S o) σ Q) (λt b o _=>W.B t σ λc σ=>BX c (wL P S b σ Q) (wL P S o σ Q)) (λ_ _ _=>False) (λ_ _ _=>False) (λ_ _ _=>False) (λ_ _ _=>False) (λ_ _ _ _ _=>False) (λ_ _ _ _ _=>False) (λ_ _ _=>False) (λ_ _=>False) (λ_ _ _ _=>False) (λ_ _=>False) (λ_ _=>False) (λe _=>D1 (!Ri e) (W.E e σ λ_ σ=>Q .next σ)) (λ_=>Q .next σ) (λ_=>Q .brk σ) (λ_=>Q .cont σ)
def ER(P:Pm)(sc:Scope)(f:Nat):ì:=aR2 (λ_ _ _=>False) (λf S=>RY P sc (ws P sc f) S) f
def QT(X:Ω)(c:Ŋ)(a:Bx)(f:bK5):Prop:=Bx.rec (f = .next) (f = .brk) (f = .cont) (λa=>∃v,f = .ret v/\Ξ X c a v) a
inductive By(X:Ω)(G:ļ)(h:aE8)(Q:ŏ)(f:bK5)(s':aA8):Prop
 | mk (G':ļ) (σ':St) (af:Bx) (k:ċ G h G' s'.heap) (R:Ł X ⟨G',σ',s'⟩) (r:QT X ⟨G',σ',s'⟩ af f) (q:Q af σ')
def TS(X:Ω)(t:Sem bK5)(σ:St)(Q:ŏ):Prop:=∀G s,Ł X ⟨G,σ,s⟩->ĭ X t (By X G s.heap Q) s
section
variable{X:Ω}{G G':ļ}{h h':aE8}{Q:ŏ}{f:bK5}{s s':aA8}{σ:St}
def By.lift(k:ċ G h G' h')(p:By X G' h' Q f s'):By X G h Q f s':=p.casesOn λG₂ σ₂ a k₂ R r q=>⟨G₂,σ₂,a,k.trans k₂,R,r,q⟩
def By.up{t:Sem bK5}(x:ĭ X t (By X G' h' Q) s)(k:ċ G h G' h'):ĭ X t (By X G h Q) s:=x.mono λ_ _ p=>p.lift k
def By.to{c c':Ŋ}{af:Bx}(x:Ct X c c')(r:QT X c' af f)(q:Q af c'.σ):By X c.G c.s.heap Q f c'.s:=⟨c'.G,c'.σ,af,x.kp,x.R,r,q⟩
def By.weak{τ:St}{af:Bx}(k:ċ G h G' s'.heap)(R:Ł X ⟨G',σ,s'⟩)(w:Aa σ τ)(r :∀c,QT X c af f)(q:Q af τ):By X G h Q f s':=(w X G' s' R).elim λG₂ p=>⟨G₂,τ,af,k.trans p.1,p.2,r _,q⟩
@[elab_as_elim] theorem Nk{on:St->Prop}{P:bK5->Prop}{af:Bx}(k:ċ G h G' s'.heap)(R:Ł X ⟨G',σ,s'⟩)(r:QT X ⟨G',σ,s'⟩ af f)(q:turn on Q af σ)(h1:on σ->P .next)(h2:on σ->P .cont)(h3:By X G h Q .next s'->P .brk)(h4 :∀v,By X G h Q (.ret v) s'->P (.ret v)):P f:=by
 cases af with
 | next=>exact(show f = .next from r)▸h1 q
 | cont=>exact(show f = .cont from r)▸h2 q
 | brk=>exact(show f = .brk from r)▸h3 (q.elim λτ q=>.weak (af:=.next) k R q.1 (λ_=>rfl) q.2)
 | ret a=>exact r.elim λv r=>r.1▸h4 v ⟨G',σ,.ret a,k,R,⟨v,rfl,r.2⟩,q⟩
inductive j7(X:Ω)(G:ļ)(h:aE8)(J:Nat->St->Prop)(m:Nat)(s':aA8):Prop
 | mk (G':ļ) (σ':St) (R:Ł X ⟨G',σ',s'⟩) (j:J m σ') (k:ċ G h G' s'.heap)
def j7.of{J:Nat->St->Prop}{m:Nat}{τ:St}(k:ċ G h G' s'.heap)(R:Ł X ⟨G',σ,s'⟩)(w:Aa σ τ)(j:J m τ):j7 X G h J m s':=(w X G' s' R).elim λG₂ p=>⟨G₂,τ,p.2,j,k.trans p.1⟩
def T3{t:Expr}{body orelse:List aF3}{p:Pos}{test:St->(Bool->St->Prop)->Prop}{bd els:St->ŏ->Prop}
  (ht :∀σ K,test σ K->í X (isTrue t X.env (eval t X.env)) σ K) (hb :∀σ K,bd σ K->TS X (execs body X.env) σ K) (he :∀σ K,els σ K->TS X (execs orelse X.env) σ K)
  (h:HB test bd els σ Q):TS X (exec (.While t body orelse p) X.env) σ Q:=λG s R=>by
 obtain⟨J,m,⟨τ,hw,j0⟩,jt⟩:=h
 refine wpAny_While (codeAny_whileLoop (j7 X G s.heap J) (λm s' hI=>?_) m (.of (.refl _ _) R hw j0))
 cases hI with
 | mk G' σ' R' hJ Ī=>
 refine ĭ.any (ht σ' _ (jt m σ' hJ) G' s' R') λb s₁ hx=>?_
 cases hx with
 | mk G₁ σ₁ c x₁ e q=>
 cases e
 cases b with
 | false=>exact ĭ.any (he σ₁ Q q G₁ s₁ x₁.R) λfl s₂ hp=>hp.lift (Ī.trans x₁.kp)
 | true=>
  refine ĭ.any (hb σ₁ _ q G₁ s₁ x₁.R) λfl s₂ hp=>?_
  cases hp with
  | mk G₂ σ₂ af k₂ R₂ fr q=>
  have k₀:=(Ī.trans x₁.kp).trans k₂
  have next:(∃m' τ,m'<m/\Aa σ₂ τ/\J m' τ)->∃m',m'<m/\j7 X G s.heap J m' s₂:=λq=>q.imp λm' q=>q.elim λτ q=>⟨q.1,.of k₀ R₂ q.2.1 q.2.2⟩
  exact Nk k₀ R₂ fr q next next id λ_=>id
inductive uH(X:Ω)(G:ļ)(h:aE8)(J:Nat->St->Prop)(It:Nat->ļ->aE8->Prop)(n m:Nat)(s':aA8):Prop
 | mk (i:Nat) (G':ļ) (σ':St) (hi:i+m=n) (R:Ł X ⟨G',σ',s'⟩) (j:J i σ') (st:It i G' s'.heap) (k:ċ G h G' s'.heap)
def g7{tg it:Expr}{body orelse:List aF3}{p:Pos}{tn:AV->St->ŏ->Prop}{els:St->ŏ->Prop}(hset :∀x,foldedSetIterable it X.env x=pure x)
  (hturn :∀v c K,tn v c.σ K->∀{u},Ł X c->Ξ X c v u->ĭ X (assign tg X.env u) (λ_ s₁=>ĭ X (execs body X.env) (By X c.G c.s.heap K) s₁) c.s)
  (hels :∀σ K,els σ K->TS X (execs orelse X.env) σ K) {G:ļ} {s:aA8}
  (h:ĭ X (eval it X.env) (λv s₁=>ĭ X (aM3 v) (λiv s₂=>Bn X tg ⟨G,σ,s⟩ (λitems σ₂=>EM items tn els σ₂ Q) iv s₂) s₁) s):ĭ X (exec (.For tg it body orelse p) X.env) (By X G s.heap Q) s:=by
 refine wpAny_For (h.mono λv s₁ h₁=>ĭ.any h₁ λitv s₂ hit=>?_) hset
 cases hit with
 | mk c₁ x₁ I wr items It G₂ e okA self st0 hwr y₁ up₁ hcl=>
 subst e
 obtain⟨J,⟨τ,hw,j0⟩,jt,je⟩:=hcl
 have ok:=okA X.env
 have k₂:=x₁.kp.trans y₁.kp
 have hwr :∀b∈wr,s.heap.objs.size<=b:=λb hb=>aA0 x₁.kp.size (hwr b hb)
 obtain⟨G₃,k₃,R₃⟩:=hw X G₂ s₂ y₁.R
 have stepK :∀{G':ļ} {s' s'':aA8},ċ G s.heap G' s'.heap->j8 wr s'.heap s''.heap->ċ G s.heap G' s''.heap:=λ{G' s' s''} Ī hs=>⟨λa o e q=>hs.1 a o (λhm=>Cd e (hwr a hm)) (Ī.keep a o e q),Ī.own,Ī.mt,aA0 Ī.size hs.2,Ī.lock,Ī.tok⟩
 refine codeAny_forLoop_any (uH X G s.heap J It items.length) (λm s' hI=>?_) items.length ⟨0,G₃,τ,bC2 _,R₃,j0,ok.frame _ _ _ _ _ st0 k₃,k₂.trans k₃⟩
 cases hI with
 | mk i G' σ' him R' hJ hst Ī=>
 cases m with
 | zero=>
  obtain rfl:i=items.length:=him
  refine ĭ.any (ok.done ⟨G',σ',s'⟩ R' hst) λr s₃ hr=>?_
  rw[hr.1]
  exact ĭ.any (hels σ' Q (je σ' hJ) G' s₃ hr.2.1) λfl s₄ hp=>hp.lift (stepK Ī hr.2.2)
 | succ m=>
  refine ĭ.any (ok.item i ⟨G',σ',s'⟩ R' (him▸aJ3 (bC4 m)) hst) λr s₃ hr=>?_
  obtain⟨u,rfl,hgo⟩:=hr
  refine ĭ.any hgo λ_ s₄ hx=>?_
  cases hx with
  | mk av hav hvr R₄ st₄ hstp=>
  have k₄:=stepK Ī hstp
  refine ĭ.any (hturn av ⟨G',σ',s₄⟩ _ (jt i σ' av hav hJ) R₄ hvr) λ_ s₅ hb=>ĭ.any hb λfl s₆ hp=>?_
  cases hp with
  | mk G₆ σ₆ af k₆ R₆ fr q=>
  have next:(∃τ,Aa σ₆ τ/\J (i+1) τ)->∃m',m'<m+1/\uH X G s.heap J It items.length m' s₆:=λq=>q.elim λτ q=>(q.1 X G₆ s₆ R₆).elim λG₇ p=>
   have k67:=k₆.trans p.1
   ⟨m,aC6 m,i+1,G₇,τ,(aW5 i 1 m).trans him,p.2,q.2,ok.frame _ _ _ _ _ st₄ k67,k₄.trans k67⟩
  exact Nk (k₄.trans k₆) R₆ fr q next next id λ_=>id
end
def AX.rev{L:Ci}{G:ļ}{h:aE8}{n:Nat}{as:List AV} :∀{vs:List Value},AX L G h n as vs->AX L G h n as.reverse vs.reverse:=
 aB7 (motive:=λas=>∀{vs:List Value},AX L G h n as vs->AX L G h n as.reverse vs.reverse) (λ{vs} q=>(show vs=[]from q)▸rfl) (λa r ih vs q=>by
  obtain⟨v,u,rfl,q1,ĉ⟩:=q
  rw[aQ7,aQ7]
  exact(ih ĉ).append ⟨v,[],rfl,q1,rfl⟩) as
def KV{ts:List Expr}{e:Expr}{env env':Env}(h:env.scope=env'.scope):bE4 ts e env=bE4 ts e env':=by
 unfold bE4 Env.blockKind Env.kindOf
 rw[h]
def Ny{ts:List Expr}{e:Expr}{line:Nat}{env env':Env}(h:env.scope=env'.scope):swapsWithSole ts e line env=swapsWithSole ts e line env':=by
 cases ts with
 | nil=>rfl
 | cons t r=>
  cases r with
  | nil=>
   show swapsWith e (some t) line env=swapsWith e (some t) line env'
   unfold swapsWith Env.blockKind Env.kindOf
   rw[h]
  | cons=>rfl
section
variable{X:Ω}{P:Pm}{d:Nat}{fN st fM ţ fI:aC3}{sc:Scope}{W:ń}(F:IX X P d fN st fM ţ fI sc)(S:LS X W)
include F
theorem iY{xs:List Str} :∀{vs:List AV} {c:Ŋ} {Q:St->Prop} {us:List Value},Z5 sc xs vs c.σ Q->Ł X c->į X c vs us->GD X c Q (aN8 (xs.map λx=>bindName X.env x) us):=
 aB7 (motive:=λxs=>∀{vs:List AV} {c:Ŋ} {Q:St->Prop} {us:List Value},Z5 sc xs vs c.σ Q->Ł X c->į X c vs us->GD X c Q (aN8 (xs.map λx=>bindName X.env x) us)) (λ{vs c Q us} h R q=>Ba (P:=λus=>GD X c Q (aN8 [] us)) h q λh=>ĭ.pure (A8.here (b:=()) R trivial h))
  (λt ts ih vs c Q us h R q=>A7 (P:=λus=>GD X c Q (aN8 ((t::ts).map λx=>bindName X.env x) us)) h q λa r v vr r1 ś h=>by
   show ĭ X (do aW1 vr (bindName X.env t v);aN8 (ts.map λx=>bindName X.env x) vr) _ _
   exact ĭ.bind (ĭ.hold (wpAny_bindName (ĭ.mono (JX F (Q:=λσ=>Z5 sc ts r σ Q) (Ah h).1 R r1 (Ah h).2) λ_ s₁ q=>q.casesOn λG₁ σ₁ _ x₁ _ q₁=>A8.up (ih (c:=⟨G₁,σ₁,s₁⟩) q₁ x₁.R (x₁.pre.va ś)) x₁)))) xs
include S
theorem RD{ts:List Expr} :∀{v:AV} {c:Ŋ} {Q:St->Prop} {u:Value},B8 W.A ts v c.σ Q->Ł X c->Ξ X c v u->GD X c Q (assignAll u (ts.map λt=>assign t X.env)):=
 aB7 (motive:=λts=>∀{v:AV} {c:Ŋ} {Q:St->Prop} {u:Value},B8 W.A ts v c.σ Q->Ł X c->Ξ X c v u->GD X c Q (assignAll u (ts.map λt=>assign t X.env))) (λh R r=>ĭ.pure (A8.here (b:=()) R trivial h))
  (λt ts ih v c Q u h R r=>by
   have A9:=S.A t v c _ h R r
   cases ts with
   | nil=>exact A9
   | cons t' ts=>
    show ĭ X (do aW1 [u] (assign t X.env u);assignAll u ((t'::ts).map λt=>assign t X.env)) _ _
    exact ĭ.bind (ĭ.hold (ĭ.mono A9 λ_ s₁ q=>q.casesOn λG₁ σ₁ _ x₁ _ q₁=>A8.up (ih (c:=⟨G₁,σ₁,s₁⟩) q₁ x₁.R (x₁.pre.v r)) x₁))) ts
theorem PN{ts:List Expr}{e:Expr}{p:Pos}{σ:St}{Q:ŏ}(h:N6 sc W ts e p.line σ Q):TS X (exec (.Assign ts e p) X.env) σ Q:=λG s R=>by
 obtain⟨h2,h⟩:=Ah h
 refine AE h λb eb h=>?_
 rw[exec_Assign_arm,Ny (env':=MX sc) F.hsc,RC eb,Dx X.env ts h2,aG4,KV (env':=MX sc) F.hsc]
 refine ĭ.bind (aL8 (ĭ.bind (ĭ.pure ?_)))
 cases b with
 | true=>
  obtain⟨h1,h⟩:=Ah h
  rw[bO2 rfl]
  refine(aV5.mp h1).elim (λh1=>?_) λh1=>?_
  ·refine Expr.ListComp.elim (motive_1:=λe=>W.E e σ (λv σ=>B8 W.A ts v σ λσ=>Q .next σ)->ĭ X (do bA9 e X.env λv=>assignAll v (ts.map ((λx=>x.2)∘λe=>(false,assign e X.env)));pure bK5.next) (By X G s.heap Q) s) e (aB8 h1) (λelt gens cs p h=>?_) h
   exact ĭ.bind (ĭ.mono (S.U elt gens cs p _ σ _ (λσ=>Q .next σ) h (λc a v R r q=>RD F S q R r) G s R) λ_ s₂ q=>q.casesOn λG₂ σ₂ _ x₂ _ q₂=>ĭ.pure (.to (c':=⟨G₂,σ₂,s₂⟩) (af:=.next) x₂ rfl q₂))
  ·refine Expr.DictComp.elim (motive_1:=λe=>W.E e σ (λv σ=>B8 W.A ts v σ λσ=>Q .next σ)->ĭ X (do bA9 e X.env λv=>assignAll v (ts.map ((λx=>x.2)∘λe=>(false,assign e X.env)));pure bK5.next) (By X G s.heap Q) s) e (aB8 h1) (λø vx gens cs p h=>?_) h
   exact ĭ.bind (ĭ.mono (S.V ø vx gens cs p _ σ _ (λσ=>Q .next σ) h (λc a v R r q=>RD F S q R r) G s R) λ_ s₂ q=>q.casesOn λG₂ σ₂ _ x₂ _ q₂=>ĭ.pure (.to (c':=⟨G₂,σ₂,s₂⟩) (af:=.next) x₂ rfl q₂))
 | false=>
  rw[bO3 (by decide)]
  refine AE h λo eo h=>?_
  rw[RC eo]
  refine ĭ.bind ((S.E e σ _ h).go (c:=⟨G,σ,s⟩) R λv c₁ vv h₁ x₁ r₁=>ĭ.bind (ĭ.pure ?_))
  cases o with
  | none=>exact ĭ.bind (ĭ.mono (RD F S h₁ x₁.R r₁) λ_ s₂ q=>q.casesOn λG₂ σ₂ _ x₂ _ q₂=>ĭ.pure (.to (c':=⟨G₂,σ₂,s₂⟩) (af:=.next) (x₁.trans x₂) rfl q₂))
  | some xs=>
   refine ĭ.bind (bJ0 (ĭ.bind (ĭ.mono (V8 F.A.1 F.w.N.toMatC h₁ x₁.R r₁) λus s₂ q=>q.casesOn λG₂ σ₂ vs x₂ r₂ q₂=>ĭ.bind (ĭ.mono (iY F (c:=⟨G₂,σ₂,s₂⟩) q₂ x₂.R r₂.rev) λ_ s₃ q=>q.casesOn λG₃ σ₃ _ x₃ _ q₃=>ĭ.pure (.to (c':=⟨G₃,σ₃,s₃⟩) (af:=.next) (x₁.trans (x₂.trans x₃)) rfl q₃)))))
end
section
variable{X:Ω}{P:Pm}{d:Nat}{fN st fM ţ fI:aC3}{sc:Scope}{W:ń}(F:IX X P d fN st fM ţ fI sc)(S:LS X W)
include F S
theorem Wl{t:Expr}{op:bF0}{e:Expr}{p:Pos}{σ:St}{Q:ŏ}(h:iQ P sc W t op e σ Q):TS X (exec (.AugAssign t op e p) X.env) σ Q:=λG s R=>by
 obtain⟨hc,h⟩:=Ah h
 obtain⟨hc,h3⟩:=AQ hc
 obtain⟨h1,h2⟩:=AQ hc
 refine Expr.Name.elim (motive_1:=λt=>At (BI t)=true->EB sc (BI t)=true->Hl P sc (BI t) σ (λa σ=>W.E e σ λb σ=>XS op a b σ λr σ=>Q .next (σ.put (BI t) r))->ĭ X (exec (.AugAssign t op e p) X.env) (By X G s.heap Q) s) t (aB8 h1) (λx q h2 h3 h=>?_) h2 h3 h
 exact wpAny_AugAssign_Name ((Ih F h2 h).go (c:=⟨G,σ,s⟩) R λa c₁ va h₁ x₁ r₁=>(S.E e _ _ h₁).go x₁.R λb c₂ vb h₂ x₂ r₂=>ĭ.mono (gH h₂ x₂.R (x₂.pre.v r₁) r₂) λv s₃ q=>q.casesOn λG₃ σ₃ r x₃ r₃ q₃=>
  ĭ.mono (JX F (Q:=λσ=>Q .next σ) (c:=⟨G₃,σ₃,s₃⟩) h3 x₃.R r₃ q₃) λ_ s₄ q=>q.casesOn λG₄ σ₄ _ x₄ _ q₄=>.to (c':=⟨G₄,σ₄,s₄⟩) (af:=.next) (x₁.trans (x₂.trans (x₃.trans x₄))) rfl q₄)
end
def Nu(X:Ω)(S:ì):Prop:=∀st σ Q,S st σ Q->TS X (exec st X.env) σ Q
def MG{X:Ω}{P:Pm}{S:ì}(H:Nu X S)(ss:List aF3) :∀{σ:St} {Q:ŏ},wL P S ss σ Q->TS X (execs ss X.env) σ Q:=
 aB7 (motive:=λss=>∀{σ:St} {Q:ŏ},wL P S ss σ Q->TS X (execs ss X.env) σ Q) (λ{σ Q} h G s R=>aA7 (.to (c':=⟨G,σ,s⟩) (af:=.next) (.refl R) rfl h)) (λst r ih σ Q h G s R=>by
  have go :∀{τ:St} {G':ļ},ċ G s.heap G' s.heap->Ł X ⟨G',τ,s⟩->S st τ (λfl υ=>Bx.rec (wL P S r υ Q) (Q .brk υ) (Q .cont υ) (λv=>Q (.ret v) υ) fl)->ĭ X (execs (st::r) X.env) (By X G s.heap Q) s:=λ{τ G'} k R h=>by
   refine wpAny_execs_cons (ĭ.any (H st τ _ h G' s R) λfl s₁ q=>?_)
   cases q with
   | mk G₁ σ₁ af k₁ R₁ fr q=>
   have k₁:=k.trans k₁
   cases af with
   | next=>exact(show fl = .next from fr)▸By.up (ih q G₁ s₁ R₁) k₁
   | brk=>exact(show fl = .brk from fr)▸⟨G₁,σ₁,.brk,k₁,R₁,rfl,q⟩
   | cont=>exact(show fl = .cont from fr)▸⟨G₁,σ₁,.cont,k₁,R₁,rfl,q⟩
   | ret a=>exact fr.elim λv r=>r.1▸⟨G₁,σ₁,.ret a,k₁,R₁,⟨v,rfl,r.2⟩,q⟩
  have h:Xi (P.wk st.pos) σ λτ=>S st τ (λfl υ=>Bx.rec (wL P S r υ Q) (Q .brk υ) (Q .cont υ) (λv=>Q (.ret v) υ) fl):=h
  unfold Xi at h
  cases hw:P.wk st.pos with
  | false=>rw[hw]at h;exact go (.refl _ _) R h
  | true=>rw[hw]at h;exact h.elim λτ h=>(h.1 X G s R).elim λG' q=>go q.1 q.2 h.2) ss
section
variable{X:Ω}{P:Pm}{d:Nat}{fN st fM ţ fI:aC3}{sc:Scope}{W:ń}{S:ì}(F:IX X P d fN st fM ţ fI sc)(E:LS X W)(H:Nu X S){σ:St}{Q:ŏ}
include E
theorem XI{o:Option Expr}{p:Pos}(h:aD9 (Q (.ret .none) σ) (λe=>W.E e σ λv σ=>Q (.ret v) σ) o):TS X (exec (.Return o p) X.env) σ Q:=λG s R=>by
 cases o with
 | none=>
  show ĭ X (do standAt p;return bK5.ret aI8) _ _
  exact ĭ.bind (aL8 (aA7 (.to (c':=⟨G,σ,s⟩) (af:=.ret .none) (.refl R) ⟨.none,rfl,rfl⟩ h)))
 | some e=>exact wpAny_Return_some ((E.E e σ _ h).go (c:=⟨G,σ,s⟩) R λv c₁ vv h₁ x₁ r₁=>.to (af:=.ret v) x₁ ⟨vv,rfl,r₁⟩ h₁)
include F
theorem Uu{e:Expr}{p:Pos}(h:D1 (!Ri e) (W.E e σ λ_ σ=>Q .next σ)):TS X (exec (.Expr e p) X.env) σ Q:=λG s R=>by
 obtain⟨h1,h⟩:=Ah h
 have h1:=EO h1
 refine wpAny_Expr_any ((E.E e σ _ h).go (c:=⟨G,σ,s⟩) R λv c₁ vv h₁ x₁ r₁=>.to (af:=.next) x₁ rfl h₁) ?_ ?_
 ·unfold interactive;rw[FP F];rfl
 ·clear h
  cases e with
  | ListComp=>cases h1
  | SetComp=>cases h1
  | DictComp=>cases h1
  | _=>rfl
include H
theorem cV{t:Expr}{b o:List aF3}{p:Pos}(h:W.B t σ λc σ=>BX c (wL P S b σ Q) (wL P S o σ Q)):TS X (exec (.If t b o p) X.env) σ Q:=λG s R=>
 wpAny_If ((E.B t σ _ h).go (c:=⟨G,σ,s⟩) R λc c₁ vc h₁ x₁ r₁=>by
  cases r₁
  cases c with
  | true=>exact By.up (MG H b h₁ _ _ x₁.R) x₁.kp
  | false=>exact By.up (MG H o h₁ _ _ x₁.R) x₁.kp)
theorem Xf{t i:Expr}{b o:List aF3}{p:Pos}(h:D1 (!ix i 7) (G5 P sc W t i σ λitems σ=>EM items (λv σ K=>W.A t v σ λσ=>wL P S b σ K) (wL P S o) σ Q)):TS X (exec (.For t i b o p) X.env) σ Q:=λG s R=>by
 obtain⟨h1,h⟩:=Ah h
 have h1:=EO h1
 refine g7 (σ:=σ) ?_ (λv c K x {u} R hv=>ĭ.mono (E.A t v c _ x R hv) λ_ s₁ q=>q.casesOn λG₁ σ₁ _ x₁ _ q₁=>By.up (MG H b q₁ G₁ s₁ x₁.R) x₁.kp) (λσ K x=>MG H o x) (MY F E h R)
 clear h
 cases i with
 | Set=>cases h1
 | _=>exact λ_=>rfl
theorem kP(s:aF3)(σ:St)(Q:ŏ)(h:RY P sc W S s σ Q):TS X (exec s X.env) σ Q:=
 bK4 (motive_2:=λs=>RY P sc W S s σ Q->TS X (exec s X.env) σ Q) s (λ_ _ _ _ _ _ _ _ _ _=>aA9) (λ_ _ _ _ _ _ _ _ _ _=>aA9) (λ_ _ _ _ _ _ _ _ _ _ _=>aA9) (λ_ _=>XI E) (λ_ _=>aA9) (λ_ _ _=>PN F E) (λ_ _ _ _ _ _ _=>aA9) (λ_ _ _ _=>Wl F E) (λ_ _ _ _ _=>aA9) (λ_ _ _ _ _=>Xf F E H) (λ_ _ _ _ _=>aA9) (λt b o p h=>T3 (λσ K x=>E.B t σ K x) (λσ K x=>MG H b x) (λσ K x=>MG H o x) h) (λ_ _ _ _=>cV F E H) (λ_ _ _=>aA9) (λ_ _ _=>aA9) (λ_ _ _=>aA9) (λ_ _ _=>aA9) (λ_ _ _ _ _=>aA9) (λ_ _ _ _ _=>aA9) (λ_ _ _=>aA9) (λ_ _=>aA9) (λ_ _ _ _=>aA9) (λ_ _=>aA9) (λ_ _=>aA9) (λ_ _=>Uu F E) (λp h G s R=>wpAny_Pass (.to (c':=⟨G,σ,s⟩) (af:=.next) (.refl R) rfl h)) (λp h G s R=>wpAny_Break (.to (c':=⟨G,σ,s⟩) (af:=.brk) (.refl R) rfl h)) (λp h G s R=>wpAny_Continue (.to (c':=⟨G,σ,s⟩) (af:=.cont) (.refl R) rfl h)) h
end
def a9{X:Ω}{P:Pm}{d:Nat}{fN st fM ţ fI:aC3}{sc:Scope}(F:IX X P d fN st fM ţ fI sc)(f:Nat):Nu X (ER P sc f):=
 aR2 (λ_ _ _=>aA9) (λf H=>kP F (snd F f) H) f
def Ii(ks:List Nat):A3->Option A3
 | .obj x=>(DJ x ks).map .obj
 | .dict x=>(DJ x ks).map .dict
 | p=>some p
def ļ.cut(G:ļ)(ks:List Nat):ļ:=⟨λa=>(G.tag a).bind (Ii ks),λi=>Uy ks[i]? 0 G.μ,λi=>Uy ks[i]? 0 G.δ,G.τ⟩
def Ÿ.froze:Ÿ->Option AV
 | .list vs=>some (.lst vs)
 | .dict es=>some (.dct es)
 | .set ks=>some (.fset ks)
 | .inst ..=>none
section
variable{G:ļ}{ks:List Nat}{a:aC3}
def Gv(e:(G.cut ks).own a):G.own a:=λz=>e (bO1 (λo:Option A3=>o.bind (Ii ks)) z)
def P1(e:(G.cut ks).mt a):G.mt a:=e.elim λp q=>by
 obtain⟨p',e1,e2⟩:=AG q.1
 exact⟨p',e1,λz=>q.2 (aA2 (z▸e2:Ii ks .lock=some p)).symm⟩
def F6{p p':A3}(e:G.tag a=some p)(e':Ii ks p=some p'):(G.cut ks).tag a=some p':=(bO1 (λo:Option A3=>o.bind (Ii ks)) e).trans e'
def Tj{y:Nat}(e:G.tag a=some (.obj y))(h :∀i:Nat,ks[i]?≠some y):¬ (G.cut ks).own a:=λz=>z ((bO1 (λo:Option A3=>o.bind (Ii ks)) e).trans (by
 show(DJ y ks).map A3.obj=none
 cases hp:DJ y ks with
 | none=>rfl
 | some j=>exact bO4 (DO hp) (h j)))
end
def SH{L:Ci}{G G':ļ}{h:aE8}{n n' x:Nat}{o:Ÿ}{w:AV}(k:Ca G h G' h)(e:o.froze=some w)(s:w.sub nn=some w)(q:D5 L G h n x o)(hx:¬ G'.own (G.μ x)):Ab L G' h n' w (.ref (G.μ x)):=by
 cases o with
 | list vs=>
  cases e
  obtain⟨us,e1,e2⟩:=AH (show(AC nn vs).map (AV.seq .lst)=some (.seq .lst vs)from s)
  cases e2
  exact q.casesOn λb hp hr=>⟨_,b,rfl,hp,hx,hr.shut k e1⟩
 | dict vs=>
  cases e
  obtain⟨us,e1,e2⟩:=AH (show(AW nn vs).map AV.dct=some (.dct vs)from s)
  cases e2
  exact q.casesOn λb hp hr=>⟨_,b,rfl,hp,hx,Am.sub k (λx w e=>AA e) e1 hr⟩
 | set vs=>cases e;exact⟨_,(),rfl,q,hx,trivial⟩
 | inst C at_=>exact AA e
def Aa.of{σ τ:St}(ks:List Nat)(g:Nat->Option AV)(u:GQ ks)(ha:τ.anc=σ.anc)(hn:τ.n=ks.length)(hta :∀i,i<σ.anc->ks[i]?=some i)
  (hg :∀y w,g y=some w->(∃i:Nat,ks[i]?=some y/\w = .ref i)\/((∀i:Nat,ks[i]?≠some y)/\∃o,σ.H.lookup y=some o/\o.froze=some w/\w.sub nn=some w))
  (hρ :∀x v,τ.ρ.lookup x=some v->∃v₀,σ.ρ.lookup x=some v₀/\v₀.sub g=some v)
  (hH :∀i o,τ.H.lookup i=some o->∃y o₀,ks[i]?=some y/\σ.H.lookup y=some o₀/\o₀.sub g=some o):Aa σ τ:=λX G s R=>by
 have k:Ca G s.heap (G.cut ks) s.heap:=⟨λa o e q=>⟨e,λz=>q (Gv z)⟩,λ_ _=>id⟩
 have î :∀{i y:Nat},ks[i]?=some y->(G.cut ks).μ i=G.μ y/\(G.cut ks).δ i=G.δ y:=λe=>⟨Cs e 0 G.μ,Cs e 0 G.δ⟩
 have lt :∀{i y:Nat},ks[i]?=some y->i<τ.n:=λe=>hn▸(aA4.mp e).1
 have gg :∀x w,g x=some w->x<σ.n->Ab X.L (G.cut ks) s.heap τ.n w (.ref (G.μ x)):=λx w e hx=>(hg x w e).elim (λq=>q.elim λi q=>q.2▸⟨bO1 aM8 (î q.1).1.symm,lt q.1⟩) λq=>q.2.elim λo p=>SH k p.2.1 p.2.2 (R.obj x o p.1).rel (Tj (R.obj x o p.1).tag q.1)
 have vv :∀{v₀ v u},v₀.sub g=some v->Ξ X ⟨G,σ,s⟩ v₀ u->Ξ X ⟨G.cut ks,τ,s⟩ v u:=λe q=>Ab.sub k gg _ _ _ e q
 refine⟨G.cut ks,⟨λ_ _ e _=>e,λa e=>.inl (Gv e),λa e=>.inl (P1 e),aB6 _,λa e=>F6 e rfl,λ_ _=>id⟩,R.base,R.keep,R.size,λa e=>R.mutHs a (P1 e),λa e=>R.ownB a (Gv e),λa e=>R.ownLt a (Gv e),R.gens,R.os,?_,?_,R.celAll,F6 R.tloc rfl,λx a e=>F6 (R.tcel x a e) rfl,?_,?_,R.tk,R.tk0,R.aτ⟩
 ·exact R.loc.casesOn λm hm r=>⟨m,hm,λx av e1 e2=>(hρ x av e1).elim λv₀ p=>(r x v₀ p.1 e2).imp λv q=>⟨q.1,vv p.2 q.2⟩⟩
 ·exact λx a e=>(R.cel x a e).casesOn λv hv r=>⟨v,hv,λav e1 e2=>(hρ x av e1).elim λv₀ p=>(r v₀ p.1 e2).imp λu q=>⟨q.1,vv p.2 q.2⟩⟩
 ·intro i o e
  obtain⟨y,o₀,e1,e2,e3⟩:=hH i o e
  have q:=R.obj y o₀ e2
  have pos:DJ y ks=some i:=Gs u e1
  exact⟨lt e1,(bO1 _ (î e1).1).trans (F6 q.tag (bO1 (aD4 A3.obj) pos)),D5.sub k gg (î e1).1 (î e1).2 (λ_ e=>e) (λz=>⟨λ_ e=>e,F6 z (bO1 (aD4 A3.dict) pos)⟩) o₀ o e3 q.rel⟩
 ·refine⟨ha.symm▸R.anc.1,?_,λi hi=>?_⟩
  ·show τ.anc<=τ.n
   rw[ha]
   cases hz:σ.anc with
   | zero=>exact aE9 _
   | succ m=>exact lt (hta m (hz▸aC6 m))
  ·have q:=î (hta i (aC0 hi R.anc.1))
   exact⟨q.1.trans (R.anc.2.2 i hi).1,q.2.trans (R.anc.2.2 i hi).2⟩
section
variable{g:Nat->Option AV}
def AK(a:AV) :∀a',a.sub nn=some a'->a.sub g=some a':=
 AV.rec (motive_1:=λa=>∀a',a.sub nn=some a'->a.sub g=some a') (motive_2:=λa=>∀a',AC nn a=some a'->AC g a=some a') (motive_3:=λa=>∀a',AW nn a=some a'->AW g a=some a') (motive_4:=λp=>∀a',El nn p=some a'->El g p=some a')
  (λ_=>id) (λ_ _=>id) (λ_ _=>id) (λkd vs ih a' e=>DX (P:=λa'=>(AC g vs).map (AV.seq kd)=some a') e λb e=>bO1 (aD4 _) (ih b e)) (λ_ _=>AA) (λ_ _=>id) (λ_ _=>id)
  (λf x ih a' e=>DX (P:=λa'=>(x.sub g).map (AV.bm f)=some a') e λb e=>bO1 (aD4 _) (ih b e)) (λes ih a' e=>DX (P:=λa'=>(AW g es).map AV.dct=some a') e λb e=>bO1 (aD4 _) (ih b e)) (λ_ _=>id) (λ_ _=>id)
  (λ_=>id) (λa r ih1 ih2 a' e=>by
   obtain⟨b,e1,e⟩:=AG e
   obtain⟨c,e2,rfl⟩:=AH e
   show(a.sub g).bind (λa=>(AC g r).map (a :: ·))=_
   rw[ih1 b e1,show AC g r=some c from ih2 c e2];rfl)
  (λ_=>id) (λa r ih1 ih2 a' e=>by
   obtain⟨b,e1,e⟩:=AG e
   obtain⟨c,e2,rfl⟩:=AH e
   show(El g a).bind (λb=>(AW g r).map ((a.1,b) :: ·))=_
   rw[ih1 b e1,show AW g r=some c from ih2 c e2];rfl)
  (λk x ih a' e=>ih a' e) a
def BN{l:List AV} :∀{l':List AV},AC nn l=some l'->AC g l=some l':=
 aB7 (motive:=λl=>∀{l':List AV},AC nn l=some l'->AC g l=some l') (λ{_}=>id) (λa r ih l' e=>by
  obtain⟨b,e1,e⟩:=AG e
  obtain⟨c,e2,rfl⟩:=AH e
  show(a.sub g).bind (λa=>(AC g r).map (a :: ·))=_
  rw[AK a b e1,show AC g r=some c from ih e2];rfl) l
def J7{l:List (AD×AV)} :∀{l':List (AD×AV)},AW nn l=some l'->AW g l=some l':=
 aB7 (motive:=λl=>∀{l':List (AD×AV)},AW nn l=some l'->AW g l=some l') (λ{_}=>id) (λa r ih l' e=>by
  cases a with
  | mk k x=>
  obtain⟨b,e1,e⟩:=AG e
  obtain⟨c,e2,rfl⟩:=AH e
  show(x.sub g).bind (λb=>(AW g r).map ((k,b) :: ·))=_
  rw[AK x b e1,show AW g r=some c from ih e2];rfl) l
def A5{l:List (Str×AV)} :∀{l':List (Str×AV)},AJ nn l=some l'->AJ g l=some l':=
 aB7 (motive:=λl=>∀{l':List (Str×AV)},AJ nn l=some l'->AJ g l=some l') (λ{_}=>id) (λa r ih l' e=>by
  obtain⟨b,e1,e⟩:=AG e
  obtain⟨c,e2,rfl⟩:=AH e
  show(a.2.sub g).bind (λb=>(AJ g r).map ((a.1,b) :: ·))=_
  rw[AK a.2 b e1,show AJ g r=some c from ih e2];rfl) l
def UT{o o':Ÿ}(s:o.sub nn=some o'):o.sub g=some o':=by
 cases o with
 | list vs=>exact DX (P:=λo'=>(AC g vs).map Ÿ.list=some o') s λb e=>bO1 (aD4 _) (BN e)
 | dict vs=>exact DX (P:=λo'=>(AW g vs).map Ÿ.dict=some o') s λb e=>bO1 (aD4 _) (J7 e)
 | inst C vs=>exact DX (P:=λo'=>(AJ g vs).map (Ÿ.inst C)=some o') s λb e=>bO1 (aD4 _) (A5 e)
 | set ks=>exact s
end
def RJ(l:List Nat):Bool:=aB7 true (λx r ih=>!hasN x r&&ih) l
def Mu{l:List Nat}:RJ l=true->GQ l:=aB7 (motive:=λl=>RJ l=true->GQ l) (λ_ _ _ _=>AA) (λx r ih h i j y e1 e2=>by
 obtain⟨h1,h2⟩:=AQ h
 have no :∀{i:Nat},r[i]?≠some x:=λ{i} e=>aV0 ((EO h1).symm.trans (MZ e))
 cases i with
 | zero=>cases j with
  | zero=>rfl
  | succ j=>exact bO4 ((show r[j]?=some y from e2).trans (aA2 e1▸rfl)) no
 | succ i=>cases j with
  | zero=>exact bO4 ((show r[i]?=some y from e1).trans (aA2 e2▸rfl)) no
  | succ j=>exact bO1 aT3 (ih h2 i j y e1 e2)) l
def ZR(n:Nat)(ks:List Nat):Bool:=aR2 true (λi ih=>aD9 false (λy=>aE0 y i) ks[i]?&&ih) n
def XG{n:Nat}{ks:List Nat}:ZR n ks=true->∀i,i<n->ks[i]?=some i:=aR2 (motive:=λn=>ZR n ks=true->∀i,i<n->ks[i]?=some i) (λ_ i h=>bO4 h (aI0 i)) (λn ih h i hi=>by
 obtain⟨h1,h2⟩:=AQ h
 refine(aP5 (aO6 hi)).elim (ih h2 i) λe=>?_
 subst e
 cases e:ks[i]? with
 | none=>rw[e]at h1;cases h1
 | some y=>rw[e]at h1;exact bO1 some (aB8 h1)) n
def jS(ks:List Nat)(fz:List (Nat×AV))(y:Nat):Option AV:=GH ((DJ y ks).map .ref) (fz.lookup y)
def TC(σ:St)(ks:List Nat)(fz:List (Nat×AV)):Prop:=∀y w,fz.lookup y=some w->DJ y ks=none/\∃o,σ.H.lookup y=some o/\o.froze=some w/\w.sub nn=some w
def jB(σ:St)(g:Nat->Option AV)(l:List (Str×AV)):Prop:=∀x v,l.lookup x=some v->∃v₀,σ.ρ.lookup x=some v₀/\v₀.sub g=some v
def j9(σ:St)(ks:List Nat)(g:Nat->Option AV)(l:List (Nat×Ÿ)):Prop:=∀i o,l.lookup i=some o->∃y o₀,ks[i]?=some y/\σ.H.lookup y=some o₀/\o₀.sub g=some o
def Bh{α β:Type} [BEq α] [LawfulBEq α] {x y:α} {v w:β} {r:List (α×β)} {P:Prop} (e:((y,v)::r).lookup x=some w) (f:x=y->v=w->P) (g:r.lookup x=some w->P):P:=by
 rw[A1]at e
 cases h:x==y with
 | true=>exact f (aE6 h) (aA2 ((bO1 (λb=>bif b then some v else r.lookup x) h).symm.trans e))
 | false=>exact g ((bO1 (λb=>bif b then some v else r.lookup x) h).symm.trans e)
section
variable{σ:St}{ks:List Nat}{g:Nat->Option AV}
def CP:TC σ ks []:=λ_ _=>AA
def BA{y:Nat}{w:AV}{o:Ÿ}{r:List (Nat×AV)}(h0:DJ y ks=none)(h1:σ.H.lookup y=some o)(h2:o.froze=some w)(h3:w.sub nn=some w)(q:TC σ ks r):TC σ ks ((y,w)::r):=λz v e=>Bh e (λa b=>a▸b▸⟨h0,o,h1,h2,h3⟩) (q z v)
def BZ:jB σ g []:=λ_ _=>AA
def Ai{x:Str}{v₀ v:AV}{r:List (Str×AV)}(h1:σ.ρ.lookup x=some v₀)(h2:v₀.sub g=some v)(q:jB σ g r):jB σ g ((x,v)::r):=λz w e=>Bh e (λa b=>a▸b▸⟨v₀,h1,h2⟩) (q z w)
def BY:j9 σ ks g []:=λ_ _=>AA
def Fe{i y:Nat}{o₀ o:Ÿ}{r:List (Nat×Ÿ)}(h0:ks[i]?=some y)(h1:σ.H.lookup y=some o₀)(h2:o₀.sub g=some o)(q:j9 σ ks g r):j9 σ ks g ((i,o)::r):=λz w e=>Bh e (λa b=>a▸b▸⟨y,o₀,h0,h1,h2⟩) (q z w)
def Aa.re{τ:St}(ks:List Nat)(fz:List (Nat×AV))(u:RJ ks=true)(t:ZR σ.anc ks=true)(ha:τ.anc=σ.anc)(hn:τ.n=ks.length)(hf:TC σ ks fz)(hρ:jB σ (jS ks fz) τ.ρ)(hH:j9 σ ks (jS ks fz) τ.H):Aa σ τ:=
 .of ks (jS ks fz) (Mu u) ha hn (XG t) (λy w e=>Cu e (λe=>(AH e).elim λi q=>.inl ⟨i,DO q.1,q.2.symm⟩) λe=>.inr ⟨λi z=>AA ((hf y w e).1.symm.trans (Gs (Mu u) z)),(hf y w e).2⟩) hρ hH
end
def HK(os:List Ob):Nat->List (Nat×Ÿ):=aB7 (λ_=>[]) (λo _ ih i=>(i,o.ao)::ih (i+1)) os
def J4{os:List Ob} :∀{i x:Nat} {o:Ÿ},(HK os i).lookup x=some o->∃(j:Nat) (b:Ob),x=i+j/\os[j]?=some b/\o=b.ao:=
 aB7 (motive:=λos=>∀{i x:Nat} {o:Ÿ},(HK os i).lookup x=some o->∃(j:Nat) (b:Ob),x=i+j/\os[j]?=some b/\o=b.ao) AA (λb r ih i x o e=>Bh e (λa c=>⟨0,b,a,rfl,c.symm⟩) λe=>(ih e).elim λj q=>q.elim λb q=>⟨j+1,b,q.1.trans (aW5 i 1 j),q.2⟩) os
def A6(ρ:List (Str×AV))(os:List Ob):St:=⟨ρ,HK os 0,os.length,os.length⟩
def HD(fl:Bx)(r:AV):Prop:=Bx.rec (r = .none) False False (λa=>r=a) fl
structure qI(k:Nat)(Q:AV->List Ob->Prop)(τ:St)(r:AV)(os:List Ob):Prop where
 shut:r.sub nn=some r
 len:os.length=k
 shuts:CM os
 objs :∀(i:Nat) (o:Ob),os[i]?=some o->τ.H.lookup i=some o.ao
 q:Q r os
def AN(k:Nat)(Q:AV->List Ob->Prop)(fl:Bx)(σ:St):Prop:=∃r τ os,HD fl r/\Aa σ τ/\qI k Q τ r os
noncomputable def N3(f:bK5):Value:=match f with
 | .ret v=>v
 | _=>.none
def RF{X:Ω}{c:Ŋ}{af:Bx}{f:bK5}{r:AV}(a:QT X c af f)(b:HD af r):Ξ X c r (N3 f):=by
 cases af with
 | next=>rw[show f = .next from a,show r = .none from b];exact rfl
 | ret v=>exact a.elim λu q=>by rw[q.1,show r=v from b];exact q.2
 | brk=>exact b.elim
 | cont=>exact b.elim
def eJ(G:ļ)(k:Nat):Prop:=∀a p,G.tag a=some p->p = .lock\/∃i,i<k/\((p = .obj i/\a=G.μ i)\/(p = .dict i/\a=G.δ i))
def RR{X:Ω}{S:ì}{P:Pm}{body:List aF3}{G G₀:ļ}{s s₁:aA8}{os:List Ob}{ρ:List (Str×AV)}{Q:AV->List Ob->Prop}(H:Nu X S)(hs:X.hs=s.heap)(hG:X.aG=G)(hn:X.an=os.length)(hg:X.gens=s.gens)(ho:X.os=s.os)(nt:eJ G os.length)
  (D:KT G X.h₀ s) (T :∀(i:Nat) (o:Ob),os[i]?=some o->G.tag (G.δ i)=some (.dict i)) (lk :∀a,G.tag a=some .lock->G₀.tag a=some .lock) (ht:s.toks<=s₁.toks) (R₀:Ł X ⟨G₀,A6 ρ os,s₁⟩) (h:wL P S body (A6 ρ os) (AN os.length Q)) :
  ĭ X (execs body X.env) (λfl s'=>VK X.L G os.length s Q (N3 fl) s') s₁:=
 ĭ.mono (F4 (aN2 (MG H body h G₀ s₁ R₀) (λfl s' p lt=>(bN3 p (aA0 ht lt.2):_/\s.toks<=s'.toks)) λ_ _=>id)) λfl s' pl=>by
  obtain⟨p,le⟩:=pl
  cases p with
  | mk G' σ' af k R' fr q=>
  obtain⟨r,τ,os',hf,hw,L⟩:=q
  obtain⟨G'',k2,R⟩:=hw X G' s' R'
  have hv:=RF fr hf
  have an :∀i,i<os.length->G''.μ i=G.μ i/\G''.δ i=G.δ i:=λi hi=>hG▸R.anc.2.2 i (hn▸hi)
  have ob :∀{i:Nat},i<os.length->∃o:Ob,os'[i]?=some o/\GL X ⟨G'',τ,s'⟩ i o.ao:=λ{i} hi=>⟨os'[i]'(L.len▸hi),aA5 _,R.obj i _ (L.objs i _ (aA5 _))⟩
  have own2 :∀a,G.own a->G''.own a:=λa ha=>by
   cases e:G.tag a with
   | none=>exact bO4 e ha
   | some p=>
    exact(nt a p e).elim (λz=>Ag (k2.lock a (k.lock a (lk a (z▸e))))) λz=>z.elim λi z=>
     have hi:=z.1
     (ob hi).elim λo q=>z.2.elim (λz=>z.2.trans (an i hi).1.symm▸Ag q.2.tag) λz=>z.2.trans (an i hi).2.symm▸q.2.rel.casesOn λ_ _ _ _ _ ht=>Ag ht
  have st:Ca G'' s'.heap (G.tau G''.τ) s'.heap:=⟨λa o e q=>⟨e,λz=>q (own2 a z)⟩,λ_ _=>id⟩
  exact⟨G''.τ,hG▸R.aτ,R.tk,le,r,os',L.q,L.shut,L.len,L.shuts,λb o e q=>R.keep b o (hs▸e) (hG▸q),hs▸R.size,R.gens.trans hg,R.os.trans ho,λi o e=>
   have hi:i<os.length:=L.len▸(aA4.mp e).1
   D5.sub st (λx w e=>AA e) (an i hi).1.symm (an i hi).2.symm (λ_ e=>e) (λ_=>⟨λ_ e=>e,(an i hi).2.symm▸T i _ (aA5 hi)⟩) o.ao o.ao ((bO1 (aD4 (Ÿ.inst o.1)) (L.shuts i o e)).trans rfl) (R.obj i _ (L.objs i o e)).rel,(Ab.shut (n':=0) k2.still L.shut hv).shut st L.shut⟩
open Classical in
def ļ.neat(G:ļ)(k:Nat):ļ:=⟨λa=>(G.tag a).map λp=>if∃i,i<k/\((p = .obj i/\a=G.μ i)\/(p = .dict i/\a=G.δ i))then p else .lock,G.μ,G.δ,G.τ⟩
section
variable{G:ļ}{k:Nat}{a:aC3}{L:Ci}{h:aE8}{i:Nat}{o:Ob}
def DM:(G.neat k).own a↔G.own a:=by
 show(G.tag a).map _≠none↔G.tag a≠none
 cases G.tag a with
 | none=>exact Iff.rfl
 | some p=>exact⟨λ_ z=>(nomatch z),λ_ z=>nomatch z⟩
def HC:Ca G h (G.neat k) h:=⟨λa o e q=>⟨e,λz=>q (DM.mp z)⟩,λ_ _=>id⟩
def HP{τ:Tok->Option Str}:Ca ((G.neat k).tau τ) h (G.tau τ) h:=⟨λa o e q=>⟨e,λz=>q (DM.mpr z)⟩,λ_ _=>id⟩
def KW{p:A3}(e:(G.neat k).tag a=some p):p = .lock\/(G.tag a=some p/\∃i,i<k/\((p = .obj i/\a=G.μ i)\/(p = .dict i/\a=G.δ i))):=by
 obtain⟨q,e1,e2⟩:=AH e
 by_cases hc :∃i,i<k/\((q = .obj i/\a=G.μ i)\/(q = .dict i/\a=G.δ i))
 ·rw[bO2 hc]at e2;exact .inr (e2▸⟨e1,hc⟩)
 ·rw[bO3 hc]at e2;exact .inl e2.symm
def Ux:eJ (G.neat k) k:=λa p e=>(KW e).imp id λq=>q.2
def Ud(e:(G.neat k).mt a):G.mt a:=e.elim λp q=>(KW q.1).elim (λz=>bO4 z q.2) λz=>⟨p,z.1,q.2⟩
def NE{p:A3}(e:G.tag a=some p)(q :∃i,i<k/\((p = .obj i/\a=G.μ i)\/(p = .dict i/\a=G.δ i))):(G.neat k).tag a=some p:=(bO1 (aD4 _) e).trans (bO1 some (bO2 q))
def Hc(g:Kq L G h k i o)(hi:i<k)(s:AJ nn o.2=some o.2):Kq L (G.neat k) h k i o:=
 ⟨NE g.tag ⟨i,hi,.inl ⟨rfl,rfl⟩⟩,D5.sub HC (λ_ _ e=>AA e) rfl rfl (λ_=>id) (λt=>⟨λ_=>id,NE t ⟨i,hi,.inr ⟨rfl,rfl⟩⟩⟩) o.ao o.ao (bO1 (aD4 (Ÿ.inst o.1)) s) g.rel⟩
def Hg(g:Kq L G h k i o):G.tag (G.δ i)=some (.dict i):=g.rel.casesOn λ_ _ _ _ _ ht=>ht
def Oj{s s':aA8}{Q:AV->List Ob->Prop}{v:Value}(t :∀i,i<k->G.tag (G.δ i)=some (.dict i))(b:VK L (G.neat k) k s Q v s'):VK L G k s Q v s':=
 b.casesOn λτ up tk le r os' q sh len shs keep size gens os objs rel=>⟨τ,up,tk,le,r,os',q,sh,len,shs,λb o e z=>keep b o e λy=>z (Ud y),size,gens,os,
  λi o e=>D5.sub (HP (τ:=τ)) (λ_ _ e=>AA e) rfl rfl (λ_=>id) (λ_=>⟨λ_=>id,t i (len▸(aA4.mp e).1)⟩) o.ao o.ao (bO1 (aD4 (Ÿ.inst o.1)) (shs i o e)) (objs i o e),rel.shut (HP (τ:=τ)) sh⟩
end
section
variable{k:Str->Option aP4}{L:Ci}{G:ļ}{h:aE8}{n:Nat}
def LZ{ps:List Str} :∀{vs:List Value} {m:Str->Option Value} {x:Str},x∉ps->bindL k (ps.zip vs) m x=m x:=
 aB7 (motive:=λps=>∀{vs:List Value} {m:Str->Option Value} {x:Str},x∉ps->bindL k (ps.zip vs) m x=m x) (λ{vs m x} _=>rfl) (λp r ih vs m x hx=>by
  cases vs with
  | nil=>rfl
  | cons v vs=>
   refine(ih λz=>hx (aC1 _ z)).trans ?_
   exact JF (P:=λf:Str->Option Value=>f x=m x) (bO3 λz:x=p=>hx (z.symm▸aB4 ..)) rfl) ps
def LQ{ps:List Str} :∀{vs:List Value} {m:Str->Option Value} {x:Str},x∉ps->bindC k (ps.zip vs) m x=m x:=
 aB7 (motive:=λps=>∀{vs:List Value} {m:Str->Option Value} {x:Str},x∉ps->bindC k (ps.zip vs) m x=m x) (λ{vs m x} _=>rfl) (λp r ih vs m x hx=>by
  cases vs with
  | nil=>rfl
  | cons v vs=>
   refine(ih λz=>hx (aC1 _ z)).trans ?_
   exact JF (P:=λf:Str->Option Value=>f x=m x) rfl (bO3 λz:x=p=>hx (z.symm▸aB4 ..))) ps
def SP{ps:List Str} :∀{as:List AV} {vs:List Value} {m:Str->Option Value} {x:Str} {a:AV},ps.Nodup->AX L G h n as vs->(ps.zip as).lookup x=some a->k x=some .local->∃v,bindL k (ps.zip vs) m x=some v/\Ab L G h n a v:=
 aB7 (motive:=λps=>∀{as:List AV} {vs:List Value} {m:Str->Option Value} {x:Str} {a:AV},ps.Nodup->AX L G h n as vs->(ps.zip as).lookup x=some a->k x=some .local->∃v,bindL k (ps.zip vs) m x=some v/\Ab L G h n a v) (λ_ _ e=>AA e) (λp r ih as vs m x a hn q e hk=>by
  cases as with
  | nil=>exact AA e
  | cons b as=>
   obtain⟨v,us,rfl,q1,ĉ⟩:=q
   have hn:=aO8.mp hn
   exact Bh e (λz y=>by
    subst z;subst y
    refine⟨v,?_,q1⟩
    show bindL k (r.zip us) (if k x=some .local then _ else _) x=some v
    rw[bO2 hk,LZ hn.1]
    exact bO2 rfl) λe=>ih hn.2 ĉ e hk) ps
def Px{ps:List Str} :∀{as:List AV} {vs:List Value} {m:Str->Option Value} {x:Str} {a:AV},ps.Nodup->AX L G h n as vs->(ps.zip as).lookup x=some a->k x≠some .local->∃v,bindC k (ps.zip vs) m x=some v/\Ab L G h n a v:=
 aB7 (motive:=λps=>∀{as:List AV} {vs:List Value} {m:Str->Option Value} {x:Str} {a:AV},ps.Nodup->AX L G h n as vs->(ps.zip as).lookup x=some a->k x≠some .local->∃v,bindC k (ps.zip vs) m x=some v/\Ab L G h n a v) (λ_ _ e=>AA e) (λp r ih as vs m x a hn q e hk=>by
  cases as with
  | nil=>exact AA e
  | cons b as=>
   obtain⟨v,us,rfl,q1,ĉ⟩:=q
   have hn:=aO8.mp hn
   exact Bh e (λz y=>by
    subst z;subst y
    refine⟨v,?_,q1⟩
    show bindC k (r.zip us) (if k x=some .local then _ else _) x=some v
    rw[bO3 hk,LQ hn.1]
    exact bO2 rfl) λe=>ih hn.2 ĉ e hk) ps
def FE{x:Str}{names:List (Str×aP4)} :∀{n:Nat} {acc:List (Str×aC3)},((x,aT4)∈names\/acc.lookup x≠none)->(cellsFrom n names acc).lookup x≠none:=
 aB7 (motive:=λnames=>∀{n:Nat} {acc:List (Str×aC3)},((x,aT4)∈names\/acc.lookup x≠none)->(cellsFrom n names acc).lookup x≠none) (λ{n acc} h=>h.elim (λz=>nomatch z) id) (λp r ih n acc h=>by
  show(if(p.2==aT4)=true then cellsFrom (n+1) r ((p.1,n)::acc)else cellsFrom n r acc).lookup x≠none
  by_cases hk:(p.2==aT4)=true
  ·rw[bO2 hk]
   refine ih (h.elim (λz=>(aC4.mp z).elim (λe=>.inr ?_) .inl) λz=>.inr ?_)
   ·rw[<-e];exact λz=>nomatch List.lookup_cons_self.symm.trans z
   ·intro y
    rw[A1]at y
    cases hx:x==p.1 with
    | true=>rw[hx]at y;cases y
    | false=>rw[hx]at y;exact z y
  ·rw[bO3 hk]
   exact ih (h.elim (λz=>(aC4.mp z).elim (λe=>bO4 (e▸rfl) hk) .inl) .inr)) names
end
structure ZG(h₀:aE8)(fa:aC3)(fd:aV8)(body:List aF3)(ps:List Str)(dvs:List Value):Prop where
 obj :∃o,h₀.get? fa=some o/\o.data = .func fd
 lim:h₀.NoLimit
 cod:h₀.CodeRec fd.code fd.qualname
 bod:fd.body = .stmts body
 clo:fd.closure=[]
 nofree :∀x∈fd.scope.names,x.2≠.free
 co:fd.scope.isCoroutine=false
 gen:fd.scope.isGenerator=false
 kind:fd.scope.kind = .function
 nodup:ps.Nodup
 loc :∀x∈ps,fd.scope.names.lookup x=some .local\/fd.scope.names.lookup x=some .cell
 bind :∀(s:aA8) (vas:List Value),(∀b o,h₀.get? b=some o->s.heap.get? b=some o)->vas.length+dvs.length=ps.length->aY9 s fd ⟨vas,[]⟩ (ps.zip (vas++dvs))
open Classical in
def ļ.frame(G:ļ)(env:Env):ļ:=⟨λa=>if a=env.locals then some .loc else if h :∃n,env.cells.lookup n=some a then some (.cell h.choose)else G.tag a,G.μ,G.δ,G.τ⟩
section
variable{G:ļ}{env:Env}{n:Nat}{a:aC3}{p:A3}
def Ha(e:(G.frame env).tag a=some p):(a=env.locals/\p = .loc)\/(∃y,env.cells.lookup y=some a/\p = .cell y)\/G.tag a=some p:=by
 unfold ļ.frame at e
 dsimp only at e
 split at e
 ·exact .inl ⟨‹_›,(aA2 e).symm⟩
 ·split at e
  ·rename_i h;exact .inr (.inl ⟨_,h.choose_spec,(aA2 e).symm⟩)
  ·exact .inr (.inr e)
def Ll(hl :∀b,G.own b->b<env.locals)(hc :∀y c,env.cells.lookup y=some c->env.locals<c)(e:G.tag a=some p):(G.frame env).tag a=some p:=by
 have lt:=hl a (Ag e)
 exact(bO3 (aE2 lt)).trans ((dif_neg λh=>Nat.lt_asymm lt (hc _ _ h.choose_spec)).trans e)
def MM(ha:env.cells.Pairwise λx y=>x.2≠y.2)(hc :∀y c,env.cells.lookup y=some c->env.locals<c){y:Str}(e:env.cells.lookup y=some a):(G.frame env).tag a=some (.cell y):=
 have ex :∃n,env.cells.lookup n=some a:=⟨y,e⟩
 (bO3 (aJ8 (hc y a e))).trans ((dif_pos ex).trans (bO1 (λn=>some (A3.cell n)) (name_of_addr ha (mem_of_lookup ex.choose_spec) (mem_of_lookup e))))
end
def KQ{L:Ci}{h₀:aE8}{d:Nat}{fa:aC3}{fd:aV8}{body:List aF3}{ps:List Str}{es:List AV}{dvs:List Value}{P:Pm}{S:ì}{tr:Ġ}(K:ZG h₀ fa fd body ps dvs)(hdv :∀{L:Ci} {G:ļ} {h:aE8} {n:Nat},Vr G.τ->AX L G h n es dvs)
  (hP :∀X:Ω,X.L=L->X.h₀=h₀->DW d X.A->X.env.globals=fd.globals->X.env.builtins=fd.builtins->X.env.scope=fd.scope->Nu X S)
  (h :∀as os Q,tr as os Q->(as.length+es.length=ps.length/\CM os)/\wL P S body (A6 (ps.zip (as++es)) os) (AN os.length Q)):BG L h₀ (d+1) (.ref fa) tr:=λ{A s G as os Q vas} hA D hO hV ht=>by
 obtain⟨o,ho,hdata⟩:=K.obj
 have hos:=D.base _ _ ho
 refine⟨λQ' E' hq=>?_,?_⟩
 ·unfold bD0
  refine aA3 (aS8 hos ?_)
  rw[hdata]
  exact aA7 (hq _)
 obtain⟨⟨hl,hsh⟩,hw⟩:=h as os Q ht
 have hvl:vas.length+dvs.length=ps.length:=hV.len.symm▸(AX.len (hdv (L:=L) (G:=G) (h:=s.heap) (n:=0) D.tk0)).symm▸hl
 refine codeAny_call_function (aD5 (aD0 _ _) hA.2.1) hos hdata K.co K.gen K.bod (K.cod.keeps D.base) (K.bind s vas D.base hvl _ _ _ _ ?_)
 rw[K.clo]
 refine F4 (wpAny_newFunctionEnv_cells K.kind (λx hx=>(K.loc _ (List.of_mem_zip hx).1).imp id λz=>⟨z,Option.isSome_iff_ne_none.mpr (FE (.inl (mem_of_lookup z)))⟩) λenv hE s₁ x lt=>⟨(K.lim.keeps D.base).keeps x.toInCall.keep,codeAny_func ?_⟩)
 have e1:env.locals=s.heap.objs.size:=hE▸rfl
 have e2:env.cells=cellsFrom (s.heap.objs.size+1) fd.scope.names []:=hE▸rfl
 have e3:env.scope=fd.scope:=hE▸rfl
 have e4:env.globals=fd.globals:=hE▸rfl
 have e5:env.builtins=fd.builtins:=hE▸rfl
 clear hE
 obtain⟨⟨⟨h₁,tk,hs₁⟩,hns,hkeep,_⟩,hcell,hapart,habove⟩:=x
 have hab :∀y c,env.cells.lookup y=some c->env.locals<c:=λy c e=>habove y c (mem_of_lookup e)
 have lo :∀b,(G.neat os.length).own b->b<env.locals:=λb e=>e1▸D.lt b (DM.mp e)
 have told :∀{a p},(G.neat os.length).tag a=some p->((G.neat os.length).frame env).tag a=some p:=Ll lo hab
 have sz:s.heap.objs.size<=s₁.heap.objs.size:=e1▸aD8 hns.lt
 have pc :∀{a p},((G.neat os.length).frame env).tag a=some p->s.heap.objs.size<=a\/(G.neat os.length).tag a=some p:=λ{a p} e=>(Ha e).elim (λz=>.inl (aB9 (z.1.trans e1).symm)) λz=>z.elim (λz=>z.elim λy z=>.inl (e1▸aD8 (hab y a z.1))) .inr
 have oc :∀{a},((G.neat os.length).frame env).own a->s.heap.objs.size<=a\/(G.neat os.length).own a:=λ{a} e=>by
  cases t:((G.neat os.length).frame env).tag a with
  | none=>exact bO4 t e
  | some p=>exact(pc t).imp id Ag
 let X:Ω:=⟨L,A.deeper env,env,s.heap,h₀,G.neat os.length,os.length,s.gens,s.os⟩
 have p:E1 ⟨G.neat os.length,A6 (ps.zip (as++es)) os,s⟩ ⟨(G.neat os.length).frame env,A6 (ps.zip (as++es)) os,s₁⟩:=⟨⟨λa o e q=>⟨hkeep a o e,λz=>(oc z).elim (Cd e) q⟩,λ_ _=>id⟩,λ_ _=>⟨rfl,rfl⟩,aB6 _⟩
 have hV':į X ⟨(G.neat os.length).frame env,A6 (ps.zip (as++es)) os,s₁⟩ (as++es) (vas++dvs):=p.va (X:=X) (AX.append (AX.sub HC (λy w e hy=>by cases e;exact⟨rfl,hy⟩) (Es as) hV) (hdv D.tk0))
 have R₀:Ł X ⟨(G.neat os.length).frame env,A6 (ps.zip (as++es)) os,s₁⟩:={
  base:=λb o e=>hkeep _ _ (D.base b o e)
  keep:=λb o e _=>hkeep _ _ e
  size:=sz
  mutHs:=λa e=>e.elim λq e=>(pc e.1).elim .inr λz=>.inl ⟨q,z,e.2⟩
  ownB:=λa e=>(oc e).elim (aA0 D.size) λz=>D.lo a (DM.mp z)
  ownLt:=λa e=>by
   cases t:((G.neat os.length).frame env).tag a with
   | none=>exact bO4 t e
   | some p=>exact(Ha t).elim (λz=>z.1▸hns.lt) λz=>z.elim (λz=>z.elim λy z=>(hcell y a z.1).lt) λz=>aC0 (D.lt a (DM.mp (Ag z))) sz
  gens:=by rw[hs₁]
  os:=by rw[hs₁]
  loc:=⟨_,hns,λx av q1 ĉ=>SP K.nodup hV' q1 ĉ⟩
  cel:=λx c e=>⟨_,hcell x c e,λav q1 ĉ=>(Px K.nodup hV' q1 ĉ).imp λv q=>q⟩
  celAll:=λx q1 ĉ=>q1.elim (λz=>FE (.inl (mem_of_lookup (e3▸z:fd.scope.names.lookup x=_))) (e2▸ĉ)) λz=>K.nofree _ (mem_of_lookup (e3▸z:fd.scope.names.lookup x=_)) rfl
  tloc:=bO2 rfl
  tcel:=λx c e=>MM hapart hab e
  obj:=λx o e=>by
   obtain⟨j,b,z,q1,rfl⟩:=J4 e
   obtain rfl:x=j:=z.trans (bC2 j)
   have hx:=(aA4.mp q1).1
   have g:=Hc (hO x b q1) hx (hsh x b q1)
   exact p.obj (X:=X) (told g.tag) (hkeep _) (λt=>⟨hkeep _,told t⟩) ⟨hx,g.tag,g.rel⟩
  anc:=⟨aB6 _,aB6 _,λ_ _=>⟨rfl,rfl⟩⟩
  tk:=λt x e=>aC0 (D.tk t x e) lt.2
  tk0:=D.tk0
  aτ:=λ_ _=>id}
 have H:=hP X rfl rfl ⟨hA.1,by have:=hA.2.1;show A.depth+1+d<_;exact id (ql [_,_,_] 0x21180aa12181a0a18 (by rfl') this),by have:=hA.2.2;show A.units+3+10*d+40<_;exact id (ql [_,_,_] 0x2000028910ac380aaa120000289181a0ac0aa18 (by rfl') this)⟩ e4 e5 e3
 have T :∀(i:Nat) (o:Ob),os[i]?=some o->G.tag (G.δ i)=some (.dict i):=λi o e=>Hg (hO i o e)
 refine aN2 (RR (G:=G.neat os.length) (s:=s) H rfl rfl rfl rfl rfl Ux ⟨λa e=>D.lo a (DM.mp e),λa e=>D.lt a (DM.mp e),D.base,D.size,D.tk,D.tk0⟩ (λi o e=>Hg (Hc (hO i o e) (aA4.mp e).1 (hsh i o e))) (λa e=>told e) lt.2 R₀ hw) (λfl s' b=>?_) λ_ _ x=>x.elim
 exact⟨_,rfl,Oj (λi hi=>T i _ (aA5 hi)) b⟩
def TF{L:Ci}{h₀:aE8}{d:Nat}{fa:aC3}{fd:aV8}{body:List aF3}{ps:List Str}{P:Pm}{S:ì}{tr:Ġ}(K:ZG h₀ fa fd body ps [])
  (hP :∀X:Ω,X.L=L->X.h₀=h₀->DW d X.A->X.env.globals=fd.globals->X.env.builtins=fd.builtins->X.env.scope=fd.scope->Nu X S)
  (h :∀as os Q,tr as os Q->(as.length=ps.length/\CM os)/\wL P S body (A6 (ps.zip as) os) (AN os.length Q)):BG L h₀ (d+1) (.ref fa) tr:=
 KQ (es:=[]) K (λ{_ _ _ _} _=>rfl) hP λas os Q ht=>have q:=h as os Q ht;⟨q.1,Eq.mpr (bO1 (λl=>wL P S body (A6 (ps.zip l) os) (AN os.length Q)) (aF9 as)) q.2⟩
end Mine
end
section
open PySem PySem.W PyProof.Rows
namespace Mine
section
def ĩ(P:aD6):bF7:=(aC2 nF).zip (Hk P)
def Eh(P:aD6):(ĩ P).In (ë P):=bF7.in_of (as:=aC2 nF) (by rfl') (by rfl')
noncomputable abbrev œ:aC3:=135
noncomputable abbrev Ş:aC3:=242
noncomputable abbrev Ĉ:aC3:=82
noncomputable abbrev OX:aC3:=136
noncomputable abbrev aM:aC3:=89
noncomputable abbrev ME:aC3:=91
def X8(P:aD6)(S:aZ0):peek (ĩ P) S (aI9 (.ref œ) "__iter__")=some (some (.builtin "tuple.__iter__")):=by rfl'
def bX(P:aD6)(S:aZ0):peek (ĩ P) S (aI9 (.ref œ) "__len__")=some (some (.builtin "tuple.__len__")):=by rfl'
def sW(P:aD6)(S:aZ0):peek (ĩ P) S (aI9 (.ref œ) "__lt__")=some (some (.builtin "tuple.__lt__")):=by rfl'
def ZV(P:aD6)(S:aZ0):peek (ĩ P) S (aI9 (.ref œ) "__init__")=some (some (.builtin "object.__init__")):=by rfl'
def g6(P:aD6)(S:aZ0):peek (ĩ P) S (aR6 (.ref œ) (.type "tuple"))=some true:=by rfl'
def Wm(P:aD6)(S:aZ0):peek (ĩ P) S (aR6 (.ref œ) (.ref œ))=some true:=by rfl'
def Zn(P:aD6)(S:aZ0):peek (ĩ P) S (aR6 (.ref œ) (.type "object"))=some true:=by rfl'
def fT(P:aD6)(S:aZ0):peek (ĩ P) S (isType (.ref œ))=some true:=by rfl'
def Yc(P:aD6)(S:aZ0):peek (ĩ P) S (bD5 (.ref œ))=some none:=by rfl'
def Ww(P:aD6)(S:aZ0):peek (ĩ P) S (Bind.staticBase (.ref œ))=some (.type "tuple"):=by rfl'
def Wh(P:aD6)(S:aZ0):peek (ĩ P) S (bC8 (.ref œ) "__call__")=some (some (.builtin "type.__call__")):=by rfl'
def XY(P:aD6)(S:aZ0):peek (ĩ P) S (bA0 (.ref œ) (.type "type"))=some true:=by rfl'
def tM(P:aD6):(ë P).isNs aJ5=true:=by rfl'
def Ò(P:aD6):(ë P).isNs aW4=true:=by rfl'
noncomputable def Ù:List (Str×AV):=[("len",.fn .len),("range",.fn .range),("set",.fn .set),("enumerate",.fn .enumerate),("list",.fn .list),("map",.fn .map),("tuple",.fn .tuple),("max",.fn .max),("chr",.fn .chr),("Match",.glo œ),("SequenceMatcher",.glo Ş),("_law_deed",.glo 251),("_law_read",.glo 256),("_law_carry",.glo 261)]
def t5(x:Str):Option AV:=Ù.lookup x
def Nv(P:aD6)(x:Str)(v:AV):Prop:=∃c,LN v=some c/\((∃mg,(ë P).Ns aJ5 mg/\mg x=some c)\/∃mg mb,(ë P).Ns aJ5 mg/\mg x=none/\(ë P).Ns aW4 mb/\mb x=some c)
def TA{P:aD6}{x:Str}{v:AV}{c:Value}(h0:LN v=some c)(h1:(ë P).nsMap aJ5 x=none)(h2:(ë P).nsMap aW4 x=some c):Nv P x v:=⟨c,h0,.inr ⟨_,_,.of_isNs (tM P),h1,.of_isNs (Ò P),h2⟩⟩
def Zi{P:aD6}{x:Str}{v:AV}{c:Value}(h0:LN v=some c)(h1:(ë P).nsMap aJ5 x=some c):Nv P x v:=⟨c,h0,.inl ⟨_,.of_isNs (tM P),h1⟩⟩
def Bu{P:aD6}{y:Str}{w:AV}{r:List (Str×AV)}(h:Nv P y w)(q :∀x v,r.lookup x=some v->Nv P x v) :∀x v,((y,w)::r).lookup x=some v->Nv P x v:=λx v e=>Bh e (λa b=>a▸b▸h) (q x v)
def Xr(P:aD6) :∀x v,t5 x=some v->Nv P x v:=
 Bu (TA rfl (by rfl') (by rfl')) (Bu (TA rfl (by rfl') (by rfl')) (Bu (TA rfl (by rfl') (by rfl')) (Bu (TA rfl (by rfl') (by rfl')) (Bu (TA rfl (by rfl') (by rfl')) (Bu (TA rfl (by rfl') (by rfl')) (Bu (TA rfl (by rfl') (by rfl')) (Bu (TA rfl (by rfl') (by rfl')) (Bu (TA rfl (by rfl') (by rfl')) (Bu (Zi rfl (by rfl')) (Bu (Zi rfl (by rfl')) (Bu (Zi rfl (by rfl')) (Bu (Zi rfl (by rfl')) (Bu (Zi rfl (by rfl')) λ_ _=>AA)))))))))))))
def sG(P:aD6):(clsIn (ĩ P) œ).any (λcd=>!cd.hasDel && !cd.mro.isEmpty)=true:=by rfl'
def eZ(P:aD6):Ho (ë P) œ Ĉ where
 iter:=λM=>aL9 (Eh P) (X8 P _)
 sub:=λM=>aL9 (Eh P) (g6 P _)
 typ:=λM=>aL9 (Eh P) (fT P _)
 len:=λM=>aL9 (Eh P) (bX P _)
 lt:=λM=>aL9 (Eh P) (sW P _)
 base:=λM=>aL9 (Eh P) (Ww P _)
 init:=λM=>aL9 (Eh P) (ZV P _)
 obj:=by
  obtain⟨cd,h1,h2⟩:=any_some (sG P)
  simp only[aI7,bD8]at h2
  unfold clsIn at h1
  split at h1
  ·rename_i oc od c ę ho
   cases h1
   exact⟨oc,od,_,ę,Eh P _ _ ho,h2.1,h2.2⟩
  ·cases h1
 made:=λM=>aL9 (Eh P) (Yc P _)
 call:=λM=>aL9 (Eh P) (Wh P _)
 inst:=λM=>aL9 (Eh P) (XY P _)
 self:=λM=>aL9 (Eh P) (Wm P _)
 top:=λM=>aL9 (Eh P) (Zn P _)
def gF(P:aD6):(Hk P).length=nF:=by rfl'
def Sq(P:aD6)(T:aC3->Option Ġ)(init:Option Ġ)(new mak:Bool)(frz wk:Pos->Bool)(ro:Bool:=false):Pm:=⟨ĩ P,œ,Ş,t5,T,init,new,mak,frz,wk,ro⟩
noncomputable abbrev aI:aC3:=160
def vD(P:aD6):(recIn (ĩ P) ME "classmethod").any (λl=>l.head?==some (.ref aM))=true:=by rfl'
def oV(P:aD6) :∃rest,recIn (ĩ P) ME "classmethod" = some (.ref aM::rest):=by
 obtain⟨l,h1,h2⟩:=any_some (vD P)
 cases l with
 | nil=>cases h2
 | cons v r=>
  have:v = .ref aM:=by simpa using h2
  subst this
  exact⟨r,h1⟩
variable{w:aC7}{T:aC3->Option Ġ}{init:Option Ġ}{new mak:Bool}{frz wk:Pos->Bool}{ro:Bool}{d:Nat}
def Ű(w:aC7):Ci:=⟨Δ,w,œ⟩
def Ur(fn :∀f tr,T f=some tr->BG (Ű w) (ë w.params) (d+1) (.ref f) tr)(hn:new=true->BG (Ű w) (ë w.params) d (.ref Ĉ) (Kr œ))(hm:mak=true->BG (Ű w) (ë w.params) d (.ref aM) (ID œ))
  (hi :∀tr,init=some tr->BG (Ű w) (ë w.params) d (.ref aI) tr):NX (Ű w) (ë w.params) (Sq w.params T init new mak frz wk ro) d Ĉ OX aM ME aI where
 hC:=rfl
 K:=Eh _
 N:=eZ _
 Y:=⟨by rfl',by rfl',⟨[],by rfl'⟩⟩
 keepC:=by rfl'
 sys:=by show sysModules<(Hk w.params).length;rw[gF];decide
 glob:=Xr _
 make:=by rfl'
 cmo:=oV _
 fn:=fn
 new:=hn
 mkOk:=hm
 init:=λtr e=>⟨by rfl',by rfl',by rfl',by rfl',hi tr e⟩
end
noncomputable def C2:List aF3->Str->List aF3×Scope
 | [],_=>([],⟨.module,[],false,false,[]⟩)
 | .FunctionDef n a b _ _ _ sc _ _ _::r,x=>if n=x then(b,sc)else C2 r x
 | _::r,x=>C2 r x
def C9(P:aD6)(a:aC3):aV8:=match(ĩ P).lookup a with
 | some ⟨_,_,.func fd,_⟩=>fd
 | _=>default
def BL(P:aD6)(a:aC3):Bool:=match(ĩ P).lookup a with
 | some ⟨_,_,.func fd,_⟩=>codeIn (ĩ P) fd.code fd.qualname&&fd.closure.isEmpty&&fd.scope.names.all (λx=>x.2 != .free) && !fd.scope.isCoroutine && !fd.scope.isGenerator&&fd.scope.kind == .function&&fd.globals==aJ5&&fd.builtins==aW4
 | _=>false
def sS(P:aD6):(ë P).noLimitOk=true:=by rfl'
noncomputable def Sz(sc:Scope)(ps:List Str):Bool:=ps.all λx=>sc.names.lookup x==some .local||sc.names.lookup x==some .cell
def Vl{P:aD6}{a:aC3}{body:List aF3}{ps:List Str}{dvs:List Value}(h:BL P a=true)(hb:(C9 P a).body = .stmts body)(nd:ps.Nodup)(ă:Sz (C9 P a).scope ps=true)(bd :∀(s:aA8) (vas:List Value),(∀b o,(ë P).get? b=some o->s.heap.get? b=some o)->vas.length+dvs.length=ps.length->aY9 s (C9 P a) ⟨vas,[]⟩ (ps.zip (vas++dvs))):ZG (ë P) a (C9 P a) body ps dvs/\(C9 P a).globals=aJ5/\(C9 P a).builtins=aW4:=by
 have ă :∀x∈ps,(C9 P a).scope.names.lookup x=some .local\/(C9 P a).scope.names.lookup x=some .cell:=λx hx=>(aV5.mp (bF1.mp ă x hx)).imp aE6 aE6
 unfold BL at h
 unfold C9 at hb ă bd ⊢
 split at h
 ·rename_i o1 ó fd o3 ho
  rw[ho]at hb ă bd
  simp only at hb ă bd
  simp only[aI7,bD8,beq_iff_eq,bF1,bne_iff_ne,ne_eq,List.isEmpty_iff]at h
  obtain⟨⟨⟨⟨⟨⟨⟨h1,h2⟩,h3⟩,h4⟩,h5⟩,h6⟩,h7⟩,ſ⟩:=h
  exact⟨⟨⟨_,Eh P _ _ ho,rfl⟩,.of_ok (sS P),codeRec_of (Eh P) h1,hb,h2,h3,h4,h5,h6,nd,ă,bd⟩,h7,ſ⟩
 ·cases h
def tQ{w:aC7}{d fuel:Nat}{P:Pm}{a:aC3}{body:List aF3}{sc:Scope}{ps:List Str}{tr:Ġ}
  (W:NX (Ű w) (ë w.params) P d Ĉ OX aM ME aI) (h:BL w.params a=true) (hb:(C9 w.params a).body = .stmts body) (hs:(C9 w.params a).scope=sc) (nd:ps.Nodup) (ă:Sz sc ps=true)
  (bd :∀(s:aA8) (vas:List Value),(∀b o,(ë w.params).get? b=some o->s.heap.get? b=some o)->vas.length=ps.length->aY9 s (C9 w.params a) ⟨vas,[]⟩ (ps.zip vas))
  (hw :∀as os Q,tr as os Q->(as.length=ps.length/\CM os)/\wL P (ER P sc fuel) body (A6 (ps.zip as) os) (AN os.length Q)):BG (Ű w) (ë w.params) (d+2) (.ref a) tr:=by
 obtain⟨K,g1,g2⟩:=Vl (dvs:=[]) h hb nd (hs▸ă) λs vas q e=>Eq.mpr (bO1 (λl=>aY9 s (C9 w.params a) ⟨vas,[]⟩ (ps.zip l)) (aF9 vas)) (bd s vas q e)
 exact TF K (λX e1 e2 hA h1 h2 h3=>a9 ⟨e1▸e2▸W,hA,h1.trans g1,h2.trans g2,h3.trans hs,hs▸K.kind⟩ fuel) hw
def zL{es:List AV}{dvs:List Value}{w:aC7}{d fuel:Nat}{P:Pm}{a:aC3}{body:List aF3}{sc:Scope}{ps:List Str}{tr:Ġ}
  (W:NX (Ű w) (ë w.params) P d Ĉ OX aM ME aI) (h:BL w.params a=true) (hb:(C9 w.params a).body = .stmts body) (hs:(C9 w.params a).scope=sc) (nd:ps.Nodup) (ă:Sz sc ps=true)
  (bd :∀(s:aA8) (vas:List Value),(∀b o,(ë w.params).get? b=some o->s.heap.get? b=some o)->vas.length+dvs.length=ps.length->aY9 s (C9 w.params a) ⟨vas,[]⟩ (ps.zip (vas++dvs)))
  (hdv :∀{L:Ci} {G:ļ} {h:aE8} {n:Nat},Vr G.τ->AX L G h n es dvs)
  (hw :∀as os Q,tr as os Q->(as.length+es.length=ps.length/\CM os)/\wL P (ER P sc fuel) body (A6 (ps.zip (as++es)) os) (AN os.length Q)):BG (Ű w) (ë w.params) (d+2) (.ref a) tr:=by
 obtain⟨K,g1,g2⟩:=Vl h hb nd (hs▸ă) bd
 exact KQ K hdv (λX e1 e2 hA h1 h2 h3=>a9 ⟨e1▸e2▸W,hA,h1.trans g1,h2.trans g2,h3.trans hs,hs▸K.kind⟩ fuel) hw
def PZ{w:aC7}{d fuel:Nat}{P:Pm}{a:aC3}{body:List aF3}{sc:Scope}{ps:List Str}{tr:Ġ}
  (W:NX (Ű w) (ë w.params) P d Ĉ OX aM ME aI) (h:BL w.params a=true) (hb:(C9 w.params a).body = .stmts body) (hs:(C9 w.params a).scope=sc) (nd:ps.Nodup) (ă:Sz sc ps=true)
  (bd :∀vas:List Value,vas.length=ps.length->aS1 (C9 w.params a) ⟨vas,[]⟩=pure (ps.zip vas))
  (hw :∀as os Q,tr as os Q->(as.length=ps.length/\CM os)/\wL P (ER P sc fuel) body (A6 (ps.zip as) os) (AN os.length Q)):BG (Ű w) (ë w.params) (d+2) (.ref a) tr:=
 tQ W h hb hs nd ă (λs vas _ e=>aY9.of_eq (bd vas e)) hw
noncomputable def OM:Pos->Bool:=λ_=>false
abbrev ō(w:aC7):Pm:=Sq w.params (λ_=>none) none false false OM OM
def w0{w:aC7}{d:Nat}:NX (Ű w) (ë w.params) (ō w) d Ĉ OX aM ME aI:=Ur (λ_ _ e=>nomatch e) (λe=>nomatch e) (λe=>nomatch e) (λ_ e=>nomatch e)
abbrev Tz:List aF3:=Ae (Δ.main.body[3]?)
def uK:List aF3:=(C2 Tz "__new__").1
def uL:Scope:=(C2 Tz "__new__").2
def ZM(P:aD6):(C9 P 82).body = .stmts uK/\(C9 P 82).scope=uL/\BL P 82=true:=⟨by rfl',by rfl',by rfl'⟩
def V5{α:Type}{m:List α->Prop}(h:m []) :∀v:List α,v.length=0->m v:=λv e=>(aO1 e).symm▸h
def GC{α:Type}{m:List α->Prop}{n:Nat}(h :∀a v,v.length=n->m (a::v)) :∀v:List α,v.length=n+1->m v:=λv=>aB7 (motive:=λv=>v.length=n+1->m v) (λe=>Nat.noConfusion e) (λa v _ e=>h a v (bK1 e)) v
def bB{f:aV8}{p q r t:Str}(h :∀a b c d:Value,aS1 f ⟨[a,b,c,d],[]⟩=pure ([(p,a),(q,b),(r,c),(t,d)])) :∀vas:List Value,vas.length=4->aS1 f ⟨vas,[]⟩=pure (([p,q,r,t]:List Str).zip vas):=
 GC λa=>GC λb=>GC λc=>GC λd=>V5 (h a b c d)
def Ð{w:aC7}{a b c:AV}{Q:AV->List Ob->Prop}:wL (ō w) (ER (ō w) uL 20) uK (A6 ((["_cls","a","b","size"]:List Str).zip [.glo œ,a,b,c]) []) (AN 0 Q) =
  AN 0 Q (.ret (.mat [a,b,c])) (A6 [("_cls",.glo œ),("a",a),("b",b),("size",c)] []):=by rfl'
def AI{a:AV}{r:List AV}(h1:a.sub nn=some a)(h2:AC nn r=some r):AC nn (a::r)=some (a::r):=by
 show(a.sub nn).bind (λa=>(AC nn r).map (a :: ·))=_
 rw[h1,h2];rfl
def AL{k:SK}{vs:List AV}(h:AC nn vs=some vs):(AV.seq k vs).sub nn=some (.seq k vs):=(bO1 (aD4 (AV.seq k)) h).trans rfl
def CJ:CM []:=λ_ _=>AA
def Yw{w:aC7}{d:Nat}:BG (Ű w) (ë w.params) (d+2) (.ref Ĉ) (Kr œ):=
 PZ w0 (ZM _).2.2 (ZM _).1 (ZM _).2.1 (ps:=["_cls","a","b","size"]) (by decide) (by rfl') (bB λa b c d=>by rfl') λas os Q hh=>by
  obtain⟨a,b,c,ea,eo,hs,hq⟩:=hh
  subst ea;subst eo
  exact⟨⟨rfl,CJ⟩,Ð.mpr ⟨_,_,[],rfl,.refl _,AL (AI hs.1 (AI hs.2.1 (AI hs.2.2 rfl))),rfl,CJ,λ_ _=>AA,hq⟩⟩
def tY:List aF3:=(C2 Tz "_make").1
def tW:Scope:=(C2 Tz "_make").2
def W5(P:aD6):(C9 P 89).body = .stmts tY/\(C9 P 89).scope=tW/\BL P 89=true:=⟨by rfl',by rfl',by rfl'⟩
def QC{f:aV8}{p q:Str}(h :∀a b:Value,aS1 f ⟨[a,b],[]⟩=pure ([(p,a),(q,b)])) :∀vas:List Value,vas.length=2->aS1 f ⟨vas,[]⟩=pure (([p,q]:List Str).zip vas):=
 GC λa=>GC λb=>V5 (h a b)
def Î{w:aC7}{a b c:AV}{Q:AV->List Ob->Prop}:wL (ō w) (ER (ō w) tW 20) tY (A6 ((["cls","iterable"]:List Str).zip [.glo œ,.tup [a,b,c]]) []) (AN 0 Q) =
  AN 0 Q (.ret (.mat [a,b,c])) (A6 [("cls",.glo œ),("iterable",.tup [a,b,c]),("result",.mat [a,b,c])] []):=by rfl'
def tJ{vs:List AV}(h:vs.length=3) :∃a b c,vs=[a,b,c]:=by
 match vs,h with
 | [a,b,c],_=>exact⟨a,b,c,rfl⟩
def UP{w:aC7}{d:Nat}:BG (Ű w) (ë w.params) (d+2) (.ref aM) (ID œ):=
 PZ w0 (W5 _).2.2 (W5 _).1 (W5 _).2.1 (ps:=["cls","iterable"]) (by decide) (by rfl') (QC λa b=>by rfl') λas os Q hh=>by
  obtain⟨vs,ea,hl,hs,eo,hq⟩:=hh
  obtain⟨a,b,c,rfl⟩:=tJ hl
  subst ea;subst eo
  exact⟨⟨rfl,CJ⟩,Î.mpr ⟨_,_,[],rfl,.refl _,AL hs,rfl,CJ,λ_ _=>AA,hq⟩⟩
def ù(l:List Int):List AV:=l.map AV.int
def Aq(l:List Int):AC nn (ù l)=some (ù l):=aB7 (motive:=λl=>AC nn (ù l)=some (ù l)) rfl (λa r ih=>AI rfl ih) l
def Mc(l:List Int):Bc (ù l)=some (l.map AD.int):=aB7 (motive:=λl=>Bc (ù l)=some (l.map AD.int)) rfl (λa r ih=>by
 show(B7 (AV.int a)).bind (λk=>(Bc (ù r)).map (k :: ·))=_
 rw[ih];rfl) l
def DY(l:List Int):(ù l).length=l.length:=aA6 ..
noncomputable def ű(l:List AD):List AV:=l.map AV.key
def Fo(l:List AD):AC nn (ű l)=some (ű l):=aB7 (motive:=λl=>AC nn (ű l)=some (ű l)) rfl (λa r ih=>AI rfl ih) l
def NQ(l:List AD):Bc (ű l)=some l:=aB7 (motive:=λl=>Bc (ű l)=some l) rfl (λa r ih=>by
 show(B7 (AV.key a)).bind (λk=>(Bc (ű r)).map (k :: ·))=_
 rw[ih];rfl) l
def GI(l:List AD):(ű l).length=l.length:=aA6 ..
def HJ{c:Bool}{P:Prop}(h:c=true):D1 c P=P:=h▸rfl
structure IJ(A:AV)(ks:List AD):Prop where
 shut:A.sub nn=some A
 hnd:BK A=true
 itm :∀b σ Q,FY A b σ Q=U8 (ű ks) b σ Q
 len :∀{C σ Q},ks.length<1000000->Q (.int ks.length) σ->EU C .len [A] σ Q
 enu :∀{tg σ K},DU tg=true->K (BS (ű ks)) σ->Ij tg [A] σ K
def Fx(ks:List AD):IJ (.lst (ű ks)) ks where
 shut:=AL (Fo ks)
 hnd:=rfl
 itm:=λ_ _ _=>rfl
 len:=λ{C σ Q} h q=>by
  have q:Q (.int (ű ks).length) σ:=by rw[GI];exact q
  exact⟨aA0 (aB9 (GI ks)) (aD8 h),q⟩
 enu:=λh q=>⟨h,Fo ks,q⟩
noncomputable def DA(s:Str):List AD:=s.cps.toList.map λc=>.str ⟨#[c]⟩
def Q5(s:Str):ű (DA s)=D6 s:=aG4 ..
def Em(s:Str):(DA s).length=s.cps.size:=aA6 ..
def EK(s:Str):IJ (.txt s) (DA s) where
 shut:=rfl
 hnd:=rfl
 itm:=λb σ Q=>by rw[Q5];rfl
 len:=λ{C σ Q} h q=>by
  rw[Em]at h q
  exact⟨h,q⟩
 enu:=λ{tg σ K} h q=>by
  rw[Q5]at q
  exact⟨h,q⟩
noncomputable abbrev BQ(a b mb op fb b2j:AV):List (Str×AV):=[("isjunk",.none),("a",a),("b",b),("autojunk",.bool true),("matching_blocks",mb),("opcodes",op),("fullbcount",fb),("b2j",b2j),("bjunk",.fset []),("bpopular",.fset [])]
noncomputable abbrev Vs:List (Str×AV):=[("isjunk",.none),("a",.none),("b",.none),("autojunk",.bool true)]
abbrev LA:List aF3:=Ae (Δ.main.body[5]?)
def YW:List aF3:=(C2 LA "set_seq1").1
def Yx:Scope:=(C2 LA "set_seq1").2
def S7(P:aD6):(C9 P 174).body = .stmts YW/\(C9 P 174).scope=Yx/\BL P 174=true:=⟨by rfl',by rfl',by rfl'⟩
abbrev Ū(P:Pm)(sc:Scope)(b:List aF3)(ρ:List (Str×AV))(os:List Ob)(Q:AV->List Ob->Prop):Prop:=wL P (ER P sc 30) b (A6 ρ os) (AN os.length Q)
def sN{w:aC7}{y a b mb op fb b2j:AV}{Q:AV->List Ob->Prop}:Ū (ō w) Yx YW ((["self","a"]:List Str).zip [.ref 0,y]) [(Ş,BQ a b mb op fb b2j)] Q =
  D1 (BK a) (PC y a λr=>BX r (AN 1 Q (.ret .none) (A6 [("self",.ref 0),("a",y)] [(Ş,BQ a b mb op fb b2j)])) (AN 1 Q .next (A6 [("self",.ref 0),("a",y)] [(Ş,BQ y b .none .none fb b2j)]))):=by rfl'
noncomputable abbrev İ:AV:=.txt ⟨#[]⟩
noncomputable abbrev Xc:List (Str×AV):=[("isjunk",.none),("a",İ),("b",.none),("autojunk",.bool true),("matching_blocks",.none),("opcodes",.none)]
def eM{w:aC7}{Q:AV->List Ob->Prop}:Ū (ō w) Yx YW ((["self","a"]:List Str).zip [.ref 0,İ]) [(Ş,Vs)] Q=AN 1 Q .next (A6 [("self",.ref 0),("a",İ)] [(Ş,Xc)]):=by rfl'
def Bs{o:Ob}(h:AJ nn o.2=some o.2):CM [o]:=λi p e=>by
 cases i with
 | zero=>exact aA2 e▸h
 | succ i=>exact AA e
def Cb{fl:Bx}{σ τ:St}{r:AV}{D:aC3}{at_:List (Str×AV)}{Q:AV->List Ob->Prop}(hf:HD fl r)(hw:Aa σ τ)(h:τ.H.lookup 0=some (.inst D at_))(hr:r.sub nn=some r)(ha:AJ nn at_=some at_)(hq:Q r [(D,at_)]):AN 1 Q fl σ:=
 ⟨r,τ,[(D,at_)],hf,hw,hr,rfl,Bs ha,λi p e=>by
  cases i with
  | zero=>exact aA2 e▸h
  | succ i=>exact AA e,hq⟩
def D9{x:Str}{a:AV}{r:List (Str×AV)}(h1:a.sub nn=some a)(h2:AJ nn r=some r):AJ nn ((x,a)::r)=some ((x,a)::r):=by
 show(a.sub nn).bind (λb=>(AJ nn r).map ((x,b) :: ·))=_
 rw[h1,h2];rfl
def B0(l:List Int):(AV.lst (ù l)).sub nn=some (.lst (ù l)):=AL (Aq l)
def UD{xs ys:List AD}{K:Bool->Prop}(h1:K false)(h2:xs=ys->K true):PC (.lst (ű xs)) (.lst (ű ys)) K:=by
 show JS (ű xs) (ű ys) K
 unfold JS
 rw[NQ,NQ]
 exact⟨h1,h2⟩
def Kg{x y:Str}{K:Bool->Prop}(h:x≠y)(h1:K false):PC (.txt x) (.txt y) K:=⟨h,h1⟩
def Co{α:Type}{o:Option α}{k k':α->Prop}(h:Ap o k)(f :∀a,k a->k' a):Ap o k':=AE h λa e h=>e▸f a h
def HE{α:Type}{o:Option α}{A A':Prop}{B B':α->Prop}(h:aD9 (motive:=λ_=>Prop) A B o)(f:A->A')(g :∀x,B x->B' x):aD9 (motive:=λ_=>Prop) A' B' o:=by
 cases o with
 | none=>exact f h
 | some x=>exact g x h
def Gm{a b:AV}{K K':Bool->Prop}(h:PC a b K)(f :∀r,K r->K' r):PC a b K':=
 Co h λx h=>Co h λy h=>by
  cases x with
  | true=>exact f _ h
  | false=>
   cases y with
   | true=>exact f _ h
   | false=>exact HE h (λh=>Co h λxs h=>HE h (λh=>Co h λys h=>Co h λks h=>Co h λls h=>⟨f _ h.1,λe=>f _ (h.2 e)⟩) λ_ h=>f _ h) λ_ h=>HE h (λh=>Co h λx h=>Co h λy h=>⟨h.1,f _ h.2⟩) λ_ h=>f _ h
def Fs{c:Bool}{A A' B B':Prop}(h:BX c A B)(f:A->A')(g:B->B'):BX c A' B':=by
 cases c with
 | true=>exact f h
 | false=>exact g h
structure Bp(a b mb op fb b2j:AV):Prop where
 ha:BK a=true
 hb:BK b=true
 a:a.sub nn=some a
 b:b.sub nn=some b
 mb:mb.sub nn=some mb
 op:op.sub nn=some op
 fb:fb.sub nn=some fb
 b2j:b2j.sub nn=some b2j
def Bp.shut{a b mb op fb b2j:AV}(h:Bp a b mb op fb b2j):AJ nn (BQ a b mb op fb b2j)=some (BQ a b mb op fb b2j):=
 D9 rfl (D9 h.a (D9 h.b (D9 rfl (D9 h.mb (D9 h.op (D9 h.fb (D9 h.b2j rfl)))))))
def Rf:Ġ:=λas os Q=>(as=[.ref 0,İ]/\os=[(Ş,Vs)]/\Q .none [(Ş,Xc)])\/∃y a b mb op fb b2j,as=[.ref 0,y]/\os=[(Ş,BQ a b mb op fb b2j)]/\y.sub nn=some y/\BK y=true/\Bp a b mb op fb b2j/\
 PC y a λr=>BX r (Q .none [(Ş,BQ a b mb op fb b2j)]) (Q .none [(Ş,BQ y b .none .none fb b2j)])
def VT{w:aC7}{d:Nat}:BG (Ű w) (ë w.params) (d+2) (.ref 174) Rf:=
 PZ w0 (S7 _).2.2 (S7 _).1 (S7 _).2.1 (ps:=["self","a"]) (by decide) (by rfl') (QC λa b=>by rfl') λas os Q hh=>by
  refine hh.elim (λhh=>?_) λhh=>?_
  ·obtain⟨ea,eo,hq⟩:=hh
   subst ea;subst eo
   exact⟨⟨rfl,Bs rfl⟩,eM.mpr (Cb (fl:=.next) rfl (.refl _) rfl rfl rfl hq)⟩
  ·obtain⟨y,a,b,mb,op,fb,b2j,ea,eo,hy,hn,S,h⟩:=hh
   subst ea;subst eo
   exact⟨⟨rfl,Bs S.shut⟩,sN.mpr ((HJ S.ha).mpr (Gm h λr h=>Fs h (λh=>Cb (fl:=.ret .none) (τ:=A6 [("self",.ref 0),("a",y)] [(Ş,BQ a b mb op fb b2j)]) rfl (.refl _) rfl rfl S.shut h) λh=>Cb (fl:=.next) (τ:=A6 [("self",.ref 0),("a",y)] [(Ş,BQ y b .none .none fb b2j)]) rfl (.refl _) rfl rfl (Bp.shut ⟨hn,S.hb,hy,S.b,rfl,rfl,S.fb,S.b2j⟩) h))⟩
def XK:List aF3:=(C2 LA "set_seq2").1
def ZF:Scope:=(C2 LA "set_seq2").2
def SY(P:aD6):(C9 P 181).body = .stmts XK/\(C9 P 181).scope=ZF/\BL P 181=true:=⟨by rfl',by rfl',by rfl'⟩
noncomputable def YH(a:aC3)(tr:Ġ):aC3->Option Ġ:=λf=>bif aE0 f a then some tr else none
abbrev p1(w:aC7)(a:aC3)(tr:Ġ):Pm:=Sq w.params (YH a tr) none false false OM OM
def pN{w:aC7}{tr:Ġ}{y a b mb op fb b2j:AV}{Q:AV->List Ob->Prop}:Ū (p1 w 188 tr) ZF XK ((["self","b"]:List Str).zip [.ref 0,y]) [(Ş,BQ a b mb op fb b2j)] Q =
  D1 (BK b) (PC y b λr=>BX r (AN 1 Q (.ret .none) (A6 [("self",.ref 0),("b",y)] [(Ş,BQ a b mb op fb b2j)])) (BO tr [.ref 0] (A6 [("self",.ref 0),("b",y)] [(Ş,BQ a y .none .none .none b2j)]) λ_ σ=>AN 1 Q .next σ)):=by rfl'
noncomputable abbrev kL:List (Str×AV):=[("isjunk",.none),("a",İ),("b",İ),("autojunk",.bool true),("matching_blocks",.none),("opcodes",.none),("fullbcount",.none)]
def eQ{w:aC7}{tr:Ġ}{Q:AV->List Ob->Prop}:Ū (p1 w 188 tr) ZF XK ((["self","b"]:List Str).zip [.ref 0,İ]) [(Ş,Xc)] Q =
  BO tr [.ref 0] (A6 [("self",.ref 0),("b",İ)] [(Ş,kL)]) λ_ σ=>AN 1 Q .next σ:=by rfl'
def KE:List aF3:=(C2 LA "set_seqs").1
def Kt:Scope:=(C2 LA "set_seqs").2
def RV(P:aD6):(C9 P 167).body = .stmts KE/\(C9 P 167).scope=Kt/\BL P 167=true:=⟨by rfl',by rfl',by rfl'⟩
noncomputable def kQ(a:aC3)(tr:Ġ)(b:aC3)(tr':Ġ):aC3->Option Ġ:=λf=>bif aE0 f a then some tr else bif aE0 f b then some tr' else none
abbrev ŝ(w:aC7)(a:aC3)(tr:Ġ)(b:aC3)(tr':Ġ):Pm:=Sq w.params (kQ a tr b tr') none false false OM OM
def qM{w:aC7}{t1 t2:Ġ}{Q:AV->List Ob->Prop}:Ū (ŝ w 174 t1 181 t2) Kt KE ((["self","a","b"]:List Str).zip [.ref 0,İ,İ]) [(Ş,Vs)] Q =
  BO t1 [.ref 0,İ] (A6 [("self",.ref 0),("a",İ),("b",İ)] [(Ş,Vs)]) λ_ σ=>wL (ŝ w 174 t1 181 t2) (ER (ŝ w 174 t1 181 t2) Kt 30) (KE.drop 2) σ (AN 1 Q):=by rfl'
def gY:Expr:=.Name ("":Str) AP
def vJ(d:List Expr×Expr×List aF3×List aF3)(s:aF3):List Expr×Expr×List aF3×List aF3:=bK4 (motive_2:=λ_=>List Expr×Expr×List aF3×List aF3) s (λ_ _ _ _ _ _ _ _ _ _=>d) (λ_ _ _ _ _ _ _ _ _ _=>d) (λ_ _ _ _ _ _ _ _ _ _ _=>d) (λo _=>([],o.getD gY,[],[])) (λts _=>(ts,gY,[],[])) (λts e _=>(ts,e,[],[])) (λ_ _ _ _ _ _ _=>d) (λt _ e _=>([t],e,[],[])) (λ_ _ _ _ _=>d) (λt i b o _=>([t],i,b,o)) (λ_ _ _ _ _=>d) (λt b o _=>([],t,b,o)) (λt b o _=>([],t,b,o)) (λ_ _ _=>d) (λ_ _ _=>d) (λ_ _ _=>d) (λ_ _ _=>d) (λ_ _ _ _ _=>d) (λ_ _ _ _ _=>d) (λ_ _ _=>d) (λ_ _=>d) (λ_ _ _ _=>d) (λ_ _=>d) (λ_ _=>d) (λe _=>([],e,[],[])) (λ_=>d) (λ_=>d) (λ_=>d)
def Qg(s:aF3):List Expr×Expr×List aF3×List aF3:=vJ ([],gY,[],[]) s
noncomputable def iO(e:Expr):List Expr:=Expr.casesOn (motive_1:=λ_=>List Expr) e (λ_ l _=>l) (λ_ _ _=>[]) (λa _ b _=>[a,b]) (λ_ x _=>[x]) (λ_ _ _ _=>[]) (λt a b _=>[t,a,b]) (λ_ _ _=>[]) (λ_ _ _=>[]) (λx _ _ _=>[x]) (λ_ _ _ _=>[]) (λx v _ _ _=>[x,v]) (λ_ _ _ _=>[]) (λ_ _=>[]) (λ_ _=>[]) (λ_ _=>[]) (λl _ r _=>l::r) (λg l _ _=>g::l) (λ_ _ _ _=>[]) (λ_ _=>[]) (λ_ _ _=>[]) (λo _ _=>[o]) (λo i _=>[o,i]) (λ_ _=>[]) (λ_ _=>[]) (λl _=>l) (λl _ _=>l) (λ_ _ _ _=>[])
def X5(e:Expr)(n:Nat):Expr:=(iO e).getD n gY
noncomputable def mO(d:List aF5×Scope)(e:Expr):List aF5×Scope:=Expr.casesOn (motive_1:=λ_=>List aF5×Scope) e (λ_ _ _=>d) (λ_ _ _=>d) (λ_ _ _ _=>d) (λ_ _ _=>d) (λ_ _ _ _=>d) (λ_ _ _ _=>d) (λ_ _ _=>d) (λ_ _ _=>d) (λ_ g s _=>(g,s)) (λ_ _ _ _=>d) (λ_ _ g s _=>(g,s)) (λ_ _ _ _=>d) (λ_ _=>d) (λ_ _=>d) (λ_ _=>d) (λ_ _ _ _=>d) (λ_ _ _ _=>d) (λ_ _ _ _=>d) (λ_ _=>d) (λ_ _ _=>d) (λ_ _ _=>d) (λ_ _ _=>d) (λ_ _=>d) (λ_ _=>d) (λ_ _=>d) (λ_ _ _=>d) (λ_ _ _ _=>d)
def Zq(e:Expr):List aF5×Scope:=mO ([],⟨.module,[],false,false,[]⟩) e
def EY(s:aF3):Expr×List aF3:=((Qg s).1.getD 0 gY,(Qg s).2.2.1)
noncomputable def Ar(s:aF3):List aF3:=(Qg s).2.2.1
def Gd:List aF3:=(C2 LA "__chain_b").1
def DN:Scope:=(C2 LA "__chain_b").2
def QV(P:aD6):(C9 P 188).body = .stmts Gd/\(C9 P 188).scope=DN/\BL P 188=true:=⟨by rfl',by rfl',by rfl'⟩
abbrev IU(w:aC7):ì:=ER (ō w) DN 30
def J9:Expr×List aF3:=EY (Gd.getD 2 (.Pass AP))
def Mp(w:aC7):AV->St->ŏ->Prop:=λv σ K=>(ws (ō w) DN 29).A J9.1 v σ λσ=>wL (ō w) (ER (ō w) DN 29) J9.2 σ K
noncomputable abbrev j6(b:AV):List (Str×AV):=[("self",.ref 0),("b",b),("b2j",.ref 1)]
noncomputable abbrev IR(a b mb op fb b2j:AV)(tl:List (Str×AV)):List (Str×AV):=("isjunk",.none)::("a",a)::("b",b)::("autojunk",.bool true)::("matching_blocks",mb)::("opcodes",op)::("fullbcount",fb)::("b2j",b2j)::tl
noncomputable abbrev W7:List (Str×AV):=[("bjunk",.fset []),("bpopular",.fset [])]
abbrev Xh(b:AV)(at_:List (Str×AV))(ds:List (AD×AV))(L:List (Nat×Ÿ))(m:Nat):St:=⟨j6 b,(0,.inst Ş at_)::(1,.dict ds)::L,m+2,1⟩
def rZ{w:aC7}{a b mb op fb b2j:AV}{K:ŏ}:wL (ō w) (IU w) Gd (A6 [("self",.ref 0)] [(Ş,BQ a b mb op fb b2j)]) K =
  D1 (BK b) (Ij J9.1 [b] (Xh b (IR a b mb op fb (.ref 1) W7) [] [] 0) λitems σ=>EM items (Mp w) (wL (ō w) (ER (ō w) DN 29) []) σ (λfl υ=>Bx.rec (wL (ō w) (IU w) (Gd.drop 3) υ K) (K .brk υ) (K .cont υ) (λv=>K (.ret v) υ) fl)):=by rfl'
def bD{w:aC7}{K:ŏ}:wL (ō w) (IU w) Gd (A6 [("self",.ref 0)] [(Ş,kL)]) K =
  (DU J9.1=true/\EM [] (Mp w) (wL (ō w) (ER (ō w) DN 29) []) ⟨[("self",.ref 0),("b",İ),("b2j",.ref 1)],[(0,.inst Ş (IR İ İ .none .none .none (.ref 1) [])),(1,.dict [])],2,1⟩ (λfl υ=>Bx.rec (wL (ō w) (IU w) (Gd.drop 3) υ K) (K .brk υ) (K .cont υ) (λv=>K (.ret v) υ) fl)):=by rfl'
abbrev Wq(b:AV)(at_:List (Str×AV))(ds:List (AD×AV))(L:List (Nat×Ÿ))(m:Nat)(i:Int)(x:AD)(u:AV):St:=⟨[("self",.ref 0),("b",b),("b2j",.ref 1),("i",.int i),("elt",.key x),("indices",u)],(0,.inst Ş at_)::(1,.dict ds)::L,m+2,1⟩
def aA{w:aC7}{b:AV}{at_:List (Str×AV)}{ds:List (AD×AV)}{L:List (Nat×Ÿ)}{m:Nat}{i:Int}{x:AD}{K:ŏ}:Mp w (.tup [.int i,.key x]) (Xh b at_ ds L m) K =
  (2=2/\AF ds.length/\((∀u,ds.lookup x=some u->wL (ō w) (ER (ō w) DN 29) (J9.2.drop 1) (Wq b at_ ds (Al L (m+2) (.list [])) (m+1) i x u) K)/\
   (ds.lookup x=none->wL (ō w) (ER (ō w) DN 29) (J9.2.drop 1) (Wq b at_ (dset ds x (.ref (m+2))) (Al L (m+2) (.list [])) (m+1) i x (.ref (m+2))) K))):=by rfl'
def iG{w:aC7}{b:AV}{at_:List (Str×AV)}{ds:List (AD×AV)}{L:List (Nat×Ÿ)}{m q:Nat}{i:Int}{x:AD}{K:ŏ}:wL (ō w) (ER (ō w) DN 29) (J9.2.drop 1) (Wq b at_ ds L m i x (.ref (q+2))) K =
  Ap (Qn (ĩ w.params) (.ref (q+2)) "append" (Wq b at_ ds L m i x (.ref (q+2)))) λg=>Do (ō w) g.1 (bif g.2 then [.ref (q+2),.int i]else [.int i]) (Wq b at_ ds L m i x (.ref (q+2))) λ_ σ=>K .next σ:=by rfl'
def UQ{K:bF7}{σ:St}{x:Nat}{vs:List AV}(h:σ.H.lookup x=some (.list vs)):Qn K (.ref x) "append" σ=some (.fn .append,true):=by
 have r:Dt σ (.ref x)=some (x,.list vs):=bO1 (aD4 (x,·)) h
 show GH (aD4 _ (bL7 (Dt σ (.ref x)) _)) (aD4 _ (GH _ (GH (bL7 (bL7 (aD4 _ (Dt σ (.ref x))) Ÿ.lst) _) _)))=_
 rw[r];rfl'
def Tx{P:Pm}{σ:St}{x:Nat}{v:AV}{vs:List AV}{Q:AV->St->Prop}(h:σ.H.lookup x=some (.list vs))(hz:AF vs.length)(q:Q .none (σ.set x (.list (vs++[v])))):Do P (.fn .append) [.ref x,v] σ Q:=by
 show Ap (aD4 (x,·) (σ.H.lookup x)) λp=>Ap p.2.lst λvs=>AF vs.length/\Q .none (σ.set p.1 (.list (vs++[v])))
 rw[h]
 exact⟨hz,q⟩
abbrev Z6(b d:AV)(n:AV)(a b2j mb op fb:AV)(tl:List (Str×AV)):St:=⟨[("self",.ref 0),("b",b),("b2j",d),("junk",.ref 1),("isjunk",.none),("popular",.ref 2),("n",n)],[(0,.inst Ş (IR a b mb op fb b2j [("bjunk",.ref 1),("bpopular",.ref 2)])),(1,.set []),(2,.set [])],3,1⟩
abbrev z7(b d:AV)(a b2j mb op fb:AV)(tl:List (Str×AV)):St:=⟨[("self",.ref 0),("b",b),("b2j",d),("junk",.ref 1),("isjunk",.none),("popular",.ref 2)],[(0,.inst Ş (IR a b mb op fb b2j [("bjunk",.ref 1),("bpopular",.ref 2)])),(1,.set []),(2,.set [])],3,1⟩
def eI{w:aC7}{a b d mb op fb b2j:AV}{K:ŏ}:wL (ō w) (IU w) (Gd.drop 3) ⟨[("self",.ref 0),("b",b),("b2j",d)],[(0,.inst Ş (IR a b mb op fb b2j W7))],1,1⟩ K =
  EU œ .len [b] (z7 b d a b2j mb op fb []) λv σ=>wL (ō w) (IU w) (Gd.drop 8) (σ.put "n" v) K:=by rfl'
def iR{w:aC7}{K:ŏ}:wL (ō w) (IU w) (Gd.drop 3) ⟨[("self",.ref 0),("b",İ),("b2j",.ref 1)],[(0,.inst Ş (IR İ İ .none .none .none (.ref 1) [])),(1,.dict [])],2,1⟩ K =
  ((⟨#[]⟩:Str).length<1000000/\K .next ⟨[("self",.ref 0),("b",İ),("b2j",.ref 1),("junk",.ref 2),("isjunk",.none),("popular",.ref 3),("n",.int 0)],[(0,.inst Ş (IR İ İ .none .none .none (.ref 1) [("bjunk",.ref 2),("bpopular",.ref 3)])),(1,.dict []),(2,.set []),(3,.set [])],4,1⟩):=by rfl'
abbrev ø(P:Pm)(S:ì)(r:List aF3)(K:ŏ):ŏ:=λfl υ=>Bx.rec (wL P S r υ K) (K .brk υ) (K .cont υ) (λv=>K (.ret v) υ) fl
def G2{P P':Pm}{S S':ì}{r:List aF3}{K:ŏ}{σ:St}:wL P' S' [] σ (ø P S r K)=wL P S r σ K:=rfl
def Lg:List aF3:=Ar (Gd.getD 8 (.Pass AP))
def fF{w:aC7}{b d a b2j mb op fb:AV}{n:Int}{K:ŏ}:wL (ō w) (IU w) (Gd.drop 8) (Z6 b d (.int n) a b2j mb op fb []) K =
  BX (decide ((200:Int)<=n)) (wL (ō w) (ER (ō w) DN 29) Lg (Z6 b d (.int n) a b2j mb op fb []) (ø (ō w) (IU w) [] K)) (K .next (Z6 b d (.int n) a b2j mb op fb [])):=by rfl'
def U4:Expr×List aF3:=EY (Lg.getD 1 (.Pass AP))
def sZ:Expr×List aF3:=EY (Lg.getD 2 (.Pass AP))
def R9(w:aC7)(f:Expr×List aF3):AV->St->ŏ->Prop:=λv σ K=>(ws (ō w) DN 28).A f.1 v σ λσ=>wL (ō w) (ER (ō w) DN 28) f.2 σ K
def fW{w:aC7}{b a b2j mb op fb:AV}{ds:List (AD×AV)}{n:Int}{K:ŏ}:wL (ō w) (ER (ō w) DN 29) Lg (Z6 b (.dct ds) (.int n) a b2j mb op fb []) K =
  ((100:Int)≠0/\aK1 n 100=false/\(DU U4.1=true/\AW nn ds=some ds)/\EM (Da ds) (R9 w U4) (wL (ō w) (ER (ō w) DN 28) []) ((Z6 b (.dct ds) (.int n) a b2j mb op fb []).put "ntest" (.int (n.fdiv 100+1))) (ø (ō w) (ER (ō w) DN 29) (Lg.drop 2) K)):=by rfl'
abbrev Sr(b:AV)(ds:List (AD×AV))(t:Int)(a mb op fb:AV)(r:List (Str×AV)):St:=⟨("self",.ref 0)::("b",b)::("b2j",.dct ds)::("popular",.fset [])::("ntest",.int t)::r,[(0,.inst Ş (IR a b mb op fb (.dct ds) W7))],1,1⟩
def d9{w:aC7}{b a mb op fb:AV}{ds:List (AD×AV)}{t:Int}{K:ŏ}:wL (ō w) (ER (ō w) DN 29) (Lg.drop 2) (Sr b ds t a mb op fb []) K =
  (AC nn []=some []/\EM [] (R9 w sZ) (wL (ō w) (ER (ō w) DN 28) []) (Sr b ds t a mb op fb []) (ø (ō w) (ER (ō w) DN 29) [] K)):=by rfl'
def fQ{w:aC7}{b a mb op fb:AV}{ds:List (AD×AV)}{t:Int}{x:AD}{ns:List Int}{K:ŏ}:R9 w U4 (.tup [.key x,.lst (ù ns)]) (Sr b ds t a mb op fb []) K =
  (2=2/\AF (ù ns).length/\BX (decide (t<((ù ns).length:Int))) (wL (ō w) (ER (ō w) DN 27) (Ar (U4.2.getD 0 (.Pass AP))) (Sr b ds t a mb op fb [("elt",.key x),("idxs",.lst (ù ns))]) (ø (ō w) (ER (ō w) DN 28) [] K)) (K .next (Sr b ds t a mb op fb [("elt",.key x),("idxs",.lst (ù ns))]))):=by rfl'
def Aa.less{ρ ρ':List (Str×AV)}{H H':List (Nat×Ÿ)}{n a:Nat}(hρ :∀x v,ρ'.lookup x=some v->ρ.lookup x=some v)(hH :∀i o,H'.lookup i=some o->H.lookup i=some o):Aa ⟨ρ,H,n,a⟩ ⟨ρ',H',n,a⟩:=λX G s R=>⟨G,.refl _ _,R.base,R.keep,R.size,R.mutHs,R.ownB,R.ownLt,R.gens,R.os,
 R.loc.casesOn λm hm r=>⟨m,hm,λx av e1 e2=>r x av (hρ x av e1) e2⟩,λx a e=>(R.cel x a e).casesOn λv hv r=>⟨v,hv,λav e1 e2=>r av (hρ x av e1) e2⟩,R.celAll,R.tloc,R.tcel,λx o e=>have q:=R.obj x o (hH x o e);⟨q.lt,q.tag,q.rel⟩,R.anc,R.tk,R.tk0,R.aτ⟩
noncomputable def CY(ys:List AD)(i:Nat)(x:AD):List Nat:=(aC2 i).filter λj=>decide (ys[j]?=some x)
def nA(ys:List AD)(i:Nat)(x:AD):List Int:=(CY ys i x).map λ(j:Nat)=>(j:Int)
abbrev Bv(ys:List AD)(i:Nat)(x:AD):List AV:=ù (nA ys i x)
section
variable{ys:List AD}{i:Nat}{x:AD}
def Hn:CY ys (i+1) x=CY ys i x++[i].filter λj=>decide (ys[j]?=some x):=(bO1 _ aQ0).trans (List.filter_append ..)
def Ly(h:ys[i]?=some x):Bv ys (i+1) x=Bv ys i x++[.int (i:Int)]:=by
 show aS2 _ (aS2 _ _)=aS2 _ (aS2 _ _)++_
 rw[Hn,List.filter_cons_of_pos (p:=λj=>decide (ys[j]?=some x)) (bO5 h),aF1,aF1];rfl
def Ie(h:CY ys i x=[]):Bv ys i x=[]:=bO1 (λl=>ù (aS2 (λj:Nat=>(j:Int)) l)) h
def G3(h:ys[i]?≠some x):CY ys (i+1) x=CY ys i x:=by
 rw[Hn,List.filter_cons_of_neg (p:=λj=>decide (ys[j]?=some x)) (λz=>h (bO7 z))];exact aF9 _
def Kk(h:ys[i]?≠some x):Bv ys (i+1) x=Bv ys i x:=bO1 (λl=>ù (aS2 _ l)) (G3 h)
def Io:(Bv ys i x).length<=i:=by
 show(aS2 _ (aS2 _ _)).length<=i
 rw[aA6,aA6]
 exact aA0 (List.length_filter_le _ _) (aB9 aF2)
end
def ĺ(ys:List AD)(ds:List (AD×AV)):Prop:=AW nn ds=some ds/\∀x:AD,(ds.lookup x).getD (.lst []) = .lst (Bv ys ys.length x)
def J5{es:List (AD×Nat)}{f:AD×Nat->AV}{x:AD}:(∃p∈es,p.1=x/\(es.map λp=>(p.1,f p)).lookup x=some (f p))\/((∀p∈es,p.1≠x)/\(es.map λp=>(p.1,f p)).lookup x=none):=
 aB7 (motive:=λes=>(∃p∈es,p.1=x/\(es.map λp=>(p.1,f p)).lookup x=some (f p))\/((∀p∈es,p.1≠x)/\(es.map λp=>(p.1,f p)).lookup x=none)) (.inr ⟨λ_ h=>(nomatch h),rfl⟩) (λp r ih=>by
  by_cases h:p.1=x
  ·refine .inl ⟨p,aB4 ..,h,?_⟩
   rw[aH8,A1,<-h,show(p.1==p.1)=true from bO8 _];rfl
  ·have e:(x==p.1)=false:=beq_eq_false_iff_ne.mpr λz=>h z.symm
   rw[aH8,A1,e]
   exact ih.imp (λq=>q.imp λ_ q=>⟨aC1 _ q.1,q.2⟩) λq=>⟨λy hy=>(aC4.mp hy).elim (λz=>z▸h) (q.1 y),q.2⟩) es
noncomputable def Ka(es:List (AD×Nat)):List (AD×AV):=es.map λp=>(p.1,.ref (p.2+2))
def CX(ys:List AD)(es:List (AD×Nat)):List (AD×AV):=es.map λp=>(p.1,.lst (Bv ys ys.length p.1))
structure CI(ys:List AD)(i:Nat)(es:List (AD×Nat))(L:List (Nat×Ÿ))(m:Nat):Prop where
 lt :∀p∈es,p.2<m
 at_ :∀p∈es,L.lookup (p.2+2)=some (.list (Bv ys i p.1))
 k :∀p∈es,∀q∈es,p.1=q.1->p.2=q.2
 v :∀p∈es,∀q∈es,p.2=q.2->p.1=q.1
 no :∀x,(∀p∈es,p.1≠x)->CY ys i x=[]
section
variable{ys:List AD}{i m:Nat}{x:AD}{es:List (AD×Nat)}{L:List (Nat×Ÿ)}
def ns{a b:Nat}(h:a<b):a+2≠b+2:=λz=>aE2 h (aO3 z)
def Jm{β:Type}{l:List (Nat×β)}{x y:Nat}{v:β}(h:y≠x):(Al l x v).lookup y=l.lookup y:=by rw[E4,beq_eq_false_iff_ne.mpr h];rfl
def Ev{β:Type}{l:List (Nat×β)}{x:Nat}{v:β}:(Al l x v).lookup x=some v:=by rw[E4,bO8];rfl
def CI.gar(h:CI ys i es L m){o:Ÿ}:CI ys i es (Al L (m+2) o) (m+1):=⟨λp hp=>aH1 (h.lt p hp),λp hp=>(Jm (ns (h.lt p hp))).trans (h.at_ p hp),h.k,h.v,h.no⟩
def CI.fresh(h:CI ys i es L m)(hx :∀p∈es,p.1≠x):CI ys i (es++[(x,m)]) (Al L (m+2) (.list [])) (m+1):=by
 have g:=h.gar (o:=.list [])
 have go :∀{P:AD×Nat->Prop},(∀p∈es,P p)->P (x,m)->∀p∈es++[(x,m)],P p:=λa b p hp=>(aB0.mp hp).elim (a p) λz=>aB1.mp z▸b
 exact⟨go g.lt (aC6 m),go g.at_ (Ev.trans (bO1 (λl=>some (Ÿ.list l)) (Ie (h.no x hx)).symm)),
  go (λp hp=>go (h.k p hp) λz=>bO4 z (hx p hp)) (go (λq hq z=>bO4 z.symm (hx q hq)) λ_=>rfl),
  go (λp hp=>go (h.v p hp) λz=>bO4 z (aE2 (h.lt p hp))) (go (λq hq z=>bO4 z.symm (aE2 (h.lt q hq))) λ_=>rfl),
  λy hy=>h.no y λp hp=>hy p (List.mem_append_left _ hp)⟩
def CI.add(h:CI ys i es L m){p:AD×Nat}(hp:p∈es)(hx:ys[i]?=some p.1):CI ys (i+1) es (Al L (p.2+2) (.list (Bv ys i p.1++[.int (i:Int)]))) m:=by
 refine⟨h.lt,λq hq=>?_,h.k,h.v,λy hy=>(G3 λz=>hy p hp (aA2 (hx.symm.trans z))).trans (h.no y hy)⟩
 by_cases e:q.2=p.2
 ·have e':=h.v q hq p hp e
  rw[e,e',Ly hx];exact Ev
 ·rw[Kk λz=>e (h.k q hq p hp (aA2 (z.symm.trans hx)))]
  exact(Jm λz=>e (aO3 z)).trans (h.at_ q hq)
def CI.nil:CI ys 0 [] [] 0:=⟨λ_ h=>(nomatch h),λ_ h=>(nomatch h),λ_ h=>(nomatch h),λ_ h=>(nomatch h),λ_ _=>rfl⟩
def Ew{g:Nat->Option AV}{x:Str}{a a':AV}{r r':List (Str×AV)}(h1:a.sub g=some a')(h2:AJ g r=some r'):AJ g ((x,a)::r)=some ((x,a')::r'):=by
 show(a.sub g).bind (λb=>(AJ g r).map ((x,b) :: ·))=_
 rw[h1,h2];rfl
def C7{g:Nat->Option AV}{D:aC3}{r r':List (Str×AV)}(h:AJ g r=some r'):(Ÿ.inst D r).sub g=some (.inst D r'):=bO1 (aD4 (Ÿ.inst D)) h
def NC{g:Nat->Option AV}{a b mb op fb u v:AV}{tl tl':List (Str×AV)}(S:Bp a b mb op fb .none)(h:u.sub g=some v)(ht:AJ g tl=some tl'):(Ÿ.inst Ş (IR a b mb op fb u tl)).sub g=some (.inst Ş (IR a b mb op fb v tl')):=
 C7 (Ew rfl (Ew (AK _ _ S.a) (Ew (AK _ _ S.b) (Ew rfl (Ew (AK _ _ S.mb) (Ew (AK _ _ S.op) (Ew (AK _ _ S.fb) (Ew h ht))))))))
def H8{g:Nat->Option AV}{u v:AD×Nat->AV} :∀{es:List (AD×Nat)},(∀p∈es,(u p).sub g=some (v p))->AW g (es.map λp=>(p.1,u p))=some (es.map λp=>(p.1,v p)):=
 λ{es}=>aB7 (motive:=λes=>(∀p∈es,(u p).sub g=some (v p))->AW g (es.map λp=>(p.1,u p))=some (es.map λp=>(p.1,v p))) (λ_=>rfl) (λp r ih h=>by
  show((u p).sub g).bind (λb=>(AW g (r.map λp=>(p.1,u p))).map ((p.1,b) :: ·))=_
  rw[h p (aB4 ..),ih λq hq=>h q (aC1 _ hq)];rfl) es
def CI.fin{a b mb op fb:AV}{tl:List (Str×AV)}(h:CI ys ys.length es L m)(S:Bp a b mb op fb .none)(ht:AJ nn tl=some tl) :
  ĺ ys (CX ys es)/\Aa (Xh b (IR a b mb op fb (.ref 1) tl) (Ka es) L m) ⟨[("self",.ref 0),("b",b),("b2j",.dct (CX ys es))],[(0,.inst Ş (IR a b mb op fb (.dct (CX ys es)) tl))],1,1⟩:=by
 have hb:AW nn (CX ys es)=some (CX ys es):=H8 λp _=>B0 _
 refine⟨⟨hb,λx=>(J5 (es:=es) (f:=λp=>.lst (Bv ys ys.length p.1)) (x:=x)).elim (λq=>q.elim λp q=>by
  show((CX ys es).lookup _).getD _=_
  rw[show(CX ys es).lookup _=_ from q.2.2,q.2.1];rfl) λq=>by
  show((CX ys es).lookup _).getD _=_
  rw[show(CX ys es).lookup _=_ from q.2,Ie (h.no x q.1)];rfl⟩,?_⟩
 have fl :∀{es':List (AD×Nat)} {y:Nat},(∀p∈es',p∈es)->(∃p∈es,p.2+2=y/\(es'.map λp=>(p.2+2,AV.lst (Bv ys ys.length p.1))).lookup y=some (.lst (Bv ys ys.length p.1)))\/((∀p∈es',p.2+2≠y)/\(es'.map λp=>(p.2+2,AV.lst (Bv ys ys.length p.1))).lookup y=none):=λ{es' y}=>aB7 (motive:=λes'=>(∀p∈es',p∈es)->(∃p∈es,p.2+2=y/\(es'.map λp=>(p.2+2,AV.lst (Bv ys ys.length p.1))).lookup y=some (.lst (Bv ys ys.length p.1)))\/((∀p∈es',p.2+2≠y)/\(es'.map λp=>(p.2+2,AV.lst (Bv ys ys.length p.1))).lookup y=none)) (λ_=>.inr ⟨λ_ h=>(nomatch h),rfl⟩) (λp r ih hs=>by
  rw[aH8,A1]
  by_cases e:p.2+2=y
  ·rw[show(y==p.2+2)=true from beq_iff_eq.mpr e.symm]
   exact .inl ⟨p,hs p (aB4 ..),e,rfl⟩
  ·rw[show(y==p.2+2)=false from beq_eq_false_iff_ne.mpr λz=>e z.symm]
   exact(ih λq hq=>hs q (aC1 _ hq)).imp id λq=>⟨λz hz=>(aC4.mp hz).elim (λw=>w▸e) (q.1 z),q.2⟩) es'
 have S1:Aa (Xh b (IR a b mb op fb (.ref 1) tl) (Ka es) L m) ⟨j6 b,[(0,.inst Ş (IR a b mb op fb (.ref 1) tl)),(1,.dict (CX ys es))],2,1⟩:=
  Aa.re [0,1] (es.map λp=>(p.2+2,.lst (Bv ys ys.length p.1))) rfl rfl rfl rfl (λy w e=>(fl (y:=y) λ_=>id).elim (λq=>q.elim λp q=>by
   rw[q.2.2]at e
   rw[<-aA2 e,<-q.2.1]
   exact⟨rfl,_,h.at_ p q.1,rfl,B0 _⟩) λq=>AA (q.2.symm.trans e))
   (Ai rfl rfl (Ai rfl (AK _ _ S.b) (Ai rfl rfl BZ)))
   (Fe rfl rfl (NC S rfl (A5 ht)) (Fe rfl rfl (bO1 (aD4 Ÿ.dict) (H8 λp hp=>(fl (y:=p.2+2) λ_=>id).elim (λq=>q.elim λp' q=>by
    rw[<-h.v p' q.1 p hp (aO3 q.2.1)]
    exact q.2.2) λq=>bO4 rfl (q.1 p hp))) BY))
 exact S1.trans (Aa.re [0] [(1,.dct (CX ys es))] rfl rfl rfl rfl (BA rfl rfl rfl (bO1 (aD4 AV.dct) hb) CP) (Ai rfl rfl (Ai rfl (AK _ _ S.b) (Ai rfl rfl BZ))) (Fe rfl rfl (NC S rfl (A5 ht)) BY))
end
def eC:Ġ:=λas os Q=>as=[.ref 0]/\((os=[(Ş,kL)]/\Q .none [(Ş,BQ İ İ .none .none .none (.dct []))])\/∃(ys:List AD) (a b mb op fb b2j:AV),(IJ b ys/\ys.length<=100000/\(200<=ys.length->ys.Nodup))/\
 os=[(Ş,BQ a b mb op fb b2j)]/\Bp a b mb op fb b2j/\∀ds,ĺ ys ds->Q .none [(Ş,BQ a b mb op fb (.dct ds))])
def PK{ys:List AD}{i:Nat}{x:AD}(h:ys.Nodup):(CY ys i x).length<=1:=by
 have nd:(CY ys i x).Nodup:=bA2.filter _
 have al :∀j∈CY ys i x,ys[j]?=some x:=λj hj=>bO7 (aP8.mp hj).2
 cases hp:CY ys i x with
 | nil=>exact aE9 _
 | cons j r=>
  cases r with
  | nil=>exact aB6 _
  | cons k r=>
   rw[hp]at nd al
   have e1:=al j (aB4 ..)
   have e2:=al k (aC1 _ (aB4 ..))
   have e:j=k:=(aT8 (aA4.mp e1).1 h).mp (e1.trans e2.symm)
   exact bO4 (e▸aB4 ..) (aO8.mp nd).1
section
variable{ys:List AD}{a b mb op fb:AV}{tl:List (Str×AV)}{w:aC7}{Q:AV->List Ob->Prop}
def jJ(ys:List AD)(a b mb op fb:AV)(tl:List (Str×AV))(i:Nat)(τ:St):Prop:=(i<ys.length->∃es L m,τ=Xh b (IR a b mb op fb (.ref 1) tl) (Ka es) L m/\CI ys i es L m/\es.length<=i)/\
 (i=ys.length->∃es,ĺ ys (CX ys es)/\τ=⟨[("self",.ref 0),("b",b),("b2j",.dct (CX ys es))],[(0,.inst Ş (IR a b mb op fb (.dct (CX ys es)) tl))],1,1⟩)
def Pr{i m:Nat}{es:List (AD×Nat)}{L:List (Nat×Ÿ)}(S:Bp a b mb op fb .none)(ht:AJ nn tl=some tl)(h:CI ys i es L m)(hl:es.length<=i)(hi:i<=ys.length) :
  ∃τ,Aa (Xh b (IR a b mb op fb (.ref 1) tl) (Ka es) L m) τ/\jJ ys a b mb op fb tl i τ:=
 (aP5 hi).elim (λz=>⟨_,.refl _,λ_=>⟨es,L,m,rfl,h,hl⟩,λe=>bO4 e (aE2 z)⟩) λz=>by
  subst z
  have q:=CI.fin h S ht
  exact⟨_,q.2,λe=>bO4 e (aL7 _),λ_=>⟨_,q.1,rfl⟩⟩
def T1{H:List (Nat×Ÿ)}{n:Nat}{u v t:AV}:Aa ⟨[("self",.ref 0),("b",b),("b2j",.ref 1),("i",u),("elt",v),("indices",t)],H,n,1⟩ ⟨j6 b,H,n,1⟩:=
 .less (ρ':=j6 b) (λy v e=>Bh e (λa b=>by subst a;subst b;rfl) λe=>Bh e (λa b=>by subst a;subst b;rfl) λe=>Bh e (λa b=>by subst a;subst b;rfl) AA) λ_ _=>id
def NF{i m:Nat}{es:List (AD×Nat)}{L:List (Nat×Ÿ)}{p:AD×Nat}{K:ŏ}(S:Bp a b mb op fb .none)(ht:AJ nn tl=some tl)(h:CI ys i es L m)(hl:es.length<=i+1)(hp:p∈es)(hx:ys[i]?=some p.1)(hn:ys.length<=100000) :
  wL (ō w) (ER (ō w) DN 29) (J9.2.drop 1) (Wq b (IR a b mb op fb (.ref 1) tl) (Ka es) L m i p.1 (.ref (p.2+2))) (turn (λσ=>∃τ,Aa σ τ/\jJ ys a b mb op fb tl (i+1) τ) K):=by
 have hi:=(aA4.mp hx).1
 have e:=h.at_ p hp
 have e':(Wq b (IR a b mb op fb (.ref 1) tl) (Ka es) L m i p.1 (.ref (p.2+2))).H.lookup (p.2+2)=some (.list (Bv ys i p.1)):=e
 rw[iG,UQ e']
 obtain⟨τ,q1,ĉ⟩:=Pr S ht (h.add hp hx) hl hi
 exact Tx (P:=ō w) (v:=.int (i:Int)) (Q:=λ_ σ=>∃τ,Aa σ τ/\jJ ys a b mb op fb tl (i+1) τ) e' (aA0 Io (aA0 (aD8 hi) (aA0 hn (by decide)))) ⟨τ,T1.trans q1,ĉ⟩
def Av{P:Pm}{S:ì}{σ:St}{Q:ŏ}:wL P S [] σ Q=Q .next σ:=rfl
def eO{c:Bool}{A B:Prop}(h:c=false):BX c A B=B:=by rw[h];rfl
def YU{es:List (AD×Nat)}{K:ŏ}(hB:ĺ ys (CX ys es))(hn:ys.length<=100000)(hd:ys.Nodup)(S:Bp a b mb op fb .none)(hk :∀t,K .next (Sr b (CX ys es) t a mb op fb [])) :
  wL (ō w) (ER (ō w) DN 29) Lg (Z6 b (.dct (CX ys es)) (.int (ys.length:Nat)) a (.dct (CX ys es)) mb op fb []) K:=by
 have sd:(AV.dct (CX ys es)).sub nn=some (.dct (CX ys es)):=bO1 (aD4 AV.dct) hB.1
 have less :∀{t:Int} {u v:AV},Aa (Sr b (CX ys es) t a mb op fb [("elt",u),("idxs",v)]) (Sr b (CX ys es) t a mb op fb []):=λ{t u v}=>
  .less (λy v e=>Bh e (λa b=>by subst a;subst b;rfl) λe=>Bh e (λa b=>by subst a;subst b;rfl) λe=>Bh e (λa b=>by subst a;subst b;rfl) λe=>Bh e (λa b=>by subst a;subst b;rfl) λe=>Bh e (λa b=>by subst a;subst b;rfl) AA) λ_ _=>id
 refine fW.mpr ⟨by decide,aJ9 (by decide),⟨by rfl',hB.1⟩,λ_ τ=>τ=Sr b (CX ys es) ((ys.length:Int).fdiv 100+1) a mb op fb [],⟨_,?_,rfl⟩,λi τ v hv hI=>?_,λτ hI=>?_⟩
 ·exact Aa.re [0] [(1,.fset []),(2,.fset [])] rfl rfl rfl rfl (BA rfl rfl rfl rfl (BA rfl rfl rfl rfl CP)) (Ai rfl rfl (Ai rfl (AK _ _ S.b) (Ai rfl (AK _ _ sd) (Ai rfl rfl (Ai rfl rfl BZ))))) (Fe rfl rfl (NC S (AK _ _ sd) rfl) BY)
 ·subst hI
  unfold Da CX at hv
  rw[aB3,aB3]at hv
  cases hp:es[i]? with
  | none=>rw[hp]at hv;cases hv
  | some p=>
   rw[hp]at hv
   cases hv
   have ll:(Bv ys ys.length p.1).length<=1:=by
    show(aS2 _ (aS2 _ _)).length<=1
    rw[aA6,aA6]
    exact PK hd
   refine fQ.mpr ⟨rfl,aA0 ll (by decide),?_⟩
   have h1:(((Bv ys ys.length p.1).length:Nat):Int)<=1:=aJ7.mpr ll
   have h0:(0:Int)<=(ys.length:Int).fdiv 100:=Int.fdiv_nonneg (aH4 _) (by decide)
   exact(eO (bO6 (aS7.mpr (aQ2 h1 (Int.le_add_of_nonneg_left h0))))).mpr ⟨_,less,rfl⟩
 ·subst hI
  exact Av.mpr (d9.mpr ⟨rfl,λ_ τ=>τ=Sr b (CX ys es) ((ys.length:Int).fdiv 100+1) a mb op fb [],⟨_,.refl _,rfl⟩,λi τ v hv=>AA hv,λτ hI=>hI▸Av.mpr (Av.mpr (hk _))⟩)
def VQ(B:IJ b ys)(S:Bp a b mb op fb .none)(ht':AJ nn W7=some W7)(hn:ys.length<=100000)(hd:200<=ys.length->ys.Nodup)(hq :∀ds,ĺ ys ds->Q .none [(Ş,BQ a b mb op fb (.dct ds))]) :
  D1 (BK b) (Ij J9.1 [b] (Xh b (IR a b mb op fb (.ref 1) W7) [] [] 0) λitems σ=>EM items (Mp w) (wL (ō w) (ER (ō w) DN 29) []) σ (λfl υ=>Bx.rec (wL (ō w) (IU w) (Gd.drop 3) υ (AN 1 Q)) (AN 1 Q .brk υ) (AN 1 Q .cont υ) (λv=>AN 1 Q (.ret v) υ) fl)):=by
 have en:(BS (ű ys)).length=ys.length:=(CQ _).trans (GI ys)
 refine(HJ B.hnd).mpr (B.enu (by rfl') ⟨jJ ys a b mb op fb W7,Pr S ht' CI.nil (aB6 _) (aE9 _),λi τ v hv hI=>?_,λτ hI=>?_⟩)
 ·have hi:i<ys.length:=en▸(aA4.mp hv).1
  obtain⟨es,L,m,rfl,h,hl⟩:=hI.1 hi
  have hx:ys[i]?=some (ys[i]'hi):=aA5 hi
  have hv':some v=some (.tup [.int (i:Int),.key (ys[i]'hi)]):=hv.symm.trans (Dm ((aB3 ..).trans (bO1 (aD4 AV.key) hx)))
  generalize ys[i]'hi=x at hx hv'
  cases hv'
  rw[aA]
  refine⟨rfl,aA0 (aB9 (aA6 ..)) (aA0 hl (aA0 (aD8 hi) (aA0 hn (by decide)))),λu hu=>?_,λhu=>?_⟩
  ·refine(J5 (es:=es) (f:=λp=>.ref (p.2+2)) (x:=x)).elim (λq=>?_) λq=>AA (q.2.symm.trans hu)
   obtain⟨p,hp,e1,e2⟩:=q
   cases aA2 (e2.symm.trans hu)
   subst e1
   exact NF S ht' h.gar (aJ4 hl) hp hx hn
  ·refine(J5 (es:=es) (f:=λp=>.ref (p.2+2)) (x:=x)).elim (λq=>q.elim λp q=>AA (hu.symm.trans q.2.2)) λq=>?_
   have:dset (Ka es) x (.ref (m+2))=Ka (es++[(x,m)]):=by
    unfold dset
    rw[bO3]
    ·exact(aF1 (l₁:=es) (l₂:=[(x,m)]) (f:=λp:AD×Nat=>(p.1,AV.ref (p.2+2)))).symm
    ·intro z
     obtain⟨r,r1,ś⟩:=bE9.mp z
     obtain⟨p,p1,rfl⟩:=aI5.mp r1
     exact q.1 p p1 (bO7 ś)
   rw[this]
   exact NF S ht' (h.fresh q.1) (aA0 (aB9 aB2) (aJ2 hl)) (p:=(x,m)) (List.mem_append_right _ (aB1.mpr rfl)) hx hn
 ·rw[en]at hI
  obtain⟨es,hB,rfl⟩:=hI.2 rfl
  rw[Av]
  have sd:(AV.dct (CX ys es)).sub nn=some (.dct (CX ys es)):=bO1 (aD4 AV.dct) hB.1
  refine eI.mpr (B.len (aD5 hn (by decide)) ?_)
  refine(fF (d:=.dct (CX ys es)) (b2j:=.dct (CX ys es))).mpr ?_
  by_cases h2:200<=ys.length
  ·rw[bO5 (p:=(200:Int)<=(ys.length:Nat)) (aJ7.mpr h2)]
   exact YU hB hn (hd h2) S λt=>Av.mpr (Cb (fl:=.next) (τ:=⟨[],[(0,.inst Ş (BQ a b mb op fb (.dct (CX ys es))))],1,1⟩) rfl (.less (λ_ _=>AA) λ_ _=>id) rfl rfl (Bp.shut ⟨S.ha,S.hb,S.a,S.b,S.mb,S.op,S.fb,sd⟩) (hq _ hB))
  ·rw[bO6 (p:=(200:Int)<=(ys.length:Nat)) λz=>h2 (aJ7.mp z)]
   exact Cb (fl:=.next) (τ:=⟨[],[(0,.inst Ş (BQ a b mb op fb (.dct (CX ys es))))],1,1⟩) rfl
    (Aa.re [0] [(1,.fset []),(2,.fset [])] rfl rfl rfl rfl (BA rfl rfl rfl rfl (BA rfl rfl rfl rfl CP)) BZ (Fe rfl rfl (NC S (AK _ _ sd) rfl) BY)) rfl rfl (Bp.shut ⟨S.ha,S.hb,S.a,S.b,S.mb,S.op,S.fb,sd⟩) (hq _ hB)
def NZ{f:aV8}{p:Str}(h :∀a:Value,aS1 f ⟨[a],[]⟩=pure ([(p,a)])) :∀vas:List Value,vas.length=1->aS1 f ⟨vas,[]⟩=pure (([p]:List Str).zip vas):=
 GC λa=>V5 (h a)
def R3{d:Nat}:BG (Ű w) (ë w.params) (d+2) (.ref 188) eC:=
 PZ w0 (QV _).2.2 (QV _).1 (QV _).2.1 (ps:=["self"]) (by decide) (by rfl') (NZ λa=>by rfl') λas os Q hh=>by
  obtain⟨ea,hh⟩:=hh
  subst ea
  refine hh.elim (λhh=>?_) λhh=>?_
  ·obtain⟨eo,hq⟩:=hh
   subst eo
   refine⟨⟨rfl,Bs rfl⟩,bD.mpr ⟨by rfl',λ_ τ=>τ=⟨[("self",.ref 0),("b",İ),("b2j",.ref 1)],[(0,.inst Ş (IR İ İ .none .none .none (.ref 1) [])),(1,.dict [])],2,1⟩,⟨_,.refl _,rfl⟩,λi τ v hv=>AA hv,λτ hI=>?_⟩⟩
   subst hI
   rw[Av]
   refine iR.mpr ⟨by decide,?_⟩
   exact Cb (fl:=.next) (τ:=⟨[],[(0,.inst Ş (BQ İ İ .none .none .none (.dct [])))],1,1⟩) rfl
    (Aa.re [0] [(1,.dct []),(2,.fset []),(3,.fset [])] rfl rfl rfl rfl (BA rfl rfl rfl rfl (BA rfl rfl rfl rfl (BA rfl rfl rfl rfl CP))) BZ (Fe rfl rfl rfl BY)) rfl rfl rfl hq
  ·obtain⟨ys,a,b,mb,op,fb,b2j,hn,eo,S,hq⟩:=hh
   subst eo
   exact⟨⟨rfl,Bs S.shut⟩,rZ.mpr (VQ hn.1 ⟨S.ha,S.hb,S.a,S.b,S.mb,S.op,S.fb,rfl⟩ rfl hn.2.1 hn.2.2 hq)⟩
end
section
def Fi{tr:Ġ}{ρ:List (Str×AV)}{H:List (Nat×Ÿ)}{n k:Nat}{D:aC3}{at_:List (Str×AV)}{as as':List AV}{Q:AV->St->Prop}(hs:AJ nn at_=some at_)(hr:Af as=[0])(ha:AC (Fk [0]) as=some as')
  (h:tr as' [(D,at_)] λr os'=>Q r (St.sets ⟨ρ,(0,.inst D at_)::H,n,k⟩ [0] os')):BO tr as ⟨ρ,(0,.inst D at_)::H,n,k⟩ Q:=by
 unfold BO HX
 rw[hr,ha]
 exact⟨Bs hs,h⟩
def SW(Q:AV->List Ob->Prop)(y a b mb op fb b2j:AV)(ys:List AD):Prop:=PC y b λr=>BX r (Q .none [(Ş,BQ a b mb op fb b2j)]) (∀ds,ĺ ys ds->Q .none [(Ş,BQ a y .none .none .none (.dct ds))])
def Rq(ys:List AD):Prop:=ys.length<=100000/\(200<=ys.length->ys.Nodup)
def Pp:Ġ:=λas os Q=>(as=[.ref 0,İ]/\os=[(Ş,Xc)]/\Q .none [(Ş,BQ İ İ .none .none .none (.dct []))])\/∃(ys:List AD) (y a b mb op fb b2j:AV),as=[.ref 0,y]/\(IJ y ys/\Rq ys)/\os=[(Ş,BQ a b mb op fb b2j)]/\Bp a b mb op fb b2j/\SW Q y a b mb op fb b2j ys
def Gw{ys:List AD}{ds:List (AD×AV)}(h:ĺ ys ds):(AV.dct ds).sub nn=some (.dct ds):=bO1 (aD4 AV.dct) h.1
variable{w:aC7}{d:Nat}
def w1{a:aC3}{tr:Ġ}(h:BG (Ű w) (ë w.params) (d+1) (.ref a) tr):NX (Ű w) (ë w.params) (p1 w a tr) d Ĉ OX aM ME aI:=
 Ur (λf t e=>BU (b:=aE0 f a) (x:=some tr) (y:=none) e (λq e=>aB8 q▸aA2 e▸h) AA) (λe=>nomatch e) (λe=>nomatch e) (λ_ e=>nomatch e)
def č{a b:aC3}{tr t2:Ġ}(h:BG (Ű w) (ë w.params) (d+1) (.ref a) tr)(h2:BG (Ű w) (ë w.params) (d+1) (.ref b) t2):NX (Ű w) (ë w.params) (ŝ w a tr b t2) d Ĉ OX aM ME aI:=
 Ur (λf t e=>BU (b:=aE0 f a) (x:=some tr) e (λq e=>aB8 q▸aA2 e▸h) λe=>BU (b:=aE0 f b) (x:=some t2) (y:=none) e (λq e=>aB8 q▸aA2 e▸h2) AA) (λe=>nomatch e) (λe=>nomatch e) (λ_ e=>nomatch e)
def TQ:BG (Ű w) (ë w.params) (d+3) (.ref 181) Pp:=
 PZ (w1 R3) (SY _).2.2 (SY _).1 (SY _).2.1 (ps:=["self","b"]) (by decide) (by rfl') (QC λa b=>by rfl') λas os Q hh=>by
  refine hh.elim (λhh=>?_) λhh=>?_
  ·obtain⟨ea,eo,hq⟩:=hh
   subst ea;subst eo
   exact⟨⟨rfl,Bs rfl⟩,eQ.mpr (Fi (D:=Ş) (at_:=kL) (as':=[.ref 0]) rfl rfl rfl ⟨rfl,.inl ⟨rfl,Cb (fl:=.next) rfl (.refl _) rfl rfl rfl hq⟩⟩)⟩
  ·obtain⟨ys,y,a,b,mb,op,fb,b2j,ea,hn,eo,S,hq⟩:=hh
   subst ea;subst eo
   have B:=hn.1
   exact⟨⟨rfl,Bs S.shut⟩,pN.mpr ((HJ S.hb).mpr (Gm hq λr h=>Fs h (λh=>Cb (fl:=.ret .none) (τ:=A6 [("self",.ref 0),("b",y)] [(Ş,BQ a b mb op fb b2j)]) rfl (.refl _) rfl rfl S.shut h) λh=>Fi (D:=Ş) (at_:=BQ a y .none .none .none b2j) (as':=[.ref 0]) (Bp.shut ⟨S.ha,B.hnd,S.a,B.shut,rfl,rfl,rfl,S.b2j⟩) rfl rfl
    ⟨rfl,.inr ⟨ys,a,y,.none,.none,.none,b2j,⟨B,hn.2.1,hn.2.2⟩,rfl,⟨S.ha,B.hnd,S.a,B.shut,rfl,rfl,rfl,S.b2j⟩,λds hB=>Cb (fl:=.next) rfl (.refl _) rfl rfl (Bp.shut ⟨S.ha,B.hnd,S.a,B.shut,rfl,rfl,rfl,Gw hB⟩) (h ds hB)⟩⟩))⟩
def G6:Ġ:=λas os Q=>(as=[.ref 0,İ,İ]/\os=[(Ş,Vs)]/\Q .none [(Ş,BQ İ İ .none .none .none (.dct []))])\/∃(ys:List AD) (x y a b mb op fb b2j:AV),as=[.ref 0,x,y]/\(x.sub nn=some x/\BK x=true)/\(IJ y ys/\Rq ys)/\os=[(Ş,BQ a b mb op fb b2j)]/\Bp a b mb op fb b2j/\
 PC x a λr=>BX r (SW Q y a b mb op fb b2j ys) (SW Q y x b .none .none fb b2j ys)
def aL{w:aC7}{t1 t2:Ġ}{x y a b mb op fb b2j:AV}{Q:AV->List Ob->Prop}:Ū (ŝ w 174 t1 181 t2) Kt KE ((["self","a","b"]:List Str).zip [.ref 0,x,y]) [(Ş,BQ a b mb op fb b2j)] Q =
  BO t1 [.ref 0,x] (A6 [("self",.ref 0),("a",x),("b",y)] [(Ş,BQ a b mb op fb b2j)]) λ_ σ=>wL (ŝ w 174 t1 181 t2) (ER (ŝ w 174 t1 181 t2) Kt 30) (KE.drop 2) σ (AN 1 Q):=by rfl'
def bK{w:aC7}{t1 t2:Ġ}{x y a b mb op fb b2j:AV}{Q:AV->List Ob->Prop}:wL (ŝ w 174 t1 181 t2) (ER (ŝ w 174 t1 181 t2) Kt 30) (KE.drop 2) ⟨[("self",.ref 0),("a",x),("b",y)],[(0,.inst Ş (BQ a b mb op fb b2j))],1,1⟩ (AN 1 Q) =
  BO t2 [.ref 0,y] ⟨[("self",.ref 0),("a",x),("b",y)],[(0,.inst Ş (BQ a b mb op fb b2j))],1,1⟩ λ_ σ=>AN 1 Q .next σ:=by rfl'
def Zv{t1 t2:Ġ}{Q:AV->List Ob->Prop}:wL (ŝ w 174 t1 181 t2) (ER (ŝ w 174 t1 181 t2) Kt 30) (KE.drop 2) (A6 [("self",.ref 0),("a",İ),("b",İ)] [(Ş,Xc)]) (AN 1 Q) =
  BO t2 [.ref 0,İ] (A6 [("self",.ref 0),("a",İ),("b",İ)] [(Ş,Xc)]) λ_ σ=>AN 1 Q .next σ:=by rfl'
def WO{f:aV8}{p q r:Str}(h :∀a b c:Value,aS1 f ⟨[a,b,c],[]⟩=pure ([(p,a),(q,b),(r,c)])) :∀vas:List Value,vas.length=3->aS1 f ⟨vas,[]⟩=pure (([p,q,r]:List Str).zip vas):=
 GC λa=>GC λb=>GC λc=>V5 (h a b c)
def V2{x:AV}(h:x.sub nn=some x):AC (Fk [0]) [.ref 0,x]=some [.ref 0,x]:=by
 show(some (AV.ref 0)).bind (λa=>(AC (Fk [0]) [x]).map (a :: ·))=_
 rw[show AC (Fk [0]) [x]=some [x]from BN (AI h rfl)];rfl
def WL{x:AV}(h:x.sub nn=some x):Af [.ref 0,x]=[0]:=by
 show(bif hasN 0 (Af [x])then Af [x]else 0::Af [x])=_
 rw[Cc (AI h rfl:AC nn [x]=some [x])];rfl
def Jq:BG (Ű w) (ë w.params) (d+4) (.ref 167) G6:=
 PZ (č (VT (d:=d+1)) TQ) (RV _).2.2 (RV _).1 (RV _).2.1 (ps:=["self","a","b"]) (by decide) (by rfl') (WO λa b c=>by rfl') λas os Q hh=>by
  refine hh.elim (λhh=>?_) λhh=>?_
  ·obtain⟨ea,eo,hq⟩:=hh
   subst ea;subst eo
   exact⟨⟨rfl,Bs rfl⟩,qM.mpr (Fi (D:=Ş) (at_:=Vs) (as':=[.ref 0,İ]) rfl rfl rfl (.inl ⟨rfl,rfl,Zv.mpr (Fi (D:=Ş) (at_:=Xc) (as':=[.ref 0,İ]) rfl rfl rfl
    (.inl ⟨rfl,rfl,Cb (fl:=.next) rfl (.refl _) rfl rfl rfl hq⟩))⟩))⟩
  ·obtain⟨ys,x,y,a,b,mb,op,fb,b2j,ea,hx,hn,eo,S,hq⟩:=hh
   subst ea;subst eo
   have B:=hn.1
   have go :∀{a mb op:AV},Bp a b mb op fb b2j->SW Q y a b mb op fb b2j ys->wL (ŝ w 174 Rf 181 Pp) (ER (ŝ w 174 Rf 181 Pp) Kt 30) (KE.drop 2) ⟨[("self",.ref 0),("a",x),("b",y)],[(0,.inst Ş (BQ a b mb op fb b2j))],1,1⟩ (AN 1 Q):=λ{a mb op} S h=>bK.mpr (Fi (D:=Ş) (at_:=BQ a b mb op fb b2j) (as':=[.ref 0,y]) S.shut (WL B.shut) (V2 B.shut)
    (.inr ⟨ys,y,a,b,mb,op,fb,b2j,rfl,hn,rfl,S,Gm h λr h=>Fs h (λh=>Cb (fl:=.next) rfl (.refl _) rfl rfl S.shut h) λh ds hB=>Cb (fl:=.next) rfl (.refl _) rfl rfl (Bp.shut ⟨S.ha,B.hnd,S.a,B.shut,rfl,rfl,rfl,Gw hB⟩) (h ds hB)⟩))
   exact⟨⟨rfl,Bs S.shut⟩,aL.mpr (Fi (D:=Ş) (at_:=BQ a b mb op fb b2j) (as':=[.ref 0,x]) S.shut (WL hx.1) (V2 hx.1) (.inr ⟨x,a,b,mb,op,fb,b2j,rfl,rfl,hx.1,hx.2,S,Gm hq λr h=>Fs h (go S) (go ⟨hx.2,S.hb,hx.1,S.b,rfl,rfl,S.fb,S.b2j⟩)⟩))⟩
noncomputable def kb(fd:aV8)(vs:List Value):{k:Option (Array Value)->Sem (List (Str×Value)) // aS1 fd ⟨vs,[]⟩=seqItems? fd.defaults >>= k}:=⟨_,rfl⟩
def Fb(P:aD6)(a:aC3):Option (Array Value):=match(ĩ P).lookup a with
 | some ⟨_,_,.seq it _,_⟩=>some it
 | _=>none
def QS{P:aD6}{a:aC3}{it:Array Value}(h:Fb P a=some it) :∃o n,(ë P).get? a=some o/\o.data = .seq it n:=by
 unfold Fb at h
 split at h
 ·rename_i o1 ó it' n o3 ho
  cases h
  exact⟨_,_,Eh P _ _ ho,rfl⟩
 ·cases h
def aQ{P:aD6}{f T:aC3}{p q r t u:Str}(hd:(C9 P f).defaults = .ref T)(hi:Fb P T=some ((Fb P T).getD #[]))(h :∀a b c d e:Value,(kb (C9 P f) [a,b,c,d,e]).1 (some ((Fb P T).getD #[]))=pure ([(p,a),(q,b),(r,c),(t,d),(u,e)]))(s:aA8)(vas:List Value)(hb :∀b o,(ë P).get? b=some o->s.heap.get? b=some o):vas.length=5->aY9 s (C9 P f) ⟨vas,[]⟩ (([p,q,r,t,u]:List Str).zip vas):=by
 refine GC (m:=λvas=>aY9 s (C9 P f) ⟨vas,[]⟩ (([p,q,r,t,u]:List Str).zip vas)) (λx=>GC λy=>GC λz=>GC λt=>GC λu=>V5 ?_) vas
 obtain⟨ob,n,q1,ĉ⟩:=QS hi
 exact aY9.of_defaults (T:=T) (k:=(kb (C9 P f) [x,y,z,t,u]).1) hd (hb _ _ q1) ĉ (kb _ _).2 (h x y z t u)
def iS:List aF3:=(C2 LA "__init__").1
def gS:Scope:=(C2 LA "__init__").2
def QA(P:aD6):(C9 P 160).body = .stmts iS/\(C9 P 160).scope=gS/\BL P 160=true:=⟨by rfl',by rfl',by rfl'⟩
def Fy(P:aD6):List Value:=((Fb P 153).getD #[]).toList
def Rk(P:aD6):Fy P=[.none,.str ⟨#[]⟩ 404,.str ⟨#[]⟩ 405,.bool true]:=by rfl'
def SV{P:aD6}{L:Ci}{G:ļ}{h:aE8}{n:Nat}(q:Vr G.τ):AX L G h n [.none,İ,İ,.bool true] (Fy P):=by
 rw[Rk P]
 exact⟨_,_,rfl,rfl,_,_,rfl,⟨_,rfl,by decide,q.1⟩,_,_,rfl,⟨_,rfl,by decide,q.2⟩,_,_,rfl,rfl,rfl⟩
def T9(P:aD6)(a:Value):(kb (C9 P 160) [a]).1 (some ((Fb P 153).getD #[]))=pure ((["self","isjunk","a","b","autojunk"]:List Str).zip ([a]++Fy P)):=by rfl'
def Ps{P:aD6}(s:aA8)(vas:List Value)(hb :∀b o,(ë P).get? b=some o->s.heap.get? b=some o)(e:vas.length+(Fy P).length=5):aY9 s (C9 P 160) ⟨vas,[]⟩ ((["self","isjunk","a","b","autojunk"]:List Str).zip (vas++Fy P)):=by
 have e1:vas.length=1:=aO3 (e.trans (bO1 (1 + ·) (show(Fy P).length=4 by rfl')).symm:vas.length+(Fy P).length=1+(Fy P).length)
 refine GC (m:=λvas=>aY9 s (C9 P 160) ⟨vas,[]⟩ ((["self","isjunk","a","b","autojunk"]:List Str).zip (vas++Fy P))) (λx=>V5 ?_) vas e1
 obtain⟨ob,n,q1,ĉ⟩:=QS (P:=P) (a:=153) (it:=(Fb P 153).getD #[]) (by rfl')
 exact aY9.of_defaults (T:=153) (k:=(kb (C9 P 160) [x]).1) (by rfl') (hb _ _ q1) ĉ (kb _ _).2 (T9 P x)
def oM{tr:Ġ}{Q:AV->List Ob->Prop}:Ū (p1 w 167 tr) gS iS ((["self","isjunk","a","b","autojunk"]:List Str).zip ([.ref 0]++[.none,İ,İ,.bool true])) [(Ş,[])] Q =
  BO tr [.ref 0,İ,İ] (A6 [("self",.ref 0),("isjunk",.none),("a",İ),("b",İ),("autojunk",.bool true)] [(Ş,Vs)]) λ_ σ=>AN 1 Q .next σ:=by rfl'
def Vv:Ġ:=λas os Q=>as=[.ref 0]/\os=[(Ş,[])]/\Q .none [(Ş,BQ İ İ .none .none .none (.dct []))]
def VN:BG (Ű w) (ë w.params) (d+5) (.ref 160) Vv:=
 zL (es:=[.none,İ,İ,.bool true]) (w1 Jq) (QA _).2.2 (QA _).1 (QA _).2.1 (ps:=["self","isjunk","a","b","autojunk"]) (by decide) (by rfl') Ps SV λas os Q hh=>by
  obtain⟨ea,eo,hq⟩:=hh
  subst ea;subst eo
  exact⟨⟨rfl,Bs rfl⟩,oM.mpr (Fi (D:=Ş) (at_:=Vs) (as':=[.ref 0,İ,İ]) rfl rfl rfl (.inl ⟨rfl,rfl,Cb (fl:=.next) rfl (.refl _) rfl rfl rfl hq⟩))⟩
end
def gC(s:aF3):Expr×List aF3:=((Qg s).2.1,(Qg s).2.2.1)
noncomputable def CO(s:aF3):List Expr:=(Qg s).1
def Gb:List aF3:=(C2 LA "find_longest_match").1
def GS:Scope:=(C2 LA "find_longest_match").2
def Q3(P:aD6):(C9 P 196).body = .stmts Gb/\(C9 P 196).scope=GS/\BL P 196=true:=⟨by rfl',by rfl',by rfl'⟩
noncomputable def Y5:Pos->Bool:=λp=>aE0 p.line 312
abbrev CF(w:aC7):Pm:=Sq w.params (λ_=>none) none true false Y5 OM
abbrev Dy(w:aC7)(f:Nat):ì:=ER (CF w) GS f
def ö:Expr×List aF3:=EY (Gb.getD 7 (.Pass AP))
def fI:Expr×List aF3:=EY (ö.2.getD 2 (.Pass AP))
def n8:List Expr:=CO (fI.2.getD 2 (.Pass AP))
def nY(w:aC7):AV->St->ŏ->Prop:=λv σ K=>(ws (CF w) GS 29).A ö.1 v σ λσ=>wL (CF w) (Dy w 29) ö.2 σ K
def nE(w:aC7):AV->St->ŏ->Prop:=λv σ K=>(ws (CF w) GS 28).A fI.1 v σ λσ=>wL (CF w) (Dy w 28) fI.2 σ K
abbrev tU(a b:AV)(ds:List (AD×AV))(alo ahi blo bhi bi bj bk:Int)(tl:List (Str×AV)):List (Str×AV):=("self",.ref 0)::("alo",.int alo)::("ahi",.int ahi)::("blo",.int blo)::("bhi",.int bhi)::("a",a)::("b",b)::("b2j",.dct ds)::("isbjunk",.bm .has (.fset []))::("besti",.int bi)::("bestj",.int bj)::("bestsize",.int bk)::tl
abbrev b7(a b:AV)(mb op fb:AV)(ds:List (AD×AV)):Ÿ:=.inst Ş (BQ a b mb op fb (.dct ds))
abbrev IC(a b:AV)(mb op fb:AV)(ds:List (AD×AV))(alo ahi blo bhi bi bj bk:Int)(es:List (AD×AV)):St:=⟨tU a b ds alo ahi blo bhi bi bj bk [("j2len",.dct es),("nothing",.lst [])],[(0,b7 a b mb op fb ds)],1,1⟩
abbrev dU(a b:AV)(mb op fb:AV)(ds:List (AD×AV))(alo ahi blo bhi:Int):St:=⟨[("self",.ref 0),("alo",.int alo),("ahi",.int ahi),("blo",.int blo),("bhi",.int bhi),("a",a),("b",b),("b2j",.dct ds),("isbjunk",.bm .has (.fset [])),("bestsize",.int 0),("bestj",.int blo),("besti",.int alo),("j2len",.ref 1),("nothing",.lst [])],[(0,b7 a b mb op fb ds),(1,.dict [])],2,1⟩
abbrev Kz(a b:AV)(mb op fb:AV)(ds:List (AD×AV))(alo ahi blo bhi bi bj bk:Int)(es es2:List (AD×AV))(i:Int)(u:AV)(tl:List (Str×AV)):St:=⟨tU a b ds alo ahi blo bhi bi bj bk (("j2len",u)::("nothing",.lst [])::("i",.int i)::("j2lenget",.bm .get (.dct es))::("newj2len",.ref 1)::tl),[(0,b7 a b mb op fb ds),(1,.dict es2)],2,1⟩
section
variable{w:aC7}{a b:AV}{mb op fb:AV}{ds es es2:List (AD×AV)}{alo ahi blo bhi bi bj bk i j r:Int}{K:ŏ}{Q:AV->List Ob->Prop}{R:Bool->St->Prop}
def qG:Ū (CF w) GS Gb ((["self","alo","ahi","blo","bhi"]:List Str).zip [.ref 0,.int alo,.int ahi,.int blo,.int bhi]) [(Ş,BQ a b mb op fb (.dct ds))] Q =
  D1 (BK a) (D1 (BK b) (4=4/\3=3/\Au alo ahi/\EM (Ad alo (ahi-alo).toNat) (nY w) (wL (CF w) (Dy w 29) []) (dU a b mb op fb ds alo ahi blo bhi) (ø (CF w) (Dy w 30) (Gb.drop 8) (AN 1 Q)))):=by rfl'
def iW:nY w (.int i) (IC a b mb op fb ds alo ahi blo bhi bi bj bk es) K =
  FY a (.int i) (Kz a b mb op fb ds alo ahi blo bhi bi bj bk es [] i (.dct es) []) λv σ=>Do (CF w) (.fn .get) [.dct ds,v,.lst []] σ λu σ=>Ap (KD u) λvs=>AC nn vs=some vs/\EM vs (nE w) (wL (CF w) (Dy w 28) []) σ (ø (CF w) (Dy w 29) (ö.2.drop 3) K):=by rfl'
def i6{u:AV}:wL (CF w) (Dy w 29) (ö.2.drop 3) (Kz a b mb op fb ds alo ahi blo bhi bi bj bk es es2 i u []) K=K .next (Kz a b mb op fb ds alo ahi blo bhi bi bj bk es es2 i (.ref 1) []):=by rfl'
def Zj{u:AV}:nE w (.int j) (Kz a b mb op fb ds alo ahi blo bhi bi bj bk es es2 i u []) K=BX (decide (j<blo)) (K .cont (Kz a b mb op fb ds alo ahi blo bhi bi bj bk es es2 i u [("j",.int j)])) (BX (decide (bhi<=j)) (K .brk (Kz a b mb op fb ds alo ahi blo bhi bi bj bk es es2 i u [("j",.int j)]))
  (ED .Add ((es.lookup (.int (j-1))).getD (.int 0)) (.int 1) (Kz a b mb op fb ds alo ahi blo bhi bi bj bk es es2 i u [("j",.int j)]) λv σ=>B8 (ws (CF w) GS 27).A n8 v σ λσ=>wL (CF w) (Dy w 28) (fI.2.drop 3) σ K)):=by rfl'
def dR{u:AV}:(B8 (ws (CF w) GS 27).A n8 (.int r) (Kz a b mb op fb ds alo ahi blo bhi bi bj bk es es2 i u [("j",.int j)]) λσ=>wL (CF w) (Dy w 28) (fI.2.drop 3) σ K) =
  (AF es2.length/\BX (decide (bk<r)) (3=3/\K .next (Kz a b mb op fb ds alo ahi blo bhi (i-r+1) (j-r+1) r es (dset es2 (.int j) (.int r)) i u [("j",.int j),("k",.int r)])) (K .next (Kz a b mb op fb ds alo ahi blo bhi bi bj bk es (dset es2 (.int j) (.int r)) i u [("j",.int j),("k",.int r)]))):=by rfl'
def Ď(n:Nat):Expr×List aF3:=gC (Gb.getD n (.Pass AP))
abbrev jG(w:aC7)(n:Nat)(σ:St)(K:ŏ):Prop:=HB ((ws (CF w) GS 29).B (Ď n).1) (wL (CF w) (Dy w 29) (Ď n).2) (wL (CF w) (Dy w 29) []) σ (ø (CF w) (Dy w 30) (Gb.drop (n+1)) K)
def Mm{σ:St}:(wL (CF w) (Dy w 30) (Gb.drop 8) σ K=jG w 8 σ K/\wL (CF w) (Dy w 30) (Gb.drop 9) σ K=jG w 9 σ K)/\wL (CF w) (Dy w 30) (Gb.drop 10) σ K=jG w 10 σ K/\wL (CF w) (Dy w 30) (Gb.drop 11) σ K=jG w 11 σ K:=⟨⟨by rfl',by rfl'⟩,by rfl',by rfl'⟩
def qA:(ws (CF w) GS 29).B (Ď 8).1 (IC a b mb op fb ds alo ahi blo bhi bi bj bk es) R=BX (decide (alo<bi)) (BX (decide (blo<bj)) (FY b (.int (bj-1)) (IC a b mb op fb ds alo ahi blo bhi bi bj bk es) λv σ=>Ap (B7 v) λ_=>FY a (.int (bi-1)) σ λu σ=>FY b (.int (bj-1)) σ λv σ=>GJ .Eq u v σ λr σ=>Ce r σ λb σ=>BX b (R true σ) (R false σ))
  (R false (IC a b mb op fb ds alo ahi blo bhi bi bj bk es))) (R false (IC a b mb op fb ds alo ahi blo bhi bi bj bk es)):=by rfl'
def mC:(ws (CF w) GS 29).B (Ď 9).1 (IC a b mb op fb ds alo ahi blo bhi bi bj bk es) R=BX (decide (bi+bk<ahi)) (BX (decide (bj+bk<bhi)) (FY b (.int (bj+bk)) (IC a b mb op fb ds alo ahi blo bhi bi bj bk es) λv σ=>Ap (B7 v) λ_=>FY a (.int (bi+bk)) σ λu σ=>FY b (.int (bj+bk)) σ λv σ=>GJ .Eq u v σ λr σ=>Ce r σ λb σ=>BX b (R true σ) (R false σ))
  (R false (IC a b mb op fb ds alo ahi blo bhi bi bj bk es))) (R false (IC a b mb op fb ds alo ahi blo bhi bi bj bk es)):=by rfl'
def dH:(ws (CF w) GS 29).B (Ď 10).1 (IC a b mb op fb ds alo ahi blo bhi bi bj bk es) R=BX (decide (alo<bi)) (BX (decide (blo<bj)) (FY b (.int (bj-1)) (IC a b mb op fb ds alo ahi blo bhi bi bj bk es) λv σ=>Ap (B7 v) λ_=>R false σ)
  (R false (IC a b mb op fb ds alo ahi blo bhi bi bj bk es))) (R false (IC a b mb op fb ds alo ahi blo bhi bi bj bk es)):=by rfl'
def hU:(ws (CF w) GS 29).B (Ď 11).1 (IC a b mb op fb ds alo ahi blo bhi bi bj bk es) R=BX (decide (bi+bk<ahi)) (BX (decide (bj+bk<bhi)) (FY b (.int (bj+bk)) (IC a b mb op fb ds alo ahi blo bhi bi bj bk es) λv σ=>Ap (B7 v) λ_=>R false σ)
  (R false (IC a b mb op fb ds alo ahi blo bhi bi bj bk es))) (R false (IC a b mb op fb ds alo ahi blo bhi bi bj bk es)):=by rfl'
def fY:wL (CF w) (Dy w 30) (Gb.drop 12) (IC a b mb op fb ds alo ahi blo bhi bi bj bk es) K=(((AV.int bi).sub nn=some (.int bi)/\(AV.int bj).sub nn=some (.int bj)/\(AV.int bk).sub nn=some (.int bk))/\K (.ret (.mat [.int bi,.int bj,.int bk])) (IC a b mb op fb ds alo ahi blo bhi bi bj bk es)):=by rfl'
end
end Mine
end
namespace Mine
section
variable{α:Type} [DecidableEq α]
noncomputable def Dr(la lb:List α)(alo blo i j:Nat):Bool:=decide (alo<=i)&&decide (blo<=j)&&(match la[i]?,lb[j]? with | some x,some y=>decide (x=y) | _,_=>false)
noncomputable def A2(la lb:List α)(alo blo:Nat):Nat->Nat->Nat
 | 0,j=>if Dr la lb alo blo 0 j then 1 else 0
 | i+1,0=>if Dr la lb alo blo (i+1) 0 then 1 else 0
 | i+1,j+1=>if Dr la lb alo blo (i+1) (j+1)then A2 la lb alo blo i j+1 else 0
def IO(la lb:List α)(alo ahi blo bhi i j k:Nat):Prop:=alo<=i/\blo<=j/\i+k<=ahi/\j+k<=bhi/\∀d,d<k->∃x,la[i+d]?=some x/\lb[j+d]?=some x
def CZ{la lb:List α}{alo blo i j:Nat}:Dr la lb alo blo i j=true↔alo<=i/\blo<=j/\∃x,la[i]?=some x/\lb[j]?=some x:=by
 unfold Dr
 simp only[aI7,decide_eq_true_eq,and_assoc]
 refine and_congr_right λ_=>and_congr_right λ_=>?_
 cases la[i]?<;>cases lb[j]?<;>simp
 exact eq_comm
theorem GT{la lb:List α}{alo blo:Nat} :∀(i j n:Nat),n<=A2 la lb alo blo i j->∀d,d<n->d<=i/\d<=j/\Dr la lb alo blo (i-d) (j-d)=true
 | 0,j,n,h,d,hd=>by
  unfold A2 at h
  split at h
  ·rename_i e
   have:d=0:=by exists 2,0x802181081018,hd,h
   subst this
   exact⟨aB6 _,aE9 _,e⟩
  ·exact aA9 (ql [_,_] 0xa081081018 (by rfl') hd h)
 | i+1,0,n,h,d,hd=>by
  unfold A2 at h
  split at h
  ·rename_i e
   have:d=0:=by exists 2,0x802181081018,hd,h
   subst this
   exact⟨aE9 _,aB6 _,e⟩
  ·exact aA9 (ql [_,_] 0xa081081018 (by rfl') hd h)
 | i+1,j+1,n,h,d,hd=>by
  unfold A2 at h
  split at h
  ·rename_i e
   cases d with
   | zero=>exact⟨aE9 _,aE9 _,e⟩
   | succ d=>
    obtain⟨h1,h2,h3⟩:=GT (la:=la) (lb:=lb) (alo:=alo) (blo:=blo) i j (n-1) (by exists 2,0x1180b0181a008,h) d (by exists 2,0x181b011180a18,hd)
    refine⟨by(exists 2,0x181a180a01008,h1),by(exists 2,0x181a180a01008,h2),?_⟩
    rw[aZ1,aZ1]
    exact h3
  ·exact aA9 (ql [_,_] 0xa081081018 (by rfl') hd h)
theorem Lb{la lb:List α}{alo blo:Nat} :∀(i j n:Nat),(∀d,d<n->d<=i/\d<=j/\Dr la lb alo blo (i-d) (j-d)=true)->n<=A2 la lb alo blo i j
 | _,_,0,_=>aE9 _
 | 0,j,n+1,h=>by
  have h0:=(h 0 (by exists 1,0x180a081)).2.2
  simp only[bC7]at h0
  unfold A2
  rw[bO2 h0]
  have:n=0:=by
   cases n with
   | zero=>rfl
   | succ n=>have:=(h 1 (by exists 1,0x18180aa181)).1;exists 1,0x8180a2081808,this
  exists 1,0x18180a008028,this
 | i+1,0,n+1,h=>by
  have h0:=(h 0 (by exists 1,0x180a081)).2.2
  simp only[bC7]at h0
  unfold A2
  rw[bO2 h0]
  have:n=0:=by
   cases n with
   | zero=>rfl
   | succ n=>have:=(h 1 (by exists 1,0x18180aa181)).2.1;exists 1,0x8180a2081808,this
  exists 1,0x18180a008028,this
 | i+1,j+1,n+1,h=>by
  have h0:=(h 0 (by exists 1,0x180a081)).2.2
  simp only[bC7]at h0
  unfold A2
  rw[bO2 h0]
  have:=Lb i j n λd hd=>by
   obtain⟨h1,h2,h3⟩:=h (d+1) (by exists 2,0x181a180a11018,hd)
   rw[aZ1,aZ1]at h3
   exact⟨by(exists 2,0x100181a180a08,h1),by(exists 2,0x100181a180a08,h2),h3⟩
  exists 2,0x181a180a01008,this
end
section
variable{α:Type} [DecidableEq α]
def OR(i j i' j':Nat):Prop:=i<i'\/(i=i'/\j<j')
structure DP(la lb:List α)(alo blo bhi i j bi bj bk:Nat):Prop where
 zero:bk=0->bi=alo/\bj=blo
 here:0<bk->∃ei ej,OR ei ej i j/\ej<bhi/\A2 la lb alo blo ei ej=bk/\bi+bk=ei+1/\bj+bk=ej+1/\∀i' j',OR i' j' ei ej->j'<bhi->A2 la lb alo blo i' j'<bk
 all :∀i' j',OR i' j' i j->j'<bhi->A2 la lb alo blo i' j'<=bk
def DP.start{la lb:List α}{alo blo bhi:Nat}:DP la lb alo blo bhi alo 0 alo blo 0:=by
 refine⟨λ_=>⟨rfl,rfl⟩,λh=>bO4 h (by exists 0,0x80819),λi' j' h hj=>?_⟩
 refine aZ8 λz=>?_
 have:=(GT i' j' 1 z 0 (by exists 0,0x18081)).2.2
 have:=(CZ.mp this).1
 rcases h with h | h
 ·exists 2,0xa0118081b008,this,h
 ·exists 1,0xa08018,h.2
def DP.skip{la lb:List α}{alo blo bhi i j bi bj bk:Nat}(h:DP la lb alo blo bhi i j bi bj bk)(hr:j<bhi->A2 la lb alo blo i j<=bk):DP la lb alo blo bhi i (j+1) bi bj bk:=by
 refine⟨h.zero,λz=>?_,λi' j' hb hj=>?_⟩
 ·obtain⟨ei,ej,h1,h2⟩:=h.here z
  exact⟨ei,ej,by rcases h1 with h1 | h1<;>unfold OR<;>omega,h2⟩
 ·by_cases e:i'=i/\j'=j
  ·obtain⟨rfl,rfl⟩:=e;exact hr hj
  ·exact h.all i' j' (by unfold OR at *;exists 4,0x32110261017183a21102610178322102698,e,hb) hj
def DP.take{la lb:List α}{alo blo bhi i j bi bj bk:Nat}(h:DP la lb alo blo bhi i j bi bj bk)(hj:j<bhi)(hr:bk<A2 la lb alo blo i j){ci cj:Nat}(hi:ci+A2 la lb alo blo i j=i+1)(hjj:cj+A2 la lb alo blo i j=j+1) :
  DP la lb alo blo bhi i (j+1) ci cj (A2 la lb alo blo i j):=by
 refine⟨λz=>bO4 z (by exists 2,0x81291018,hr),λ_=>⟨i,j,.inr ⟨rfl,by exists 1,0x180a01⟩,hj,rfl,hi,hjj,λi' j' hb hj'=>aD5 (h.all i' j' hb hj') hr⟩,λi' j' hb hj'=>?_⟩
 by_cases e:i'=i/\j'=j
 ·obtain⟨rfl,rfl⟩:=e;exact aB6 _
 ·exact aD8 (aD5 (h.all i' j' (by unfold OR at *;exists 4,0x32110261017183a21102610178322102698,e,hb) hj') hr)
def DP.row{la lb:List α}{alo blo bhi i j bi bj bk:Nat}(h:DP la lb alo blo bhi i j bi bj bk)(hr :∀j',j<=j'->j'<bhi->A2 la lb alo blo i j'<=bk):DP la lb alo blo bhi (i+1) 0 bi bj bk:=by
 refine⟨h.zero,λz=>?_,λi' j' hb hj=>?_⟩
 ·obtain⟨ei,ej,h1,h2⟩:=h.here z
  exact⟨ei,ej,by unfold OR at *;(exists 4,0x821181a026181a017321102610178,h1),h2⟩
 ·by_cases e:i'=i/\j<=j'
  ·obtain⟨rfl,e⟩:=e;exact hr j' e hj
  ·exact h.all i' j' (by unfold OR at *;exists 4,0x231102610170831181a026181a0178320102698,e,hb) hj
def DP.jump{la lb:List α}{alo blo bhi i j j' bi bj bk:Nat}(h:DP la lb alo blo bhi i j bi bj bk)(hj:j<=j')(hr :∀x,j<=x->x<j'->x<bhi->A2 la lb alo blo i x<=bk):DP la lb alo blo bhi i j' bi bj bk:=by
 refine⟨h.zero,λz=>?_,λi' x hb hx=>?_⟩
 ·obtain⟨ei,ej,h1,h2⟩:=h.here z
  exact⟨ei,ej,by unfold OR at *;(exists 5,0x141322632170413226321781008,hj,h1),h2⟩
 ·by_cases e:i'=i/\j<=x
  ·obtain⟨rfl,e⟩:=e;exact hr x e (by unfold OR at hb;exists 3,0x211211002600178,hb) hx
  ·exact h.all i' x (by unfold OR at *;exists 5,0x23110261017431102610178320102698,e,hb) hx
structure ħ(la lb:List α)(alo ahi blo bhi i j k:Nat):Prop where
 str:IO la lb alo ahi blo bhi i j k
 max :∀i' j' k',IO la lb alo ahi blo bhi i' j' k'->k'<=k
 fst:0<k->∀i' j',IO la lb alo ahi blo bhi i' j' k->i<i'\/(i=i'/\j<=j')
 zero:k=0->i=alo/\j=blo
def NV{la lb:List α}{alo ahi blo bhi i j k:Nat}(h:IO la lb alo ahi blo bhi i j k)(hk:0<k):k<=A2 la lb alo blo (i+k-1) (j+k-1):=by
 obtain⟨h1,h2,h3,h4,h5⟩:=h
 refine Lb _ _ _ λd hd=>⟨by(exists 3,0x1812ab001018,hd),by(exists 3,0x1812ab001018,hd),CZ.mpr ⟨by(exists 4,0x21831abb0032181008,h1,hd),by(exists 4,0x21831abb0032181008,h2,hd),?_⟩⟩
 obtain⟨x,x1,x2⟩:=h5 (k-1-d) (by exists 2,0x1180bb100818,hk)
 exact⟨x,by rw[<-x1];congr 1;(exists 3,0x181bb2a01812abb21018,hd),by rw[<-x2];congr 1;exists 3,0x181bb2a01812abb21018,hd⟩
def DP.done{la lb:List α}{alo ahi blo bhi bi bj bk:Nat}(ha:alo<=ahi)(hb:blo<=bhi)(h:DP la lb alo blo bhi ahi 0 bi bj bk):ħ la lb alo ahi blo bhi bi bj bk:=by
 refine⟨?_,λi' j' k' hs=>?_,λhk i' j' hs=>?_,h.zero⟩
 ·by_cases z:bk=0
  ·obtain⟨rfl,rfl⟩:=h.zero z
   subst z
   exact⟨aB6 _,aB6 _,ha,hb,λd hd=>bO4 hd (by exists 1,0x8019)⟩
  ·obtain⟨ei,ej,h1,h2,h3,h4,h5,h6⟩:=h.here (by exists 1,0x81080298,z)
   have hit :∀d,d<bk->_:=λd hd=>GT ei ej bk (aB9 h3.symm) d hd
   have hl:=CZ.mp (hit (bk-1) (by exists 1,0x180b1080298,z)).2.2
   refine⟨by(exists 4,0x30181b2b308182a10a28,h4,hl.1),by(exists 4,0x30181b2b308182a10a28,h5,hl.2.1),by unfold OR at h1;(exists 5,0x310a00841322632178182a10a28,h4,h1),by(exists 4,0x132a0180a32a281018,h2,h5),λd hd=>?_⟩
   obtain⟨_,_,x,x1,x2⟩:=CZ.mp (hit (bk-1-d) (by exists 2,0x10181bb11018,hd)).2.2
   exact⟨x,by rw[<-x1];congr 1;(exists 4,0x3181bb2b30a21318182a10a28,h4,hd),by rw[<-x2];congr 1;exists 4,0x3181bb2b30a21318182a10a28,h5,hd⟩
 ·by_cases z:k'=0
  ·exists 2,0x10008028,z
  ·obtain⟨h1,h2,h3,h4,h5⟩:=hs
   exact aA0 (NV ⟨h1,h2,h3,h4,h5⟩ (by exists 1,0x81080298,z)) (h.all _ _ (.inl (by exists 3,0x21810ab1081298210a08,h3,z)) (by exists 3,0x21810ab1081298210a08,h4,z))
 ·obtain⟨ei,ej,h1,h2,h3,h4,h5,h6⟩:=h.here hk
  have r:=NV hs hk
  obtain⟨s1,s2,s3,s4,s5⟩:=hs
  refine aE7 λz=>?_
  have:=h6 (i'+bk-1) (j'+bk-1) (by unfold OR;exists 7,0x41806ab121805ab2621805ab176305126511798184a03a28182a01a2800818,hk,h4,h5,z) (by exists 3,0x21801ab1201a0800818,hk,s4)
  exists 2,0xa01181008,r,this
end
end Mine
section
open PySem PySem.W PyProof.Rows
namespace Mine
section
variable{β:Type}{k k':AD}{v:β}{es:List (AD×β)}
def Y8:(es.map (λkv=>if kv.1=k then(kv.1,v)else kv)).lookup k'=if k'=k then(es.lookup k').map λ_=>v else es.lookup k':=
 aB7 (motive:=λes=>(es.map (λkv=>if kv.1=k then(kv.1,v)else kv)).lookup k'=if k'=k then(es.lookup k').map λ_=>v else es.lookup k') (by by_cases e:k'=k<;>(first | rw[bO2 e] | rw[bO3 e])<;>rfl) (λp r ih=>by
  rw[aH8,A1,A1,ih]
  by_cases h:p.1=k
  ·rw[bO2 h]
   by_cases e:k'=k
   ·rw[bO2 e,bO2 e,h,show(k'==k)=true from beq_iff_eq.mpr e];rfl
   ·rw[bO3 e,bO3 e,h,show(k'==k)=false from beq_eq_false_iff_ne.mpr e];rfl
  ·rw[bO3 h]
   by_cases e:k'=k
   ·rw[bO2 e,bO2 e,show(k'==p.1)=false from beq_eq_false_iff_ne.mpr λz=>h (z.symm.trans e)];rfl
   ·rw[bO3 e,bO3 e]) es
def QO:(es.any λkv=>decide (kv.1=k))=(es.lookup k).isSome:=
 aB7 (motive:=λes=>(es.any λkv=>decide (kv.1=k))=(es.lookup k).isSome) rfl (λp r ih=>by
  rw[List.any_cons,A1,ih]
  by_cases h:p.1=k
  ·rw[bO5 h,show(k==p.1)=true from beq_iff_eq.mpr h.symm];rfl
  ·rw[bO6 h,show(k==p.1)=false from beq_eq_false_iff_ne.mpr λz=>h z.symm];rfl) es
def Pw:(es++[(k,v)]).lookup k'=if(es.lookup k').isSome then es.lookup k' else if k'=k then some v else none:=
 aB7 (motive:=λes=>(es++[(k,v)]).lookup k'=if(es.lookup k').isSome then es.lookup k' else if k'=k then some v else none) (by
  show((k,v)::[]).lookup k'=_
  rw[A1]
  by_cases e:k'=k
  ·rw[show(k'==k)=true from beq_iff_eq.mpr e,bO2 e];rfl
  ·rw[show(k'==k)=false from beq_eq_false_iff_ne.mpr e,bO3 e];rfl) (λp r ih=>by
  rw[List.cons_append,A1,A1,ih]
  cases k'==p.1<;>rfl) es
def G7:(dset es k v).lookup k'=if k'=k then some v else es.lookup k':=by
 unfold dset
 rw[QO]
 cases h:es.lookup k with
 | none=>
  rw[bO3 (by exact λz=>nomatch z),Pw]
  by_cases e:k'=k
  ·rw[bO2 e,bO2 e,e,h];rfl
  ·rw[bO3 e,bO3 e];cases es.lookup k'<;>rfl
 | some u=>
  rw[bO2 (show(some u).isSome=true from rfl),Y8]
  by_cases e:k'=k
  ·rw[bO2 e,bO2 e,e,h];rfl
  ·rw[bO3 e,bO3 e]
def Hr:(dset es k v).length<=es.length+1:=by
 unfold dset
 by_cases h:(es.any λkv=>decide (kv.1=k))=true
 ·rw[bO2 h,aA6];exact aI3 _
 ·rw[bO3 h,aB2];exact aB6 _
end
def Kl{es:List (AD×AV)}:AW nn es=some es↔∀p∈es,p.2.sub nn=some p.2:=
 aB7 (motive:=λes=>AW nn es=some es↔∀p∈es,p.2.sub nn=some p.2) ⟨λ_ _ h=>(nomatch h),λ_=>rfl⟩ (λp r ih=>Prod.casesOn (motive:=λp=>AW nn (p::r)=some (p::r)↔∀q∈p::r,q.2.sub nn=some q.2) p λk x=>⟨λe=>by
  obtain⟨b,e1,e⟩:=AG (show(x.sub nn).bind (λb=>(AW nn r).map ((k,b) :: ·))=_ from e)
  obtain⟨c,e2,e3⟩:=AH e
  obtain⟨h1,h2⟩:=bA6 e3
  exact λq hq=>(aC4.mp hq).elim (λz=>z▸e1.trans (bO1 (λq:AD×AV=>some q.2) h1)) (ih.mp (e2.trans (bO1 some h2)) q),
  λh=>by
  show(x.sub nn).bind (λb=>(AW nn r).map ((k,b) :: ·))=_
  rw[show x.sub nn=some x from h (k,x) (aB4 ..),ih.mpr λq hq=>h q (aC1 _ hq)];rfl⟩) es
def Os{es:List (AD×AV)}{k:AD}{v:AV}(h:AW nn es=some es)(hv:v.sub nn=some v):AW nn (dset es k v)=some (dset es k v):=by
 have h:=Kl.mp h
 refine Kl.mpr λp hp=>?_
 unfold dset at hp
 by_cases c:(es.any λkv=>decide (kv.1=k))=true
 ·rw[bO2 c]at hp
  obtain⟨q,h1,rfl⟩:=aI5.mp hp
  by_cases e:q.1=k
  ·rw[bO2 e];exact hv
  ·rw[bO3 e];exact h q h1
 ·rw[bO3 c]at hp
  exact(aB0.mp hp).elim (h p) λz=>aB1.mp z▸hv
def Fg{α:Type} [DecidableEq α] {la lb:List α} {alo blo i j:Nat}:0<A2 la lb alo blo i j↔Dr la lb alo blo i j=true:=
 ⟨λh=>(GT i j 1 h 0 (aC6 0)).2.2,λh=>Lb i j 1 λd hd=>by
  obtain rfl:d=0:=bH6.mp hd
  exact⟨aE9 _,aE9 _,h⟩⟩
section
variable(la lb:List AD)(alo blo bhi:Nat)
def NJ(i J:Nat)(es:List (AD×AV)):Prop:=AW nn es=some es/\∀z:Int,es.lookup (.int z)=if 0<=z/\z<J/\z<bhi/\0<A2 la lb alo blo i z.toNat then some (.int (A2 la lb alo blo i z.toNat:Int))else none
def PJ(i:Nat)(es:List (AD×AV)):Prop:=AW nn es=some es/\∀j:Nat,j<bhi->Dr la lb alo blo i j=true->(es.lookup (.int ((j:Int)-1))).getD (.int 0) = .int ((A2 la lb alo blo i j:Int)-1)
end
section
variable{la lb:List AD}{alo blo bhi:Nat}
def NJ.nil{i:Nat}:NJ la lb alo blo bhi i 0 []:=⟨rfl,λz=>(bO3 λh=>bO4 (aW7 h.1 h.2.1) (Int.lt_irrefl 0)).symm⟩
def PJ.nil:PJ la lb alo blo bhi alo []:=by
 refine⟨rfl,λj hj hh=>?_⟩
 have h1:=Fg.mpr hh
 have:A2 la lb alo blo alo j=1:=by
  refine Nat.le_antisymm (aZ8 λz=>?_) h1
  have:=GT alo j 2 z 1 (by decide)
  have:=(CZ.mp this.2.2).1
  rename_i u0;exists 1,0xa180b00801808,u0.1,this
 rw[this]
 rfl
def NJ.next{i J:Nat}{es:List (AD×AV)}(h:NJ la lb alo blo bhi i J es)(hn :∀y,J<=y->y<bhi->A2 la lb alo blo i y=0):PJ la lb alo blo bhi (i+1) es:=by
 refine⟨h.1,λj hj hh=>?_⟩
 rw[h.2]
 cases j with
 | zero=>
  rw[bO3 (by exists 3,0x208110f18080fb4600f18080fb4618080fb08369)]
  unfold A2
  rw[bO2 hh]
  rfl
 | succ y=>
  have e:((y+1:Nat):Int)-1=(y:Int):=Int.add_sub_cancel (y:Int) 1
  rw[e]
  have e2:A2 la lb alo blo (i+1) (y+1)=A2 la lb alo blo i y+1:=by
   conv=>lhs;unfold A2
   rw[bO2 hh]
  rw[e2,aO4]
  by_cases z:0<A2 la lb alo blo i y
  ·have:y<J:=Nat.lt_of_not_le λq=>bO4 z (hn y q (Nat.lt_of_succ_lt hj)▸aL7 0)
   rw[bO2 ⟨aH4 y,aC8.mpr this,aC8.mpr (Nat.lt_of_succ_lt hj),z⟩]
   exact bO1 AV.int (Int.add_sub_cancel _ 1).symm
  ·rw[bO3 λq=>z q.2.2.2,aS9 z]
   rfl
def NJ.jump{i J J':Nat}{es:List (AD×AV)}(h:NJ la lb alo blo bhi i J es)(hJ:J<=J')(hr :∀x,J<=x->x<J'->x<bhi->A2 la lb alo blo i x=0):NJ la lb alo blo bhi i J' es:=by
 refine⟨h.1,λz=>?_⟩
 rw[h.2]
 by_cases c:0<=z/\z<J/\z<bhi/\0<A2 la lb alo blo i z.toNat
 ·rw[bO2 c,bO2 ⟨c.1,Int.lt_of_lt_of_le c.2.1 (aJ7.mpr hJ),c.2.2⟩]
 ·rw[bO3 c,bO3]
  rintro ⟨c1,ĳ,c3,ŗ⟩
  have:=hr z.toNat (by exists[_,_,_,_],[_],0x230108100f04630f0460083698080e20f581081800f04800838,c1,c3,ŗ,(aD1 _),c) (by exists[_,_],[_],0x11080e10f5800f04800838,c1,ĳ,(aD1 _)) (by exists[_,_],[_],0x11080e10f5800f04800838,c1,c3,(aD1 _))
  exact bO4 ŗ (this▸aL7 0)
def NJ.take{i j:Nat}{es:List (AD×AV)}(h:NJ la lb alo blo bhi i j es)(hj:j<bhi)(hr:0<A2 la lb alo blo i j):NJ la lb alo blo bhi i (j+1) (dset es (.int (j:Int)) (.int (A2 la lb alo blo i j:Int))):=by
 refine⟨Os h.1 rfl,λz=>?_⟩
 rw[G7,h.2]
 by_cases e:z=(j:Int)
 ·subst e
  rw[bO2 rfl,aO4,bO2 ⟨aH4 j,aC8.mpr (aC6 j),aC8.mpr hj,hr⟩]
 ·rw[bO3 λq=>e (AD.int.inj q)]
  by_cases c:0<=z/\z<j/\z<bhi/\0<A2 la lb alo blo i z.toNat
  ·rw[bO2 c,bO2 ⟨c.1,bC1 c.2.1 (aC8.mpr (aC6 j)),c.2.2⟩]
  ·rw[bO3 c,bO3 λq=>c ⟨q.1,Int.lt_iff_le_and_ne.mpr ⟨Int.le_of_lt_add_one q.2.1,e⟩,q.2.2⟩]
end
def Im{ys:List AD}{x:AD}{y:Nat}:y∈CY ys ys.length x↔ys[y]?=some x:=by
 unfold CY
 rw[aP8,aP2]
 exact⟨λh=>bO7 h.2,λh=>⟨(aA4.mp h).1,bO5 h⟩⟩
def Iz(ys:List AD)(n:Nat)(x:AD):(CY ys n x).Pairwise (· < ·):=bE5.filter _ List.pairwise_lt_range
structure C3(la lb:List AD)(alo blo bhi i:Nat)(ps:List Nat)(t bi bj bk:Nat)(es:List (AD×AV)):Prop where
 ex :∃J,DP la lb alo blo bhi i J bi bj bk/\NJ la lb alo blo bhi i J es/\(∀p∈ps.drop t,J<=p)/\(∀y,J<=y->Dr la lb alo blo i y=true->y∈ps.drop t)
 len:es.length<=t
def C3.start{la lb:List AD}{alo blo bhi i bi bj bk:Nat}{x:AD}(hk:la[i]?=some x)(h:DP la lb alo blo bhi i 0 bi bj bk):C3 la lb alo blo bhi i (CY lb lb.length x) 0 bi bj bk []:=by
 refine⟨⟨0,h,NJ.nil,λ_ _=>aE9 _,λy _ hy=>?_⟩,aB6 _⟩
 obtain⟨_,_,x,x1,x2⟩:=CZ.mp hy
 rw[x1]at hk
 cases hk
 exact Im.mpr x2
def Jk(la lb:List AD)(alo blo bhi i bi bj bk:Nat)(es:List (AD×AV)):Prop:=DP la lb alo blo bhi (i+1) 0 bi bj bk/\PJ la lb alo blo bhi (i+1) es
def Rl{la lb:List AD}{alo blo bhi i J bi bj bk:Nat}{es:List (AD×AV)}(h:DP la lb alo blo bhi i J bi bj bk)(hn:NJ la lb alo blo bhi i J es)(hz :∀y,J<=y->y<bhi->Dr la lb alo blo i y=true->False):Jk la lb alo blo bhi i bi bj bk es:=by
 have z :∀y,J<=y->y<bhi->A2 la lb alo blo i y=0:=λy h1 h2=>aS9 λq=>hz y h1 h2 (Fg.mp q)
 exact⟨h.row λj h1 h2=>by rw[z j h1 h2];exact aE9 _,hn.next z⟩
def C3.fin{la lb:List AD}{alo blo bhi i bi bj bk:Nat}{ps:List Nat}{es:List (AD×AV)}(h:C3 la lb alo blo bhi i ps ps.length bi bj bk es):Jk la lb alo blo bhi i bi bj bk es:=by
 obtain⟨⟨J,h1,h2,h3,h4⟩,h5⟩:=h
 refine Rl h1 h2 λy y1 y2 y3=>?_
 have:=h4 y y1 y3
 rw[aS3]at this
 exact nomatch this
def Dw{α:Type}{l:List α}{t:Nat}{x:α}(h:l[t]?=some x):l.drop t=x::l.drop (t+1):=by
 obtain⟨h1,h2⟩:=aA4.mp h
 rw[aL2 h1,h2]
section
variable{la lb:List AD}{alo blo bhi i t j bi bj bk:Nat}{ps:List Nat}{es:List (AD×AV)}
def C3.brk(h:C3 la lb alo blo bhi i ps t bi bj bk es)(hs:ps.Pairwise (· < ·))(hj:ps[t]?=some j)(hb:bhi<=j):Jk la lb alo blo bhi i bi bj bk es:=by
 obtain⟨⟨J,h1,h2,h3,h4⟩,h5⟩:=h
 refine Rl h1 h2 λy y1 y2 y3=>?_
 have:=h4 y y1 y3
 have hs:=hs.sublist (aQ8 t ps)
 rw[Dw hj]at this hs
 exact(aC4.mp this).elim (λz=>bO4 (z▸y2) (aS6.mpr hb)) λz=>bO4 (bJ7 ((aX2.mp hs).1 y z) y2) (aS6.mpr hb)
def C3.upto(h:C3 la lb alo blo bhi i ps t bi bj bk es)(hs:ps.Pairwise (· < ·))(hj:ps[t]?=some j):DP la lb alo blo bhi i j bi bj bk/\NJ la lb alo blo bhi i j es/\(∀p∈ps.drop (t+1),j+1<=p)/\(∀y,j+1<=y->Dr la lb alo blo i y=true->y∈ps.drop (t+1)):=by
 obtain⟨⟨J,h1,h2,h3,h4⟩,h5⟩:=h
 have hs:=hs.sublist (aQ8 t ps)
 rw[Dw hj]at h3 h4 hs
 have hJ:=h3 j (aB4 ..)
 have hs:=(aX2.mp hs).1
 have z :∀x,J<=x->x<j->x<bhi->A2 la lb alo blo i x=0:=λx x1 x2 x3=>aS9 λq=>
  (aC4.mp (h4 x x1 (Fg.mp q))).elim (λe=>bO4 x2 (e▸aL7 _)) λe=>bO4 (hs x e) (Nat.lt_asymm x2)
 exact⟨h1.jump hJ λx x1 x2 x3=>by rw[z x x1 x2 x3];exact aE9 _,h2.jump hJ z,λp hp=>hs p hp,λy y1 y2=>
  (aC4.mp (h4 y (aA0 hJ (aL6 y1)) y2)).elim (λe=>bO4 (e▸y1) (bB0 _)) id⟩
def C3.cont(h:C3 la lb alo blo bhi i ps t bi bj bk es)(hs:ps.Pairwise (· < ·))(hj:ps[t]?=some j)(hb:j<blo):C3 la lb alo blo bhi i ps (t+1) bi bj bk es:=by
 obtain⟨h1,h2,h3,h4⟩:=h.upto hs hj
 have z:A2 la lb alo blo i j=0:=aS9 λq=>bO4 (CZ.mp (Fg.mp q)).2.1 (bM8.mpr hb)
 exact⟨⟨j+1,h1.skip λ_=>z▸aE9 _,h2.jump (aI3 _) λx x1 x2 x3=>Nat.le_antisymm (aO6 x2) x1▸z,h3,h4⟩,aJ4 h.len⟩
def C3.keep(h:C3 la lb alo blo bhi i ps t bi bj bk es)(hs:ps.Pairwise (· < ·))(hj:ps[t]?=some j)(hb:j<bhi)(hr:0<A2 la lb alo blo i j)(hk:A2 la lb alo blo i j<=bk):C3 la lb alo blo bhi i ps (t+1) bi bj bk (dset es (.int (j:Int)) (.int (A2 la lb alo blo i j:Int))):=by
 obtain⟨h1,h2,h3,h4⟩:=h.upto hs hj
 exact⟨⟨j+1,h1.skip λ_=>hk,h2.take hb hr,h3,h4⟩,aA0 Hr (aJ2 h.len)⟩
def C3.better(h:C3 la lb alo blo bhi i ps t bi bj bk es)(hs:ps.Pairwise (· < ·))(hj:ps[t]?=some j)(hb:j<bhi)(hk:bk<A2 la lb alo blo i j){ci cj:Nat}(hi:ci+A2 la lb alo blo i j=i+1)(hjj:cj+A2 la lb alo blo i j=j+1) :
  C3 la lb alo blo bhi i ps (t+1) ci cj (A2 la lb alo blo i j) (dset es (.int (j:Int)) (.int (A2 la lb alo blo i j:Int))):=by
 obtain⟨h1,h2,h3,h4⟩:=h.upto hs hj
 exact⟨⟨j+1,h1.take hb hk hi hjj,h2.take hb (Nat.zero_lt_of_lt hk),h3,h4⟩,aA0 Hr (aJ2 h.len)⟩
end
def Nq{α:Type} [DecidableEq α] {la lb:List α} {alo blo i j:Nat}:A2 la lb alo blo i j<=i+1/\A2 la lb alo blo i j<=j+1:=by
 by_cases h:A2 la lb alo blo i j=0
 ·exists 3,0x182a00181a00608028,h
 ·have:=GT (la:=la) (lb:=lb) (alo:=alo) (blo:=blo) i j _ (aB6 _) (A2 la lb alo blo i j-1) (by exists 1,0x180b1080298,h)
  exists 3,0x182a00181a0062180b081180b08,this.1,this.2.1
def UW{la lb:List AD}{alo ahi blo bhi i j k:Nat}{x:AD}(h:ħ la lb alo ahi blo bhi i j k)(hi:alo<i)(hj:blo<j)(hx:la[i-1]?=some x)(hy:lb[j-1]?=some x):False:=by
 obtain⟨s1,s2,s3,s4,s5⟩:=h.str
 have:=h.max (i-1) (j-1) (k+1) ⟨by(exists 2,0x181b001018,hi),by(exists 2,0x181b001018,hj),by(exists 4,0x3182a181ba0321a081018,hi,s3),by(exists 4,0x3182a181ba0321a081018,hj,s4),λd hd=>?_⟩
 ·exact bO4 this (bB0 k)
 ·cases d with
  | zero=>exact⟨x,hx,hy⟩
  | succ d=>
   obtain⟨z,ī,z2⟩:=s5 d (Nat.lt_of_succ_lt_succ hd)
   exact⟨z,by rw[<-ī];congr 1;(exists 3,0x21a182a181ba21018,hi),by rw[<-z2];congr 1;exists 3,0x21a182a181ba21018,hj⟩
def i8{la lb:List AD}{alo ahi blo bhi i j k:Nat}{x:AD}(h:ħ la lb alo ahi blo bhi i j k)(hi:i+k<ahi)(hj:j+k<bhi)(hx:la[i+k]?=some x)(hy:lb[j+k]?=some x):False:=by
 obtain⟨s1,s2,s3,s4,s5⟩:=h.str
 refine bO4 (h.max i j (k+1) ⟨s1,s2,hi,hj,λd hd=>?_⟩) (bB0 k)
 by_cases e:d=k
 ·exact e▸⟨x,hx,hy⟩
 ·exact s5 d (Nat.lt_iff_le_and_ne.mpr ⟨aO6 hd,e⟩)
def Gp{p:Prop} [Decidable p] {A B:Prop} (a:p->A) (b:¬ p->B):BX (decide p) A B:=
 if h:p then(bO5 h).symm▸a h else(bO6 h).symm▸b h
def big{n:Nat}(h:n<=100000):AF n:=aA0 h (by decide)
def Qq{n:Nat}(h:n<=100000):C1 (n:Int):=⟨aQ2 (by decide) (aH4 n),aW7 (aJ7.mpr h) (by decide)⟩
def YY{l:List AD}{i:Nat}{x:AD}(h:l[i]?=some x):Dq (ű l) (i:Int)=some (.key x):=by
 have hl:=(aA4.mp h).1
 have e:seqIndex? (i:Int) (ű l).length=some i:=by
  unfold seqIndex?
  rw[bO3 (aS7.mpr (aH4 i)),GI,bO2 (aG5.mpr ⟨bO5 (aH4 i),bO5 (aC8.mpr hl)⟩)];rfl
 unfold Dq
 rw[e]
 exact(aB3 ..).trans (bO1 (aD4 AV.key) h)
def GA{A:AV}{l:List AD}(S:IJ A l){k:Int}{n:Nat}{y:AD}{σ:St}{X:AV->St->Prop}(hk:k=(n:Int))(h:l[n]?=some y)(hl:l.length<=100000)(x:X (.key y) σ):FY A (.int k) σ X:=by
 subst hk
 exact(S.itm _ _ _).mpr ⟨Qq (aA0 (aD8 (aA4.mp h).1) hl),_,YY h,x⟩
def Ī{y:AD}{P:AD->Prop}(h:P y):Ap (B7 (.key y)) P:=h
def Cr{l m:List (Str×AV)}{x:Str}{v:AV}(h:l.lookup x=some v):(l++m).lookup x=some v:=by
 rw[List.lookup_append,h];rfl
def EQ{test:St->(Bool->St->Prop)->Prop}{body els:St->ŏ->Prop}{σ:St}{Q:ŏ}(h :∀R:Bool->St->Prop,R false σ->test σ R)(fin:els σ Q):HB test body els σ Q:=
 ⟨λ_ τ=>τ=σ,0,⟨σ,.refl σ,rfl⟩,λm τ e=>by subst e;exact h _ fin⟩
def KR{x y:AD}{σ:St}{R:Bool->St->Prop}(h1:x=y->R true σ)(h2:R false σ):GJ .Eq (.key x) (.key y) σ λr σ=>Ce r σ λb σ=>BX b (R true σ) (R false σ):=by
 show BX (decide (x=y)) (R true σ) (R false σ)
 exact Gp h1 λ_=>h2
def U1{P:Pm}{ds:List (AD×AV)}{x:AD}{d:AV}{σ:St}{Q:AV->St->Prop}:Do P (.fn .get) [.dct ds,.key x,d] σ Q=Q ((ds.lookup x).getD d) σ:=rfl
def aJ{l:List AD}{n:Nat}(h:n<l.length) :∃x,l[n]?=some x:=⟨_,aA5 h⟩
def Be:Ġ:=λas os Q=>∃(la lb:List AD) (a b mb op fb:AV) (ds:List (AD×AV)) (alo ahi blo bhi:Nat),as=[.ref 0,.int (alo:Int),.int (ahi:Int),.int (blo:Int),.int (bhi:Int)]/\os=[(Ş,BQ a b mb op fb (.dct ds))]/\((IJ a la/\IJ b lb)/\Bp a b mb op fb (.dct ds)/\ĺ lb ds)/\(la.length<=100000/\lb.length<=100000)/\
 (alo<=ahi/\ahi<=la.length)/\(blo<=bhi/\bhi<=lb.length)/\∀(i j k:Nat),ħ la lb alo ahi blo bhi i j k->Q (.mat [.int (i:Int),.int (j:Int),.int (k:Int)]) [(Ş,BQ a b mb op fb (.dct ds))]
section
variable{w:aC7}{a b:AV}{la lb:List AD}{mb op fb:AV}{ds es es2:List (AD×AV)}{alo ahi blo bhi bi bj bk i j r:Int}{K:ŏ}{u:AV}
def QI{g:Nat->Option AV}(S:Bp a b mb op fb (.dct ds)):(b7 a b mb op fb ds).sub g=some (b7 a b mb op fb ds):=UT (bO1 (aD4 (Ÿ.inst Ş)) S.shut)
def XM(S:Bp a b mb op fb (.dct ds)):Aa (dU a b mb op fb ds alo ahi blo bhi) (IC a b mb op fb ds alo ahi blo bhi alo blo 0 []):=
 .re [0] [(1,.dct [])] rfl rfl rfl rfl (BA rfl rfl rfl rfl CP) (Ai rfl rfl (Ai rfl rfl (Ai rfl rfl (Ai rfl rfl (Ai rfl rfl (Ai rfl (AK _ _ S.a) (Ai rfl (AK _ _ S.b) (Ai rfl (AK _ _ S.b2j) (Ai rfl rfl (Ai rfl rfl (Ai rfl rfl (Ai rfl rfl (Ai rfl rfl (Ai rfl rfl BZ)))))))))))))) (Fe rfl rfl (QI S) BY)
def Yh(S:Bp a b mb op fb (.dct ds))(h:AW nn es2=some es2):Aa (Kz a b mb op fb ds alo ahi blo bhi bi bj bk es es2 i (.ref 1) []) (IC a b mb op fb ds alo ahi blo bhi bi bj bk es2):=
 .re [0] [(1,.dct es2)] rfl rfl rfl rfl (BA rfl rfl rfl (bO1 (aD4 AV.dct) h) CP) (Ai rfl rfl (Ai rfl rfl (Ai rfl rfl (Ai rfl rfl (Ai rfl rfl (Ai rfl (AK _ _ S.a) (Ai rfl (AK _ _ S.b) (Ai rfl (AK _ _ S.b2j) (Ai rfl rfl (Ai rfl rfl (Ai rfl rfl (Ai rfl rfl (Ai rfl rfl (Ai rfl rfl BZ)))))))))))))) (Fe rfl rfl (QI S) BY)
def Js{tl:List (Str×AV)}:Aa (Kz a b mb op fb ds alo ahi blo bhi bi bj bk es es2 i u tl) (Kz a b mb op fb ds alo ahi blo bhi bi bj bk es es2 i u []):=
 .less (ρ:=(Kz a b mb op fb ds alo ahi blo bhi bi bj bk es es2 i u []).ρ++tl) (λx v e=>Cr e) λ_ _=>id
end
section
variable{w:aC7}{a b:AV}{la lb:List AD}{mb op fb:AV}{ds es es2:List (AD×AV)}{alo ahi blo bhi bi bj bk i:Nat}{K:ŏ}{x:AD}
def ÿ(a b:AV)(la lb:List AD)(mb op fb:AV)(ds:List (AD×AV))(alo ahi blo bhi i:Nat)(σ:St):Prop:=∃bi bj bk es,DP la lb alo blo bhi i 0 bi bj bk/\PJ la lb alo blo bhi i es/\σ=IC a b mb op fb ds alo ahi blo bhi bi bj bk es
def Ĺ(a b:AV)(la lb:List AD)(mb op fb:AV)(ds:List (AD×AV))(alo ahi blo bhi:Nat)(es:List (AD×AV))(i:Nat)(ps:List Nat)(t:Nat)(σ:St):Prop:=∃bi bj bk es2,C3 la lb alo blo bhi i ps t bi bj bk es2/\σ=Kz a b mb op fb ds alo ahi blo bhi bi bj bk es es2 i (.dct es) []
def Nb(S:Bp a b mb op fb (.dct ds))(h:Jk la lb alo blo bhi i bi bj bk es2):ø (CF w) (Dy w 29) (ö.2.drop 3) (turn (λσ=>∃τ,Aa σ τ/\ÿ a b la lb mb op fb ds alo ahi blo bhi (i+1) τ) K) .next (Kz a b mb op fb ds alo ahi blo bhi bi bj bk es es2 i (.dct es) []):=
 i6.mpr ⟨_,Yh S h.2.1,bi,bj,bk,es2,h.1,h.2,rfl⟩
def PG{t:Nat}{v:AV}(h:(Bv lb lb.length x)[t]?=some v) :∃j:Nat,(CY lb lb.length x)[t]?=some j/\v = .int (j:Int):=by
 obtain⟨z,h1,h2⟩:=aT0.mp ((aB3 ..).symm.trans h)
 obtain⟨j,h3,h4⟩:=aT0.mp ((aB3 ..).symm.trans h1)
 exact⟨j,h3,by rw[<-h2,<-h4]⟩
def Un{t:Nat}{v:AV}{σ:St}(S:Bp a b mb op fb (.dct ds))(hl:lb.length<=100000)(hp:PJ la lb alo blo bhi i es)(ha:alo<=i)(hk:la[i]?=some x)(hv:(Bv lb lb.length x)[t]?=some v)(hI:Ĺ a b la lb mb op fb ds alo ahi blo bhi es i (CY lb lb.length x) t σ) :
  nE w v σ (turn (λσ=>∃τ,Aa σ τ/\Ĺ a b la lb mb op fb ds alo ahi blo bhi es i (CY lb lb.length x) (t+1) τ) (ø (CF w) (Dy w 29) (ö.2.drop 3) (turn (λσ=>∃τ,Aa σ τ/\ÿ a b la lb mb op fb ds alo ahi blo bhi (i+1) τ) K))):=by
 obtain⟨bi,bj,bk,es2,hI,rfl⟩:=hI
 obtain⟨j,hj,rfl⟩:=PG hv
 have hs:=Iz lb lb.length x
 have hjb:=Im.mp (aD3 hj)
 have htl:t<lb.length:=aC0 (aA4.mp hv).1 Io
 rw[Zj]
 refine Gp (λc=>⟨_,Js,bi,bj,bk,es2,hI.cont hs hj (aC8.mp c),rfl⟩) λc1=>Gp (λc=>⟨_,Js,Nb S (hI.brk hs hj (aJ7.mp c))⟩) λĳ=>?_
 have h1:blo<=j:=aJ7.mp (aS7.mp c1)
 have h2:j<bhi:=aC8.mp (bI8.mp ĳ)
 have hh:Dr la lb alo blo i j=true:=CZ.mpr ⟨ha,h1,x,hk,hjb⟩
 have hr:=Fg.mpr hh
 have hrb:=Nq (la:=la) (lb:=lb) (alo:=alo) (blo:=blo) (i:=i) (j:=j)
 rw[hp.2 j h2 hh]
 show B8 (ws (CF w) GS 27).A n8 (.int ((A2 la lb alo blo i j:Int)-1+1)) _ _
 rw[Int.sub_add_cancel]
 refine dR.mpr ⟨aA0 hI.len (big (aA0 (aD8 htl) hl)),Gp (λc3=>⟨rfl,_,Js,i+1-A2 la lb alo blo i j,j+1-A2 la lb alo blo i j,A2 la lb alo blo i j,_,hI.better hs hj h2 (aC8.mp c3) (Nat.sub_add_cancel hrb.1) (Nat.sub_add_cancel hrb.2),?_⟩) λc3=>⟨_,Js,bi,bj,bk,_,hI.keep hs hj h2 hr (aJ7.mp (aS7.mp c3)),rfl⟩⟩
 rw[show(i:Int)-(A2 la lb alo blo i j:Int)+1=((i+1-A2 la lb alo blo i j:Nat):Int)by(exists 2,0x181ab0f1800f10fba5181a008,hrb.1),show(j:Int)-(A2 la lb alo blo i j:Int)+1=((j+1-A2 la lb alo blo i j:Nat):Int)by exists 2,0x181ab0f1800f10fba5181a008,hrb.2]
def SI{σ:St}(A:IJ a la)(S:Bp a b mb op fb (.dct ds))(hB:ĺ lb ds)(hla:la.length<=100000)(hl:lb.length<=100000)(ha:alo<=i)(hi:i<la.length)(hI:ÿ a b la lb mb op fb ds alo ahi blo bhi i σ) :
  nY w (.int (i:Int)) σ (turn (λσ=>∃τ,Aa σ τ/\ÿ a b la lb mb op fb ds alo ahi blo bhi (i+1) τ) K):=by
 obtain⟨bi,bj,bk,es,hb,hp,rfl⟩:=hI
 obtain⟨x,hx⟩:=aJ hi
 rw[iW]
 refine GA A rfl hx hla ?_
 rw[U1,hB.2 x]
 refine⟨Aq _,Ĺ a b la lb mb op fb ds alo ahi blo bhi es i (CY lb lb.length x),⟨_,.refl _,bi,bj,bk,[],C3.start hx hb,rfl⟩,λt σ v hv hI=>Un S hl hp ha hx hv hI,λσ hI=>?_⟩
 obtain⟨ci,cj,ck,es2,hI,rfl⟩:=hI
 rw[show(Bv lb lb.length x).length=(CY lb lb.length x).length from(aA6 ..).trans (aA6 ..)]at hI
 rw[G2]
 exact Nb S hI.fin
def X6{Q:AV->List Ob->Prop}(A:IJ a la)(B:IJ b lb)(S:Bp a b mb op fb (.dct ds))(hla:la.length<=100000)(hl:lb.length<=100000)(hL:ħ la lb alo ahi blo bhi bi bj bk)(h2:ahi<=la.length)(h4:bhi<=lb.length)
  (hq:Q (.mat [.int (bi:Int),.int (bj:Int),.int (bk:Int)]) [(Ş,BQ a b mb op fb (.dct ds))]):wL (CF w) (Dy w 30) (Gb.drop 8) (IC a b mb op fb ds alo ahi blo bhi bi bj bk es) (AN 1 Q):=by
 obtain⟨s1,s2,s3,s4,s5⟩:=hL.str
 have sa:=aA0 s3 h2
 have sb:=aA0 s4 h4
 have bk1 :∀{a:Nat},(alo:Int)<(a:Int)->a+bk<=la.length->∃y,a=(a-1)+1/\(a:Int)-1=((a-1:Nat):Int)/\la[a-1]?=some y:=λ{a} c e=>by
  have:=aC8.mp c
  obtain⟨y,hy⟩:=aJ (l:=la) (n:=a-1) (by exists 4,0x3181b1321a0810f00f48,c,e)
  exact⟨y,by(exists 2,0x18181ba1210f00f48,c),by(exists 2,0x181b0f1810fb510f00f48,c),hy⟩
 have bk2 :∀{b:Nat},(blo:Int)<(b:Int)->b+bk<=lb.length->∃y,(b:Int)-1=((b-1:Nat):Int)/\lb[b-1]?=some y:=λ{b} c e=>by
  have:=aC8.mp c
  obtain⟨y,hy⟩:=aJ (l:=lb) (n:=b-1) (by exists 4,0x3181b1321a0810f00f48,c,e)
  exact⟨y,by(exists 2,0x181b0f1810fb510f00f48,c),hy⟩
 have on2:(bj:Int)+(bk:Int)<(bhi:Int)->∃y,lb[bj+bk]?=some y:=λc=>aJ (aC0 (aC8.mp c) h4)
 rw[Mm.1.1]
 refine EQ (λR hR=>qA.mpr (Gp (λc1=>Gp (λĳ=>?_) λ_=>hR) λ_=>hR)) ?_
 ·obtain⟨x,e0,e1,hx⟩:=bk1 c1 sa
  obtain⟨y,e2,hy⟩:=bk2 ĳ sb
  exact GA B e2 hy hl (Ī (GA A e1 hx hla (GA B e2 hy hl (KR (λe=>(UW hL (aC8.mp c1) (aC8.mp ĳ) hx (e▸hy)).elim) hR))))
 rw[G2]
 rw[Mm.1.2]
 refine EQ (λR hR=>mC.mpr (Gp (λc1=>Gp (λĳ=>?_) λ_=>hR) λ_=>hR)) ?_
 ·obtain⟨x,hx⟩:=aJ (aC0 (aC8.mp c1) h2)
  obtain⟨y,hy⟩:=on2 ĳ
  exact GA B rfl hy hl (Ī (GA A rfl hx hla (GA B rfl hy hl (KR (λe=>(i8 hL (aC8.mp c1) (aC8.mp ĳ) hx (e▸hy)).elim) hR))))
 rw[G2]
 rw[Mm.2.1]
 refine EQ (λR hR=>dH.mpr (Gp (λc1=>Gp (λĳ=>?_) λ_=>hR) λ_=>hR)) ?_
 ·obtain⟨y,e2,hy⟩:=bk2 ĳ sb
  exact GA B e2 hy hl (Ī hR)
 rw[G2]
 rw[Mm.2.2]
 refine EQ (λR hR=>hU.mpr (Gp (λc1=>Gp (λĳ=>?_) λ_=>hR) λ_=>hR)) ?_
 ·obtain⟨y,hy⟩:=on2 ĳ
  exact GA B rfl hy hl (Ī hR)
 rw[G2]
 rw[fY]
 exact⟨⟨rfl,rfl,rfl⟩,Cb (fl:=.ret _) rfl (.refl _) rfl rfl S.shut hq⟩
end
def U5(P:aD6)(a b c d e:Value):(kb (C9 P 196) [a,b,c,d,e]).1 (some ((Fb P 189).getD #[]))=pure ([(("self":Str),a),(("alo":Str),b),(("ahi":Str),c),(("blo":Str),d),(("bhi":Str),e)]):=by rfl'
def pO{w:aC7}{d:Nat}:NX (Ű w) (ë w.params) (CF w) (d+2) Ĉ OX aM ME aI:=Ur (λ_ _ e=>nomatch e) (λ_=>Yw) (λe=>nomatch e) (λ_ e=>nomatch e)
def WW{w:aC7}{d:Nat}:BG (Ű w) (ë w.params) (d+4) (.ref 196) Be:=
 tQ pO (Q3 _).2.2 (Q3 _).1 (Q3 _).2.1 (ps:=["self","alo","ahi","blo","bhi"]) (by decide) (by rfl') (aQ (T:=189) (by rfl') (by rfl') (U5 _)) λas os Q hh=>by
  obtain⟨la,lb,a,b,mb,op,fb,ds,alo,ahi,blo,bhi,ea,eo,⟨⟨A,B⟩,S,hB⟩,⟨hla,hl⟩,⟨h1,h2⟩,⟨h3,h4⟩,hq⟩:=hh
  subst ea;subst eo
  have en:(Ad (alo:Int) ((ahi:Int)-(alo:Int)).toNat).length=ahi-alo:=(AU _ _).trans (by exists 3,0x21b020820f10fbe00f58,(aD1 _))
  refine⟨⟨rfl,Bs S.shut⟩,qG.mpr ((HJ S.ha).mpr ((HJ S.hb).mpr ⟨rfl,rfl,⟨by(exists 1,0xf0f424091f3),by(exists 3,0xf4240910f3020821080186a09008,hla,h1,h2),by(exists 1,0xf0f424091f3),by exists 2,0xf4240910f301080186a09008,hla,h2⟩,λt σ=>ÿ a b la lb mb op fb ds alo ahi blo bhi (alo+t) σ,⟨_,XM S,alo,blo,0,[],DP.start,PJ.nil,rfl⟩,λt σ v hv hI=>?_,λσ hI=>?_⟩))⟩
  ·have ht:=(aA4.mp hv).1
   rw[en]at ht
   have hi:alo+t<la.length:=by exists 4,0x123a130b2181008,h2,ht
   have e:some v=some (.int ((alo+t:Nat):Int)):=hv.symm.trans (BM (by exists 4,0x3010820f10fbe30f5821b018,ht,(aD1 _)))
   cases aA2 e
   exact SI A S hB hla hl (aD0 _ _) hi hI
  ·rw[en,bB8 h1]at hI
   obtain⟨bi,bj,bk,es,hb,hp,rfl⟩:=hI
   rw[G2]
   exact X6 A B S hla hl (hb.done h1 h3) h2 h4 (hq bi bj bk (hb.done h1 h3))
def G0(s:aF3):Expr:=(Qg s).2.1
def C8:List aF3:=(C2 LA "get_matching_blocks").1
def Gi:Scope:=(C2 LA "get_matching_blocks").2
def Pq(P:aD6):(C9 P 203).body = .stmts C8/\(C9 P 203).scope=Gi/\BL P 203=true:=⟨by rfl',by rfl',by rfl'⟩
noncomputable def bG:Pos->Bool:=λp=>aE0 p.line 368
abbrev BC(w:aC7)(tr:Ġ):Pm:=Sq w.params (YH 196 tr) none false true OM bG
abbrev B5(w:aC7)(tr:Ġ)(f:Nat):ì:=ER (BC w tr) Gi f
abbrev Lk(w:aC7)(tr:Ġ)(f:Nat):ř:=(ws (BC w tr) Gi f).A
def N2:Expr×List aF3:=gC (C8.getD 5 (.Pass AP))
def uI:List Expr:=CO (N2.2.getD 0 (.Pass AP))
def tR:List Expr:=CO (N2.2.getD 1 (.Pass AP))
def bk:List aF3:=Ar (N2.2.getD 2 (.Pass AP))
def fN:Expr×List aF3:=EY (C8.getD 9 (.Pass AP))
def uG:aF3:=C8.getD 7 (.Pass AP)
def i9:Expr:=G0 (C8.getD 12 (.Pass AP))
def tS:List Expr:=CO (C8.getD 12 (.Pass AP))
def rA(w:aC7)(tr:Ġ):AV->St->ŏ->Prop:=λv σ K=>Lk w tr 29 fN.1 v σ λσ=>wL (BC w tr) (B5 w tr 29) fN.2 σ K
abbrev gA(a b:AV)(mb op fb:AV)(ds:List (AD×AV)):Ÿ:=.inst Ş (BQ a b mb op fb (.dct ds))
abbrev F5(a b:AV)(mb op fb:AV)(ds:List (AD×AV))(n m:Int)(qs ms:List AV)(tl:List (Str×AV)):St:=⟨("self",.ref 0)::("lb",.int m)::("la",.int n)::("queue",.ref 1)::("matching_blocks",.ref 2)::tl,[(0,gA a b mb op fb ds),(1,.list qs),(2,.list ms)],3,1⟩
abbrev uC(alo ahi blo bhi:Int):List (Str×AV):=[("alo",.int alo),("ahi",.int ahi),("blo",.int blo),("bhi",.int bhi)]
abbrev M9(alo ahi blo bhi i j k:Int):List (Str×AV):=[("alo",.int alo),("ahi",.int ahi),("blo",.int blo),("bhi",.int bhi),("i",.int i),("j",.int j),("k",.int k),("x",.mat [.int i,.int j,.int k])]
abbrev t7(a b:AV)(mb op fb:AV)(ds:List (AD×AV))(n m:Int)(ms:List AV):St:=⟨[("self",.ref 0),("lb",.int m),("la",.int n),("matching_blocks",.lst ms)],[(0,gA a b mb op fb ds)],1,1⟩
abbrev GO(a b:AV)(mb op fb:AV)(ds:List (AD×AV))(n m:Int)(ms:List AV)(i j k:Int)(na:List AV)(tl:List (Str×AV)):St:=⟨("self",.ref 0)::("lb",.int m)::("la",.int n)::("matching_blocks",.lst ms)::("i1",.int i)::("j1",.int j)::("k1",.int k)::("non_adjacent",.ref 1)::tl,[(0,gA a b mb op fb ds),(1,.list na)],2,1⟩
abbrev Q4(i j k:Int):AV:=.tup [.int i,.int j,.int k]
abbrev L7(i j k:Int):AV:=.mat [.int i,.int j,.int k]
abbrev RI(a b c d:Int):AV:=.tup [.int a,.int b,.int c,.int d]
section
variable{w:aC7}{tr:Ġ}{a b:AV}{mb op fb:AV}{ds:List (AD×AV)}{alo ahi blo bhi i j k n m i1 j1 k1:Int}{qs ms na out:List AV}{K:ŏ}{Q:AV->List Ob->Prop}{R:Bool->St->Prop}{σ:St}
def kN:Ū (BC w tr) Gi C8 ((["self"]:List Str).zip [.ref 0]) [(Ş,BQ a b .none op fb (.dct ds))] Q =
  D1 (BK a) (EU œ .len [a] (A6 [("self",.ref 0)] [(Ş,BQ a b .none op fb (.dct ds))]) λu σ=>D1 (BK b) (EU œ .len [b] σ λv σ=>2=2/\wL (BC w tr) (B5 w tr 30) (C8.drop 3) ⟨[("self",.ref 0),("lb",v),("la",u)],[(0,gA a b .none op fb ds)],1,1⟩ (AN 1 Q))):=by rfl'
def g8:wL (BC w tr) (B5 w tr 30) (C8.drop 3) ⟨[("self",.ref 0),("lb",.int m),("la",.int n)],[(0,gA a b .none op fb ds)],1,1⟩ K =
  HB ((ws (BC w tr) Gi 29).B N2.1) (wL (BC w tr) (B5 w tr 29) N2.2) (wL (BC w tr) (B5 w tr 29) []) (F5 a b .none op fb ds n m [RI 0 n 0 m] [] []) (ø (BC w tr) (B5 w tr 30) (C8.drop 6) K):=by rfl'
def Zo:Ū (BC w tr) Gi C8 (((["self"]:List Str).zip [.ref 0])) [(Ş,BQ a b (.lst out) op fb (.dct ds))] Q=AN 1 Q (.ret (.lst out)) (A6 [("self",.ref 0)] [(Ş,BQ a b (.lst out) op fb (.dct ds))]):=by rfl'
def fS:(ws (BC w tr) Gi 29).B N2.1 (F5 a b mb op fb ds n m qs ms []) R=(AF qs.length/\R (!qs.isEmpty) (F5 a b mb op fb ds n m qs ms [])):=by rfl'
def cM:wL (BC w tr) (B5 w tr 29) N2.2 (F5 a b mb op fb ds n m qs ms []) K=(AF qs.length/\∃v,qs.getLast?=some v/\B8 (Lk w tr 28) uI v (F5 a b mb op fb ds n m qs.dropLast ms []) λσ=>wL (BC w tr) (B5 w tr 29) (N2.2.drop 1) σ K):=by rfl'
def cJ:(B8 (Lk w tr 28) uI (RI alo ahi blo bhi) (F5 a b mb op fb ds n m qs ms []) λσ=>wL (BC w tr) (B5 w tr 29) (N2.2.drop 1) σ K) =
  (4=4/\BO tr [.ref 0,.int alo,.int ahi,.int blo,.int bhi] (F5 a b mb op fb ds n m qs ms (uC alo ahi blo bhi)) λr σ=>B8 (Lk w tr 28) tR r σ λσ=>wL (BC w tr) (B5 w tr 29) (N2.2.drop 2) σ K):=by rfl'
def eH:(B8 (Lk w tr 28) tR (L7 i j k) (F5 a b mb op fb ds n m qs ms (uC alo ahi blo bhi)) λσ=>wL (BC w tr) (B5 w tr 29) (N2.2.drop 2) σ K) =
  (3=3/\BX (k != 0) (AF ms.length/\BX (decide (alo<i)) (BX (decide (blo<j)) (AF qs.length/\wL (BC w tr) (B5 w tr 28) (bk.drop 2) (F5 a b mb op fb ds n m (qs++[RI alo i blo j]) (ms++[L7 i j k]) (M9 alo ahi blo bhi i j k)) (ø (BC w tr) (B5 w tr 29) [] K))
   (wL (BC w tr) (B5 w tr 28) (bk.drop 2) (F5 a b mb op fb ds n m qs (ms++[L7 i j k]) (M9 alo ahi blo bhi i j k)) (ø (BC w tr) (B5 w tr 29) [] K))) (wL (BC w tr) (B5 w tr 28) (bk.drop 2) (F5 a b mb op fb ds n m qs (ms++[L7 i j k]) (M9 alo ahi blo bhi i j k)) (ø (BC w tr) (B5 w tr 29) [] K)))
   (K .next (F5 a b mb op fb ds n m qs ms (M9 alo ahi blo bhi i j k)))):=by rfl'
def dW:wL (BC w tr) (B5 w tr 28) (bk.drop 2) (F5 a b mb op fb ds n m qs ms (M9 alo ahi blo bhi i j k)) K=BX (decide (i+k<ahi)) (BX (decide (j+k<bhi)) (AF qs.length/\K .next (F5 a b mb op fb ds n m (qs++[RI (i+k) ahi (j+k) bhi]) ms (M9 alo ahi blo bhi i j k)))
  (K .next (F5 a b mb op fb ds n m qs ms (M9 alo ahi blo bhi i j k)))) (K .next (F5 a b mb op fb ds n m qs ms (M9 alo ahi blo bhi i j k))):=by rfl'
def fG:wL (BC w tr) (B5 w tr 30) (C8.drop 6) (F5 a b mb op fb ds n m qs ms []) K=He [.ref 2] (F5 a b mb op fb ds n m qs ms []) λ_ σ=>wL (BC w tr) (B5 w tr 30) (C8.drop 7) σ K:=by rfl'
def dN:wL (BC w tr) (B5 w tr 30) (C8.drop 7) σ K =∃τ,Aa σ τ/\B5 w tr 30 uG τ (ø (BC w tr) (B5 w tr 30) (C8.drop 8) K):=by rfl'
def eW:B5 w tr 30 uG (t7 a b mb op fb ds n m ms) (ø (BC w tr) (B5 w tr 30) (C8.drop 8) K)=(AC nn ms=some ms/\EM ms (rA w tr) (wL (BC w tr) (B5 w tr 29) []) (GO a b mb op fb ds n m ms 0 0 0 [] []) (ø (BC w tr) (B5 w tr 30) (C8.drop 10) K)):=by rfl'
def dC:rA w tr (L7 i j k) (GO a b mb op fb ds n m ms i1 j1 k1 na []) K=(3=3/\BX (decide (AD.int (i1+k1)=AD.int i)) (BX (decide (AD.int (j1+k1)=AD.int j)) (K .next (GO a b mb op fb ds n m ms i1 j1 (k1+k) na [("i2",.int i),("j2",.int j),("k2",.int k)]))
  (BX (k1 != 0) (AF na.length/\3=3/\K .next (GO a b mb op fb ds n m ms i j k (na++[Q4 i1 j1 k1]) [("i2",.int i),("j2",.int j),("k2",.int k)])) (3=3/\K .next (GO a b mb op fb ds n m ms i j k na [("i2",.int i),("j2",.int j),("k2",.int k)]))))
  (BX (k1 != 0) (AF na.length/\3=3/\K .next (GO a b mb op fb ds n m ms i j k (na++[Q4 i1 j1 k1]) [("i2",.int i),("j2",.int j),("k2",.int k)])) (3=3/\K .next (GO a b mb op fb ds n m ms i j k na [("i2",.int i),("j2",.int j),("k2",.int k)])))):=by rfl'
def Zp:wL (BC w tr) (B5 w tr 30) (C8.drop 10) (GO a b mb op fb ds n m ms i1 j1 k1 na []) K=BX (k1 != 0) (AF na.length/\wL (BC w tr) (B5 w tr 30) (C8.drop 11) (GO a b mb op fb ds n m ms i1 j1 k1 (na++[Q4 i1 j1 k1]) []) K) (wL (BC w tr) (B5 w tr 30) (C8.drop 11) (GO a b mb op fb ds n m ms i1 j1 k1 na []) K):=by rfl'
def iD:wL (BC w tr) (B5 w tr 30) (C8.drop 11) (GO a b mb op fb ds n m ms i1 j1 k1 na []) K=(AF na.length/\bP (BC w tr) Gi (AY i9).1 (AY i9).2.1 (GO a b mb op fb ds n m ms i1 j1 k1 (na++[Q4 n m 0]) []) λv σ=>B8 (Lk w tr 29) tS v σ λσ=>wL (BC w tr) (B5 w tr 30) (C8.drop 13) σ K):=by rfl'
def gN:(B8 (Lk w tr 29) tS (.lst out) (GO a b mb op fb ds n m ms i1 j1 k1 na []) λσ=>wL (BC w tr) (B5 w tr 30) (C8.drop 13) σ K)=K (.ret (.lst out)) (GO a b (.lst out) op fb ds n m ms i1 j1 k1 na []):=by rfl'
end
end Mine
end
namespace Mine
section
variable{α:Type} [DecidableEq α]
abbrev B3:=Nat×Nat×Nat
inductive Dj(la lb:List α):Nat->Nat->Nat->Nat->List B3->Prop
 | zero {alo ahi blo bhi i j:Nat} (h:ħ la lb alo ahi blo bhi i j 0):Dj la lb alo ahi blo bhi []
 | step {alo ahi blo bhi i j k:Nat} {L R:List B3} (h:ħ la lb alo ahi blo bhi i j k) (hk:0<k) (l:Dj la lb alo i blo j L) (r:Dj la lb (i+k) ahi (j+k) bhi R):Dj la lb alo ahi blo bhi (L++(i,j,k)::R)
def SZ{la lb:List α}{alo ahi blo bhi:Nat}(ha:alo<=ahi)(hb:blo<=bhi)(h:¬ (alo<ahi/\blo<bhi)):ħ la lb alo ahi blo bhi alo blo 0:=
 ⟨⟨aB6 _,aB6 _,ha,hb,λd hd=>bO4 hd (by exists 1,0x8019)⟩,λi' j' k' ⟨h1,h2,h3,h4,_⟩=>by(exists 7,0x840621501698643a08541a0832081008,h1,h2,h3,h4,h),λh=>bO4 h (by exists 0,0x80819),λ_=>⟨rfl,rfl⟩⟩
def PP{la lb:List α}{alo ahi blo bhi:Nat}(ha:alo<=ahi)(hb:blo<=bhi)(h:¬ (alo<ahi/\blo<bhi)):Dj la lb alo ahi blo bhi []:=.zero (SZ ha hb h)
abbrev Jl:=Nat×Nat×Nat×Nat
def Ľ(la lb:List α):List Jl->List B3->Prop
 | [],B=>B=[]
 | (alo,ahi,blo,bhi)::q,B=>∃L B',Dj la lb alo ahi blo bhi L/\Ľ la lb q B'/\B=L++B'
def Hq(la lb:List α)(n m:Nat)(st:List Jl)(ms:List B3):Prop:=∀B,Ľ la lb st B->∃bs,Dj la lb 0 n 0 m bs/\bs.Perm (ms++B)
def Hq.start{la lb:List α}{n m:Nat}:Hq la lb n m [(0,n,0,m)] []:=by
 rintro B ⟨L,B',h1,h2,rfl⟩
 have h2:B'=[]:=h2
 subst h2
 exact⟨L,h1,by simp⟩
theorem Hq.zero{la lb:List α}{n m alo ahi blo bhi i j:Nat}{st:List Jl}{ms:List B3}(h:Hq la lb n m ((alo,ahi,blo,bhi)::st) ms)(hL:ħ la lb alo ahi blo bhi i j 0):Hq la lb n m st ms:=λB hB=>h B ⟨[],B,.zero hL,hB,rfl⟩
def Hq.fin{la lb:List α}{n m:Nat}{ms:List B3}(h:Hq la lb n m [] ms) :∃bs,Dj la lb 0 n 0 m bs/\bs.Perm ms:=by
 obtain⟨bs,h1,h2⟩:=h [] rfl
 exact⟨bs,h1,by simpa using h2⟩
noncomputable def psh(c:Bool)(w:Jl)(st:List Jl):List Jl:=if c then w::st else st
theorem Ľ.psh{la lb:List α}{c:Bool}{alo ahi blo bhi:Nat}{st:List Jl}{B:List B3}(ha:alo<=ahi)(hb:blo<=bhi)(hc:c=decide (alo<ahi/\blo<bhi))(h:Ľ la lb (psh c (alo,ahi,blo,bhi) st) B) :∃L B',Dj la lb alo ahi blo bhi L/\Ľ la lb st B'/\B=L++B':=by
 cases c with
 | true=>exact h
 | false=>exact⟨[],B,PP ha hb (of_decide_eq_false hc.symm),h,rfl⟩
theorem Hq.step{la lb:List α}{n m alo ahi blo bhi i j k:Nat}{st:List Jl}{ms:List B3}{c d:Bool}(h:Hq la lb n m ((alo,ahi,blo,bhi)::st) ms)(hL:ħ la lb alo ahi blo bhi i j k)(hk:0<k)(hc:c=decide (alo<i/\blo<j))(hd:d=decide (i+k<ahi/\j+k<bhi)) :
  Hq la lb n m (psh d (i+k,ahi,j+k,bhi) (psh c (alo,i,blo,j) st)) (ms++[(i,j,k)]):=by
 intro B hB
 obtain⟨s1,s2,s3,s4,s5⟩:=hL.str
 obtain⟨R,B1,r1,ś,rfl⟩:=Ľ.psh s3 s4 hd hB
 obtain⟨L,B2,l1,l2,rfl⟩:=Ľ.psh s1 s2 hc ś
 obtain⟨bs,b1,b2⟩:=h ((L++(i,j,k)::R)++B2) ⟨_,_,.step hL hk l1 r1,l2,rfl⟩
 refine⟨bs,b1,b2.trans ?_⟩
 rw[aC9 ms]
 refine aZ7 ms ?_
 rw[aC9]
 refine(aT9 L _ B2).trans ?_
 simp only[List.cons_append,List.nil_append]
 exact bK9.refl _
noncomputable def wt:List Jl->Nat
 | []=>0
 | (alo,ahi,_,_)::q=>2*(ahi-alo)+1+wt q
def P3(c:Bool)(alo ahi blo bhi:Nat)(st:List Jl):wt (psh c (alo,ahi,blo,bhi) st)<=2*(ahi-alo)+1+wt st:=by
 cases c
 ·show wt st<=_;exact id (ql [_,_,_] 0x1821b02caa00 (by rfl'))
 ·exact aB6 _
def U0{la lb:List α}{alo ahi blo bhi i j k:Nat}{st:List Jl}{c d:Bool}(hL:ħ la lb alo ahi blo bhi i j k)(hk:0<k):wt (psh d (i+k,ahi,j+k,bhi) (psh c (alo,i,blo,j) st))<wt ((alo,ahi,blo,bhi)::st):=by
 obtain⟨s1,s2,s3,s4,s5⟩:=hL.str
 have h1:=P3 d (i+k) ahi (j+k) bhi (psh c (alo,i,blo,j) st)
 have h2:=P3 c alo i blo j st
 show _<2*(ahi-alo)+1+wt st
 exact id (ql [_,_,_,_,_,_,_] 0x61813b02caa4161812b02caa50851802a3b02caa408302a08210800818 (by rfl') hk s1 s3 h1 h2)
def i7(n m:Nat)(st:List Jl):Prop:=∀x∈st,x.1<=x.2.1/\x.2.1<=n/\x.2.2.1<=x.2.2.2/\x.2.2.2<=m
theorem i7.psh{n m:Nat}{st:List Jl}{c:Bool}{x:Jl}(h:i7 n m st)(hx:x.1<=x.2.1/\x.2.1<=n/\x.2.2.1<=x.2.2.2/\x.2.2.2<=m):i7 n m (psh c x st):=by
 cases c
 ·exact h
 ·intro y hy
  rcases aC4.mp hy with rfl | hy
  ·exact hx
  ·exact h y hy
theorem Qw :∀st:List Jl,st.length<=wt st
 | []=>aB6 _
 | (a,b,c,d)::r=>by
  have:=Qw r
  show r.length+1<=2*(b-a)+1+wt r
  exact id (ql [_,_,_,_] 0x11832b02caa180a01008 (by rfl') this)
def Dj.within{la lb:List α}{alo ahi blo bhi:Nat}{bs:List B3}(h:Dj la lb alo ahi blo bhi bs) :∀b∈bs,alo<=b.1/\b.1+b.2.2<=ahi/\blo<=b.2.1/\b.2.1+b.2.2<=bhi/\0<b.2.2:=by
 induction h with
 | zero h=>intro b hb;cases hb
 | step h hk l r ihl ihr=>
  obtain⟨s1,s2,s3,s4,s5⟩:=h.str
  intro b hb
  rcases aB0.mp hb with hb | hb
  ·have:=ihl b hb;exists 10,0x7081473fa063f2f06276a06650670818373fa083f2f08076a086508413a08210a08,s3,s4,this.1,this.2.1,this.2.2.1,this.2.2.2.1,this.2.2.2.2
  ·rcases aC4.mp hb with rfl | hb
   ·exact⟨s1,s3,s2,s4,hk⟩
   ·have:=ihr b hb;exists 10,0x60813f62fa062f206765a065006608183f62fa082f43a08765a08541a0832081008,s1,s2,this.1,this.2.1,this.2.2.1,this.2.2.2.1,this.2.2.2.2
def Dj.sorted{la lb:List α}{alo ahi blo bhi:Nat}{bs:List B3}(h:Dj la lb alo ahi blo bhi bs):bs.Pairwise λa b=>a.1+a.2.2<=b.1/\a.2.1+a.2.2<=b.2.1:=by
 induction h with
 | zero h=>exact .nil
 | step h hk l r ihl ihr=>
  obtain⟨s1,s2,s3,s4,s5⟩:=h.str
  rw[List.pairwise_append]
  refine⟨ihl,aX2.mpr ⟨λb hb=>?_,ihr⟩,λa ha b hb=>?_⟩
  ·have:=r.within b hb
   exact⟨this.1,this.2.2.1⟩
  ·have h1:=l.within a ha
   rcases aC4.mp hb with rfl | hb
   ·exact⟨h1.2.1,h1.2.2.2.1⟩
   ·have h2:=r.within b hb;exists 8,0x713a0610a06754a08652a08413a08210a08,h1.2.1,h1.2.2.2.1,h2.1,h2.2.2.1
noncomputable def FC:B3->List B3->List B3
 | (i,j,k),[]=>if k=0 then []else [(i,j,k)]
 | (i,j,k),(i2,j2,k2)::r=>if i+k=i2/\j+k=j2 then FC (i,j,k+k2) r else if k=0 then FC (i2,j2,k2) r else(i,j,k)::FC (i2,j2,k2) r
end
end Mine
section
open PySem PySem.W PyProof.Rows
namespace Mine
def VU{k:Nat}{A B:Prop}(a:0<k->A)(b:k=0->B):BX ((k:Int) != 0) A B:=by
 by_cases h:k=0
 ·subst h;exact b rfl
 ·rw[show((k:Int) != 0)=true from bne_iff_ne.mpr λz=>h (bE0 z)];exact a (aG7 h)
def UJ{p q:Prop} [Decidable p] [Decidable q] {A B:Prop} (a:p/\q->A) (b:¬ (p/\q)->B):BX (decide p) (BX (decide q) A B) B:=Gp (λh=>Gp (λh'=>a ⟨h,h'⟩) λh'=>b λz=>h' z.2) λh=>b λz=>h z.1
noncomputable abbrev Ŕ(x:Nat):Int:=x
def II(b:B3):AV:=L7 (Ŕ b.1) (Ŕ b.2.1) (Ŕ b.2.2)
def dO(b:B3):AV:=Q4 (Ŕ b.1) (Ŕ b.2.1) (Ŕ b.2.2)
def Mv(x:Jl):AV:=RI (Ŕ x.1) (Ŕ x.2.1) (Ŕ x.2.2.1) (Ŕ x.2.2.2)
def aY(b:B3):List AV:=[.int (Ŕ b.1),.int (Ŕ b.2.1),.int (Ŕ b.2.2)]
def Df{α:Type}{f:α->AV}(h :∀b,(f b).sub nn=some (f b))(l:List α):AC nn (l.map f)=some (l.map f):=aB7 (motive:=λl=>AC nn (l.map f)=some (l.map f)) rfl (λa r ih=>AI (h a) ih) l
def Z1{α:Type}{g:AV->Option Int}{f:α->AV}{x:α->Int}(h :∀b,g (f b)=some (x b))(l:List α):Ib g (l.map f)=some (l.map x):=aB7 (motive:=λl=>Ib g (l.map f)=some (l.map x)) rfl (λa r ih=>by
 show(g (f a)).bind (λy=>(Ib g (r.map f)).map (y :: ·))=_
 rw[h,ih];rfl) l
def O8{α:Type}{x:α->Int}{as bs:List α}(h:as.Perm bs)(h1:(as.map x).Pairwise (· < ·))(h2:(bs.map x).Pairwise (· < ·)):as=bs:=
 bK9.eq_of_pairwise (le:=λa b=>x a<x b) (λa b _ _ p q=>bO4 (bC1 p q) (Int.lt_irrefl _)) (aM5.mp h1) (aM5.mp h2) h
def NS{α β:Type}{d:α}{e:β}(f:α->β)(ms:List α){p:List Nat}(hp:p.Perm (aC2 ms.length)):(p.map λi=>(ms.map f).getD i e)=(p.map λi=>ms.getD i d).map f:=by
 rw[aG4]
 refine aV6 λi hi=>?_
 have hi:=aP2.mp (hp.mem_iff.mp hi)
 show(ms.map f).getD i e=f (ms.getD i d)
 rw[aD2,aD2,aB3,aA5 hi];rfl
def Yb{α:Type}{g:AV->Option Int}{f:α->AV}{x:α->Int}(h :∀b,g (f b)=some (x b)){ms bs:List α}(hp:bs.Perm ms)(hs:(bs.map x).Pairwise (· < ·))(hl:bs.length<64)(d:α){K:List AV->Prop}(q:K (bs.map f)):Yl g (ms.map f) K:=by
 have hl2:(ms.map x).length=ms.length:=aA6 ..
 refine⟨ms.map x,Z1 h ms,⟨hl2▸hp.length_eq▸hl,(hp.map x).nodup_iff.mp (hs.imp λz=>Int.ne_of_lt z)⟩,λp h1 h2=>?_⟩
 rw[hl2]at h1
 rw[NS (d:=d) x ms h1]at h2
 have hpp:(p.map λi=>ms.getD i d).Perm ms:=by
  have z:=h1.map λi=>ms.getD i d
  rw[Hu]at z
  exact z
 rw[NS (d:=d) f ms h1,O8 (hpp.trans hp.symm) h2 hs]
 exact q
def Oq{α:Type} [DecidableEq α] {la lb:List α} {a b c d:Nat} {bs:List B3} (h:Dj la lb a b c d bs):(bs.map λb=>Ŕ b.1).Pairwise (· < ·):=
 aM5.mpr (bE5.imp_of_mem (λ{a b} ha _ z=>aC8.mpr (aC0 (aJ3 (h.within a ha).2.2.2.2) z.1)) h.sorted)
def Wx{w:aC7}{tr:Ġ}{a b:AV}{mb op fb:AV}{ds:List (AD×AV)}{n m i j k:Int}{ms na:List AV}{Q:AV->St->Prop}{vss:List (List AV)}(e:na=vss.map .tup)(ht:HZ vss)(hl:vss.length<=1000000)(q:Q (.lst (Ex vss)) (GO a b mb op fb ds n m ms i j k na [])) :
  bP (BC w tr) Gi (AY i9).1 (AY i9).2.1 (GO a b mb op fb ds n m ms i j k na []) Q:=by
 refine⟨"list",⟨380,31,380,35⟩,"map",⟨380,36,380,39⟩,"Match",⟨380,40,380,45⟩,⟨380,40,380,51⟩,"non_adjacent",⟨380,53,380,65⟩,⟨380,36,380,66⟩,⟨by rfl',by rfl'⟩,by rfl',⟨by rfl',by rfl',by rfl'⟩,⟨by rfl',by rfl',by rfl'⟩,?_⟩
 have h:(∃vss,B6 (GO a b mb op fb ds n m ms i j k na []) (.ref 1)=some (vss.map .tup)/\HZ vss/\vss.length<=1000000/\Q (.lst (Ex vss)) (GO a b mb op fb ds n m ms i j k na [])):=⟨vss,bO1 some e,ht,hl,q⟩
 exact(show(∃vss,B6 (GO a b mb op fb ds n m ms i j k na []) (.ref 1)=some (vss.map .tup)/\HZ vss/\vss.length<=1000000/\Q (.lst (Ex vss)) (GO a b mb op fb ds n m ms i j k na []))=Hl (BC w tr) Gi "non_adjacent" (GO a b mb op fb ds n m ms i j k na []) (λv σ=>∃vss,B6 σ v=some (vss.map .tup)/\HZ vss/\vss.length<=1000000/\Q (.lst (Ex vss)) σ)from by rfl').mp h
def FW(bs:List B3)(n m:Nat):List AV:=(FC (0,0,0) bs++[(n,m,0)]).map II
def I9(bs:List B3)(n m:Nat):(AV.lst (FW bs n m)).sub nn=some (.lst (FW bs n m)):=AL (Df (λ_=>rfl) _)
def Qm{c:Bool}{x:Jl}{st:List Jl}:((psh c x st).map Mv).reverse=(st.map Mv).reverse++bif c then [Mv x]else []:=by
 cases c with
 | true=>exact(bO1 List.reverse (aH8 ..)).trans (aQ7 ..)
 | false=>exact(aF9 _).symm
section
variable{w:aC7}{a b:AV}{la lb:List AD}{mb op fb:AV}{ds:List (AD×AV)}{n m:Int}{alo ahi blo bhi:Nat}{qs ms:List AV}{K:ŏ}
def RK{e f c d x y z:Int}:Aa (F5 a b mb op fb ds n m qs ms (M9 e f c d x y z)) (F5 a b mb op fb ds n m qs ms []):=
 .less (ρ:=(F5 a b mb op fb ds n m qs ms []).ρ++M9 e f c d x y z) (λx v e=>Cr e) λ_ _=>id
def Zm{a b c d:Int}:AC (Fk [0]) [.ref 0,.int a,.int b,.int c,.int d]=some [.ref 0,.int a,.int b,.int c,.int d]:=rfl
def ZP(AB:IJ a la/\IJ b lb)(S:Bp a b mb op fb (.dct ds))(hB:ĺ lb ds)(hla:la.length<=100000/\lb.length<=100000)(ha:alo<=ahi/\ahi<=la.length)(hb:blo<=bhi/\bhi<=lb.length)(hq:qs.length+2<=1000000)(hm:ms.length<=1000000)
  (h :∀i j k,ħ la lb alo ahi blo bhi i j k->(k=0->K .next (F5 a b mb op fb ds n m qs ms (M9 alo ahi blo bhi i j k)))/\(0<k->K .next (F5 a b mb op fb ds n m (qs++(bif decide (alo<i/\blo<j)then [Mv (alo,i,blo,j)]else [])++(bif decide (i+k<ahi/\j+k<bhi)then [Mv (i+k,ahi,j+k,bhi)]else [])) (ms++[II (i,j,k)]) (M9 alo ahi blo bhi i j k)))) :
  wL (BC w Be) (B5 w Be 29) N2.2 (F5 a b mb op fb ds n m (qs++[Mv (alo,ahi,blo,bhi)]) ms []) K:=by
 rw[cM]
 refine⟨aA0 (aB9 aB2) (aL6 hq),_,List.getLast?_concat,?_⟩
 rw[List.dropLast_concat]
 refine cJ.mpr ⟨rfl,Fi (D:=Ş) (at_:=BQ a b mb op fb (.dct ds)) S.shut rfl Zm ⟨la,lb,a,b,mb,op,fb,ds,alo,ahi,blo,bhi,rfl,rfl,⟨AB,S,hB⟩,hla,ha,hb,λi j k hL=>?_⟩⟩
 obtain⟨h0,h1⟩:=h i j k hL
 refine eH.mpr ⟨rfl,VU (λhk=>⟨hm,?_⟩) h0⟩
 have h1:=h1 hk
 have fin :∀q:List AV,q.length<=1000000->K .next (F5 a b mb op fb ds n m (q++(bif decide (i+k<ahi/\j+k<bhi)then [Mv (i+k,ahi,j+k,bhi)]else [])) (ms++[II (i,j,k)]) (M9 alo ahi blo bhi i j k))->wL (BC w Be) (B5 w Be 28) (bk.drop 2) (F5 a b mb op fb ds n m q (ms++[L7 i j k]) (M9 alo ahi blo bhi i j k)) (ø (BC w Be) (B5 w Be 29) [] K):=λq hq z=>by
  refine dW.mpr (UJ (λc=>⟨hq,?_⟩) λc=>?_)
  ·rw[bO5 (show i+k<ahi/\j+k<bhi from⟨aC8.mp c.1,aC8.mp c.2⟩)]at z
   exact z
  ·rw[bO6 (show ¬ (i+k<ahi/\j+k<bhi)from λz=>c ⟨aC8.mpr z.1,aC8.mpr z.2⟩)]at z
   exact(aF9 q)▸z
 refine UJ (λc=>⟨aL6 (aL6 hq),fin _ (aA0 (aB9 aB2) (aL6 hq)) ?_⟩) λc=>fin _ (aL6 (aL6 hq)) ?_
 ·rw[bO5 (show alo<i/\blo<j from⟨aC8.mp c.1,aC8.mp c.2⟩)]at h1
  exact h1
 ·rw[bO6 (show ¬ (alo<i/\blo<j)from λz=>c ⟨aC8.mpr z.1,aC8.mpr z.2⟩)]at h1
  exact(aF9 qs)▸h1
end
section
section
variable{w:aC7}{a b:AV}{la lb:List AD}{mb op fb:AV}{ds:List (AD×AV)}{K:ŏ}{Q:AV->List Ob->Prop}{n m:Nat}{bs ms:List B3}
def Lj{n m e f c:Int}{x y z:Int}{ms na:List AV}:Aa (GO a b mb op fb ds n m ms e f c na [("i2",.int x),("j2",.int y),("k2",.int z)]) (GO a b mb op fb ds n m ms e f c na []):=
 .less (ρ:=(GO a b mb op fb ds n m ms e f c na []).ρ++([("i2",.int x),("j2",.int y),("k2",.int z)]:List (Str×AV))) (λx v e=>Cr e) λ_ _=>id
def Ė(a b:AV)(mb op fb:AV)(ds:List (AD×AV))(n m:Nat)(bs:List B3)(t:Nat)(σ:St):Prop:=∃(i j k:Nat) (na:List B3),na++FC (i,j,k) (bs.drop t)=FC (0,0,0) bs/\na.length<=t/\σ=GO a b mb op fb ds (Ŕ n) (Ŕ m) (bs.map II) (Ŕ i) (Ŕ j) (Ŕ k) (na.map dO) []
def JY{α:Type}{f:α->AV}{na:List α}{t:Nat}(h:na.length<=t)(ht:t<=100):AF (na.map f).length:=aA0 (aB9 (aA6 ..)) (aA0 h (aA0 ht (by decide)))
def Ff{α:Type}{f:α->AV}{na:List α}{b:α}:na.map f++[f b]=(na++[b]).map f:=(aF1 (l₁:=na) (l₂:=[b]) (f:=f)).symm
def bV(l:List B3):l.map dO=(l.map aY).map .tup:=(aG4 (l:=l) (f:=aY) (g:=AV.tup)).symm
def eE(l:List B3):Ex (l.map aY)=l.map II:=aG4 (l:=l) (f:=aY) (g:=AV.mat)
def X0{t:Nat}{v:AV}{σ:St}(hl:bs.length<64)(hv:(bs.map II)[t]?=some v)(hI:Ė a b mb op fb ds n m bs t σ):rA w Be v σ (turn (λσ=>∃τ,Aa σ τ/\Ė a b mb op fb ds n m bs (t+1) τ) K):=by
 obtain⟨i,j,k,na,h1,h2,rfl⟩:=hI
 obtain⟨b,hb,rfl⟩:=aT0.mp ((aB3 ..).symm.trans hv)
 obtain⟨ht,hb⟩:=aA4.mp hb
 rw[aL2 ht,hb]at h1
 obtain⟨i2,j2,k2⟩:=b
 have hsz:na.length<=63:=aA0 h2 (aO6 (aC0 ht (aD8 hl)))
 have ne:¬ (AD.int (Ŕ i+Ŕ k)=AD.int (Ŕ i2)/\AD.int (Ŕ j+Ŕ k)=AD.int (Ŕ j2))->¬ (i+k=i2/\j+k=j2):=λc z=>c ⟨z.1▸rfl,z.2▸rfl⟩
 refine dC.mpr ⟨rfl,UJ (λc=>⟨_,Lj,i,j,k+k2,na,?_,aJ4 h2,rfl⟩) λc=>VU (λhk=>⟨JY hsz (by decide),rfl,_,Lj,i2,j2,k2,na++[(i,j,k)],?_,aA0 (aB9 aB2) (aJ2 h2),?_⟩) λhk=>⟨rfl,_,Lj,i2,j2,k2,na,?_,aJ4 h2,rfl⟩⟩
 ·have e:i+k=i2/\j+k=j2:=⟨bE0 (AD.int.inj c.1),bE0 (AD.int.inj c.2)⟩
  rw[FC,bO2 e]at h1
  exact h1
 ·rw[FC,bO3 (ne c),bO3 (aJ8 hk)]at h1
  rw[aC9]
  exact h1
 ·exact bO1 (λl=>GO a b mb op fb ds (Ŕ n) (Ŕ m) (bs.map II) (Ŕ i2) (Ŕ j2) (Ŕ k2) l []) (Ff (f:=dO) (b:=(i,j,k)))
 ·rw[FC,bO3 (ne c),bO2 hk]at h1
  exact h1
def iL{σ:St}(S:Bp a b mb op fb (.dct ds))(hl:bs.length<64)(hI:Ė a b mb op fb ds n m bs bs.length σ)(hq:Q (.lst (FW bs n m)) [(Ş,BQ a b (.lst (FW bs n m)) op fb (.dct ds))]):wL (BC w Be) (B5 w Be 30) (C8.drop 10) σ (AN 1 Q):=by
 obtain⟨i,j,k,na,h1,h2,rfl⟩:=hI
 rw[aS3]at h1
 have fin :∀na':List B3,na'=FC (0,0,0) bs->na'.length<=64->wL (BC w Be) (B5 w Be 30) (C8.drop 11) (GO a b mb op fb ds (Ŕ n) (Ŕ m) (bs.map II) (Ŕ i) (Ŕ j) (Ŕ k) (na'.map dO) []) (AN 1 Q):=λna' e hz=>by
  subst e
  have so:=I9 bs n m
  refine iD.mpr ⟨JY hz (by decide),Wx (vss:=(FC (0,0,0) bs++[(n,m,0)]).map aY) ((Ff (f:=dO) (b:=(n,m,0))).trans (bV _)) (λa vs e=>?_) (aA0 (aB9 ((aA6 ..).trans aB2)) (aA0 (aJ2 hz) (by decide))) (gN.mpr ?_)⟩
  ·obtain⟨b,_,rfl⟩:=aT0.mp ((aB3 ..).symm.trans e)
   exact⟨rfl,rfl⟩
  ·rw[eE (FC (0,0,0) bs++[(n,m,0)])]
   exact Cb (fl:=.ret _) (at_:=BQ a b (.lst (FW bs n m)) op fb (.dct ds)) rfl (.refl _) rfl so (Bp.shut ⟨S.ha,S.hb,S.a,S.b,so,S.op,S.fb,S.b2j⟩) hq
 have hz:na.length<=63:=aA0 h2 (aO6 hl)
 refine Zp.mpr (VU (λhk=>⟨JY hz (by decide),?_⟩) λhk=>?_)
 ·rw[FC,bO3 (aJ8 hk)]at h1
  have:=fin (na++[(i,j,k)]) h1 (aA0 (aB9 aB2) (aJ2 hz))
  rw[<-Ff]at this
  exact this
 ·rw[FC,bO2 hk,aF9]at h1
  exact fin na h1 (aJ4 hz)
def iA(S:Bp a b mb op fb (.dct ds))(hR:Dj la lb 0 n 0 m bs)(hp:bs.Perm ms)(hl:bs.length<64)(hq:Q (.lst (FW bs n m)) [(Ş,BQ a b (.lst (FW bs n m)) op fb (.dct ds))]) :
  wL (BC w Be) (B5 w Be 30) (C8.drop 6) (F5 a b mb op fb ds (Ŕ n) (Ŕ m) [] (ms.map II) []) (AN 1 Q):=by
 have hs:AC nn (bs.map II)=some (bs.map II):=Df (λ_=>rfl) bs
 rw[fG]
 show AF (ms.map II).length/\Yl sD (ms.map II) λws=>wL (BC w Be) (B5 w Be 30) (C8.drop 7) (F5 a b mb op fb ds (Ŕ n) (Ŕ m) [] ws []) (AN 1 Q)
 refine⟨JY (aD8 (hp.length_eq▸hl)) (by decide),Yb (x:=λb=>Ŕ b.1) (λ_=>rfl) hp (Oq hR) hl (0,0,0) ?_⟩
 rw[dN]
 refine⟨t7 a b mb op fb ds (Ŕ n) (Ŕ m) (bs.map II),.re [0] [(2,.lst (bs.map II))] rfl rfl rfl rfl (BA rfl rfl rfl (bO1 (aD4 (AV.seq .lst)) hs) CP) (Ai rfl rfl (Ai rfl rfl (Ai rfl rfl (Ai rfl rfl BZ)))) (Fe rfl rfl (QI S) BY),?_⟩
 rw[eW]
 refine⟨hs,Ė a b mb op fb ds n m bs,⟨_,.refl _,0,0,0,[],rfl,aB6 _,rfl⟩,λt σ v hv hI=>X0 hl hv hI,λσ hI=>?_⟩
 rw[aA6]at hI
 rw[G2]
 exact iL S hl hI hq
def Ĭ(a b:AV)(la lb:List AD)(mb op fb:AV)(ds:List (AD×AV))(k:Nat)(σ:St):Prop:=∃(st:List Jl) (ms:List B3),wt st=k/\(wt st+ms.length<=2*la.length+1/\i7 la.length lb.length st)/\Hq la lb la.length lb.length st ms/\σ=F5 a b mb op fb ds (Ŕ la.length) (Ŕ lb.length) ((st.map Mv).reverse) (ms.map II) []
def MB(la lb:List AD)(mb:AV):Prop:=mb = .none\/∃bs,Dj la lb 0 la.length 0 lb.length bs/\mb = .lst (FW bs la.length lb.length)
def Mh:Ġ:=λas os Q=>∃(la lb:List AD) (a b mb op fb:AV) (ds:List (AD×AV)),as=[.ref 0]/\os=[(Ş,BQ a b mb op fb (.dct ds))]/\((IJ a la/\IJ b lb)/\Bp a b mb op fb (.dct ds)/\ĺ lb ds)/\MB la lb mb/\(la.length<=100000/\lb.length<=100000)/\
 ∀bs,Dj la lb 0 la.length 0 lb.length bs->bs.length<64/\Q (.lst (FW bs la.length lb.length)) [(Ş,BQ a b (.lst (FW bs la.length lb.length)) op fb (.dct ds))]
def Bz{b:Bool}{A B:Prop}(e:b=false)(h:B):BX b A B:=e▸h
def EX{b:Bool}{A B:Prop}(e:b=true)(h:A):BX b A B:=e▸h
def Wi{k:Nat}{σ:St}(AB:IJ a la/\IJ b lb)(S:Bp a b mb op fb (.dct ds))(hB:ĺ lb ds)(hz:la.length<=100000/\lb.length<=100000)(hq :∀bs,Dj la lb 0 la.length 0 lb.length bs->bs.length<64/\Q (.lst (FW bs la.length lb.length)) [(Ş,BQ a b (.lst (FW bs la.length lb.length)) op fb (.dct ds))])(hI:Ĭ a b la lb mb op fb ds k σ) :
  (ws (BC w Be) Gi 29).B N2.1 σ λc σ=>BX c (wL (BC w Be) (B5 w Be 29) N2.2 σ (turn (λσ=>∃m' τ,m'<k/\Aa σ τ/\Ĭ a b la lb mb op fb ds m' τ) K)) (wL (BC w Be) (B5 w Be 29) [] σ (ø (BC w Be) (B5 w Be 30) (C8.drop 6) (AN 1 Q))):=by
 obtain⟨st,ms,rfl,⟨hw,ho⟩,hP,rfl⟩:=hI
 have hst:=Qw st
 have h5 :∀{x:Nat},x<=2*la.length+1->x+2<=1000000:=λh=>by exists 2,0xf42409281a018002ca1080186a09008,hz.1,h
 have hsz:((st.map Mv).reverse).length=st.length:=(aL4 ..).trans (aA6 ..)
 have hms:(ms.map II).length<=1000000:=aA0 (aB9 (aA6 ..)) (aT1 (h5 (aA0 (Nat.le_add_left ..) hw)))
 rw[fS]
 refine⟨aA0 (aB9 hsz) (aT1 (h5 (aA0 hst (aA0 (aD0 ..) hw)))),?_⟩
 cases st with
 | nil=>
  obtain⟨bs,b1,b2⟩:=hP.fin
  refine Bz rfl ?_
  rw[G2]
  exact iA S b1 b2 (hq bs b1).1 (hq bs b1).2
 | cons x st=>
  obtain⟨alo,ahi,blo,bhi⟩:=x
  have hx:=ho _ (aB4 ..)
  have ho':i7 la.length lb.length st:=λy hy=>ho y (aC1 _ hy)
  have e:(((alo,ahi,blo,bhi)::st).map Mv).reverse=(st.map Mv).reverse++[Mv (alo,ahi,blo,bhi)]:=(bO1 List.reverse (aH8 ..)).trans (aQ7 ..)
  have e2:(!((((alo,ahi,blo,bhi)::st).map Mv).reverse).isEmpty)=true:=by rw[e];cases(st.map Mv).reverse<;>rfl
  refine EX e2 ?_
  rw[e]
  refine ZP AB S hB hz ⟨hx.1,hx.2.1⟩ ⟨hx.2.2.1,hx.2.2.2⟩ (h5 (aA0 (aB9 ((aL4 ..).trans (aA6 ..))) (aA0 (aL6 hst) (aA0 (aD0 ..) hw)))) hms λi j k hL=>⟨λhk=>?_,λhk=>?_⟩
  ·subst hk
   have:wt st<wt ((alo,ahi,blo,bhi)::st):=aC0 (aC6 _) (by show _<=2*(ahi-alo)+1+wt st;omega)
   exact⟨wt st,_,this,RK,st,ms,rfl,⟨by(exists 4,0x18202ca13a0031818202ca10a08,hw,this),ho'⟩,hP.zero hL,rfl⟩
  ·have lt:=U0 (st:=st) (c:=decide (alo<i/\blo<j)) (d:=decide (i+k<ahi/\j+k<bhi)) hL hk
   obtain⟨s1,s2,s3,s4,s5⟩:=hL.str
   refine⟨_,_,lt,RK,_,ms++[(i,j,k)],rfl,⟨?_,(ho'.psh ⟨s1,aA0 (aT1 s3) hx.2.1,s2,aA0 (aT1 s4) hx.2.2.2⟩).psh ⟨s3,hx.2.1,s4,hx.2.2.2⟩⟩,hP.step hL hk rfl rfl,?_⟩
   ·rw[aB2]
    show _+(ms.length+1)<=_
    exact id (ql [_,_,_,_] 0x18202ca181a3a0031818202ca10a08 (by rfl') hw lt)
   ·rw[Qm,Qm,<-Ff]
end
variable{w:aC7}{d:Nat}
def lI:NX (Ű w) (ë w.params) (BC w Be) (d+3) Ĉ OX aM ME aI:=
 Ur (λf t e=>BU (b:=aE0 f 196) (x:=some Be) (y:=none) e (λq e=>aB8 q▸aA2 e▸WW) AA) (λe=>nomatch e) (λ_=>UP) (λ_ e=>nomatch e)
def ZB:BG (Ű w) (ë w.params) (d+5) (.ref 203) Mh:=
 PZ lI (Pq _).2.2 (Pq _).1 (Pq _).2.1 (ps:=["self"]) (by decide) (by rfl') (NZ λa=>by rfl') λas os Q hh=>by
  obtain⟨la,lb,a,b,mb,op,fb,ds,ea,eo,⟨⟨A,B⟩,S,hB⟩,hmb,hz,hq⟩:=hh
  subst ea;subst eo
  refine⟨⟨rfl,Bs S.shut⟩,?_⟩
  rcases hmb with rfl | ⟨bs,hR,rfl⟩
  rotate_left
  ·exact Zo.mpr (Cb (fl:=.ret _) rfl (.refl _) rfl S.mb S.shut (hq bs hR).2)
  show Ū (BC w Be) Gi C8 _ _ Q
  rw[kN,HJ A.hnd]
  refine A.len (aD5 hz.1 (by decide)) ((HJ B.hnd).mpr (B.len (aD5 hz.2 (by decide)) ⟨rfl,(g8 (n:=Ŕ la.length) (m:=Ŕ lb.length)).mpr ⟨Ĭ a b la lb .none op fb ds,2*la.length+1,⟨_,.refl _,[(0,la.length,0,lb.length)],[],rfl,⟨aB6 _,λx hx=>?_⟩,.start,rfl⟩,λm σ hI=>?_⟩⟩))
  ·rw[aB1.mp hx]
   exact⟨aE9 _,aB6 _,aE9 _,aB6 _⟩
  ·exact Wi ⟨A,B⟩ S hB hz hq hI
end
def OB:List aF3:=(C2 LA "get_opcodes").1
def Xx:Scope:=(C2 LA "get_opcodes").2
def SL(P:aD6):(C9 P 210).body = .stmts OB/\(C9 P 210).scope=Xx/\BL P 210=true:=⟨by rfl',by rfl',by rfl'⟩
abbrev Bb(w:aC7):Pm:=Sq w.params (YH 203 Mh) none false false OM OM true
abbrev Bo(w:aC7)(f:Nat):ì:=ER (Bb w) Xx f
def ĝ:Expr×List aF3:=EY (OB.getD 4 (.Pass AP))
def nT(w:aC7):AV->St->ŏ->Prop:=λv σ K=>(ws (Bb w) Xx 29).A ĝ.1 v σ λσ=>wL (Bb w) (Bo w 29) ĝ.2 σ K
noncomputable def Bj(s:aF3):List aF3:=(Qg s).2.2.2
abbrev Ő(a0 b0:AV)(mb fb:AV)(ds:List (AD×AV))(i j:Int)(L:List AV)(tl:List (Str×AV)):St:=⟨("self",.ref 0)::("i",.int i)::("j",.int j)::("answer",.ref 1)::tl,[(0,.inst Ş (BQ a0 b0 mb (.ref 1) fb (.dct ds))),(1,.list L)],2,1⟩
section
variable{w:aC7}{a0 b0:AV}{mb fb:AV}{ds:List (AD×AV)}{i j ai bj sz:Int}{L:List AV}{tl:List (Str×AV)}{K:ŏ}
def s0:wL (Bb w) (Bo w 30) OB (A6 [("self",.ref 0)] [(Ş,BQ a0 b0 mb .none fb (.dct ds))]) K =
  NN Mh [.ref 0] (Ő a0 b0 mb fb ds 0 0 [] []) λu σ=>Ap (KD u) λvs=>AC nn vs=some vs/\EM vs (nT w) (wL (Bb w) (Bo w 29) []) σ (ø (Bb w) (Bo w 30) (OB.drop 5) K):=by rfl'
def Zl:wL (Bb w) (Bo w 30) OB (A6 [("self",.ref 0)] [(Ş,BQ a0 b0 mb (.lst L) fb (.dct ds))]) K=K (.ret (.lst L)) (A6 [("self",.ref 0)] [(Ş,BQ a0 b0 mb (.lst L) fb (.dct ds))]):=by rfl'
abbrev tO(ai bj sz:Int)(t:Str):List (Str×AV):=[("ai",.int ai),("bj",.int bj),("size",.int sz),("tag",.str t)]
noncomputable abbrev cP(a0 b0:AV)(mb fb:AV)(ds:List (AD×AV))(i j ai bj sz:Int)(L:List AV)(t:Str):St:=Ő a0 b0 mb fb ds i j L (tO ai bj sz t)
def f0:nT w (.mat [.int ai,.int bj,.int sz]) (Ő a0 b0 mb fb ds i j L []) K=(3=3/\wL (Bb w) (Bo w 29) (ĝ.2.drop 1) (cP a0 b0 mb fb ds i j ai bj sz L "") K):=by rfl'
def iP:aF3:=ĝ.2.getD 1 (.Pass AP)
def iU:aF3:=(Bj iP).getD 0 (.Pass AP)
def kK:aF3:=(Bj iU).getD 0 (.Pass AP)
def aX:wL (Bb w) (Bo w 29) (ĝ.2.drop 1) (cP a0 b0 mb fb ds i j ai bj sz L "") K=BX (decide (i<ai)) (BX (decide (j<bj)) (wL (Bb w) (Bo w 28) (Ar iP) (cP a0 b0 mb fb ds i j ai bj sz L "") (ø (Bb w) (Bo w 29) (ĝ.2.drop 2) K)) (wL (Bb w) (Bo w 28) (Bj iP) (cP a0 b0 mb fb ds i j ai bj sz L "") (ø (Bb w) (Bo w 29) (ĝ.2.drop 2) K)))
  (wL (Bb w) (Bo w 28) (Bj iP) (cP a0 b0 mb fb ds i j ai bj sz L "") (ø (Bb w) (Bo w 29) (ĝ.2.drop 2) K)):=by rfl'
def b8:wL (Bb w) (Bo w 28) (Bj iP) (cP a0 b0 mb fb ds i j ai bj sz L "") K=BX (decide (i<ai)) (wL (Bb w) (Bo w 27) (Ar iU) (cP a0 b0 mb fb ds i j ai bj sz L "") (ø (Bb w) (Bo w 28) [] K)) (wL (Bb w) (Bo w 27) (Bj iU) (cP a0 b0 mb fb ds i j ai bj sz L "") (ø (Bb w) (Bo w 28) [] K)):=by rfl'
def cW:wL (Bb w) (Bo w 27) (Bj iU) (cP a0 b0 mb fb ds i j ai bj sz L "") K=BX (decide (j<bj)) (wL (Bb w) (Bo w 26) (Ar kK) (cP a0 b0 mb fb ds i j ai bj sz L "") (ø (Bb w) (Bo w 27) [] K)) (wL (Bb w) (Bo w 26) (Bj kK) (cP a0 b0 mb fb ds i j ai bj sz L "") (ø (Bb w) (Bo w 27) [] K)):=by rfl'
def MV:(wL (Bb w) (Bo w 28) (Ar iP) (cP a0 b0 mb fb ds i j ai bj sz L "") K=K .next (cP a0 b0 mb fb ds i j ai bj sz L "replace")/\wL (Bb w) (Bo w 27) (Ar iU) (cP a0 b0 mb fb ds i j ai bj sz L "") K=K .next (cP a0 b0 mb fb ds i j ai bj sz L "delete"))/\
  wL (Bb w) (Bo w 26) (Ar kK) (cP a0 b0 mb fb ds i j ai bj sz L "") K=K .next (cP a0 b0 mb fb ds i j ai bj sz L "insert")/\wL (Bb w) (Bo w 26) (Bj kK) (cP a0 b0 mb fb ds i j ai bj sz L "") K=K .next (cP a0 b0 mb fb ds i j ai bj sz L ""):=⟨⟨by rfl',by rfl'⟩,by rfl',by rfl'⟩
abbrev Qp(t:Str)(i ai j bj:Int):AV:=.tup [.str t,.int i,.int ai,.int j,.int bj]
def WM{t:Str}:wL (Bb w) (Bo w 29) (ĝ.2.drop 2) (cP a0 b0 mb fb ds i j ai bj sz L t) K=(t.length<1000000/\BX ((t.length:Int) != 0) (AF L.length/\wL (Bb w) (Bo w 29) (ĝ.2.drop 3) (cP a0 b0 mb fb ds i j ai bj sz (L++[Qp t i ai j bj]) t) K) (wL (Bb w) (Bo w 29) (ĝ.2.drop 3) (cP a0 b0 mb fb ds i j ai bj sz L t) K)):=by rfl'
def bM{t:Str}:wL (Bb w) (Bo w 29) (ĝ.2.drop 3) (cP a0 b0 mb fb ds i j ai bj sz L t) K=(2=2/\BX (sz != 0) (AF L.length/\K .next (cP a0 b0 mb fb ds (ai+sz) (bj+sz) ai bj sz (L++[Qp "equal" ai (ai+sz) bj (bj+sz)]) t)) (K .next (cP a0 b0 mb fb ds (ai+sz) (bj+sz) ai bj sz L t))):=by rfl'
end
def Ou(i j:Nat)(b:B3):List AV:=if i<b.1/\j<b.2.1 then [Qp "replace" (Ŕ i) (Ŕ b.1) (Ŕ j) (Ŕ b.2.1)]else if i<b.1 then [Qp "delete" (Ŕ i) (Ŕ b.1) (Ŕ j) (Ŕ b.2.1)]else if j<b.2.1 then [Qp "insert" (Ŕ i) (Ŕ b.1) (Ŕ j) (Ŕ b.2.1)]else []
def Rp(b:B3):List AV:=if b.2.2=0 then []else [Qp "equal" (Ŕ b.1) (Ŕ (b.1+b.2.2)) (Ŕ b.2.1) (Ŕ (b.2.1+b.2.2))]
def IW:Nat->Nat->List B3->List AV
 | _,_,[]=>[]
 | i,j,b::r=>Ou i j b++(Rp b++IW (b.1+b.2.2) (b.2.1+b.2.2) r)
def Mw{i j:Nat}{b:B3}:(Ou i j b).length<=1:=by
 unfold Ou
 split
 ·exact aB6 _
 ·split
  ·exact aB6 _
  ·split
   ·exact aB6 _
   ·exact aE9 _
def VW{b:B3}:(Rp b).length<=1:=by
 unfold Rp
 split
 ·exact aE9 _
 ·exact aB6 _
def Ec{i j:Nat}{bl:List B3}:AC nn (IW i j bl)=some (IW i j bl):=by
 have ap :∀{l r:List AV},AC nn l=some l->AC nn r=some r->AC nn (l++r)=some (l++r):=λ{l r} hl hr=>by
  induction l with
  | nil=>exact hr
  | cons a l ih=>
   obtain⟨a',e1,e⟩:=AG (show(a.sub nn).bind (λa=>(AC nn l).map (a :: ·))=some (a::l)from hl)
   obtain⟨l',e2,e⟩:=AH e
   cases e
   exact AI e1 (ih e2)
 induction bl generalizing i j with
 | nil=>rfl
 | cons b r ih=>
  refine ap ?_ (ap ?_ ih)
  ·unfold Ou
   split
   ·rfl
   ·split
    ·rfl
    ·split<;>rfl
  ·unfold Rp
   split<;>rfl
abbrev Cn(A B:List AD)(bs:List B3):List B3:=FC (0,0,0) bs++[(A.length,B.length,0)]
section
variable{w:aC7}{a0 b0:AV}{mb fb:AV}{ds:List (AD×AV)}{i j:Nat}{b:B3}{L:List AV}{K:ŏ}
def Ac{P:Pm}{S:ì}{r:List aF3}{K:ŏ}{σ:St}:ø P S r K .next σ=wL P S r σ K:=rfl
def TY(hL:L.length<=1000)(h :∀t,K .next (cP a0 b0 mb fb ds (Ŕ (b.1+b.2.2)) (Ŕ (b.2.1+b.2.2)) (Ŕ b.1) (Ŕ b.2.1) (Ŕ b.2.2) (L++(Ou i j b++Rp b)) t)) :
  nT w (II b) (Ő a0 b0 mb fb ds (Ŕ i) (Ŕ j) L []) K:=by
 refine f0.mpr ⟨rfl,?_⟩
 have fin :∀t,wL (Bb w) (Bo w 29) (ĝ.2.drop 3) (cP a0 b0 mb fb ds (Ŕ i) (Ŕ j) (Ŕ b.1) (Ŕ b.2.1) (Ŕ b.2.2) (L++Ou i j b) t) K:=λt=>by
  rw[bM]
  have hz:AF (L++Ou i j b).length:=aA0 (aB9 aB2) (aA0 (aP6 hL Mw) (by decide))
  have h:=h t
  rw[<-aC9]at h
  refine⟨rfl,VU (λhk=>⟨hz,?_⟩) λhk=>?_⟩
  ·rw[show Rp b=[Qp "equal" (Ŕ b.1) (Ŕ (b.1+b.2.2)) (Ŕ b.2.1) (Ŕ (b.2.1+b.2.2))]from bO3 (aJ8 hk)]at h
   exact h
  ·rw[show Rp b=[]from bO2 hk,aF9]at h
   exact h
 have tg :∀t:Str,t.length<1000000->((t.length:Int) != 0)=true->Ou i j b=[Qp t (Ŕ i) (Ŕ b.1) (Ŕ j) (Ŕ b.2.1)]->wL (Bb w) (Bo w 29) (ĝ.2.drop 2) (cP a0 b0 mb fb ds (Ŕ i) (Ŕ j) (Ŕ b.1) (Ŕ b.2.1) (Ŕ b.2.2) L t) K:=λt h1 h2 e=>by
  rw[WM,h2]
  exact⟨h1,aA0 hL (by decide),e▸fin t⟩
 have no:Ou i j b=[]->wL (Bb w) (Bo w 29) (ĝ.2.drop 2) (cP a0 b0 mb fb ds (Ŕ i) (Ŕ j) (Ŕ b.1) (Ŕ b.2.1) (Ŕ b.2.2) L "") K:=λe=>by
  rw[WM]
  have q:=fin ""
  rw[e,aF9]at q
  exact⟨by decide,q⟩
 have el:¬ (Ŕ i<Ŕ b.1/\Ŕ j<Ŕ b.2.1)->wL (Bb w) (Bo w 28) (Bj iP) (cP a0 b0 mb fb ds (Ŕ i) (Ŕ j) (Ŕ b.1) (Ŕ b.2.1) (Ŕ b.2.2) L "") (ø (Bb w) (Bo w 29) (ĝ.2.drop 2) K):=λhn=>by
  have hn':¬ (i<b.1/\j<b.2.1):=λz=>hn ⟨aC8.mpr z.1,aC8.mpr z.2⟩
  rw[b8]
  refine Gp (λh1=>?_) λh1=>?_
  ·rw[MV.1.2,Ac,Av,Ac]
   exact tg "delete" (by decide) (by decide) ((bO3 hn').trans (bO2 (aC8.mp h1)))
  ·have h1':¬ i<b.1:=λz=>h1 (aC8.mpr z)
   rw[cW]
   refine Gp (λh2=>?_) λh2=>?_
   ·rw[MV.2.1,Ac,Av,Ac,Av,Ac]
    exact tg "insert" (by decide) (by decide) ((bO3 hn').trans ((bO3 h1').trans (bO2 (aC8.mp h2))))
   ·rw[MV.2.2,Ac,Av,Ac,Av,Ac]
    exact no ((bO3 hn').trans ((bO3 h1').trans (bO3 λz=>h2 (aC8.mpr z))))
 show wL (Bb w) (Bo w 29) (ĝ.2.drop 1) (cP a0 b0 mb fb ds (Ŕ i) (Ŕ j) (Ŕ b.1) (Ŕ b.2.1) (Ŕ b.2.2) L "") K
 rw[aX]
 refine UJ (λh1=>?_) el
 rw[MV.1.1,Ac]
 exact tg "replace" (by decide) (by decide) (bO2 ⟨aC8.mp h1.1,aC8.mp h1.2⟩)
abbrev Ğ(a0 b0:AV)(mb fb:AV)(ds:List (AD×AV))(L:List AV):St:=⟨[("self",.ref 0),("answer",.lst L)],[(0,.inst Ş (BQ a0 b0 mb (.lst L) fb (.dct ds)))],1,1⟩
def zK(a0 b0:AV)(mb fb:AV)(ds:List (AD×AV))(bl:List B3)(k:Nat)(σ:St):Prop:=
 (k<bl.length->∃i j L,σ=Ő a0 b0 mb fb ds (Ŕ i) (Ŕ j) L []/\L.length<=2*k/\L++IW i j (bl.drop k)=IW 0 0 bl)/\(k=bl.length->σ=Ğ a0 b0 mb fb ds (IW 0 0 bl))
def NK{i j x y z:Int}{t:Str}:Aa (cP a0 b0 mb fb ds i j x y z L t) (Ő a0 b0 mb fb ds i j L []):=
 .less (ρ:=(Ő a0 b0 mb fb ds i j L []).ρ++tO x y z t) (λx v e=>Cr e) λ_ _=>id
def eY{g:Nat->Option AV}{u v:AV}(S:Bp a0 b0 mb .none fb (.dct ds))(h:u.sub g=some v):(Ÿ.inst Ş (BQ a0 b0 mb u fb (.dct ds))).sub g=some (.inst Ş (BQ a0 b0 mb v fb (.dct ds))):=
 C7 (Ew rfl (Ew (AK _ _ S.a) (Ew (AK _ _ S.b) (Ew rfl (Ew (AK _ _ S.mb) (Ew h (Ew (AK _ _ S.fb) (Ew (AK _ _ S.b2j) rfl))))))))
def W8{i j:Int}(S:Bp a0 b0 mb .none fb (.dct ds))(hL:AC nn L=some L):Aa (Ő a0 b0 mb fb ds i j L []) (Ğ a0 b0 mb fb ds L):=
 .re [0] [(1,.lst L)] rfl rfl rfl rfl (BA rfl rfl rfl (AL hL) CP) (Ai rfl rfl (Ai rfl rfl BZ)) (Fe rfl rfl (eY S rfl) BY)
def gT:wL (Bb w) (Bo w 30) (OB.drop 5) (Ğ a0 b0 mb fb ds L) K=K (.ret (.lst L)) (Ğ a0 b0 mb fb ds L):=by rfl'
def Tb :∀{bs:List B3} {b:B3},(FC b bs).length<=bs.length+1:=by
 intro bs
 induction bs with
 | nil=>intro b;obtain⟨i,j,k⟩:=b;unfold FC;split<;>simp
 | cons c r ih=>
  intro b
  obtain⟨i,j,k⟩:=b
  obtain⟨i2,j2,k2⟩:=c
  unfold FC
  split
  ·exact aJ4 ih
  ·split
   ·exact aJ4 ih
   ·exact aJ2 ih
end
def ŉ(la lb:List AD)(op:AV):Prop:=op = .none\/∃bs,Dj la lb 0 la.length 0 lb.length bs/\op = .lst (IW 0 0 (Cn la lb bs))
structure Ŭ(a b:AV)(la lb:List AD)(mb op fb:AV)(ds:List (AD×AV)):Prop where
 A:IJ a la
 B:IJ b lb
 S:Bp a b mb op fb (.dct ds)
 J:ĺ lb ds
 M:MB la lb mb
 O:ŉ la lb op
def K5:Ġ:=λas os Q=>∃(la lb:List AD) (a b mb op fb:AV) (ds:List (AD×AV)),as=[.ref 0]/\os=[(Ş,BQ a b mb op fb (.dct ds))]/\Ŭ a b la lb mb op fb ds/\(la.length<=100000/\lb.length<=100000)/\(∀bs,Dj la lb 0 la.length 0 lb.length bs->bs.length<64)/\
 ∀bs mb',Dj la lb 0 la.length 0 lb.length bs->Ŭ a b la lb mb' (.lst (IW 0 0 (Cn la lb bs))) fb ds->Q (.lst (IW 0 0 (Cn la lb bs))) [(Ş,BQ a b mb' (.lst (IW 0 0 (Cn la lb bs))) fb (.dct ds))]
def eD(ρ:List (Str×AV))(H:List (Nat×Ÿ))(n k:Nat)(p:aC3)(at_:List (Str×AV))(Q:AV->St->Prop)(r:AV)(os':List Ob):Prop:=Ap (((St.sets ⟨ρ,(0,.inst Ş at_)::H,n,k⟩ [0] os').H.lookup 0).bind Ÿ.ins) λq=>q.2.lookup ("opcodes":Str)=some (.glo p)/\Q r ((St.sets ⟨ρ,(0,.inst Ş at_)::H,n,k⟩ [0] os').set 0 (.inst q.1 (Al q.2 ("opcodes":Str) (.ref 1))))
def a7{tr:Ġ}{ρ:List (Str×AV)}{H:List (Nat×Ÿ)}{n k:Nat}{a b mb fb d:AV}{Q:AV->St->Prop}(hs:Bp a b mb .none fb d)
  (h :∀p:aC3,tr [.ref 0] [(Ş,BQ a b mb (.glo p) fb d)] (eD ρ H n k p (BQ a b mb (.glo p) fb d) Q)):NN tr [.ref 0] ⟨ρ,(0,.inst Ş (BQ a b mb (.ref 1) fb d))::H,n,k⟩ Q:=by
 show∀p:aC3,BO tr [.ref 0] ⟨ρ,(0,.inst Ş (BQ a b mb (.glo p) fb d))::H,n,k⟩ _
 exact λp=>Fi (as':=[.ref 0]) (Bp.shut (op:=.glo p) ⟨hs.ha,hs.hb,hs.a,hs.b,hs.mb,rfl,hs.fb,hs.b2j⟩) rfl rfl (h p)
def qT{w:aC7}{d:Nat}:NX (Ű w) (ë w.params) (Bb w) (d+5) Ĉ OX aM ME aI:=
 Ur (λf t e=>BU (b:=aE0 f 203) (x:=some Mh) (y:=none) e (λq e=>aB8 q▸aA2 e▸ZB) AA) (λe=>nomatch e) (λe=>nomatch e) (λ_ e=>nomatch e)
def Ye{w:aC7}{d:Nat}:BG (Ű w) (ë w.params) (d+7) (.ref 210) K5:=
 PZ qT (SL _).2.2 (SL _).1 (SL _).2.1 (ps:=["self"]) (by decide) (by rfl') (NZ λa=>by rfl') λas os Q hh=>by
  obtain⟨la,lb,a0,b0,mb,op,fb,ds,ea,eo,I,hz,Tw,hq⟩:=hh
  subst ea;subst eo
  refine⟨⟨rfl,Bs I.S.shut⟩,?_⟩
  rcases I.O with rfl | ⟨bs,r,rfl⟩
  rotate_left
  ·exact Zl.mpr (Cb (fl:=.ret _) rfl (.refl _) rfl (AL Ec) I.S.shut (hq bs mb r I))
  refine s0.mpr (a7 ⟨I.S.ha,I.S.hb,I.S.a,I.S.b,I.S.mb,rfl,I.S.fb,I.S.b2j⟩ λp=>?_)
  refine⟨la,lb,a0,b0,mb,.glo p,fb,ds,rfl,rfl,⟨⟨I.A,I.B⟩,⟨I.S.ha,I.S.hb,I.S.a,I.S.b,I.S.mb,rfl,I.S.fb,I.S.b2j⟩,I.J⟩,I.M,hz,λbs r=>⟨Tw bs r,?_⟩⟩
  have hb:=Tw bs r
  have hq:=hq bs (.lst (FW bs la.length lb.length)) r
  have hl:(Cn la lb bs).length<=65:=aA0 (aB9 aB2) (aJ2 (aA0 Tb hb))
  have hsq :∀{op:AV},op.sub nn=some op->ŉ la lb op->Ŭ a0 b0 la lb (.lst (FW bs la.length lb.length)) op fb ds:=λh o=>⟨I.A,I.B,⟨I.S.ha,I.S.hb,I.S.a,I.S.b,I9 _ _ _,h,I.S.fb,I.S.b2j⟩,I.J,.inr ⟨bs,r,rfl⟩,o⟩
  have S2:=(hsq (op:=.none) rfl (.inl rfl)).S
  have hq:=hq (hsq (AL Ec) (.inr ⟨bs,r,rfl⟩))
  have S3:=(hsq (op:=.lst (IW 0 0 (Cn la lb bs))) (AL Ec) (.inr ⟨bs,r,rfl⟩)).S
  clear hsq
  generalize hbl:Cn la lb bs=bl at hb hl hq S3
  have eo:FW bs la.length lb.length=bl.map II:=hbl▸rfl
  rw[eo]at hq S2 S3 ⊢
  have hsh:AC nn (bl.map II)=some (bl.map II):=Df (λ_=>rfl) _
  have h0:0<bl.length:=hbl▸(aB2 (as:=FC (0,0,0) bs) (bs:=[(la.length,lb.length,0)])).symm▸bC4 _
  refine⟨rfl,hsh,zK a0 b0 (.lst (bl.map II)) fb ds bl,⟨_,.refl _,λ_=>⟨0,0,[],rfl,aB6 _,rfl⟩,λe=>bO4 e (aE2 h0)⟩,λk σ v hv hI=>?_,λσ hI=>?_⟩
  ·obtain⟨b,e1,rfl⟩:=AH ((aB3 ..).symm.trans hv)
   have hk:=(aA4.mp e1).1
   obtain⟨i,j,L,rfl,h1,h2⟩:=hI.1 hk
   have h3:L++(Ou i j b++Rp b)++IW (b.1+b.2.2) (b.2.1+b.2.2) (bl.drop (k+1))=IW 0 0 bl:=by
    rw[<-h2,aL2 hk,(aA4.mp e1).2]
    show L++(Ou i j b++Rp b)++IW _ _ _=L++(Ou i j b++(Rp b++IW _ _ _))
    rw[aC9,aC9]
   refine TY (aA0 h1 (by exists 2,0x3e89102c001180000419008,hl,hk)) λt=>(aP5 (aZ2 hk)).elim (λhlt=>⟨_,NK,λ_=>⟨_,_,_,rfl,?_,h3⟩,λe=>bO4 e (aE2 hlt)⟩) λhe=>?_
   ·have:=Mw (i:=i) (j:=j) (b:=b);have:=VW (b:=b)
    rw[aB2,aB2];rename_i u8;exists 4,0x181a02c32a0a01830818208102c008,h1,u8,this
   ·rw[List.drop_eq_nil_of_le (aB9 he.symm),show IW (b.1+b.2.2) (b.2.1+b.2.2) []=[]from rfl,aF9]at h3
    rw[h3]
    exact⟨_,NK.trans (W8 S2 Ec),λh=>bO4 h (he▸aL7 _),λ_=>rfl⟩
  ·rw[aA6]at hI
   obtain rfl:=hI.2 rfl
   rw[Av,Ac,gT]
   exact Cb (fl:=.ret _) rfl (.refl _) rfl (AL Ec) S3.shut hq
def d6(s:aF3):Expr:=(Qg s).2.1
noncomputable def L3(e:Expr):List Expr:=iO e
noncomputable def E0(e:Expr):Expr×Expr:=(X5 e 0,X5 e 1)
noncomputable def Gf(e:Expr):Expr×List aF5×Scope:=(X5 e 0,Zq e)
noncomputable def rV(e:Expr):(Expr×Expr)×List aF5×Scope:=((X5 e 0,X5 e 1),Zq e)
abbrev CL:=Expr×List aF5×Scope
def lP:aF5:=⟨.Name ("":Str) AP,.Name ("":Str) AP,[],0⟩
def D7(P:Pm)(f:Nat)(sc:Scope)(q:CL)(n:Nat):AV->St->(St->Prop)->Prop:=ET (Md P f (Bw q.2.2 sc)) (q.2.1.getD 0 lP) (Rx P (Bw q.2.2 sc) (Md P f (Bw q.2.2 sc)) (aW q.1 (Md P f (Bw q.2.2 sc)) n) (q.2.1.drop 1))
def Id{β:Type}{l:List (Nat×β)}{x:Nat}{u v:β}:Al (Al l x u) x v=Al l x v:=
 aB7 (motive:=λl=>Al (Al l x u) x v=Al l x v) (show(bif x==x then(x,v)::[]else _)=_ by rw[bO8];rfl) (λp r ih=>by
  show Al (bif p.1==x then(p.1,u)::r else p::Al r x u) x v=bif p.1==x then(p.1,v)::r else p::Al r x v
  cases h:p.1==x with
  | true=>exact(bO1 (λb:Bool=>bif b then(p.1,v)::r else(p.1,u)::Al r x v) h).trans rfl
  | false=>exact(bO1 (λb:Bool=>bif b then(p.1,v)::Al r x u else p::Al (Al r x u) x v) h).trans (bO1 (p :: ·) ih)) l
def CU{ρ:List (Str×AV)}{H:List (Nat×Ÿ)}{n m a:Nat}{u:AV}{L:List AV}{K:St->Prop}(hz:L.length<=1000000)(q:K ⟨ρ,Al H n (.list (L++[u])),m,a⟩):An .append [.ref n,u] ⟨ρ,Al H n (.list L),m,a⟩ λ_ τ=>K τ:=by
 show Ap (aD4 (n,·) ((Al H n (.list L)).lookup n)) λp=>Ap p.2.lst λvs=>AF vs.length/\K ((⟨ρ,Al H n (.list L),m,a⟩:St).set p.1 (.list (vs++[u])))
 rw[Ev]
 refine⟨hz,?_⟩
 show K ⟨ρ,Al (Al H n (.list L)) n (.list (L++[u])),m,a⟩
 rw[Id];exact q
def Fz{items:List AV}{tn:AV->St->(St->Prop)->Prop}{xs:List Str}{ρ₀:List (Str×AV)}{H:List (Nat×Ÿ)}{n a:Nat}{Q:AV->St->Prop}(F:Nat->List AV)(I:List (Str×AV)->Prop)(h0:I (pick ρ₀ xs))(hs :∀ρ H' n',I ρ->E6 ⟨ρ,H',n',a⟩ ⟨ρ₀,H,n,a⟩ xs)
  (hl:items.length<=1000000) (hF :∀k,(F k).length<=1)
  (ht :∀k v,items[k]?=some v->∀ρ L (K:St->Prop),I ρ->L.length<=1000000->(∀ρ',I ρ'->K ⟨ρ',Al H n (.list (L++F k)),n+1,a⟩)->tn v ⟨ρ,Al H n (.list L),n+1,a⟩ K)
  (q:Q (.ref n) ⟨ρ₀,Al H n (.list ((aC2 items.length).flatMap F)),n+1,a⟩):BF (.list []) items tn xs ⟨ρ₀,H,n,a⟩ Q:=by
 have len :∀k,((aC2 k).flatMap F).length<=k:=λk=>by
  induction k with
  | zero=>exact aB6 _
  | succ k ih=>rw[aQ0,aL5,aB2,aI2];exact aP6 ih (hF k)
 refine⟨λk τ=>∃ρ,I ρ/\τ=⟨ρ,Al H n (.list ((aC2 k).flatMap F)),n+1,a⟩,⟨_,h0,rfl⟩,λk v τ hv hJ=>?_,λτ hJ=>?_⟩
 ·obtain⟨ρ,hI,rfl⟩:=hJ
  refine ht k v hv ρ _ _ hI (aA0 (len k) (aA0 (aD8 (aA4.mp hv).1) hl)) λρ' hI'=>⟨ρ',hI',?_⟩
  rw[aQ0,aL5,aI2]
 ·obtain⟨ρ,hI,rfl⟩:=hJ
  exact⟨hs _ _ _ hI,q⟩
def DH:List aF3:=(C2 Δ.main.body "_law_deed").1
def Ey:Scope:=(C2 Δ.main.body "_law_deed").2
def S5(P:aD6):(C9 P 251).body = .stmts DH/\(C9 P 251).scope=Ey/\BL P 251=true:=⟨by rfl',by rfl',by rfl'⟩
noncomputable def kW:Pos->Bool:=λ_=>true
abbrev ð(w:aC7):Pm:=Sq w.params (λ_=>none) none false false kW OM
abbrev ĕ(w:aC7)(f:Nat):ì:=ER (ð w) Ey f
abbrev kJ(a b:Int):Prop:=aK1 a b=false
abbrev Ŵ(x2 made kd at_ two A9:Int)(tx:List Int)(tl hd:List AV)(r:List (Str×AV)):St:=⟨("x",.int x2)::("text",.lst (ù tx))::("made",.int made)::("kind",.int kd)::("at",.int at_)::("two",.int two)::("one",.int A9)::("tail",.lst tl)::("head",.lst hd)::r,[],0,0⟩
def kS(n:Nat):aF3:=DH.getD n (.Pass AP)
def uE(s:aF3):Expr:=(L3 (d6 s)).getD 0 (.Name ("":Str) AP)
def Zw:CL:=Gf (E0 (E0 (uE ((Ar (kS 4)).getD 0 (.Pass AP)))).1).2
section
variable{w:aC7}{x x2 made kd at_ two A9 n:Int}{tx:List Int}{tl hd M:List AV}{r:List (Str×AV)}{K:ŏ}
def lG:wL (ð w) (ĕ w 30) DH (A6 [("x",.int x),("text",.lst (ù tx)),("made",.int made)] []) K =
  ((5:Int)≠0/\(5:Int)≠0/\kJ x 5/\2=2/\AF (ù tx).length/\((ù tx).length:Int)+1≠0/\AF (ù tx).length/\((ù tx).length:Int)+1≠0/\kJ (x.fdiv 5) (((ù tx).length:Int)+1)/\2=2/\(4:Int)≠0/\(4:Int)≠0/\kJ ((x.fdiv 5).fdiv (((ù tx).length:Int)+1)) 4/\(4:Int)≠0/\2=2/\
   (none:Option Int)≠some 0/\AF (ù tx).length/\(none:Option Int)≠some 0/\AF (ù tx).length/\2=2/\
   wL (ð w) (ĕ w 30) (DH.drop 4) (Ŵ ((x.fdiv 5).fdiv (((ù tx).length:Int)+1)) made (x.fmod 5) ((x.fdiv 5).fmod (((ù tx).length:Int)+1)) (1+(((x.fdiv 5).fdiv (((ù tx).length:Int)+1)).fdiv 4).fmod 4) (1+((x.fdiv 5).fdiv (((ù tx).length:Int)+1)).fmod 4) tx
    (AZ (ù tx) (some ((x.fdiv 5).fmod (((ù tx).length:Int)+1))) none none) (AZ (ù tx) none (some ((x.fdiv 5).fmod (((ù tx).length:Int)+1))) none) []) K):=by rfl'
def NP:(wL (ð w) (ĕ w 30) (DH.drop 4) (Ŵ x2 made kd at_ two A9 tx tl hd []) K=BX (decide (AD.int kd=AD.int 0)) (wL (ð w) (ĕ w 29) (Ar (kS 4)) (Ŵ x2 made kd at_ two A9 tx tl hd []) (ø (ð w) (ĕ w 30) (DH.drop 5) K)) (wL (ð w) (ĕ w 30) (DH.drop 5) (Ŵ x2 made kd at_ two A9 tx tl hd []) K)/\
  wL (ð w) (ĕ w 30) (DH.drop 5) (Ŵ x2 made kd at_ two A9 tx tl hd []) K=BX (decide (AD.int kd=AD.int 1)) (wL (ð w) (ĕ w 29) (Ar (kS 5)) (Ŵ x2 made kd at_ two A9 tx tl hd []) (ø (ð w) (ĕ w 30) (DH.drop 6) K)) (wL (ð w) (ĕ w 30) (DH.drop 6) (Ŵ x2 made kd at_ two A9 tx tl hd []) K))/\
  wL (ð w) (ĕ w 30) (DH.drop 6) (Ŵ x2 made kd at_ two A9 tx tl hd []) K=BX (decide (AD.int kd=AD.int 2)) (wL (ð w) (ĕ w 29) (Ar (kS 6)) (Ŵ x2 made kd at_ two A9 tx tl hd []) (ø (ð w) (ĕ w 30) (DH.drop 7) K)) (wL (ð w) (ĕ w 30) (DH.drop 7) (Ŵ x2 made kd at_ two A9 tx tl hd []) K)/\
  wL (ð w) (ĕ w 30) (DH.drop 7) (Ŵ x2 made kd at_ two A9 tx tl hd []) K=BX (decide (AD.int kd=AD.int 3)) (wL (ð w) (ĕ w 29) (Ar (kS 7)) (Ŵ x2 made kd at_ two A9 tx tl hd []) (ø (ð w) (ĕ w 30) (DH.drop 8) K)) (wL (ð w) (ĕ w 30) (DH.drop 8) (Ŵ x2 made kd at_ two A9 tx tl hd []) K):=⟨⟨by rfl',by rfl'⟩,by rfl',by rfl'⟩
abbrev ł(w:aC7)(hd:List AV)(K:ŏ):AV->St->Prop:=λb σ=>ED .Add (.lst hd) b σ λa σ=>(ws (ð w) Ey 26).E (E0 (uE ((Ar (kS 4)).getD 0 (.Pass AP)))).2 σ λb σ=>ED .Add a b σ λv σ=>Ml (ws (ð w) Ey 27).E ((L3 (d6 ((Ar (kS 4)).getD 0 (.Pass AP)))).drop 1) σ λvs σ=>K (.ret (.tup (v::vs))) σ
def ŷ:wL (ð w) (ĕ w 29) (Ar (kS 4)) (Ŵ x2 made kd at_ two A9 tx tl hd []) K=(Au 0 A9/\BF (.list []) (Ad 0 (A9-0).toNat) (D7 (ð w) 24 Ey Zw 0) (Ay Zw.2.2) (Ŵ x2 made kd at_ two A9 tx tl hd []) (ł w hd K)):=by rfl'
def wC{k:Int}{ρ:List (Str×AV)}{H:List (Nat×Ÿ)}{m a:Nat}{R:St->Prop}:D7 (ð w) 24 Ey Zw 0 (.int k) ⟨[("made",.int made)],H,m,a⟩ R=An .append [.ref 0,.int (made+k)] ⟨[("made",.int made),("k",.int k)],H,m,a⟩ λ_ τ=>R τ:=by rfl'
def xS{k l:Int}{ρ:List (Str×AV)}{H:List (Nat×Ÿ)}{m a:Nat}{R:St->Prop}:D7 (ð w) 24 Ey Zw 0 (.int k) ⟨[("made",.int made),("k",.int l)],H,m,a⟩ R=An .append [.ref 0,.int (made+k)] ⟨[("made",.int made),("k",.int k)],H,m,a⟩ λ_ τ=>R τ:=by rfl'
def xN:ł w hd K (.ref 0) ⟨(Ŵ x2 made kd at_ two A9 tx tl hd []).ρ,[(0,.list M)],1,0⟩=(AF (hd.length+M.length)/\AF ((hd++M).length+tl.length)/\K (.ret (.tup [.lst (hd++M++tl),.lst [],.lst []])) ⟨(Ŵ x2 made kd at_ two A9 tx tl hd []).ρ,[(0,.list M)],1,0⟩):=by rfl'
def ŭ:wL (ð w) (ĕ w 29) (Ar (kS 5)) (Ŵ x2 made kd at_ two A9 tx tl hd []) K=((none:Option Int)≠some 0/\AF tl.length/\AF (hd.length+(AZ tl (some A9) none none).length)/\K (.ret (.tup [.lst (hd++AZ tl (some A9) none none),.lst [],.lst []])) (Ŵ x2 made kd at_ two A9 tx tl hd [])):=by rfl'
end
def Z9:CL:=Gf (G0 (kS 8))
abbrev TI:Prop:=(none:Option Int)≠some 0
section
variable{w:aC7}{x x2 made kd at_ two A9 n:Int}{tx:List Int}{tl hd M p q rs:List AV}{th bk:AV}{r:List (Str×AV)}{K:ŏ}
def d2:wL (ð w) (ĕ w 29) (Ar (kS 6)) (Ŵ x2 made kd at_ two A9 tx tl hd []) K=(TI/\AF tl.length/\TI/\AF tl.length/\2=2/\wL (ð w) (ĕ w 29) ((Ar (kS 6)).drop 1) (Ŵ x2 made kd at_ two A9 tx tl hd [("q",.lst (AZ tl (some A9) (some (A9+two)) none)),("p",.lst (AZ tl none (some A9) none))]) K):=by rfl'
def zE:wL (ð w) (ĕ w 29) ((Ar (kS 6)).drop 1) (Ŵ x2 made kd at_ two A9 tx tl hd [("q",.lst q),("p",.lst p)]) K=(AF p.length/\AF q.length/\BX (decide ((q.length:Int)<=(p.length:Int))) (wL (ð w) (ĕ w 29) ((Ar (kS 6)).drop 2) (Ŵ x2 made kd at_ two A9 tx tl hd [("q",.lst q),("p",.lst p),("there",.lst q)]) K) (wL (ð w) (ĕ w 29) ((Ar (kS 6)).drop 2) (Ŵ x2 made kd at_ two A9 tx tl hd [("q",.lst q),("p",.lst p),("there",.lst p)]) K)):=by rfl'
def vP:wL (ð w) (ĕ w 29) ((Ar (kS 6)).drop 2) (Ŵ x2 made kd at_ two A9 tx tl hd [("q",.lst q),("p",.lst p),("there",th)]) K=(AF q.length/\AF p.length/\BX (decide ((p.length:Int)<=(q.length:Int))) (wL (ð w) (ĕ w 29) ((Ar (kS 6)).drop 3) (Ŵ x2 made kd at_ two A9 tx tl hd [("q",.lst q),("p",.lst p),("there",th),("back",.lst p)]) K) (wL (ð w) (ĕ w 29) ((Ar (kS 6)).drop 3) (Ŵ x2 made kd at_ two A9 tx tl hd [("q",.lst q),("p",.lst p),("there",th),("back",.lst q)]) K)):=by rfl'
def yB:wL (ð w) (ĕ w 29) ((Ar (kS 6)).drop 3) (Ŵ x2 made kd at_ two A9 tx tl hd [("q",.lst q),("p",.lst p),("there",th),("back",bk)]) K=(AF (hd.length+q.length)/\AF ((hd++q).length+p.length)/\TI/\AF tl.length/\AF ((hd++q++p).length+(AZ tl (some (A9+two)) none none).length)/\
  K (.ret (.tup [.lst (hd++q++p++AZ tl (some (A9+two)) none none),th,bk])) (Ŵ x2 made kd at_ two A9 tx tl hd [("q",.lst q),("p",.lst p),("there",th),("back",bk)])):=by rfl'
def Ē:wL (ð w) (ĕ w 29) (Ar (kS 7)) (Ŵ x2 made kd at_ two A9 tx tl hd []) K=(TI/\AF tl.length/\wL (ð w) (ĕ w 29) ((Ar (kS 7)).drop 1) (Ŵ x2 made kd at_ two A9 tx tl hd [("turned",.lst (AZ tl none (some (A9+two)) none))]) K):=by rfl'
def xZ:wL (ð w) (ĕ w 29) ((Ar (kS 7)).drop 1) (Ŵ x2 made kd at_ two A9 tx tl hd [("turned",.lst p)]) K=(some (-1:Int)≠some 0/\AF p.length/\AF (hd.length+(AZ p none none (some (-1))).length)/\TI/\AF tl.length/\AF ((hd++AZ p none none (some (-1))).length+(AZ tl (some (A9+two)) none none).length)/\TI/\AF p.length/\TI/\AF p.length/\
  K (.ret (.tup [.lst (hd++AZ p none none (some (-1))++AZ tl (some (A9+two)) none none),.lst (AZ p (some 1) none none),.lst (AZ p none (some (-1)) none)])) (Ŵ x2 made kd at_ two A9 tx tl hd [("turned",.lst p)])):=by rfl'
def ô:wL (ð w) (ĕ w 30) (DH.drop 8) (Ŵ x2 made kd at_ two A9 tx tl hd []) K=(Au 0 made/\BF (.list []) (Ad 0 (made-0).toNat) (D7 (ð w) 28 Ey Z9 0) (Ay Z9.2.2) (Ŵ x2 made kd at_ two A9 tx tl hd []) λv σ=>B8 (ws (ð w) Ey 29).A (CO (kS 8)) v σ λσ=>wL (ð w) (ĕ w 30) (DH.drop 9) σ K):=by rfl'
def Ì{R:St->Prop}:B8 (ws (ð w) Ey 29).A (CO (kS 8)) (.ref 0) ⟨(Ŵ x2 made kd at_ two A9 tx tl hd []).ρ,[(0,.list M)],1,0⟩ R=R ⟨(Ŵ x2 made kd at_ two A9 tx tl hd [("out",.ref 0)]).ρ,[(0,.list M)],1,0⟩:=by rfl'
def zR{k:Int}{H:List (Nat×Ÿ)}{m a:Nat}{R:St->Prop}:D7 (ð w) 28 Ey Z9 0 (.int k) ⟨[("text",.lst (ù tx))],H,m,a⟩ R=Ap (Bc (ù tx)) λks=>BX (!decide (AD.int k∈ks)) (An .append [.ref 0,.int k] ⟨[("text",.lst (ù tx)),("line",.int k)],H,m,a⟩ λ_ τ=>R τ) (R ⟨[("text",.lst (ù tx)),("line",.int k)],H,m,a⟩):=by rfl'
def v4{k l:Int}{H:List (Nat×Ÿ)}{m a:Nat}{R:St->Prop}:D7 (ð w) 28 Ey Z9 0 (.int k) ⟨[("text",.lst (ù tx)),("line",.int l)],H,m,a⟩ R=Ap (Bc (ù tx)) λks=>BX (!decide (AD.int k∈ks)) (An .append [.ref 0,.int k] ⟨[("text",.lst (ù tx)),("line",.int k)],H,m,a⟩ λ_ τ=>R τ) (R ⟨[("text",.lst (ù tx)),("line",.int k)],H,m,a⟩):=by rfl'
def zX:wL (ð w) (ĕ w 30) (DH.drop 9) ⟨(Ŵ x2 made kd at_ two A9 tx tl hd [("out",.ref 0)]).ρ,[(0,.list M)],1,0⟩ K=((16:Int)≠0/\kJ x2 16/\AF M.length/\(M.length:Int)+1≠0/\wL (ð w) (ĕ w 30) (DH.drop 10) ⟨(Ŵ x2 made kd at_ two A9 tx tl hd [("out",.ref 0),("first",.int ((x2.fdiv 16).fmod ((M.length:Int)+1)))]).ρ,[(0,.list M)],1,0⟩ K):=by rfl'
def yT:wL (ð w) (ĕ w 30) (DH.drop 10) ⟨(Ŵ x2 made kd at_ two A9 tx tl hd [("out",.ref 0),("first",.int n)]).ρ,[(0,.list M)],1,0⟩ K=(TI/\AF M.length/\AF (hd.length+(AZ M (some n) (some (n+A9)) none).length)/\AF ((hd++AZ M (some n) (some (n+A9)) none).length+tl.length)/\
  K (.ret (.tup [.lst (hd++AZ M (some n) (some (n+A9)) none++tl),.lst [],.lst []])) ⟨(Ŵ x2 made kd at_ two A9 tx tl hd [("out",.ref 0),("first",.int n)]).ρ,[(0,.list M)],1,0⟩):=by rfl'
end
theorem Ju{α:Type}(vs:List α)(a:Nat) :∀n,((aC2 n).filterMap λk=>vs[a+k]?)=(vs.drop a).take n
 | 0=>rfl
 | n+1=>by
  rw[aQ0,aT6,Ju vs a n,bD6,aK0]
  congr 1
def Di{α:Type}(vs:List α)(a b:Nat):(sliceRange (a:Int) (b:Int) 1).filterMap (vs[·]?)=(vs.drop a).take (b-a):=by
 unfold sliceRange
 simp only[show((1:Int)>0)=True from by simp,if_true]
 have e:((if(a:Int)<(b:Int)then((b:Int)-(a:Int)+1-1) / 1 else 0).toNat)=b-a:=by
  split
  ·rw[bF8];exists 3,0x21b0208181820f10fbabe00f58,(aD1 _)
  ·rename_i u0;exists 3,0x1b220808e20f5810f00f498,u0,(aD1 _)
 rw[e,List.filterMap_map,<-Ju]
 congr 1
 funext k
 show vs[((a:Int)+1*(k:Int)).toNat]?=_
 congr 1
 exists 3,0x21a020820f01c10fae00f58,(aD1 _)
def Bk{α:Type}(vs:List α)(k:Nat):AZ vs (some (k:Int)) none none=vs.drop k:=by
 unfold AZ sliceBounds
 simp only[bF3,show((1:Int)>0)=True from by simp,if_true,show ¬ ((k:Int)<0)by(exists 1,0x800f49),if_false]
 have e:max (0:Int) (min (k:Int) (vs.length:Int))=((min k vs.length:Nat):Int):=by exists 2,0x10d0f10f00fd08e5
 rw[e,Di]
 by_cases h:k<=vs.length
 ·rw[aT2 h,List.take_of_length_le (by rw[aG3];exact aB6 _)]
 ·rw[bE7 (by exists 2,0x1010098,h),aS3,List.drop_of_length_le (by exists 2,0x1010098,h)]
  simp
def CV{α:Type}(vs:List α)(k:Nat):AZ vs none (some (k:Int)) none=vs.take k:=by
 unfold AZ sliceBounds
 simp only[bF3,show((1:Int)>0)=True from by simp,if_true,show ¬ ((k:Int)<0)by(exists 1,0x800f49),if_false]
 have e:max (0:Int) (min (k:Int) (vs.length:Int))=((min k vs.length:Nat):Int):=by exists 2,0x10d0f10f00fd08e5
 rw[e]
 have:=Di vs 0 (min k vs.length)
 rw[show((0:Nat):Int)=0 from rfl]at this
 rw[this]
 simp
def Cg{α:Type}(vs:List α)(j k:Nat):AZ vs (some (j:Int)) (some (k:Int)) none=(vs.take k).drop j:=by
 unfold AZ sliceBounds
 simp only[bF3,show((1:Int)>0)=True from by simp,if_true,show ¬ ((k:Int)<0)by(exists 1,0x800f49),show ¬ ((j:Int)<0)by(exists 1,0x800f49),if_false]
 have e:max (0:Int) (min (k:Int) (vs.length:Int))=((min k vs.length:Nat):Int):=by exists 2,0x10d0f10f00fd08e5
 have e':max (0:Int) (min (j:Int) (vs.length:Int))=((min j vs.length:Nat):Int):=by exists 2,0x10d0f10f00fd08e5
 rw[e,e',Di]
 apply aU0
 intro i
 rw[aN6,aK0,aK0,aN6]
 by_cases h:j<=vs.length
 ·rw[aT2 h]
  by_cases q:j+i<k
  ·rw[bO2 q]
   split
   ·rfl
   ·rw[aH7];rename_i u0;exists 4,0x10a30032db1198210a18,q,u0
  ·rw[bO3 q,bO3 (by exists 4,0x32db119210a198,q)]
 ·rw[bE7 (Nat.le_of_not_le h)]
  have:vs[j+i]?=none:=aH7 (by exists 3,0x20a1010098,h)
  rw[this]
  have:vs[vs.length+i]?=none:=aH7 (by exists 2,0x10a00)
  rw[this]
  split<;>split<;>rfl
def PI{α:Type}(vs:List α):AZ vs none none (some (-1))=vs.reverse:=by
 have go :∀m,m<=vs.length->((aC2 m).filterMap λk=>vs[vs.length-1-k]?)=(vs.drop (vs.length-m)).reverse:=λm=>by
  induction m with
  | zero=>intro _;simp
  | succ m ih=>
   intro hm
   have h1:vs.length-1-m<vs.length:=by exists 2,0x10181bb11180a08,hm
   rw[aQ0,aT6,ih (by exists 2,0x1001180a08,hm),show vs.length-(m+1)=vs.length-1-m by(exists 2,0x1180bb181a0b2),aL2 h1,aQ7,show vs.length-1-m+1=vs.length-m by exists 2,0x1b180181bba21180a08,hm]
   simp[h1]
 have e:=go vs.length (aB6 _)
 rw[aP0,bH0]at e
 rw[<-e]
 unfold AZ sliceBounds sliceRange
 by_cases h0:vs.length=0
 ·have:=aO1 h0
  subst this
  rfl
 ·simp only[Option.getD_some]
  rw[bO3 (by decide:¬ ((-1:Int)>0)),bO3 (by decide:¬ ((-1:Int)>0)),bO3 (by decide:¬ ((-1:Int)>0)),bO2 (by exists 1,0x1800fb181f4080298,h0:(vs.length:Int)-1 > -1)]
  rw[show(((vs.length:Int)-1 - -1 - -1-1) / (- -1)).toNat=vs.length by rw[show(- -1:Int)=1 from rfl,bF8];(exists 2,0x1020818181f181f1810fbbbbe00f58,(aD1 _)),List.filterMap_map]
  have :∀m,m<=vs.length->(aC2 m).filterMap ((λx=>vs[x]?)∘λk:Nat=>((vs.length:Int)-1 + -1*(k:Int)).toNat)=(aC2 m).filterMap λk=>vs[vs.length-1-k]?:=λm=>by
   induction m with
   | zero=>intro _;rfl
   | succ m ih=>
    intro hm
    rw[aQ0,aT6,aT6,ih (by exists 2,0x1001180a08,hm)]
    congr 1
    show(match vs[((vs.length:Int)-1 + -1*(m:Int)).toNat]? with | none=>[] | some b=>[b])=(match vs[vs.length-1-m]? with | none=>[] | some b=>[b])
    rw[show((vs.length:Int)-1 + -1*(m:Int)).toNat=vs.length-1-m by omega]
  exact this _ (aB6 _)
def Er{α β:Type}(f:α->β)(vs:List α)(lo hi st:Option Int):AZ (vs.map f) lo hi st=(AZ vs lo hi st).map f:=by
 unfold AZ
 rw[aA6]
 induction sliceRange (sliceBounds lo hi st vs.length).1 (sliceBounds lo hi st vs.length).2.1 (sliceBounds lo hi st vs.length).2.2 with
 | nil=>rfl
 | cons a r ih=>
  rw[List.filterMap_cons,List.filterMap_cons,aB3]
  cases h:vs[a]? with
  | none=>exact ih
  | some b=>exact bO1 (f b :: ·) ih
def Br(l m:List Int):ù l++ù m=ù (l++m):=(aF1 ..).symm
def EL(l:List Int)(lo hi st:Option Int):AZ (ù l) lo hi st=ù (AZ l lo hi st):=Er ..
end Mine
end
namespace Mine
noncomputable def EV(made:Int)(m:Nat):List Int:=(aC2 m).map λ(k:Nat)=>made+(k:Int)
noncomputable def Cq(made:Int)(tx:List Int):List Int:=((aC2 made.toNat).map λ(k:Nat)=>(k:Int)).filter λl=>!decide (l∈tx)
def Ht(kd x2 made:Int)(A9 two:Nat)(tx hd tl:List Int):List Int×List Int:=
 if kd=0 then(hd++EV made A9++tl,[])
 else if kd=1 then(hd++tl.drop A9,[])
 else if kd=2 then(hd++(tl.take (A9+two)).drop A9++tl.take A9++tl.drop (A9+two),if((tl.take (A9+two)).drop A9).length<=(tl.take A9).length then(tl.take (A9+two)).drop A9 else tl.take A9)
 else if kd=3 then(hd++(tl.take (A9+two)).reverse++tl.drop (A9+two),(tl.take (A9+two)).drop 1)
 else(hd++((Cq made tx).take (((x2.fdiv 16).fmod ((Cq made tx).length+1)).toNat+A9)).drop ((x2.fdiv 16).fmod ((Cq made tx).length+1)).toNat++tl,[])
def Ax(x:Int)(tx:List Int)(made:Int):List Int×List Int:=
 Ht (x.fmod 5) ((x.fdiv 5).fdiv (tx.length+1)) made (1+((x.fdiv 5).fdiv (tx.length+1)).fmod 4).toNat (1+(((x.fdiv 5).fdiv (tx.length+1)).fdiv 4).fmod 4).toNat tx (tx.take ((x.fdiv 5).fmod (tx.length+1)).toNat) (tx.drop ((x.fdiv 5).fmod (tx.length+1)).toNat)
end Mine
section
open PySem PySem.W PyProof.Rows
namespace Mine
def Mz{fl:Bx}{σ:St}{r:AV}{Q:AV->List Ob->Prop}(hf:HD fl r)(hr:r.sub nn=some r)(hq:Q r []):AN 0 Q fl σ:=⟨r,σ,[],hf,.refl _,hr,rfl,CJ,λ_ _=>AA,hq⟩
def tN:Ay Zw.2.2=(["made"]:List Str)/\Ay Z9.2.2=(["text"]:List Str):=⟨by rfl',by rfl'⟩
def R5{α β:Type}(f:α->β)(l:List α):l.flatMap (λk=>[f k])=l.map f:=by
 induction l with
 | nil=>rfl
 | cons a r ih=>exact bO1 (f a :: ·) ih
def Ph(made:Int)(m:Nat):(aC2 m).flatMap (λk:Nat=>[AV.int (made+(0+(k:Int)))])=ù (EV made m):=by
 rw[R5]
 show _=aS2 _ (aS2 _ _)
 rw[aG4]
 exact aV6 λk _=>by show AV.int (made+(0+(k:Int)))=AV.int (made+(k:Int));rw[aI1]
def small{n:Nat}(h:n<=100000):AF n:=aA0 h (by decide)
section
variable{w:aC7}{x x2 made kd at_:Int}{A9 two:Nat}{tx tl hd:List Int}{Q:AV->List Ob->Prop}{q:CL}{f:Nat}{m:Nat}{ρ₀:List (Str×AV)}{R:AV->St->Prop}
def Sm(hm:m<=100)(hk:ρ₀.lookup ("made":Str)=some (AV.int made))
  (ht :∀(k:Int) H n a (R:St->Prop),D7 (ð w) f Ey q 0 (.int k) ⟨[("made",.int made)],H,n,a⟩ R=An .append [.ref 0,.int (made+k)] ⟨[("made",.int made),("k",.int k)],H,n,a⟩ λ_ τ=>R τ)
  (hu :∀(k l:Int) H n a (R:St->Prop),D7 (ð w) f Ey q 0 (.int k) ⟨[("made",.int made),("k",.int l)],H,n,a⟩ R=An .append [.ref 0,.int (made+k)] ⟨[("made",.int made),("k",.int k)],H,n,a⟩ λ_ τ=>R τ)
  (h:R (.ref 0) ⟨ρ₀,[(0,.list (ù (EV made m)))],1,0⟩):BF (.list []) (Ad 0 m) (D7 (ð w) f Ey q 0) (["made"]:List Str) ⟨ρ₀,[],0,0⟩ R:=by
 refine Fz (λk:Nat=>[AV.int (made+(0+(k:Int)))]) (λρ=>ρ=([("made",.int made)]:List (Str×AV))\/∃l:Int,ρ=([("made",.int made),("k",.int l)]:List (Str×AV))) (.inl ?_) (λρ H' n' hI=>?_) (aA0 (aB9 (AU ..)) (aA0 hm (by decide))) (λ_=>aB6 _) (λk v hv ρ L K hI hL hK=>?_) ?_
 ·show(aD9 [] (λv=>[(("made":Str),v)]) (ρ₀.lookup ("made":Str)):List (Str×AV))=_
  rw[hk]
 ·refine⟨?_,trivial⟩
  show ρ.lookup ("made":Str)=ρ₀.lookup ("made":Str)
  rw[hk]
  exact hI.elim (λe=>e▸rfl) λq=>q.elim λl e=>e▸rfl
 ·have hk':=(aA4.mp hv).1
  rw[AU]at hk'
  cases aA2 (hv.symm.trans (BM hk'))
  have go:=hK _ (.inr ⟨0+(k:Int),rfl⟩)
  exact hI.elim (λe=>e▸(ht _ _ _ _ _).mpr (CU hL go)) λq=>q.elim λl e=>e▸(hu _ _ _ _ _ _).mpr (CU hL go)
 ·rw[AU,Ph];exact h
def UL(tx:List Int)(l:List Nat):(l.flatMap λk:Nat=>bif decide ((k:Int)∈tx)then []else [AV.int (0+(k:Int))])=ù ((l.map λ(k:Nat)=>(k:Int)).filter λl=>!decide (l∈tx)):=by
 induction l with
 | nil=>rfl
 | cons a r ih=>
  rw[aZ3,aH8,ih]
  cases h:decide ((a:Int)∈tx)with
  | true=>rw[List.filter_cons_of_neg (by rw[h];decide)];rfl
  | false=>rw[List.filter_cons_of_pos (by rw[h];rfl)];show AV.int (0+(a:Int))::_=AV.int (a:Int)::_;rw[aI1];rfl
def Mt{k:Int}{tx:List Int}:decide (AD.int k∈tx.map AD.int)=decide (k∈tx):=decide_eq_decide.mpr ⟨λh=>(aI5.mp h).elim λa q=>AD.int.inj q.2▸q.1,λh=>bB9 h⟩
def UX(hm:made.toNat<=1000)(h1:made-0=made)(hk:ρ₀.lookup ("text":Str)=some (AV.lst (ù tx)))(h:R (.ref 0) ⟨ρ₀,[(0,.list (ù (Cq made tx)))],1,0⟩):BF (.list []) (Ad 0 (made-0).toNat) (D7 (ð w) 28 Ey Z9 0) (["text"]:List Str) ⟨ρ₀,[],0,0⟩ R:=by
 rw[h1]
 refine Fz (λk:Nat=>bif decide ((k:Int)∈tx)then []else [AV.int (0+(k:Int))]) (λρ=>ρ=([("text",.lst (ù tx))]:List (Str×AV))\/∃l:Int,ρ=([("text",.lst (ù tx)),("line",.int l)]:List (Str×AV))) (.inl ?_) (λρ H' n' hI=>?_) (aA0 (aB9 (AU ..)) (aA0 hm (by decide))) (λk=>by cases decide ((k:Int)∈tx)with | true=>exact aE9 _ | false=>exact aB6 _) (λk v hv ρ L K hI hL hK=>?_) ?_
 ·show(aD9 [] (λv=>[(("text":Str),v)]) (ρ₀.lookup ("text":Str)):List (Str×AV))=_
  rw[hk]
 ·refine⟨?_,trivial⟩
  show ρ.lookup ("text":Str)=ρ₀.lookup ("text":Str)
  rw[hk]
  exact hI.elim (λe=>e▸rfl) λq=>q.elim λl e=>e▸rfl
 ·have hk':=(aA4.mp hv).1
  rw[AU]at hk'
  cases aA2 (hv.symm.trans (BM hk'))
  have go:=hK _ (.inr ⟨0+(k:Int),rfl⟩)
  have fin:(Ap (Bc (ù tx)) λks=>BX (!decide (AD.int (0+(k:Int))∈ks)) (An .append [.ref 0,.int (0+(k:Int))] ⟨[("text",.lst (ù tx)),("line",.int (0+(k:Int)))],Al [] 0 (.list L),1,0⟩ λ_ τ=>K τ) (K ⟨[("text",.lst (ù tx)),("line",.int (0+(k:Int)))],Al [] 0 (.list L),1,0⟩)):=by
   rw[Mc]
   show BX (!decide (AD.int (0+(k:Int))∈tx.map AD.int)) _ _
   rw[Mt]
   rw[show decide ((0+(k:Int))∈tx)=decide ((k:Int)∈tx)from by rw[aI1]]
   cases hd:decide ((k:Int)∈tx)with
   | true=>rw[hd]at go;rw[show L++(bif true then []else [AV.int (0+(k:Int))])=L from aF9 L]at go;exact go
   | false=>rw[hd]at go;exact CU hL go
  exact hI.elim (λe=>e▸zR.mpr fin) λq=>q.elim λl e=>e▸v4.mpr fin
 ·rw[AU,UL];exact h
def TU{P:Pm}{S:ì}{r:List aF3}{a b c:List Int}{σ:St}(h:Q (.tup [.lst (ù a),.lst (ù b),.lst (ù c)]) []):ø P S r (AN 0 Q) (.ret (.tup [.lst (ù a),.lst (ù b),.lst (ù c)])) σ:=
 Mz (fl:=.ret _) rfl (AL (AI (B0 a) (AI (B0 b) (AI (B0 c) rfl)))) h
def gP{a b c:List Int}{σ:St}(h:Q (.tup [.lst (ù a),.lst (ù b),.lst (ù c)]) []):AN 0 Q (.ret (.tup [.lst (ù a),.lst (ù b),.lst (ù c)])) σ:=
 Mz (fl:=.ret _) rfl (AL (AI (B0 a) (AI (B0 b) (AI (B0 c) rfl)))) h
def B9:TI:=λz=>nomatch z
def ğ(l:List Int){n:Nat}(h:l.length<=n)(hn:n<=100000:=by decide):AF (ù l).length:=small ((DY l).symm▸aA0 h hn)
def Ti{i j:Int}{p:Prop}(h:¬ AD.int i=AD.int j)(f:¬ i=j->p):p:=f λe=>h (bO1 AD.int e)
def SO(ho:A9<=4)(hw:two<=4)(hx:tx.length<=1000)(hh:hd.length<=1000)(hl:tl.length<=1000)(hm:0<=made/\made<=1000)(hq :∀bk,Q (.tup [.lst (ù (Ht kd x2 made A9 two tx hd tl).1),.lst (ù (Ht kd x2 made A9 two tx hd tl).2),.lst (ù bk)]) []) :
  wL (ð w) (ĕ w 30) (DH.drop 4) (Ŵ x2 made kd at_ (two:Int) (A9:Int) tx (ù tl) (ù hd) []) (AN 0 Q):=by
 have lz :∀l:List Int,(ù l).length=l.length:=DY
 unfold Ht at hq
 rw[NP.1.1]
 refine Gp (λe=>?_) λe0=>Ti e0 λe0=>?_
 ·cases e
  rw[bO2 rfl]at hq
  rw[ŷ,tN.1]
  have e1:((A9:Int)-0).toNat=A9:=by exists 2,0x102080810fbe00f58,(aD1 _)
  refine⟨⟨by decide,by decide,by(exists 1,0xf0f424091f3),by exists 1,0xf4240900f348008,ho⟩,?_⟩
  rw[e1]
  refine Sm (aA0 ho (by decide)) rfl (λ_ _ _ _ _=>wC (ρ:=[])) (λ_ _ _ _ _ _=>xS (ρ:=[])) (xN.mpr ?_)
  have fl:(EV made A9).length=A9:=(aA6 ..).trans aF2
  refine⟨small (by rw[lz,lz,fl];exists 2,0x186a0901a00003e8910848008,ho,hh),small (by rw[aB2,lz,lz,lz,fl];exists 3,0x186a09201aa00003e892080003e8910848008,ho,hh,hl),?_⟩
  rw[Br,Br]
  exact TU (b:=[]) (c:=[]) (hq [])
 ·rw[bO3 e0]at hq
  rw[NP.1.2]
  refine Gp (λe=>?_) λe1=>Ti e1 λe1=>?_
  ·cases e
   rw[bO2 rfl]at hq
   rw[ŭ,Bk,show bA1 A9 (ù tl)=ù (tl.drop A9)from(aT5 ..).symm]
   refine⟨B9,ğ tl hl,small (by rw[lz,lz,aG3];exists 3,0x186a0921b0a00003e891080003e89008,hh,hl),?_⟩
   rw[Br]
   exact TU (b:=[]) (c:=[]) (hq [])
  ·rw[bO3 e1]at hq
   rw[NP.2.1]
   refine Gp (λe=>?_) λe2=>Ti e2 λe2=>?_
   ·cases e
    rw[bO2 rfl]at hq
    rw[d2,CV,show((A9:Int)+(two:Int))=((A9+two:Nat):Int)from rfl,Cg]
    refine⟨B9,ğ tl hl,B9,ğ tl hl,rfl,?_⟩
    rw[show bF2 A9 (ù tl)=ù (tl.take A9)from(aV9 ..).symm,show bA1 A9 (bF2 (A9+two) (ù tl))=ù ((tl.take (A9+two)).drop A9)from(bO1 (bA1 A9) (aV9 ..).symm).trans (aT5 ..).symm]
    generalize hp:tl.take A9=p at hq ⊢
    generalize hqq:(tl.take (A9+two)).drop A9=q at hq ⊢
    have lp:p.length<=4:=hp▸(aE4▸aA0 (Nat.min_le_left ..) ho)
    have lq:q.length<=16:=hqq▸(by rw[aG3,aE4];exists 3,0x1091201adb048008,hw)
    have fin :∀a b:List Int,(if q.length<=p.length then q else p)=a->wL (ð w) (ĕ w 29) ((Ar (kS 6)).drop 3) (Ŵ x2 made 2 at_ (two:Int) (A9:Int) tx (ù tl) (ù hd) [("q",.lst (ù q)),("p",.lst (ù p)),("there",.lst (ù a)),("back",.lst (ù b))]) (ø (ð w) (ĕ w 30) (DH.drop 7) (AN 0 Q)):=λa b ea=>by
     rw[yB,show((A9:Int)+(two:Int))=((A9+two:Nat):Int)from rfl,Bk,show bA1 (A9+two) (ù tl)=ù (tl.drop (A9+two))from(aT5 ..).symm,Br,Br]
     refine⟨small (by rw[lz,lz];exists 2,0x186a0910a000001091080003e89008,hh,lq),small (by rw[lz,lz,aB2];exists 3,0x186a09120aa00000109208481080003e89008,hh,lp,lq),B9,ğ tl hl,small (by rw[lz,lz,aB2,aB2,aG3];exists 6,0x186a0954a1b230aaa00000109308482080003e891080003e89008,hh,hl,lp,lq),?_⟩
     rw[Br]
     have:=hq b
     rw[ea]at this
     exact TU this
    have snd :∀a:List Int,(if q.length<=p.length then q else p)=a->wL (ð w) (ĕ w 29) ((Ar (kS 6)).drop 2) (Ŵ x2 made 2 at_ (two:Int) (A9:Int) tx (ù tl) (ù hd) [("q",.lst (ù q)),("p",.lst (ù p)),("there",.lst (ù a))]) (ø (ð w) (ĕ w 30) (DH.drop 7) (AN 0 Q)):=λa ea=>by
     rw[vP,lz,lz]
     exact⟨small (aA0 lq (by decide)),small (aA0 lp (by decide)),Gp (λ_=>fin a p ea) λ_=>fin a q ea⟩
    rw[zE,lz,lz]
    exact⟨small (aA0 lp (by decide)),small (aA0 lq (by decide)),Gp (λh=>snd q (bO2 (aJ7.mp h))) λh=>snd p (bO3 λz=>h (aJ7.mpr z))⟩
   ·rw[bO3 e2]at hq
    rw[NP.2.2]
    refine Gp (λe=>?_) λe3=>Ti e3 λe3=>?_
    ·cases e
     rw[bO2 rfl]at hq
     rw[Ē,show((A9:Int)+(two:Int))=((A9+two:Nat):Int)from rfl,CV,show bF2 (A9+two) (ù tl)=ù (tl.take (A9+two))from(aV9 ..).symm]
     refine⟨B9,ğ tl hl,?_⟩
     generalize hp:tl.take (A9+two)=p at hq ⊢
     have lp:p.length<=1000:=hp▸(aE4▸aA0 (bF4 ..) hl)
     rw[xZ,EL,PI,show((A9:Int)+(two:Int))=((A9+two:Nat):Int)from rfl,Bk,show bA1 (A9+two) (ù tl)=ù (tl.drop (A9+two))from(aT5 ..).symm,EL,show AZ p (some 1) none none=p.drop 1 from Bk p 1,EL,Br]
     refine⟨by decide,ğ p lp,small (by rw[lz,lz,aL4];exists 2,0x186a0910a00003e891080003e89008,hh,lp),B9,ğ tl hl,small (by rw[lz,lz,aB2,aL4,aG3];exists 5,0x186a0943a1b20aa00003e892080003e891080003e89008,hh,hl,lp),B9,ğ p lp,B9,ğ p lp,?_⟩
     rw[Br]
     exact TU (hq _)
    ·rw[bO3 e3]at hq
     rw[ô,tN.2]
     refine⟨⟨by decide,by decide,by(exists[],[_],0xf424091f300838,hm.1),by exists[],[_],0xf42409030003e89038,hm.2⟩,UX (by exists[_],[_],0x3e8900080e00f580003e89038,hm.2,(aD1 _)) (bC5 _) rfl ?_⟩
     rw[Ì,zX]
     have lo:(Cq made tx).length<=1000:=aA0 (List.length_filter_le ..) (aA0 (aB9 ((aA6 ..).trans aF2)) (by exists[_],[_],0x3e8900080e00f580003e89038,hm.2,(aD1 _)))
     rw[lz]
     have hn0:(0:Int)<=(x2.fdiv 16).fmod (((Cq made tx).length:Int)+1):=aM6 _ (by exists 1,0x1800fa084)
     refine⟨by decide,aJ9 (by decide),aA0 lo (by decide),by(exists 1,0x81800fa59),?_⟩
     rw[yT,lz]
     generalize hn:(x2.fdiv 16).fmod (((Cq made tx).length:Int)+1)=n at hq hn0 ⊢
     have en:n=(n.toNat:Int):=by exists[_],[_],0xf05080e00f5800838,hn0,(aD1 _)
     have em:n+(A9:Int)=((n.toNat+A9:Nat):Int):=by exists[_,_],[_],0x10a0f10f0a500f058,en
     rw[em]
     generalize hm2:n.toNat=j at hq em en ⊢
     rw[en,EL,Cg,lz,Br]
     have lx:(bA1 j (bF2 (j+A9) (Cq made tx))).length<=4:=by rw[aG3,aE4];exists 3,0x481201adb048008,ho
     generalize bA1 j (bF2 (j+A9) (Cq made tx))=M at hq lx ⊢
     refine⟨B9,aA0 lo (by decide),small (by rw[lz];exists 2,0x186a0910a0481080003e89008,hh,lx),small (by rw[lz,lz,aB2];exists 3,0x186a09120aa0482080003e891080003e89008,hh,hl,lx),?_⟩
     rw[Br]
     exact gP (b:=[]) (c:=[]) (hq [])
end
def M7:Ġ:=λas os Q=>∃(x:Int) (tx:List Int) (made:Int),as=[.int x,.lst (ù tx),.int made]/\os=[]/\tx.length<=1000/\(0<=made/\made<=1000)/\∀bk,Q (.tup [.lst (ù (Ax x tx made).1),.lst (ù (Ax x tx made).2),.lst (ù bk)]) []
def Uh{w:aC7}{d:Nat}:BG (Ű w) (ë w.params) (d+2) (.ref 251) M7:=
 PZ (show NX (Ű w) (ë w.params) (ð w) d Ĉ OX aM ME aI from Ur (λ_ _ e=>nomatch e) (λe=>nomatch e) (λe=>nomatch e) (λ_ e=>nomatch e)) (S5 _).2.2 (S5 _).1 (S5 _).2.1 (ps:=["x","text","made"]) (fuel:=30) (by decide) (by rfl') (WO λa b c=>by rfl') λas os Q hh=>by
  obtain⟨x,tx,made,ea,eo,hx,hm,hq⟩:=hh
  subst ea;subst eo
  refine⟨⟨rfl,CJ⟩,lG.mpr ?_⟩
  rw[DY]
  have hn:AF tx.length:=small (aA0 hx (by decide))
  have h1:((tx.length:Int)+1)≠0:=by exists 1,0x81800fa59
  have hz:=λi:Int=>aM6 i (by decide:(0:Int)<4)
  have hz2:=λi:Int=>aX3 i (by decide:(0:Int)<4)
  have hat:(0:Int)<=(x.fdiv 5).fmod ((tx.length:Int)+1):=aM6 _ (by exists 1,0x1800fa084)
  refine⟨by decide,by decide,aJ9 (by decide),rfl,hn,h1,hn,h1,aJ9 (by omega),rfl,by decide,by decide,aJ9 (by decide),by decide,rfl,B9,hn,B9,hn,rfl,?_⟩
  unfold Ax at hq
  generalize (x.fdiv 5).fmod ((tx.length:Int)+1)=at_ at hq hat ⊢
  generalize (x.fdiv 5).fdiv ((tx.length:Int)+1)=x2 at hq ⊢
  have ho:=hz x2;have ho2:=hz2 x2;have hw:=hz (x2.fdiv 4);have hw2:=hz2 (x2.fdiv 4)
  generalize x2.fmod 4=o at hq ho ho2 ⊢
  generalize (x2.fdiv 4).fmod 4=t at hq hw hw2 ⊢
  have ea:at_=(at_.toNat:Int):=by exists[_],[_],0xf05080e00f5800838,hat,(aD1 _)
  have eo:1+o=((1+o).toNat:Int):=by exists[_],[_],0xf018a508018ae00f5800838,ho,(aD1 _)
  have et:1+t=((1+t).toNat:Int):=by exists[_],[_],0xf018a508018ae00f5800838,hw,(aD1 _)
  have lo:(1+o).toNat<=4:=by exists[_],[_],0x480000f018a5848048,ho2,eo
  have lt:(1+t).toNat<=4:=by exists[_],[_],0x480000f018a5848048,hw2,et
  generalize (1+o).toNat=A9 at hq eo lo
  generalize (1+t).toNat=two at hq et lt
  generalize at_.toNat=n at hq ea
  rw[eo,et,ea,EL,EL,Bk,CV]
  exact SO lo lt hx (by rw[aE4];exists 2,0x3e8901d00003e89008,hx) (by rw[aG3];exists 2,0x3e8910b00003e89008,hx) hm hq
def Rh:List aF3:=(C2 Δ.main.body "_law_read").1
def O1:Scope:=(C2 Δ.main.body "_law_read").2
def Rj(P:aD6):(C9 P 256).body = .stmts Rh/\(C9 P 256).scope=O1/\BL P 256=true:=⟨by rfl',by rfl',by rfl'⟩
abbrev C0(w:aC7)(f:Nat):ì:=ER (ō w) O1 f
def fR:Expr×List aF3:=EY (Rh.getD 1 (.Pass AP))
def tK(w:aC7):AV->St->ŏ->Prop:=λv σ K=>(ws (ō w) O1 29).A fR.1 v σ λσ=>wL (ō w) (C0 w 29) fR.2 σ K
abbrev Ż(C A B N:AV)(now:Int)(M:List AV)(last:Str)(i j:Int)(tl:List (Str×AV)):St:=⟨("codes",C)::("old",A)::("new",B)::("notes",N)::("now",.int now)::("at",.tup [.int i,.int j])::("last",.str last)::("told",.ref 0)::tl,[(0,.list M)],1,0⟩
abbrev GF(t:Str)(i1 i2 j1 j2:Int):List (Str×AV):=[("tag",.str t),("i1",.int i1),("i2",.int i2),("j1",.int j1),("j2",.int j2)]
def jV(s:aF3):Expr:=(Qg s).2.1
def Ow(e:Expr):Expr:=(AY e).2.1.getD 0 (.Name ("":Str) AP)
def VV:aF3:=fR.2.getD 2 (.Pass AP)
def ć:CL:=Gf (Ow (jV ((Bj VV).getD 1 (.Pass AP))))
section
variable{w:aC7}{C A B N:AV}{L M:List AV}{now i j i1 i2 j1 j2:Int}{t last wd:Str}{K:ŏ}
def Ĳ:wL (ō w) (C0 w 30) Rh (A6 [("codes",.lst L),("old",A),("new",B),("notes",N),("now",.int now)] []) K =
  (3=3/\AC nn L=some L/\EM L (tK w) (wL (ō w) (C0 w 29) []) (Ż (.lst L) A B N now [] "" 0 0 []) (ø (ō w) (C0 w 30) (Rh.drop 2) K)):=by rfl'
def r1:tK w (Qp t i1 i2 j1 j2) (Ż C A B N now M last i j []) K=(5=5/\wL (ō w) (C0 w 29) fR.2 (Ż C A B N now M last i j (GF t i1 i2 j1 j2)) K):=by rfl'
abbrev Fh(t:Str)(i1 i2 j1 j2:Int)(wd:Str):List (Str×AV):=[("tag",.str t),("i1",.int i1),("i2",.int i2),("j1",.int j1),("j2",.int j2),("word",.str wd)]
def ś:wL (ō w) (C0 w 29) fR.2 (Ż C A B N now M last i j (GF t i1 i2 j1 j2)) K=BX (decide (i1<i2)) (BX (decide (j1<j2)) (wL (ō w) (C0 w 29) (fR.2.drop 1) (Ż C A B N now M last i j (Fh t i1 i2 j1 j2 "replace")) K) (wL (ō w) (C0 w 29) (fR.2.drop 1) (Ż C A B N now M last i j (Fh t i1 i2 j1 j2 "delete")) K))
  (BX (decide (j1<j2)) (wL (ō w) (C0 w 29) (fR.2.drop 1) (Ż C A B N now M last i j (Fh t i1 i2 j1 j2 "insert")) K) (wL (ō w) (C0 w 29) (fR.2.drop 1) (Ż C A B N now M last i j (Fh t i1 i2 j1 j2 "nothing")) K)):=by rfl'
def r3:wL (ō w) (C0 w 29) (fR.2.drop 1) (Ż C A B N now M last i j (Fh t i1 i2 j1 j2 wd)) K=BX (!(decide (AD.int i1=AD.int i)&&(decide (AD.int j1=AD.int j)&&true))) (K (.ret .none) (Ż C A B N now M last i j (Fh t i1 i2 j1 j2 wd))) (BX (!decide (AD.str last=AD.str "")) (BX (decide (AD.str t=AD.str "equal")==decide (AD.str last=AD.str "equal")) (K (.ret .none) (Ż C A B N now M last i j (Fh t i1 i2 j1 j2 wd))) (wL (ō w) (C0 w 29) (fR.2.drop 2) (Ż C A B N now M last i j (Fh t i1 i2 j1 j2 wd)) K)) (wL (ō w) (C0 w 29) (fR.2.drop 2) (Ż C A B N now M last i j (Fh t i1 i2 j1 j2 wd)) K)):=by rfl'
def Ċ:wL (ō w) (C0 w 29) (fR.2.drop 2) (Ż C A B N now M last i j (Fh t i1 i2 j1 j2 wd)) K=BX (decide (AD.str t=AD.str "equal")) (wL (ō w) (C0 w 28) (Ar VV) (Ż C A B N now M last i j (Fh t i1 i2 j1 j2 wd)) (ø (ō w) (C0 w 29) (fR.2.drop 3) K)) (wL (ō w) (C0 w 28) (Bj VV) (Ż C A B N now M last i j (Fh t i1 i2 j1 j2 wd)) (ø (ō w) (C0 w 29) (fR.2.drop 3) K)):=by rfl'
def r5:wL (ō w) (C0 w 28) (Ar VV) (Ż C A B N now M last i j (Fh t i1 i2 j1 j2 wd)) K=BX (!decide (AD.str wd=AD.str "replace")) (K (.ret .none) (Ż C A B N now M last i j (Fh t i1 i2 j1 j2 wd))) (PH A (.int i1) (.int i2) .none (Ż C A B N now M last i j (Fh t i1 i2 j1 j2 wd)) λu σ=>PH B (.int j1) (.int j2) .none σ λv σ=>GJ .NotEq u v σ λr σ=>Ce r σ λc σ=>BX c (K (.ret .none) σ) (wL (ō w) (C0 w 28) ((Ar VV).drop 1) σ K)):=by rfl'
def Ķ:wL (ō w) (C0 w 28) (Bj VV) (Ż C A B N now M last i j (Fh t i1 i2 j1 j2 wd)) K=BX (!decide (AD.str t=AD.str wd)) (K (.ret .none) (Ż C A B N now M last i j (Fh t i1 i2 j1 j2 wd))) (wL (ō w) (C0 w 28) ((Bj VV).drop 1) (Ż C A B N now M last i j (Fh t i1 i2 j1 j2 wd)) K):=by rfl'
def ė{H:List (Nat×Ÿ)}{n:Nat}:wL (ō w) (C0 w 29) (fR.2.drop 3) ⟨(Ż C A B N now M last i j (Fh t i1 i2 j1 j2 wd)).ρ,H,n,0⟩ K=(2=2/\K .next ⟨(Ż C A B N now M t i2 j2 (Fh t i1 i2 j1 j2 wd)).ρ,H,n,0⟩):=by rfl'
def é{ns:List Int}:wL (ō w) (C0 w 28) ((Ar VV).drop 1) (Ż C A B (.lst (ù ns)) now M last i j (Fh t i1 i2 j1 j2 wd)) K=((none:Option Int)≠some 0/\AF (ù ns).length/\AF M.length/\M.length+(AZ (ù ns) (some i1) (some i2) none).length<=1000000/\K .next (Ż C A B (.lst (ù ns)) now (M++AZ (ù ns) (some i1) (some i2) none) last i j (Fh t i1 i2 j1 j2 wd))):=by rfl'
def Ψ:wL (ō w) (C0 w 28) ((Bj VV).drop 1) (Ż C A B N now M last i j (Fh t i1 i2 j1 j2 wd)) K=(Au j1 j2/\BF (.list []) (Ad j1 (j2-j1).toNat) (D7 (ō w) 25 O1 ć 1) (Ay ć.2.2) (Ż C A B N now M last i j (Fh t i1 i2 j1 j2 wd)) λu σ=>Do (ō w) (.fn .extend) [.ref 0,u] σ λ_ σ=>K .next σ):=by rfl'
def u6{k:Int}{ρ:List (Str×AV)}{H:List (Nat×Ÿ)}{m a:Nat}{R:St->Prop}:D7 (ō w) 25 O1 ć 1 (.int k) ⟨[("now",.int now)],H,m,a⟩ R=An .append [.ref 1,.int now] ⟨[("now",.int now),("j",.int k)],H,m,a⟩ λ_ τ=>R τ:=by rfl'
def xT{k l:Int}{ρ:List (Str×AV)}{H:List (Nat×Ÿ)}{m a:Nat}{R:St->Prop}:D7 (ō w) 25 O1 ć 1 (.int k) ⟨[("now",.int now),("j",.int l)],H,m,a⟩ R=An .append [.ref 1,.int now] ⟨[("now",.int now),("j",.int k)],H,m,a⟩ λ_ τ=>R τ:=by rfl'
def w5{M2:List AV}{ρ:List (Str×AV)}{Q:AV->St->Prop}:Do (ō w) (.fn .extend) [.ref 0,.ref 1] ⟨ρ,[(0,.list M),(1,.list M2)],2,0⟩ Q=(AF M.length/\M.length+M2.length<=1000000/\Q .none ⟨ρ,[(0,.list (M++M2)),(1,.list M2)],2,0⟩):=by rfl'
def Ú:Ay ć.2.2=(["now"]:List Str):=by rfl'
end
noncomputable def cut{α:Type}(l:List α)(a b:Nat):List α:=(l.take b).drop a
structure V0(A B:AV)(la lb:List AD):Prop where
 sa:IJ A la
 sb:IJ B lb
 ne :∀{i1 i2 j1 j2:Nat} {σ:St} {R:Bool->St->Prop},(i1<=i2/\i2<=la.length)->(j1<=j2/\j2<=lb.length)->(la.length<=100000/\lb.length<=100000)->cut la i1 i2=cut lb j1 j2->R false σ->
  PH A (.int (Ŕ i1)) (.int (Ŕ i2)) .none σ λu σ=>PH B (.int (Ŕ j1)) (.int (Ŕ j2)) .none σ λv σ=>GJ .NotEq u v σ λr σ=>Ce r σ R
def Gl{n:Nat}{x:AD}:HS (n+1) (.key x) (.key x)=some true:=by
 show GH (some (decide (x=x))) (S4 (HS n) (.key x) (.key x))=_
 rw[bO5 rfl];rfl
def EN{f:AV->AV->Option Bool}{l:List AV}(h :∀a∈l,f a a=some true):DB f l l=some true:=by
 induction l with
 | nil=>rfl
 | cons a r ih=>
  show(f a a).bind (λx=>(DB f r r).map (x && ·))=_
  rw[h a (aB4 ..),ih λb hb=>h b (aC1 _ hb)];rfl
def QE{l:List AD}{a b:Nat}:AZ (ű l) (some (Ŕ a)) (some (Ŕ b)) none=ű (cut l a b):=(Er ..).trans (bO1 _ (Cg l a b))
def Ng{a b:AV}{σ:St}{R:Bool->St->Prop}(q:F9 σ a b=some true)(h:R false σ):GJ .NotEq a b σ λr σ=>Ce r σ R:=by
 have z:Ap (F9 σ a b) λr=>Ce (.bool (!r)) σ R:=by rw[q];exact h
 exact z
def R7(la lb:List AD):V0 (.lst (ű la)) (.lst (ű lb)) la lb where
 sa:=Fx la
 sb:=Fx lb
 ne:=λ{i1 i2 j1 j2 σ R} hi hj hz e h=>by
  refine⟨B9,aA0 (aB9 (GI la)) (aA0 hz.1 (by decide)),⟨B9,aA0 (aB9 (GI lb)) (aA0 hz.2 (by decide)),?_⟩⟩
  rw[QE,QE,e]
  have q:F9 σ (.lst (ű (cut lb j1 j2))) (.lst (ű (cut lb j1 j2)))=some true:=by
   show GH (DB (HS 8) (ű (cut lb j1 j2)) (ű (cut lb j1 j2))) (GH none none)=_
   rw[EN λa ha=>by obtain⟨x,_,rfl⟩:=aI5.mp ha;exact Gl]
   rfl
  exact Ng q h
def I8{s:Str}{a b:Nat}(h:a<=b)(hb:b<=s.cps.size):(H0 s (some (Ŕ a)) (some (Ŕ b))).cps.toList=cut s.cps.toList a b:=by
 have e:aK3 (some (Ŕ a)) (some (Ŕ b)) 1 s.length=sliceRange (a:Int) (b:Int) 1:=by
  have hl:s.length=s.cps.size:=rfl
  have ia:Ŕ a=(a:Int):=rfl
  have ib:Ŕ b=(b:Int):=rfl
  unfold aK3
  simp only[show((1:Int)>0)=True from by simp,if_true,hl]
  rw[ia,ib,bO3 (show ¬ ((a:Int)<0)by exists 1,0x800f49),bO3 (show ¬ ((b:Int)<0)by exists 1,0x800f49)]
  rw[show max (0:Int) (min (a:Int) (s.cps.size:Int))=(a:Int)by(exists 3,0xf20f00fd08e521081008,h,hb),show max (0:Int) (min (b:Int) (s.cps.size:Int))=(b:Int)by exists 2,0xf10f00fd08e51008,hb]
 have w:(sliceRange (a:Int) (b:Int) 1).filterMap (s.cps[·]?)=cut s.cps.toList a b:=by
  have:=Di s.cps.toList a b
  rw[show(λk:Nat=>s.cps[k]?)=λk=>s.cps.toList[k]? from funext λk=>aN0.symm,this]
  unfold cut
  rw[bD1]
 have ln:(sliceRange (a:Int) (b:Int) 1).length=b-a:=by
  unfold sliceRange
  rw[aA6,aF2,bO2 (by decide)]
  split
  ·rw[bF8];exists 3,0x21b0208181820f10fbabe00f58,(aD1 _)
  ·rename_i u0;exists 3,0x1b220808e20f5810f00f498,u0,(aD1 _)
 unfold H0
 rw[e]
 cases hq:(sliceRange (a:Int) (b:Int) 1).length==s.length with
 | false=>exact w
 | true=>
  have:b-a=s.cps.size:=by rw[<-ln];exact aE6 hq
  show s.cps.toList=_
  unfold cut
  rw[show a=0 by(exists 3,0x802201b2821081008,h,hb,this),show b=s.cps.toList.length by rw[aO9];(exists 3,0x102120b281008,hb,this),aR8];rfl
def ND{x y:Str}(h:x.cps.toList=y.cps.toList):x=y:=by
 obtain⟨⟨x⟩⟩:=x;obtain⟨⟨y⟩⟩:=y;cases h;rfl
def N4{α β:Type}(f:α->β)(l:List α)(a b:Nat):cut (l.map f) a b=(cut l a b).map f:=by unfold cut;rw[aT5,aV9]
def TP{l m:List Nat}(h:(l.map λc=>AD.str ⟨#[c]⟩)=m.map λc=>AD.str ⟨#[c]⟩):l=m:=(List.map_inj_right λa b e=>by injection e with e;injection e with e;injection e with e;injection e).mp h
def Ry(s t:Str):V0 (.txt s) (.txt t) (DA s) (DA t) where
 sa:=EK s
 sb:=EK t
 ne:=λ{i1 i2 j1 j2 σ R} hi hj hz e h=>by
  rw[Em]at hi hj
  rw[Em,Em]at hz
  unfold DA at e
  rw[N4,N4]at e
  have e:=TP e
  have c1:=I8 hi.1 hi.2
  have ĳ:=I8 hj.1 hj.2
  have eq:H0 s (some (Ŕ i1)) (some (Ŕ i2))=H0 t (some (Ŕ j1)) (some (Ŕ j2)):=ND (c1.trans (e.trans ĳ.symm))
  have len :∀{s:Str} {a b:Nat},s.cps.size<=100000->(H0 s (some (Ŕ a)) (some (Ŕ b))).cps.toList=cut s.cps.toList a b->(H0 s (some (Ŕ a)) (some (Ŕ b))).length<=1000000:=λ{s a b} hs c=>by
   show(H0 s (some (Ŕ a)) (some (Ŕ b))).cps.size<=_
   rw[<-aO9,c]
   unfold cut
   rw[aG3,aE4,aO9]
   exists 3,0xf42409201db00186a09008,hs
  refine⟨⟨rfl,len hz.1 c1⟩,⟨⟨rfl,len hz.2 ĳ⟩,?_⟩⟩
  rw[eq]
  generalize H0 t (some (Ŕ j1)) (some (Ŕ j2))=v
  have q:F9 σ (.str v) (.str v)=some true:=by
   show GH (some (decide (AD.str v=AD.str v))) (GH none (GH none (GH none none)))=_
   rw[bO5 rfl];rfl
  exact Ng q h
inductive OK where
 | eq | rep | del | ins
noncomputable def OK.str:OK->Str
 | .eq=>"equal"
 | .rep=>"replace"
 | .del=>"delete"
 | .ins=>"insert"
noncomputable def OK.isEq:OK->Bool
 | .eq=>true
 | _=>false
structure Op where
 k:OK
 i1:Nat
 i2:Nat
 j1:Nat
 j2:Nat
def F0(o:Op):AV:=Qp o.k.str (Ŕ o.i1) (Ŕ o.i2) (Ŕ o.j1) (Ŕ o.j2)
def Op.ok(la lb:List AD)(o:Op):Prop:=((o.i1<=o.i2/\o.i2<=la.length)/\(o.j1<=o.j2/\o.j2<=lb.length))/\(match o.k with
 | .eq=>(o.i1<o.i2/\o.j1<o.j2)/\cut la o.i1 o.i2=cut lb o.j1 o.j2
 | .rep=>o.i1<o.i2/\o.j1<o.j2
 | .del=>o.i1<o.i2/\¬ o.j1<o.j2
 | .ins=>¬ o.i1<o.i2/\o.j1<o.j2)
def Vd(la lb:List AD):Nat->Nat->Option Bool->List Op->Prop
 | i,j,_,[]=>i=la.length/\j=lb.length
 | i,j,l,o::r=>(o.i1=i/\o.j1=j)/\l≠some o.k.isEq/\o.ok la lb/\Vd la lb o.i2 o.j2 (some o.k.isEq) r
noncomputable def Z7(ns:List Int)(now:Int)(o:Op):List Int:=if o.k.isEq then cut ns o.i1 o.i2 else aM0 (o.j2-o.j1) now
noncomputable def FN(ns:List Int)(now:Int)(ops:List Op):List Int:=ops.flatMap (Z7 ns now)
def Jj(l:Option Bool)(last:Str):Prop:=match l with
 | none=>last = ""
 | some b=>last≠""/\decide (AD.str last=AD.str "equal")=b
noncomputable def OK.word:OK->Str
 | .eq=>"replace"
 | k=>k.str
section
variable{w:aC7}{C A B:AV}{la lb:List AD}{ns M:List Int}{now i j:Int}{last:Str}{K:ŏ}{o:Op}{l:Option Bool}
def Jh{k:OK}:Jj (some k.isEq) k.str:=by cases k<;>exact⟨by decide,by decide⟩
def UR{N:AV}{M:List AV}(h:o.ok la lb)(q:wL (ō w) (C0 w 29) (fR.2.drop 1) (Ż C A B N now M last i j (Fh o.k.str (Ŕ o.i1) (Ŕ o.i2) (Ŕ o.j1) (Ŕ o.j2) o.k.word)) K) :
  wL (ō w) (C0 w 29) fR.2 (Ż C A B N now M last i j (GF o.k.str (Ŕ o.i1) (Ŕ o.i2) (Ŕ o.j1) (Ŕ o.j2))) K:=by
 obtain⟨k,i1,i2,j1,j2⟩:=o
 rw[ś]
 have lt :∀{a b:Nat},a<b->Ŕ a<Ŕ b:=λh=>aC8.mpr h
 have nl :∀{a b:Nat},¬ a<b->¬ Ŕ a<Ŕ b:=λh z=>h (aC8.mp z)
 cases k with
 | eq=>rw[bO5 (lt h.2.1.1),bO5 (lt h.2.1.2)];exact q
 | rep=>rw[bO5 (lt h.2.1),bO5 (lt h.2.2)];exact q
 | del=>rw[bO5 (lt h.2.1),bO6 (nl h.2.2)];exact q
 | ins=>rw[bO6 (nl h.2.1),bO5 (lt h.2.2)];exact q
def eU{N:AV}{M:List AV}{wd:Str}(hl:Jj l last)(hn:l≠some o.k.isEq)(q:wL (ō w) (C0 w 29) (fR.2.drop 2) (Ż C A B N now M last (Ŕ o.i1) (Ŕ o.j1) (Fh o.k.str (Ŕ o.i1) (Ŕ o.i2) (Ŕ o.j1) (Ŕ o.j2) wd)) K) :
  wL (ō w) (C0 w 29) (fR.2.drop 1) (Ż C A B N now M last (Ŕ o.i1) (Ŕ o.j1) (Fh o.k.str (Ŕ o.i1) (Ŕ o.i2) (Ŕ o.j1) (Ŕ o.j2) wd)) K:=by
 have h1:(!(decide (AD.int (Ŕ o.i1)=AD.int (Ŕ o.i1))&&(decide (AD.int (Ŕ o.j1)=AD.int (Ŕ o.j1))&&true)))=false:=by rw[bO5 (p:=AD.int (Ŕ o.i1)=AD.int (Ŕ o.i1)) rfl,bO5 (p:=AD.int (Ŕ o.j1)=AD.int (Ŕ o.j1)) rfl];rfl
 refine r3.mpr (Bz h1 ?_)
 cases l with
 | none=>
  have h2:(!decide (AD.str last=AD.str ""))=false:=by rw[show last = "" from hl];decide
  exact Bz h2 q
 | some b=>
  have h2:(!decide (AD.str last=AD.str ""))=true:=by rw[bO6 (p:=AD.str last=AD.str "") λz=>hl.1 (AD.str.inj z)];rfl
  have h3:(decide (AD.str o.k.str=AD.str "equal")==decide (AD.str last=AD.str "equal"))=false:=by
   rw[hl.2,show decide (AD.str o.k.str=AD.str "equal")=o.k.isEq from(Jh (k:=o.k)).2]
   exact beq_eq_false_iff_ne.mpr λz=>hn (bO1 some z.symm)
  exact EX h2 (Bz h3 q)
abbrev ŵ(C A B N:AV)(now:Int)(M:List AV)(last:Str)(i j:Int):St:=⟨[("codes",C),("old",A),("new",B),("notes",N),("now",.int now),("at",.tup [.int i,.int j]),("last",.str last),("told",.lst M)],[],0,0⟩
def rI(C A B:AV)(la lb:List AD)(ns:List Int)(now:Int)(ops:List Op)(k:Nat)(σ:St):Prop:=
 (k<ops.length->∃(i j:Nat) (l:Option Bool) (last:Str) (M:List Int),σ=Ż C A B (.lst (ù ns)) now (ù M) last (Ŕ i) (Ŕ j) []/\Jj l last/\Vd la lb i j l (ops.drop k)/\M++FN ns now (ops.drop k)=FN ns now ops)/\
 (k=ops.length->∃last,σ=ŵ C A B (.lst (ù ns)) now (ù (FN ns now ops)) last (Ŕ la.length) (Ŕ lb.length))
def U9(hC:C.sub nn=some C)(hA:A.sub nn=some A)(hB:B.sub nn=some B):Aa (Ż C A B (.lst (ù ns)) now (ù M) last i j []) (ŵ C A B (.lst (ù ns)) now (ù M) last i j):=
 .re [] [(0,.lst (ù M))] rfl rfl rfl rfl (BA rfl rfl rfl (B0 _) CP) (Ai rfl (AK _ _ hC) (Ai rfl (AK _ _ hA) (Ai rfl (AK _ _ hB) (Ai rfl (AK _ _ (B0 ns)) (Ai rfl rfl (Ai rfl rfl (Ai rfl rfl (Ai rfl rfl BZ)))))))) BY
def Vy{ops:List Op}{k i j:Nat}(hC:C.sub nn=some C)(hA:A.sub nn=some A)(hB:B.sub nn=some B)(hk:k<=ops.length)(hl:Jj l last)(hV:Vd la lb i j l (ops.drop k))(hM:M++FN ns now (ops.drop k)=FN ns now ops) :
  ∃τ,Aa (Ż C A B (.lst (ù ns)) now (ù M) last (Ŕ i) (Ŕ j) []) τ/\rI C A B la lb ns now ops k τ:=
 (aP5 hk).elim (λh=>⟨_,.refl _,λ_=>⟨i,j,l,last,M,rfl,hl,hV,hM⟩,λe=>bO4 e (aE2 h)⟩) λh=>by
  rw[h,aS3]at hV hM
  obtain⟨rfl,rfl⟩:=hV
  exact⟨_,U9 hC hA hB,λz=>bO4 h (aE2 z),λ_=>⟨last,by rw[<-hM,show FN ns now []=[]from rfl,aF9]⟩⟩
def Yv{L:List AV}{t:List (Str×AV)}(hC:C.sub nn=some C)(hA:A.sub nn=some A)(hB:B.sub nn=some B):Aa ⟨(Ż C A B (.lst (ù ns)) now [] last i j t).ρ,[(0,.list (ù M)),(1,.list L)],2,0⟩ (Ż C A B (.lst (ù ns)) now (ù M) last i j []):=
 .re [0] [] rfl rfl rfl rfl CP (Ai rfl (AK _ _ hC) (Ai rfl (AK _ _ hA) (Ai rfl (AK _ _ hB) (Ai rfl (AK _ _ (B0 ns)) (Ai rfl rfl (Ai rfl rfl (Ai rfl rfl (Ai rfl rfl BZ)))))))) (Fe rfl rfl (bO1 (aD4 Ÿ.list) (BN (Aq M))) BY)
def VB{t:List (Str×AV)}:Aa (Ż C A B (.lst (ù ns)) now (ù M) last i j t) (Ż C A B (.lst (ù ns)) now (ù M) last i j []):=
 .less (ρ:=(Ż C A B (.lst (ù ns)) now (ù M) last i j []).ρ++t) (λx v e=>Cr e) λ_ _=>id
def Qi(n:Nat):(aC2 n).flatMap (λ_:Nat=>[AV.int now])=ù (aM0 n now):=by
 rw[R5]
 show _=aS2 _ _
 rw[List.map_replicate,List.map_const',aF2]
def WU(l:List Int)(a b:Nat):AZ (ù l) (some (Ŕ a)) (some (Ŕ b)) none=ù (cut l a b):=(EL ..).trans (bO1 _ (Cg l a b))
def TR{ops:List Op}{k:Nat}{v:AV}{σ:St}(S:V0 A B la lb)(hC:C.sub nn=some C)(hz:la.length<=100000/\lb.length<=100000)(hns:ns.length<=100000)(hr:(FN ns now ops).length<=100000)(hv:(ops.map F0)[k]?=some v)(hI:rI C A B la lb ns now ops k σ) :
  tK w v σ (turn (λσ=>∃τ,Aa σ τ/\rI C A B la lb ns now ops (k+1) τ) K):=by
 obtain⟨o,ho,rfl⟩:=AH ((aB3 ..).symm.trans hv)
 have hk0:=(aA4.mp ho).1
 obtain⟨i,j,l,last,M,rfl,hl,hV,hM⟩:=hI.1 hk0
 rw[Dw ho]at hV hM
 obtain⟨⟨rfl,rfl⟩,hn,hk,hV⟩:=hV
 have hML :∀X:List Int,X++FN ns now (ops.drop (k+1))=FN ns now ops->X.length<=100000:=λX e=>aA0 (by rw[<-e,aB2];exact aD0 _ _) hr
 have hM':(M++Z7 ns now o)++FN ns now (ops.drop (k+1))=FN ns now ops:=by rw[aC9];exact hM
 have hl1:=hML _ hM'
 have hlM:M.length<=100000:=aA0 (by rw[aB2];exact aD0 _ _) hl1
 refine r1.mpr ⟨rfl,UR hk (eU hl hn ?_)⟩
 rw[Ċ]
 have lz :∀l:List Int,(ù l).length=l.length:=DY
 have fin:=Vy (C:=C) (A:=A) (B:=B) hC S.sa.shut S.sb.shut (aZ2 hk0) Jh hV hM'
 cases he:o.k.isEq with
 | true=>
  have e:o.k = .eq:=by obtain⟨k,i1,i2,j1,j2⟩:=o;cases k<;>first | rfl | cases he
  have hc:cut la o.i1 o.i2=cut lb o.j1 o.j2:=by
   have:=hk.2
   rw[e]at this
   exact this.2
  have er:Z7 ns now o=cut ns o.i1 o.i2:=bO2 he
  rw[er]at fin hl1
  rw[show decide (AD.str o.k.str=AD.str "equal")=true by rw[e];decide]
  refine EX rfl ?_
  rw[r5,e]
  refine Bz (by decide) (S.ne hk.1.1 hk.1.2 hz hc (Bz rfl ?_))
  rw[é,WU,lz,lz,lz,Br]
  rw[aB2]at hl1
  refine⟨B9,aA0 hns (by decide),aA0 hlM (by decide),aA0 hl1 (by decide),?_⟩
  rw[Ac]
  rw[e]at fin
  exact(ė (M:=[])).mpr ⟨rfl,fin.elim λτ q=>⟨τ,(VB (t:=Fh _ _ _ _ _ _)).trans q.1,q.2⟩⟩
 | false=>
  have er:Z7 ns now o=aM0 (o.j2-o.j1) now:=bO3 (by rw[he];exact aK6)
  rw[er]at fin hl1
  have wd:o.k.word=o.k.str:=by obtain⟨k,i1,i2,j1,j2⟩:=o;cases k<;>first | rfl | cases he
  rw[show decide (AD.str o.k.str=AD.str "equal")=false from(Jh (k:=o.k)).2.trans he,wd]
  refine Bz rfl ?_
  rw[Ķ,bO5 rfl]
  refine Bz rfl ?_
  rw[Ψ,Ú]
  have hj:=hk.1.2
  have e1:(Ŕ o.j2-Ŕ o.j1).toNat=o.j2-o.j1:=by show((o.j2:Int)-(o.j1:Int)).toNat=_;exact id (ql [_,_,_] 0x21b020820f10fbe00f58 (by rfl') (aD1 _))
  rw[aB2,List.length_replicate]at hl1
  refine⟨⟨by show(-1000000:Int)<=(o.j1:Int);exact id (ql [_] 0xf0f424091f3 (by rfl')),by show(o.j1:Int)<=1000000;exact id (ql [_,_,_] 0xf4240910f3020821080186a09008 (by rfl') hz.2 hj.1 hj.2),by show(-1000000:Int)<=(o.j2:Int);exact id (ql [_] 0xf0f424091f3 (by rfl')),by show(o.j2:Int)<=1000000;exact id (ql [_,_] 0xf4240910f301080186a09008 (by rfl') hz.2 hj.2)⟩,?_⟩
  rw[e1]
  refine Fz (λ_:Nat=>[AV.int now]) (λρ=>ρ=([("now",.int now)]:List (Str×AV))\/∃l:Int,ρ=([("now",.int now),("j",.int l)]:List (Str×AV))) (.inl rfl) (λρ H' n' hI=>⟨hI.elim (λe=>e▸rfl) λq=>q.elim λl e=>e▸rfl,trivial⟩) (aA0 (aB9 (AU ..)) (by exists 3,0xf4240921b00186a0921b0a08,hl1)) (λ_=>aB6 _) (λk v hv ρ L K hI hL hK=>?_) ?_
  ·have hk':=(aA4.mp hv).1
   rw[AU]at hk'
   cases aA2 (hv.symm.trans (BM hk'))
   have go:=hK _ (.inr ⟨Ŕ o.j1+(k:Int),rfl⟩)
   exact hI.elim (λe=>e▸(u6 (ρ:=[])).mpr (CU hL go)) λq=>q.elim λl e=>e▸(xT (ρ:=[])).mpr (CU hL go)
  ·rw[AU,Qi]
   refine w5.mpr ⟨aA0 (aB9 (lz M)) (aA0 hlM (by decide)),?_,?_⟩
   ·rw[lz,lz,List.length_replicate];exists 3,0xf4240921b0a00186a0921b0a08,hl1
   ·rw[Br,Ac]
    exact(ė (M:=[])).mpr ⟨rfl,fin.elim λτ q=>⟨τ,(Yv (t:=Fh _ _ _ _ _ _) hC S.sa.shut S.sb.shut).trans q.1,q.2⟩⟩
end
def Du(ops:List Op):AC nn (ops.map F0)=some (ops.map F0):=Df (λ_=>rfl) ops
inductive bZ(as:List AV)(os:List Ob)(Q:AV->List Ob->Prop):Prop
 | mk (A B:AV) (la lb:List AD) (ops:List Op) (ns:List Int) (now:Int) (h0:as=[.lst (ops.map F0),A,B,.lst (ù ns),.int now]) (h1:os=[]) (h2:V0 A B la lb) (h3:(la.length<=100000/\lb.length<=100000)) (h4:ns.length<=100000) (h5:(FN ns now ops).length<=100000) (h6:Vd la lb 0 0 none ops) (h7:Q (.lst (ù (FN ns now ops))) []):bZ as os Q
def KG:Ġ:=λas os Q=>bZ as os Q
def ZS{f:aV8}{p q r t u:Str}(h :∀a b c d e:Value,aS1 f ⟨[a,b,c,d,e],[]⟩=pure ([(p,a),(q,b),(r,c),(t,d),(u,e)])) :∀vas:List Value,vas.length=5->aS1 f ⟨vas,[]⟩=pure (([p,q,r,t,u]:List Str).zip vas):=
 GC λa=>GC λb=>GC λc=>GC λd=>GC λe=>V5 (h a b c d e)
def UB{i j:Int}{σ:St}{R:Bool->St->Prop}(h:R false σ):GJ .NotEq (.tup [.int i,.int j]) (.tup [.int i,.int j]) σ λr σ=>Ce r σ R:=by
 refine Ng ?_ h
 show GH (DB (HS 8) [.int i,.int j] [.int i,.int j]) none=_
 rw[EN λa ha=>by
  rcases aC4.mp ha with rfl | ha
  ·exact Gl
  ·rw[aB1.mp ha];exact Gl]
 rfl
def õ{w:aC7}{C A B N:AV}{M:List AV}{now i j:Int}{last:Str}{K:ŏ}:wL (ō w) (C0 w 30) (Rh.drop 2) (ŵ C A B N now M last i j) K=EU œ .len [A] (ŵ C A B N now M last i j) λu σ=>EU œ .len [B] σ λv σ=>GJ .NotEq (.tup [.int i,.int j]) (.tup [u,v]) σ λr σ=>Ce r σ λc σ=>BX c (K (.ret .none) σ) (K (.ret (.lst M)) σ):=by rfl'
def Ua{w:aC7}{d:Nat}:BG (Ű w) (ë w.params) (d+2) (.ref 256) KG:=
 PZ w0 (Rj _).2.2 (Rj _).1 (Rj _).2.1 (ps:=["codes","old","new","notes","now"]) (by decide) (by rfl') (ZS λa b c d e=>by rfl') λas os Q hh=>by
  obtain⟨A,B,la,lb,ops,ns,now,ea,eo,S,hz,hns,hr,hV,hq⟩:=hh
  subst ea;subst eo
  have hC:(AV.lst (ops.map F0)).sub nn=some (.lst (ops.map F0)):=AL (Du ops)
  obtain⟨τ,hw,hi⟩:=Vy (k:=0) (C:=.lst (ops.map F0)) (now:=now) hC S.sa.shut S.sb.shut (aE9 _) (l:=none) (last:="") (rfl:("":Str) = "") hV (M:=[]) (ns:=ns) rfl
  refine⟨⟨rfl,CJ⟩,Ĳ.mpr ⟨rfl,Du ops,rI (.lst (ops.map F0)) A B la lb ns now ops,⟨τ,hw,hi⟩,λk σ v hv hI=>TR S hC hz hns hr hv hI,λσ hI=>?_⟩⟩
  obtain⟨last,rfl⟩:=hI.2 (aA6 _)
  rw[Av,Ac,õ]
  refine S.sa.len (aD5 hz.1 (by decide)) (S.sb.len (aD5 hz.2 (by decide)) (UB (Bz rfl ?_)))
  exact Mz (fl:=.ret _) rfl (B0 _) hq
def Le(a b:AV):Prop:=∀(L:Ci) (G:ļ) (h:aE8) (n:Nat) (v:Value),Ab L G h n a v->Ab L G h n b v
def Ez(as bs:List AV):Prop:=∀(L:Ci) (G:ļ) (h:aE8) (n:Nat) (vs:List Value),AX L G h n as vs->AX L G h n bs vs
def Le.same{a:AV}:Le a a:=λ_ _ _ _ _ q=>q
def Ez.nil:Ez [] []:=λ_ _ _ _ _ q=>q
def Ez.cons{a b:AV}{as bs:List AV}(h:Le a b)(t:Ez as bs):Ez (a::as) (b::bs):=λL G hp n vs q=>by
 obtain⟨v,r,e,q1,ĉ⟩:=q
 exact⟨v,r,e,h L G hp n v q1,t L G hp n r ĉ⟩
theorem Le.txt{s:Str}:Le (.txt s) (.str s):=λL G h n v q=>by
 obtain⟨t,rfl,_,_⟩:=q
 show BW (.str s) (.str s t)=true
 exact bO8 s
theorem Le.seq{k:SK}{as bs:List AV}(h:Ez as bs):Le (.seq k as) (.seq k bs):=λL G hp n v q=>by
 obtain⟨a,b,hv,hp,ho,hr⟩:=q
 exact⟨a,b,hv,hp,ho,h L G _ n b hr⟩
noncomputable def tz(l:List Str):List AV:=l.map AV.txt
theorem Ez.tz :∀l:List Str,Ez (tz l) (ű (l.map AD.str))
 | []=>.nil
 | _::r=>.cons .txt (Ez.tz r)
def Kf(tr:Ġ):Ġ:=λas os Q=>∃as',Ez as as'/\tr as' os Q
def BG.le{L:Ci}{h₀:aE8}{d:Nat}{f:Value}{tr:Ġ}(q:BG L h₀ d f tr):BG L h₀ d f (Kf tr):=λhA hD hG hV ht=>by
 obtain⟨as',hl,ht⟩:=ht
 exact q hA hD hG (hl _ _ _ _ _ hV) ht
def IS:List aF3:=(C2 Δ.main.body "_law_carry").1
def Ea:Scope:=(C2 Δ.main.body "_law_carry").2
def QY(P:aD6):(C9 P 261).body = .stmts IS/\(C9 P 261).scope=Ea/\BL P 261=true:=⟨by rfl',by rfl',by rfl'⟩
noncomputable def mH(a:aC3)(tr:Ġ)(b:aC3)(tr':Ġ)(c:aC3)(tr'':Ġ):aC3->Option Ġ:=λf=>bif aE0 f a then some tr else bif aE0 f b then some tr' else bif aE0 f c then some tr'' else none
abbrev As(w:aC7):Pm:=Sq w.params (mH 210 K5 167 G6 256 (Kf KG)) none false false OM OM
abbrev Bq(w:aC7)(f:Nat):ì:=ER (As w) Ea f
def Ŝ:Expr×List aF3:=EY (IS.getD 4 (.Pass AP))
def sF(w:aC7):AV->St->ŏ->Prop:=λv σ K=>(ws (As w) Ea 29).A Ŝ.1 v σ λσ=>wL (As w) (Bq w 29) Ŝ.2 σ K
abbrev VG(w:aC7)(f:Nat):=(ws (As w) Ea f).A
def jP(k:Nat):=CO (IS.getD k (.Pass AP))
def Ň:aF3:=Ŝ.2.getD 0 (.Pass AP)
def US:aF3:=(Bj Ň).getD 0 (.Pass AP)
def fD:Expr×List aF3:=EY ((Ar US).getD 0 (.Pass AP))
def kE(w:aC7):AV->St->ŏ->Prop:=λv σ K=>(ws (As w) Ea 26).A fD.1 v σ λσ=>wL (As w) (Bq w 26) fD.2 σ K
abbrev ų(O N W T:AV)(now:Int)(tl:List (Str×AV)):List (Str×AV):=("lines",.ref 0)::("signs",.ref 1)::("old",O)::("new",N)::("writers",W)::("notes",T)::("now",.int now)::tl
abbrev Θ(O N W T:AV)(now:Int)(I J:List (Str×AV))(tl:List (Str×AV)):St:=⟨ų O N W T now tl,[(0,.inst Ş I),(1,.inst Ş J)],2,2⟩
abbrev Ŷ(O N W T:AV)(now:Int)(I J:List (Str×AV))(C R:AV)(M:List AV)(tl:List (Str×AV)):St:=⟨ų O N W T now (("codes",C)::("read",R)::("told",.ref 2)::tl),[(0,.inst Ş I),(1,.inst Ş J),(2,.list M)],3,2⟩
abbrev cF(O N W T:AV)(now:Int)(I J:List (Str×AV))(C R:AV)(M:List AV):St:=⟨ų O N W T now [("codes",C),("read",R),("told",.lst M)],[(0,.inst Ş I),(1,.inst Ş J)],2,2⟩
section
variable{w:aC7}{O N W T:AV}{L M R ns ol nl:List AV}{now i1 i2 j1 j2 k:Int}{t:Str}{I J:List (Str×AV)}{a b mb op fb d:AV}{a' b' mb' op' fb' d':AV}{K:ŏ}
def c0:wL (As w) (Bq w 30) IS (A6 (ų O N W T now []) [(Ş,BQ a b mb op fb d),(Ş,J)]) K=BO K5 [.ref 0] (Θ O N W T now (BQ a b mb op fb d) J []) λv σ=>B8 (VG w 29) (jP 0) v σ λσ=>wL (As w) (Bq w 30) (IS.drop 1) σ K:=by rfl'
def c1:(B8 (VG w 29) (jP 0) (.lst L) (Θ O N W T now I J []) λσ=>wL (As w) (Bq w 30) (IS.drop 1) σ K)=BO (Kf KG) [.lst L,O,N,W,.int now] (Θ O N W T now I J [("codes",.lst L)]) λv σ=>B8 (VG w 29) (jP 1) v σ λσ=>wL (As w) (Bq w 30) (IS.drop 2) σ K:=by rfl'
def ĳ:(B8 (VG w 29) (jP 1) (.lst R) (Θ O N W T now I J [("codes",.lst L)]) λσ=>wL (As w) (Bq w 30) (IS.drop 2) σ K)=(AC nn L=some L/\EM L (sF w) (wL (As w) (Bq w 29) []) (Ŷ O N W T now I J (.lst L) (.lst R) [] []) (ø (As w) (Bq w 30) (IS.drop 5) K)):=by rfl'
def c3:wL (As w) (Bq w 30) (IS.drop 5) (cF O N W T now I J (.lst L) (.lst R) M) K=K (.ret (.tup [.lst R,.lst M])) (cF O N W T now I J (.lst L) (.lst R) M):=by rfl'
def ŗ:sF w (Qp t i1 i2 j1 j2) (Ŷ O N W T now I J (.lst L) (.lst R) M []) K=(5=5/\wL (As w) (Bq w 29) Ŝ.2 (Ŷ O N W T now I J (.lst L) (.lst R) M (GF t i1 i2 j1 j2)) K):=by rfl'
def c5:wL (As w) (Bq w 29) Ŝ.2 (Ŷ O N W T now I J (.lst L) (.lst R) M (GF t i1 i2 j1 j2)) K=BX (decide (AD.str t=AD.str "equal")) (wL (As w) (Bq w 28) (Ar Ň) (Ŷ O N W T now I J (.lst L) (.lst R) M (GF t i1 i2 j1 j2)) (ø (As w) (Bq w 29) [] K)) (wL (As w) (Bq w 28) (Bj Ň) (Ŷ O N W T now I J (.lst L) (.lst R) M (GF t i1 i2 j1 j2)) (ø (As w) (Bq w 29) [] K)):=by rfl'
def c6:wL (As w) (Bq w 28) (Ar Ň) (Ŷ O N W (.lst ns) now I J (.lst L) (.lst R) M (GF t i1 i2 j1 j2)) K=((none:Option Int)≠some 0/\AF ns.length/\AF M.length/\M.length+(AZ ns (some i1) (some i2) none).length<=1000000/\K .next (Ŷ O N W (.lst ns) now I J (.lst L) (.lst R) (M++AZ ns (some i1) (some i2) none) (GF t i1 i2 j1 j2))):=by rfl'
def c7:wL (As w) (Bq w 28) (Bj Ň) (Ŷ O N W T now I J (.lst L) (.lst R) M (GF t i1 i2 j1 j2)) K=BX (decide (AD.str t=AD.str "replace")) (BX (decide (AD.int (i2-i1)=AD.int (j2-j1))) (wL (As w) (Bq w 27) (Ar US) (Ŷ O N W T now I J (.lst L) (.lst R) M (GF t i1 i2 j1 j2)) (ø (As w) (Bq w 28) [] K)) (wL (As w) (Bq w 27) (Bj US) (Ŷ O N W T now I J (.lst L) (.lst R) M (GF t i1 i2 j1 j2)) (ø (As w) (Bq w 28) [] K))) (wL (As w) (Bq w 27) (Bj US) (Ŷ O N W T now I J (.lst L) (.lst R) M (GF t i1 i2 j1 j2)) (ø (As w) (Bq w 28) [] K)):=by rfl'
def ź:wL (As w) (Bq w 27) (Ar US) (Ŷ O N W T now I J (.lst L) (.lst R) M (GF t i1 i2 j1 j2)) K=(Au 0 (i2-i1)/\EM (Ad 0 (i2-i1-0).toNat) (kE w) (wL (As w) (Bq w 26) []) (Ŷ O N W T now I J (.lst L) (.lst R) M (GF t i1 i2 j1 j2)) (ø (As w) (Bq w 27) [] K)):=by rfl'
abbrev YJ(t:Str)(i1 i2 j1 j2 k:Int):List (Str×AV):=[("tag",.str t),("i1",.int i1),("i2",.int i2),("j1",.int j1),("j2",.int j2),("k",.int k)]
def c9:kE w (.int k) (Ŷ (.lst ol) (.lst nl) W T now I (BQ a' b' mb' op' fb' d') (.lst L) (.lst R) M (GF t i1 i2 j1 j2)) K=(C1 (i1+k)/\∃v,Dq ol (i1+k)=some v/\C1 (j1+k)/\∃u,Dq nl (j1+k)=some u/\BO G6 [.ref 1,v,u] (Ŷ (.lst ol) (.lst nl) W T now I (BQ a' b' mb' op' fb' d') (.lst L) (.lst R) M (YJ t i1 i2 j1 j2 k)) λ_ σ=>wL (As w) (Bq w 26) (fD.2.drop 1) σ K):=by rfl'
def Vp(w:aC7)(K:ŏ):AV->St->Prop:=λc σ=>Ml (ws (As w) Ea 24).E ((AY (G0 (fD.2.getD 1 (.Pass AP)))).2.1.drop 1) σ λvs σ=>Do (As w) (.glo 256) (c::vs) σ λv σ=>B8 (ws (As w) Ea 25).A (CO (fD.2.getD 1 (.Pass AP))) v σ λσ=>wL (As w) (Bq w 26) (fD.2.drop 2) σ K
def Á:wL (As w) (Bq w 26) (fD.2.drop 1) (Ŷ O N W T now I (BQ a' b' mb' op' fb' d') (.lst L) (.lst R) M (YJ t i1 i2 j1 j2 k)) K=BO K5 [.ref 1] (Ŷ O N W T now I (BQ a' b' mb' op' fb' d') (.lst L) (.lst R) M (YJ t i1 i2 j1 j2 k)) (Vp w K):=by rfl'
def å{C:List AV}:Vp w K (.lst C) (Ŷ (.lst ol) (.lst nl) W (.lst ns) now I J (.lst L) (.lst R) M (YJ t i1 i2 j1 j2 k))=(C1 (i1+k)/\∃v,Dq ol (i1+k)=some v/\C1 (j1+k)/\∃u,Dq nl (j1+k)=some u/\C1 (i1+k)/\∃x,Dq ns (i1+k)=some x/\BO (Kf KG) [.lst C,v,u,x,.int now] (Ŷ (.lst ol) (.lst nl) W (.lst ns) now I J (.lst L) (.lst R) M (YJ t i1 i2 j1 j2 k)) λv σ=>B8 (ws (As w) Ea 25).A (CO (fD.2.getD 1 (.Pass AP))) v σ λσ=>wL (As w) (Bq w 26) (fD.2.drop 2) σ K):=by rfl'
def yH{C:List AV}:(B8 (ws (As w) Ea 25).A (CO (fD.2.getD 1 (.Pass AP))) (.lst C) (Ŷ O N W T now I J (.lst L) (.lst R) M (YJ t i1 i2 j1 j2 k)) λσ=>wL (As w) (Bq w 26) (fD.2.drop 2) σ K)=(AF M.length/\K .next (Ŷ O N W T now I J (.lst L) (.lst R) (M++[.lst C]) ((YJ t i1 i2 j1 j2 k).append [("part",AV.lst C)]))):=by rfl'
def û:CL:=Gf (Ow (jV ((Bj US).getD 0 (.Pass AP))))
def T8:CL:=Gf û.1
def cA:wL (As w) (Bq w 27) (Bj US) (Ŷ O (.lst nl) W T now I J (.lst L) (.lst R) M (GF t i1 i2 j1 j2)) K=((none:Option Int)≠some 0/\AF nl.length/\AC nn (AZ nl (some j1) (some j2) none)=some (AZ nl (some j1) (some j2) none)/\BF (.list []) (AZ nl (some j1) (some j2) none) (D7 (As w) 24 Ea û 3) (Ay û.2.2) (Ŷ O (.lst nl) W T now I J (.lst L) (.lst R) M (GF t i1 i2 j1 j2)) λu σ=>Do (As w) (.fn .extend) [.ref 2,u] σ λ_ σ=>K .next σ):=by rfl'
def cB{x:Str}{H:List (Nat×Ÿ)}{m an:Nat}{R:St->Prop}:D7 (As w) 24 Ea û 3 (.txt x) ⟨[("now",.int now)],H,m,an⟩ R=(AC nn (D6 x)=some (D6 x)/\BF (.list []) (D6 x) (D7 (As w) 23 (Bw û.2.2 Ea) T8 m) (Ay T8.2.2) ⟨[("now",.int now),("line",.txt x)],H,m,an⟩ λu τ=>An .append [.ref 3,u] τ λ_ τ=>R τ):=by rfl'
def Ï{x:Str}{v:AV}{H:List (Nat×Ÿ)}{m an:Nat}{R:St->Prop}:D7 (As w) 24 Ea û 3 (.txt x) ⟨[("now",.int now),("line",v)],H,m,an⟩ R=(AC nn (D6 x)=some (D6 x)/\BF (.list []) (D6 x) (D7 (As w) 23 (Bw û.2.2 Ea) T8 m) (Ay T8.2.2) ⟨[("now",.int now),("line",.txt x)],H,m,an⟩ λu τ=>An .append [.ref 3,u] τ λ_ τ=>R τ):=by rfl'
def cD{v:AV}{q m an:Nat}{H:List (Nat×Ÿ)}{R:St->Prop}:D7 (As w) 23 (Bw û.2.2 Ea) T8 q v ⟨[("now",.int now)],H,m,an⟩ R=An .append [.ref q,.int now] ⟨[("now",.int now),("sign",v)],H,m,an⟩ λ_ τ=>R τ:=by rfl'
def yC{u v:AV}{q m an:Nat}{H:List (Nat×Ÿ)}{R:St->Prop}:D7 (As w) 23 (Bw û.2.2 Ea) T8 q v ⟨[("now",.int now),("sign",u)],H,m,an⟩ R=An .append [.ref q,.int now] ⟨[("now",.int now),("sign",v)],H,m,an⟩ λ_ τ=>R τ:=by rfl'
def ŀ{l:List AV}{ρ:List (Str×AV)}{X:List (Nat×Ÿ)}{o0 o1 ó:Ÿ}{m q:Nat}{R:St->Prop}:An .append [.ref 3,.ref q] ⟨ρ,(0,o0)::(1,o1)::(2,ó)::(3,.list l)::X,m,2⟩ (λ_ τ=>R τ)=(AF l.length/\R ⟨ρ,(0,o0)::(1,o1)::(2,ó)::(3,.list (l++[.ref q]))::X,m,2⟩):=by rfl'
def Ř{l:List AV}{ρ:List (Str×AV)}{X:List (Nat×Ÿ)}{o0 o1:Ÿ}{m:Nat}{Q:AV->St->Prop}:Do (As w) (.fn .extend) [.ref 2,.ref 3] ⟨ρ,(0,o0)::(1,o1)::(2,.list M)::(3,.list l)::X,m,2⟩ Q=(AF M.length/\M.length+l.length<=1000000/\Q .none ⟨ρ,(0,o0)::(1,o1)::(2,.list (M++l))::(3,.list l)::X,m,2⟩):=by rfl'
def vK:Ay û.2.2=(["now"]:List Str):=by rfl'
def oT:Ay T8.2.2=(["now"]:List Str):=by rfl'
end
def ů(M:List (List Int)):List AV:=M.map λr=>.lst (ù r)
def CK(M:List (List Int)):AC nn (ů M)=some (ů M):=Df (λr=>AL (Aq r)) M
def HN(M N:List (List Int)):ů M++ů N=ů (M++N):=(aF1 ..).symm
def FT(M:List (List Int)):(ů M).length=M.length:=aA6 ..
def Eu(l:List Str):AC nn (tz l)=some (tz l):=Df (λ_=>rfl) l
def Qo(l:List Str):(tz l).length=l.length:=aA6 ..
def Z2(l:List Str)(a b:Nat):AZ (tz l) (some (Ŕ a)) (some (Ŕ b)) none=tz (cut l a b):=(Er ..).trans (bO1 _ (Cg l a b))
def ZZ(l:List (List Int))(a b:Nat):AZ (ů l) (some (Ŕ a)) (some (Ŕ b)) none=ů (cut l a b):=(Er ..).trans (bO1 _ (Cg l a b))
def Mk{α:Type}(l:List α)(a b:Nat):(cut l a b).length<=l.length:=by unfold cut;rw[aG3];exact aA0 (Nat.sub_le _ _) (by rw[aE4];exact bF4 _ _)
def EW{g:Nat->Option AV}{l m l' m':List AV}(hl:AC g l=some l')(hm:AC g m=some m'):AC g (l++m)=some (l'++m'):=by
 induction l generalizing l' with
 | nil=>cases hl;exact hm
 | cons a l ih=>
  obtain⟨a',e1,e⟩:=AG (show(a.sub g).bind (λa=>(AC g l).map (a :: ·))=some l' from hl)
  obtain⟨l2,e2,e⟩:=AH e
  cases e
  show(a.sub g).bind (λa=>(AC g (l++m)).map (a :: ·))=_
  rw[e1,ih e2];rfl
def Ky{g:Nat->Option AV}{f:Nat->Nat}{r:Nat->AV}{l:List Nat}(h :∀q∈l,g (f q)=some (r q)):AC g (l.map λq=>AV.ref (f q))=some (l.map r):=by
 induction l with
 | nil=>rfl
 | cons a l ih=>
  show(g (f a)).bind (λa=>(AC g (l.map λq=>AV.ref (f q))).map (a :: ·))=_
  rw[h a (aB4 ..),ih λq hq=>h q (aC1 _ hq)];rfl
noncomputable def EP(now:Int)(cs:List Str):List (List Int):=cs.map λx=>aM0 x.length now
noncomputable def Ũ(now:Int)(cs:List Str)(q:Nat):List Int:=aM0 (cs.getD q "").length now
def Qd{now:Int}{cs:List Str}:EP now cs=(aC2 cs.length).map (Ũ now cs):=by
 refine bA3 (by rw[aA6];unfold EP;rw[aA6,aF2]) λi h1 h2=>?_
 unfold EP at h1 ⊢
 rw[aS0,aS0,aX1]
 rw[aA6]at h1
 unfold Ũ
 rw[aD2,aA5 h1];rfl
def Q9{β:Type}{f:Nat->β}{n y:Nat}{v:β}(h:((aC2 n).map λq=>(q+4,f q)).lookup y=some v) :∃q,q<n/\y=q+4/\v=f q:=by
 obtain⟨p,hp,e⟩ :∃p∈(aC2 n).map λq=>(q+4,f q),p=(y,v):=by
  generalize (aC2 n).map (λq=>(q+4,f q))=l at h
  induction l with
  | nil=>cases h
  | cons p l ih=>
   rw[show(p::l).lookup y=bif y==p.1 then some p.2 else l.lookup y from A1 ..]at h
   cases hy:y==p.1 with
   | true=>rw[hy]at h;exact⟨p,aB4 ..,by cases h;exact aM1 (aE6 hy).symm rfl⟩
   | false=>rw[hy]at h;obtain⟨q,hq,e⟩:=ih h;exact⟨q,aC1 _ hq,e⟩
 obtain⟨q,hq,e2⟩:=aI5.mp hp
 cases e2.trans e
 exact⟨q,aP2.mp hq,rfl,rfl⟩
def Yt{β:Type}{f:Nat->β}{n q:Nat}(h:q<n):((aC2 n).map λq=>(q+4,f q)).lookup (q+4)=some (f q):=by
 have :∀l:List Nat,q∈l->(l.map λq=>(q+4,f q)).lookup (q+4)=some (f q):=λl=>by
  induction l with
  | nil=>exact λh=>nomatch h
  | cons a l ih=>
   intro h
   show((a+4,f a)::l.map λq=>(q+4,f q)).lookup (q+4)=_
   rw[A1]
   cases hy:q+4==a+4 with
   | true=>
    have:=aO3 (aE6 hy)
    subst this;rfl
   | false=>
    rcases aC4.mp h with rfl | h
    ·rw[bO8]at hy;cases hy
    ·exact ih h
 exact this _ (aP2.mpr h)
section
variable{w:aC7}{O W T:AV}{L R:List AV}{M:List (List Int)}{now:Int}{j1 j2:Nat}{nl:List Str}{t:Str}{i1 i2:Int}{I J:List (Str×AV)}{K:ŏ}
abbrev cQ(M:List (List Int))(I J:List (Str×AV))(k:Nat)(X:List (Nat×Ÿ)):List (Nat×Ÿ):=(0,.inst Ş I)::(1,.inst Ş J)::(2,.list (ů M))::(3,.list ((aC2 k).map λq=>AV.ref (q+4)))::X
def U7{k:Nat}{X:List (Nat×Ÿ)}{o:Ÿ}:Al (cQ M I J k X) (k+4) o=cQ M I J k (Al X (k+4) o):=rfl
structure jL(O N W T:AV)(I J:List (Str×AV))(L R:List AV):Prop where
 o:O.sub nn=some O
 n:N.sub nn=some N
 w:W.sub nn=some W
 t:T.sub nn=some T
 i:AJ nn I=some I
 j:AJ nn J=some J
 l:AC nn L=some L
 r:AC nn R=some R
def Yy{N:AV}{X:List (Nat×Ÿ)}{tl:List (Str×AV)}{n:Nat}{cs:List Str}(S:jL O N W T I J L R)(hX :∀q,q<n->X.lookup (q+4)=some (.list (ù (Ũ now cs q)))) :
  Aa ⟨ų O N W T now (("codes",.lst L)::("read",.lst R)::("told",.ref 2)::tl),(0,.inst Ş I)::(1,.inst Ş J)::(2,.list (ů M++(aC2 n).map λq=>AV.ref (q+4)))::(3,.list ((aC2 n).map λq=>AV.ref (q+4)))::X,n+4,2⟩
   (Ŷ O N W T now I J (.lst L) (.lst R) (ů (M++(aC2 n).map (Ũ now cs))) []):=by
 have hp :∀q,DJ (q+4) [0,1,2]=none:=λq=>rfl
 refine .re [0,1,2] ((aC2 n).map λq=>(q+4,.lst (ù (Ũ now cs q)))) rfl rfl rfl rfl (λy v e=>?_) ?_ ?_
 ·obtain⟨q,hq,rfl,rfl⟩:=Q9 e
  exact⟨hp q,_,hX q hq,rfl,B0 _⟩
 ·exact Ai rfl rfl (Ai rfl rfl (Ai rfl (AK _ _ S.o) (Ai rfl (AK _ _ S.n) (Ai rfl (AK _ _ S.w) (Ai rfl (AK _ _ S.t) (Ai rfl rfl (Ai rfl (AK _ _ (AL S.l)) (Ai rfl (AK _ _ (AL S.r)) (Ai rfl rfl BZ)))))))))
 ·have e:AC (jS [0,1,2] ((aC2 n).map λq=>(q+4,.lst (ù (Ũ now cs q))))) (ů M++(aC2 n).map λq=>AV.ref (q+4))=some (ů (M++(aC2 n).map (Ũ now cs))):=by
   rw[<-HN]
   refine EW (BN (CK M)) (Eq.trans (Ky (r:=λq=>.lst (ù (Ũ now cs q))) λq hq=>?_) (bO1 some (aG4 (f:=Ũ now cs) (g:=λr=>AV.lst (ù r)) (l:=aC2 n)).symm))
   show GH ((DJ (q+4) [0,1,2]).map AV.ref) _=_
   rw[hp q]
   exact Yt (aP2.mp hq)
  exact Fe rfl rfl (C7 (A5 S.i)) (Fe rfl rfl (C7 (A5 S.j)) (Fe rfl rfl (bO1 (aD4 Ÿ.list) e) BY))
def Č(now:Int)(x:Str)(ρ:List (Str×AV)):Prop:=ρ=([("now",.int now)]:List (Str×AV))\/∃v,ρ=([("now",.int now),(x,v)]:List (Str×AV))
def Tk{tl:List (Str×AV)}(S:jL O (.lst (tz nl)) W T I J L R)(hj:j1<=j2/\j2<=nl.length)(hn:nl.length<=1000)(hM:M.length<=1000)(hx :∀x∈nl,x.length<=100000)
  (h :∀σ,Aa σ (Ŷ O (.lst (tz nl)) W T now I J (.lst L) (.lst R) (ů (M++EP now (cut nl j1 j2))) [])->K .next σ) :
  wL (As w) (Bq w 27) (Bj US) (Ŷ O (.lst (tz nl)) W T now I J (.lst L) (.lst R) (ů M) (GF t i1 i2 (Ŕ j1) (Ŕ j2))) K:=by
 rw[cA,Z2,Qo,vK]
 have hc:=aA0 (Mk nl j1 j2) hn
 have hcx :∀x∈cut nl j1 j2,x.length<=100000:=λx h=>hx x (List.mem_of_mem_take (aQ9 h))
 rw[Qd]at h
 generalize cut nl j1 j2=cs at *
 refine⟨B9,aA0 hn (by decide),Eu _,?_⟩
 refine⟨λk τ=>∃(ρ:List (Str×AV)) (X:List (Nat×Ÿ)),Č now "line" ρ/\τ=⟨ρ,cQ M I J k X,k+4,2⟩/\∀q,q<k->X.lookup (q+4)=some (.list (ù (Ũ now cs q))),⟨_,[],.inl rfl,rfl,λq h=>bO4 h (aI0 q)⟩,λk v τ hv hJ=>?_,λτ hJ=>?_⟩
 ·obtain⟨ρ,X,hρ,rfl,hX⟩:=hJ
  obtain⟨x,hx,rfl⟩:=AH ((aB3 ..).symm.trans hv)
  have hk:=(aA4.mp hx).1
  have hxl:=hcx x (aD3 hx)
  have go:AC nn (D6 x)=some (D6 x)/\BF (.list []) (D6 x) (D7 (As w) 23 (Bw û.2.2 Ea) T8 (k+4)) (Ay T8.2.2) ⟨[("now",.int now),("line",.txt x)],cQ M I J k X,k+4,2⟩ λu τ=>An .append [.ref 3,u] τ λ_ τ=>
    ∃(ρ:List (Str×AV)) (X:List (Nat×Ÿ)),Č now "line" ρ/\τ=⟨ρ,cQ M I J (k+1) X,k+1+4,2⟩/\∀q,q<k+1->X.lookup (q+4)=some (.list (ù (Ũ now cs q))):=by
   refine⟨Df (λ_=>rfl) _,?_⟩
   rw[oT]
   refine Fz (λ_:Nat=>[AV.int now]) (λρ=>ρ=([("now",.int now)]:List (Str×AV))\/∃l,ρ=([("now",.int now),("sign",l)]:List (Str×AV))) (.inl rfl) (λρ H' n' hI=>⟨hI.elim (λe=>e▸rfl) λq=>q.elim λl e=>e▸rfl,trivial⟩) (aA0 (aB9 (DT x)) (aA0 hxl (by decide))) (λ_=>aB6 _) (λi v hv ρ L K hI hL hK=>?_) ?_
   ·have go:=hK _ (.inr ⟨v,rfl⟩)
    exact hI.elim (λe=>e▸cD.mpr (CU hL go)) λq=>q.elim λl e=>e▸yC.mpr (CU hL go)
   ·rw[DT,Qi,U7,ŀ]
    refine⟨by rw[aA6,aF2];exact aA0 (aD8 hk) (aA0 hc (by decide)),_,Al X (k+4) (.list (ù (aM0 x.cps.size now))),.inr ⟨.txt x,rfl⟩,?_,λq hq=>?_⟩
    ·show _=(⟨_,cQ M I J (k+1) _,k+1+4,2⟩:St)
     unfold cQ
     rw[aQ0,aF1];rfl
    ·rcases aP5 (aO6 hq)with h | rfl
     ·rw[Jm (λe=>aE2 h (aO3 e))]
      exact hX q h
     ·rw[Ev]
      unfold Ũ
      rw[aD2,hx];rfl
  exact hρ.elim (λe=>e▸cB.mpr go) λq=>q.elim λl e=>e▸Ï.mpr go
 ·obtain⟨ρ,X,hρ,rfl,hX⟩:=hJ
  rw[Qo]at hX ⊢
  refine⟨⟨hρ.elim (λe=>e▸rfl) λq=>q.elim λl e=>e▸rfl,trivial⟩,?_⟩
  show Do (As w) (.fn .extend) [.ref 2,.ref 3] _ _
  unfold cQ
  rw[Ř,FT,aA6,aF2]
  exact⟨aA0 hM (by decide),aA0 (aP6 hM hc) (by decide),h _ (Yy S hX)⟩
end
def FH{vs:List AV}{i:Nat}{v:AV}(h:vs[i]?=some v):Dq vs (i:Int)=some v:=by
 have hl:=(aA4.mp h).1
 have e:seqIndex? (i:Int) vs.length=some i:=by
  unfold seqIndex?
  rw[bO3 (aS7.mpr (aH4 i)),bO2 (aG5.mpr ⟨bO5 (aH4 i),bO5 (aC8.mpr hl)⟩)];rfl
 unfold Dq
 rw[e]
 exact h
def Sa{tr:Ġ}{σ:St}{as:List AV}{Q:AV->St->Prop}(hr:Af as=[])(ha:AC nn as=some as)(h:tr as [] λr os'=>Q r σ):BO tr as σ Q:=by
 unfold BO HX
 rw[hr,show AC (Fk []) as=some as from BN ha]
 exact⟨CJ,h⟩
def NU{tr:Ġ}{σ:St}{x:Nat}{D:aC3}{at_:List (Str×AV)}{as as':List AV}{Q:AV->St->Prop}(hl:σ.H.lookup x=some (.inst D at_))(hs:AJ nn at_=some at_)(hr:Af as=[x])(ha:AC (Fk [x]) as=some as')
  (h:tr as' [(D,at_)] λr os'=>Q r (σ.sets [x] os')):BO tr as σ Q:=by
 unfold BO HX
 rw[hr,ha]
 show Ap (((σ.H.lookup x).bind Ÿ.ins).bind λo=>some [o]) _
 rw[hl]
 exact⟨Bs hs,h⟩
structure GN(x y:Str)(nt due:List Int)(now:Int):Prop where
 sz:x.length<=1000/\y.length<=1000
 nd:(DA y).Nodup
 nz:nt.length<=1000/\due.length<=1000
 ok :∀bs,Dj (DA x) (DA y) 0 (DA x).length 0 (DA y).length bs->bs.length<64/\∃ops,IW 0 0 (Cn (DA x) (DA y) bs)=ops.map F0/\Vd (DA x) (DA y) 0 0 none ops/\FN nt now ops=due
section
variable{w:aC7}{W:AV}{L R:List AV}{M ns:List (List Int)}{now:Int}{i1 i2 j1 j2 k:Nat}{ol nl:List Str}{t:Str}{I:List (Str×AV)}{K:ŏ}{s u x y:Str}{mb op fb:AV}{ds:List (AD×AV)}{nt due:List Int}
def Ŭ.new{x y:Str}(h:ĺ (DA y) ds):Ŭ (.txt x) (.txt y) (DA x) (DA y) .none .none .none ds:=
 ⟨EK x,EK y,⟨rfl,rfl,rfl,rfl,rfl,rfl,rfl,Gw h⟩,h,.inl rfl,.inl rfl⟩
def UC(S:Ŭ (.txt s) (.txt u) (DA s) (DA u) mb op fb ds)(hx:ol[i1+k]?=some x)(hy:nl[j1+k]?=some y)(hn:ns[i1+k]?=some nt)(hz:(ol.length<=1000/\nl.length<=1000)/\ns.length<=1000)(hM:M.length<=1000)
  (hd:x≠s/\y≠u) (P:GN x y nt due now)
  (h :∀mb op fb ds tl,Ŭ (.txt x) (.txt y) (DA x) (DA y) mb op fb ds->K .next (Ŷ (.lst (tz ol)) (.lst (tz nl)) W (.lst (ů ns)) now I (BQ (.txt x) (.txt y) mb op fb (.dct ds)) (.lst L) (.lst R) (ů (M++[due])) ((GF t (Ŕ i1) (Ŕ i2) (Ŕ j1) (Ŕ j2)).append tl))) :
  kE w (.int (0+(k:Int))) (Ŷ (.lst (tz ol)) (.lst (tz nl)) W (.lst (ů ns)) now I (BQ (.txt s) (.txt u) mb op fb (.dct ds)) (.lst L) (.lst R) (ů M) (GF t (Ŕ i1) (Ŕ i2) (Ŕ j1) (Ŕ j2))) K:=by
 have ho:=(aA4.mp hx).1
 have hnl:=(aA4.mp hy).1
 have hns:=(aA4.mp hn).1
 have Ă:Dq (tz ol) (Ŕ i1+(0+(k:Int)))=some (.txt x):=by rw[aI1];exact FH (i:=i1+k) (by unfold tz;rw[aB3,hx];rfl)
 have n2:Dq (tz nl) (Ŕ j1+(0+(k:Int)))=some (.txt y):=by rw[aI1];exact FH (i:=j1+k) (by unfold tz;rw[aB3,hy];rfl)
 have ú:Dq (ů ns) (Ŕ i1+(0+(k:Int)))=some (.lst (ù nt)):=by rw[aI1];exact FH (i:=i1+k) (by unfold ů;rw[aB3,hn];rfl)
 have x1:C1 (Ŕ i1+(0+(k:Int))):=by rw[aI1];exact Qq (n:=i1+k) (aA0 (aD8 ho) (aA0 hz.1.1 (by decide)))
 have x2:C1 (Ŕ j1+(0+(k:Int))):=by rw[aI1];exact Qq (n:=j1+k) (aA0 (aD8 hnl) (aA0 hz.1.2 (by decide)))
 have lx:(DA x).length<=100000:=aA0 (aB9 (Em x)) (aA0 P.sz.1 (by decide))
 have ly:(DA y).length<=100000:=aA0 (aB9 (Em y)) (aA0 P.sz.2 (by decide))
 refine c9.mpr ⟨x1,_,Ă,x2,_,n2,NU rfl S.S.shut rfl rfl (.inr ⟨DA y,.txt x,.txt y,_,_,_,_,_,_,rfl,⟨rfl,rfl⟩,⟨EK y,ly,λ_=>P.nd⟩,rfl,S.S,Kg hd.1 (Bz rfl (Kg hd.2 (Bz rfl λds hB=>?_)))⟩)⟩
 have S2:=Ŭ.new (x:=x) hB
 refine Á.mpr (NU rfl S2.S.shut rfl rfl ⟨DA x,DA y,.txt x,.txt y,.none,.none,.none,ds,rfl,rfl,S2,⟨lx,ly⟩,λbs r=>(P.ok bs r).1,λbs mb' r S3=>?_⟩)
 obtain⟨ops,e1,e2,e3⟩:=(P.ok bs r).2
 rw[e1]at S3 ⊢
 refine å.mpr ⟨x1,_,Ă,x2,_,n2,x1,_,ú,?_⟩
 have sh:AC nn [AV.lst (ops.map F0),.txt x,.txt y,.lst (ù nt),.int now]=some [.lst (ops.map F0),.txt x,.txt y,.lst (ù nt),.int now]:=AI (AL (Du ops)) (AI rfl (AI rfl (AI (B0 nt) rfl)))
 refine Sa (Cc sh) sh ⟨_,λ_ _ _ _ _ q=>q,.txt x,.txt y,DA x,DA y,ops,nt,now,rfl,rfl,Ry x y,⟨lx,ly⟩,aA0 P.nz.1 (by decide),aA0 (aB9 (bO1 _ e3)) (aA0 P.nz.2 (by decide)),e2,?_⟩
 rw[e3]
 refine yH.mpr ⟨aA0 (aB9 (FT M)) (aA0 hM (by decide)),?_⟩
 have:=h _ _ _ _ [("k",AV.int (0+(k:Int))),("part",AV.lst (ù due))] S3
 rw[<-HN]at this
 exact this
end
def Ŏ(ol nl:List Str)(ns:List (List Int))(now:Int)(P:Nat->Nat->List Int):Str->Str->List (Nat×Nat)->Prop
 | _,_,[]=>True
 | s,u,p::r=>∃x y nt,(ol[p.1]?=some x/\nl[p.2]?=some y/\ns[p.1]?=some nt)/\(x≠s/\y≠u)/\GN x y nt (P p.1 p.2) now/\Ŏ ol nl ns now P x y r
noncomputable def Db(ol nl:List Str):Str->Str->List (Nat×Nat)->Str×Str
 | s,u,[]=>(s,u)
 | s,u,p::r=>Db ol nl (ol.getD p.1 "") (nl.getD p.2 "") r
noncomputable def FX(o:Op):List (Nat×Nat):=match o.k with
 | .rep=>(aC2 (o.i2-o.i1)).map λk=>(o.i1+k,o.j1+k)
 | _=>[]
noncomputable def EI(P:Nat->Nat->List Int)(ns:List (List Int))(nl:List Str)(now:Int)(o:Op):List (List Int):=match o.k with
 | .eq=>cut ns o.i1 o.i2
 | .rep=>(aC2 (o.i2-o.i1)).map λk=>P (o.i1+k) (o.j1+k)
 | _=>EP now (cut nl o.j1 o.j2)
def TH{n k:Nat}{β:Type}(f:Nat->β)(h:k<n):((aC2 n).drop k).map f=f k::((aC2 n).drop (k+1)).map f:=by
 rw[Dw (bB6 h)];rfl
section
variable{w:aC7}{L R:List AV}{ns:List (List Int)}{ws:List Int}{now:Int}{k:Nat}{ol nl:List Str}{I:List (Str×AV)}{K:ŏ}{P:Nat->Nat->List Int}{E:Str×Str}{tot:List (List Int)}{o:Op}
inductive Z8(ol nl:List Str)(ws:List Int)(ns:List (List Int))(now:Int)(I:List (Str×AV))(L R:List AV)(P:Nat->Nat->List Int)(E:Str×Str)(tot:List (List Int))(tl:List (Str×AV))(rest:List (Nat×Nat))(todo:List (List Int))(σ:St):Prop
 | mk (s u:Str) (mb op fb:AV) (ds:List (AD×AV)) (M:List (List Int)) (h0:σ=Ŷ (.lst (tz ol)) (.lst (tz nl)) (.lst (ù ws)) (.lst (ů ns)) now I (BQ (.txt s) (.txt u) mb op fb (.dct ds)) (.lst L) (.lst R) (ů M) tl) (h1:Ŭ (.txt s) (.txt u) (DA s) (DA u) mb op fb ds) (h2:Ŏ ol nl ns now P s u rest) (h3:Db ol nl s u rest=E) (h4:M++todo=tot):Z8 ol nl ws ns now I L R P E tot tl rest todo σ
def T5{σ:St}{t:Str}{i1 j1 n:Nat}{i2 j2:Int}{rest:List (Nat×Nat)}{todo:List (List Int)}(hz:(ol.length<=1000/\nl.length<=1000)/\ns.length<=1000)(ht:tot.length<=1000)
  (hI:Z8 ol nl ws ns now I L R P E tot (GF t (Ŕ i1) i2 (Ŕ j1) j2) ((aC2 n).map (λk=>(i1+k,j1+k))++rest) ((aC2 n).map (λk=>P (i1+k) (j1+k))++todo) σ)
  (h :∀τ,Z8 ol nl ws ns now I L R P E tot (GF t (Ŕ i1) i2 (Ŕ j1) j2) rest todo τ->K .next τ) (e2 :∃a:Nat,i2=Ŕ a) (e3 :∃a:Nat,j2=Ŕ a) :
  EM (Ad 0 n) (kE w) (wL (As w) (Bq w 26) []) σ K:=by
 obtain⟨i2,rfl⟩:=e2
 obtain⟨j2,rfl⟩:=e3
 refine⟨λk τ=>Z8 ol nl ws ns now I L R P E tot (GF t (Ŕ i1) (Ŕ i2) (Ŕ j1) (Ŕ j2)) (((aC2 n).drop k).map (λk=>(i1+k,j1+k))++rest) (((aC2 n).drop k).map (λk=>P (i1+k) (j1+k))++todo) τ,⟨_,.refl _,hI⟩,λk σ v hv hI=>?_,λτ hI=>?_⟩
 ·have hk:=(aA4.mp hv).1
  rw[AU]at hk
  cases aA2 (hv.symm.trans (BM hk))
  obtain⟨s,u,mb,op,fb,ds,M,rfl,S,hW,hE,hM⟩:=hI
  rw[TH _ hk]at hW hM hE
  obtain⟨x,y,nt,⟨h1,h2,h3⟩,hd,hP,hW⟩:=hW
  have hMl:M.length<=1000:=aA0 (by rw[<-hM,aB2];exact aD0 _ _) ht
  refine UC S h1 h2 h3 hz hMl hd hP λmb op fb ds tl S'=>⟨_,.less (ρ:=(Ŷ (.lst (tz ol)) (.lst (tz nl)) (.lst (ù ws)) (.lst (ů ns)) now I (BQ (.txt x) (.txt y) mb op fb (.dct ds)) (.lst L) (.lst R) (ů (M++[P (i1+k) (j1+k)])) (GF t (Ŕ i1) (Ŕ i2) (Ŕ j1) (Ŕ j2))).ρ++tl) (λx v e=>Cr e) (λ_ _=>id),x,y,mb,op,fb,ds,_,rfl,S',hW,?_,?_⟩
  ·have hE:Db ol nl (ol.getD (i1+k) "") (nl.getD (j1+k) "") _=E:=hE
   rw[aD2,aD2,h1,h2]at hE
   exact hE
  ·rw[aC9];exact hM
 ·rw[AU]at hI
  have e:(aC2 n).drop n=[]:=List.drop_eq_nil_of_le (aB9 aF2)
  rw[e]at hI
  rw[Av]
  exact h τ hI
end
section
variable{w:aC7}{L R:List AV}{ns:List (List Int)}{ws:List Int}{now:Int}{k:Nat}{ol nl:List Str}{I:List (Str×AV)}{K:ŏ}{P:Nat->Nat->List Int}{E:Str×Str}{tot:List (List Int)}{o:Op}{ops:List Op}
def ĥ(ol nl:List Str)(ws:List Int)(ns:List (List Int))(now:Int)(I:List (Str×AV))(R:List AV)(P:Nat->Nat->List Int)(E:Str×Str)(tot:List (List Int))(ops:List Op)(k:Nat)(σ:St):Prop:=
 (k<ops.length->Z8 ol nl ws ns now I (ops.map F0) R P E tot [] ((ops.drop k).flatMap FX) ((ops.drop k).flatMap (EI P ns nl now)) σ)/\
 (k=ops.length->∃(mb op fb:AV) (ds:List (AD×AV)),σ=cF (.lst (tz ol)) (.lst (tz nl)) (.lst (ù ws)) (.lst (ů ns)) now I (BQ (.txt E.1) (.txt E.2) mb op fb (.dct ds)) (.lst (ops.map F0)) (.lst R) (ů tot)/\Ŭ (.txt E.1) (.txt E.2) (DA E.1) (DA E.2) mb op fb ds)
def uS(hI:AJ nn I=some I){J:List (Str×AV)}(hJ:AJ nn J=some J)(hR:AC nn R=some R):jL (.lst (tz ol)) (.lst (tz nl)) (.lst (ù ws)) (.lst (ů ns)) I J (ops.map F0) R:=
 ⟨AL (Eu _),AL (Eu _),B0 _,AL (CK _),hI,hJ,Du ops,hR⟩
def TX{O N W T:AV}{J:List (Str×AV)}{M:List (List Int)}(S:jL O N W T I J L R):Aa (Ŷ O N W T now I J (.lst L) (.lst R) (ů M) []) (cF O N W T now I J (.lst L) (.lst R) (ů M)):=
 .re [0,1] [(2,.lst (ů M))] rfl rfl rfl rfl (BA rfl rfl rfl (AL (CK M)) CP) (Ai rfl rfl (Ai rfl rfl (Ai rfl (AK _ _ S.o) (Ai rfl (AK _ _ S.n) (Ai rfl (AK _ _ S.w) (Ai rfl (AK _ _ S.t) (Ai rfl rfl (Ai rfl (AK _ _ (AL S.l)) (Ai rfl (AK _ _ (AL S.r)) (Ai rfl rfl BZ))))))))))
  (Fe rfl rfl (C7 (A5 S.i)) (Fe rfl rfl (C7 (A5 S.j)) BY))
def Sf{σ:St}(hI:AJ nn I=some I)(hR:AC nn R=some R)(hk:k<=ops.length)(h:Z8 ol nl ws ns now I (ops.map F0) R P E tot [] ((ops.drop k).flatMap FX) ((ops.drop k).flatMap (EI P ns nl now)) σ) :
  ∃τ,Aa σ τ/\ĥ ol nl ws ns now I R P E tot ops k τ:=
 (aP5 hk).elim (λq=>⟨_,.refl _,λ_=>h,λe=>bO4 e (aE2 q)⟩) λq=>by
  rw[q,aS3]at h
  obtain⟨s,u,mb,op,fb,ds,M,rfl,S,hW,rfl,hM⟩:=h
  have hM:M=tot:=(aF9 M).symm.trans hM
  subst hM
  exact⟨_,TX (uS hI S.S.shut hR),λz=>bO4 q (aE2 z),λ_=>⟨mb,op,fb,ds,rfl,S⟩⟩
def Lf{v:AV}{σ:St}(hI:AJ nn I=some I)(hR:AC nn R=some R)(hz:(ol.length<=1000/\nl.length<=1000)/\ns.length<=1000)(hx :∀x∈nl,x.length<=100000)(ht:tot.length<=1000)
  (hb :∀o∈ops,(o.i1<=o.i2/\o.i2<=ol.length)/\(o.j1<=o.j2/\o.j2<=nl.length)) (he :∀o∈ops,o.k = .rep->o.i2-o.i1=o.j2-o.j1)
  (hv:(ops.map F0)[k]?=some v) (h:ĥ ol nl ws ns now I R P E tot ops k σ) :
  sF w v σ (turn (λσ=>∃τ,Aa σ τ/\ĥ ol nl ws ns now I R P E tot ops (k+1) τ) K):=by
 obtain⟨o,ho,rfl⟩:=AH ((aB3 ..).symm.trans hv)
 have hk:=(aA4.mp ho).1
 have hb:=hb o (aD3 ho)
 have he:=he o (aD3 ho)
 have h:=h.1 hk
 rw[Dw ho]at h
 obtain⟨s,u,mb,op,fb,ds,M,rfl,S,hW,hE,hM⟩:=h
 have hMl:M.length<=1000:=aA0 (by rw[<-hM,aB2];exact aD0 _ _) ht
 refine ŗ.mpr ⟨rfl,?_⟩
 rw[c5]
 have lz :∀{τ:St},Aa τ (Ŷ (.lst (tz ol)) (.lst (tz nl)) (.lst (ù ws)) (.lst (ů ns)) now I (BQ (.txt s) (.txt u) mb op fb (.dct ds)) (.lst (ops.map F0)) (.lst R) (ů (M++EI P ns nl now o)) [])->FX o=[]->∃τ',Aa τ τ'/\ĥ ol nl ws ns now I R P E tot ops (k+1) τ':=λ{τ} w0 e=>by
  have hW:Ŏ ol nl ns now P s u (FX o++(ops.drop (k+1)).flatMap FX):=hW
  have hE:Db ol nl s u (FX o++(ops.drop (k+1)).flatMap FX)=E:=hE
  rw[e]at hW hE
  obtain⟨τ',w1,q⟩:=Sf (k:=k+1) (tot:=tot) hI hR (aZ2 hk) ⟨s,u,mb,op,fb,ds,M++EI P ns nl now o,rfl,S,hW,hE,by rw[aC9];exact hM⟩
  exact⟨τ',w0.trans w1,q⟩
 have less :∀{J:List (Str×AV)} {M:List AV} {i1 i2 j1 j2:Int} {t:Str},Aa (Ŷ (.lst (tz ol)) (.lst (tz nl)) (.lst (ù ws)) (.lst (ů ns)) now I J (.lst (ops.map F0)) (.lst R) M (GF t i1 i2 j1 j2)) (Ŷ (.lst (tz ol)) (.lst (tz nl)) (.lst (ù ws)) (.lst (ů ns)) now I J (.lst (ops.map F0)) (.lst R) M []):=λ{J M i1 i2 j1 j2 t}=>
  .less (ρ:=(Ŷ (.lst (tz ol)) (.lst (tz nl)) (.lst (ù ws)) (.lst (ů ns)) now I J (.lst (ops.map F0)) (.lst R) M []).ρ++GF t i1 i2 j1 j2) (λx v e=>Cr e) λ_ _=>id
 have fresh:EI P ns nl now o=EP now (cut nl o.j1 o.j2)->FX o=[]->wL (As w) (Bq w 27) (Bj US) (Ŷ (.lst (tz ol)) (.lst (tz nl)) (.lst (ù ws)) (.lst (ů ns)) now I (BQ (.txt s) (.txt u) mb op fb (.dct ds)) (.lst (ops.map F0)) (.lst R) (ů M) (GF o.k.str (Ŕ o.i1) (Ŕ o.i2) (Ŕ o.j1) (Ŕ o.j2)))
   (ø (As w) (Bq w 28) [] (ø (As w) (Bq w 29) [] (turn (λσ=>∃τ,Aa σ τ/\ĥ ol nl ws ns now I R P E tot ops (k+1) τ) K))):=λe1 e2=>
  Tk (tl:=[]) (uS hI S.S.shut hR) hb.2 hz.1.2 hMl hx λτ hw=>by
   rw[Ac,Av,Ac,Av]
   exact lz (e1▸hw) e2
 cases hq:o.k with
 | eq=>
  refine EX (by decide) ?_
  have e:EI P ns nl now o=cut ns o.i1 o.i2:=by unfold EI;rw[hq]
  rw[c6,ZZ,FT,FT,FT,HN,Ac,Av]
  refine⟨B9,aA0 hz.2 (by decide),aA0 hMl (by decide),aA0 (aP6 hMl (aA0 (Mk ..) hz.2)) (by decide),lz (e▸less) (by unfold FX;rw[hq])⟩
 | rep=>
  have hs:=he hq
  refine Bz (by decide) ?_
  have e1:(Ŕ o.i2-Ŕ o.i1)=((o.i2-o.i1:Nat):Int):=(Int.ofNat_sub hb.1.1).symm
  have e2:(Ŕ o.j2-Ŕ o.j1)=((o.j2-o.j1:Nat):Int):=(Int.ofNat_sub hb.2.1).symm
  rw[c7]
  refine EX (by decide) (EX ?_ ?_)
  ·rw[e1,e2,hs];exact bO5 rfl
  ·have hn:o.i2-o.i1<=1000:=aA0 (Nat.sub_le _ _) (aA0 hb.1.2 hz.1.1)
   rw[ź,bC5,e1,aO4]
   refine⟨⟨by decide,by decide,aQ2 (by decide) (aH4 _),aQ2 (aJ7.mpr hn) (by decide)⟩,?_⟩
   have hp:FX o=(aC2 (o.i2-o.i1)).map λk=>(o.i1+k,o.j1+k):=by unfold FX;rw[hq]
   have hr:EI P ns nl now o=(aC2 (o.i2-o.i1)).map λk=>P (o.i1+k) (o.j1+k):=by unfold EI;rw[hq]
   refine T5 (i1:=o.i1) (j1:=o.j1) (P:=P) (E:=E) (rest:=(ops.drop (k+1)).flatMap FX) (todo:=(ops.drop (k+1)).flatMap (EI P ns nl now)) hz ht ⟨s,u,mb,op,fb,ds,M,rfl,S,?_,?_,?_⟩ (λτ hτ=>?_) ⟨_,rfl⟩ ⟨_,rfl⟩
   ·rw[<-hp];exact hW
   ·rw[<-hp];exact hE
   ·rw[<-hr];exact hM
   ·rw[Ac,Av,Ac,Av,Ac,Av]
    obtain⟨s,u,mb,op,fb,ds,M,rfl,S,hW,hE,hM⟩:=hτ
    obtain⟨τ',w1,q⟩:=Sf (k:=k+1) (tot:=tot) hI hR (aZ2 hk) ⟨s,u,mb,op,fb,ds,M,rfl,S,hW,hE,hM⟩
    exact⟨τ',less.trans w1,q⟩
 | del=>
  refine Bz (by decide) ?_
  rw[c7]
  rw[hq]at fresh
  exact Bz (by decide) (fresh (by unfold EI;rw[hq]) (by unfold FX;rw[hq]))
 | ins=>
  refine Bz (by decide) ?_
  rw[c7]
  rw[hq]at fresh
  exact Bz (by decide) (fresh (by unfold EI;rw[hq]) (by unfold FX;rw[hq]))
end
inductive bO(as:List AV)(os:List Ob)(Q:AV->List Ob->Prop):Prop
 | mk (ol nl:List Str) (ws:List Int) (ns:List (List Int)) (now:Int) (a b mb op fb:AV) (ds:List (AD×AV)) (s u:Str) (mb' op' fb':AV) (ds':List (AD×AV)) (P:Nat->Nat->List Int) (h0:as=[.ref 0,.ref 1,.lst (tz ol),.lst (tz nl),.lst (ù ws),.lst (ů ns),.int now]) (h1:os=[(Ş,BQ a b mb op fb (.dct ds)),(Ş,BQ (.txt s) (.txt u) mb' op' fb' (.dct ds'))]) (h2:(Ŭ a b (ol.map AD.str) (nl.map AD.str) mb op fb ds/\Ŭ (.txt s) (.txt u) (DA s) (DA u) mb' op' fb' ds')) (h3:((ol.length<=1000/\nl.length<=1000)/\ns.length<=1000)) (h4:ws.length<=1000) (h5:(∀x∈nl,x.length<=100000)) (h6 :∀bs,Dj (ol.map AD.str) (nl.map AD.str) 0 (ol.map AD.str).length 0 (nl.map AD.str).length bs->bs.length<64/\∃ops:List Op,IW 0 0 (Cn (ol.map AD.str) (nl.map AD.str) bs)=ops.map F0/\Vd (ol.map AD.str) (nl.map AD.str) 0 0 none ops/\(∀o∈ops,(o.i1<=o.i2/\o.i2<=ol.length)/\(o.j1<=o.j2/\o.j2<=nl.length))/\(∀o∈ops,o.k = .rep->o.i2-o.i1=o.j2-o.j1)/\((FN ws now ops).length<=1000/\(ops.flatMap (EI P ns nl now)).length<=1000)/\Ŏ ol nl ns now P s u (ops.flatMap FX)/\∀(mb2 mb3 op3 fb3:AV) (ds3:List (AD×AV)),Ŭ a b (ol.map AD.str) (nl.map AD.str) mb2 (.lst (ops.map F0)) fb ds->Ŭ (.txt (Db ol nl s u (ops.flatMap FX)).1) (.txt (Db ol nl s u (ops.flatMap FX)).2) (DA (Db ol nl s u (ops.flatMap FX)).1) (DA (Db ol nl s u (ops.flatMap FX)).2) mb3 op3 fb3 ds3->Q (.tup [.lst (ù (FN ws now ops)),.lst (ů (ops.flatMap (EI P ns nl now)))]) [(Ş,BQ a b mb2 (.lst (ops.map F0)) fb (.dct ds)),(Ş,BQ (.txt (Db ol nl s u (ops.flatMap FX)).1) (.txt (Db ol nl s u (ops.flatMap FX)).2) mb3 op3 fb3 (.dct ds3))]):bO as os Q
def N0:Ġ:=λas os Q=>bO as os Q
def X1{f:aV8}{p q r t u x y:Str}(h :∀a b c d e g i:Value,aS1 f ⟨[a,b,c,d,e,g,i],[]⟩=pure ([(p,a),(q,b),(r,c),(t,d),(u,e),(x,g),(y,i)])) :∀vas:List Value,vas.length=7->aS1 f ⟨vas,[]⟩=pure (([p,q,r,t,u,x,y]:List Str).zip vas):=
 GC λa=>GC λb=>GC λc=>GC λd=>GC λe=>GC λg=>GC λi=>V5 (h a b c d e g i)
def lO{w:aC7}{d:Nat}:NX (Ű w) (ë w.params) (As w) (d+6) Ĉ OX aM ME aI:=
 Ur (λf t e=>BU (b:=aE0 f 210) (x:=some K5) e (λq e=>aB8 q▸aA2 e▸Ye) λe=>BU (b:=aE0 f 167) (x:=some G6) e (λq e=>aB8 q▸aA2 e▸BG.up (Jq (d:=d)) (aF6 (by decide:4<=7) d)) λe=>BU (b:=aE0 f 256) (x:=some (Kf KG)) (y:=none) e (λq e=>aB8 q▸aA2 e▸BG.up (BG.le (Ua (d:=d))) (aF6 (by decide:2<=7) d)) AA) (λe=>nomatch e) (λe=>nomatch e) (λ_ e=>nomatch e)
def MJ{o p:Ob}(h:AJ nn o.2=some o.2)(h2:AJ nn p.2=some p.2):CM [o,p]:=λi q e=>by
 cases i with
 | zero=>exact aA2 e▸h
 | succ i=>exact Bs h2 i q e
def dZ{fl:Bx}{σ τ:St}{r:AV}{D D':aC3}{at_ at':List (Str×AV)}{Q:AV->List Ob->Prop}(hf:HD fl r)(hw:Aa σ τ)(h:τ.H.lookup 0=some (.inst D at_))(h':τ.H.lookup 1=some (.inst D' at'))(hr:r.sub nn=some r)(ha:AJ nn at_=some at_)(ha':AJ nn at'=some at')(hq:Q r [(D,at_),(D',at')]):AN 2 Q fl σ:=
 ⟨r,τ,[(D,at_),(D',at')],hf,hw,hr,rfl,MJ ha ha',λi p e=>by
  cases i with
  | zero=>exact aA2 e▸h
  | succ i=>cases i with
   | zero=>exact aA2 e▸h'
   | succ i=>exact AA e,hq⟩
def R1{w:aC7}{d:Nat}:BG (Ű w) (ë w.params) (d+8) (.ref 261) N0:=
 PZ lO (QY _).2.2 (QY _).1 (QY _).2.1 (ps:=["lines","signs","old","new","writers","notes","now"]) (by decide) (by rfl') (X1 λa b c d e f g=>by rfl') λas os Q hh=>by
  obtain⟨ol,nl,ws,ns,now,a,b,mb,op,fb,ds,s,u,mb',op',fb',ds',P,ea,eo,⟨S,S2⟩,hz,hw,hx,hb⟩:=hh
  subst ea;subst eo
  have ll:(ol.map AD.str).length<=100000/\(nl.map AD.str).length<=100000:=⟨by rw[aA6];exact aA0 hz.1.1 (by decide),by rw[aA6];exact aA0 hz.1.2 (by decide)⟩
  refine⟨⟨rfl,MJ S.S.shut S2.S.shut⟩,c0.mpr (NU (x:=0) rfl S.S.shut rfl rfl ⟨_,_,a,b,mb,op,fb,ds,rfl,rfl,S,ll,λbs r=>(hb bs r).1,λbs mbX r S'=>?_⟩)⟩
  obtain⟨ops,e1,hV,hbd,he,hl,hW,hq⟩:=(hb bs r).2
  rw[e1]at S' ⊢
  have sh:AC nn [AV.lst (ops.map F0),.lst (tz ol),.lst (tz nl),.lst (ù ws),.int now]=some [.lst (ops.map F0),.lst (tz ol),.lst (tz nl),.lst (ù ws),.int now]:=AI (AL (Du ops)) (AI (AL (Eu _)) (AI (AL (Eu _)) (AI (B0 ws) rfl)))
  refine c1.mpr (Sa (Cc sh) sh ⟨[.lst (ops.map F0),.lst (ű (ol.map AD.str)),.lst (ű (nl.map AD.str)),.lst (ù ws),.int now],.cons .same (.cons (.seq (.tz ol)) (.cons (.seq (.tz nl)) (.cons .same (.cons .same .nil)))),
   _,_,_,_,ops,ws,now,rfl,rfl,R7 _ _,ll,aA0 hw (by decide),aA0 hl.1 (by decide),hV,?_⟩)
  have hI:=S'.S.shut
  have hR:=Aq (FN ws now ops)
  obtain⟨τ,hw',hi⟩:=Sf (k:=0) (I:=BQ a b mbX (.lst (ops.map F0)) fb (.dct ds)) (E:=Db ol nl s u (ops.flatMap FX)) (tot:=ops.flatMap (EI P ns nl now)) (now:=now) (ws:=ws) (ns:=ns) (P:=P) (R:=ù (FN ws now ops)) hI hR (aE9 ops.length) ⟨s,u,mb',op',fb',ds',[],rfl,S2,hW,rfl,rfl⟩
  refine ĳ.mpr ⟨Du ops,_,⟨τ,hw',hi⟩,λk σ v hv hI'=>Lf hI hR hz hx hl.2 hbd he hv hI',λσ hI'=>?_⟩
  obtain⟨mb3,op3,fb3,ds3,rfl,S3⟩:=hI'.2 (aA6 _)
  rw[Av,Ac,c3]
  exact dZ (fl:=.ret _) rfl (.refl _) rfl rfl (AL (AI (B0 _) (AI (AL (CK _)) rfl))) hI S3.S.shut (hq mbX mb3 op3 fb3 ds3 S' S3)
def FR:List aF3:=(C2 Δ.main.body "law").1
def Bd:Scope:=(C2 Δ.main.body "law").2
def R6(P:aD6):(C9 P 266).body = .stmts FR/\(C9 P 266).scope=Bd/\BL P 266=true:=⟨by rfl',by rfl',by rfl'⟩
noncomputable def oB:aC3->Option Ġ:=λf=>bif aE0 f 251 then some M7 else bif aE0 f 261 then some N0 else bif aE0 f 167 then some (Kf G6)else none
noncomputable def gJ:Pos->Bool:=λp=>!(aE0 p.line 531)
noncomputable def ln(l:List Nat):Pos->Bool:=λp=>l.any λn=>aE0 p.line n
abbrev AM(w:aC7):Pm:=Sq w.params oB (some Vv) false false gJ (ln [552,553])
abbrev A4(w:aC7)(f:Nat):ì:=ER (AM w) Bd f
abbrev Ds(w:aC7)(f:Nat):ř:=(ws (AM w) Bd f).A
abbrev G9(w:aC7)(f:Nat):WE:=(ws (AM w) Bd f).E
def Ć(n:Nat):aF3:=FR.getD n (.Pass AP)
def ï:Expr×List aF3:=EY (Ć 4)
def sX(n:Nat):aF3:=ï.2.getD n (.Pass AP)
def gM(w:aC7):AV->St->ŏ->Prop:=λv σ K=>Ds w 29 ï.1 v σ λσ=>wL (AM w) (A4 w 29) ï.2 σ K
def kB(n:Nat):List Expr:=CO (sX n)
def vX(n:Nat):Expr:=G0 (sX n)
section
variable{w:aC7}{sc:List Int}{K:ŏ}{tx ol wr nt:AV}{X:List (Nat×Ÿ)}{n:Nat}
def ţ(n:Nat):CL:=Gf (G0 (Ć n))
def eP:CL:=Gf ((L3 (G0 (Ć 2))).getD 1 (.Name ("":Str) AP))
abbrev RL(sc:List Int)(tl:List (Str×AV)):List (Str×AV):=("script",.lst (ù sc))::tl
def xI:wL (AM w) (A4 w 30) FR (A6 [("script",.lst (ù sc))] []) K=(Au 0 3/\BF (.list []) (Ad 0 3) (D7 (AM w) 28 Bd (ţ 0) 0) (Ay (ţ 0).2.2) ⟨RL sc [],[],0,0⟩ λv σ=>B8 (Ds w 29) (CO (Ć 0)) v σ λσ=>wL (AM w) (A4 w 30) (FR.drop 1) σ K):=by rfl'
def à{u:AV}:(B8 (Ds w 29) (CO (Ć 0)) u ⟨RL sc [],X,n,0⟩ λσ=>wL (AM w) (A4 w 30) (FR.drop 1) σ K)=(Au 0 3/\BF (.list []) (Ad 0 3) (D7 (AM w) 28 Bd (ţ 1) n) (Ay (ţ 1).2.2) ⟨RL sc [("text",u)],X,n,0⟩ λv σ=>B8 (Ds w 29) (CO (Ć 1)) v σ λσ=>wL (AM w) (A4 w 30) (FR.drop 2) σ K):=by rfl'
def yL{u v:AV}:(B8 (Ds w 29) (CO (Ć 1)) v ⟨RL sc [("text",u)],X,n,0⟩ λσ=>wL (AM w) (A4 w 30) (FR.drop 2) σ K)=(Au 0 3/\BF (.list []) (Ad 0 3) (D7 (AM w) 27 Bd eP n) (Ay eP.2.2) ⟨RL sc [("text",u),("old",v)],X,n,0⟩ λv σ=>B8 (Ds w 29) (CO (Ć 2)) (.tup [.lst (ù [0,0,0]),v]) σ λσ=>wL (AM w) (A4 w 30) (FR.drop 3) σ K):=by rfl'
def z8{u v x:AV}:(B8 (Ds w 29) (CO (Ć 2)) (.tup [.lst (ù [0,0,0]),x]) ⟨RL sc [("text",u),("old",v)],X,n,0⟩ λσ=>wL (AM w) (A4 w 30) (FR.drop 3) σ K)=(2=2/\wL (AM w) (A4 w 30) (FR.drop 3) ⟨RL sc [("text",u),("old",v),("writers",.lst (ù [0,0,0])),("notes",x)],X,n,0⟩ K):=by rfl'
abbrev Vu:List (Str×AV):=BQ İ İ .none .none .none (.dct [])
abbrev Lw(sc:List Int):List AV:=ù [229,89,6,871,18]++ù sc
def Ë{u v x:AV}{A B C:List AV}:wL (AM w) (A4 w 30) (FR.drop 3) ⟨RL sc [("text",u),("old",v),("writers",.lst (ù [0,0,0])),("notes",x)],[(0,.list A),(1,.list B),(2,.list C)],3,0⟩ K =
  (CM [(Ş,[])]/\[AV.ref 0]=[AV.ref 0]/\[(Ş,([]:List (Str×AV)))]=[(Ş,[])]/\AV.none=AV.none/\CM [(Ş,[])]/\[AV.ref 0]=[AV.ref 0]/\[(Ş,([]:List (Str×AV)))]=[(Ş,[])]/\AV.none=AV.none/\AF (5+(ù sc).length)/\3=3/\AF (Lw sc).length/\Au 1 (((Lw sc).length:Int)+1)/\
   EM (Ad 1 (((Lw sc).length:Int)+1-1).toNat) (gM w) (wL (AM w) (A4 w 29) []) ⟨RL sc [("text",u),("old",v),("writers",.lst (ù [0,0,0])),("notes",x),("steps",.lst (Lw sc)),("signs",.ref 4),("lines",.ref 3)],[(0,.list A),(1,.list B),(2,.list C),(3,.inst Ş Vu),(4,.inst Ş Vu)],5,0⟩ (ø (AM w) (A4 w 30) (FR.drop 5) K)):=by rfl'
def wJ{σ:St}:wL (AM w) (A4 w 30) (FR.drop 5) σ K=K (.ret (.bool true)) σ:=by rfl'
abbrev jU(k:Int):AV:=.tup [.int k,.lst (ù [0,1,2,3]),.int 4]
noncomputable abbrev GX(c:Int):Str:=⟨#[c.toNat]⟩
def vV{k:Int}{H:List (Nat×Ÿ)}{q m a:Nat}{R:St->Prop}:D7 (AM w) 28 Bd (ţ 0) q (.int k) ⟨[],H,m,a⟩ R=An .append [.ref q,jU k] ⟨[("k",.int k)],H,m,a⟩ λ_ τ=>R τ:=by rfl'
def nX{k:Int}{v:AV}{H:List (Nat×Ÿ)}{q m a:Nat}{R:St->Prop}:D7 (AM w) 28 Bd (ţ 0) q (.int k) ⟨[("k",v)],H,m,a⟩ R=An .append [.ref q,jU k] ⟨[("k",.int k)],H,m,a⟩ λ_ τ=>R τ:=by rfl'
abbrev Y2(c:Int)(n:Nat)(A:Prop):Prop:=(0<=c/\c<=1114111)/\((GX c).length≠0/\(GX c).length+n<=1000000)/\A
def yD{k:Int}{H:List (Nat×Ÿ)}{q m a:Nat}{R:St->Prop}:D7 (AM w) 28 Bd (ţ 1) q (.int k) ⟨[],H,m,a⟩ R=Y2 (19968+k) 4 (An .append [.ref q,.txt (GX (19968+k) ++ "abcd")] ⟨[("k",.int k)],H,m,a⟩ λ_ τ=>R τ):=by rfl'
def oZ{k:Int}{v:AV}{H:List (Nat×Ÿ)}{q m a:Nat}{R:St->Prop}:D7 (AM w) 28 Bd (ţ 1) q (.int k) ⟨[("k",v)],H,m,a⟩ R=Y2 (19968+k) 4 (An .append [.ref q,.txt (GX (19968+k) ++ "abcd")] ⟨[("k",.int k)],H,m,a⟩ λ_ τ=>R τ):=by rfl'
def zQ{k:Int}{H:List (Nat×Ÿ)}{q m a:Nat}{R:St->Prop}:D7 (AM w) 27 Bd eP q (.int k) ⟨[],H,m,a⟩ R=An .append [.ref q,.lst (ù [0,0,0,0,0])] ⟨[("k",.int k)],H,m,a⟩ λ_ τ=>R τ:=by rfl'
def nR{k:Int}{v:AV}{H:List (Nat×Ÿ)}{q m a:Nat}{R:St->Prop}:D7 (AM w) 27 Bd eP q (.int k) ⟨[("k",v)],H,m,a⟩ R=An .append [.ref q,.lst (ù [0,0,0,0,0])] ⟨[("k",.int k)],H,m,a⟩ λ_ τ=>R τ:=by rfl'
def rT:(Ay (ţ 0).2.2=[]/\Ay (ţ 1).2.2=[])/\Ay eP.2.2=[]:=⟨⟨by rfl',by rfl'⟩,by rfl'⟩
end
abbrev lS(sc:List Int)(T O W N:List AV)(I J:List (Str×AV))(tl:List (Str×AV))(H:List (Nat×Ÿ))(n:Nat):St:=⟨RL sc (("text",.lst T)::("old",.lst O)::("writers",.lst W)::("notes",.lst N)::("steps",.lst (Lw sc))::("lines",.ref 0)::("signs",.ref 1)::tl),(0,.inst Ş I)::(1,.inst Ş J)::H,n,0⟩
section
variable{w:aC7}{sc:List Int}{K:ŏ}{T O W N:List AV}{I J:List (Str×AV)}{n:Nat}{now k x:Int}
abbrev Œ(n i:Nat):Expr:=(L3 (vX n)).getD i (.Name ("":Str) AP)
abbrev lb(now:Int)(tl:List (Str×AV)):List (Str×AV):=("now",.int now)::tl
def xC:gM w (.int now) (lS sc T O W N I J [] [] 2) K=Ml (G9 w 27) (L3 (vX 0)) (lS sc T O W N I J (lb now []) [] 2) λvs σ=>Oz (.tup vs) 2 σ λvs σ=>Z5 Bd (["kind","x"]:List Str).reverse vs.reverse σ λσ=>wL (AM w) (A4 w 29) (ï.2.drop 1) σ K:=by rfl'
def oW{Z:List AV->St->Prop}{σ:St}:Ml (G9 w 27) (L3 (vX 0)) σ Z=G9 w 27 (Œ 0 0) σ λu σ=>G9 w 27 (Œ 0 1) σ λv σ=>Z [u,v] σ:=rfl
def yX{Q:AV->St->Prop}:G9 w 27 (Œ 0 0) (lS sc T O W N I J (lb now []) [] 2) Q=(C1 (now-1)/\∃v,Dq (Lw sc) (now-1)=some v/\ED .Mod v (.int 3) (lS sc T O W N I J (lb now []) [] 2) Q):=by rfl'
def v6{Q:AV->St->Prop}:G9 w 27 (Œ 0 1) (lS sc T O W N I J (lb now []) [] 2) Q=(C1 (now-1)/\∃v,Dq (Lw sc) (now-1)=some v/\ED .FloorDiv v (.int 3) (lS sc T O W N I J (lb now []) [] 2) Q):=by rfl'
def xG{Q:AV->St->Prop}{σ:St}:ED .Mod (.int x) (.int 3) σ Q=((3:Int)≠0/\Q (.int (x.fmod 3)) σ):=by rfl'
def y0{Q:AV->St->Prop}{σ:St}:ED .FloorDiv (.int x) (.int 3) σ Q=((3:Int)≠0/\aK1 x 3=false/\Q (.int (x.fdiv 3)) σ):=by rfl'
def bN:CL:=Gf (vX 3)
abbrev ă(now kd at_ x:Int)(tl:List (Str×AV)):List (Str×AV):=("now",.int now)::("x",.int x)::("kind",.int kd)::("at",.int at_)::tl
def Ü:(Oz (.tup [.int k,.int x]) 2 (lS sc T O W N I J (lb now []) [] 2) λvs σ=>Z5 Bd (["kind","x"]:List Str).reverse vs.reverse σ λσ=>wL (AM w) (A4 w 29) (ï.2.drop 1) σ K) =
  (2=2/\AF T.length/\(T.length:Int)+1≠0/\AF T.length/\(T.length:Int)+1≠0/\aK1 x ((T.length:Int)+1)=false/\2=2/\2=2/\AC nn T=some T/\
   BF (.list []) T (D7 (AM w) 27 Bd bN 4) (Ay bN.2.2) (lS sc T O W N I J (ă now k (x.fmod ((T.length:Int)+1)) (x.fdiv ((T.length:Int)+1)) [("marks",.ref 3),("due",.ref 2)]) [(2,.list []),(3,.list [])] 4) λv σ=>B8 (Ds w 28) (kB 3) v σ λσ=>wL (AM w) (A4 w 29) (ï.2.drop 4) σ K):=by rfl'
def vT{v:AV}{H:List (Nat×Ÿ)}{q m a:Nat}{R:St->Prop}:D7 (AM w) 27 Bd bN q v ⟨[],H,m,a⟩ R=An .append [.ref q,v] ⟨[("one",v)],H,m,a⟩ λ_ τ=>R τ:=by rfl'
def qE{u v:AV}{H:List (Nat×Ÿ)}{q m a:Nat}{R:St->Prop}:D7 (AM w) 27 Bd bN q v ⟨[("one",u)],H,m,a⟩ R=An .append [.ref q,v] ⟨[("one",v)],H,m,a⟩ λ_ τ=>R τ:=by rfl'
def wA:Ay bN.2.2=[]:=by rfl'
abbrev ld(now kd at_ x:Int)(D M A:AV)(tl:List (Str×AV)):List (Str×AV):=ă now kd at_ x (("marks",M)::("due",D)::("after",A)::tl)
noncomputable abbrev ž(tl:List (Nat×Ÿ))(D M A:List AV):List (Nat×Ÿ):=(2,.list D)::(3,.list M)::(4,.list A)::tl
def yI{at_:Int}{A:List AV}:(B8 (Ds w 28) (kB 3) (.ref 4) (lS sc T O W N I J (ă now k at_ x [("marks",.ref 3),("due",.ref 2)]) (ž [] [] [] A) 5) λσ=>wL (AM w) (A4 w 29) (ï.2.drop 4) σ K)=wL (AM w) (A4 w 29) (ï.2.drop 4) (lS sc T O W N I J (ld now k at_ x (.ref 2) (.ref 3) (.ref 4) []) (ž [] [] [] A) 5) K:=by rfl'
def ż:aF3:=sX 4
def Zc:aF3:=(Bj ż).getD 0 (.Pass AP)
def fK:Expr×List aF3:=EY ((Bj Zc).getD 0 (.Pass AP))
def RO(w:aC7):AV->St->ŏ->Prop:=λv σ K=>Ds w 26 fK.1 v σ λσ=>wL (AM w) (A4 w 26) fK.2 σ K
def uB{at_:Int}{A:List AV}:wL (AM w) (A4 w 29) (ï.2.drop 4) (lS sc T O W N I J (ld now k at_ x (.ref 2) (.ref 3) (.ref 4) []) (ž [] [] [] A) 5) K =
  BX (decide (AD.int k=AD.int 0)) ((2:Int)≠0/\BX (decide (AD.int (x.fmod 2)=AD.int 0)) (wL (AM w) (A4 w 28) (Ar ż) (lS sc T O W N I J (ld now k at_ x (.ref 2) (.ref 3) (.ref 4) []) (ž [] [] [] A) 5) (ø (AM w) (A4 w 29) (ï.2.drop 5) K)) (wL (AM w) (A4 w 28) (Bj ż) (lS sc T O W N I J (ld now k at_ x (.ref 2) (.ref 3) (.ref 4) []) (ž [] [] [] A) 5) (ø (AM w) (A4 w 29) (ï.2.drop 5) K)))
   (wL (AM w) (A4 w 28) (Bj ż) (lS sc T O W N I J (ld now k at_ x (.ref 2) (.ref 3) (.ref 4) []) (ž [] [] [] A) 5) (ø (AM w) (A4 w 29) (ï.2.drop 5) K)):=by rfl'
def uD{at_:Int}{A:List AV}:wL (AM w) (A4 w 28) (Bj ż) (lS sc T O W N I J (ld now k at_ x (.ref 2) (.ref 3) (.ref 4) []) (ž [] [] [] A) 5) K =
  BX (decide (AD.int k=AD.int 0)) (wL (AM w) (A4 w 27) (Ar Zc) (lS sc T O W N I J (ld now k at_ x (.ref 2) (.ref 3) (.ref 4) []) (ž [] [] [] A) 5) (ø (AM w) (A4 w 28) [] K)) (wL (AM w) (A4 w 27) (Bj Zc) (lS sc T O W N I J (ld now k at_ x (.ref 2) (.ref 3) (.ref 4) []) (ž [] [] [] A) 5) (ø (AM w) (A4 w 28) [] K)):=by rfl'
abbrev kH(L X:List AV)(a:Int)(P:Prop):Prop:=(none:Option Int)≠some 0/\AF L.length/\AF ((AZ L none (some a) none).length+X.length)/\(none:Option Int)≠some 0/\AF L.length/\AF ((AZ L none (some a) none++X).length+(AZ L (some a) none none).length)/\P
abbrev jA(L:List AV)(a:Int)(P:Prop):Prop:=(none:Option Int)≠some 0/\AF L.length/\(none:Option Int)≠some 0/\AF L.length/\AF ((AZ L none (some a) none).length+(AZ L (some (a+1)) none none).length)/\P
abbrev WG(L X:List AV)(a:Int):List AV:=AZ L none (some a) none++X++AZ L (some a) none none
abbrev V7(L:List AV)(a:Int):List AV:=AZ L none (some a) none++AZ L (some (a+1)) none none
def uZ{at_:Int}{A:List AV}:wL (AM w) (A4 w 28) (Ar ż) (lS sc T O W N I J (ld now k at_ x (.ref 2) (.ref 3) (.ref 4) []) (ž [] [] [] A) 5) K =
  kH T [.tup [.int (2+now),.lst (ù [0,1]),.int 2]] at_ (kH W [.int now] at_ (kH N [.lst (ù [now,now,now])] at_ (K .next (lS sc T O W N I J (ld now k at_ x (.lst (WG W [.int now] at_)) (.lst (WG N [.lst (ù [now,now,now])] at_)) (.lst (WG T [.tup [.int (2+now),.lst (ù [0,1]),.int 2]] at_)) []) (ž [] [] [] A) 5)))):=by rfl'
def v0{at_:Int}{A:List AV}:wL (AM w) (A4 w 27) (Ar Zc) (lS sc T O W N I J (ld now k at_ x (.ref 2) (.ref 3) (.ref 4) []) (ž [] [] [] A) 5) K =
  jA T at_ (jA W at_ (jA N at_ (2=2/\K .next (lS sc T O W N I J (ld now k at_ x (.lst (V7 W at_)) (.lst (V7 N at_)) (.lst (V7 T at_)) []) (ž [] [] [] A) 5)))):=by rfl'
def xL{at_:Int}{A:List AV}:wL (AM w) (A4 w 27) (Bj Zc) (lS sc T O W N I J (ld now k at_ x (.ref 2) (.ref 3) (.ref 4) []) (ž [] [] [] A) 5) K=(AF T.length/\Au 0 T.length/\EM (Ad 0 ((T.length:Int)-0).toNat) (RO w) (wL (AM w) (A4 w 26) []) (lS sc T O W N I J (ld now k at_ x (.ref 2) (.ref 3) (.ref 4) []) (ž [] [] [] A) 5) (ø (AM w) (A4 w 27) [] K)):=by rfl'
end
abbrev ı(n:Nat):aF3:=fK.2.getD n (.Pass AP)
abbrev jO(n:Nat):List Expr:=CO (ı n)
abbrev ē(sc:List Int)(T O W N:List AV)(I J:List (Str×AV))(now kd at_ x:Int)(D M A:List AV)(tl:List (Str×AV))(H:List (Nat×Ÿ))(n:Nat):St:=lS sc T O W N I J (ld now kd at_ x (.ref 2) (.ref 3) (.ref 4) tl) (ž H D M A) n
abbrev mt(k nm made:Int)(row:List Int)(tl:List (Str×AV)):List (Str×AV):=("k",.int k)::("name",.int nm)::("row",.lst (ù row))::("made",.int made)::tl
abbrev î(k nm made:Int)(row dd dr bk:List Int)(tl:List (Str×AV)):List (Str×AV):=mt k nm made row (("deed",.lst (ù dd))::("drop",.lst (ù dr))::("back",.lst (ù bk))::tl)
def iK:aF3:=ı 2
abbrev ą:=(Expr×Expr)×List aF5×Scope
def T6(P:Pm)(f:Nat)(sc:Scope)(q:ą)(n:Nat):AV->St->(St->Prop)->Prop:=ET (Md P f (Bw q.2.2 sc)) (q.2.1.getD 0 lP) (Rx P (Bw q.2.2 sc) (Md P f (Bw q.2.2 sc)) (Vm q.1.1 q.1.2 (Md P f (Bw q.2.2 sc)) n) (q.2.1.drop 1))
def ŋ:ą:=rV (G0 ((Ar iK).getD 0 (.Pass AP)))
abbrev wS(n:Nat):aF3:=(Ar iK).getD n (.Pass AP)
section
variable{w:aC7}{sc:List Int}{K:ŏ}{T O W N D M A:List AV}{I J:List (Str×AV)}{n:Nat}{now k x kd at_ nm made:Int}{row dd dr bk:List Int}
def Ņ:RO w (.int k) (ē sc T O W N I J now kd at_ x D M A [] [] 5) K=(C1 k/\∃v,Dq T k=some v/\B8 (Ds w 25) (jO 0) v (ē sc T O W N I J now kd at_ x D M A [("k",.int k)] [] 5) λσ=>wL (AM w) (A4 w 26) (fK.2.drop 1) σ K):=by rfl'
def Ę:(B8 (Ds w 25) (jO 0) (.tup [.int nm,.lst (ù row),.int made]) (ē sc T O W N I J now kd at_ x D M A [("k",.int k)] [] 5) λσ=>wL (AM w) (A4 w 26) (fK.2.drop 1) σ K)=(3=3/\(3:Int)≠0/\aK1 x 3=false/\BO M7 [.int (x.fdiv 3),.lst (ù row),.int made] (ē sc T O W N I J now kd at_ x D M A (mt k nm made row []) [] 5) λv σ=>B8 (Ds w 25) (jO 1) v σ λσ=>wL (AM w) (A4 w 26) (fK.2.drop 2) σ K):=by rfl'
def Ŧ:(B8 (Ds w 25) (jO 1) (.tup [.lst (ù dd),.lst (ù dr),.lst (ù bk)]) (ē sc T O W N I J now kd at_ x D M A (mt k nm made row []) [] 5) λσ=>wL (AM w) (A4 w 26) (fK.2.drop 2) σ K)=(3=3/\wL (AM w) (A4 w 26) (fK.2.drop 2) (ē sc T O W N I J now kd at_ x D M A (î k nm made row dd dr bk []) [] 5) K):=by rfl'
def Ą:wL (AM w) (A4 w 26) (fK.2.drop 2) (ē sc T O W N I J now kd at_ x D M A (î k nm made row dd dr bk []) [] 5) K=BX (decide (at_<=k)) ((3:Int)≠0/\BX (decide (k<=at_+x.fmod 3)) (GJ .NotEq (.lst (ù dd)) (.lst (ù row)) (ē sc T O W N I J now kd at_ x D M A (î k nm made row dd dr bk []) [] 5) λr σ=>Ce r σ λc σ=>BX c (wL (AM w) (A4 w 25) (Ar iK) σ (ø (AM w) (A4 w 26) [] K)) (wL (AM w) (A4 w 25) (Bj iK) σ (ø (AM w) (A4 w 26) [] K))) (wL (AM w) (A4 w 25) (Bj iK) (ē sc T O W N I J now kd at_ x D M A (î k nm made row dd dr bk []) [] 5) (ø (AM w) (A4 w 26) [] K))) (wL (AM w) (A4 w 25) (Bj iK) (ē sc T O W N I J now kd at_ x D M A (î k nm made row dd dr bk []) [] 5) (ø (AM w) (A4 w 26) [] K)):=by rfl'
def ő:wL (AM w) (A4 w 25) (Ar iK) (ē sc T O W N I J now kd at_ x D M A (î k nm made row dd dr bk []) [] 5) K=(AF (ù row).length/\Au 0 (ù row).length/\BF (.dict []) (Ad 0 (((ù row).length:Int)-0).toNat) (T6 (AM w) 23 Bd ŋ 5) (Ay ŋ.2.2) (ē sc T O W N I J now kd at_ x D M A (î k nm made row dd dr bk []) [] 5) λu σ=>B8 (Ds w 24) (CO (wS 0)) u σ λσ=>wL (AM w) (A4 w 25) ((Ar iK).drop 1) σ K):=by rfl'
def vF:Ay ŋ.2.2=(["drop","k","notes","row"]:List Str):=by rfl'
abbrev đ(dr:List Int)(k:Int)(N:List AV)(row:List Int)(tl:List (Str×AV)):List (Str×AV):=("drop",.lst (ù dr))::("k",.int k)::("notes",.lst N)::("row",.lst (ù row))::tl
abbrev WK(w:aC7):ń:=Md (AM w) 23 (Bw ŋ.2.2 Bd)
def Ě:Expr:=(ŋ.2.1.getD 0 lP).ifs.getD 0 (.Name ("":Str) AP)
section
variable{i:Int}{H:List (Nat×Ÿ)}{q m a:Nat}{R:St->Prop}{v:AV}{Q:AV->St->Prop}{V:Bool->St->Prop}
def vU:T6 (AM w) 23 Bd ŋ q (.int i) ⟨đ dr k N row [],H,m,a⟩ R=(Md (AM w) 23 (Bw ŋ.2.2 Bd)).B Ě ⟨đ dr k N row [("i",.int i)],H,m,a⟩ λb σ=>BX b (Vm ŋ.1.1 ŋ.1.2 (WK w) q σ R) (R σ):=by rfl'
def ã:T6 (AM w) 23 Bd ŋ q (.int i) ⟨đ dr k N row [("i",v)],H,m,a⟩ R=(Md (AM w) 23 (Bw ŋ.2.2 Bd)).B Ě ⟨đ dr k N row [("i",.int i)],H,m,a⟩ λb σ=>BX b (Vm ŋ.1.1 ŋ.1.2 (WK w) q σ R) (R σ):=by rfl'
def vR:(Md (AM w) 23 (Bw ŋ.2.2 Bd)).B Ě ⟨đ dr k N row [("i",.int i)],H,m,a⟩ V=(C1 i/\∃v,Dq (ù row) i=some v/\FA .NotIn v (.lst (ù dr)) ⟨đ dr k N row [("i",.int i)],H,m,a⟩ λv σ=>Ce v σ V):=by rfl'
def vQ:(WK w).E ŋ.1.1 ⟨đ dr k N row [("i",.int i)],H,m,a⟩ Q=(C1 i/\∃v,Dq (ù row) i=some v/\Q v ⟨đ dr k N row [("i",.int i)],H,m,a⟩):=by rfl'
def zN:(WK w).E ŋ.1.2 ⟨đ dr k N row [("i",.int i)],H,m,a⟩ Q=(C1 k/\∃v,Dq N k=some v/\FY v (.int (i+1)) ⟨đ dr k N row [("i",.int i)],H,m,a⟩ Q):=by rfl'
end
def bA:CL:=Gf (E0 (Ow ((L3 (G0 (wS 1))).getD 2 (.Name ("":Str) AP)))).2
def Zs:CL:=Gf (E0 (Ow (jV (wS 3)))).2
def Ź{Wd:List (AD×AV)}:(B8 (Ds w 24) (CO (wS 0)) (.ref 5) (ē sc T O W N I J now kd at_ x D M A (î k nm made row dd dr bk []) [(5,.dict Wd)] 6) λσ=>wL (AM w) (A4 w 25) ((Ar iK).drop 1) σ K)=(AC nn (ù dd)=some (ù dd)/\BF (.list []) (ù dd) (D7 (AM w) 20 Bd bA 6) (Ay bA.2.2) (ē sc T O W N I J now kd at_ x D M A (î k nm made row dd dr bk [("was",.ref 5)]) [(5,.dict Wd)] 6) λb σ=>ED .Add (.lst [.int made]) b σ λv σ=>Do (AM w) (.fn .max) [v] σ λmx σ=>B8 (Ds w 24) (CO (wS 1)) (.tup [.int nm,.lst (ù dd),mx]) σ λσ=>wL (AM w) (A4 w 25) ((Ar iK).drop 2) σ K):=by rfl'
def zP{s:Int}{H:List (Nat×Ÿ)}{q m a:Nat}{R:St->Prop}:D7 (AM w) 20 Bd bA q (.int s) ⟨[],H,m,a⟩ R=An .append [.ref q,.int (s+1)] ⟨[("sign",.int s)],H,m,a⟩ λ_ τ=>R τ:=by rfl'
def xQ{s:Int}{v:AV}{H:List (Nat×Ÿ)}{q m a:Nat}{R:St->Prop}:D7 (AM w) 20 Bd bA q (.int s) ⟨[("sign",v)],H,m,a⟩ R=An .append [.ref q,.int (s+1)] ⟨[("sign",.int s)],H,m,a⟩ λ_ τ=>R τ:=by rfl'
def mE:Ay bA.2.2=[]:=by rfl'
section
variable{Wd:List (AD×AV)}{mx:Int}{L:List AV}{X H:List (Nat×Ÿ)}{Q:AV->St->Prop}{R:St->Prop}{q m a:Nat}{v:AV}{s:Int}
def š:(B8 (Ds w 24) (CO (wS 1)) (.tup [.int nm,.lst (ù dd),.int mx]) (ē sc T O W N I J now kd at_ x D M A (î k nm made row dd dr bk [("was",.ref 5)]) ((5,.dict Wd)::[(6,.list L)]) 7) λσ=>wL (AM w) (A4 w 25) ((Ar iK).drop 2) σ K)=(AF A.length/\((0<=k/\k<A.length)/\wL (AM w) (A4 w 25) ((Ar iK).drop 2) (ē sc T O W N I J now kd at_ x D M (A.set k.toNat (.tup [.int nm,.lst (ù dd),.int mx])) (î k nm made row dd dr bk [("was",.ref 5)]) ((5,.dict Wd)::[(6,.list L)]) 7) K)):=by rfl'
def þ:wL (AM w) (A4 w 25) ((Ar iK).drop 2) (ē sc T O W N I J now kd at_ x D M A (î k nm made row dd dr bk [("was",.ref 5)]) ((5,.dict Wd)::[(6,.list L)]) 7) K=(AF D.length/\wL (AM w) (A4 w 25) ((Ar iK).drop 3) (ē sc T O W N I J now kd at_ x (D++[.int now]) M A (î k nm made row dd dr bk [("was",.ref 5)]) ((5,.dict Wd)::[(6,.list L)]) 7) K):=by rfl'
def jZ:Expr:=Ow (jV (wS 3))
def Ŀ:wL (AM w) (A4 w 25) ((Ar iK).drop 3) (ē sc T O W N I J now kd at_ x D M A (î k nm made row dd dr bk [("was",.ref 5)]) ((5,.dict Wd)::[(6,.list L)]) 7) K=G9 w 22 (E0 jZ).1 (ē sc T O W N I J now kd at_ x D M A (î k nm made row dd dr bk [("was",.ref 5)]) ((5,.dict Wd)::[(6,.list L)]) 7) λa σ=>G9 w 22 (E0 jZ).2 σ λb σ=>ED .Add a b σ λv σ=>Do (AM w) (.fn .append) [.ref 3,v] σ λ_ σ=>K .next σ:=by rfl'
def yF:G9 w 22 (E0 jZ).1 (ē sc T O W N I J now kd at_ x D M A (î k nm made row dd dr bk [("was",.ref 5)]) ((5,.dict Wd)::[(6,.list L)]) 7) Q=(C1 k/\∃v,Dq N k=some v/\FY v (.int 0) (ē sc T O W N I J now kd at_ x D M A (î k nm made row dd dr bk [("was",.ref 5)]) ((5,.dict Wd)::[(6,.list L)]) 7) λu σ=>Q (.lst [u]) σ):=by rfl'
def vA:G9 w 22 (E0 jZ).2 (ē sc T O W N I J now kd at_ x D M A (î k nm made row dd dr bk [("was",.ref 5)]) ((5,.dict Wd)::[(6,.list L)]) 7) Q=(AC nn (ù dd)=some (ù dd)/\BF (.list []) (ù dd) (D7 (AM w) 21 Bd Zs 7) (Ay Zs.2.2) (ē sc T O W N I J now kd at_ x D M A (î k nm made row dd dr bk [("was",.ref 5)]) ((5,.dict Wd)::[(6,.list L)]) 7) Q):=by rfl'
def oG:Ay Zs.2.2=(["now","was"]:List Str):=by rfl'
noncomputable abbrev Zb(o0 o1 ó o3 Ś:Ÿ)(Wd:List (AD×AV))(X:List (Nat×Ÿ)):List (Nat×Ÿ):=(0,o0)::(1,o1)::(2,ó)::(3,o3)::(4,Ś)::(5,.dict Wd)::X
def uV{o0 o1 ó o3 Ś:Ÿ}:D7 (AM w) 21 Bd Zs q (.int s) ⟨[("now",.int now),("was",.ref 5)],Zb o0 o1 ó o3 Ś Wd X,m,a⟩ R=BX (Wd.lookup (.int s)).isSome (∃v,Wd.lookup (AD.int s)=some v/\An .append [.ref q,v] ⟨[("now",.int now),("was",.ref 5),("sign",.int s)],Zb o0 o1 ó o3 Ś Wd X,m,a⟩ λ_ τ=>R τ) (An .append [.ref q,.int now] ⟨[("now",.int now),("was",.ref 5),("sign",.int s)],Zb o0 o1 ó o3 Ś Wd X,m,a⟩ λ_ τ=>R τ):=by rfl'
def vG{o0 o1 ó o3 Ś:Ÿ}:D7 (AM w) 21 Bd Zs q (.int s) ⟨[("now",.int now),("was",.ref 5),("sign",v)],Zb o0 o1 ó o3 Ś Wd X,m,a⟩ R=BX (Wd.lookup (.int s)).isSome (∃v,Wd.lookup (AD.int s)=some v/\An .append [.ref q,v] ⟨[("now",.int now),("was",.ref 5),("sign",.int s)],Zb o0 o1 ó o3 Ś Wd X,m,a⟩ λ_ τ=>R τ) (An .append [.ref q,.int now] ⟨[("now",.int now),("was",.ref 5),("sign",.int s)],Zb o0 o1 ó o3 Ś Wd X,m,a⟩ λ_ τ=>R τ):=by rfl'
end
def m5:wL (AM w) (A4 w 25) (Bj iK) (ē sc T O W N I J now kd at_ x D M A (î k nm made row dd dr bk []) [] 5) K=(C1 k/\∃v,Dq W k=some v/\AF D.length/\C1 k/\∃u,Dq N k=some u/\AF M.length/\K .next (ē sc T O W N I J now kd at_ x (D++[v]) (M++[u]) A (î k nm made row dd dr bk []) [] 5)):=by rfl'
end
abbrev Ĥ(sc:List Int)(T O W N:List AV)(I J:List (Str×AV))(now kd at_ x:Int)(D M A:List AV)(tl:List (Str×AV))(H:List (Nat×Ÿ))(n:Nat):St:=lS sc T O W N I J (ld now kd at_ x (.lst D) (.lst M) (.lst A) tl) H n
def ũ:CL:=Gf (vX 5)
abbrev Sp(nm made:Int)(row:List Int):AV:=.tup [.int nm,.lst (ù row),.int made]
section
variable{w:aC7}{sc:List Int}{K:ŏ}{T O W N D M A L:List AV}{I J:List (Str×AV)}{n:Nat}{now k x kd at_ nm made:Int}{row:List Int}{H:List (Nat×Ÿ)}{q m a:Nat}{R:St->Prop}{σ:St}
def n0:wL (AM w) (A4 w 29) (ï.2.drop 5) σ K=(∃τ,Aa σ τ/\A4 w 29 (sX 5) τ (ø (AM w) (A4 w 29) (ï.2.drop 6) K)):=by rfl'
def Ă:A4 w 29 (sX 5) (Ĥ sc T O W N I J now kd at_ x D M A [] [] 2) K=(AC nn A=some A/\BF (.list []) A (D7 (AM w) 27 Bd ũ 2) (Ay ũ.2.2) (Ĥ sc T O W N I J now kd at_ x D M A [] [] 2) λv σ=>B8 (Ds w 28) (kB 5) v σ λσ=>K .next σ):=by rfl'
def yS:Ay ũ.2.2=[]:=by rfl'
abbrev WN(w:aC7)(f:Nat):ń:=Md (AM w) f (Bw ũ.2.2 Bd)
abbrev oN(nm made:Int)(row:List Int)(H:List (Nat×Ÿ))(m a:Nat):St:=⟨[("one",Sp nm made row)],H,m,a⟩
def n2:D7 (AM w) 27 Bd ũ q (Sp nm made row) ⟨[],H,m,a⟩ R=(WN w 26).E (E0 ũ.1).1 (oN nm made row H m a) λa σ=>(WN w 26).E (E0 ũ.1).2 σ λb σ=>ED .Add a b σ λu τ=>An .append [.ref q,u] τ λ_ τ=>R τ:=by rfl'
def xO{v:AV}:D7 (AM w) 27 Bd ũ q (Sp nm made row) ⟨[("one",v)],H,m,a⟩ R=(WN w 26).E (E0 ũ.1).1 (oN nm made row H m a) λa σ=>(WN w 26).E (E0 ũ.1).2 σ λb σ=>ED .Add a b σ λu τ=>An .append [.ref q,u] τ λ_ τ=>R τ:=by rfl'
def Ç{Q:AV->St->Prop}:(WN w 26).E (E0 ũ.1).1 (oN nm made row H m a) Q=(C1 0/\∃v,Dq [.int nm,.lst (ù row),.int made] 0=some v/\ED .Add (.int 19968) v (oN nm made row H m a) λv σ=>Do (AM w) (.fn .chr) [v] σ Q):=by rfl'
def zC{c:Int}{Q:AV->St->Prop}:Do (AM w) (.fn .chr) [.int c] σ Q=((0<=c/\c<=1114111)/\Q (.txt (GX c)) σ):=by rfl'
def aU:CL:=Gf (Ow (E0 ũ.1).2)
def È{Q:AV->St->Prop}:(WN w 26).E (E0 ũ.1).2 (oN nm made row H m a) Q=(C1 1/\∃v,Dq [.int nm,.lst (ù row),.int made] 1=some v/\Ap (KD v) λvs=>AC nn vs=some vs/\BF (.list []) vs (D7 (AM w) 24 (Bw ũ.2.2 Bd) aU m) (Ay aU.2.2) (oN nm made row H m a) λu σ=>Do (AM w) (.fn .join) [.str "",u] σ Q):=by rfl'
def Û{s:Int}:D7 (AM w) 24 (Bw ũ.2.2 Bd) aU q (.int s) ⟨[],H,m,a⟩ R=((0<=97+s/\97+s<=1114111)/\An .append [.ref q,.txt (GX (97+s))] ⟨[("sign",.int s)],H,m,a⟩ λ_ τ=>R τ):=by rfl'
def yO{s:Int}{v:AV}:D7 (AM w) 24 (Bw ũ.2.2 Bd) aU q (.int s) ⟨[("sign",v)],H,m,a⟩ R=((0<=97+s/\97+s<=1114111)/\An .append [.ref q,.txt (GX (97+s))] ⟨[("sign",.int s)],H,m,a⟩ λ_ τ=>R τ):=by rfl'
def pW:Ay aU.2.2=[]:=by rfl'
def y9{Q:AV->St->Prop}{u:AV}:Do (AM w) (.fn .join) [.str "",u] σ Q=(Ap (B6 σ u) λvs=>Ap (Ek vs) λxs=>(bB5 (xs.toArray.foldl (· + ·.length+bM9 "") 0)=false/\(aH3 "" xs).length<=aR5)/\Q (.str (aH3 "" xs)) σ):=by rfl'
def y7{Q:AV->St->Prop}{x y:Str}:ED .Add (.txt x) (.str y) σ Q=((x.length≠0/\x.length+y.length<=1000000)/\Q (.txt (x++y)) σ):=by rfl'
def ú:wL (AM w) (A4 w 29) (ï.2.drop 6) σ K=(∃τ,Aa σ τ/\A4 w 29 (sX 6) τ (ø (AM w) (A4 w 29) (ï.2.drop 7) K)):=by rfl'
def vC:(B8 (Ds w 28) (kB 5) (.ref 2) (Ĥ sc T O W N I J now kd at_ x D M A [] H n) λσ=>K .next σ)=K .next (Ĥ sc T O W N I J now kd at_ x D M A [("new",.ref 2)] H n):=by rfl'
variable{a0 b0 mb op fb d:AV}
def n4:A4 w 29 (sX 6) (Ĥ sc T O W N (BQ a0 b0 mb op fb d) J now kd at_ x D M A [("new",.lst L)] [] 2) K=BO (Kf G6) [.ref 0,.lst O,.lst L] (Ĥ sc T O W N (BQ a0 b0 mb op fb d) J now kd at_ x D M A [("new",.lst L)] [] 2) λ_ σ=>K .next σ:=by rfl'
noncomputable def uN(e:Expr):Expr×Expr:=(X5 e 0,X5 e 1)
def oE:Expr:=(Qg (sX 7)).2.1
def ñ:wL (AM w) (A4 w 29) (ï.2.drop 7) (Ĥ sc T O W N I J now kd at_ x D M A [("new",.lst L)] [] 2) K=BO N0 [.ref 0,.ref 1,.lst O,.lst L,.lst W,.lst N,.int now] (Ĥ sc T O W N I J now kd at_ x D M A [("new",.lst L)] [] 2) λv σ=>G9 w 27 (uN oE).2 σ λb σ=>FA .NotEq v b σ λr σ=>Ce r σ λc σ=>BX c (wL (AM w) (A4 w 28) (Ar (sX 7)) σ (ø (AM w) (A4 w 29) (ï.2.drop 8) K)) (wL (AM w) (A4 w 28) (Bj (sX 7)) σ (ø (AM w) (A4 w 29) (ï.2.drop 8) K)):=by rfl'
def Æ{Q:AV->St->Prop}:G9 w 27 (uN oE).2 (Ĥ sc T O W N I J now kd at_ x D M A [("new",.lst L)] [] 2) Q=Q (.tup [.lst D,.lst M]) (Ĥ sc T O W N I J now kd at_ x D M A [("new",.lst L)] [] 2):=by rfl'
def Ō:wL (AM w) (A4 w 28) (Bj (sX 7)) σ K=K .next σ:=by rfl'
def n7:wL (AM w) (A4 w 29) (ï.2.drop 8) (Ĥ sc T O W N I J now kd at_ x D M A [("new",.lst L)] [] 2) K=(4=4/\K .next (Ĥ sc A L D M I J now kd at_ x D M A [("new",.lst L)] [] 2)):=by rfl'
end
structure Ln where
 nm:Int
 row:List Int
 made:Int
 n0:Int
 b:Int->Int
 wr:Int
def Ln.t(l:Ln):AV:=Sp l.nm l.made l.row
noncomputable def Ln.nt(l:Ln):List Int:=l.n0::l.row.map l.b
noncomputable def Ln.str(l:Ln):Str:=⟨((19968+l.nm).toNat::l.row.map λs=>(97+s).toNat).toArray⟩
def Ln.chg(now x:Int)(l:Ln):Ln:=⟨l.nm,(Ax x l.row l.made).1,ML (l.made::(Ax x l.row l.made).1.map (· + 1)),l.n0,λs=>if s∈l.row/\s∉(Ax x l.row l.made).2 then l.b s else now,now⟩
def Ln.step(now at_ x:Int)(k:Nat)(l:Ln):Ln:=if at_<=(k:Int)/\(k:Int)<=at_+x.fmod 3/\(Ax (x.fdiv 3) l.row l.made).1≠l.row then l.chg now (x.fdiv 3)else l
structure Ji(l:Ln):Prop where
 nd:l.row.Nodup
 bd :∀s∈l.row,0<=s/\s<l.made
 len:l.row.length<=900
 md:0<=l.made/\l.made<=900
 nm:0<=l.nm/\l.nm<=900
def Dp(Ls:List Ln):List AV:=Ls.map Ln.t
noncomputable def IH(Ls:List Ln):List AV:=tz (Ls.map Ln.str)
def Fm(Ls:List Ln):List AV:=ù (Ls.map Ln.wr)
def Fd(Ls:List Ln):List AV:=ů (Ls.map Ln.nt)
def Iu(l:Ln)(dr:List Int)(k:Nat)(Wd:List (AD×AV)):Prop:=∀s:Int,Wd.lookup (.int s)=if s∈l.row.take k/\s∉dr then some (.int (l.b s))else none
section
variable{w:aC7}{row dr:List Int}{k i:Int}{N:List AV}{σ:St}{y:Int}{V:Bool->St->Prop}
def P6(h:V (!decide (y∈dr)) σ):FA .NotIn (.int y) (.lst (ù dr)) σ λv σ=>Ce v σ V:=by
 show Ap (Bc (ù dr)) λks=>V (!decide (AD.int y∈ks)) σ
 rw[Mc]
 show V (!decide (AD.int y∈dr.map AD.int)) σ
 rw[Mt];exact h
def YR{ρ:List (Str×AV)}{H:List (Nat×Ÿ)}{n m a:Nat}{D:List (AD×AV)}{K:Nat->List (AD×AV)->Prop}(hz:D.length<=1000000)(q:K n D):Ir ⟨ρ,Al H n (.dict D),m,a⟩ (.ref n) K:=by
 show Ap (aD4 (n,·) ((Al H n (.dict D)).lookup n)) λp=>Ap p.2.dct λvs=>AF vs.length/\K p.1 vs
 rw[Ev]
 exact⟨hz,q⟩
def Xz{l:List Int}{i:Nat}{y:Int}(h:l[i]?=some y):Dq (ù l) (i:Int)=some (.int y):=FH (by unfold ù;rw[aB3,h];rfl)
def Lv{l:List (List Int)}{i:Nat}{y:List Int}(h:l[i]?=some y):Dq (ů l) (i:Int)=some (.lst (ù y)):=FH (by unfold ů;rw[aB3,h];rfl)
def OI{l:List AV}{i:Nat}{k:Int}{v:AV}(e:k=(i:Int))(h:l[i]?=some v):Dq l k=some v:=e▸FH h
def Tm{k:Int}(h:0<=k/\k<=100000):C1 k:=⟨aQ2 (by decide) h.1,aW7 h.2 (by decide)⟩
def SG{α:Type}{p q:Prop} [Decidable p] [Decidable q] {a b:α} (h:p↔q):(if p then a else b)=if q then a else b:=by
 by_cases hp:p
 ·rw[bO2 hp,bO2 (h.mp hp)]
 ·rw[bO3 hp,bO3 λz=>hp (h.mpr z)]
def Pz{l:Ln}{Wd:List (AD×AV)}{k:Nat}{y:Int}(h:Iu l dr k Wd)(hy:l.row[k]?=some y):Iu l dr (k+1) (if y∈dr then Wd else dset Wd (.int y) (.int (l.b y))):=λs=>by
 have hk:=(aA4.mp hy).1
 have e:l.row.take (k+1)=l.row.take k++[y]:=by rw[bD2,hy];rfl
 have m:s∈l.row.take (k+1)↔s∈l.row.take k\/s=y:=by rw[e,aB0,aB1]
 have hs:=h s
 by_cases hd:y∈dr
 ·rw[bO2 hd,hs]
  refine SG ?_
  rw[m]
  exact⟨λq=>⟨.inl q.1,q.2⟩,λq=>⟨q.1.elim id λz=>bO4 (z▸hd) q.2,q.2⟩⟩
 ·rw[bO3 hd,G7]
  by_cases hy:s=y
  ·rw[bO2 (bO1 AD.int hy),bO2 ⟨m.mpr (.inr hy),hy▸hd⟩,hy]
  ·rw[bO3 (λz=>hy (AD.int.inj z)),hs]
   refine SG ?_
   rw[m]
   exact⟨λq=>⟨.inl q.1,q.2⟩,λq=>⟨q.1.elim id λz=>bO4 z hy,q.2⟩⟩
def ZK{l:Ln}{k:Nat}{N:List (List Int)}{H:List (Nat×Ÿ)}{R:AV->St->Prop}{ρ:List (Str×AV)}(ok:Ji l)(hk:k<=1000)(hN:N[k]?=some l.nt)(hp:pick ρ ["drop","k","notes","row"]=đ dr (k:Int) (ů N) l.row [])(hs :∀τ:St,(τ.ρ=đ dr (k:Int) (ů N) l.row []\/∃v,τ.ρ=đ dr (k:Int) (ů N) l.row [("i",v)])->E6 τ ⟨ρ,H,5,0⟩ ["drop","k","notes","row"])
  (h :∀Wd,Iu l dr l.row.length Wd->R (.ref 5) ⟨ρ,Al H 5 (.dict Wd),6,0⟩) :
  BF (.dict []) (Ad 0 l.row.length) (T6 (AM w) 23 Bd ŋ 5) (Ay ŋ.2.2) ⟨ρ,H,5,0⟩ R:=by
 rw[vF]
 refine⟨λi τ=>∃(ρ':List (Str×AV)) (Wd:List (AD×AV)),(ρ'=đ dr (k:Int) (ů N) l.row []\/∃v,ρ'=đ dr (k:Int) (ů N) l.row [("i",v)])/\τ=⟨ρ',Al H 5 (.dict Wd),6,0⟩/\Iu l dr i Wd/\Wd.length<=i,⟨_,[],.inl rfl,by rw[hp];rfl,λs=>by rw[bD3,bO3 (λz=>nomatch z.1)];rfl,aB6 _⟩,λi v τ hv hJ=>?_,λτ hJ=>?_⟩
 ·have hi:=(aA4.mp hv).1
  rw[AU]at hi
  cases aA2 (hv.symm.trans (BM hi))
  obtain⟨ρ',Wd,hρ,rfl,hW,hl⟩:=hJ
  have hy:=aA5 hi
  generalize l.row[i]=y at hy
  have i900:i<=900:=aA0 (aD8 hi) ok.len
  have x1:C1 (0+(i:Int)):=Tm (by exists 1,0x186a0900f08a300f08a08360003849008,i900)
  have Ă:Dq (ù l.row) (0+(i:Int))=some (.int y):=OI (aI1 _) (by unfold ù;rw[aB3,hy];rfl)
  have n2:Dq (ù l.nt) (0+(i:Int)+1)=some (.int (l.b y)):=OI (i:=i+1) (by exists 1,0x180a0f1800f08aa5) (by unfold ù Ln.nt;rw[aB3,aR3,aB3,hy];rfl)
  have hW':=Pz hW hy
  have go:(Md (AM w) 23 (Bw ŋ.2.2 Bd)).B Ě ⟨đ dr (k:Int) (ů N) l.row [("i",.int (0+(i:Int)))],Al H 5 (.dict Wd),6,0⟩ λb σ=>BX b (Vm ŋ.1.1 ŋ.1.2 (WK w) 5 σ λτ=>∃(ρ':List (Str×AV)) (Wd:List (AD×AV)),(ρ'=đ dr (k:Int) (ů N) l.row []\/∃v,ρ'=đ dr (k:Int) (ů N) l.row [("i",v)])/\τ=⟨ρ',Al H 5 (.dict Wd),6,0⟩/\Iu l dr (i+1) Wd/\Wd.length<=i+1) (∃(ρ':List (Str×AV)) (Wd:List (AD×AV)),(ρ'=đ dr (k:Int) (ů N) l.row []\/∃v,ρ'=đ dr (k:Int) (ů N) l.row [("i",v)])/\σ=⟨ρ',Al H 5 (.dict Wd),6,0⟩/\Iu l dr (i+1) Wd/\Wd.length<=i+1):=by
   refine vR.mpr ⟨x1,_,Ă,P6 ?_⟩
   by_cases hd:y∈dr
   ·rw[bO2 hd]at hW'
    exact Bz (by rw[bO5 hd];rfl) ⟨_,Wd,.inr ⟨.int (0+(i:Int)),rfl⟩,rfl,hW',aJ4 hl⟩
   ·rw[bO3 hd]at hW'
    refine EX (by rw[bO6 hd];rfl) (vQ.mpr ⟨x1,_,Ă,zN.mpr ⟨Tm (by exists 1,0x186a0900f300f08360003e89008,hk),_,Lv hN,⟨Tm (by exists 1,0x186a091800f08aa31800f08aa08360003849008,i900),_,n2,YR (by exists 2,0xf424090000038491081008,hl,i900) ?_⟩⟩⟩)
    refine⟨_,dset Wd (.int y) (.int (l.b y)),.inr ⟨.int (0+(i:Int)),rfl⟩,?_,hW',aA0 Hr (aJ2 hl)⟩
    show(⟨_,Al (Al H 5 (.dict Wd)) 5 _,6,0⟩:St)=_
    rw[Id]
  exact hρ.elim (λe=>e▸vU.mpr go) λq=>q.elim λv e=>e▸ã.mpr go
 ·obtain⟨ρ',Wd,hρ,rfl,hW,hl⟩:=hJ
  rw[AU]at hW
  exact⟨hs _ hρ,h Wd hW⟩
end
def Ch{α:Type}{l:List α}{g f:α->AV}{tn:AV->St->(St->Prop)->Prop}{xs:List Str}{ρ₀:List (Str×AV)}{H:List (Nat×Ÿ)}{n a:Nat}{Q:AV->St->Prop}(I:List (Str×AV)->Prop)(h0:I (pick ρ₀ xs))(hs :∀ρ H' n',I ρ->E6 ⟨ρ,H',n',a⟩ ⟨ρ₀,H,n,a⟩ xs)
  (hl:l.length<=1000000)
  (ht :∀y∈l,∀ρ L (K:St->Prop),I ρ->L.length<=1000000->(∀ρ',I ρ'->K ⟨ρ',Al H n (.list (L++[f y])),n+1,a⟩)->tn (g y) ⟨ρ,Al H n (.list L),n+1,a⟩ K)
  (q:Q (.ref n) ⟨ρ₀,Al H n (.list (l.map f)),n+1,a⟩):BF (.list []) (l.map g) tn xs ⟨ρ₀,H,n,a⟩ Q:=by
 refine⟨λk τ=>∃ρ,I ρ/\τ=⟨ρ,Al H n (.list ((l.take k).map f)),n+1,a⟩,⟨_,h0,rfl⟩,λk v τ hv hJ=>?_,λτ hJ=>?_⟩
 ·obtain⟨ρ,hI,rfl⟩:=hJ
  obtain⟨y,hy,rfl⟩:=AH ((aB3 ..).symm.trans hv)
  refine ht y (aD3 hy) ρ _ _ hI (aA0 (by rw[aA6,aE4];exact bF4 _ _) hl) λρ' hI'=>⟨ρ',hI',?_⟩
  rw[bD2,hy,aF1];rfl
 ·obtain⟨ρ,hI,rfl⟩:=hJ
  rw[aA6,aR8]
  exact⟨hs _ _ _ hI,q⟩
def Kd{nm made:Int}{row:List Int}:(Sp nm made row).sub nn=some (Sp nm made row):=AL (AI rfl (AI (B0 row) (AI rfl rfl)))
def CT(Ls:List Ln):AC nn (Dp Ls)=some (Dp Ls):=Df (λ_=>Kd) Ls
structure VJ(T O W N:List AV)(I J:List (Str×AV)):Prop where
 t:AC nn T=some T
 o:AC nn O=some O
 w:AC nn W=some W
 n:AC nn N=some N
 i:AJ nn I=some I
 j:AJ nn J=some J
section
variable{w:aC7}{sc:List Int}{K:ŏ}{T O W N D M A:List AV}{I J:List (Str×AV)}{n:Nat}{now x kd at_:Int}
def QH{tl:List (Str×AV)}{X:List (Nat×Ÿ)}(S:VJ T O W N I J)(hD:AC nn D=some D)(hM:AC nn M=some M)(hA:AC nn A=some A):Aa (ē sc T O W N I J now kd at_ x D M A tl X n) (ē sc T O W N I J now kd at_ x D M A [] [] 5):=
 have ę :∀{g:Nat->Option AV} {l:List AV},AC nn l=some l->(AV.lst l).sub g=some (.lst l):=λh=>AK _ _ (AL h)
 .re [0,1,2,3,4] [] rfl rfl rfl rfl CP
  (Ai rfl (ę (Aq _)) (Ai rfl (ę S.t) (Ai rfl (ę S.o) (Ai rfl (ę S.w) (Ai rfl (ę S.n) (Ai rfl (ę (by unfold Lw;rw[Br];exact Aq _)) (Ai rfl rfl (Ai rfl rfl (Ai rfl rfl (Ai rfl rfl (Ai rfl rfl (Ai rfl rfl (Ai rfl rfl (Ai rfl rfl (Ai rfl rfl BZ)))))))))))))))
  (Fe rfl rfl (C7 (A5 S.i)) (Fe rfl rfl (C7 (A5 S.j)) (Fe rfl rfl (bO1 (aD4 Ÿ.list) (BN hD)) (Fe rfl rfl (bO1 (aD4 Ÿ.list) (BN hM)) (Fe rfl rfl (bO1 (aD4 Ÿ.list) (BN hA)) BY)))))
end
def Zy(l:List Int):FO (ù l)=some l:=aB7 (motive:=λl=>FO (ù l)=some l) rfl (λa r ih=>by
 show(some a).bind (λx=>(FO (ù r)).map (x :: ·))=_
 rw[ih];rfl) l
section
variable{w:aC7}{sc:List Int}{K:ŏ}{T O W N D M A L:List AV}{I J:List (Str×AV)}{n:Nat}{now x kd at_ k nm made:Int}{row dd dr bk:List Int}{Wd:List (AD×AV)}{Q:AV->St->Prop}{u v:AV}{L6:List AV}{σ:St}
abbrev ņ(sc:List Int)(T O W N:List AV)(I J:List (Str×AV))(now kd at_ x:Int)(D M A:List AV)(k nm made:Int)(row dd dr bk:List Int)(X:List (Nat×Ÿ))(n:Nat):St:=ē sc T O W N I J now kd at_ x D M A (î k nm made row dd dr bk [("was",.ref 5)]) X n
def xB:ED .Add (.lst [.int made]) (.ref 6) (ņ sc T O W N I J now kd at_ x D M A k nm made row dd dr bk [(5,.dict Wd),(6,.list L)] 7) Q=(AF (1+L.length)/\Q (.lst (.int made::L)) (ņ sc T O W N I J now kd at_ x D M A k nm made row dd dr bk [(5,.dict Wd),(6,.list L)] 7)):=by rfl'
def vH:Do (AM w) (.fn .max) [.lst L] σ Q=(Ap (FO L) λns=>ns≠[]/\Q (.int (ML ns)) σ):=by rfl'
def xE:ED .Add (.lst [u]) (.ref 7) (ņ sc T O W N I J now kd at_ x D M A k nm made row dd dr bk [(5,.dict Wd),(6,.list L6),(7,.list L)] 8) Q=(AF (1+L.length)/\Q (.lst (u::L)) (ņ sc T O W N I J now kd at_ x D M A k nm made row dd dr bk [(5,.dict Wd),(6,.list L6),(7,.list L)] 8)):=by rfl'
def v5{X:List (Nat×Ÿ)}:(Do (AM w) (.fn .append) [.ref 3,v] (ņ sc T O W N I J now kd at_ x D M A k nm made row dd dr bk X n) λ_ σ=>K .next σ)=(AF M.length/\K .next (ņ sc T O W N I J now kd at_ x D (M++[v]) A k nm made row dd dr bk X n)):=by rfl'
end
section
variable{w:aC7}{sc:List Int}{K:ŏ}{T O W:List AV}{A:List AV}{I J:List (Str×AV)}{now x kd at_:Int}{bk:List Int}{l:Ln}{k:Nat}{N M:List (List Int)}{D:List Int}
def TJ(S:VJ T O W (ů N) I J)(ok:Ji l)(hN:N[k]?=some l.nt)(hA:AC nn A=some A)(hk:k<A.length)(hz:A.length<=1000/\D.length<=1000/\M.length<=1000)(hd:(Ax (x.fdiv 3) l.row l.made).1.length<=1000)
  (h :∀σ,Aa σ (ē sc T O W (ů N) I J now kd at_ x (ù (D++[now])) (ů (M++[(l.chg now (x.fdiv 3)).nt])) (A.set k (l.chg now (x.fdiv 3)).t) [] [] 5)->K .next σ) :
  wL (AM w) (A4 w 25) (Ar iK) (ē sc T O W (ů N) I J now kd at_ x (ù D) (ů M) A (î (k:Int) l.nm l.made l.row (Ax (x.fdiv 3) l.row l.made).1 (Ax (x.fdiv 3) l.row l.made).2 bk []) [] 5) K:=by
 have hk9:k<=1000:=aA0 (aD8 hk) hz.1
 have hlen:=ok.len
 have ed:((l.row.length:Int)-0).toNat=l.row.length:=by rw[bC5];rfl
 have et:(l.chg now (x.fdiv 3)).t=Sp l.nm (ML (l.made::(Ax (x.fdiv 3) l.row l.made).1.map (· + 1))) (Ax (x.fdiv 3) l.row l.made).1:=rfl
 have en:(l.chg now (x.fdiv 3)).nt=l.n0::(Ax (x.fdiv 3) l.row l.made).1.map (λs=>if s∈l.row/\s∉(Ax (x.fdiv 3) l.row l.made).2 then l.b s else now):=rfl
 rw[et,en]at h
 generalize Ax (x.fdiv 3) l.row l.made=dl at *
 obtain⟨dd,dr⟩:=dl
 dsimp only at h hd ⊢
 rw[ő,DY,ed]
 refine⟨aA0 hlen (by decide),⟨by decide,by decide,by show(-1000000:Int)<=(l.row.length:Int);exact id (ql [_] 0xf0f424091f3 (by rfl')),by show(l.row.length:Int)<=1000000;exact id (ql [_] 0xf4240900f30003849008 (by rfl') hlen)⟩,?_⟩
 refine ZK ok hk9 hN rfl (λτ hτ=>?_) λWd hW=>?_
 ·have e :∀{v:List (Str×AV)},τ.ρ=đ dr (k:Int) (ů N) l.row v->E6 τ (ē sc T O W (ů N) I J now kd at_ x (ù D) (ů M) A (î (k:Int) l.nm l.made l.row dd dr bk []) [] 5) ["drop","k","notes","row"]:=λ{v} e=>⟨by rw[e];rfl,by rw[e];rfl,by rw[e];rfl,by rw[e];rfl,trivial⟩
  exact hτ.elim (λq=>e q) λq=>q.elim λv q=>e q
 refine Ź.mpr ⟨Aq dd,?_⟩
 rw[mE]
 refine Ch (l:=dd) (g:=AV.int) (f:=λs=>AV.int (s+1)) (λρ=>ρ=([]:List (Str×AV))\/∃v,ρ=([("sign",v)]:List (Str×AV))) (.inl rfl) (λ_ _ _ _=>trivial) (aA0 hd (by decide)) (λy _ ρ L K hI hL hK=>?_) ?_
 ·have go:=hK _ (.inr ⟨.int y,rfl⟩)
  exact hI.elim (λe=>e▸zP.mpr (CU hL go)) λq=>q.elim λu e=>e▸xQ.mpr (CU hL go)
 have em:dd.map (λs=>AV.int (s+1))=ù (dd.map (· + 1)):=(aG4 (f:=(· + 1)) (g:=AV.int) (l:=dd)).symm
 rw[em]
 refine xB.mpr ⟨by rw[DY,aA6];exact aA0 (aF6 hd 1) (by decide),?_⟩
 rw[show AV.int l.made::ù (dd.map (· + 1))=ù (l.made::dd.map (· + 1))from rfl,vH,Zy]
 refine⟨λz=>(nomatch z),?_⟩
 refine š.mpr ⟨aA0 hz.1 (by decide),⟨aH4 k,aC8.mpr hk⟩,?_⟩
 refine þ.mpr ⟨by rw[DY];exact aA0 hz.2.1 (by decide),?_⟩
 refine Ŀ.mpr (yF.mpr ⟨Tm (by exists 2,0x186a0900f300f08360003e891081018,hk,hz.1),_,Lv hN,?_⟩)
 refine⟨Tm (by exists 0,0x186a09083080836),.int l.n0,OI (i:=0) rfl rfl,?_⟩
 refine vA.mpr ⟨Aq dd,?_⟩
 rw[oG]
 have hb :∀s:Int,(if s∈l.row/\s∉dr then l.b s else now)=(if s∈l.row/\s∉dr then l.b s else now):=λ_=>rfl
 refine Ch (l:=dd) (g:=AV.int) (f:=λs=>AV.int (if s∈l.row/\s∉dr then l.b s else now)) (λρ=>ρ=([("now",.int now),("was",.ref 5)]:List (Str×AV))\/∃v,ρ=([("now",.int now),("was",.ref 5),("sign",v)]:List (Str×AV))) (.inl rfl) (λρ H' n' hI=>?_) (aA0 hd (by decide)) (λy _ ρ L K hI hL hK=>?_) ?_
 ·have e :∀{v:List (Str×AV)},ρ=(([("now",.int now),("was",.ref 5)]:List (Str×AV))++v)->E6 ⟨ρ,H',n',0⟩ (ņ sc T O W (ů N) I J now kd at_ x (ù D++[.int now]) (ů M) (A.set (k:Int).toNat (Sp l.nm (ML (l.made::dd.map (· + 1))) dd)) (k:Int) l.nm l.made l.row dd dr bk [(5,.dict Wd),(6,.list (ù (dd.map (· + 1))))] 7) ["now","was"]:=λ{v} e=>⟨by rw[e];rfl,by rw[e];rfl,trivial⟩
  exact hI.elim (λq=>e q) λq=>q.elim λv q=>e q
 ·have go:=hK _ (.inr ⟨.int y,rfl⟩)
  have hw:=hW y
  rw[aR8]at hw
  have fin :∀{st:St},st=⟨[("now",.int now),("was",.ref 5),("sign",.int y)],Al (ņ sc T O W (ů N) I J now kd at_ x (ù D++[.int now]) (ů M) (A.set (k:Int).toNat (Sp l.nm (ML (l.made::dd.map (· + 1))) dd)) (k:Int) l.nm l.made l.row dd dr bk [(5,.dict Wd),(6,.list (ù (dd.map (· + 1))))] 7).H 7 (.list L),8,0⟩->BX (Wd.lookup (.int y)).isSome (∃v,Wd.lookup (AD.int y)=some v/\An .append [.ref 7,v] st λ_ τ=>K τ) (An .append [.ref 7,.int now] st λ_ τ=>K τ):=λ{st} e=>by
   subst e
   rw[hw]
   by_cases c:y∈l.row/\y∉dr
   ·rw[bO2 c]
    rw[bO2 c]at go
    exact EX rfl ⟨_,rfl,CU hL go⟩
   ·rw[bO3 c]
    rw[bO3 c]at go
    exact Bz rfl (CU hL go)
  exact hI.elim (λe=>e▸uV.mpr (fin rfl)) λq=>q.elim λu e=>e▸vG.mpr (fin rfl)
 have eb:dd.map (λs=>AV.int (if s∈l.row/\s∉dr then l.b s else now))=ù (dd.map λs=>if s∈l.row/\s∉dr then l.b s else now):=(aG4 (f:=λs=>if s∈l.row/\s∉dr then l.b s else now) (g:=AV.int) (l:=dd)).symm
 rw[eb]
 refine xE.mpr ⟨by rw[DY,aA6];exact aA0 (aF6 hd 1) (by decide),?_⟩
 refine v5.mpr ⟨by rw[FT];exact aA0 hz.2.2 (by decide),h _ ?_⟩
 rw[<-Br,<-HN]
 refine QH S (by rw[show ù D++[AV.int now]=ù (D++[now])from Br D [now]];exact Aq _) ?_ ?_
 ·exact EW (CK M) (AI (B0 (l.n0::_)) rfl)
 ·have :∀(A:List AV) (k:Nat) (v:AV),AC nn A=some A->v.sub nn=some v->AC nn (A.set k v)=some (A.set k v):=λA=>by
   induction A with
   | nil=>exact λk v h _=>h
   | cons a r ih=>
    intro k v h hv
    obtain⟨a',e1,e⟩:=AG (show(a.sub nn).bind (λa=>(AC nn r).map (a :: ·))=some (a::r)from h)
    obtain⟨r',e2,e⟩:=AH e
    cases e
    cases k with
    | zero=>exact AI hv e2
    | succ k=>exact AI e1 (ih k v e2 hv)
  exact this _ _ _ hA Kd
end
theorem KO :∀a b:List Int,DB (HS 8) (ù a) (ù b)=some (decide (a=b))
 | [],[]=>rfl
 | [],_::_=>rfl
 | _::_,[]=>rfl
 | x::a,y::b=>by
  show(HS 8 (.int x) (.int y)).bind (λc=>(DB (HS 8) (ù a) (ù b)).map (c && ·))=_
  rw[KO a b]
  show some (decide (AD.int x=AD.int y)&&decide (a=b))=_
  refine bO1 some ?_
  by_cases e:x=y
  ·subst e
   rw[bO5 (p:=AD.int x=AD.int x) rfl,Bool.true_and]
   exact decide_eq_decide.mpr ⟨λe=>by rw[e],λe=>(bA6 e).2⟩
  ·rw[bO6 (λz=>e (AD.int.inj z)),Bool.false_and,bO6 (λz=>e (bA6 z).1)]
def b9{a b:List Int}{σ:St}{R:Bool->St->Prop}(h:R (!decide (a=b)) σ):GJ .NotEq (.lst (ù a)) (.lst (ù b)) σ λr σ=>Ce r σ R:=by
 have q:F9 σ (.lst (ù a)) (.lst (ù b))=some (decide (a=b)):=by
  show GH (DB (HS 8) (ù a) (ù b)) _=_
  rw[KO];rfl
 have z:Ap (F9 σ (.lst (ù a)) (.lst (ù b))) λr=>Ce (.bool (!r)) σ R:=by rw[q];exact h
 exact z
def BD(now at_ x:Int)(Ls:List Ln):List Ln:=Ls.mapIdx λk l=>l.step now at_ x k
def Cj{now at_ x:Int}{Ls:List Ln}:(BD now at_ x Ls).length=Ls.length:=List.length_mapIdx ..
def PX{now at_ x:Int}{Ls:List Ln}{k:Nat}{l:Ln}(h:Ls[k]?=some l):(BD now at_ x Ls)[k]?=some (l.step now at_ x k):=by
 unfold BD
 rw[List.getElem?_mapIdx,h];rfl
section
variable{w:aC7}{sc:List Int}{K:ŏ}{O:List AV}{I J:List (Str×AV)}{now x kd at_:Int}{Ls:List Ln}
abbrev ĵ(sc:List Int)(O:List AV)(I J:List (Str×AV))(now x kd at_:Int)(Ls:List Ln)(k:Nat):St:=ē sc (Dp Ls) O (Fm Ls) (Fd Ls) I J now kd at_ x (ù (((BD now at_ x Ls).take k).map Ln.wr)) (ů (((BD now at_ x Ls).take k).map Ln.nt)) (Dp ((BD now at_ x Ls).take k++Ls.drop k)) [] [] 5
def P4{α:Type}{A B:List α}{k:Nat}{v:α}(hl:A.length=B.length)(h:A[k]?=some v):(A.take k++B.drop k).set k v=A.take (k+1)++B.drop (k+1):=by
 have hk:=(aA4.mp h).1
 have ek:(A.take k).length=k:=by rw[aE4];exact aT2 (aD8 hk)
 rw[List.set_append_right k v (aB9 ek),ek,aP0,bD2,h,aC9]
 refine bO1 _ ?_
 have hb:k<B.length:=hl▸hk
 rw[aL2 hb];rfl
def Qh{k:Nat}{l:Ln}(S:VJ (Dp Ls) O (Fm Ls) (Fd Ls) I J)(hl:Ls[k]?=some l)(ok:Ji l)(hn:Ls.length<=900)(hd:(Ax (x.fdiv 3) l.row l.made).1.length<=1000) :
  RO w (.int (0+(k:Int))) (ĵ sc O I J now x kd at_ Ls k) (turn (λσ=>∃τ,Aa σ τ/\τ=ĵ sc O I J now x kd at_ Ls (k+1)) K):=by
 rw[aI1]
 have hk:=(aA4.mp hl).1
 have hN:(Ls.map Ln.nt)[k]?=some l.nt:=by rw[aB3,hl];rfl
 have xk:C1 (k:Int):=Tm (by exists 2,0x186a0910f310f083601180003849008,hn,hk)
 have hs:=PX (now:=now) (at_:=at_) (x:=x) hl
 have lt:((BD now at_ x Ls).take k).length<=1000:=by rw[aE4,Cj];exists 2,0x3e8901d00003849008,hn
 have lA:((BD now at_ x Ls).take k++Ls.drop k).length=Ls.length:=by rw[aB2,aE4,aG3,Cj];exists 2,0x101b10da2
 have eA:(Dp ((BD now at_ x Ls).take k++Ls.drop k)).length=Ls.length:=(aA6 _).trans lA
 have tk:(BD now at_ x Ls).take (k+1)=(BD now at_ x Ls).take k++[l.step now at_ x k]:=by rw[bD2,hs];rfl
 have fin :∀{σ:St},Aa σ (ē sc (Dp Ls) O (Fm Ls) (Fd Ls) I J now kd at_ x (ù (((BD now at_ x Ls).take k).map Ln.wr++[(l.step now at_ x k).wr])) (ů (((BD now at_ x Ls).take k).map Ln.nt++[(l.step now at_ x k).nt])) ((Dp ((BD now at_ x Ls).take k++Ls.drop k)).set k (l.step now at_ x k).t) [] [] 5)->
   ∃τ,Aa σ τ/\τ=ĵ sc O I J now x kd at_ Ls (k+1):=λ{σ} h=>⟨_,h,by
  have e1:(Dp ((BD now at_ x Ls).take k++Ls.drop k)).set k (l.step now at_ x k).t=Dp ((BD now at_ x Ls).take (k+1)++Ls.drop (k+1)):=by
   unfold Dp
   rw[<-List.map_set,P4 Cj hs]
  unfold ĵ
  rw[e1,tk,aF1,aF1];rfl⟩
 refine Ņ.mpr ⟨xk,l.t,FH (by unfold Dp;rw[aB3,hl];rfl),Ę.mpr ⟨rfl,by decide,aJ9 (by decide),?_⟩⟩
 have sh:AC nn [AV.int (x.fdiv 3),.lst (ù l.row),.int l.made]=some [AV.int (x.fdiv 3),.lst (ù l.row),.int l.made]:=AI rfl (AI (B0 _) (AI rfl rfl))
 have hm:=ok.md
 refine Sa (Cc sh) sh ⟨x.fdiv 3,l.row,l.made,rfl,rfl,aA0 ok.len (by decide),⟨hm.1,by exists[],[_],0x3e89030003849038,hm.2⟩,λbk=>Ŧ.mpr ⟨rfl,?_⟩⟩
 have no:¬ (at_<=(k:Int)/\(k:Int)<=at_+x.fmod 3/\(Ax (x.fdiv 3) l.row l.made).1≠l.row)->wL (AM w) (A4 w 25) (Bj iK) (ē sc (Dp Ls) O (Fm Ls) (Fd Ls) I J now kd at_ x (ù (((BD now at_ x Ls).take k).map Ln.wr)) (ů (((BD now at_ x Ls).take k).map Ln.nt)) (Dp ((BD now at_ x Ls).take k++Ls.drop k)) (î (k:Int) l.nm l.made l.row (Ax (x.fdiv 3) l.row l.made).1 (Ax (x.fdiv 3) l.row l.made).2 bk []) [] 5)
   (ø (AM w) (A4 w 26) [] (turn (λσ=>∃τ,Aa σ τ/\τ=ĵ sc O I J now x kd at_ Ls (k+1)) K)):=λhc=>by
  have es:l.step now at_ x k=l:=bO3 hc
  refine m5.mpr ⟨xk,_,Xz (y:=l.wr) (by rw[aB3,hl];rfl),by rw[DY,aA6];exact aA0 lt (by decide),xk,_,Lv hN,by rw[FT,aA6];exact aA0 lt (by decide),?_⟩
  rw[Ac,Av]
  refine fin ?_
  rw[es]
  have e2:(Dp ((BD now at_ x Ls).take k++Ls.drop k)).set k l.t=Dp ((BD now at_ x Ls).take k++Ls.drop k):=by
   have ek:((BD now at_ x Ls).take k++Ls.drop k)[k]?=some l:=by
    rw[aG0 (by rw[aE4];exists 2,0x10d0),aE4,Cj,aT2 (aD8 hk),aP0,aK0,aR0,hl]
   refine aU0 λi=>?_
   rw[List.getElem?_set]
   split
   ·rename_i e
    subst e
    rw[bO2 (by rw[eA];exact hk)]
    unfold Dp
    rw[aB3,ek];rfl
   ·rfl
  rw[e2,<-Br,<-HN]
  exact QH S (EW (Aq _) (AI rfl rfl)) (EW (CK _) (AI (B0 _) rfl)) (CT _)
 refine Ą.mpr (Gp (λc1=>⟨by decide,Gp (λĳ=>b9 ?_) λĳ=>no λz=>ĳ z.2.1⟩) λc1=>no λz=>c1 z.1)
 by_cases c3:(Ax (x.fdiv 3) l.row l.made).1=l.row
 ·exact Bz (by rw[bO5 c3];rfl) (no λz=>z.2.2 c3)
 ·refine EX (by rw[bO6 c3];rfl) ?_
  have es:l.step now at_ x k=l.chg now (x.fdiv 3):=bO2 ⟨c1,ĳ,c3⟩
  rw[es]at fin
  refine TJ (bk:=bk) S ok hN (CT _) (by rw[eA];exact hk) ⟨by rw[eA];(exists 1,0x3e89000003849008,hn),by rw[aA6];exact lt,by rw[aA6];exact lt⟩ hd λσ hσ=>?_
  rw[Ac,Av]
  exact fin hσ
end
noncomputable def BB(now:Int):Ln:=⟨2+now,[0,1],2,now,λ_=>now,now⟩
def Rn(now kd at_ y:Int)(Ls:List Ln):List Ln:=if kd=0/\y.fmod 2=0 then Ls.take at_.toNat++[BB now]++Ls.drop at_.toNat else if kd=0 then Ls.take at_.toNat++Ls.drop (at_.toNat+1)else BD now at_ y Ls
def E5(now st:Int)(Ls:List Ln):List Ln:=Rn now (st.fmod 3) ((st.fdiv 3).fmod ((Ls.length:Int)+1)) ((st.fdiv 3).fdiv ((Ls.length:Int)+1)) Ls
section
variable{w:aC7}{sc:List Int}{K:ŏ}{T O W N D M A A0:List AV}{I J:List (Str×AV)}{now x kd at_ st:Int}{Ls:List Ln}
def ę{g:Nat->Option AV}{l:List AV}(h:AC nn l=some l):(AV.lst l).sub g=some (.lst l):=AK _ _ (AL h)
def F8:AC nn (Lw sc)=some (Lw sc):=by unfold Lw;rw[Br];exact Aq _
def Nf{X:List (Nat×Ÿ)}{n:Nat}(S:VJ T O W N I J)(hD:AC nn D=some D)(hM:AC nn M=some M)(hA:AC nn A=some A):Aa (Ĥ sc T O W N I J now kd at_ x D M A [] X n) (Ĥ sc T O W N I J now kd at_ x D M A [] [] 2):=
 .re [0,1] [] rfl rfl rfl rfl CP
  (Ai rfl (ę (Aq _)) (Ai rfl (ę S.t) (Ai rfl (ę S.o) (Ai rfl (ę S.w) (Ai rfl (ę S.n) (Ai rfl (ę F8) (Ai rfl rfl (Ai rfl rfl (Ai rfl rfl (Ai rfl rfl (Ai rfl rfl (Ai rfl rfl (Ai rfl (ę hM) (Ai rfl (ę hD) (Ai rfl (ę hA) BZ)))))))))))))))
  (Fe rfl rfl (C7 (A5 S.i)) (Fe rfl rfl (C7 (A5 S.j)) BY))
def TM(S:VJ T O W N I J)(hD:AC nn D=some D)(hM:AC nn M=some M)(hA:AC nn A=some A):Aa (ē sc T O W N I J now kd at_ x D M A [] [] 5) (Ĥ sc T O W N I J now kd at_ x D M A [] [] 2):=
 .re [0,1] [(2,.lst D),(3,.lst M),(4,.lst A)] rfl rfl rfl rfl (BA rfl rfl rfl (AL hD) (BA rfl rfl rfl (AL hM) (BA rfl rfl rfl (AL hA) CP)))
  (Ai rfl (ę (Aq _)) (Ai rfl (ę S.t) (Ai rfl (ę S.o) (Ai rfl (ę S.w) (Ai rfl (ę S.n) (Ai rfl (ę F8) (Ai rfl rfl (Ai rfl rfl (Ai rfl rfl (Ai rfl rfl (Ai rfl rfl (Ai rfl rfl (Ai rfl rfl (Ai rfl rfl (Ai rfl rfl BZ)))))))))))))))
  (Fe rfl rfl (C7 (A5 S.i)) (Fe rfl rfl (C7 (A5 S.j)) BY))
def L9{α:Type}{f:α->AV}{l:List α}{v:α}{n:Nat}:WG (l.map f) [f v] (Ŕ n)=(l.take n++[v]++l.drop n).map f:=by
 unfold WG
 rw[CV,Bk,aF1,aF1,aV9,aT5];rfl
def LX{α:Type}{f:α->AV}{l:List α}{n:Nat}:V7 (l.map f) (Ŕ n)=(l.take n++l.drop (n+1)).map f:=by
 unfold V7
 rw[CV,show Ŕ n+1=Ŕ (n+1)from rfl,Bk,aF1,aV9,aT5]
def Lr{L X:List AV}{n:Nat}{P:Prop}(hl:L.length<=800)(hx:X.length<=1)(h:P):kH L X (Ŕ n) P:=by
 have l8:AF L.length:=aA0 hl (by decide)
 have a1:(AZ L none (some (Ŕ n)) none).length<=800:=by rw[CV,aE4];exists 2,0x320901d00003209008,hl
 have a2:(AZ L (some (Ŕ n)) none none).length<=800:=by rw[Bk,aG3];exists 2,0x320910b00003209008,hl
 exact⟨B9,l8,aA0 (aP6 a1 hx) (by decide),B9,l8,aA0 (aP6 (by rw[aB2];exact aP6 a1 hx) a2) (by decide),h⟩
def LB{L:List AV}{n:Nat}{P:Prop}(hl:L.length<=800)(h:P):jA L (Ŕ n) P:=by
 have l8:AF L.length:=aA0 hl (by decide)
 have a1:(AZ L none (some (Ŕ n)) none).length<=800:=by rw[CV,aE4];exists 2,0x320901d00003209008,hl
 have a2:(AZ L (some (Ŕ n+1)) none none).length<=800:=by rw[show Ŕ n+1=Ŕ (n+1)from rfl,Bk,aG3];exists 2,0x3209181a0b00003209008,hl
 exact⟨B9,l8,B9,l8,aA0 (aP6 a1 a2) (by decide),h⟩
def HO(Ls:List Ln):Fm Ls=Ls.map λl=>AV.int l.wr:=aG4 (f:=Ln.wr) (g:=AV.int) (l:=Ls)
def H5(Ls:List Ln):Fd Ls=Ls.map λl=>AV.lst (ù l.nt):=aG4 (f:=Ln.nt) (g:=λr=>AV.lst (ù r)) (l:=Ls)
def X3(Ls:List Ln):(Fm Ls).length=Ls.length:=by rw[HO,aA6]
def ZY(Ls:List Ln):(Fd Ls).length=Ls.length:=by rw[H5,aA6]
def JI(Ls:List Ln):(Dp Ls).length=Ls.length:=aA6 _
def uQ(hO:AC nn O=some O)(hI:AJ nn I=some I)(hJ:AJ nn J=some J):VJ (Dp Ls) O (Fm Ls) (Fd Ls) I J:=⟨CT _,hO,Aq _,CK _,hI,hJ⟩
structure Lu(Ls:List Ln):Prop where
 ok :∀l∈Ls,Ji l
 len:Ls.length<=800
 dd :∀l∈Ls,∀x,(Ax x l.row l.made).1.length<=1000
def OY(S:VJ (Dp Ls) O (Fm Ls) (Fd Ls) I J)(G:Lu Ls)(h :∀σ,Aa σ (ĵ sc O I J now x kd at_ Ls Ls.length)->K .next σ) :
  wL (AM w) (A4 w 27) (Bj Zc) (lS sc (Dp Ls) O (Fm Ls) (Fd Ls) I J (ld now kd at_ x (.ref 2) (.ref 3) (.ref 4) []) (ž [] [] [] (Dp Ls)) 5) K:=by
 have hl:=G.len
 rw[xL,JI,bC5]
 refine⟨aA0 hl (by decide),⟨by decide,by decide,by show(-1000000:Int)<=(Ls.length:Int);exact id (ql [_] 0xf0f424091f3 (by rfl')),by show(Ls.length:Int)<=1000000;exact id (ql [_] 0xf4240900f30003209008 (by rfl') hl)⟩,λk τ=>τ=ĵ sc O I J now x kd at_ Ls k,⟨_,.refl _,rfl⟩,λk σ v hv hI=>?_,λτ hI=>?_⟩
 ·have hk:=(aA4.mp hv).1
  rw[AU]at hk
  cases aA2 (hv.symm.trans (BM hk))
  have hk:k<Ls.length:=hk
  subst hI
  have hl:=aA5 hk
  have mem:=aD3 hl
  exact Qh S hl (G.ok _ mem) (by have:=G.len;rename_i u0 _;exists 1,0x3849000003209008,u0) (G.dd _ mem _)
 ·rw[AU]at hI
  subst hI
  rw[Av,Ac,Av]
  exact h _ (.refl _)
def XH(S:VJ (Dp Ls) O (Fm Ls) (Fd Ls) I J)(G:Lu Ls)(hn:C1 (now-1))(hs:Dq (Lw sc) (now-1)=some (.int st))
  (h :∀kd at_ x,A4 w 29 (sX 5) (Ĥ sc (Dp Ls) O (Fm Ls) (Fd Ls) I J now kd at_ x (Fm (E5 now st Ls)) (Fd (E5 now st Ls)) (Dp (E5 now st Ls)) [] [] 2) (ø (AM w) (A4 w 29) (ï.2.drop 6) K)) :
  gM w (.int now) (lS sc (Dp Ls) O (Fm Ls) (Fd Ls) I J [] [] 2) K:=by
 have hl:=G.len
 rw[xC,oW]
 refine yX.mpr ⟨hn,_,hs,xG.mpr ⟨by decide,v6.mpr ⟨hn,_,hs,y0.mpr ⟨by decide,aJ9 (by decide),?_⟩⟩⟩⟩
 unfold E5 at h
 rw[Ü,JI]
 have h1:((Ls.length:Int)+1)≠0:=by exists 1,0x81800fa59
 have hat:(0:Int)<=(st.fdiv 3).fmod ((Ls.length:Int)+1):=aM6 _ (by exists 1,0x1800fa084)
 have l8:AF Ls.length:=aA0 hl (by decide)
 refine⟨rfl,l8,h1,l8,h1,aJ9 (by omega),rfl,rfl,CT _,?_⟩
 generalize st.fmod 3=kd at h ⊢
 generalize (st.fdiv 3).fdiv ((Ls.length:Int)+1)=x at h ⊢
 generalize (st.fdiv 3).fmod ((Ls.length:Int)+1)=at_ at h hat ⊢
 have h:=h kd at_ x
 rw[wA]
 refine Ch (l:=Ls) (g:=Ln.t) (f:=Ln.t) (λρ=>ρ=([]:List (Str×AV))\/∃v,ρ=([("one",v)]:List (Str×AV))) (.inl rfl) (λ_ _ _ _=>trivial) (aA0 hl (by decide)) (λy _ ρ L K hI hL hK=>?_) ?_
 ·have go:=hK _ (.inr ⟨y.t,rfl⟩)
  exact hI.elim (λe=>e▸vT.mpr (CU hL go)) λq=>q.elim λu e=>e▸qE.mpr (CU hL go)
 refine yI.mpr ?_
 show wL (AM w) (A4 w 29) (ï.2.drop 4) (lS sc (Dp Ls) O (Fm Ls) (Fd Ls) I J (ld now kd at_ x (.ref 2) (.ref 3) (.ref 4) []) (ž [] [] [] (Dp Ls)) 5) K
 have ea:at_=Ŕ at_.toNat:=(Int.toNat_of_nonneg hat).symm
 have fin :∀{σ:St} {L:List Ln},Aa σ (Ĥ sc (Dp Ls) O (Fm Ls) (Fd Ls) I J now kd at_ x (Fm L) (Fd L) (Dp L) [] [] 2)->Rn now kd at_ x Ls=L->wL (AM w) (A4 w 29) (ï.2.drop 5) σ K:=λ{σ L} hw e=>n0.mpr ⟨_,hw,e▸h⟩
 have lw:=aA0 (aB9 (X3 Ls)) hl
 have ln:=aA0 (aB9 (ZY Ls)) hl
 have lt:=aA0 (aB9 (JI Ls)) hl
 by_cases c1:kd=0
 ·have ŭ:decide (AD.int kd=AD.int 0)=true:=bO5 (bO1 AD.int c1)
  refine uB.mpr (EX ŭ ⟨by decide,?_⟩)
  by_cases ĳ:x.fmod 2=0
  ·refine EX (bO5 (bO1 AD.int ĳ)) (uZ.mpr ?_)
   rw[ea]
   refine Lr lt (aB6 _) (Lr lw (aB6 _) (Lr ln (aB6 _) ?_))
   rw[Ac]
   have e1:WG (Fm Ls) [.int now] (Ŕ at_.toNat)=Fm (Ls.take at_.toNat++[BB now]++Ls.drop at_.toNat):=by
    rw[HO,HO];exact L9 (v:=BB now)
   have e2:WG (Fd Ls) [.lst (ù [now,now,now])] (Ŕ at_.toNat)=Fd (Ls.take at_.toNat++[BB now]++Ls.drop at_.toNat):=by
    rw[H5,H5];exact L9 (v:=BB now)
   have e3:WG (Dp Ls) [.tup [.int (2+now),.lst (ù [0,1]),.int 2]] (Ŕ at_.toNat)=Dp (Ls.take at_.toNat++[BB now]++Ls.drop at_.toNat):=L9 (v:=BB now)
   rw[e1,e2,e3,<-ea]
   exact fin (Nf S (Aq _) (CK _) (CT _)) (bO2 ⟨c1,ĳ⟩)
  ·refine Bz (bO6 λz=>ĳ (AD.int.inj z)) (uD.mpr (EX ŭ (v0.mpr ?_)))
   rw[ea]
   refine LB lt (LB lw (LB ln ⟨rfl,?_⟩))
   rw[Ac,Av,Ac]
   have e1:V7 (Fm Ls) (Ŕ at_.toNat)=Fm (Ls.take at_.toNat++Ls.drop (at_.toNat+1)):=by
    rw[HO,HO];exact LX
   have e2:V7 (Fd Ls) (Ŕ at_.toNat)=Fd (Ls.take at_.toNat++Ls.drop (at_.toNat+1)):=by
    rw[H5,H5];exact LX
   have e3:V7 (Dp Ls) (Ŕ at_.toNat)=Dp (Ls.take at_.toNat++Ls.drop (at_.toNat+1)):=LX
   rw[e1,e2,e3,<-ea]
   exact fin (Nf S (Aq _) (CK _) (CT _)) ((bO3 λz=>ĳ z.2).trans (bO2 c1))
 ·have ŭ:decide (AD.int kd=AD.int 0)=false:=bO6 λz=>c1 (AD.int.inj z)
  refine uB.mpr (Bz ŭ (uD.mpr (Bz ŭ (OY S G λσ hσ=>?_))))
  rw[Ac,Av,Ac]
  have e:ĵ sc O I J now x kd at_ Ls Ls.length=ē sc (Dp Ls) O (Fm Ls) (Fd Ls) I J now kd at_ x (Fm (BD now at_ x Ls)) (Fd (BD now at_ x Ls)) (Dp (BD now at_ x Ls)) [] [] 5:=by
   unfold ĵ
   rw[<-Cj (now:=now) (at_:=at_) (x:=x) (Ls:=Ls),aR8,Cj,aS3,aF9];rfl
  rw[e]at hσ
  exact fin (hσ.trans (TM S (Aq _) (CK _) (CT _))) ((bO3 λz=>c1 z.1).trans (bO3 c1))
end
def RP{α:Type}{f:α->Str}(l:List α):Ek (l.map λa=>AV.txt (f a))=some (l.map f):=aB7 (motive:=λl=>Ek (l.map λa=>AV.txt (f a))=some (l.map f)) rfl (λa r ih=>by
 show(some (f a)).bind (λx=>(Ek (r.map λa=>AV.txt (f a))).map (x :: ·))=_
 rw[ih];rfl) l
theorem Iw :∀(l:List Str) (a:Array Nat),(l.foldl (λacc p=>acc++(("":Str)).cps++p.cps) a).toList=a.toList++l.flatMap λp=>p.cps.toList
 | [],a=>(aF9 _).symm
 | p::l,a=>by
  rw[bG2,Iw l,aZ3,bC0,bC0,show((("":Str)).cps).toList=[]from rfl,aF9,aC9]
def Mq(l:List Int):(aH3 "" (l.map λs=>GX s)).cps.toList=l.map Int.toNat:=by
 unfold aH3
 rw[Iw]
 cases l with
 | nil=>rfl
 | cons a l=>
  rw[aH8,List.headD_cons,List.drop_succ_cons,bH0]
  show [a.toNat]++_=a.toNat::l.map Int.toNat
  refine bO1 (a.toNat :: ·) ?_
  show(l.map λs=>GX s).flatMap (λp=>p.cps.toList)=_
  induction l with
  | nil=>rfl
  | cons b l ih=>rw[aH8,aZ3,ih];rfl
theorem Ic :∀(l:List Int) (n:Nat),(l.map λs=>GX s).foldl (λacc p=>acc+p.length+bM9 "") n=n+l.length
 | [],n=>rfl
 | a::l,n=>by
  rw[aH8,bG2,Ic l,aM2,show(GX a).length=1 from rfl,show bM9 "" = 0 from rfl]
  exists 2,0x181a0a108180aaa2
def KK(l:List Int):(aH3 "" (l.map λs=>GX s)).length=l.length:=by
 show(aH3 "" (l.map λs=>GX s)).cps.size=_
 rw[<-aO9,Mq,aA6]
def WZ(l:Ln):GX (19968+l.nm)++aH3 "" ((l.row.map λs=>97+s).map λs=>GX s)=l.str:=by
 refine ND ?_
 show(Array.toList (#[(19968+l.nm).toNat]++(aH3 "" ((l.row.map λs=>97+s).map λs=>GX s)).cps))=_
 rw[bC0,Mq,aG4];rfl
section
variable{w:aC7}{sc:List Int}{K:ŏ}{T O W N D M:List AV}{I J:List (Str×AV)}{now x kd at_:Int}{Ls:List Ln}{Q:AV->St->Prop}{σ:St}{R:St->Prop}
def u9{i j:Int}:ED .Add (.int i) (.int j) σ Q=Q (.int (i+j)) σ:=by rfl'
def yW{u:AV}{L:List AV}{ρ:List (Str×AV)}{o0 o1:Ÿ}{X:List (Nat×Ÿ)}{m:Nat}:(An .append [.ref 2,u] ⟨ρ,(0,o0)::(1,o1)::(2,.list L)::X,m,0⟩ λ_ τ=>R τ)=(AF L.length/\R ⟨ρ,(0,o0)::(1,o1)::(2,.list (L++[u]))::X,m,0⟩):=by rfl'
def ZJ(ok :∀l∈Ls,Ji l)(hl:Ls.length<=900)(h :∀X n,K .next (Ĥ sc T O W N I J now kd at_ x D M (Dp Ls) [("new",.ref 2)] ((2,.list (IH Ls))::X) n)) :
  A4 w 29 (sX 5) (Ĥ sc T O W N I J now kd at_ x D M (Dp Ls) [] [] 2) K:=by
 refine Ă.mpr ⟨CT _,?_⟩
 rw[yS]
 refine⟨λk τ=>∃(ρ:List (Str×AV)) (X:List (Nat×Ÿ)) (m:Nat),(ρ=([]:List (Str×AV))\/∃v,ρ=([("one",v)]:List (Str×AV)))/\τ=⟨ρ,(0,.inst Ş I)::(1,.inst Ş J)::(2,.list (IH (Ls.take k)))::X,m+3,0⟩,⟨_,[],0,.inl rfl,rfl⟩,λk v τ hv hJ=>?_,λτ hJ=>?_⟩
 ·obtain⟨ρ,X,m,hρ,rfl⟩:=hJ
  obtain⟨l,hl0,rfl⟩:=AH ((aB3 ..).symm.trans hv)
  have mem:=aD3 hl0
  have g:=ok l mem
  have hnm:=g.nm
  have hk:=(aA4.mp hl0).1
  have go:(WN w 26).E (E0 ũ.1).1 (oN l.nm l.made l.row ((0,.inst Ş I)::(1,.inst Ş J)::(2,.list (IH (Ls.take k)))::X) (m+3) 0) λa σ=>(WN w 26).E (E0 ũ.1).2 σ λb σ=>ED .Add a b σ λu τ=>An .append [.ref 2,u] τ λ_ τ=>
    ∃(ρ:List (Str×AV)) (X:List (Nat×Ÿ)) (m:Nat),(ρ=([]:List (Str×AV))\/∃v,ρ=([("one",v)]:List (Str×AV)))/\τ=⟨ρ,(0,.inst Ş I)::(1,.inst Ş J)::(2,.list (IH (Ls.take (k+1))))::X,m+3,0⟩:=by
   refine Ç.mpr ⟨Tm (by exists 0,0x186a09083080836),.int l.nm,OI (i:=0) rfl rfl,u9.mpr (zC.mpr ⟨⟨by(exists[],[_],0x4e009a08300838,hnm.1),by exists[],[_],0x10ffff90004e009a30003849038,hnm.2⟩,È.mpr ⟨Tm (by exists 0,0x186a09183180836),.lst (ù l.row),OI (i:=1) rfl rfl,Aq _,?_⟩⟩)⟩
   rw[pW]
   refine Ch (l:=l.row) (g:=AV.int) (f:=λs=>AV.txt (GX (97+s))) (λρ=>ρ=([]:List (Str×AV))\/∃v,ρ=([("sign",v)]:List (Str×AV))) (.inl rfl) (λ_ _ _ _=>trivial) (aA0 g.len (by decide)) (λy hy ρ L K hI hL hK=>?_) ?_
   ·have go:=hK _ (.inr ⟨.int y,rfl⟩)
    have hb:=g.bd y hy
    have hm:=g.md
    have hr:0<=97+y/\97+y<=1114111:=by exists[],[_,_],0x10ffff900000619a300000619a08360003849138104800838,hb.1,hb.2,hm.2
    exact hI.elim (λe=>e▸Û.mpr ⟨hr,CU hL go⟩) λq=>q.elim λu e=>e▸yO.mpr ⟨hr,CU hL go⟩
   ·rw[y9]
    show Ap (((((Al _ (m+3) (Ÿ.list (l.row.map λs=>AV.txt (GX (97+s))))).lookup (m+3)).map ((m+3),·)).map (·.2)).bind Ÿ.lst) _
    rw[Ev]
    show Ap (Ek (l.row.map λs=>AV.txt (GX (97+s)))) _
    rw[RP,show(l.row.map λs=>GX (97+s))=(l.row.map λs=>97+s).map λs=>GX s from(aG4 (f:=λs=>97+s) (g:=λs=>GX s) (l:=l.row)).symm]
    have hlen:=g.len
    refine⟨⟨?_,?_⟩,?_⟩
    ·rw[List.foldl_toArray,Ic,aA6]
     have this:(900:Nat)<=aR5:=by decide
     refine bO6 ?_
     show ¬ 0+l.row.length>aR5
     exact id (ql [_,_] 0x8a11910003849080003849008 (by rfl') hlen this)
    ·rw[KK,aA6]
     exact aA0 hlen (by decide)
    ·refine y7.mpr ⟨⟨λz=>(nomatch(show(1:Nat)=0 from z)),?_⟩,?_⟩
     ·rw[KK,aA6]
      show 1+_<=_
      exact id (ql [_] 0xf42409018a00003849008 (by rfl') hlen)
     ·rw[WZ]
      refine yW.mpr ⟨?_,[("one",Sp l.nm l.made l.row)],Al X (m+3) (.list (l.row.map λs=>AV.txt (GX (97+s)))),m+1,.inr ⟨_,rfl⟩,?_⟩
      ·show(aS2 _ _).length<=_
       rw[aA6,aA6,aE4]
       exists 2,0xf4240901d00003849008,hl
      ·have e:IH (Ls.take k)++[AV.txt l.str]=IH (Ls.take (k+1)):=by
        unfold IH tz
        rw[bD6,hl0,aF1,aF1];rfl
       rw[e];rfl
  exact hρ.elim (λe=>e▸n2.mpr go) λq=>q.elim λv e=>e▸xO.mpr go
 ·obtain⟨ρ,X,m,hρ,rfl⟩:=hJ
  rw[JI,aR8]
  exact⟨trivial,vC.mpr (h X (m+3))⟩
end
def jH(a:AV)(la:List AD):Prop:=∀(xs:List AD) (K:Bool->Prop),K false->(xs=la->K true)->PC (.lst (ű xs)) a K
def Mb(la:List AD):jH (.lst (ű la)) la:=λxs K h1 h2=>UD h1 h2
def Qj:jH İ []:=λxs K h1 _=>h1
structure Wo(a b:AV)(la lb:List AD)(mb op fb:AV)(ds:List (AD×AV)):Prop where
 q:Ŭ a b la lb mb op fb ds
 a:jH a la
 b:jH b lb
def SM{Q:AV->List Ob->Prop}{a b mb op fb:AV}{xs ys lb:List AD}{ds:List (AD×AV)}(M:Wo a b xs lb mb op fb ds)
  (hq :∀b' mb' op' fb' ds',Wo a b' xs ys mb' op' fb' ds'->Q .none [(Ş,BQ a b' mb' op' fb' (.dct ds'))]):SW Q (.lst (ű ys)) a b mb op fb (.dct ds) ys:=
 M.b ys _ (λds' hB=>hq _ _ _ _ _ ⟨⟨M.q.A,Fx ys,⟨M.q.S.ha,rfl,M.q.S.a,AL (Fo ys),rfl,rfl,rfl,Gw hB⟩,hB,.inl rfl,.inl rfl⟩,M.a,Mb ys⟩) λe=>hq _ _ _ _ _ (e▸M)
def VI{Q:AV->List Ob->Prop}{a b mb op fb:AV}{la lb xs ys:List AD}{ds:List (AD×AV)}(M:Wo a b la lb mb op fb ds)(hz:Rq ys)
  (hq :∀a' b' mb' op' fb' ds',Wo a' b' xs ys mb' op' fb' ds'->Q .none [(Ş,BQ a' b' mb' op' fb' (.dct ds'))]):G6 [.ref 0,.lst (ű xs),.lst (ű ys)] [(Ş,BQ a b mb op fb (.dct ds))] Q:=
 .inr ⟨ys,.lst (ű xs),.lst (ű ys),a,b,mb,op,fb,.dct ds,rfl,⟨AL (Fo xs),rfl⟩,⟨Fx ys,hz⟩,rfl,M.q.S,
  M.a xs _ (SM (xs:=xs) (mb:=.none) (op:=.none) ⟨⟨Fx xs,M.q.B,⟨rfl,M.q.S.hb,AL (Fo xs),M.q.S.b,rfl,rfl,M.q.S.fb,M.q.S.b2j⟩,M.q.J,.inl rfl,.inl rfl⟩,Mb xs,M.b⟩ λb' mb' op' fb' ds'=>hq _ b' mb' op' fb' ds')
   λe=>SM (xs:=xs) (e▸M) λb' mb' op' fb' ds'=>hq _ b' mb' op' fb' ds'⟩
def NH{n:Nat}{l:List AV}(h :∀a∈l,HS n a a=some true):HS (n+1) (.lst l) (.lst l)=some true:=by
 show GH none (DB (HS n) l l)=_
 rw[EN h];rfl
def Ro{n:Nat}(l:List Int):HS (n+2) (.lst (ù l)) (.lst (ù l))=some true:=NH λa ha=>by
 obtain⟨x,_,rfl⟩:=aI5.mp ha
 exact Gl
def Xg{n:Nat}(M:List (List Int)):HS (n+3) (.lst (ů M)) (.lst (ů M))=some true:=NH λa ha=>by
 obtain⟨x,_,rfl⟩:=aI5.mp ha
 exact Ro x
def YV{D:List Int}{M:List (List Int)}{σ:St}{R:Bool->St->Prop}(h:R false σ):FA .NotEq (.tup [.lst (ù D),.lst (ů M)]) (.tup [.lst (ù D),.lst (ů M)]) σ λr σ=>Ce r σ R:=by
 refine Ng ?_ h
 show GH (DB (HS 8) [.lst (ù D),.lst (ů M)] [.lst (ù D),.lst (ů M)]) _=_
 rw[EN λa ha=>by
  rcases aC4.mp ha with rfl | ha
  ·exact Ro D
  ·rw[aB1.mp ha];exact Xg M]
 rfl
def rP{r:List AV}(h:AC nn r=some r):Af (.ref 0::r)=[0]:=by
 show(bif hasN 0 (Af r)then Af r else 0::Af r)=_
 rw[Cc h];rfl
def nV{r:List AV}(h:AC nn r=some r):AC (Fk [0]) (.ref 0::r)=some (.ref 0::r):=by
 show(some (AV.ref 0)).bind (λa=>(AC (Fk [0]) r).map (a :: ·))=_
 rw[BN h];rfl
def tI{r:List AV}(h:AC nn r=some r):Af (.ref 0 :: .ref 1::r)=[0,1]:=by
 have e:Af (.ref 1::r)=[1]:=by
  show(bif hasN 1 (Af r)then Af r else 1::Af r)=_
  rw[Cc h];rfl
 show(bif hasN 0 (Af (.ref 1::r))then Af (.ref 1::r)else 0::Af (.ref 1::r))=_
 rw[e];rfl
def mP{r:List AV}(h:AC nn r=some r):AC (Fk [0,1]) (.ref 0 :: .ref 1::r)=some (.ref 0 :: .ref 1::r):=by
 show(some (AV.ref 0)).bind (λa=>((some (AV.ref 1)).bind λb=>(AC (Fk [0,1]) r).map (b :: ·)).map (a :: ·))=_
 rw[BN h];rfl
def bI{tr:Ġ}{ρ:List (Str×AV)}{H:List (Nat×Ÿ)}{n k:Nat}{D D':aC3}{at_ at':List (Str×AV)}{as as':List AV}{Q:AV->St->Prop}(hs:AJ nn at_=some at_)(hs':AJ nn at'=some at')(hr:Af as=[0,1])(ha:AC (Fk [0,1]) as=some as')
  (h:tr as' [(D,at_),(D',at')] λr os'=>Q r (St.sets ⟨ρ,(0,.inst D at_)::(1,.inst D' at')::H,n,k⟩ [0,1] os')):BO tr as ⟨ρ,(0,.inst D at_)::(1,.inst D' at')::H,n,k⟩ Q:=by
 unfold BO HX
 rw[hr,ha]
 exact⟨MJ hs hs',h⟩
noncomputable def AT(Ls:List Ln):List AD:=(Ls.map Ln.str).map AD.str
def ES(Ls Ls':List Ln)(now:Int)(s u:Str)(Φ:Str×Str->Prop):Prop:=∃P:Nat->Nat->List Int,∀bs,Dj (AT Ls) (AT Ls') 0 (AT Ls).length 0 (AT Ls').length bs->bs.length<64/\∃ops:List Op,IW 0 0 (Cn (AT Ls) (AT Ls') bs)=ops.map F0/\Vd (AT Ls) (AT Ls') 0 0 none ops/\
  (∀o∈ops,(o.i1<=o.i2/\o.i2<=(Ls.map Ln.str).length)/\(o.j1<=o.j2/\o.j2<=(Ls'.map Ln.str).length))/\(∀o∈ops,o.k = .rep->o.i2-o.i1=o.j2-o.j1)/\FN (Ls.map Ln.wr) now ops=Ls'.map Ln.wr/\ops.flatMap (EI P (Ls.map Ln.nt) (Ls'.map Ln.str) now)=Ls'.map Ln.nt/\
  Ŏ (Ls.map Ln.str) (Ls'.map Ln.str) (Ls.map Ln.nt) now P s u (ops.flatMap FX)/\Φ (Db (Ls.map Ln.str) (Ls'.map Ln.str) s u (ops.flatMap FX))
section
variable{w:aC7}{sc:List Int}{K:ŏ}{now x kd at_:Int}{Ls Ls':List Ln}
def UE{T O W N D M A L:List AV}{I J:List (Str×AV)}{X:List (Nat×Ÿ)}{n:Nat}(S:VJ T O W N I J)(hD:AC nn D=some D)(hM:AC nn M=some M)(hA:AC nn A=some A)(hL:AC nn L=some L):Aa (Ĥ sc T O W N I J now kd at_ x D M A [("new",.ref 2)] ((2,.list L)::X) n) (Ĥ sc T O W N I J now kd at_ x D M A [("new",.lst L)] [] 2):=
 .re [0,1] [(2,.lst L)] rfl rfl rfl rfl (BA rfl rfl rfl (AL hL) CP)
  (Ai rfl (ę (Aq _)) (Ai rfl (ę S.t) (Ai rfl (ę S.o) (Ai rfl (ę S.w) (Ai rfl (ę S.n) (Ai rfl (ę F8) (Ai rfl rfl (Ai rfl rfl (Ai rfl rfl (Ai rfl rfl (Ai rfl rfl (Ai rfl rfl (Ai rfl (ę hM) (Ai rfl (ę hD) (Ai rfl (ę hA) (Ai rfl rfl BZ))))))))))))))))
  (Fe rfl rfl (C7 (A5 S.i)) (Fe rfl rfl (C7 (A5 S.j)) BY))
def YD{T O W N D M A L:List AV}{I J:List (Str×AV)}:Aa (Ĥ sc T O W N I J now kd at_ x D M A [("new",.lst L)] [] 2) (lS sc T O W N I J [] [] 2):=
 .less (ρ:=(lS sc T O W N I J [] [] 2).ρ++ld now kd at_ x (.lst D) (.lst M) (.lst A) [("new",.lst L)]) (λx v e=>Cr e) λ_ _=>id
def Eb(Ls:List Ln):AC nn (IH Ls)=some (IH Ls):=Eu _
def ZE{a b mb op fb mb' op' fb':AV}{la lb:List AD}{ds ds':List (AD×AV)}{s u:Str}{Φ:Str×Str->Prop}(hl:Ls.length<=800/\Ls'.length<=801)(ok' :∀l∈Ls',Ji l)(M:Wo a b la lb mb op fb ds)(S2:Ŭ (.txt s) (.txt u) (DA s) (DA u) mb' op' fb' ds')(hz:Rq (AT Ls'))(P:ES Ls Ls' now s u Φ)
  (h :∀a b mb op fb ds s' u' mb' op' fb' ds',Wo a b (AT Ls) (AT Ls') mb op fb ds->Ŭ (.txt s') (.txt u') (DA s') (DA u') mb' op' fb' ds'->Φ (s',u')->∀σ,Aa σ (lS sc (Dp Ls') (IH Ls') (Fm Ls') (Fd Ls') (BQ a b mb op fb (.dct ds)) (BQ (.txt s') (.txt u') mb' op' fb' (.dct ds')) [] [] 2)->K .next σ) :
  A4 w 29 (sX 5) (Ĥ sc (Dp Ls) (IH Ls) (Fm Ls) (Fd Ls) (BQ a b mb op fb (.dct ds)) (BQ (.txt s) (.txt u) mb' op' fb' (.dct ds')) now kd at_ x (Fm Ls') (Fd Ls') (Dp Ls') [] [] 2) (ø (AM w) (A4 w 29) (ï.2.drop 6) K):=by
 refine ZJ ok' (by exists 1,0x3849000003219008,hl.2) λX n=>?_
 rw[Ac]
 refine ú.mpr ⟨_,UE (x:=x) (kd:=kd) (at_:=at_) (now:=now) (uQ (Eb _) M.q.S.shut S2.S.shut) (Aq _) (CK _) (CT _) (Eb _),n4.mpr ?_⟩
 have sh :∀Ls:List Ln,(AV.lst (IH Ls)).sub nn=some (.lst (IH Ls)):=λLs=>AL (Eb Ls)
 refine NU (x:=0) (as':=[.ref 0,.lst (IH Ls),.lst (IH Ls')]) rfl M.q.S.shut ?_ ?_ ⟨[.ref 0,.lst (ű (AT Ls)),.lst (ű (AT Ls'))],.cons .same (.cons (.seq (.tz _)) (.cons (.seq (.tz _)) .nil)),VI M hz λa b mb op fb ds M=>?_⟩
 ·exact rP (AI (sh Ls) (AI (sh Ls') rfl))
 ·exact nV (AI (sh Ls) (AI (sh Ls') rfl))
 obtain⟨P,hP⟩:=P
 rw[Ac]
 have shA:AC nn [AV.lst (IH Ls),.lst (IH Ls'),.lst (Fm Ls),.lst (Fd Ls),.int now]=some [AV.lst (IH Ls),.lst (IH Ls'),.lst (Fm Ls),.lst (Fd Ls),.int now]:=AI (sh Ls) (AI (sh Ls') (AI (B0 _) (AI (AL (CK _)) rfl)))
 have ml :∀{α:Type} {f:Ln->α} (Ls:List Ln) {n:Nat},Ls.length<=n->(Ls.map f).length<=n:=λLs n h=>aA0 (aB9 (aA6 _)) h
 have l8:Ls.length<=1000:=by exists 1,0x3e89000003209008,hl.1
 have l9:Ls'.length<=1000:=by exists 1,0x3e89000003219008,hl.2
 refine ñ.mpr (bI M.q.S.shut S2.S.shut (tI shA) (mP shA) ⟨Ls.map Ln.str,Ls'.map Ln.str,Ls.map Ln.wr,Ls.map Ln.nt,now,a,b,mb,op,fb,ds,s,u,mb',op',fb',ds',P,rfl,rfl,⟨M.q,S2⟩,⟨⟨ml Ls l8,ml Ls' l9⟩,ml Ls l8⟩,ml Ls l8,λy hy=>?_,λbs r=>?_⟩)
 ·obtain⟨l,hl,rfl⟩:=aI5.mp hy
  have hr:=(ok' l hl).len
  show(bJ1 (aE1 _))<=_
  rw[aZ4,aM2,aA6]
  exists 1,0x186a09180a00003849008,hr
 ·obtain⟨q1,ops,ĉ,q3,ě,ť,Ā,q7,Ģ,Į⟩:=hP bs r
  refine⟨q1,ops,ĉ,q3,ě,ť,⟨by rw[Ā];exact ml Ls' l9,by rw[q7];exact ml Ls' l9⟩,Ģ,λmb2 mb3 op3 fb3 ds3 SA SB=>?_⟩
  rw[Ā,q7]
  refine Æ.mpr (YV (Bz rfl (Ō.mpr ?_)))
  rw[Ac]
  exact n7.mpr ⟨rfl,h _ _ _ _ _ _ _ _ _ _ _ _ ⟨SA,M.a,M.b⟩ SB Į _ YD⟩
end
noncomputable def Ss:List Ln:=[⟨0,[0,1,2,3],4,0,λ_=>0,0⟩,⟨1,[0,1,2,3],4,0,λ_=>0,0⟩,⟨2,[0,1,2,3],4,0,λ_=>0,0⟩]
structure Qk(Inv:Nat->List Ln->Str->Str->Prop):Prop where
 zero:Inv 0 Ss "" ""
 deed :∀k Ls s u,k<=68->Inv k Ls s u->Lu Ls
 turn :∀k Ls s u st,k<68->Inv k Ls s u->(∀l∈E5 (1+(k:Int)) st Ls,Ji l)/\(E5 (1+(k:Int)) st Ls).length<=801/\Rq (AT (E5 (1+(k:Int)) st Ls))/\ES Ls (E5 (1+(k:Int)) st Ls) (1+(k:Int)) s u λp=>Inv (k+1) (E5 (1+(k:Int)) st Ls) p.1 p.2
section
variable{w:aC7}{sc:List Int}{K:ŏ}{Inv:Nat->List Ln->Str->Str->Prop}
inductive ģ(Inv:Nat->List Ln->Str->Str->Prop)(sc:List Int)(k:Nat)(σ:St):Prop
 | mk (Ls:List Ln) (a b mb op fb:AV) (la lb:List AD) (ds:List (AD×AV)) (s u:Str) (mb' op' fb':AV) (ds':List (AD×AV)) (h0:σ=lS sc (Dp Ls) (IH Ls) (Fm Ls) (Fd Ls) (BQ a b mb op fb (.dct ds)) (BQ (.txt s) (.txt u) mb' op' fb' (.dct ds')) [] [] 2) (h1:Wo a b la lb mb op fb ds) (h2:Ŭ (.txt s) (.txt u) (DA s) (DA u) mb' op' fb' ds') (h3:Inv k Ls s u):ģ Inv sc k σ
noncomputable def Dl(sc:List Int):List Int:=[229,89,6,871,18]++sc
def Sb:Lw sc=ù (Dl sc):=Br _ _
def RQ{k:Nat}{st:Int}{σ:St}(P:Qk Inv)(hk:k<68)(hs:(Dl sc)[k]?=some st)(hI:ģ Inv sc k σ):gM w (.int (1+(k:Int))) σ (turn (λσ=>∃τ,Aa σ τ/\ģ Inv sc (k+1) τ) K):=by
 obtain⟨Ls,a,b,mb,op,fb,la,lb,ds,s,u,mb',op',fb',ds',rfl,M,S2,hi⟩:=hI
 have D:=P.deed k Ls s u (aD8 hk) hi
 obtain⟨t1,t2,t3,t4⟩:=P.turn k Ls s u st hk hi
 refine XH (st:=st) (uQ (Eb _) M.q.S.shut S2.S.shut) D (Tm (by exists 1,0x186a091800f18ab31800f18ab08360000449018,hk)) ?_ λkd at_ x=>ZE ⟨D.len,t2⟩ t1 M S2 t3 t4 λa b mb op fb ds s' u' mb' op' fb' ds' M S2 hi σ hσ=>?_
 ·rw[Sb]
  exact OI (i:=k) (by exists 1,0xf1800f18ab5) (by unfold ù;rw[aB3,hs];rfl)
 ·exact⟨_,hσ,_,a,b,mb,op,fb,_,_,ds,s',u',mb',op',fb',ds',rfl,M,S2,hi⟩
def YM{A B C:List AV}(hA:AC nn A=some A)(hB:AC nn B=some B)(hC:AC nn C=some C):Aa ⟨RL sc [("text",.ref 0),("old",.ref 1),("writers",.lst (ù [0,0,0])),("notes",.ref 2),("steps",.lst (Lw sc)),("signs",.ref 4),("lines",.ref 3)],[(0,.list A),(1,.list B),(2,.list C),(3,.inst Ş Vu),(4,.inst Ş Vu)],5,0⟩ (lS sc A B (ù [0,0,0]) C Vu Vu [] [] 2):=
 .re [3,4] [(0,.lst A),(1,.lst B),(2,.lst C)] rfl rfl rfl rfl (BA rfl rfl rfl (AL hA) (BA rfl rfl rfl (AL hB) (BA rfl rfl rfl (AL hC) CP)))
  (Ai rfl (ę (Aq _)) (Ai rfl rfl (Ai rfl rfl (Ai rfl (ę (Aq _)) (Ai rfl rfl (Ai rfl (ę F8) (Ai rfl rfl (Ai rfl rfl BZ)))))))) (Fe rfl rfl rfl (Fe rfl rfl rfl BY))
def Vh:Ŭ İ İ [] [] .none .none .none []:=⟨EK "",EK "",⟨rfl,rfl,rfl,rfl,rfl,rfl,rfl,rfl⟩,⟨rfl,λx=>rfl⟩,.inl rfl,.inl rfl⟩
def Ql(hl:sc.length<=63)(h :∀σ,Aa σ (lS sc (Dp Ss) (IH Ss) (Fm Ss) (Fd Ss) Vu Vu [] [] 2)->EM (Ad 1 (Dl sc).length) (gM w) (wL (AM w) (A4 w 29) []) σ (ø (AM w) (A4 w 30) (FR.drop 5) K)) :
  wL (AM w) (A4 w 30) FR (A6 [("script",.lst (ù sc))] []) K:=by
 have rn:Au 0 3:=⟨by decide,by decide,by decide,by decide⟩
 have i3:Ad 0 3=([0,1,2]:List Int).map AV.int:=rfl
 have hb :∀y∈([0,1,2]:List Int),0<=y/\y<=2:=by decide
 refine xI.mpr ⟨rn,?_⟩
 rw[rT.1.1,i3]
 refine Ch (f:=jU) (λρ=>ρ=([]:List (Str×AV))\/∃v,ρ=([("k",v)]:List (Str×AV))) (.inl rfl) (λ_ _ _ _=>trivial) (by decide) (λy _ ρ L K hI hL hK=>?_) ?_
 ·have go:=hK _ (.inr ⟨.int y,rfl⟩)
  exact hI.elim (λe=>e▸vV.mpr (CU hL go)) λq=>q.elim λu e=>e▸nX.mpr (CU hL go)
 refine à.mpr ⟨rn,?_⟩
 rw[rT.1.2,i3]
 refine Ch (f:=λk=>AV.txt (GX (19968+k) ++ "abcd")) (λρ=>ρ=([]:List (Str×AV))\/∃v,ρ=([("k",v)]:List (Str×AV))) (.inl rfl) (λ_ _ _ _=>trivial) (by decide) (λy hy ρ L K hI hL hK=>?_) ?_
 ·have go:=hK _ (.inr ⟨.int y,rfl⟩)
  have:=hb y hy
  have c :∀{A:Prop},A->Y2 (19968+y) 4 A:=λa=>⟨by(exists[],[_],0x10ffff90004e009a30004e009a08362803800838,this.1,this.2),⟨λz=>(nomatch(show(1:Nat)=0 from z)),by show 1+4<=_;exact id (ql [] 0xf424094818a0 (by rfl'))⟩,a⟩
  exact hI.elim (λe=>e▸yD.mpr (c (CU hL go))) λq=>q.elim λu e=>e▸oZ.mpr (c (CU hL go))
 refine yL.mpr ⟨rn,?_⟩
 rw[rT.2,i3]
 refine Ch (f:=λ_=>AV.lst (ù [0,0,0,0,0])) (λρ=>ρ=([]:List (Str×AV))\/∃v,ρ=([("k",v)]:List (Str×AV))) (.inl rfl) (λ_ _ _ _=>trivial) (by decide) (λy hy ρ L K hI hL hK=>?_) ?_
 ·have go:=hK _ (.inr ⟨.int y,rfl⟩)
  exact hI.elim (λe=>e▸zQ.mpr (CU hL go)) λq=>q.elim λu e=>e▸nR.mpr (CU hL go)
 refine z8.mpr ⟨rfl,?_⟩
 have le:(Lw sc).length=(Dl sc).length:=by rw[Sb,DY]
 have l68:(Dl sc).length<=68:=by
  unfold Dl
  rw[aB2]
  show 5+sc.length<=68
  exact id (ql [_] 0x449058a000003f9008 (by rfl') hl)
 refine(Ë (A:=([0,1,2]:List Int).map jU) (B:=([0,1,2]:List Int).map λk=>AV.txt (GX (19968+k) ++ "abcd")) (C:=([0,1,2]:List Int).map λ_=>AV.lst (ù [0,0,0,0,0]))).mpr ⟨Bs rfl,rfl,rfl,rfl,Bs rfl,rfl,rfl,rfl,by rw[DY];exact aA0 (aF6 hl 5) (by decide),rfl,by rw[le];exact aA0 l68 (by decide),?_,?_⟩
 ·rw[le]
  exact⟨by decide,by decide,by(exists 1,0x1800fa0f424091f3),by exists 1,0xf424091800fa30000449008,l68⟩
 ·rw[le,show(((Dl sc).length:Int)+1-1).toNat=(Dl sc).length by exists 2,0x10208181810fabe00f58,(aD1 _)]
  refine h _ ?_
  have eB:(([0,1,2]:List Int).map λk=>AV.txt (GX (19968+k) ++ "abcd"))=IH Ss:=rfl
  rw[eB]
  exact YM (CT Ss) (Eb Ss) (CK (Ss.map Ln.nt))
end
def bC:Ġ:=λas os Q=>∃sc:List Int,as=[.lst (ù sc)]/\os=[]/\sc.length<=63/\Q (.bool true) []
section
variable{w:aC7}{d:Nat}
def rJ:NX (Ű w) (ë w.params) (AM w) (d+7) Ĉ OX aM ME aI:=
 Ur (λf t e=>BU (b:=aE0 f 251) (x:=some M7) e (λq e=>aB8 q▸aA2 e▸BG.up (Uh (d:=d)) (aF6 (by decide:2<=8) d)) λe=>BU (b:=aE0 f 261) (x:=some N0) e (λq e=>aB8 q▸aA2 e▸R1) λe=>
  BU (b:=aE0 f 167) (x:=some (Kf G6)) (y:=none) e (λq e=>aB8 q▸aA2 e▸BG.up (BG.le (Jq (d:=d))) (aF6 (by decide:4<=8) d)) AA)
  (λe=>nomatch e) (λe=>nomatch e) (λ_ e=>aA2 e▸BG.up (VN (d:=d)) (aF6 (by decide:5<=7) d))
def Z3{Inv:Nat->List Ln->Str->Str->Prop}(P:Qk Inv):BG (Ű w) (ë w.params) (d+9) (.ref 266) bC:=
 PZ (rJ (d:=d)) (R6 _).2.2 (R6 _).1 (R6 _).2.1 (ps:=["script"]) (fuel:=30) (by decide) (by rfl') (NZ λa=>by rfl') λas os Q hh=>by
  obtain⟨sc,ea,eo,hl,hq⟩:=hh
  subst ea;subst eo
  have l68:(Dl sc).length<=68:=by
   unfold Dl
   rw[aB2]
   show 5+sc.length<=68
   exact id (ql [_] 0x449058a000003f9008 (by rfl') hl)
  refine⟨⟨rfl,CJ⟩,Ql hl λσ hσ=>⟨ģ Inv sc,⟨_,hσ,Ss,İ,İ,.none,.none,.none,[],[],[],"","",.none,.none,.none,[],rfl,⟨Vh,Qj,Qj⟩,Vh,P.zero⟩,λk σ v hv hI=>?_,λσ hI=>?_⟩⟩
  ·have hk:=(aA4.mp hv).1
   rw[AU]at hk
   cases aA2 (hv.symm.trans (BM hk))
   exact RQ P (aC0 hk l68) (aA5 hk) hI
  ·obtain⟨Ls,a,b,mb,op,fb,la,lb,ds,s,u,mb',op',fb',ds',rfl,M,S2,hi⟩:=hI
   rw[Av,Ac,wJ]
   exact Mz (fl:=.ret _) rfl rfl hq
end
end Mine
end
namespace Mine
section
variable{α:Type} [DecidableEq α] {la lb:List α}
def C4{α:Type}(la lb:List α)(i j:Nat):Prop:=∃x,la[i]?=some x/\lb[j]?=some x
def IG(i j i' j':Nat):Prop:=i<i'/\j<j'
def KX(bs:List B3)(i j:Nat):Prop:=∃b∈bs,∃d,d<b.2.2/\i=b.1+d/\j=b.2.1+d
structure pE{α:Type}(la lb:List α)(D:Nat->Nat->Prop)(i j ri rj rk:Nat):Prop where
 pos:0<rk
 all :∀t,t<rk->D (ri+t) (rj+t)/\¬ IG i j (ri+t) (rj+t)/\¬ IG (ri+t) (rj+t) i j
 big :∀si sj sk d,d<sk->i=si+d->j=sj+d->(∀t,t<sk->C4 la lb (si+t) (sj+t))->sk<rk\/(sk=rk/\ri<si)
def Dj.keep{D:Nat->Nat->Prop}(h1 :∀i j,D i j->C4 la lb i j)(h2 :∀i j i' j',D i j->D i' j'->IG i j i' j'\/(i=i'/\j=j')\/IG i' j' i j)
  {alo ahi blo bhi:Nat} {bs:List B3} (r:Dj la lb alo ahi blo bhi bs):(∀i j,alo<=i->i<ahi->blo<=j->j<bhi->C4 la lb i j->¬ D i j->∃ri rj rk,pE la lb D i j ri rj rk/\alo<=ri/\ri+rk<=ahi/\blo<=rj/\rj+rk<=bhi)->
  ∀i j,alo<=i->i<ahi->blo<=j->j<bhi->C4 la lb i j->(KX bs i j↔D i j):=by
 induction r with
 | @zero alo ahi blo bhi ķ j0 h=>
  intro _ i j a b c d e
  have:=h.max i j 1 ⟨a,c,b,d,λt ht=>(bH6.mp ht)▸e⟩
  exact aA9 (ql [] 0xa081808 (by rfl') this)
 | @step alo ahi blo bhi ķ j0 k L R h hk l r ihl ihr=>
  intro hw
  obtain⟨s1,s2,s3,s4,s5⟩:=h.str
  have hC :∀d,d<k->D (ķ+d) (j0+d):=λd hd=>aE7 λhn=>by
   obtain⟨ri,rj,rk,ag,w1,č,w3,w4⟩:=hw _ _ (by exists 3,0x21a001008,s1) (by exists 4,0x230a11318210a08,s3,hd) (by exists 3,0x21a001008,s2) (by exists 4,0x230a11318210a08,s4,hd) (s5 d hd) hn
   have hm:=h.max ri rj rk ⟨w1,w3,č,w4,λt ht=>h1 _ _ (ag.all t ht).1⟩
   rcases ag.big ķ j0 k d hd rfl rfl s5 with q | ⟨q,ĉ⟩
   ·exists 2,0xa01181008,hm,q
   ·subst q
    rcases h.fst hk ri rj ⟨w1,w3,č,w4,λt ht=>h1 _ _ (ag.all t ht).1⟩with q | q
    ·exists 2,0xa01181018,ĉ,q
    ·exists 2,0xa01281018,ĉ,q.1
  have hf:=hC 0 hk
  have hl:=hC (k-1) (by exists 1,0x180b100818,hk)
  have hL:=ihl λi j a b c d e hn=>by
   obtain⟨ri,rj,rk,ag,w1,č,w3,w4⟩:=hw i j a (by exists 4,0x2310318210a08,s3,b) c (by exists 4,0x2310318210a08,s4,d) e hn
   have g:=ag.all (rk-1) (by have:=ag.pos;exists 1,0x180b100818,this)
   have:=h2 _ _ _ _ g.1 hf
   have hp:=ag.pos
   have g2:=g.2.1
   unfold IG at this g2
   exact⟨ri,rj,rk,ag,w1,by(exists 7,0x154a0185b6a083a1185b4a081a16083a185b6a2081a185b4a267083a185b6a1081a185b4a1678185b6a21185b4a0169832181018,b,d,g2,this),w3,by exists 7,0x356a0185b6a083a1185b4a081a16083a185b6a2081a185b4a267083a185b6a1081a185b4a1678185b6a21185b4a0169832181018,b,d,g2,this⟩
  have hR:=ihr λi j a b c d e hn=>by
   obtain⟨ri,rj,rk,ag,w1,č,w3,w4⟩:=hw i j (by exists 4,0x300321a081008,s1,a) b (by exists 4,0x300321a081008,s2,c) d e hn
   have g:=ag.all 0 ag.pos
   have:=h2 _ _ _ _ g.1 hl
   have g2:=g.2.2
   unfold IG at this g2
   exact⟨ri,rj,rk,ag,by(exists 7,0x510a0086a181b3a1085a181b0a16181b3a086a2181b0a085a267181b3a086a1181b0a085a16784086a12085a1698413a08210a08,a,c,g2,this),č,by(exists 7,0x613a0086a181b3a1085a181b0a16181b3a086a2181b0a085a267181b3a086a1181b0a085a16784086a12085a1698413a08210a08,a,c,g2,this),w4⟩
  intro i j a b c d e
  constructor
  ·rintro ⟨x,hx,t,ht,rfl,rfl⟩
   rcases aB0.mp hx with hx' | hx'
   ·have w:=l.within x hx'
    exact(hL _ _ (by exists 3,0x21a0021a008,a) (by exists 4,0x302a1312a081018,ht,w.2.1) (by exists 3,0x21a0021a008,c) (by exists 4,0x302a1312a081018,ht,w.2.2.2.1) e).mp ⟨x,hx',t,ht,rfl,rfl⟩
   ·rcases aC4.mp hx' with rfl | hx'
    ·exact hC t ht
    ·have w:=r.within x hx'
     exact(hR _ _ (by exists 4,0x32a10a0210a08,w.1) (by exists 3,0x210a1210a18,b) (by exists 4,0x32a10a0210a08,w.2.2.1) (by exists 3,0x210a1210a18,d) e).mp ⟨x,hx',t,ht,rfl,rfl⟩
  ·intro hD
   have p:=h2 _ _ _ _ hD hf
   have q:=h2 _ _ _ _ hD hl
   unfold IG at p q
   by_cases z:i<ķ
   ·obtain⟨x,hx,q⟩:=(hL i j a z c (by exists 4,0x3212083a10081a16083a22081a0267083a21081a016781018,z,p) e).mpr hD
    exact⟨x,aB0.mpr (.inl hx),q⟩
   ·by_cases z2:ķ+k<=i
    ·obtain⟨x,hx,q⟩:=(hR i j z2 b (by exists 5,0x314a03181b4a12181b0a16181b4a32181b0a2267181b4a31181b0a21678210a08,z2,q) d e).mpr hD
     exact⟨x,aB0.mpr (.inr (aC1 _ hx)),q⟩
    ·have g:=h2 _ _ _ _ hD (hC (i-ķ) (by exists 3,0x12b1201a09800818,hk,z2))
     unfold IG at g
     exact⟨(ķ,j0,k),aB0.mpr (.inr (aB4 ..)),i-ķ,by show i-ķ<k;exact id (ql [_,_,_] 0x12b1201a09800818 (by rfl') hk z2),by show i=ķ+(i-ķ);exact id (ql [_,_] 0x10b1a0210198 (by rfl') z),by show j=j0+(i-ķ);exact id (ql [_,_,_,_] 0x10b3a22210b3a1010b1a1610b3a2210b1a026710b3a2110b1a0167810198 (by rfl') z g)⟩
def Dj.cmn{alo ahi blo bhi:Nat}{bs:List B3}(r:Dj la lb alo ahi blo bhi bs) :∀b∈bs,∀d,d<b.2.2->C4 la lb (b.1+d) (b.2.1+d):=by
 induction r with
 | zero h=>exact λb hb=>nomatch hb
 | step h hk l r ihl ihr=>
  intro b hb
  rcases aB0.mp hb with hb | hb
  ·exact ihl b hb
  ·rcases aC4.mp hb with rfl | hb
   ·exact h.str.2.2.2.2
   ·exact ihr b hb
def Dj.kept{D:Nat->Nat->Prop}(h1 :∀i j,D i j->C4 la lb i j)(h2 :∀i j i' j',D i j->D i' j'->IG i j i' j'\/(i=i'/\j=j')\/IG i' j' i j)
  (h3 :∀i j,C4 la lb i j->¬ D i j->∃ri rj rk,pE la lb D i j ri rj rk) {bs:List B3} (r:Dj la lb 0 la.length 0 lb.length bs) :∀i j,KX bs i j↔D i j:=by
 have bd :∀i j,C4 la lb i j->i<la.length/\j<lb.length:=λi j ⟨x,e,f⟩=>⟨(aA4.mp e).1,(aA4.mp f).1⟩
 have k:=r.keep h1 h2 λi j _ _ _ _ e hn=>by
  obtain⟨ri,rj,rk,ag⟩:=h3 i j e hn
  have g:=bd _ _ (h1 _ _ (ag.all (rk-1) (by have:=ag.pos;exists 1,0x180b100818,this)).1)
  have:=ag.pos
  exact⟨ri,rj,rk,ag,by(exists 1,0x80),by(exists 3,0x210a02181b0a18,g.1),by(exists 1,0x80),by exists 3,0x210a02181b0a18,g.2⟩
 intro i j
 constructor
 ·intro hc
  obtain⟨b,hb,d,hd,rfl,rfl⟩:=hc
  have e:=r.cmn b hb d hd
  have g:=bd _ _ e
  exact(k _ _ (by exists 2,0x10a080) g.1 (by exists 2,0x10a080) g.2 e).mp ⟨b,hb,d,hd,rfl,rfl⟩
 ·intro hD
  have e:=h1 _ _ hD
  have g:=bd _ _ e
  exact(k _ _ (by exists 1,0x80) g.1 (by exists 1,0x80) g.2 e).mpr hD
end
def Lx(old new drop:List Int)(i j:Nat):Prop:=∃x,old[i]?=some x/\new[j]?=some x/\x∉drop
structure Ze(old new drop:List Int):Prop where
 ch :∀i j i' j',Lx old new drop i j->Lx old new drop i' j'->IG i j i' j'\/(i=i'/\j=j')\/IG i' j' i j
 ag :∀i j,C4 old new i j->¬ Lx old new drop i j->∃ri rj rk,pE old new (Lx old new drop) i j ri rj rk
def Lx.cmn{old new drop:List Int}{i j:Nat}(h:Lx old new drop i j):C4 old new i j:=h.imp λx q=>⟨q.1,q.2.1⟩
def Nd{l:List Int}(h:l.Nodup){i j:Nat}{x:Int}(e:l[i]?=some x)(f:l[j]?=some x):i=j:=(aT8 (aA4.mp e).1 h).mp (e.trans f.symm)
def Td{K:List Int}{x y:Int}(n:x≠y):x∈K->y∈K->[x,y].Sublist K\/[y,x].Sublist K:=by
 induction K with
 | nil=>exact λh=>nomatch h
 | cons z K ih=>
  intro hx hy
  rcases aC4.mp hx with rfl | hx'
  ·rcases aC4.mp hy with rfl | hy'
   ·exact bO4 rfl n
   ·exact .inl (.cons_cons _ (List.singleton_sublist.mpr hy'))
  ·rcases aC4.mp hy with rfl | hy'
   ·exact .inr (.cons_cons _ (List.singleton_sublist.mpr hx'))
   ·exact(ih hx' hy').imp (.cons _) (.cons _)
def Gn{l:List Int}{x y:Int}(h:l.Nodup)(s:[x,y].Sublist l){i j:Nat}(e:l[i]?=some x)(f:l[j]?=some y):i<j:=by
 have go :∀{i j:Nat},l[i]?=some x->l[j]?=some y->i<j:=by
  clear e f
  induction l with
  | nil=>exact λe=>nomatch e
  | cons z l ih=>
   obtain⟨h1,h2⟩:=aO8.mp h
   intro i j e f
   cases s with
   | cons _ s=>
    cases i with
    | zero=>exact bO4 (s.subset (aB4 ..)) (λm=>h1 (aA2 e▸m))
    | succ i=>cases j with
     | zero=>exact bO4 (s.subset (aC1 _ (aB4 ..))) (λm=>h1 (aA2 f▸m))
     | succ j=>exact Nat.succ_lt_succ (ih h2 s e f)
   | cons_cons _ s=>
    cases j with
    | zero=>exact bO4 (s.subset (aB4 ..)) (λm=>h1 (aA2 f▸m))
    | succ j=>cases i with
     | zero=>exact bC4 _
     | succ i=>exact bO4 (aD3 (show l[i]?=some _ from e)) h1
 exact go e f
def M6{old new drop K:List Int}(ho:old.Nodup)(hn:new.Nodup)(k1:K.Sublist old)(k2:K.Sublist new)(hK :∀x,x∈old->x∈new->x∉drop->x∈K)(i j i' j':Nat)(a:Lx old new drop i j)(b:Lx old new drop i' j'):IG i j i' j'\/(i=i'/\j=j')\/IG i' j' i j:=by
 obtain⟨x,a1,a2,a3⟩:=a
 obtain⟨y,b1,b2,b3⟩:=b
 by_cases e:x=y
 ·subst e
  exact .inr (.inl ⟨Nd ho a1 b1,Nd hn a2 b2⟩)
 ·exact(Td e (hK x (aD3 a1) (aD3 a2) a3) (hK y (aD3 b1) (aD3 b2) b3)).elim (λs=>.inl ⟨Gn ho (s.trans k1) a1 b1,Gn hn (s.trans k2) a2 b2⟩) λs=>.inr (.inr ⟨Gn ho (s.trans k1) b1 a1,Gn hn (s.trans k2) b2 a2⟩)
def Ze.of{old new drop:List Int}(ho:old.Nodup)(s:Nat->Nat)(dr:Nat->Prop)(hs :∀i j,C4 old new i j->i=s j)(hd :∀i x,old[i]?=some x->(x∈drop↔dr i))
  (ch :∀i j i' j',Lx old new drop i j->Lx old new drop i' j'->IG i j i' j'\/(i=i'/\j=j')\/IG i' j' i j)
  (ag :∀j,C4 old new (s j) j->dr (s j)->∃ri rj rk,0<rk/\(∀t,t<rk->C4 old new (s (rj+t)) (rj+t)/\s (rj+t)=ri+t/\¬ dr (ri+t)/\¬ IG (s j) j (ri+t) (rj+t)/\¬ IG (ri+t) (rj+t) (s j) j)/\
   ∀si sj sk d,d<sk->s j=si+d->j=sj+d->(∀t,t<sk->s (sj+t)=si+t)->sk<rk\/(sk=rk/\ri<si)):Ze old new drop:=by
 refine⟨ch,λi j c n=>?_⟩
 have e:=hs i j c
 subst e
 have dj:dr (s j):=aE7 λz=>n (c.imp λx q=>⟨q.1,q.2,λm=>z ((hd _ _ q.1).mp m)⟩)
 obtain⟨ri,rj,rk,p,q,r⟩:=ag j c dj
 refine⟨ri,rj,rk,p,λt ht=>?_,λsi sj sk d h1 h2 h3 h4=>r si sj sk d h1 h2 h3 λt ht=>(hs _ _ (h4 t ht)).symm⟩
 obtain⟨q1,ĉ,q3,ě,ť⟩:=q t ht
 rw[ĉ]at q1
 exact⟨q1.imp λx q=>⟨q.1,q.2,λm=>q3 ((hd _ _ q.1).mp m)⟩,ě,ť⟩
section
variable{hd p q rs M tl:List Int}
def Su{n:Nat}(ho:(hd++tl).Nodup)(hn:(hd++M++tl.drop n).Nodup)(hM :∀x∈M,x∉hd++tl):Ze (hd++tl) (hd++M++tl.drop n) []:=
 ⟨M6 (K:=hd++tl.drop n) ho hn ((aU1 hd).append (aQ8 ..)) ((aN9 ..).append (.refl _)) λx h1 h2 _=>by
  rcases aB0.mp h2 with h2 | h2
  ·rcases aB0.mp h2 with h2 | h2
   ·exact aB0.mpr (.inl h2)
   ·exact bO4 h1 (hM x h2)
  ·exact aB0.mpr (.inr h2),λi j c nk=>bO4 (c.imp λx q=>⟨q.1,q.2,λz=>nomatch z⟩) nk⟩
noncomputable def s2(a P Q j:Nat):Nat:=if j<a then j else if j<a+Q then j+P else if j<a+Q+P then j-Q else j
def Vk(j:Nat):(hd++q++p++rs)[j]?=(hd++p++q++rs)[s2 hd.length p.length q.length j]?:=by
 unfold s2
 have l3 :∀(a b c d:List Int) (k:Nat),(a++b++c++d)[k]?=if k<a.length then a[k]? else if k<a.length+b.length then b[k-a.length]? else if k<a.length+b.length+c.length then c[k-(a.length+b.length)]? else d[k-(a.length+b.length+c.length)]?:=λa b c d k=>by
  rw[bB1,bB1,bB1,aB2,aB2]
  by_cases h1:k<a.length
  ·rw[bO2 (by exists 4,0x321aa011018,h1),bO2 (by exists 3,0x21a011018,h1),bO2 h1,bO2 h1]
  ·by_cases h2:k<a.length+b.length
   ·rw[bO2 (by exists 4,0x321aa0121a018,h2),bO2 h2,bO3 h1,bO3 h1,bO2 h2]
   ·by_cases h3:k<a.length+b.length+c.length
    ·rw[bO2 h3,bO3 h2,bO3 h1,bO3 h2,bO2 h3]
    ·rw[bO3 h3,bO3 h1,bO3 h2,bO3 h3]
 rw[l3,l3]
 by_cases h1:j<hd.length
 ·rw[bO2 h1,bO2 h1,bO2 h1]
 ·rw[bO3 h1,bO3 h1]
  by_cases h2:j<hd.length+q.length
  ·rw[bO2 h2,bO2 h2,bO3 (by exists 3,0x120a1910198,h1),bO3 (by exists 3,0x21a20a1910198,h1),bO2 (by exists 4,0x231aa30a121a018,h2)]
   congr 1;exists 3,0x21a20ab10b2
  ·rw[bO3 h2,bO3 h2]
   by_cases h3:j<hd.length+q.length+p.length
   ·rw[bO2 h3,bO2 h3,bO3 (by exists 3,0x120b1921a0198,h2),bO2 (by exists 4,0x31a20b1321aa01821a0198,h2,h3)]
    congr 1;exists 3,0x120bb21a0b2
   ·rw[bO3 h3,bO3 h3,bO3 (by exists 2,0x101910198,h1),bO3 (by exists 4,0x31a019321aa0198,h3),bO3 (by exists 4,0x231aa019321aa0198,h3)]
    congr 1;exists 4,0x231aa0b321aa0b2
end
section
variable{hd p q rs T:List Int}
def NA(a P Q j:Nat):(j<a/\s2 a P Q j=j)\/(a<=j/\j<a+Q/\s2 a P Q j=j+P)\/(a+Q<=j/\j<a+Q+P/\s2 a P Q j+Q=j)\/(a+Q+P<=j/\s2 a P Q j=j):=by
 unfold s2
 split
 ·rename_i u0;exists 4,0x20321aa06020a2321aa016021a06730a0221a01601067002101671018,u0
 ·split
  ·rename_i u0 u1;exists 4,0x30a20321aa060230aa2321aa016021a06730a30a221a01601067030a21016721a01810198,u0,u1
  ·split
   ·rename_i u1 u2;exists 4,0x20b20321aa060220ba2321aa016021a06730a20b221a01601067020b210167321aa01821a0198,u1,u2
   ·rename_i u2;exists 4,0x20321aa06020a2321aa016021a06730a0221a0160106700210167321aa0198,u2
def Xy(a P Q j u:Nat):(a<=j->j<a+Q->s2 a P Q u+j=s2 a P Q j+u->0<P->a<=u/\u<a+Q)/\(a+Q<=j->j<a+Q+P->0<Q->s2 a P Q u+j=s2 a P Q j+u->a+Q<=u/\u<a+Q+P):=by
 have hu:=NA a P Q u
 refine⟨λh1 h2 h3 h0=>?_,λh1 h2 h0 h3=>?_⟩
 ·have hj:s2 a P Q j=j+P:=by unfold s2;rw[bO3 (by exists 2,0x1191008,h1),bO2 h2]
  exists 7,0x65a3135063023465aa06360a2465aa316365a06743a0265a3163506730253167841a2284081832a10a28,h3,h0,hj,hu
 ·have hj:s2 a P Q j=j-Q:=by unfold s2;rw[bO3 (by exists 3,0x219210a08,h1),bO3 (by exists 3,0x10a219210a08,h1),bO2 h2]
  exists 7,0x610aa51510a065325610aa06513a2610aa516510a06765a3210a5165006753205167812b42854a23a2810818210a08,h1,h0,h3,hj,hu
def LV{A B C:List Int}(h:(A++B++C).Nodup){i:Nat}{x:Int}(e:(A++B++C)[i]?=some x):x∈B↔A.length<=i/\i<A.length+B.length:=by
 have at_ :∀t,t<B.length->(A++B++C)[A.length+t]?=B[t]?:=λt ht=>by
  rw[aC9,aG0 (aD0 ..),Nat.add_sub_cancel_left,aG8 ht]
 constructor
 ·intro hx
  obtain⟨t,ht⟩:=aJ6 hx
  have l:=(aA4.mp ht).1
  have:=Nd h e ((at_ t l).trans ht)
  exists 4,0x13a21230603a2281018,l,this
 ·intro⟨h1,h2⟩
  have:=at_ (i-A.length) (by exists 3,0x201b120a1181008,h1,h2)
  rw[show A.length+(i-A.length)=i by(exists 2,0x101b0a21008,h1),e]at this
  exact aD3 this.symm
def L5{old new:List Int}{s:Nat->Nat}(h :∀j,new[j]?=old[s j]?){j:Nat}(hj:j<new.length):C4 old new (s j) j:=⟨new[j],(h j).symm.trans (aA5 hj),aA5 hj⟩
def Mr{old new:List Int}{s:Nat->Nat}(ho:old.Nodup)(h :∀j,new[j]?=old[s j]?){i j:Nat}(c:C4 old new i j):i=s j:=c.elim λx q=>Nd ho q.1 ((h j).symm.trans q.2)
def Uz(ho:(hd++p++q++rs).Nodup)(hn:(hd++q++p++rs).Nodup):Ze (hd++p++q++rs) (hd++q++p++rs) (if q.length<=p.length then q else p):=by
 have sa:=Vk (hd:=hd) (p:=p) (q:=q) (rs:=rs)
 have ln:(hd++q++p++rs).length=hd.length+q.length+p.length+rs.length:=by rw[aB2,aB2,aB2]
 have ţ :∀j,j<hd.length+q.length+p.length->C4 (hd++p++q++rs) (hd++q++p++rs) (s2 hd.length p.length q.length j) j:=λj hj=>L5 (s:=s2 hd.length p.length q.length) sa (ln▸aC0 hj (aD0 ..))
 have mq :∀i x,(hd++p++q++rs)[i]?=some x->(x∈q↔hd.length+p.length<=i/\i<hd.length+p.length+q.length):=λi x e=>by
  have:=LV (A:=hd++p) ho e
  rwa[aB2]at this
 have mp :∀i x,(hd++p++q++rs)[i]?=some x->(x∈p↔hd.length<=i/\i<hd.length+p.length):=λi x e=>by
  have ho':=ho
  rw[aC9 (hd++p)]at e ho'
  exact LV ho' e
 have ms :∀x,x∈hd++p++q++rs->x∈hd\/x∈p\/x∈q\/x∈rs:=λx h=>by
  rw[aC9,aC9]at h
  exact(aB0.mp h).imp_right λh=>(aB0.mp h).imp_right λh=>aB0.mp h
 have is:=NA hd.length p.length q.length
 have of:=Xy hd.length p.length q.length
 have k :∀{a b c:List Int} {x:Int},x∈a\/x∈b\/x∈c->x∈a++b++c:=λh=>h.elim (λh=>aB0.mpr (.inl (aB0.mpr (.inl h)))) λh=>h.elim (λh=>aB0.mpr (.inl (aB0.mpr (.inr h)))) λh=>aB0.mpr (.inr h)
 by_cases hc:q.length<=p.length
 ·rw[bO2 hc]
  refine .of ho _ (λi=>hd.length+p.length<=i/\i<hd.length+p.length+q.length) (λi j=>Mr ho sa) mq
   (M6 (K:=hd++p++rs) ho hn ((aN9 ..).append (.refl _)) (((aN9 ..).append (.refl _)).append (.refl _)) λx h _ n=>k ((ms x h).imp_right λh=>h.imp_right λh=>h.resolve_left n)) λj c d=>?_
  clear mq mp ms k ho hn sa ln c
  generalize s2 hd.length p.length q.length=s at ţ is of d ⊢
  generalize hd.length=a at *;generalize p.length=P at *;generalize q.length=Q at *
  have ij:a<=j/\j<a+Q/\s j=j+P:=by have:=is j;clear is of;exists 5,0x14a2230a41640064224130aa06432a2130aa416430a06714a2230a41640067422041678310aa218210a08,d.1,d.2,this
  refine⟨a,a+Q,P,by(exists 4,0x1081012aa318312a081008,hc,d.1,d.2),λt ht=>?_,λsi sj sk e h1 h2 h3 h4=>?_⟩
  ·have g:s (a+Q+t)=a+t:=by have:=is (a+Q+t);clear is of;exists 5,0x2a42032aa42032aa132aa06032aa34a2132aa032aa16032aa32a0671032aaa4232a032aa16032aa2067032aa422032aa16781018,ht,this
   refine⟨ţ _ (by exists 4,0x132aa032aa11018,ht),g,λz=>bO4 z.1 (by exists 3,0x2a12a091018,ht),λz=>bO4 z.1 (by exists 4,0x30a2191318210a08,d.1,ht),λz=>bO4 z.2 (by exists 4,0x321aa1921a018,ij.2.1)⟩
  ·have g1:=(of j (sj+0)).1 ij.1 ij.2.1 (by have:=h4 0 (by exists 2,0x10811018,h1);exists 6,0x84a0a35a2081a52824a32821a028,h2,h3,this) (by exists 4,0x1081012aa318312a081008,hc,d.1,d.2)
   have g2:=(of j (sj+(sk-1))).1 ij.1 ij.2.1 (by have:=h4 (sk-1) (by exists 2,0x1181b11018,h1);exists 7,0x186b4a0a35a2186b1a52824a32821a028,h2,h3,this) (by exists 4,0x1081012aa318312a081008,hc,d.1,d.2)
   clear is of h4 ţ
   exists 9,0x47112f2612f1707a182fb6a18086a70856a32854a22813a2281008,hc,ij.2.2,h2,h3,g1.1,g2.2
 ·rw[bO3 hc]
  refine .of ho _ (λi=>hd.length<=i/\i<hd.length+p.length) (λi j=>Mr ho sa) mp
   (M6 (K:=hd++q++rs) ho hn (((aN9 ..).append (.refl _)).append (.refl _)) ((aN9 ..).append (.refl _)) λx h _ n=>k ((ms x h).imp_right λh=>h.resolve_left n)) λj c d=>?_
  clear mq mp ms k ho hn sa ln c
  generalize s2 hd.length p.length q.length=s at ţ is of d ⊢
  generalize hd.length=a at *;generalize p.length=P at *;generalize q.length=Q at *
  have ij:a+Q<=j/\j<a+Q+P/\s j+Q=j:=by have:=is j;clear is of;exists 5,0x341a2240aa316340a063123240aa06341a2240aa316340a06723a1240a3163006731203167820a1181008,d.1,d.2,this
  refine⟨a+P,a,Q,by(exists 2,0x8110098,hc),λt ht=>?_,λsi sj sk e h1 h2 h3 h4=>?_⟩
  ·have g:s (a+t)=a+P+t:=by have:=is (a+t);clear is of;exists 5,0x42aa3202a3202a412aa0602a13a2412aa02a1602a12a067402aa3212a02a1602a206702a32202a16781018,ht,this
   refine⟨ţ _ (by exists 4,0x312aa02a11018,ht),g,λz=>bO4 z.2 (by exists 3,0x10a210aa19),λz=>bO4 z.2 (by exists 4,0x30a2191318210a08,ij.1,ht),λz=>bO4 z.1 (by exists 4,0x321aa1921a018,d.2)⟩
  ·have g1:=(of j (sj+0)).2 ij.1 ij.2.1 (by exists 2,0x8110098,hc) (by have:=h4 0 (by exists 2,0x10811018,h1);exists 6,0x84a0a35a2081a52824a32821a028,h2,h3,this)
   have g2:=(of j (sj+(sk-1))).2 ij.1 ij.2.1 (by exists 2,0x8110098,hc) (by have:=h4 (sk-1) (by exists 2,0x1181b11018,h1);exists 7,0x186b4a0a35a2186b1a52824a32821a028,h2,h3,this)
   clear is of h4 ţ
   exists 9,0x416a102f2602f17106aa182fb7a18087a06a0854a228302a2810098,hc,ij.2.2,h2,g1.1,g2.2
noncomputable def s3(a n j:Nat):Nat:=if j<a then j else if j<a+n then a+n-1-(j-a)else j
def RH(a n j:Nat):(j<a/\s3 a n j=j)\/(a<=j/\j<a+n/\s3 a n j+j+1=a+a+n)\/(a+n<=j/\s3 a n j=j):=by
 unfold s3
 split
 ·rename_i u0;exists 3,0x2021a06211aa1800aa221a01601067002101671018,u0
 ·split
  ·rename_i u0 u1;exists 3,0x10b1821abb2021a06211aa18010b1821abbaa221a01601067010b1821abb21016721a01810198,u0,u1
  ·rename_i u1;exists 3,0x2021a06211aa1800aa221a016010670021016721a0198,u1
def WC(j:Nat):(hd++T.reverse++rs)[j]?=(hd++T++rs)[s3 hd.length T.length j]?:=by
 unfold s3
 by_cases h1:j<hd.length
 ·rw[bO2 h1,aC9,aC9,aG8 h1,aG8 h1]
 ·rw[bO3 h1]
  by_cases h2:j<hd.length+T.length
  ·have l:(hd++T.reverse++rs)[j]?=T[T.length-1-(j-hd.length)]?:=by
    rw[aC9,aG0 (aZ8 h1),aG8 (by rw[aL4];exists 3,0x210b121a01810198,h1,h2),List.getElem?_reverse (by exists 3,0x210b121a01810198,h1,h2)]
   have r:(hd++T++rs)[hd.length+T.length-1-(j-hd.length)]?=T[hd.length+T.length-1-(j-hd.length)-hd.length]?:=by
    rw[aC9,aG0 (by exists 3,0x10b1821abb1021a01810198,h1,h2),aG8 (by exists 3,0x2110b1821abbb121a01810198,h1,h2)]
   rw[bO2 h2,l,r]
   congr 1;exists 3,0x221b1802abbb21b180bb2
  ·rw[bO3 h2,aG0 (by rw[aB2,aL4];exists 3,0x21a021a0198,h2),aG0 (by rw[aB2];exists 3,0x21a021a0198,h2),aB2,aB2,aL4]
def UO(ho:(hd++T++rs).Nodup)(hn:(hd++T.reverse++rs).Nodup):Ze (hd++T++rs) (hd++T.reverse++rs) (T.drop 1):=by
 have sa:=WC (hd:=hd) (T:=T) (rs:=rs)
 have ln:(hd++T.reverse++rs).length=hd.length+T.length+rs.length:=by rw[aB2,aB2,aL4]
 have ţ :∀j,j<hd.length+T.length->C4 (hd++T++rs) (hd++T.reverse++rs) (s3 hd.length T.length j) j:=λj hj=>L5 (s:=s3 hd.length T.length) sa (ln▸aC0 hj (aD0 ..))
 have mt :∀i x,(hd++T++rs)[i]?=some x->(x∈T.drop 1↔hd.length+1<=i/\i<hd.length+T.length):=λi x e=>by
  cases T with
  | nil=>exact⟨λz=>(nomatch(show x∈([]:List Int)from z)),λz=>bO4 z.2 (aS6.mpr (aL6 z.1))⟩
  | cons y r=>
   have h':((hd++[y])++r++rs).Nodup:=by rw[aC9 hd];exact ho
   have e':((hd++[y])++r++rs)[i]?=some x:=by rw[aC9 hd];exact e
   have:=LV h' e'
   rw[aB2,show hd.length+[y].length+r.length=hd.length+(y::r).length from(aR1 ..).trans (bO1 (hd.length + ·) (Nat.add_comm 1 r.length))]at this
   exact this
 have ch :∀i j i' j',Lx (hd++T++rs) (hd++T.reverse++rs) (T.drop 1) i j->Lx (hd++T++rs) (hd++T.reverse++rs) (T.drop 1) i' j'->IG i j i' j'\/(i=i'/\j=j')\/IG i' j' i j:=by
  refine M6 (K:=hd++T.take 1++rs) ho hn (((aU1 hd).append (List.take_sublist ..)).append (.refl _)) (((aU1 hd).append ?_).append (.refl _)) λx h _ n=>?_
  ·cases T with
   | nil=>exact .refl _
   | cons y r=>rw[aQ7];exact List.sublist_append_right ..
  ·rcases aB0.mp h with h | h
   ·rcases aB0.mp h with h | h
    ·exact aB0.mpr (.inl (aB0.mpr (.inl h)))
    ·rw[<-aN1 1 T]at h
     exact aB0.mpr (.inl (aB0.mpr (.inr ((aB0.mp h).resolve_right n))))
   ·exact aB0.mpr (.inr h)
 have is:=RH hd.length T.length
 refine .of ho _ (λi=>hd.length+1<=i/\i<hd.length+T.length) (λi j=>Mr ho sa) mt ch λj c d=>?_
 clear mt ch ho hn sa ln c
 generalize s3 hd.length T.length=s at ţ is d ⊢
 generalize hd.length=a at *;generalize T.length=n at *
 have ij:a<=j/\j+1<a+n/\s j+j+1=a+a+n:=by have:=is j;clear is;exists 4,0x200aa1831aa220a183a163006312320a06200aa1831aa220a3163006731203167820a1181180a08,d.1,d.2,this
 refine⟨a,a+n-1,1,bL2,λt ht=>?_,λsi sj sk e h1 h2 h3 h4=>?_⟩
 ·obtain rfl:=bH6.mp ht
  have g:s (a+n-1)=a:=by have:=is (a+n-1);clear is;exists 4,0x321820ab321820ab20a06200aa181820ab3aa220a1820ab161820ab00671820ab3201820ab167820a1181180a08,d.1,d.2,this
  exact⟨ţ _ (by exists 3,0x21a081821aba121a018,d.2),g,λz=>bO4 z.1 (by exists 1,0x80a180a09),λz=>bO4 z.1 (by exists 2,0x80a1191180a08,d.1),λz=>bO4 z.2 (by exists 3,0x81821aba1921a180a18,ij.2.1)⟩
 ·have nx:s (j+1)≠s j+1:=by have:=is (j+1);clear is;exists 5,0x181a429182a42182a30a06300aa18182a4aa230a182a16182a0067182a420182a1678300aa1821aa281180a08,d.1,ij.2.2,this
  have A9:sk=1:=aE7 λz=>by
   by_cases he:e+1<sk
   ·exact nx (by rw[h3,aR1,h4 _ he,<-h3,h2];rfl)
   ·have g:=h4 (e-1) (by exists 2,0x1180b11018,h1)
    have g3:=is (sj+(e-1))
    clear is nx ţ h4
    exists 9,0xa185298184b7a2f2184b7a30a06300aa18184b7a2faa230a184b7a16184b7a0067184b7a2f20184b7a1678184b6a2f285184a19847a22846a1285418300aa1821aa281180a08,d.1,ij.2.2,h1,h2,h3,he,g,g3,z
  clear is ţ nx h4
  exists 5,0x40118326183171832824a12832181180a08,d.1,h1,h2,A9
end
end Mine
section
open PySem
namespace Mine
section
variable{α:Type} [DecidableEq α]
def Cl{b:B3}{r:List B3}{x y:Nat}:KX (b::r) x y↔(∃d,d<b.2.2/\x=b.1+d/\y=b.2.1+d)\/KX r x y:=by
 constructor
 ·rintro ⟨c,hc,q⟩
  rcases aC4.mp hc with rfl | hc
  ·exact .inl q
  ·exact .inr ⟨c,hc,q⟩
 ·rintro (q | ⟨c,hc,q⟩)
  ·exact⟨b,aB4 ..,q⟩
  ·exact⟨c,aC1 _ hc,q⟩
theorem Gk{x y:Nat} :∀{bs:List B3} {i j k:Nat},KX (FC (i,j,k) bs) x y↔KX ((i,j,k)::bs) x y
 | [],i,j,k=>by
  unfold FC
  split
  ·rename_i h
   subst h
   exact⟨λ⟨c,hc,_⟩=>(nomatch hc),λh=>(Cl.mp h).elim (λ⟨d,hd,_⟩=>bO4 hd (aI0 d)) id⟩
  ·exact Iff.rfl
 | (i2,j2,k2)::r,i,j,k=>by
  unfold FC
  split
  ·rename_i h
   obtain⟨rfl,rfl⟩:=h
   rw[Gk,Cl,Cl,Cl,<-or_assoc]
   refine or_congr_left ⟨λ⟨d,h1,h2,h3⟩=>?_,λh=>?_⟩
   ·by_cases z:d<k
    ·exact .inl ⟨d,z,h2,h3⟩
    ·exact .inr ⟨d-k,by show d-k<k2;have:d<k+k2:=h1;exact id (ql [_,_,_] 0x210b121a01810198 (by rfl') z this),by show x=i+k+(d-k);have:x=i+d:=h2;exact id (ql [_,_,_,_] 0x32b31aa023219821a028 (by rfl') h2 z),by show y=j+k+(d-k);have:y=j+d:=h3;exact id (ql [_,_,_,_] 0x32b31aa023219821a028 (by rfl') h3 z)⟩
   ·rcases h with⟨d,h1,h2,h3⟩ | ⟨d,h1,h2,h3⟩
    ·exact⟨d,aC0 h1 (aD0 ..),h2,h3⟩
    ·exact⟨k+d,aV7 h1 k,h2.trans (aR1 ..),h3.trans (aR1 ..)⟩
  ·split
   ·rename_i h
    subst h
    rw[Gk,Cl (b:=(i,j,0))]
    exact⟨.inr,λh=>h.elim (λ⟨d,hd,_⟩=>bO4 hd (aI0 d)) id⟩
   ·rw[Cl,Gk,Cl (b:=(i,j,k))]
def Nx(n m:Nat):Nat->Nat->List B3->Prop
 | i,j,[]=>i<=n/\j<=m
 | i,j,b::r=>(i<=b.1/\j<=b.2.1)/\0<b.2.2/\Nx n m (b.1+b.2.2) (b.2.1+b.2.2) r
def Ko(n m:Nat):Nat->Nat->List B3->Prop
 | i,j,[]=>i=n/\j=m
 | i,j,b::r=>(i<=b.1/\j<=b.2.1)/\(0<b.2.2\/r=[])/\Ko n m (b.1+b.2.2) (b.2.1+b.2.2) r
theorem Gx{n m:Nat} :∀{bs:List B3} {i j k s t:Nat},s<=i->t<=j->Nx n m (i+k) (j+k) bs->Ko n m s t (FC (i,j,k) bs++[(n,m,0)])
 | [],i,j,k,s,t,h1,h2,h3=>by
  unfold FC
  split
  ·rename_i h
   subst h
   exact⟨⟨aA0 h1 h3.1,aA0 h2 h3.2⟩,.inr rfl,rfl,rfl⟩
  ·exact⟨⟨h1,h2⟩,.inl (aG7 ‹_›),⟨h3.1,h3.2⟩,.inr rfl,rfl,rfl⟩
 | (i2,j2,k2)::r,i,j,k,s,t,h1,h2,⟨⟨h3,h4⟩,h5,h6⟩=>by
  unfold FC
  split
  ·rename_i h
   obtain⟨rfl,rfl⟩:=h
   exact Gx h1 h2 (by rw[<-aR1,<-aR1];exact h6)
  ·split
   ·rename_i h
    subst h
    exact Gx (aA0 h1 h3) (aA0 h2 h4) h6
   ·exact⟨⟨h1,h2⟩,.inl (aG7 ‹_›),Gx h3 h4 h6⟩
theorem Me{n m:Nat} :∀{L:List B3} {i j x y k:Nat} {R:List B3},Nx x y i j L->0<k->Nx n m (x+k) (y+k) R->Nx n m i j (L++(x,y,k)::R)
 | [],_,_,_,_,_,_,h,hk,r=>⟨h,hk,r⟩
 | b::L,_,_,_,_,_,_,⟨h1,h2,h3⟩,hk,r=>⟨h1,h2,Me h3 hk r⟩
def Dj.ris{la lb:List α}{alo ahi blo bhi:Nat}{bs:List B3}(h:Dj la lb alo ahi blo bhi bs):Nx ahi bhi alo blo bs:=by
 induction h with
 | zero h=>exact⟨aA0 h.str.1 h.str.2.2.1,aA0 h.str.2.1 h.str.2.2.2.1⟩
 | step h hk l r ihl ihr=>exact Me ihl hk ihr
def Ĩ:List B3->Prop
 | b::c::r=>(c.2.2=0\/b.1+b.2.2<c.1\/b.2.1+b.2.2<c.2.1)/\Ĩ (c::r)
 | _=>True
theorem Jw :∀{bs:List B3} {i j k:Nat},0<k->∃k' r,FC (i,j,k) bs=(i,j,k')::r
 | [],i,j,k,h=>⟨k,[],by unfold FC;rw[bO3 (aJ8 h)]⟩
 | (i2,j2,k2)::r,i,j,k,h=>by
  unfold FC
  split
  ·exact Jw (aC0 h (aD0 ..))
  ·rw[bO3 (aJ8 h)];exact⟨k,_,rfl⟩
theorem JZ{n m:Nat} :∀{bs:List B3} {i j k:Nat},Nx n m (i+k) (j+k) bs->Ĩ (FC (i,j,k) bs++[(n,m,0)])
 | [],i,j,k,_=>by
  unfold FC
  split
  ·trivial
  ·exact⟨.inl rfl,trivial⟩
 | (i2,j2,k2)::r,i,j,k,⟨⟨h3,h4⟩,h5,h6⟩=>by
  unfold FC
  split
  ·rename_i h
   obtain⟨rfl,rfl⟩:=h
   exact JZ (by rw[<-aR1,<-aR1];exact h6)
  ·rename_i hn
   split
   ·exact JZ h6
   ·have ih:=JZ (i:=i2) (j:=j2) (k:=k2) h6
    obtain⟨k',r',e⟩:=Jw (bs:=r) (i:=i2) (j:=j2) h5
    rw[e]at ih ⊢
    exact⟨.inr (by have h3:i+k<=i2:=h3;have h4:j+k<=j2:=h4;show i+k<i2\/j+k<j2;rename_i u0 u1 _;exact id (ql [_,_,_,_,_] 0x413a1210a17413a2210a2698413a08210a08 (by rfl') u0 u1 hn)),ih⟩
noncomputable def D3(i j:Nat)(b:B3):List Op:=if i<b.1/\j<b.2.1 then [⟨.rep,i,b.1,j,b.2.1⟩]else if i<b.1 then [⟨.del,i,b.1,j,b.2.1⟩]else if j<b.2.1 then [⟨.ins,i,b.1,j,b.2.1⟩]else []
noncomputable def Ge(b:B3):List Op:=if b.2.2=0 then []else [⟨.eq,b.1,b.1+b.2.2,b.2.1,b.2.1+b.2.2⟩]
noncomputable def Bt:Nat->Nat->List B3->List Op
 | _,_,[]=>[]
 | i,j,b::r=>D3 i j b++(Ge b++Bt (b.1+b.2.2) (b.2.1+b.2.2) r)
theorem Fu :∀(bl:List B3) (i j:Nat),IW i j bl=(Bt i j bl).map F0
 | [],_,_=>rfl
 | b::r,i,j=>by
  unfold IW Bt
  rw[aF1,aF1,<-Fu r]
  refine @congr _ _ _ _ _ _ (bO1 _ ?_) (bO1 (· ++ _) ?_)
  ·unfold Ou D3
   split
   ·rfl
   ·split
    ·rfl
    ·split<;>rfl
  ·unfold Rp Ge
   split<;>rfl
def Z0{la lb:List AD}{i j k:Nat}(h :∀d,d<k->C4 la lb (i+d) (j+d)):cut la i (i+k)=cut lb j (j+k):=by
 refine aU0 λd=>?_
 unfold cut
 rw[aK0,aK0,aN6,aN6]
 by_cases hd:d<k
 ·rw[bO2 (aV7 hd i),bO2 (aV7 hd j)]
  obtain⟨x,e1,e2⟩:=h d hd
  rw[e1,e2]
 ·rw[bO3 (λz=>hd (aV2 z)),bO3 (λz=>hd (aV2 z))]
def Qr{la lb:List AD}{i j:Nat}{l:Option Bool}(h1:i=la.length)(h2:j=lb.length):Vd la lb i j l []:=⟨h1,h2⟩
theorem Dk{n m:Nat} :∀{bl:List B3} {i j:Nat},Ko n m i j bl->i<=n/\j<=m
 | [],_,_,h=>⟨aB9 h.1,aB9 h.2⟩
 | b::r,_,_,⟨h1,_,h3⟩=>by have:=Dk h3;exists 7,0x6205006643a08541a0832081008,h1.1,h1.2,this.1,this.2
def b6{la lb:List AD}{l:Option Bool}{b:B3}{r:List B3}(h2:0<b.2.2\/r=[])(h3:Ko la.length lb.length (b.1+b.2.2) (b.2.1+b.2.2) r)(hc :∀d,d<b.2.2->C4 la lb (b.1+d) (b.2.1+d))(hl:0<b.2.2->l≠some true)
  (ih:Vd la lb (b.1+b.2.2) (b.2.1+b.2.2) (some true) (Bt (b.1+b.2.2) (b.2.1+b.2.2) r)):Vd la lb b.1 b.2.1 l (Ge b++Bt (b.1+b.2.2) (b.2.1+b.2.2) r):=by
 have le:=Dk h3
 unfold Ge
 by_cases hk:b.2.2=0
 ·rw[bO2 hk]
  obtain rfl:=h2.resolve_left (by exists 1,0x81908028,hk)
  rw[hk]at h3
  exact Qr h3.1 h3.2
 ·rw[bO3 hk]
  exact⟨⟨rfl,rfl⟩,hl (aG7 hk),⟨⟨⟨aD0 ..,le.1⟩,⟨aD0 ..,le.2⟩⟩,⟨aJ3 (aG7 hk),aJ3 (aG7 hk)⟩,Z0 hc⟩,ih⟩
theorem kV{la lb:List AD} :∀{bl:List B3} {i j:Nat} {l:Option Bool},Ko la.length lb.length i j bl->Ĩ bl->(∀b∈bl,∀d,d<b.2.2->C4 la lb (b.1+d) (b.2.1+d))->l≠some false->(∀b r,bl=b::r->l=some true->b.2.2=0\/i<b.1\/j<b.2.1)->Vd la lb i j l (Bt i j bl)
 | [],_,_,_,h,_,_,_,_=>Qr h.1 h.2
 | b::r,i,j,l,⟨h1,h2,h3⟩,hn,hc,hl,hg=>by
  have ih:Vd la lb (b.1+b.2.2) (b.2.1+b.2.2) (some true) (Bt (b.1+b.2.2) (b.2.1+b.2.2) r):=kV h3 (by
   cases r with
   | nil=>trivial
   | cons c r=>exact hn.2) (λc hm=>hc c (aC1 _ hm)) (λe=>nomatch e) λc r' e _=>by
   subst e;exact hn.1
  have le:=Dk h3
  have hcb:=hc b (aB4 ..)
  have eqp :∀{l},(0<b.2.2->l≠some true)->Vd la lb b.1 b.2.1 l (Ge b++Bt (b.1+b.2.2) (b.2.1+b.2.2) r):=λhl=>b6 h2 h3 hcb hl ih
  have sf:0<b.2.2->some false≠some true:=λ_ e=>nomatch e
  unfold Bt D3
  by_cases c1:i<b.1/\j<b.2.1
  ·rw[bO2 c1]
   exact⟨⟨rfl,rfl⟩,hl,⟨⟨⟨aD8 c1.1,by show b.1<=_;exact id (ql [_,_,_] 0x200210a08 (by rfl') le.1)⟩,⟨aD8 c1.2,by show b.2.1<=_;exact id (ql [_,_,_] 0x200210a08 (by rfl') le.2)⟩⟩,c1⟩,eqp sf⟩
  ·rw[bO3 c1]
   by_cases ĳ:i<b.1
   ·rw[bO2 ĳ]
    exact⟨⟨rfl,rfl⟩,hl,⟨⟨⟨aD8 ĳ,by show b.1<=_;exact id (ql [_,_,_] 0x200210a08 (by rfl') le.1)⟩,⟨h1.2,by show b.2.1<=_;exact id (ql [_,_,_] 0x200210a08 (by rfl') le.2)⟩⟩,ĳ,λz=>c1 ⟨ĳ,z⟩⟩,eqp sf⟩
   ·rw[bO3 ĳ]
    by_cases c3:j<b.2.1
    ·rw[bO2 c3]
     exact⟨⟨rfl,rfl⟩,hl,⟨⟨⟨h1.1,by show b.1<=_;exact id (ql [_,_,_] 0x200210a08 (by rfl') le.1)⟩,⟨aD8 c3,by show b.2.1<=_;exact id (ql [_,_,_] 0x200210a08 (by rfl') le.2)⟩⟩,ĳ,c3⟩,eqp sf⟩
    ·rw[bO3 c3]
     obtain rfl:i=b.1:=by exists 2,0x102101981008,h1.1,ĳ
     obtain rfl:j=b.2.1:=by exists 2,0x102100810198,c3,h1.2
     exact eqp λhk e=>(hg b r rfl e).elim (λz=>bO4 z (aJ8 hk)) λz=>z.elim (aL7 _) (aL7 _)
theorem Vw{la lb:List AD} :∀{ops:List Op} {i j:Nat} {l:Option Bool},Vd la lb i j l ops->∀o∈ops,o.ok la lb
 | [],_,_,_,_,o,h=>nomatch h
 | p::r,_,_,_,⟨_,_,h,q⟩,o,ho=>(aC4.mp ho).elim (λe=>e▸h) λm=>Vw q o m
end
def JD(bl:List B3)(t:Nat):Prop:=∃b∈bl,b.2.1<=t/\t<b.2.1+b.2.2
theorem JH{n m:Nat} :∀{bl:List B3} {i j:Nat},Ko n m i j bl->∀b∈bl,i<=b.1/\j<=b.2.1/\b.1+b.2.2<=n/\b.2.1+b.2.2<=m
 | [],_,_,_,_,h=>nomatch h
 | c::r,i,j,⟨h1,_,h3⟩,b,hb=>by
  have le:=Dk h3
  rcases aC4.mp hb with rfl | hb
  ·exact⟨h1.1,h1.2,le⟩
  ·have:=JH h3 b hb;exists 10,0x3f76a02f75a06620650063f76a082f75a08643a08541a0832081008,h1.1,h1.2,this.1,this.2.1,this.2.2.1,this.2.2.2
def F7{n m i j:Nat}{b:B3}{r:List B3}(h:Ko n m i j (b::r)){t:Nat}(ht:t<b.2.1):¬ JD (b::r) t:=λ⟨c,hc,h1,h2⟩=>by
 rcases aC4.mp hc with rfl | hc
 ·exists 2,0xa01181008,h1,ht
 ·have:=(JH h.2.2 c hc).2.1;exists 4,0xa231a0802081018,ht,h1,this
def JM{b:B3}{r:List B3}{t:Nat}(ht:b.2.1+b.2.2<=t)(h:¬ JD r t):¬ JD (b::r) t:=λ⟨c,hc,h1,h2⟩=>by
 rcases aC4.mp hc with rfl | hc
 ·exists 3,0xa021a0821a018,h2,ht
 ·exact h ⟨c,hc,h1,h2⟩
def OZ{α:Type}{j k:Nat}{g:Nat->α}{v:α}(h :∀t,j<=t->t<j+k->g t=v):(aI4 j k).map g=aM0 k v:=by
 refine List.eq_replicate_iff.mpr ⟨by rw[aA6,List.length_range'],λx hx=>?_⟩
 obtain⟨t,ht,rfl⟩:=aI5.mp hx
 obtain⟨h1,h2⟩:=aU2.mp ht
 exact h t h1 h2
def Jn{α:Type}{ns:List α}{i j k:Nat}{g:Nat->α}(h :∀d,d<k->ns[i+d]?=some (g (j+d))):cut ns i (i+k)=(aI4 j k).map g:=by
 refine aU0 λd=>?_
 unfold cut
 rw[aK0,aN6,aB3,aW0,aB3]
 by_cases hd:d<k
 ·rw[bO2 (aV7 hd i),h d hd,bB6 hd];rfl
 ·rw[bO3 (λz=>hd (aV2 z)),aH7 (by rw[aF2];exists 2,0x1010198,hd)];rfl
def iV{α:Type}{g:Nat->α}{j a k m:Nat}(h1:j<=a)(h2:a+k<=m):(aI4 j (a-j)).map g++((aI4 a k).map g++(aI4 (a+k) (m-(a+k))).map g)=(aI4 j (m-j)).map g:=by
 rw[<-aF1,<-aF1,List.range'_append_1]
 have e:aI4 a (k+(m-(a+k)))=aI4 (j+(a-j)) (k+(m-(a+k))):=by rw[bB8 h1]
 rw[e,List.range'_append_1]
 refine bO1 (λn=>(aI4 j n).map g) ?_
 exists 4,0x3b21a3b2a01ba2321a081008,h1,h2
theorem mA{n m:Nat}{ns:List Int}{now:Int}{g:Nat->Int} :∀{bl:List B3} {i j:Nat},Ko n m i j bl->(∀t,j<=t->t<m->¬ JD bl t->g t=now)->(∀b∈bl,∀d,d<b.2.2->ns[b.1+d]?=some (g (b.2.1+d)))->FN ns now (Bt i j bl)=(aI4 j (m-j)).map g
 | [],i,j,h,_,_=>by
  rw[h.2,aP0];rfl
 | b::r,i,j,h,h1,h2=>by
  have h3:=h.2.2
  have le:=Dk h3
  have ih:=mA (ns:=ns) (now:=now) (g:=g) h3 (λt a b' c=>h1 t (by have:=h.1.2;exists 4,0x2300308210a08,a,this) b' (JM a c)) λc hc=>h2 c (aC1 _ hc)
  have e0:FN ns now (Bt i j (b::r))=FN ns now (D3 i j b)++(FN ns now (Ge b)++FN ns now (Bt (b.1+b.2.2) (b.2.1+b.2.2) r)):=by
   unfold FN
   rw[show Bt i j (b::r)=D3 i j b++(Ge b++Bt (b.1+b.2.2) (b.2.1+b.2.2) r)from rfl,aL5,aL5]
  have e1:FN ns now (D3 i j b)=(aI4 j (b.2.1-j)).map g:=by
   rw[OZ λt a c=>h1 t a (by have:=h.1.2;exists 5,0x24130b3a4184308210a08,le.2,a,c) (F7 h (by have:=h.1.2;exists 3,0x21102b0a1181008,a,c))]
   unfold D3
   have A9 :∀o:Op,o.k.isEq=false->FN ns now [o]=aM0 (o.j2-o.j1) now:=λo ho=>by
    unfold FN Z7
    rw[aI2,ho];rfl
   split
   ·exact A9 _ rfl
   ·split
    ·exact A9 _ rfl
    ·split
     ·exact A9 _ rfl
     ·rw[show b.2.1-j=0 by rename_i u2;exists 2,0x801b210198,u2];rfl
  have e2:FN ns now (Ge b)=(aI4 b.2.1 b.2.2).map g:=by
   rw[<-Jn (i:=b.1) (h2 b (aB4 ..))]
   unfold Ge
   split
   ·rename_i hk
    rw[hk,aR0]
    unfold cut
    rw[bD1,aP0,bD3];rfl
   ·unfold FN Z7
    rw[aI2];rfl
  rw[e0,e1,e2,ih]
  exact iV h.1.2 le.2
theorem Tn{n m:Nat}{ns:List (List Int)}{nl:List Str}{now:Int}{G:Nat->List Int} :∀{bl:List B3} {i j:Nat},Ko n m i j bl->(∀b∈bl,∀d,d<b.2.2->ns[b.1+d]?=some (G (b.2.1+d)))->
  (∀o∈Bt i j bl,(o.k = .rep->o.i2-o.i1=o.j2-o.j1)/\(o.k = .ins->∀t,o.j1<=t->t<o.j2->∃x,nl[t]?=some x/\aM0 x.length now=G t))->(Bt i j bl).flatMap (EI (λ_ j=>G j) ns nl now)=(aI4 j (m-j)).map G
 | [],i,j,h,_,_=>by
  rw[h.2,aP0];rfl
 | b::r,i,j,h,h2,ho=>by
  have h3:=h.2.2
  have le:=Dk h3
  have es:Bt i j (b::r)=D3 i j b++(Ge b++Bt (b.1+b.2.2) (b.2.1+b.2.2) r):=rfl
  rw[es]at ho ⊢
  have ih:=Tn (ns:=ns) (nl:=nl) (now:=now) (G:=G) h3 (λc hc=>h2 c (aC1 _ hc)) λo hm=>ho o (aB0.mpr (.inr (aB0.mpr (.inr hm))))
  have e1:(D3 i j b).flatMap (EI (λ_ j=>G j) ns nl now)=(aI4 j (b.2.1-j)).map G:=by
   have hg :∀o∈D3 i j b,_:=λo hm=>ho o (aB0.mpr (.inl hm))
   unfold D3 at hg ⊢
   split
   ·rename_i c
    rw[bO2 c]at hg
    have q:=(hg _ (aB1.mpr rfl)).1 rfl
    have q:b.1-i=b.2.1-j:=q
    rw[aI2]
    show(aC2 (b.1-i)).map (λk=>G (j+k))=_
    rw[q,aW0,aG4];rfl
   ·rename_i c
    rw[bO3 c]at hg
    split
    ·rename_i ĳ
     have:j=b.2.1:=by have:=h.1.2;exists 4,0x32232110169832081018,ĳ,this,c
     rw[aI2,this,aP0]
     show EP now (cut nl b.2.1 b.2.1)=_
     unfold cut
     rw[bD1,aP0,bD3];rfl
    ·rename_i ĳ
     rw[bO3 ĳ]at hg
     split
     ·rename_i c3
      rw[bO2 c3]at hg
      have q:=(hg _ (aB1.mpr rfl)).2 rfl
      rw[aI2]
      show EP now (cut nl j b.2.1)=_
      have:cut nl j b.2.1=cut nl j (j+(b.2.1-j)):=by rw[bB8 (aD8 c3)]
      rw[this,Jn (i:=j) (j:=j) (g:=λt=>nl.getD t "") λd hd=>by
       obtain⟨x,hx,_⟩:=q (j+d) (aD0 ..) (by show j+d<b.2.1;exact id (ql [_,_,_] 0x102a121b018 (by rfl') hd))
       rw[aD2,hx];rfl]
      unfold EP
      rw[aG4]
      refine aV6 λt ht=>?_
      obtain⟨a1,a2⟩:=aU2.mp ht
      obtain⟨x,hx,e⟩:=q t a1 (by show t<b.2.1;exact id (ql [_,_,_] 0x12101b0a2181018 (by rfl') c3 a2))
      show aM0 (nl.getD t "").length now=_
      rw[aD2,hx]
      exact e
     ·rw[show b.2.1-j=0 by rename_i u0;exists 2,0x801b210198,u0];rfl
  have e2:(Ge b).flatMap (EI (λ_ j=>G j) ns nl now)=(aI4 b.2.1 b.2.2).map G:=by
   rw[<-Jn (i:=b.1) (h2 b (aB4 ..))]
   unfold Ge
   split
   ·rename_i hk
    rw[hk,aR0]
    unfold cut
    rw[bD1,aP0,bD3];rfl
   ·rw[aI2];rfl
  rw[aL5,aL5,e1,e2,ih]
  exact iV h.1.2 le.2
theorem dT{n m:Nat} :∀{bl:List B3} {i:Nat},Ko n m i i bl->(∀b∈bl,b.1=b.2.1)->∃L:List Nat,(Bt i i bl).flatMap FX=L.map (λt=>(t,t))/\L.Pairwise (· < ·)/\(∀t∈L,i<=t/\t<m/\¬ JD bl t)/\(∀o∈Bt i i bl,o.k≠.ins/\(o.k = .rep->o.i2-o.i1=o.j2-o.j1))/\∀t,i<=t->t<m->t∈L\/JD bl t
 | [],i,h,_=>⟨[],rfl,.nil,(λ_ h=>nomatch h),(λ_ h=>nomatch h),λt h1 h2=>by have:=h.2;exact aA9 (ql [_,_,_] 0xa202821181008 (by rfl') h1 h2 this)⟩
 | b::r,i,h,hd=>by
  have h3:=h.2.2
  have hb:=hd b (aB4 ..)
  have le:=Dk h3
  obtain⟨L,l1,l2,l3,l4,l5⟩:=dT (bl:=r) (i:=b.2.1+b.2.2) (by rw[hb]at h3;exact h3) λc hc=>hd c (aC1 _ hc)
  have es:Bt i i (b::r)=D3 i i b++(Ge b++Bt (b.2.1+b.2.2) (b.2.1+b.2.2) r):=by
   show D3 i i b++(Ge b++Bt (b.1+b.2.2) (b.2.1+b.2.2) r)=_
   rw[hb]
  have ep:(Ge b).flatMap FX=[]:=by
   unfold Ge
   split<;>rfl
  have eo :∀o∈Ge b,o.k = .eq:=λo ho=>by
   unfold Ge at ho
   split at ho
   ·exact nomatch ho
   ·rw[aB1.mp ho]
  have eg:(D3 i i b).flatMap FX=(aI4 i (b.2.1-i)).map (λt=>(t,t))/\∀o∈D3 i i b,o.k≠.ins/\(o.k = .rep->o.i2-o.i1=o.j2-o.j1):=by
   unfold D3
   rw[hb]
   by_cases c:i<b.2.1
   ·rw[bO2 ⟨c,c⟩,aI2]
    refine⟨?_,λo ho=>?_⟩
    ·show(aC2 (b.2.1-i)).map (λk=>(i+k,i+k))=_
     rw[aW0,aG4];rfl
    ·rw[aB1.mp ho]
     exact⟨(λe=>nomatch e),λ_=>rfl⟩
   ·rw[bO3 (λz=>c z.1),bO3 c,bO3 c,show b.2.1-i=0 by exists 2,0x801b210198,c]
    exact⟨rfl,λ_ h=>nomatch h⟩
  have hle:=h.1.2
  refine⟨aI4 i (b.2.1-i)++L,by rw[es,aL5,aL5,eg.1,ep,l1,List.nil_append,aF1],List.pairwise_append.mpr ⟨List.pairwise_lt_range',l2,λa ha c hc=>?_⟩,λt ht=>?_,λo ho=>?_,λt h1 h2=>?_⟩
  ·have:=(aU2.mp ha).2;have:=(l3 c hc).1;rename_i u0;exists 5,0x421431a0801b0a2181008,hle,u0,this
  ·rcases aB0.mp ht with ht | ht
   ·obtain⟨a1,a2⟩:=aU2.mp ht
    exact⟨a1,by(exists 5,0x24130b3a4180308210a08,le.2,hle,a2),F7 h (by exists 3,0x12101b0a2181008,hle,a2)⟩
   ·obtain⟨a1,a2,a3⟩:=l3 t ht
    exact⟨by(exists 4,0x300321a081008,hle,a1),a2,JM a1 a3⟩
  ·rw[es]at ho
   rcases aB0.mp ho with ho | ho
   ·exact eg.2 o ho
   ·rcases aB0.mp ho with ho | ho
    ·rw[eo o ho];exact⟨(λe=>nomatch e),(λe=>nomatch e)⟩
    ·exact l4 o ho
  ·by_cases c1:t<b.2.1
   ·exact .inl (aB0.mpr (.inl (aU2.mpr ⟨h1,by exists 3,0x21b2a011018,c1⟩)))
   ·by_cases ĳ:t<b.2.1+b.2.2
    ·exact .inr ⟨b,aB4 ..,by(exists 2,0x1010198,c1),ĳ⟩
    ·exact(l5 t (by exists 3,0x21a021a0198,ĳ) h2).imp (λz=>aB0.mpr (.inr z)) λ⟨d,hd,q⟩=>⟨d,aC1 _ hd,q⟩
section
variable{α β:Type} [DecidableEq α] [DecidableEq β] {la lb:List α} {la' lb':List β}
def IO.re(h :∀i j,C4 la lb i j↔C4 la' lb' i j){a b c d i j k:Nat}:IO la lb a b c d i j k↔IO la' lb' a b c d i j k:=
 ⟨λ⟨h1,h2,h3,h4,h5⟩=>⟨h1,h2,h3,h4,λd hd=>(h _ _).mp (h5 d hd)⟩,λ⟨h1,h2,h3,h4,h5⟩=>⟨h1,h2,h3,h4,λd hd=>(h _ _).mpr (h5 d hd)⟩⟩
theorem ħ.re(h :∀i j,C4 la lb i j↔C4 la' lb' i j){a b c d i j k:Nat}(q:ħ la lb a b c d i j k):ħ la' lb' a b c d i j k:=
 ⟨(IO.re h).mp q.str,λi j k z=>q.max i j k ((IO.re h).mpr z),λhk i j z=>q.fst hk i j ((IO.re h).mpr z),q.zero⟩
theorem Dj.re(h :∀i j,C4 la lb i j↔C4 la' lb' i j){a b c d:Nat}{bs:List B3}(q:Dj la lb a b c d bs):Dj la' lb' a b c d bs:=by
 induction q with
 | zero q=>exact .zero (q.re h)
 | step q hk l r ihl ihr=>exact .step (q.re h) hk ihl ihr
def G4{l:List α}(h:l.Nodup){i j:Nat}{x:α}(e:l[i]?=some x)(f:l[j]?=some x):i=j:=(aT8 (aA4.mp e).1 h).mp (e.trans f.symm)
def Dj.start(ha:la.Nodup)(hb:lb.Nodup){alo ahi blo bhi:Nat}{bs:List B3}(r:Dj la lb alo ahi blo bhi bs) :∀b∈bs,b.1=alo\/b.2.1=blo\/¬ C4 la lb (b.1-1) (b.2.1-1):=by
 induction r with
 | zero h=>exact λb hb=>nomatch hb
 | @step alo ahi blo bhi i j k L R h hk l r ihl ihr=>
  obtain⟨s1,s2,s3,s4,s5⟩:=h.str
  intro b hm
  rcases aB0.mp hm with hm | hm
  ·exact ihl b hm
  ·rcases aC4.mp hm with rfl | hm
   ·by_cases c1:i=alo
    ·exact .inl c1
    ·by_cases ĳ:j=blo
     ·exact .inr (.inl ĳ)
     ·refine .inr (.inr λc=>?_)
      have:=h.max (i-1) (j-1) (k+1) ⟨by(exists 2,0x181b00012981008,s1,c1),by(exists 2,0x181b00012981008,s2,ĳ),by(exists 4,0x3182a181ba001298321a081008,s1,s3,c1),by(exists 4,0x3182a181ba001298321a081008,s2,s4,ĳ),λd hd=>by
       cases d with
       | zero=>exact c
       | succ d=>
        have:=s5 d (by exists 2,0x101181a180a18,hd)
        rw[show i-1+(d+1)=i+d by(exists 3,0x21a182a181ba2012981008,s1,c1),show j-1+(d+1)=j+d by exists 3,0x21a182a181ba2012981008,s2,ĳ]
        exact this⟩
      exists 1,0xa0180a08,this
   ·refine .inr (.inr λc=>?_)
    have w:=r.within b hm
    have tch:b.1=i+k->b.2.1=j+k->False:=λe1 e2=>by
     have hc:=Dj.cmn r b hm
     have:=h.max i j (k+b.2.2) ⟨s1,s2,by(exists 5,0x431a0a0432a08210a08,w.1,w.2.1),by(exists 5,0x431a0a0432a08210a08,w.2.2.1,w.2.2.2.1),λd hd=>by
      by_cases z:d<k
      ·exact s5 d z
      ·have:=hc (d-k) (by exists 3,0x21b102a11800818,w.2.2.2.2,hd)
       rw[e1,e2,show i+k+(d-k)=i+d by(exists 3,0x2a10b12aa210198,z),show j+k+(d-k)=j+d by exists 3,0x2a10b12aa210198,z]at this
       exact this⟩
     exists 2,0xa101a0800818,w.2.2.2.2,this
    obtain⟨x,x1,x2⟩:=c
    rcases ihr b hm with e | e | e
    ·obtain⟨y,y1,y2⟩:=s5 (k-1) (by exists 1,0x180b100818,hk)
     rw[e,show i+k-1=i+(k-1)by(exists 2,0x180b1a1801ab200818,hk),y1]at x1
     cases x1
     have:=G4 hb x2 y2
     exact tch e (by exists 3,0x1a22180b1a182b28201a0800818,hk,w.2.2.1,this)
    ·obtain⟨y,y1,y2⟩:=s5 (k-1) (by exists 1,0x180b100818,hk)
     rw[e,show j+k-1=j+(k-1)by(exists 2,0x180b1a1801ab200818,hk),y2]at x2
     cases x2
     have:=G4 ha x1 y1
     exact tch (by exists 3,0x1a22180b1a182b28201a0800818,hk,w.1,this) e
    ·exact e ⟨x,x1,x2⟩
def Xe{n m:Nat} :∀{bs:List B3} {i j a:Nat},Nx n m i j bs->(∀b∈bs,a<=b.2.1)->a<=m->Nx n m i a bs
 | [],_,_,_,h,_,ha=>⟨h.1,ha⟩
 | b::r,_,_,_,h,hb,_=>⟨⟨h.1.1,hb b (aB4 ..)⟩,h.2⟩
theorem NB{n m M:Nat} :∀{bs:List B3} {i j:Nat},Nx n m i j bs->(∀b∈bs,b.2.1<=M)->bs.length<=M+1-j
 | [],_,_,_,_=>aE9 _
 | b::r,i,j,h,hM=>by
  have:=NB h.2.2 λc hc=>hM c (aC1 _ hc)
  have:=hM b (aB4 ..)
  have:=h.2.1;have:=h.1.2
  rw[aM2];rename_i u0 u1 u2;exists 5,0x4181ab180a0240830818120832a181ab008,u0,u1,u2,this
def MR{n m a c:Nat}{bs:List B3}(h:Nx n m 0 0 bs)(hs :∀b∈bs,b.2.1=0\/(a<=b.2.1/\b.2.1<=a+c)):bs.length<=c+2:=by
 cases bs with
 | nil=>exact aE9 _
 | cons b r=>
  have h3:=h.2.2
  have hp:=h.2.1
  have lo :∀d∈r,a<=d.2.1/\d.2.1<=a+c:=λd hd=>by
   refine(hs d (aC1 _ hd)).resolve_left λz=>?_
   have :∀{r:List B3} {i j:Nat},Nx n m i j r->∀d∈r,j<=d.2.1:=λ{r}=>by
    induction r with
    | nil=>exact λ_ _ h=>nomatch h
    | cons e r ih=>
     intro i j h d hd
     rcases aC4.mp hd with rfl | hd
     ·exact h.1.2
     ·have:=ih h.2.2 d hd;have:=h.1.2;rename_i u5;exists 4,0x2300308210a08,u5,this
   have:=this h3 d hd
   exists 3,0xa102a080812800818,hp,z,this
  cases r with
  | nil=>exact Nat.le_add_left 1 _
  | cons d r'=>
   have q:=NB (Xe h3 (λd hd=>(lo d hd).1) (by
    have :∀{r:List B3} {i j:Nat},Nx n m i j r->j<=m:=λ{r}=>by
     induction r with
     | nil=>exact λh=>h.2
     | cons e r ih=>exact λh=>by have:=ih h.2.2;have:=h.1.2;rename_i u3;exists 4,0x2300308210a08,u3,this
    have:=this h3.2.2;have:=(lo d (aB4 ..)).1;rename_i u1;exists 4,0x2300308210a08,u1,this)) λd hd=>(lo d hd).2
   rw[aM2];exists 3,0x282a180a011821aab008,q
def MT{la lb:List AD}{bs:List B3}(r:Dj la lb 0 la.length 0 lb.length bs):(Ko la.length lb.length 0 0 (Cn la lb bs)/\Ĩ (Cn la lb bs))/\(∀x y,KX (Cn la lb bs) x y↔KX bs x y)/\∀b∈Cn la lb bs,∀d,d<b.2.2->C4 la lb (b.1+d) (b.2.1+d):=by
 have ri:=r.ris
 have cv :∀x y,KX (Cn la lb bs) x y↔KX bs x y:=λx y=>by
  have e:KX (Cn la lb bs) x y↔KX (FC (0,0,0) bs) x y:=⟨λ⟨b,hb,d,hd,q⟩=>by
   rcases aB0.mp hb with hb | hb
   ·exact⟨b,hb,d,hd,q⟩
   ·rw[aB1.mp hb]at hd;exact bO4 hd (aI0 d),λ⟨b,hb,q⟩=>⟨b,aB0.mpr (.inl hb),q⟩⟩
  rw[e,Gk,Cl]
  exact⟨λh=>h.elim (λ⟨d,hd,_⟩=>bO4 hd (aI0 d)) id,.inr⟩
 refine⟨⟨Gx (aB6 0) (aB6 0) (by rw[aR0];exact ri),JZ (by rw[aR0];exact ri)⟩,cv,λb hb d hd=>?_⟩
 obtain⟨c,hc,t,ht,e1,e2⟩:=(cv _ _).mp ⟨b,hb,d,hd,rfl,rfl⟩
 rw[e1,e2]
 exact Dj.cmn r c hc t ht
def EC{bl:List B3}{t:Nat}:JD bl t↔∃i,KX bl i t:=⟨λ⟨b,hb,h1,h2⟩=>⟨b.1+(t-b.2.1),b,hb,t-b.2.1,by(exists 3,0x201b120a1181008,h1,h2),rfl,by exists 2,0x1b0a121008,h1⟩,λ⟨i,b,hb,d,hd,_,e⟩=>⟨b,hb,by(exists 3,0x1021a028,e),by exists 4,0x13a2103a2281018,hd,e⟩⟩
end
structure Φ(old new dr:List Int)(a:Nat):Prop where
 shp:Ze old new dr
 st :∀i j,C4 old new i j->0<i->0<j->¬ C4 old new (i-1) (j-1)->a<=j/\j<=a+8
section
variable{hd p q rs M tl T:List Int}
def V9{old new:List Int}{s:Nat->Nat}{a:Nat}(ho:old.Nodup)(h :∀j,new[j]?=old[s j]?)(hs :∀j,0<j->j<a\/a+8<j->s (j-1)+1=s j) :∀i j,C4 old new i j->0<i->0<j->¬ C4 old new (i-1) (j-1)->a<=j/\j<=a+8:=λi j c hi hj hn=>by
 have e:=Mr ho h c
 have hjl:j<new.length:=c.elim λx q=>(aA4.mp q.2).1
 refine aE7 λz=>hn ?_
 have:=hs j hj (by exists 2,0x1880a10117880a10100698,z)
 have ţ:=L5 h (j:=j-1) (by exists 2,0x1180b11018,hjl)
 rwa[show s (j-1)=i-1 by exists 3,0x180b221182a281028,e,this]at ţ
def Xa(ho:(hd++p++q++rs).Nodup)(hn:(hd++q++p++rs).Nodup)(hp:p.length<=4)(hq:q.length<=4):Φ (hd++p++q++rs) (hd++q++p++rs) (if q.length<=p.length then q else p) hd.length:=
 ⟨Uz ho hn,V9 ho (Vk (hd:=hd) (p:=p) (q:=q) (rs:=rs)) λj hj h=>by
  have h1:=NA hd.length p.length q.length j
  have h2:=NA hd.length p.length q.length (j-1)
  exists 6,0x4185a2182b52182b013aa06182b15a2013aa182b16182b13a0670182ba5213a182b16182b3067182b523182b16782422013aa06214a2013aa216213a06702a4213a216230672423216782883a132178208184810848008,hp,hq,hj,h,h1,h2⟩
def YI(ho:(hd++T++rs).Nodup)(hn:(hd++T.reverse++rs).Nodup)(hT:T.length<=8):Φ (hd++T++rs) (hd++T.reverse++rs) (T.drop 1) hd.length:=
 ⟨UO ho hn,V9 ho (WC (hd:=hd) (T:=T) (rs:=rs)) λj hj h=>by
  have h1:=RH hd.length T.length j
  have h2:=RH hd.length T.length (j-1)
  exists 5,0x3184a2181b42181b02a06022aa18181b4aa202a181b16181b2067181b422181b1678132102a06022aa1813aa202a116120671322116781882a1211781081888008,hT,hj,h,h1,h2⟩
def YS{n:Nat}(ho:(hd++tl).Nodup)(hn:(hd++M++tl.drop n).Nodup)(hM :∀x∈M,x∉hd++tl)(hl:M.length<=4):Φ (hd++tl) (hd++M++tl.drop n) [] hd.length:=
 ⟨Su ho hn hM,λi j c hi hj hc=>by
  refine aE7 λz=>hc ?_
  obtain⟨x,e1,e2⟩:=c
  have hjl:=(aA4.mp e2).1
  have at1 :∀t,t<hd.length->(hd++M++tl.drop n)[t]?=(hd++tl)[t]?:=λt ht=>by
   rw[aC9,aG8 ht,aG8 ht]
  have at2 :∀t,hd.length+M.length<=t->(hd++M++tl.drop n)[t]?=(hd++tl)[hd.length+n+(t-(hd.length+M.length))]?:=λt ht=>by
   rw[aG0 (by rw[aB2];exact ht),aB2,aK0,aG0 (by exists 4,0x30a2b10aa00)]
   congr 1;exists 4,0x232a1b02aab32a1b0a2
  have fin :∀u,(hd++M++tl.drop n)[j]?=(hd++tl)[u]?->(hd++M++tl.drop n)[j-1]?=(hd++tl)[u-1]?->C4 (hd++tl) (hd++M++tl.drop n) (i-1) (j-1):=λu h1 h2=>by
   have:=G4 ho e1 (h1.symm.trans e2)
   subst this
   have hy:=aA5 (show j-1<(hd++M++tl.drop n).length by exists 2,0x1180b11018,hjl)
   exact⟨_,h2.symm.trans hy,hy⟩
  by_cases c1:j<hd.length
  ·exact fin j (at1 j c1) (at1 _ (by exists 2,0x1180b11018,c1))
  ·have ĳ:hd.length+M.length<j:=by exists 3,0x102a1882a101206982119848008,hl,c1,z
   refine fin _ (at2 j (by exists 3,0x210a0210a18,ĳ)) ?_
   rw[at2 (j-1) (by exists 3,0x182b10a0210a18,ĳ)]
   congr 1;exists 4,0x1810a2b30aab10a182bb30aa2210a18,ĳ⟩
end
structure Dg(mk:Int)(old nw dr:List Int)(made:Int):Prop where
 nd:nw.Nodup
 len:nw.length<=old.length+4
 bd :∀y∈nw,0<=y/\y<made+4
 drs :∀x∈dr,x∈old
 sg :∃a,Φ (mk::old) (mk::nw) dr a
section
variable{hd tl tx M:List Int}{made mk:Int}{A9 two n:Nat}
def Gr{l:List Int}(h:l.Nodup)(hb :∀y∈l,0<=y/\y<made+4)(hm:made+4<=mk):(mk::l).Nodup:=aO8.mpr ⟨λz=>by have:=(hb mk z).2;(exists[],[_,_],0xa480a1481480a38,hm,this),h⟩
def La(hm:made+4<=mk)(ho:(hd++tl).Nodup)(hb :∀y∈hd++tl,0<=y/\y<made)(hM:M.Nodup)(hn :∀x∈M,x∉hd++tl)(hy :∀y∈M,0<=y/\y<made+4)(hl:M.length<=4):Dg mk (hd++tl) (hd++M++tl.drop n) [] made:=by
 have mem :∀y∈hd++M++tl.drop n,y∈M\/y∈hd++tl:=λy hy=>by
  rcases aB0.mp hy with hy | hy
  ·rcases aB0.mp hy with hy | hy
   ·exact .inr (aB0.mpr (.inl hy))
   ·exact .inl hy
  ·exact .inr (aB0.mpr (.inr (aQ9 hy)))
 have nd:(hd++M++tl.drop n).Nodup:=by
  have p:(hd++M++tl.drop n).Perm (M++(hd++tl.drop n)):=by
   rw[aC9]
   exact aT9 ..
  rw[p.nodup_iff]
  refine List.nodup_append.mpr ⟨hM,ho.sublist ((aU1 hd).append (aQ8 ..)),λa ha b hb e=>?_⟩
  subst e
  exact hn a ha ((aB0.mp hb).elim (λh=>aB0.mpr (.inl h)) λh=>aB0.mpr (.inr (aQ9 h)))
 have hb4 :∀y∈hd++tl,0<=y/\y<made+4:=λy h=>by have:=hb y h;exists[],[_,_],0x481a0400836104800838,this.1,this.2
 have bd :∀y∈hd++M++tl.drop n,0<=y/\y<made+4:=λy h=>(mem y h).elim (hy y) (hb4 y)
 refine⟨nd,by rw[aB2,aB2,aB2,aG3];(exists 4,0x4821aa32b01aa048008,hl),bd,(λ_ h=>nomatch h),_,YS (hd:=mk::hd) (Gr ho hb4 hm) (Gr nd bd hm) (λx hx h=>?_) hl⟩
 rcases aC4.mp h with rfl | h
 ·have:=(hy x hx).2;exists[],[_,_],0xa480a1481480a38,hm,this
 ·exact hn x hx h
def Pu{m:Nat}(hm:m<=4)(h0:0<=made)(hb :∀y∈tx,0<=y/\y<made):(EV made m).Nodup/\(∀x∈EV made m,x∉tx)/\(∀y∈EV made m,0<=y/\y<made+4)/\(EV made m).length=m:=by
 have mem :∀y∈EV made m,made<=y/\y<made+4:=λy hy=>by
  obtain⟨k,hk,rfl⟩:=aI5.mp hy
  have:=aP2.mp hk
  exists[_,_],[_],0x480a10f0a410f0a036011848008,hm,this
 refine⟨bE5.map _ (λa b h e=>h (by exists[_,_],[_],0x10210f0a00f0a58,e)) bA2,λx hx h=>?_,λy hy=>⟨aQ2 h0 (mem y hy).1,(mem y hy).2⟩,(aA6 ..).trans aF2⟩
 have:=(mem x hx).1;have:=(hb x h).2;rename_i u0;exists[],[_,_],0xa01481038,u0,this
def Sw(h0:0<=made)(i j:Nat):(((Cq made tx).take j).drop i).Nodup/\(∀x∈((Cq made tx).take j).drop i,x∉tx)/\∀y∈((Cq made tx).take j).drop i,0<=y/\y<made+4:=by
 have sub:(((Cq made tx).take j).drop i).Sublist (Cq made tx):=(aQ8 ..).trans (List.take_sublist ..)
 have nd:(Cq made tx).Nodup:=List.Nodup.sublist List.filter_sublist (bE5.map _ (λa b h e=>h (by exists 2,0x10210f00f58,e)) bA2)
 refine⟨nd.sublist sub,λx hx h=>by
  have q:=(aP8.mp (sub.subset hx)).2
  rw[bO5 h]at q
  exact(nomatch q),λy hy=>?_⟩
 obtain⟨k,hk,rfl⟩:=aI5.mp (aP8.mp (sub.subset hy)).1
 have:=aP2.mp hk
 exists[_,_],[_],0x480a00f400f0836080e10f581018,this,(aD1 _)
def N8{old nw dr:List Int}(hm:made+4<=mk)(p:nw.Perm old)(ho:old.Nodup)(hb :∀y∈old,0<=y/\y<made)(hd :∀x∈dr,x∈old)(s:(mk::old).Nodup->(mk::nw).Nodup->∃a,Φ (mk::old) (mk::nw) dr a):Dg mk old nw dr made:=
 have nd:=p.nodup_iff.mpr ho
 have hb4 :∀y∈old,0<=y/\y<made+4:=λy h=>by have:=hb y h;exists[],[_,_],0x481a0400836104800838,this.1,this.2
 have bd :∀y∈nw,0<=y/\y<made+4:=λy hy=>hb4 y (p.mem_iff.mp hy)
 ⟨nd,p.length_eq▸aD0 ..,bd,hd,s (Gr ho hb4 hm) (Gr nd bd hm)⟩
def Pb{kd x2:Int}(hm:made+4<=mk)(h1:A9<=4)(h2:two<=4)(ho:(hd++tl).Nodup)(h0:0<=made)(hb :∀y∈hd++tl,0<=y/\y<made):Dg mk (hd++tl) (Ht kd x2 made A9 two (hd++tl) hd tl).1 (Ht kd x2 made A9 two (hd++tl) hd tl).2 made:=by
 unfold Ht
 by_cases k0:kd=0
 ·rw[bO2 k0]
  obtain⟨f1,f2,f3,f4⟩:=Pu (m:=A9) h1 h0 hb
  exact La (n:=0) hm ho hb f1 f2 f3 (by rw[f4];exact h1)
 ·rw[bO3 k0]
  by_cases k1:kd=1
  ·rw[bO2 k1]
   have:=La (n:=A9) (M:=[]) (made:=made) hm ho hb bH4 (λ_ h=>nomatch h) (λ_ h=>nomatch h) (by decide)
   rwa[aF9]at this
  ·rw[bO3 k1]
   have tk :∀k,hd++tl.take k++tl.drop k=hd++tl:=λk=>by rw[aC9,aN1]
   by_cases k2:kd=2
   ·rw[bO2 k2]
    have e:hd++tl.take A9++(tl.take (A9+two)).drop A9++tl.drop (A9+two)=hd++tl:=by
     have:tl.take A9++(tl.take (A9+two)).drop A9=tl.take (A9+two):=by
      conv=>rhs;rw[<-aN1 A9 (tl.take (A9+two)),List.take_take,aT2 (aD0 ..)]
     rw[aC9 hd,this,tk]
    show Dg mk (hd++tl) (hd++(tl.take (A9+two)).drop A9++tl.take A9++tl.drop (A9+two)) (if((tl.take (A9+two)).drop A9).length<=(tl.take A9).length then(tl.take (A9+two)).drop A9 else tl.take A9) made
    have lp:(tl.take A9).length<=4:=by rw[aE4];exists 2,0x4810d048008,h1
    have lq:((tl.take (A9+two)).drop A9).length<=4:=by rw[aG3,aE4];exists 3,0x481201adb048008,h2
    rw[<-e]at ho hb ⊢
    generalize (tl.take (A9+two)).drop A9=q at *
    generalize tl.take A9=p at *
    refine N8 hm ?_ ho hb (λx hx=>?_) λĂ n2=>⟨_,Xa (hd:=mk::hd) Ă n2 lp lq⟩
    ·refine bK9.append_right _ ?_
     rw[aC9,aC9]
     exact aZ7 _ List.perm_append_comm
    ·split at hx
     ·exact aB0.mpr (.inl (aB0.mpr (.inr hx)))
     ·exact aB0.mpr (.inl (aB0.mpr (.inl (aB0.mpr (.inr hx)))))
   ·rw[bO3 k2]
    by_cases k3:kd=3
    ·rw[bO2 k3]
     show Dg mk (hd++tl) (hd++(tl.take (A9+two)).reverse++tl.drop (A9+two)) ((tl.take (A9+two)).drop 1) made
     have e:=tk (A9+two)
     have lT:(tl.take (A9+two)).length<=8:=by rw[aE4];exists 3,0x88210ad04810848008,h1,h2
     rw[<-e]at ho hb ⊢
     generalize tl.take (A9+two)=T at *
     exact N8 hm (bK9.append_right _ (aZ7 _ (List.reverse_perm _))) ho hb (λx hx=>aB0.mpr (.inl (aB0.mpr (.inr (aQ9 hx))))) λĂ n2=>⟨_,YI (hd:=mk::hd) Ă n2 lT⟩
    ·rw[bO3 k3]
     obtain⟨f1,f2,f3⟩:=Sw (tx:=hd++tl) h0 ((x2.fdiv 16).fmod ((Cq made (hd++tl)).length+1)).toNat (((x2.fdiv 16).fmod ((Cq made (hd++tl)).length+1)).toNat+A9)
     exact La (n:=0) hm ho hb f1 f2 f3 (by rw[aG3,aE4];exists 3,0x481201adb048008,h1)
end
def K9{x made mk:Int}{tx:List Int}(hm:made+4<=mk)(ho:tx.Nodup)(h0:0<=made)(hb :∀y∈tx,0<=y/\y<made):Dg mk tx (Ax x tx made).1 (Ax x tx made).2 made:=by
 have four :∀i:Int,(1+i.fmod 4).toNat<=4:=λi=>by
  have:=aM6 i (by decide:(0:Int)<4);have:=aX3 i (by decide:(0:Int)<4);exists[_],[_],0x480008018ae00f5848048,this,(aD1 _)
 have e:=aN1 ((x.fdiv 5).fmod (tx.length+1)).toNat tx
 have:=Pb (mk:=mk) (kd:=x.fmod 5) (x2:=(x.fdiv 5).fdiv (tx.length+1)) (made:=made) (hd:=tx.take ((x.fdiv 5).fmod (tx.length+1)).toNat) (tl:=tx.drop ((x.fdiv 5).fmod (tx.length+1)).toNat) hm (four ((x.fdiv 5).fdiv (tx.length+1))) (four (((x.fdiv 5).fdiv (tx.length+1)).fdiv 4)) (by rw[e];exact ho) h0 (by rw[e];exact hb)
 rw[e]at this
 exact this
noncomputable def Zz(z:Int):AD:=.str ⟨#[(97+z).toNat]⟩
def MS{x y:Int}(hx:0<=x)(hy:0<=y)(h:Zz x=Zz y):x=y:=by
 have e:(⟨#[(97+x).toNat]⟩:Str)=⟨#[(97+y).toNat]⟩:=AD.str.inj h
 injection e with e
 injection e with e
 injection e with e
 exists[_,_],[_,_],0x1050810000619ae10f580800000619ae00f58102800838,hx,e,(aD1 _),(aD1 _)
def Tv{α β:Type}{A B:List α}{f:α->β}(hf :∀x∈A,∀y∈B,f x=f y->x=y)(i j:Nat):C4 (A.map f) (B.map f) i j↔C4 A B i j:=by
 constructor
 ·rintro ⟨k,e1,e2⟩
  obtain⟨x,x1,rfl⟩:=AH ((aB3 ..).symm.trans e1)
  obtain⟨y,y1,y2⟩:=AH ((aB3 ..).symm.trans e2)
  have:=hf x (aD3 x1) y (aD3 y1) y2.symm
  subst this
  exact⟨x,x1,y1⟩
 ·rintro ⟨x,e1,e2⟩
  exact⟨f x,by rw[aB3,e1];rfl,by rw[aB3,e2];rfl⟩
noncomputable def Ln.mk'(l:Ln):Int:=19871+l.nm
def Vz(l:Ln):DA l.str=(l.mk'::l.row).map Zz:=by
 unfold DA Ln.str
 rw[aH8,aH8,aG4]
 refine @congr _ _ _ _ _ _ (bO1 _ ?_) rfl
 unfold Zz Ln.mk'
 rw[show(19968:Int)+l.nm=97+(19871+l.nm)by exact ĸ [] [_] 0x4d9f9a0000619a0004e009a5 (by rfl')]
def SS{new:List Int}{h:Int->Int}:(aI4 0 (new.length-0)).map (λt=>h (new.getD t 0))=new.map h:=by
 rw[bC7,<-List.range_eq_range']
 refine bA3 (by rw[aA6,aA6,aF2]) λi h1 h2=>?_
 rw[aA6]at h2
 rw[aS0,aS0,aX1,aD2,aA5 h2];rfl
def UZ{l:Ln}{x now:Int}(ok:Ji l):GN l.str (l.chg now x).str l.nt (l.chg now x).nt now:=by
 have hnm:=ok.nm
 have hmd:=ok.md
 have hlen:=ok.len
 have D:=K9 (x:=x) (mk:=l.mk') (by unfold Ln.mk';exists[],[_,_],0x4d9f9a481a3000384913800838,hnm.1,hmd.2) ok.nd hmd.1 ok.bd
 have es:(l.chg now x).str=(⟨l.nm,(Ax x l.row l.made).1,l.made,l.n0,l.b,now⟩:Ln).str:=rfl
 have en:(l.chg now x).nt=l.n0::(Ax x l.row l.made).1.map (λs=>if s∈l.row/\s∉(Ax x l.row l.made).2 then l.b s else now):=rfl
 rw[es,en]
 generalize Ax x l.row l.made=dl at *
 obtain⟨dd,dr⟩:=dl
 dsimp only at *
 have mk0:(0:Int)<=l.mk':=by unfold Ln.mk';exists[],[_],0x4d9f9a08300838,hnm.1
 have mkb:l.made+4<=l.mk':=by unfold Ln.mk';exists[],[_,_],0x4d9f9a481a3000384913800838,hnm.1,hmd.2
 have k1:=Vz l
 have k2:DA (⟨l.nm,dd,l.made,l.n0,l.b,now⟩:Ln).str=(l.mk'::dd).map Zz:=Vz _
 have sz1:l.str.length=l.row.length+1:=by
  show bJ1 (aE1 _)=_
  rw[aZ4,aM2,aA6]
 have sz2:(⟨l.nm,dd,l.made,l.n0,l.b,now⟩:Ln).str.length=dd.length+1:=by
  show bJ1 (aE1 _)=_
  rw[aZ4,aM2,aA6]
 have dlen:=D.len
 have ob :∀y∈l.mk'::l.row,0<=y:=λy hy=>(aC4.mp hy).elim (λe=>e▸mk0) λh=>(ok.bd y h).1
 have nb :∀y∈l.mk'::dd,0<=y:=λy hy=>(aC4.mp hy).elim (λe=>e▸mk0) λh=>(D.bd y h).1
 have mo:l.mk'∉l.row:=λz=>by have:=(ok.bd _ z).2;exists[],[_,_],0xa01481480a38,mkb,this
 have mn:l.mk'∉dd:=λz=>by have:=(D.bd _ z).2;exists[],[_,_],0xa480a1481480a38,mkb,this
 have ndo:(l.mk'::l.row).Nodup:=aO8.mpr ⟨mo,ok.nd⟩
 have ndn:(l.mk'::dd).Nodup:=aO8.mpr ⟨mn,D.nd⟩
 have md:l.mk'∉dr:=λz=>mo (D.drs _ z)
 refine⟨⟨by(exists 2,0x3e8910180a1280003849008,hlen,sz1),by exists 3,0x3e8910480a208182a1280003849008,hlen,sz2,dlen⟩,?_,⟨by unfold Ln.nt;rw[aM2,aA6];(exists 1,0x3e89180a00003849008,hlen),by rw[aM2,aA6];exists 2,0x3e89181a0480a1080003849008,hlen,dlen⟩,λbs r=>?_⟩
 ·rw[k2]
  exact aM5.mpr (ndn.imp_of_mem λha hb n e=>n (MS (nb _ ha) (nb _ hb) e))
 obtain⟨a,S⟩:=D.sg
 have ţ :∀i j,C4 (DA l.str) (DA (⟨l.nm,dd,l.made,l.n0,l.b,now⟩:Ln).str) i j↔C4 (l.mk'::l.row) (l.mk'::dd) i j:=λi j=>by
  rw[k1,k2]
  exact Tv (λx hx y hy=>MS (ob x hx) (nb y hy)) i j
 have r':=Dj.re ţ r
 have e1:(DA l.str).length=(l.mk'::l.row).length:=by rw[k1,aA6]
 have e2:(DA (⟨l.nm,dd,l.made,l.n0,l.b,now⟩:Ln).str).length=(l.mk'::dd).length:=by rw[k2,aA6]
 have ri:=r'.ris
 have few:bs.length<=10:=MR (a:=a) (c:=8) ri λb hb=>by
  have w:=r'.within b hb
  have c:=Dj.cmn r' b hb 0 w.2.2.2.2
  rw[aR0,aR0]at c
  by_cases z:b.2.1=0
  ·exact .inl z
  ·have ī:b.1≠0:=λī=>z (by
    rw[ī]at c
    obtain⟨y,y1,y2⟩:=c
    cases(show some l.mk'=some y from y1)
    exact G4 ndn y2 (show(l.mk'::dd)[0]?=some l.mk' from rfl))
   exact .inr (S.st _ _ c (aG7 ī) (aG7 z) (((r'.start ndo ndn b hb).resolve_left ī).resolve_left z))
 have kept:=λi j=>by
  have ś:=r'
  rw[e1,e2]at ś
  exact ś.kept (D:=Lx (l.mk'::l.row) (l.mk'::dd) dr) (λ_ _=>Lx.cmn) S.shp.ch S.shp.ag i j
 obtain⟨⟨c1,ĳ⟩,c3,ŗ⟩:=MT r
 refine⟨by(exists 1,0x40901a8008,few),Bt 0 0 _,Fu _ _ _,kV c1 ĳ ŗ (λe=>nomatch e) (λ_ _ _ e=>nomatch e),?_⟩
 have hd' :∀t z,(l.mk'::dd)[t]?=some z->(l.mk'::dd).getD t 0=z:=λt z h=>by rw[aD2,h];rfl
 rw[mA (g:=λt=>(λz=>if z=l.mk' then l.n0 else if z∈l.row/\z∉dr then l.b z else now) ((l.mk'::dd).getD t 0)) c1 (λt _ ht hc=>?_) (λb hb d hd=>?_),e2,SS (h:=λz=>if z=l.mk' then l.n0 else if z∈l.row/\z∉dr then l.b z else now),aH8,bO2 rfl]
 ·refine bO1 (l.n0 :: ·) (aV6 λz hz=>bO3 (show ¬ z=l.mk' from λe=>mn (e▸hz)))
 ·rw[e2]at ht
  have hz:=aA5 ht
  have nk :∀i,¬ Lx (l.mk'::l.row) (l.mk'::dd) dr i t:=λi k=>hc (EC.mpr ⟨i,(c3 i t).mpr ((kept i t).mpr k)⟩)
  generalize (l.mk'::dd)[t]=z at hz
  show(if(l.mk'::dd).getD t 0=l.mk' then _ else if(l.mk'::dd).getD t 0∈l.row/\(l.mk'::dd).getD t 0∉dr then _ else now)=now
  rw[hd' t z hz]
  refine(bO3 (show ¬ z=l.mk' from λe=>nk 0 ⟨z,by rw[e];rfl,hz,e▸md⟩)).trans (bO3 (show ¬ (z∈l.row/\z∉dr)from λe=>?_))
  obtain⟨i,hi⟩:=aJ6 e.1
  exact nk (i+1) ⟨z,hi,hz,e.2⟩
 ·obtain⟨z,ī,z2,ā⟩:=(kept _ _).mp ((c3 _ _).mp ⟨b,hb,d,hd,rfl,rfl⟩)
  show _=some (if(l.mk'::dd).getD (b.2.1+d) 0=l.mk' then _ else if(l.mk'::dd).getD (b.2.1+d) 0∈l.row/\(l.mk'::dd).getD (b.2.1+d) 0∉dr then _ else now)
  rw[hd' _ z z2]
  generalize b.1+d=i at ī
  cases i with
  | zero=>
   cases(show some l.mk'=some z from ī)
   rw[bO2 rfl];rfl
  | succ i=>
   have hz:l.row[i]?=some z:=ī
   have zm:=aD3 hz
   rw[bO3 (show ¬ z=l.mk' from λe=>mo (e▸zm)),bO2 ⟨zm,ā⟩]
   unfold Ln.nt
   rw[aR3,aB3,hz];rfl
def dI(bl:List B3)(t:Nat):Prop:=∃b∈bl,b.1<=t/\t<b.1+b.2.2
def JB{i j:Nat}{b:B3} :∀o∈D3 i j b,(o.k≠.eq/\(o.j1=j/\o.j2=b.2.1))/\(o.k≠.ins->i<b.1)/\(o.k≠.del->j<b.2.1):=by
 unfold D3
 split
 ·rename_i c
  exact λo ho=>by rw[aB1.mp ho];exact⟨⟨(λe=>nomatch e),rfl,rfl⟩,λ_=>c.1,λ_=>c.2⟩
 ·split
  ·rename_i c
   exact λo ho=>by rw[aB1.mp ho];exact⟨⟨(λe=>nomatch e),rfl,rfl⟩,λ_=>c,λe=>bO4 rfl e⟩
  ·split
   ·rename_i c
    exact λo ho=>by rw[aB1.mp ho];exact⟨⟨(λe=>nomatch e),rfl,rfl⟩,λe=>bO4 rfl e,λ_=>c⟩
   ·exact λo ho=>nomatch ho
def SE{b:B3} :∀o∈Ge b,o.k = .eq:=by
 unfold Ge
 split
 ·exact λo ho=>nomatch ho
 ·exact λo ho=>by rw[aB1.mp ho]
theorem K7{n m:Nat} :∀{bl:List B3} {i j:Nat},Ko n m i j bl->∀o∈Bt i j bl,o.k≠.eq->∀t,o.j1<=t->t<o.j2->t<m/\¬ JD bl t
 | [],_,_,_,o,ho=>nomatch ho
 | b::r,i,j,h,o,ho=>λhk t h1 h2=>by
  have le:=Dk h.2.2
  have ho:o∈D3 i j b++(Ge b++Bt (b.1+b.2.2) (b.2.1+b.2.2) r):=ho
  rcases aB0.mp ho with ho | ho
  ·have g:=(JB o ho).1.2
   exact⟨by(exists 5,0x4012128432a081018,h2,le.2,g.2),F7 h (by exists 3,0x20121281018,h2,g.2)⟩
  ·rcases aB0.mp ho with ho | ho
   ·exact bO4 (SE o ho) hk
   ·obtain⟨a1,a2⟩:=K7 h.2.2 o ho hk t h1 h2
    have lo :∀{bl:List B3} {i j:Nat},Ko n m i j bl->∀o∈Bt i j bl,j<=o.j1:=λ{bl}=>by
     induction bl with
     | nil=>exact λ_ o ho=>nomatch ho
     | cons b r ih=>
      intro i j h o ho
      have ho:o∈D3 i j b++(Ge b++Bt (b.1+b.2.2) (b.2.1+b.2.2) r):=ho
      have:=h.1.2
      rcases aB0.mp ho with ho | ho
      ·have:=(JB o ho).1.2.1;exists 2,0x101028,this
      ·rcases aB0.mp ho with ho | ho
       ·unfold Ge at ho
        split at ho
        ·exact nomatch ho
        ·rw[aB1.mp ho];exact h.1.2
       ·have:=ih h.2.2 o ho;rename_i u12 _;exists 4,0x300321a081008,u12,this
    have:=lo h.2.2 o ho
    exact⟨a1,JM (by exists 4,0x132a0032a081008,h1,this) a2⟩
theorem KJ{n m:Nat} :∀{bl:List B3} {i j:Nat},Ko n m i j bl->(∀t,i<=t->t<n->dI bl t)->∀o∈Bt i j bl,o.k = .eq\/o.k = .ins
 | [],_,_,_,_,o,ho=>nomatch ho
 | b::r,i,j,h,hc,o,ho=>by
  have le:=Dk h.2.2
  have ho:o∈D3 i j b++(Ge b++Bt (b.1+b.2.2) (b.2.1+b.2.2) r):=ho
  rcases aB0.mp ho with ho | ho
  ·refine .inr (aE7 λhk=>?_)
   have c:=(JB o ho).2.1 hk
   obtain⟨d,hd,h1,h2⟩:=hc i (aB6 _) (by exists 4,0x2310318210a08,le.1,c)
   rcases aC4.mp hd with rfl | hd
   ·exists 2,0xa01181008,h1,c
   ·have:=(JH h.2.2 d hd).1;exists 4,0xa231a0802081018,c,h1,this
  ·rcases aB0.mp ho with ho | ho
   ·exact .inl (SE o ho)
   ·refine KJ h.2.2 (λt h1 h2=>?_) o ho
    obtain⟨d,hd,h3,h4⟩:=hc t (by have:=h.1.1;exists 4,0x2300308210a08,h1,this) h2
    rcases aC4.mp hd with rfl | hd
    ·exact aA9 (ql [_,_,_] 0xa021a0821a018 (by rfl') h4 h1)
    ·exact⟨d,hd,h3,h4⟩
theorem K1{n m:Nat} :∀{bl:List B3} {i j:Nat},Ko n m i j bl->(∀t,j<=t->t<m->JD bl t)->∀o∈Bt i j bl,o.k = .eq\/o.k = .del
 | [],_,_,_,_,o,ho=>nomatch ho
 | b::r,i,j,h,hc,o,ho=>by
  have le:=Dk h.2.2
  have ho:o∈D3 i j b++(Ge b++Bt (b.1+b.2.2) (b.2.1+b.2.2) r):=ho
  rcases aB0.mp ho with ho | ho
  ·refine .inr (aE7 λhk=>?_)
   have c:=(JB o ho).2.2 hk
   exact F7 h c (hc j (aB6 _) (by exists 4,0x2310318210a08,le.2,c))
  ·rcases aB0.mp ho with ho | ho
   ·exact .inl (SE o ho)
   ·refine K1 h.2.2 (λt h1 h2=>?_) o ho
    obtain⟨d,hd,h3,h4⟩:=hc t (by have:=h.1.2;exists 4,0x2300308210a08,h1,this) h2
    rcases aC4.mp hd with rfl | hd
    ·exact aA9 (ql [_,_,_] 0xa021a0821a018 (by rfl') h4 h1)
    ·exact⟨d,hd,h3,h4⟩
def U6{ops:List Op}(h :∀o∈ops,o.k≠.rep):ops.flatMap FX=[]:=by
 induction ops with
 | nil=>rfl
 | cons o r ih=>
  rw[aZ3,ih λp hp=>h p (aC1 _ hp),aF9]
  have:=h o (aB4 ..)
  unfold FX
  split
  ·rename_i e;exact bO4 e this
  ·rfl
structure LT(Ls Ls':List Ln)(now:Int):Prop where
 nd:(AT Ls).Nodup
 nd':(AT Ls').Nodup
 ch :∀i j i' j',C4 (AT Ls) (AT Ls') i j->C4 (AT Ls) (AT Ls') i' j'->IG i j i' j'\/(i=i'/\j=j')\/IG i' j' i j
 same :∀i j,C4 (AT Ls) (AT Ls') i j->∃l,Ls[i]?=some l/\Ls'[j]?=some l
 new :∀j l,Ls'[j]?=some l->(∀i,¬ C4 (AT Ls) (AT Ls') i j)->l.wr=now
 st :∃a,∀i j,C4 (AT Ls) (AT Ls') i j->j=0\/(a<=j/\j<=a+8)\/(0<i/\0<j/\C4 (AT Ls) (AT Ls') (i-1) (j-1))
def BV(Ls:List Ln):(AT Ls).length=Ls.length:=by unfold AT;rw[aA6,aA6]
def Et{α β:Type}{l:List α}{f:α->β}{d:β}{n:Nat}(h:n=l.length):(aI4 0 (n-0)).map (λt=>(l.map f).getD t d)=l.map f:=by
 subst h
 rw[bC7,<-List.range_eq_range']
 refine bA3 (by rw[aA6,aA6,aF2]) λi h1 h2=>?_
 rw[aS0,aX1,aD2,aA5 h2];rfl
def EJ{α β:Type}{l:List α}{f:α->β}{d:β}{t:Nat}{x:α}(h:l[t]?=some x):(l.map f).getD t d=f x:=by rw[aD2,aB3,h];rfl
def H3{Ls Ls':List Ln}{now:Int}(H:LT Ls Ls' now){bs:List B3}(r:Dj (AT Ls) (AT Ls') 0 (AT Ls).length 0 (AT Ls').length bs):(bs.length<64/\Ko (AT Ls).length (AT Ls').length 0 0 (Cn (AT Ls) (AT Ls') bs)/\∀i j,KX (Cn (AT Ls) (AT Ls') bs) i j↔C4 (AT Ls) (AT Ls') i j)/\
  Vd (AT Ls) (AT Ls') 0 0 none (Bt 0 0 (Cn (AT Ls) (AT Ls') bs))/\(∀o∈Bt 0 0 (Cn (AT Ls) (AT Ls') bs),(o.i1<=o.i2/\o.i2<=(Ls.map Ln.str).length)/\(o.j1<=o.j2/\o.j2<=(Ls'.map Ln.str).length))/\FN (Ls.map Ln.wr) now (Bt 0 0 (Cn (AT Ls) (AT Ls') bs))=Ls'.map Ln.wr:=by
 obtain⟨a,ha⟩:=H.st
 have few:bs.length<=10:=MR (a:=a) (c:=8) r.ris λb hb=>by
  have w:=r.within b hb
  have c:=Dj.cmn r b hb 0 w.2.2.2.2
  rw[aR0,aR0]at c
  rcases ha _ _ c with z | z | ⟨ī,z2,ā⟩
  ·exact .inl z
  ·exact .inr z
  ·rcases r.start H.nd H.nd' b hb with e | e | e
   ·exists 3,0x882a101206081270802800818,ī,e
   ·exact .inl e
   ·exact bO4 ā e
 have kept:=λi j=>r.kept (D:=C4 (AT Ls) (AT Ls')) (λ_ _=>id) H.ch (λ_ _ c n=>bO4 c n) i j
 obtain⟨⟨c1,ĳ⟩,c3,ŗ⟩:=MT r
 have cv :∀i j,KX (Cn (AT Ls) (AT Ls') bs) i j↔C4 (AT Ls) (AT Ls') i j:=λi j=>(c3 i j).trans (kept i j)
 have V:=kV c1 ĳ ŗ (l:=none) (λe=>nomatch e) (λ_ _ _ e=>nomatch e)
 refine⟨⟨by(exists 1,0x40901a8008,few),c1,cv⟩,V,λo ho=>?_,?_⟩
 ·have:=(Vw V o ho).1
  rw[BV,BV]at this
  rw[aA6,aA6]
  exact this
 ·rw[mA (g:=λt=>(Ls'.map Ln.wr).getD t 0) c1 (λt _ ht hc=>?_) (λb hb d hd=>?_),Et (BV Ls')]
  ·rw[BV]at ht
   have hl:=aA5 ht
   show(Ls'.map Ln.wr).getD t 0=now
   rw[EJ hl]
   exact H.new t _ hl λi c=>hc (EC.mpr ⟨i,(cv i t).mpr c⟩)
  ·obtain⟨l,l1,l2⟩:=H.same _ _ ((cv _ _).mp ⟨b,hb,d,hd,rfl,rfl⟩)
   show _=some ((Ls'.map Ln.wr).getD (b.2.1+d) 0)
   rw[EJ l2,aB3,l1];rfl
def SR{Ls:List Ln}(h:(AT Ls).Nodup):(Ls.map Ln.str).Nodup:=(aM5.mp h).imp λn e=>n (bO1 AD.str e)
section
variable{Ls Ls':List Ln}{now:Int}{s u:Str}{Φ:Str×Str->Prop}
def Q2{ops:List Op}(h :∀o∈ops,o.k≠.rep):Ŏ (Ls.map Ln.str) (Ls'.map Ln.str) (Ls.map Ln.nt) now (λ_ j=>(Ls'.map Ln.nt).getD j []) s u (ops.flatMap FX)/\Db (Ls.map Ln.str) (Ls'.map Ln.str) s u (ops.flatMap FX)=(s,u):=by
 rw[U6 h]
 exact⟨trivial,rfl⟩
def GV(H:LT Ls Ls' now){bs:List B3}(cv :∀i j,KX (Cn (AT Ls) (AT Ls') bs) i j↔C4 (AT Ls) (AT Ls') i j) :∀b∈Cn (AT Ls) (AT Ls') bs,∀d,d<b.2.2->(Ls.map Ln.nt)[b.1+d]?=some ((Ls'.map Ln.nt).getD (b.2.1+d) []):=λb hb d hd=>by
 obtain⟨l,l1,l2⟩:=H.same _ _ ((cv _ _).mp ⟨b,hb,d,hd,rfl,rfl⟩)
 rw[EJ l2,aB3,l1];rfl
def Th{bl:List B3}{t j:Nat}(h:KX bl t j):dI bl t:=h.elim λb q=>⟨b,q.1,by obtain⟨_,d,hd,e,_⟩:=q;(exists 3,0x1021a028,e),by obtain⟨_,d,hd,e,_⟩:=q;exists 4,0x13a2103a2281018,hd,e⟩
def YQ(H:LT Ls Ls' now)(hc :∀i,i<Ls.length->∃j,C4 (AT Ls) (AT Ls') i j)(hn :∀j l,Ls'[j]?=some l->(∀i,¬ C4 (AT Ls) (AT Ls') i j)->l.nt=aM0 l.str.length now)(hs:Φ (s,u)):ES Ls Ls' now s u Φ:=by
 refine⟨λ_ j=>(Ls'.map Ln.nt).getD j [],λbs r=>?_⟩
 obtain⟨⟨h1,c1,cv⟩,V,h2,h3⟩:=H3 H r
 have hk:=KJ c1 λt _ ht=>by
  rw[BV]at ht
  obtain⟨j,c⟩:=hc t ht
  exact Th ((cv t j).mpr c)
 have nr :∀o∈Bt 0 0 (Cn (AT Ls) (AT Ls') bs),o.k≠.rep:=λo ho e=>(hk o ho).elim (λz=>nomatch z.symm.trans e) λz=>nomatch z.symm.trans e
 obtain⟨w1,č⟩:=Q2 (Ls:=Ls) (Ls':=Ls') (now:=now) (s:=s) (u:=u) nr
 refine⟨h1,_,Fu _ _ _,V,h2,λo ho e=>bO4 e (nr o ho),h3,?_,w1,č▸hs⟩
 rw[Tn (G:=λt=>(Ls'.map Ln.nt).getD t []) c1 (GV H cv) λo ho=>⟨λe=>bO4 e (nr o ho),λe t t1 t2=>?_⟩,Et (BV Ls')]
 obtain⟨a1,a2⟩:=K7 c1 o ho (λz=>nomatch z.symm.trans e) t t1 t2
 rw[BV]at a1
 have hl:=aA5 a1
 refine⟨_,by rw[aB3,hl];rfl,?_⟩
 show _=(Ls'.map Ln.nt).getD t []
 rw[EJ hl]
 exact(hn t _ hl λi c=>a2 (EC.mpr ⟨i,(cv i t).mpr c⟩)).symm
def YT(H:LT Ls Ls' now)(hc :∀j,j<Ls'.length->∃i,C4 (AT Ls) (AT Ls') i j)(hs:Φ (s,u)):ES Ls Ls' now s u Φ:=by
 refine⟨λ_ j=>(Ls'.map Ln.nt).getD j [],λbs r=>?_⟩
 obtain⟨⟨h1,c1,cv⟩,V,h2,h3⟩:=H3 H r
 have hk:=K1 c1 λt _ ht=>by
  rw[BV]at ht
  obtain⟨i,c⟩:=hc t ht
  exact EC.mpr ⟨i,(cv i t).mpr c⟩
 have nr :∀o∈Bt 0 0 (Cn (AT Ls) (AT Ls') bs),o.k≠.rep:=λo ho e=>(hk o ho).elim (λz=>nomatch z.symm.trans e) λz=>nomatch z.symm.trans e
 obtain⟨w1,č⟩:=Q2 (Ls:=Ls) (Ls':=Ls') (now:=now) (s:=s) (u:=u) nr
 refine⟨h1,_,Fu _ _ _,V,h2,λo ho e=>bO4 e (nr o ho),h3,?_,w1,č▸hs⟩
 rw[Tn (G:=λt=>(Ls'.map Ln.nt).getD t []) c1 (GV H cv) λo ho=>⟨λe=>bO4 e (nr o ho),λe=>(hk o ho).elim (λz=>nomatch z.symm.trans e) λz=>nomatch z.symm.trans e⟩,Et (BV Ls')]
theorem WI(Ă:(Ls.map Ln.str).Nodup)(n2:(Ls'.map Ln.str).Nodup) :∀{L:List Nat} {s u:Str},L.Pairwise (· < ·)->(∀t∈L,∃l l',(Ls[t]?=some l/\Ls'[t]?=some l')/\GN l.str l'.str l.nt l'.nt now/\l.str≠s/\l'.str≠u)->
  Ŏ (Ls.map Ln.str) (Ls'.map Ln.str) (Ls.map Ln.nt) now (λ_ j=>(Ls'.map Ln.nt).getD j []) s u (L.map λt=>(t,t))
 | [],_,_,_,_=>trivial
 | t::r,s,u,hp,h=>by
  obtain⟨hp1,hp2⟩:=aX2.mp hp
  obtain⟨l,l',⟨e1,e2⟩,P,ŭ,d2⟩:=h t (aB4 ..)
  have at1 :∀{Ls:List Ln} {t:Nat} {l:Ln},Ls[t]?=some l->(Ls.map Ln.str)[t]?=some l.str:=λe=>by rw[aB3,e];rfl
  refine⟨l.str,l'.str,l.nt,⟨at1 e1,at1 e2,by rw[aB3,e1];rfl⟩,⟨ŭ,d2⟩,?_,WI Ă n2 hp2 λq hq=>?_⟩
  ·show GN _ _ _ ((Ls'.map Ln.nt).getD t []) now
   rw[EJ e2];exact P
  ·obtain⟨m,m',⟨f1,f2⟩,P',_,_⟩:=h q (aC1 _ hq)
   have lt:=hp1 q hq
   exact⟨m,m',⟨f1,f2⟩,P',λe=>aE2 lt (G4 Ă (at1 e1) (e▸at1 f1)),λe=>aE2 lt (G4 n2 (at1 e2) (e▸at1 f2))⟩
theorem N9{ol nl:List Str} :∀{L:List Nat} {s u:Str},L≠[]->∃t∈L,Db ol nl s u (L.map λt=>(t,t))=(ol.getD t "",nl.getD t "")
 | [],_,_,h=>bO4 rfl h
 | t::[],_,_,_=>⟨t,aB4 ..,rfl⟩
 | t::q::r,_,_,_=>by
  obtain⟨z,hz,e⟩:=N9 (ol:=ol) (nl:=nl) (L:=q::r) (s:=ol.getD t "") (u:=nl.getD t "") (λe=>nomatch e)
  exact⟨z,aC1 _ hz,e⟩
theorem NO{n m:Nat} :∀{bl:List B3} {i j:Nat},Ko n m i j bl->∀b∈bl,b.2.2=0->b.1=n/\b.2.1=m
 | [],_,_,_,b,hb=>nomatch hb
 | c::r,_,_,h,b,hb=>λhk=>by
  rcases aC4.mp hb with rfl | hb
  ·have e:=h.2.1.resolve_left (by exists 1,0x81908028,hk)
   subst e
   have:=h.2.2
   rw[hk]at this
   exact this
  ·exact NO h.2.2 b hb hk
def Xd(H:LT Ls Ls' now)(hl:Ls.length=Ls'.length)(hd :∀i j,C4 (AT Ls) (AT Ls') i j->i=j)(hp :∀t l l',Ls[t]?=some l->Ls'[t]?=some l'->¬ C4 (AT Ls) (AT Ls') t t->GN l.str l'.str l.nt l'.nt now/\l.str≠s/\l'.str≠u)
  (h0:(∀t,t<Ls.length->C4 (AT Ls) (AT Ls') t t)->Φ (s,u)) (h1 :∀t l l',Ls[t]?=some l->Ls'[t]?=some l'->¬ C4 (AT Ls) (AT Ls') t t->Φ (l.str,l'.str)):ES Ls Ls' now s u Φ:=by
 refine⟨λ_ j=>(Ls'.map Ln.nt).getD j [],λbs r=>?_⟩
 obtain⟨⟨q1,c1,cv⟩,V,ĉ,q3⟩:=H3 H r
 obtain⟨L,l1,l2,l3,l4,l5⟩:=dT c1 λb hb=>by
  by_cases hk:b.2.2=0
  ·obtain⟨e1,e2⟩:=NO c1 b hb hk
   rw[e1,e2,BV,BV,hl]
  ·exact hd _ _ ((cv b.1 b.2.1).mp ⟨b,hb,0,aG7 hk,rfl,rfl⟩)
 have un :∀t∈L,∃l l',(Ls[t]?=some l/\Ls'[t]?=some l')/\¬ C4 (AT Ls) (AT Ls') t t:=λt ht=>by
  obtain⟨_,a2,a3⟩:=l3 t ht
  rw[BV]at a2
  exact⟨_,_,⟨aA5 (hl▸a2),aA5 a2⟩,λc=>a3 (EC.mpr ⟨t,(cv t t).mpr c⟩)⟩
 refine⟨q1,_,Fu _ _ _,V,ĉ,λo ho=>(l4 o ho).2,q3,?_,?_,?_⟩
 ·rw[Tn (G:=λt=>(Ls'.map Ln.nt).getD t []) c1 (GV H cv) λo ho=>⟨(l4 o ho).2,λe=>bO4 e (l4 o ho).1⟩,Et (BV Ls')]
 ·rw[l1]
  exact WI (SR H.nd) (SR H.nd') l2 λt ht=>by
   obtain⟨l,l',e,c⟩:=un t ht
   exact⟨l,l',e,hp t l l' e.1 e.2 c⟩
 ·rw[l1]
  by_cases hL:L=[]
  ·subst hL
   refine h0 λt ht=>aE7 λhn=>?_
   have all:=(l5 t (aE9 _) (by rw[BV,<-hl];exact ht)).resolve_left λz=>nomatch z
   obtain⟨i,c⟩:=EC.mp all
   have c:=(cv i t).mp c
   exact hn (hd _ _ c▸c)
  ·obtain⟨t,ht,e⟩:=N9 (ol:=Ls.map Ln.str) (nl:=Ls'.map Ln.str) (s:=s) (u:=u) hL
   obtain⟨l,l',⟨e1,e2⟩,c⟩:=un t ht
   rw[e,EJ e1,EJ e2]
   exact h1 t l l' e1 e2 c
end
structure DK(k:Nat)(l:Ln):Prop where
 nd:l.row.Nodup
 bd :∀s∈l.row,0<=s/\s<l.made
 len:l.row.length<=4+4*k
 md:0<=l.made/\l.made<=4+4*(k:Int)
 nm:0<=l.nm/\l.nm<=2+(k:Int)
def DK.ok{k:Nat}{l:Ln}(h:DK k l)(hk:k<=70):Ji l:=by
 have:=h.len;have:=h.md;have:=h.nm
 exact⟨h.nd,h.bd,by rename_i u0 _;(exists 2,0x384910004c48a1080000469008,hk,u0),by rename_i u1;(exists[_],[_],0x3849030083600f04c48a038008380000469008,hk,u1.1,u1.2),by exists[_],[_],0x3849030083600f28a038008380000469008,hk,this.1,this.2⟩
def DK.up{k:Nat}{l:Ln}(h:DK k l):DK (k+1) l:=by
 have:=h.len;have:=h.md;have:=h.nm
 exact⟨h.nd,h.bd,by rename_i u0 _;(exists 2,0x181a04c48a00104c48a008,u0),by rename_i u1;(exists[_],[_],0x180a0f04c48a030083600f04c48a03800838,u1.1,u1.2),by exists[_],[_],0x180a0f28a030083600f28a03800838,this.1,this.2⟩
theorem NR :∀{r:List Int} (a:Int),(r.foldl max a=a\/r.foldl max a∈r)/\a<=r.foldl max a/\∀y∈r,y<=r.foldl max a
 | [],a=>⟨.inl rfl,bH2 a,λ_ h=>nomatch h⟩
 | y::r,a=>by
  obtain⟨h1,h2,h3⟩:=NR (r:=r) (max a y)
  rw[bG2]
  refine⟨?_,by(exists[],[_,_,_],0x203210e38,h2),λz hz=>(aC4.mp hz).elim (λe=>by subst e;exists[],[_,_,_],0x213210e38,h2) (h3 z)⟩
  rcases h1 with e | e
  ·rw[e]
   rcases Int.le_total a y with q | q
   ·exact .inr (by rw[bE8 q];exact aB4 ..)
   ·exact .inl (bG0 q)
  ·exact .inr (aC1 _ e)
def DK.dg{k:Nat}{l:Ln}(h:DK k l)(x:Int):Dg (l.made+4) l.row (Ax x l.row l.made).1 (Ax x l.row l.made).2 l.made:=K9 (bH2 _) h.nd h.md.1 h.bd
theorem DK.chg{k:Nat}{l:Ln}(h:DK k l)(now x:Int):DK (k+1) (l.chg now x):=by
 have D:=h.dg x
 have:=h.len;have hm:=h.md;have:=h.nm;have:=D.len
 obtain⟨Ę,Ŧ,Ą⟩:=NR (r:=(Ax x l.row l.made).1.map (· + 1)) l.made
 have em:(l.chg now x).made=((Ax x l.row l.made).1.map (· + 1)).foldl max l.made:=rfl
 have up:((Ax x l.row l.made).1.map (· + 1)).foldl max l.made<=l.made+4:=by
  rcases Ę with e | e
  ·rw[e];exact ĸ [] [_] 0x480a03 (by rfl')
  ·obtain⟨y,hy,e⟩:=aI5.mp e
   rw[<-e]
   have:=(D.bd y hy).2;exists[],[_,_],0x481a180a3481a048,this
 refine⟨D.nd,λs hs=>⟨(D.bd s hs).1,?_⟩,?_,?_,?_⟩
 ·rw[em]
  have:=Ą _ (bB9 hs)
  exists[],[_,_],0x1041180a38,this
 ·show(Ax x l.row l.made).1.length<=_
  rename_i u0 _;exact id (ql [_,_,_] 0x181a04c48a20480a208104c48a008 (by rfl') u0 this)
 ·rw[em];exists[_],[_,_],0x180a0f04c48a1310836480a138103800f04c48a03800838,hm.1,hm.2,Ŧ,up
 ·show 0<=l.nm/\l.nm<=_
  rename_i u1;exact id (ĸ [_] [_] 0x180a0f28a030083600f28a03800838 (by rfl') u1.1 u1.2)
def DK.fresh(k:Nat):DK (k+1) (BB (1+(k:Int))):=⟨by show([0,1]:List Int).Nodup;decide,by show∀s∈([0,1]:List Int),0<=s/\s<(2:Int);decide,by show 2<=_;exact id (ql [_] 0x180a04c48a280 (by rfl')),⟨by show(0:Int)<=2;decide,by show(2:Int)<=_;exact id (ql [_] 0x180a0f04c48a283 (by rfl'))⟩,⟨by show 0<=2+(1+(k:Int));exact id (ql [_] 0xf18a28a083 (by rfl')),by show 2+(1+(k:Int))<=_;exact id (ql [_] 0x180a0f28a00f18a28a3 (by rfl'))⟩⟩
def I5{a b:Ln}(h:a.str=b.str):(19968+a.nm).toNat=(19968+b.nm).toNat/\(a.row.map λs=>(97+s).toNat)=b.row.map λs=>(97+s).toNat:=by
 have h:(⟨((19968+a.nm).toNat::a.row.map λs=>(97+s).toNat).toArray⟩:Str)=⟨((19968+b.nm).toNat::b.row.map λs=>(97+s).toNat).toArray⟩:=h
 injection h with h
 injection h with h
 exact bA6 h
def GG{k:Nat}{a b:Ln}(ha:0<=a.nm)(hb:0<=b.nm)(h:a.str=b.str):a.nm=b.nm:=by
 have:=(I5 h).1;exists[_,_],[_,_],0x105081004e009ae10f58080004e009ae00f58102800838,ha,this,(aD1 _),(aD1 _)
def Ue{a b:List Int}(ha :∀x∈a,0<=x)(hb :∀x∈b,0<=x)(h:(a.map λs=>(97+s).toNat)=b.map λs=>(97+s).toNat):a=b:=by
 induction a generalizing b with
 | nil=>cases b with
  | nil=>rfl
  | cons y b=>exact nomatch h
 | cons x a ih=>cases b with
  | nil=>exact nomatch h
  | cons y b=>
   obtain⟨h1,h2⟩:=bA6 h
   have:=ha x (aB4 ..);have:=hb y (aB4 ..)
   have h1:(97+x).toNat=(97+y).toNat:=h1
   rw[ih (λx hx=>ha x (aC1 _ hx)) (λx hx=>hb x (aC1 _ hx)) h2,show x=y by omega]
def QW(l:Ln):l.str≠"":=λe=>by
 have:l.str.cps.size=(("":Str)).cps.size:=by rw[e]
 have h2:l.str.cps.size=l.row.length+1:=by
  show bJ1 (aE1 _)=_
  rw[aZ4,aM2,aA6]
 rw[h2]at this
 exact nomatch(show l.row.length+1=0 from this)
def Fa{Ls:List Ln}(hn:(Ls.map Ln.nm).Nodup)(h0 :∀l∈Ls,0<=l.nm):(AT Ls).Nodup:=by
 unfold AT
 rw[aG4]
 exact aM5.mpr ((aM5.mp hn).imp_of_mem λha hb n e=>n (GG (k:=0) (h0 _ ha) (h0 _ hb) (AD.str.inj e)))
def C6{Ls Ls':List Ln}{i j:Nat}:C4 (AT Ls) (AT Ls') i j↔∃l l',(Ls[i]?=some l/\Ls'[j]?=some l')/\l.str=l'.str:=by
 have at_ :∀(Ls:List Ln) (i:Nat),(AT Ls)[i]?=(Ls[i]?).map λl=>AD.str l.str:=λLs i=>by
  unfold AT
  rw[aG4,aB3];rfl
 constructor
 ·rintro ⟨x,e1,e2⟩
  rw[at_]at e1 e2
  obtain⟨l,l1,rfl⟩:=AH e1
  obtain⟨l',l2,e⟩:=AH e2
  exact⟨l,l',⟨l1,l2⟩,(AD.str.inj e).symm⟩
 ·rintro ⟨l,l',⟨e1,e2⟩,e⟩
  exact⟨.str l.str,by rw[at_,e1];rfl,by rw[at_,e2,e];rfl⟩
def UI{Ls:List Ln}(h:(AT Ls).Nodup){i j:Nat}{a b:Ln}(e1:Ls[i]?=some a)(e2:Ls[j]?=some b)(e:a.str=b.str):i=j:=by
 have at_ :∀{i:Nat} {l:Ln},Ls[i]?=some l->(AT Ls)[i]?=some (.str l.str):=λ{i l} e=>by
  unfold AT
  rw[aG4,aB3,e];rfl
 exact G4 h (at_ e1) (e▸at_ e2)
def SU{Ls Ls':List Ln}{now:Int}{a:Nat}(σ:Nat->Nat)(Ă:(AT Ls).Nodup)(n2:(AT Ls').Nodup)(hσ :∀j l',Ls'[j]?=some l'->Ls[σ j]?=some l'\/((∀l∈Ls,l.str≠l'.str)/\l'.wr=now))
  (hm :∀j j',j<j'->(∃l,Ls'[j]?=some l/\Ls[σ j]?=some l)->(∃l,Ls'[j']?=some l/\Ls[σ j']?=some l)->σ j<σ j')
  (st :∀j l,Ls'[j]?=some l->Ls[σ j]?=some l->j=0\/(a<=j/\j<=a+8)\/(0<σ j/\0<j/\∃l,Ls[σ j-1]?=some l/\Ls'[j-1]?=some l)):LT Ls Ls' now/\∀i j,C4 (AT Ls) (AT Ls') i j->i=σ j:=by
 have key :∀i j,C4 (AT Ls) (AT Ls') i j->i=σ j/\∃l,Ls'[j]?=some l/\Ls[σ j]?=some l:=λi j c=>by
  obtain⟨l,l',⟨e1,e2⟩,e⟩:=C6.mp c
  rcases hσ j l' e2 with q | q
  ·exact⟨UI Ă e1 q e,l',e2,q⟩
  ·exact bO4 e (q.1 l (aD3 e1))
 refine⟨⟨Ă,n2,λi j i' j' c c'=>?_,λi j c=>?_,λj l e hn=>?_,a,λi j c=>?_⟩,λi j c=>(key i j c).1⟩
 ·obtain⟨rfl,q⟩:=key i j c
  obtain⟨rfl,q'⟩:=key i' j' c'
  rcases Nat.lt_trichotomy j j' with h | h | h
  ·exact .inl ⟨hm j j' h q q',h⟩
  ·exact .inr (.inl ⟨by rw[h],h⟩)
  ·exact .inr (.inr ⟨hm j' j h q' q,h⟩)
 ·obtain⟨rfl,l,e1,e2⟩:=key i j c
  exact⟨l,e2,e1⟩
 ·rcases hσ j l e with q | q
  ·exact bO4 (C6.mpr ⟨l,l,⟨q,e⟩,rfl⟩) (hn (σ j))
  ·exact q.2
 ·obtain⟨rfl,l,e1,e2⟩:=key i j c
  rcases st j l e1 e2 with z | z | ⟨ī,z2,m,Ę,Ŧ⟩
  ·exact .inl z
  ·exact .inr (.inl z)
  ·exact .inr (.inr ⟨ī,z2,C6.mpr ⟨m,m,⟨Ę,Ŧ⟩,rfl⟩⟩)
def jW(k:Nat)(Ls:List Ln)(p:Str×Str):Prop:=(p.1 = ""/\p.2 = "")\/∃ls lu:Ln,(p.1=ls.str/\p.2=lu.str)/\ls.nm=lu.nm/\p.1≠p.2/\(0<=lu.nm/\lu.nm<=2+(k:Int))/\∀l∈Ls,l.nm=lu.nm->l.str=p.2
structure Ů(k:Nat)(Ls:List Ln)(s u:Str):Prop where
 ok :∀l∈Ls,DK k l
 len:Ls.length<=3+k
 nms:(Ls.map Ln.nm).Nodup
 sg:jW k Ls (s,u)
def Ů.nd{k:Nat}{Ls:List Ln}{s u:Str}(h:Ů k Ls s u):(AT Ls).Nodup:=Fa h.nms λl hl=>(h.ok l hl).nm.1
def Xj{Ls:List Ln}{f:Ln}{a:Nat}(ha:a<=Ls.length)(j:Nat):(Ls.take a++[f]++Ls.drop a)[j]?=if j<a then Ls[j]? else if j=a then some f else Ls[j-1]?:=by
 have la:(Ls.take a).length=a:=by rw[aE4];exists 2,0x10d21008,ha
 by_cases h1:j<a
 ·rw[bO2 h1,aC9,aG8 (by exists 3,0x2112181028,la,h1),aN6,bO2 h1]
 ·rw[bO3 h1,aC9,aG0 (by exists 3,0x200121981028,la,h1),la]
  by_cases h2:j=a
  ·rw[bO2 h2,h2,aP0];rfl
  ·rw[bO3 h2,show j-a=(j-1-a)+1 by exists 2,0x181180bba10b21029810198,h1,h2]
   show(Ls.drop a)[j-1-a]?=_
   rw[aK0,show a+(j-1-a)=j-1 by exists 2,0x180b1180bb1a21029810198,h1,h2]
def Yq{Ls:List Ln}{a:Nat}(ha:a<=Ls.length)(j:Nat):(Ls.take a++Ls.drop (a+1))[j]?=if j<a then Ls[j]? else Ls[j+1]?:=by
 have la:(Ls.take a).length=a:=by rw[aE4];exists 2,0x10d21008,ha
 by_cases h1:j<a
 ·rw[bO2 h1,aG8 (by exists 3,0x2112181028,la,h1),aN6,bO2 h1]
 ·rw[bO3 h1,aG0 (by exists 3,0x200121981028,la,h1),la,aK0,show a+1+(j-a)=j+1 by exists 2,0x180a10b181aa210198,h1]
section
variable{k:Nat}{Ls Ls':List Ln}{s u:Str}{a:Nat}
structure jQ(k:Nat)(Ls Ls':List Ln)(s u:Str):Prop where
 ok :∀l∈Ls',DK (k+1) l
 len:Ls'.length<=3+(k+1)
 nms:(Ls'.map Ln.nm).Nodup
 pl:ES Ls Ls' (1+(k:Int)) s u λp=>jW (k+1) Ls' p
def WF{p:Str×Str}(h:jW k Ls p)(hs :∀l∈Ls',l∈Ls\/l.nm=3+(k:Int)):jW (k+1) Ls' p:=by
 rcases h with h | ⟨ls,lu,h1,h2,h3,h4,h5⟩
 ·exact .inl h
 ·refine .inr ⟨ls,lu,h1,h2,h3,⟨h4.1,by exists[_],[_],0x180a0f28a0300f28a038,h4.2⟩,λl hl e=>?_⟩
  rcases hs l hl with q | q
  ·exact h5 l q e
  ·exact aA9 (ĸ [_] [_,_] 0xa00f38a158015800f28a038 (by rfl') h4.2 e q)
def QZ(h:Ů k Ls s u)(ha:a<=Ls.length):jQ k Ls (Ls.take a++[BB (1+(k:Int))]++Ls.drop a) s u:=by
 have nf:(BB (1+(k:Int))).nm=3+(k:Int):=by show 2+(1+(k:Int))=_;exact id (ql [_] 0xf38a00f18a28a5 (by rfl'))
 have mem :∀l∈Ls.take a++[BB (1+(k:Int))]++Ls.drop a,l∈Ls\/l=BB (1+(k:Int)):=λl hl=>by
  rcases aB0.mp hl with hl | hl
  ·rcases aB0.mp hl with hl | hl
   ·exact .inl (List.mem_of_mem_take hl)
   ·exact .inr (aB1.mp hl)
  ·exact .inl (aQ9 hl)
 have ok :∀l∈Ls.take a++[BB (1+(k:Int))]++Ls.drop a,DK (k+1) l:=λl hl=>(mem l hl).elim (λq=>(h.ok l q).up) λq=>q▸DK.fresh k
 have nms:((Ls.take a++[BB (1+(k:Int))]++Ls.drop a).map Ln.nm).Nodup:=by
  have p:(Ls.take a++[BB (1+(k:Int))]++Ls.drop a).Perm (BB (1+(k:Int))::Ls):=by
   have:=aT9 (Ls.take a) [BB (1+(k:Int))] (Ls.drop a)
   rw[<-aC9]at this
   refine this.trans ?_
   rw[aN1];exact .refl _
  rw[(p.map Ln.nm).nodup_iff,aH8,aO8]
  refine⟨λz=>?_,h.nms⟩
  obtain⟨l,hl,e⟩:=aI5.mp z
  have:=(h.ok l hl).nm;exists[_],[_,_],0xa00f28a138015800f38a058,nf,e,this.2
 have lf:(Ls.take a++[BB (1+(k:Int))]++Ls.drop a).length=Ls.length+1:=by
  rw[aB2,aB2,aE4,aG3]
  show _+1+_=_
  exact id (ql [_,_] 0x181a01b1810daa2 (by rfl'))
 refine⟨ok,by rw[lf];have:=h.len;(exists 2,0x181a38a180a0138a008,this),nms,?_⟩
 have n2:=Fa nms λl hl=>(ok l hl).nm.1
 have at_:=Xj (f:=BB (1+(k:Int))) ha
 generalize hL:Ls.take a++[BB (1+(k:Int))]++Ls.drop a=Ls' at *
 have fs :∀l∈Ls,l.str≠(BB (1+(k:Int))).str:=λl hl e=>by
  have g:=(h.ok l hl).nm
  have:=GG (k:=0) g.1 (by rw[nf];exists 1,0xf38a083) e
  exists[_],[_,_],0xa015800f28a13800f38a058,nf,g.2,this
 obtain⟨H,hH⟩:=SU (a:=a) (now:=1+(k:Int)) (λj=>if j<a then j else j-1) h.nd n2 (λj l' e=>by
  rw[at_]at e
  by_cases c1:j<a
  ·rw[bO2 c1]at e ⊢;exact .inl e
  ·rw[bO3 c1]at e ⊢
   by_cases ĳ:j=a
   ·rw[bO2 ĳ]at e;cases e;exact .inr ⟨fs,rfl⟩
   ·rw[bO3 ĳ]at e;exact .inl e) (λj j' hj c c'=>by
  have na :∀j,(∃l,Ls'[j]?=some l/\Ls[if j<a then j else j-1]?=some l)->j≠a:=λj ⟨l,e1,e2⟩ e=>by
   rw[at_,e,bO3 (aL7 _),bO2 rfl]at e1
   cases e1
   exact fs _ (aD3 e2) rfl
  have:=na j c;have:=na j' c'
  show(if j<a then j else j-1)<if j'<a then j' else j'-1
  split<;>split<;>omega) λj l e1 e2=>by
  by_cases c1:j<a
  ·by_cases c0:j=0
   ·exact .inl c0
   ·refine .inr (.inr ⟨by rw[bO2 c1];(exists 1,0x81080298,c0),by(exists 1,0x81080298,c0),?_⟩)
    have hl:=aA5 (show j-1<Ls.length by exists 3,0x1182b102181008,ha,c1)
    exact⟨_,by rw[bO2 c1];exact hl,by rw[at_,bO2 (by exists 2,0x1180b11018,c1)];exact hl⟩
  ·by_cases ĳ:j<=a+8
   ·exact .inr (.inl ⟨by(exists 2,0x1010198,c1),ĳ⟩)
   ·have:=(aA4.mp e2).1
    rw[bO3 c1]at this
    have hl:=aA5 (show j-2<Ls.length by exists 2,0x1280b11180b18,this)
    exact .inr (.inr ⟨by rw[bO3 c1];(exists 2,0x180b081881a0098,ĳ),by(exists 2,0x81881a0098,ĳ),_,by rw[bO3 c1,show j-1-1=j-2 by exists 1,0x280b18180bb2];exact hl,by rw[at_,bO3 (by exists 2,0x1180b19881a0098,ĳ),bO3 (by exists 2,0x1180b29881a0098,ĳ),show j-1-1=j-2 by exists 1,0x280b18180bb2];exact hl⟩)
 refine YQ H (λi hi=>?_) (λj l e hn=>?_) (WF h.sg λl hl=>(mem l hl).elim .inl λq=>.inr (by rw[q];exact nf))
 ·have hl:=aA5 hi
  by_cases c:i<a
  ·exact⟨i,C6.mpr ⟨_,_,⟨hl,by rw[at_,bO2 c];exact hl⟩,rfl⟩⟩
  ·exact⟨i+1,C6.mpr ⟨_,_,⟨hl,by rw[at_,bO3 (by exists 2,0x1180a1910198,c),bO3 (by exists 2,0x1180a2910198,c),Nat.add_sub_cancel];exact hl⟩,rfl⟩⟩
 ·have e':=e
  rw[at_]at e'
  by_cases c1:j<a
  ·rw[bO2 c1]at e'
   exact bO4 (C6.mpr ⟨l,l,⟨e',e⟩,rfl⟩) (hn j)
  ·rw[bO3 c1]at e'
   by_cases ĳ:j=a
   ·rw[bO2 ĳ]at e';cases e';rfl
   ·rw[bO3 ĳ]at e'
    exact bO4 (C6.mpr ⟨l,l,⟨e',e⟩,rfl⟩) (hn (j-1))
def QQ(h:Ů k Ls s u)(ha:a<=Ls.length):jQ k Ls (Ls.take a++Ls.drop (a+1)) s u:=by
 have sub:(Ls.take a++Ls.drop (a+1)).Sublist Ls:=by
  have:=(aU1 (Ls.take a)).append (show(Ls.drop (a+1)).Sublist (Ls.drop a)by rw[show Ls.drop (a+1)=(Ls.drop a).drop 1 by rw[List.drop_drop]];exact aQ8 ..)
  rwa[aN1]at this
 have ok :∀l∈Ls.take a++Ls.drop (a+1),DK (k+1) l:=λl hl=>(h.ok l (sub.subset hl)).up
 have nms:=h.nms.sublist (sub.map Ln.nm)
 have lf:=sub.length_le
 refine⟨ok,by have:=h.len;(exists 3,0x182a38a00238a1081008,lf,this),nms,?_⟩
 have n2:=Fa nms λl hl=>(ok l hl).nm.1
 have at_:=Yq ha
 have mem :∀l∈Ls.take a++Ls.drop (a+1),l∈Ls:=λl hl=>sub.subset hl
 generalize hL:Ls.take a++Ls.drop (a+1)=Ls' at *
 have is :∀j,Ls'[j]?=Ls[if j<a then j else j+1]?:=λj=>by
  rw[at_]
  split<;>rfl
 obtain⟨H,hH⟩:=SU (a:=a) (now:=1+(k:Int)) (λj=>if j<a then j else j+1) h.nd n2 (λj l' e=>.inl ((is j).symm.trans e)) (λj j' hj _ _=>by
  show(if j<a then j else j+1)<if j'<a then j' else j'+1
  split<;>split<;>omega) λj l e1 e2=>by
  by_cases c0:j=0
  ·exact .inl c0
  ·by_cases c1:j<a
   ·refine .inr (.inr ⟨by rw[bO2 c1];(exists 1,0x81080298,c0),by(exists 1,0x81080298,c0),?_⟩)
    have hl:=aA5 (show j-1<Ls.length by exists 3,0x1182b102181008,ha,c1)
    exact⟨_,by rw[bO2 c1];exact hl,by rw[at_,bO2 (by exists 2,0x1180b11018,c1)];exact hl⟩
   ·by_cases ĳ:j<=a+8
    ·exact .inr (.inl ⟨by(exists 2,0x1010198,c1),ĳ⟩)
    ·have:=(aA4.mp e2).1
     rw[bO3 c1]at this
     have hl:=aA5 (show j<Ls.length by exists 2,0x1011180a18,this)
     exact .inr (.inr ⟨by rw[bO3 c1];(exists 1,0x180a081),by(exists 2,0x81881a0098,ĳ),_,by rw[bO3 c1,Nat.add_sub_cancel];exact hl,by rw[at_,bO3 (by exists 2,0x1180b19881a0098,ĳ),show j-1+1=j by exists 2,0x18180ba2881a0098,ĳ];exact hl⟩)
 refine YT H (λj hj=>?_) (WF h.sg λl hl=>.inl (mem l hl))
 have hl:=aA5 hj
 exact⟨_,C6.mpr ⟨_,_,⟨(is j).symm.trans hl,hl⟩,rfl⟩⟩
end
section
variable{k:Nat}{Ls Ls':List Ln}{s u:Str}
def P5(h:(Ls.map Ln.nm).Nodup){a b:Ln}(ha:a∈Ls)(hb:b∈Ls)(e:a.nm=b.nm):a=b:=by
 obtain⟨i,hi⟩:=aJ6 ha
 obtain⟨j,hj⟩:=aJ6 hb
 have at_ :∀{i:Nat} {l:Ln},Ls[i]?=some l->(Ls.map Ln.nm)[i]?=some l.nm:=λe=>by rw[aB3,e];rfl
 have:=G4 h (at_ hi) (e▸at_ hj)
 subst this
 exact aA2 (hi.symm.trans hj)
def DZ(now at_ x:Int)(t:Nat)(l:Ln):l.step now at_ x t=l\/((at_<=(t:Int)/\(t:Int)<=at_+x.fmod 3)/\(Ax (x.fdiv 3) l.row l.made).1≠l.row/\l.step now at_ x t=l.chg now (x.fdiv 3)):=by
 unfold Ln.step
 by_cases c:at_<=(t:Int)/\(t:Int)<=at_+x.fmod 3/\(Ax (x.fdiv 3) l.row l.made).1≠l.row
 ·rw[bO2 c];exact .inr ⟨⟨c.1,c.2.1⟩,c.2.2,rfl⟩
 ·rw[bO3 c];exact .inl rfl
def UK(now at_ x:Int)(t:Nat)(l:Ln):(l.step now at_ x t).nm=l.nm:=by
 rcases DZ now at_ x t l with e | ⟨_,_,e⟩<;>rw[e]<;>rfl
def RU{at_ x:Int}(h:Ů k Ls s u)(h0:0<=at_)(hk:k<=68):jQ k Ls (BD (1+(k:Int)) at_ x Ls) s u:=by
 have at1 :∀t,(BD (1+(k:Int)) at_ x Ls)[t]?=(Ls[t]?).map λl:Ln=>l.step (1+(k:Int)) at_ x t:=λt=>by
  unfold BD
  rw[List.getElem?_mapIdx]
 have ll:(BD (1+(k:Int)) at_ x Ls).length=Ls.length:=Cj
 have en:(BD (1+(k:Int)) at_ x Ls).map Ln.nm=Ls.map Ln.nm:=aU0 λt=>by
  rw[aB3,aB3,at1]
  cases Ls[t]? with
  | none=>rfl
  | some l=>exact bO1 some (UK ..)
 have ok :∀l∈BD (1+(k:Int)) at_ x Ls,DK (k+1) l:=λl hl=>by
  obtain⟨t,ht⟩:=aJ6 hl
  rw[at1]at ht
  obtain⟨m,hm,rfl⟩:=AH ht
  have g:=h.ok m (aD3 hm)
  rcases DZ (1+(k:Int)) at_ x t m with e | ⟨_,_,e⟩<;>rw[e]
  ·exact g.up
  ·exact g.chg _ _
 have nms:((BD (1+(k:Int)) at_ x Ls).map Ln.nm).Nodup:=en▸h.nms
 have n2:=Fa nms λl hl=>(ok l hl).nm.1
 refine⟨ok,by rw[ll];have:=h.len;(exists 2,0x181a38a00138a008,this),nms,?_⟩
 generalize hL:BD (1+(k:Int)) at_ x Ls=Ls' at *
 have mn :∀l'∈Ls',∃l∈Ls,l.nm=l'.nm:=λl' hl=>by
  have:=bB9 (f:=Ln.nm) hl
  rw[en]at this
  obtain⟨l,h1,h2⟩:=aI5.mp this
  exact⟨l,h1,h2⟩
 have chg :∀(t:Nat) (l:Ln),Ls[t]?=some l->(Ax (x.fdiv 3) l.row l.made).1≠l.row->∀m∈Ls,m.str≠(l.chg (1+(k:Int)) (x.fdiv 3)).str:=λt l hl hd m hm e=>by
  have ml:=aD3 hl
  have gl:=h.ok l ml
  have gm:=h.ok m hm
  have e1:m.nm=l.nm:=GG (k:=0) (b:=l.chg (1+(k:Int)) (x.fdiv 3)) gm.nm.1 (show 0<=l.nm from gl.nm.1) e
  have e2:=P5 h.nms hm ml e1
  subst e2
  have:=(I5 e).2
  exact hd (Ue (λy hy=>(gm.bd y hy).1) (λy hy=>((gm.dg (x.fdiv 3)).bd y hy).1) this).symm
 have f3:=aX3 x (by decide:(0:Int)<3)
 obtain⟨H,hH⟩:=SU (a:=at_.toNat) (now:=1+(k:Int)) id h.nd n2 (λj l' e=>by
  rw[at1]at e
  obtain⟨l,hl,rfl⟩:=AH e
  rcases DZ (1+(k:Int)) at_ x j l with e | ⟨_,hd,e⟩<;>rw[e]
  ·exact .inl hl
  ·exact .inr ⟨chg j l hl hd,rfl⟩) (λj j' hj _ _=>hj) λj l e1 e2=>by
  by_cases c0:j=0
  ·exact .inl c0
  ·have e2:Ls[j]?=some l:=e2
   have hl:=aA5 (show j-1<Ls.length by have:=(aA4.mp e2).1;exists 2,0x1180b11018,this)
   generalize Ls[j-1]'_=q at hl
   have hl':=(at1 (j-1)).trans (bO1 (aD4 _) hl)
   rcases DZ (1+(k:Int)) at_ x (j-1) q with e | ⟨⟨b1,b2⟩,_,_⟩
   ·refine .inr (.inr ⟨aG7 c0,aG7 c0,_,hl,hl'.trans (bO1 some e)⟩)
   ·exact .inr (.inl (by exists[_,_],[_,_],0x881a000106081e10f5801a180b0f38180b0f13838048,f3,b1,b2,(aD1 _)))
 have hne :∀(t:Nat) (l l':Ln),Ls[t]?=some l->Ls'[t]?=some l'->¬ C4 (AT Ls) (AT Ls') t t->l'=l.chg (1+(k:Int)) (x.fdiv 3)/\l.str≠l'.str:=λt l l' e1 e2 hc=>by
  refine⟨?_,λe=>hc (C6.mpr ⟨l,l',⟨e1,e2⟩,e⟩)⟩
  have e3:=(at1 t).symm.trans e2
  rw[e1]at e3
  have e3:l.step (1+(k:Int)) at_ x t=l':=aA2 e3
  rcases DZ (1+(k:Int)) at_ x t l with e | ⟨_,_,e⟩
  ·exact bO4 (C6.mpr ⟨l,l',⟨e1,e2⟩,by rw[<-e3,e]⟩) hc
  ·rw[<-e3,e]
 refine Xd H ll.symm hH (λt l l' e1 e2 hc=>?_) (λhall=>?_) λt l l' e1 e2 hc=>?_
 ·obtain⟨e,ne⟩:=hne t l l' e1 e2 hc
  have ml:=aD3 e1
  have gl:=h.ok l ml
  subst e
  refine⟨UZ (gl.ok (by exists 1,0x469000000449008,hk)),λz=>?_,λz=>?_⟩
  ·rcases h.sg with⟨q,_⟩ | ⟨ls,lu,⟨h1,h2⟩,h3,h4,h5,h6⟩
   ·exact QW l (z.trans q)
   ·have e3:l.nm=ls.nm:=GG (k:=0) gl.nm.1 (h3▸h5.1) (z.trans h1)
    exact h4 (z.symm.trans (h6 l ml (e3.trans h3)))
  ·rcases h.sg with⟨_,q⟩ | ⟨ls,lu,⟨h1,h2⟩,h3,h4,h5,h6⟩
   ·exact QW _ (z.trans q)
   ·have e3:l.nm=lu.nm:=GG (k:=0) (a:=l.chg (1+(k:Int)) (x.fdiv 3)) (show 0<=l.nm from gl.nm.1) h5.1 (z.trans h2)
    exact ne ((h6 l ml e3).trans z.symm)
 ·rcases h.sg with q | ⟨ls,lu,tG,h3,h4,h5,h6⟩
  ·exact .inl q
  ·refine .inr ⟨ls,lu,tG,h3,h4,⟨h5.1,by have:=h5.2;exists[_],[_],0x180a0f28a0300f28a038,h5.2⟩,λl' hl' e=>?_⟩
   obtain⟨t,ht⟩:=aJ6 hl'
   have tl:=(aA4.mp ht).1
   obtain⟨a,b,⟨a1,b1⟩,ab⟩:=C6.mp (hall t (by exists 3,0x12102181028,ll,tl))
   obtain rfl:b=l':=aA2 (b1.symm.trans ht)
   have ma:=aD3 a1
   have e3:a.nm=b.nm:=GG (k:=0) (h.ok a ma).nm.1 (ok b hl').nm.1 ab
   exact ab.symm.trans (h6 a ma (e3.trans e))
 ·obtain⟨e,ne⟩:=hne t l l' e1 e2 hc
  have ml':=aD3 e2
  have gl:=h.ok l (aD3 e1)
  have en:l'.nm=l.nm:=by rw[e];rfl
  have nb:=gl.nm
  exact .inr ⟨l,l',⟨rfl,rfl⟩,en.symm,ne,⟨by(exists[],[_,_],0x83108381058,en,nb.1),by exists[_],[_,_],0x180a0f28a0300f28a1381058,en,nb.2⟩,λm hm e=>by rw[P5 nms hm ml' e]⟩
def ES.mono{now:Int}{P Q:Str×Str->Prop}(f :∀p,P p->Q p)(h:ES Ls Ls' now s u P):ES Ls Ls' now s u Q:=by
 obtain⟨F,h⟩:=h
 refine⟨F,λbs r=>?_⟩
 obtain⟨h1,ops,h2,h3,h4,h5,h6,h7,ſ,h9⟩:=h bs r
 exact⟨h1,ops,h2,h3,h4,h5,h6,h7,ſ,f _ h9⟩
def RM{st:Int}(h:Ů k Ls s u)(hk:k<=68):jQ k Ls (E5 (1+(k:Int)) st Ls) s u:=by
 have p1:(0:Int)<(Ls.length:Int)+1:=by exists 1,0x1800fa084
 have a0:=aM6 (st.fdiv 3) p1
 have a1:=aX3 (st.fdiv 3) p1
 unfold E5 Rn
 split
 ·exact QZ h (by exists[_,_],[_],0x10080e10f581800fa048,a1,(aD1 _))
 ·split
  ·exact QQ h (by exists[_,_],[_],0x10080e10f581800fa048,a1,(aD1 _))
  ·exact RU h a0 hk
def Qx:Qk Ů where
 zero:=⟨λl hl=>by
  have e:l.row=[0,1,2,3]/\l.made=4/\0<=l.nm/\l.nm<=2:=by
   rcases aC4.mp hl with rfl | hl
   ·exact⟨rfl,rfl,by decide,by decide⟩
   ·rcases aC4.mp hl with rfl | hl
    ·exact⟨rfl,rfl,by decide,by decide⟩
    ·rw[aB1.mp hl];exact⟨rfl,rfl,by decide,by decide⟩
  obtain⟨e1,e2,e3,e4⟩:=e
  exact⟨by rw[e1];decide,by rw[e1,e2];decide,by rw[e1];decide,by rw[e2];decide,e3,by exists[],[_],0x80f28a0328038,e4⟩,aB6 _,by show([0,1,2]:List Int).Nodup;decide,.inl ⟨rfl,rfl⟩⟩
 deed k Ls s u hk h:=⟨λl hl=>(h.ok l hl).ok (by exists 1,0x469000000449008,hk),by have:=h.len;(exists 2,0x320910038a1080000449008,hk,this),λl hl x=>by
  have:=((h.ok l hl).dg x).len;have:=(h.ok l hl).len;rename_i u0;exists 3,0x3e8910004c48a208482a1080000449008,hk,u0,this⟩
 turn k Ls s u st hk h:=by
  have O:=RM (st:=st) h (aD8 hk)
  refine⟨λl hl=>(O.ok l hl).ok (by exists 1,0x469180a00000449018,hk),by have:=O.len;(exists 2,0x321910180a38a1080000449018,hk,this),⟨by rw[BV];have:=O.len;(exists 2,0x186a0910180a38a1080000449018,hk,this),λ_=>Fa O.nms λl hl=>(O.ok l hl).nm.1⟩,O.pl.mono λp hp=>⟨O.ok,O.len,O.nms,hp⟩⟩
end
end Mine
end
section
open PySem PySem.W PyProof.Rows
namespace Mine
theorem Iq{L:Ci}{G:ļ}{n:Nat}{P:aD6}{h:aE8} :∀{ns:List Int} {vs:List Value},WellAll P h vs (ns.map bI0)->AX L G h n (ù ns) vs
 | [],_,r=>by cases r;exact rfl
 | i::ns,_,r=>by
  cases r with
  | cons a b=>
   cases a with
   | int i t=>exact⟨_,_,rfl,bO8 i,Iq b⟩
def Qu{R:WRecords}(xs:List WData):bB4 R xs .int=true->∃ns:List Int,xs=ns.map bI0:=
 aB7 (λ_=>⟨[],rfl⟩) (λx r ih h=>
  (ih (aG5.mp (show(bJ2 R x .int&&bB4 R r .int)=true from h)).2).elim λns e=>by
   have h1:bJ2 R x .int=true:=(aG5.mp (show(bJ2 R x .int&&bB4 R r .int)=true from h)).1
   cases x with
   | int i=>exact⟨i::ns,bO1 _ e⟩
   | _=>exact aV0 (h1:false=true)) xs
def KI{R:WRecords}{d:WData}(h:bJ2 R d (.list .int)=true) :∃ns:List Int,d = .list (ns.map bI0):=by
 cases d with
 | list xs=>
  exact(Qu xs ((Bool.or_false _).symm.trans (h:(bB4 R xs .int||false)=true))).imp λns e=>bO1 _ e
 | _=>exact aV0 (h:false=true)
noncomputable def Yg(t:Tok):Option Str:=bif aE0 t 404||aE0 t 405 then some ⟨#[]⟩else none
noncomputable def tT:ļ:=⟨λ_=>none,λ_=>0,λ_=>0,Yg⟩
def Ul{k:Nat}(hk:kF<=k)(t:Tok)(x:Str)(h:Yg t=some x):t<k:=by
 refine aC0 ?_ hk
 unfold Yg at h
 cases e:(aE0 t 404||aE0 t 405)with
 | false=>rw[e]at h;exact nomatch h
 | true=>
  rcases aV5.mp e with q | q
  ·cases aB8 q;decide
  ·cases aB8 q;decide
def pL:P2 Za.row (λw=>ë w.params) kF (.ref 266):=by
 intro w s₀ s₁ Y hk hg args vals hpre hwl
 obtain⟨hsh,hcond⟩:=pre_splitW hpre
 obtain⟨d,r,rfl,h1,h2⟩:=hasAllW_cons (es:=[]) hsh
 obtain rfl:=hasAllW_nil h2
 obtain⟨ns,rfl⟩:=KI h1
 have hlen:ns.length<=63:=by
  have hx:(ns.map bI0).length=ns.length:=aA6 ..
  clear hpre hsh
  have hc:WTm.holds Za.row.records (.and (.not (.lt (.lit (.int 63)) (.len (.arg 0)))) (.lit (.bool true))) {args:=[.list (ns.map bI0)]}=true:=hcond
  w_cond hc
  rename_i u0 _;omega
 cases hwl with
 | cons hv hn=>
 cases hn
 cases hv with
 | list hl hI=>
 rename_i l us
 have no :∀a,¬ tT.own a:=λa z=>z rfl
 refine enter_call (aQ6 (Z3 (w:=w) Qx (d:=0) (A:=callerA) (s:=s₁) (G:=tT) (as:=[.lst (ù ns)]) (os:=[]) (Q:=λr _=>r = .bool true) (vas:=[.ref l]) ⟨rfl,by decide +kernel,by decide +kernel⟩ ⟨λa h=>(no a h).elim,λa h=>(no a h).elim,Y,?_,Ul hk,⟨rfl,rfl⟩⟩ (λ_ _=>AA) ?_ ⟨ns,rfl,rfl,hlen,rfl⟩).2 λres s' hr=>?_)
 ·have ho':(ë w.params).get? 266=some ((Hk w.params).getD 266 default):=by rfl'
  have:=aK9 (Y _ _ ho')
  show(Hk w.params).length<=_
  rw[gF]
  exact this
 ·exact⟨_,_,rfl,⟨l,us,rfl,⟨(0,none),hl⟩,no l,Iq hI⟩,rfl⟩
 ·obtain⟨v,rfl,hb⟩:=hr
  cases hb with
  | mk τ up tk le r os' hq hrs hol hoc hk' hsz hgs hos hO hv=>
  subst hq
  obtain rfl:v = .bool true:=hv
  refine GoodW.toG ⟨.inl ⟨_,.bool true,[],rfl,λcls=>rfl,.bool true,?_,λ_=>⟨bH4,λa h=>bO4 h (by simp)⟩⟩,λb o e=>hk' b o e λz=>no b (ļ.mt_own z),hos,hgs.trans hg⟩
  wrow_post
def all_holds:PySem.Challenge.rw_dm0059_04.Holds:=VY pL
end Mine
end
end
set_option maxRecDepth 100000 in
set_option maxHeartbeats 8000000 in
theorem PySem.Challenge.cw_dm0059_04_holds : PySem.Challenge.rw_dm0059_04.Holds := by
 exact Mine.all_holds
