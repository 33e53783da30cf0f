import PyProof.Rows.All
import Wide.All
import OpenK.AllK
import Wide.FinOn
import Open.Tops
import Lean
import PySem.Challenge.RW_dm0059_09
set_option Elab.async false
set_option linter.all false
set_option maxRecDepth 100000
set_option maxHeartbeats 0
set_option genSizeOf false
set_option genInjectivity false
noncomputable section
open PySem.Str renaming ofString→aA0
open PySem renaming wpAny_bind→aA1,wpAny_pure→aA4,Shared→aA5,Addr→aC2,model→aC6,wpAny→aC8,World→aC9,Params→aD7,Builtin→aD8,builtinLookup_eq_fast→aE2,Heap→aF2,Program→aF3,wpAny_call_entry→aG7,Stmt→aG8,Around→aH1,typeLookup_type→aH3,Arguments→aH7,Comprehension→aI7,SetTable→aI8,typeLookup→aI9,wpAny_callSpecial?_slot→aJ0,wpAny_holding→aJ1,wpAny_newObj_type→aK7,codeAny_mono→aL2,isSubtype_type→aM0,mainGlobals→aM1,wpAny_standAt→aM4,wpAny_truthy_bool→aM7,wpAny_setField→aM9,Spec→aN2,codeAny_call_builtin→aN6,codeAny→aO8,wpAny_mono→aP1,DictEntry→aP3,assignInOrder→aP8,getMethod_builtin→aQ4,wpAny_rule→aQ8,codeAny_builtin→aR1,wpAny_askSetting→aR8,wpAny_seqItems→aS5,NameKind→aS7,pyIter→aS8,isSubtype→aT6,entryFor_of_tree→aT7,OsState→aU1,wpAny_load→aU3,letOwnedTupleGo→aU8,wpAny_attempt→aU9,plainId_quiet→aV0,pyNext→aV4,wpAny_field→aW3,rawInt→aW4,firstArgMember→aW5,wpAny_of_eq→aW6,argsOk→aW7,wpAny_call→aW8,checkBoundCall→aX0,setsByText→aX2,holding→aX6,wpAny_isInstance→aX7,FuncData→aY3,sizeLine→aY4,entryFor→aY5,wpAny_specialOf→aZ2,BindsTo→aZ4,wpAny_isSame_plain→aZ8,isInstance→aZ9,slot_listiter_next→bA0,builtinsNs→bA1,treeTable→bA4,compareOp→bA6,codeAny_call_builtin_at→bA9,getMethod→bB0,wpAny_loadPart→bC0,getAttr→bC2,wpAny_pyIter_slot→bC3,wpAny_pyIter_enum→bC6,Setting→bC7,bindArgs→bC8,setState→bE2,wpAny_updateSeq→bE6,wpAny_contains_slot→bF1,Fin→bF9,specialOf→bG0,call_meets→bG1,Result→bG3,keeperOf→bG4,entryFor_alias→bG6,Model→bH0,builtinKind→bH1,signature?_of→bH4,swappedStores→bH7,Operator→bI2,wpAny_eqBool_int→bI4,call_meetsIn→bI9,CmpOp→bJ3,codeAny_of_tree→bJ4,wpAny_tryCatch→bK3,isSubtype_stop→bK4,unpackItems→bK5,UnaryOp→bL0,wpAny_handled→bL5,wpAny_release→bL7,GenState→bM2,wpAny_typeOf→bM4,Flow→bN0,BoolOp→bN2,wpAny_throw→bN5,wpAny_letGo→bN8,evalThenUse→bO0,Keyword→bO3,intKind_is→bO5,strKind_is→bO6,typeIs_int→bO9,wpAny_Name→bP1,wpAny_For→bP6,ElemsOf→bQ0,Code→bQ2,Meets→bQ3,Slot→bQ4
open Nat renaming le_trans→aA2,le_refl→aA6,lt_of_lt_of_le→aB2,le_of_eq→aB7,eq_of_beq_eq_true→aB8,lt_succ_self→aC1,zero_le→aD4,le_add_right→aD5,ne_of_lt→aE4,beq→aE6,lt_of_le_of_lt→aE9,le_succ_of_le→aF5,succ_le_succ→aF7,not_lt_zero→aG0,le_of_lt→aG2,add_le_add_left→aH8,zero_add→aH9,le_of_not_lt→aI0,lt_succ_of_lt→aI1,le_succ→aI4,add_right_comm→aL1,lt_irrefl→aL3,le_of_ble_eq_true→aL4,le_of_succ_le→aL7,exists_eq_add_of_le→aL8,add_sub_cancel_left→aN4,add_le_add_right→aN7,lt_add_of_pos_right→aN8,add_assoc→aN9,ne_of_gt→aO2,le_antisymm→aO4,add_right_cancel→aQ0,not_lt→aR0,add_zero→aR4,succ→aS3,lt_of_succ_lt→aT0,lt_or_ge→aT1,le_of_lt_succ→aT3,max_eq_right→aT5,add_comm→aU0,eq_zero_of_not_pos→aU5,le_of_add_right_le→aU6,rec→aV6,add_le_add→aX3,min_eq_right→aX4,ble→aX9,min_eq_left→aY9,min_le_left→aZ1,pos_of_ne_zero→aZ7,lt_or_eq_of_le→bA2,exists_eq_add_of_lt→bA5,succ_pos→bB4,lt_trans→bB8,lt_of_succ_lt_succ→bC4,succ_sub_succ→bC9,lt_of_not_le→bD5,one_pos→bE0,mul_le_mul_right→bE3,max_eq_left→bE4,add_lt_add_left→bE8,add_sub_cancel'→bE9,sub_self→bF4,le_total→bF8,mod_lt→bG7,sub_zero→bI6,max_comm→bJ0,le_max_left→bJ5,mul_two→bJ9,lt_one_iff→bK8,sub_lt→bL8,blt→bM9,le_min→bO4,not_le→bP2
open Option.some renaming inj→aA3
open List renaming mem_singleton→aA7,getElem?_eq_getElem→aA9,length_append→aB0,getElem?_eq_some_iff→aB3,rec→aB4,length_map→aB5,mem_cons_self→aC0,mem_cons_of_mem→aC7,append_assoc→aD1,getElem?_map→aD6,mem_append→aD9,append_nil→aE1,getElem?_toArray→aE3,pairwise_append→aF0,mem_cons→aF4,take_of_length_le→aF6,drop_eq_getElem_cons→aF9,mem_append_left→aH2,map_append→aH4,getElem?_eq_none→aH6,pairwise_iff_getElem→aJ2,take_length→aJ4,mem_append_right→aJ9,range→aK4,eq_nil_of_length_eq_zero→aK9,mem_of_getElem?→aM2,foldl_append→aM8,range_succ→aN1,length_cons→aN5,mem_map→aO0,getElem?_eq_none_iff→aO7,pairwise_cons→aP2,take_add_one→aQ2,pairwise_singleton→aQ3,filter_cons_of_pos→aQ6,filter_cons_of_neg→aQ7,countP_eq_length_filter→aQ9,map_map→aR5,flatMap_singleton→aR6,map_cons→aR7,getElem?_append_right→aS2,length_range→aT2,flatMap_append→aT4,filter_append→aU4,take_append_drop→aV3,filterMap_append→aV5,pairwise_map→aV7,reverse_cons→aV9,mem_iff_getElem→aW0,getElem?_of_mem→aW9,length_take→aX5,getElem_mem→aX8,getElem?_append_left→aY0,map→aY8,mem_filter→aZ0,nodup_cons→aZ3,getElem?_drop→aZ5,reverse_perm→bB7,pairwise_lt_range→bB9,drop_of_length_le→bC5,length_filter_le→bD2,eq_nil_or_concat→bD3,concat_eq_append→bD4,Perm→bD6,mem_map_of_mem→bF0,filterMap_cons→bF2,length_reverse→bF3,drop_sublist→bG9,Pairwise→bH3,any_eq_true→bI0,all_eq_true→bI3,nil_append→bJ2,drop_zero→bK0,mem_range→bK1,lookup→bK6,cons→bN3,filter→bO2
open False renaming elim→aA8
open PySem.Heap renaming get?_push_of_some→aB1,get?_push_size→aC4,size_push→aE7,SameBut→aG3,get?_update_other→aJ5,get?_update_self→aJ8,lt_size→aK2,size_update→aK5,get?_none_of_le→aX1,ExtBut→bA7
open PyProof.Rows renaming Keyed→aB6,wpS_bind→aC3,SortSt→aC5,wpS_pure→aD2,kindOf→aE8,wpS_forRange→aL0,SortKind→aS0,wpS_mono→aS1,wpS_lift→bI1,wpS_modify→bI5,listUpdate_at→bL6,seqEpoch_at→bN9,oneLt'_eq→bP5
open Array renaming getElem?_eq_getElem→aB9,length_toList→aF1,getElem?_toList→aI2,size_reverse→aI3,toList_append→aK1,getElem_mem→aK6,toList_reverse→aK8,size_push→aO5,getElem?_eq_some_iff→aW1,size_extract→aZ6,toList_push→bB5,size_append→bB6,mem_toList_iff→bE1,any_toList→bH9,any→bP4
open Int renaming ofNat_lt→aD0,toNat_natCast→aG5,toNat_eq_max→aH0,le_of_lt→aK0,le_trans→aL5,ofNat_le→aM5,natCast_nonneg→aO9,not_lt→aP0,zero_add→aR3,lt_of_le_of_lt→aS4,le_refl→aT8,add_zero→aT9,add_sub_cancel→bA3,zero_mul→bB3,fmod_nonneg_of_pos→bD0,not_le→bI8,mul_add→bJ6,neg_mul→bJ7,mul_nonneg→bJ8,ofNat→bK9,add_assoc→bL3,mul_assoc→bL4,mul_zero→bM0,mul_comm→bM1,lt_trans→bM3,one_mul→bN4,negSucc→bN6
open LawfulBEq renaming eq_of_beq→aD3
open Option renaming map→aE0,rec→aE5,map_eq_some_iff→aO1,isSome_iff_exists→aY6,bind→bO1
open PySem.W renaming Looks→aF8,boot_heap→bD8,Frag→bH5,plainGet_of→bN7,check_slot→bO8,boot_drawn→bP3,boot_toks→bP7,SharedT→bP8
open PySem.AutoSeq1 renaming wpAny_loadPart'→aG1
open PySem.Builtin renaming divisionGoesByPylong→aG4
open PySem.NameKind renaming free→aG6,cell→aV1,rec→bM6
open PySem.SetTable renaming below→aG9,grown→aS6,insertAt→bG8
open PySem.Challenge renaming pw_dm0059_09→aH5
open PySem.Heap.SameBut renaming update→aI5
open Bool renaming and_eq_true_iff→aI6,and_eq_true→aJ3,false_eq_true→aJ6,rec→aK3,false_ne_true→aP5,eq_false_iff→aQ1,noConfusion→aR9,not_eq_true'→aS9,eq_iff_iff→bE5,not_true→bH6,or_eq_true→bJ1,and_false→bK2
open PySem.Obj renaming mapSeq→aJ7,mapFields→bH8
open PySem.F renaming slot_tuple_iterator_next→aL6,slot_dict_getattribute→aP6,slot_set_getattribute→aP9,plainAttrs_list→aQ5,called_set→aU2,plain_extend_loop→aY1,slot_tuple_iter→bA8,plainAttrs_dict→bB1,slot_dict_get→bD1
open PySem.Around renaming under_plainId→aL9
open Int.ofNat renaming inj→aM3
open PySem.Builtin.SmallTypes renaming nextOf→aM6
open PySem.W.Looks renaming of_peek→aN0,of_pure→bD9,ld→bM5
open PySem.Value renaming none→aN3,ref→aO3,type→aW2,int→bD7,str→bN1
open Classical renaming byContradiction→aO6,em→aP7
open PySem.Sem renaming wp→aP4
open ForInStep renaming yield→aR2
open PySem.Builtin.Builtins renaming binaryNamed→aU7
open List.Perm renaming append_left→aV2
open PySem.Builtin.List renaming listExtendWith→aV8,listItems→bC1
open List.Pairwise renaming imp_of_mem→aY2
open Prod renaming ext→aY7
open PySem.SeqAt renaming EqAt→bB2,RcNeAt→bI7,RcAt→bO7
open PySem.W.WShape renaming hasItems→bE7,has→bL9
open Ne renaming symm→bF5
open Nat.succ renaming inj→bF6
open PySem.Code renaming builtin→bF7,quiet_builtin→bG2
open PySem.PyData renaming keyHash→bG5
open PySem.Bind renaming madeBy→bH2
open PySem.W.SharedT renaming abs→bK7
open Iff renaming rfl→bL1
open PySem.W.WData renaming int→bL2
open PySem.Stmt renaming casesOn→bM7
open PySem.pickOrder renaming go→bM8
open PySem.IsL renaming update→bP0
open Eq renaming refl→bP9
open PySem.Slot renaming of→bQ1
namespace Mine
def bQ5:=@congrArg
def bQ6:=@if_pos
def bQ7:=@if_neg
def bQ8:=@absurd
def bQ9:=@decide_eq_true
def bR0:=@decide_eq_false
def bR1:=@of_decide_eq_true
def bR2:=@beq_self_eq_true
def bR3:=@beq_eq_false_iff_ne
def bR4:=@decide_eq_decide
end Mine
open Mine
local macro_rules
 | `(tactic| rfl') => `(tactic| kernel_rfl)

section
open PySem PySem.W PyProof.Rows
namespace Mine
def YO{α:Type}(as:Array α)(p:α->Bool)(a b:Nat):Bool:=
 aK3 (as.any p a b) (R.anyR as.toList p) (aE6 a 0&&aE6 b as.size)
def UL:@bP4.{0}=@YO:=by
 funext α as p a b
 unfold YO
 cases h:(aE6 a 0&&aE6 b as.size)with
 | false=>rfl
 | true=>
  obtain⟨h1,h2⟩:=aI6.mp h
  have:=aB8 h1
  subst this
  have:=aB8 h2
  subst this
  show as.any p 0 as.size=R.anyR as.toList p
  rw[<-bH9]
  exact congrFun (congrFun (congrFun R.anyR_eq α) as.toList) p
abbrev L0:Type 1:=(α:Type)->(as:Array α)->(p:α->Bool)->(start:Nat)->(stop:Nat)->Bool
inductive ZD:(L0->aD8)->aD8->L0->Type 2
 | mk (F:L0->aD8) (a:L0):ZD F (F a) a
structure kH(v:aD8)(a:L0):Type 2 where
 F:L0->aD8
 h:ZD F v a
def kH.ok{v:aD8}{a:L0}(x:kH v a):v=x.F a:=by
 obtain⟨F,h⟩:=x
 cases h
 rfl
def rV:kH Fast.tw4202317264376624991 (@bP4.{0}):=by
 apply kH.mk
 delta Fast.tw4202317264376624991
 generalize @bP4.{0}=any
 exact ZD.mk _ @any
def tnB:aD8:=rV.F (@YO)
def Y7:aD8.«type.__new__» = tnB:=by
 refine Fast.te4202317264376624991.trans (rV.ok.trans ?_)
 exact bQ5 rV.F UL
noncomputable def g8(b:aD8)(id:String):Option aD8:=if id == "type.__new__" then some b else bA4 id
def X2:bA4=g8 aD8.«type.__new__»:=by
 funext id
 unfold g8
 by_cases h:(id == "type.__new__")=true
 ·rw[bQ6 h,aD3 h]
  rfl'
 ·rw[bQ7 h]
lay_quick Mine.g8
def j7:String->Option aD8:=g8 tnB
def ZP:bA4=j7:=X2.trans (bQ5 g8 Y7)
end Mine
end
section
open PySem PySem.W PyProof.Rows
def PySem.W.Fast.tw1544363975561320374:aD8:=Mine.tnB
def PySem.W.Fast.te1544363975561320374:Mine.tnB=PySem.W.Fast.tw1544363975561320374:=rfl
end
section
open PySem PySem.W PyProof.Rows
namespace Mine
lay_quick Mine.j7
noncomputable def I7:Option Value:=some (.ref 6)
def Vs(n:Nat)(w:aC9)(p:aF3)(l b:List aG8)(s:bP8)(e:Env):Option (bN0×bP8×bQ2×Pos):=
 segRunT j7 p w 11 I7 1 n s (piecesOf l e (.body b e) ⟨0,0,0,0⟩ [topFrame ⟨0,0,0,0⟩])
lay_quick Mine.Vs
noncomputable def A1:Option aG8->List aG8
 | some (.ClassDef _ _ _ b _ _ _ _ _ _ _)=>b
 | _=>[]
noncomputable def AI:Pos:={line:=0,col:=0,endLine:=0,endCol:=0}
end Mine
end
namespace Mine
@[elab_as_elim] theorem s6{α:Sort u}{b:α}{m:α->Prop}{a:α}(h:a=b)(q:m b):m a:=h▸q
end Mine
local macro_rules
 | `(tactic| rwa[$t:term,$ts,*])=>`(tactic| (refine Mine.s6 $t ?_;rwa[$ts,*]))
local macro_rules
 | `(tactic| rwa[$t:term])=>`(tactic| refine Mine.s6 $t ?_)
namespace Lq
inductive þ where
 | v (i:Nat) | k (n:Nat) | a (x y:þ) | s (x y:þ) | m (n:Nat) (x:þ) | mi (x y:þ) | ma (x y:þ) | c (x:þ) | g (x:þ)
inductive ſ where
 | le (x y:þ) | lt (x y:þ) | eq (x y:þ) | il (x y:þ) | it (x y:þ) | ie (x y:þ) | an (p q:ſ) | or(p q:ſ) | im (p q:ſ) | no (p:ſ) | fa
noncomputable abbrev GL{α}(d:α):List α->Nat->α
 | [],_=>d
 | a::_,0=>a
 | _::r,i+1=>GL d r i
noncomputable abbrev þ.dn(c:List Nat):þ->Nat
 | v i=>GL 0 c i
 | k n=>n
 | a x y=>x.dn c+y.dn c
 | s x y=>x.dn c-y.dn c
 | m n x=>n*x.dn c
 | mi x y=>min (x.dn c) (y.dn c)
 | ma x y=>max (x.dn c) (y.dn c)
 | .c x=>x.dn c
 | g x=>x.dn c
noncomputable abbrev þ.di(c:List Nat)(z:List Int):þ->Int
 | v i=>GL 0 z i
 | k n=>n
 | a x y=>x.di c z+y.di c z
 | s x y=>x.di c z-y.di c z
 | m n x=>n*x.di c z
 | mi x y=>min (x.di c z) (y.di c z)
 | ma x y=>max (x.di c z) (y.di c z)
 | .c x=>(x.dn c:Int)
 | g x=>- x.di c z
abbrev ſ.dn(c:List Nat)(z:List Int):ſ->Prop
 | le x y=>x.dn c<=y.dn c
 | lt x y=>x.dn c<y.dn c
 | eq x y=>x.dn c=y.dn c
 | il x y=>x.di c z<=y.di c z
 | it x y=>x.di c z<y.di c z
 | ie x y=>x.di c z=y.di c z
 | an p q=>p.dn c z/\q.dn c z
 | or p q=>p.dn c z\/q.dn c z
 | im p q=>p.dn c z->q.dn c z
 | no p=>¬ p.dn c z
 | fa=>False
noncomputable abbrev pT:Nat->Nat->(þ->Nat->ſ)->ſ
 | 0,_,_=>.fa
 | f+1,n,r=>
  let t:=n%16
  let n:=n / 16
  if t<8 then r (.v t) n else if t=8 then r (.k (n%16)) (n / 16)else if t=9 then r (.k (n%16777216)) (n / 16777216)
  else if t=10 then pT f n λx n=>pT f n λy=>r (.a x y)else if t=11 then pT f n λx n=>pT f n λy=>r (.s x y)
  else if t=12 then pT f (n / 256) λx=>r (.m (n%256) x)
  else if t=13 then pT f n λx n=>pT f n λy=>r (.mi x y)else if t=14 then pT f n λx n=>pT f n λy=>r (.ma x y)
  else if n%16=0 then pT f (n / 16) λx=>r (.c x)else if n%16=1 then pT f (n / 16) λx=>r (.g x)else r (.v (n%16+6)) (n / 16)
noncomputable abbrev Ň:Nat->Nat->(ſ->Nat->ſ)->ſ
 | 0,_,_=>.fa
 | f+1,n,r=>
  let t:=n%16
  let n:=n / 16
  if t<6 then pT f n λx n=>pT f n λy=>r (if t=0 then .le x y else if t=1 then .lt x y else if t=2 then .eq x y else if t=3 then .il x y else if t=4 then .it x y else .ie x y)
  else if t=6 then Ň f n λp n=>Ň f n λq=>r (.an p q)else if t=7 then Ň f n λp n=>Ň f n λq=>r (.or p q)
  else if t=8 then Ň f n λp n=>Ň f n λq=>r (.im p q)else if t=9 then Ň f n λp=>r (.no p)else r .fa n
abbrev rd(n:Nat):ſ:=Ň 60 n λp _=>p
abbrev ĥ:=Int×List Int
noncomputable def RC:List Int->List Int->List Int
 | [],l=>l
 | l,[]=>l
 | a::l,b::m=>(a+b)::RC l m
noncomputable def Tt(k:Int)(l:List Int):List Int:=l.map (k * ·)
def ĥ.add(p q:ĥ):ĥ:=(p.1+q.1,RC p.2 q.2)
def ĥ.mul(k:Int)(p:ĥ):ĥ:=(k*p.1,Tt k p.2)
noncomputable def K2:Nat->List Int
 | 0=>[1]
 | i+1=>0::0::K2 i
def ĥ.le(p q:ĥ):ĥ:=q.add (p.mul (-1))
def ĥ.lt(p q:ĥ):ĥ:=((p.le q).1-1,(p.le q).2)
abbrev CN:=Bool×ĥ
def YW(p q:ĥ)(r1 r2:List CN->Bool)(cs:List CN):Bool:=
 bif cs.contains (false,p.le q)then r1 cs else bif cs.contains (false,q.lt p)then r2 cs else r1 ((false,p.le q)::cs)&&r2 ((false,q.lt p)::cs)
noncomputable def þ.cn:þ->(ĥ->List CN->Bool)->List CN->Bool
 | v i,r,cs=>r (0,K2 i) cs
 | k n,r,cs=>r (n,[]) cs
 | a x y,r,cs=>x.cn (λp=>y.cn λq=>r (p.add q)) cs
 | s x y,r,cs=>x.cn (λp=>y.cn λq=>YW q p (r (p.add (q.mul (-1)))) (r (0,[]))) cs
 | m n x,r,cs=>x.cn (λp=>r (p.mul n)) cs
 | mi x y,r,cs=>x.cn (λp=>y.cn λq=>YW p q (r p) (r q)) cs
 | ma x y,r,cs=>x.cn (λp=>y.cn λq=>YW p q (r q) (r p)) cs
 | c x,r,cs=>x.cn r cs
 | g x,r,cs=>x.cn r cs
noncomputable def þ.ci:þ->(ĥ->List CN->Bool)->List CN->Bool
 | v i,r,cs=>r (0,0::K2 i) cs
 | k n,r,cs=>r (n,[]) cs
 | a x y,r,cs=>x.ci (λp=>y.ci λq=>r (p.add q)) cs
 | s x y,r,cs=>x.ci (λp=>y.ci λq=>r (p.add (q.mul (-1)))) cs
 | m n x,r,cs=>x.ci (λp=>r (p.mul n)) cs
 | mi x y,r,cs=>x.ci (λp=>y.ci λq=>YW p q (r p) (r q)) cs
 | ma x y,r,cs=>x.ci (λp=>y.ci λq=>YW p q (r q) (r p)) cs
 | c x,r,cs=>x.cn r cs
 | g x,r,cs=>x.ci (λp=>r (p.mul (-1))) cs
def Dx(b:Nat)(r:List CN->Bool)(p q:ĥ)(cs:List CN):Bool:=
 match b with
 | 0=>r ((false,p.le q)::cs)
 | 1=>r ((false,p.lt q)::cs)
 | 2=>r ((true,p.le q)::cs)
 | _=>r ((false,p.lt q)::cs)&&r ((false,q.lt p)::cs)
noncomputable def ſ.br:ſ->Bool->(List CN->Bool)->List CN->Bool
 | le x y,true,r,cs=>x.cn (λp=>y.cn (Dx 0 r p)) cs
 | le x y,false,r,cs=>x.cn (λp=>y.cn λq=>Dx 1 r q p) cs
 | lt x y,true,r,cs=>x.cn (λp=>y.cn (Dx 1 r p)) cs
 | lt x y,false,r,cs=>x.cn (λp=>y.cn λq=>Dx 0 r q p) cs
 | eq x y,true,r,cs=>x.cn (λp=>y.cn (Dx 2 r p)) cs
 | eq x y,false,r,cs=>x.cn (λp=>y.cn (Dx 3 r p)) cs
 | il x y,true,r,cs=>x.ci (λp=>y.ci (Dx 0 r p)) cs
 | il x y,false,r,cs=>x.ci (λp=>y.ci λq=>Dx 1 r q p) cs
 | it x y,true,r,cs=>x.ci (λp=>y.ci (Dx 1 r p)) cs
 | it x y,false,r,cs=>x.ci (λp=>y.ci λq=>Dx 0 r q p) cs
 | ie x y,true,r,cs=>x.ci (λp=>y.ci (Dx 2 r p)) cs
 | ie x y,false,r,cs=>x.ci (λp=>y.ci (Dx 3 r p)) cs
 | an p q,true,r,cs=>p.br true (q.br true r) cs
 | an p q,false,r,cs=>p.br false r cs&&q.br false r cs
 | or p q,true,r,cs=>p.br true r cs&&q.br true r cs
 | or p q,false,r,cs=>p.br false (q.br false r) cs
 | im p q,true,r,cs=>p.br false r cs&&q.br true r cs
 | im p q,false,r,cs=>p.br true (q.br false r) cs
 | no p,b,r,cs=>p.br (!b) r cs
 | fa,true,_,_=>true
 | fa,false,r,cs=>r cs
noncomputable def EU:ĥ->Int
 | (_,[])=>0
 | (_,a::_)=>a
noncomputable def kO(p:ĥ):ĥ:=(p.1,p.2.tail)
def JU(m n:Int)(p q:ĥ):ĥ:=((kO p).mul m).add ((kO q).mul n)
def Ur(e:ĥ)(c:CN):CN:=(c.1,bif EU e<0 then JU (- EU e) (EU c.2) c.2 e else JU (EU e) (- EU c.2) c.2 e)
def fT(cs:List CN):List CN:=
 let Ā:=cs.filter (EU ·.2<0)
 cs.filterMap (λp=>if EU p.2=0 then some (p.1,kO p.2)else none)++(cs.filter (0<EU ·.2)).flatMap λp=>Ā.map λq=>(false,JU (- EU q.2) (EU p.2) p.2 q.2)
def Sw(cs:List CN):List CN:=
 match cs.find? λc=>c.1&&EU c.2 != 0 with
 | some e=>cs.map (Ur e.2)
 | none=>fT cs
noncomputable def Yg(p:ĥ):Bool:=p.2.all (· = 0)
def l8(p:CN):Bool:=Yg p.2&&(p.2.1<0||(p.1&&0<p.2.1))
noncomputable def ů:Nat->Bool->List CN->Bool
 | 0,_,cs=>cs.any l8
 | f+1,b,cs=>cs.any l8||(let cs:=cs.filter (λp=>!Yg p.2);if cs.isEmpty||150<cs.length then false else ů f (!b) (Sw (bif b then(false,(0,[1]))::cs else cs)))
def chk(n:Nat):Bool:=(rd n).br false (ů 40 true) []
section
variable{c:List Nat}{z:List Int}
noncomputable def ev(f:Nat->Int):List Int->Int
 | []=>0
 | a::l=>a*f 0+ev (λi=>f (i+1)) l
noncomputable def Zy(f g:Nat->Int)(i:Nat):Int:=aV6 (motive:=λ_=>(Nat->Int)->(Nat->Int)->Int) (λf _=>f 0) (λ_ r f g=>r g λj=>f (j+1)) i f g
noncomputable def env(c:List Nat)(z:List Int):Nat->Int:=Zy (λi=>(GL 0 c i:Nat)) (GL 0 z)
def ĥ.val(f:Nat->Int)(p:ĥ):Int:=p.1+ev f p.2
def tL(a b c d:Int):a+b+(c+d)=a+c+(b+d):=by rw[bL3,bL3,Int.add_left_comm b]
theorem Sk :∀(f:Nat->Int) (l m:List Int),ev f (RC l m)=ev f l+ev f m
 | f,[],m=>(aR3 _).symm
 | f,a::l,[]=>(aT9 _).symm
 | f,a::l,b::m=>by
  show(a+b)*f 0+ev _ (RC l m)=(a*f 0+ev _ l)+(b*f 0+ev _ m)
  rw[Sk,Int.add_mul];exact tL ..
theorem ST(k:Int) :∀(f:Nat->Int) (l:List Int),ev f (Tt k l)=k*ev f l
 | f,[]=>(bM0 k).symm
 | f,a::l=>by
  show(k*a)*f 0+ev _ (Tt k l)=k*(a*f 0+ev _ l)
  rw[ST,bJ6,bL4]
def EQ(f:Nat->Int)(p q:ĥ):(p.add q).val f=p.val f+q.val f:=by
 show p.1+q.1+ev f (RC p.2 q.2)=_
 rw[Sk];exact tL ..
def DD(f:Nat->Int)(k:Int)(p:ĥ):(p.mul k).val f=k*p.val f:=by
 show k*p.1+ev f (Tt k p.2)=k*(p.1+_)
 rw[ST,bJ6]
def Gk(f:Nat->Int)(p q:ĥ):(p.le q).val f=q.val f-p.val f:=by
 unfold ĥ.le;rw[EQ,DD,bJ7,bN4];rfl
def G7(f:Nat->Int)(p q:ĥ):(p.lt q).val f=q.val f-p.val f-1:=by
 rw[<-Gk];exact Int.add_right_comm _ (-1) _
theorem Ii :∀(i:Nat) (f g:Nat->Int),ev (Zy f g) (K2 i)=f i
 | 0,f,g=>by show 1*f 0+0=f 0;rw[bN4,aT9]
 | i+1,f,g=>by
  show 0*_+(0*_+ev (Zy (λj=>f (j+1)) λj=>g (j+1)) (K2 i))=_
  rw[Ii i,bB3,bB3,aR3,aR3]
def CN.is(f:Nat->Int)(c:CN):Prop:=match c.1 with
 | true=>c.2.val f=0
 | false=>0<=c.2.val f
def NQ(f:Nat->Int)(cs:List CN):Prop:=∀p∈cs,p.is f
def Ũ(f:Nat->Int)(r:List CN->Bool):Prop:=∀cs,NQ f cs->r cs=true->False
def tW(f:Nat->Int)(v:Int)(r:ĥ->List CN->Bool):Prop:=∀p,p.val f=v->Ũ f (r p)
def NQ.cons{f:Nat->Int}{p:CN}{cs:List CN}(h:p.is f)(s:NQ f cs):NQ f (p::cs):=λq hq=>(aF4.mp hq).elim (λe=>e▸h) (s q)
def NQ.c0{f:Nat->Int}{p:ĥ}{cs:List CN}(s:NQ f cs)(h:0<=p.val f):NQ f ((false,p)::cs):=s.cons (p:=(false,p)) h
def NQ.c1{f:Nat->Int}{p:ĥ}{cs:List CN}(s:NQ f cs)(h:p.val f=0):NQ f ((true,p)::cs):=s.cons (p:=(true,p)) h
def G1{f:Nat->Int}{p q:ĥ}{r1 r2}(h1:p.val f<=q.val f->Ũ f r1)(h2:q.val f<p.val f->Ũ f r2):Ũ f (YW p q r1 r2):=λcs s e=>by
 unfold YW at e
 have g1:CN.is f (false,p.le q)->p.val f<=q.val f:=λ(g:0<=(p.le q).val f)=>by rw[Gk]at g;omega
 have g2:CN.is f (false,q.lt p)->q.val f<p.val f:=λ(g:0<=(q.lt p).val f)=>by rw[G7]at g;omega
 cases c1:cs.contains (false,p.le q)with
 | true=>rw[c1]at e;exact h1 (g1 (s _ (List.contains_iff_mem.mp c1))) _ s e
 | false=>
  rw[c1]at e
  cases c2:cs.contains (false,q.lt p)with
  | true=>rw[c2]at e;exact h2 (g2 (s _ (List.contains_iff_mem.mp c2))) _ s e
  | false=>
   rw[c2]at e
   have e:=aJ3 _ _▸e
   by_cases l:p.val f<=q.val f
   ·exact h1 l _ (s.c0 (by rw[Gk];omega)) e.1
   ·exact h2 (by omega) _ (s.c0 (by rw[G7];omega)) e.2
def rC(i:Nat):ev (env c z) (K2 i)=(GL 0 c i:Nat):=Ii i _ _
def oT(i:Nat):ev (env c z) (0::K2 i)=GL 0 z i:=by
 show 0*_+ev (Zy (GL 0 z) λj=>(GL 0 c (j+1):Nat)) (K2 i)=_
 rw[Ii i,bB3,aR3]
theorem Ca :∀(x:þ) {r},tW (env c z) (x.dn c) r->Ũ (env c z) (x.cn r)
 | .v i,r,h=>h _ (by show 0+ev _ _=_;rw[rC];exact aR3 _)
 | .k n,r,h=>h _ (aT9 _)
 | .a x y,r,h=>Ca x λp hp=>Ca y λq hq=>h _ (by rewrite [EQ];rwa[hp,hq];rfl)
 | .m n x,r,h=>Ca x λp hp=>h _ (by rewrite [DD];rwa[hp];rfl)
 | .c x,r,h=>Ca x h
 | .g x,r,h=>Ca x h
 | .s x y,r,h=>Ca x λp hp=>Ca y λq hq=>G1 (λl=>h _ (by rewrite [EQ,DD];rwa[hp,hq];rw[hp,hq]at l;show _=((x.dn c-y.dn c:Nat):Int);omega)) λl=>h _ (by rw[hp,hq]at l;show(0:Int)+0=((x.dn c-y.dn c:Nat):Int);omega)
 | .mi x y,r,h=>Ca x λp hp=>Ca y λq hq=>G1 (λl=>h _ (by rw[hp,hq]at l;rwa[hp];exact bQ5 bK9 (aY9 (aM5.mp l)).symm)) λl=>h _ (by rw[hp,hq]at l;rwa[hq];exact bQ5 bK9 (aX4 (aG2 (aD0.mp l))).symm)
 | .ma x y,r,h=>Ca x λp hp=>Ca y λq hq=>G1 (λl=>h _ (by rw[hp,hq]at l;rwa[hq];exact bQ5 bK9 (aT5 (aM5.mp l)).symm)) λl=>h _ (by rw[hp,hq]at l;rwa[hp];exact bQ5 bK9 (bE4 (aG2 (aD0.mp l))).symm)
theorem DB :∀(x:þ) {r},tW (env c z) (x.di c z) r->Ũ (env c z) (x.ci r)
 | .v i,r,h=>h _ (by show 0+ev _ _=_;rw[oT];exact aR3 _)
 | .k n,r,h=>h _ (aT9 _)
 | .a x y,r,h=>DB x λp hp=>DB y λq hq=>h _ (by rewrite [EQ];rwa[hp,hq];rfl)
 | .m n x,r,h=>DB x λp hp=>h _ (by rewrite [DD];rwa[hp];rfl)
 | .c x,r,h=>Ca x h
 | .g x,r,h=>DB x λp hp=>h _ (by rewrite [DD];rwa[hp];show -1*x.di c z = - x.di c z;omega)
 | .s x y,r,h=>DB x λp hp=>DB y λq hq=>h _ (by rewrite [EQ,DD];rwa[hp,hq];show _=x.di c z-y.di c z;omega)
 | .mi x y,r,h=>DB x λp hp=>DB y λq hq=>G1 (λl=>h _ (by rw[hp,hq]at l;rwa[hp];exact(Int.min_eq_left l).symm)) λl=>h _ (by rw[hp,hq]at l;rwa[hq];exact(Int.min_eq_right (aK0 l)).symm)
 | .ma x y,r,h=>DB x λp hp=>DB y λq hq=>G1 (λl=>h _ (by rw[hp,hq]at l;rwa[hq];exact(Int.max_eq_right l).symm)) λl=>h _ (by rw[hp,hq]at l;rwa[hp];exact(Int.max_eq_left (aK0 l)).symm)
def Qq(b:Nat)(v w:Int):Prop:=match b with
 | 0=>v<=w
 | 1=>v<w
 | 2=>v=w
 | _=>v≠w
def GM{f:Nat->Int}{r}(h:Ũ f r){p q:ĥ} :∀{b:Nat},Qq b (p.val f) (q.val f)->Ũ f (Dx b r p q)
 | 0,e=>λcs s=>h _ (s.c0 (by rw[Gk];exact Int.sub_nonneg_of_le e))
 | 1,e=>λcs s=>h _ (s.c0 (by rw[G7];have e:p.val f<q.val f:=e;omega))
 | 2,e=>λcs s=>h _ (s.c1 (by rw[Gk];have e:p.val f=q.val f:=e;omega))
 | b+3,e=>λcs s y=>by
  have e:p.val f≠q.val f:=e
  have y:=aJ3 _ _▸y
  rcases Int.lt_or_gt_of_ne e with l | l
  ·exact h _ (s.c0 (by rw[G7];omega)) y.1
  ·exact h _ (s.c0 (by rw[G7];omega)) y.2
def FU{r}(h:Ũ (env c z) r)(x y:þ){b:Nat}(e:Qq b (x.dn c) (y.dn c)):Ũ (env c z) (x.cn λp=>y.cn (Dx b r p)):=
 Ca x λ_ hp=>Ca y λ_ hq=>GM h (by rwa[hp,hq];exact e)
def KT{r}(h:Ũ (env c z) r)(x y:þ){b:Nat}(e:Qq b (y.dn c) (x.dn c)):Ũ (env c z) (x.cn λp=>y.cn λq=>Dx b r q p):=
 Ca x λ_ hp=>Ca y λ_ hq=>GM h (by rwa[hp,hq];exact e)
def FA{r}(h:Ũ (env c z) r)(x y:þ){b:Nat}(e:Qq b (x.di c z) (y.di c z)):Ũ (env c z) (x.ci λp=>y.ci (Dx b r p)):=
 DB x λ_ hp=>DB y λ_ hq=>GM h (by rwa[hp,hq];exact e)
def Ku{r}(h:Ũ (env c z) r)(x y:þ){b:Nat}(e:Qq b (y.di c z) (x.di c z)):Ũ (env c z) (x.ci λp=>y.ci λq=>Dx b r q p):=
 DB x λ_ hp=>DB y λ_ hq=>GM h (by rwa[hp,hq];exact e)
def Ã(b:Bool)(P:Prop):Prop:=match b with
 | true=>P
 | false=>¬ P
theorem Cp :∀(p:ſ) {b:Bool} {r},Ũ (env c z) r->Ã b (p.dn c z)->Ũ (env c z) (p.br b r)
 | .le x y,true,r,h,e=>FU h x y (b:=0) (aM5.mpr e)
 | .le x y,false,r,h,e=>KT h x y (b:=1) (aD0.mpr (bD5 e))
 | .lt x y,true,r,h,e=>FU h x y (b:=1) (aD0.mpr e)
 | .lt x y,false,r,h,e=>KT h x y (b:=0) (aM5.mpr (aI0 e))
 | .eq x y,true,r,h,e=>FU h x y (b:=2) (bQ5 bK9 e)
 | .eq x y,false,r,h,e=>FU h x y (b:=3) λq=>e (aM3 q)
 | .il x y,true,r,h,e=>FA h x y (b:=0) e
 | .il x y,false,r,h,e=>Ku h x y (b:=1) (Int.lt_of_not_ge e)
 | .it x y,true,r,h,e=>FA h x y (b:=1) e
 | .it x y,false,r,h,e=>Ku h x y (b:=0) (Int.le_of_not_gt e)
 | .ie x y,true,r,h,e=>FA h x y (b:=2) e
 | .ie x y,false,r,h,e=>FA h x y (b:=3) e
 | .an p q,true,r,h,e=>Cp p (b:=true) (Cp q (b:=true) h e.2) e.1
 | .an p q,false,r,h,e=>λcs s y=>by
  have y:=aJ3 _ _▸y
  exact e ⟨aO6 λn=>Cp p (b:=false) h n cs s y.1,aO6 λn=>Cp q (b:=false) h n cs s y.2⟩
 | .or p q,true,r,h,e=>λcs s y=>by
  have y:=aJ3 _ _▸y
  exact Or.elim e (λn=>Cp p (b:=true) h n cs s y.1) λn=>Cp q (b:=true) h n cs s y.2
 | .or p q,false,r,h,e=>Cp p (b:=false) (Cp q (b:=false) h λn=>e (.inr n)) λn=>e (.inl n)
 | .im p q,true,r,h,e=>λcs s y=>by
  have y:=aJ3 _ _▸y
  exact Cp p (b:=false) h (λn=>Cp q (b:=true) h (e n) cs s y.2) cs s y.1
 | .im p q,false,r,h,e=>Cp p (b:=true) (Cp q (b:=false) h λn=>e λ_=>n) (aO6 λn=>e λm=>bQ8 m n)
 | .no p,true,r,h,e=>Cp p (b:=false) h e
 | .no p,false,r,h,e=>Cp p (b:=true) h (Classical.not_not.mp e)
 | .fa,true,r,h,e=>e.elim
 | .fa,false,r,h,e=>h
theorem Pq :∀(f:Nat->Int) (l:List Int),l.all (· = 0)=true->ev f l=0
 | f,[],_=>rfl
 | f,a::l,h=>by
  have h:=aJ3 _ _▸h
  have e:a=0:=bR1 h.1
  show a*f 0+ev _ l=0
  rwa[e,Pq _ l h.2];rw[bB3];rfl
def Rt{f:Nat->Int}{cs:List CN}(s:NQ f cs)(h:cs.any l8=true):False:=by
 obtain⟨⟨b,p⟩,hp,e⟩:=bI0.mp h
 have e:=aJ3 _ _▸e
 have v:p.val f=p.1:=by unfold ĥ.val;rwa[Pq f _ e.1];exact aT9 _
 rcases(bJ1 _ _).mp e.2 with l | l
 ·have l:p.1<0:=bR1 l
  cases b
  ·have:=s _ hp;have:0<=p.val f:=this;omega
  ·have:=s _ hp;have:p.val f=0:=this;omega
 ·have l:=aJ3 _ _▸l
  have ř:0<p.1:=bR1 l.2
  cases b
  ·exact nomatch l.1
  ·have:=s _ hp;have:p.val f=0:=this;omega
def LX(f:Nat->Int) :∀(p:ĥ),p.val f=EU p*f 0+(kO p).val λi=>f (i+1)
 | (k,[])=>by show k+0=0*f 0+(k+0);omega
 | (k,a::l)=>by show k+(a*f 0+ev _ l)=a*f 0+(k+ev _ l);omega
def LE(f:Nat->Int)(m n:Int)(p q:ĥ)(h:m*EU p+n*EU q=0):(JU m n p q).val (λi=>f (i+1))=m*p.val f+n*q.val f:=by
 have e:m*(EU p*f 0)+n*(EU q*f 0)=0:=by rewrite [<-bL4,<-bL4,<-Int.add_mul];rwa[h];rw[bB3]
 unfold JU
 rewrite [EQ,DD,DD];rwa[LX f p,LX f q];rw[bJ6,bJ6]
 omega
def Yq{f:Nat->Int}{e:ĥ}(he:e.val f=0)(ŝ:EU e≠0){c:CN}(hc:c.is f):(Ur e c).is λi=>f (i+1):=by
 obtain⟨b,p⟩:=c
 have k :∃m n,0<=m/\m*EU p+n*EU e=0/\Ur e (b,p)=(b,JU m n p e):=by
  unfold Ur
  by_cases l:EU e<0
  ·exact⟨- EU e,EU p,by omega,by rw[bJ7,bM1 (EU p)];omega,by rwa[bQ9 l];rfl⟩
  ·exact⟨EU e,- EU p,by omega,by rw[bJ7,bM1 (EU p)];omega,by rwa[bR0 l];rfl⟩
 obtain⟨m,n,hm,h,e1⟩:=k
 rwa[e1]
 have v:=LE f m n p e h
 rw[he,bM0,aT9]at v
 cases b
 ·show 0<=(JU m n p e).val _
  exact v▸bJ8 hm hc
 ·show(JU m n p e).val _=0
  have hc:p.val f=0:=hc
  rwa[v,hc];rw[bM0]
def CN.nn{f:Nat->Int} :∀{c:CN},c.is f->0<=c.2.val f
 | (true,_),h=>Int.le_of_eq (Eq.symm h)
 | (false,_),h=>h
def Tn{f:Nat->Int}{cs:List CN}(s:NQ f cs):NQ (λi=>f (i+1)) (Sw cs):=λp hp=>by
 unfold Sw at hp
 cases fe:cs.find? λc=>c.1&&EU c.2 != 0 with
 | some e=>
  rw[fe]at hp
  obtain⟨q,hq,rfl⟩:=aO0.mp hp
  have k:=aJ3 _ _▸List.find?_some fe
  have he:=s e (List.mem_of_find?_eq_some fe)
  obtain⟨b,e⟩:=e
  have k1:b=true:=k.1
  subst k1
  exact Yq he (bne_iff_ne.mp k.2) (s q hq)
 | none=>
  rw[fe]at hp
  rcases aD9.mp hp with hp | hp
  ·obtain⟨⟨b,q⟩,hq,e⟩:=List.mem_filterMap.mp hp
   split at e
   ·rename_i ŝ
    have:=s _ hq
    have v:=LX f q
    rw[show EU q=0 from ŝ,bB3,aR3]at v
    have e:=aA3 e
    subst e
    cases b
    ·have t:0<=q.val f:=this
     rw[v]at t
     exact t
    ·have t:q.val f=0:=this
     rw[v]at t
     exact t
   ·cases e
  ·obtain⟨q,hq,e⟩:=List.mem_flatMap.mp hp
   obtain⟨r,hr,rfl⟩:=aO0.mp e
   have hr:=aZ0.mp hr
   have hq:=aZ0.mp hq
   have r0:EU r.2<0:=bR1 hr.2
   have ŭ:0<EU q.2:=bR1 hq.2
   show 0<=ĥ.val _ (JU _ _ _ _)
   rwa[LE f _ _ _ _ (by rw[bJ7,bM1 (EU q.2)];omega)]
   exact Int.add_nonneg (bJ8 (by omega) (CN.nn (s q hq.1))) (bJ8 (by omega) (CN.nn (s r hr.1)))
noncomputable def mO(b:Bool)(i:Nat):Bool:=aV6 (motive:=λ_=>Bool->Bool) (λb=>b) (λ_ r b=>r (!b)) i b
theorem Lb :∀(i:Nat) (f g:Nat->Int),(∀j,0<=f j)->(mO true i=true->0<=Zy f g i)/\(mO false i=true->0<=Zy g f i)
 | 0,f,g,h=>⟨λ_=>h 0,λe=>(nomatch e)⟩
 | i+1,f,g,h=>⟨(Lb i (λj=>f (j+1)) g λj=>h (j+1)).2,(Lb i f (λj=>g (j+1)) h).1⟩
theorem Vo :∀(n:Nat) (b:Bool) (f:Nat->Int),(∀i,mO b i=true->0<=f i)->Ũ f (ů n b)
 | 0,b,f,h,cs,s,e=>Rt s e
 | n+1,b,f,h,cs,s,e=>by
  rcases(bJ1 _ _).mp e with e | e
  ·exact Rt s e
  ·have s':NQ f (cs.filter (λp=>!Yg p.2)):=λp hp=>s p (aZ0.mp hp).1
   dsimp only at e
   split at e
   ·cases e
   ·refine Vo n (!b) (λi=>f (i+1)) (λi hi=>h (i+1) hi) _ (Tn ?_) e
    cases b
    ·exact s'
    ·exact s'.c0 (by show 0<=0+(1*f 0+0);rw[aR3,bN4,aT9];exact h 0 rfl)
def Q(c:List Nat)(z:List Int)(n:Nat)(ok:chk n=true):(rd n).dn c z:=
 aO6 λh=>Cp (c:=c) (z:=z) (rd n) (b:=false) (Vo 40 true _ λi hi=>(Lb i _ _ λ_=>aO9 _).1 hi) h [] (λp hp=>nomatch hp) ok
end
end Lq
namespace Mine
def ġ(c:List Nat)(z:List Int)(n:Nat)(ok:Lq.chk n=true):(Lq.rd n).dn c z:=Lq.Q c z n ok
def ũ(c:List Nat)(n:Nat)(ok:Lq.chk n=true):(Lq.rd n).dn c []:=Lq.Q c [] n ok
end Mine
local macro_rules
 | `(tactic| exists $k:num,$h,*)=>do
  let u<-`(_)
  let a:=Array.replicate k.getNat u
  let h:=h.getElems
  let n:=h[0]!
  let h:=h.extract 1 h.size
  `(tactic| exact Mine.ũ [$a,*] $n (by rfl') $h*)
section
open PySem PySem.W PyProof.Rows
namespace Mine
noncomputable def Db:Bool->aB6->Array aB6->Nat->Nat->Nat->StateT aC5 Sem (Option Nat):=sortPriv% PySem.Builtin.gallop
noncomputable def EL:Nat->StateT aC5 Sem Unit:=sortPriv% PySem.Builtin.setMinGallop
noncomputable def Ki:Array aB6->Array aB6->StateT aC5 Sem (Array aB6):=sortPriv% PySem.Builtin.mergeLo
noncomputable def Kk:Array aB6->Array aB6->StateT aC5 Sem (Array aB6):=sortPriv% PySem.Builtin.mergeHi
section
variable{prog:aF3}{w:aC9}{A:aH1}{E:Value->aA5->Prop}{s:aA5}{r:aB6->Int}{κ:aS0}{In:aB6->Prop}
def CD(prog:aF3)(w:aC9)(A:aH1)(E:Value->aA5->Prop)(s:aA5)(r:aB6->Int)(κ:aS0)(In:aB6->Prop):Prop:=
 ∀x y,In x->In y->∀st Q,aE8 st=κ->Q (some (decide (r x<r y))) st->wpS (aC6 prog w) A E s (lt' x y) Q st
def A6{arr:Array aB6}{i:Nat}{x:aB6}{Q:aB6->aC5->Prop}{st:aC5}(h:arr[i]?=some x)(q:Q x st):wpS (aC6 prog w) A E s (elem' arr i) Q st:=by
 rewrite [elem'_eq];rwa[h];exact aD2 q
noncomputable def Xq(left:Bool)(key:aB6)(arr:Array aB6)(base i:Nat):StateT aC5 Sem (Option Bool):=do
 let x<-elem' arr (base+i)
 if left then lt' x key else return (<-lt' key x).map (!·)
def XT(C:CD prog w A E s r κ In){left:Bool}{key x:aB6}{arr:Array aB6}{base i:Nat}{st:aC5}{Q:Option Bool->aC5->Prop}(hx:arr[base+i]?=some x)(ix:In x)(ik:In key)(hk:aE8 st=κ)
  (h:Q (some (if left then decide (r x<r key)else !decide (r key<r x))) st):wpS (aC6 prog w) A E s (Xq left key arr base i) Q st:=by
 refine aC3 (A6 hx ?_)
 cases left with
 | true=>exact C x key ix ik st Q hk h
 | false=>exact aC3 (C key x ik ix st _ hk (aD2 h))
def AF{β:Type}{X Y:StateT aC5 Sem β}{c:Prop}{d:Decidable c}{Q:β->aC5->Prop}{st:aC5}(h:c->wpS (aC6 prog w) A E s X Q st)(h':¬ c->wpS (aC6 prog w) A E s Y Q st):wpS (aC6 prog w) A E s (if c then X else Y) Q st:=by
 split
 ·exact h ‹_›
 ·exact h' ‹_›
section
variable(left:Bool)(key:aB6)(arr:Array aB6)(base:Nat)
noncomputable def sV(l o:Nat):Option Bool->StateT aC5 Sem (ForInStep (Option (Option Nat)×Nat×Nat))
 | some m=>if(!m)=true then pure (.done (none,l,o))else pure (.yield (none,o,2*o+1))
 | _=>pure (.done (some none,l,o))
def tJ(n hint l o:Nat):StateT aC5 Sem (ForInStep (Option (Option Nat)×Nat×Nat)):=
 if o≥n-hint then pure (.done (none,l,o))
 else do
  let x<-Xq left key arr base (hint+o)
  sV l o x
noncomputable def rT(l o:Nat):Option Bool->StateT aC5 Sem (ForInStep (Option (Option Nat)×Nat×Nat))
 | some m=>if m=true then pure (.done (none,l,o))else pure (.yield (none,o,2*o+1))
 | _=>pure (.done (some none,l,o))
def tV(hint l o:Nat):StateT aC5 Sem (ForInStep (Option (Option Nat)×Nat×Nat)):=
 if o≥hint+1 then pure (.done (none,l,o))
 else do
  let x<-Xq left key arr base (hint-o)
  rT l o x
def uL(lo hi:Nat):StateT aC5 Sem (ForInStep (Option (Option Nat)×Nat×Nat)):=
 if lo≥hi then pure (.done (none,lo,hi))
 else do
  let x<-Xq left key arr base (lo+(hi-lo) / 2)
  match x with
  | some m=>if m=true then pure (.yield (none,lo+(hi-lo) / 2+1,hi))else pure (.yield (none,lo,lo+(hi-lo) / 2))
  | _=>pure (.done (some none,lo,hi))
noncomputable def sN(c:Option (Option Nat)×Nat×Nat):StateT aC5 Sem (Option Nat):=
 match c.1 with
 | some r=>pure r
 | none=>pure (some c.2.2)
def nX(n lo hi:Nat):StateT aC5 Sem (Option Nat):=do
 let c<-forIn [:n] ((none,lo,hi):Option (Option Nat)×Nat×Nat) λ_ c=>uL left key arr base c.2.1 c.2.2
 sN c
def oZ(n hint:Nat)(c:Option (Option Nat)×Nat×Nat):StateT aC5 Sem (Option Nat):=
 match c.1 with
 | some r=>pure r
 | none=>nX left key arr base n (hint+c.2.1+1) (hint+min c.2.2 (n-hint))
def nC(n hint:Nat)(c:Option (Option Nat)×Nat×Nat):StateT aC5 Sem (Option Nat):=
 match c.1 with
 | some r=>pure r
 | none=>nX left key arr base n (hint+1-min c.2.2 (hint+1)) (hint-c.2.1)
def Ø(n hint:Nat):StateT aC5 Sem (Option Nat):=do
 let x<-Xq left key arr base hint
 match x with
 | some g=>
  if g=true then do
   let c<-forIn [:n] ((none,0,1):Option (Option Nat)×Nat×Nat) λ_ c=>tJ left key arr base n hint c.2.1 c.2.2
   oZ left key arr base n hint c
  else do
   let c<-forIn [:n] ((none,0,1):Option (Option Nat)×Nat×Nat) λ_ c=>tV left key arr base hint c.2.1 c.2.2
   nC left key arr base n hint c
 | _=>pure none
def PU(n hint:Nat):Db left key arr base n hint=Ø left key arr base n hint:=by rfl'
end
def YE{lo hi:Nat}(h:lo<hi):lo<=(lo+hi) / 2/\(lo+hi) / 2<hi:=
 ⟨(Nat.le_div_iff_mul_le (by decide)).mpr (by rw[bJ9];exact aH8 (aG2 h) lo),(Nat.div_lt_iff_lt_mul (by decide)).mpr (by rw[bJ9];exact Nat.add_lt_add_right h hi)⟩
def Yn{lo hi:Nat}(h:¬ lo≥hi):lo<=lo+(hi-lo) / 2/\lo+(hi-lo) / 2<hi:=by
 obtain⟨d,rfl⟩:=bA5 (bD5 h)
 rw[aN9,aN4]
 exact⟨aD5 _ _,bE8 (Nat.div_lt_self (bB4 d) (by decide)) lo⟩
variable{left:Bool}{key:aB6}{arr:Array aB6}{base n hint:Nat}{st:aC5}{P:Nat->Bool}
def Sl(B :∀{i:Nat} {Q:Option Bool->aC5->Prop},i<n->Q (some (P i)) st->wpS (aC6 prog w) A E s (Xq left key arr base i) Q st)(up :∀{i j},i<=j->j<n->P j=true->P i=true)(dn :∀{i j},i<=j->j<n->P i=false->P j=false)
  {lo hi:Nat} (g:lo<=hi/\hi<=n) (g2 :∀i,i<lo->P i=true) (g3 :∀i,hi<=i->i<n->P i=false) {Q:Option Nat->aC5->Prop}
  (h :∀k,k<=n->(∀i,i<k->P i=true)->(∀i,k<=i->i<n->P i=false)->Q (some k) st):wpS (aC6 prog w) A E s (nX left key arr base n lo hi) Q st:=by
 refine aC3 (aS1 (aL0
  (I:=λx c st'=>st=st'/\∃lo hi,c=(none,lo,hi)/\lo<=hi/\hi<=n/\hi<=lo+(n-x)/\(∀i,i<lo->P i=true)/\(∀i,hi<=i->i<n->P i=false))
  (Q:=λc st'=>st=st'/\∃lo,c=(none,lo,lo)/\lo<=n/\(∀i,i<lo->P i=true)/\(∀i,lo<=i->i<n->P i=false)) ?_ ?_ ⟨rfl,lo,hi,rfl,g.1,g.2,by(exists 3,0x81b2a001008,g.2),g2,g3⟩) ?_)
 ·rintro x _ _-hx ⟨rfl,lo,hi,rfl,h1,h2,h3,h4,ĸ⟩
  show wpS (aC6 prog w) A E s (uL left key arr base lo hi) _ _
  refine AF (λho=>?_) λho=>?_
  ·obtain rfl:lo=hi:=aO4 h1 ho
   exact aD2 ⟨rfl,lo,rfl,h2,h4,ĸ⟩
  ·obtain⟨m1,m2⟩:=Yn ho
   generalize lo+(hi-lo) / 2=m at m1 m2 ⊢
   refine aC3 (B (by exists 3,0x12102181008,h2,m2) (AF (λhp=>?_) λhp=>?_))
   ·exact aD2 ⟨rfl,m+1,hi,rfl,m2,h2,by(exists 5,0x183a2b184aa00410832b1a008,h3,m1),λi hi'=>up (by exists 2,68744749080,hi') (by exists 3,0x12102181008,h2,m2) hp,ĸ⟩
   ·exact aD2 ⟨rfl,lo,m,rfl,m1,by(exists 3,0x12002181008,h2,m2),by(exists 5,0x183a2b1a40041832b1a008,h3,m2),h4,λi hi' hn=>dn hi' hn (aQ1.mpr hp)⟩
 ·rintro _ _ ⟨rfl,lo,hi,rfl,h1,h2,h3,h4,ĸ⟩
  obtain rfl:lo=hi:=by exists 3,0x102208e2b0a1081008,h1,h3
  exact⟨rfl,lo,rfl,h2,h4,ĸ⟩
 ·rintro _ _ ⟨rfl,lo,rfl,h2,h4,ĸ⟩
  exact aD2 (h lo h2 h4 ĸ)
def Oq(C:CD prog w A E s r κ In){Q:Option Nat->aC5->Prop}(ik:In key)(hk:aE8 st=κ)
  (hP :∀i,i<n->∃x,arr[base+i]?=some x/\In x/\P i=if left then decide (r x<r key)else !decide (r key<r x))
  (mono :∀i j,i<=j->j<n->P j=true->P i=true) (hh:hint<n)
  (h :∀k,k<=n->(∀i,i<k->P i=true)->(∀i,k<=i->i<n->P i=false)->Q (some k) st):wpS (aC6 prog w) A E s (Db left key arr base n hint) Q st:=by
 have B :∀{i:Nat} {Q:Option Bool->aC5->Prop},i<n->Q (some (P i)) st->wpS (aC6 prog w) A E s (Xq left key arr base i) Q st:=λhi q=>by
  obtain⟨x,e,ix,p⟩:=hP _ hi
  exact XT C e ix ik hk (p▸q)
 have up :∀{i j},i<=j->j<n->P j=true->P i=true:=λ{i j}=>mono i j
 have dn :∀{i j},i<=j->j<n->P i=false->P j=false:=λ{i j} hij hj hi=>by
  cases hp:P j with
  | false=>rfl
  | true=>rw[mono i j hij hj hp]at hi;cases hi
 rw[PU]
 refine aC3 (B hh (AF (λhr=>?_) λhr=>?_))
 ·refine aC3 (aS1 (aL0
   (I:=λx c st'=>st=st'/\∃l o,c=(none,l,o)/\x+1<=o/\l<o/\(l=0\/(l<n-hint/\P (hint+l)=true)))
   (Q:=λc st'=>st=st'/\∃l o,c=(none,l,o)/\l<o/\(l=0\/(l<n-hint/\P (hint+l)=true))/\(n-hint<=o\/P (hint+o)=false)) ?_ ?_ ⟨rfl,0,1,rfl,aA6 _,bE0,.inl rfl⟩) ?_)
  ·rintro x _ _-hx ⟨rfl,l,o,rfl,h1,h2,h3⟩
   show wpS (aC6 prog w) A E s (tJ left key arr base n hint l o) _ _
   refine AF (λho=>aD2 ⟨rfl,l,o,rfl,h2,h3,.inl ho⟩) λho=>?_
   refine aC3 (B (by exists 3,0x21a1210b098,ho) (AF (λhp=>?_) λhp=>?_))
   ·exact aD2 ⟨rfl,l,o,rfl,h2,h3,.inr (aS9 _ |>.mp hp)⟩
   ·exact aD2 ⟨rfl,o,2*o+1,rfl,by(exists 2,0x18102ca18180aa01180a08,h1),by(exists 1,6442633729),.inr ⟨by(exists 3,0x10b21210b098,ho),by cases z:P (hint+o)with | true=>rfl | false=>exact bQ8 (by rwa[z];rfl) hp⟩⟩
  ·rintro _ _ ⟨rfl,l,o,rfl,h1,h2,h3⟩
   exact⟨rfl,l,o,rfl,h2,h3,.inl (by exists 3,0x120b0118008ea08,h1)⟩
  ·rintro _ _ ⟨rfl,l,o,rfl,h2,h3,h4⟩
   refine Sl (lo:=hint+l+1) (hi:=hint+min o (n-hint)) B up dn ⟨aH8 (bO4.mpr ⟨h2,h3.elim (λe=>e▸Nat.sub_pos_of_lt hh) (·.1)⟩) hint,by exists 3,0x101b2d0a01018,hh⟩ (λi hi=>?_) (λi hi hn=>?_) h
   ·rcases h3 with e | ⟨e,q⟩
    ·exact up (by exists 3,0x100082281821aa018,hi,e) hh hr
    ·exact up (by exists 3,0x21a001821aa018,hi) (by exists 3,0x102a121b018,e) q
   ·rcases h4 with e | q
    ·exact aA8 (ũ [_,_,_,_] 0xa102b082318302b1d0a08 (by rfl') hi hn e)
    ·exact dn (i:=hint+o) (by exists 4,0x310a02318302b1d0a08,hi,hn) hn q
 ·have hr:=aQ1.mpr hr
  refine aC3 (aS1 (aL0
   (I:=λx c st'=>st=st'/\∃l o,c=(none,l,o)/\x+1<=o/\l<o/\l<=hint/\P (hint-l)=false)
   (Q:=λc st'=>st=st'/\∃l o,c=(none,l,o)/\l<o/\(l<=hint/\P (hint-l)=false)/\(hint+1<=o\/P (hint-o)=true)) ?_ ?_ ⟨rfl,0,1,rfl,aA6 _,bE0,aD4 _,hr⟩) ?_)
  ·rintro x _ _-hx ⟨rfl,l,o,rfl,h1,h2,h3⟩
   show wpS (aC6 prog w) A E s (tV left key arr base hint l o) _ _
   refine AF (λho=>aD2 ⟨rfl,l,o,rfl,h2,h3,.inl ho⟩) λho=>?_
   refine aC3 (B (by exists 3,4843442200,hh) (AF (λhp=>?_) λhp=>?_))
   ·exact aD2 ⟨rfl,l,o,rfl,h2,h3,.inr hp⟩
   ·exact aD2 ⟨rfl,o,2*o+1,rfl,by(exists 2,0x18102ca18180aa01180a08,h1),by(exists 1,6442633729),by(exists 2,69013119128,ho),aQ1.mpr hp⟩
  ·rintro _ _ ⟨rfl,l,o,rfl,h1,h2,h3⟩
   exact⟨rfl,l,o,rfl,h2,h3,.inl (by exists 3,0x2180a0218108ea081018,hh,h1)⟩
  ·rintro _ _ ⟨rfl,l,o,rfl,h2,h3,h4⟩
   refine Sl (lo:=hint+1-min o (hint+1)) (hi:=hint-l) B up dn ⟨by(exists 3,0x2b182a1d182ab01018,h2),by exists 3,4843376664,hh⟩ (λi hi=>?_) (λi hi' hn=>dn hi' hn h3.2) h
   rcases h4 with e | q
   ·exact aA8 (ũ [_,_,_] 0xa2181a08181a2d181ab018 (by rfl') hi e)
   ·exact up (by exists 3,0x21b00181a2d181ab018,hi) (by exists 3,4843442200,hh) q
end
section
variable{r:aB6->Int}
abbrev Ŗ(r:aB6->Int)(l:List aB6):Prop:=l.Pairwise λx y=>r x<=r y
structure ŀ(r:aB6->Int)(T out xs ys:List aB6):Prop where
 perm:(out++(xs++ys)).Perm T
 so:Ŗ r (out++xs)
 sy:Ŗ r (out++ys)
def ŀ.sw{T out xs ys:List aB6}(h:ŀ r T out xs ys):ŀ r T out ys xs:=⟨(aV2 out List.perm_append_comm).trans h.perm,h.sy,h.so⟩
def ŀ.an{T out ps xs ys:List aB6}(h:ŀ r T out (ps++xs) ys)(le :∀p∈ps,∀y∈ys,r p<=r y):ŀ r T (out++ps) xs ys:=by
 refine⟨?_,by have:=h.so;rwa[<-aD1]at this,?_⟩
 ·have:=h.perm
  simpa[aD1]using this
 ·rw[aD1]
  refine aF0.mpr ⟨(aF0.mp h.so).1,aF0.mpr ⟨(aF0.mp (aF0.mp h.so).2.1).1,(aF0.mp h.sy).2.1,le⟩,λa ha b hb=>?_⟩
  rcases aD9.mp hb with q | q
  ·exact(aF0.mp h.so).2.2 a ha b (aH2 _ q)
  ·exact(aF0.mp h.sy).2.2 a ha b q
def ŀ.fin{T out xs ys:List aB6}(h:ŀ r T out xs ys)(le :∀x∈xs,∀y∈ys,r x<=r y):(out++xs++ys).Perm T/\Ŗ r (out++xs++ys):=by
 have:=ŀ.an (ps:=xs) (xs:=[]) (by rw[aE1];exact h) le
 exact⟨by have:=this.perm;rwa[bJ2]at this,this.sy⟩
def UR{a:Array aB6}{i:Nat}(h:i<a.size):a.toList.drop i=a[i]::a.toList.drop (i+1):=by
 have:=aF9 (l:=a.toList) (i:=i) (by simpa using h)
 simpa using this
def CS{a:Array aB6}{i j:Nat}:(a.extract i j).toList=(a.toList.drop i).take (j-i):=by
 simp
end
section
variable{prog:aF3}{w:aC9}{A:aH1}{E:Value->aA5->Prop}{s:aA5}{r:aB6->Int}{κ:aS0}{In:aB6->Prop}
noncomputable def Ğ(r:aB6->Int)(a:Array aB6)(i:Nat):Int:=(a[i]?).elim 0 r
def Aj{a:Array aB6}{i:Nat}(h:i<a.size):Ğ r a i=r a[i]:=by unfold Ğ;rwa[aB9 h];rfl
def ES(r:aB6->Int)(a:Array aB6)(base n:Nat):Prop:=∀i j,i<=j->j<n->Ğ r a (base+i)<=Ğ r a (base+j)
def Cj(C:CD prog w A E s r κ In){left:Bool}{key:aB6}{a:Array aB6}{base n hint:Nat}{st:aC5}{Q:Option Nat->aC5->Prop}(ik:In key)(ia :∀x∈a,In x)(hk:aE8 st=κ)(hb:base+n<=a.size)(hu:ES r a base n)(hh:hint<n)
  (h :∀k,k<=n->(∀i,i<k->if left then Ğ r a (base+i)<r key else Ğ r a (base+i)<=r key)->(∀i,k<=i->i<n->if left then r key<=Ğ r a (base+i)else r key<Ğ r a (base+i))->Q (some k) st):wpS (aC6 prog w) A E s (Db left key a base n hint) Q st:=by
 refine Oq C (P:=λi=>if left then decide (Ğ r a (base+i)<r key)else !decide (r key<Ğ r a (base+i))) ik hk (λi hi=>?_) (λi j hij hj hp=>?_) hh λk hk h1 h2=>h k hk (λi hi=>?_) λi hi hn=>?_
 ·have hx:base+i<a.size:=by exists 4,0x230a11318210a08,hb,hi
  refine⟨a[base+i],aB9 hx,ia _ (aK6 hx),?_⟩
  rwa[Aj hx];rfl
 ·have:=hu i j hij hj
  cases left with
  | true=>
   have hp:decide (Ğ r a (base+j)<r key)=true:=hp
   show decide (Ğ r a (base+i)<r key)=true
   rw[decide_eq_true_eq]at hp ⊢
   exact ġ [] [_,_,_] 0x20421481038 (by rfl') this hp
  | false=>
   have hp:(!decide (r key<Ğ r a (base+j)))=true:=hp
   show(!decide (r key<Ğ r a (base+i)))=true
   simp only[aS9,decide_eq_false_iff_not]at hp ⊢
   exact ġ [] [_,_,_] 0x249124981038 (by rfl') this hp
 ·have:=h1 i hi
  cases left with
  | true=>exact bR1 this
  | false=>
   have hp:(!decide (r key<Ğ r a (base+i)))=true:=this
   simp only[aS9,decide_eq_false_iff_not]at hp
   show Ğ r a (base+i)<=r key
   exact id (ġ [] [_,_] 0x1310498 (by rfl') hp)
 ·have:=h2 i hi hn
  cases left with
  | true=>
   have hp:decide (Ğ r a (base+i)<r key)=false:=this
   show r key<=Ğ r a (base+i)
   have:=of_decide_eq_false hp
   exact ġ [] [_,_] 0x1310498 (by rfl') this
  | false=>
   have hp:(!decide (r key<Ğ r a (base+i)))=false:=this
   simp only[Bool.not_eq_false',decide_eq_true_eq]at hp
   exact hp
def Ŏ(st st':aC5):Prop:=aE8 st'=aE8 st/\arrOf st'=arrOf st/\pendingOf st'=pendingOf st/\failedOf st'=failedOf st
def Ŏ.rfl{st:aC5}:Ŏ st st:=⟨bP9 _,bP9 _,bP9 _,bP9 _⟩
def D9{g:Nat}{st0 st:aC5}{Q:Unit->aC5->Prop}(e:Ŏ st0 st)(h :∀st',Ŏ st0 st'->Q () st'):wpS (aC6 prog w) A E s (EL g) Q st:=by
 unfold EL
 exact bI5 (h _ e)
structure ŗ(r:aB6->Int)(T:List aB6)(a b out:Array aB6)(ia ib:Nat):Prop where
 m:ŀ r T out.toList (a.toList.drop ia) (b.toList.drop ib)
 ha:ia+1<a.size
 hb:ib<b.size
variable{T:List aB6}{a b out:Array aB6}{ia ib k:Nat}
def Dp{a:Array aB6}{i:Nat}{x:aB6}(h:x∈a.toList.drop i) :∃j,i<=j/\j<a.size/\Ğ r a j=r x:=by
 obtain⟨j,hj,e⟩:=aW0.mp h
 have hj':i+j<a.size:=by simpa[Nat.lt_sub_iff_add_lt,aU0]using hj
 refine⟨i+j,by(exists 2,68096),hj',?_⟩
 rwa[Aj hj',e.symm]
 simp
def FP{a:Array aB6}{o:List aB6}{i j k:Nat}(h:Ŗ r (o++a.toList.drop i))(hij:i<=j)(hjk:j<=k)(hk:k<a.size):Ğ r a j<=Ğ r a k:=by
 rcases Nat.eq_or_lt_of_le hjk with rfl | hlt
 ·exact aT8 _
 ·have h2:=(aF0.mp h).2.1
  have hl:(a.toList.drop i).length=a.size-i:=by simp
  have:=aJ2.mp h2 (j-i) (k-i) (by exists 5,0x401b103b428321821081008,hij,hjk,hk,hl) (by exists 5,0x402b103b428321821081008,hij,hjk,hk,hl) (by exists 3,0x2b01b121181008,hij,hlt)
  rwa[(Aj (by exists 3,0x20121181008,hjk,hk:j<a.size)),Aj hk]
  simpa[bE9 hij,bE9 (aA2 hij hjk)]using this
def ŀ.takeA(h:ŀ r T out.toList (a.toList.drop ia) (b.toList.drop ib))(hk:ia+k<=a.size)(hb:ib<b.size)(le :∀i,i<k->Ğ r a (ia+i)<=Ğ r b ib):ŀ r T (out++a.extract ia (ia+k)).toList (a.toList.drop (ia+k)) (b.toList.drop ib):=by
 have e:a.toList.drop ia=(a.toList.drop ia).take k++a.toList.drop (ia+k):=by rwa[List.drop_drop.symm];rw[aV3]
 have h':=h
 rw[e]at h'
 rwa[aK1,CS];rw[aN4]
 refine h'.an λp hp y hy=>?_
 obtain⟨i,hi,ep⟩:=aW0.mp hp
 have hik:i<k:=by simp at hi;exists 4,0x10132b1d018,hi
 have hia:ia+i<a.size:=by exists 4,0x230a11318210a08,hk,hik
 have e1:r p=Ğ r a (ia+i):=by rwa[Aj hia,ep.symm];simp
 obtain⟨j,j1,j2,j3⟩:=Dp (r:=r) hy
 rwa[e1,j3.symm]
 exact aL5 (le i hik) (FP h.sy (aA6 _) j1 j2)
def ŀ.pushA(h:ŀ r T out.toList (a.toList.drop ia) (b.toList.drop ib))(ha:ia<a.size)(hb:ib<b.size)(le:Ğ r a ia<=Ğ r b ib):ŀ r T (out.push a[ia]).toList (a.toList.drop (ia+1)) (b.toList.drop ib):=by
 have:=h.takeA (k:=1) (by exists 2,75172417560,ha) hb λi hi=>by
  obtain rfl:i=0:=by exists 1,0x80218018,hi
  exact le
 have e:(out++a.extract ia (ia+1)).toList=(out.push a[ia]).toList:=by
  rwa[aK1,CS,bB5];rewrite [aN4];rwa[UR ha];rfl
 rwa[e]at this
def ŀ.len(h:ŀ r T out.toList (a.toList.drop ia) (b.toList.drop ib)):out.size+((a.size-ia)+(b.size-ib))=T.length:=by
 have:=h.perm.length_eq
 simpa using this
def Ş(r:aB6->Int)(T:List aB6)(o:Array aB6):Prop:=o.toList.Perm T/\Ŗ r o.toList
def ŀ.done(h:ŀ r T out.toList (a.toList.drop ia) (b.toList.drop ib))(hb:a.size<=ia\/b.size<=ib):Ş r T (out++a.extract ia a.size++b.extract ib b.size):=by
 have e:(out++a.extract ia a.size++b.extract ib b.size).toList=out.toList++a.toList.drop ia++b.toList.drop ib:=by
  rwa[aK1,aK1,CS,CS,aF6 (by simp),aF6 (by simp)];rfl
 unfold Ş
 rwa[e]
 refine h.fin λx hx y hy=>?_
 obtain⟨j,j1,j2,_⟩:=Dp (r:=r) hx
 obtain⟨k,k1,k2,_⟩:=Dp (r:=r) hy
 exact ġ [_,_,_,_,_,_] [_,_] 0x103350020785418430821181008 (by rfl') j1 j2 k1 k2 hb
def ŀ.last(h:ŀ r T out.toList (a.toList.drop ia) (b.toList.drop ib))(ha:ia+1=a.size)(hl :∀j,j<b.size->Ğ r b j<=Ğ r a (a.size-1)):Ş r T (out++b.extract ib b.size++a.extract ia a.size):=by
 have e:(out++b.extract ib b.size++a.extract ia a.size).toList=out.toList++b.toList.drop ib++a.toList.drop ia:=by
  rwa[aK1,aK1,CS,CS,aF6 (by simp),aF6 (by simp)];rfl
 unfold Ş
 rwa[e]
 refine h.sw.fin λx hx y hy=>?_
 obtain⟨j,j1,j2,j3⟩:=Dp (r:=r) hx
 obtain⟨k,k1,k2,k3⟩:=Dp (r:=r) hy
 obtain rfl:k=a.size-1:=by exists 3,0x181b22121820081180a28,ha,k1,k2
 rwa[j3.symm,k3.symm]
 exact hl j j2
end
abbrev GZ(τ:Type):=Option (Array aB6)×Array aB6×Nat×Nat×τ
section
variable(a b:Array aB6)
noncomputable def WJ(o:Array aB6)(ia ib:Nat):Array aB6:=o++a.extract ia++b.extract ib
noncomputable def lD(o:Array aB6)(ia ib:Nat):Array aB6:=o++b.extract ib++a.extract ia
def qM(m ac bc:Nat)(o:Array aB6)(ia ib:Nat):StateT aC5 Sem (ForInStep (GZ (Nat×Nat×Nat))):=do
 let x<-elem' a ia
 if(ia+1+1==a.size)=true then pure (.done (some (lD a b (o.push x) (ia+1) ib),o.push x,ia+1,ib,m,ac,bc))
 else if(decide (ac<7)&&decide (bc<7))=true then pure (.done (none,o.push x,ia+1,ib,m,ac,bc))
 else pure (.yield (none,o.push x,ia+1,ib,m,ac,bc))
def tH(m ac bc:Nat)(o:Array aB6)(ia ib:Nat):Option Nat->StateT aC5 Sem (ForInStep (GZ (Nat×Nat×Nat)))
 | some k=>
  if k>0 then
   if(ib+k==b.size)=true then pure (.done (some (WJ a b (o++b.extract ib (ib+k)) ia (ib+k)),o++b.extract ib (ib+k),ia,ib+k,m,ac,k))
   else qM a b m ac k (o++b.extract ib (ib+k)) ia (ib+k)
  else qM a b m ac k o ia ib
 | _=>pure (.done (some (WJ a b o ia ib),o,ia,ib,m,ac,bc))
def oM(m ac bc:Nat)(o:Array aB6)(ia ib:Nat):StateT aC5 Sem (ForInStep (GZ (Nat×Nat×Nat))):=do
 let y<-elem' b ib
 if(ib+1==b.size)=true then pure (.done (some (WJ a b (o.push y) ia (ib+1)),o.push y,ia,ib+1,m,ac,bc))
 else do
  let x<-elem' a ia
  let k<-Db true x b (ib+1) (b.size-(ib+1)) 0
  tH a b m ac bc (o.push y) ia (ib+1) k
def rO(m ac bc:Nat)(o:Array aB6)(ia ib:Nat):Option Nat->StateT aC5 Sem (ForInStep (GZ (Nat×Nat×Nat)))
 | some k=>
  if k>0 then
   if(ia+k+1==a.size)=true then pure (.done (some (lD a b (o++a.extract ia (ia+k)) (ia+k) ib),o++a.extract ia (ia+k),ia+k,ib,m,k,bc))
   else if(ia+k==a.size)=true then pure (.done (some (WJ a b (o++a.extract ia (ia+k)) (ia+k) ib),o++a.extract ia (ia+k),ia+k,ib,m,k,bc))
   else oM a b m k bc (o++a.extract ia (ia+k)) (ia+k) ib
  else oM a b m k bc o ia ib
 | _=>pure (.done (some (WJ a b o ia ib),o,ia,ib,m,ac,bc))
def rQ(m ac bc:Nat)(o:Array aB6)(ia ib:Nat):StateT aC5 Sem (ForInStep (GZ (Nat×Nat×Nat))):=do
 EL m
 let y<-elem' b ib
 let k<-Db false y a ia (a.size-ia) 0
 rO a b m ac bc o ia ib k
def t4(m ac bc:Nat)(o:Array aB6)(ia ib:Nat):StateT aC5 Sem (ForInStep (GZ (Nat×Nat×Nat))):=
 if m>1 then rQ a b (m-1) ac bc o ia ib else rQ a b m ac bc o ia ib
def nQ(m ac bc:Nat)(o:Array aB6)(ia ib:Nat):Option Bool->StateT aC5 Sem (ForInStep (GZ (Nat×Nat)))
 | some w=>
  if w=true then do
   let y<-elem' b ib
   if(ib+1==b.size)=true then pure (.done (some (WJ a b (o.push y) ia (ib+1)),o.push y,ia,ib+1,0,bc+1))
   else if bc+1≥m then pure (.done (none,o.push y,ia,ib+1,0,bc+1))
   else pure (.yield (none,o.push y,ia,ib+1,0,bc+1))
  else do
   let x<-elem' a ia
   if(ia+1+1==a.size)=true then pure (.done (some (lD a b (o.push x) (ia+1) ib),o.push x,ia+1,ib,ac+1,0))
   else if ac+1≥m then pure (.done (none,o.push x,ia+1,ib,ac+1,0))
   else pure (.yield (none,o.push x,ia+1,ib,ac+1,0))
 | _=>pure (.done (some (WJ a b o ia ib),o,ia,ib,ac,bc))
def uS(m ac bc:Nat)(o:Array aB6)(ia ib:Nat):StateT aC5 Sem (ForInStep (GZ (Nat×Nat))):=do
 let y<-elem' b ib
 let x<-elem' a ia
 let w<-lt' y x
 nQ a b m ac bc o ia ib w
def vC(c:GZ (Nat×Nat×Nat)):StateT aC5 Sem (ForInStep (GZ Nat)):=
 match c.1 with
 | some r=>pure (.done (some r,c.2.1,c.2.2.1,c.2.2.2.1,c.2.2.2.2.1))
 | none=>do
  EL (c.2.2.2.2.1+1)
  pure (.yield (none,c.2.1,c.2.2.1,c.2.2.2.1,c.2.2.2.2.1+1))
def sE(m:Nat)(c:GZ (Nat×Nat)):StateT aC5 Sem (ForInStep (GZ Nat)):=
 match c.1 with
 | some r=>pure (.done (some r,c.2.1,c.2.2.1,c.2.2.2.1,m))
 | none=>do
  liftM (rule "list.sort.gallop")
  let c<-forIn [:a.size+b.size] ((none,c.2.1,c.2.2.1,c.2.2.2.1,m+1,c.2.2.2.2):GZ (Nat×Nat×Nat)) λ_ c=>
   t4 a b c.2.2.2.2.1 c.2.2.2.2.2.1 c.2.2.2.2.2.2 c.2.1 c.2.2.1 c.2.2.2.1
  vC c
def t9(c:GZ Nat):StateT aC5 Sem (ForInStep (GZ Nat)):=do
 let d<-forIn [:a.size+b.size] ((none,c.2.1,c.2.2.1,c.2.2.2.1,0,0):GZ (Nat×Nat)) λ_ d=>uS a b c.2.2.2.2 d.2.2.2.2.1 d.2.2.2.2.2 d.2.1 d.2.2.1 d.2.2.2.1
 sE a b c.2.2.2.2 d
noncomputable def zH(c:GZ Nat):StateT aC5 Sem (Array aB6):=
 match c.1 with
 | some r=>pure r
 | none=>liftM (unsupported "internal:list.sort.merge-bound":Sem (Array aB6))
def cV:StateT aC5 Sem (Array aB6):=do
 liftM (rule "list.sort.merge-lo")
 let y<-elem' b 0
 if(1==b.size)=true then pure (WJ a b #[y] 0 1)
 else if(0+1==a.size)=true then pure (lD a b #[y] 0 1)
 else do
  let st<-get
  let c<-forIn [:a.size+b.size] ((none,#[y],0,1,gallopOf st):GZ Nat) λ_ c=>t9 a b c
  zH c
def Lc:Ki a b=cV a b:=by rfl'
end
section
variable{prog:aF3}{w:aC9}{A:aH1}{E:Value->aA5->Prop}{s:aA5}{r:aB6->Int}{κ:aS0}{In:aB6->Prop}
theorem Ŏ.trans{st st' st'':aC5}(h:Ŏ st st')(h':Ŏ st' st''):Ŏ st st'':=⟨h'.1.trans h.1,h'.2.1.trans h.2.1,h'.2.2.1.trans h.2.2.1,h'.2.2.2.trans h.2.2.2⟩
structure TO(prog:aF3)(w:aC9)(A:aH1)(E:Value->aA5->Prop)(s:aA5)(r:aB6->Int)(κ:aS0)(In:aB6->Prop)(a b:Array aB6):Prop where
 C:CD prog w A E s r κ In
 ina :∀x∈a,In x
 inb :∀x∈b,In x
structure İ(r:aB6->Int)(T:List aB6)(a b:Array aB6){τ:Type}(n:Nat)(Q:ForInStep (GZ τ)->aC5->Prop)(st:aC5):Prop where
 d :∀o p,Ş r T o->Q (.done (some o,p)) st
 n :∀o ia ib t,ŗ r T a b o ia ib->n<o.size->Q (.done (none,o,ia,ib,t)) st/\Q (.yield (none,o,ia,ib,t)) st
variable{a b:Array aB6}{T:List aB6}{st:aC5}{o:Array aB6}{ia ib n m ac bc k:Nat}
section
variable{Q:ForInStep (GZ (Nat×Nat×Nat))->aC5->Prop}
def Rg(q:İ r T a b n Q st)(hz:n<=o.size)(hl :∀j,j<b.size->Ğ r b j<=Ğ r a (a.size-1))(mj:ŀ r T o.toList (a.toList.drop ia) (b.toList.drop ib))(ha:ia+1<a.size)(hb:ib<b.size)(le:Ğ r a ia<=Ğ r b ib):wpS (aC6 prog w) A E s (qM a b m ac bc o ia ib) Q st:=by
 have la:ia<a.size:=aT0 ha
 refine aC3 (A6 (aB9 la) ?_)
 have mj:=mj.pushA la hb le
 refine AF (λf=>aD2 (q.d _ _ (mj.last (aD3 f) hl))) λf=>?_
 have f:ia+1+1≠a.size:=λz=>f (beq_iff_eq.mpr z)
 have z:=q.n _ _ _ (m,ac,bc) ⟨mj,by(exists 2,0x118180aa1118180aa2981180a18,ha,f),hb⟩ (by rw[aO5];exists 2,0x181a011008,hz)
 exact AF (λ_=>aD2 z.1) λ_=>aD2 z.2
def QS(H:TO prog w A E s r κ In a b)(hk:aE8 st=κ)(q:İ r T a b n Q st)(hz:n<=o.size)(hl :∀j,j<b.size->Ğ r b j<=Ğ r a (a.size-1))(mj:ŀ r T o.toList (a.toList.drop ia) (b.toList.drop ib))(ha:ia+1<a.size)(hb:ib<b.size)(le:Ğ r b ib<=Ğ r a ia):wpS (aC6 prog w) A E s (oM a b m ac bc o ia ib) Q st:=by
 have la:ia<a.size:=aT0 ha
 refine aC3 (A6 (aB9 hb) ?_)
 have mj:=(mj.sw.pushA hb la le).sw
 refine AF (λf=>aD2 (q.d _ _ (mj.done (.inr (aB7 (aD3 f).symm))))) λf=>?_
 have f:ib+1≠b.size:=λz=>f (beq_iff_eq.mpr z)
 have hz:n<=(o.push b[ib]).size:=by rw[aO5];exists 2,0x181a001008,hz
 have hb:ib+1<b.size:=by exists 2,0x1180a11180a2981018,hb,f
 generalize o.push b[ib]=o at mj hz
 generalize ib+1=ib at mj hb
 refine aC3 (A6 (aB9 la) (aC3 (Cj H.C (H.ina _ (aK6 la)) H.inb hk (by exists 2,0x101b0a01018,hb) (λi j hij hj=>FP mj.sy (by exists 2,68096) (by exists 3,0x12a02a01008,hij) (by exists 3,0x102a121b018,hj)) (by exists 2,7256215576,hb) λk hk1 hk2 hk3=>?_)))
 refine AF (λhc=>?_) λhc=>?_
 ·have mj:=(mj.sw.takeA (k:=k) (by exists 3,0x120a001b2081018,hb,hk1) la λi hi=>by rwa[Aj la];exact aK0 (hk2 i hi)).sw
  refine AF (λf=>aD2 (q.d _ _ (mj.done (.inr (aB7 (aD3 f).symm))))) λf=>?_
  have f:ib+k≠b.size:=λz=>f (beq_iff_eq.mpr z)
  exact Rg q (by rwa[bB6];exists 3,9026146312,hz) hl mj ha (by exists 3,0x120a1120a29801b2081018,hb,hk1,f) (by rwa[Aj la];exact hk3 k (aA6 _) (by exists 3,0x1b21120a29801b2081018,hb,hk1,f))
 ·exact Rg q hz hl mj ha hb (by rwa[Aj la];exact hk3 0 (by exists 1,0x800008198,hc) (by exists 2,7256215576,hb))
def QI(H:TO prog w A E s r κ In a b)(hk:aE8 st=κ)(q :∀st',Ŏ st st'->İ r T a b n Q st')(hz:n<=o.size)(hl :∀j,j<b.size->Ğ r b j<=Ğ r a (a.size-1))(g:ŗ r T a b o ia ib):wpS (aC6 prog w) A E s (rQ a b m ac bc o ia ib) Q st:=by
 obtain⟨mj,ha,hb⟩:=g
 have la:ia<a.size:=aT0 ha
 refine aC3 (D9 .rfl λst' S=>aC3 (A6 (aB9 hb) (aC3 (Cj H.C (H.inb _ (aK6 hb)) H.ina (S.1.trans hk) (by exists 2,0x101b0a01180a18,ha) (λi j hij hj=>FP mj.so (by exists 2,68096) (by exists 3,0x12a02a01008,hij) (by exists 3,0x102a121b018,hj)) (by exists 2,0x1b0811180a18,ha) λk hk1 hk2 hk3=>?_))))
 have q:=q st' S
 refine AF (λhc=>?_) λhc=>?_
 ·have mj:=mj.takeA (k:=k) (by exists 3,0x120a001b2081180a18,ha,hk1) hb λi hi=>by rwa[Aj hb];exact hk2 i hi
  refine AF (λf=>aD2 (q.d _ _ (mj.last (aD3 f) hl))) λf=>AF (λf=>aD2 (q.d _ _ (mj.done (.inl (aB7 (aD3 f).symm))))) λf'=>?_
  have f:ia+k+1≠a.size:=λz=>f (beq_iff_eq.mpr z)
  have f':ia+k≠a.size:=λz=>f' (beq_iff_eq.mpr z)
  exact QS H (S.1.trans hk) q (by rwa[bB6];exists 3,9026146312,hz) hl mj (by exists 3,0x11820aa1120a29811820aa29801b2081180a18,ha,hk1,f,f') hb (by rwa[Aj hb];exact aK0 (hk3 k (aA6 _) (by exists 3,0x1b21120a29801b2081180a18,ha,hk1,f')))
 ·exact QS H (S.1.trans hk) q hz hl mj ha hb (by rwa[Aj hb];exact aK0 (hk3 0 (by exists 1,0x800008198,hc) (by exists 2,0x1b0811180a18,ha)))
def XY(H:TO prog w A E s r κ In a b)(hk:aE8 st=κ)(q :∀st',Ŏ st st'->İ r T a b n Q st')(hz:n<=o.size)(hl :∀j,j<b.size->Ğ r b j<=Ğ r a (a.size-1))(g:ŗ r T a b o ia ib):wpS (aC6 prog w) A E s (t4 a b m ac bc o ia ib) Q st:=
 AF (λ_=>QI H hk q hz hl g) λ_=>QI H hk q hz hl g
end
def YB{Q:ForInStep (GZ (Nat×Nat))->aC5->Prop}(H:TO prog w A E s r κ In a b)(hk:aE8 st=κ)(q:İ r T a b o.size Q st)(hl :∀j,j<b.size->Ğ r b j<=Ğ r a (a.size-1))(g:ŗ r T a b o ia ib):wpS (aC6 prog w) A E s (uS a b m ac bc o ia ib) Q st:=by
 obtain⟨mj,ha,hb⟩:=g
 have la:ia<a.size:=aT0 ha
 have xa:=aB9 la
 have xb:=aB9 hb
 refine aC3 (A6 xb (aC3 (A6 xa (aC3 (H.C _ _ (H.inb _ (aK6 hb)) (H.ina _ (aK6 la)) st _ hk (AF (λle=>?_) λle=>?_))))))
 ·refine aC3 (A6 xb ?_)
  have mj:=(mj.sw.pushA hb la (by rwa[Aj la,Aj hb];exact aK0 (bR1 le))).sw
  refine AF (λf=>aD2 (q.d _ _ (mj.done (.inr (aB7 (aD3 f).symm))))) λf=>?_
  have f:ib+1≠b.size:=λz=>f (beq_iff_eq.mpr z)
  have z:=q.n _ _ _ (0,bc+1) ⟨mj,ha,by exists 2,0x1180a11180a2981018,hb,f⟩ (by rw[aO5];exact aC1 _)
  exact AF (λ_=>aD2 z.1) λ_=>aD2 z.2
 ·refine aC3 (A6 xa ?_)
  have mj:=mj.pushA la hb (by rwa[Aj la,Aj hb];exact aP0.mp λz=>le (bQ9 z))
  refine AF (λf=>aD2 (q.d _ _ (mj.last (aD3 f) hl))) λf=>?_
  have f:ia+1+1≠a.size:=λz=>f (beq_iff_eq.mpr z)
  have z:=q.n _ _ _ (ac+1,0) ⟨mj,by(exists 2,0x118180aa1118180aa2981180a18,ha,f),hb⟩ (by rw[aO5];exact aC1 _)
  exact AF (λ_=>aD2 z.1) λ_=>aD2 z.2
inductive kD(r:aB6->Int)(T:List aB6)(a b:Array aB6){τ:Type}(n:Nat):GZ τ->Prop
 | mk (o:Array aB6) (ia ib:Nat) (t:τ) (g:ŗ r T a b o ia ib) (hz:n<=o.size):kD r T a b n (none,o,ia,ib,t)
inductive lA(r:aB6->Int)(T:List aB6)(a b:Array aB6){τ:Type}(n:Nat):GZ τ->Prop
 | fin (o:Array aB6) (p:Array aB6×Nat×Nat×τ) (h:Ş r T o):lA r T a b n (some o,p)
 | mk (o:Array aB6) (ia ib:Nat) (t:τ) (g:ŗ r T a b o ia ib) (hz:n<o.size):lA r T a b n (none,o,ia,ib,t)
def Y5{Q:ForInStep (GZ Nat)->aC5->Prop}(H:TO prog w A E s r κ In a b)(hk:aE8 st=κ)(qd :∀st' o p,Ŏ st st'->Ş r T o->Q (.done (some o,p)) st')(qn :∀st' o' ia ib t,Ŏ st st'->ŗ r T a b o' ia ib->o.size<o'.size->Q (.yield (none,o',ia,ib,t)) st')(hl :∀j,j<b.size->Ğ r b j<=Ğ r a (a.size-1))(g:ŗ r T a b o ia ib):wpS (aC6 prog w) A E s (t9 a b (none,o,ia,ib,m)) Q st:=by
 refine aC3 (aS1 (aL0 (I:=λx c st'=>st=st'/\kD r T a b (x+o.size) c) (Q:=λc st'=>st=st'/\lA r T a b o.size c) ?_ ?_ ⟨rfl,.mk o ia ib _ g (by exists 1,2208)⟩) ?_)
 ·rintro x _ _ - - ⟨rfl,⟨o',ia,ib,t,g,hz⟩⟩
  exact YB (o:=o') H hk ⟨λ_ _ h=>⟨rfl,.fin _ _ h⟩,λ_ _ _ _ g h=>⟨⟨rfl,.mk _ _ _ _ g (by exists 4,0x3113218210a08,hz,h)⟩,rfl,.mk _ _ _ _ g (by exists 4,0x31180aa03218210a08,hz,h)⟩⟩ hl g
 ·rintro _ _ ⟨rfl,⟨o',ia,ib,t,g,hz⟩⟩
  exact⟨rfl,.mk _ _ _ _ g (by have:=g.ha;exists 5,0x3210184a183210a08ea08,hz,this)⟩
 ·rintro _ _ ⟨rfl,⟨o',p,h⟩ | ⟨o',ia,ib,t,g,hz⟩⟩
  ·exact aD2 (qd _ _ _ .rfl h)
  ·refine aC3 (bI1 (aQ8 ⟨rfl,?_⟩))
   refine aC3 (aS1 (aL0 (I:=λx c st'=>Ŏ st st'/\kD r T a b (o.size+1) c) (Q:=λc st'=>Ŏ st st'/\lA r T a b o.size c) ?_ ?_ ⟨.rfl,.mk _ _ _ _ g hz⟩) ?_)
   ·rintro x _ st' - - ⟨S,⟨o',ia,ib,t,g,hz⟩⟩
    exact XY (n:=o.size) (o:=o') H (S.1.trans hk) (λst'' S'=>⟨λ_ _ h=>⟨S.trans S',.fin _ _ h⟩,λ_ _ _ _ g h=>⟨⟨S.trans S',.mk _ _ _ _ g h⟩,S.trans S',.mk _ _ _ _ g h⟩⟩) (by exists 2,68737829384,hz) hl g
   ·rintro _ st' ⟨S,⟨o',ia,ib,t,g,hz⟩⟩
    exact⟨S,.mk _ _ _ _ g hz⟩
   ·rintro _ st' ⟨S,⟨o',p,h⟩ | ⟨o',ia,ib,t,g,hz⟩⟩
    ·exact aD2 (qd _ _ _ S h)
    ·exact aC3 (D9 S λst' S=>aD2 (qn _ _ _ _ _ S g hz))
def MQ(C:CD prog w A E s r κ In){a b:Array aB6}{st:aC5}{Q:Array aB6->aC5->Prop}{T:List aB6}(hk:aE8 st=κ)(ina :∀x∈a,In x)(inb :∀x∈b,In x)
  (ŝ:ŀ r T [] a.toList b.toList) (h1:0<a.size) (h2:0<b.size) (hf:Ğ r b 0<=Ğ r a 0) (hl :∀j,j<b.size->Ğ r b j<=Ğ r a (a.size-1))
  (h :∀o st',Ş r T o->Ŏ st st'->Q o st'):wpS (aC6 prog w) A E s (Ki a b) Q st:=by
 rw[Lc]
 refine aC3 (bI1 (aQ8 ⟨rfl,?_⟩))
 refine aC3 (A6 (aB9 h2) ?_)
 have m0:ŀ r T (#[b[0]]:Array aB6).toList (a.toList.drop 0) (b.toList.drop 1):=(ŀ.pushA (out:=(#[]:Array aB6)) (ia:=0) (ib:=0) (a:=b) (b:=a) ŝ.sw h2 h1 hf).sw
 have len :∀{o:Array aB6} {ia ib:Nat},ŗ r T a b o ia ib->o.size+3<=a.size+b.size:=λ{o ia ib} g=>by
  have q1:=g.m.len
  have õ:=m0.len
  have q3:=g.ha
  have ą:=g.hb
  have:(#[b[0]]:Array aB6).size=1:=rfl
  exists 7,0x31a380a01862834181182a185183b081ba6a28543b21ba0a28,q1,õ,q3,ą,this
 refine AF (λe=>aD2 (h _ st (m0.done (.inr (aB7 (aD3 e).symm))) .rfl)) λe1=>AF (λe=>aD2 (h _ st (m0.last (aD3 e) hl) .rfl)) λe2=>?_
 have e1:1≠b.size:=λz=>e1 (beq_iff_eq.mpr z)
 have e2:0+1≠a.size:=λz=>e2 (beq_iff_eq.mpr z)
 refine aC3 (wpS_get (aC3 (aS1 (aL0 (I:=λx c st'=>Ŏ st st'/\kD r T a b (x+1) c) (Q:=λc st'=>Ŏ st st'/\∃o p,c=(some o,p)/\Ş r T o) ?_ ?_ ⟨.rfl,.mk _ _ _ _ ⟨m0,by(exists 1,0x1808a101808a29800818,h1,e2),by exists 1,0x18101829800818,h2,e1⟩ (aA6 _)⟩) ?_)))
 ·rintro x _ st' - - ⟨S,⟨o,ia,ib,t,g,hz⟩⟩
  exact Y5 (o:=o) ⟨C,ina,inb⟩ (S.1.trans hk) (λ_ _ _ S' h=>⟨S.trans S',_,_,rfl,h⟩) (λ_ _ _ _ _ S' g h=>⟨S.trans S',.mk _ _ _ _ g (by exists 3,0x218180aa021181180a08,hz,h)⟩) hl g
 ·rintro _ _ ⟨S,⟨o,ia,ib,t,g,hz⟩⟩
  have:=len g
  exact aA8 (ũ [_,_,_] 0xa10a382a0821810a08ea08 (by rfl') hz this)
 ·rintro _ st' ⟨S,o,p,rfl,ho⟩
  exact aD2 (h o st' ho S)
end
section
variable{r:aB6->Int}{T:List aB6}{a b out:Array aB6}{na nb i:Nat}
noncomputable abbrev Ā(r:aB6->Int):aB6->Int:=λx=>- r x
noncomputable abbrev Ė(a:Array aB6)(n:Nat):List aB6:=a.reverse.toList.drop (a.size-n)
def EE(h:i<a.size):Ğ (Ā r) a.reverse i = - Ğ r a (a.size-1-i):=by
 have h':i<a.reverse.size:=by rwa[aI3];exact h
 rwa[Aj h',Aj (by exists 2,0x10181bb11018,h:a.size-1-i<a.size)]
 simp only[Ā,Array.getElem_reverse]
def Nr{j k:Nat}(hj:j<=k)(hk:k<=a.size):(a.extract j k).reverse.toList=(a.reverse.extract (a.size-k) (a.size-j)).toList:=by
 rwa[aK8,CS,CS,aK8,List.drop_reverse,List.take_reverse,aX5,aF1,(show min (a.size-(a.size-k)) a.size-(a.size-j-(a.size-k))=j by exists 3,0x12b02bb212b2bdb221081008,hj,hk),(show a.size-(a.size-k)=k by exists 2,7276204040,hk),List.drop_take];rfl
def ŀ.hTake(h:ŀ (Ā r) T out.toList (Ė a na) (Ė b nb)){at_:Nat}(h1:at_<=na)(h2:na<=a.size)(h3:0<nb)(h4:nb<=b.size)(le :∀i,at_<=i->i<na->Ğ r b (nb-1)<=Ğ r a i) :
  ŀ (Ā r) T (out++(a.extract at_ na).reverse).toList (Ė a at_) (Ė b nb):=by
 have h':=ŀ.takeA (a:=a.reverse) (b:=b.reverse) (ia:=a.size-na) (ib:=b.size-nb) (k:=na-at_) h (by rwa[aI3];exists 3,0x120b01ba01008,h2) (by rwa[aI3];exists 2,0x101b1100800818,h3,h4) λi hi=>by
  rwa[(EE (by exists 4,0x1201ba130b2181008,h2,hi)),EE (by exists 2,0x101b1100800818,h3,h4)]
  have:=le (a.size-1-(a.size-na+i)) (by exists 4,0x201ba181bb3030b2181008,h2,hi) (by exists 4,0x1013ba183bb121b018,hi)
  rwa[show b.size-1-(b.size-nb)=nb-1 by exists 2,0x180b01b181bb21008,h4]
  exact ġ [] [_,_] 0x1f11f31038 (by rfl') this
 rw[show a.size-na+(na-at_)=a.size-at_ by exists 3,0x2b01b12ba221081008,h1,h2]at h'
 rwa[aK1,Nr h1 h2,aK1.symm]
 exact h'
def ŀ.hPush(h:ŀ (Ā r) T out.toList (Ė a na) (Ė b nb))(h1:0<na)(h2:na<=a.size)(h3:0<nb)(h4:nb<=b.size)(le:Ğ r b (nb-1)<=Ğ r a (na-1)) :
  ŀ (Ā r) T (out.push (a[na-1]'(aB2 (bL8 h1 bE0) h2))).toList (Ė a (na-1)) (Ė b nb):=by
 have h':=ŀ.pushA (a:=a.reverse) (b:=b.reverse) (ia:=a.size-na) (ib:=b.size-nb) h (by rwa[aI3];exists 2,0x101b1100800818,h1,h2) (by rwa[aI3];exists 2,0x101b1100800818,h3,h4) (by
  rwa[(EE (by exists 2,0x101b1100800818,h1,h2)),(EE (by exists 2,0x101b1100800818,h3,h4)),(show b.size-1-(b.size-nb)=nb-1 by exists 2,0x180b01b181bb21008,h4),show a.size-1-(a.size-na)=na-1 by exists 2,0x180b01b181bb21008,h2]
  exact ġ [] [_,_] 0x1f11f31038 (by rfl') le)
 have e:a.reverse[a.size-na]'(by rwa[aI3];exists 2,0x101b1100800818,h1,h2)=a[na-1]:=by
  rw[Array.getElem_reverse]
  congr 1
  exists 2,0x180b01b181bb21008,h2
 rw[e,show a.size-na+1=a.size-(na-1)by exists 2,0x180b1b1801ba2100800818,h1,h2]at h'
 exact h'
def Ş.rev{o o':Array aB6}(h:Ş (Ā r) T o)(e:o'.toList=o.toList.reverse):Ş r T o':=by
 unfold Ş
 rwa[e]
 refine⟨(bB7 _).trans h.1,List.pairwise_reverse.mpr (h.2.imp λ{x y} q=>?_)⟩
 have q:- r x<=- r y:=q
 exact ġ [] [_,_] 0x1311f01f38 (by rfl') q
def GK{n:Nat}(h:n<=a.size):(a.reverse.extract (a.size-n) a.reverse.size).toList.reverse=(a.extract 0 n).toList:=by
 have:=Nr (a:=a) (aD4 n) h
 rw[bI6]at this
 rwa[aI3,this.symm,aK8];rw[List.reverse_reverse]
def ŀ.hDone(h:ŀ (Ā r) T out.toList (Ė a na) (Ė b nb))(h2:na<=a.size)(h4:nb<=b.size)(hz:na=0\/nb=0):Ş r T (a.extract 0 na++b.extract 0 nb++out.reverse):=by
 refine(ŀ.done (a:=b.reverse) (b:=a.reverse) h.sw (by simp only[aI3];exists 4,0x3b3012b2070812080278,hz)).rev ?_
 simp only[aK1,List.reverse_append,GK h2,GK h4,aK8,aD1]
def ŀ.hFirst(h:ŀ (Ā r) T out.toList (Ė a na) (Ė b nb))(h2:na<=a.size)(h3:nb=1)(h4:nb<=b.size)(hl :∀j,j<a.size->Ğ r b 0<=Ğ r a j):Ş r T (b.extract 0 nb++a.extract 0 na++out.reverse):=by
 subst h3
 refine(ŀ.last (a:=b.reverse) (b:=a.reverse) h.sw (by rwa[aI3];exists 1,0x18180ba201808,h4) λj hj=>?_).rev ?_
 ·rw[aI3]at hj
  rwa[aI3,EE hj,(EE (by exists 1,0x180b101808,h4)),show b.size-1-(b.size-1)=0 by exists 1,0x8180b180bb2]
  have:=hl (a.size-1-j) (by exists 2,0x10181bb11018,hj)
  exact ġ [] [_,_] 0x1f11f31038 (by rfl') this
 ·simp only[aK1,List.reverse_append,GK h2,GK h4,aK8,aD1]
def R3{o:List aB6}{n j k:Nat}(h:Ŗ (Ā r) (o++Ė a n))(hn:n<=a.size)(hjk:j<=k)(hk:k<n):Ğ r a j<=Ğ r a k:=by
 have:=FP (r:=Ā r) (a:=a.reverse) (i:=a.size-n) (j:=a.size-1-k) (k:=a.size-1-j) h (by exists 3,0x182bb12b01018,hk) (by exists 3,0x182bb1182bb01008,hjk) (by rwa[aI3];exists 4,0x13181bb102181008,hn,hk)
 rw[EE (by exists 3,0x12181bb102181008,hn,hk),EE (by exists 4,0x13181bb102181008,hn,hk),show a.size-1-(a.size-1-k)=k by(exists 3,0x22181bb181bb202181008,hn,hk),show a.size-1-(a.size-1-j)=j by exists 4,0x22181bb181bb2031832081008,hn,hjk,hk]at this
 exact ġ [] [_,_] 0x1311f01f38 (by rfl') this
def ŀ.hLen(h:ŀ (Ā r) T out.toList (Ė a na) (Ė b nb))(h2:na<=a.size)(h4:nb<=b.size):out.size+(na+nb)=T.length:=by
 have:=ŀ.len (a:=a.reverse) (b:=b.reverse) h
 simp only[aI3]at this
 exists 6,0x520a4a2523b3b01b1ba4a2832081008,h2,h4,this
end
abbrev GP(τ:Type):=Option (Array aB6)×Nat×Nat×Array aB6×τ
section
variable(a b:Array aB6)
noncomputable def Vw(o:Array aB6)(na nb:Nat):Array aB6:=a.extract 0 na++b.extract 0 nb++o.reverse
noncomputable def kB(o:Array aB6)(na nb:Nat):Array aB6:=b.extract 0 nb++a.extract 0 na++o.reverse
def nY(m ac bc:Nat)(o:Array aB6)(na nb:Nat):StateT aC5 Sem (ForInStep (GP (Nat×Nat×Nat))):=do
 let x<-elem' a (na-1)
 if(na-1==0)=true then pure (.done (some (Vw a b (o.push x) (na-1) nb),na-1,nb,o.push x,m,ac,bc))
 else if(decide (ac<7)&&decide (bc<7))=true then pure (.done (none,na-1,nb,o.push x,m,ac,bc))
 else pure (.yield (none,na-1,nb,o.push x,m,ac,bc))
def rK(m ac bc:Nat)(o:Array aB6)(na nb:Nat):Option Nat->StateT aC5 Sem (ForInStep (GP (Nat×Nat×Nat)))
 | some k=>
  if nb-k>0 then
   if(k==1)=true then pure (.done (some (kB a b (o++(b.extract k nb).reverse) na k),na,k,o++(b.extract k nb).reverse,m,ac,nb-k))
   else if(k==0)=true then pure (.done (some (Vw a b (o++(b.extract k nb).reverse) na k),na,k,o++(b.extract k nb).reverse,m,ac,nb-k))
   else nY a b m ac (nb-k) (o++(b.extract k nb).reverse) na k
  else nY a b m ac (nb-k) o na nb
 | _=>pure (.done (some (Vw a b o na nb),na,nb,o,m,ac,bc))
def pV(m ac bc:Nat)(o:Array aB6)(na nb:Nat):StateT aC5 Sem (ForInStep (GP (Nat×Nat×Nat))):=do
 let y<-elem' b (nb-1)
 if(nb-1==1)=true then pure (.done (some (kB a b (o.push y) na (nb-1)),na,nb-1,o.push y,m,ac,bc))
 else do
  let x<-elem' a (na-1)
  let k<-Db true x b 0 (nb-1) (nb-1-1)
  rK a b m ac bc (o.push y) na (nb-1) k
def lH(m ac bc:Nat)(o:Array aB6)(na nb:Nat):Option Nat->StateT aC5 Sem (ForInStep (GP (Nat×Nat×Nat)))
 | some k=>
  if na-k>0 then
   if(k==0)=true then pure (.done (some (Vw a b (o++(a.extract k na).reverse) k nb),k,nb,o++(a.extract k na).reverse,m,na-k,bc))
   else pV a b m (na-k) bc (o++(a.extract k na).reverse) k nb
  else pV a b m (na-k) bc o na nb
 | _=>pure (.done (some (Vw a b o na nb),na,nb,o,m,ac,bc))
def lW(m ac bc:Nat)(o:Array aB6)(na nb:Nat):StateT aC5 Sem (ForInStep (GP (Nat×Nat×Nat))):=do
 EL m
 let y<-elem' b (nb-1)
 let k<-Db false y a 0 na (na-1)
 lH a b m ac bc o na nb k
def uI(m ac bc:Nat)(o:Array aB6)(na nb:Nat):StateT aC5 Sem (ForInStep (GP (Nat×Nat×Nat))):=
 if m>1 then lW a b (m-1) ac bc o na nb else lW a b m ac bc o na nb
def mI(m ac bc:Nat)(o:Array aB6)(na nb:Nat):Option Bool->StateT aC5 Sem (ForInStep (GP (Nat×Nat)))
 | some w=>
  if w=true then do
   let x<-elem' a (na-1)
   if(na-1==0)=true then pure (.done (some (Vw a b (o.push x) (na-1) nb),na-1,nb,o.push x,ac+1,0))
   else if ac+1≥m then pure (.done (none,na-1,nb,o.push x,ac+1,0))
   else pure (.yield (none,na-1,nb,o.push x,ac+1,0))
  else do
   let y<-elem' b (nb-1)
   if(nb-1==1)=true then pure (.done (some (kB a b (o.push y) na (nb-1)),na,nb-1,o.push y,0,bc+1))
   else if bc+1≥m then pure (.done (none,na,nb-1,o.push y,0,bc+1))
   else pure (.yield (none,na,nb-1,o.push y,0,bc+1))
 | _=>pure (.done (some (Vw a b o na nb),na,nb,o,ac,bc))
def uT(m ac bc:Nat)(o:Array aB6)(na nb:Nat):StateT aC5 Sem (ForInStep (GP (Nat×Nat))):=do
 let y<-elem' b (nb-1)
 let x<-elem' a (na-1)
 let w<-lt' y x
 mI a b m ac bc o na nb w
def xN(c:GP (Nat×Nat×Nat)):StateT aC5 Sem (ForInStep (GP Nat)):=
 match c.1 with
 | some r=>pure (.done (some r,c.2.1,c.2.2.1,c.2.2.2.1,c.2.2.2.2.1))
 | none=>do
  EL (c.2.2.2.2.1+1)
  pure (.yield (none,c.2.1,c.2.2.1,c.2.2.2.1,c.2.2.2.2.1+1))
def s8(m:Nat)(c:GP (Nat×Nat)):StateT aC5 Sem (ForInStep (GP Nat)):=
 match c.1 with
 | some r=>pure (.done (some r,c.2.1,c.2.2.1,c.2.2.2.1,m))
 | none=>do
  liftM (rule "list.sort.gallop")
  let c<-forIn [:a.size+b.size] ((none,c.2.1,c.2.2.1,c.2.2.2.1,m+1,c.2.2.2.2):GP (Nat×Nat×Nat)) λ_ c=>
   uI a b c.2.2.2.2.1 c.2.2.2.2.2.1 c.2.2.2.2.2.2 c.2.2.2.1 c.2.1 c.2.2.1
  xN c
def uC(c:GP Nat):StateT aC5 Sem (ForInStep (GP Nat)):=do
 let d<-forIn [:a.size+b.size] ((none,c.2.1,c.2.2.1,c.2.2.2.1,0,0):GP (Nat×Nat)) λ_ d=>uT a b c.2.2.2.2 d.2.2.2.2.1 d.2.2.2.2.2 d.2.2.2.1 d.2.1 d.2.2.1
 s8 a b c.2.2.2.2 d
noncomputable def xL(c:GP Nat):StateT aC5 Sem (Array aB6):=
 match c.1 with
 | some r=>pure r
 | none=>liftM (unsupported "internal:list.sort.merge-bound":Sem (Array aB6))
def gT:StateT aC5 Sem (Array aB6):=do
 liftM (rule "list.sort.merge-hi")
 let x<-elem' a (a.size-1)
 if(a.size-1==0)=true then pure (Vw a b #[x] (a.size-1) b.size)
 else if(b.size==1)=true then pure (kB a b #[x] (a.size-1) b.size)
 else do
  let st<-get
  let c<-forIn [:a.size+b.size] ((none,a.size-1,b.size,#[x],gallopOf st):GP Nat) λ_ c=>uC a b c
  xL c
def L6:Kk a b=gT a b:=by rfl'
end
section
variable{prog:aF3}{w:aC9}{A:aH1}{E:Value->aA5->Prop}{s:aA5}{r:aB6->Int}{κ:aS0}{In:aB6->Prop}
structure ł(r:aB6->Int)(T:List aB6)(a b out:Array aB6)(na nb:Nat):Prop where
 m:ŀ (Ā r) T out.toList (Ė a na) (Ė b nb)
 h1:0<na
 h2:na<=a.size
 h3:1<nb
 h4:nb<=b.size
structure ų(r:aB6->Int)(T:List aB6)(a b:Array aB6){τ:Type}(n:Nat)(Q:ForInStep (GP τ)->aC5->Prop)(st:aC5):Prop where
 d :∀o p,Ş r T o->Q (.done (some o,p)) st
 n :∀o na nb t,ł r T a b o na nb->n<o.size->Q (.done (none,na,nb,o,t)) st/\Q (.yield (none,na,nb,o,t)) st
variable{a b:Array aB6}{T:List aB6}{st:aC5}{o:Array aB6}{na nb n m ac bc k:Nat}
section
variable{Q:ForInStep (GP (Nat×Nat×Nat))->aC5->Prop}
def Q2(q:ų r T a b n Q st)(hz:n<=o.size)(g:ł r T a b o na nb)(le:Ğ r b (nb-1)<=Ğ r a (na-1)):wpS (aC6 prog w) A E s (nY a b m ac bc o na nb) Q st:=by
 obtain⟨mj,g1,g2,g3,g4⟩:=g
 refine aC3 (A6 (aB9 (by exists 2,0x1180b1100800818,g1,g2)) ?_)
 have mj:=mj.hPush g1 g2 (by exists 1,0x8101818,g3) g4 le
 have le1:na-1<=a.size:=by exists 2,75173466120,g2
 refine AF (λf=>aD2 (q.d _ _ (mj.hDone le1 g4 (.inl (aD3 f))))) λf=>?_
 have f:na-1≠0:=λz=>f (beq_iff_eq.mpr z)
 have z:=q.n _ _ _ (m,ac,bc) ⟨mj,by(exists 1,0x180b08108180b298,f),le1,g3,g4⟩ (by rw[aO5];exists 2,0x181a011008,hz)
 exact AF (λ_=>aD2 z.1) λ_=>aD2 z.2
def Qr(H:TO prog w A E s r κ In a b)(hk:aE8 st=κ)(q:ų r T a b n Q st)(hz:n<=o.size)(hf :∀j,j<a.size->Ğ r b 0<=Ğ r a j)(g:ł r T a b o na nb)(le:Ğ r a (na-1)<=Ğ r b (nb-1)):wpS (aC6 prog w) A E s (pV a b m ac bc o na nb) Q st:=by
 obtain⟨mj,g1,g2,g3,g4⟩:=g
 have lb:nb-1<b.size:=by exists 2,0x1180b1100801818,g3,g4
 refine aC3 (A6 (aB9 lb) ?_)
 have mj:=(mj.sw.hPush (by exists 1,0x8101818,g3) g4 g1 g2 le).sw
 have le1:nb-1<=b.size:=by exists 2,75173466120,g4
 refine AF (λf=>aD2 (q.d _ _ (mj.hFirst g2 (aD3 f) le1 hf))) λf=>?_
 have f:nb-1≠1:=λz=>f (beq_iff_eq.mpr z)
 have hz:n<=(o.push b[nb-1]).size:=by rw[aO5];exists 2,0x181a001008,hz
 have g3:1<nb-1:=by exists 1,0x180b18118180b29801818,g3,f
 generalize o.push b[nb-1]=o at mj hz
 generalize nb-1=nb at mj g3 le1
 have la:na-1<a.size:=by exists 2,0x1180b1100800818,g1,g2
 refine aC3 (A6 (aB9 la) (aC3 (Cj H.C (H.ina _ (aK6 la)) H.inb hk (by exists 2,68864184328,le1) (λi j hij hj=>by rw[aH9,aH9];exact R3 mj.sy le1 hij hj) (by exists 1,0x180b101818,g3) λk hk1 hk2 hk3=>?_)))
 have le:0<k->Ğ r b (k-1)<=Ğ r a (na-1):=λŝ=>by
  have:=hk2 (k-1) (by exists 1,0x180b100818,ŝ)
  rw[aH9]at this
  rwa[Aj la]
  exact aK0 this
 refine AF (λhc=>?_) λhc=>?_
 ·have mj:=(mj.sw.hTake (at_:=k) hk1 le1 g1 g2 λi h1 h2=>by
   have:=hk3 i h1 h2
   rw[aH9]at this
   rwa[Aj la]
   exact this).sw
  have le2:k<=b.size:=by exists 3,0x12002081008,le1,hk1
  refine AF (λf=>aD2 (q.d _ _ (mj.hFirst g2 (aD3 f) le2 hf))) λf4=>AF (λf=>aD2 (q.d _ _ (mj.hDone g2 le2 (.inr (aD3 f))))) λf5=>?_
  have f4:k≠1:=λz=>f4 (beq_iff_eq.mpr z)
  have f5:k≠0:=λz=>f5 (beq_iff_eq.mpr z)
  exact Q2 q (by rwa[bB6];exists 3,9026146312,hz) ⟨mj,g1,g2,by(exists 1,0x181080298180298,f4,f5),le2⟩ (le (by exists 1,0x81080298,f5))
 ·have k0:k=nb:=by exists 2,0x10201b081981008,hk1,hc
  exact Q2 q hz ⟨mj,g1,g2,g3,le1⟩ (by rwa[k0.symm];exact le (by exists 2,0x108110b0819801818,g3,hc))
def Sf(H:TO prog w A E s r κ In a b)(hk:aE8 st=κ)(q :∀st',Ŏ st st'->ų r T a b n Q st')(hz:n<=o.size)(hf :∀j,j<a.size->Ğ r b 0<=Ğ r a j)(g:ł r T a b o na nb):wpS (aC6 prog w) A E s (lW a b m ac bc o na nb) Q st:=by
 obtain⟨mj,g1,g2,g3,g4⟩:=g
 have lb:nb-1<b.size:=by exists 2,0x1180b1100801818,g3,g4
 refine aC3 (D9 .rfl λst' S=>aC3 (A6 (aB9 lb) (aC3 (Cj H.C (H.inb _ (aK6 lb)) H.ina (S.1.trans hk) (by exists 2,68864184328,g2) (λi j hij hj=>by rw[aH9,aH9];exact R3 mj.so g2 hij hj) (by exists 1,0x180b100818,g1) λk hk1 hk2 hk3=>?_))))
 have q:=q st' S
 have le:0<k->Ğ r a (k-1)<=Ğ r b (nb-1):=λŝ=>by
  have:=hk2 (k-1) (by exists 1,0x180b100818,ŝ)
  rw[aH9]at this
  rwa[Aj lb]
  exact this
 refine AF (λhc=>?_) λhc=>?_
 ·have mj:=mj.hTake (at_:=k) hk1 g2 (by exists 1,0x8101818,g3) g4 λi h1 h2=>by
   have:=hk3 i h1 h2
   rw[aH9]at this
   rwa[Aj lb]
   exact aK0 this
  have le2:k<=a.size:=by exists 3,0x12002081008,g2,hk1
  refine AF (λf=>aD2 (q.d _ _ (mj.hDone le2 g4 (.inl (aD3 f))))) λf=>?_
  have f:k≠0:=λz=>f (beq_iff_eq.mpr z)
  exact Qr H (S.1.trans hk) q (by rwa[bB6];exists 3,9026146312,hz) hf ⟨mj,by(exists 1,0x81080298,f),le2,g3,g4⟩ (le (by exists 1,0x81080298,f))
 ·have k0:k=na:=by exists 2,0x10201b081981008,hk1,hc
  exact Qr H (S.1.trans hk) q hz hf ⟨mj,g1,g2,g3,g4⟩ (by rwa[k0.symm];exact le (by exists 2,0x108110b0819800818,g1,hc))
def YC(H:TO prog w A E s r κ In a b)(hk:aE8 st=κ)(q :∀st',Ŏ st st'->ų r T a b n Q st')(hz:n<=o.size)(hf :∀j,j<a.size->Ğ r b 0<=Ğ r a j)(g:ł r T a b o na nb):wpS (aC6 prog w) A E s (uI a b m ac bc o na nb) Q st:=
 AF (λ_=>Sf H hk q hz hf g) λ_=>Sf H hk q hz hf g
end
def XK{Q:ForInStep (GP (Nat×Nat))->aC5->Prop}(H:TO prog w A E s r κ In a b)(hk:aE8 st=κ)(q:ų r T a b o.size Q st)(hf :∀j,j<a.size->Ğ r b 0<=Ğ r a j)(g:ł r T a b o na nb):wpS (aC6 prog w) A E s (uT a b m ac bc o na nb) Q st:=by
 obtain⟨mj,g1,g2,g3,g4⟩:=g
 have la:na-1<a.size:=by exists 2,0x1180b1100800818,g1,g2
 have lb:nb-1<b.size:=by exists 2,0x1180b1100801818,g3,g4
 have xa:=aB9 la
 have xb:=aB9 lb
 refine aC3 (A6 xb (aC3 (A6 xa (aC3 (H.C _ _ (H.inb _ (aK6 lb)) (H.ina _ (aK6 la)) st _ hk (AF (λle=>?_) λle=>?_))))))
 ·refine aC3 (A6 xa ?_)
  have mj:=mj.hPush g1 g2 (by exists 1,0x8101818,g3) g4 (by rwa[Aj la,Aj lb];exact aK0 (bR1 le))
  have le1:na-1<=a.size:=by exists 2,75173466120,g2
  refine AF (λf=>aD2 (q.d _ _ (mj.hDone le1 g4 (.inl (aD3 f))))) λf=>?_
  have f:na-1≠0:=λz=>f (beq_iff_eq.mpr z)
  have z:=q.n _ _ _ (ac+1,0) ⟨mj,by(exists 1,0x180b08108180b298,f),le1,g3,g4⟩ (by rw[aO5];exact aC1 _)
  exact AF (λ_=>aD2 z.1) λ_=>aD2 z.2
 ·refine aC3 (A6 xb ?_)
  have mj:=(mj.sw.hPush (by exists 1,0x8101818,g3) g4 g1 g2 (by rwa[Aj la,Aj lb];exact aP0.mp λz=>le (bQ9 z))).sw
  have le1:nb-1<=b.size:=by exists 2,75173466120,g4
  refine AF (λf=>aD2 (q.d _ _ (mj.hFirst g2 (aD3 f) le1 hf))) λf=>?_
  have f:nb-1≠1:=λz=>f (beq_iff_eq.mpr z)
  have z:=q.n _ _ _ (0,bc+1) ⟨mj,g1,g2,by(exists 1,0x180b18118180b29801818,g3,f),le1⟩ (by rw[aO5];exact aC1 _)
  exact AF (λ_=>aD2 z.1) λ_=>aD2 z.2
inductive kP(r:aB6->Int)(T:List aB6)(a b:Array aB6){τ:Type}(n:Nat):GP τ->Prop
 | mk (o:Array aB6) (na nb:Nat) (t:τ) (g:ł r T a b o na nb) (hz:n<=o.size):kP r T a b n (none,na,nb,o,t)
inductive kN(r:aB6->Int)(T:List aB6)(a b:Array aB6){τ:Type}(n:Nat):GP τ->Prop
 | fin (o:Array aB6) (p:Nat×Nat×Array aB6×τ) (h:Ş r T o):kN r T a b n (some o,p)
 | mk (o:Array aB6) (na nb:Nat) (t:τ) (g:ł r T a b o na nb) (hz:n<o.size):kN r T a b n (none,na,nb,o,t)
def Yb{Q:ForInStep (GP Nat)->aC5->Prop}(H:TO prog w A E s r κ In a b)(hk:aE8 st=κ)(qd :∀st' o p,Ŏ st st'->Ş r T o->Q (.done (some o,p)) st')(qn :∀st' o' na nb t,Ŏ st st'->ł r T a b o' na nb->o.size<o'.size->Q (.yield (none,na,nb,o',t)) st')(hf :∀j,j<a.size->Ğ r b 0<=Ğ r a j)(g:ł r T a b o na nb):wpS (aC6 prog w) A E s (uC a b (none,na,nb,o,m)) Q st:=by
 refine aC3 (aS1 (aL0 (I:=λx c st'=>st=st'/\kP r T a b (x+o.size) c) (Q:=λc st'=>st=st'/\kN r T a b o.size c) ?_ ?_ ⟨rfl,.mk o na nb _ g (by exists 1,2208)⟩) ?_)
 ·rintro x _ _ - - ⟨rfl,⟨o',na,nb,t,g,hz⟩⟩
  exact XK (o:=o') H hk ⟨λ_ _ h=>⟨rfl,.fin _ _ h⟩,λ_ _ _ _ g h=>⟨⟨rfl,.mk _ _ _ _ g (by exists 4,0x3113218210a08,hz,h)⟩,rfl,.mk _ _ _ _ g (by exists 4,0x31180aa03218210a08,hz,h)⟩⟩ hf g
 ·rintro _ _ ⟨rfl,⟨o',na,nb,t,g,hz⟩⟩
  exact⟨rfl,.mk _ _ _ _ g (by have:=g.h1;have:=g.h2;rename_i u3;exists 5,0x3210408408183210a08ea08,hz,u3,this)⟩
 ·rintro _ _ ⟨rfl,⟨o',p,h⟩ | ⟨o',na,nb,t,g,hz⟩⟩
  ·exact aD2 (qd _ _ _ .rfl h)
  ·refine aC3 (bI1 (aQ8 ⟨rfl,?_⟩))
   refine aC3 (aS1 (aL0 (I:=λx c st'=>Ŏ st st'/\kP r T a b (o.size+1) c) (Q:=λc st'=>Ŏ st st'/\kN r T a b o.size c) ?_ ?_ ⟨.rfl,.mk _ _ _ _ g hz⟩) ?_)
   ·rintro x _ st' - - ⟨S,⟨o',na,nb,t,g,hz⟩⟩
    exact YC (n:=o.size) (o:=o') H (S.1.trans hk) (λst'' S'=>⟨λ_ _ h=>⟨S.trans S',.fin _ _ h⟩,λ_ _ _ _ g h=>⟨⟨S.trans S',.mk _ _ _ _ g h⟩,S.trans S',.mk _ _ _ _ g h⟩⟩) (by exists 2,68737829384,hz) hf g
   ·rintro _ st' ⟨S,⟨o',na,nb,t,g,hz⟩⟩
    exact⟨S,.mk _ _ _ _ g hz⟩
   ·rintro _ st' ⟨S,⟨o',p,h⟩ | ⟨o',na,nb,t,g,hz⟩⟩
    ·exact aD2 (qd _ _ _ S h)
    ·exact aC3 (D9 S λst' S=>aD2 (qn _ _ _ _ _ S g hz))
def Ls(C:CD prog w A E s r κ In){a b:Array aB6}{st:aC5}{Q:Array aB6->aC5->Prop}{T:List aB6}(hk:aE8 st=κ)(ina :∀x∈a,In x)(inb :∀x∈b,In x)
  (ŝ:ŀ r T [] a.toList b.toList) (h1:0<a.size) (h2:0<b.size) (hf :∀j,j<a.size->Ğ r b 0<=Ğ r a j) (hl:Ğ r b (b.size-1)<=Ğ r a (a.size-1))
  (h :∀o st',Ş r T o->Ŏ st st'->Q o st'):wpS (aC6 prog w) A E s (Kk a b) Q st:=by
 rw[L6]
 refine aC3 (bI1 (aQ8 ⟨rfl,?_⟩))
 have xl:a.size-1<a.size:=bL8 h1 bE0
 refine aC3 (A6 (aB9 xl) ?_)
 have m0:ŀ (Ā r) T (#[a[a.size-1]]:Array aB6).toList (Ė a (a.size-1)) (Ė b b.size):=by
  have e:ŀ (Ā r) T (#[]:Array aB6).toList (Ė a a.size) (Ė b b.size):=by
   unfold Ė
   rw[bF4,bF4]
   have rv :∀{l:List aB6},Ŗ r ([]++l)->Ŗ (Ā r) ([]++l.reverse):=λq=>List.pairwise_reverse.mpr (bH3.imp (λ{x y} q=>by show-r y<=- r x;exact id (ġ [] [_,_] 0x1f11f31038 (by rfl') q)) q)
   refine⟨?_,?_,?_⟩
   ·show(a.reverse.toList++b.reverse.toList).Perm T
    rwa[aK8,aK8]
    exact((bB7 _).append (bB7 _)).trans ŝ.perm
   ·show Ŗ (Ā r) ([]++a.reverse.toList)
    rwa[aK8]
    exact rv ŝ.so
   ·show Ŗ (Ā r) ([]++b.reverse.toList)
    rwa[aK8]
    exact rv ŝ.sy
  exact e.hPush h1 (aA6 _) h2 (aA6 _) hl
 have le1:a.size-1<=a.size:=by exists 1,98480
 have len :∀{o:Array aB6} {na nb:Nat},ł r T a b o na nb->o.size+3<=a.size+b.size:=λ{o na nb} g=>by
  have q1:=g.m.hLen g.h2 g.h4
  have õ:=m0.hLen le1 (aA6 _)
  have q3:=g.h1
  have ą:=g.h3
  have:(#[a[a.size-1]]:Array aB6).size=1:=rfl
  exists 7,0x60a381a018528318182081846180ba5a28432a1a2800818,h1,q1,õ,q3,ą,this
 refine AF (λe=>aD2 (h _ st (m0.hDone le1 (aA6 _) (.inl (aD3 e))) .rfl)) λe1=>AF (λe=>aD2 (h _ st (m0.hFirst le1 (aD3 e) (aA6 _) hf) .rfl)) λe2=>?_
 have e1:a.size-1≠0:=λz=>e1 (beq_iff_eq.mpr z)
 have e2:b.size≠1:=λz=>e2 (beq_iff_eq.mpr z)
 refine aC3 (wpS_get (aC3 (aS1 (aL0 (I:=λx c st'=>Ŏ st st'/\kP r T a b (x+1) c) (Q:=λc st'=>Ŏ st st'/\∃o p,c=(some o,p)/\Ş r T o) ?_ ?_ ⟨.rfl,.mk _ _ _ _ ⟨m0,by(exists 1,0x180b08108180b298,e1),le1,by(exists 1,0x18118029800818,h2,e2),aA6 _⟩ (aA6 _)⟩) ?_)))
 ·rintro x _ st' - - ⟨S,⟨o,na,nb,t,g,hz⟩⟩
  exact Yb (o:=o) ⟨C,ina,inb⟩ (S.1.trans hk) (λ_ _ _ S' h=>⟨S.trans S',_,_,rfl,h⟩) (λ_ _ _ _ _ S' g h=>⟨S.trans S',.mk _ _ _ _ g (by exists 3,0x218180aa021181180a08,hz,h)⟩) hf g
 ·rintro _ _ ⟨S,⟨o,na,nb,t,g,hz⟩⟩
  have:=len g
  exact aA8 (ũ [_,_,_] 0xa10a382a0821810a08ea08 (by rfl') hz this)
 ·rintro _ st' ⟨S,o,p,rfl,ho⟩
  exact aD2 (h o st' ho S)
end
section
variable{prog:aF3}{w:aC9}{A:aH1}{E:Value->aA5->Prop}{s:aA5}{r:aB6->Int}{κ:aS0}{In:aB6->Prop}
structure SB(κ:aS0)(pd:Array (Nat×Nat×Nat))(T:List aB6)(st:aC5):Prop where
 kind:aE8 st=κ
 failed:failedOf st=none
 pend:pendingOf st=pd
 perm:(arrOf st).toList.Perm T
variable{pd:Array (Nat×Nat×Nat)}{T:List aB6}{st:aC5}
theorem SB.size(h:SB κ pd T st):(arrOf st).size=T.length:=h.perm.length_eq
def SB.set(h:SB κ pd T st){xs:Array aB6}(p:xs.Perm (arrOf st)):SB κ pd T (setArr st xs):=⟨h.kind,h.failed,h.pend,(Array.perm_iff_toList_perm.mp p).trans h.perm⟩
def Eo(C:CD prog w A E s r κ In)(iT :∀x∈T,In x)(B:SB κ pd T st){i j:Nat}(hi:i<T.length)(hj:j<T.length){Q:Option Bool->aC5->Prop}(h:Q (some (decide (Ğ r (arrOf st) i<Ğ r (arrOf st) j))) st):wpS (aC6 prog w) A E s (ltAt' i j) Q st:=by
 rw[<-B.size]at hi hj
 rw[ltAt'_eq]
 refine aC3 (wpS_get ?_)
 have ii :∀{k} (hk:k<(arrOf st).size),In (arrOf st)[k]:=λhk=>iT _ (B.perm.mem_iff.mp (Array.getElem_mem_toList hk))
 refine aC3 (A6 (aB9 hi) (aC3 (A6 (aB9 hj) (C _ _ (ii hi) (ii hj) st _ B.kind ?_))))
 rw[Aj hi,Aj hj]at h
 exact h
def BN{a b:Array aB6}{i j:Nat}(h:a[i]?=b[j]?):Ğ r a i=Ğ r b j:=by unfold Ğ;rwa[h];rfl
def Fc{a:Array aB6}{i j:Nat}(hj:j<=a.size)(k:Nat):Ğ r (mirror a i j ((j-i) / 2)) k=if i<=k/\k<j then Ğ r a (i+j-1-k)else Ğ r a k:=by
 have e:=getElem?_mirror_all (i:=i) hj k
 by_cases h1:i<=k/\k<j
 ·rw[bQ6 h1]at e ⊢;exact BN e
 ·rw[bQ7 h1]at e ⊢;exact BN e
def IS{a:Array aB6}{i j k:Nat}(hj:j<=a.size)(h:k<i):(mirror a i j ((j-i) / 2))[k]?=a[k]?:=by
 rwa[getElem?_mirror_all hj k,bQ7 (by exists 3,0x201010691018,h)];rfl
def Tz{a:Array aB6}{i j:Nat}{v:Int}(hj:j<=a.size)(e :∀k,i<=k->k<j->Ğ r a k=v)(k:Nat):Ğ r (mirror a i j ((j-i) / 2)) k=Ğ r a k:=by
 rw[Fc hj]
 split
 ·rename_i u0
  rwa[(e _ (by exists 3,0x1812abb201018,u0.2) (by exists 3,0x211820abb121181008,u0.1,u0.2)),e k u0.1 u0.2];rfl
 ·rfl
def Vc(r:aB6->Int)(a:Array aB6)(lo n:Nat):Prop:=∀i j,i<=j->j<n->Ğ r a (lo+j)<=Ğ r a (lo+i)
def ľ(lo:Nat)(a b:Array aB6):Prop:=∀k,k<lo->b[k]?=a[k]?
def Yx{a:Array aB6}{lo:Nat}:ES r a lo 1:=λi j hij hj=>by
 have:i=j:=by exists 2,0x102181181008,hij,hj
 subst this
 exact aT8 _
def Ui{a:Array aB6}{lo n:Nat}(h1:1<=n)(h:ES r a lo n)(le:Ğ r a (lo+n-1)<=Ğ r a (lo+n)):ES r a lo (n+1):=λi j hij hj=>by
 by_cases hjn:j<n
 ·exact h i j hij hjn
 ·obtain rfl:j=n:=by exists 2,0x10210198181a018,hj,hjn
  by_cases hi:i=j
  ·subst hi;exact aT8 _
  ·have:=h i (j-1) (by exists 2,0x181b00102981008,hij,hi) (by exists 1,0x180b101808,h1)
   rw[show lo+(j-1)=lo+j-1 by exists 2,0x1801ab180b1a201808,h1]at this
   exact aL5 this le
def GH{a:Array aB6}{lo n:Nat}(h1:1<=n)(h:Vc r a lo n)(le:Ğ r a (lo+n)<=Ğ r a (lo+n-1)):Vc r a lo (n+1):=λi j hij hj=>by
 by_cases hjn:j<n
 ·exact h i j hij hjn
 ·obtain rfl:j=n:=by exists 2,0x10210198181a018,hj,hjn
  by_cases hi:i=j
  ·subst hi;exact aT8 _
  ·have:=h i (j-1) (by exists 2,0x181b00102981008,hij,hi) (by exists 1,0x180b101808,h1)
   rw[show lo+(j-1)=lo+j-1 by exists 2,0x1801ab180b1a201808,h1]at this
   exact aL5 le this
def Vc.same{a b:Array aB6}{lo n:Nat}(h:Vc r a lo n)(e :∀k,Ğ r b k=Ğ r a k):Vc r b lo n:=λi j hij hj=>by
 rw[e,e];exact h i j hij hj
def HS(B:SB κ pd T st){lo i j:Nat}{v:Int}(hj:j<=T.length)(hi:lo<=i)(e :∀k,i<=k->k<j->Ğ r (arrOf st) k=v){Q:Unit->aC5->Prop}
  (h :∀st',SB κ pd T st'->ľ lo (arrOf st) (arrOf st')->(∀k,Ğ r (arrOf st') k=Ğ r (arrOf st) k)->Q () st'):wpS (aC6 prog w) A E s (reverseSlice' i j) Q st:=by
 rw[<-B.size]at hj
 exact wpS_reverse (h _ (B.set (mirror_perm ..)) (λk hk=>IS hj (aB2 hk hi)) (Tz hj e))
noncomputable def oJ(lo n:Nat):StateT aC5 Sem (ForInStep (Option (Option Nat)×Nat)):=do
 let x<-ltAt' (lo+n) (lo+n-1)
 match x with
 | some z=>if z=true then pure (.done (none,n))else pure (.yield (none,n+1))
 | _=>pure (.done (some none,n))
noncomputable def rM(lo n q:Nat):Option Bool->StateT aC5 Sem (ForInStep (Option (Option Nat)×Nat×Nat))
 | some z=>if z=true then pure (.done (none,n,q))else pure (.yield (none,n+1,q+1))
 | _=>pure (.done (some none,n,q))
def uO(lo n q:Nat):StateT aC5 Sem (ForInStep (Option (Option Nat)×Nat×Nat)):=do
 let x<-ltAt' (lo+n) (lo+n-1)
 match x with
 | some z=>
  if z=true then
   if q>0 then do
    let _<-reverseSlice' (lo+n-(q+1)) (lo+n)
    pure (.yield (none,n+1,0))
   else pure (.yield (none,n+1,0))
  else do
   let y<-ltAt' (lo+n-1) (lo+n)
   rM lo n q y
 | _=>pure (.done (some none,n,q))
noncomputable def qW(c:Option (Option Nat)×Nat):StateT aC5 Sem (Option Nat):=
 match c.1 with
 | some r=>pure r
 | none=>pure (some c.2)
def k7(lo nrem n:Nat):StateT aC5 Sem (Option Nat):=do
 reverseSlice' lo (lo+n)
 let c<-forIn [n:nrem] ((none,n):Option (Option Nat)×Nat) λ_ c=>oJ lo c.2
 qW c
def m5(lo nrem:Nat)(c:Option (Option Nat)×Nat×Nat):StateT aC5 Sem (Option Nat):=
 match c.1 with
 | some r=>pure r
 | none=>
  if c.2.2>0 then do
   let _<-reverseSlice' (lo+c.2.1-(c.2.2+1)) (lo+c.2.1)
   k7 lo nrem c.2.1
  else k7 lo nrem c.2.1
def sJ(lo nrem n:Nat):StateT aC5 Sem (Option Nat):=do
 liftM (rule "list.sort.descending-run")
 let c<-forIn [n+1:nrem] ((none,n+1,0):Option (Option Nat)×Nat×Nat) λ_ c=>uO lo c.2.1 c.2.2
 m5 lo nrem c
def mX(lo nrem:Nat)(c:Option (Option Nat)×Nat):StateT aC5 Sem (Option Nat):=
 match c.1 with
 | some r=>pure r
 | none=>
  if(c.2==nrem)=true then pure (some c.2)
  else if c.2>1 then do
   let x<-ltAt' lo (lo+c.2-1)
   match x with
   | some z=>
    if z=true then pure (some c.2)
    else do
     let _<-reverseSlice' lo (lo+c.2)
     sJ lo nrem c.2
   | _=>pure none
  else sJ lo nrem c.2
def w5(lo nrem:Nat):StateT aC5 Sem (Option Nat):=do
 let c<-forIn [1:nrem] ((none,1):Option (Option Nat)×Nat) λ_ c=>oJ lo c.2
 mX lo nrem c
def Kd(lo nrem:Nat):countRun' lo nrem=w5 lo nrem:=by rfl'
def QW(C:CD prog w A E s r κ In)(iT :∀x∈T,In x)(B:SB κ pd T st){lo nrem m:Nat}(hm:1<=m)(mn:m<=nrem)(hn:lo+nrem<=T.length)(hu:ES r (arrOf st) lo m){β:Type}{K:Option (Option Nat)×Nat->StateT aC5 Sem β}{Q:β->aC5->Prop}
  (h :∀n,m<=n->n<=nrem->ES r (arrOf st) lo n->(n=nrem\/Ğ r (arrOf st) (lo+n)<Ğ r (arrOf st) (lo+n-1))->wpS (aC6 prog w) A E s (K (none,n)) Q st) :
  wpS (aC6 prog w) A E s ((forIn [m:nrem] ((none,m):Option (Option Nat)×Nat) λ_ c=>oJ lo c.2) >>= K) Q st:=by
 refine aC3 (aS1 (aL0
  (I:=λx c st'=>st=st'/\c=(none,x)/\ES r (arrOf st) lo x)
  (Q:=λc st'=>st=st'/\∃n,c=(none,n)/\m<=n/\n<=nrem/\ES r (arrOf st) lo n/\(n=nrem\/Ğ r (arrOf st) (lo+n)<Ğ r (arrOf st) (lo+n-1))) ?_ ?_ ⟨rfl,rfl,hu⟩) ?_)
 ·rintro x _ _ hx1 hx2 ⟨rfl,rfl,hu⟩
  refine aC3 (Eo C iT B (by exists 4,0x230a11318210a08,hn,hx2) (by exists 4,0x21830ab11318210a08,hn,hx2) (AF (λhl=>?_) λhl=>?_))
  ·exact aD2 ⟨rfl,x,rfl,hx1,aG2 hx2,hu,.inr (bR1 hl)⟩
  ·exact aD2 ⟨rfl,rfl,Ui (aA2 hm hx1) hu (aP0.mp λz=>hl (bQ9 z))⟩
 ·rintro _ _ ⟨rfl,rfl,hu⟩
  rw[aT5 mn]at hu ⊢
  exact⟨rfl,nrem,rfl,mn,aA6 _,hu,.inl rfl⟩
 ·rintro _ _ ⟨rfl,n,rfl,n1,n2,hu,hd⟩
  exact h n n1 n2 hu hd
structure é(r:aB6->Int)(κ:aS0)(pd:Array (Nat×Nat×Nat))(T:List aB6)(st st':aC5)(lo x q:Nat):Prop where
 B:SB κ pd T st'
 L:ľ lo (arrOf st) (arrOf st')
 D:Vc r (arrOf st') lo x
 q1:q+1<=x
 al :∀k,lo+x-(q+1)<=k->k<lo+x->Ğ r (arrOf st') k=Ğ r (arrOf st') (lo+x-1)
def YA(C:CD prog w A E s r κ In)(iT :∀x∈T,In x){st0:aC5}{lo x q:Nat}(I:é r κ pd T st0 st lo x q)(hx:lo+x<T.length){Q:ForInStep (Option (Option Nat)×Nat×Nat)->aC5->Prop}
  (hd:Q (.done (none,x,q)) st) (hy :∀st' q',é r κ pd T st0 st' lo (x+1) q'->Q (.yield (none,x+1,q')) st'):wpS (aC6 prog w) A E s (uO lo x q) Q st:=by
 have q1:=I.q1
 have x1:1<=x:=by exists 2,0x11801180a08,q1
 refine aC3 (Eo C iT I.B hx (by exists 3,0x21810ab1210a18,hx) (AF (λhl=>?_) λhl=>?_))
 ·have nx :∀st',SB κ pd T st'->ľ lo (arrOf st) (arrOf st')->(∀k,Ğ r (arrOf st') k=Ğ r (arrOf st) k)->Q (.yield (none,x+1,0)) st':=λst' B L e=>
   hy st' 0 ⟨B,λk hk=>(L k hk).trans (I.L k hk),GH x1 (I.D.same e) (by rw[e,e];exact aK0 (bR1 hl)),by(exists 1,0x180a1808a0),λk k1 k2=>by rwa[show k=lo+(x+1)-1 by exists 3,0x18181a0ab22181a0a21821808a181a0ab08,k1,k2];rfl⟩
  exact AF (λ_=>aC3 (HS I.B (aG2 hx) (by exists 3,0x180a12ab201180a08,q1) I.al λst' B L e=>aD2 (nx st' B L e))) λ_=>aD2 (nx st I.B (λ_ _=>rfl) λ_=>rfl)
 ·refine aC3 (Eo C iT I.B (by exists 3,0x21810ab1210a18,hx) hx (AF (λ_=>aD2 hd) λhl2=>aD2 ?_))
  have ee:Ğ r (arrOf st) (lo+x)=Ğ r (arrOf st) (lo+x-1):=Int.le_antisymm (aP0.mp λz=>hl2 (bQ9 z)) (aP0.mp λz=>hl (bQ9 z))
  refine hy st (q+1) ⟨I.B,I.L,GH x1 I.D (Int.le_of_eq ee),by(exists 2,0x181a18180aa01180a08,q1),λk k1 k2=>?_⟩
  rwa[(show lo+(x+1)-1=lo+x by exists 2,0x10a18181a0ab2),ee]
  by_cases hk:k=lo+x
  ·rwa[hk,ee];rfl
  ·exact I.al k (by exists 4,0x3182a10ab0318182aa181a0ab08,k1) (by exists 3,0x21a0121a0298182a1a018,k2,hk)
def Zk(C:CD prog w A E s r κ In)(iT :∀x∈T,In x)(B:SB κ pd T st){lo nrem m:Nat}(hm:1<=m)(mn:m<=nrem)(hn:lo+nrem<=T.length)(D:Vc r (arrOf st) lo m){Q:Option Nat->aC5->Prop}
  (h :∀n st',SB κ pd T st'->ľ lo (arrOf st) (arrOf st')->1<=n->n<=nrem->ES r (arrOf st') lo n->Q (some n) st'):wpS (aC6 prog w) A E s (k7 lo nrem m) Q st:=by
 have sz:lo+m<=(arrOf st).size:=by rwa[B.size];exists 4,0x302a0312a081008,mn,hn
 refine aC3 (wpS_reverse ?_)
 have B':=B.set (mirror_perm (arrOf st) lo (lo+m) ((lo+m-lo) / 2))
 have L':ľ lo (arrOf st) (arrOf (setArr st (mirror (arrOf st) lo (lo+m) ((lo+m-lo) / 2)))):=λk hk=>IS sz hk
 have U:ES r (arrOf (setArr st (mirror (arrOf st) lo (lo+m) ((lo+m-lo) / 2)))) lo m:=λi j hij hj=>by
  show Ğ r (mirror (arrOf st) _ _ _) _<=Ğ r (mirror (arrOf st) _ _ _) _
  rewrite [Fc sz,Fc sz];rwa[(bQ6 (by exists 4,0x23a03a103a30621181008,hij,hj)),bQ6 (by exists 3,0x12a02a102a2061018,hj)]
  have:=D (m-1-j) (m-1-i) (by exists 3,0x182bb1182bb01008,hij) (by exists 2,0x1180bb101808,hm)
  rw[show lo+(m-1-j)=lo+(lo+m)-1-(lo+j)by(exists 3,0x2a1812a2abb0181bb2a21018,hj),show lo+(m-1-i)=lo+(lo+m)-1-(lo+i)by exists 4,0x3a1823a3abb0182bb3a221181008,hij,hj]at this
  exact this
 generalize setArr st (mirror (arrOf st) lo (lo+m) ((lo+m-lo) / 2))=st' at B' L' U ⊢
 exact QW C iT B' hm mn hn U λn n1 n2 hu _=>aD2 (h n st' B' L' (aA2 hm n1) n2 hu)
def Sj(C:CD prog w A E s r κ In)(iT :∀x∈T,In x)(B:SB κ pd T st){lo nrem n:Nat}(nn:n<nrem)(hn:lo+nrem<=T.length)(D:Vc r (arrOf st) lo (n+1)){Q:Option Nat->aC5->Prop}
  (h :∀n st',SB κ pd T st'->ľ lo (arrOf st) (arrOf st')->1<=n->n<=nrem->ES r (arrOf st') lo n->Q (some n) st'):wpS (aC6 prog w) A E s (sJ lo nrem n) Q st:=by
 refine aC3 (bI1 (aQ8 ⟨rfl,?_⟩))
 refine aC3 (aS1 (aL0
  (I:=λx c st'=>∃q,c=(none,x,q)/\é r κ pd T st st' lo x q)
  (Q:=λc st'=>∃m q,c=(none,m,q)/\m<=nrem/\é r κ pd T st st' lo m q) ?_ ?_ ⟨0,rfl,B,λ_ _=>rfl,D,by(exists 1,0x180a1808a0),λk k1 k2=>by rwa[show k=lo+(n+1)-1 by exists 3,0x18181a0ab22181a0a21821808a181a0ab08,k1,k2];rfl⟩) ?_)
 ·rintro x _ st' hx1 hx2 ⟨q,rfl,I⟩
  exact YA C iT I (by exists 4,0x230a11318210a08,hn,hx2) ⟨x,q,rfl,aG2 hx2,I⟩ λst'' q' I'=>⟨q',rfl,I'⟩
 ·rintro _ st' ⟨q,rfl,I⟩
  rw[aT5 nn]at I ⊢
  exact⟨nrem,q,rfl,aA6 _,I⟩
 ·rintro _ st' ⟨m,q,rfl,m2,I⟩
  have q1:=I.q1
  have fin :∀st'',SB κ pd T st''->ľ lo (arrOf st') (arrOf st'')->(∀k,Ğ r (arrOf st'') k=Ğ r (arrOf st') k)->wpS (aC6 prog w) A E s (k7 lo nrem m) Q st'':=λst'' B L e=>
   Zk C iT B (by exists 2,0x11801180a08,q1) m2 hn (I.D.same e) λn st3 B3 L3=>h n st3 B3 λk hk=>(L3 k hk).trans ((L k hk).trans (I.L k hk))
  exact AF (λ_=>aC3 (HS I.B (by exists 4,0x230a01308210a08,hn,m2) (by exists 3,0x180a12ab201180a08,q1) I.al fin)) λ_=>fin st' I.B (λ_ _=>rfl) λ_=>rfl
def Kv(C:CD prog w A E s r κ In)(iT :∀x∈T,In x)(B:SB κ pd T st){lo nrem:Nat}(h1:1<=nrem)(hn:lo+nrem<=T.length){Q:Option Nat->aC5->Prop}
  (h :∀n st',SB κ pd T st'->ľ lo (arrOf st) (arrOf st')->1<=n->n<=nrem->ES r (arrOf st') lo n->Q (some n) st'):wpS (aC6 prog w) A E s (countRun' lo nrem) Q st:=by
 rw[Kd]
 refine QW C iT B (aA6 _) h1 hn Yx λn n1 n2 hu hd=>?_
 refine AF (λ_=>aD2 (h n st B (λ_ _=>rfl) n1 n2 hu)) λe=>?_
 have ne:n≠nrem:=λz=>e (beq_iff_eq.mpr z)
 have hd:=hd.resolve_left ne
 have nn:n<nrem:=by exists 2,0x101102981008,n2,ne
 refine AF (λhg=>?_) λhg=>?_
 ·refine aC3 (Eo C iT B (by exists 3,0x211201a0801808,h1,hn) (by exists 4,0x21831ab10308201a0801808,h1,hn,n2) (AF (λ_=>aD2 (h n st B (λ_ _=>rfl) n1 n2 hu)) λhl=>?_))
  have hl:=aP0.mp λz=>hl (bQ9 z)
  have al :∀k,lo<=k->k<lo+n->Ğ r (arrOf st) k=Ğ r (arrOf st) lo:=λk k1 k2=>by
   obtain⟨d,rfl⟩:=aL8 k1
   have q1:=hu 0 d (aD4 _) (by exists 3,0x21120a10a18,k2)
   have õ:=hu d (n-1) (by exists 3,0x182b1020a10a18,k2) (by exists 1,0x180b101808,n1)
   rw[<-Nat.add_sub_assoc n1]at õ
   exact Int.le_antisymm (aL5 õ hl) q1
  refine aC3 (HS B (by exists 4,0x230a01308210a08,hn,n2) (aA6 _) al λst' B' L e=>Sj C iT B' nn hn ?_ λn st3 B3 L3=>h n st3 B3 λk hk=>(L3 k hk).trans (L k hk))
  refine Vc.same (GH n1 (λi j hij hj=>?_) (aK0 hd)) e
  rwa[(al (lo+i) (by exists 2,68096) (by exists 4,0x23a03a121181008,hij,hj)),al (lo+j) (by exists 2,68096) (by exists 3,0x12a02a11018,hj)]
  exact aT8 _
 ·refine Sj C iT B nn hn (GH n1 (λi j hij hj=>?_) (aK0 hd)) h
  have:i=j:=by exists 3,0x21202182108018198,hg,hij,hj
  subst this
  exact aT8 _
end
section
variable{prog:aF3}{w:aC9}{A:aH1}{E:Value->aA5->Prop}{s:aA5}{r:aB6->Int}{κ:aS0}{In:aB6->Prop}{pd:Array (Nat×Nat×Nat)}{T:List aB6}{st:aC5}
def OH{a:Array aB6}{src d:Nat}(hs:src<a.size)(hd:d<=src)(k:Nat):Ğ r (bubble a src d) k=if k=src-d then Ğ r a src else if src-d<k/\k<=src then Ğ r a (k-1)else Ğ r a k:=by
 have e:=getElem?_bubble hs d hd k
 by_cases h1:k=src-d
 ·rw[bQ6 h1]at e ⊢;exact BN e
 ·rw[bQ7 h1]at e ⊢
  by_cases h2:src-d<k/\k<=src
  ·rw[bQ6 h2]at e ⊢;exact BN e
  ·rw[bQ7 h2]at e ⊢;exact BN e
def PQ{a:Array aB6}{src d k:Nat}(hs:src<a.size)(hd:d<=src)(hk:k<src-d):(bubble a src d)[k]?=a[k]?:=by
 rwa[getElem?_bubble hs d hd k,(bQ7 (by exists 3,0x21b02921b018,hk)),bQ7 (by exists 3,0x100021b16921b018,hk)];rfl
def Oi{a:Array aB6}{lo k l:Nat}(hs:lo+k<a.size)(hl:l<=k)(hu:ES r a lo k)(h1 :∀i,i<l->Ğ r a (lo+i)<=Ğ r a (lo+k))(h2 :∀i,l<=i->i<k->Ğ r a (lo+k)<=Ğ r a (lo+i)):ES r (bubble a (lo+k) (k-l)) lo (k+1):=by
 have at_ :∀i,i<=k->Ğ r (bubble a (lo+k) (k-l)) (lo+i)=if i=l then Ğ r a (lo+k)else if l<i then Ğ r a (lo+(i-1))else Ğ r a (lo+i):=λi hi=>by
  rw[OH hs (by exists 3,2756784)]
  by_cases e1:i=l
  ·rwa[(bQ6 (by exists 4,0x1b13ab23a202281008,hl,e1)),bQ6 e1];rfl
  rwa[(bQ7 (by exists 4,0x1b13ab23a29022981008,hl,e1)),bQ7 e1]
  by_cases e2:l<i
  ·rwa[(bQ6 (by exists 4,0x13a03a003a21b13ab1602181008,hi,e2)),bQ6 e2,show lo+i-1=lo+(i-1)by exists 3,0x181b2a1812ab21018,e2];rfl
  ·rwa[(bQ7 (by exists 4,0x32a12a012a03b32ab16910198,e2)),bQ7 e2];rfl
 intro i j hij hj
 rwa[(at_ i (by exists 3,0x200182a1181008,hij,hj)),at_ j (by exists 2,68744749080,hj)]
 by_cases i1:i=l
 ·rwa[bQ6 i1]
  by_cases j1:j=l
  ·rwa[bQ6 j1];exact aT8 _
  rwa[bQ7 j1,bQ6 (by exists 3,0x1212129820281008,hij,i1,j1)]
  exact h2 _ (by exists 3,0x181b202129820281008,hij,i1,j1) (by exists 3,0x1182b102298181a2181008,hl,hj,j1)
 rwa[bQ7 i1]
 by_cases j1:j=l
 ·rwa[bQ6 j1,bQ7 (by exists 3,0x21921281008,hij,j1)]
  exact h1 _ (by exists 3,0x2012029821281008,hij,j1,i1)
 rwa[bQ7 j1]
 by_cases i2:l<i
 ·rwa[bQ6 i2,bQ6 (by exists 3,0x12102181008,hij,i2)]
  exact hu _ _ (by exists 2,0x181b180b01008,hij) (by exists 4,0x2181b10318182a1181008,hij,hj,i2)
 rwa[bQ7 i2]
 by_cases j2:l<j
 ·rwa[bQ6 j2]
  exact hu _ _ (by exists 3,0x182b10201810198,i2,j2) (by exists 3,0x1180b10218181a018,hj,j2)
 ·rwa[bQ7 j2]
  exact hu _ _ hij (by exists 3,0x12102298201981008,hl,j2,j1)
def Le(C:CD prog w A E s r κ In)(iT :∀x∈T,In x)(B:SB κ pd T st){lo n ok:Nat}(h1:1<=ok)(h2:ok<=n)(hn:lo+n<=T.length)(hu:ES r (arrOf st) lo ok){Q:Bool->aC5->Prop}
  (h :∀st',SB κ pd T st'->ľ lo (arrOf st) (arrOf st')->ES r (arrOf st') lo n->Q true st'):wpS (aC6 prog w) A E s (binarySort' lo n ok) Q st:=by
 unfold binarySort'
 refine aC3 (aS1 (aL0
  (I:=λk c st'=>c=(none,())/\SB κ pd T st'/\ľ lo (arrOf st) (arrOf st')/\ES r (arrOf st') lo k)
  (Q:=λc st'=>c=(none,())/\SB κ pd T st'/\ľ lo (arrOf st) (arrOf st')/\ES r (arrOf st') lo n) ?_ ?_ ?_) ?_)
 ·rintro k c st' k1 k2 ⟨rfl,B1,L1,U1⟩
  refine aC3 (aS1 (aL0
   (I:=λx c st''=>st'=st''/\∃l q,c=(none,l,q)/\l<=q/\q<=k/\q<=l+(k-x)/\(∀i,i<l->Ğ r (arrOf st') (lo+i)<=Ğ r (arrOf st') (lo+k))/\(∀i,q<=i->i<k->Ğ r (arrOf st') (lo+k)<=Ğ r (arrOf st') (lo+i)))
   (Q:=λc st''=>st'=st''/\∃l,c=(none,l,l)/\l<=k/\(∀i,i<l->Ğ r (arrOf st') (lo+i)<=Ğ r (arrOf st') (lo+k))/\(∀i,l<=i->i<k->Ğ r (arrOf st') (lo+k)<=Ğ r (arrOf st') (lo+i))) ?_ ?_ ⟨rfl,0,k,rfl,by(exists 1,128),by(exists 1,0),by(exists 1,0x80b08a00),λi hi=>by exact ġ [_] [_,_] 0x10308018 (by rfl') hi,λi h1 h2=>by exact ġ [_,_] [_,_] 0x10301181008 (by rfl') h1 h2⟩) ?_)
  ·rintro x c st''-hx ⟨rfl,l,q,rfl,a1,a2,a3,a4,a5⟩
   dsimp only
   by_cases hlq:l≥q
   ·rwa[bQ6 hlq]
    obtain rfl:l=q:=by exists 2,0x10201081008,a1,hlq
    exact aD2 ⟨rfl,l,rfl,a2,a4,a5⟩
   rwa[bQ7 hlq]
   have m1:=YE (bD5 hlq)
   generalize (l+q) / 2=m at m1 ⊢
   refine aC3 (Eo C iT B1 (by exists 4,0x230a11318210a08,hn,k2) (by exists 6,0x250a1451834081318210a08,hn,k2,a2,m1.2) ?_)
   by_cases hl:Ğ r (arrOf st') (lo+k)<Ğ r (arrOf st') (lo+m)
   ·rwa[bQ9 hl]
    exact aD2 ⟨rfl,l,m,rfl,by(exists 2,16781320,m1.1),by(exists 3,0x12002181008,a2,m1.2),by(exists 5,0x183a2b1a40041832b1a008,a3,m1.2),a4,λi i1 i2=>aL5 (aK0 hl) (U1 m i i1 i2)⟩
   ·rwa[bR0 hl]
    exact aD2 ⟨rfl,m+1,q,rfl,by(exists 2,75172417560,m1.2),a2,by(exists 5,0x183a2b184aa00410832b1a008,a3,m1.1),λi i1=>aL5 (U1 i m (by exists 2,68744749080,i1) (by exists 3,0x12102181008,a2,m1.2)) (aP0.mp hl),a5⟩
  ·rintro c st'' ⟨rfl,l,q,rfl,a1,a2,a3,a4,a5⟩
   obtain rfl:l=q:=by exists 3,0x102208e2b0a1081008,a1,a3
   exact⟨rfl,l,rfl,a2,a4,a5⟩
  ·rintro c st'' ⟨rfl,l,rfl,a2,a4,a5⟩
   dsimp only
   have sz:lo+k<(arrOf st').size:=by rwa[B1.size];exists 4,0x230a11318210a08,hn,k2
   refine aC3 (m:=moveDown' (lo+k) (lo+l)) ?_
   rw[moveDown'_eq]
   refine bI5 (aD2 ⟨rfl,B1.set (bubble_perm ..),λi hi=>(PQ sz (by exists 3,0x10a20a10ab0) (by exists 4,0x31a21ab21ab011018,hi)).trans (L1 i hi),?_⟩)
   show ES r (bubble (arrOf st') (lo+k) (lo+k-(lo+l))) lo (k+1)
   rwa[show lo+k-(lo+l)=k-l by exists 3,0x21b20a10ab2]
   exact Oi sz a2 U1 a4 a5
 ·rintro c st' ⟨e,B1,L1,U1⟩
  rw[show max (max ok 1) n=n by exists 2,0x11180ee2100801808,h1,h2]at U1
  exact⟨e,B1,L1,U1⟩
 ·rwa[show max ok 1=ok by exists 1,0x180e201808,h1]
  exact⟨rfl,B,λ_ _=>rfl,hu⟩
 ·rintro c st' ⟨rfl,B1,L1,U1⟩
  exact aD2 (h st' B1 L1 U1)
end
section
variable{r:aB6->Int}
def K7{α:Type}(l:List α)(i n:Nat):l.drop i=(l.drop i).take n++l.drop (i+n):=by
 rwa[List.drop_drop.symm]
 exact(aV3 ..).symm
def KV(sa:Nat) :∀(l:List aB6) (n:Nat) (a:Array aB6),sa+n+l.length<=a.size->((l.zipIdx n).foldl (λ(a:Array aB6) (p:aB6×Nat)=>a.setIfInBounds (sa+p.2) p.1) a).toList=a.toList.take (sa+n)++l++a.toList.drop (sa+n+l.length):=by
 intro ţ
 induction ţ with
 | nil=>
  intro n a h
  simp
 | cons x l ih=>
  intro n a h
  rw[aN5]at h
  rwa[List.zipIdx_cons,List.foldl_cons,(ih (n+1) _ (by rw[Array.size_setIfInBounds];exists 4,0x32181a0aa03182a10aa08,h)),Array.toList_setIfInBounds,aN5]
  have hs:sa+n<a.toList.length:=by simpa using (by exists 4,0x310a13182a10aa08,h:sa+n<a.size)
  rwa[(List.drop_set_of_lt (by exists 3,0x2181a0aa10a1)),show sa+(n+1)+l.length=sa+n+(l.length+1)by exists 3,0x182a10aa2181a0aa2]
  congr 1
  have:(a.toList.set (sa+n) x).take (sa+(n+1))=a.toList.take (sa+n)++[x]:=by
   rwa[(show sa+(n+1)=sa+n+1 by exists 2,0x1810aa181a0a2),aQ2,List.take_set_of_le (aA6 _),List.getElem?_set_self hs]
   rfl
  rwa[this];rw[aD1]
  rfl
def SA{a:Array aB6}{i n:Nat}(hn:i+n<=a.size):ES r a i n↔Ŗ r ((a.toList.drop i).take n):=by
 have hl:((a.toList.drop i).take n).length=n:=by simp;exists 3,0x102b1d2210a08,hn
 have at_ :∀j (hj:j<n),Ğ r a (i+j)=r (((a.toList.drop i).take n)[j]'(by exists 3,0x2112181028,hl,hj)):=λj hj=>by
  rwa[Aj (by exists 4,0x230a11318210a08,hn,hj)]
  simp
 constructor
 ·intro h
  refine aJ2.mpr λj k hj hk hjk=>?_
  rw[hl]at hj hk
  have:=h j k (by exists 2,16781336,hjk) hk
  rwa[at_ j hj,at_ k hk]at this
 ·intro h j k hjk hk
  rcases Nat.eq_or_lt_of_le hjk with rfl | hlt
  ·exact aT8 _
  ·rwa[(at_ j (by exists 3,0x20121181008,hjk,hk)),at_ k hk]
   exact aJ2.mp h j k (by exists 4,0x21131832081028,hl,hjk,hk) (by exists 3,0x2112181028,hl,hk) hlt
end
section
variable{prog:aF3}{w:aC9}{A:aH1}{E:Value->aA5->Prop}{s:aA5}{r:aB6->Int}{κ:aS0}{In:aB6->Prop}{T:List aB6}{st:aC5}
def put_at{sa:Nat}{o:Array aB6}{a:Array aB6}(h:sa+o.size<=a.size)(j:Nat):(o.toList.zipIdx.foldl (λ(a:Array aB6) (p:aB6×Nat)=>a.setIfInBounds (sa+p.2) p.1) a)[j]?=if j<sa then a[j]? else if j<sa+o.size then o[j-sa]? else a[j]?:=by
 have e:=KV sa o.toList 0 a (by simpa using h)
 rwa[(aI2).symm,e];rewrite [aR4];rwa[aF1];rw[aD1]
 have ĩ:(a.toList.take sa).length=sa:=by simp;exists 3,0x20d2210a08,h
 by_cases h1:j<sa
 ·rwa[bQ6 h1,(aY0 (by exists 3,0x2112181028,ĩ,h1)),List.getElem?_take_of_lt h1,aI2];rfl
 ·rwa[bQ7 h1,(aS2 (by exists 3,0x200121981028,ĩ,h1)),ĩ]
  by_cases h2:j<sa+o.size
  ·rwa[bQ6 h2,(aY0 (by simp;exists 3,0x210b121a01810198,h1,h2)),aI2];rfl
  ·rwa[bQ7 h2,(aS2 (by simp;exists 3,0x10b2021a0198,h2)),aZ5,aF1,aI2]
   congr 1
   exists 3,0x210bb21aa221a0198,h2
def d8{o:Array aB6}(h:Ŗ r o.toList){i j:Nat}(hij:i<=j)(hj:j<o.size):Ğ r o i<=Ğ r o j:=FP (o:=[]) (i:=0) h (aD4 _) hij hj
def Iz{a:Array aB6}{i j k:Nat}(h:i+k<j):Ğ r (a.extract i j) k=Ğ r a (i+k):=by
 refine BN ?_
 rwa[Array.getElem?_extract]
 by_cases hs:i+k<a.size
 ·rwa[bQ6 (by exists 4,0x32db11310a18210a18,h,hs)];rfl
 ·rwa[bQ7 (by exists 4,0x23db119210a198,hs)]
  exact(Array.getElem?_eq_none (by exists 3,0x10a20210a198,hs)).symm
def NS{a:Array aB6}{i j:Nat}{x:aB6}(h:x∈a.extract i j):x∈a:=by
 have h:=bE1.mpr h
 rw[CS]at h
 exact bE1.mp (List.mem_of_mem_drop (List.mem_of_mem_take h))
def VF{x:aC5}{Q:PUnit->aC5->Prop}(h:Q ⟨⟩ x):wpS (aC6 prog w) A E s (set x:StateT aC5 Sem PUnit) Q st:=by
 unfold wpS
 rw[StateT.run_set]
 exact aA4 ⟨rfl,h⟩
def RA{x:aC5}{Q:PUnit->aC5->Prop}(K:aC5->Prop)(hx:K x)(h :∀st',K st'->Q ⟨⟩ st'):wpS (aC6 prog w) A E s (set x:StateT aC5 Sem PUnit) Q st:=VF (h x hx)
def Rd{f:aC5->aC5}{Q:PUnit->aC5->Prop}(K:aC5->Prop)(hx:K (f st))(h :∀st',K st'->Q ⟨⟩ st'):wpS (aC6 prog w) A E s (modify f:StateT aC5 Sem PUnit) Q st:=bI5 (h _ hx)
def OO{a o:Array aB6}{sa na nb k m:Nat}(hn:sa+na+nb<=a.size)(hk:k<na)(hm:0<m)(hm2:m<=nb)(ua:ES r a sa na)(ub:ES r a (sa+na) nb)
  (k1 :∀i,i<k->Ğ r a (sa+i)<=Ğ r a (sa+na)) (k2:Ğ r a (sa+na)<Ğ r a (sa+k)) (m1:Ğ r a (sa+na+(m-1))<Ğ r a (sa+na-1)) (m2 :∀i,m<=i->i<nb->Ğ r a (sa+na-1)<=Ğ r a (sa+na+i))
  (f:Ş r ((a.extract (sa+k) (sa+na)).toList++(a.extract (sa+na) (sa+na+m)).toList) o):o.size=na-k+m/\ES r (o.toList.zipIdx.foldl (λ(a:Array aB6) (p:aB6×Nat)=>a.setIfInBounds (sa+k+p.2) p.1) a) sa (na+nb):=by
 have sz:o.size=na-k+m:=by
  have:=f.1.length_eq
  simp at this
  exists 7,0x461ba5210a3b4d60a3b60a10abda52824083210aa08,hn,hm2,this
 refine⟨sz,?_⟩
 have at_ :∀i,Ğ r (o.toList.zipIdx.foldl (λ(a:Array aB6) (p:aB6×Nat)=>a.setIfInBounds (sa+k+p.2) p.1) a) (sa+i)=if i<k then Ğ r a (sa+i)else if i<na+m then Ğ r o (i-k)else Ğ r a (sa+i):=λi=>by
  have e:=put_at (sa:=sa+k) (o:=o) (a:=a) (by exists 7,0x3640aa0541ba628250814183210aa08,hn,hk,hm2,sz) (sa+i)
  by_cases h1:i<k
  ·rw[bQ6 (by exists 3,0x12a02a11018,h1)]at e
   rwa[bQ6 h1]
   exact BN e
  rw[bQ7 (by exists 3,0x12a02a1910198,h1)]at e
  rwa[bQ7 h1]
  by_cases h2:i<na+m
  ·rw[bQ6 (by exists 6,0x25aa45a131a418321ba028,sz,h2),show sa+i-(sa+k)=i-k by exists 3,0x21b20a10ab2]at e
   rwa[bQ6 h2]
   exact BN e
  ·rw[bQ7 (by exists 6,0x205aa45a1931a4198301ba2281018,hk,sz,h2)]at e
   rwa[bQ7 h2]
   exact BN e
 have mem :∀j,j<o.size->(∃i,k<=i/\i<na/\Ğ r o j=Ğ r a (sa+i))\/∃i,i<m/\Ğ r o j=Ğ r a (sa+na+i):=λj hj=>by
  have hm:=f.1.mem_iff.mp (Array.getElem_mem_toList hj)
  rwa[Aj hj]
  rcases aD9.mp hm with q | q
  ·obtain⟨i,hi,e⟩:=aW0.mp q
   have hi':i<(a.extract (sa+k) (sa+na)).size:=hi
   have hi2:i<na-k:=by rw[aZ6]at hi';exists 5,0x42b0141a321adb018,hi'
   refine .inl ⟨k+i,by(exists 2,68096),by(exists 3,0x102a121b018,hi2),?_⟩
   rwa[e.symm,(show sa+(k+i)=sa+k+i by exists 3,0x210aa21a0a2),((Iz (r:=r) (a:=a) (by exists 4,0x13a023aa121b018,hi2:sa+k+i<sa+na)).symm),Aj hi']
   rfl
  ·obtain⟨i,hi,e⟩:=aW0.mp q
   have hi':i<(a.extract (sa+na) (sa+na+m)).size:=hi
   have hi2:i<m:=by rw[aZ6]at hi';exists 5,0x30121a4321aadb018,hi'
   refine .inr ⟨i,hi2,?_⟩
   rwa[e.symm,((Iz (r:=r) (a:=a) (by exists 4,0x132aa032aa11018,hi2:sa+na+i<sa+na+m)).symm),Aj hi']
   rfl
 have lo :∀i j,i<k->j<o.size->Ğ r a (sa+i)<=Ğ r o j:=λi j hi hj=>by
  rcases mem j hj with⟨t,t1,t2,e⟩ | ⟨t,t1,e⟩
  ·rwa[e];exact ua i t (by exists 3,0x20021081018,hi,t1) t2
  ·rwa[e];exact aL5 (k1 i hi) (by have:=ub 0 t (by exists 1,128) (by exists 3,0x12102181008,hm2,t1);rwa[aR4]at this)
 have hi :∀i j,m<=i->i<nb->j<o.size->Ğ r o j<=Ğ r a (sa+na+i):=λi j i1 i2 hj=>by
  rcases mem j hj with⟨t,t1,t2,e⟩ | ⟨t,t1,e⟩
  ·rwa[e]
   have:=ua t (na-1) (by exists 2,0x181b001018,t2) (by exists 2,75190308888,hk)
   rw[show sa+(na-1)=sa+na-1 by exists 3,0x1812ab181b2a21018,hk]at this
   exact aL5 this (m2 i i1 i2)
  ·rwa[e];exact ub t i (by exists 3,0x12002181008,i1,t1) i2
 intro i j hij hj
 rwa[at_ i,at_ j]
 by_cases i1:i<k
 ·rwa[bQ6 i1]
  by_cases j1:j<k
  ·rwa[bQ6 j1];exact ua i j hij (by exists 3,0x12102181018,hk,j1)
  rwa[bQ7 j1]
  by_cases j2:j<na+m
  ·rwa[bQ6 j2];exact lo i _ i1 (by exists 5,0x204b131a418301ba2281018,hk,sz,j2)
  ·rwa[bQ7 j2]
   have q:=hi (j-na) 0 (by exists 3,0x10b2021a0198,j2) (by exists 4,0x132b113a218100800818,hm,hm2,hj) (by exists 4,0x2081301ba2281018,hk,sz)
   rw[show sa+na+(j-na)=sa+j by exists 4,0x3a10b13aa221a0198,j2]at q
   exact aL5 (lo i 0 i1 (by exists 4,0x2081301ba2281018,hk,sz)) q
 rwa[bQ7 i1,bQ7 (by exists 3,0x2119201981008,hij,i1:¬ j<k)]
 by_cases i2:i<na+m
 ·rwa[bQ6 i2]
  by_cases j2:j<na+m
  ·rwa[bQ6 j2];exact d8 f.2 (by exists 3,0x21b20b01008,hij) (by exists 5,0x204b131a418301ba2281018,hk,sz,j2)
  ·rwa[bQ7 j2]
   have q:=hi (j-na) (i-k) (by exists 3,0x10b2021a0198,j2) (by exists 4,0x132b113a218100800818,hm,hm2,hj) (by exists 5,0x204b131a418301ba2281018,hk,sz,i2)
   rwa[show sa+na+(j-na)=sa+j by exists 4,0x3a10b13aa221a0198,j2]at q
 ·rwa[bQ7 i2,bQ7 (by exists 4,0x32a11932a01981008,hij,i2)]
  have q:=ub (i-na) (j-na) (by exists 3,0x21b20b01008,hij) (by exists 4,0x132b113a218100800818,hm,hm2,hj)
  rwa[show sa+na+(i-na)=sa+i by(exists 4,0x3a10b13aa221a0198,i2),show sa+na+(j-na)=sa+j by exists 5,0x14a21b24aa232a01981008,hij,i2]at q
def nJ{T P:Prop}(t:T)(h:(True->T)->P):P:=h λ_=>t
structure Mg(κ:aS0)(r:aB6->Int)(T:List aB6)(a:Array aB6)(p:Array (Nat×Nat×Nat))(sa n:Nat)(st':aC5):Prop where
 b:SB κ p T st'
 up:ES r (arrOf st') sa n
 off :∀k,k<sa\/sa+n<=k->(arrOf st')[k]?=a[k]?
def Lh(C:CD prog w A E s r κ In)(iT :∀x∈T,In x){p:Array (Nat×Nat×Nat)}(B:SB κ p T st){i sa na pa nb pb:Nat}(e1:p[i]?=some (sa,na,pa))(e2:p[i+1]?=some (sa+na,nb,pb))(h1:0<na)(h2:0<nb)(hn:sa+na+nb<=T.length)
  (ua:ES r (arrOf st) sa na) (ub:ES r (arrOf st) (sa+na) nb) {Q:Bool->aC5->Prop}
  (h :∀st',Mg κ r T (arrOf st) ((p.setIfInBounds i (sa,na+nb,pa)).eraseIdxIfInBounds (i+1)) sa (na+nb) st'->Q true st'):wpS (aC6 prog w) A E s (mergeAt' i) Q st:=by
 unfold mergeAt'
 refine aC3 (wpS_get ?_)
 have hp:(sortPriv% PySem.Builtin.SortState.pending) st=p:=B.pend
 rwa[hp,e1,e2]
 have sz:=B.size
 obtain⟨a,ea⟩ :∃a,a=arrOf st:=⟨_,rfl⟩
 have hq:(sortPriv% PySem.Builtin.SortState.a) st=a:=ea.symm
 rwa[hq]
 rw[<-ea]at ua ub h sz
 have pT:a.toList.Perm T:=ea▸B.perm
 have ia :∀x∈a,In x:=λx hx=>iT x (pT.mem_iff.mp (bE1.mpr hx))
 refine aC3 (RA (λst'=>SB κ ((p.setIfInBounds i (sa,na+nb,pa)).eraseIdxIfInBounds (i+1)) T st'/\arrOf st'=a) ⟨⟨B.kind,B.failed,rfl,pT⟩,rfl⟩ λst1 ⟨B1,A1⟩=>?_)
 have b0:sa+na<a.size:=by exists 5,0x421a134283021aa0800818,h2,hn,sz
 have fin :∀st',ES r a sa (na+nb)->SB κ ((p.setIfInBounds i (sa,na+nb,pa)).eraseIdxIfInBounds (i+1)) T st'->arrOf st'=a->Q true st':=λst' u B' e'=>h st' ⟨B',e'▸u,λk _=>by rwa[e'];rfl⟩
 refine aC3 (A6 (aB9 b0) ?_)
 refine aC3 (Cj (r:=r) (κ:=κ) (In:=In) C (ia _ (aK6 b0)) ia B1.kind (by exists 5,0x410a034283210aa08,hn,sz) ua h1 λk hk k1 k2=>?_)
 have k1 :∀i,i<k->Ğ r a (sa+i)<=Ğ r a (sa+na):=λi hi=>by rwa[Aj b0];exact k1 i hi
 have k2 :∀i,k<=i->i<na->Ğ r a (sa+na)<Ğ r a (sa+i):=λi hi hi'=>by rwa[Aj b0];exact k2 i hi hi'
 dsimp only
 refine AF (λf=>?_) λf=>?_
 ·have f:na-k=0:=aD3 f
  refine aD2 (fin st1 (λi j hij hj=>?_) B1 A1)
  have bb :∀j,na<=j->j<na+nb->Ğ r a (sa+na)<=Ğ r a (sa+j):=λj j1 j2=>by
   have:=ub 0 (j-na) (by exists 2,1093760) (by exists 3,0x21b102a11800818,h2,j2)
   rwa[aR4,show sa+na+(j-na)=sa+j by exists 3,0x12a01b02aa21008,j1]at this
  by_cases j1:j<na
  ·exact ua i j hij j1
  ·by_cases i1:i<na
   ·exact aL5 (k1 i (by exists 3,0x12102180810b28,f,i1)) (bb j (by exists 2,16843160,j1) hj)
   ·have:=ub (i-na) (j-na) (by exists 3,0x21b20b01008,hij) (by exists 3,0x21b102a11800818,h2,hj)
    rwa[show sa+na+(i-na)=sa+i by(exists 3,0x2a10b12aa210198,i1),show sa+na+(j-na)=sa+j by exists 3,0x2a10b12aa210198,j1]at this
 ·have f:na-k≠0:=λz=>f (beq_iff_eq.mpr z)
  have Ķ:sa+k+(na-k)-1<a.size:=by exists 6,0x41850b51aab1050834283201aa0800818,h1,hn,sz,hk
  refine aC3 (A6 (aB9 Ķ) ?_)
  refine aC3 (Cj (r:=r) (κ:=κ) (In:=In) C (ia _ (aK6 Ķ)) ia B1.kind (by exists 5,0x4210aa034283210aa08,hn,sz) ub (by exists 1,0x180b100818,h2) λm hm m1 m2=>?_)
  have m1 :∀i,i<m->Ğ r a (sa+na+i)<Ğ r a (sa+na-1):=λi hi=>by rwa[Aj (by exists 5,0x41801ab134283201aa0800818,h1,hn,sz:sa+na-1<a.size)];have:=m1 i hi;simpa[show sa+k+(na-k)-1=sa+na-1 by exists 3,0x1812ab1801b02aab21008,hk]using this
  have m2 :∀i,m<=i->i<nb->Ğ r a (sa+na-1)<=Ğ r a (sa+na+i):=λi hi hi'=>by rwa[Aj (by exists 5,0x41801ab134283201aa0800818,h1,hn,sz:sa+na-1<a.size)];have:=m2 i hi hi';simpa[show sa+k+(na-k)-1=sa+na-1 by exists 3,0x1812ab1801b02aab21008,hk]using this
  dsimp only
  have m0:m≠0:=λz=>by
   have q1:=m2 0 (by exists 1,0x80008028,z) h2
   have õ:=k2 (na-1) (by exists 2,0x180b100810b298,f) (by exists 1,0x180b100818,h1)
   rw[show sa+(na-1)=sa+na-1 by exists 2,0x1801ab180b1a200818,h1]at õ
   rw[aR4]at q1
   exact ġ [] [_,_] 0xa01481038 (by rfl') q1 õ
  rwa[bQ7 (λz=>m0 (aD3 z))]
  rw[show sa+k+(na-k)=sa+na by exists 3,0x12a01b02aa21008,hk]at *
  have hx:(a.extract (sa+k) (sa+na)).size=na-k:=by rwa[aZ6];exists 6,0x51b50a410adb234283210aa08,hn,sz
  have hy:(a.extract (sa+na) (sa+na+m)).size=m:=by rwa[aZ6];exists 6,0x510a4510aadb2250834283210aa08,hn,sz,hm
  have xa :∀i,i<na-k->Ğ r (a.extract (sa+k) (sa+na)) i=Ğ r a (sa+(k+i)):=λi hi=>by rwa[(Iz (by exists 4,0x13a023aa121b018,hi)),show sa+k+i=sa+(k+i)by exists 3,0x21a0a210aa2];rfl
  have ya :∀i,i<m->Ğ r (a.extract (sa+na) (sa+na+m)) i=Ğ r a (sa+na+i):=λi hi=>by rwa[Iz (by exists 4,0x132aa032aa11018,hi)];rfl
  have ix :∀x∈a.extract (sa+k) (sa+na),In x:=λx hx=>ia x (NS hx)
  have iy :∀x∈a.extract (sa+na) (sa+na+m),In x:=λx hx=>ia x (NS hx)
  have ux:Ŗ r (a.extract (sa+k) (sa+na)).toList:=by
   rwa[CS]
   refine(SA (by exists 6,0x450a10ab50aa0150834283210aa08,hn,sz,hk)).mp λi j hij hj=>?_
   have:=ua (k+i) (k+j) (by exists 3,0x12a02a01008,hij) (by exists 4,0x203a131a21ab018,hj)
   rwa[<-aN9,<-aN9]at this
  have uy:Ŗ r (a.extract (sa+na) (sa+na+m)).toList:=by
   rwa[CS]
   exact(SA (by exists 6,0x410a510aab10aa0250834283210aa08,hn,sz,hm)).mp λi j hij hj=>ub i j hij (by exists 5,0x12143a043aab2181008,hm,hj)
  have mj:ŀ r ((a.extract (sa+k) (sa+na)).toList++(a.extract (sa+na) (sa+na+m)).toList) [] (a.extract (sa+k) (sa+na)).toList (a.extract (sa+na) (sa+na+m)).toList:=⟨.refl _,ux,uy⟩
  have hf:Ğ r a (sa+na)<=Ğ r a (sa+k):=aK0 (k2 k (aA6 _) (by exists 2,73149756056,f))
  have hl:Ğ r a (sa+na+(m-1))<=Ğ r a (sa+na-1):=aK0 (m1 (m-1) (by exists 1,0x180b1080298,m0))
  refine nJ (T:=?T1) ?tp1 λtail=>?mn1
  case mn1=>
   refine AF (λ_=>aC3 (MQ C B1.kind ix iy mj (by exists 3,0x810821b29821b028,hx,f) (by rename_i u7;exists 4,0x810832b298132b081028,hy,u7,f) ?a1 (λj hj=>?a2) λo st2 f S=>?lo)) λ_=>aC3 (Ls C B1.kind ix iy mj (by rename_i u7;exists 4,0x81321b09821b028,hx,u7) (by exists 2,0x810812981028,hy,m0) (λj hj=>?b1) ?b2 λo st2 f S=>?hi)
   case a1=>rwa[(xa 0 (by exists 2,0x10b0810810b298,f)),ya 0 (by rename_i u7;exists 3,0x20810810b298210b08,u7,f)];exact hf
   case a2=>
    rwa[hx,(ya j (by exists 3,0x12102181028,hy,hj)),(xa _ (by exists 2,0x10b1810bb10810b298,f)),show sa+(k+(na-k-1))=sa+na-1 by exists 3,0x1802ab1810bb1a2a20810b298,f]
    exact aK0 (m1 j (by exists 3,0x12102181028,hy,hj))
   case b1=>
    rwa[(xa j (by exists 4,0x21b31031821b028,hx,hj)),ya 0 (by exists 1,0x81080298,m0)]
    exact aL5 hf (ua k (k+j) (by exists 2,68096) (by exists 4,0x132a1031821b028,hx,hj))
   case b2=>
    rwa[hx,hy,(ya _ (by exists 1,0x180b1080298,m0)),(xa _ (by rename_i u7;exists 3,0x10b1810bb1210b098,u7)),show sa+(k+(na-k-1))=sa+na-1 by rename_i u7;exists 4,0x1803ab1810bb1a3a2210b098,u7]
    exact hl
   case lo=>
    revert o st2
    exact tail trivial
   case hi=>
    revert o st2
    exact tail trivial
  intro o st2 f S
  have kn:k<na:=by rename_i u4 _ _ _;exists 2,73149756056,u4
  obtain⟨so,up⟩:=OO (by exists 5,0x4210aa034283210aa08,hn,sz) kn (aZ7 m0) hm ua ub k1 (k2 k (aA6 _) kn) (m1 (m-1) (by exists 1,0x180b1080298,m0)) m2 f
  have A2:arrOf st2=a:=S.2.1.trans A1
  refine aC3 (Rd (λst'=>Mg κ r T a ((p.setIfInBounds i (sa,na+nb,pa)).eraseIdxIfInBounds (i+1)) sa (na+nb) st') ?_ λst3 K=>?_)
  ·have e :∀(x:Array aB6),x=arrOf st2->o.toList.zipIdx.foldl (λ(a:Array aB6) (p:aB6×Nat)=>a.setIfInBounds (sa+k+p.2) p.1) x=o.toList.zipIdx.foldl (λ(a:Array aB6) (p:aB6×Nat)=>a.setIfInBounds (sa+k+p.2) p.1) a:=λx e=>by rwa[e,A2];rfl
   have e:=e _ rfl
   refine⟨⟨S.1.trans B1.kind,S.2.2.2.trans B1.failed,S.2.2.1.trans B1.pend,?_⟩,?_,λj hj=>?_⟩
   ·refine bD6.trans (bD6.of_eq (bQ5 Array.toList e)) ?_
    rwa[KV (sa+k) o.toList 0 a (by rw[aF1];exists 8,0x470850aaa0651ba7282608150834283210aa08,hn,sz,hk,hm,so)];rewrite [aR4];rwa[aF1,so]
    refine bD6.trans ?_ pT
    have ee:a.toList=a.toList.take (sa+k)++((a.extract (sa+k) (sa+na)).toList++(a.extract (sa+na) (sa+na+m)).toList)++a.toList.drop (sa+k+(na-k+m)):=by
     rwa[CS,CS,(show sa+na+m-(sa+na)=m by exists 3,0x210a210aab2),show sa+k+(na-k+m)=sa+na+m by exists 4,0x312aa301ba02aa21008,hk]
     have q1:=K7 a.toList (sa+na) m
     have õ:=K7 a.toList (sa+k) (sa+na-(sa+k))
     rw[show sa+k+(sa+na-(sa+k))=sa+na by exists 3,0x12a02a12ab02aa21008,hk]at õ
     rewrite [aD1,aD1];rwa[q1.symm,õ.symm];rw[aV3]
    conv=>rhs;rw[ee]
    exact(aV2 _ f.1).append_right _
   ·exact(bQ5 (λz=>ES r z sa (na+nb)) e).mpr up
   ·have q:=put_at (sa:=sa+k) (o:=o) (a:=a) (by exists 8,0x4750aa0651ba7282608150834283210aa08,hn,sz,hk,hm,so) j
    refine(bQ5 (λz:Array aB6=>z[j]?) e).trans (q.trans ?_)
    rcases hj with hj | hj
    ·rwa[bQ6 (by exists 3,9026211864,hj)];rfl
    ·rwa[(bQ7 (by exists 5,0x2a419431a2a081008,hk,hj)),bQ7 (by exists 7,0x405aa619631a5a08201ba42832081008,hk,hm,so,hj)];rfl
  ·refine aC3 (wpS_get (aD2 ?_))
   have:=K.b.failed
   have e:(sortPriv% PySem.Builtin.SortState.failed) st3=none:=this
   rwa[e]
   exact h st3 K
end
abbrev Ks:=Nat×Nat×Nat
section
variable{r:aB6->Int}
def FW(r:aB6->Int)(a:Array aB6):List Ks->Nat->Nat->Prop
 | [],lo,hi=>lo=hi
 | p::t,lo,hi=>p.1=lo/\0<p.2.1/\ES r a lo p.2.1/\FW r a t (lo+p.2.1) hi
def FW.len{a:Array aB6}{l:List Ks} :∀{lo hi:Nat},FW r a l lo hi->lo+l.length<=hi:=by
 induction l with
 | nil=>exact λh=>aB7 h
 | cons p t ih=>
  intro lo hi h
  have:=ih h.2.2.2
  have h2:=h.2.1
  rwa[aN5]
  exists 4,0x3182a1a03201aa0800818,h2,this
def FW.app{a:Array aB6}{l l':List Ks}{hi hi':Nat} :∀{lo:Nat},FW r a l lo hi->FW r a l' hi hi'->FW r a (l++l') lo hi':=by
 induction l with
 | nil=>exact λ{lo} h h'=>(show lo=hi from h)▸h'
 | cons p t ih=>exact λ{lo} h h'=>⟨h.1,h.2.1,h.2.2.1,ih h.2.2.2 h'⟩
def FW.cut{a:Array aB6}{l l':List Ks}{hi:Nat} :∀{lo:Nat},FW r a (l++l') lo hi->∃m,FW r a l lo m/\FW r a l' m hi:=by
 induction l with
 | nil=>exact λ{lo} h=>⟨lo,rfl,h⟩
 | cons p t ih=>exact λ{lo} h=>(ih h.2.2.2).imp λm q=>⟨⟨h.1,h.2.1,h.2.2.1,q.1⟩,q.2⟩
def FW.same{a b:Array aB6}{l:List Ks}{hi:Nat} :∀{lo:Nat},FW r a l lo hi->(∀k,lo<=k->k<hi->b[k]?=a[k]?)->FW r b l lo hi:=by
 induction l with
 | nil=>exact λ{lo} h _=>h
 | cons p t ih=>
  intro lo h e
  have:=FW.len h.2.2.2
  exact⟨h.1,h.2.1,λi j hij hj=>by rwa[(BN (e (lo+i) (by exists 2,68096) (by exists 6,0x340a1151854083210aa08,this,hij,hj))),BN (e (lo+j) (by exists 2,68096) (by exists 5,0x340a114183210aa08,this,hj))];exact h.2.2.1 i j hij hj,ih h.2.2.2 λk k1 k2=>e k (by exists 3,8592099848,k1) k2⟩
def FW.mod{a:Array aB6}{f:Ks->Ks}(hf :∀p,(f p).1=p.1/\(f p).2.1=p.2.1){l:List Ks}{hi:Nat} :∀{i lo:Nat},FW r a l lo hi->FW r a (l.modify i f) lo hi:=by
 induction l with
 | nil=>exact λh=>(List.modify_nil ..).symm▸h
 | cons p t ih=>
  intro i lo h
  cases i with
  | zero=>
   rwa[List.modify_zero_cons ..]
   exact⟨(hf p).1.trans h.1,(hf p).2▸h.2.1,(hf p).2▸h.2.2.1,(hf p).2▸h.2.2.2⟩
  | succ i=>
   rwa[List.modify_succ_cons ..]
   exact⟨h.1,h.2.1,h.2.2.1,ih h.2.2.2⟩
def Yh{l:List Ks}{i:Nat}(h:i+1<l.length):l=l.take i++l[i]::l[i+1]::l.drop (i+2):=by
 rwa[(aF9 h).symm,(aF9 (by exists 2,69006264856,h:i<l.length)).symm];rw[aV3]
def Ni{p:Array Ks}{i:Nat}(h:i+1<p.size)(x:Ks):((p.setIfInBounds i x).eraseIdxIfInBounds (i+1)).toList=p.toList.take i++x::p.toList.drop (i+2):=by
 have hs:i+1<(p.setIfInBounds i x).size:=by rwa[Array.size_setIfInBounds];exact h
 rewrite [Array.eraseIdxIfInBounds];rwa[dif_pos hs,Array.toList_eraseIdx,Array.toList_setIfInBounds];rw[List.eraseIdx_eq_take_drop_succ]
 have hl:i<p.toList.length:=by simpa using (by exists 2,69006264856,h:i<p.size)
 rwa[(List.drop_set_of_lt (by exists 1,6467660289)),aQ2,List.take_set_of_le (aA6 _),List.getElem?_set_self hl];rw[aD1]
 rfl
end
section
variable{prog:aF3}{w:aC9}{A:aH1}{E:Value->aA5->Prop}{s:aA5}{r:aB6->Int}{κ:aS0}{In:aB6->Prop}{T:List aB6}{st:aC5}
def NX(C:CD prog w A E s r κ In)(iT :∀x∈T,In x){p:Array Ks}(B:SB κ p T st){i hi:Nat}(R:FW r (arrOf st) p.toList 0 hi)(hh:hi<=T.length)(h1:i+1<p.size){Q:Bool->aC5->Prop}
  (h :∀st' p',SB κ p' T st'->FW r (arrOf st') p'.toList 0 hi->p'.size+1=p.size->(∀k,hi<=k->(arrOf st')[k]?=(arrOf st)[k]?)->Q true st'):wpS (aC6 prog w) A E s (mergeAt' i) Q st:=by
 have hl:i+1<p.toList.length:=by simpa using h1
 have e:=Yh hl
 have R':=R
 rw[e]at R'
 obtain⟨m,R1,a1,a2,a3,b1,b2,b3,R2⟩:=FW.cut R'
 have q1:=R1.len
 have õ:=R2.len
 have e1:p[i]?=some (m,(p.toList[i]).2.1,(p.toList[i]).2.2):=by
  rwa[a1.symm,(aI2).symm];rw[aA9]
 have e2:p[i+1]?=some (m+(p.toList[i]).2.1,(p.toList[i+1]).2.1,(p.toList[i+1]).2.2):=by
  rwa[b1.symm,(aI2).symm];rw[aA9]
 refine Lh C iT B e1 e2 a2 b2 (by exists 6,0x1432aa005432aaa081008,hh,õ) a3 b3 λst' M=>h st' _ M.b ?_ ?_ λk hk=>M.off k (by exists 6,0x521a0a00517540843210aaa08,õ,hk)
 ·rw[Ni h1]
  refine(R1.same λk k1 k2=>M.off k (by exists 4,0x32a1a010171018,k2)).app ⟨rfl,Nat.add_pos_left a2 _,M.up,?_⟩
  show FW r (arrOf st') _ (m+((p.toList[i]).2.1+(p.toList[i+1]).2.1)) hi
  rw[<-aN9]
  exact R2.same λk k1 k2=>M.off k (by exists 4,0x321a0a003173210aa08,k1)
 ·have:=bQ5 List.length (Ni h1 (m,(p.toList[i]).2.1+(p.toList[i+1]).2.1,(p.toList[i]).2.2))
  rw[aF1]at this
  rwa[this]
  simp
  exists 2,0x11818280a1ba10daa21180a18,h1
noncomputable def Yt(a b c d:Nat):Nat:=(sortPriv% PySem.Builtin.power) a b c d
noncomputable def zX(Ŝ:Nat):StateT aC5 Sem (ForInStep (Option Unit×Unit)):=do
 let st<-get
 match(if(pendingOf st).size>1 then(pendingOf st)[(pendingOf st).size-2]? else none)with
 | some (_,_,older)=>
  if older<=Ŝ then pure (.done (none,()))
  else do
   let b<-mergeAt' ((pendingOf st).size-2)
   if(!b)=true then pure (.done (some (),()))else pure (.yield (none,()))
 | _=>pure (.done (none,()))
noncomputable def RE(lo n:Nat):StateT aC5 Sem (ForInStep (Option Unit×Nat)):=do
 modify λs=>setPending s ((pendingOf s).push (lo,n,0))
 pure (.yield (none,lo+n))
def aU(lo n Ŝ:Nat)(c:Option Unit×Unit):StateT aC5 Sem (ForInStep (Option Unit×Nat)):=
 match c.1 with
 | some r=>pure (.done (some r,lo))
 | none=>do
  let _<-(modify λs=>setPending s ((pendingOf s).modify ((pendingOf s).size-1) λx=>(x.1,x.2.1,Ŝ)):StateT aC5 Sem PUnit)
  RE lo n
def Ye(size lo n:Nat):StateT aC5 Sem (ForInStep (Option Unit×Nat)):=do
 let st<-get
 match(pendingOf st).back? with
 | some (s1,n1,_)=>do
  let c<-forIn [:size] ((none,()):Option Unit×Unit) λ_ _=>zX (Yt size (2*s1+n1) (2*s1+n1+n1+n) size)
  aU lo n (Yt size (2*s1+n1) (2*s1+n1+n1+n) size) c
 | _=>RE lo n
def hW(size mr lo:Nat):StateT aC5 Sem (ForInStep (Option Unit×Nat)):=
 if lo≥size then pure (.done (none,lo))
 else do
  let x<-countRun' lo (size-lo)
  match x with
  | some n=>
   if n<mr then do
    liftM (rule "list.sort.binary-insertion")
    let b<-binarySort' lo (min (size-lo) mr) n
    if(!b)=true then pure (.done (some (),lo))else Ye size lo (min (size-lo) mr)
   else Ye size lo n
  | _=>pure (.done (some (),lo))
noncomputable def Æ(p:Array Ks):Nat:=if Option.any (λx=>decide (x<p[p.size-2+1]?.elim 0 λx=>x.2.1)) (if p.size-2>0 then aE0 (λx=>x.2.1) p[p.size-2-1]? else none)=true then p.size-2-1 else p.size-2
def uU:StateT aC5 Sem (ForInStep (Option Unit×Unit)):=do
 let st<-get
 if(pendingOf st).size<=1 then pure (.done (none,()))
 else do
  let b<-mergeAt' (Æ (pendingOf st))
  if(!b)=true then pure (.done (some (),()))else pure (.yield (none,()))
noncomputable def Á(c:Option Unit×Unit):StateT aC5 Sem Unit:=
 match c.1 with
 | some r=>pure r
 | none=>pure ()
def Â(size:Nat)(c:Option Unit×Nat):StateT aC5 Sem Unit:=
 match c.1 with
 | some r=>pure r
 | none=>do
  let d<-forIn [:size] ((none,()):Option Unit×Unit) λ_ _=>uU
  Á d
def yO:StateT aC5 Sem Unit:=do
 let st<-get
 let c<-forIn [:(arrOf st).size] ((none,0):Option Unit×Nat) λ_ c=>hW (arrOf st).size ((sortPriv% PySem.Builtin.minRun) (arrOf st).size (arrOf st).size 0) c.2
 Â (arrOf st).size c
def Kg:sortRuns'=yO:=by rfl'
inductive ī(r:aB6->Int)(κ:aS0)(T:List aB6)(hi:Nat)(st:aC5):Prop
 | mk (p:Array Ks) (B:SB κ p T st) (R:FW r (arrOf st) p.toList 0 hi)
variable{lo m hi:Nat}
def K3{p:Array Ks}(B:SB κ p T st)(R:FW r (arrOf st) p.toList 0 lo)(m1:1<=m)(U:ES r (arrOf st) lo m){Q:ForInStep (Option Unit×Nat)->aC5->Prop}
  (h :∀st',ī r κ T (lo+m) st'->Q (.yield (none,lo+m)) st'):wpS (aC6 prog w) A E s (RE lo m) Q st:=by
 refine aC3 (bI5 (aD2 (h _ ⟨_,⟨B.kind,B.failed,bQ5 (Array.push · (lo,m,0)) B.pend,B.perm⟩,?_⟩)))
 rwa[bB5]
 exact R.app ⟨rfl,m1,U,rfl⟩
def N6(C:CD prog w A E s r κ In)(iT :∀x∈T,In x){p:Array Ks}(B:SB κ p T st)(R:FW r (arrOf st) p.toList 0 lo)(hl:lo<=T.length)(m1:1<=m)(U:ES r (arrOf st) lo m){size:Nat}{Q:ForInStep (Option Unit×Nat)->aC5->Prop}
  (h :∀st',ī r κ T (lo+m) st'->Q (.yield (none,lo+m)) st'):wpS (aC6 prog w) A E s (Ye size lo m) Q st:=by
 refine aC3 (wpS_get ?_)
 rwa[B.pend]
 cases hb:p.back? with
 | none=>exact K3 B R m1 U h
 | some b=>
  obtain⟨s1,n1,Ŝ⟩:=b
  dsimp only
  generalize Yt size (2*s1+n1) (2*s1+n1+n1+m) size=Ŝ
  refine aC3 (aS1 (aL0
   (I:=λx c st'=>c=(none,())/\ī r κ T lo st'/\ES r (arrOf st') lo m)
   (Q:=λc st'=>c=(none,())/\ī r κ T lo st'/\ES r (arrOf st') lo m) ?_ (λ_ _ q=>q) ⟨rfl,⟨p,B,R⟩,U⟩) ?_)
  ·rintro x _ st' - - ⟨-,⟨p,B,R⟩,U⟩
   refine aC3 (wpS_get ?_)
   rwa[B.pend]
   by_cases hp:p.size>1
   ·rwa[bQ6 hp,aB9 (by exists 1,0x280b101818,hp:p.size-2<p.size)]
    refine AF (λ_=>aD2 ⟨rfl,⟨p,B,R⟩,U⟩) λ_=>?_
    refine aC3 (NX C iT B R hl (by exists 1,0x18280ba101818,hp) λst5 p5 B5 R5 _ à=>?_)
    exact aD2 ⟨rfl,⟨p5,B5,R5⟩,λi j hij hj=>by rwa[BN (à (lo+i) (aD5 _ _)),BN (à (lo+j) (aD5 _ _))];exact U i j hij hj⟩
   ·rwa[bQ7 hp]
    exact aD2 ⟨rfl,⟨p,B,R⟩,U⟩
  ·rintro _ st' ⟨rfl,⟨p,B,R⟩,U⟩
   refine aC3 (bI5 ?_)
   refine K3 (st:=setPending st' ((pendingOf st').modify ((pendingOf st').size-1) λx=>(x.1,x.2.1,Ŝ))) (p:=p.modify (p.size-1) λx=>(x.1,x.2.1,Ŝ)) ⟨B.kind,B.failed,?_,B.perm⟩ ?_ m1 U h
   ·exact bQ5 (λp:Array Ks=>p.modify (p.size-1) λx=>(x.1,x.2.1,Ŝ)) B.pend
   ·rwa[Array.toList_modify]
    exact FW.mod (f:=λx=>(x.1,x.2.1,Ŝ)) (λp=>⟨rfl,rfl⟩) R
def T9(C:CD prog w A E s r κ In)(iT :∀x∈T,In x)(I:ī r κ T lo st)(hl:lo<=T.length){mr:Nat}{Q:ForInStep (Option Unit×Nat)->aC5->Prop}
  (hd:lo=T.length->Q (.done (none,lo)) st) (h :∀m st',1<=m->lo+m<=T.length->ī r κ T (lo+m) st'->Q (.yield (none,lo+m)) st'):wpS (aC6 prog w) A E s (hW T.length mr lo) Q st:=by
 obtain⟨p,B,R⟩:=I
 refine AF (λhlo=>aD2 (hd (aO4 hl hlo))) λhlo=>?_
 refine aC3 (Kv C iT B (by exists 2,0x10b18010098,hlo) (by exists 2,0x101b0a01008,hl) λn st2 B2 L2 n1 n2 U2=>?_)
 have R2:FW r (arrOf st2) p.toList 0 lo:=R.same λk _ hk=>L2 k hk
 refine AF (λhn=>?_) λhn=>N6 C iT B2 R2 hl n1 U2 λst'=>h n st' n1 (by exists 3,0x120a001b2081008,hl,n2)
 refine aC3 (bI1 (aQ8 ⟨rfl,?_⟩))
 have n3:n<=min (T.length-lo) mr:=by exists 4,0x321bd00301821b008,n2,hn
 have n4:min (T.length-lo) mr<=T.length-lo:=aZ1 _ _
 generalize min (T.length-lo) mr=m at n3 n4
 exact aC3 (Le C iT B2 n1 n3 (by exists 3,0x120a001b2081008,hl,n4) U2 λst3 B3 L3 U3=>N6 C iT B3 (R2.same λk _ hk=>L3 k hk) hl (by exists 2,0x1180100801808,n1,n3) U3 λst'=>h m st' (by exists 2,0x1180100801808,n1,n3) (by exists 3,0x120a001b2081008,hl,n4))
def Ti(C:CD prog w A E s r κ In)(iT :∀x∈T,In x)(B:SB κ #[] T st)(h2:1<=T.length){Q:Unit->aC5->Prop}
  (h :∀st',(arrOf st').toList.Perm T->failedOf st'=none->Ŗ r (arrOf st').toList->Q () st'):wpS (aC6 prog w) A E s sortRuns' Q st:=by
 rwa[Kg]
 refine aC3 (wpS_get ?_)
 rwa[B.size]
 refine aC3 (aS1 (aL0
  (I:=λx c st'=>∃lo,c=(none,lo)/\x<=lo/\lo<=T.length/\ī r κ T lo st')
  (Q:=λc st'=>c=(none,T.length)/\ī r κ T T.length st') ?_ ?_ ⟨0,rfl,aA6 _,aD4 _,#[],B,rfl⟩) ?_)
 ·rintro x _ st'-hx ⟨lo,rfl,x1,x2,I⟩
  exact T9 C iT I x2 (λe=>⟨bQ5 _ e,e▸I⟩) λm st'' m1 m2 I=>⟨lo+m,rfl,by(exists 3,0x21a180a0218081008,x1,m1),m2,I⟩
 ·rintro _ st' ⟨lo,rfl,x1,x2,I⟩
  obtain rfl:lo=T.length:=by exists 2,0x1201081008e08,x1,x2
  exact⟨rfl,I⟩
 ·rintro _ st' ⟨rfl,⟨p,B1,R1⟩⟩
  refine aC3 (aS1 (aL0
   (I:=λx c st'=>c=(none,())/\∃p',SB κ p' T st'/\FW r (arrOf st') p'.toList 0 T.length/\(p'.size<=1\/p'.size+x<=T.length))
   (Q:=λc st'=>c=(none,())/\∃p',SB κ p' T st'/\FW r (arrOf st') p'.toList 0 T.length/\p'.size<=1) ?_ ?_ ⟨rfl,p,B1,R1,.inr (by have:=R1.len;rw[aF1]at this;exists 2,0x1080a01008a08,this)⟩) ?_)
  ·rintro x _ st4-hx ⟨-,p4,B4,R4,Ņ⟩
   refine aC3 (wpS_get ?_)
   rwa[B4.pend]
   refine AF (λhp=>aD2 ⟨rfl,p4,B4,R4,hp⟩) λhp=>?_
   refine aC3 (NX C iT B4 R4 (aA6 _) ?_ λst5 p5 B5 R5 ä _=>?_)
   ·have :∀(c:Prop) [Decidable c],(if c then p4.size-2-1 else p4.size-2)+1<p4.size:=λc _=>by
     split
     ·exists 1,0x1818280bba1180098,hp
     ·exists 1,0x18280ba1180098,hp
    exact this _
   ·exact aD2 ⟨rfl,p5,B5,R5,by exists 4,0x3182a0a018007321a01810781180a28,ä,Ņ⟩
  ·rintro _ st4 ⟨rfl,p4,B4,R4,Ņ⟩
   exact⟨rfl,p4,B4,R4,by exists 2,0x18001108e0a0180078,Ņ⟩
  ·rintro _ st' ⟨rfl,p',B',R',hp⟩
   refine aD2 ?_
   have hl:p'.toList.length<=1:=hp
   cases ep:p'.toList with
   | nil=>
    rw[ep]at R'
    have:0=T.length:=R'
    exact aA8 (ũ [_] 0xa0082801808 (by rfl') h2 this)
   | cons x t=>
    rw[ep]at R' hl
    cases t with
    | cons y t=>exact bQ8 hl (by rwa[aN5,aN5];exists 1,0x1818180aa09)
    | nil=>
     obtain⟨_,_,u,e⟩:=R'
     have e:0+x.2.1=T.length:=e
     rw[aH9]at e
     rw[e]at u
     have:=(SA (by rwa[B'.size];exists 1,2208)).mp u
     rw[bK0,aF6 (by rwa[aF1,B'.size];exact aA6 _)]at this
     exact h st' B'.perm B'.failed this
end
noncomputable def Ad:List Int->List Int->Bool
 | [],[]=>false
 | [],_::_=>true
 | _::_,[]=>false
 | x::xs,y::ys=>if x=y then Ad xs ys else decide (x<y)
theorem NA :∀a:List Int,Ad a a=false
 | []=>rfl
 | x::xs=>by unfold Ad;rwa[bQ6 rfl];exact NA xs
theorem GO :∀{a b:List Int},Ad a b=false->Ad b a=false->a=b
 | [],[],_,_=>rfl
 | [],_::_,h,_=>by cases h
 | _::_,[],_,h=>by cases h
 | x::xs,y::ys,h,h'=>by
  unfold Ad at h h'
  by_cases e:x=y
  ·subst e
   rw[bQ6 rfl]at h h'
   rwa[GO h h'];rfl
  ·rw[bQ7 e]at h
   rw[bQ7 (bF5 e)]at h'
   have:=of_decide_eq_false h
   have:=of_decide_eq_false h'
   rename_i u0;exact aA8 (ġ [] [_,_] 0xa105980149810498 (by rfl') u0 this e)
theorem ML :∀{a b c:List Int},Ad a b=true->Ad b c=true->Ad a c=true
 | [],[],_,h,_=>by cases h
 | [],_::_,[],_,h=>by cases h
 | [],_::_,_::_,_,_=>rfl
 | _::_,[],_,h,_=>by cases h
 | _::_,_::_,[],_,h=>by cases h
 | x::xs,y::ys,z::è,h,h'=>by
  unfold Ad at h h' ⊢
  by_cases e:x=y
  ·subst e
   rw[bQ6 rfl]at h
   by_cases e':x=z
   ·subst e'
    rw[bQ6 rfl]at h' ⊢
    exact ML h h'
   ·rw[bQ7 e']at h' ⊢
    exact h'
  ·rw[bQ7 e]at h
   have h:=bR1 h
   by_cases e':y=z
   ·subst e'
    rwa[bQ7 e]
    exact bQ9 h
   ·rw[bQ7 e']at h'
    have h':=bR1 h'
    rwa[bQ7 (by exact ġ [] [_,_,_] 0x205921481048 (by rfl') h h')]
    exact bQ9 (by exact ġ [] [_,_,_] 0x20421481048 (by rfl') h h')
def Qz(T:List (List Int))(x:List Int):Nat:=(T.filter λy=>Ad y x).length
def Zm{T:List (List Int)}{x y:List Int}(h:Ad y x=false):Qz T x<=Qz T y:=by
 unfold Qz
 rwa[aQ9.symm,aQ9.symm]
 refine List.countP_mono_left λz _ hz=>?_
 by_cases e:Ad z y=true
 ·exact e
 ·have e:=aQ1.mpr e
  by_cases e2:Ad y z=true
  ·have:=ML e2 hz
   rw[h]at this
   cases this
  ·have:=GO e (aQ1.mpr e2)
   subst this
   rw[h]at hz
   cases hz
def RM{T:List (List Int)}{x y:List Int}(hx:x∈T)(h:Ad x y=true):Qz T x<Qz T y:=by
 unfold Qz
 rwa[aQ9.symm,aQ9.symm]
 have le :∀(L:List (List Int)),L.countP (λz=>Ad z x)<=L.countP (λz=>Ad z y):=λL=>List.countP_mono_left λz _ hz=>ML hz h
 obtain⟨L,R,rfl⟩:=List.append_of_mem hx
 rwa[List.countP_append,List.countP_append,List.countP_cons,List.countP_cons,bQ6 h,bQ7 (by rw[NA];decide)]
 have:=le L
 have:=le R
 rename_i u0;exists 4,0x183a1a082a0a132081008,u0,this
def Tu{T:List (List Int)}{x y:List Int}(hx:x∈T)(hy:y∈T):decide ((Qz T x:Int)<(Qz T y:Int))=Ad x y:=by
 cases e:Ad x y with
 | true=>exact bQ9 (aD0.mpr (RM hx e))
 | false=>exact bR0 (aP0.mpr (aM5.mpr (Zm e)))
section
variable{prog:aF3}{w:aC9}{A:aH1}{E:Value->aA5->Prop}{s:aA5}{κ:aS0}
def Qx{us:List Value}{f:Value->List Int}(cmp :∀x∈us,∀y∈us,∀Q:Bool->aA5->Prop,Q (Ad (f x) (f y)) s->aC8 (aC6 prog w) A (keyLt' κ x y) Q (λ_ _=>False) s)(h1:1<=us.length){Q:Unit->aC5->Prop}
  (h :∀(Œ:List Value) st',Œ.Perm us->Œ.Pairwise (λx y=>Ad (f y) (f x)=false)->(arrOf st').map (·.2)=Œ.toArray->failedOf st'=none->Q () st') :
  wpS (aC6 prog w) A E s sortRuns' Q (aC5.mk' κ (us.toArray.zip us.toArray) #[] 7 none):=by
 have eT:(us.toArray.zip us.toArray).toList=us.map λv=>(v,v):=by
  rw[List.zip_toArray]
  show us.zip us=_
  rwa[List.zip_eq_zipWith,List.zipWith_self];rfl
 have mem :∀x:aB6,x∈us.map (λv=>(v,v))->x.1∈us/\x.2=x.1:=λx hx=>by
  obtain⟨v,hv,rfl⟩:=aO0.mp hx
  exact⟨hv,rfl⟩
 have C:CD prog w A E s (λx=>(Qz (us.map f) (f x.1):Int)) κ (λx=>x.1∈us/\x.2=x.1):=λx y hx hy st Q hk q=>by
  rw[lt'_eq]
  refine aC3 (wpS_get ?_)
  rwa[hk]
  refine aC3 (bI1 (aU9 (aP1 (cmp x.1 hx.1 y.1 hy.1 (λb s'=>s'=s/\b=Ad (f x.1) (f y.1)) ⟨rfl,rfl⟩) (λb s' hb=>⟨hb.1,?_⟩) λ_ _ z=>z.elim)))
  refine aD2 ?_
  rwa[hb.2,(Tu (T:=us.map f) (bF0 hx.1) (bF0 hy.1)).symm]
  exact q
 refine Ti (T:=us.map λv=>(v,v)) C mem ⟨rfl,rfl,rfl,by rwa[eT.symm];rfl⟩ (by rw[aB5];exact h1) λst' Ž Ń p3=>?_
 refine h ((arrOf st').toList.map (·.2)) st' ?_ ?_ (Array.toList_inj.mp Array.toList_map) Ń
 ·have:=Ž.map (·.2)
  rw[aR5,show((λx:aB6=>x.2)∘λv:Value=>(v,v))=id from rfl,List.map_id]at this
  exact this
 ·refine aV7.mpr (aY2 (λ{x y} hx hy q=>?_) p3)
  have mx:=mem x (Ž.mem_iff.mp hx)
  have my:=mem y (Ž.mem_iff.mp hy)
  rwa[mx.2,my.2]
  cases e:Ad (f y.1) (f x.1)with
  | false=>rfl
  | true=>
   have:=RM (T:=us.map f) (bF0 my.1) e
   have q:(Qz (us.map f) (f x.1):Int)<=(Qz (us.map f) (f y.1):Int):=q
   exact aA8 (ũ [_,_] 0xa00f10f381018 (by rfl') this q)
end
end Mine
end
section
open PySem PySem.W PyProof.Rows PySem.Spec PySem.Calls
namespace Mine
def TK(xs:Array Nat):Prop:=xs.toList.Pairwise (· < ·)
def TK.at{xs:Array Nat}(h:TK xs){a b x y:Nat}(ha:xs[a]?=some x)(hb:xs[b]?=some y)(l:a<b):x<y:=by
 obtain⟨a1,rfl⟩:=aW1.mp ha
 obtain⟨b1,rfl⟩:=aW1.mp hb
 exact aJ2.mp h a b a1 b1 l
structure Xh(xs:Array Nat)(j r:Nat):Prop where
 le:r<=xs.size
 lo :∀i x,i<r->xs[i]?=some x->x<j
 hi :∀i x,r<=i->xs[i]?=some x->j<=x
def Z8{lo hi:Nat}(h:lo<hi):lo<=(lo+hi) / 2/\(lo+hi) / 2<hi:=
 ⟨(Nat.le_div_iff_mul_le (by decide)).mpr (by rw[bJ9];exact aH8 (aG2 h) lo),(Nat.div_lt_iff_lt_mul (by decide)).mpr (by rw[bJ9];exact Nat.add_lt_add_right h hi)⟩
def NM{lo hi m f:Nat}(h:hi-lo<=f+1)(m1:lo<=m)(m2:m<hi):hi-(m+1)<=f/\m-lo<=f:=by exists 4,0x213b02183a0b0603183108182a10b08,h,m1,m2
def YH{xs:Array Nat}{j:Nat}(h:TK xs) :∀f lo hi,hi-lo<=f->hi<=xs.size->lo<=hi->(∀i x,i<lo->xs[i]?=some x->x<j)->(∀i x,hi<=i->xs[i]?=some x->j<=x)->Xh xs j (aG9.go xs j f lo hi):=by
 intro ţ
 induction ţ with
 | zero=>
  intro lo hi h1 h2 h3 h4 ĸ
  have:lo=hi:=by exists 2,0x1201080810b08,h1,h3
  subst this
  exact⟨h2,h4,ĸ⟩
 | succ f ih=>
  intro lo hi h1 h2 h3 h4 ĸ
  unfold aG9.go
  split
  ·rename_i hl
   obtain⟨m1,m2⟩:=Z8 hl
   have hm:(lo+hi) / 2<xs.size:=aB2 m2 h2
   have e:xs[(lo+hi) / 2]?=some (xs[(lo+hi) / 2]):=aB9 hm
   have e2:xs.getD ((lo+hi) / 2) j=xs[(lo+hi) / 2]:=by simp[Array.getD,hm]
   dsimp only
   rwa[e2]
   split
   ·rename_i q
    exact ih _ hi (NM h1 m1 m2).1 h2 m2 (λi x hi' hx=>by
     rcases aT1 i ((lo+hi) / 2)with z | z
     ·exact bB8 (h.at hx e z) q
     ·have:i=(lo+hi) / 2:=by exists 2,0x1020108181a018,hi',z
      subst this
      rw[e]at hx;cases hx;exact q) ĸ
   ·rename_i q
    exact ih lo _ (NM h1 m1 m2).2 (aG2 hm) m1 h4 λi x hi' hx=>by
     rcases aT1 ((lo+hi) / 2) i with z | z
     ·exact aA2 (aI0 q) (aG2 (h.at e hx z))
     ·have:i=(lo+hi) / 2:=by exists 2,77326716936,hi',z
      subst this
      rw[e]at hx;cases hx;exact aI0 q
  ·have:lo=hi:=by rename_i u0;exists 2,0x102101981008,h3,u0
   subst this
   exact⟨h2,h4,ĸ⟩
def H6{xs:Array Nat}(h:TK xs)(j:Nat):Xh xs j (aG9 xs j):=
 YH h _ _ _ (by exists 1,32944) (aA6 _) (aD4 _) (λi x h=>bQ8 h (aG0 i)) λi x h e=>bQ8 (aW1.mp e).1 (aR0.mpr h)
def Xh.one{xs:Array Nat}{j r r':Nat}(a:Xh xs j r)(b:Xh xs j r'):r=r':=by
 rcases Nat.lt_trichotomy r r' with z | z | z
 ·have e:xs[r]?=some (xs[r]'(aB2 z b.le)):=aB9 _
  exact bQ8 (b.lo r _ z e) (aR0.mpr (a.hi r _ (aA6 _) e))
 ·exact z
 ·have e:xs[r']?=some (xs[r']'(aB2 z a.le)):=aB9 _
  exact bQ8 (a.lo r' _ z e) (aR0.mpr (b.hi r' _ (aA6 _) e))
def RK{α:Type}(xs:Array α)(p:Nat)(x:α)(hp:p<=xs.size):(bG8 xs p x).toList=xs.toList.take p++x::xs.toList.drop p:=by
 unfold bG8
 simp
 exact aF6 (by simp)
def QH(t:aI8)(j:Nat):Prop:=t.place[aG9 t.place j]?≠some j
def VB{xs:Array Nat}{j:Nat}(h:TK xs)(hj:xs[aG9 xs j]?≠some j):TK (bG8 xs (aG9 xs j) j):=by
 have b:=H6 h j
 unfold TK
 rwa[RK _ _ _ b.le];rw[aF0]
 have tk :∀a∈xs.toList.take (aG9 xs j),a<j:=λa ha=>by
  obtain⟨i,hi,rfl⟩:=List.mem_take_iff_getElem.mp ha
  exact b.lo i _ (by exists 3,4313960472,hi) (by rwa[(aI2).symm];exact aA9 _)
 have dr :∀a∈xs.toList.drop (aG9 xs j),j<a:=λa ha=>by
  obtain⟨i,hi,rfl⟩:=List.mem_drop_iff_getElem.mp ha
  have e:xs[aG9 xs j+i]?=some (xs.toList[aG9 xs j+i]):=by rwa[(aI2).symm];exact aA9 _
  refine Nat.lt_of_le_of_ne (b.hi _ _ (aD5 ..) e) λz=>hj ?_
  cases i with
  | zero=>exact e.trans (bQ5 some z.symm)
  | succ i=>
   have hs:aG9 xs j<xs.size:=by have:=hi;rw[aF1]at this;exists 3,0x21121180aa18,this
   have e0:xs[aG9 xs j]?=some xs[aG9 xs j]:=aB9 hs
   have ĩ:=b.hi _ _ (aA6 _) e0
   have ř:=h.at e0 e (by exists 2,404359681)
   exact aA8 (ũ [_,_,_] 0xa121820081028 (by rfl') z ĩ ř)
 exact⟨h.sublist (List.take_sublist ..),aP2.mpr ⟨dr,h.sublist (bG9 ..)⟩,λa ha b hb=>(aF4.mp hb).elim (λz=>z▸tk a ha) λz=>bB8 (tk a ha) (dr b z)⟩
def EH(n:Nat):TK (Array.range n):=by
 unfold TK
 rwa[Array.toList_range]
 exact bB9
def IF{t:aI8}{j:Nat}(h :∀i,t.slot j≠.live i):QH t j:=λz=>h (aG9 t.place j) (by
 unfold aI8.slot
 dsimp only
 rwa[z]
 simp)
def EX(t:aI8)(p:aI8.Probe):(t.advance p).dummy=p.dummy:=by
 unfold aI8.advance
 split<;>rfl
def Q7{t:aI8}{f:Nat->Int}{h:Int} :∀n (p:aI8.Probe),(∀d,p.dummy=some d->QH t d)->∀j dummy,aI8.probe.go t f h n p=some (.empty j dummy)->QH t j/\∀d,dummy=some d->QH t d:=by
 intro ţ
 induction ţ with
 | zero=>
  intro p _ j dummy e
  cases e
 | succ n ih=>
  intro p hp j dummy e
  unfold aI8.probe.go at e
  split at e
  ·rename_i q
   cases e
   exact⟨IF λi z=>(by rw[q]at z;cases z),hp⟩
  ·rename_i q
   exact ih _ (λd hd=>by rw[EX]at hd;cases hd;exact IF λi z=>by rw[q]at z;cases z) j dummy e
  ·split at e
   ·cases e
   ·exact ih _ (λd hd=>by rw[EX]at hd;exact hp d hd) j dummy e
def OW{t:aI8}{h:Int}{j:Nat}{b:Bool}(e:t.freeSlot h=some (j,b)):QH t j:=by
 unfold aI8.freeSlot at e
 split at e
 ·rename_i k dummy q
  cases e
  obtain⟨h1,h2⟩:=Q7 _ _ (λd hd=>by cases hd) k dummy q
  cases dummy with
  | none=>exact h1
  | some d=>exact h2 d rfl
 ·cases e
def TP(w:aC9)(t:aI8):Prop:=TK t.place/\t.led = !w.params.followText "set-order"
def Ux{w:aC9}{t:aI8}(h:TP w t)(n:Nat):TP w (t.orStandIn n):=by
 unfold aI8.orStandIn
 split
 ·exact h
 ·exact⟨EH n,h.2⟩
def M0{w:aC9}{t:aI8}(ht:TP w t)(es:Array (Int×Value))(h:Int)(x:Value):TP w (layNew t es h x).2.1:=by
 unfold layNew
 split
 ·rename_i slot wasDummy q
  exact Ux (t:=(t.put slot).1) ⟨VB ht.1 (OW q),ht.2⟩ _
 ·exact⟨EH _,ht.2⟩
def Jc{w:aC9}{t:aI8}(ht:TP w t)(es:Array (Int×Value))(n:Nat):TP w (relayAll t es n).2.1:=by
 unfold relayAll
 split
 ·rename_i t' order q
  dsimp only
  split
  ·unfold aI8.relaid aI8.laid at q
   obtain⟨owner,q1,õ⟩:=Option.bind_eq_some_iff.mp q
   cases õ
   refine⟨?_,ht.2⟩
   show bH3 _ _
   simp only[aV7]
   refine List.pairwise_filterMap.mpr (bB9.imp λ{a b} l x hx y hy=>?_)
   obtain⟨_,_,rfl⟩:=aO1.mp hx
   obtain⟨_,_,rfl⟩:=aO1.mp hy
   exact l
  ·exact⟨EH _,ht.2⟩
 ·exact⟨EH _,ht.2⟩
set_option genInjectivity true in
inductive AC where
 | int (i:Int)
 | str (s:Str)
deriving DecidableEq
inductive SK where
 | tup | lst | mat
deriving DecidableEq
inductive Ŕ where
 | len | range | set | enumerate | sum | append | pop | sort | get | setdefault | has | tnew | tuple | list | map | extend | divmod | min | sorted | index | max | add
noncomputable def Ŕ.val(b:Ŕ):Value:=match b with
 | .len=>.builtin "len"
 | .range=>.type "range"
 | .set=>.type "set"
 | .enumerate=>.type "enumerate"
 | .sum=>.builtin "sum"
 | .append=>.builtin "list.append"
 | .pop=>.builtin "list.pop"
 | .sort=>.builtin "list.sort"
 | .get=>.builtin "dict.get"
 | .setdefault=>.builtin "dict.setdefault"
 | .has=>.builtin "set.__contains__"
 | .tnew=>.builtin "tuple.__new__"
 | .tuple=>.type "tuple"
 | .list=>.type "list"
 | .map=>.type "map"
 | .extend=>.builtin "list.extend"
 | .divmod=>.builtin "divmod"
 | .min=>.builtin "min"
 | .sorted=>.builtin "sorted"
 | .index=>.builtin "list.index"
 | .max=>.builtin "max"
 | .add=>.builtin "set.add"
inductive ű where
 | none
 | bool (b:Bool)
 | key (k:AC)
 | seq (k:SK) (vs:List ű)
 | ref (x:Nat)
 | fn (b:Ŕ)
 | glo (a:aC2)
 | bm (f:Ŕ) (x:ű)
 | dct (es:List (AC×ű))
 | fset (xs:List AC)
 | lam
noncomputable abbrev ű.int(i:Int):ű:=.key (.int i)
noncomputable abbrev ű.str(s:Str):ű:=.key (.str s)
noncomputable abbrev ű.tup(vs:List ű):ű:=.seq .tup vs
noncomputable abbrev ű.lst(vs:List ű):ű:=.seq .lst vs
noncomputable abbrev ű.mat(vs:List ű):ű:=.seq .mat vs
inductive Ř where
 | list (vs:List ű)
 | dict (es:List (AC×ű))
 | set (xs:List AC)
 | inst (C:aC2) (attrs:List (Str×ű))
 | tab (b:Bool)
structure St where
 ρ:List (Str×ű)
 H:List (Nat×Ř)
 n:Nat
 anc:Nat
inductive AR where
 | loc
 | lock
 | cell (x:Str)
 | obj (x:Nat)
 | dict (x:Nat)
structure ħ where
 tag:aC2->Option AR
 μ:Nat->aC2
 δ:Nat->aC2
def ħ.own(G:ħ)(a:aC2):Prop:=G.tag a≠none
def ħ.mt(G:ħ)(a:aC2):Prop:=∃p,G.tag a=some p/\p≠.lock
def A0{G:ħ}{a:aC2}{p:AR}(h:G.tag a=some p):G.own a:=λz=>Option.noConfusion rfl (heq_of_eq (h.symm.trans z))
def ħ.mt_own{G:ħ}{a:aC2}(h:G.mt a):G.own a:=h.elim λ_ e=>A0 e.1
noncomputable def A7:AC->Value->Bool
 | .int i,.int j _=>i==j
 | .str s,.str t _=>s==t
 | _,_=>false
noncomputable def Ab(vs:List Value)(n:Nat):Obj:={cls:=.type "tuple",data:=.seq vs.toArray n}
noncomputable def AS(vs:List Value)(n:Nat):Obj:={cls:=.type "list",data:=.seq vs.toArray n}
noncomputable def Ay(C:aC2)(vs:List Value)(e:Nat×Option aC2):Obj:={cls:=.ref C,dict:=e.2,data:=.seq vs.toArray e.1}
noncomputable def Cc(f v:Value):Obj:={cls:=.type "builtin_function_or_method",data:=.fields #[f,v]}
def Al{i:Int}{v:Value}(h:A7 (.int i) v=true) :∃t,v = .int i t:=by
 cases v with
 | int j t=>exact⟨t,bQ5 (bD7 · t) (aD3 h).symm⟩
 | _=>cases h
def An{i:Str}{v:Value}(h:A7 (.str i) v=true) :∃t,v = .str i t:=by
 cases v with
 | str j t=>exact⟨t,bQ5 (bN1 · t) (aD3 h).symm⟩
 | _=>cases h
def DS{a b:AC}{v:Value}(ha:A7 a v=true)(hb:A7 b v=true):a=b:=by
 cases a with
 | int i=>obtain⟨t,rfl⟩:=Al ha;cases b with
  | int j=>exact bQ5 AC.int (aD3 hb).symm
  | str=>cases hb
 | str i=>obtain⟨t,rfl⟩:=An ha;cases b with
  | int=>cases hb
  | str j=>exact bQ5 AC.str (aD3 hb).symm
noncomputable def keyHash(w:aC9):AC->Int
 | .int i=>hashInt i
 | .str s=>hashStr w s
def UX(i j:Int):(i==j)=decide (AC.int i=AC.int j):=(bR4 (p:=i=j)).mpr ⟨bQ5 AC.int,AC.int.inj⟩
def To(i j:Str):(i==j)=decide (AC.str i=AC.str j):=bE5.mpr (beq_iff_eq.trans (Iff.trans ⟨bQ5 AC.str,AC.str.inj⟩ decide_eq_true_iff.symm))
def Mc(prog:aF3)(w:aC9){A E s}{a b:AC}{u v:Value}{Q:Bool->aA5->Prop}(hu:A7 a u=true)(hv:A7 b v=true)(h:Q (decide (a=b)) s):aC8 (aC6 prog w) A (eqBool u v) Q E s:=by
 cases a with
 | int i=>
  obtain⟨t,rfl⟩:=Al hu
  cases b with
  | int j=>
   obtain⟨t',rfl⟩:=Al hv
   exact(intKind prog w).eqBool (bO5 prog w i t) (bO5 prog w j t') ((decide_eq_decide.mpr ⟨bQ5 AC.int,AC.int.inj⟩:decide (i=j)=decide (AC.int i=AC.int j))▸h)
  | str j=>
   obtain⟨t',rfl⟩:=An hv
   exact bB2.int_str i t j t' _ _ _ _ h
 | str i=>
  obtain⟨t,rfl⟩:=An hu
  cases b with
  | int j=>
   obtain⟨t',rfl⟩:=Al hv
   exact bB2.str_int i t j t' _ _ _ _ h
  | str j=>
   obtain⟨t',rfl⟩:=An hv
   exact(PySem.strKind prog w).eqBool (bO6 prog w i t) (bO6 prog w j t') ((decide_eq_decide.mpr ⟨bQ5 AC.str,AC.str.inj⟩:decide (i=j)=decide (AC.str i=AC.str j))▸h)
def A8(prog:aF3)(w:aC9):PySem.KeyKind prog w AC where
 is:=A7
 hash:=keyHash w
 inj:=λv a b ha hb=>DS ha hb
 byValue:=λk v h=>by
  cases k with
  | int i=>obtain⟨t,rfl⟩:=Al h;rfl
  | str i=>obtain⟨t,rfl⟩:=An h;rfl
 pyHash:=λ{A E s k v Q} hv h=>by
  cases k with
  | int i=>obtain⟨t,rfl⟩:=Al hv;exact(intKind prog w).pyHash (bO5 prog w i t) h
  | str i=>obtain⟨t,rfl⟩:=An hv;exact(PySem.strKind prog w).pyHash (bO6 prog w i t) h
 eqBool:=λhu hv h=>Mc prog w hu hv h
 «strs»:=λk x t v h=>by
  cases k with
  | int i=>cases h
  | str i=>
   obtain rfl:i=x:=aD3 h
   cases v with
   | str j u=>exact Bool.beq_comm
   | _=>rfl
structure Bt where
 prog:aF3
 w:aC9
 C:aC2
 lam:Value->aY3
 lq:Str
section
variable(L:Bt)(h:aF2)(a:aC2)
def SK.cls(k:SK):Value:=SK.rec (.type "tuple") (.type "list") (.ref L.C) k
def SK.dict(k:SK)(d:Option aC2):Option aC2:=SK.rec none none d k
def W8(k:SK)(vs:List Value)(e:Nat×Option aC2):Obj:={cls:=k.cls L,dict:=k.dict e.2,data:=.seq vs.toArray e.1}
def Bt.sq(k:SK)(vs:List Value):Prop:=∃e,h.get? a=some (W8 L k vs e)
def Bt.dct(kvs:List (AC×Value)):Prop:=h.DictOf (A8 L.prog L.w) a kvs/\(a==sysModules)=false
def Bt.fun(u:Value):Prop:=h.get? a=some {cls:=.type "function",data:=.func (L.lam u)}
def Bt.codF(b:Array Value×Tok)(_:aC2)(o:Obj):Prop:=o.data = .fields b.1/\b.1[1]?=some (.str L.lq b.2)
def Bt.cod(b:Array Value×Tok):Prop:=∃o,h.get? a=some o/\L.codF b a o
def WH(w:aC9):Prop:=∃o es ep t,h.get? a=some o/\o.data = .set es ep t/\TP w t
def Bt.set(ks:List AC):Prop:=h.SetOf (A8 L.prog L.w) a (λk=>decide (k∈ks)) ks.length/\ks.Nodup/\WH h a L.w
end
structure Hn(P:aF2->aC2->Prop):Prop where
 inn :∀{h a},P h a->∃o,h.get? a=some o
 keep :∀{h h':aF2} {a},(∀o,h.get? a=some o->h'.get? a=some o)->P h a->P h' a
def Hn.at(f:aC2->Obj->Prop):Hn λh a=>∃o,h.get? a=some o/\f a o:=⟨λq=>q.imp λ_ e=>e.1,λk q=>q.imp λ_ e=>⟨k _ e.1,e.2⟩⟩
section
variable{L:Bt}
def Id(k:SK)(vs:List Value):Hn λh a=>L.sq h a k vs:=⟨λq=>q.elim λ_ e=>⟨_,e⟩,λk q=>q.imp λ_ e=>k _ e⟩
def FO(vs:List (AC×Value)):Hn λh a=>L.dct h a vs:=⟨λq=>q.1.imp λ_ x=>x.elim λ_ x=>x.elim λ_ x=>x.1,λk q=>⟨q.1.at k,q.2⟩⟩
def HF(ks:List AC):Hn λh a=>L.set h a ks:=⟨λq=>q.1.objOf.imp λ_ x=>x.1,λk q=>⟨q.1.imp λ_ x=>x.imp λ_ x=>x.imp λ_ x=>x.imp λ_ x=>⟨k _ x.1,x.2⟩,q.2.1,q.2.2.imp λ_ x=>x.imp λ_ x=>x.imp λ_ x=>x.imp λ_ x=>⟨k _ x.1,x.2⟩⟩⟩
def Qg(u:Value):Hn λh a=>L.fun h a u:=⟨λe=>⟨_,e⟩,λk e=>k _ e⟩
def QT(b:Array Value×Tok):Hn λh a=>L.cod h a b:=Hn.at (L.codF b)
def U6(f v:Value):Hn λh a=>h.get? a=some (Cc f v):=⟨λe=>⟨_,e⟩,λk e=>k _ e⟩
end
inductive Di{β:Type}(P:aC2->β->Prop)(G:ħ)(R:β->Prop)(v:Value):Prop
 | mk (a:aC2) (b:β) (hv:v = .ref a) (hp:P a b) (ho:¬ G.own a) (hr:R b)
def CZ(G:ħ)(h:aF2)(G':ħ)(h':aF2):Prop:=∀a o,h.get? a=some o->¬ G.own a->h'.get? a=some o/\¬ G'.own a
def Di.imp{β:Type}{P:β->aF2->aC2->Prop}{G G':ħ}{h h':aF2}{R R':β->Prop}{v:Value}(t :∀b,Hn (P b))(k:CZ G h G' h')(r :∀b,R b->R' b)(q:Di (λa b=>P b h a) G R v):Di (λa b=>P b h' a) G' R' v:=
 q.casesOn λa b hv hp ho hr=>⟨a,b,hv,(t b).keep (λo e=>(k a o e ho).1) hp,((t b).inn hp).elim λo e=>(k a o e ho).2,r b hr⟩
section
variable(L:Bt)(G:ħ)(h:aF2)(n:Nat)
mutual
def A2:ű->Value->Prop
 | .none,v=>v = .none
 | .bool b,v=>v = .bool b
 | .key k,v=>A7 k v=true
 | .seq k avs,v=>Di (λa us=>L.sq h a k us) G (AW avs) v
 | .ref x,v=>v = .ref (G.μ x)/\x<n
 | .fn b,v=>v=b.val
 | .glo a,v=>v = .ref a
 | .bm f x,v=>Di (λa u=>h.get? a=some (Cc f.val u)) G (A2 x) v
 | .dct es,v=>Di (L.dct h) G (AZ es) v
 | .fset ks,v=>Di (λa (_:Unit)=>L.set h a ks) G (λ_=>True) v
 | .lam,v=>Di (L.fun h) G (Di (L.cod h) G λ_=>True) v
def AW:List ű->List Value->Prop
 | [],vs=>vs=[]
 | a::as,vs=>∃v r,vs=v::r/\A2 a v/\AW as r
def AZ:List (AC×ű)->List (AC×Value)->Prop
 | [],vs=>vs=[]
 | a::as,vs=>∃v r,vs=(a.1,v)::r/\Vl a v/\AZ as r
def Vl:AC×ű->Value->Prop
 | (_,a),v=>A2 a v
end
end
section
variable(g:Nat->Option ű)
mutual
noncomputable def ű.sub:ű->Option ű
 | .ref x=>g x
 | .seq k vs=>(AD vs).map (.seq k)
 | .bm f x=>x.sub.map (.bm f)
 | .dct es=>(AG es).map .dct
 | v=>some v
noncomputable def AD:List ű->Option (List ű)
 | []=>some []
 | a::r=>a.sub.bind λa'=>(AD r).map (a' :: ·)
noncomputable def AG:List (AC×ű)->Option (List (AC×ű))
 | []=>some []
 | a::r=>(EM a).bind λa'=>(AG r).map ((a.1,a') :: ·)
noncomputable def EM:AC×ű->Option ű
 | (_,a)=>a.sub
end
end
noncomputable def AK(g:Nat->Option ű):List (Str×ű)->Option (List (Str×ű))
 | []=>some []
 | a::r=>(a.2.sub g).bind λa'=>(AK g r).map ((a.1,a') :: ·)
def Ř.sub(g:Nat->Option ű):Ř->Option Ř
 | .list vs=>(AD g vs).map .list
 | .dict es=>(AG g es).map .dict
 | .inst C at_=>(AK g at_).map (.inst C)
 | o=>some o
def map_some{α β:Type}{f:α->β}{o:Option α}{b:β}(h:o.map f=some b) :∃a,o=some a/\f a=b:=by
 cases o with
 | none=>cases h
 | some a=>exact⟨a,rfl,aA3 h⟩
def bind_some{α β:Type}{f:α->Option β}{o:Option α}{b:β}(h:o.bind f=some b) :∃a,o=some a/\f a=some b:=by
 cases o with
 | none=>cases h
 | some a=>exact⟨a,rfl,h⟩
def Cw{α β:Type}{f:α->β}{P:β->Prop}{o:Option α}{b:β}(h:o.map f=some b)(k :∀a,o=some a->P (f a)):P b:=by
 obtain⟨a,e,rfl⟩:=map_some h
 exact k a e
def Ig{α β γ:Type}{f:α->β}{P:β->γ->Prop}{o:Option α}{b:β}{c:γ}(h:o.map f=some b)(k :∀a,o=some a->P (f a) c):P b c:=Cw (P:=(P · c)) h k
def FM{β γ:Type}{f:β->γ}{o:Option β}{l:Option (List γ)}{b:List γ}{δ:Type}{P:List γ->δ->Prop}{c:δ}(h:(o.bind λa=>l.map (f a :: ·))=some b)(k :∀a r,o=some a->l=some r->P (f a::r) c):P b c:=by
 obtain⟨a,e,h⟩:=bind_some h
 obtain⟨r,e',rfl⟩:=map_some h
 exact k a r e e'
section
variable{L:Bt}{G G':ħ}{h h':aF2}{n n':Nat}{g:Nat->Option ű}(k:CZ G h G' h')(hg :∀x w,g x=some w->x<n->A2 L G' h' n' w (.ref (G.μ x)))
include k hg
theorem A2.sub(av:ű) :∀av' v,av.sub g=some av'->A2 L G h n av v->A2 L G' h' n' av' v:=by
 refine ű.rec (motive_1:=λav=>∀av' v,av.sub g=some av'->A2 L G h n av v->A2 L G' h' n' av' v) (motive_2:=λas=>∀as' vs,AD g as=some as'->AW L G h n as vs->AW L G' h' n' as' vs)
  (motive_3:=λas=>∀as' vs,AG g as=some as'->AZ L G h n as vs->AZ L G' h' n' as' vs) (motive_4:=λp=>∀a' v,EM g p=some a'->Vl L G h n p v->A2 L G' h' n' a' v)
  (λ_ _ e=>aA3 e▸id) (λ_ _ _ e=>aA3 e▸id) (λ_ _ _ e=>aA3 e▸id) (λkd vs ih av' v e q=>Ig e λas e=>Di.imp (Id kd) k (λb=>ih as b e) q) (λx av' v e q=>?_) (λ_ _ _ e=>aA3 e▸id) (λ_ _ _ e=>aA3 e▸id) (λf x ih av' v e q=>Ig e λas e=>Di.imp (U6 f.val) k (λb=>ih as b e) q)
  (λvs ih av' v e q=>Ig e λas e=>Di.imp FO k (λb=>ih as b e) q) (λks av' v e q=>aA3 e▸Di.imp (λ_=>HF ks) k (λ_=>id) q)
  (λav' v e q=>aA3 e▸Di.imp Qg k (λ_=>Di.imp QT k λ_=>id) q)
  (λ_ _ e=>aA3 e▸id) (λa r i1 i2 as' vs e q=>?_) (λ_ _ e=>aA3 e▸id) (λa r i1 i2 as' vs e q=>?_) (λkey a ih=>ih) av
 ·have q:v = .ref (G.μ x)/\x<n:=q
  rwa[q.1]
  exact hg x av' e q.2
 ·exact FM e λa' r' e1 e2=>q.imp λv q=>q.imp λu q=>⟨q.1,i1 a' v e1 q.2.1,i2 r' u e2 q.2.2⟩
 ·exact FM e λa' r' e1 e2=>q.imp λv q=>q.imp λu q=>⟨q.1,i1 a' v e1 q.2.1,i2 r' u e2 q.2.2⟩
theorem AW.sub{as as':List ű}{vs:List Value}(e:AD g as=some as')(q:AW L G h n as vs):AW L G' h' n' as' vs:=
 aB4 (motive:=λas=>∀as' vs,AD g as=some as'->AW L G h n as vs->AW L G' h' n' as' vs) (λ_ _ e=>aA3 e▸id)
  (λa r ih as' vs e q=>FM e λa' r' e1 e2=>q.imp λv q=>q.imp λu q=>⟨q.1,A2.sub k hg a a' v e1 q.2.1,ih r' u e2 q.2.2⟩) as as' vs e q
theorem AZ.sub{as as':List (AC×ű)}{vs:List (AC×Value)}(e:AG g as=some as')(q:AZ L G h n as vs):AZ L G' h' n' as' vs:=
 aB4 (motive:=λas=>∀as' vs,AG g as=some as'->AZ L G h n as vs->AZ L G' h' n' as' vs) (λ_ _ e=>aA3 e▸id)
  (λa r ih as' vs e q=>by obtain⟨key,a⟩:=a;exact FM e λa' r' e1 e2=>q.imp λv q=>q.imp λu q=>⟨q.1,A2.sub k hg a a' v e1 q.2.1,ih r' u e2 q.2.2⟩) as as' vs e q
end
section
variable(L:Bt)(G:ħ)(h:aF2)(n:Nat)
def AP:List (Str×ű)->List aP3->Prop
 | [],l=>l=[]
 | a::r,l=>∃hsh t v l',l=⟨hsh,.str a.1 t,v⟩::l'/\A2 L G h n a.2 v/\AP r l'
inductive Hh{β:Type}(P R:β->Prop):Prop
 | mk (b:β) (hp:P b) (hr:R b)
inductive dE(x:Nat)(C:aC2)(R:List aP3->Prop):Prop
 | mk (es:List aP3) (e:Nat) (h1:h.get? (G.μ x)=some (instObj C (G.δ x))) (h2:h.get? (G.δ x)=some (dictOf es e)) (hr:R es) (ht:G.tag (G.δ x)=some (.dict x))
def Bx(x:Nat):Ř->Prop
 | .list avs=>Hh (λus=>L.sq h (G.μ x) .lst us) (AW L G h n avs)
 | .dict es=>Hh (L.dct h (G.μ x)) (AZ L G h n es)
 | .set ks=>L.set h (G.μ x) ks
 | .inst C attrs=>dE G h x C (AP L G h n attrs)
 | .tab b=>∃o,h.get? (G.μ x)=some o/\∃ps:Array Value,o = {cls:=.none,data:=.fields ps}/\(b=false->ps = #[])
end
noncomputable def Ř.two:Ř->Bool
 | .inst ..=>true
 | _=>false
def Hh.imp{β:Type}{P P' R R':β->Prop}(k :∀b,P b->P' b)(r :∀b,R b->R' b)(q:Hh P R):Hh P' R':=q.casesOn λb hp hr=>⟨b,k b hp,r b hr⟩
section
variable{L:Bt}{G G':ħ}{h h':aF2}{n n':Nat}{g:Nat->Option ű}
theorem AP.sub(k:CZ G h G' h')(hg :∀x w,g x=some w->x<n->A2 L G' h' n' w (.ref (G.μ x))){as as':List (Str×ű)}{es:List aP3}(e:AK g as=some as')(q:AP L G h n as es):AP L G' h' n' as' es:=
 aB4 (motive:=λas=>∀as' vs,AK g as=some as'->AP L G h n as vs->AP L G' h' n' as' vs) (λ_ _ e=>aA3 e▸id)
  (λa r ih as' vs e q=>FM (f:=λa'=>(a.1,a')) e λa' r' e1 e2=>q.imp λ_ q=>q.imp λ_ q=>q.imp λv q=>q.imp λu q=>⟨q.1,A2.sub k hg a.2 a' v e1 q.2.1,ih r' u e2 q.2.2⟩) as as' es e q
theorem Bx.sub(k:CZ G h G' h')(hg :∀x w,g x=some w->x<n->A2 L G' h' n' w (.ref (G.μ x))){x y:Nat}(e1:G'.μ y=G.μ x)(e2:G'.δ y=G.δ x)
  (h1 :∀o,h.get? (G.μ x)=some o->h'.get? (G.μ x)=some o) (h2:G.tag (G.δ x)=some (.dict x)->(∀o,h.get? (G.δ x)=some o->h'.get? (G.δ x)=some o)/\G'.tag (G.δ x)=some (.dict y)) :
  ∀(o o':Ř),o.sub g=some o'->Bx L G h n x o->Bx L G' h' n' y o':=by
 intro o o' e q
 cases o with
 | list vs=>exact Cw e λvs' e=>Hh.imp (λb p=>e1.symm▸(Id .lst b).keep h1 p) (λb r=>AW.sub k hg e r) q
 | dict vs=>exact Cw e λvs' e=>Hh.imp (λb p=>e1.symm▸(FO b).keep h1 p) (λb r=>AZ.sub k hg e r) q
 | set ks=>exact aA3 e▸(e1.symm▸(HF ks).keep h1 q:L.set h' (G'.μ y) ks)
 | tab b=>exact aA3 e▸(e1.symm▸q.imp λo q=>⟨h1 o q.1,q.2⟩ :∃o,h'.get? (G'.μ y)=some o/\∃ps:Array Value,o = {cls:=.none,data:=.fields ps}/\(b=false->ps = #[]))
 | inst C at_=>exact Cw e λvs' e=>q.casesOn λes z q1 õ q3 ą=>⟨es,z,by rwa[e1,e2];exact h1 _ q1,e2.symm▸(h2 ą).1 _ õ,AP.sub k hg e q3,e2.symm▸(h2 ą).2⟩
def Bx.tagd{y:Nat}{o:Ř}(q:Bx L G h n y o)(ho:o.two=true):G.tag (G.δ y)=some (.dict y):=by
 cases o with
 | inst C at_=>exact q.casesOn λ_ _ _ _ _ t=>t
 | _=>cases ho
end
def Ch{α β:Type}{o:Option β}{l:Option (List α)}{f:β->α}{a:β}{r:List α}(h1:o=some a)(h2:l=some r):(o.bind λa=>l.map (f a :: ·))=some (f a::r):=by rwa[h1,h2];rfl
def sub_id(av:ű):av.sub (λx=>some (.ref x))=some av:=
 ű.rec (motive_1:=λav=>av.sub (λx=>some (.ref x))=some av) (motive_2:=λas=>AD (λx=>some (.ref x)) as=some as)
  (motive_3:=λas=>AG (λx=>some (.ref x)) as=some as) (motive_4:=λp=>EM (λx=>some (.ref x)) p=some p.2)
  rfl (λ_=>rfl) (λ_=>rfl) (λk _=>bQ5 (aE0 (ű.seq k))) (λ_=>rfl) (λ_=>rfl) (λ_=>rfl)
  (λf _=>bQ5 (aE0 (ű.bm f))) (λ_=>bQ5 (aE0 ű.dct)) (λ_=>rfl) rfl rfl (λa r i1 i2=>Ch i1 i2) rfl (λa r i1 i2=>Ch (f:=λb=>(a.1,b)) i1 i2) (λ_ _ ih=>ih) av
def D1(as:List ű):AD (λx=>some (.ref x)) as=some as:=aB4 rfl (λa r ih=>Ch (sub_id a) ih) as
def D8(as:List (AC×ű)):AG (λx=>some (.ref x)) as=some as:=aB4 rfl (λa r ih=>by obtain⟨key,a⟩:=a;exact Ch (f:=λb=>(key,b)) (sub_id a) ih) as
def Fq(as:List (Str×ű)):AK (λx=>some (.ref x)) as=some as:=aB4 rfl (λa r ih=>Ch (f:=λb=>(a.1,b)) (sub_id a.2) ih) as
def Ř.sub_id :∀o:Ř,o.sub (λx=>some (.ref x))=some o:=λo=>by
 cases o with
 | list vs=>exact bQ5 (aE0 Ř.list) (D1 vs)
 | dict vs=>exact bQ5 (aE0 Ř.dict) (D8 vs)
 | inst C vs=>exact bQ5 (aE0 (Ř.inst C)) (Fq vs)
 | _=>rfl
section
variable{α β:Type} [BEq α] [LawfulBEq α]
def Ah(l:List (α×β))(x:α)(v:β):List (α×β):=aB4 [(x,v)] (λp r ih=>bif p.1==x then(p.1,v)::r else p::ih) l
def AQ(y:α)(p:α×β)(r:List (α×β)):(p::r).lookup y=bif y==p.1 then some p.2 else r.lookup y:=by
 show(match y==p.1 with | true=>_ | false=>_)=_
 cases y==p.1<;>rfl
def Dr(x y:α)(v:β)(l:List (α×β)):(Ah l x v).lookup y=bif y==x then some v else l.lookup y:=by
 refine aB4 (AQ y (x,v) []) (λp r ih=>?_) l
 show(bif p.1==x then(p.1,v)::r else p::Ah r x v).lookup y=_
 rw[AQ]
 cases hp:p.1==x with
 | true=>
  rwa[(aD3 hp).symm]
  refine(AQ y (p.1,v) r).trans ?_
  cases y==p.1<;>rfl
 | false=>
  refine(AQ y p _).trans ?_
  rwa[ih]
  cases hy:y==p.1 with
  | true=>rwa[aD3 hy,hp];rfl
  | false=>rfl
def Br{l:List (α×β)}{x y:α}{v w:β}{P:Prop}(h:(Ah l x v).lookup y=some w)(a:y=x->v=w->P)(b:y≠x->l.lookup y=some w->P):P:=by
 rw[Dr]at h
 cases hy:y==x with
 | true=>rw[hy]at h;exact a (aD3 hy) (aA3 h)
 | false=>rw[hy]at h;exact b (ne_of_beq_false hy) h
end
def St.put(σ:St)(x:Str)(v:ű):St:=⟨Ah σ.ρ x v,σ.H,σ.n,σ.anc⟩
def St.set(σ:St)(x:Nat)(o:Ř):St:=⟨σ.ρ,Ah σ.H x o,σ.n,σ.anc⟩
def St.new(σ:St)(o:Ř):St:=⟨σ.ρ,Ah σ.H σ.n o,σ.n+1,σ.anc⟩
structure ù(G:ħ)(h:aF2)(G':ħ)(h':aF2):Prop where
 keep :∀a o,h.get? a=some o->¬ G.mt a->h'.get? a=some o
 own :∀a,G'.own a->G.own a\/h.objs.size<=a
 mt :∀a,G'.mt a->G.mt a\/h.objs.size<=a
 size:h.objs.size<=h'.objs.size
 lock :∀a,G.tag a=some .lock->G'.tag a=some .lock
def Cs{h:aF2}{a:aC2}{o:Obj}{P:Prop}(e:h.get? a=some o)(w:h.objs.size<=a):P:=bQ8 (aK2 e) (aR0.mpr w)
def ù.off{G G':ħ}{h h':aF2}(k:ù G h G' h'){a:aC2}{o:Obj}(e:h.get? a=some o)(q:¬ G.own a):¬ G'.own a:=λz=>(k.own a z).elim q (Cs e)
def ù.offm{G G':ħ}{h h':aF2}(k:ù G h G' h'){a:aC2}{o:Obj}(e:h.get? a=some o)(q:¬ G.mt a):¬ G'.mt a:=λz=>(k.mt a z).elim q (Cs e)
def ù.still{G G':ħ}{h h':aF2}(k:ù G h G' h'):CZ G h G' h':=λa o e q=>⟨k.keep a o e λz=>q (ħ.mt_own z),k.off e q⟩
def ù.refl(G:ħ)(h:aF2):ù G h G h:=⟨λ_ _ e _=>e,λ_=>.inl,λ_=>.inl,aA6 _,λ_=>id⟩
def ù.trans{G1 G2 G3:ħ}{h1 h2 h3:aF2}(a:ù G1 h1 G2 h2)(b:ù G2 h2 G3 h3):ù G1 h1 G3 h3:=
 ⟨λx o e q=>b.keep x o (a.keep x o e q) (a.offm e q),λx e=>(b.own x e).elim (a.own x) λz=>.inr (aA2 a.size z),
  λx e=>(b.mt x e).elim (a.mt x) λz=>.inr (aA2 a.size z),aA2 a.size b.size,λx e=>b.lock x (a.lock x e)⟩
def ê(n:Nat)(G G':ħ):Prop:=∀x,x<n->G'.μ x=G.μ x/\G'.δ x=G.δ x
structure š where
 L:Bt
 A:aH1
 env:Env
 hs:aF2
 h₀:aF2
 aG:ħ
 an:Nat
 gens:Array bM2
 os:aU1
noncomputable abbrev š.en(X:š)(e:Env):š:={X with env:=e}
structure Ĳ where
 G:ħ
 σ:St
 s:aA5
noncomputable def Ĳ.hp(c:Ĳ)(σ:St)(h:aF2)(t:Nat):Ĳ:=⟨c.G,σ,{c.s with heap:=h,toks:=t}⟩
def Š(X:š)(c:Ĳ)(a:ű)(v:Value):Prop:=A2 X.L c.G c.s.heap c.σ.n a v
def Ě(X:š)(c:Ĳ)(a:List ű)(v:List Value):Prop:=AW X.L c.G c.s.heap c.σ.n a v
def VD(X:š)(c:Ĳ)(a:List (AC×ű))(v:List (AC×Value)):Prop:=AZ X.L c.G c.s.heap c.σ.n a v
inductive Pb(X:š)(c:Ĳ):Prop
 | mk (m:Str->Option Value) (hm:c.s.heap.Ns X.env.locals m) (r :∀x av,c.σ.ρ.lookup x=some av->X.env.kindOf x=some .local->∃v,m x=some v/\Š X c av v)
inductive OR(X:š)(c:Ĳ)(x:Str)(a:aC2):Prop
 | mk (v:Option Value) (hv:c.s.heap.IsCell a v) (r :∀av,c.σ.ρ.lookup x=some av->X.env.kindOf x≠some .local->∃u,v=some u/\Š X c av u)
structure F9(X:š)(c:Ĳ)(x:Nat)(o:Ř):Prop where
 lt:x<c.σ.n
 tag:c.G.tag (c.G.μ x)=some (.obj x)
 rel:Bx X.L c.G c.s.heap c.σ.n x o
structure Ī(X:š)(c:Ĳ):Prop where
 base :∀b o,X.h₀.get? b=some o->c.s.heap.get? b=some o
 keep :∀b o,X.hs.get? b=some o->¬ X.aG.mt b->c.s.heap.get? b=some o
 size:X.hs.objs.size<=c.s.heap.objs.size
 mutHs :∀a,c.G.mt a->X.aG.mt a\/X.hs.objs.size<=a
 ownB :∀a,c.G.own a->X.h₀.get? a=none
 ownLt :∀a,c.G.own a->a<c.s.heap.objs.size
 gens:c.s.gens=X.gens
 os:c.s.os=X.os
 loc:Pb X c
 cel :∀x a,X.env.cells.lookup x=some a->OR X c x a
 celAll :∀x,X.env.kindOf x=some .cell\/X.env.kindOf x=some .free->X.env.cells.lookup x=none->False
 tloc:c.G.tag X.env.locals=some .loc
 tcel :∀x a,X.env.cells.lookup x=some a->c.G.tag a=some (.cell x)
 obj :∀x o,c.σ.H.lookup x=some o->F9 X c x o
 anc:X.an<=c.σ.anc/\c.σ.anc<=c.σ.n/\∀i,i<X.an->c.G.μ i=X.aG.μ i/\c.G.δ i=X.aG.δ i
 bsz:X.h₀.objs.size<=c.s.heap.objs.size
structure Dl(c c':Ĳ):Prop where
 still:CZ c.G c.s.heap c'.G c'.s.heap
 nm:ê c.σ.n c.G c'.G
 n:c.σ.n<=c'.σ.n
structure C8(X:š)(c c':Ĳ):Prop where
 kp:ù c.G c.s.heap c'.G c'.s.heap
 pre:Dl c c'
 R:Ī X c'
theorem Dl.trans{a b c:Ĳ}(x:Dl a b)(y:Dl b c):Dl a c:=
 ⟨λa o e q=>(x.still a o e q).elim λe q=>y.still a o e q,λz hz=>⟨(y.nm z (aB2 hz x.n)).1.trans (x.nm z hz).1,(y.nm z (aB2 hz x.n)).2.trans (x.nm z hz).2⟩,aA2 x.n y.n⟩
theorem C8.trans{X:š}{a b c:Ĳ}(x:C8 X a b)(y:C8 X b c):C8 X a c:=⟨x.kp.trans y.kp,x.pre.trans y.pre,y.R⟩
theorem C8.refl{X:š}{c:Ĳ}(R:Ī X c):C8 X c c:=⟨.refl _ _,⟨(ù.refl _ _).still,λ_ _=>⟨rfl,rfl⟩,aA6 _⟩,R⟩
section
variable{X:š}{c c':Ĳ}(p:Dl c c')
include p
theorem Dl.hg(L:Bt) :∀x w,(λx=>some (ű.ref x)) x=some w->x<c.σ.n->A2 L c'.G c'.s.heap c'.σ.n w (.ref (c.G.μ x)):=λx w e hx=>by
 cases e
 exact⟨bQ5 _ (p.nm x hx).1.symm,aB2 hx p.n⟩
theorem Dl.v{a:ű}{v:Value}(r:Š X c a v):Š X c' a v:=A2.sub p.still (p.hg _) a a v (sub_id a) r
theorem Dl.va{a:List ű}{v:List Value}(r:Ě X c a v):Ě X c' a v:=AW.sub p.still (p.hg _) (D1 a) r
theorem Dl.vd{a:List (AC×ű)}{v:List (AC×Value)}(r:VD X c a v):VD X c' a v:=AZ.sub p.still (p.hg _) (D8 a) r
theorem Dl.loc(e:c'.σ.ρ=c.σ.ρ)(h :∀o,c.s.heap.get? X.env.locals=some o->c'.s.heap.get? X.env.locals=some o)(l:Pb X c):Pb X c':=
 l.casesOn λm hm r=>⟨m,hm.at' h,λx av e1 e2=>(r x av (e▸e1) e2).imp λv q=>⟨q.1,p.v q.2⟩⟩
theorem Dl.cel{x:Str}{a:aC2}(e:c'.σ.ρ=c.σ.ρ)(h :∀o,c.s.heap.get? a=some o->c'.s.heap.get? a=some o)(l:OR X c x a):OR X c' x a:=
 l.casesOn λv hv r=>⟨v,hv.imp λo q=>⟨h o q.1,q.2⟩,λav e1 e2=>(r av (e▸e1) e2).imp λu q=>⟨q.1,p.v q.2⟩⟩
theorem Dl.obj{x:Nat}{o:Ř}(t1:c'.G.tag (c.G.μ x)=some (.obj x))(h1 :∀o,c.s.heap.get? (c.G.μ x)=some o->c'.s.heap.get? (c.G.μ x)=some o)
  (h2:c.G.tag (c.G.δ x)=some (.dict x)->(∀o,c.s.heap.get? (c.G.δ x)=some o->c'.s.heap.get? (c.G.δ x)=some o)/\c'.G.tag (c.G.δ x)=some (.dict x)) (q:F9 X c x o):F9 X c' x o:=
 ⟨aB2 q.lt p.n,(p.nm x q.lt).1.symm▸t1,Bx.sub p.still (p.hg _) (p.nm x q.lt).1 (p.nm x q.lt).2 h1 h2 o o (Ř.sub_id o) q.rel⟩
end
def Ī.go{X:š}{c c':Ĳ}(R:Ī X c)(k:ù c.G c.s.heap c'.G c'.s.heap)(p:Dl c c')(hl :∀a,c'.G.own a->a<c'.s.heap.objs.size)(hg:c'.s.gens=c.s.gens)(ho:c'.s.os=c.s.os)(ha:c'.σ.anc=c.σ.anc)
  (tl :∀a q,c.G.tag a=some q->c'.G.tag a=some q) (loc:Pb X c') (cel :∀x a,X.env.cells.lookup x=some a->OR X c' x a) (obj :∀x o,c'.σ.H.lookup x=some o->F9 X c' x o):C8 X c c' where
 kp:=k
 pre:=p
 R:={
  base:=λb o e=>k.keep b o (R.base b o e) λz=>nomatch e.symm.trans (R.ownB b (ħ.mt_own z))
  keep:=λb o e q=>k.keep b o (R.keep b o e q) λz=>(R.mutHs b z).elim q (Cs e)
  size:=aA2 R.size k.size
  mutHs:=λa z=>(k.mt a z).elim (R.mutHs a) λw=>.inr (aA2 R.size w)
  ownB:=λa z=>(k.own a z).elim (R.ownB a) λw=>Option.eq_none_iff_forall_ne_some.mpr λo e=>Cs (R.base a o e) w
  ownLt:=hl
  gens:=hg.trans R.gens
  os:=ho.trans R.os
  loc:=loc
  cel:=cel
  celAll:=R.celAll
  tloc:=tl _ _ R.tloc
  tcel:=λx a e=>tl _ _ (R.tcel x a e)
  obj:=obj
  anc:=⟨ha.symm▸R.anc.1,ha.symm▸aA2 R.anc.2.1 p.n,λi e=>
   have hi:i<c.σ.n:=aB2 e (aA2 R.anc.1 R.anc.2.1)
   ⟨(p.nm i hi).1.trans (R.anc.2.2 i e).1,(p.nm i hi).2.trans (R.anc.2.2 i e).2⟩⟩
  bsz:=aA2 R.bsz k.size}
def Dg{G:ħ}{a:aC2}{p:AR}(h:G.tag a=some p)(hp:p≠.lock):G.mt a:=⟨p,h,hp⟩
def EG{G:ħ}{a b:aC2}{p q:AR}(ha:G.tag a=some p)(hb:G.tag b=some q)(hn:p≠q):a≠b:=λe=>hn (aA3 ((e▸ha).symm.trans hb))
def Kw(p:AR):Prop:=p = .loc\/∃y,p = .cell y
def Ei{x:Nat}:¬ Kw (.obj x):=λz=>z.elim (λz=>nomatch z) λz=>z.elim λ_ z=>nomatch z
def Dz{x:Nat}:¬ Kw (.dict x):=λz=>z.elim (λz=>nomatch z) λz=>z.elim λ_ z=>nomatch z
section
variable{X:š}{c c':Ĳ}
def Ī.gone(R:Ī X c):¬ c.G.own c.s.heap.objs.size:=λz=>aL3 _ (R.ownLt _ z)
def Ī.more(R:Ī X c)(hk :∀a o,c.s.heap.get? a=some o->c'.s.heap.get? a=some o)(hs:c.s.heap.objs.size<=c'.s.heap.objs.size)(ht :∀a,a<c.s.heap.objs.size->c'.G.tag a=c.G.tag a)
  (hl :∀a,c'.G.own a->a<c'.s.heap.objs.size) (m:ê c.σ.n c.G c'.G) (hn:c.σ.n<=c'.σ.n) (hg:c'.s.gens=c.s.gens) (ho:c'.s.os=c.s.os) (er:c'.σ.ρ=c.σ.ρ) (ha:c'.σ.anc=c.σ.anc)
  (obj :∀x o,c'.σ.H.lookup x=some o->c.σ.H.lookup x=some o\/(Dl c c'->F9 X c' x o)):C8 X c c':=by
 have told :∀a p,c.G.tag a=some p->c'.G.tag a=some p:=λa p e=>(ht a (R.ownLt a (A0 e))).trans e
 have cs :∀{a} {P:Prop},(a<c.s.heap.objs.size->P)->P\/c.s.heap.objs.size<=a:=λ{a P} f=>(aT1 a c.s.heap.objs.size).imp f id
 have k:ù c.G c.s.heap c'.G c'.s.heap:=⟨λa o e _=>hk a o e,λa e=>cs λl z=>e ((ht a l).trans z),λa e=>cs λl=>e.imp λp q=>⟨(ht a l).symm.trans q.1,q.2⟩,hs,λa=>told a _⟩
 have p:Dl c c':=⟨k.still,m,hn⟩
 exact R.go k p hl hg ho ha told (p.loc er (hk _) R.loc) (λx a e=>p.cel er (hk a) (R.cel x a e)) λx o e=>(obj x o e).elim (λe=>p.obj (told _ _ (R.obj x o e).tag) (hk _) (λz=>⟨hk _,told _ _ z⟩) (R.obj x o e)) λf=>f p
def Ī.grow(R:Ī X c){h':aF2}(t:Nat)(hk :∀a o,c.s.heap.get? a=some o->h'.get? a=some o)(hs:c.s.heap.objs.size<=h'.objs.size):C8 X c (c.hp c.σ h' t):=
 R.more hk hs (λ_ _=>rfl) (λa e=>aB2 (R.ownLt a e) hs) (λ_ _=>⟨rfl,rfl⟩) (aA6 _) rfl rfl rfl rfl λ_ _=>.inl
def Ī.toks(R:Ī X c)(t:Nat):C8 X c (c.hp c.σ c.s.heap t):=R.grow t (λ_ _ e=>e) (aA6 _)
def Ce{h:aF2}(o:Obj):h.objs.size<=(h.push o).objs.size:=aE7 h o▸aI4 _
theorem Ī.push(R:Ī X c)(o:Obj)(t:Nat):C8 X c (c.hp c.σ (c.s.heap.push o) t):=R.grow t (λ_ _ e=>aB1 o e) (Ce o)
def ù.at{G:ħ}{h h':aF2}{a:aC2}(ha:G.mt a)(hb:aG3 a h h'):ù G h G h':=⟨λb o e q=>(hb.2 b λz=>q (z▸ha)).trans e,λ_=>.inl,λ_=>.inl,aB7 hb.1.symm,λ_=>id⟩
theorem Dl.at{a:aC2}(ha:c.G.mt a){h':aF2}{t:Nat}{σ':St}(hb:aG3 a c.s.heap h')(e1:σ'.n=c.σ.n):Dl c (c.hp σ' h' t):=⟨(ù.at ha hb).still,λ_ _=>⟨rfl,rfl⟩,aB7 e1.symm⟩
def Ī.chg(R:Ī X c){a:aC2}{pl:AR}(hp:c.G.tag a=some pl)(hl:pl≠.lock){h':aF2}{t:Nat}{σ':St}(hb:aG3 a c.s.heap h')(e1:σ'.n=c.σ.n)(e2:σ'.anc=c.σ.anc)
  (loc:Kw pl->Pb X (c.hp σ' h' t)/\∀x a,X.env.cells.lookup x=some a->OR X (c.hp σ' h' t) x a) (hr:¬ Kw pl->σ'.ρ=c.σ.ρ)
  (obj :∀x o,σ'.H.lookup x=some o->F9 X (c.hp σ' h' t) x o\/pl≠.obj x/\pl≠.dict x/\c.σ.H.lookup x=some o):C8 X c (c.hp σ' h' t):=by
 have p:Dl c (c.hp σ' h' t):=.at (Dg hp hl) hb e1
 have kk :∀{b q},c.G.tag b=some q->pl≠q->∀o,c.s.heap.get? b=some o->h'.get? b=some o:=λ{b q} hq hn o e=>(hb.2 b (EG hq hp hn.symm)).trans e
 have lc:Pb X (c.hp σ' h' t)/\∀x a,X.env.cells.lookup x=some a->OR X (c.hp σ' h' t) x a:=(aP7 (Kw pl)).elim loc λhc=>⟨p.loc (hr hc) (kk R.tloc λz=>hc (.inl z)) R.loc,λx a e=>p.cel (hr hc) (kk (R.tcel x a e) λz=>hc (.inr ⟨x,z⟩)) (R.cel x a e)⟩
 exact R.go (.at (Dg hp hl) hb) p (λb e=>hb.1.symm▸R.ownLt b e) rfl rfl e2 (λ_ _ e=>e) lc.1 lc.2 λx o e=>(obj x o e).elim id λq=>p.obj (R.obj x o q.2.2).tag (kk (R.obj x o q.2.2).tag q.1) (λz=>⟨kk z q.2.1,z⟩) (R.obj x o q.2.2)
def Ī.storeLocal(R:Ī X c){x:Str}{av:ű}{v:Value}(hx:X.env.kindOf x=some .local)(hv:Š X c av v){m:Str->Option Value}
  (hl :∀x av,c.σ.ρ.lookup x=some av->X.env.kindOf x=some .local->∃v,m x=some v/\Š X c av v)
  {h':aF2} {t:Nat} (hn:h'.Ns X.env.locals (λy=>if y=x then some v else m y)) (hb:aG3 X.env.locals c.s.heap h'):C8 X c (c.hp (c.σ.put x av) h' t):=by
 have p:Dl c (c.hp (c.σ.put x av) h' t):=.at (Dg R.tloc λz=>nomatch z) hb rfl
 refine R.chg R.tloc (λz=>nomatch z) hb rfl rfl (λ_=>⟨⟨_,hn,λy w e1 e2=>?_⟩,λy a e=>?_⟩) (λz=>bQ8 (.inl rfl) z) λy o e=>.inr ⟨λz=>(nomatch z),λz=>(nomatch z),e⟩
 ·exact Br e1 (λhy hw=>⟨v,bQ6 hy,hw▸p.v hv⟩) λhy e1=>(hl y w e1 e2).imp λu q=>⟨(bQ7 hy).trans q.1,p.v q.2⟩
 ·exact(R.cel y a e).casesOn λu hu r=>⟨u,hu.sameBut hb (EG (R.tcel y a e) R.tloc λz=>nomatch z),λw e1 e2=>Br e1 (λhy _=>bQ8 (hy▸hx) e2) λ_ e1=>(r w e1 e2).imp λu q=>⟨q.1,p.v q.2⟩⟩
def Ī.storeCell(R:Ī X c){x:Str}{a:aC2}{av:ű}{v:Value}(hx:X.env.kindOf x≠some .local)(hc:X.env.cells.lookup x=some a)(hv:Š X c av v)
  {h':aF2} {t:Nat} (hn:h'.IsCell a (some v)) (hb:aG3 a c.s.heap h'):C8 X c (c.hp (c.σ.put x av) h' t):=by
 have p:Dl c (c.hp (c.σ.put x av) h' t):=.at (Dg (R.tcel x a hc) λz=>nomatch z) hb rfl
 refine R.chg (R.tcel x a hc) (λz=>nomatch z) hb rfl rfl (λ_=>⟨?_,λy b e=>?_⟩) (λz=>bQ8 (.inr ⟨x,rfl⟩) z) λy o e=>.inr ⟨λz=>(nomatch z),λz=>(nomatch z),e⟩
 ·exact R.loc.casesOn λm hm r=>⟨m,hm.sameBut hb (EG R.tloc (R.tcel x a hc) λz=>nomatch z),λy w e1 e2=>Br e1 (λhy _=>bQ8 (hy▸e2) hx) λ_ e1=>(r y w e1 e2).imp λu q=>⟨q.1,p.v q.2⟩⟩
 ·refine(aP7 (y=x)).elim (λhy=>⟨some v,aA3 ((hy▸e).symm.trans hc)▸hn,λw e1 _=>Br e1 (λ_ hw=>⟨v,rfl,hw▸p.v hv⟩) λz _=>bQ8 hy z⟩) λhy=>?_
  exact(R.cel y b e).casesOn λu hu r=>⟨u,hu.sameBut hb (EG (R.tcel y b e) (R.tcel x a hc) λz=>hy (by cases z;rfl)),λw e1 e2=>Br e1 (λz _=>bQ8 z hy) λ_ e1=>(r w e1 e2).imp λu q=>⟨q.1,p.v q.2⟩⟩
def Ī.setAt(R:Ī X c){x:Nat}{o0 o:Ř}(hx:c.σ.H.lookup x=some o0){a:aC2}{pl:AR}(hp:c.G.tag a=some pl)(h2:pl = .obj x\/pl = .dict x){h':aF2}{t:Nat}(hb:aG3 a c.s.heap h')
  (hr:Dl c (c.hp (c.σ.set x o) h' t)->Bx X.L c.G h' c.σ.n x o):C8 X c (c.hp (c.σ.set x o) h' t):=by
 have hl:pl≠.lock:=λz=>h2.elim (λw=>nomatch z.symm.trans w) λw=>nomatch z.symm.trans w
 have no:¬ Kw pl:=h2.elim (λw=>w▸Ei) λw=>w▸Dz
 refine R.chg hp hl hb rfl rfl (λz=>bQ8 z no) (λ_=>rfl) λy o' e=>Br e (λhy hw=>.inl ?_) λhy e=>.inr ⟨λz=>?_,λz=>?_,e⟩
 ·subst hy;subst hw
  exact⟨(R.obj y o0 hx).lt,(R.obj y o0 hx).tag,hr (.at (Dg hp hl) hb rfl)⟩
 ·exact h2.elim (λw=>hy (by cases z.symm.trans w;rfl)) λw=>nomatch z.symm.trans w
 ·exact h2.elim (λw=>nomatch z.symm.trans w) λw=>hy (by cases z.symm.trans w;rfl)
def Ī.setObj(R:Ī X c){x:Nat}{o0 o:Ř}(hx:c.σ.H.lookup x=some o0){h':aF2}{t:Nat}(hb:aG3 (c.G.μ x) c.s.heap h')(hr:Dl c (c.hp (c.σ.set x o) h' t)->Bx X.L c.G h' c.σ.n x o):C8 X c (c.hp (c.σ.set x o) h' t):=
 R.setAt hx (R.obj x o0 hx).tag (.inl rfl) hb hr
def Ī.setInst(R:Ī X c){x:Nat}{o0 o:Ř}(hx:c.σ.H.lookup x=some o0)(h2:o0.two=true){h':aF2}{t:Nat}(hb:aG3 (c.G.δ x) c.s.heap h')(hr:Dl c (c.hp (c.σ.set x o) h' t)->Bx X.L c.G h' c.σ.n x o):C8 X c (c.hp (c.σ.set x o) h' t):=
 R.setAt hx ((R.obj x o0 hx).rel.tagd h2) (.inr rfl) hb hr
def Ī.chgs(R:Ī X c){S:AR->Prop}(hS :∀p,S p->∃x,p = .obj x\/p = .dict x)(k :∀b o,c.s.heap.get? b=some o->(∀p,c.G.tag b=some p->¬ S p)->c'.s.heap.get? b=some o)(hs:c.s.heap.objs.size<=c'.s.heap.objs.size)(eG:c'.G=c.G)(hg:c'.s.gens=c.s.gens)(ho:c'.s.os=c.s.os)
  (er:c'.σ.ρ=c.σ.ρ) (en:c'.σ.n=c.σ.n) (ea:c'.σ.anc=c.σ.anc) (obj :∀x o,c'.σ.H.lookup x=some o->(Dl c c'->F9 X c' x o)\/¬ S (.obj x)/\¬ S (.dict x)/\c.σ.H.lookup x=some o):C8 X c c':=by
 have tg :∀{a o},c.G.tag a=o->c'.G.tag a=o:=λe=>eG.symm▸e
 have kn :∀{b q},c.G.tag b=some q->¬ S q->∀o,c.s.heap.get? b=some o->c'.s.heap.get? b=some o:=λ{b q} hq hn o e=>k b o e λp hp=>aA3 (hq.symm.trans hp)▸hn
 have kp:ù c.G c.s.heap c'.G c'.s.heap:=⟨λa o e q=>k a o e λp hp z=>q ⟨p,hp,λw=>(hS p z).elim λx z=>z.elim (λz=>nomatch w.symm.trans z) λz=>nomatch w.symm.trans z⟩,λa e=>.inl (eG▸e),λa e=>.inl (eG▸e),hs,λa e=>tg e⟩
 have p:Dl c c':=⟨kp.still,λx _=>eG.symm▸⟨rfl,rfl⟩,aB7 en.symm⟩
 have nl :∀{q},(∀x,q≠.obj x/\q≠.dict x)->¬ S q:=λh z=>(hS _ z).elim λx z=>z.elim (h x).1 (h x).2
 exact R.go kp p (λb e=>aB2 (R.ownLt b (eG▸e)) hs) hg ho ea (λa q=>tg) (p.loc er (kn R.tloc (nl λx=>⟨λz=>(nomatch z),λz=>nomatch z⟩)) R.loc) (λx a e=>p.cel er (kn (R.tcel x a e) (nl λx=>⟨λz=>(nomatch z),λz=>nomatch z⟩)) (R.cel x a e))
  λx o e=>(obj x o e).elim (λf=>f p) λq=>p.obj (tg (R.obj x o q.2.2).tag) (kn (R.obj x o q.2.2).tag q.1) (λz=>⟨kn z q.2.1,tg z⟩) (R.obj x o q.2.2)
end
noncomputable def ħ.put(G:ħ)(a:aC2)(p:AR):ħ:=⟨λb=>bif b==a then some p else G.tag b,G.μ,G.δ⟩
def ħ.put_at{G:ħ}{a:aC2}{p:AR}:(G.put a p).tag a=some p:=bQ5 (cond · (some p) (G.tag a)) (bR2 a)
def ħ.put_ne{G:ħ}{a b:aC2}{p:AR}(h:b≠a):(G.put a p).tag b=G.tag b:=bQ5 (cond · (some p) (G.tag b)) (beq_eq_false_iff_ne.mpr h)
def ħ.put_own{G:ħ}{a b:aC2}{p:AR}(h:(G.put a p).own b):b=a\/G.own b:=(aP7 (b=a)).imp id λn z=>h ((ħ.put_ne n).trans z)
noncomputable def ħ.name(G:ħ)(n:Nat)(a d:aC2):ħ:=⟨G.tag,λx=>bif x==n then a else G.μ x,λx=>bif x==n then d else G.δ x⟩
def ħ.name_mu{G:ħ}{n:Nat}{a d:aC2}:(G.name n a d).μ n=a:=bQ5 (cond · a (G.μ n)) (bR2 n)
def ħ.name_de{G:ħ}{n:Nat}{a d:aC2}:(G.name n a d).δ n=d:=bQ5 (cond · d (G.δ n)) (bR2 n)
def ħ.name_nm{G:ħ}{n:Nat}{a d:aC2}:ê n G (G.name n a d):=λx hx=>⟨bQ5 (cond · a (G.μ x)) (beq_eq_false_iff_ne.mpr (aE4 hx)),bQ5 (cond · d (G.δ x)) (beq_eq_false_iff_ne.mpr (aE4 hx))⟩
section
variable{X:š}{c:Ĳ}
def I5{G:ħ}{h:aF2}{n:Nat}(hl :∀a,G.own a->a<h.objs.size)(o:Obj){p:AR} :∀a,((G.put h.objs.size p).own a)->a<(h.push o).objs.size:=λa e=>by
 rw[aE7]
 exact(ħ.put_own e).elim (λz=>z▸aC1 _) λz=>aI1 (hl a z)
def Ĳ.add(c:Ĳ)(ao:Ř)(o:Obj)(t:Nat):Ĳ:=⟨(c.G.put c.s.heap.objs.size (.obj c.σ.n)).name c.σ.n c.s.heap.objs.size 0,c.σ.new ao,{c.s with heap:=c.s.heap.push o,toks:=t}⟩
def Ī.alloc(R:Ī X c){o:Obj}{ao:Ř}{t:Nat}(hr:Dl c (c.add ao o t)->(c.add ao o t).G.μ c.σ.n=c.s.heap.objs.size->Bx X.L (c.add ao o t).G (c.s.heap.push o) (c.σ.n+1) c.σ.n ao):C8 X c (c.add ao o t):=
 R.more (λ_ _ e=>aB1 o e) (Ce o) (λa l=>ħ.put_ne (aE4 l)) (I5 (n:=0) R.ownLt o) (λx hx=>ħ.name_nm x hx) (aI4 _) rfl rfl rfl rfl
  λx o' e=>Br e (λhx hw=>.inr λp=>hx▸hw▸⟨aC1 _,(bQ5 _ ħ.name_mu).trans ħ.put_at,hr p ħ.name_mu⟩) λ_ e=>.inl e
def Ĳ.lck(c:Ĳ)(o:Obj)(t:Nat):Ĳ:=⟨c.G.put c.s.heap.objs.size .lock,c.σ,{c.s with heap:=c.s.heap.push o,toks:=t}⟩
theorem Ī.lck(R:Ī X c)(o:Obj)(t:Nat):C8 X c (c.lck o t):=
 R.more (λ_ _ e=>aB1 o e) (Ce o) (λa l=>ħ.put_ne (aE4 l)) (I5 (n:=0) R.ownLt o) (λx hx=>⟨rfl,rfl⟩) (aA6 _) rfl rfl rfl rfl λ_ _=>.inl
def Ī.lockAt(R:Ī X c){wr:List aC2}(hI :∀b∈wr,c.G.tag b=some .lock/\X.hs.objs.size<=b){h':aF2}{t:Nat}(hk :∀a o,a∉wr->c.s.heap.get? a=some o->h'.get? a=some o)(hs:c.s.heap.objs.size<=h'.objs.size):Dl c (c.hp c.σ h' t)/\Ī X (c.hp c.σ h' t):=by
 have ow :∀{a},a∈wr->c.G.own a:=λz=>A0 (hI _ z).1
 have ne :∀{a p},c.G.tag a=some p->p≠.lock->∀o,c.s.heap.get? a=some o->h'.get? a=some o:=λ{a p} e hp o=>hk a o λz=>hp (aA3 (e.symm.trans (hI a z).1))
 have p:Dl c (c.hp c.σ h' t):=⟨λa o e q=>⟨hk a o (λz=>q (ow z)) e,q⟩,λ_ _=>⟨rfl,rfl⟩,aA6 _⟩
 exact⟨p,λb o e=>hk b o (λz=>nomatch e.symm.trans (R.ownB _ (ow z))) (R.base b o e),λb o e q=>hk b o (λz=>Cs e (hI b z).2) (R.keep b o e q),aA2 R.size hs,R.mutHs,R.ownB,λa e=>aB2 (R.ownLt a e) hs,R.gens,R.os,
  p.loc rfl (ne R.tloc λz=>nomatch z) R.loc,λx a e=>p.cel rfl (ne (R.tcel x a e) λz=>nomatch z) (R.cel x a e),R.celAll,R.tloc,R.tcel,λx o e=>p.obj (R.obj x o e).tag (ne (R.obj x o e).tag λz=>nomatch z) (λz=>⟨ne z λz=>(nomatch z),z⟩) (R.obj x o e),R.anc,aA2 R.bsz hs⟩
end
def ė{α:Type}(X:š)(t:Sem α)(Q:α->aA5->Prop)(s:aA5):Prop:=aC8 (aC6 X.L.prog X.L.w) X.A t Q (λ_ _=>False) s
inductive AX{α β:Type}(X:š)(rel:Ĳ->β->α->Prop)(c:Ĳ)(Q:β->St->Prop)(v:α)(s':aA5):Prop
 | mk (G':ħ) (σ':St) (b:β) (x:C8 X c ⟨G',σ',s'⟩) (r:rel ⟨G',σ',s'⟩ b v) (q:Q b σ')
def ý{α β:Type}(X:š)(rel:Ĳ->β->α->Prop)(t:Sem α)(σ:St)(Q:β->St->Prop):Prop:=∀G s,Ī X ⟨G,σ,s⟩->ė X t (AX X rel ⟨G,σ,s⟩ Q) s
def KW{α:Type}(_:Ĳ)(b a:α):Prop:=a=b
def JB{α β:Type}(_:Ĳ)(_:β)(_:α):Prop:=True
def Ō(X:š)(t:Sem Value)(σ:St)(Q:ű->St->Prop):Prop:=ý X (Š X) t σ Q
def TL(X:š)(t:Sem (List Value))(σ:St)(Q:List ű->St->Prop):Prop:=ý X (Ě X) t σ Q
def ã(X:š)(t:Sem Bool)(σ:St)(Q:Bool->St->Prop):Prop:=ý X KW t σ Q
def Đ(X:š)(c:Ĳ)(Q:ű->St->Prop)(t:Sem Value):Prop:=ė X t (AX X (Š X) c Q) c.s
def GB(X:š)(c:Ĳ)(Q:St->Prop)(t:Sem Unit):Prop:=ė X t (AX X (β:=Unit) JB c λ_=>Q) c.s
section
variable{X:š}{α β γ ε:Type}
def ė.mono{t:Sem α}{Q Q':α->aA5->Prop}{s:aA5}(h:ė X t Q s)(k :∀v s,Q v s->Q' v s):ė X t Q' s:=aP1 h k λ_ _ x=>x
def ė.any{t:Sem α}{Q Q':α->aA5->Prop}{E:Value->aA5->Prop}{s:aA5}(h:ė X t Q s)(k :∀v s,Q v s->Q' v s):aC8 (aC6 X.L.prog X.L.w) X.A t Q' E s:=aP1 h k λ_ _ x=>x.elim
def ė.bind{t:Sem α}{f:α->Sem γ}{Q:γ->aA5->Prop}{s:aA5}(h:ė X t (λv s=>ė X (f v) Q s) s):ė X (t >>= f) Q s:=aA1 h
def ė.hold{t:Sem α}{vs:List Value}{Q:α->aA5->Prop}{s:aA5}(h:ė X t Q s):ė X (aX6 vs t) Q s:=aJ1 h
theorem ė.pure{v:α}{Q:α->aA5->Prop}{s:aA5}(h:Q v s):ė X (Pure.pure v) Q s:=aA4 h
def AX.lift{rel:Ĳ->β->α->Prop}{c c':Ĳ}{Q:β->St->Prop}{v:α}{s':aA5}(x:C8 X c c')(p:AX X rel c' Q v s'):AX X rel c Q v s':=p.casesOn λG σ b y r q=>⟨G,σ,b,x.trans y,r,q⟩
def AX.here{rel:Ĳ->β->α->Prop}{c:Ĳ}{Q:β->St->Prop}{v:α}{b:β}(R:Ī X c)(r:rel c b v)(q:Q b c.σ):AX X rel c Q v c.s:=⟨c.G,c.σ,b,.refl R,r,q⟩
def AX.to{rel:Ĳ->β->α->Prop}{c c':Ĳ}{Q:β->St->Prop}{v:α}{b:β}(x:C8 X c c')(r:rel c' b v)(q:Q b c'.σ):AX X rel c Q v c'.s:=⟨c'.G,c'.σ,b,x,r,q⟩
def AX.up{rel:Ĳ->β->α->Prop}{c c':Ĳ}{Q:β->St->Prop}{t:Sem α}{s:aA5}(h:ė X t (AX X rel c' Q) s)(x:C8 X c c'):ė X t (AX X rel c Q) s:=h.mono λ_ _ p=>p.lift x
def ý.go{rel:Ĳ->β->α->Prop}{t:Sem α}{c:Ĳ}{P:β->St->Prop}{f:α->aA5->Prop}(h:ý X rel t c.σ P)(R:Ī X c)(hf :∀b c1 a,P b c1.σ->C8 X c c1->rel c1 b a->f a c1.s):ė X t f c.s:=
 (h c.G c.s R).mono λa s1 p=>p.casesOn λG σ b y r q=>hf b ⟨G,σ,s1⟩ a q y r
end
def Aa{α:Type}(o:Option α)(k:α->Prop):Prop:=aE5 False k o
def AB{α:Type}{o:Option α}{k:α->Prop}{P:Prop}(h:Aa o k)(f :∀a,o=some a->k a->P):P:=by
 cases o with
 | none=>exact h.elim
 | some a=>exact f a rfl h
def Dj(c:Bool)(P:Prop):Prop:=aK3 False P c
def A3{c:Bool}{P:Prop}(h:Dj c P):c=true/\P:=by
 cases c with
 | true=>exact⟨rfl,h⟩
 | false=>exact h.elim
def AH{a b:Bool}(h:(a&&b)=true):a=true/\b=true:=aI6.mp h
noncomputable def BC:ű->Option AC
 | .key k=>some k
 | _=>none
noncomputable def AC.toInt:AC->Option Int
 | .int i=>some i
 | .str _=>none
def Ar(a:ű):Option Int:=(BC a).bind AC.toInt
noncomputable def Ř.lst:Ř->Option (List ű)
 | .list vs=>some vs
 | _=>none
noncomputable def C9(σ:St):ű->Option (Nat×Ř)
 | .ref x=>(σ.H.lookup x).map (x,·)
 | _=>none
def objOf(σ:St)(a:ű):Option Ř:=(C9 σ a).map (·.2)
def Ak(σ:St)(a:ű):Option (List ű):=match a with
 | .seq .lst vs=>some vs
 | a=>(objOf σ a).bind Ř.lst
def AM(n:Nat):Prop:=n<=1000000
def AM.line{n m:Nat}(h:AM n)(e:m=n):m<=aY4:=e▸aA2 h (by decide)
def AA{α:Type}{a:α}{P:Prop}(e:none=some a):P:=Option.noConfusion rfl (heq_of_eq e)
def FR{P:ű->Prop}{a:ű}{k:AC}(e:BC a=some k)(f:P (.key k)):P a:=
 ű.casesOn (motive_1:=λa=>BC a=some k->P a) a AA (λ_=>AA) (λ_ e=>aA3 e▸f) (λ_ _=>AA) (λ_=>AA) (λ_=>AA) (λ_=>AA) (λ_ _=>AA) (λ_=>AA) (λ_=>AA) AA e
def R8{P:ű->Prop}{a:ű}{i:Int}(e:Ar a=some i)(f:P (.int i)):P a:=by
 obtain⟨k,e1,e2⟩:=bind_some e
 exact FR e1 (AC.casesOn (motive:=λk=>k.toInt=some i->P (.key k)) k (λ_ e=>aA3 e▸f) (λ_=>AA) e2)
def Pl{P:ű->Prop}{σ:St}{a:ű}{q:Nat×Ř}(e:C9 σ a=some q)(f:σ.H.lookup q.1=some q.2->P (.ref q.1)):P a:=
 ű.casesOn (motive_1:=λa=>C9 σ a=some q->P a) a AA (λ_=>AA) (λ_=>AA) (λ_ _=>AA) (λx e=>by
  obtain⟨o',e1,rfl⟩:=map_some e
  exact f e1) (λ_=>AA) (λ_=>AA) (λ_ _=>AA) (λ_=>AA) (λ_=>AA) AA e
def Ř.lst_eq{o:Ř}{vs:List ű}(e:o.lst=some vs):o = .list vs:=
 Ř.casesOn (motive:=λo=>o.lst=some vs->o = .list vs) o (λ_ e=>bQ5 _ (aA3 e)) (λ_=>AA) (λ_=>AA) (λ_ _=>AA) (λ_=>AA) e
section
variable{X:š}{c:Ĳ}
@[elab_as_elim] theorem AY{P:Value->Prop}{a:ű}{i:Int}{v:Value}(e:Ar a=some i)(r:Š X c a v)(f :∀t,P (.int i t)):P v:=by
 obtain⟨t,rfl⟩:=Al (R8 (P:=λa=>Š X c a v->A7 (.int i) v=true) e id r)
 exact f t
def BU{a:ű}{k:AC}{v:Value}(e:BC a=some k):Š X c a v->A7 k v=true:=FR (P:=λa=>Š X c a v->A7 k v=true) e id
def C6{a:ű}{q:Nat×Ř}{v:Value}(e:C9 c.σ a=some q):Š X c a v->v = .ref (c.G.μ q.1)/\c.σ.H.lookup q.1=some q.2:=Pl (P:=λa=>Š X c a v->v = .ref (c.G.μ q.1)/\c.σ.H.lookup q.1=some q.2) e λh r=>⟨r.1,h⟩
def H8{a:ű}{o:Ř}{v:Value}(e:objOf c.σ a=some o)(R:Ī X c)(r:Š X c a v) :∃x,v = .ref (c.G.μ x)/\F9 X c x o:=by
 obtain⟨q,e1,rfl⟩:=map_some e
 exact⟨q.1,(C6 e1 r).1,R.obj q.1 q.2 (C6 e1 r).2⟩
@[elab_as_elim] theorem Am{P:Value->Prop}{a:ű}{vs:List ű}{v:Value}(e:Ak c.σ a=some vs)(R:Ī X c)(r:Š X c a v)(f :∀l us k,c.s.heap.get? l=some (AS us k)->Ě X c vs us->P (.ref l)):P v:=by
 have ow :∀{a},Š X c a v->(objOf c.σ a).bind Ř.lst=some vs->P v:=λ{a} r e=>by
  obtain⟨o,e1,e2⟩:=bind_some e
  obtain⟨x,rfl,q⟩:=H8 e1 R r
  rw[Ř.lst_eq e2]at q
  exact q.rel.casesOn λus hp hr=>hp.elim λk hp=>f _ us k.1 hp hr
 exact ű.casesOn (motive_1:=λa=>Š X c a v->Ak c.σ a=some vs->P v) a ow (λ_=>ow) (λ_=>ow) (λk=>SK.casesOn (motive:=λk=>∀us,Š X c (.seq k us) v->Ak c.σ (.seq k us)=some vs->P v) k (λ_=>ow) (λus r e=>r.casesOn λl us hv hp ho hr=>hp.elim λk hp=>hv▸f l us k.1 hp (aA3 e▸hr)) λ_=>ow) (λ_=>ow) (λ_=>ow) (λ_=>ow) (λ_ _=>ow) (λ_=>ow) (λ_=>ow) ow r e
def AX.val{Q:ű->St->Prop}{av:ű}{v:Value}(t:Nat)(R:Ī X c)(r:Š X c av v)(q:Q av c.σ):AX X (Š X) c Q v {c.s with toks:=t}:=.to (R.toks t) ((R.toks t).pre.v r) q
theorem AX.int{Q:ű->St->Prop}{i:Int}{u:Tok}(t:Nat)(R:Ī X c)(q:Q (.int i) c.σ):AX X (Š X) c Q (.int i u) {c.s with toks:=t}:=.to (b:=ű.int i) (R.toks t) (bR2 i) q
def AX.newLst{Q:ű->St->Prop}{vs:List ű}{us:List Value}(t k:Nat)(R:Ī X c)(r:Ě X c vs us)(q:Q (.lst vs) c.σ):AX X (Š X) c Q (.ref c.s.heap.objs.size) {c.s with heap:=c.s.heap.push (AS us k),toks:=t}:=
 .to (b:=ű.lst vs) (R.push (AS us k) t) ⟨_,us,rfl,⟨(k,none),aC4 _ rfl⟩,R.gone,(R.push (AS us k) t).pre.va r⟩ q
def AX.newTup{Q:ű->St->Prop}{vs:List ű}{us:List Value}(t k:Nat)(R:Ī X c)(r:Ě X c vs us)(q:Q (.tup vs) c.σ):AX X (Š X) c Q (.ref c.s.heap.objs.size) {c.s with heap:=c.s.heap.push (Ab us k),toks:=t}:=
 .to (b:=ű.tup vs) (R.push (Ab us k) t) ⟨_,us,rfl,⟨(k,none),aC4 _ rfl⟩,R.gone,(R.push (Ab us k) t).pre.va r⟩ q
def AX.newList{Q:ű->St->Prop}{vs:List ű}{us:List Value}(t k:Nat)(R:Ī X c)(r:Ě X c vs us)(q:Q (.ref c.σ.n) (c.σ.new (.list vs))):AX X (Š X) c Q (.ref c.s.heap.objs.size) {c.s with heap:=c.s.heap.push (AS us k),toks:=t}:=
 .to (c':=c.add (.list vs) (AS us k) t) (b:=ű.ref c.σ.n) (R.alloc λp e=>⟨us,⟨(k,none),(bQ5 _ e).trans (aC4 _ rfl)⟩,p.va r⟩) ⟨bQ5 _ ħ.name_mu.symm,aC1 _⟩ q
end
section
variable{L:Bt}{G:ħ}{h:aF2}{n:Nat}
def AW.len{as:List ű}{vs:List Value}(q:AW L G h n as vs):vs.length=as.length:=
 aB4 (motive:=λas=>∀vs,AW L G h n as vs->vs.length=as.length) (λ_ q=>bQ5 _ q) (λa r ih vs q=>q.elim λv q=>q.elim λu q=>(bQ5 _ q.1).trans (bQ5 aS3 (ih u q.2.2))) as vs q
def AW.append{as bs:List ű}{vs us:List Value}(q:AW L G h n as vs)(r:AW L G h n bs us):AW L G h n (as++bs) (vs++us):=
 aB4 (motive:=λas=>∀vs,AW L G h n as vs->AW L G h n (as++bs) (vs++us)) (λvs q=>(show vs=[]from q).symm▸r) (λa l ih vs q=>q.elim λv q=>q.elim λu q=>⟨v,u++us,bQ5 (· ++ us) q.1,q.2.1,ih u q.2.2⟩) as vs q
def AW.get{as:List ű}{vs:List Value}{i:Nat}{a:ű}(q:AW L G h n as vs)(e:as[i]?=some a) :∃v,vs[i]?=some v/\A2 L G h n a v:=
 aB4 (motive:=λas=>∀vs (i:Nat),AW L G h n as vs->as[i]?=some a->∃v,vs[i]?=some v/\A2 L G h n a v) (λvs i q e=>nomatch e)
  (λb l ih vs i q e=>q.elim λv q=>q.elim λu q=>by
   rwa[q.1]
   cases i with
   | zero=>exact⟨v,rfl,aA3 e▸q.2.1⟩
   | succ i=>exact ih u i q.2.2 e) as vs i q e
end
def AL{h:aF2}{l:aC2}{us:List Value}{k:Nat}(e:h.get? l=some (AS us k)):h.IsList l us.toArray:=⟨_,e,rfl,k,rfl⟩
def BR{h:aF2}{l:aC2}{us:List Value}{k:Nat}(e:h.get? l=some (Ab us k)):h.IsTuple l us.toArray:=⟨_,e,rfl,k,rfl⟩
section
variable{prog:aF3}{w:aC9}{A:aH1}{E:Value->aA5->Prop}{Q:Value->aA5->Prop}{s:aA5}{l l':aC2}{us us':List Value}{k k':Nat}
def Oy(h:s.heap.get? l=some (AS us k))(h':s.heap.get? l'=some (AS us' k'))(hz:us.length+us'.length<=aY4)(q:Q (.ref s.heap.objs.size) {s with heap:=s.heap.push (AS (us++us') 0)}) :
  aC8 (aC6 prog w) A (binaryOp .Add (.ref l) (.ref l')) Q E s:=
 concat_meets ⟨_,h,rfl⟩ ⟨_,h',rfl⟩ noFill_list_add seq_list_add PySem.F.slot_list_add PySem.F.entry_list_add (PySem.F.args_list_add_2 _ _) (list_addW l l' us.toArray us'.toArray k k' none none #[] #[] hz) ⟨h,h',(List.append_toArray us us').symm▸q⟩
end
def PI(op:bI2)(a b:ű)(σ:St)(Q:ű->St->Prop):Prop:=match op with
 | .Add=>aE5 (Aa (Ak σ a) λxs=>Aa (Ak σ b) λys=>AM (xs.length+ys.length)/\Q (.lst (xs++ys)) σ) (λx=>Aa (Ar b) λy=>Q (.int (x+y)) σ) (Ar a)
 | .Sub=>Aa (Ar a) λx=>Aa (Ar b) λy=>Q (.int (x-y)) σ
 | .Mod=>Aa (Ar a) λx=>Aa (Ar b) λy=>y≠0/\Q (.int (x.fmod y)) σ
 | .FloorDiv=>Aa (Ar a) λx=>Aa (Ar b) λy=>y≠0/\aG4 x y=false/\Q (.int (x.fdiv y)) σ
 | _=>False
def X3(op:bI2)(a b:ű)(σ:St)(Q:ű->St->Prop):Prop:=match op with
 | .Add=>Aa (Ar a) λx=>Aa (Ar b) λy=>Q (.int (x+y)) σ
 | _=>False
def gZ(op:bL0)(a:ű)(σ:St)(Q:ű->St->Prop):Prop:=match op with
 | .USub=>Aa (Ar a) λx=>Q (.int (-x)) σ
 | _=>False
section
variable{X:š}{c:Ĳ}{a b:ű}{Q:ű->St->Prop}{va vb:Value}
def BF{α:Type}{o:Option α}{A:Prop}{B:α->Prop}{P:Prop}(h:aE5 (motive:=λ_=>Prop) A B o)(f:A->P)(g :∀x,o=some x->B x->P):P:=by
 cases o with
 | none=>exact f h
 | some x=>exact g x rfl h
def gO{op:bI2}(h:PI op a b c.σ Q)(R:Ī X c)(ra:Š X c a va)(rb:Š X c b vb):Đ X c Q (binaryOp op va vb):=
 bI2.casesOn (motive:=λop=>PI op a b c.σ Q->Đ X c Q (binaryOp op va vb)) op
  (λh=>BF h (λh=>AB h λxs e1 h=>AB h λys e2 h=>Am e1 R ra λl us k Ž Ń=>Am e2 R rb λl' us' k' p3 p4=>Oy Ž p3 (h.1.line (Ń.len▸p4.len▸rfl)) (.newLst _ 0 R (Ń.append p4) h.2))
   λx e1 h=>AB h λy e2 h=>AY e1 ra λt=>AY e2 rb λu=>add_int (.int _ R h))
  (λh=>AB h λx e1 h=>AB h λy e2 h=>AY e1 ra λt=>AY e2 rb λu=>PyProof.Rows.sub_int' (.int _ R h))
  aA8
  aA8 aA8
  (λh=>AB h λx e1 h=>AB h λy e2 h=>AY e1 ra λt=>AY e2 rb λu=>mod_int' h.1 (.int _ R h.2))
  aA8
  aA8 aA8 aA8 aA8 aA8
  (λh=>AB h λx e1 h=>AB h λy e2 h=>AY e1 ra λt=>AY e2 rb λu=>floordiv_int h.1 (.int _ R h.2.2) (.inl h.2.1)) h
def g0{op:bI2}(h:X3 op a b c.σ Q)(R:Ī X c)(ra:Š X c a va)(rb:Š X c b vb):Đ X c Q (inplaceOp op va vb):=by
 cases op with
 | Add=>exact AB h λx e1 h=>AB h λy e2 h=>AY e1 ra λt=>AY e2 rb λu=>iadd_int (.int _ R h)
 | _=>exact h.elim
def fV{op:bL0}(h:gZ op a c.σ Q)(R:Ī X c)(ra:Š X c a va):Đ X c Q (unaryOp op va):=by
 cases op with
 | USub=>exact AB h λx e1 h=>AY e1 ra λt=>neg_int (.int _ R h)
 | _=>exact h.elim
end
end Mine
end
section
open PySem PySem.W PyProof.Rows PySem.Spec PySem.Calls PySem.SeqAt
namespace Mine
noncomputable def DC:ű->Option (SK×List ű)
 | .seq k vs=>some (k,vs)
 | _=>none
def FS{P:ű->Prop}{a:ű}{q:SK×List ű}(e:DC a=some q)(f:P (.seq q.1 q.2)):P a:=
 ű.casesOn (motive_1:=λa=>DC a=some q->P a) a AA (λ_=>AA) (λ_=>AA) (λ_ _ e=>Eq.mp (bQ5 (λq:SK×List ű=>P (.seq q.1 q.2)) (aA3 e).symm) f) (λ_=>AA) (λ_=>AA) (λ_=>AA) (λ_ _=>AA) (λ_=>AA) (λ_=>AA) AA e
def Cb(f:ű->ű->Option Bool)(xs:List ű):List ű->Option Bool:=
 aB4 (λys=>some ys.isEmpty) (λa _ ih ys=>aB4 (some false) (λb bs _=>(f a b).bind λx=>(ih bs).map (x && ·)) ys) xs
def SK.eqs(k k':SK):Bool:=SK.rec (SK.rec true false false k') (SK.rec false true false k') false k
def SJ(a b:ű):Option Bool:=(BC a).bind λx=>(BC b).map λy=>decide (x=y)
def WP(f:ű->ű->Option Bool)(a b:ű):Option Bool:=(DC a).bind λp=>(DC b).bind λq=>bif p.1.eqs q.1 then Cb f p.2 q.2 else none
def LZ{α:Type}(o p:Option α):Option α:=aE5 p some o
def Hc(n:Nat):ű->ű->Option Bool:=aV6 (λ_ _=>none) (λ_ f a b=>LZ (SJ a b) (WP f a b)) n
def DH{α:Type}{o p:Option α}{a:α}{P:Prop}(h:LZ o p=some a)(f:o=some a->P)(g:p=some a->P):P:=by
 cases o with
 | none=>exact g h
 | some x=>exact f h
def HD{a b:ű}{r:Bool}{P:Prop}(h:SJ a b=some r)(f :∀x y,BC a=some x->BC b=some y->decide (x=y)=r->P):P:=by
 obtain⟨x,e1,h⟩:=bind_some h
 obtain⟨y,e2,h⟩:=map_some h
 exact f x y e1 e2 h
def KY{f:ű->ű->Option Bool}{a b:ű}{r:Bool}{P:Prop}(h:WP f a b=some r)(g :∀p q,DC a=some p->DC b=some q->p.1.eqs q.1=true->Cb f p.2 q.2=some r->P):P:=by
 obtain⟨p,e1,h⟩:=bind_some h
 obtain⟨q,e2,h⟩:=bind_some h
 cases hk:p.1.eqs q.1 with
 | false=>rw[hk]at h;exact AA h
 | true=>rw[hk]at h;exact g p q e1 e2 hk h
noncomputable def E8(f:Nat->Bool)(n m:Nat):Bool:=(aK4 (min n m)).all f&&n==m
def O7{g:Nat->Bool}{n m:Nat}:E8 g (n+1) (m+1)=(g 0&&E8 (λj=>g (j+1)) n m):=by
 unfold E8
 rewrite [Nat.succ_min_succ];rwa[List.range_succ_eq_map,List.all_cons,List.all_map];rw[Bool.and_assoc]
 exact bQ5 (λb=>g 0&&(_&&b)) (by rw[bE5,beq_iff_eq,beq_iff_eq,Nat.succ_inj])
def Jl{f:ű->ű->Option Bool}{xs:List ű} :∀{ys:List ű} {r:Bool},Cb f xs ys=some r->∃e:Nat->Bool,(∀(j:Nat) (a b:ű),xs[j]?=some a->ys[j]?=some b->f a b=some (e j))/\r=E8 e xs.length ys.length:=by
 refine aB4 (motive:=λxs=>∀{ys:List ű} {r:Bool},Cb f xs ys=some r->∃e:Nat->Bool,(∀(j:Nat) (a b:ű),xs[j]?=some a->ys[j]?=some b->f a b=some (e j))/\r=E8 e xs.length ys.length) (λ{ys r} h=>⟨λ_=>true,λ_ _ _=>AA,?_⟩) (λa as ih ys r h=>?_) xs
 ·rwa[(aA3 h).symm]
  cases ys<;>rfl
 ·cases ys with
  | nil=>exact⟨λ_=>true,λ_ _ _ _=>AA,(aA3 h).symm⟩
  | cons b bs=>
   obtain⟨x,e1,h⟩:=bind_some h
   obtain⟨y,e2,h⟩:=map_some h
   obtain⟨e,q1,õ⟩:=ih e2
   refine⟨λj=>aV6 x (λj _=>e j) j,λj=>?_,?_⟩
   ·cases j with
    | zero=>exact λa' b' Ž Ń=>aA3 Ž▸aA3 Ń▸e1
    | succ j=>exact q1 j
   ·exact h▸õ▸(O7 (g:=λj=>aV6 x (λj _=>e j) j)).symm
section
variable{L:Bt}{G:ħ}{h:aF2}{n:Nat}
def Ct{a:ű}{q:SK×List ű}{v:Value}(e:DC a=some q):A2 L G h n a v->Di (λa us=>L.sq h a q.1 us) G (AW L G h n q.2) v:=FS (P:=λa=>A2 L G h n a v->Di (λa us=>L.sq h a q.1 us) G (AW L G h n q.2) v) e id
def Ea{a:ű}{k:AC}{v:Value}(e:BC a=some k):A2 L G h n a v->A7 k v=true:=FR (P:=λa=>A2 L G h n a v->A7 k v=true) e id
def K1{k k':SK}{us us':List Value}{e e':Nat×Option aC2}(z:some (W8 L k us e)=some (W8 L k' us' e')):k.cls L=k'.cls L/\us=us':=
 ⟨bQ5 Obj.cls (aA3 z),bQ5 (λo:Obj=>match o.data with | .seq a _=>a.toList | _=>[]) (aA3 z)⟩
def QM(m:Nat) :∀{a b:ű} {v:Value} {r:Bool},A2 L G h n a v->A2 L G h n b v->Hc m a b=some r->r=true:=by
 refine aV6 (motive:=λm=>∀{a b:ű} {v:Value} {r:Bool},A2 L G h n a v->A2 L G h n b v->Hc m a b=some r->r=true) (λ_ _=>AA) (λm ih a b v r q1 õ e=>?_) m
 refine DH e (λe=>HD e λx y e1 e2 e=>e▸bQ9 (DS (Ea e1 q1) (Ea e2 õ))) λe=>KY e λp q e1 e2 hk e=>?_
 cases Ct e1 q1 with
 | mk l us hv hp _ hr=>
 cases Ct e2 õ with
 | mk l' us' hv' hp' _ hr'=>
 obtain⟨k,hp⟩:=hp
 obtain⟨k',hp'⟩:=hp'
 cases hv.symm.trans hv'
 rw[<-(K1 (hp.symm.trans hp')).2]at hr'
 obtain⟨g,g1,g2⟩:=Jl e
 rwa[g2,hr.len.symm,hr'.len.symm]
 refine aI6.mpr ⟨bI3.mpr λj hj=>?_,bR2 _⟩
 have hj:j<us.length:=aB2 (bK1.mp hj) (aZ1 _ _)
 have a1:p.2[j]?=some (p.2[j]'(hr.len▸hj)):=aA9 _
 have a2:q.2[j]?=some (q.2[j]'(hr'.len▸hj)):=aA9 _
 obtain⟨u,u1,u2⟩:=hr.get a1
 obtain⟨u',u3,u4⟩:=hr'.get a2
 cases u1.symm.trans u3
 exact ih u2 u4 (g1 j _ _ a1 a2)
end
section
variable{L:Bt}{G:ħ}{s:aA5}{n:Nat}{A:aH1}{l l':aC2}{us us':List Value}{f:Nat->Bool}
def Uy{n m:Nat}(h:n≠m):E8 f n m=false:=by
 unfold E8
 rwa[beq_eq_false_iff_ne.mpr h];rw[bK2]
def UE(n:Nat):E8 f n n=(aK4 n).all f:=by
 unfold E8
 rw[Nat.min_self,bR2,Bool.and_true]
def LD{k k':Nat}(hu:A.units<cLine)(p:s.heap.get? l=some (AS us k))(p':s.heap.get? l'=some (AS us' k'))(he :∀j (h1:j<us.length) (h2:j<us'.length),bB2 A.in1 s us[j] us'[j] (f j)) :
  bO7 A s (.ref l) (.ref l') (E8 f us.length us'.length)/\bI7 A s (.ref l) (.ref l') (!E8 f us.length us'.length):=by
 by_cases hz:us.length=us'.length
 ·rwa[hz.symm];rw[UE]
  exact⟨bO7.lists (AL p) (AL p') hz hu he,bI7.lists (AL p) (AL p') hz hu he⟩
 ·rwa[Uy hz]
  exact⟨bO7.lists_lengths (AL p) (AL p') (bne_iff_ne.mpr hz) hu,bI7.lists_lengths (AL p) (AL p') (bne_iff_ne.mpr hz) hu⟩
def Nn{k k':Nat}(hu:A.units<cLine)(p:s.heap.get? l=some (Ab us k))(p':s.heap.get? l'=some (Ab us' k'))(he :∀j (h1:j<us.length) (h2:j<us'.length),bB2 A.in1 s us[j] us'[j] (f j)) :
  bO7 A s (.ref l) (.ref l') (E8 f us.length us'.length)/\bI7 A s (.ref l) (.ref l') (!E8 f us.length us'.length):=
 ⟨bO7.tuples (BR p) (BR p') hu he,bI7.tuples (BR p) (BR p') hu he⟩
def Va{k k':SK}(hk:k.eqs k'=true)(hu:A.units<cLine)(p:L.sq s.heap l k us)(p':L.sq s.heap l' k' us')(he :∀j (h1:j<us.length) (h2:j<us'.length),bB2 A.in1 s us[j] us'[j] (f j)) :
  bO7 A s (.ref l) (.ref l') (E8 f us.length us'.length):=by
 obtain⟨e,p⟩:=p
 obtain⟨e',p'⟩:=p'
 cases k with
 | tup=>cases k' with
  | tup=>exact(Nn (k:=e.1) (k':=e'.1) hu p p' he).1
  | _=>cases hk
 | lst=>cases k' with
  | lst=>exact(LD (k:=e.1) (k':=e'.1) hu p p' he).1
  | _=>cases hk
 | mat=>cases hk
def Gg{m:Nat}(ih :∀a b va vb r,A2 L G s.heap n a va->A2 L G s.heap n b vb->Hc m a b=some r->bB2 A.in1 s va vb r){xs ys:List ű}{r:Bool}(q1:AW L G s.heap n xs us)(õ:AW L G s.heap n ys us')(h:Cb (Hc m) xs ys=some r){P:Bool->Prop}
  (k :∀f:Nat->Bool,(∀j (h1:j<us.length) (h2:j<us'.length),bB2 A.in1 s us[j] us'[j] (f j))->P (E8 f us.length us'.length)):P r:=by
 obtain⟨e,Ž,Ń⟩:=Jl h
 rwa[Ń,q1.len.symm,õ.len.symm]
 refine k e λj h1 h2=>?_
 have e1:xs[j]?=some (xs[j]'(q1.len▸h1)):=aA9 _
 have e2:ys[j]?=some (ys[j]'(õ.len▸h2)):=aA9 _
 obtain⟨v1,g1,r1⟩:=q1.get e1
 obtain⟨v2,g2,r2⟩:=õ.get e2
 rw[aA9 h1]at g1
 rw[aA9 h2]at g2
 cases g1;cases g2
 exact ih _ _ _ _ _ r1 r2 (Ž j _ _ e1 e2)
def TY(m:Nat) :∀(A:aH1) (a b:ű) (va vb:Value) (r:Bool),A.units+m<cLine->A2 L G s.heap n a va->A2 L G s.heap n b vb->Hc m a b=some r->bB2 A s va vb r:=by
 refine aV6 (motive:=λm=>∀(A:aH1) (a b:ű) (va vb:Value) (r:Bool),A.units+m<cLine->A2 L G s.heap n a va->A2 L G s.heap n b vb->Hc m a b=some r->bB2 A s va vb r) (λ_ _ _ _ _ _ _ _ _=>AA) (λm ih A a b va vb r hu q1 õ e=>?_) m
 refine DH e (λe=>HD e λx y e1 e2 e=>e▸λprog w E Q h=>Mc prog w (Ea e1 q1) (Ea e2 õ) h) λe'=>KY e' λp q e1 e2 hk e'=>?_
 by_cases hs:va=vb
 ·subst hs
  exact QM (m+1) q1 õ e▸bB2.same _
 have hu':A.units+1+m<cLine:=aL1 A.units m 1▸hu
 cases Ct e1 q1 with
 | mk l us hv hp _ hr=>
 cases Ct e2 õ with
 | mk l' us' hv' hp' _ hr'=>
 subst hv;subst hv'
 exact bB2.of_refs (λz=>hs (bQ5 _ z)) (Gg (P:=bO7 A s (.ref l) (.ref l')) (λa b va vb r Ž Ń p3=>ih A.in1 a b va vb r hu' Ž Ń p3) hr hr' e' λf he=>Va hk (aE9 (aD5 _ _) hu) hp hp' he)
def ZQ{a b:AC}{u v:Value}(hu:A7 a u=true)(hv:A7 b v=true):bO7 A s u v (decide (a=b))/\bI7 A s u v (!decide (a=b)):=by
 cases a with
 | int i=>
  obtain⟨t,rfl⟩:=Al hu
  cases b with
  | int j=>obtain⟨t',rfl⟩:=Al hv;exact UX i j▸⟨.int_int _ _ _ _,.int_int _ _ _ _⟩
  | str j=>obtain⟨t',rfl⟩:=An hv;exact⟨.int_str _ _ _ _,.int_str _ _ _ _⟩
 | str i=>
  obtain⟨t,rfl⟩:=An hu
  cases b with
  | int j=>obtain⟨t',rfl⟩:=Al hv;exact⟨.str_int _ _ _ _,.str_int _ _ _ _⟩
  | str j=>obtain⟨t',rfl⟩:=An hv;exact To i j▸⟨.str_str _ _ _ _,.str_str _ _ _ _⟩
end
def Es(a:ű):Option (List ű):=(DC a).bind λp=>SK.rec (some p.2) none none p.1
def Sz(a b:ű):Option Bool:=match a with
 | .none=>(Es b).map λ_=>false
 | _=>none
def Fs(σ:St)(a b:ű):Option Bool:=LZ (SJ a b) (LZ ((Ak σ a).bind λxs=>(Ak σ b).bind λys=>Cb (Hc 8) xs ys) (LZ ((Es a).bind λxs=>(Es b).bind λys=>Cb (Hc 8) xs ys) (Sz a b)))
def SE{P:ű->Bool->Prop}{a b:ű}{r:Bool}(e:Sz a b=some r)(f :∀vs,Es b=some vs->P .none false):P a r:=
 ű.casesOn (motive_1:=λa=>Sz a b=some r->P a r) a (λe=>Cw (P:=P .none) e f) (λ_=>AA) (λ_=>AA) (λ_ _=>AA) (λ_=>AA) (λ_=>AA) (λ_=>AA) (λ_ _=>AA) (λ_=>AA) (λ_=>AA) AA e
def SX{P:ű->Prop}{a:ű}{vs:List ű}(e:Es a=some vs)(f:P (.tup vs)):P a:=by
 obtain⟨⟨k,us⟩,e1,e⟩:=bind_some e
 exact FS e1 (SK.casesOn (motive:=λk=>SK.rec (motive:=λ_=>Option (List ű)) (some us) none none k=some vs->P (.seq k us)) k (λe=>aA3 e▸f) AA AA e)
section
variable{X:š}{c:Ĳ}{a b:ű}{va vb:Value}
@[elab_as_elim] theorem D2{P:Value->Prop}{vs:List ű}{v:Value}(e:Es a=some vs)(r:Š X c a v)(f :∀l us k,c.s.heap.get? l=some (Ab us k)->Ě X c vs us->P (.ref l)):P v:=
 SX (P:=λa=>Š X c a v->P v) e (λr=>r.casesOn λl us hv hp _ hr=>hp.elim λk hp=>hv▸f l us k.1 hp hr) r
def bZ{r:Bool}(hu:X.A.units+10<cLine)(e:Fs c.σ a b=some r)(R:Ī X c)(ra:Š X c a va)(rb:Š X c b vb):bO7 X.A c.s va vb r/\bI7 X.A c.s va vb (!r):=by
 have ih :∀a b va vb r,Š X c a va->Š X c b vb->Hc 8 a b=some r->bB2 X.A.in1 c.s va vb r:=λa b va vb r=>TY 8 X.A.in1 a b va vb r (bB8 (aC1 _) hu)
 have hu':X.A.units<cLine:=aE9 (aD5 _ _) hu
 refine DH e (λe=>HD e λx y e1 e2 e=>e▸ZQ (BU e1 ra) (BU e2 rb)) λe=>DH e (λe=>?_) λe=>DH e (λe=>?_) λe=>SE (P:=λa r=>Š X c a va->bO7 X.A c.s va vb r/\bI7 X.A c.s va vb (!r)) e (λvs e2 ra=>?_) ra
 ·obtain⟨xs,e1,e⟩:=bind_some e
  obtain⟨ys,e2,e⟩:=bind_some e
  exact Am e1 R ra λl us k Ž Ń=>Am e2 R rb λl' us' k' p3 p4=>Gg (P:=λr=>bO7 X.A c.s (.ref l) (.ref l') r/\bI7 X.A c.s (.ref l) (.ref l') (!r)) ih Ń p4 e λf he=>LD hu' Ž p3 he
 ·obtain⟨xs,e1,e⟩:=bind_some e
  obtain⟨ys,e2,e⟩:=bind_some e
  exact D2 e1 ra λl us k Ž Ń=>D2 e2 rb λl' us' k' p3 p4=>Gg (P:=λr=>bO7 X.A c.s (.ref l) (.ref l') r/\bI7 X.A c.s (.ref l) (.ref l') (!r)) ih Ń p4 e λf he=>Nn hu' Ž p3 he
 ·rwa[show va = .none from ra]
  exact D2 e2 rb λl us k Ž Ń=>⟨.none_tuple (BR Ž) hu',.none_tuple (BR Ž) hu'⟩
end
noncomputable def Nt(a:ű):Option Bool:=match a with
 | .none=>some true
 | .fn _=>none
 | _=>some false
def CT(vs:List ű):Option (List AC):=aB4 (some []) (λa _ ih=>(BC a).bind λk=>ih.map (k :: ·)) vs
def Ez(xs ys:List ű)(K:Bool->Prop):Prop:=Aa (CT xs) λks=>Aa (CT ys) λls=>K false/\(ks=ls->K true)
def KU(a:ű):Option (List ű):=(DC a).bind λp=>SK.rec none (some p.2) none p.1
noncomputable def AC.toStr:AC->Option Str
 | .str i=>some i
 | .int _=>none
def Gm(a:ű):Option Str:=(BC a).bind AC.toStr
def mA(a b:ű)(K:Bool->Prop):Prop:=aE5 (Aa (KU a) λxs=>aE5 (Aa (KU b) λys=>Ez xs ys K) (λ_=>K false) (Gm b)) (λ_=>Aa (KU b) λ_=>K false) (Gm a)
def rP(a b:ű)(K:Bool->Prop):Prop:=Aa (Nt a) λx=>Aa (Nt b) λy=>
 aK3 (aK3 (mA a b K) (K false) y) (K y) x
def K4(a b:ű)(σ:St)(Q:ű->St->Prop)(f:Int->Int->Bool):Prop:=Aa (Ar a) λx=>Aa (Ar b) λy=>Q (.bool (f x y)) σ
def Fz(op:bJ3)(a b:ű)(σ:St)(Q:ű->St->Prop):Prop:=match op with
 | .Lt=>K4 a b σ Q λx y=>decide (x<y)
 | .LtE=>K4 a b σ Q λx y=>decide (x<=y)
 | .Gt=>K4 a b σ Q λx y=>decide (y<x)
 | .GtE=>K4 a b σ Q λx y=>decide (y<=x)
 | .Eq=>Aa (Fs σ a b) λr=>Q (.bool r) σ
 | .NotEq=>Aa (Fs σ a b) λr=>Q (.bool (!r)) σ
 | .Is=>rP a b λr=>Q (.bool r) σ
 | .IsNot=>rP a b λr=>Q (.bool (!r)) σ
 | _=>False
def EB{P:ű->Prop}{a:ű}{vs:List ű}(e:KU a=some vs)(f:P (.lst vs)):P a:=by
 obtain⟨⟨k,us⟩,e1,e⟩:=bind_some e
 exact FS e1 (SK.casesOn (motive:=λk=>SK.rec (motive:=λ_=>Option (List ű)) none (some us) none k=some vs->P (.seq k us)) k AA (λe=>aA3 e▸f) AA e)
section
variable{L:Bt}{G:ħ}{h:aF2}{n:Nat}
def Ou{xs:List ű} :∀{ys:List ű} {ks ls:List AC} {us:List Value},CT xs=some ks->CT ys=some ls->AW L G h n xs us->AW L G h n ys us->ks=ls:=by
 refine aB4 (motive:=λxs=>∀{ys:List ű} {ks ls:List AC} {us:List Value},CT xs=some ks->CT ys=some ls->AW L G h n xs us->AW L G h n ys us->ks=ls) (λ{ys ks ls us} e1 e2 q1 õ=>?_) (λa as ih ys ks ls us e1 e2 q1 õ=>?_) xs
 ·have hl:=õ.len
  rw[show us=[]from q1]at hl
  cases ys with
  | nil=>exact aA3 (e1.symm.trans e2)
  | cons b bs=>cases hl
 ·obtain⟨v,u,rfl,a1,a2⟩:=q1
  cases ys with
  | nil=>cases õ
  | cons b bs=>
   obtain⟨v',u',e,b1,b2⟩:=õ
   cases e
   obtain⟨x,Ž,e1⟩:=bind_some e1
   obtain⟨xs',Ń,rfl⟩:=map_some e1
   obtain⟨y,p3,e2⟩:=bind_some e2
   obtain⟨ys',p4,rfl⟩:=map_some e2
   rwa[DS (Ea Ž a1) (Ea p3 b1),ih Ń p4 a2 b2];rfl
def Eb(b:Bool)(v:Value):Prop:=(v == .none)=b/\plainIs v .none=true/\plainIs .none v=true/\(aN3==v)=b
def FC{b b':Bool}{v v':Value}(q:Eb b' v')(e:v=v')(z:some b'=some b):Eb b v:=e▸aA3 z▸q
def Mv{a:ű}{b:Bool}{v:Value}(e:Nt a=some b)(q:A2 L G h n a v):Eb b v:=by
 have rf :∀{l:aC2},v = .ref l->some false=some b->Eb b v:=FC ⟨rfl,rfl,rfl,rfl⟩
 have bx :∀{β:Type} {P:aC2->β->Prop} {R:β->Prop},Di P G R v->some false=some b->Eb b v:=λq=>q.casesOn λ_ _ hv _ _ _=>rf hv
 exact ű.casesOn (motive_1:=λa=>A2 L G h n a v->Nt a=some b->Eb b v) a (FC ⟨rfl,rfl,rfl,rfl⟩) (λx=>FC ⟨rfl,rfl,rfl,rfl⟩)
  (λk=>AC.casesOn (motive:=λk=>A2 L G h n (.key k) v->some false=some b->Eb b v) k (λi q=>(Al q).elim λt=>FC ⟨rfl,rfl,rfl,rfl⟩) λi q=>(An q).elim λt=>FC ⟨rfl,rfl,rfl,rfl⟩)
  (λ_ _=>bx) (λx q=>rf q.1) (λ_ _=>AA) (λx=>rf) (λ_ _=>bx) (λ_=>bx) (λ_=>bx) bx q e
end
section
variable{X:š}{c:Ĳ}{a b:ű}{va vb:Value}
def SS{P:ű->Prop}{a:ű}{i:Str}(e:Gm a=some i)(f:P (.str i)):P a:=by
 obtain⟨k,e1,e2⟩:=bind_some e
 exact FR e1 (AC.casesOn (motive:=λk=>k.toStr=some i->P (.key k)) k (λ_=>AA) (λ_ e=>aA3 e▸f) e2)
@[elab_as_elim] theorem Ds{P:Value->Prop}{a:ű}{i:Str}{v:Value}(e:Gm a=some i)(r:Š X c a v)(f :∀t,P (.str i t)):P v:=by
 obtain⟨t,rfl⟩:=An (SS (P:=λa=>Š X c a v->A7 (.str i) v=true) e id r)
 exact f t
def dW{K:Bool->Prop}(h:rP a b K)(R:Ī X c)(ra:Š X c a va)(rb:Š X c b vb){Q:Bool->aA5->Prop}(hq :∀r,K r->Q r c.s):ė X (isSame va vb) Q c.s:=by
 refine AB h λx e1 h=>AB h λy e2 h=>?_
 have pa:=Mv e1 ra
 have pb:=Mv e2 rb
 cases x with
 | true=>
  have hv:va = .none:=aD3 pa.1
  exact aZ8 (hv▸pb.2.2.1) (hv▸pb.2.2.2.symm▸hq y h)
 | false=>
  cases y with
  | true=>
   have hv:vb = .none:=aD3 pb.1
   exact aZ8 (hv▸pa.2.1) (hv▸pa.1.symm▸hq false h)
  | false=>
   refine BF h (λh=>AB h λxs e1 h=>BF h (λh=>AB h λys e2 h=>AB h λks e3 h=>AB h λls e4 h=>?_) λx e2 h=>?_) λx e1 h=>AB h λys e2 h=>?_
   ·cases EB (P:=λa=>Š X c a va->Š X c (.lst xs) va) e1 id ra with
    | mk l us hv hp _ hr=>
    cases EB (P:=λb=>Š X c b vb->Š X c (.lst ys) vb) e2 id rb with
    | mk l' us' hv' hp' _ hr'=>
    subst hv;subst hv'
    obtain⟨k,hp⟩:=hp
    obtain⟨k',hp'⟩:=hp'
    by_cases hl:l=l'
    ·subst hl
     rw[<-(K1 (hp.symm.trans hp')).2]at hr'
     exact wpAny_isSame_ref_self (hq _ (h.2 (Ou e3 e4 hr hr')))
    ·exact wpAny_isSame_ref_other hl hp hp' (show aW2 "list"≠aW2 "tuple" by decide) (hq _ h.1)
   ·cases EB (P:=λa=>Š X c a va->Š X c (.lst xs) va) e1 id ra with
    | mk l us hv hp _ hr=>
    subst hv
    exact Ds (P:=λvb=>ė X (isSame (.ref l) vb) Q c.s) e2 rb λt=>aZ8 rfl (hq _ h)
   ·cases EB (P:=λa=>Š X c a vb->Š X c (.lst ys) vb) e2 id rb with
    | mk l us hv hp _ hr=>
    subst hv
    exact Ds (P:=λva=>ė X (isSame va (.ref l)) Q c.s) e1 ra λt=>aZ8 rfl (hq _ h)
def Ia{f:Int->Int->Bool}{op:bJ3}{Q:ű->St->Prop}(h:K4 a b c.σ Q f)(R:Ī X c)(ra:Š X c a va)(rb:Š X c b vb)(g :∀{x y:Int} {t u:Tok},AX X (Š X) c Q (.bool (f x y)) c.s->Đ X c Q (bA6 op (.int x t) (.int y u))):Đ X c Q (bA6 op va vb):=
 AB h λx e1 h=>AB h λy e2 h=>AY e1 ra λt=>AY e2 rb λu=>g (.here (b:=ű.bool (f x y)) R rfl h)
def gD{op:bJ3}{Q:ű->St->Prop}(hu:X.A.units+10<cLine)(h:Fz op a b c.σ Q)(R:Ī X c)(ra:Š X c a va)(rb:Š X c b vb):Đ X c Q (bA6 op va vb):=
 bJ3.casesOn (motive:=λop=>Fz op a b c.σ Q->Đ X c Q (bA6 op va vb)) op
  (λh=>AB h λr e h=>(bZ hu e R ra rb).1 _ _ _ _ (.here (b:=ű.bool r) R rfl h)) (λh=>AB h λr e h=>(bZ hu e R ra rb).2 _ _ _ _ (.here (b:=ű.bool (!r)) R rfl h))
  (λh=>Ia h R ra rb λq=>lt_int q) (λh=>Ia h R ra rb λq=>le_int q) (λh=>Ia h R ra rb λq=>gt_int q) (λh=>Ia h R ra rb λq=>ge_int q)
  (λh=>ė.bind (dW h R ra rb λr h=>ė.pure (.here (b:=ű.bool r) R rfl h))) (λh=>ė.bind (dW h R ra rb λr h=>ė.pure (.here (b:=ű.bool (!r)) R rfl h))) aA8 aA8 h
end
def Uh:aI9 (.type "function") "__bool__" = pure none:=by rewrite [aH3];rwa[aE2];rfl'
def UA:aI9 (.type "function") "__len__" = pure none:=by rewrite [aH3];rwa[aE2];rfl'
def M1{prog:aF3}{w:aC9}{A:aH1}{E:Value->aA5->Prop}{s:aA5}{a:aC2}{fd:aY3}{Q:Bool->aA5->Prop}(ho:s.heap.get? a=some {cls:=.type "function",data:=.func fd})(h:Q true s):aC8 (aC6 prog w) A (truthy (.ref a)) Q E s:=by
 have hT:s.TypeIs (.ref a) "function":=⟨_,ho,rfl⟩
 unfold truthy
 refine aA1 (wpAny_callSpecial?_none (name:=aA0 "__bool__") hT Uh ?_)
 refine aA1 (aZ2 (name:=aA0 "__len__") hT UA ?_)
 exact aA4 h
noncomputable def L7(a:ű):Option Bool:=match a with
 | .lam=>some true
 | .bool b=>some b
 | .none=>some false
 | _=>none
def Dc(a:ű)(σ:St)(Q:Bool->St->Prop):Prop:=aE5 (aE5 (aE5 (Aa (Ak σ a) λvs=>AM vs.length/\Q (!vs.isEmpty) σ) (λx=>x.length<1000000/\Q ((x.length:Int) != 0) σ) (Gm a)) (λi=>Q (i != 0) σ) (Ar a)) (λb=>Q b σ) (L7 a)
def fits{n:Nat}(h:n<=1000000):(n:Int)<2 ^ 63:=aS4 (aM5.mpr h) (by decide)
def PA{α β:Type}{us:List α}{vs:List β}(h:us.length=vs.length):us.toArray.isEmpty=vs.isEmpty:=by
 cases us with
 | nil=>cases vs with
  | nil=>rfl
  | cons=>cases h
 | cons=>cases vs with
  | nil=>cases h
  | cons=>rfl
section
variable{X:š}{c:Ĳ}{a b:ű}{va vb:Value}
def Oo{b:Bool}(e:L7 a=some b)(q:Š X c a va){Q:Bool->aA5->Prop}(h:Q b c.s):ė X (truthy va) Q c.s:=
 ű.casesOn (motive_1:=λa=>Š X c a va->L7 a=some b->ė X (truthy va) Q c.s) a (λq e=>(show va = .none from q).symm▸truthy_none (aA3 e▸h)) (λx q e=>(show va = .bool x from q).symm▸aM7 (aA3 e▸h))
  (λ_ _=>AA) (λ_ _ _=>AA) (λ_ _=>AA) (λ_ _=>AA) (λ_ _=>AA) (λ_ _ _=>AA) (λ_ _=>AA) (λ_ _=>AA) (λq e=>q.casesOn λ_ _ hv ho _ _=>hv▸M1 ho (aA3 e▸h)) q e
def QO{Q:Bool->St->Prop}(h:Dc a c.σ Q)(R:Ī X c)(ra:Š X c a va):ė X (truthy va) (AX X KW c Q) c.s:=
 BF h (λh=>BF h (λh=>BF h (λh=>AB h λvs e h=>Am e R ra λl us k Ž Ń=>wpAny_truthy_list (AL Ž) (fits (aA2 (aB7 Ń.len) h.1)) (PA Ń.len▸AX.to (b:=!vs.isEmpty) (R.toks _) rfl h.2))
  λx e h=>Ds e ra λt=>PySem.P.truthy_str (bI8.mpr (fits (aG2 h.1))) (.to (b:=((x.length:Int) != 0)) (R.toks _) rfl h.2)) λi e h=>AY e ra λt=>PyProof.Rows.truthy_int (AX.here (b:=(i != 0)) R rfl h)) λb e h=>Oo e ra (AX.here (b:=b) R rfl h)
end
noncomputable def Ř.dct:Ř->Option (List (AC×ű))
 | .dict es=>some es
 | _=>none
def ED(σ:St)(a:ű):Option (List (AC×ű)):=match a with
 | .dct es=>some es
 | a=>(objOf σ a).bind Ř.dct
noncomputable def Ř.fs:Ř->Option (List AC)
 | .set es=>some es
 | _=>none
def Hy(σ:St)(a:ű):Option (List AC):=match a with
 | .fset es=>some es
 | a=>(objOf σ a).bind Ř.fs
def Ř.dct_eq{o:Ř}{vs:List (AC×ű)}(e:o.dct=some vs):o = .dict vs:=
 Ř.casesOn (motive:=λo=>o.dct=some vs->o = .dict vs) o (λ_=>AA) (λ_ e=>bQ5 _ (aA3 e)) (λ_=>AA) (λ_ _=>AA) (λ_=>AA) e
def Ř.fs_eq{o:Ř}{vs:List AC}(e:o.fs=some vs):o = .set vs:=
 Ř.casesOn (motive:=λo=>o.fs=some vs->o = .set vs) o (λ_=>AA) (λ_=>AA) (λ_ e=>bQ5 _ (aA3 e)) (λ_ _=>AA) (λ_=>AA) e
section
variable{X:š}{c:Ĳ}{a b:ű}{va vb:Value}
@[elab_as_elim] theorem Ci{P:Value->Prop}{es:List (AC×ű)}{v:Value}(e:ED c.σ a=some es)(R:Ī X c)(r:Š X c a v)(f :∀d kvs,X.L.dct c.s.heap d kvs->VD X c es kvs->P (.ref d)):P v:=by
 have ow :∀{a},Š X c a v->(objOf c.σ a).bind Ř.dct=some es->P v:=λ{a} r e=>by
  obtain⟨o,e1,e2⟩:=bind_some e
  obtain⟨x,rfl,q⟩:=H8 e1 R r
  rw[Ř.dct_eq e2]at q
  exact q.rel.casesOn λus hp hr=>f _ us hp hr
 exact ű.casesOn (motive_1:=λa=>Š X c a v->ED c.σ a=some es->P v) a ow (λ_=>ow) (λ_=>ow) (λ_ _=>ow) (λ_=>ow) (λ_=>ow) (λ_=>ow) (λ_ _=>ow) (λus r e=>r.casesOn λl us hv hp ho hr=>hv▸f l us hp (aA3 e▸hr)) (λ_=>ow) ow r e
@[elab_as_elim] theorem Ev{P:Value->Prop}{ks:List AC}{v:Value}(e:Hy c.σ a=some ks)(R:Ī X c)(r:Š X c a v)(f :∀d,X.L.set c.s.heap d ks->P (.ref d)):P v:=by
 have ow :∀{a},Š X c a v->(objOf c.σ a).bind Ř.fs=some ks->P v:=λ{a} r e=>by
  obtain⟨o,e1,e2⟩:=bind_some e
  obtain⟨x,rfl,q⟩:=H8 e1 R r
  rw[Ř.fs_eq e2]at q
  exact f _ q.rel
 exact ű.casesOn (motive_1:=λa=>Š X c a v->Hy c.σ a=some ks->P v) a ow (λ_=>ow) (λ_=>ow) (λ_ _=>ow) (λ_=>ow) (λ_=>ow) (λ_=>ow) (λ_ _=>ow) (λ_=>ow) (λus r e=>r.casesOn λl _ hv hp ho hr=>hv▸f l (aA3 e▸hp)) ow r e
end
section
variable{L:Bt}{G:ħ}{h:aF2}{n:Nat}
def O8(k:AC)(p:AC×Value)(r:List (AC×Value)):valueAt (p::r) k=bif k==p.1 then some p.2 else valueAt r k:=by
 unfold valueAt
 rwa[List.find?_cons]
 by_cases hk:p.1=k
 ·rwa[bQ9 hk,hk.symm];rw[bR2];rfl
 ·rwa[bR0 hk,beq_eq_false_iff_ne.mpr (bF5 hk)];rfl
def AZ.look{es:List (AC×ű)}(k:AC) :∀{kvs:List (AC×Value)},AZ L G h n es kvs->∀{P:Option ű->Option Value->Prop},P none none->(∀a v,A2 L G h n a v->P (some a) (some v))->P (es.lookup k) (valueAt kvs k):=by
 refine aB4 (motive:=λes=>∀{kvs:List (AC×Value)},AZ L G h n es kvs->∀{P:Option ű->Option Value->Prop},P none none->(∀a v,A2 L G h n a v->P (some a) (some v))->P (es.lookup k) (valueAt kvs k)) (λ{kvs} q P p _=>(show kvs=[]from q)▸p) (λa r ih kvs q P p f=>?_) es
 obtain⟨key,a⟩:=a
 obtain⟨v,us,rfl,q1,õ⟩:=q
 rw[AQ,O8]
 cases k==key with
 | true=>exact f a v q1
 | false=>exact ih õ p f
def AZ.len{as:List (AC×ű)}{vs:List (AC×Value)}(q:AZ L G h n as vs):vs.length=as.length:=
 aB4 (motive:=λas=>∀vs,AZ L G h n as vs->vs.length=as.length) (λ_ q=>bQ5 _ q) (λa r ih vs q=>q.elim λv q=>q.elim λu q=>(bQ5 _ q.1).trans (bQ5 aS3 (ih u q.2.2))) as vs q
def AW.pick{vs:List ű}{us:List Value}(q:AW L G h n vs us)(is:List Nat):AW L G h n (is.filterMap (vs[·]?)) (is.filterMap (us.toArray[·]?)):=by
 refine aB4 (motive:=λis=>AW L G h n (is.filterMap (vs[·]?)) (is.filterMap (us.toArray[·]?))) rfl (λi r ih=>?_) is
 cases e1:vs[i]? with
 | none=>
  rwa[List.filterMap_cons_none e1,List.filterMap_cons_none (aE3.trans (aH6 (q.len▸aO7.mp e1)))]
  exact ih
 | some a=>
  obtain⟨u,g1,g2⟩:=q.get e1
  rwa[List.filterMap_cons_some e1,List.filterMap_cons_some (aE3.trans g1)]
  exact⟨u,_,rfl,g2,ih⟩
end
noncomputable def GL(vs:List ű)(k:Int):Option ű:=(seqIndex? k vs.length).bind (vs[·]?)
def Eh(k:Int):Prop:=-1000000<=k/\k<1000000
def gC(vs:List ű)(b:ű)(σ:St)(Q:ű->St->Prop):Prop:=Aa (Ar b) λk=>Eh k/\∃v,GL vs k=some v/\Q v σ
def J9(a b:ű)(σ:St)(Q:ű->St->Prop):Prop:=
 aE5 (aE5 (Aa (ED σ a) λes=>Aa (BC b) λk=>∃v,es.lookup k=some v/\Q v σ) (λvs=>gC vs b σ Q) (Ak σ a)) (λvs=>gC vs b σ Q) (Es a)
def Gb(a:ű):Option (Option Int):=match a with
 | .none=>some none
 | a=>(Ar a).map some
noncomputable def BB{α:Type}(vs:List α)(lo hi st:Option Int):List α:=
 (sliceRange (sliceBounds lo hi st vs.length).1 (sliceBounds lo hi st vs.length).2.1 (sliceBounds lo hi st vs.length).2.2).filterMap (vs[·]?)
def hZ(a lo hi st:ű)(σ:St)(Q:ű->St->Prop):Prop:=
 Aa (Ak σ a) λvs=>Aa (Gb lo) λl=>Aa (Gb hi) λh=>Aa (Gb st) λt=>t≠some 0/\AM vs.length/\Q (.lst (BB vs l h t)) σ
def Eh.hi{k:Int}(h:Eh k):k<2 ^ 63:=bM3 h.2 (by decide)
def Eh.lo{k:Int}(h:Eh k):-(2 ^ 63)<=k:=aL5 (by decide) h.1
section
variable{X:š}{c:Ĳ}{a b:ű}{va vb:Value}{Q:ű->St->Prop}
def SV{vs:List ű}{us:List Value}{k:Int}{v:ű}(e:GL vs k=some v)(q:Ě X c vs us) :∃j u,seqIndex? k us.length=some j/\us[j]?=some u/\Š X c v u:=by
 obtain⟨j,e1,e2⟩:=bind_some e
 obtain⟨u,g1,g2⟩:=q.get e2
 exact⟨j,u,q.len.symm▸e1,g1,g2⟩
def P1{prog:aF3}{w:aC9}{A:aH1}{E:Value->aA5->Prop}{s:aA5}{l:aC2}{us:List Value}{k:Int}{t:Tok}{n j:Nat}{x:Value}{Q:Value->aA5->Prop}(hl:s.heap.get? l=some (AS us n))(hk:Eh k)(hj:seqIndex? k us.length=some j)(hx:us[j]?=some x)(q:Q x s) :
  aC8 (aC6 prog w) A (getItem (.ref l) (.int k t)) Q E s:=by
 unfold seqIndex? at hj
 by_cases ŝ:k<0
 ·rw[bQ6 ŝ]at hj
  obtain⟨h1,h2⟩:=Option.ite_none_right_eq_some.mp hj
  have h3:=(AH h1).1
  exact wpAny_getItem_list_neg (AL hl) ŝ (Int.zero_sub (us.length:Int)▸Int.sub_left_le_of_le_add (Int.add_comm k us.length▸bR1 h3)) hk.lo (aE3.trans ((aA3 h2).symm▸hx)) q
 ·rw[bQ7 ŝ]at hj
  obtain⟨h1,h2⟩:=Option.ite_none_right_eq_some.mp hj
  exact wpAny_getItem_list (AL hl) (aP0.mp ŝ) hk.hi (aE3.trans ((aA3 h2).symm▸hx)) q
def cW(h:J9 a b c.σ Q){value slice:Expr}(hs :∀o i,subscripted slice false o i=operate [o,i] (getItem o i))(R:Ī X c)(ra:Š X c a va)(rb:Š X c b vb):Đ X c Q (subscriptTail value slice va vb):=
 BF h (λh=>BF h
  (λh=>AB h λes e1 h=>AB h λk e2 h=>Ci e1 R ra λd kvs Ž Ń=>h.elim λv h=>by
   have hv :∃u,valueAt kvs k=some u/\Š X c v u:=Ń.look k (P:=λx y=>x=some v->∃u,y=some u/\Š X c v u) AA (λa u r e=>⟨u,rfl,aA3 e▸r⟩) h.1
   obtain⟨u,e3,r3⟩:=hv
   exact tail_any Ž.1.typeIs slot_dict_getitem.lookup (wpAny_getItem_of (BU e2 rb) Ž.1.mapOf e3 (.val _ R r3 h.2)) (hs _ _))
  λvs e1 h=>AB h λk e2 h=>Am e1 R ra λl us n Ž Ń=>AY e2 rb λt=>h.2.elim λv h'=>(SV h'.1 Ń).elim λj z=>z.elim λu z=>tail_any (AL Ž).typeIs slot_list_getitem.lookup (P1 Ž h.1 z.1 z.2.1 (.here R z.2.2 h'.2)) (hs _ _))
 λvs e1 h=>AB h λk e2 h=>D2 e1 ra λl us n Ž Ń=>AY e2 rb λt=>h.2.elim λv h'=>(SV h'.1 Ń).elim λj z=>z.elim λu z=>item_tupleT ⟨_,Ž,rfl,n,rfl⟩ h.1.lo h.1.hi z.1 z.2.1 (.here R z.2.2 h'.2) (hs _ _)
def JJ{k:Option Int}(e:Gb a=some k)(r:Š X c a va):IsPart va k:=by
 have ow :∀{a},Š X c a va->(Ar a).map some=some k->IsPart va k:=λ{a} r e=>by
  obtain⟨i,e1,rfl⟩:=map_some e
  exact AY e1 r λt=>.int i t
 exact ű.casesOn (motive_1:=λa=>Š X c a va->Gb a=some k->IsPart va k) a (λq e=>(show va = .none from q)▸aA3 e▸.none) (λ_=>ow) (λ_=>ow) (λ_ _=>ow) (λ_=>ow) (λ_=>ow) (λ_=>ow) (λ_ _=>ow) (λ_=>ow) (λ_=>ow) ow r e
def PO{lo hi st:Option Expr}{p:Pos}{o i:Value} :∃EN,subscripted (.Slice lo hi st p) false o i=operate EN (getItem o i):=by
 cases st<;>exact⟨_,rfl⟩
def hX{d e:ű}{vd ve:Value}(h:hZ a b d e c.σ Q){value:Expr}{el eh et:Option Expr}{p:Pos}(R:Ī X c)(ra:Š X c a va)(rb:Š X c b vb)(rd:Š X c d vd)(re:Š X c e ve) :
  ė X (newFields "slice" [vb,vd,ve]) (λi s'=>ė X (subscriptTail value (.Slice el eh et p) va i) (AX X (Š X) c Q) s') c.s:=by
 refine AB h λvs e0 h=>AB h λl e1 h=>AB h λu e2 h=>AB h λt e3 h=>Am e0 R ra λll us n Ž Ń=>aK7 (T:="slice") (data:=.fields #[vb,vd,ve]) (dict:=none) ?_
 have x:=R.push {cls:=.type "slice",data:=.fields #[vb,vd,ve]} c.s.toks
 obtain⟨EN,hs⟩:=PO (lo:=el) (hi:=eh) (st:=et) (p:=p) (o:=.ref ll) (i:=.ref c.s.heap.objs.size)
 have ĩ:(c.s.heap.push {cls:=.type "slice",data:=.fields #[vb,vd,ve]}).IsList ll us.toArray:=AL (k:=n) (aB1 _ Ž)
 have pk:Ě X c (BB vs l u t) (slicePick us.toArray l u t).toList:=by
  unfold BB
  rwa[Ń.len.symm]
  exact Ń.pick _
 exact tail_any (aF2.IsList.typeIs (s:={c.s with heap:=c.s.heap.push {cls:=.type "slice",data:=.fields #[vb,vd,ve]}}) ĩ) slot_list_getitem.lookup
  (wpAny_getItem_list_slice ĩ (aF2.IsSliceOf.new ..) (JJ e1 rb) (JJ e2 rd) (JJ e3 re) h.1 (.lift x (.newLst (c:=c.hp c.σ _ c.s.toks) _ 0 x.R (x.pre.va pk) h.2.2)) (h.2.1.line Ń.len)) hs
end
end Mine
end
section
open PySem PySem.W PyProof.Rows
namespace Mine
def Fa{M:bH0}{Γ:Ctx}{p:Pos}{t:Sem bF9}{fs:List Frame}{s:aA5}{e:End}{s':aA5}(h:Runs M Γ p t fs s e s'):s.heap.objs.size<=s'.heap.objs.size:=by
 induction h with
 | update _ _ ih=>rw[aK5]at ih;exact ih
 | alloc _ ih=>rw[aE7]at ih;exists 2,68737829384,ih
 | _=>first | exact aA6 _ | assumption | (simp only[aA5.setGen]at *;omega) | omega
def M9{M:bH0}{Γ:Ctx}{p:Pos}{g:Nat}{r:Resume}{s:aA5}{res:GenResult}{s':aA5}(h:Wakes M Γ p g r s res s'):s.heap.objs.size<=s'.heap.objs.size:=by
 unfold Wakes at h
 split at h
 ·exact h.elim
 ·split at h
  ·obtain⟨e1,s1,h1,_,_,rfl⟩:=h
   have:=Fa h1;exact this
  ·rwa[h.2];exact aA6 _
  ·rwa[h.2];exact aA6 _
 ·obtain⟨e1,s1,h1,_,_,rfl⟩:=h
  have:=Fa h1;exact this
 ·rwa[h.2];exact aA6 _
 ·rwa[h.2];exact aA6 _
def VM{α:Type}{M:bH0}{Γ:Ctx} :∀(t:Sem α) {Q:α->Pos->aA5->Prop} {E:Value->Pos->aA5->Prop} {p:Pos} {s:aA5} (n:Nat),n<=s.heap.objs.size->aP4 M Γ t Q E p s->aP4 M Γ t (λa p' s'=>Q a p' s'/\n<=s'.heap.objs.size) (λa p' s'=>E a p' s'/\n<=s'.heap.objs.size) p s:=by
 intro t
 induction t with
 | pure a=>intro Q E p s n hn h;unfold aP4 at h ⊢;exact⟨h,hn⟩
 | raise a=>intro Q E p s n hn h;unfold aP4 at h ⊢;exact⟨h,hn⟩
 | unsupported=>intro Q E p s n hn h;unfold aP4 at h;exact h.elim
 | finish=>intro Q E p s n hn h;unfold aP4 at h;exact h.elim
 | register=>intro Q E p s n hn h;unfold aP4 at h;exact h.elim
 | yield=>intro Q E p s n hn h;unfold aP4 at h;exact h.elim
 | fork=>intro Q E p s n hn h;unfold aP4 at h;exact h.elim
 | await=>intro Q E p s n hn h;unfold aP4 at h;exact h.elim
 | rule tag k ih=>intro Q E p s n hn h;unfold aP4 at h ⊢;exact ih _ n hn h
 | «at» p' k ih=>intro Q E p s n hn h;unfold aP4 at h ⊢;exact ih _ n hn h
 | load a ø k ih=>intro Q E p s n hn h;unfold aP4 at h ⊢;obtain⟨o,h1,h2⟩:=h;exact⟨o,h1,ih _ n hn h2⟩
 | update a ø f k ih=>intro Q E p s n hn h;unfold aP4 at h ⊢;exact⟨h.1,ih _ n (by show n<=(s.heap.update a f).objs.size;rw[aK5];exact hn) h.2⟩
 | loadIfAlive a k ih=>intro Q E p s n hn h;unfold aP4 at h ⊢;exact ih _ n hn h
 | point l k ih=>intro Q E p s n hn h;unfold aP4 at h ⊢;exact ih _ n hn h
 | alloc o k ih=>intro Q E p s n hn h;unfold aP4 at h ⊢;exact ih _ n (by show n<=(s.heap.push o).objs.size;rw[aE7];exact id (ũ [_,_] 0x181a001008 (by rfl') hn)) h
 | fresh k ih=>intro Q E p s n hn h;unfold aP4 at h ⊢;exact ih _ n hn h
 | ask k ih=>intro Q E p s n hn h;unfold aP4 at h ⊢;exact ih _ n hn h
 | choose src m k ih=>intro Q E p s n hn h;unfold aP4 at h ⊢;exact⟨h.1,ih _ n hn h.2⟩
 | os q l k ih=>intro Q E p s n hn h;unfold aP4 at h ⊢;exact ih _ n hn h
 | call c hd g l k ih=>
  intro Q E p s n hn h
  unfold aP4 at h ⊢
  obtain⟨r,s',h1,h2⟩:=h
  exact⟨r,s',h1,ih r n (aA2 hn (Fa h1)) h2⟩
 | handled own k ih=>intro Q E p s n hn h;unfold aP4 at h ⊢;exact ih _ n hn h
 | genState g k ih=>intro Q E p s n hn h;unfold aP4 at h ⊢;obtain⟨o,h1,h2⟩:=h;exact⟨o,h1,ih _ n hn h2⟩
 | newGen c k ih=>intro Q E p s n hn h;unfold aP4 at h ⊢;exact ih _ n hn h
 | resume g r l k ih=>
  intro Q E p s n hn h
  unfold aP4 at h ⊢
  obtain⟨res,s',h1,h2⟩:=h
  exact⟨res,s',h1,ih res n (aA2 hn (M9 h1)) h2⟩
 | stack k ih=>intro Q E p s n hn h;unfold aP4 at h ⊢;exact ih _ n hn h
 | thread k ih=>intro Q E p s n hn h;unfold aP4 at h ⊢;exact ih _ n hn h
def M8{α:Type}{M:bH0}{A:aH1}{t:Sem α}{Q:α->aA5->Prop}{E:Value->aA5->Prop}{s:aA5}(h:aC8 M A t Q E s) :
  aC8 M A t (λa s'=>Q a s'/\s.heap.objs.size<=s'.heap.objs.size) (λe s'=>E e s'/\s.heap.objs.size<=s'.heap.objs.size) s:=
 λΓ p hΓ=>VM t _ (aA6 _) (h Γ p hΓ)
def E0{α:Type}{M:bH0}{A:aH1}{t:Sem α}{Q:α->aA5->Prop}{E:Value->aA5->Prop}{s:aA5}(h:aC8 M A t (λa s'=>s.heap.objs.size<=s'.heap.objs.size->Q a s') E s):aC8 M A t Q E s:=
 aP1 (M8 h) (λa s' h'=>h'.1 h'.2) λe s' h'=>h'.1
end Mine
end
section
open PySem PySem.W PyProof.Rows PySem.Spec PySem.Calls PySem.SeqAt
namespace Mine
structure MatC(h₀:aF2)(C:aC2):Prop where
 iter :∀M,aF8 M h₀ (aI9 (.ref C) "__iter__") (some (.builtin "tuple.__iter__"))
 sub :∀M,aF8 M h₀ (aT6 (.ref C) (.type "tuple")) true
section
variable{prog:aF3}{w:aC9}{A:aH1}{E:Value->aA5->Prop}{s:aA5}{h₀:aF2}{C m:aC2}{us:List Value}{k:Nat×Option aC2}
def G8{M:bH0}{Q:Value->aA5->Prop}(hm:s.heap.get? m=some (Ay C us k))(h:Q (.ref C) s):aC8 M A (typeOf (.ref m)) Q E s:=
 aA1 (bC0 hm (aA4 h))
def C0{M:bH0}{name:Str}{r:Option Value}{Q:Option Value->aA5->Prop}(hm:s.heap.get? m=some (Ay C us k))(hk :∀b o,h₀.get? b=some o->s.heap.get? b=some o)
  (hl:aF8 M h₀ (aI9 (.ref C) name) r) (h:Q r s):aC8 M A (bG0 (.ref m) name) Q E s:=
 aA1 (G8 hm (hl A Q E s hk h))
def TI{M:bH0}(hc:MatC h₀ C)(hm:s.heap.get? m=some (Ay C us k))(hk :∀b o,h₀.get? b=some o->s.heap.get? b=some o):aF8 M s.heap (aZ9 (.ref m) (.type "tuple")) true:=
 λA Q E s' k' q=>aA1 (G8 (k' _ _ hm) ((hc.sub M) A Q E s' (λb o e=>k' _ _ (hk b o e)) q))
def OT{M:bH0}{name:Str}{id:String}{args:List Value}{Q:Option Value->aA5->Prop}(hm:s.heap.get? m=some (Ay C us k))(hk :∀b o,h₀.get? b=some o->s.heap.get? b=some o)
  (hl:aF8 M h₀ (aI9 (.ref C) name) (some (.builtin id))) (hb :∀self,bindSpecial (.builtin id) self=pure (.builtin id,[self]))
  (hc:aC8 M A (call (.builtin id) (.ref m::args)) (λv=>Q (some v)) E s):aC8 M A (callSpecialIfBound? (.ref m) name args) Q E s:=by
 simp only[callSpecialIfBound?,bindSpecialIfBound?]
 refine aJ1 (aA1 (aA1 (C0 hm hk hl ?_)))
 simp only[hb]
 refine aA1 (aR8 (wpAny_ite ?_))
 have fin:aC8 M A (call (.builtin id) ([.ref m]++args) >>= λv=>pure (some v)) Q E s:=
  aA1 (aP1 hc (λv s' h'=>aA4 h') λ_ _ h'=>h')
 split
 ·exact aA1 (aA4 (aA4 fin))
 ·exact bK3 (aA1 (aA4 (aA4 fin)))
def MY{M:bH0}{name:Str}{id:String}{refuse:Sem Value}{Q:Option Value->aA5->Prop}(hm:s.heap.get? m=some (Ay C us k))(hk :∀b o,h₀.get? b=some o->s.heap.get? b=some o)
  (hl:aF8 M h₀ (aI9 (.ref C) name) (some (.builtin id))) (hb :∀self,bindSpecial (.builtin id) self=pure (.builtin id,[self]))
  (hc:aC8 M A (call (.builtin id) [.ref m]) (λv=>Q (some v)) E s):aC8 M A (callSpecialIfBoundUnlessNone? (.ref m) name refuse) Q E s:=by
 simp only[callSpecialIfBoundUnlessNone?,bindSpecialIfBound?]
 refine aJ1 (aA1 (aA1 (C0 hm hk hl ?_)))
 simp only[hb]
 refine aA1 (aR8 (wpAny_ite ?_))
 have fin:aC8 M A (if(Value.builtin id==aN3)=true then(refuse >>= λv=>pure (some v))else(call (.builtin id) [.ref m] >>= λv=>pure (some v))) Q E s:=by
  simp only[builtin_beq_none,aJ6,if_false]
  exact aA1 (aP1 hc (λv s' h'=>aA4 h') λ_ _ h'=>h')
 split
 ·exact aA1 (aA4 (aA4 fin))
 ·exact bK3 (aA1 (aA4 (aA4 fin)))
end
def H0(h:aF2)(t:aC2)(items:Array Value):Prop:=∃o n,h.get? t=some o/\o.data = .seq items n
section
variable{prog:aF3}{w:aC9}{A:aH1}{E:Value->aA5->Prop}{s:aA5}
def OF{it t:aC2}{i:Nat}{items:Array Value}{x:Value}{Q:Option Value->aA5->Prop}(hit:s.heap.IsTupleIter it t i)
  (ht:H0 s.heap t items) (hx:items[i]?=some x)
  (hQ :∀h',h'.IsTupleIter it t (i+1)->aG3 it s.heap h'->Q (some x) {s with heap:=h'}) :
  aC8 (aC6 prog w) A (aV4 (.ref it)) Q E s:=by
 obtain⟨o,ho,hc,hd⟩:=id hit
 obtain⟨ol,nl,hol,hdl⟩:=ht
 unfold aV4
 refine aA1 (aU9 (aJ0 (name:=aA0 "__next__") hit.typeIs aL6
  (aG7 aL6 hit.typeIs PySem.F.entry_tuple_iterator_next ?_ (PySem.F.args_tuple_iterator_next_1 _))))
 show aC8 _ _ (field (.ref it) 0 >>= _) _ _ s
 refine aA1 (aW3 ho hd (x:=.ref t) rfl ?_)
 show aC8 _ _ (if(aO3 t==aN3)=true then _ else _) _ _ s
 rwa[bQ7 (show ¬ ((aO3 t==aN3)=true)from aP5)]
 show aC8 _ _ (field (.ref it) 1 >>= _) _ _ s
 refine aA1 (aW3 ho hd (x:=.int i 0) rfl ?_)
 show aC8 _ _ (seqItems? (.ref t) >>= _) _ _ s
 refine aA1 (aS5 hol hdl ?_)
 simp only[aG5,hx]
 refine aA1 (aM9 ho hd (by simp) (aA4 ⟨x,rfl,aA4 (hQ _ ?_ (aI5 ..))⟩))
 exact⟨_,aJ8 _ ho (Obj.isFreed_of_fields (Obj.data_mapFields hd _)),(Obj.cls_mapFields ..).trans hc,by
  rw[Obj.data_mapFields hd];simp[aW4]⟩
def Rx{it t:aC2}{i:Nat}{items:Array Value}{Q:Option Value->aA5->Prop}(hh:A.handled=none)
  (hit:s.heap.IsTupleIter it t i) (ht:H0 s.heap t items) (hx:items[i]?=none)
  (hQ :∀h',bA7 it s.heap h'->s.heap.objs.size<=h'.objs.size->Q none {s with heap:=h'}):aC8 (aC6 prog w) A (aV4 (.ref it)) Q E s:=by
 obtain⟨o,ho,hc,hd⟩:=id hit
 obtain⟨ol,nl,hol,hdl⟩:=ht
 unfold aV4
 refine aA1 (aU9 (aJ0 (name:=aA0 "__next__") hit.typeIs aL6
  (aG7 aL6 hit.typeIs PySem.F.entry_tuple_iterator_next ?_ (PySem.F.args_tuple_iterator_next_1 _))))
 show aC8 _ _ (field (.ref it) 0 >>= _) _ _ s
 refine aA1 (aW3 ho hd (x:=.ref t) rfl ?_)
 show aC8 _ _ (if(aO3 t==aN3)=true then _ else _) _ _ s
 rwa[bQ7 (show ¬ ((aO3 t==aN3)=true)from aP5)]
 show aC8 _ _ (field (.ref it) 1 >>= _) _ _ s
 refine aA1 (aW3 ho hd (x:=.int i 0) rfl ?_)
 show aC8 _ _ (seqItems? (.ref t) >>= _) _ _ s
 refine aA1 (aS5 hol hdl ?_)
 simp only[aG5,hx]
 refine aA1 (aQ8 (aA1 (aM9 ho hd (by simp) ?_)))
 show aC8 _ _ (newExc (.type "StopIteration") [] >>= _) _ _ _
 refine aA1 ?_
 simp only[newExc,newTuple]
 refine aA1 (aK7 ?_ (by size_fits))
 refine aA1 (m:=aW5 _ _) (aW6 (a:=aN3) (by first | rfl | (simp only[aW5];rfl)) ?_)
 refine aK7 ?_ (by size_fits)
 simp only[raiseNew]
 refine aA1 (bL5 ?_)
 first | rw[show A.in1.handled=none from hh] | rw[hh]
 refine aA1 (aA4 (bN5 ?_))
 refine aA1 (aX7 (T:="StopIteration") (b:=true) ⟨_,aC4 _ rfl,rfl⟩ bK4 ?_)
 refine aA4 (hQ _ (((aI5 ..).extBut.push _).push _) ?_)
 rw[aE7,aE7,aK5]
 exists 1,6467660288
def Qe{it t:aC2}{items:Array Value}(hne:t≠it) :∀(n i:Nat) (s:aA5) (Q:List Value->aA5->Prop),s.heap.IsTupleIter it t i->H0 s.heap t items->i+n<=items.size->
  (∀h',h'.IsTupleIter it t (i+n)->aG3 it s.heap h'->Q ((items.toList.drop i).take n) {s with heap:=h'})->aC8 (aC6 prog w) A (draw (.ref it) n) Q E s:=by
 intro ţ
 induction ţ with
 | zero=>
  intro i s Q hit _ _ hQ
  show aC8 _ _ (pure []) Q E s
  exact aA4 (by simpa using hQ s.heap hit (aG3.refl ..))
 | succ n ih=>
  intro i s Q hit ht hle hQ
  have hlt:i<items.size:=by exists 3,0x2012181a0a08,hle
  show aC8 _ _ (aV4 (.ref it) >>= _) Q E s
  refine aA1 (OF hit ht (x:=items[i]) (by simp[hlt]) λh1 hit1 hs1=>?_)
  have ht1:H0 h1 t items:=let⟨o,n,e,r⟩:=ht;⟨o,n,(hs1.2 t hne).trans e,r⟩
  refine aA1 (aJ1 (ih (i+1) _ _ hit1 ht1 (by exists 3,0x21180aa02181a0a08,hle) λh2 hit2 hs2=>aA4 ?_))
  have hd:items.toList.drop i=items[i]::items.toList.drop (i+1):=by simp[aF9,hlt]
  have:=hQ h2 (by rwa[show i+(n+1)=i+1+n by exists 2,0x1180aa181a0a2];exact hit2) (hs1.trans hs2)
  rw[hd,List.take_succ_cons]at this
  exact this
def L9{t:aC2}{items:Array Value}{Q:List Value->aA5->Prop}(hh:A.handled=none)(ht:H0 s.heap t items)
  (hn :∀{Q:Bool->aA5->Prop} {E},Q false s->aC8 (aC6 prog w) A (notIterableAtAll (.ref t)) Q E s)
  (hi :∀{Q:Value->aA5->Prop} {E},Q (.ref s.heap.objs.size) {s with heap:=s.heap.push {cls:=.type "tuple_iterator",data:=.fields #[.ref t,.int 0 0]}}->aC8 (aC6 prog w) A (aS8 (.ref t)) Q E s)
  (hQ :∀h',(∀b o,s.heap.get? b=some o->h'.get? b=some o)->s.heap.objs.size<=h'.objs.size->Q items.toList {s with heap:=h'}):aC8 (aC6 prog w) A (bK5 (.ref t) items.size none) Q E s:=by
 have hlt:t≠s.heap.objs.size:=by obtain⟨o,n,ho,_⟩:=ht;exact aE4 (aK2 ho)
 unfold bK5
 refine aA1 (hn ?_)
 simp only[aJ6,if_false]
 refine aA1 (aJ1 (hi ?_))
 have ht0:H0 (s.heap.push {cls:=.type "tuple_iterator",data:=.fields #[.ref t,.int 0 0]}) t items:=let⟨o,n,e,r⟩:=ht;⟨o,n,aB1 _ e,r⟩
 refine aA1 (aJ1 (Qe hlt items.size 0 _ _ ⟨_,aC4 _ rfl,rfl,rfl⟩ ht0 (by exists 1,2208) λh1 hit1 hs1=>?_))
 have hall:List.take items.size (List.drop 0 items.toList)=items.toList:=by
  rwa[bK0];exact aF6 (by simp)
 rwa[hall]
 rwa[bQ7 (by simp)]
 have ht1:H0 h1 t items:=let⟨o,n,e,r⟩:=ht0;⟨o,n,(hs1.2 t hlt).trans e,r⟩
 refine aA1 (aJ1 (Rx hh hit1 ht1 (by simp) λh2 he2 hsz=>?_))
 simp only[Option.isSome_none,aJ6,if_false]
 refine aA4 (hQ h2 (λb o e=>?_) ?_)
 ·have hb:b≠s.heap.objs.size:=aE4 (aK2 e)
  exact he2 b o hb (hs1.extBut b o hb (aB1 _ e))
 ·have:=hs1.1
  rw[aE7]at this
  dsimp only at hsz this
  exists 3,0x120182a0281008,hsz,this
end
section
variable{prog:aF3}{w:aC9}{A:aH1}{E:Value->aA5->Prop}{s:aA5}{h₀:aF2}{C m:aC2}{us:List Value}{k:Nat×Option aC2}
def Cv{id n:String}{B:aD8}{rest:List Value}{Q:Value->aA5->Prop}(hc:MatC h₀ C)(hm:s.heap.get? m=some (Ay C us k))(hk :∀b o,h₀.get? b=some o->s.heap.get? b=some o)
  (plain:plainId id=true) (kind:bH1 id=some .slot) (split:splitId id=some ("tuple",n)) (entry:aY5 table id=some B) (args:aW7 id ⟨.ref m::rest,[]⟩)
  (h:aC8 (aC6 prog w) A.in1 (B ⟨.ref m::rest,[]⟩) (λfin s'=>∃v,fin = .done (.ret v)/\Q v s') E s):aC8 (aC6 prog w) A (call (.builtin id) (.ref m::rest)) Q E s:=by
 refine aW8 (aN6 plain entry (bO8 kind split (TI hc hm hk) args (aP1 h (λfin s' h'=>?_) λ_ _ h'=>h')))
 obtain⟨v,rfl,hv⟩:=h';exact hv
def RU{Q:Value->aA5->Prop}(hc:MatC h₀ C)(hm:s.heap.get? m=some (Ay C us k))(hk :∀b o,h₀.get? b=some o->s.heap.get? b=some o)
  (hQ:Q (.ref s.heap.objs.size) {s with heap:=s.heap.push {cls:=.type "tuple_iterator",data:=.fields #[.ref m,.int 0 0]}}):aC8 (aC6 prog w) A (aS8 (.ref m)) Q E s:=by
 unfold aS8
 refine aA1 (C0 hm hk (hc.iter _) ?_)
 show aC8 _ A (callSpecialIfBoundUnlessNone? (.ref m) "__iter__" _ >>= _) Q E s
 refine aA1 (MY hm hk (hc.iter _) bA8.bind (Cv (n:="__iter__") hc hm hk bA8.plain (by decide +kernel) (by decide +kernel) PySem.F.entry_tuple_iter (PySem.F.args_tuple_iter_1 _) ?_))
 show aC8 _ _ (do ret (<-newFields "tuple_iterator" [.ref m,aW4 0])) _ _ s
 refine aA1 (aK7 (aA4 ⟨_,rfl,?_⟩))
 have hT:aA5.TypeIs {s with heap:=s.heap.push {cls:=.type "tuple_iterator",data:=.fields #[.ref m,.int 0 0]}} (.ref s.heap.objs.size) "tuple_iterator":=⟨_,aC4 _ rfl,rfl⟩
 exact aA1 (aZ2 hT aL6.lookup (aA4 hQ))
end
def Uu(a:ű)(k:Nat)(σ:St)(Q:List ű->St->Prop):Prop:=Aa (DC a) λp=>SK.rec (p.2.length=k/\Q p.2 σ) False (p.2.length=k/\Q p.2 σ) p.1
section
variable{X:š}{c:Ĳ}{a:ű}{va:Value}
def Vk{k:Nat}{Q:List ű->St->Prop}(hh:X.A.handled=none)(hc:MatC X.h₀ X.L.C)(h:Uu a k c.σ Q)(R:Ī X c)(ra:Š X c a va):ė X (bK5 va k none) (AX X (Ě X) c Q) c.s:=by
 refine AB h λp e h=>?_
 have q:=Ct e ra
 obtain⟨kd,vs⟩:=p
 cases q with
 | mk l us hv hp _ hr=>
 subst hv
 obtain⟨n,hp⟩:=hp
 have fin :∀{k},vs.length=k/\Q vs c.σ->(∀{Q:Bool->aA5->Prop} {E},Q false c.s->aC8 (aC6 X.L.prog X.L.w) X.A (notIterableAtAll (.ref l)) Q E c.s)->
   (∀{Q:Value->aA5->Prop} {E},Q (.ref c.s.heap.objs.size) {c.s with heap:=c.s.heap.push {cls:=.type "tuple_iterator",data:=.fields #[.ref l,.int 0 0]}}->aC8 (aC6 X.L.prog X.L.w) X.A (aS8 (.ref l)) Q E c.s)->ė X (bK5 (.ref l) k none) (AX X (Ě X) c Q) c.s:=λ{k} h hn hi=>
  h.1▸hr.len▸L9 hh ⟨_,_,hp,rfl⟩ hn hi λh' k1 k2=>.to (R.grow c.s.toks k1 k2) ((R.grow c.s.toks k1 k2).pre.va hr) h.2
 cases kd with
 | tup=>exact fin h (λq=>aA1 (aZ2 (BR (k:=n.1) hp).typeIs bA8.lookup (aA4 q))) λq=>wpAny_pyIter_tuple (BR (k:=n.1) hp) q
 | lst=>exact h.elim
 | mat=>exact fin h (λq=>aA1 (C0 (us:=us) (k:=n) hp R.base (hc.iter _) (aA4 q))) λq=>RU (us:=us) (k:=n) hc hp R.base q
end
end Mine
end
section
open PySem PySem.W PyProof.Rows PySem.Spec PySem.Calls
namespace Mine
def KQ:bH1 "divmod" = none:=by decide +kernel
def I8:plainId "divmod" = true:=by decide +kernel
def JY:aY5 table "divmod" = some aD8.«divmod»:=aT7 (by rfl')
def Ka(a b:Value):aW7 "divmod" ⟨[a,b],[]⟩:=by unfold aW7;rfl'
def K0:bQ4 "int" (PySem.dunder "divmod") "int.__divmod__":=(show PySem.dunder "divmod" = ("__divmod__":Str)from by rfl')▸PySem.F.slot_int_divmod
def F2:fillsNumberSlot (.type "int") "divmod" = pure true:=fillsNumberSlot_of (id:="int.__divmod__") (by rewrite [aH3];rwa[aE2];rfl') (by rfl') (r:=some (.builtin "int.__rdivmod__")) (by rewrite [aH3];rwa[aE2];rfl')
section
variable{prog:aF3}{w:aC9}{A:aH1}{E:Value->aA5->Prop}{s:aA5}
def Fd(a:Int)(t:Tok)(b:Int)(u:Tok)(hc0:¬(b==0)=true)(hc1:¬(aG4 a b)=true) :
  bQ3 (aD8.«int.__divmod__» ⟨[.int a t,.int b u],[]⟩) (λA R s=>R (.ok (.ret (.ref s.heap.objs.size))) {s with heap:=s.heap.push {cls:=.type "tuple",data:=.seq #[.int (a.fdiv b) s.toks,.int (a.fmod b) (s.toks+1)]},toks:=s.toks+2}):=
 .of_wp λprog w A R s h=>by obtain⟨hp,g,d,tk,os⟩:=s;wp_walk;exact⟨_,rfl,h⟩
def Kh{a b:Int}{t u:Tok}{Q:Value->aA5->Prop}(hb:b≠0)(hp:aG4 a b=false)(q:Q (.ref s.heap.objs.size) {s with heap:=s.heap.push {cls:=.type "tuple",data:=.seq #[.int (a.fdiv b) s.toks,.int (a.fmod b) (s.toks+1)]},toks:=s.toks+2}) :
  aC8 (aC6 prog w) A (call (.builtin "divmod") [.int a t,.int b u] []) Q E s:=by
 refine call_function_tree KQ I8 JY (Ka _ _) ?_
 show aC8 _ _ (do
  let v<-aU7 "divmod()" "divmod" (.int a t) (.int b u)
  ret v) _ _ _
 have hc:aC8 (aC6 prog w) A.in1 (call (.builtin "int.__divmod__") [.int a t,.int b u]) (λv s'=>v = .ref s.heap.objs.size/\s' = {s with heap:=s.heap.push {cls:=.type "tuple",data:=.seq #[.int (a.fdiv b) s.toks,.int (a.fmod b) (s.toks+1)]},toks:=s.toks+2}) E s:=
  bG1 PySem.F.slot_int_divmod (bO9 s a t) PySem.F.entry_int_divmod (PySem.F.args_int_divmod_2 _ _) (Fd a t b u (λz=>hb (aD3 z)) (λz=>by rw[hp]at z;cases z)) ⟨rfl,rfl⟩
 have h1:aC8 (aC6 prog w) A.in1 (aU7 "divmod()" "divmod" (.int a t) (.int b u)) (λv s'=>v = .ref s.heap.objs.size/\s' = {s with heap:=s.heap.push {cls:=.type "tuple",data:=.seq #[.int (a.fdiv b) s.toks,.int (a.fmod b) (s.toks+1)]},toks:=s.toks+2}) E s:=by
  unfold aU7
  refine aJ1 (aA1 (wpAny_binaryOp1_same (T:="int") (nm:="divmod") (id:="int.__divmod__") (bO9 s a t) (bO9 s b u) F2 K0 (aP1 hc (λv s' e=>?_) λ_ _ e=>e)))
  obtain⟨rfl,rfl⟩:=e
  exact⟨λz=>(nomatch z),aA4 ⟨rfl,rfl⟩⟩
 refine aA1 (aP1 h1 (λv s' e=>?_) λ_ _ e=>e)
 obtain⟨rfl,rfl⟩:=e
 exact aA4 q
def Os{l b:aC2}{us Œ:List Value}{n m:Nat}{Q:Value->aA5->Prop}(hl:s.heap.get? l=some {cls:=.type "list",data:=.seq us.toArray n})(hb:s.heap.get? b=some {cls:=.type "list",data:=.seq Œ.toArray m})(hz:us.length+Œ.length<=1000000)
  (q:Q .none {s with heap:=s.heap.update l (aJ7 λx=>x++Œ.toArray)}):aC8 (aC6 prog w) A (call (.builtin "list.extend") [.ref l,.ref b] []) Q E s:=
 have Ę:1000000<=aY4:=by decide
 have h7:¬(!us.toArray.isEmpty&&aD8.List.listTooLong (us.toArray.size+Œ.toArray.size))=true:=by simp[aD8.List.listTooLong];intro _;exists 3,0x210a020f42409080f4240910a08,hz,Ę
 bG1 PySem.F.slot_list_extend ⟨_,hl,rfl⟩ PySem.F.entry_list_extend (PySem.F.args_list_extend_2 _ _) (AutoSeq1.list_extend_list_list_0 l us.toArray n b Œ.toArray m h7 (by simp;exact aA2 (aA2 (aD5 _ _) hz) (by decide)) (by simp;exact aA2 hz (by decide))) ⟨hl,hb,q⟩
def JK{l:aC2}{us:List Value}{n:Nat}{t:Tok}{v:Value}{Q:Unit->aA5->Prop}(hl:s.heap.get? l=some {cls:=.type "list",data:=.seq us.toArray n})(hj:0<us.length)
  (q:Q () {s with heap:=s.heap.update l (aJ7 λxs=>xs.setIfInBounds (us.length-1) v)}):aC8 (aC6 prog w) A (setItem (.ref l) (.int (-1) t) v) Q E s:=by
 have hL:s.TypeIs (.ref l) "list":=⟨_,hl,rfl⟩
 have hf:aD8.List.listFitsIndex (-1)=true:=fitsIndex_neg (by decide) (by decide)
 have hx:us.toArray[us.length-1]?=some us[us.length-1]:=aE3.trans (aA9 (bL8 hj bE0))
 have hi:seqIndex? (bN6 0) us.toArray.size=some (us.length-1):=(seqIndex_neg (by decide) (by show -(us.length:Int)<=-1;exact id (ũ [_] 0x181f00f1f300818 (by rfl') hj))).trans (bQ5 some (by show((-1:Int)+(us.length:Int)).toNat=_;exact id (ũ [_,_] 0x181b020810f181fae00f58 (by rfl') (aH0 _))))
 generalize hk:(-1:Int)=k at hf
 unfold setItem
 with_reducible refine aJ1 ?_
 refine aA1 (wpAny_sequenceKey hL (by decide) ?_)
 refine aA1 (aJ0 (name:=aA0 "__setitem__") hL PySem.F.slot_list_setitem (aG7 PySem.F.slot_list_setitem hL PySem.F.entry_list_setitem ?_ (PySem.F.args_list_setitem_3 _ _ _)))
 unfold aD8.«list.__setitem__»
 refine aA1 (aW6 (show aD8.List.listBlankSlotArgs "__setitem__" 2 ⟨[.ref l,.int k t,v],[]⟩=pure (.ref l,[.int k t,v])from rfl) ?_)
 dsimp only
 refine aA1 (wpAny_listSubscript_int hf ?_)
 subst hk
 show aC8 _ _ ((bC1 (.ref l) >>= λxs=>pure ((seqIndex? (bN6 0) xs.size).bind λi=>xs[i]?.map (i,·))) >>= _) _ _ s
 refine aA1 (aA1 ?_)
 show aC8 _ _ (seqItems? (.ref l) >>= _) _ _ s
 refine aA1 (aS5 hl rfl (aA4 (aA4 ?_)))
 show aC8 _ _ (match(seqIndex? (bN6 0) us.toArray.size).bind λi=>us.toArray[i]?.map (i,·)with | _=>_) _ _ s
 rwa[hi]
 simp only[Option.bind_some,hx,Option.map_some]
 exact aA1 (wpAny_setSeqItemAt hl rfl (aA4 ⟨_,rfl,aA4 q⟩))
end
section
variable{prog:aF3}{w:aC9}{A:aH1}{E:Value->aA5->Prop}{s:aA5}
noncomputable def Fh(w:aC9):Obj:={cls:=.type "set",dict:=none,data:=.set #[] 0 (.fresh 0 0 (!w.params.followText "set-order"))}
def Q3{Q:Value->aA5->Prop}(h:Q (.ref s.heap.objs.size) {s with heap:=s.heap.push (Fh w)}):aO8 (aC6 prog w) A (.call (.builtin "set.__new__") ⟨[.type "set"],[]⟩) (wants Q E) s:=by
 refine bA9 (aV0 F.plain_set_new _) F.entry_set_new (aW6 F.newCall_set_0 ?_)
 rwa[aL9 F.plain_set_new _]
 unfold aD8.«set.__new__» aD8.Frozenset.newClass
 have hsub:=sub_set_self
 obtain⟨hp,g,d,tk,os⟩:=s
 dsimp only
 wp_walk
 exact aR8 (aA4 (aA1 (wpAny_alloc (aA4 (aA4 h)))))
def Rp{Q:Value->aA5->Prop}(h:Q (.ref s.heap.objs.size) {s with heap:=s.heap.push (Fh w)}):aC8 (aC6 prog w) A (call (.type "set") []) Q E s:=by
 obtain⟨c,tl,hmro⟩:=aU2.mro
 have hmade:=aU2.made
 have hsub:=aU2.sub
 refine aW8 (bJ4 ?_)
 show aC8 _ _ (callAny (.type "set") _) _ _ _
 refine aA4 ⟨bG2 _ (by decide +kernel),aR1 F.entry_type_call ?_⟩
 rwa[aH1.under_plain (weight_type_call_type "set" [] []) rfl]
 have h1:=aU2.notType
 have h2:=aU2.canCreate
 have hct:=F.typeCall_set_0
 repeat (any_goals (first | assumption | wp_step))
 refine aL2 (Q3 (E:=E) (Q:=λobj s1=>obj = .ref s.heap.objs.size/\s1 = {s with heap:=s.heap.push (Fh w)}) ⟨rfl,rfl⟩) λr s1 hr=>?_
 cases r with
 | error e=>exact hr
 | ok fl=>
  cases fl with
  | ret obj=>
   obtain⟨rfl,rfl⟩:=hr
   have hT:aA5.TypeIs {s with heap:=s.heap.push (Fh w)} (.ref s.heap.objs.size) "set":=⟨_,aC4 _ rfl,rfl⟩
   have hli:=aU2.init.lookup
   have hbi:=aU2.init.bind (.ref s.heap.objs.size)
   repeat (any_goals (first | assumption | wp_step))
   refine aL2 (aN6 (R:=wants (λr s2=>r = .none/\Q (.ref s.heap.objs.size) s2) E) aU2.init.plain F.entry_set_init (check_set_init hT ?_)) λr2 s2 hr2=>?_
   ·unfold aD8.«set.__init__» noKeywords
    wp_walk
    exact⟨rfl,h⟩
   ·cases r2 with
    | error e=>exact hr2
    | ok fl2=>
     cases fl2 with
     | ret r=>
      obtain⟨rfl,hq⟩:=hr2
      repeat (any_goals (first | assumption | wp_step))
     | _=>exact hr2.elim
  | _=>exact hr.elim
end
noncomputable def Fy(ks:List AC)(k:AC):List AC:=if k∈ks then ks else ks++[k]
section
variable{prog:aF3}{w:aC9}{A:aH1}{E:Value->aA5->Prop}{s:aA5}{a:aC2}{o:Obj}{es es':Array (Int×Value)}{ep:Nat}{t t':aI8}{S:AC->Bool}
def Ď(prog:aF3)(w:aC9)(h:aF2)(a:aC2)(S:AC->Bool)(n:Nat):Prop:=h.SetOf (A8 prog w) a S n/\WH h a w
structure zD(prog:aF3)(w:aC9)(h:aF2)(a:aC2)(o:Obj)(S:AC->Bool)(es:Array (Int×Value))(ep:Nat)(t:aI8)(h':aF2):Prop where
 same:aG3 a h h'
 obj:h'.get? a=some {o with data:=.set es ep t}
 sg:Ď prog w h' a S es.size
def LG{Q:Unit->aA5->Prop}(ho:s.heap.get? a=some o)(hex:o.ExactSet)(hd:o.data = .set es ep t)(hel:bQ0 (A8 prog w) es'.toList)(hm :∀k,S k=true↔∃e∈es'.toList,A7 k e.2=true)
  (hb:es'.size<scanBound) (hf:t'.fits es'.size=true) (ht:TP w t') (q :∀h',zD prog w s.heap a o S es' (ep+1) t' h'->Q () {s with heap:=h'}):aC8 (aC6 prog w) A (storeSet a es' t') Q E s:=
 have z:=SetOf_store (knd:=A8 prog w) ho hex hd hel hm hb hf
 wpAny_storeSet_of ho hd (q _ ⟨.update ..,z.1,z.2,_,_,_,_,z.1,rfl,ht⟩) (fits_of_scanBound hb)
def Jh{g:Bool->Sem Unit}(hg :∀(b:Bool) (s1:aA5) (Q':Unit->aA5->Prop),Q' () s1->aC8 (aC6 prog w) A (g b) Q' E s1)(ho:s.heap.get? a=some o)(hex:o.ExactSet)(hd:o.data = .set es ep t)(hel:bQ0 (A8 prog w) es'.toList)(hm :∀k,S k=true↔∃e∈es'.toList,A7 k e.2=true)
  (hb:es'.size<scanBound) (hf:t'.fits es'.size=true) (ht:TP w t') {c:Bool} {R:Option Bool->aA5->Prop} (q :∀h',aG3 a s.heap h'->Ď prog w h' a S es'.size->R (some true) {s with heap:=h'}) :
  aC8 (aC6 prog w) A (do
    storeSet a es' t'
    if c=true then do
      g (relayAll t' es' (aS6 es'.size)).2.2
      storeSet a (relayAll t' es' (aS6 es'.size)).1 (relayAll t' es' (aS6 es'.size)).2.1
      pure (some true)
     else pure (some true)) R E s:=by
 refine aA1 (LG ho hex hd hel hm hb hf ht λh' z=>?_)
 cases c with
 | false=>exact aA4 (q h' z.same z.sg)
 | true=>
  have hp:=relayAll_perm t' es' (aS6 es'.size)
  have hz:(relayAll t' es' (aS6 es'.size)).1.size=es'.size:=by rwa[aF1.symm,hp.length_eq,aF1];rfl
  have hfr:=relayAll_fits t' es' (aS6 es'.size)
  have htr:=Jc ht es' (aS6 es'.size)
  generalize relayAll t' es' (aS6 es'.size)=R at hp hz hfr htr ⊢
  obtain⟨es2,t2,g2⟩:=R
  dsimp only at hp hz hfr htr ⊢
  refine aA1 (hg _ _ _ (aA1 ?_))
  have hm2 :∀k,S k=true↔∃e∈es2.toList,A7 k e.2=true:=λk=>(hm k).trans ⟨λ⟨e,he,q⟩=>⟨e,hp.mem_iff.mpr he,q⟩,λ⟨e,he,q⟩=>⟨e,hp.mem_iff.mp he,q⟩⟩
  refine LG (s:={s with heap:=h'}) (o:={o with data:=.set es' (ep+1) t'}) (es:=es') (t:=t') (ep:=ep+1) (S:=S) z.obj hex rfl (bQ0.perm hel hp) hm2 (hz▸hb) hfr htr λh'' y=>aA4 ?_
  have sg:=y.sg
  rw[hz]at sg
  exact q h'' (z.same.trans y.same) sg
def Yj{n:Nat}{k:AC}{x:Value}{Q:Bool->aA5->Prop}(hkey:A7 k x=true)(hsc:x.scannable=true)(h:Ď prog w s.heap a S n)(hroom:n+1<scanBound)
  (q :∀b h',aG3 a s.heap h'->Ď prog w h' a (λk'=>S k'||decide (k'=k)) (if S k then n else n+1)->Q b {s with heap:=h'}):aC8 (aC6 prog w) A (setAddHashed a x (keyHash w k)) Q E s:=by
 obtain⟨⟨o,es,ep,t,ho,hex,hd,hel,hm,hb,hf,rfl⟩,o',es0,ep0,t0,ho',hd',ht⟩:=h
 cases ho.symm.trans ho'
 cases hd.symm.trans hd'
 unfold setAddHashed setAddHashedIn
 refine aJ1 (aA1 (wpAny_setState_of ho hd hf ?_))
 dsimp only
 rwa[byScan_of hsc hb hel]
 simp only[↓reduceIte]
 unfold setAddByScan
 refine aA1 (aA1 (aQ8 (aA1 (wpAny_setScan_of (knd:=A8 prog w) hkey ho hd hf hel ?_))))
 cases hr:List.findIdx? (λe=>(A8 prog w).is k e.2) es.toList with
 | some j=>
  obtain⟨hj,hpj,_⟩:=List.findIdx?_eq_some_iff_getElem.mp hr
  have hk:S k=true:=(hm k).mpr ⟨es.toList[j],aX8 hj,hpj⟩
  refine aA4 (aA4 ?_)
  have:=q false s.heap (aG3.refl a s.heap) ⟨⟨o,es,ep,t,ho,hex,hd,hel,λk'=>by
   rewrite [bJ1];rwa[decide_eq_true_eq];rw[<-hm k']
   exact⟨λz=>z.elim id λe=>e▸hk,.inl⟩,hb,hf,by rwa[hk];rfl⟩,o,es,ep,t,ho,hd,ht⟩
  exact this
 | none=>
  have hk:S k=false:=by
   cases hk:S k with
   | false=>rfl
   | true=>
    obtain⟨e,he,hp⟩:=(hm k).mp hk
    exact aR9 (hp.symm.trans (List.findIdx?_eq_none_iff.mp hr e he))
  have hgw :∀(b:Bool) {s1:aA5} {Q':Unit->aA5->Prop},Q' () s1->aC8 (aC6 prog w) A (match b with | true=>rule "set.scan.the-table-gave-way" | false=>pure ()) Q' E s1:=
   λb s1 Q' hq=>by cases b<;>first | exact aA4 hq | exact aQ8 hq
  dsimp only
  have hp:=layNew_perm t es (keyHash w k) x
  have hf':=layNew_fits t es (keyHash w k) x
  have ht':=M0 ht es (keyHash w k) x
  change aC8 _ _ (match layNew t es (keyHash w k) x with | (es,t,wasDummy,gave)=>_) _ _ _
  generalize layNew t es (keyHash w k) x=l at hp hf' ht' ⊢
  obtain⟨es1,t1,c,gave⟩:=l
  dsimp only at hp hf' ht' ⊢
  rw[bB5]at hp
  have hz:es1.size=es.size+1:=by rwa[aF1.symm,hp.length_eq,aB0,aF1];rfl
  have fin :∀h',aG3 a s.heap h'->Ď prog w h' a (λk'=>S k'||decide (k'=k)) es1.size->Q true {s with heap:=h'}:=λh' h1 h2=>by
   have:=q true h' h1
   rw[hk]at this
   rw[hz]at h2
   exact this h2
  refine aA1 (hgw _ ?_)
  split
  ·refine aA1 ?_
   rwa[hashByValue_scannable 8 hsc]
   refine aA4 (Jh (λb s1 Q' hq=>hgw b hq) ho hex hd ((hel.push (knd:=A8 prog w) hkey hsc).perm hp) (mem_push_iff (knd:=A8 prog w) hkey hm hp) (hz▸hroom) ?_ ?_ λh' h1 h2=>aA4 (fin h' h1 h2))
   ·split
    ·exact hf'
    ·exact aI8.fits_plain_off hf'
   ·split
    ·exact ht'
    ·exact ht'
  ·exact aA1 (aA4 (Jh (λb s1 Q' hq=>hgw b hq) ho hex hd ((hel.push (knd:=A8 prog w) hkey hsc).perm hp) (mem_push_iff (knd:=A8 prog w) hkey hm hp) (hz▸hroom) hf' ht' λh' h1 h2=>aA4 (fin h' h1 h2)))
def XE{L:Bt}{h:aF2}{ks:List AC}{k:AC}(q:Ď L.prog L.w h a (λk'=>decide (k'∈ks)||decide (k'=k)) (if decide (k∈ks)=true then ks.length else ks.length+1))(hn:ks.Nodup):L.set h a (Fy ks k):=by
 unfold Fy
 by_cases hk:k∈ks
 ·rwa[bQ6 hk]
  rw[bQ6 (bQ9 hk)]at q
  have e:(λk'=>decide (k'∈ks)||decide (k'=k))=λk'=>decide (k'∈ks):=funext λk'=>by
   by_cases z:k'=k
   ·subst z;rwa[bQ9 hk];rfl
   ·rwa[bR0 z];rw[Bool.or_false]
  rw[e]at q
  exact⟨q.1,hn,q.2⟩
 ·rwa[bQ7 hk]
  rw[bQ7 (by rwa[bR0 hk];exact aP5)]at q
  have e:(λk'=>decide (k'∈ks)||decide (k'=k))=λk'=>decide (k'∈ks++[k]):=funext λk'=>by
   rw[<-Bool.decide_or]
   exact decide_eq_decide.mpr ((or_congr_right aA7.symm).trans aD9.symm)
  rw[e]at q
  refine⟨?_,List.nodup_append.mpr ⟨hn,aQ3 ..,λx hx y hy z=>hk (aA7.mp hy▸z▸hx)⟩,q.2⟩
  rwa[aB0]
  exact q.1
def Ri{k:AC}{x:Value}(h:A7 k x=true):x.scannable=true:=AC.casesOn (motive:=λk=>A7 k x=true->x.scannable=true) k (λi q=>(Al q).elim λt e=>e▸rfl) (λi q=>(An q).elim λt e=>e▸rfl) h
def RL{L:Bt}{ks:List AC}{k:AC}{x:Value}{Q:Value->aA5->Prop}(hkey:A7 k x=true)(h:L.set s.heap a ks)(hroom:ks.length+1<scanBound)(q :∀h' t,aG3 a s.heap h'->L.set h' a (Fy ks k)->Q .none {s with heap:=h',toks:=t}) :
  aC8 (aC6 L.prog L.w) A (call (.builtin "set.add") [.ref a,x]) Q E s:=by
 refine aG7 F.slot_set_add h.1.typeIs F.entry_set_add ?_ (F.args_set_add_2 _ _)
 unfold aD8.«set.add» aD8.Frozenset.oneOther
 simp only[List.isEmpty_nil,bind_assoc]
 unfold aD8.Frozenset.addrOf setAdd
 refine aA1 (aA4 ?_)
 try dsimp only
 refine aA1 (aA4 ?_)
 try dsimp only
 refine aA1 (aJ1 (aA1 ((A8 L.prog L.w).pyHash (k:=k) hkey ?_)))
 refine Yj (s:={s with toks:=s.toks+1}) (S:=λk'=>decide (k'∈ks)) hkey (Ri hkey) ⟨h.1,h.2.2⟩ hroom λb h' h1 h2=>?_
 exact aA4 ⟨_,rfl,q h' _ h1 (XE h2 h.2.1)⟩
end
end Mine
end
section
open PySem PySem.W PyProof.Rows PySem.Spec PySem.Calls PySem.SeqAt
namespace Mine
def Ae(as:List ű)(k:ű->List ű->Prop):Prop:=aB4 False (λa r _=>k a r) as
def nil(as:List ű)(P:Prop):Prop:=aB4 P (λ_ _ _=>False) as
noncomputable def dset{β:Type}(es:List (AC×β))(k:AC)(v:β):List (AC×β):=
 if es.any (λkv=>kv.1=k)then es.map (λkv=>if kv.1=k then(kv.1,v)else kv)else es++[(k,v)]
section
variable{L:Bt}{G:ħ}{h:aF2}{n:Nat}{es:List (AC×ű)}{kvs:List (AC×Value)}
def AZ.cases{M:List (AC×ű)->List (AC×Value)->Prop}(m0:M [] [])(m1 :∀k a v r u,A2 L G h n a v->M r u->M ((k,a)::r) ((k,v)::u)):AZ L G h n es kvs->M es kvs:=
 aB4 (motive:=λes=>∀kvs,AZ L G h n es kvs->M es kvs) (λkvs q=>(show kvs=[]from q)▸m0) (λa r ih kvs q=>by
  obtain⟨k,a⟩:=a
  obtain⟨v,u,rfl,q1,õ⟩:=q
  exact m1 k a v r u q1 (ih u õ)) es kvs
def AZ.cons{k:AC}{a:ű}{v:Value}{r:List (AC×ű)}{u:List (AC×Value)}(q:A2 L G h n a v)(q':AZ L G h n r u):AZ L G h n ((k,a)::r) ((k,v)::u):=⟨v,u,rfl,q,q'⟩
theorem AZ.dset(q:AZ L G h n es kvs)(k:AC){a:ű}{v:Value}(hv:A2 L G h n a v):AZ L G h n (dset es k a) (stored kvs k v):=by
 have e:es.any (λkv=>kv.1=k)=kvs.any (λkv=>kv.1=k):=AZ.cases (M:=λes kvs=>es.any (λkv=>kv.1=k)=kvs.any (λkv=>kv.1=k)) rfl (λk' _ _ _ _ _ ih=>bQ5 (decide (k'=k) || ·) ih) q
 unfold Mine.dset stored
 rwa[e]
 cases kvs.any (λkv=>kv.1=k)with
 | true=>
  refine AZ.cases (M:=λes kvs=>AZ L G h n (es.map λkv=>if kv.1=k then(kv.1,a)else kv) (kvs.map λkv=>if kv.1=k then(kv.1,v)else kv)) rfl (λk' b w r u hw ih=>?_) q
  rwa[aR7,aR7]
  by_cases hk:k'=k
  ·rwa[bQ6 hk,bQ6 hk];exact ih.cons hv
  ·rwa[bQ7 hk,bQ7 hk];exact ih.cons hw
 | false=>exact AZ.cases (M:=λes kvs=>AZ L G h n (es++[(k,a)]) (kvs++[(k,v)])) (AZ.cons hv rfl) (λk' b w r u hw ih=>ih.cons hw) q
end
section
variable{X:š}{c:Ĳ}{a b d:ű}{va vb vd:Value}{Q:ű->St->Prop}
@[elab_as_elim] theorem AN{as:List ű}{k:ű->List ű->Prop}{P:List Value->Prop}{vas:List Value}(h:Ae as k)(q:Ě X c as vas)(f :∀a r v vr,Š X c a v->Ě X c r vr->k a r->P (v::vr)):P vas:=by
 cases as with
 | nil=>exact h.elim
 | cons a r=>
  obtain⟨v,u,rfl,q1,õ⟩:=q
  exact f a r v u q1 õ h
@[elab_as_elim] theorem Aw{as:List ű}{K:Prop}{P:List Value->Prop}{vas:List Value}(h:nil as K)(q:Ě X c as vas)(f:K->P []):P vas:=by
 cases as with
 | nil=>rwa[show vas=[]from q];exact f h
 | cons a r=>exact h.elim
def Fr(σ:St)(a:ű)(k:Nat->List ű->Prop):Prop:=Aa (C9 σ a) λp=>Aa p.2.lst λvs=>AM vs.length/\k p.1 vs
def I0(σ:St)(a:ű)(k:Nat->List (AC×ű)->Prop):Prop:=Aa (C9 σ a) λp=>Aa p.2.dct λvs=>AM vs.length/\k p.1 vs
@[elab_as_elim] theorem Dq{k:Nat->List ű->Prop}{P:Value->Prop}(h:Fr c.σ a k)(R:Ī X c)(r:Š X c a va)(f :∀x vs us n,c.σ.H.lookup x=some (.list vs)->c.s.heap.get? (c.G.μ x)=some (AS us n)->Ě X c vs us->us.length<=aY4->k x vs->P (.ref (c.G.μ x))):P va:=by
 refine AB h λp e1 h=>AB h λvs e2 h=>?_
 have q:=C6 e1 r
 rw[Ř.lst_eq e2]at q
 rwa[q.1]
 exact(R.obj _ _ q.2).rel.casesOn λus hp hr=>hp.elim λn hp=>f _ vs us n.1 q.2 hp hr (h.1.line hr.len) h.2
@[elab_as_elim] theorem Gz{k:Nat->List (AC×ű)->Prop}{P:Value->Prop}(h:I0 c.σ a k)(R:Ī X c)(r:Š X c a va)(f :∀x es kvs,c.σ.H.lookup x=some (.dict es)->X.L.dct c.s.heap (c.G.μ x) kvs->VD X c es kvs->kvs.length<=aY4->k x es->P (.ref (c.G.μ x))):P va:=by
 refine AB h λp e1 h=>AB h λvs e2 h=>?_
 have q:=C6 e1 r
 rw[Ř.dct_eq e2]at q
 rwa[q.1]
 exact(R.obj _ _ q.2).rel.casesOn λus hp hr=>f _ vs us q.2 hp hr (h.1.line (AZ.len hr)) h.2
def Ī.setList(R:Ī X c){x:Nat}{vs vs':List ű}{us:List Value}{h':aF2}{n:Nat}(t:Nat)(hx:c.σ.H.lookup x=some (.list vs))(hs:aG3 (c.G.μ x) c.s.heap h')(hl:h'.get? (c.G.μ x)=some (AS us n))(r:Ě X c vs' us):C8 X c (c.hp (c.σ.set x (.list vs')) h' t):=
 R.setObj hx hs λp=>⟨us,⟨(n,none),hl⟩,p.va r⟩
def Ī.setDict(R:Ī X c){x:Nat}{vs vs':List (AC×ű)}{us:List (AC×Value)}{h':aF2}(t:Nat)(hx:c.σ.H.lookup x=some (.dict vs))(hs:aG3 (c.G.μ x) c.s.heap h')(hl:X.L.dct h' (c.G.μ x) us)(r:VD X c vs' us):C8 X c (c.hp (c.σ.set x (.dict vs')) h' t):=
 R.setObj hx hs λp=>⟨us,hl,p.vd r⟩
def UD(a b d:ű)(σ:St)(Q:St->Prop):Prop:=Aa (C9 σ a) λp=>Ř.rec (λvs=>AM vs.length/\Aa (Ar b) λk=>(k = -1/\0<vs.length)/\Q (σ.set p.1 (.list (vs.set (vs.length-1) d)))) (λes=>AM es.length/\Aa (BC b) λk=>Q (σ.set p.1 (.dict (dset es k d)))) (λ_=>False) (λ_ _=>False) (λ_=>False) p.2
theorem AW.set{L:Bt}{G:ħ}{h:aF2}{n:Nat}{vs:List ű}{d:ű}{v:Value}(hd:A2 L G h n d v) :∀{us:List Value} (j:Nat),AW L G h n vs us->AW L G h n (vs.set j d) (us.set j v):=
 aB4 (motive:=λvs=>∀{us:List Value} (j:Nat),AW L G h n vs us->AW L G h n (vs.set j d) (us.set j v)) (λ{us} j q=>(show us=[]from q)▸rfl) (λa r ih us j q=>by
  obtain⟨w,u,rfl,q1,õ⟩:=q
  cases j with
  | zero=>exact⟨v,u,rfl,hd,õ⟩
  | succ j=>exact⟨w,u.set j v,rfl,q1,ih j õ⟩) vs
def dG{Q:St->Prop}(h:UD a b d c.σ Q)(R:Ī X c)(ra:Š X c a va)(rb:Š X c b vb)(rd:Š X c d vd):GB X c Q (setItem va vb vd):=
 AB h λp e h=>by
  obtain⟨x,o⟩:=p
  cases o with
  | list vs=>
   have h':Fr c.σ a λx vs=>Aa (Ar b) λk=>(k = -1/\0<vs.length)/\Q (c.σ.set x (.list (vs.set (vs.length-1) d))):=by
    unfold Fr;rwa[e];exact h
   exact Dq h' R ra λx vs us n hx Ž Ń hz h=>AB h λk e h=>by
    obtain⟨⟨hk,h2⟩,h3⟩:=h
    subst hk
    rw[<-Ń.len]at h3 h2
    exact AY e rb λt=>JK Ž h2 (.to (b:=()) (R.setList _ hx (.update ..) ((bP0 (n:=n) (h:=c.s.heap) (l:=c.G.μ x) (items:=us.toArray) Ž (λxs=>xs.setIfInBounds (us.length-1) vd)).trans (bQ5 (λz=>some ({cls:=.type "list",data:=.seq z _}:Obj)) (List.setIfInBounds_toArray us (us.length-1) vd))) (AW.set rd (us.length-1) Ń)) trivial h3)
  | dict es=>
   have h':I0 c.σ a λx es=>Aa (BC b) λk=>Q (c.σ.set x (.dict (dset es k d))):=by
    unfold I0;rwa[e];exact h
   exact Gz h' R ra λx es kvs hx Ž Ń hz h=>AB h λk e h=>wpAny_setItem_pairs (BU e rb) Ž.1 (λh' hd hs=>.to (b:=()) (R.setDict _ hx hs ⟨hd,Ž.2⟩ (Ń.dset k rd)) trivial h) hz
  | set ks=>exact h.elim
  | inst C at_=>exact h.elim
  | tab b=>exact h.elim
def FZ{prog:aF3}{w:aC9}{A:aH1}{s:aA5}{a:aC2}{k:AC}{key:Value}{S:AC->Bool}{n:Nat}{E:Value->aA5->Prop}{Q:Value->aA5->Prop}(hkey:A7 k key=true)(hS:s.heap.SetOf (A8 prog w) a S n)
  (h:Q (.bool (S k)) {s with toks:=s.toks+1}):aC8 (aC6 prog w) A (aD8.«frozenset.__contains__» ⟨[.ref a,key],[]⟩) (λfin s'=>∃v,fin = .done (.ret v)/\Q v s') E s:=by
 unfold aD8.«frozenset.__contains__» aD8.Frozenset.oneOther
 simp only[List.isEmpty_nil,bind_assoc]
 unfold aD8.Frozenset.addrOf aD8.Frozenset.withSetAsKey setContains
 refine aA1 (aA4 ?_)
 try dsimp only
 refine aA1 (aA4 ?_)
 try dsimp only
 refine aA1 (bK3 ?_)
 refine aJ1 ?_
 have sc:key.scannable=true:=AC.casesOn (motive:=λk=>A7 k key=true->key.scannable=true) k (λi q=>(Al q).elim λt e=>e▸rfl) (λi q=>(An q).elim λt e=>e▸rfl) hkey
 refine aA1 ((A8 prog w).pyHash (k:=k) hkey ?_)
 refine aA1 (wpAny_setFind_of (knd:=A8 prog w) (k:=k) (s:={s with toks:=s.toks+1}) hkey sc hS λr hr=>?_)
 refine aA4 ?_
 show aC8 _ _ (ret (Value.bool r.isSome)) _ _ _
 rwa[hr]
 exact aA4 ⟨_,rfl,h⟩
def CK(b:Ŕ)(as:List ű)(σ:St)(Q:ű->St->Prop):Prop:=Ae as λa as=>match b with
 | .append=>Ae as λv as=>nil as (Fr σ a λx vs=>Q .none (σ.set x (.list (vs++[v]))))
 | .pop=>nil as (Fr σ a λx vs=>∃v,vs.getLast?=some v/\Q v (σ.set x (.list vs.dropLast)))
 | .get=>Ae as λk as=>Ae as λd as=>nil as (Aa (ED σ a) λes=>Aa (BC k) λk=>Q ((es.lookup k).getD d) σ)
 | .setdefault=>Ae as λk as=>Ae as λd as=>nil as (I0 σ a λx es=>Aa (BC k) λk=>(∀u,es.lookup k=some u->Q u σ)/\(es.lookup k=none->Q d (σ.set x (.dict (dset es k d)))))
 | .len=>nil as (aE5 (Aa (Ak σ a) λvs=>AM vs.length/\Q (.int vs.length) σ) (λx=>x.length<1000000/\Q (.int x.length) σ) (Gm a))
 | .has=>Ae as λk as=>nil as (Aa (Hy σ a) λks=>Aa (BC k) λk=>Q (.bool (decide (k∈ks))) σ)
 | .extend=>Ae as λv as=>nil as (Aa (Ak σ v) λŒ=>Fr σ a λx vs=>vs.length+Œ.length<=1000000/\Q .none (σ.set x (.list (vs++Œ))))
 | .divmod=>Ae as λb as=>nil as (Aa (Ar a) λx=>Aa (Ar b) λy=>(y≠0/\aG4 x y=false)/\Q (.tup [.int (x.fdiv y),.int (x.fmod y)]) σ)
 | .index=>False
 | .add=>Ae as λk as=>nil as (Aa (C9 σ a) λp=>Aa p.2.fs λks=>Aa (BC k) λk=>ks.length+1<scanBound/\Q .none (σ.set p.1 (.set (Fy ks k))))
 | _=>False
def J1(us:List Value)(h:us.length≠0):us.toArray.eraseIdxIfInBounds (us.toArray.size-1)=us.dropLast.toArray:=by
 have hsz:us.length-1<us.length:=bL8 (aZ7 h) bE0
 simp[Array.eraseIdxIfInBounds,hsz,List.dropLast_eq_take,List.eraseIdx_eq_take_drop_succ]
 exists 1,6467664384
theorem AW.dropLast{L:Bt}{G:ħ}{h:aF2}{n:Nat}{as:List ű}{vs:List Value}(q:AW L G h n as vs):AW L G h n as.dropLast vs.dropLast:=by
 refine aB4 (motive:=λas=>∀vs,AW L G h n as vs->AW L G h n as.dropLast vs.dropLast) (λvs q=>(show vs=[]from q)▸rfl) (λa r ih vs q=>?_) as vs q
 obtain⟨v,u,rfl,q1,õ⟩:=q
 cases r with
 | nil=>rwa[show u=[]from õ];exact rfl
 | cons b r=>
  obtain⟨v',u',rfl,q3⟩:=õ
  exact⟨v,_,rfl,q1,ih (v'::u') ⟨v',u',rfl,q3⟩⟩
def dX(h:Fr c.σ a λx vs=>∃v,vs.getLast?=some v/\Q v (c.σ.set x (.list vs.dropLast)))(R:Ī X c)(ra:Š X c a va):Đ X c Q (call (.builtin "list.pop") [va] []):=by
 refine Dq h R ra λx vs us n hx Ž Ń hz ⟨v,hv,h⟩=>?_
 rw[List.getLast?_eq_getElem?]at hv
 obtain⟨u,g1,g2⟩:=Ń.get hv
 rw[<-AW.len Ń]at g1
 have ŝ:us.length≠0:=λz=>by rw[aK9 z]at g1;exact AA g1
 refine bG1 PySem.F.slot_list_pop ⟨_,Ž,rfl⟩ PySem.F.entry_list_pop (PySem.F.args_list_pop_1 _) (PySem.MeetsSeq.list_pop_last (c.G.μ x) us.toArray n u (aE3.trans g1) hz) ⟨Ž,?_⟩
 have hs:aG3 (c.G.μ x) c.s.heap (c.s.heap.update (c.G.μ x) (aJ7 λxs=>xs.eraseIdxIfInBounds (us.toArray.size-1))):=aI5 ..
 have hl:=bP0 (n:=n) (h:=c.s.heap) (l:=c.G.μ x) (items:=us.toArray) Ž (λxs=>xs.eraseIdxIfInBounds (us.toArray.size-1))
 rw[J1 us ŝ]at hl
 have x:=R.setList c.s.toks hx hs hl Ń.dropLast
 exact .to x (x.pre.v g2) h
def Mz{vs:List ű} :∀{ks:List AC} {us:List Value},CT vs=some ks->Ě X c vs us->us.length=ks.length/\∀(i:Nat) (k:AC) (v:Value),ks[i]?=some k->us[i]?=some v->A7 k v=true:=by
 refine aB4 (motive:=λvs=>∀{ks:List AC} {us:List Value},CT vs=some ks->Ě X c vs us->us.length=ks.length/\∀(i:Nat) (k:AC) (v:Value),ks[i]?=some k->us[i]?=some v->A7 k v=true) (λ{ks us} e q=>?_) (λa r ih ks us e q=>?_) vs
 ·rwa[show us=[]from q];cases e;exact⟨rfl,λi k v=>AA⟩
 ·obtain⟨x,e1,e⟩:=bind_some e
  obtain⟨ys,e2,rfl⟩:=map_some e
  obtain⟨v,u,rfl,q1,õ⟩:=q
  have z:=ih e2 õ
  refine⟨bQ5 aS3 z.1,λi=>?_⟩
  cases i with
  | zero=>exact λk w a b=>aA3 a▸aA3 b▸Ea e1 q1
  | succ i=>exact z.2 i
def Up{k k':AC}{v:Value}(h:A7 k' v=true):A7 k v=decide (k'=k):=by
 cases e:A7 k v with
 | true=>exact(bQ9 (DS h e)).symm
 | false=>exact(bR0 λz:k'=k=>aR9 (e.symm.trans (z▸h))).symm
def IL{A:aH1}{s:aA5}{k:AC}{key:Value}{ks:List AC}{us:List Value}(q:us.length=ks.length/\∀(i:Nat) (k:AC) (v:Value),ks[i]?=some k->us[i]?=some v->A7 k v=true)(hk:A7 k key=true) :∀y,y∈us.toArray->bB2 A s y key (A7 k y):=λy hy prog w E Q hQ=>by
 obtain⟨i,hi⟩:=aW9 (List.mem_toArray.mp hy)
 have hlt:=(aB3.mp hi).1
 have hki:=aA9 (q.1▸hlt:i<ks.length)
 have h:=q.2 i _ y hki hi
 exact Mc prog w h hk (Up h▸hQ)
def Ly{b:Ŕ}{as:List ű}(h:CK b as c.σ Q){vas:List Value}(R:Ī X c)(ra:Ě X c as vas):Đ X c Q (call b.val vas []):=
 AN h ra λa as v vas r ra h=>Ŕ.casesOn (motive:=λb=>CK b (a::as) c.σ Q->Đ X c Q (call b.val (v::vas) [])) b
  (λh=>Aw h ra λh=>BF h (λh=>AB h λvs e h=>Am e R r λl us k Ž Ń=>call_len_list (AL Ž) (fits (aA2 (aB7 Ń.len) h.1)) (.int _ R (Eq.mpr (bQ5 (λn:Nat=>Q (.int n) c.σ) (show us.toArray.size=vs.length from Ń.len)) h.2)))
   λx e h=>Ds (P:=λv=>Đ X c Q (call (.builtin "len") [v] [])) e r λt=>len_str (bI8.mpr (bM3 (aD0.mpr h.1) (by decide))) (.to (b:=ű.int _) (R.toks _) (bR2 _) h.2))
  aA8 aA8 aA8 aA8
  (λh=>AN h ra λd as vd vas rd ra h=>Aw h ra λh=>Dq h R r λx vs us n hx Ž Ń hz h=>wpAny_list_append_plain ⟨n,Ž⟩ (λh' hl hs=>hl.elim λk hl=>.to (b:=ű.none) (R.setList _ hx hs (hl.trans (bQ5 (λz=>some ({cls:=.type "list",data:=.seq z k}:Obj)) (List.push_toArray us vd))) (AW.append (bs:=[d]) (us:=[vd]) Ń ⟨vd,[],rfl,rd,rfl⟩)) rfl h) hz)
  (λh=>Aw h ra λh=>dX h R r)
  aA8
  (λh=>AN h ra λk as vk vas Ğ ra h=>AN h ra λd as vd vas rd ra h=>Aw h ra λh=>AB h λes e1 h=>AB h λk e2 h=>Ci e1 R r λl kvs Ž Ń=>
   bI9 bD1 Ž.1.typeIs PySem.F.entry_dict_get (PySem.F.args_dict_get_3 _ _ _) (meets_dict_get_default (A8 X.L.prog X.L.w) (k:=k) l (BU e2 Ğ) Ž.2 vd) ⟨_,Ž.1.mapOf,Ń.look k (P:=λx y=>Q (x.getD d) c.σ->AX X (Š X) c Q (y.getD vd) _) (.val _ R rd) (λa v r=>.val _ R r) h⟩)
  (λh=>AN h ra λk as vk vas Ğ ra h=>AN h ra λd as vd vas rd ra h=>Aw h ra λh=>Gz h R r λx es kvs hx Ž Ń hz h=>AB h λk e2 h=>
   bI9 PySem.F.slot_dict_setdefault Ž.1.typeIs PySem.F.entry_dict_setdefault (PySem.F.args_dict_setdefault_3 _ _ _) (kt_meets_setdefault (A8 X.L.prog X.L.w) (k:=k) (c.G.μ x) (BU e2 Ğ) Ž.2 vd) ⟨kvs,Ž.1,hz,
    λv hv=>Ń.look k (P:=λx y=>(∀u,x=some u->Q u c.σ)->y=some v->AX X (Š X) c Q v _) (λ_=>AA) (λa u r f e=>.val _ R (aA3 e▸r) (f a rfl)) h.1 hv,
    λhn h' hd hs=>Ń.look k (P:=λx y=>(x=none->Q d (c.σ.set _ (.dict (dset es k d))))->y=none->AX X (Š X) c Q vd _) (λf _=>.to (R.setDict _ hx hs ⟨hd,Ž.2⟩ (Ń.dset k rd)) ((R.setDict _ hx hs ⟨hd,Ž.2⟩ (Ń.dset k rd)).pre.v rd) (f rfl)) (λa u r f e=>AA e.symm) h.2 hn⟩)
  (λh=>AN h ra λk as vk vas Ğ ra h=>Aw h ra λh=>AB h λks e1 h=>AB h λk e2 h=>Ev e1 R r λl Ž=>
   aG7 PySem.F.slot_set_contains Ž.1.typeIs entry_set_contains (FZ (BU e2 Ğ) Ž.1 (.to (b:=ű.bool (decide (k∈ks))) (R.toks _) rfl h)) (PySem.F.args_set_contains_2 _ _))
  aA8 aA8 aA8 aA8
  (λh=>AN h ra λd as vd vas rd ra h=>Aw h ra λh=>AB h λŒ e h=>Am e R rd λl wv k q1 õ=>Dq h R r λx vs us n hx Ž Ń hz h=>
   Os Ž q1 (by rwa[Ń.len,õ.len];exact h.1) (.to (b:=ű.none) (R.setList _ hx (.update ..) ((bP0 (n:=n) (h:=c.s.heap) (l:=c.G.μ x) (items:=us.toArray) Ž (λxs=>xs++wv.toArray)).trans (bQ5 (λz=>some ({cls:=.type "list",data:=.seq z _}:Obj)) (List.append_toArray us wv))) (AW.append Ń õ)) rfl h.2))
  (λh=>AN h ra λd as vd vas rd ra h=>Aw h ra λh=>AB h λx e1 h=>AB h λy e2 h=>AY e1 r λt=>AY e2 rd λu=>Kh h.1.1 h.1.2 (.newTup (vs:=[.int (x.fdiv y),.int (x.fmod y)]) (us:=[_,_]) _ 0 R ⟨_,_,rfl,bR2 _,_,_,rfl,bR2 _,rfl⟩ h.2))
  aA8 aA8
  aA8 aA8
  (λh=>AN h ra λk as vk vas Ğ ra h=>Aw h ra λh=>AB h λp e h=>AB h λks e1 h=>AB h λk e2 h=>by
   obtain⟨q1,õ⟩:=C6 e r
   subst q1
   rw[Ř.fs_eq e1]at õ
   exact RL (L:=X.L) (BU e2 Ğ) (R.obj _ _ õ).rel h.1 λh' t hs hl=>.to (c':=c.hp (c.σ.set p.1 (.set (Fy ks k))) h' t) (b:=ű.none) (R.setObj õ hs λ_=>hl) rfl h.2) h
end
namespace Bm
def slot_get:bQ4 "method_descriptor" "__get__" "method_descriptor.__get__":=
 bQ1 (owner:="method_descriptor") (n:="__get__") (by rewrite [aH3];rwa[aE2];rfl') (by decide +kernel) (by decide +kernel) (by decide +kernel) (.inl (by decide +kernel)) (by rw[aM0];rfl')
def entry_get:aY5 table "method_descriptor.__get__" = some aD8.«method_descriptor.__get__»:=aT7 (by rfl')
def args_get(a b c:Value):aW7 "method_descriptor.__get__" ⟨[a,b,c],[]⟩:=by unfold aW7;rfl'
def no_set:aI9 (.type "method_descriptor") "__set__" = pure none:=by rewrite [aH3];rwa[aE2];rfl'
def no_del:aI9 (.type "method_descriptor") "__delete__" = pure none:=by rewrite [aH3];rwa[aE2];rfl'
def ty_dict_get:typeOf (.builtin "dict.get")=pure (.type "method_descriptor"):=by rfl'
def ty_set_contains:typeOf (.builtin "set.__contains__")=pure (.type "method_descriptor"):=by rfl'
def lk_dict_get:aI9 (.type "dict") "get" = pure (some (.builtin "dict.get")):=by rewrite [aH3];rwa[aE2];rfl'
def lk_set_contains:aI9 (.type "set") "__contains__" = pure (some (.builtin "set.__contains__")):=by rewrite [aH3];rwa[aE2];rfl'
def owner_dict_get:(".".intercalate ("dict.get".cutAt '.').dropLast) = "dict":=by decide +kernel
def owner_set_contains:(".".intercalate ("set.__contains__".cutAt '.').dropLast) = "set":=by decide +kernel
def sub_dict_get:aT6 (.type "dict") (.type (".".intercalate ("dict.get".cutAt '.').dropLast))=pure true:=by rwa[owner_dict_get];rw[aM0];rfl'
def sub_set_contains:aT6 (.type "set") (.type (".".intercalate ("set.__contains__".cutAt '.').dropLast))=pure true:=by rwa[owner_set_contains];rw[aM0];rfl'
def told_dict_get:Manifest.toldItsClass.contains "dict.get" = false:=by decide +kernel
def told_set_contains:Manifest.toldItsClass.contains "set.__contains__" = false:=by decide +kernel
end Bm
section
variable{prog:aF3}{w:aC9}{A:aH1}{E:Value->aA5->Prop}{h:aF2}{g:Array bM2}{d:Drawn}{t:Nat}{os:aU1}{a:aC2}{o:Obj}
def JO{R:bG3->aA5->Prop}(hx:h.get? a=some o)(hc:o.cls = .type "dict")(hq:R (.ok (.ret (.ref h.objs.size))) ⟨h.push (Cc (.builtin "dict.get") (.ref a)),g,d,t,os⟩) :
  aO8 (aC6 prog w) A (.call (.builtin "method_descriptor.__get__") ⟨[.builtin "dict.get",.ref a,.type "dict"],[]⟩) R ⟨h,g,d,t,os⟩:=by
 have hT:(⟨h,g,d,t,os⟩:aA5).TypeIs (.ref a) "dict":=⟨_,hx,hc⟩
 have hT5:(⟨h,g,d,t,os⟩:aA5).TypeIs (.builtin "dict.get") "method_descriptor":=Bm.ty_dict_get
 have f8:=Bm.sub_dict_get
 refine aN6 Bm.slot_get.plain Bm.entry_get (Bm.slot_get.check _ _ _ _ _ _ _ _ hT5 (Bm.args_get _ _ _) ?_)
 repeat (any_goals (first | assumption | wp_step))
def Gj{es:Array aP3}{k:Nat}{sl:Array (Option Value)}{tk:Tok}{Q:Fin->aA5->Prop}(hx:h.get? a=some {cls:=.type "dict",dict:=none,data:=.dict es k,slots:=sl})(hq:Q (.done (.ret (.ref h.objs.size))) ⟨h.push (Cc (.builtin "dict.get") (.ref a)),g,d,t,os⟩) :
  aC8 (aC6 prog w) A (aD8.«object.__getattribute__» ⟨[.ref a,.str "get" tk],[]⟩) Q E ⟨h,g,d,t,os⟩:=by
 have hT:(⟨h,g,d,t,os⟩:aA5).TypeIs (.ref a) "dict":=⟨_,hx,rfl⟩
 have f4:=Bm.lk_dict_get
 have f5:=Bm.ty_dict_get
 have f6:=Bm.slot_get.lookup
 have f7:=Bm.no_set
 have f8:=Bm.no_del
 repeat (any_goals (first | assumption | wp_step))
 refine JO hx rfl ?_
 repeat (any_goals (first | assumption | wp_step))
def Hw{es:Array aP3}{k:Nat}{sl:Array (Option Value)}{Q:Value->aA5->Prop}(hx:h.get? a=some {cls:=.type "dict",dict:=none,data:=.dict es k,slots:=sl})(hq:Q (.ref h.objs.size) ⟨h.push (Cc (.builtin "dict.get") (.ref a)),g,d,t+1,os⟩) :
  aC8 (aC6 prog w) A (bC2 (.ref a) "get" true) Q E ⟨h,g,d,t,os⟩:=by
 have hT :∀tk',(⟨h,g,d,tk',os⟩:aA5).TypeIs (.ref a) "dict":=λ_=>⟨_,hx,rfl⟩
 have hT':(⟨h,g,d,t,os⟩:aA5).TypeIs (.ref a) "dict":=⟨_,hx,rfl⟩
 have f2:=aP6.lookup
 have f3:=aP6.bind (.ref a)
 unfold bC2 getAttrBy
 repeat (any_goals (first | assumption | exact hT _ | wp_step))
 refine aN6 aP6.plain PySem.F.entry_dict_ga (aP6.check _ _ _ _ _ _ _ _ (hT _) (PySem.F.args_dict_getattribute_2 _ _) (Gj hx ?_))
 repeat (any_goals (first | assumption | wp_step))
def SU{R:bG3->aA5->Prop}(hx:h.get? a=some o)(hc:o.cls = .type "set")(hq:R (.ok (.ret (.ref h.objs.size))) ⟨h.push (Cc (.builtin "set.__contains__") (.ref a)),g,d,t,os⟩) :
  aO8 (aC6 prog w) A (.call (.builtin "method_descriptor.__get__") ⟨[.builtin "set.__contains__",.ref a,.type "set"],[]⟩) R ⟨h,g,d,t,os⟩:=by
 have hT:(⟨h,g,d,t,os⟩:aA5).TypeIs (.ref a) "set":=⟨_,hx,hc⟩
 have hT5:(⟨h,g,d,t,os⟩:aA5).TypeIs (.builtin "set.__contains__") "method_descriptor":=Bm.ty_set_contains
 have f8:=Bm.sub_set_contains
 refine aN6 Bm.slot_get.plain Bm.entry_get (Bm.slot_get.check _ _ _ _ _ _ _ _ hT5 (Bm.args_get _ _ _) ?_)
 repeat (any_goals (first | assumption | wp_step))
def MN{es:Array (Int×Value)}{k:Nat}{tb:aI8}{sl:Array (Option Value)}{tk:Tok}{Q:Fin->aA5->Prop}(hx:h.get? a=some {cls:=.type "set",dict:=none,data:=.set es k tb,slots:=sl})(hq:Q (.done (.ret (.ref h.objs.size))) ⟨h.push (Cc (.builtin "set.__contains__") (.ref a)),g,d,t,os⟩) :
  aC8 (aC6 prog w) A (aD8.«object.__getattribute__» ⟨[.ref a,.str "__contains__" tk],[]⟩) Q E ⟨h,g,d,t,os⟩:=by
 have hT:(⟨h,g,d,t,os⟩:aA5).TypeIs (.ref a) "set":=⟨_,hx,rfl⟩
 have f4:=Bm.lk_set_contains
 have f5:=Bm.ty_set_contains
 have f6:=Bm.slot_get.lookup
 have f7:=Bm.no_set
 have f8:=Bm.no_del
 repeat (any_goals (first | assumption | wp_step))
 refine SU hx rfl ?_
 repeat (any_goals (first | assumption | wp_step))
def P3{es:Array (Int×Value)}{k:Nat}{tb:aI8}{sl:Array (Option Value)}{Q:Value->aA5->Prop}(hx:h.get? a=some {cls:=.type "set",dict:=none,data:=.set es k tb,slots:=sl})(hq:Q (.ref h.objs.size) ⟨h.push (Cc (.builtin "set.__contains__") (.ref a)),g,d,t+1,os⟩) :
  aC8 (aC6 prog w) A (bC2 (.ref a) "__contains__" true) Q E ⟨h,g,d,t,os⟩:=by
 have hT :∀tk',(⟨h,g,d,tk',os⟩:aA5).TypeIs (.ref a) "set":=λ_=>⟨_,hx,rfl⟩
 have hT':(⟨h,g,d,t,os⟩:aA5).TypeIs (.ref a) "set":=⟨_,hx,rfl⟩
 have f2:=aP9.lookup
 have f3:=aP9.bind (.ref a)
 unfold bC2 getAttrBy
 repeat (any_goals (first | assumption | exact hT _ | wp_step))
 refine aN6 aP9.plain PySem.F.entry_set_ga (aP9.check _ _ _ _ _ _ _ _ (hT _) (PySem.F.args_set_getattribute_2 _ _) (MN hx ?_))
 repeat (any_goals (first | assumption | wp_step))
end
section
variable{prog:aF3}{w:aC9}{A:aH1}{E:Value->aA5->Prop}{s:aA5}
def NK{b a:aC2}{id T:String}{B:aD8}{rest:List Value}{S:aN2}{Q:Value->aA5->Prop}
  (hb:s.heap.get? b=some (Cc (.builtin id) (.ref a))) (hT:s.TypeIs (.ref a) T)
  (plain:plainId id=true) (entry:aY5 table id=some B) (hck :∀{Q:Unit->aA5->Prop} {E:Value->aA5->Prop},Q () s->aC8 (aC6 prog w) A.in1 (aX0 id ⟨.ref a::rest,[]⟩) Q E s)
  (g:MeetsIn prog w (B ⟨.ref a::rest,[]⟩) S) (h:S A (wants Q E) s):aC8 (aC6 prog w) A (call (.ref b) rest) Q E s:=by
 refine aW8 (bJ4 ?_)
 show aC8 (aC6 prog w) A.in1 (callAny (.ref b) ⟨rest,[]⟩) _ _ s
 unfold callAny
 refine aA1 (aU3 hb ?_)
 show aC8 _ A.in1 (do aX0 id ⟨.ref a::rest,[]⟩;return<-again (.builtin id ⟨.ref a::rest,[]⟩)) _ _ s
 refine aA1 (hck ?_)
 refine aA1 (aA4 (aA4 ⟨aV0 plain _,aR1 entry ?_⟩))
 rw[aL9 plain]
 exact g A (wants Q E) s h
def Ja:Manifest.signature? "dict.get" = some ⟨.positional,"dict.get","get",.self,[⟨"key",.posOnly,true⟩,⟨"default",.posOnly,false⟩]⟩:=by
 rwa[bH4 (id:="dict.get") (n:=['t','e','g']) (o:=['t','c','i','d']) (by rfl') PySem.F.owner_dict];rfl'
def HW{a:aC2}{x y:Value}{es:Array aP3}{k:Nat}{sl:Array (Option Value)}{Q:Unit->aA5->Prop}(hx:s.heap.get? a=some {cls:=.type "dict",dict:=none,data:=.dict es k,slots:=sl})(h:Q () s) :
  aC8 (aC6 prog w) A (aX0 "dict.get" ⟨[.ref a,x,y],[]⟩) Q E s:=by
 have hT:s.TypeIs (.ref a) "dict":=⟨_,hx,rfl⟩
 have f1:aT6 (.type "dict") (.type "module")=pure false:=by rw[aM0];rfl'
 unfold aX0
 rwa[Ja,show bH1 "dict.get" = some .method by decide +kernel]
 dsimp only
 refine aA1 (aX7 hT f1 ?_)
 rwa[show Manifest.varargsMethods.contains "dict.get" = false by decide +kernel]
 refine aA1 (m:=isType (.ref a)) ?_
 refine aA1 (bC0 hx (aA4 ?_))
 refine aA1 (bM4 hT ?_)
 refine aW6 (a:=()) ?_ h
 rfl'
def Fl:Manifest.signature? "set.__contains__" = some ⟨.oneArg,"set.__contains__","__contains__",.self,[⟨"object",.posOnly,true⟩]⟩:=by
 rwa[bH4 (id:="set.__contains__") (n:=['_','_','s','n','i','a','t','n','o','c','_','_']) (o:=['t','e','s']) (by rfl') PySem.F.owner_set];rfl'
def El{a:aC2}{x:Value}{es:Array (Int×Value)}{k:Nat}{tb:aI8}{sl:Array (Option Value)}{Q:Unit->aA5->Prop}(hx:s.heap.get? a=some {cls:=.type "set",dict:=none,data:=.set es k tb,slots:=sl})(h:Q () s) :
  aC8 (aC6 prog w) A (aX0 "set.__contains__" ⟨[.ref a,x],[]⟩) Q E s:=by
 have hT:s.TypeIs (.ref a) "set":=⟨_,hx,rfl⟩
 have f1:aT6 (.type "set") (.type "module")=pure false:=by rw[aM0];rfl'
 unfold aX0
 rwa[Fl,show bH1 "set.__contains__" = some .method by decide +kernel]
 dsimp only
 refine aA1 (aX7 hT f1 ?_)
 rwa[show Manifest.varargsMethods.contains "set.__contains__" = false by decide +kernel]
 refine aA1 (m:=isType (.ref a)) ?_
 refine aA1 (bC0 hx (aA4 ?_))
 refine aA1 (bM4 hT ?_)
 refine aW6 (a:=()) ?_ h
 rfl'
end
def SI{o:Obj}{c:Value}{d:Option aC2}{dt:Data}{sl:Array (Option Value)}(h1:o.cls=c)(h2:o.dict=d)(h4:o.slots=sl)(h3:o.data=dt):some o=some ⟨c,d,dt,sl⟩:=by
 subst h1;subst h2;subst h3;subst h4;rfl
def FX{prog:aF3}{w:aC9}{s:aA5}{a:aC2}{kvs:List (AC×Value)}(h:s.heap.DictOf (A8 prog w) a kvs) :∃es k,s.heap.get? a=some {cls:=.type "dict",dict:=none,data:=.dict es k,slots:=#[]}:=
 h.elim λo h=>h.imp λes h=>h.imp λep h=>h.1.trans (SI h.2.1.1 h.2.1.2.1 h.2.1.2.2 h.2.2.1)
def N2{prog:aF3}{w:aC9}{s:aA5}{a:aC2}{S:AC->Bool}{n:Nat}(h:s.heap.SetOf (A8 prog w) a S n) :∃es k tb,s.heap.get? a=some {cls:=.type "set",dict:=none,data:=.set es k tb,slots:=#[]}:=
 h.elim λo h=>h.imp λes h=>h.imp λep h=>h.imp λt h=>h.1.trans (SI h.2.1.1 h.2.1.2.1 h.2.1.2.2 h.2.2.1)
def H4(X:š)(f:Value)(s:aA5):Prop:=∀(Q:Keeper->aA5->Prop) E,(∀k,Q k s)->aC8 (aC6 X.L.prog X.L.w) X.A (bG4 f) Q E s
def Zr(X:š)(c:Ĳ)(Q:ű->St->Prop)(f:Value)(vas:List Value):Prop:=H4 X f c.s/\Đ X c Q (call f vas [])
noncomputable def Yd(a:ű):Option (Ŕ×ű):=match a with
 | .bm f x=>some (f,x)
 | _=>none
def UT{P:ű->Prop}{a:ű}{q:Ŕ×ű}(e:Yd a=some q)(f:P (.bm q.1 q.2)):P a:=
 ű.casesOn (motive_1:=λa=>Yd a=some q->P a) a AA (λ_=>AA) (λ_=>AA) (λ_ _=>AA) (λ_=>AA) (λ_=>AA) (λ_=>AA) (λ_ _ e=>Eq.mp (bQ5 (λq:Ŕ×ű=>P (.bm q.1 q.2)) (aA3 e).symm) f) (λ_=>AA) (λ_=>AA) AA e
def Qu(f:Ŕ)(x:ű)(as:List ű)(σ:St)(Q:ű->St->Prop):Prop:=match f with
 | .get=>Ae as λk as=>Ae as λd as=>nil as (Aa (ED σ x) λes=>Aa (BC k) λk=>Q ((es.lookup k).getD d) σ)
 | .has=>Ae as λk as=>nil as (Aa (Hy σ x) λks=>Aa (BC k) λk=>Q (.bool (decide (k∈ks))) σ)
 | _=>False
section
variable{X:š}{c:Ĳ}{a x:ű}{va:Value}{Q:ű->St->Prop}
def Ta{b:aC2}{f v:Value}{s:aA5}(hb:s.heap.get? b=some (Cc f v)):H4 X (.ref b) s:=λQ E h=>aA1 (aU3 hb (aA4 (h _)))
def N3(b:Ŕ){s:aA5}:H4 X b.val s:=λQ E h=>Ŕ.casesOn (motive:=λb=>aC8 (aC6 X.L.prog X.L.w) X.A (bG4 b.val) Q E s) b (aA4 (h _)) (aA4 (h _)) (aA4 (h _)) (aA4 (h _)) (aA4 (h _)) (aA4 (h _)) (aA4 (h _)) (aA4 (h _)) (aA4 (h _)) (aA4 (h _)) (aA4 (h _)) (aA4 (h _)) (aA4 (h _)) (aA4 (h _)) (aA4 (h _)) (aA4 (h _)) (aA4 (h _)) (aA4 (h _)) (aA4 (h _)) (aA4 (h _)) (aA4 (h _)) (aA4 (h _))
def Zj{f:Ŕ}{as:List ű}{vas:List Value}(h:Qu f x as c.σ Q)(R:Ī X c)(rv:Š X c (.bm f x) va)(ra:Ě X c as vas):Zr X c Q va vas:=by
 cases rv with
 | mk b u hv hb ho rx=>
 subst hv
 refine⟨Ta hb,?_⟩
 exact Ŕ.casesOn (motive:=λf=>Qu f x as c.σ Q->c.s.heap.get? b=some (Cc f.val u)->Đ X c Q (call (.ref b) vas [])) f (λh _=>h.elim) (λh _=>h.elim) (λh _=>h.elim) (λh _=>h.elim) (λh _=>h.elim) (λh _=>h.elim) (λh _=>h.elim) (λh _=>h.elim)
  (λh hb=>AN h ra λk as vk vas Ğ ra h=>AN h ra λd as vd vas rd ra h=>Aw h ra λh=>AB h λes e1 h=>AB h λk e2 h=>by
   refine Ci (P:=λu=>c.s.heap.get? b=some (Cc (.builtin "dict.get") u)->Đ X c Q (call (.ref b) [vk,vd] [])) e1 R rx (λl kvs Ž Ń hb=>?_) hb
   obtain⟨es',k',ho'⟩:=FX Ž.1
   exact NK (T:="dict") hb ⟨_,ho',rfl⟩ bD1.plain PySem.F.entry_dict_get (λq=>HW ho' q) (meets_dict_get_default (A8 X.L.prog X.L.w) (k:=k) l (BU e2 Ğ) Ž.2 vd) ⟨_,Ž.1.mapOf,Ń.look k (P:=λx y=>Q (x.getD d) c.σ->AX X (Š X) c Q (y.getD vd) _) (.val _ R rd) (λa v r=>.val _ R r) h⟩)
  (λh _=>h.elim)
  (λh hb=>AN h ra λk as vk vas Ğ ra h=>Aw h ra λh=>AB h λks e1 h=>AB h λk e2 h=>by
   refine Ev (P:=λu=>c.s.heap.get? b=some (Cc (.builtin "set.__contains__") u)->Đ X c Q (call (.ref b) [vk] [])) e1 R rx (λl Ž hb=>?_) hb
   obtain⟨es',k',tb,ho'⟩:=N2 Ž.1
   refine NK (T:="set") (S:=λA R s=>∃S n,s.heap.SetOf (A8 X.L.prog X.L.w) l S n/\R (.ok (.ret (.bool (S k)))) {s with toks:=s.toks+1}) hb ⟨_,ho',rfl⟩ PySem.F.slot_set_contains.plain entry_set_contains (λq=>El ho' q) (λA R s hS=>?_) ⟨_,_,Ž.1,.to (b:=ű.bool (decide (k∈ks))) (R.toks _) rfl h⟩
   exact hS.elim λS hS=>hS.elim λn hS=>aP1 (FZ (Q:=λv s'=>R (.ok (.ret v)) s') (BU e2 Ğ) hS.1 hS.2) (λfin s' z=>z.elim λv z=>z.1▸z.2) λ_ _ x=>x)
  (λh _=>h.elim) (λh _=>h.elim) (λh _=>h.elim) (λh _=>h.elim) (λh _=>h.elim) (λh _=>h.elim) (λh _=>h.elim) (λh _=>h.elim) (λh _=>h.elim) (λh _=>h.elim) (λh _=>h.elim) h hb
def a7(σ:St)(a:ű)(x:Str):Option Ŕ:=
 LZ ((Ak σ a).bind λ_=>bif x==("append":Str)then some .append else bif x==("pop":Str)then some .pop else bif x==("sort":Str)then some .sort else bif x==("extend":Str)then some .extend else bif x==("index":Str)then some .index else none)
  (LZ ((ED σ a).bind λ_=>bif x==("get":Str)then some .get else bif x==("setdefault":Str)then some .setdefault else none) ((Hy σ a).bind λ_=>bif x==("add":Str)then some .add else none))
def BD{α:Type}{b:Bool}{x y:Option α}{r:α}{P:Prop}(h:(bif b then x else y)=some r)(f:b=true->x=some r->P)(g:y=some r->P):P:=by
 cases b with
 | true=>exact f rfl h
 | false=>exact g h
def Yk{y:Str}{b:Ŕ}(e:a7 c.σ a y=some b){pl:Sem Bool}{Q:Value×List Value->aA5->Prop}(R:Ī X c)(ra:Š X c a va)(h :∀t,Q (b.val,[va]) {c.s with toks:=t}):ė X (bB0 va y pl) Q c.s:=by
 refine DH e (λe=>?_) λe=>DH e (λe=>?_) λe=>?_
 ·obtain⟨vs,e1,e⟩:=bind_some e
  refine Am (P:=λva=>(∀t,Q (b.val,[va]) {c.s with toks:=t})->ė X (bB0 va y pl) Q c.s) e1 R ra (λl us k Ž _ h=>?_) h
  have hd :∀a,aO3 l = .ref a->∃o,c.s.heap.get? a=some o/\o.dict=none:=λa e=>by cases e;exact⟨_,Ž,rfl⟩
  have hT:=(AL Ž).typeIs
  refine BD e (λhx e=>?_) λe=>BD e (λhx e=>?_) λe=>BD e (λhx e=>?_) λe=>BD e (λhx e=>?_) λe=>BD e (λhx e=>?_) AA
  ·rwa[aD3 hx];cases e;exact aQ4 hT aQ5 PySem.F.slot_list_append (by rfl') hd (h _)
  ·rwa[aD3 hx];cases e;exact aQ4 hT aQ5 PySem.F.slot_list_pop (by rfl') hd (h _)
  ·rwa[aD3 hx];cases e;exact aQ4 hT aQ5 PySem.F.slot_list_sort (by rfl') hd (h _)
  ·rwa[aD3 hx];cases e;exact aQ4 hT aQ5 PySem.F.slot_list_extend (by rfl') hd (h _)
  ·rwa[aD3 hx];cases e;exact aQ4 hT aQ5 PySem.F.slot_list_index PySem.F.type_list_index hd (h _)
 ·obtain⟨vs,e1,e⟩:=bind_some e
  refine Ci (P:=λva=>(∀t,Q (b.val,[va]) {c.s with toks:=t})->ė X (bB0 va y pl) Q c.s) e1 R ra (λl us Ž _ h=>?_) h
  obtain⟨es',k',ho'⟩:=FX Ž.1
  have hd :∀a,aO3 l = .ref a->∃o,c.s.heap.get? a=some o/\o.dict=none:=λa e=>by cases e;exact⟨_,ho',rfl⟩
  refine BD e (λhx e=>?_) λe=>BD e (λhx e=>?_) AA
  ·rwa[aD3 hx];cases e;exact aQ4 Ž.1.typeIs bB1 bD1 PySem.F.type_dict_get hd (h _)
  ·rwa[aD3 hx];cases e;exact aQ4 Ž.1.typeIs bB1 PySem.F.slot_dict_setdefault (by rfl') hd (h _)
 ·obtain⟨vs,e1,e⟩:=bind_some e
  refine Ev (P:=λva=>(∀t,Q (b.val,[va]) {c.s with toks:=t})->ė X (bB0 va y pl) Q c.s) e1 R ra (λl Ž h=>?_) h
  refine BD e (λhx e=>?_) AA
  rwa[aD3 hx];cases e;exact getMethod_set_add Ž.1 (h _)
def jH(σ:St)(a:ű)(x:Str):Option Ŕ:=
 bif x==("get":Str)then(ED σ a).map λ_=>.get else bif x==("__contains__":Str)then(Hy σ a).map λ_=>.has else none
def Zo{y:Str}{b:Ŕ}(e:jH c.σ a y=some b)(R:Ī X c)(ra:Š X c a va)(h:Q (.bm b a) c.σ):Đ X c Q (bC2 va y true):=by
 have fin :∀{va},Š X c a va->AX X (Š X) c Q (.ref c.s.heap.objs.size) {c.s with heap:=c.s.heap.push (Cc b.val va),toks:=c.s.toks+1}:=λ{va} ra=>
  .to (b:=ű.bm b a) (R.push (Cc b.val va) _) ⟨_,va,rfl,aC4 _ rfl,R.gone,(R.push (Cc b.val va) _).pre.v ra⟩ h
 refine BD e (λhx e=>?_) λe=>BD e (λhx e=>?_) AA
 ·obtain⟨es,e1,rfl⟩:=map_some e
  rwa[aD3 hx]
  refine Ci (P:=λva=>Š X c a va->Đ X c Q (bC2 va "get" true)) e1 R ra (λl kvs Ž _ ra=>?_) ra
  obtain⟨es',k',ho'⟩:=FX Ž.1
  exact Hw ho' (fin ra)
 ·obtain⟨es,e1,rfl⟩:=map_some e
  rwa[aD3 hx]
  refine Ev (P:=λva=>Š X c a va->Đ X c Q (bC2 va "__contains__" true)) e1 R ra (λl Ž ra=>?_) ra
  obtain⟨es',k',tb,ho'⟩:=N2 Ž.1
  exact P3 ho' (fin ra)
end
noncomputable def nn:Nat->Option ű:=λ_=>none
section
variable{L:Bt}{G G':ħ}{h h':aF2}{n n':Nat}(k:CZ G h G' h')
include k
theorem A2.shut{a:ű}{v:Value}(e:a.sub nn=some a)(q:A2 L G h n a v):A2 L G' h' n' a v:=A2.sub k (λx w e=>AA e) a a v e q
theorem AW.shut{a:List ű}{v:List Value}(e:AD nn a=some a)(q:AW L G h n a v):AW L G' h' n' a v:=AW.sub k (λx w e=>AA e) e q
theorem A2.zero{a:ű}{v:Value}(q:A2 L G h 0 a v):A2 L G' h' n a v:=A2.sub k (λx w e h=>bQ8 h (aG0 x)) a a v (sub_id a) q
theorem AW.zero{a:List ű}{v:List Value}(q:AW L G h 0 a v):AW L G' h' n a v:=AW.sub k (λx w e h=>bQ8 h (aG0 x)) (D1 a) q
end
def ù.lk{G G':ħ}{h h':aF2}(k:ù G h G' h'){a:aC2}(e:G.tag a=some .lock)(o:Obj)(ho:h.get? a=some o):h'.get? a=some o:=k.keep a o ho λz=>z.elim λp q=>q.2 (aA3 (q.1.symm.trans e))
def kW(wr:List aC2)(h h':aF2):Prop:=(∀b o,b∉wr->h.get? b=some o->h'.get? b=some o)/\h.objs.size<=h'.objs.size
inductive Qv(X:š)(c:Ĳ)(wr:List aC2)(items:List ű)(i:Nat)(v:Value)(St:ħ->aF2->Prop)(s₂:aA5):Prop
 | mk (av:ű) (e:items[i]?=some av) (r:Š X ⟨c.G,c.σ,s₂⟩ av v) (R:Ī X ⟨c.G,c.σ,s₂⟩) (st:St c.G s₂.heap) (p:kW wr c.s.heap s₂.heap)
structure Ke(X:š)(target:Expr)(I:aC2)(wr:List aC2)(items:List ű)(St:Nat->ħ->aF2->Prop):Prop where
 frame :∀i G h G' h',St i G h->ù G h G' h'->St i G' h'
 item :∀i c,Ī X c->i<items.length->St i c.G c.s.heap->ė X (aV4 (.ref I)) (λr s₁=>∃v,r=some v/\ė X (aU8 target (.ref I) v) (λ_ s₂=>Qv X c wr items i v (St (i+1)) s₂) s₁) c.s
 done :∀c,Ī X c->St items.length c.G c.s.heap->ė X (aV4 (.ref I)) (λr s₁=>r=none/\Ī X ⟨c.G,c.σ,s₁⟩/\kW wr c.s.heap s₁.heap) c.s
inductive CM(X:š)(target:Expr)(c:Ĳ)(K:List ű->St->Prop)(it:Value)(s':aA5):Prop
 | mk (c₁:Ĳ) (x:C8 X c c₁) (I:aC2) (wr:List aC2) (items:List ű) (St:Nat->ħ->aF2->Prop) (G':ħ) (e:it = .ref I) (ok :∀e:Env,Ke (X.en e) target I wr items St) (self :∀i G s (Q:Value->aA5->Prop),St i G s.heap->Q (.ref I) s->ė X (aS8 (.ref I)) Q s) (st:St 0 G' s'.heap) (hw :∀b∈wr,c₁.s.heap.objs.size<=b) (y:C8 X c₁ ⟨G',c₁.σ,s'⟩) (up :∀a o,c₁.s.heap.get? a=some o->s'.heap.get? a=some o) (q:K items c₁.σ)
theorem CM.up{X:š}{target:Expr}{c c':Ĳ}{K:List ű->St->Prop}{it:Value}{s':aA5}(x:C8 X c c')(p:CM X target c' K it s'):CM X target c K it s':=
 p.casesOn λc1 x1 I wr items St G' e ok self st hw y up q=>⟨c1,x.trans x1,I,wr,items,St,G',e,ok,self,st,hw,y,up,q⟩
def DA{M:bH0}{E:Value->aA5->Prop}{s:aA5}{I:aC2}{target:Expr}{v:Value}{o:Obj}{T:String}{vs:Array Value}{Q:Unit->aA5->Prop}(ho:s.heap.get? I=some o)(hc:o.cls = .type T)(hd:o.data = .fields vs)
  (hT:(["enumerate","zip","dict_itemiterator","dict_reverseitemiterator","odict_iterator","itertools.zip_longest","itertools.pairwise"].contains T)=false) (h:Q () s):aC8 M A (aU8 target (.ref I) v) Q E s:=by
 have body:aC8 M A (do
   let(.ref r,.ref a):=(aO3 I,v) | return
   let o<-load r
   match o.cls,o.data with
   | .type n,.fields vs=>
    if ["enumerate","zip","dict_itemiterator","dict_reverseitemiterator","odict_iterator","itertools.zip_longest","itertools.pairwise"].contains n&&vs[0]?==some (aW4 a)then
     rule "for.unpacks-the-owned-tuple"
     updateField r 0 .none
   | _,_=>pure ()) Q E s:=by
  cases v with
  | ref a=>
   refine aA1 (aU3 ho ?_)
   rwa[hc,hd]
   dsimp only
   rwa[hT]
   exact aA4 h
  | _=>exact aA4 h
 cases target<;>first | exact body | exact aA4 h
section
variable{X:š}{c:Ĳ}
def HL(hs:aF2)(G:ħ)(wr:List aC2):Prop:=∀b∈wr,G.tag b=some .lock/\hs.objs.size<=b
def HL.frame{G G':ħ}{h h':aF2}{wr:List aC2}(x:HL X.hs G wr)(k:ù G h G' h'):HL X.hs G' wr:=λb hb=>⟨k.lock b (x b hb).1,(x b hb).2⟩
structure MZ(L:Bt)(hs:aF2)(wr:List aC2)(I l:aC2)(us:List Value)(items:List ű)(i:Nat)(G:ħ)(h:aF2):Prop where
 lk:HL hs G wr
 mem:I∈wr
 it:h.IsListIter I l i
 ls :∃k,h.get? l=some (AS us k)
 ow:¬ G.own l
 all:AW L G h 0 items us
section
variable{wr:List aC2}{I l:aC2}{us:List Value}{items:List ű}{i:Nat}
theorem MZ.frame{G G':ħ}{h h':aF2}(x:MZ X.L X.hs wr I l us items i G h)(kp:ù G h G' h'):MZ X.L X.hs wr I l us items i G' h':=
 ⟨x.lk.frame kp,x.mem,x.it.imp λo q=>⟨kp.lk (x.lk I x.mem).1 o q.1,q.2⟩,x.ls.imp λk e=>(kp.still l _ e x.ow).1,x.ls.elim λk e=>kp.off e x.ow,x.all.zero kp.still⟩
def MZ.ne{G:ħ}{h:aF2}(x:MZ X.L X.hs wr I l us items i G h):l∉wr:=λz=>x.ow (A0 (x.lk l z).1)
def MZ.next(x:MZ X.L X.hs wr I l us items i c.G c.s.heap){h':aF2}{t j:Nat}(it:h'.IsListIter I l j)(hk :∀a o,a∉wr->c.s.heap.get? a=some o->h'.get? a=some o)(p:Dl c (c.hp c.σ h' t)):MZ X.L X.hs wr I l us items j c.G h':=
 ⟨x.lk,x.mem,it,x.ls.imp λk e=>hk l _ x.ne e,x.ow,x.all.zero p.still⟩
def MZ.item{G:ħ}{h:aF2}(x:MZ X.L X.hs wr I l us items i G h)(hi:i<items.length) :∃v,us.toArray[i]?=some v/\A2 X.L G h 0 items[i] v:=(x.all.get (aA9 hi)).imp λv q=>⟨aE3.trans q.1,q.2⟩
theorem MZ.none{G:ħ}{h:aF2}(x:MZ X.L X.hs wr I l us items items.length G h):us.toArray[items.length]?=none:=aE3.trans (aH6 (aB7 x.all.len))
end
def Pe{a I:aC2}(h:a∉[I]):a≠I:=λz=>h (z▸aC0 ..)
def dA{a I J:aC2}(h:a∉[I,J]):a≠I:=λz=>h (z▸aC0 ..)
def X6{a I J:aC2}(h:a∉[I,J]):a≠J:=λz=>h (z▸aC7 _ (aC0 ..))
def Xv{I l:aC2}{us:List Value}{items:List ű}(hh:X.A.handled=none)(target:Expr):Ke X target I [I] items (MZ X.L X.hs [I] I l us items) where
 frame:=λi G h G' h' x kp=>x.frame kp
 item:=λi c R hi x=>by
  obtain⟨v,g1,g2⟩:=x.item hi
  obtain⟨k,x4⟩:=x.ls
  refine wpAny_pyNext_list_item x.it (AL x4) g1 λh' y1 y2=>⟨v,rfl,?_⟩
  have kk :∀a o,a∉[I]->c.s.heap.get? a=some o->h'.get? a=some o:=λa o ha e=>(y2.2 a (Pe ha)).trans e
  have q:=R.lockAt x.lk (t:=c.s.toks) kk (aB7 y2.1.symm)
  exact y1.elim λo y=>DA (T:="list_iterator") y.1 y.2.1 y.2.2 (by decide) ⟨items[i],aA9 hi,g2.zero q.1.still,q.2,x.next y1 kk q.1,kk,aB7 y2.1.symm⟩
 done:=λc R x=>x.ls.elim λk x4=>E0 (wpAny_pyNext_list_end hh x.it (AL x4) x.none λh' y1 sz=>
  have kk :∀a o,a∉[I]->c.s.heap.get? a=some o->h'.get? a=some o:=λa o ha e=>y1 a o (Pe ha) e
  ⟨rfl,(R.lockAt x.lk (t:=c.s.toks) kk sz).2,kk,sz⟩)
structure uD(L:Bt)(hs:aF2)(I l:aC2)(us:List Value)(items:List ű)(i:Nat)(G:ħ)(h:aF2):Prop where
 lk:HL hs G [I]
 it:h.IsTupleIter I l i
 ls :∃k,h.get? l=some (Ab us k)
 ow:¬ G.own l
 all:AW L G h 0 items us
def Ll{h:aF2}{l:aC2}{us:List Value}{k:Nat}(e:h.get? l=some (Ab us k)):h.IsTuple l us.toArray:=⟨_,e,rfl,k,rfl⟩
def gJ{I l:aC2}{us:List Value}{items:List ű}(hh:X.A.handled=none)(target:Expr):Ke X target I [I] items (uD X.L X.hs I l us items) where
 frame:=λi G h G' h' x kp=>⟨x.lk.frame kp,x.it.imp λo q=>⟨kp.lk (x.lk I (aA7.mpr rfl)).1 o q.1,q.2⟩,x.ls.imp λk e=>(kp.still l _ e x.ow).1,x.ls.elim λk e=>kp.off e x.ow,x.all.zero kp.still⟩
 item:=λi c R hi x=>by
  obtain⟨v,g1,g2⟩:=x.all.get (aA9 hi)
  obtain⟨k,x4⟩:=x.ls
  refine wpAny_pyNext_tuple_item x.it (Ll x4) (aE3.trans g1) λh' y1 y2=>⟨v,rfl,?_⟩
  have kk :∀a o,a∉[I]->c.s.heap.get? a=some o->h'.get? a=some o:=λa o ha e=>(y2.2 a (Pe ha)).trans e
  have q:=R.lockAt x.lk (t:=c.s.toks) kk (aB7 y2.1.symm)
  have ne:l∉[I]:=λz=>x.ow (A0 (x.lk l z).1)
  exact y1.elim λo y=>DA (T:="tuple_iterator") y.1 y.2.1 y.2.2 (by decide) ⟨items[i],aA9 hi,g2.zero q.1.still,q.2,⟨x.lk,y1,⟨k,kk l _ ne x4⟩,x.ow,x.all.zero q.1.still⟩,kk,aB7 y2.1.symm⟩
 done:=λc R x=>x.ls.elim λk x4=>E0 (wpAny_pyNext_tuple_end hh x.it (Ll x4) (aE3.trans (aH6 (aB7 x.all.len))) λh' y1 sz=>
  have kk :∀a o,a∉[I]->c.s.heap.get? a=some o->h'.get? a=some o:=λa o ha e=>y1 a o (Pe ha) e
  ⟨rfl,(R.lockAt x.lk (t:=c.s.toks) kk sz).2,kk,sz⟩)
def B8(lo:Int)(n:Nat):List ű:=(aK4 n).map λ(i:Nat)=>.int (lo+(i:Int))
def D0(lo hi:Int):Prop:=-1000000<=lo/\lo<=1000000/\-1000000<=hi/\hi<=1000000
def Bh(lo:Int)(n:Nat):(B8 lo n).length=n:=(aB5 ..).trans aT2
def Dd{lo:Int}{n i:Nat}(h:i<n):(B8 lo n)[i]?=some (.int (lo+(i:Int))):=by
 unfold B8
 rwa[aD6,List.getElem?_range h]
 rfl
structure t8(hs:aF2)(I:aC2)(lo:Int)(n i:Nat)(G:ħ)(h:aF2):Prop where
 lk:HL hs G [I]
 it:IsRangeIter h I (lo+i) ((n:Int)-i) 1
def VQ{I:aC2}{lo:Int}{n:Nat}(hh:X.A.handled=none)(target:Expr):Ke X target I [I] (B8 lo n) (t8 X.hs I lo n) where
 frame:=λi G h G' h' x kp=>⟨x.lk.frame kp,kp.lk (x.lk I (aC0 ..)).1 _ x.it⟩
 item:=λi c R hi x=>by
  rw[Bh]at hi
  refine wpAny_pyNext_range_item x.it (Int.sub_pos_of_lt (aD0.mpr hi)) λh' y1 y2=>⟨_,rfl,?_⟩
  have kk :∀a o,a∉[I]->c.s.heap.get? a=some o->h'.get? a=some o:=λa o ha e=>(y2.2 a (Pe ha)).trans e
  refine DA (s:={c.s with heap:=h',toks:=c.s.toks+1}) (T:="range_iterator") y1 rfl rfl (by decide) ⟨_,Dd hi,bR2 (lo+(i:Int)),(R.lockAt x.lk kk (aB7 y2.1.symm)).2,⟨x.lk,?_⟩,kk,aB7 y2.1.symm⟩
  rw[Int.natCast_add,<-bL3,<-Int.sub_sub]
  exact y1
 done:=λc R x=>E0 (wpAny_pyNext_range_end hh x.it (by rw[Bh,Int.sub_self];exact aT8 0) λh' y1 sz=>
  have kk :∀a o,a∉[I]->c.s.heap.get? a=some o->h'.get? a=some o:=λa o ha e=>y1 a o (Pe ha) e
  ⟨rfl,(R.lockAt x.lk (t:=c.s.toks) kk sz).2,kk,sz⟩)
def BW(vs:List ű):List ű:=vs.zipIdx.map λp=>.tup [.int (p.2:Int),p.1]
def EY{vs:List ű}{i:Nat}{a:ű}(h:vs[i]?=some a):(BW vs)[i]?=some (.tup [.int (i:Int),a]):=by
 unfold BW
 rwa[aD6,List.getElem?_zipIdx,h];rw[aH9]
 rfl
def DF(vs:List ű):(BW vs).length=vs.length:=(aB5 ..).trans List.length_zipIdx
noncomputable def De(t:Expr):Bool:=aE6 t.ctorIdx 25
def IP{P:Expr->Prop}{t:Expr}(h:De t=true)(f :∀a b c,P (.Tuple a b c)):P t:=Expr.Tuple.elim (motive_1:=P) t (aB8 h) f
structure s9(L:Bt)(hs:aF2)(e it l:aC2)(us:List Value)(vs:List ű)(i:Nat)(G:ħ)(h:aF2):Prop where
 ls:MZ L hs [e,it] it l us vs i G h
 en :∃old,IsEnum h e it i old
def Wj{e it l:aC2}{us:List Value}{vs:List ű}(hh:X.A.handled=none)(hne:e≠it){target:Expr}(ht:De target=true):Ke X target e [e,it] (BW vs) (s9 X.L X.hs e it l us vs) where
 frame:=λi G h G' h' x kp=>⟨x.ls.frame kp,x.en.imp λold q=>kp.lk (x.ls.lk e (aC0 ..)).1 _ q⟩
 item:=λi c R hi x=>by
  rw[DF]at hi
  obtain⟨v,g1,g2⟩:=x.ls.item hi
  obtain⟨k,x7⟩:=x.ls.ls
  obtain⟨old,x5⟩:=x.en
  refine wpAny_pyNext_enum_item x5 x.ls.it (AL x7) g1 hne λh' y1 y2 y3 y4 y5=>⟨_,rfl,?_⟩
  refine IP (P:=λT=>ė X (aU8 T (.ref e) (.ref c.s.heap.objs.size)) (λ_ s2=>Qv X c [e,it] (BW vs) i (.ref c.s.heap.objs.size) (s9 X.L X.hs e it l us vs (i+1)) s2) {c.s with heap:=h',toks:=c.s.toks+1}) ht λelts x1 pos=>wpAny_letOwnedTupleGo_enum y1 λh'' ē ż=>?_
  have kk :∀a o,a∉[e,it]->c.s.heap.get? a=some o->h''.get? a=some o:=λa o a1 ea=>(ż.2 a (dA a1)).trans (y5 a o (dA a1) (X6 a1) ea)
  have sz:c.s.heap.objs.size<=h''.objs.size:=ż.1.symm▸y4.symm▸aI4 _
  have hT:h''.get? c.s.heap.objs.size=some (Ab [.int i c.s.toks,v] 0):=(ż.2 _ (aO2 (aK2 x5))).trans y3
  have q:=R.lockAt x.ls.lk (t:=c.s.toks+1) kk sz
  exact⟨_,EY (aA9 hi),⟨_,_,rfl,⟨(0,Option.none),hT⟩,R.gone,_,_,rfl,bR2 (i:Int),_,_,rfl,g2.zero q.1.still,rfl⟩,q.2,⟨x.ls.next (y2.imp λo r=>⟨(ż.2 it hne.symm).trans r.1,r.2⟩) kk q.1,v,ē⟩,kk,sz⟩
 done:=λc R x=>by
  have x':=x.ls
  have en:=x.en
  rw[DF]at x' en
  exact x'.ls.elim λk x7=>en.elim λold x5=>E0 (wpAny_pyNext_enum_end hh x5 x'.it (AL x7) x'.none λh' y1 sz=>
   have kk :∀a o,a∉[e,it]->c.s.heap.get? a=some o->h'.get? a=some o:=λa o ha e=>y1 a o (X6 ha) e
   ⟨rfl,(R.lockAt x'.lk (t:=c.s.toks) kk sz).2,kk,sz⟩)
def YR{vs us:List ű}{va:Value}{K:List ű->St->Prop}(hh:X.A.handled=none)(e:AD nn vs=some vs)(h:K vs c.σ)(target:Expr)(R:Ī X c)(ra:Š X c (.lst vs) va):ė X (aS8 va) (λit s'=>CM X target c K it s') c.s:=by
 cases ra with
 | mk l us hv hp ho hr=>
 subst hv
 obtain⟨k,p⟩:=hp
 refine wpAny_pyIter_list (AL (k:=k.1) p) ?_
 have x:=R.lck {cls:=.type "list_iterator",data:=.fields #[.ref l,.int 0 0]} c.s.toks
 exact⟨c,.refl R,_,[c.s.heap.objs.size],vs,MZ X.L X.hs [c.s.heap.objs.size] c.s.heap.objs.size l us vs,_,rfl,λe=>Xv (X:=X.en e) (l:=l) (us:=us) hh target,λi G s Q st hQ=>wpAny_pyIter_listiter st.it hQ,⟨λb hb=>⟨aA7.mp hb▸ħ.put_at,aA7.mp hb▸R.size⟩,aC0 ..,⟨_,aC4 _ rfl,rfl,rfl⟩,⟨k.1,aB1 _ p⟩,x.kp.off p ho,hr.shut x.kp.still e⟩,λb hb=>aB7 (aA7.mp hb).symm,x,λ_ _ e=>aB1 _ e,h⟩
def T6(a:ű):Option (List ű):=(DC a).bind λp=>SK.rec (some p.2) (some p.2) none p.1
def f0{vs:List ű}{va:Value}{K:List ű->St->Prop}(hh:X.A.handled=none)(e:AD nn vs=some vs)(h:K vs c.σ)(target:Expr)(R:Ī X c)(ra:Š X c (.tup vs) va):ė X (aS8 va) (λit s'=>CM X target c K it s') c.s:=by
 cases ra with
 | mk l us hv hp ho hr=>
 subst hv
 obtain⟨k,p⟩:=hp
 refine wpAny_pyIter_tuple (Ll (k:=k.1) p) ?_
 have x:=R.lck {cls:=.type "tuple_iterator",data:=.fields #[.ref l,.int 0 0]} c.s.toks
 exact⟨c,.refl R,_,[c.s.heap.objs.size],vs,uD X.L X.hs c.s.heap.objs.size l us vs,_,rfl,λe=>gJ (X:=X.en e) (l:=l) (us:=us) hh target,λi G s Q st hQ=>wpAny_pyIter_tupleiter st.it hQ,⟨λb hb=>⟨aA7.mp hb▸ħ.put_at,aA7.mp hb▸R.size⟩,⟨_,aC4 _ rfl,rfl,rfl⟩,⟨k.1,aB1 _ p⟩,x.kp.off p ho,hr.shut x.kp.still e⟩,λb hb=>aB7 (aA7.mp hb).symm,x,λ_ _ e=>aB1 _ e,h⟩
def bP{a:ű}{vs:List ű}{va:Value}{K:List ű->St->Prop}(hh:X.A.handled=none)(ea:T6 a=some vs)(e:AD nn vs=some vs)(h:K vs c.σ)(target:Expr)(R:Ī X c)(ra:Š X c a va):ė X (aS8 va) (λit s'=>CM X target c K it s') c.s:=by
 obtain⟨⟨k,us⟩,e1,ea⟩:=bind_some ea
 refine FS (P:=λa=>Š X c a va->_) e1 (λra=>?_) ra
 cases k with
 | tup=>cases aA3 ea;exact f0 hh e h target R ra
 | lst=>cases aA3 ea;exact YR (us:=[]) hh e h target R ra
 | mat=>exact AA ea
end
section
variable{L:Bt}{G:ħ}{h:aF2}{n:Nat}{as:List (Str×ű)}{es:List aP3}
def AP.cases{M:List (Str×ű)->List aP3->Prop}(m0:M [] [])(m1 :∀x a hsh t v r u,A2 L G h n a v->AP L G h n r u->M r u->M ((x,a)::r) (⟨hsh,.str x t,v⟩::u)):AP L G h n as es->M as es:=
 aB4 (motive:=λas=>∀es,AP L G h n as es->M as es) (λes q=>(show es=[]from q)▸m0) (λa r ih es q=>by
  obtain⟨x,a⟩:=a
  obtain⟨hsh,t,v,u,rfl,q1,õ⟩:=q
  exact m1 x a hsh t v r u q1 õ (ih u õ)) as es
def AP.cons{x:Str}{a:ű}{hsh:Int}{t:Tok}{v:Value}{r:List (Str×ű)}{u:List aP3}(q:A2 L G h n a v)(q':AP L G h n r u):AP L G h n ((x,a)::r) (⟨hsh,.str x t,v⟩::u):=⟨hsh,t,v,u,rfl,q,q'⟩
def AP.noRef:AP L G h n as es->es.any (·.refKey)=false:=AP.cases (M:=λ_ es=>es.any (·.refKey)=false) rfl λ_ _ _ _ _ _ _ _ _ ih=>ih
def AP.len:AP L G h n as es->es.length=as.length:=AP.cases (M:=λas es=>es.length=as.length) rfl λ_ _ _ _ _ _ _ _ _ ih=>bQ5 aS3 ih
def AP.look(x:Str)(q:AP L G h n as es) :∀{P:Option ű->Option aP3->Prop},P none none->(∀a e,A2 L G h n a e.val->P (some a) (some e))->P (as.lookup x) (es.find? (·.key.isStr x)):=
 AP.cases (M:=λas es=>∀{P:Option ű->Option aP3->Prop},P none none->(∀a e,A2 L G h n a e.val->P (some a) (some e))->P (as.lookup x) (es.find? (·.key.isStr x))) (λ{P} p _=>p) (λy a hsh t v r u q _ ih P p f=>by
  rewrite [AQ];rwa[List.find?_cons,show(bN1 y t).isStr x=(x==y)from Bool.beq_comm]
  cases x==y with
  | true=>exact f a ⟨hsh,.str y t,v⟩ q
  | false=>exact ih p f) q
def AP.put{y:Str}{a:ű}{v:Value}{hsh:Int}{t:Tok}(hv:A2 L G h n a v)(q:AP L G h n as es):AP L G h n (Ah as y a) (putL y hsh (.str y t) v es):=
 AP.cases (M:=λas es=>AP L G h n (Ah as y a) (putL y hsh (.str y t) v es)) (AP.cons hv rfl) (λz b hs t' u r l q1 õ ih=>by
  show AP L G h n (bif z==y then(z,a)::r else(z,b)::Ah r y a) (if(bN1 z t').isStr y=true then _ else _)
  rwa[show(bN1 z t').isStr y=(z==y)from rfl]
  cases z==y with
  | true=>exact AP.cons hv õ
  | false=>exact AP.cons q1 ih) q
end
noncomputable def HC(a:ű):Bool:=match a with
 | .fn _=>false
 | _=>true
def P4{L:Bt}{G:ħ}{h:aF2}{n:Nat}{a:ű}{v:Value}(e:HC a=true)(q:A2 L G h n a v):handedIn v=true:=by
 have bx :∀{β:Type} {P:aC2->β->Prop} {R:β->Prop},Di P G R v->true=true->handedIn v=true:=λq _=>q.casesOn λ_ _ hv _ _ _=>hv.symm▸rfl
 exact ű.casesOn (motive_1:=λa=>A2 L G h n a v->HC a=true->handedIn v=true) a (λq _=>(show v = .none from q).symm▸rfl) (λx q _=>(show v = .bool x from q).symm▸rfl)
  (λk=>AC.casesOn (motive:=λk=>A2 L G h n (.key k) v->true=true->handedIn v=true) k (λi q _=>(Al q).elim λt e=>e.symm▸rfl) λi q _=>(An q).elim λt e=>e.symm▸rfl)
  (λ_ _=>bx) (λx q _=>q.1.symm▸rfl) (λ_ _ z=>nomatch z) (λx q _=>(show v = .ref x from q).symm▸rfl) (λ_ _=>bx) (λ_=>bx) (λ_=>bx) bx q e
noncomputable def Ř.ins:Ř->Option (aC2×List (Str×ű))
 | .inst C at_=>some (C,at_)
 | _=>none
def Ř.ins_eq{o:Ř}{q:aC2×List (Str×ű)}(e:o.ins=some q):o = .inst q.1 q.2:=
 Ř.casesOn (motive:=λo=>o.ins=some q->o = .inst q.1 q.2) o (λ_=>AA) (λ_=>AA) (λ_=>AA) (λ_ _ e=>bQ5 (λq:aC2×List (Str×ű)=>Ř.inst q.1 q.2) (aA3 e)) (λ_=>AA) e
def Mh(σ:St)(a:ű)(k:Nat->aC2->List (Str×ű)->Prop):Prop:=Aa (C9 σ a) λp=>Aa p.2.ins λq=>k p.1 q.1 q.2
noncomputable def QZ(K:bH5)(D:aC2)(x:Str):Bool:=plainGet K D x&&hasDictIn K D&&(findIn K (.ref D) x).any (noGet K)
def Vi(K:bH5)(a:ű)(x:Str)(σ:St)(Q:ű->St->Prop):Prop:=Mh σ a λ_ D at_=>Dj (QZ K D x) (Aa (at_.lookup x) λv=>Dj (HC v) (Q v σ))
noncomputable def RX(o:Option (Option Value)):Option aC2:=match o with
 | some (some (.ref f))=>some f
 | _=>none
def fE(K:bH5)(σ:St)(a:ű)(x:Str):Option aC2:=(C9 σ a).bind λp=>p.2.ins.bind λq=>(RX (findIn K (.ref q.1) x)).bind λf=>bif (q.2.lookup x).isNone&&(plainGet K q.1 x&&isFn K (.ref f))then some f else none
noncomputable def Q0(K:bH5)(D:aC2)(x:Str):Bool:=(findIn K (.ref D) "__setattr__" == some (some (.builtin "object.__setattr__")))&&(plainOver K D&&((takerIn K D x==some none)&&hasDictIn K D))
def cQ(K:bH5)(a:ű)(x:Str)(b:ű)(σ:St)(Q:St->Prop):Prop:=Mh σ a λy D at_=>Dj (Q0 K D x&&aX9 at_.length 900) (Q (σ.set y (.inst D (Ah at_ x b))))
section
variable{X:š}{c:Ĳ}{a b:ű}{va vb:Value}{K:bH5}{Q:ű->St->Prop}
def Gn{k:Nat->aC2->List (Str×ű)->Prop}{P:Value->Prop}(h:Mh c.σ a k)(R:Ī X c)(r:Š X c a va)(f :∀y D at_ es e,c.σ.H.lookup y=some (.inst D at_)->c.s.heap.get? (c.G.μ y)=some (instObj D (c.G.δ y))->c.s.heap.get? (c.G.δ y)=some (dictOf es e)->AP X.L c.G c.s.heap c.σ.n at_ es->c.G.tag (c.G.δ y)=some (.dict y)->k y D at_->P (.ref (c.G.μ y))):P va:=by
 refine AB h λp e1 h=>AB h λq e2 h=>?_
 have z:=C6 e1 r
 rw[Ř.ins_eq e2]at z
 rwa[z.1]
 exact(R.obj _ _ z.2).rel.casesOn λes e q1 õ q3 ą=>f _ _ _ es e z.2 q1 õ q3 ą h
def ZF(hK:K.In X.h₀){x:Str}(h:Vi K a x c.σ Q)(R:Ī X c)(ra:Š X c a va):Đ X c Q (bC2 va x true):=by
 refine Gn (P:=λva=>Đ X c Q (bC2 va x true)) h R ra λy D at_ es k hx Ŷ å o3 Ł h=>?_
 obtain⟨hc,h⟩:=A3 h
 obtain⟨c12,c3⟩:=AH hc
 obtain⟨c1,c2⟩:=AH c12
 refine AB h λv hv h=>?_
 obtain⟨hh,h⟩:=A3 h
 cases ha:findIn K (.ref D) x with
 | none=>rw[ha]at c3;cases c3
 | some attr=>
  rw[ha]at c3
  have fe :∃en,es.find? (·.key.isStr x)=some en/\Š X c v en.val:=o3.look x (P:=λp q=>p=some v->∃en,q=some en/\Š X c v en.val) AA (λa e r z=>⟨e,rfl,aA3 z▸r⟩) hv
  obtain⟨en,e1,r⟩:=fe
  refine get_value (hK.keeps R.base) ⟨Ŷ,rfl,rfl,å⟩ (bN7 c1).1 (findObj_own c2 ha c3 (v:=en.val) ?_) (P4 hh r) (.val _ R r h)
  rw[lookIn_dict]
  unfold getL
  rwa[e1];rfl
def Y2{E:Value->aA5->Prop}(hK:K.In X.h₀){x:Str}{f:aC2}(e:fE K c.σ a x=some f){pl:Sem Bool}{Q:Value×List Value->aA5->Prop}(R:Ī X c)(ra:Š X c a va)(h :∀t,Q (.ref f,[va]) {c.s with toks:=t}):ė X (bB0 va x pl) Q c.s:=by
 have hi:Mh c.σ a λ_ D at_=>RX (findIn K (.ref D) x)=some f/\at_.lookup x=none/\plainGet K D x=true/\isFn K (.ref f)=true:=by
  obtain⟨p,e1,e⟩:=bind_some e
  obtain⟨q,e2,e⟩:=bind_some e
  obtain⟨g,e3,e⟩:=bind_some e
  show Aa (C9 c.σ a) _
  rwa[e1]
  show Aa p.2.ins _
  rwa[e2]
  refine BD e (λhc e=>?_) AA
  cases e
  obtain⟨ē,ż⟩:=AH hc
  obtain⟨ż,ð⟩:=AH ż
  exact⟨e3,Option.isNone_iff_eq_none.mp ē,ż,ð⟩
 refine Gn (P:=λva=>(∀t,Q (.ref f,[va]) {c.s with toks:=t})->ė X (bB0 va x pl) Q c.s) hi R ra (λy D at_ es k hx Ŷ å o3 Ł h hq=>?_) h
 obtain⟨h1,h2,h3,h4⟩:=h
 have į:findIn K (.ref D) x=some (some (.ref f)):=by
  unfold RX at h1
  split at h1
  ·rename_i e;cases h1;exact e
  ·cases h1
 have fe:es.find? (·.key.isStr x)=none:=o3.look x (P:=λp q=>p=none->q=none) (λ_=>rfl) (λa e r z=>AA z.symm) h2
 refine method_fn (od:=some (dictOf es k)) (hK.keeps R.base) ⟨Ŷ,rfl,rfl,å⟩ (bN7 h3).1 (bN7 h3).2 į (beq_iff_eq.mp h4) ?_ (hq c.s.toks)
 show(lookIn x (dictOf es k)).map _=_
 rw[lookIn_dict]
 unfold getL
 rwa[fe]
 simp only[o3.noRef]
 rfl
end
section
variable{prog:aF3}{w:aC9}{A:aH1}{C x:aC2}{s:aA5}{K:bH5}{R:bG3->aA5->Prop}
def Po{name:Str}{hsh:Int}{k v:Value}(l:List aP3):(putL name hsh k v l).length<=l.length+1:=by
 induction l with
 | nil=>exact aA6 _
 | cons e r ih=>
  unfold putL
  split
  ·exact aI4 _
  ·exact aF7 ih
def Z9{dx:aC2}{name:Str}{tk:Tok}{v:Value}{es:List aP3}{n:Nat}(X:K.In s.heap)
  (hx:s.heap.get? x=some (instObj C dx)) (D:s.heap.get? dx=some (dictOf es n)) (hp:plainOver K C=true) (ht:takerIn K C name=some none) (hh:hasDictIn K C=true)
  (hr:es.any (·.refKey)=false) (hz:es.length<1000)
  (h :∀h',h'.get? dx=some (dictOf (putL name (bG5 w.params name) (.str name s.toks) v es) (putN name es n))->aG3 dx s.heap h'->R (.ok (.ret .none)) {s with heap:=h',toks:=s.toks+1}) :
  aO8 (aC6 prog w) A (.call (.builtin "object.__setattr__") ⟨[.ref x,.str name tk,v],[]⟩) R s:=by
 have I:InstAt s.heap x (instObj C dx) C (some (dictOf es n)):=⟨hx,rfl,rfl,D⟩
 refine osa_open X I hp ht λb=>?_
 obtain⟨cd,hc,hd'⟩:=any_some hh
 have D':(s.heap.update dx (Obj.putName name (bG5 w.params name) (.str name s.toks) v)).get? dx=some (dictOf (putL name (bG5 w.params name) (.str name s.toks) v es) (putN name es n)):=by
  rwa[aJ8 _ D (by rw[putName_dict];rfl)];rw[putName_dict]
 refine aA1 (aA4 (aA1 (aA1 (bC0 hx (aA1 ((looks_clsIn X hc).here ?_))))))
 rwa[hd']
 refine aA4 (a:=some dx) (aA1 (aA4 (aA1 ?_)))
 unfold nsSet
 refine aA1 (aA1 (aR8 (aA4 (aA1 (wpAny_mkText (aA1 (bC0 D ?_)))))))
 dsimp only[dictOf]
 have c:(!es.toArray.any (·.key.isStr name)&&es.toArray.any (·.refKey))=false:=by
  rwa[bH9.symm,bH9.symm]
  show(!es.any (·.key.isStr name)&&es.any (·.refKey))=false
  rwa[hr];rw[bK2]
 rewrite [aRefKeyMayBeTheName_at];rwa[c]
 refine wpAny_updatePart D ?_
 refine aA1 (wpAny_lookBehind D' (pastItsLine_dict (aA2 (Po es) (aA2 hz (by decide)))) ?_)
 exact aA4 (h _ D' (aI5 ..))
end
section
variable{X:š}{c:Ĳ}{a b:ű}{va vb:Value}{K:bH5}{Q:St->Prop}
def jC(hK:K.In X.h₀){x:Str}(h:cQ K a x b c.σ Q)(R:Ī X c)(ra:Š X c a va)(rb:Š X c b vb):GB X c Q (setAttr va x vb):=by
 refine Gn (P:=λva=>GB X c Q (setAttr va x vb)) h R ra λy D at_ es k hx Ŷ å o3 Ł h=>?_
 obtain⟨hc,h⟩:=A3 h
 obtain⟨hc,hz⟩:=AH hc
 obtain⟨c1,hc⟩:=AH hc
 obtain⟨c2,hc⟩:=AH hc
 obtain⟨c3,c4⟩:=AH hc
 refine set_plain (od:=some (dictOf es k)) (hK.keeps R.base) ⟨Ŷ,rfl,rfl,å⟩ (beq_iff_eq.mp c1) (Z9 (s:={c.s with toks:=c.s.toks+1}) (hK.keeps R.base) Ŷ å c2 (beq_iff_eq.mp c3) c4 o3.noRef (aE9 (o3.len▸aL4 hz) (by decide)) λh' d1 d2=>?_)
 have ne:c.G.μ y≠c.G.δ y:=EG (R.obj y _ hx).tag Ł λq=>nomatch q
 exact .to (b:=()) (R.setInst (o:=.inst D (Ah at_ x b)) hx rfl d2 λp=>⟨_,_,(d2.2 _ ne).trans Ŷ,d1,AP.sub p.still (p.hg X.L) (Fq _) (o3.put rb),Ł⟩) trivial h
end
end Mine
end
section
open PySem PySem.W PyProof.Rows PySem.Spec PySem.Calls
namespace Mine
abbrev Ξ:=aC2×List (Str×ű)
noncomputable def Ξ.ao(o:Ξ):Ř:=.inst o.1 o.2
def CG(os:List Ξ):Prop:=∀(i:Nat) (o:Ξ),os[i]?=some o->AK nn o.2=some o.2
structure KD(G:ħ)(h₀:aF2)(s:aA5):Prop where
 lo :∀a,G.own a->h₀.get? a=none
 lt :∀a,G.own a->a<s.heap.objs.size
 base :∀b o,h₀.get? b=some o->s.heap.get? b=some o
 size:h₀.objs.size<=s.heap.objs.size
structure Ky(L:Bt)(G:ħ)(h:aF2)(k i:Nat)(o:Ξ):Prop where
 tag:G.tag (G.μ i)=some (.obj i)
 rel:Bx L G h k i o.ao
inductive V1(L:Bt)(G:ħ)(k:Nat)(s:aA5)(Q:ű->List Ξ->Prop)(v:Value)(s':aA5):Prop
 | mk (r:ű) (os':List Ξ) (q:Q r os') (shut:r.sub nn=some r) (len:os'.length=k) (shuts:CG os') (keep :∀b o,s.heap.get? b=some o->¬ G.mt b->s'.heap.get? b=some o) (size:s.heap.objs.size<=s'.heap.objs.size)
  (gens:s'.gens=s.gens) (os:s'.os=s.os) (objs :∀(i:Nat) (o:Ξ),os'[i]?=some o->Bx L G s'.heap k i o.ao) (rel:A2 L G s'.heap k r v)
def CE(B:Value->aA5->Prop)(r:bG3)(s:aA5):Prop:=∃v,r = .ok (.ret v)/\B v s
def CE.mono{B B':Value->aA5->Prop}(h :∀v s,B v s->B' v s){r:bG3}{s:aA5}(x:CE B r s):CE B' r s:=x.imp λv q=>⟨q.1,h _ _ q.2⟩
def Cd(d:Nat)(A:aH1):Prop:=A.handled=none/\A.depth+d<recursionLimit/\A.units+10*d+40<cLine
abbrev ĉ:=List ű->List Ξ->(ű->List Ξ->Prop)->Prop
def KJ(L:Bt)(A:aH1)(f:Value)(s:aA5):Prop:=∀(Q:Keeper->aA5->Prop) E,(∀k,Q k s)->aC8 (aC6 L.prog L.w) A (bG4 f) Q E s
def As(L:Bt)(h₀:aF2)(d:Nat)(f:Value)(tr:ĉ):Prop:=
 ∀{A:aH1} {s:aA5} {G:ħ} {as:List ű} {os:List Ξ} {Q:ű->List Ξ->Prop} {vas:List Value},Cd d A->KD G h₀ s->(∀(i:Nat) (o:Ξ),os[i]?=some o->Ky L G s.heap os.length i o)->AW L G s.heap os.length as vas->tr as os Q->
  KJ L A f s/\aO8 (aC6 L.prog L.w) A (.call f ⟨vas,[]⟩) (CE (V1 L G os.length s Q)) s
def As.up{L:Bt}{h₀:aF2}{d d':Nat}{f:Value}{tr:ĉ}(h:As L h₀ d f tr)(hd:d<=d'):As L h₀ d' f tr:=λhA=>h ⟨hA.1,aE9 (aH8 hd _) hA.2.1,aE9 (aN7 (aH8 (Nat.mul_le_mul_left 10 hd) _) 40) hA.2.2⟩
noncomputable def IQ(a:ű):Option Nat:=match a with
 | .ref x=>some x
 | _=>none
def hasN(x:Nat)(l:List Nat):Bool:=aB4 false (λy _ ih=>aE6 y x||ih) l
def Ax(as:List ű):List Nat:=aB4 [] (λa _ ih=>aE5 ih (λx=>bif hasN x ih then ih else x::ih) (IQ a)) as
def DG(x:Nat)(l:List Nat):Option Nat:=aB4 none (λy _ ih=>bif aE6 y x then some 0 else ih.map aS3) l
def GD(l:List Nat)(x:Nat):Option ű:=(DG x l).map .ref
def Mm(H:List (Nat×Ř))(l:List Nat):Option (List Ξ):=aB4 (some []) (λx _ ih=>((H.lookup x).bind Ř.ins).bind λo=>ih.map (o :: ·)) l
def Nj(l:List Nat):List Ξ->List (Nat×Ř)->List (Nat×Ř):=aB4 (λ_ H=>H) (λx _ ih os H=>aB4 H (λo t _=>ih t (Ah H x o.ao)) os) l
def St.sets(σ:St)(l:List Nat)(os:List Ξ):St:=⟨σ.ρ,Nj l os σ.H,σ.n,σ.anc⟩
def KH(tr:ĉ)(as:List ű)(σ:St)(Q:ű->St->Prop):Prop:=Aa (Mm σ.H (Ax as)) λos=>CG os/\Aa (AD (GD (Ax as)) as) λas'=>tr as' os λr os'=>Q r (σ.sets (Ax as) os')
inductive Rj(a:aC2)(y:Nat):List (Str×ű)->List (Str×ű)->Prop
 | nil:Rj a y [] []
 | keep (p:Str×ű) {l l':List (Str×ű)} (t:Rj a y l l'):Rj a y (p::l) (p::l')
 | put (x:Str) {l l':List (Str×ű)} (t:Rj a y l l'):Rj a y ((x,.glo a)::l) ((x,.ref y)::l')
def WI(tr:ĉ)(as:List ű)(σ:St)(Q:ű->St->Prop):Prop:=∃y x D at',y<σ.n/\σ.H.lookup x=some (.inst D at')/\∀a,∃at_,Rj a y at_ at'/\
 KH tr as (σ.set x (.inst D at_)) λr τ=>∃E b b',τ.H.lookup x=some (.inst E b)/\Rj a y b b'/\Q r (τ.set x (.inst E b'))
def BI(tr:ĉ)(as:List ű)(σ:St)(Q:ű->St->Prop):Prop:=KH tr as σ Q\/WI tr as σ Q
def FK(l:List Nat):Prop:=∀i j x:Nat,l[i]?=some x->l[j]?=some x->i=j
def TE{y x:Nat}(e:y=x):aE6 y x=true:=by
 subst e
 exact Nat.beq_refl y
def Mo{x:Nat}{l:List Nat}{i:Nat}(e:l[i]?=some x):hasN x l=true:=
 aB4 (motive:=λl=>∀i:Nat,l[i]?=some x->hasN x l=true) (λ_=>AA) (λy r ih i e=>Nat.casesOn (motive:=λi=>(y::r)[i]?=some x->(aE6 y x||hasN x r)=true) i (λe=>bQ5 (· || hasN x r) (TE (aA3 e))) (λi e=>(ih i e).symm▸Bool.or_true _) e) l i e
def Od(as:List ű):FK (Ax as):=by
 refine aB4 (motive:=λas=>FK (Ax as)) (λ_ _ _=>AA) (λa r ih=>?_) as
 show FK (aE5 (Ax r) (λx=>bif hasN x (Ax r)then Ax r else x::Ax r) (IQ a))
 cases IQ a with
 | none=>exact ih
 | some x=>
  show FK (bif hasN x (Ax r)then Ax r else x::Ax r)
  cases hx:hasN x (Ax r)with
  | true=>exact ih
  | false=>
   have no :∀{i:Nat} {y:Nat},(Ax r)[i]?=some y->x=y->False:=λe z=>aR9 (hx.symm.trans (Mo (z▸e)))
   intro i j y e1 e2
   cases i with
   | zero=>cases j with
    | zero=>rfl
    | succ j=>exact(no e2 (aA3 e1)).elim
   | succ i=>cases j with
    | zero=>exact(no e1 (aA3 e2)).elim
    | succ j=>exact bQ5 aS3 (ih i j y e1 e2)
def C1{x:Nat}{l:List Nat} :∀{i:Nat},DG x l=some i->l[i]?=some x:=by
 refine aB4 (motive:=λl=>∀{i:Nat},DG x l=some i->l[i]?=some x) AA (λy r ih i e=>?_) l
 refine BD (b:=aE6 y x) (x:=some 0) e (λh e=>aA3 e▸bQ5 some (aB8 h)) λe=>?_
 obtain⟨j,e1,rfl⟩:=map_some e
 exact ih e1
def FI{x:Nat}{l:List Nat}{i:Nat}(u:FK l)(e:l[i]?=some x):DG x l=some i:=by
 have h :∃j,DG x l=some j:=aB4 (motive:=λl=>∀i:Nat,l[i]?=some x->∃j,DG x l=some j) (λ_=>AA) (λy r ih i e=>by
  show∃j,(bif aE6 y x then some 0 else(DG x r).map aS3)=some j
  cases hb:aE6 y x with
  | true=>exact⟨0,rfl⟩
  | false=>cases i with
   | zero=>exact bQ8 (hb.symm.trans (TE (aA3 e))) (λz=>nomatch z)
   | succ i=>obtain⟨j,hj⟩:=ih i e;exact⟨j+1,by rwa[hj];rfl⟩) l i e
 obtain⟨j,hj⟩:=h
 rwa[hj,u i j x e (C1 hj)];rfl
def OS{H:List (Nat×Ř)}{l:List Nat} :∀{os:List Ξ},Mm H l=some os->os.length=l.length/\∀(i x:Nat),l[i]?=some x->∃o:Ξ,os[i]?=some o/\H.lookup x=some o.ao:=by
 refine aB4 (motive:=λl=>∀{os:List Ξ},Mm H l=some os->os.length=l.length/\∀(i x:Nat),l[i]?=some x->∃o:Ξ,os[i]?=some o/\H.lookup x=some o.ao) (λ{os} e=>aA3 e▸⟨rfl,λ_ _=>AA⟩) (λy r ih os e=>?_) l
 obtain⟨o,e1,e⟩:=bind_some e
 obtain⟨t,e2,rfl⟩:=map_some e
 obtain⟨ao,e3,e4⟩:=bind_some e1
 refine⟨bQ5 aS3 (ih e2).1,λi x h=>?_⟩
 cases i with
 | zero=>exact⟨o,rfl,aA3 h▸e3.trans (bQ5 some (Ř.ins_eq e4))⟩
 | succ i=>exact(ih e2).2 i x h
def Ov{l:List Nat} :∀{os:List Ξ} {H:List (Nat×Ř)} {y:Nat} {o:Ř},FK l->os.length=l.length->(Nj l os H).lookup y=some o->(∃(i:Nat) (b:Ξ),l[i]?=some y/\os[i]?=some b/\o=b.ao)\/(∀i:Nat,l[i]?≠some y)/\H.lookup y=some o:=by
 refine aB4 (motive:=λl=>∀{os:List Ξ} {H:List (Nat×Ř)} {y:Nat} {o:Ř},FK l->os.length=l.length->(Nj l os H).lookup y=some o->(∃(i:Nat) (b:Ξ),l[i]?=some y/\os[i]?=some b/\o=b.ao)\/(∀i:Nat,l[i]?≠some y)/\H.lookup y=some o) (λ{os H y o} _ _ h=>.inr ⟨λ_=>AA,h⟩) (λx r ih os H y o u hl h=>?_) l
 cases os with
 | nil=>cases hl
 | cons b t=>
  refine(ih (os:=t) (H:=Ah H x b.ao) (λi j z e1 e2=>bF6 (u (i+1) (j+1) z e1 e2)) (bF6 hl) h).elim (λq=>q.elim λi q=>q.elim λc q=>.inl ⟨i+1,c,q⟩) λq=>?_
  exact Br q.2 (λe1 e2=>.inl ⟨0,b,bQ5 some e1.symm,rfl,e2.symm⟩) λe1 e2=>.inr ⟨λi=>Nat.casesOn (motive:=λi=>(x::r)[i]?≠some y) i (λz=>e1 (aA3 z).symm) λi=>q.1 i,e2⟩
def VV{α β:Type}(o:Option α)(d:β)(f:α->β):β:=aE5 d f o
def C5{α β:Type}{o:Option α}{a:α}(e:o=some a)(d:β)(f:α->β):VV o d f=f a:=e▸rfl
def TA(l:List Nat)(p:AR):AR:=match p with
 | .obj x=>VV (DG x l) .lock .obj
 | .dict x=>VV (DG x l) .lock .dict
 | _=>.lock
def Cy(G:ħ)(l:List Nat):ħ:=⟨λa=>(G.tag a).map (TA l),λi=>VV l[i]? 0 G.μ,λi=>VV l[i]? 0 G.δ⟩
section
variable{G:ħ}{l:List Nat}{i x:Nat}
def GU(e:l[i]?=some x):(Cy G l).μ i=G.μ x:=C5 e 0 G.μ
def Il(e:l[i]?=some x):(Cy G l).δ i=G.δ x:=C5 e 0 G.δ
def DP{a:aC2}:(Cy G l).own a↔G.own a:=by
 show(G.tag a).map _≠none↔G.tag a≠none
 cases G.tag a with
 | none=>exact bL1
 | some p=>exact⟨λ_ z=>(nomatch z),λ_ z=>nomatch z⟩
def Qs(u:FK l)(e:l[i]?=some x){a:aC2}(t:G.tag a=some (.obj x)):(Cy G l).tag a=some (.obj i):=(bQ5 (aE0 (TA l)) t).trans (bQ5 some (C5 (FI u e) AR.lock AR.obj))
def PW(u:FK l)(e:l[i]?=some x){a:aC2}(t:G.tag a=some (.dict x)):(Cy G l).tag a=some (.dict i):=(bQ5 (aE0 (TA l)) t).trans (bQ5 some (C5 (FI u e) AR.lock AR.dict))
def G2{h:aF2}:CZ G h (Cy G l) h:=λa o e q=>⟨e,λz=>q (DP.mp z)⟩
def HP{h:aF2}:CZ (Cy G l) h G h:=λa o e q=>⟨e,λz=>q (DP.mpr z)⟩
def LC{a:aC2}{p:AR}(t:(Cy G l).tag a=some p):p = .lock\/∃i x,l[i]?=some x/\(p = .obj i/\G.tag a=some (.obj x)\/p = .dict i/\G.tag a=some (.dict x)):=by
 obtain⟨q,e,rfl⟩:=map_some t
 cases q with
 | obj x=>
  show VV (DG x l) AR.lock AR.obj=_\/_
  cases hp:DG x l with
  | none=>exact .inl rfl
  | some i=>exact .inr ⟨i,x,C1 hp,.inl ⟨C5 hp AR.lock AR.obj,e⟩⟩
 | dict x=>
  show VV (DG x l) AR.lock AR.dict=_\/_
  cases hp:DG x l with
  | none=>exact .inl rfl
  | some i=>exact .inr ⟨i,x,C1 hp,.inr ⟨C5 hp AR.lock AR.dict,e⟩⟩
 | _=>exact .inl rfl
end
section
variable{X:š}{c:Ĳ}{l:List Nat}{i x k:Nat}{o:Ξ}
def Qb(R:Ī X c)(u:FK l)(e:l[i]?=some x)(ho:c.σ.H.lookup x=some o.ao)(hs:AK nn o.2=some o.2):Ky X.L (Cy c.G l) c.s.heap k i o:=
 ⟨(bQ5 _ (GU e)).trans (Qs u e (R.obj x _ ho).tag),Bx.sub (g:=nn) G2 (λ_ _=>AA) (GU e) (Il e) (λ_=>id) (λt=>⟨λ_=>id,PW u e t⟩) o.ao o.ao (bQ5 (aE0 (Ř.inst o.1)) hs) (R.obj x _ ho).rel⟩
def Lw{h:aF2}{n:Nat}{G:ħ}(e:l[i]?=some x)(t:G.tag (G.δ x)=some (.dict x))(hs:AK nn o.2=some o.2)(q:Bx X.L (Cy G l) h k i o.ao):Bx X.L G h n x o.ao:=
 Bx.sub (g:=nn) HP (λ_ _=>AA) (GU e).symm (Il e).symm (λ_=>id) (λ_=>⟨λ_=>id,(bQ5 _ (Il e)).trans t⟩) o.ao o.ao (bQ5 (aE0 (Ř.inst o.1)) hs) q
def GS(R:Ī X c):X.h₀.objs.size<=c.s.heap.objs.size:=R.bsz
def KA{d:Nat}{f:Value}{tr:ĉ}(hf:As X.L X.h₀ d f tr){A:aH1}(hA:Cd d A){as:List ű}{Q:ű->St->Prop}(h:KH tr as c.σ Q){vas:List Value}(R:Ī X c)(ra:Ě X c as vas) :
  KJ X.L A f c.s/\aO8 (aC6 X.L.prog X.L.w) A (.call f ⟨vas,[]⟩) (CE (AX X (Š X) c Q)) c.s:=by
 refine AB h λos e1 h=>AB h.2 λas' e2 ht=>?_
 have hs:=h.1
 obtain⟨hl,hg⟩:=OS e1
 have u:=Od as
 generalize Ax as=l at hl hg u e2 ht
 have hd :∀{i x},l[i]?=some x->∃o:Ξ,os[i]?=some o/\c.σ.H.lookup x=some o.ao/\c.G.tag (c.G.δ x)=some (.dict x)/\c.G.tag (c.G.μ x)=some (.obj x):=λ{i x} e=>(hg i x e).imp λo q=>⟨q.1,q.2,(R.obj x _ q.2).rel.tagd rfl,(R.obj x _ q.2).tag⟩
 have li :∀{i} {o:Ξ},os[i]?=some o->∃x,l[i]?=some x:=λ{i o} e=>⟨_,aA9 (hl▸(aB3.mp e).1)⟩
 have D:KD (Cy c.G l) X.h₀ c.s:=⟨λa e=>R.ownB a (DP.mp e),λa e=>R.ownLt a (DP.mp e),R.base,GS R⟩
 have hV:AW X.L (Cy c.G l) c.s.heap os.length as' vas:=AW.sub G2 (λy w e hy=>by
  obtain⟨j,e3,rfl⟩:=map_some e
  obtain⟨o,h1,_⟩:=hd (C1 e3)
  exact⟨bQ5 _ (GU (C1 e3)).symm,(aB3.mp h1).1⟩) e2 ra
 obtain⟨c1,c2⟩:=hf hA D (λi o e=>(li e).elim λx ex=>(hd ex).elim λo' q=>Qb R u ex (aA3 (e.symm.trans q.1)▸q.2.1) (hs i o e)) hV ht
 refine⟨c1,aL2 c2 λr s'=>CE.mono λv s' hb=>hb.casesOn λr os' hq hrs hol hoc hkeep hsz hg' ho hO hr=>?_⟩
 have x:C8 X c ⟨c.G,⟨c.σ.ρ,Nj l os' c.σ.H,c.σ.n,c.σ.anc⟩,s'⟩:=R.chgs (S:=λp=>∃i x,l[i]?=some x/\(p = .obj x\/p = .dict x)) (λp q=>q.elim λi q=>q.elim λx q=>⟨x,q.2⟩)
  (λb o e q=>hkeep b o e λz=>z.elim λp z=>(LC z.1).elim z.2 λw=>w.elim λi w=>w.elim λx w=>w.2.elim (λw'=>q _ w'.2 ⟨i,x,w.1,.inl rfl⟩) λw'=>q _ w'.2 ⟨i,x,w.1,.inr rfl⟩) hsz rfl hg' ho rfl rfl rfl λy o e=>(Ov u (hol.trans hl) e).elim
   (λq=>.inl λp=>by
    obtain⟨i,b,q1,õ,rfl⟩:=q
    obtain⟨o,h1,h2,h3,h4⟩:=hd q1
    exact⟨(R.obj y _ h2).lt,h4,Lw q1 h3 (hoc i b õ) (hO i b õ)⟩)
   λq=>.inr ⟨λz=>z.elim λi z=>z.elim λx z=>z.2.elim (λw=>q.1 i (by cases w;exact z.1)) λw=>(nomatch w),λz=>z.elim λi z=>z.elim λx z=>z.2.elim (λw=>(nomatch w)) λw=>q.1 i (by cases w;exact z.1),q.2⟩
 exact .to x (hr.shut HP hrs) hq
def Rj.go{L:Bt}{G:ħ}{h:aF2}{n y:Nat}{a:aC2}(e:G.μ y=a)(hy:y<n){l l':List (Str×ű)}(t:Rj a y l l') :∀{es:List aP3},AP L G h n l es↔AP L G h n l' es:=by
 induction t with
 | nil=>exact bL1
 | keep p _ ih=>exact⟨λh=>h.imp λ_ h=>h.imp λ_ h=>h.imp λ_ h=>h.imp λ_ h=>⟨h.1,h.2.1,ih.mp h.2.2⟩,λh=>h.imp λ_ h=>h.imp λ_ h=>h.imp λ_ h=>h.imp λ_ h=>⟨h.1,h.2.1,ih.mpr h.2.2⟩⟩
 | put x _ ih=>exact⟨λh=>h.imp λ_ h=>h.imp λ_ h=>h.imp λ_ h=>h.imp λ_ h=>⟨h.1,⟨e▸h.2.1,hy⟩,ih.mp h.2.2⟩,λh=>h.imp λ_ h=>h.imp λ_ h=>h.imp λ_ h=>h.imp λ_ h=>⟨h.1,e▸h.2.1.1,ih.mpr h.2.2⟩⟩
def Q8{L:Bt}{G:ħ}{h:aF2}{n x:Nat}{D:aC2}{l l':List (Str×ű)}(f :∀{es},AP L G h n l es->AP L G h n l' es)(q:Bx L G h n x (.inst D l)):Bx L G h n x (.inst D l'):=
 q.casesOn λes z q1 õ q3 ą=>⟨es,z,q1,õ,f q3,ą⟩
def Ī.swap{G:ħ}{σ:St}{s:aA5}{x:Nat}{o o':Ř}(R:Ī X ⟨G,σ,s⟩)(hx:σ.H.lookup x=some o)(f:Bx X.L G s.heap σ.n x o->Bx X.L G s.heap σ.n x o'):C8 X ⟨G,σ,s⟩ ⟨G,σ.set x o',s⟩:=
 R.chgs (S:=λp=>p = .obj x) (λp hp=>⟨x,.inl hp⟩) (λb o e q=>e) (aA6 _) rfl rfl rfl rfl rfl rfl λy o e=>Br e (λhy hw=>.inl λz=>by
  subst hy;subst hw
  exact⟨(R.obj y _ hx).lt,(R.obj y _ hx).tag,f (R.obj y _ hx).rel⟩) λhy e=>.inr ⟨λz=>hy (by cases z;rfl),λz=>(nomatch z),e⟩
def Rn{d:Nat}{f:Value}{tr:ĉ}(hf:As X.L X.h₀ d f tr){A:aH1}(hA:Cd d A){as:List ű}{Q:ű->St->Prop}(h:WI tr as c.σ Q){vas:List Value}(R:Ī X c)(ra:Ě X c as vas) :
  KJ X.L A f c.s/\aO8 (aC6 X.L.prog X.L.w) A (.call f ⟨vas,[]⟩) (CE (AX X (Š X) c Q)) c.s:=by
 obtain⟨y,x,D,at',hy,hx,h⟩:=h
 obtain⟨at_,t,h⟩:=h (c.G.μ y)
 have x1:C8 X c ⟨c.G,c.σ.set x (.inst D at_),c.s⟩:=Ī.swap (σ:=c.σ) R hx (Q8 (t.go rfl hy).mpr)
 obtain⟨c1,c2⟩:=KA (c:=⟨c.G,c.σ.set x (.inst D at_),c.s⟩) hf hA h x1.R (x1.pre.va ra)
 refine⟨c1,aL2 c2 λr s'=>CE.mono λv s' hb=>?_⟩
 cases hb with
 | mk G2 σ2 b x2 r2 q=>
 obtain⟨E,at2,at3,e,t',q⟩:=q
 have x3:=Ī.swap (o':=.inst E at3) x2.R e (Q8 (t'.go (x2.pre.nm y hy).1 (aB2 hy x2.pre.n)).mp)
 exact .to (x1.trans (x2.trans x3)) (x3.pre.v r2) q
def FQ{d:Nat}{f:Value}{tr:ĉ}(hf:As X.L X.h₀ d f tr){A:aH1}(hA:Cd d A){as:List ű}{Q:ű->St->Prop}(h:BI tr as c.σ Q){vas:List Value}(R:Ī X c)(ra:Ě X c as vas) :
  KJ X.L A f c.s/\aO8 (aC6 X.L.prog X.L.w) A (.call f ⟨vas,[]⟩) (CE (AX X (Š X) c Q)) c.s:=h.elim (λh=>KA hf hA h R ra) λh=>Rn hf hA h R ra
theorem CE.call{L:Bt}{A:aH1}{s:aA5}{f:Value}{vas:List Value}{B:Value->aA5->Prop}(h:aO8 (aC6 L.prog L.w) A (.call f ⟨vas,[]⟩) (CE B) s):aC8 (aC6 L.prog L.w) A (call f vas []) B (λ_ _=>False) s:=
 aW8 (aL2 h λr s' x=>x.elim λv x=>x.1▸x.2)
def W6{d:Nat}{f:Value}{tr:ĉ}(hf:As X.L X.h₀ d f tr)(hA:Cd d X.A){as:List ű}{Q:ű->St->Prop}(h:BI tr as c.σ Q){vas:List Value}(R:Ī X c)(ra:Ě X c as vas):Zr X c Q f vas:=
 ⟨(FQ hf hA h R ra).1,CE.call (FQ hf hA h R ra).2⟩
def Vq(D:aC2)(trI:ĉ)(as:List ű)(σ:St)(Q:ű->St->Prop):Prop:=BI trI (.ref σ.n::as) (σ.new (.inst D [])) λr σ'=>r = .none/\Q (.ref σ.n) σ'
def KN{A:aH1}{d:Nat}{C:aC2}{rest:List Value}(hA:Cd (d+1) A):Cd d (A.under (.builtin "type.__call__" ⟨.ref C::rest,[]⟩)):=by
 refine⟨hA.1,?_,?_⟩
 ·show A.depth+1+d<_
  have:=hA.2.1;exists 3,0x21180aa12181a0a18,this
 ·have e:(bF7 "type.__call__" ⟨.ref C::rest,[]⟩).cUnits<=4:=by
   have h :∀n:Nat,n<=1->1+3*n<=4:=λn hn=>by exists 1,0x48003c18a018008,hn
   unfold bQ2.cUnits
   refine h _ ?_
   have e:(bF7 "type.__call__" ⟨.ref C::rest,[]⟩).frames=if(bF7 "type.__call__" ⟨.ref C::rest,[]⟩).isFrame then 1 else 0:=by rfl'
   rwa[e]
   split<;>decide
  show A.units+(bF7 "type.__call__" ⟨.ref C::rest,[]⟩).cUnits+10*d+40<_
  have:=hA.2.2;exists 4,0x3000028920ac01aaa130000289182a0ac1aa1848008,e,this
def Ĳ.addI(c:Ĳ)(C:aC2):Ĳ:=
 ⟨((c.G.put c.s.heap.objs.size (.dict c.σ.n)).put (c.s.heap.push emptyDict).objs.size (.obj c.σ.n)).name c.σ.n (c.s.heap.push emptyDict).objs.size c.s.heap.objs.size,c.σ.new (.inst C []),{c.s with heap:=(c.s.heap.push emptyDict).push (instObj C c.s.heap.objs.size)}⟩
def Ī.allocI(R:Ī X c)(C:aC2):C8 X c (c.addI C):=by
 have z:=aE7 c.s.heap emptyDict
 have ne:c.s.heap.objs.size≠(c.s.heap.push emptyDict).objs.size:=z▸aE4 (aC1 _)
 have td:(c.addI C).G.tag c.s.heap.objs.size=some (.dict c.σ.n):=(ħ.put_ne ne).trans ħ.put_at
 exact R.more (λ_ _ e=>aB1 _ (aB1 _ e)) (aA2 (Ce _) (Ce _)) (λa l=>(ħ.put_ne (z▸aE4 (aI1 l))).trans (ħ.put_ne (aE4 l))) (I5 (n:=0) (I5 (n:=0) R.ownLt _) _) (λx hx=>ħ.name_nm x hx) (aI4 _) rfl rfl rfl rfl
  λx o' e=>Br e (λhx hw=>.inr λp=>hx▸hw▸⟨aC1 _,(bQ5 _ ħ.name_mu).trans ħ.put_at,⟨[],0,by
   rwa[show(c.addI C).G.μ c.σ.n=_ from ħ.name_mu,show(c.addI C).G.δ c.σ.n=_ from ħ.name_de]
   exact aC4 _ rfl,(bQ5 _ ħ.name_de).trans (aB1 _ (aC4 _ rfl)),rfl,(bQ5 _ ħ.name_de).trans td⟩⟩) λ_ e=>.inl e
def Zg{d:Nat}{C fI:aC2}{trI:ĉ}{K:bH5}(hK:K.In X.h₀)(hm:makesIn K C=true)(hi:findIn K (.ref C) "__init__" = some (some (.ref fI)))(hfn:isFn K (.ref fI)=true)
  (hkp:keepIn K (.ref C)=true) (hf:As X.L X.h₀ d (.ref fI) trI) (hA:Cd (d+1) X.A) {as:List ű} {Q:ű->St->Prop} (h:Vq C trI as c.σ Q) {vas:List Value} (R:Ī X c) (ra:Ě X c as vas):Zr X c Q (.ref C) vas:=by
 have Xs:K.In c.s.heap:=hK.keeps R.base
 refine⟨λQ' E' hq=>?_,?_⟩
 ·unfold keepIn at hkp
  simp only at hkp
  split at hkp
  ·rename_i Ŷ å fd o3 ho
   unfold bG4
   exact aA1 (aU3 (Xs _ _ ho) (aA4 (hq _)))
  ·rename_i Ŷ å cd o3 ho
   unfold bG4
   refine aA1 (aU3 (Xs _ _ ho) ?_)
   exact aA1 (((looks_specialIn Xs (beq_iff_eq.mp hkp)).here (aA4 (hq _))))
  ·cases hkp
 have x:=R.allocI C
 have e1:(c.addI C).G.μ c.σ.n=c.s.heap.objs.size+1:=ħ.name_mu.trans (aE7 ..)
 have c2:=(FQ (c:=c.addI C) hf (KN (C:=C) (rest:=vas) hA) h x.R (vas:=.ref (c.s.heap.objs.size+1)::vas) ⟨_,vas,rfl,⟨bQ5 _ e1.symm,aC1 _⟩,x.pre.va ra⟩).2
 refine CE.call (make_core (makes_of Xs hm) (looks_findIn Xs hi) (λself=>bind_fn Xs self (beq_iff_eq.mp hfn)) (.inl rfl) (aL2 c2 λr s' hr=>?_))
 obtain⟨v,rfl,hr⟩:=hr
 cases hr with
 | mk G2 σ2 b x2 r2 q=>
 obtain⟨rfl,q⟩:=q
 exact⟨r2,_,rfl,.to (c':=⟨G2,σ2,s'⟩) (b:=ű.ref c.σ.n) (x.trans x2) ⟨bQ5 _ (((x2.pre.nm c.σ.n (aC1 _)).1.trans e1).symm),aB2 (aC1 _) x2.pre.n⟩ q⟩
end
end Mine
end
section
open PySem PySem.W PyProof.Rows PySem.Spec PySem.Calls PySem.SeqAt
namespace Mine
structure Hs(h₀:aF2)(C fN:aC2):Prop extends MatC h₀ C where
 typ :∀M,aF8 M h₀ (isType (.ref C)) true
 len :∀M,aF8 M h₀ (aI9 (.ref C) "__len__") (some (.builtin "tuple.__len__"))
 lt :∀M,aF8 M h₀ (aI9 (.ref C) "__lt__") (some (.builtin "tuple.__lt__"))
 base :∀M,aF8 M h₀ (Bind.staticBase (.ref C)) (.type "tuple")
 init :∀M,aF8 M h₀ (aI9 (.ref C) "__init__") (some (.builtin "object.__init__"))
 obj :∃oc od cd sl,h₀.get? C=some ⟨oc,od,.cls cd,sl⟩/\cd.hasDel=false/\cd.mro.isEmpty=false
 made :∀M,aF8 M h₀ (bH2 (.ref C)) none
 call :∀M,aF8 M h₀ (bG0 (.ref C) "__call__") (some (.builtin "type.__call__"))
 inst :∀M,aF8 M h₀ (aZ9 (.ref C) (.type "type")) true
 self :∀M,aF8 M h₀ (aT6 (.ref C) (.ref C)) true
 top :∀M,aF8 M h₀ (aT6 (.ref C) (.type "object")) true
section
variable{prog:aF3}{w:aC9}{A:aH1}{E:Value->aA5->Prop}{s:aA5}{h₀:aF2}{C fN:aC2}
def LW{Q:List Value->aA5->Prop}(it:aC2){T:String}{o:Obj}{items:Array Value}{n:Nat}(hT:T = "list"\/T = "tuple")
  (ho:s.heap.get? it=some o) (hc:o.cls = .type T) (hd:o.data = .seq items n) (hsz:items.size<=aY4)
  (hQ:Q items.toList {s with heap:=(s.heap.push {cls:=.type "list",data:=.seq ([]:List Value).toArray}).update s.heap.objs.size (aJ7 (· ++ items))}) :
  aC8 (aC6 prog w) A (collect (.ref it)) Q E s:=by
 unfold collect
 refine aA1 (wpAny_runValue (aR1 F.entry_proto_collect ?_))
 rwa[aL9 F.plain_proto_collect _]
 refine aA1 (aK7 ?_)
 refine aA4 ⟨aV0 F.plain_list_iadd _,aR1 F.entry_list_iadd ?_⟩
 rwa[aL9 F.plain_list_iadd _]
 have hS:(s.heap.push {cls:=.type "list",data:=.seq ([]:List Value).toArray}).get? s.heap.objs.size=some {cls:=.type "list",data:=.seq #[] 0}:=aC4 _ rfl
 have hS2:=aJ8 (aJ7 (· ++ items)) hS rfl
 have last :∀(r:bG3) (s':aA5),r = .ok (.ret (.ref s.heap.objs.size))/\s' = {s with heap:=(s.heap.push {cls:=.type "list",data:=.seq ([]:List Value).toArray}).update s.heap.objs.size (aJ7 (· ++ items))}->
   (match r with | .ok (.ret v)=>aC8 (aC6 prog w) A (match v with
     | aO3 a=>do
      match(<-load a).data with
       | Data.seq xs _=>pure xs.toList
       | _=>unsupported "internal:collect"
     | _=>unsupported "internal:collect") Q E s' | .ok _=>False | .error e=>E e s'):=by
  rintro r s' ⟨rfl,rfl⟩
  refine aA1 (aU3 hS2 (aA4 ?_))
  have e:((#[]:Array Value)++items).toList=items.toList:=by simp
  show Q ((#[]:Array Value)++items).toList _
  rwa[e];exact hQ
 have ext:=wpAny_extend_seq (prog:=prog) (w:=w) (hsz:=hsz) (A:=A) (R:=λr s'=>r = .ok (.ret (.ref s.heap.objs.size))/\s' = {s with heap:=(s.heap.push {cls:=.type "list",data:=.seq ([]:List Value).toArray}).update s.heap.objs.size (aJ7 (· ++ items))})
  (s:={s with heap:=s.heap.push {cls:=.type "list",data:=.seq ([]:List Value).toArray}}) _ it _ 0 hT hS (aB1 _ ho) hc hd ⟨rfl,rfl⟩
 refine aP1 ext (λfin s' h=>?_) (λe s' h=>bQ8 h.1 (by simp))
 cases fin with
 | done f=>exact last _ _ h
 | again c'=>exact⟨h.1,aL2 h.2 λr s'' hr=>last _ _ hr⟩
def Wz:bH1 "tuple.__new__" = some .builtinFn:=by decide +kernel
def Yv:splitId "tuple.__new__" = some ("tuple","__new__"):=by decide +kernel
def Ge:bH2 (.type "tuple")=pure (some "tuple.__new__"):=F.called_tuple.made
def Fx{t:Value}{Q:Unit->aA5->Prop}{M:bH0}(N:Hs h₀ C fN)(hk :∀b o,h₀.get? b=some o->s.heap.get? b=some o)(q:Q () s):aC8 M A (checkBuiltinCall "tuple.__new__" ⟨[.ref C,t],[]⟩) Q E s:=by
 obtain⟨hh,g,dd,tt,os⟩:=s
 have ĩ:=(N.typ M).keeps hk
 have ř:=(N.sub M).keeps hk
 have l3:=(N.base M).keeps hk
 have ċ:aF8 M hh (bH2 (.type "tuple")) (some "tuple.__new__"):=bD9 Ge
 unfold checkBuiltinCall
 rwa[Wz,Yv]
 repeat (first | dsimp only[bH6,aJ6,dreduceIte,bne_self_eq_false] | lk)
 exact q
def OM(args:Args):(bF7 "tuple.__new__" args).quiet=true:=bG2 _ (by decide +kernel)
def Hd{R:bG3->aA5->Prop}{t:aC2}{us:List Value}{k:Nat}(N:Hs h₀ C fN)(hk :∀b o,h₀.get? b=some o->s.heap.get? b=some o)(ht:s.heap.get? t=some (Ab us k))(hsz:us.length<=1000)
  (hq :∀(h':aF2) (dd:Option aC2),(∀b o,s.heap.get? b=some o->h'.get? b=some o)->s.heap.objs.size<=h'.objs.size->R (.ok (.ret (.ref h'.objs.size))) {s with heap:=h'.push (Ay C us (0,dd))}) :
  aO8 (aC6 prog w) A (.call (.builtin "tuple.__new__") ⟨[.ref C,.ref t],[]⟩) R s:=by
 obtain⟨hh,g,dd,tt,os⟩:=s
 refine bA9 (OM _) F.entry_tuple_new (Fx N hk ?_)
 have ĩ:=(N.typ (aC6 prog w)).keeps hk
 have ř:=(N.sub (aC6 prog w)).keeps hk
 have l3:=(N.base (aC6 prog w)).keeps hk
 have ċ:aF8 (aC6 prog w) hh (bH2 (.type "tuple")) (some "tuple.__new__"):=bD9 Ge
 have Į:=(N.init (aC6 prog w)).keeps hk
 unfold aD8.«tuple.__new__» Bind.madeHere
 have l6:=hk C
 obtain⟨oc,od,cd,sl,c1,c2,c3⟩:=N.obj
 have hC:=hk _ _ c1
 have ht:hh.get? t=some (Ab us k):=ht
 repeat (first | dsimp only[bH6,aJ6,dreduceIte] | with_reducible refine LW t (.inr rfl) ht rfl rfl (by simp[aY4];omega) ?_ | lk)
 have e:(us.toArray.toList.toArray:Array Value)=us.toArray:=by simp
 generalize hh2:(hh.push {cls:=.type "list",data:=.seq ([]:List Value).toArray}).update hh.objs.size (aJ7 (· ++ us.toArray))=h2
 have k2 :∀b o,hh.get? b=some o->h2.get? b=some o:=λb o e=>by
  rwa[hh2.symm];exact(aJ5 _ _ (aO2 (aK2 e))).trans (aB1 _ e)
 have s2:hh.objs.size<=h2.objs.size:=by rwa[hh2.symm];rw[aK5,aE7];exact aI4 _
 have hC2:=k2 _ _ hC
 rwa[bQ7 (by simp[aY4];omega)]
 unfold newObjAsIs classHasDel
 refine aA1 (wpAny_alloc (aA1 (aA1 (aU3 (aB1 _ (aB1 _ hC2)) (aA4 ?_)))))
 rwa[c2]
 refine aA4 (aA4 ?_)
 have:=hq (h2.push {cls:=.type "dict",data:=.dict #[]}) (some h2.objs.size) (λb o e=>aB1 _ (k2 b o e)) (aA2 s2 (by rw[aE7];exact aI4 _))
 exact this
def O6(a b c d:Value):aW7 "object.__init__" ⟨[a,b,c,d],[]⟩:=by unfold aW7;rfl'
structure Z7(K:bH5)(C fN st:aC2):Prop where
 reads:readsIn K C (.type "type")=true
 new:findCls K (.ref C) (.type "type") "__new__" = some (.get (.builtin "staticmethod.__get__") (.ref st) .none (.ref C))
 sm :∃rest,recIn K st "staticmethod" = some (.ref fN::rest)
def Pr{K:bH5}{R:Value->aA5->Prop}{a b c:Value}{st:aC2}(X:K.In s.heap)(N:Hs h₀ C fN)(hk :∀b o,h₀.get? b=some o->s.heap.get? b=some o)(Y:Z7 K C fN st)
  (hq :∀t,aO8 (aC6 prog w) (A.under (.builtin "type.__call__" ⟨.ref C::[a,b,c],[]⟩)) (.call (.ref fN) ⟨[.ref C,a,b,c],[]⟩) (CE λv s'=>R v s'/\(∀b o,h₀.get? b=some o->s'.heap.get? b=some o)/\∃m us k,v = .ref m/\s'.heap.get? m=some (Ay C us k)) {s with toks:=t}) :
  aO8 (aC6 prog w) A (.call (.ref C) ⟨[a,b,c],[]⟩) (CE R) s:=by
 obtain⟨hh,g,dd,tt,os⟩:=s
 obtain⟨oc,od,cd,sl,c1,c2,c3⟩:=N.obj
 have hC:=hk _ _ c1
 have call:=(N.call (aC6 prog w)).keeps hk
 have typ:=(N.inst (aC6 prog w)).keeps hk
 have made:=(N.made (aC6 prog w)).keeps hk
 refine bJ4 ?_
 show aC8 _ _ (callAny (.ref C) _) _ _ _
 refine nd_load hC ?_
 show aC8 _ _ (callAny.viaDunder (.ref C) _) _ _ _
 unfold callAny.viaDunder
 refine aA1 (call.at ?_)
 dsimp only
 rw[tc_bind]
 refine aA1 (aA4 (aA1 (aA4 ?_)))
 refine aA4 (a:=Fin.again (.call (.builtin "type.__call__") ⟨.ref C::[a,b,c],[]⟩)) (And.intro rfl ?_)
 refine bA9 (bG2 _ (by decide +kernel)) entry_typeCall (bO8 tc_kind tc_split typ (tc_args _ _ _) ?_)
 unfold aD8.«type.__call__»
 have hm:aF8 (aC6 prog w) hh (mroOf (.ref C)) cd.mro:=((bM5 (part:=none) hC).andThen .now).andThen .now
 have X:K.In hh:=X
 obtain⟨rest,hsm⟩:=Y.sm
 repeat (first | dsimp only[aJ6,dreduceIte] | simp only[c3] | with_reducible refine cls_bind (s:=⟨hh,g,dd,tt,os⟩) X Y.reads Y.new (aW8 (sm_get X hsm ?_)) | with_reducible refine aW8 (aL2 (hq _) λr s' hr=>?_) | lk)
 obtain⟨_,rfl,h1,h2,m,us,k,rfl,h3⟩:=hr
 obtain⟨hh',g',dd',tt',os'⟩:=s'
 have h3:hh'.get? m=some (Ay C us k):=h3
 have tm:aF8 (aC6 prog w) hh' (typeOf (.ref m)) (.ref C):=(bM5 h3).andThen .now
 have self:=(N.self (aC6 prog w)).keeps h2
 have init:=(N.init (aC6 prog w)).keeps h2
 have top:=(N.top (aC6 prog w)).keeps h2
 have made':=(N.made (aC6 prog w)).keeps h2
 unfold aZ9 callSpecial? bG0
 repeat (first | dsimp only[bH6,aJ6,dreduceIte] | with_reducible refine aW8 ?_ | lk)
 have ti:aF8 (aC6 prog w) hh' (aZ9 (.ref m) (.type "object")) true:=tm.andThen top
 refine aN6 oi_plain entry_oi (@bO8 (aC6 prog w) _ _ _ "object.__init__" "object" "__init__" (.ref m) [a,b,c] [] _ oi_kind oi_split ti (O6 _ _ _ _) ?_)
 unfold aD8.«object.__init__»
 repeat (first | dsimp only[bH6,aJ6,dreduceIte,bne_self_eq_false] | lk)
 exact⟨_,rfl,h1⟩
end
section
variable{prog:aF3}{w:aC9}{A:aH1}{E:Value->aA5->Prop}{s:aA5}
def OC:opaqueClassAbove (.type "tuple")=pure none:=by rfl'
def K9:typeOf (.type "tuple")=pure (.type "type"):=by rfl'
def On:bG0 (.type "tuple") "__getattribute__" = pure (some (.builtin "type.__getattribute__")):=by
 unfold bG0
 rwa[K9]
 show aI9 (.type "type") "__getattribute__" = _
 rewrite [aH3];rwa[aE2];rfl'
def PK:hookBefore (.type "type")=pure none:=by rfl'
def Rm:findCls [] (.type "tuple") (.type "type") "__new__" = some (.val (.builtin "tuple.__new__")):=by rfl'
def YX(h:aF2):bH5.In [] h:=λa o e=>by cases e
def Ga{expr:Bool}{Q:Value->aA5->Prop}(h:Q (.builtin "tuple.__new__") {s with toks:=s.toks+1}):aC8 (aC6 prog w) A (bC2 (.type "tuple") "__new__" expr) Q E s:=
 cls_open (K:=[]) (mc:=.type "type") (hook:=none) (YX _) (bD9 OC) (bD9 K9) (by rfl') (bD9 PK) (by rfl') Rm
  (aA4 (by show aC8 _ _ (handedOut _) _ _ _;rwa[handedOut_of rfl];exact aA4 h))
def Hx{pl:Sem Bool}{Q:Value×List Value->aA5->Prop}(h :∀t,Q (.builtin "tuple.__new__",[]) {s with toks:=t}):aC8 (aC6 prog w) A (bB0 (.type "tuple") "__new__" pl) Q E s:=by
 unfold bB0
 rwa[On]
 refine aA1 (aA4 ?_)
 dsimp only
 rwa[bQ6 canon_tga]
 exact aA1 (aP1 (Ga (Q:=λv s'=>Q (v,[]) s') (h _)) (λ_ _ z=>aA4 z) λ_ _ z=>z)
end
noncomputable def J8(a:ű):Option Ŕ:=match a with
 | .fn b=>some b
 | _=>none
noncomputable def II(a:ű):Option aC2:=match a with
 | .glo b=>some b
 | _=>none
def GI{P:ű->Prop}{a:ű}{b:Ŕ}(e:J8 a=some b)(f:P (.fn b)):P a:=
 ű.casesOn (motive_1:=λa=>J8 a=some b->P a) a AA (λ_=>AA) (λ_=>AA) (λ_ _=>AA) (λ_=>AA) (λ_ e=>aA3 e▸f) (λ_=>AA) (λ_ _=>AA) (λ_=>AA) (λ_=>AA) AA e
def HH{P:ű->Prop}{a:ű}{b:aC2}(e:II a=some b)(f:P (.glo b)):P a:=
 ű.casesOn (motive_1:=λa=>II a=some b->P a) a AA (λ_=>AA) (λ_=>AA) (λ_ _=>AA) (λ_=>AA) (λ_=>AA) (λ_ e=>aA3 e▸f) (λ_ _=>AA) (λ_=>AA) (λ_=>AA) AA e
def TF(C:aC2)(as:List ű)(σ:St)(Q:ű->St->Prop):Prop:=Ae as λc as=>Aa (II c) λa=>Ae as λt as=>nil as (Aa (Es t) λvs=>Dj (aE6 a C&&aX9 vs.length 1000) (Q (.mat vs) σ))
def IY(C:aC2):ĉ:=λas os Q=>∃a b c,as=[.glo C,a,b,c]/\os=[]/\(a.sub nn=some a/\b.sub nn=some b/\c.sub nn=some c)/\Q (.mat [a,b,c]) []
def NI(as:List ű)(σ:St)(Q:ű->St->Prop):Prop:=Ae as λa as=>Ae as λb as=>Ae as λc as=>nil as ((a.sub nn=some a/\b.sub nn=some b/\c.sub nn=some c)/\Q (.mat [a,b,c]) σ)
def Lg{a:ű}(h:a.sub nn=some a):IQ a=none:=
 ű.casesOn (motive_1:=λa=>a.sub nn=some a->IQ a=none) a (λ_=>rfl) (λ_ _=>rfl) (λ_ _=>rfl) (λ_ _ _=>rfl) (λ_=>AA) (λ_ _=>rfl) (λ_ _=>rfl) (λ_ _ _=>rfl) (λ_ _=>rfl) (λ_ _=>rfl) (λ_=>rfl) h
def OK{as:List ű}:AD nn as=some as->Ax as=[]:=
 aB4 (motive:=λas=>AD nn as=some as->Ax as=[]) (λ_=>rfl) (λa r ih e=>by
  obtain⟨a',e1,e⟩:=bind_some e
  obtain⟨r',e2,e⟩:=map_some e
  cases e
  show aE5 (Ax r) _ (IQ a)=[]
  rwa[Lg e1]
  exact ih e2) as
def QF:GD []=nn:=rfl
section
variable{X:š}{c:Ĳ}{fN st:aC2}{Q:ű->St->Prop}
def AX.newMat{vs:List ű}{us:List Value}{h':aF2}{dd:Option aC2}{d:Nat}(t:Nat)(R:Ī X c)(r:Ě X c vs us)(hk :∀b o,c.s.heap.get? b=some o->h'.get? b=some o)(hs:c.s.heap.objs.size<=h'.objs.size)(q:Q (.mat vs) c.σ) :
  AX X (Š X) c Q (.ref h'.objs.size) {c.s with heap:=h'.push (Ay X.L.C us (d,dd)),toks:=t}:=by
 have x:=R.grow (h':=h'.push (Ay X.L.C us (d,dd))) t (λb o e=>aB1 _ (hk b o e)) (aA2 hs (Ce _))
 exact .to (b:=ű.mat vs) x ⟨_,us,rfl,⟨(d,dd),aC4 _ rfl⟩,λz=>bQ8 (R.ownLt _ z) (aR0.mpr hs),x.pre.va r⟩ q
def UZ{as:List ű}(N:Hs X.h₀ X.L.C fN)(h:TF X.L.C as c.σ Q){vas:List Value}(R:Ī X c)(ra:Ě X c as vas):Đ X c Q (call (.builtin "tuple.__new__") vas []):=
 AN h ra λa as va vas ra rr h=>AB h λb e1 h=>AN h rr λt as vt vas rt rr h=>Aw h rr λh=>AB h λvs e2 h=>by
  obtain⟨hc,h⟩:=A3 h
  obtain⟨h1,h2⟩:=AH hc
  have hb:va = .ref b:=HH (P:=λa=>Š X c a va->va = .ref b) e1 id ra
  subst hb
  rwa[aB8 h1]
  exact D2 (P:=λvt=>Đ X c Q (call (.builtin "tuple.__new__") [.ref X.L.C,vt] [])) e2 rt λl us k Ž Ń=>aW8 (Hd N R.base Ž (Ń.len▸aL4 h2) λh' dd hk hs=>.newMat c.s.toks R Ń hk hs h)
def PP{K:bH5}{v:aC2}{A:aH1}{s:aA5}(Xs:K.In s.heap)(hkp:keepIn K (.ref v)=true):KJ X.L A (.ref v) s:=λQ' E' hq=>by
 unfold keepIn at hkp
 simp only at hkp
 split at hkp
 ·rename_i Ŷ å fd o3 ho
  unfold bG4
  exact aA1 (aU3 (Xs _ _ ho) (aA4 (hq _)))
 ·rename_i Ŷ å cd o3 ho
  unfold bG4
  refine aA1 (aU3 (Xs _ _ ho) ?_)
  exact aA1 (((looks_specialIn Xs (beq_iff_eq.mp hkp)).here (aA4 (hq _))))
 ·cases hkp
def Pk{d:Nat}{K:bH5}(hK:K.In X.h₀)(N:Hs X.h₀ X.L.C fN)(Y:Z7 K X.L.C fN st)(hkp:keepIn K (.ref X.L.C)=true)(hf:As X.L X.h₀ d (.ref fN) (IY X.L.C))(hA:Cd (d+1) X.A)
  {as:List ű} (h:NI as c.σ Q) {vas:List Value} (R:Ī X c) (ra:Ě X c as vas):Zr X c Q (.ref X.L.C) vas:=by
 refine⟨PP (hK.keeps R.base) hkp,?_⟩
 refine AN h ra λa as va vas r1 ra h=>AN h ra λb as vb vas r2 ra h=>AN h ra λd' as vd vas r3 ra h=>Aw h ra λh=>CE.call (Pr (hK.keeps R.base) N R.base Y λt=>?_)
 have x:=R.toks t
 have hs:AD nn [.glo X.L.C,a,b,d']=some [.glo X.L.C,a,b,d']:=Ch rfl (Ch h.1.1 (Ch h.1.2.1 (Ch h.1.2.2 rfl)))
 have w1:BI (IY X.L.C) [.glo X.L.C,a,b,d'] c.σ λr σ'=>(∃vs,r = .mat vs)/\Q r σ':=by
  unfold BI KH
  left
  rwa[OK hs]
  refine⟨λ_ _=>AA,?_⟩
  rwa[QF,hs]
  exact⟨a,b,d',rfl,rfl,h.1,⟨_,rfl⟩,h.2⟩
 refine aL2 (FQ (c:=c.hp c.σ c.s.heap t) hf (KN (C:=X.L.C) (rest:=[va,vb,vd]) hA) w1 x.R (vas:=[.ref X.L.C,va,vb,vd]) ⟨_,_,rfl,rfl,x.pre.va ⟨va,_,rfl,r1,vb,_,rfl,r2,vd,_,rfl,r3,rfl⟩⟩).2 λr s'=>CE.mono λv s' hp=>?_
 cases hp with
 | mk G' σ' bb y rr q=>
 obtain⟨⟨vs,rfl⟩,q⟩:=q
 exact⟨.to (c':=⟨G',σ',s'⟩) (b:=ű.mat vs) (x.trans y) rr q,y.R.base,rr.casesOn λa' us hv hp _ _=>hp.elim λe he=>⟨a',us,e,hv,he⟩⟩
end
def Bo:bQ4 "map" "__next__" "map.__next__":=
 bQ1 (T:="map") (name:="__next__") (owner:="map") (n:="__next__") (by rewrite [aH3];rwa[aE2];rfl') (by decide +kernel) (by decide +kernel) (by decide +kernel) (.inl (by decide +kernel)) (by rw[aM0];rfl')
def Dw:aY5 table "map.__next__" = some aD8.«map.__next__»:=aT7 (by rfl')
def E3(a:Value):aW7 "map.__next__" ⟨[a],[]⟩:=by unfold aW7;rfl'
def GA:aI9 (.type "map") "__iter__" = pure (some (.builtin "map.__iter__")):=by rewrite [aH3];rwa[aE2];rfl'
def Nf:mroOf (.type "map")=pure [.type "map",.type "object"]:=by rw[mroOf_type];rfl'
def Gp:aI9 (.type "map") "__new__" = pure (some (.builtin "map.__new__")):=by rewrite [aH3];rwa[aE2];rfl'
def Hj:bQ4 "map" "__init__" "object.__init__":=
 bQ1 (T:="map") (name:="__init__") (owner:="object") (n:="__init__") (by rewrite [aH3];rwa[aE2];rfl') (by decide +kernel) (by decide +kernel) (by decide +kernel) (.inl (by decide +kernel)) (by rw[aM0];rfl')
def MM:TypeCalled "map" "map.__new__" "object.__init__":=
 ⟨by decide +kernel,by decide +kernel,⟨_,_,Nf⟩,madeBy_type Nf Gp (by decide +kernel),by decide +kernel,by rw[aM0];rfl',Hj⟩
def Gu(a b:Value):checkTypeCall "map" ⟨[a,b],[]⟩=pure ():=by rfl'
def Hr(a b:Value):checkBuiltinCall "map.__new__" ⟨[.type "map",a,b],[]⟩=pure ():=by rfl'
def Hi:aY5 table "map.__new__" = some aD8.«map.__new__»:=aT7 (by rfl')
def Hg(obj a b:Value):aW7 "object.__init__" ⟨[obj,a,b],[]⟩:=by unfold aW7;rfl'
def Oe:aI9 (.type "map") "__len__" = pure none:=by rewrite [aH3];rwa[aE2];rfl'
def Lk:aI9 (.type "map") "__length_hint__" = pure none:=by rewrite [aH3];rwa[aE2];rfl'
noncomputable def Bp(l:aC2)(i:Nat):Obj:={cls:=.type "list_iterator",data:=.fields #[.ref l,.int i 0]}
noncomputable def C7(T:aC2)(f:Value):Obj:={cls:=.type "map",data:=.fields #[.ref T,f]}
def V2:aT6 (.type "map") (.type "map")=pure true:=by rw[aM0];rfl'
section
variable{prog:aF3}{w:aC9}{A:aH1}{E:Value->aA5->Prop}{s:aA5}
def Hf(l:aC2)(us:List Value)(k:Nat)(f:Value) :
  bQ3 (aD8.«map.__new__» ⟨[.type "map",f,.ref l],[]⟩)
   (λ_ R s=>s.heap.get? l=some (AS us k)/\R (.ok (.ret (.ref (s.heap.objs.size+2)))) {s with heap:=((s.heap.push (Bp l 0)).push (Ab [.ref s.heap.objs.size] 0)).push (C7 (s.heap.objs.size+1) f)}):=
 .of_wp λprog w A R s h=>by
  obtain⟨hp,g,d,tk,os⟩:=s;obtain⟨hl,h⟩:=h
  have f1:=V2
  have hl:hp.get? l=some (AS us k):=hl
  unfold aD8.«map.__new__» aD8.SmallTypes.newClass aD8.SmallTypes.iterAll aD8.SmallTypes.refuseKeywords
  have hI:hp.IsList l us.toArray:=AL hl
  repeat (any_goals (first | assumption | with_reducible refine wpAny_pyIter_list (s:=⟨hp,g,d,tk,os⟩) hI ?_ | wp_step))
  refine⟨_,rfl,?_⟩
  have e1:((hp.push (Bp l 0)).push (Ab [.ref hp.objs.size] 0)).objs.size=hp.objs.size+2:=by rw[aE7,aE7]
  have e2:(hp.push (Bp l 0)).objs.size=hp.objs.size+1:=by rw[aE7]
  show R (.ok (.ret (.ref ((hp.push (Bp l 0)).push (Ab [.ref hp.objs.size] 0)).objs.size))) ⟨((hp.push (Bp l 0)).push (Ab [.ref hp.objs.size] 0)).push (C7 (hp.push (Bp l 0)).objs.size f),g,d,tk,os⟩
  rwa[e1,e2]
  exact h
def Pp{it l:aC2}{i:Nat}{us:List Value}{k:Nat}{v:Value}{Q:Value->aA5->Prop}(hit:s.heap.get? it=some (Bp l i))(hl:s.heap.get? l=some (AS us k))(hv:us[i]?=some v)
  (h :∀h',h'.get? it=some (Bp l (i+1))->aG3 it s.heap h'->Q v {s with heap:=h'}):aC8 (aC6 prog w) A (aM6 (.ref it)) Q E s:=by
 have hI:s.heap.IsListIter it l i:=⟨_,hit,rfl,rfl⟩
 unfold aM6
 refine aA1 (aJ0 (name:=aA0 "__next__") hI.typeIs bA0 (aG7 bA0 hI.typeIs entry_listiter_next ?_ (args_listiter_next _)))
 show aC8 _ _ (field (.ref it) 0 >>= _) _ _ s
 refine aA1 (aW3 hit rfl (x:=.ref l) rfl ?_)
 show aC8 _ _ (if(aO3 l==aN3)=true then _ else _) _ _ s
 rwa[bQ7 (show ¬ ((aO3 l==aN3)=true)from aP5)]
 show aC8 _ _ (field (.ref it) 1 >>= _) _ _ s
 refine aA1 (aW3 hit rfl (x:=.int i 0) rfl ?_)
 show aC8 _ _ (seqItems? (.ref l) >>= _) _ _ s
 refine aA1 (aS5 hl rfl ?_)
 simp only[aG5,aE3,hv]
 refine aA1 (aM9 hit rfl (by simp) (aA4 ⟨v,rfl,aA4 (h _ ?_ (aI5 ..))⟩))
 exact aJ8 _ hit rfl
def T4{it l:aC2}{i:Nat}{us:List Value}{k:Nat}{Q:Value->aA5->Prop}(hh:A.handled=none)(hit:s.heap.get? it=some (Bp l i))(hl:s.heap.get? l=some (AS us k))(hv:us[i]?=none)
  (h :∀h' x,bA7 it s.heap h'->s.heap.objs.size<=h'.objs.size->({s with heap:=h'}:aA5).TypeIs x "StopIteration"->E x {s with heap:=h'}):aC8 (aC6 prog w) A (aM6 (.ref it)) Q E s:=by
 have hI:s.heap.IsListIter it l i:=⟨_,hit,rfl,rfl⟩
 unfold aM6
 refine aA1 (aJ0 (name:=aA0 "__next__") hI.typeIs bA0 (aG7 bA0 hI.typeIs entry_listiter_next ?_ (args_listiter_next _)))
 show aC8 _ _ (field (.ref it) 0 >>= _) _ _ s
 refine aA1 (aW3 hit rfl (x:=.ref l) rfl ?_)
 show aC8 _ _ (if(aO3 l==aN3)=true then _ else _) _ _ s
 rwa[bQ7 (show ¬ ((aO3 l==aN3)=true)from aP5)]
 show aC8 _ _ (field (.ref it) 1 >>= _) _ _ s
 refine aA1 (aW3 hit rfl (x:=.int i 0) rfl ?_)
 show aC8 _ _ (seqItems? (.ref l) >>= _) _ _ s
 refine aA1 (aS5 hl rfl ?_)
 simp only[aG5,aE3,hv]
 refine aA1 (aQ8 (aA1 (aM9 hit rfl (by simp) ?_)))
 show aC8 _ _ (newExc (.type "StopIteration") [] >>= _) _ _ _
 refine aA1 ?_
 simp only[newExc,newTuple]
 refine aA1 (aK7 ?_ (by size_fits))
 refine aA1 (m:=aW5 _ _) (aW6 (a:=aN3) (by first | rfl | (simp only[aW5];rfl)) ?_)
 refine aK7 ?_ (by size_fits)
 simp only[raiseNew]
 refine aA1 (bL5 ?_)
 rwa[show A.in1.handled=none from hh]
 refine aA1 (aA4 (bN5 ?_))
 refine h _ _ (((aI5 ..).extBut.push _).push _) ?_ ⟨_,aC4 _ rfl,rfl⟩
 rw[aE7,aE7,aK5]
 exists 1,6467660288
def QR{I T it l:aC2}{i:Nat}{us:List Value}{k:Nat}{f v:Value}{Q:Option Value->aA5->Prop}(hI:s.heap.get? I=some (C7 T f))(hT:s.heap.get? T=some (Ab [.ref it] 0))(hit:s.heap.get? it=some (Bp l i))(hl:s.heap.get? l=some (AS us k))
  (hne:I≠it) (hv:us[i]?=some v) (hc :∀h',h'.get? it=some (Bp l (i+1))->aG3 it s.heap h'->aO8 (aC6 prog w) A.in1 (.call f ⟨[v],[]⟩) (CE λr s'=>Q (some r) s') {s with heap:=h'}):aC8 (aC6 prog w) A (aV4 (.ref I)) Q E s:=by
 have hTy:s.TypeIs (.ref I) "map":=⟨_,hI,rfl⟩
 unfold aV4
 refine aA1 (aU9 (aJ0 (name:=aA0 "__next__") hTy Bo
  (aG7 Bo hTy Dw ?_ (E3 _))))
 obtain⟨hp,g,d,tk,os⟩:=s
 have hI:hp.get? I=some (C7 T f):=hI
 have hT:hp.get? T=some (Ab [.ref it] 0):=hT
 have hit:hp.get? it=some (Bp l i):=hit
 have hl:hp.get? l=some (AS us k):=hl
 unfold aD8.«map.__next__»
 repeat (first | ((with_reducible show aC8 _ _ (aM6 _) _ _ _);refine Pp (s:=⟨hp,g,d,tk,os⟩) hit hl hv ?_) | wp_step)
 intro h' x1 x2
 have hI':h'.get? I=some (C7 T f):=(x2.2 I hne).trans hI
 repeat wp_step
 refine aL2 (hc h' x1 x2) λr s' hr=>?_
 obtain⟨v,rfl,hr⟩:=hr
 exact aA1 (bN8 (aA4 ⟨_,rfl,aA4 hr⟩))
def VJ{I T it l:aC2}{i:Nat}{us:List Value}{k:Nat}{f:Value}{Q:Option Value->aA5->Prop}(hh:A.handled=none)(hI:s.heap.get? I=some (C7 T f))(hT:s.heap.get? T=some (Ab [.ref it] 0))(hit:s.heap.get? it=some (Bp l i))(hl:s.heap.get? l=some (AS us k))
  (hv:us[i]?=none) (hq :∀h',bA7 it s.heap h'->s.heap.objs.size<=h'.objs.size->Q none {s with heap:=h'}):aC8 (aC6 prog w) A (aV4 (.ref I)) Q E s:=by
 have hTy:s.TypeIs (.ref I) "map":=⟨_,hI,rfl⟩
 unfold aV4
 refine aA1 (aU9 (aJ0 (name:=aA0 "__next__") hTy Bo
  (aG7 Bo hTy Dw ?_ (E3 _))))
 obtain⟨hp,g,d,tk,os⟩:=s
 have hI:hp.get? I=some (C7 T f):=hI
 have hT:hp.get? T=some (Ab [.ref it] 0):=hT
 have hit:hp.get? it=some (Bp l i):=hit
 have hl:hp.get? l=some (AS us k):=hl
 unfold aD8.«map.__next__»
 repeat (first | ((with_reducible show aC8 _ _ (aM6 _) _ _ _);refine T4 (s:=⟨hp,g,d,tk,os⟩) hh hit hl hv ?_) | wp_step)
 intro h' x y1 y2 y3
 exact aA1 (aX7 (T:="StopIteration") (b:=true) y3 bK4 (aA4 (hq h' y1 y2)))
end
def JN{h:aF2}{a b:aC2}{o:Obj}{P:Prop}(e:h.get? b=some o)(n:h.get? a=none)(z:b=a):P:=by
 subst z
 exact nomatch e.symm.trans n
def Fn(C:aC2):ĉ:=λas os Q=>∃vs,as=[.glo C,.tup vs]/\vs.length=3/\AD nn vs=some vs/\os=[]/\Q (.mat vs) []
def Gl(vss:List (List ű)):Prop:=∀(i:Nat) (vs:List ű),vss[i]?=some vs->vs.length=3/\AD nn vs=some vs
def EW(vss:List (List ű)):List ű:=vss.map .mat
section
variable{L:Bt}{A:aH1}{h₀:aF2}{d:Nat}{fM:aC2}{G:ħ}{s₀:aA5}{S I T it l mth:aC2}{us:List Value}{vss:List (List ű)}{k:Nat}
structure YS(L:Bt)(G:ħ)(s₀:aA5)(S it:aC2)(vss:List (List ű))(i:Nat)(acc:List Value)(s:aA5):Prop where
 keep :∀b o,s₀.heap.get? b=some o->b≠it->b≠S->s.heap.get? b=some o
 size:s₀.heap.objs.size<=s.heap.objs.size
 gens:s.gens=s₀.gens
 os:s.os=s₀.os
 list :∃c,s.heap.get? S=some (AS acc c)
 told:AW L G s.heap 0 (EW (vss.take i)) acc
def O0{i:Nat}{vs:List ű}(e:vss[i]?=some vs):EW (vss.take (i+1))=EW (vss.take i)++[.mat vs]:=by
 unfold EW
 rwa[aQ2,e,aH4]
 rfl
def Pj{R:bG3->aA5->Prop}(hf:As L h₀ d (.ref fM) (Fn L.C))(hA:Cd d A.in1.in1)(D:KD G h₀ s₀)(ķ:G.own S)(ì:G.own it)(nom :∀a,¬ G.mt a)(hSi:S≠it)(hIi:I≠it)(hTi:T≠it)(hli:l≠it)(hmi:mth≠it)
  (hI:s₀.heap.get? I=some (C7 T (.ref mth))) (hT:s₀.heap.get? T=some (Ab [.ref it] 0)) (hl:s₀.heap.get? l=some (AS us k)) (hm:s₀.heap.get? mth=some (methodObj (.ref fM) (.ref L.C)))
  (nS:I≠S/\T≠S/\l≠S/\mth≠S) (ht:Gl vss) (hV:AW L G s₀.heap 0 (vss.map .tup) us) (hn:vss.length<=1000000) (hR :∀acc s',YS L G s₀ S it vss vss.length acc s'->R (.ok (.ret .none)) s') (j:Nat) :
  ∀(i:Nat) (acc:List Value) (s:aA5),i+j=vss.length->YS L G s₀ S it vss i acc s->s.heap.get? it=some (Bp l i)->aO8 (aC6 L.prog L.w) A (.builtin "list.extend.loop" ⟨[.ref S,.ref I,.none],[]⟩) R s:=by
 have n1:us.length=vss.length:=hV.len.trans (aB5 ..)
 have ĺ :∀{a},¬ G.own a->a≠it:=λq z=>q (z▸ì)
 have nSS :∀{a},¬ G.own a->a≠S:=λq z=>q (z▸ķ)
 refine aV6 (motive:=λj=>∀(i:Nat) (acc:List Value) (s:aA5),i+j=vss.length->YS L G s₀ S it vss i acc s->s.heap.get? it=some (Bp l i)->aO8 (aC6 L.prog L.w) A (.builtin "list.extend.loop" ⟨[.ref S,.ref I,.none],[]⟩) R s) (λi acc s hi M hit=>?_) (λj ih i acc s hi M hit=>?_) j
 ·refine aR1 F.entry_extend_loop ?_
  rwa[aL9 aY1 _]
  show aC8 _ A.in1 (aV4 (.ref I) >>= _) _ _ s
  have hi:i=vss.length:=hi
  subst hi
  refine aA1 (VJ hA.1 (M.keep _ _ hI hIi nS.1) (M.keep _ _ hT hTi nS.2.1) hit (M.keep _ _ hl hli nS.2.2.1) (aH6 (aB7 n1)) λh' y1 y2=>?_)
  exact aA4 (hR acc {s with heap:=h'} ⟨λb o e b1 b2=>y1 b o b1 (M.keep b o e b1 b2),aA2 M.size y2,M.gens,M.os,M.list.imp λc hc=>y1 _ _ hSi hc,M.told.zero λa o e q=>⟨y1 a o (ĺ q) e,q⟩⟩)
 ·have hlt:i<vss.length:=hi▸aN8 (bB4 j)
  have e1:vss[i]?=some vss[i]:=aA9 hlt
  have h3:=ht i _ e1
  generalize vss[i]=vs at e1 h3
  obtain⟨v,g1,g2⟩:=hV.get ((aD6 ..).trans (bQ5 (aE0 ű.tup) e1))
  refine aR1 F.entry_extend_loop ?_
  rwa[aL9 aY1 _]
  show aC8 _ A.in1 (aV4 (.ref I) >>= _) _ _ s
  refine aA1 (QR (M.keep _ _ hI hIi nS.1) (M.keep _ _ hT hTi nS.2.1) hit (M.keep _ _ hl hli nS.2.2.1) hIi g1 λh' x1 x2=>?_)
  have kk :∀b o,s₀.heap.get? b=some o->b≠it->b≠S->h'.get? b=some o:=λb o e b1 b2=>(x2.2 b b1).trans (M.keep b o e b1 b2)
  have ks:s₀.heap.objs.size<=h'.objs.size:=x2.1.symm▸M.size
  refine method_call (kk _ _ hm hmi nS.2.2.2) ?_
  have D':KD G h₀ {s with heap:=h'}:=⟨D.lo,λa ha=>aB2 (D.lt a ha) ks,λb o e=>kk b o (D.base b o e) (JN e (D.lo _ ì)) (JN e (D.lo _ ķ)),aA2 D.size ks⟩
  refine aL2 (hf hA D' (as:=[.glo L.C,.tup vs]) (os:=[]) (Q:=λr _=>r = .mat vs) (vas:=[.ref L.C,v]) (λ_ _=>AA) ⟨_,_,rfl,rfl,v,_,rfl,g2.zero λa o e q=>⟨kk a o e (ĺ q) (nSS q),q⟩,rfl⟩ ⟨vs,rfl,h3.1,h3.2,rfl,rfl⟩).2 λr s'=>CE.mono λrv s' hb=>?_
  cases hb with
  | mk r os' hq hrs _ _ hkeep hsz hg ho _ hr=>
  subst hq
  obtain⟨c,hc⟩:=M.list
  have hkp :∀b o,h'.get? b=some o->s'.heap.get? b=some o:=λb o e=>hkeep b o e (nom b)
  have hS':=hkp _ _ ((x2.2 S hSi).trans hc)
  have hacc:acc.length<=1000000:=aA2 (aB7 (M.told.len.trans ((aB5 ..).trans (List.length_take_of_le (aG2 hlt))))) (aG2 (aB2 hlt hn))
  have hoth :∀b o,b≠S->s'.heap.get? b=some o->(s'.heap.update S (aJ7 (·.push rv))).get? b=some o:=λb o hb e=>(aJ5 _ _ (bF5 hb)).trans e
  show aC8 _ A.in1 (updateSeq S (·.push rv) >>= _) _ _ _
  refine aA1 (bE6 hS' rfl (aA4 ⟨aV0 aY1 _,ih (i+1) (acc++[rv]) _ ((Nat.succ_add_eq_add_succ i j).trans hi) ⟨λb o e b1 b2=>hoth b o b2 (hkp _ _ (kk b o e b1 b2)),?_,hg.trans M.gens,ho.trans M.os,⟨c+1,?_⟩,?_⟩ (hoth _ _ (bF5 hSi) (hkp _ _ x1))⟩) (aA2 hacc (by decide)) (by rw[aO5];exact aF7 (aA2 hacc (by decide))))
  ·show _<=(s'.heap.update S _).objs.size
   rw[aK5]
   exact aA2 ks hsz
  ·exact(aJ8 (aJ7 (·.push rv)) hS' rfl).trans (by simp[AS,aJ7])
  ·rwa[O0 e1]
   exact AW.append (M.told.zero λa o e q=>⟨hoth a o (nSS q) (hkp _ _ ((x2.2 a (ĺ q)).trans e)),q⟩) ⟨rv,[],rfl,hr.zero λa o e q=>⟨hoth a o (nSS q) e,q⟩,rfl⟩
end
def D5:bQ4 "map" "__iter__" "map.__iter__":=
 bQ1 (T:="map") (name:="__iter__") (owner:="map") (n:="__iter__") GA (by decide +kernel) (by decide +kernel) (by decide +kernel) (.inl (by decide +kernel)) (by rw[aM0];rfl')
def H7:aY5 table "map.__iter__" = some aD8.«dict_keyiterator.__iter__»:=
 bG6 (id':="dict_keyiterator.__iter__") (by rfl') (by first | rfl | decide +kernel | (unfold String.splitOn;simp +decide [String.splitOnAux])) (by decide +kernel) (by rfl')
def Hq(a:Value):aW7 "map.__iter__" ⟨[a],[]⟩:=by unfold aW7;rfl'
section
variable{prog:aF3}{w:aC9}{A:aH1}{E:Value->aA5->Prop}{s:aA5}
def Sp{I T:aC2}{f:Value}{Q:Value->aA5->Prop}(hI:s.heap.get? I=some (C7 T f))(h:Q (.ref I) s):aC8 (aC6 prog w) A (aS8 (.ref I)) Q E s:=by
 have hT:s.TypeIs (.ref I) "map":=⟨_,hI,rfl⟩
 refine bC3 hT D5 (aG7 D5 hT H7 ?_ (Hq _))
 show aC8 _ _ (ret (.ref I)) _ _ s
 exact aA4 ⟨_,rfl,"map",_,hT,Bo.lookup,h⟩
end
section
variable{L:Bt}{A:aH1}{E:Value->aA5->Prop}{s:aA5}{h₀:aF2}{d:Nat}{fM:aC2}{G:ħ}{I T it l mth:aC2}{us:List Value}{vss:List (List ű)}{k:Nat}
def Jk{Q:Value->aA5->Prop}(hf:As L h₀ d (.ref fM) (Fn L.C))(hA:Cd (d+1) A)(D:KD G h₀ s)(ì:G.own it)(nom :∀a,¬ G.mt a)(hIi:I≠it)(hTi:T≠it)(hli:l≠it)(hmi:mth≠it)
  (hI:s.heap.get? I=some (C7 T (.ref mth))) (hT:s.heap.get? T=some (Ab [.ref it] 0)) (hit:s.heap.get? it=some (Bp l 0)) (hl:s.heap.get? l=some (AS us k)) (hm:s.heap.get? mth=some (methodObj (.ref fM) (.ref L.C)))
  (ht:Gl vss) (hV:AW L G s.heap 0 (vss.map .tup) us) (hn:vss.length<=1000000)
  (hR :∀(acc:List Value) (s':aA5),(∀b o,s.heap.get? b=some o->b≠it->s'.heap.get? b=some o)->s.heap.objs.size<=s'.heap.objs.size->s'.gens=s.gens->s'.os=s.os->
   (∃c,s'.heap.get? s.heap.objs.size=some (AS acc c))->AW L (G.put s.heap.objs.size .lock) s'.heap 0 (EW vss) acc->Q (.ref s.heap.objs.size) s') :
  aC8 (aC6 L.prog L.w) A (call (.type "list") [.ref I]) Q E s:=by
 refine callType_codes (Q₁:=λobj s1=>obj = .ref s.heap.objs.size/\s1 = {s with heap:=s.heap.push {cls:=.type "list",data:=.seq #[]}}) F.called_list (F.typeCall_list_1 _) F.entry_list_init
  (code_list_new _ ⟨rfl,rfl⟩) λobj s1 h1=>?_
 obtain⟨rfl,rfl⟩:=h1
 have hS:(s.heap.push {cls:=.type "list",data:=.seq #[]}).get? s.heap.objs.size=some {cls:=.type "list",data:=.seq #[]}:=aC4 _ rfl
 refine⟨⟨_,hS,rfl⟩,F.args_list_init_2 _ _,?_⟩
 generalize hSe:s.heap.objs.size=S at hS hR ⊢
 have lt :∀{a o},s.heap.get? a=some o->a≠S:=λ{a o} e=>hSe▸aE4 (aK2 e)
 show aC8 _ A.in1.in1 (do let old<-bC1 (.ref S);aD8.List.listUpdate (.ref S) (λ_=>#[]);letGo old.toList.reverse;aV8 (.ref S) (.ref I) .none) _ _ _
 refine aA1 ?_
 unfold bC1
 refine aA1 (aS5 hS rfl (aA4 ?_))
 show aC8 _ A.in1.in1 (updateSeq S (λ_=>#[]) >>= λ_=>letGo (#[]:Array Value).toList.reverse >>= λ_=>aV8 (.ref S) (.ref I) .none) _ _ _
 refine aA1 (bE6 hS rfl ?_)
 have hS2:=aJ8 (aJ7 (λ_=>(#[]:Array Value))) hS rfl
 refine aA1 (bN8 ?_)
 generalize hp2:(s.heap.push {cls:=.type "list",data:=.seq #[]}).update S (aJ7 (λ_=>(#[]:Array Value)))=Ń at hS2
 have k2 :∀b o,s.heap.get? b=some o->Ń.get? b=some o:=λb o e=>hp2▸(aJ5 _ _ (bF5 (lt e))).trans (aB1 _ e)
 have ż:Ń.objs.size=S+1:=by rwa[hp2.symm];rewrite [aK5,aE7];rwa[hSe];rfl
 unfold aV8
 have hTy:(⟨Ń,s.gens,s.drawn,s.toks,s.os⟩:aA5).TypeIs (.ref I) "map":=⟨_,k2 _ _ hI,rfl⟩
 refine aA1 (bM4 hTy ?_)
 rwa[show aD8.List.listSameRef (.ref S) (.ref I)=false from beq_eq_false_iff_ne.mpr (bF5 (lt hI)),show(false||aW2 "map" == aW2 "list" || aW2 "map" == aW2 "tuple")=false by decide]
 rwa[bQ7 aP5]
 refine aA1 (Sp (k2 _ _ hI) ?_)
 refine aA1 (aJ1 ?_)
 unfold aD8.List.listLengthHint
 refine aA1 (aZ2 hTy Oe ?_)
 show aC8 _ A.in1.in1 (bG0 (aO3 I) (aA0 "__length_hint__") >>= _) _ _ _
 refine aA1 (aZ2 hTy Lk ?_)
 refine aA4 ?_
 show aC8 _ A.in1.in1 (rule "list.extend.makes-room" >>= λ_=>aD8.List.listTouch (.ref S) >>= λ_=>
  again (.builtin "list.extend.loop" ⟨[.ref S,.ref I,.none],[]⟩)) _ _ _
 refine aA1 (aQ8 ?_)
 refine aA1 ?_
 show aC8 _ A.in1.in1 (updateSeq S (·.push .none) >>= λ_=>updateSeq S (·.pop)) _ _ _
 refine aA1 (bE6 hS2 rfl ?_)
 have hS3:=aJ8 (aJ7 (·.push aN3)) hS2 rfl
 refine bE6 (hz:=by seq_fits) hS3 rfl ?_
 have hS4:=aJ8 (aJ7 (·.pop)) hS3 rfl
 generalize hp4:(Ń.update S (aJ7 (·.push aN3))).update S (aJ7 (·.pop))=p4 at hS4
 have k4 :∀b o,s.heap.get? b=some o->p4.get? b=some o:=λb o e=>hp4▸(aJ5 _ _ (bF5 (lt e))).trans ((aJ5 _ _ (bF5 (lt e))).trans (k2 b o e))
 have Ņ:p4.objs.size=S+1:=by rwa[hp4.symm];rewrite [aK5,aK5];rwa[ż];rfl
 refine aA4 ⟨aV0 aY1 _,?_⟩
 have D4:KD (G.put S .lock) h₀ {s with heap:=p4}:=⟨λa ha=>(ħ.put_own ha).elim (λy=>y▸hSe▸aX1 D.size) (D.lo a),λa ha=>Ņ.symm▸(ħ.put_own ha).elim (λy=>y▸aC1 _) λy=>aI1 (hSe▸D.lt a y),λb o e=>k4 _ _ (D.base b o e),Ņ.symm▸hSe▸aF5 D.size⟩
 have hA2:Cd d A.in1.in1.in1:=⟨hA.1,aE9 (aI4 _) hA.2.1,by have:=hA.2.2;show A.units+1+1+1+10*d+40<_;exact id (ũ [_,_,_] 0x2000028910ac1818180aaaaa120000289181a0ac0aa18 (by rfl') this)⟩
 have ķ:(G.put S .lock).own S:=A0 ħ.put_at
 have oI':(G.put S .lock).own it:=λz=>ì ((ħ.put_ne (lt hit)).symm.trans z)
 have nom' :∀a,¬ (G.put S .lock).mt a:=λa z=>z.elim λp z=>(aP7 (a=S)).elim (λy=>z.2 (aA3 ((y▸z.1).symm.trans ħ.put_at))) λy=>nom a ⟨p,(ħ.put_ne y).symm.trans z.1,z.2⟩
 have st:CZ G s.heap (G.put S .lock) p4:=λa o e q=>⟨k4 a o e,λz=>(ħ.put_own z).elim (lt e) q⟩
 refine Pj (s₀:={s with heap:=p4}) (A:=A.in1) (S:=S) hf hA2 D4 ķ oI' nom' (λz=>lt hit z.symm) hIi hTi hli hmi (k4 _ _ hI) (k4 _ _ hT) (k4 _ _ hl) (k4 _ _ hm) ⟨lt hI,lt hT,lt hl,lt hm⟩ ht (hV.zero st) hn (λacc s' M=>?_) vss.length 0 [] _ (aH9 _) ⟨λb o e _ _=>e,aA6 _,rfl,rfl,⟨_,hS4⟩,rfl⟩ (k4 _ _ hit)
 have told:=M.told
 rw[aJ4]at told
 exact⟨rfl,hR acc s' (λb o e b1=>M.keep b o (k4 b o e) b1 (lt e)) (aA2 (Ņ.symm▸aI4 _) M.size) M.gens M.os M.list told⟩
end
section
variable{prog:aF3}{w:aC9}{A:aH1}{E:Value->aA5->Prop}{s:aA5}{C:aC2}
def F6{a b:Int}{t u:Tok}{Q:Value->aA5->Prop}(h:Q (.bool (decide (a<b))) s):aC8 (aC6 prog w) A (richCompare .Lt (.int a t) (.int b u)) Q E s:=lt_int h
end
def Lp{C:aC2}{us vs:List Value}{e:Nat×Option aC2}{k:Nat}(z:some (Ay C us e)=some (seqObj "list" vs.toArray k)):False:=nomatch(bQ5 (λo:Option Obj=>o.map Obj.cls) z:some (aO3 C)=some (aW2 "list"))
section
variable{prog:aF3}{w:aC9}{A:aH1}{E:Value->aA5->Prop}{s:aA5}{h₀:aF2}{C fN:aC2}
end
end Mine
end
section
open PySem PySem.W PyProof.Rows PySem.Spec PySem.Calls PySem.SeqAt MeetsSeq MeetsSeq2 MeetsSeq3
namespace Mine
def Bz:List Value->List Int->Prop
 | [],[]=>True
 | v::vs,x::xs=>(∃t,v = .int x t)/\Bz vs xs
 | _,_=>False
theorem Bz.len :∀{us:List Value} {xs:List Int},Bz us xs->us.length=xs.length
 | [],[],_=>rfl
 | [],_::_,h=>h.elim
 | _::_,[],h=>h.elim
 | v::vs,x::xs,h=>bQ5 aS3 h.2.len
theorem Bz.at :∀{us:List Value} {xs:List Int} {i:Nat} (h:Bz us xs) (hi:i<xs.length),∃t,us[i]?=some (.int xs[i] t)
 | [],[],_,_,hi=>bQ8 hi (aG0 _)
 | [],_::_,_,h,_=>h.elim
 | _::_,[],_,h,_=>h.elim
 | v::vs,x::xs,0,h,_=>h.1.imp λt e=>bQ5 some e
 | v::vs,x::xs,i+1,h,hi=>h.2.at (bC4 hi)
section
variable{prog:aF3}{w:aC9}{A:aH1}{E:Value->aA5->Prop}{s:aA5}
def Uf{xs ys:List Int}{i:Nat}(hx:i<=xs.length)(hy:i<=ys.length)(h:¬ (i<xs.length/\i<ys.length)):Ad (xs.drop i) (ys.drop i)=decide (xs.length<ys.length):=by
 by_cases h1:i<xs.length
 ·have h2:ys.length=i:=by exists 3,0x1210120169820181008,hy,h1,h
  rwa[aF9 h1,bC5 (aB7 h2)]
  exact(bR0 (by exists 3,0x211902281008,hx,h2)).symm
 ·have h2:xs.length=i:=by exists 2,0x12101981008,hx,h1
  rwa[bC5 (aB7 h2)]
  by_cases h3:i<ys.length
  ·rwa[aF9 h3]
   exact(bQ9 (by exists 3,0x211201810198,h1,h3)).symm
  ·rwa[bC5 (by exists 2,16843160,h3)]
   exact(bR0 (by exists 3,0x2119201981008,hx,h3)).symm
def S6{xs ys:List Int}{i:Nat}(hx:i<xs.length)(hy:i<ys.length):Ad (xs.drop i) (ys.drop i)=if xs[i]=ys[i]then Ad (xs.drop (i+1)) (ys.drop (i+1))else decide (xs[i]<ys[i]):=by
 rwa[aF9 hx,aF9 hy]
 rfl
def Px(l b:aC2){us Œ:List Value}{xs ys:List Int}(n n2:Nat)(hu:Bz us xs)(hw:Bz Œ ys)(i:Nat)(hx:i<=xs.length)(hy:i<=ys.length)(hc:¬ (i<xs.length/\i<ys.length)):bQ3 (aD8.«list.__eq__.loop» ⟨[.ref l,.ref b,aW4 i,aW4 0],[]⟩)
   (λ_ R s=>s.heap.get? l=some (AS us n)/\s.heap.get? b=some (AS Œ n2)/\R (.ok (.ret (.bool (Ad (xs.drop i) (ys.drop i))))) s):=by
 intro prog w A R s h
 obtain⟨hp,g,d,tk,os⟩:=s;obtain⟨hl,hb,h⟩:=h
 have hl:hp.get? l=some {cls:=.type "list",dict:=none,data:=.seq us.toArray n,slots:=#[]}:=hl
 have hb:hp.get? b=some {cls:=.type "list",dict:=none,data:=.seq Œ.toArray n2,slots:=#[]}:=hb
 have lu:=hu.len
 have lw:=hw.len
 rw[Uf hx hy hc,<-lu,<-lw]at h
 wp_walk using aG1 hl,aG1 hb
 have hp:us.toArray[((i:Nat):Int).toNat]?=none\/∃x,us.toArray[((i:Nat):Int).toNat]?=some x/\Œ.toArray[((i:Nat):Int).toNat]?=none:=by
  rewrite [aG5];rwa[aE3,aE3]
  by_cases h1:i<us.length
  ·exact .inr ⟨_,aA9 h1,aH6 (by exists 5,0x420341141698041832281028,lu,lw,h1,hc)⟩
  ·exact .inl (aH6 (by exists 2,16843160,h1))
 rcases hp with e | ⟨x,e,e'⟩
 ·rwa[e]
  wp_walk using aG1 hl,aG1 hb
  exact h
 ·rwa[e,e']
  wp_walk using aG1 hl,aG1 hb
  exact h
def Td(l b:aC2){us Œ:List Value}{xs ys:List Int}(n n2:Nat)(hu:Bz us xs)(hw:Bz Œ ys)(k:Nat) :
  ∀i:Nat,xs.length-i=k->i<=xs.length->i<=ys.length->bQ3 (aD8.«list.__eq__.loop» ⟨[.ref l,.ref b,aW4 i,aW4 0],[]⟩)
   (λ_ R s=>s.heap.get? l=some (AS us n)/\s.heap.get? b=some (AS Œ n2)/\R (.ok (.ret (.bool (Ad (xs.drop i) (ys.drop i))))) s):=by
 induction k with
 | zero=>exact λi hk hx hy=>Px l b n n2 hu hw i hx hy λz=>by exists 2,0xa01180810b28,hk,z.1
 | succ k ih=>
  intro i hk hx hy
  by_cases hc:i<xs.length/\i<ys.length
  ·intro prog w A R s h
   obtain⟨hp,g,d,tk,os⟩:=s;obtain⟨hl,hb,h⟩:=h
   have hl:hp.get? l=some {cls:=.type "list",dict:=none,data:=.seq us.toArray n,slots:=#[]}:=hl
   have hb:hp.get? b=some {cls:=.type "list",dict:=none,data:=.seq Œ.toArray n2,slots:=#[]}:=hb
   obtain⟨t,hi1⟩:=hu.at hc.1
   obtain⟨u,hi2⟩:=hw.at hc.2
   have hi1:us.toArray[((i:Nat):Int).toNat]?=some (.int xs[i] t):=by rewrite [aG5];rwa[aE3];exact hi1
   have hi2:Œ.toArray[((i:Nat):Int).toNat]?=some (.int ys[i] u):=by rewrite [aG5];rwa[aE3];exact hi2
   have hcc:((i:Int)+1)=((i+1:Nat):Int):=by push_cast;rfl
   rw[S6 hc.1 hc.2]at h
   wp_walk using aG1 hl,aG1 hb
   rwa[hi1,hi2]
   refine aA1 (bI4 ?_)
   by_cases e:xs[i]=ys[i]
   ·rw[bQ6 e]at h
    rwa[show(xs[i]==ys[i])=true from beq_iff_eq.mpr e]
    wp_walk
    rwa[hcc]
    exact⟨aV0 plain_eq_loop _,aR1 entry_eq_loop (by
     rwa[aL9 plain_eq_loop _]
     exact ih (i+1) (by exists 3,0x2181a0b2182a10b28,hk) (by exists 3,0x181a0182a10b28,hk) (by exists 2,75172417560,hc.2) prog w A R _ ⟨hl,hb,h⟩)⟩
   ·rw[bQ7 e]at h
    rwa[show(xs[i]==ys[i])=false from beq_eq_false_iff_ne.mpr e]
    wp_walk using aG1 hl,aG1 hb
    rwa[hi1,hi2]
    refine aA1 (F6 ?_)
    wp_walk
    exact h
  ·exact Px l b n n2 hu hw i hx hy hc
def UY(l b:aC2){us Œ:List Value}{xs ys:List Int}(n n2:Nat)(hu:Bz us xs)(hw:Bz Œ ys):bQ3 (aD8.«list.__lt__» ⟨[.ref l,.ref b],[]⟩)
   (λ_ R s=>s.heap.get? l=some (AS us n)/\s.heap.get? b=some (AS Œ n2)/\R (.ok (.ret (.bool (Ad xs ys)))) s):=by
 intro prog w A R s h
 obtain⟨hp,g,d,tk,os⟩:=s;obtain⟨hl,hb,h⟩:=h
 have hl:hp.get? l=some {cls:=.type "list",dict:=none,data:=.seq us.toArray n,slots:=#[]}:=hl
 have hb:hp.get? b=some {cls:=.type "list",dict:=none,data:=.seq Œ.toArray n2,slots:=#[]}:=hb
 have f3:=AutoSeq1.sub_list_list
 wp_walk using aG1 hl,aG1 hb
 exact⟨aV0 plain_eq_loop _,aR1 entry_eq_loop (by
  rwa[aL9 plain_eq_loop _]
  exact Td l b n n2 hu hw _ 0 rfl (aD4 _) (aD4 _) prog w A R _ ⟨hl,hb,h⟩)⟩
end
end Mine
end
section
open PySem PySem.W PyProof.Rows PySem.Spec PySem.Calls PySem.SeqAt
namespace Mine
section
variable{prog:aF3}{w:aC9}{A:aH1}{E:Value->aA5->Prop}{s:aA5}{h₀:aF2}{C fN m:aC2}{us:List Value}{k:Nat×Option aC2}
def VN{Q:Value->aA5->Prop}(hc:MatC h₀ C)(hlen :∀M,aF8 M h₀ (aI9 (.ref C) "__len__") (some (.builtin "tuple.__len__")))(hm:s.heap.get? m=some (Ay C us k))(hk :∀b o,h₀.get? b=some o->s.heap.get? b=some o)(hz:us.length<=1000)
  (h :∀t u,Q (.int us.length t) {s with toks:=u}):aC8 (aC6 prog w) A (call (.builtin "len") [.ref m]) Q E s:=by
 refine call_function_tree (by decide +kernel) (by decide +kernel) (aT7 (b:=aD8.«len») (by rfl')) (by unfold aW7;rfl') ?_
 unfold aD8.«len» callSpecial?
 refine aA1 (aA4 ?_)
 refine aA1 (aA1 (C0 hm hk (hlen _) ?_))
 dsimp only
 refine aJ1 ?_
 rw[PySem.F.slot_tuple_len.bind]
 refine aA1 (aA4 (aA1 ?_))
 refine Cv (n:="__len__") hc hm hk PySem.F.slot_tuple_len.plain (by decide +kernel) (by decide +kernel) PySem.F.entry_tuple_len (PySem.F.args_tuple_len_1 _) ?_
 obtain⟨hp,g,d,tk,os⟩:=s
 have hm:hp.get? m=some (Ay C us k):=hm
 unfold aD8.«tuple.__len__»
 repeat lk
 have e:(us.toArray.size:Int)=us.length:=by simp
 refine⟨_,rfl,aA4 ?_⟩
 rwa[e]
 dsimp only
 refine aA1 (aJ1 ?_)
 refine aW6 (a:=(us.length:Int)) rfl ?_
 refine aA1 (bN8 ?_)
 rwa[(bQ7 (by exists 1,8392521)),bQ7 (λz:(us.length:Int)≥2 ^ 63=>bQ8 z (bI8.mpr (aS4 (aM5.mpr hz) (by decide))))]
 refine aA1 (wpAny_mkInt (aA4 ?_))
 exact h _ _
end
def Mb(as:List ű)(σ:St)(K:List ű->St->Prop):Prop:=Ae as λa as=>Aa (Ar a) λx=>aB4 (D0 0 x/\K (B8 0 (x-0).toNat) σ) (λb r _=>Aa (Ar b) λy=>aB4 (D0 x y/\K (B8 x (y-x).toNat) σ) (λ_ _ _=>False) r) as
def S4(tg:Expr)(as:List ű)(σ:St)(K:List ű->St->Prop):Prop:=Ae as λa as=>nil as (aE5 (Aa (KU a) λvs=>De tg=true/\AD nn vs=some vs/\K (BW vs) σ) (λx=>x.cps.size=0/\K [] σ) (Gm a))
section
variable{X:š}{c:Ĳ}{Q:ű->St->Prop}{K:List ű->St->Prop}
def Jm{lo hi:Int}{t u v:Tok}{tk:Nat}(hh:X.A.handled=none)(hn:D0 lo hi)(h:K (B8 lo (hi-lo).toNat) c.σ)(target:Expr)(R:Ī X c) :
  ė X (aS8 (.ref c.s.heap.objs.size)) (λit s'=>CM X target c K it s') {c.s with heap:=c.s.heap.push {cls:=.type "range",data:=.fields #[.int lo t,.int hi u,.int 1 v]},toks:=tk}:=by
 have x:=R.push {cls:=.type "range",data:=.fields #[.int lo t,.int hi u,.int 1 v]} tk
 have hs:=rangeSize_nat lo hi
 have sm:=small_one (aL5 (by decide) hn.1) (aS4 hn.2.1 (by decide)) (aL5 (by decide) hn.2.2.1) (aS4 hn.2.2.2 (by decide))
 have y:=x.R.lck {cls:=.type "range_iterator",data:=.fields #[aW4 lo,aW4 (aD8.Range.rangeSize lo hi 1),aW4 1]} tk
 refine wpAny_pyIter_range (t:=t) (u:=u) (v:=v) (aC4 _ rfl) sm ⟨_,x,_,[(c.s.heap.push {cls:=.type "range",data:=.fields #[.int lo t,.int hi u,.int 1 v]}).objs.size],B8 lo (hi-lo).toNat,t8 X.hs (c.s.heap.push {cls:=.type "range",data:=.fields #[.int lo t,.int hi u,.int 1 v]}).objs.size lo (hi-lo).toNat,_,rfl,λe=>VQ (X:=X.en e) hh target,λi G s Q st hQ=>wpAny_pyIter_rangeiter st.it hQ,⟨λb hb=>⟨aA7.mp hb▸ħ.put_at,aA7.mp hb▸x.R.size⟩,?_⟩,λb hb=>aB7 (aA7.mp hb).symm,y,λ_ _ e=>aB1 _ e,h⟩
 have e0:lo+((0:Nat):Int)=lo:=aT9 lo
 have e1:(((hi-lo).toNat:Nat):Int)-((0:Nat):Int)=aD8.Range.rangeSize lo hi 1:=hs▸Int.sub_zero _
 rwa[e0,e1]
 exact aC4 _ rfl
def VE{as:List ű}(hh:X.A.handled=none)(h:Mb as c.σ K)(target:Expr){vas:List Value}(R:Ī X c)(ra:Ě X c as vas):ė X (call (.type "range") vas []) (λr s1=>ė X (aS8 r) (λit s'=>CM X target c K it s') s1) c.s:=
 AN h ra λa as va vas r1 ra h=>AB h λx e1 h=>AY (P:=λva=>ė X (call (.type "range") (va::vas) []) _ c.s) e1 r1 λt=>by
  cases as with
  | nil=>rwa[show vas=[]from ra];exact call_range_1 (Jm hh h.1 h.2 target R)
  | cons b r=>
   obtain⟨vb,vr,rfl,r2,ra⟩:=ra
   refine AB h λy e2 h=>AY (P:=λvb=>ė X (call (.type "range") (.int x t::vb::vr) []) _ c.s) e2 r2 λu=>?_
   cases r with
   | nil=>rwa[show vr=[]from ra];exact call_range_2 (Jm hh h.1 h.2 target R)
   | cons d r=>exact h.elim
structure uP(hs:aF2)(e it:aC2)(t:Tok)(i:Nat)(G:ħ)(h:aF2):Prop where
 lk:HL hs G [e,it]
 en :∃old,IsEnum h e it ((0:Nat):Int) old
 st:h.IsStrIter it "str_ascii_iterator" ⟨#[]⟩ t 0
def Og{e it:aC2}{t:Tok}(hh:X.A.handled=none){target:Expr}:Ke X target e [e,it] [] (uP X.hs e it t) where
 frame:=λi G h G' h' y kp=>⟨y.lk.frame kp,y.en.imp λold q=>kp.lk (y.lk e (aC0 ..)).1 _ q,y.st.imp λo q=>⟨kp.lk (y.lk it (aC7 _ (aC0 ..))).1 o q.1,q.2⟩⟩
 item:=λi c R hi=>bQ8 hi (aG0 i)
 done:=λc R y=>y.en.elim λold q=>E0 (wpAny_pyNext_enum_endD (Draws.strAscii (A:=X.A.in1) hh it ⟨#[]⟩ t) q y.st λh' y1 sz=>
  have kk :∀a o,a∉[e,it]->c.s.heap.get? a=some o->h'.get? a=some o:=λa o ha e=>y1 a o (X6 ha) e
  ⟨rfl,(R.lockAt y.lk (t:=c.s.toks) kk sz).2,kk,sz⟩)
def YK{as:List ű}{target:Expr}(hh:X.A.handled=none)(h:S4 target as c.σ K){vas:List Value}(R:Ī X c)(ra:Ě X c as vas):ė X (call (.type "enumerate") vas []) (λr s1=>ė X (aS8 r) (λit s'=>CM X target c K it s') s1) c.s:=
 AN h ra λa as va vas r1 ra h=>Aw h ra λh=>BF h (λh=>AB h λvs e1 h=>by
  cases EB (P:=λa=>Š X c a va->Š X c (.lst vs) va) e1 id r1 with
  | mk l us hv hp ho hr=>
  subst hv
  obtain⟨k,p⟩:=hp
  refine call_enumerate_1 (n:=k.1) p λh' q1 õ q3 ą=>bC6 q1 ?_
  have lt :∀{a},a<c.s.heap.objs.size->a≠c.s.heap.objs.size+1:=λl=>aE4 (aI1 l)
  have x:C8 X c ⟨(c.G.put c.s.heap.objs.size .lock).put (c.s.heap.objs.size+1) .lock,c.σ,{c.s with heap:=h'}⟩:=R.more ą (q3▸aD5 _ 2) (λa l=>(ħ.put_ne (lt l)).trans (ħ.put_ne (aE4 l)))
   (λa e=>q3.symm▸(ħ.put_own e).elim (λz=>z▸aC1 _) λe=>(ħ.put_own e).elim (λz=>z▸aI1 (aC1 _)) λe=>aI1 (aI1 (R.ownLt a e))) (λ_ _=>⟨rfl,rfl⟩) (aA6 _) rfl rfl rfl rfl λ_ _=>.inl
  have mem :∀{P:aC2->Prop},P (c.s.heap.objs.size+1)->P c.s.heap.objs.size->∀b∈[c.s.heap.objs.size+1,c.s.heap.objs.size],P b:=λp q b hb=>(aF4.mp hb).elim (λz=>z▸p) λhb=>aA7.mp hb▸q
  have lk:HL X.hs ((c.G.put c.s.heap.objs.size .lock).put (c.s.heap.objs.size+1) .lock) [c.s.heap.objs.size+1,c.s.heap.objs.size]:=mem ⟨ħ.put_at,aF5 R.size⟩ ⟨(ħ.put_ne (aE4 (aC1 _))).trans ħ.put_at,R.size⟩
  exact⟨c,.refl R,_,[c.s.heap.objs.size+1,c.s.heap.objs.size],BW vs,s9 X.L X.hs (c.s.heap.objs.size+1) c.s.heap.objs.size l us vs,_,rfl,λe=>Wj (X:=X.en e) hh (aO2 (aC1 _)) h.1,λi G s Q st hQ=>st.en.elim λo q=>bC6 q hQ,⟨⟨lk,aC7 _ (aC0 ..),õ,⟨k.1,ą _ _ p⟩,x.kp.off p ho,hr.shut x.kp.still h.2.1⟩,_,q1⟩,
   mem (aI4 _) (aA6 _),x,ą,h.2.2⟩) λx e1 h=>Ds (P:=λva=>ė X (call (.type "enumerate") [va] []) _ c.s) e1 r1 λt=>by
  obtain⟨hx,h⟩:=h
  obtain⟨cps⟩:=x
  obtain rfl:=Array.eq_empty_of_size_eq_zero hx
  refine call_enumerate_str λh' q1 õ q3 ą=>bC6 q1 ?_
  rw[show strIterType ⟨#[]⟩ = "str_ascii_iterator" from by simp[strIterType]]at õ
  have lt :∀{a},a<c.s.heap.objs.size->a≠c.s.heap.objs.size+1:=λl=>aE4 (aI1 l)
  have x:C8 X c ⟨(c.G.put c.s.heap.objs.size .lock).put (c.s.heap.objs.size+1) .lock,c.σ,{c.s with heap:=h'}⟩:=R.more ą (q3▸aD5 _ 2) (λa l=>(ħ.put_ne (lt l)).trans (ħ.put_ne (aE4 l)))
   (λa e=>q3.symm▸(ħ.put_own e).elim (λz=>z▸aC1 _) λe=>(ħ.put_own e).elim (λz=>z▸aI1 (aC1 _)) λe=>aI1 (aI1 (R.ownLt a e))) (λ_ _=>⟨rfl,rfl⟩) (aA6 _) rfl rfl rfl rfl λ_ _=>.inl
  have mem :∀{P:aC2->Prop},P (c.s.heap.objs.size+1)->P c.s.heap.objs.size->∀b∈[c.s.heap.objs.size+1,c.s.heap.objs.size],P b:=λp q b hb=>(aF4.mp hb).elim (λz=>z▸p) λhb=>aA7.mp hb▸q
  have lk:HL X.hs ((c.G.put c.s.heap.objs.size .lock).put (c.s.heap.objs.size+1) .lock) [c.s.heap.objs.size+1,c.s.heap.objs.size]:=mem ⟨ħ.put_at,aF5 R.size⟩ ⟨(ħ.put_ne (aE4 (aC1 _))).trans ħ.put_at,R.size⟩
  exact⟨c,.refl R,_,[c.s.heap.objs.size+1,c.s.heap.objs.size],[],uP X.hs (c.s.heap.objs.size+1) c.s.heap.objs.size t,_,rfl,λe=>Og (X:=X.en e) hh,λi G s Q st hQ=>st.en.elim λo q=>bC6 q hQ,⟨lk,⟨_,q1⟩,õ⟩,
   mem (aI4 _) (aA6 _),x,ą,h⟩
def Ed(vs:List ű):Option (List Int):=aB4 (some []) (λa _ ih=>(Ar a).bind λx=>ih.map (x :: ·)) vs
def PC{vs:List ű} :∀{ns:List Int} {us:List Value},Ed vs=some ns->Ě X c vs us->∃ps:List (Int×Tok),us=ps.map (λp=>.int p.1 p.2)/\ns=ps.map (·.1):=by
 refine aB4 (motive:=λvs=>∀{ns:List Int} {us:List Value},Ed vs=some ns->Ě X c vs us->∃ps:List (Int×Tok),us=ps.map (λp=>.int p.1 p.2)/\ns=ps.map (·.1)) (λ{ns us} e q=>⟨[],q,(aA3 e).symm⟩) (λa r ih ns us e q=>?_) vs
 obtain⟨x,e1,e⟩:=bind_some e
 obtain⟨ys,e2,rfl⟩:=map_some e
 obtain⟨v,u,rfl,q1,õ⟩:=q
 obtain⟨ps,rfl,rfl⟩:=ih e2 õ
 exact AY (P:=λv=>∃qs:List (Int×Tok),v::ps.map (λp=>bD7 p.1 p.2)=qs.map (λp=>.int p.1 p.2)/\x::ps.map (·.1)=qs.map (·.1)) e1 q1 λt=>⟨(x,t)::ps,rfl,rfl⟩
def Nh(as:List ű)(σ:St)(Q:ű->St->Prop):Prop:=Ae as λa as=>nil as (Aa (Ak σ a) λvs=>Aa (Ed vs) λns=>Q (.int ns.sum) σ)
def Ql{as:List ű}(hh:X.A.handled=none)(h:Nh as c.σ Q){vas:List Value}(R:Ī X c)(ra:Ě X c as vas):Đ X c Q (call (.builtin "sum") vas []):=
 AN h ra λa as va vas r1 ra h=>Aw h ra λh=>AB h λvs e1 h=>AB h λns e2 h=>Am e1 R r1 λl us k Ž Ń=>by
  obtain⟨ps,rfl,rfl⟩:=PC e2 Ń
  refine E0 (sum_intListG (xs:=ps.toArray) hh (by have q:=AL Ž;simpa[intItems]using q) λh' tk t' hk hz=>?_)
  rwa[show preSum (numAt ps.toArray) ps.toArray.size=(ps.map (·.1)).sum from(preSum_eq ..).trans (bQ5 List.sum (aF6 (aB7 (aB5 ..))))]
  exact .to (b:=ű.int _) (R.grow tk hk hz) (bR2 _) h
def Mw(as:List ű)(σ:St)(Q:ű->St->Prop):Prop:=Ae as λa as=>aB4 False (λb as _=>nil as (Aa (Ar a) λx=>Aa (Ar b) λy=>Q (.int (min x y)) σ)) as
def W3{x y:Int}{t u:Tok}{P:Value->Prop}(h :∀t,P (.int (min x y) t)):P (if y<x then .int y u else .int x t):=by
 have e :∀(i:Int) t,i=min x y->P (.int i t):=λi t e=>e▸h t
 split
 ·exact e _ _ (by rename_i u0;exact ġ [] [_,_] 0x1d051048 (by rfl') u0)
 ·exact e _ _ (by rename_i u0;exact ġ [] [_,_] 0x1d1510498 (by rfl') u0)
def Pw{as:List ű}(hh:X.A.handled=none)(h:Mw as c.σ Q){vas:List Value}(R:Ī X c)(ra:Ě X c as vas):Đ X c Q (call (.builtin "min") vas []):=
 AN h ra λa as va vas r1 ra h=>by
  cases as with
  | nil=>exact h.elim
  | cons b as=>
   obtain⟨vb,vas',rfl,r2,ra⟩:=ra
   exact Aw (P:=λvas'=>Đ X c Q (call (.builtin "min") (va::vb::vas') [])) h ra λh=>AB h λx e1 h=>AB h λy e2 h=>AY e1 r1 λt=>AY e2 r2 λu=>
    E0 (PySem.min_two_ints hh λh' tk hk hz=>W3 (P:=λv=>AX X (Š X) c Q v {c.s with heap:=h',toks:=tk}) λt'=>.to (c':=c.hp c.σ h' tk) (b:=ű.int _) (R.grow tk hk hz) (bR2 _) h)
def No(as:List ű)(σ:St)(Q:ű->St->Prop):Prop:=Ae as λa as=>aB4 False (λb as _=>nil as (Aa (Ar a) λx=>Aa (Ar b) λy=>Q (.int (max x y)) σ)) as
def ZY{x y:Int}{t u:Tok}{P:Value->Prop}(h :∀t,P (.int (max x y) t)):P (if y>x then .int y u else .int x t):=by
 have e :∀(i:Int) t,i=max x y->P (.int i t):=λi t e=>e▸h t
 split
 ·exact e _ _ (by rename_i u0;exact(Int.max_eq_right (aK0 u0)).symm)
 ·exact e _ _ (by rename_i u0;exact(Int.max_eq_left (aP0.mp u0)).symm)
def Qh{as:List ű}(hh:X.A.handled=none)(h:No as c.σ Q){vas:List Value}(R:Ī X c)(ra:Ě X c as vas):Đ X c Q (call (.builtin "max") vas []):=
 AN h ra λa as va vas r1 ra h=>by
  cases as with
  | nil=>exact h.elim
  | cons b as=>
   obtain⟨vb,vas',rfl,r2,ra⟩:=ra
   exact Aw (P:=λvas'=>Đ X c Q (call (.builtin "max") (va::vb::vas') [])) h ra λh=>AB h λx e1 h=>AB h λy e2 h=>AY e1 r1 λt=>AY e2 r2 λu=>
    E0 (PySem.max_two_ints hh λh' tk hk hz=>ZY (P:=λv=>AX X (Š X) c Q v {c.s with heap:=h',toks:=tk}) λt'=>.to (c':=c.hp c.σ h' tk) (b:=ű.int _) (R.grow tk hk hz) (bR2 _) h)
def Mk(as:List ű)(σ:St)(Q:ű->St->Prop):Prop:=nil as (Q (.ref σ.n) (σ.new (.set [])))
def TJ{as:List ű}(h:Mk as c.σ Q){vas:List Value}(R:Ī X c)(ra:Ě X c as vas):Đ X c Q (call (.type "set") vas []):=
 Aw h ra λh=>Rp (.to (c':=c.add (.set []) _ c.s.toks) (b:=ű.ref c.σ.n) (R.alloc λp e=>⟨⟨Fh X.L.w,#[],0,_,(bQ5 _ e).trans (aC4 _ rfl),⟨rfl,rfl,rfl⟩,rfl,λe he=>(by simp at he),λk=>(by simp),(by decide),by cases(!X.L.w.params.followText "set-order")<;>decide,rfl⟩,List.nodup_nil,Fh X.L.w,#[],0,_,(bQ5 _ e).trans (aC4 _ rfl),rfl,bH3.nil,rfl⟩) ⟨bQ5 _ ħ.name_mu.symm,aC1 _⟩ h)
def QV(as:List ű)(σ:St)(Q:ű->St->Prop):Prop:=Ae as λa as=>nil as (Aa (DC a) λp=>SK.rec False False (Dj (aX9 p.2.length 1000) (Q (.int p.2.length) σ)) p.1)
def Xi{fN:aC2}{as:List ű}(N:Hs X.h₀ X.L.C fN)(h:QV as c.σ Q){vas:List Value}(R:Ī X c)(ra:Ě X c as vas):Đ X c Q (call (.builtin "len") vas []):=
 AN h ra λa as va vas r1 ra h=>Aw h ra λh=>AB h λp e h=>by
  obtain⟨k,vs⟩:=p
  cases Ct e r1 with
  | mk l us hv hp _ hr=>
  subst hv
  obtain⟨e',hp⟩:=hp
  cases k with
  | mat=>
   obtain⟨hz,h⟩:=A3 h
   exact VN N.toMatC N.len hp R.base (hr.len▸aL4 hz) λt u=>.int _ R (Eq.mpr (bQ5 (λn:Nat=>Q (.int n) c.σ) hr.len) h)
  | _=>exact h.elim
end
section
variable{prog:aF3}{w:aC9}{A:aH1}{E:Value->aA5->Prop}{s:aA5}{h₀:aF2}{C fN:aC2}
def VK{l b:aC2}{us Œ:List Value}{xs ys:List Int}{n n2:Nat}{Q:Bool->aA5->Prop}(hl:s.heap.get? l=some (AS us n))(hb:s.heap.get? b=some (AS Œ n2))(hu:Bz us xs)(hw:Bz Œ ys)(hc:A.units<cLine)(h:Q (Ad xs ys) s) :
  aC8 (aC6 prog w) A (keyLt' oneType' (.ref l) (.ref b)) Q E s:=by
 rw[keyLt'_oneType,bP5]
 simp only[if_true]
 refine aA1 (wpAny_cRoomFor_or (.inr hc) ?_)
 exact aA1 (wpAny_callSpecialIfBound?_slot ⟨_,hl,rfl⟩ PySem.F.slot_list_lt (bG1 PySem.F.slot_list_lt ⟨_,hl,rfl⟩ PySem.F.entry_list_lt (PySem.F.args_list_lt_2 _ _) (UY l b n n2 hu hw) ⟨hl,hb,aM7 h⟩))
def U5{b:Bool}{fin:Bool}{Q:Bool->aA5->Prop} :∀{us Œ:List Value} {xs ys:List Int} (i:Nat),Bz us xs->Bz Œ ys->(xs.length<ys.length↔fin=true)->Q (Ad xs ys) s->KatLex prog w A b fin Q (us.zip Œ) i s:=by
 intro us
 induction us with
 | nil=>
  intro Œ xs ys i hu hw hf h
  cases xs with
  | cons=>exact hu.elim
  | nil=>
   have e:Ad [] ys=fin:=by
    cases ys with
    | nil=>
     cases fin with
     | false=>rfl
     | true=>exact bQ8 (hf.mpr rfl) (aL3 _)
    | cons y ys=>exact(hf.mp (Nat.zero_lt_succ _)).symm
   exact kat_nil (e▸h)
 | cons v us ih=>
  intro Œ xs ys i hu hw hf h
  cases xs with
  | nil=>exact hu.elim
  | cons x xs=>
  cases Œ with
  | nil=>
   cases ys with
   | cons=>exact hw.elim
   | nil=>
    have e:fin=false:=by
     cases fin with
     | false=>rfl
     | true=>exact bQ8 (hf.mpr rfl) (aG0 _)
    subst e
    exact kat_nil h
  | cons u Œ=>
   cases ys with
   | nil=>exact hw.elim
   | cons y ys=>
     obtain⟨⟨t,rfl⟩,hu⟩:=hu
     obtain⟨⟨t',rfl⟩,hw⟩:=hw
     refine kat_cons (bI4 (kat_go (λe=>kat_yes ?_) λe=>kat_no ?_))
     ·have e:=aD3 e
      subst e
      refine ih (i+1) hu hw (Nat.succ_lt_succ_iff.symm.trans hf) ?_
      unfold Ad at h
      rwa[bQ6 rfl]at h
     ·have e:=ne_of_beq_false e
      unfold Ad at h
      rw[bQ7 e]at h
      cases b&&i==0 with
      | true=>exact oneLt_int h
      | false=>
       rw[bP5]
       simp only[aJ6,if_false]
       exact aA1 (F6 (aM7 h))
def Ut{l b:aC2}{us Œ:List Value}{xs ys:List Int}{n n2:Nat}{c:Bool}{Q:Bool->aA5->Prop}(hl:s.heap.get? l=some (Ab us n))(hb:s.heap.get? b=some (Ab Œ n2))(hu:Bz us xs)(hw:Bz Œ ys)(h:Q (Ad xs ys) s) :
  aC8 (aC6 prog w) A (keyLt' (tuples' c) (.ref l) (.ref b)) Q E s:=by
 refine kat_lt hl rfl hb rfl ?_
 show KatLex prog w A c (decide (us.length<Œ.length)) Q (us.zip Œ) 0 s
 exact U5 0 hu hw (by rwa[decide_eq_true_eq,hu.len,hw.len];rfl) h
def SH{M:bH0}{body:Value×Value->Option bF9×Unit->Sem (ForInStep (Option bF9×Unit))}
  (hb :∀(a b:Int) (t u:Tok) (R:ForInStep (Option bF9×Unit)->aA5->Prop),(a=b->R (.yield (none,())) s)->(a≠b->R (.done (some (.done (.ret (.bool (decide (a<b))))),())) s)->aC8 M A (body (.int a t,.int b u) (none,())) R E s) :
  ∀{us Œ:List Value} {xs ys:List Int} {Q:Option bF9×Unit->aA5->Prop},Bz us xs->Bz Œ ys->(∀r,(r=(none,())/\Ad xs ys=decide (xs.length<ys.length))\/r=(some (.done (.ret (.bool (Ad xs ys)))),())->Q r s)->aC8 M A (forIn (us.zip Œ) (none,()) body) Q E s:=by
 intro us
 induction us with
 | nil=>
  intro Œ xs ys Q hu hw h
  cases xs with
  | cons=>exact hu.elim
  | nil=>
   refine aA4 (h _ (.inl ⟨rfl,?_⟩))
   cases ys with
   | nil=>rfl
   | cons=>rfl
 | cons v us ih=>
  intro Œ xs ys Q hu hw h
  cases xs with
  | nil=>exact hu.elim
  | cons x xs=>
  cases Œ with
  | nil=>
   cases ys with
   | cons=>exact hw.elim
   | nil=>exact aA4 (h _ (.inl ⟨rfl,(bR0 (aG0 _)).symm⟩))
  | cons u Œ=>
   cases ys with
   | nil=>exact hw.elim
   | cons y ys=>
     obtain⟨⟨t,rfl⟩,hu⟩:=hu
     obtain⟨⟨t',rfl⟩,hw⟩:=hw
     rwa[List.zip_cons_cons];rw[List.forIn_cons]
     refine aA1 (hb x y t t' _ (λe=>?_) λe=>?_)
     ·subst e
      refine ih hu hw λr hr=>h r ?_
      have e:Ad (x::xs) (x::ys)=Ad xs ys:=by
       conv=>lhs;unfold Ad
       rwa[bQ6 rfl];rfl
      rwa[e,aN5,aN5]
      refine hr.imp (λq=>⟨q.1,q.2.trans (decide_eq_decide.mpr Nat.succ_lt_succ_iff.symm)⟩) id
     ·refine aA4 (h _ (.inr ?_))
      have e:Ad (x::xs) (y::ys)=decide (x<y):=by
       conv=>lhs;unfold Ad
       rwa[bQ7 e];rfl
      rwa[e];rfl
def ID{l:aC2}{us:List Value}{n:Nat×Option aC2}{Q:Array Value->aA5->Prop}(hl:s.heap.get? l=some (Ay C us n))(h:Q us.toArray s):aC8 (aC6 prog w) A (aD8.Tuple.tupleItemsOf (.ref l)) Q E s:=by
 obtain⟨hp,g,d,tk,os⟩:=s
 have hl:hp.get? l=some (Ay C us n):=hl
 unfold aD8.Tuple.tupleItemsOf
 repeat lk
 exact h
def Un{l b:aC2}{us Œ:List Value}{xs ys:List Int}{n n2:Nat×Option aC2}{Q:bF9->aA5->Prop}(hl:s.heap.get? l=some (Ay C us n))(hb:s.heap.get? b=some (Ay C Œ n2))(hu:Bz us xs)(hw:Bz Œ ys)
  (hs:aF8 (aC6 prog w) s.heap (aT6 (.ref C) (.type "tuple")) true) (h:Q (.done (.ret (.bool (Ad xs ys)))) s):aC8 (aC6 prog w) A (aD8.«tuple.__lt__» ⟨[.ref l,.ref b],[]⟩) Q E s:=by
 obtain⟨hp,g,d,tk,os⟩:=s
 have hl:hp.get? l=some (Ay C us n):=hl
 have hb:hp.get? b=some (Ay C Œ n2):=hb
 have tb:aF8 (aC6 prog w) hp (aZ9 (.ref b) (.type "tuple")) true:=(show aF8 (aC6 prog w) hp (typeOf (.ref b)) (.ref C)from(bM5 hb).andThen .now).andThen hs
 unfold aD8.«tuple.__lt__»
 iterate 13 (first | with_reducible refine aF8.at tb ?_ | lk)
 refine aA1 (ID hl (aA1 (ID hb ?_)))
 show aC8 _ _ (forIn (us.zip Œ) (none,()) _ >>= _) _ _ _
 refine aA1 (SH (λa b t u R h1 h2=>?_) hu hw λr hr=>?_)
 ·refine aA1 (bI4 ?_)
  by_cases e:a=b
  ·rwa[show(a==b)=true from beq_iff_eq.mpr e]
   exact aA4 (h1 e)
  ·rwa[show(a==b)=false from beq_eq_false_iff_ne.mpr e]
   exact aA1 (aQ8 (aA1 (F6 (aA1 (aA4 (aA4 (h2 e)))))))
 ·rcases hr with⟨rfl,e⟩ | rfl
  ·rw[e]at h
   show aC8 _ _ (ret (.bool (decide (us.length<Œ.length)))) _ _ _
   rwa[hu.len,hw.len]
   exact aA4 h
  ·exact aA4 h
def Zl(C:aC2)(h:aF2)(v:Value)(xs:List Int):Prop:=∃m k us,v = .ref m/\h.get? m=some (Ay C us k)/\Bz us xs
def gW(h:aF2)(v:Value)(xs:List Int):Prop:=∃m k us,v = .ref m/\h.get? m=some (Ab us k)/\Bz us xs
def mH(h:aF2)(v:Value)(xs:List Int):Prop:=∃m k us,v = .ref m/\h.get? m=some (AS us k)/\Bz us xs
def Tp{x y:Value}{a b:List Int}{Q:Bool->aA5->Prop}(N:Hs h₀ C fN)(hk :∀b o,h₀.get? b=some o->s.heap.get? b=some o)(hu:A.units<cLine)(hx:Zl C s.heap x a)(hy:Zl C s.heap y b)(h:Q (Ad a b) s) :
  aC8 (aC6 prog w) A (keyLt' oneType' x y) Q E s:=by
 obtain⟨m,k,us,rfl,hm,i1⟩:=hx
 obtain⟨m',k',Œ,rfl,hm',i2⟩:=hy
 rw[keyLt'_oneType,bP5]
 simp only[if_true]
 refine aA1 (wpAny_cRoomFor_or (.inr hu) ?_)
 exact aA1 (OT hm hk (N.lt _) PySem.F.slot_tuple_lt.bind (Cv (n:="__lt__") N.toMatC hm hk PySem.F.slot_tuple_lt.plain (by decide +kernel) (by decide +kernel) PySem.F.entry_tuple_lt (PySem.F.args_tuple_lt_2 _ _) (Un hm hm' i1 i2 ((N.sub _).keeps hk) ⟨_,rfl,aM7 h⟩)))
def Sx(prog:aF3)(w:aC9)(A:aH1)(us:List Value)(f:Value->List Int)(s:aA5):Prop:=2<=us.length->∃κ,(∀Q:aS0->aA5->Prop,Q κ s->∀E,aC8 (aC6 prog w) A (keyKind' us.toArray) Q E s)/\
 ∀x∈us,∀y∈us,∀Q:Bool->aA5->Prop,Q (Ad (f x) (f y)) s->aC8 (aC6 prog w) A (keyLt' κ x y) Q (λ_ _=>False) s
def Kq{a:aC2}{us:List Value}{f:Value->List Int}{k:Nat}{P:bF9->aA5->Prop}(ha:s.heap.get? a=some (AS us k))(hz:us.length<=100000)
  (hK :∀h',(∀b o,b≠a->s.heap.get? b=some o->h'.get? b=some o)->Sx prog w A us f {s with heap:=h'})
  (h :∀(h':aF2) (c:Nat) (Œ:List Value),Œ.Perm us->Œ.Pairwise (λx y=>Ad (f y) (f x)=false)->h'.get? a=some (AS Œ c)->(∀b o,b≠a->s.heap.get? b=some o->h'.get? b=some o)->s.heap.objs.size<=h'.objs.size->P (.done (.ret .none)) {s with heap:=h'}) :
  aC8 (aC6 prog w) A (aD8.«list.sort» ⟨[.ref a],[]⟩) P E s:=by
 obtain⟨hh,g',d,tk,os⟩:=s
 have ha:hh.get? a=some (seqObj "list" us.toArray k):=ha
 have n1:us.toArray.size<=aY4:=aA2 hz (by decide)
 rw[list_sort_plain]
 refine aA1 (listItems_at ha rfl ?_)
 refine aA1 (bL6 ha rfl ?_ n1 (aD4 _))
 obtain⟨e1,ho1⟩ :∃e1,(hh.update a (aJ7 λ_=>(#[]:Array Value))).get? a=some (seqObj "list" #[] e1):=⟨_,get?_update_seq ha λ_=>#[]⟩
 refine aA1 (bN9 ho1 rfl ?_)
 refine aA1 (wpAny_newTuple ?_ n1)
 refine aA1 (wpAny_newList ?_ (aD4 _))
 refine aJ1 ?_
 generalize hh3:((hh.update a (aJ7 λ_=>(#[]:Array Value))).push {cls:=.type "tuple",data:=.seq us.toArray.toList.toArray}).push {cls:=.type "list",data:=.seq ([]:List Value).toArray}=h3
 have k3 :∀b o,b≠a->hh.get? b=some o->h3.get? b=some o:=λb o hb e=>hh3▸aB1 _ (aB1 _ ((aJ5 _ _ (bF5 hb)).trans e))
 have a3:h3.get? a=some (seqObj "list" #[] e1):=hh3▸aB1 _ (aB1 _ ho1)
 have ð:hh.objs.size<=h3.objs.size:=hh3▸aA2 (aB7 (aK5 ..).symm) (aA2 (Ce _) (Ce _))
 dsimp only
 have fin :∀(Œ:List Value),Œ.Perm us->Œ.Pairwise (λx y=>Ad (f y) (f x)=false)->P (.done (.ret .none)) ⟨h3.update a (aJ7 λ_=>Œ.toArray),g',d,tk,os⟩:=λŒ q1 õ=>by
  obtain⟨c,hc⟩ :∃c,(h3.update a (aJ7 λ_=>Œ.toArray)).get? a=some (seqObj "list" Œ.toArray c):=⟨_,get?_update_seq a3 λ_=>_⟩
  exact h _ c Œ q1 õ hc (λb o hb e=>(aJ5 _ _ (bF5 hb)).trans (k3 b o hb e)) (aA2 ð (aB7 (aK5 ..).symm))
 refine(aT1 us.toArray.size 2).elim (λls=>?_) λls=>?_
 ·rwa[bQ6 ls,bQ6 ls]
  refine aA1 (aA4 ?_)
  rw[StateT.run_pure]
  refine aA1 (aA4 ?_)
  dsimp only
  refine aA1 (bN9 a3 rfl ?_)
  have e:(arrOf (aC5.mk' general' (us.toArray.zip us.toArray) #[] 7 none)).map (·.2)=us.toArray:=by
   show(us.toArray.zip us.toArray).map (·.2)=_
   rewrite [List.zip_toArray];rwa[List.map_toArray]
   exact bQ5 List.toArray (List.map_snd_zip (aA6 _))
  rwa[e]
  refine aA1 (bL6 a3 rfl ?_ (aD4 _) (aF5 n1))
  simp only[bne_self_eq_false,aJ6,if_false]
  have ls:us.length<2:=ls
  refine aA4 (fin us (.refl _) (aJ2.mpr λi j hi hj hij=>?_))
  exact aA8 (ũ [_,_,_] 0xa1218011828018 (by rfl') ls hj hij)
 ·have ls':¬ us.toArray.size<2:=aR0.mpr ls
  rwa[bQ7 ls',bQ7 ls']
  have ls:2<=us.length:=ls
  obtain⟨κ,q1,õ⟩:=hK h3 k3 ls
  refine aA1 (q1 _ ?_ _)
  refine aA1 (aP1 (Qx õ (aA2 (by decide) ls) (Q:=λ_ st'=>∃Œ:List Value,Œ.Perm us/\Œ.Pairwise (λx y=>Ad (f y) (f x)=false)/\(arrOf st').map (·.2)=Œ.toArray/\failedOf st'=none) λŒ st' w1 ú w3 w4=>⟨Œ,w1,ú,w3,w4⟩) (λr s' hr=>?_) λ_ _ e=>e)
  obtain⟨⟨⟩,st'⟩:=r
  obtain⟨rfl,Œ,w1,ú,w3,w4⟩:=hr
  dsimp only at w3 w4 ⊢
  refine aA1 (bN9 a3 rfl ?_)
  rwa[w3,w4]
  refine aA1 (bL6 a3 rfl ?_ (aD4 _) (by rwa[List.size_toArray,w1.length_eq];exact aF5 n1))
  simp only[bne_self_eq_false,aJ6,if_false]
  exact aA4 (fin Œ w1 ú)
end
def IC(vs:List ű):Option (List Int):=aB4 (some []) (λa _ ih=>(Ar a).bind λx=>ih.map (x :: ·)) vs
def Ht(k:SK)(a:ű):Option (List Int):=(DC a).bind λp=>bif aE6 p.1.ctorIdx k.ctorIdx then IC p.2 else none
def DX(g:ű->Option (List Int))(vs:List ű):Option (List (List Int)):=aB4 (some []) (λa _ ih=>(g a).bind λx=>ih.map (x :: ·)) vs
def yF(k:SK)(Œ:List ű):Prop:=∃ys,DX (Ht k) Œ=some ys/\ys.Pairwise λx y=>Ad y x=false
def HX(k:SK)(vs:List ű)(K:List ű->Prop):Prop:=(DX (Ht k) vs).isSome=true/\vs.length<=100000/\∀Œ:List ű,Œ.Perm vs->yF k Œ->K Œ
def HG(as:List ű)(σ:St)(Q:ű->St->Prop):Prop:=Ae as λa as=>nil as (Fr σ a λx vs=>HX .mat vs λŒ=>Q .none (σ.set x (.list Œ)))
def B7(as:List ű)(σ:St)(Q:ű->St->Prop):Prop:=Ae as λa as=>nil as (Aa (Ak σ a) λvs=>((∀a∈vs,Ht .tup a≠some [])/\HX .tup vs λŒ=>Q (.lst Œ) σ)\/HX .lst vs λŒ=>Q (.lst Œ) σ)
section
variable{X:š}{c:Ĳ}{Q:ű->St->Prop}
def Qd(L:Bt)(k:SK)(h:aF2)(v:Value)(xs:List Int):Prop:=∃l us,v = .ref l/\L.sq h l k us/\Bz us xs
theorem Bz.uni :∀{us:List Value} {xs ys:List Int},Bz us xs->Bz us ys->xs=ys
 | [],[],[],_,_=>rfl
 | [],_::_,_,h,_=>h.elim
 | [],_,_::_,_,h=>h.elim
 | _::_,[],_,h,_=>h.elim
 | _::_,_,[],_,h=>h.elim
 | v::us,x::xs,y::ys,⟨⟨t,e⟩,h⟩,⟨⟨u,e'⟩,h'⟩=>by
  rw[e]at e'
  cases e'
  rwa[h.uni h'];rfl
theorem Qd.uni{L:Bt}{k:SK}{h:aF2}{v:Value}{xs ys:List Int}(a:Qd L k h v xs)(b:Qd L k h v ys):xs=ys:=by
 obtain⟨l,us,rfl,⟨e,h1⟩,i1⟩:=a
 obtain⟨l',Œ,e',⟨e2,h2⟩,i2⟩:=b
 cases e'
 have:=h1.symm.trans h2
 have e:us.toArray=Œ.toArray:=by
  have:=bQ5 (λo:Option Obj=>o.map λo=>match o.data with | .seq a _=>a | _=>#[]) this
  exact aA3 this
 have e:=bQ5 Array.toList e
 exact i1.uni ((show us=Œ from e)▸i2)
def Pn{vs:List ű} :∀{xs:List Int} {us:List Value},IC vs=some xs->Ě X c vs us->Bz us xs:=by
 refine aB4 (motive:=λvs=>∀{xs:List Int} {us:List Value},IC vs=some xs->Ě X c vs us->Bz us xs) (λ{xs us} e q=>aA3 e▸(show us=[]from q)▸trivial) (λa r ih xs us e q=>?_) vs
 obtain⟨x,e1,e⟩:=bind_some e
 obtain⟨ys,e2,rfl⟩:=map_some e
 obtain⟨v,u,rfl,q1,õ⟩:=q
 exact⟨AY (P:=λv=>∃t,v=bD7 x t) e1 q1 λt=>⟨t,rfl⟩,ih e2 õ⟩
def Xu{k:SK}{a:ű}{xs:List Int}{v:Value}(e:Ht k a=some xs)(r:Š X c a v):Qd X.L k c.s.heap v xs:=by
 obtain⟨⟨k',vs⟩,e1,e⟩:=bind_some e
 refine BD (b:=aE6 k'.ctorIdx k.ctorIdx) (x:=IC vs) (y:=none) e (λq e9=>?_) AA
 have ek:k'=k:=by
  cases k'<;>cases k<;>first | rfl | cases q
 subst ek
 cases Ct e1 r with
 | mk l us hv hp _ hr=>exact⟨l,us,hv,hp,Pn e9 hr⟩
def Hb{k:SK}{vs:List ű} :∀{ys:List (List Int)} {us:List Value},DX (Ht k) vs=some ys->Ě X c vs us->us.length=ys.length/\∀(i:Nat) (v:Value) (y:List Int),us[i]?=some v->ys[i]?=some y->Qd X.L k c.s.heap v y:=by
 refine aB4 (motive:=λvs=>∀{ys:List (List Int)} {us:List Value},DX (Ht k) vs=some ys->Ě X c vs us->us.length=ys.length/\∀(i:Nat) (v:Value) (y:List Int),us[i]?=some v->ys[i]?=some y->Qd X.L k c.s.heap v y)
  (λ{ys us} e q=>aA3 e▸(show us=[]from q)▸⟨rfl,λi v y h=>nomatch h⟩) (λa r ih ys us e q=>?_) vs
 obtain⟨x,e1,e⟩:=bind_some e
 obtain⟨è,e2,rfl⟩:=map_some e
 obtain⟨v,u,rfl,q1,õ⟩:=q
 refine⟨bQ5 aS3 (ih e2 õ).1,λi v' y h h'=>?_⟩
 cases i with
 | zero=>cases h;cases h';exact Xu e1 q1
 | succ i=>exact(ih e2 õ).2 i v' y h h'
def Qm{k:SK}{vs:List ű} :∀{ys:List (List Int)} {i:Nat} {a:ű} {y:List Int},DX (Ht k) vs=some ys->vs[i]?=some a->ys[i]?=some y->Ht k a=some y:=by
 refine aB4 (motive:=λvs=>∀{ys:List (List Int)} {i:Nat} {a:ű} {y:List Int},DX (Ht k) vs=some ys->vs[i]?=some a->ys[i]?=some y->Ht k a=some y) (λ{ys i a y} _ h=>nomatch h) (λb r ih ys i a y e h h'=>?_) vs
 obtain⟨x,e1,e⟩:=bind_some e
 obtain⟨è,e2,rfl⟩:=map_some e
 cases i with
 | zero=>cases h;cases h';exact e1
 | succ i=>exact ih e2 h h'
def Om(L:Bt)(k:SK)(h:aF2)(v:Value):List Int:=by
 classical exact if q :∃xs,Qd L k h v xs then q.choose else []
def JD{L:Bt}{k:SK}{h:aF2}{v:Value}{xs:List Int}(q:Qd L k h v xs):Om L k h v=xs:=by
 unfold Om
 rwa[dif_pos ⟨xs,q⟩]
 exact(Exists.choose_spec (⟨xs,q⟩ :∃xs,Qd L k h v xs)).uni q
def Tv{us Œ:List Value}(h:us.Perm Œ) :∀{vs:List ű},Ě X c vs us->∃vs',vs.Perm vs'/\Ě X c vs' Œ:=by
 induction h with
 | nil=>exact λq=>⟨_,.refl _,q⟩
 | cons v _ ih=>
  intro vs q
  cases vs with
  | nil=>cases(show _::_=[]from q)
  | cons a r=>
   obtain⟨w,u,e,q1,õ⟩:=q
   cases e
   obtain⟨vs',Ž,Ń⟩:=ih õ
   exact⟨a::vs',Ž.cons a,_,_,rfl,q1,Ń⟩
 | swap v w l=>
  intro vs q
  cases vs with
  | nil=>cases(show _::_=[]from q)
  | cons a r=>
   obtain⟨_,_,e,q1,õ⟩:=q
   cases e
   cases r with
   | nil=>cases(show _::_=[]from õ)
   | cons b r=>
    obtain⟨_,_,e,q3,ą⟩:=õ
    cases e
    exact⟨b::a::r,.swap _ _ _,_,_,rfl,q3,_,_,rfl,q1,ą⟩
 | trans _ _ ih1 ih2=>
  intro vs q
  obtain⟨v1,Ž,q1⟩:=ih1 q
  obtain⟨v2,Ń,õ⟩:=ih2 q1
  exact⟨v2,Ž.trans Ń,õ⟩
def HT{k:SK}{vs:List ű}:(DX (Ht k) vs).isSome=true↔∀a∈vs,(Ht k a).isSome=true:=by
 refine aB4 (motive:=λvs=>(DX (Ht k) vs).isSome=true↔∀a∈vs,(Ht k a).isSome=true) ⟨λ_ a h=>(nomatch h),λ_=>rfl⟩ (λa r ih=>?_) vs
 show((Ht k a).bind λx=>(DX (Ht k) r).map (x :: ·)).isSome=true↔_
 rw[List.forall_mem_cons,<-ih]
 cases Ht k a with
 | none=>exact⟨λz=>(nomatch z),λz=>(nomatch z.1)⟩
 | some x=>
  show((DX (Ht k) r).map (x :: ·)).isSome=true↔_
  rwa[Option.isSome_map]
  exact⟨λz=>⟨rfl,z⟩,λz=>z.2⟩
def MT{k:SK}{vs:List ű}{us:List Value}{K:List ű->Prop}(h:HX k vs K)(q:Ě X c vs us):us.length<=100000/\(∀v∈us,Qd X.L k c.s.heap v (Om X.L k c.s.heap v))/\∀Œ:List Value,Œ.Perm us->Œ.Pairwise (λx y=>Ad (Om X.L k c.s.heap y) (Om X.L k c.s.heap x)=false)->∃vs',Ě X c vs' Œ/\K vs':=by
 obtain⟨h1,h2,h3⟩:=h
 obtain⟨xs,e⟩:=aY6.mp h1
 obtain⟨hl,hx⟩:=Hb e q
 refine⟨(AW.len q).symm▸h2,λv hv=>?_,λŒ hp hs=>?_⟩
 ·obtain⟨i,hi⟩:=List.mem_iff_getElem?.mp hv
  have hlt:i<xs.length:=hl▸(aB3.mp hi).1
  have:=hx i v _ hi (aA9 hlt)
  rwa[JD this]
  exact this
 ·obtain⟨vs',Ž,Ń⟩:=Tv hp.symm q
  refine⟨vs',Ń,h3 vs' Ž.symm ?_⟩
  obtain⟨ys,e'⟩:=aY6.mp (HT.mpr λa ha=>HT.mp h1 a (Ž.mem_iff.mpr ha))
  obtain⟨hl',hx'⟩:=Hb e' Ń
  refine⟨ys,e',aJ2.mpr λi j hi hj hij=>?_⟩
  have hi':i<Œ.length:=hl'▸hi
  have hj':j<Œ.length:=hl'▸hj
  have:=aJ2.mp hs i j hi' hj' hij
  rwa[JD (hx' i _ _ (aA9 hi') (aA9 hi)),JD (hx' j _ _ (aA9 hj') (aA9 hj))]at this
def P8{fN:aC2}{as:List ű}(N:Hs X.h₀ X.L.C fN)(hu:X.A.units+10<cLine)(h:HG as c.σ Q){vas:List Value}(R:Ī X c)(ra:Ě X c as vas):Đ X c Q (call (.builtin "list.sort") vas []):=
 AN h ra λa as va vas r1 ra h=>Aw h ra λh=>Dq h R r1 λx vs us n hx Ž Ń hz h=>by
  obtain⟨hl,hus,h⟩:=MT h Ń
  have hnew :∀{b o},X.h₀.get? b=some o->b≠c.G.μ x:=λe=>JN e (R.ownB _ (A0 (R.obj x _ hx).tag))
  refine aG7 PySem.F.slot_list_sort ⟨_,Ž,rfl⟩ PySem.F.entry_list_sort ?_ (PySem.F.args_list_sort_1 _)
  refine Kq (f:=Om X.L .mat c.s.heap) Ž hl (λh' hk h2=>?_) λh' k Œ q1 õ q3 ą Ŋ=>⟨_,rfl,?_⟩
  ·have im :∀v∈us,Zl X.L.C h' v (Om X.L .mat c.s.heap v):=λv hv=>by
    obtain⟨m,r,e,⟨kk,hm⟩,i⟩:=hus v hv
    have hm:c.s.heap.get? m=some (Ay X.L.C r kk):=hm
    exact⟨m,kk,r,e,hk m _ (λz=>Lp (hm.symm.trans ((bQ5 c.s.heap.get? z).trans Ž))) hm,i⟩
   refine⟨oneType',λQ hQ E=>kas_kind (T:=.ref X.L.C) h2 (λv hv=>?_) rfl (by simp) hQ,λx hx y hy Q hQ=>Tp N (λb o e=>hk b o (hnew e) (R.base b o e)) (aE9 (aH8 (by decide) _) hu) (im x hx) (im y hy) hQ⟩
   obtain⟨m,kk,r,f1,f2,_⟩:=im v hv
   rwa[f1]
   exact(bM5 f2).andThen .now
  ·obtain⟨vs',p3,hK⟩:=h Œ q1 õ
   exact .to (c':=c.hp (c.σ.set x (.list vs')) h' c.s.toks) (b:=ű.none) (R.chgs (S:=λp=>p = .obj x) (λp hp=>⟨x,.inl hp⟩) (λb o e q=>ą b o (λz=>q _ (z▸(R.obj x _ hx).tag) rfl) e) Ŋ rfl rfl rfl rfl rfl rfl
    λy o e=>Br e (λhy hw=>.inl λz=>by
     subst hy;subst hw
     exact⟨(R.obj y _ hx).lt,(R.obj y _ hx).tag,_,⟨(k,none),q3⟩,z.va p3⟩) λhy e=>.inr ⟨λz=>hy (by cases z;rfl),λz=>(nomatch z),e⟩) rfl hK
def OL{h:aF2} :∀{us:List Value},(∀v∈us,∃x xs,gW h v (x::xs))->∃fs,KatTups h us fs/\fs.length=us.length/\∀v∈fs,∃x t,v=bD7 x t:=by
 intro ţ
 induction ţ with
 | nil=>
  intro _
  exact⟨[],.nil,rfl,λv hv=>nomatch hv⟩
 | cons v us ih=>
  intro hx
  obtain⟨fs,q1,õ,q3⟩:=ih λv hv=>hx v (aC7 _ hv)
  obtain⟨x,xs,m,k,r,rfl,hm,hr⟩:=hx v (aC0 ..)
  cases r with
  | nil=>exact hr.elim
  | cons u r=>
   obtain⟨⟨t,rfl⟩,_⟩:=hr
   exact⟨.int x t::fs,.cons hm rfl rfl rfl q1,bQ5 aS3 õ,λv hv=>(aF4.mp hv).elim (λe=>⟨x,t,e⟩) (q3 v)⟩
def Ji{as:List ű}(hu:X.A.units+10<cLine)(h:B7 as c.σ Q){vas:List Value}(R:Ī X c)(ra:Ě X c as vas):Đ X c Q (call (.builtin "sorted") vas []):=
 AN h ra λa as va vas r1 ra h=>Aw h ra λh=>AB h λvs e1 h=>Am e1 R r1 λl us k Ž Ń=>by
  have main :∀{k:SK} (h:HX k vs λŒ=>Q (.lst Œ) c.σ),(∀h',(∀v∈us,Qd X.L k h' v (Om X.L k c.s.heap v))->Sx X.L.prog X.L.w X.A.in1.in1 us (Om X.L k c.s.heap) {c.s with heap:=h'})->Đ X c Q (call (.builtin "sorted") [.ref l] []):=λ{k'} h hS=>by
   obtain⟨hl,hus,h⟩:=MT h Ń
   have hz:us.length<=aY4:=aA2 hl (by decide)
   refine Calls.call_function_entry kind_sorted plain_sorted entry_sorted (args_sorted1 _) ?_
   unfold aD8.«sorted»
   refine aA1 (m:=checkCount "sorted" 1 1 _) (aA4 ?_)
   refine aA1 (collect_list (AL Ž) ?_ hz)
   refine aA1 (wpAny_newList ?_ hz)
   generalize h1:(c.s.heap.push (seqObj "list" #[] 0)).update c.s.heap.objs.size (aJ7 (· ++ us.toArray))=á
   have ē:á.objs.size=c.s.heap.objs.size+1:=h1▸(aK5 ..).trans (aE7 ..)
   have k1 :∀b o,c.s.heap.get? b=some o->á.get? b=some o:=λb o e=>h1▸(aJ5 _ _ (aO2 (aK2 e))).trans (aB1 _ e)
   have hoL:(á.push (AS us 0)).get? á.objs.size=some (AS us 0):=aC4 _ rfl
   have k2 :∀b o,c.s.heap.get? b=some o->(á.push (AS us 0)).get? b=some o:=λb o e=>aB1 _ (k1 b o e)
   have ne :∀{b o},c.s.heap.get? b=some o->b≠á.objs.size:=λe=>aE4 (aB2 (aK2 e) (ē▸aI4 _))
   refine aA1 (aJ1 (aG7 slot_list_sort ⟨_,hoL,rfl⟩ entry_list_sort (Kq (s:={c.s with heap:=á.push (AS us 0)}) (f:=Om X.L k' c.s.heap) hoL hl (λh' hk=>hS h' λv hv=>?_) λh' k Œ q1 õ q3 ą Ŋ=>⟨_,rfl,aA4 ⟨_,rfl,?_⟩⟩) (args_list_sort _)))
   ·obtain⟨m,r,e,⟨kk,hm⟩,i⟩:=hus v hv
    exact⟨m,r,e,⟨kk,hk m _ (ne hm) (k2 m _ hm)⟩,i⟩
   ·obtain⟨vs',p3,hK⟩:=h Œ q1 õ
    have x:=R.grow (h':=h') c.s.toks (λb o e=>ą b o (ne e) (k2 b o e)) (aA2 (aA2 (ē▸aI4 _) (Ce _)) Ŋ)
    exact .to (c':=c.hp c.σ h' c.s.toks) (b:=ű.lst vs') x ⟨_,_,rfl,⟨(k,none),q3⟩,λz=>bQ8 (R.ownLt _ z) (aR0.mpr (ē▸aI4 _)),x.pre.va p3⟩ hK
  rcases h with⟨hn,h⟩ | h
  ·have hus:=(MT h Ń).2.1
   refine main h λh' im h2=>?_
   have it :∀v∈us,gW h' v (Om X.L .tup c.s.heap v):=λv hv=>by
    obtain⟨m,r,e,⟨kk,hm⟩,i⟩:=im v hv
    exact⟨m,kk.1,r,e,hm,i⟩
   obtain⟨fs,q1,õ,q3⟩:=OL (h:=h') (us:=us) λv hv=>by
    have t:=it v hv
    cases en:Om X.L .tup c.s.heap v with
    | nil=>
     obtain⟨ys,ey⟩:=aY6.mp h.1
     obtain⟨hl,hx⟩:=Hb ey Ń
     obtain⟨i,hi⟩:=List.mem_iff_getElem?.mp hv
     have hlt:i<ys.length:=hl▸(aB3.mp hi).1
     have e:=JD (hx i v _ hi (aA9 hlt))
     have hv':i<vs.length:=by rwa[(AW.len Ń).symm];exact(aB3.mp hi).1
     have hk:=Qm ey (aA9 hv') (aA9 hlt)
     rw[<-e,en]at hk
     exact bQ8 hk (hn _ (aX8 hv'))
    | cons x xs=>rw[en]at t;exact⟨x,xs,t⟩
   refine⟨tuples' (aW2 "int" != aW2 "tuple"),λQ hQ E=>kat_kind q1 (õ▸aB2 (by decide) h2) (λv hv=>?_) rfl hQ,λx hx y hy Q hQ=>?_⟩
   ·obtain⟨x,t,rfl⟩:=q3 v hv
    exact .now
   ·obtain⟨m,k,r,e,hm,i1⟩:=it x hx
    obtain⟨m',k',r',e',hm',i2⟩:=it y hy
    rwa[e,e']
    exact Ut hm hm' i1 i2 hQ
  ·refine main h λh' im h2=>?_
   have it :∀v∈us,mH h' v (Om X.L .lst c.s.heap v):=λv hv=>by
    obtain⟨m,r,e,⟨kk,hm⟩,i⟩:=im v hv
    exact⟨m,kk.1,r,e,hm,i⟩
   refine⟨oneType',λQ hQ E=>kas_kind (T:=.type "list") h2 (λv hv=>?_) rfl (by simp) hQ,λx hx y hy Q hQ=>?_⟩
   ·obtain⟨m,kk,r,f1,f2,_⟩:=it v hv
    rwa[f1]
    exact(bM5 f2).andThen .now
   ·obtain⟨m,kk,r,f1,f2,f3⟩:=it x hx
    obtain⟨m',kk',r',f1',f2',f3'⟩:=it y hy
    rwa[f1,f1']
    exact VK f2 f2' f3 f3' (aE9 (aH8 (by decide:2<=10) X.A.units) hu) hQ
end
end Mine
end
section
open PySem PySem.W PyProof.Rows PySem.Spec PySem.Calls
namespace Mine
structure Ť where
 K:bH5
 C:aC2
 D:aC2
 gl:Str->Option ű
 T:aC2->Option ĉ
 init:Option ĉ
 new:Bool
 mak:Bool
 frz:Pos->Bool
 wk:Pos->Bool
 lk:Pos->Bool
 lj:Option (Int->Bool)
def L5(v:ű):Option Value:=aE5 ((II v).map .ref) (λb=>some b.val) (J8 v)
def QQ(L:Bt)(h₀:aF2)(d:Nat)(f:Int->Bool):Prop:=∀{A:aH1} {s:aA5} {u:Value} {a:aC2} {i:Int} {t:Tok} {R:bG3->aA5->Prop},Cd d A->(∀b o,h₀.get? b=some o->s.heap.get? b=some o)->L.fun s.heap a u->(∃cd b,u = .ref cd/\L.cod s.heap cd b)->
 (∀h' t',(∀b o,s.heap.get? b=some o->h'.get? b=some o)->s.heap.objs.size<=h'.objs.size->R (.ok (.ret (.bool (f i)))) {s with heap:=h',toks:=t'})->aO8 (aC6 L.prog L.w) A (.call (.ref a) ⟨[.int i t],[]⟩) R s
structure LT(L:Bt)(h₀:aF2)(P:Ť)(d:Nat)(fN st fM cm fI:aC2):Prop where
 hC:P.C=L.C
 K:P.K.In h₀
 N:Hs h₀ L.C fN
 Y:Z7 P.K L.C fN st
 keepC:keepIn P.K (.ref L.C)=true
 sys:sysModules<h₀.objs.size
 glob :∀x v,P.gl x=some v->∃c,L5 v=some c/\((∃mg,h₀.Ns aM1 mg/\mg x=some c)\/∃mg mb,h₀.Ns aM1 mg/\mg x=none/\h₀.Ns bA1 mb/\mb x=some c)
 make:findCls P.K (.ref L.C) (.type "type") "_make" = some (.get (.builtin "classmethod.__get__") (.ref cm) .none (.ref L.C))
 cmo :∃rest,recIn P.K cm "classmethod" = some (.ref fM::rest)
 fn :∀f tr,P.T f=some tr->As L h₀ (d+1) (.ref f) tr
 new:P.new=true->As L h₀ d (.ref fN) (IY L.C)
 mkOk:P.mak=true->As L h₀ d (.ref fM) (Fn L.C)
 init :∀tr,P.init=some tr->makesIn P.K P.D=true/\findIn P.K (.ref P.D) "__init__" = some (some (.ref fI))/\isFn P.K (.ref fI)=true/\keepIn P.K (.ref P.D)=true/\As L h₀ d (.ref fI) tr
 lam :∀f,P.lj=some f->QQ L h₀ (d+1) f
structure Em(X:š)(P:Ť)(d:Nat)(fN st fM cm fI:aC2)(sc:Scope):Prop where
 w:LT X.L X.h₀ P d fN st fM cm fI
 A:Cd (d+1) X.A
 glb:X.env.globals=aM1
 bui:X.env.builtins=bA1
 hsc:X.env.scope=sc
 fun_:sc.kind = .function
def Gi(as:List ű):Bool:=aB4 false (λa _ _=>(DC a).any λp=>SK.rec false false true p.1) as
def MR(C:aC2)(b:Ŕ)(as:List ű)(σ:St)(Q:ű->St->Prop):Prop:=match b with
 | .len=>aK3 (CK .len as σ Q) (QV as σ Q) (Gi as)
 | .sort=>HG as σ Q
 | .sum=>Nh as σ Q
 | .tnew=>TF C as σ Q
 | .set=>Mk as σ Q
 | .min=>Mw as σ Q
 | .sorted=>B7 as σ Q
 | .max=>No as σ Q
 | b=>CK b as σ Q
def QX(P:Ť)(a:aC2)(as:List ű)(σ:St)(Q:ű->St->Prop):Prop:=
 aK3 (aK3 (Aa (P.T a) λtr=>BI tr as σ Q) (Aa P.init λtr=>Vq P.D tr as σ Q) (aE6 a P.D)) (Dj P.new (NI as σ Q)) (aE6 a P.C)
def Ik(P:Ť)(v:ű)(as:List ű)(σ:St)(Q:ű->St->Prop):Prop:=
 aE5 (aE5 (Aa (Yd v) λq=>Qu q.1 q.2 as σ Q) (λa=>QX P a as σ Q) (II v)) (λb=>MR P.C b as σ Q) (J8 v)
def YY(K:bH5)(v:ű)(x:Str)(σ:St)(Q:ű->St->Prop):Prop:=aE5 (Vi K v x σ Q) (λb=>Q (.bm b v) σ) (jH σ v x)
def Lf(v:ű)(x:Str):Bool:=(J8 v).any λb=>aE6 b.ctorIdx 12&&x==("__new__":Str)
def Sr{b:Ŕ}(h:aE6 b.ctorIdx 12=true):b = .tuple:=Ŕ.tuple.elim (motive:=λb=>b = .tuple) b (aB8 h) rfl
def RJ(K:bH5)(v:ű)(x:Str)(σ:St):Option (ű×Bool):=aK3 (LZ ((fE K σ v x).map λf=>(.glo f,true)) ((a7 σ v x).map λb=>(.fn b,true))) (some (.fn .tnew,false)) (Lf v x)
section
variable{X:š}{c:Ĳ}{P:Ť}{d:Nat}{fN st fM cm fI:aC2}{sc:Scope}{Q:ű->St->Prop}{v:ű}{va:Value}
def VW{L:Bt}{G:ħ}{h:aF2}{n:Nat}{w:Value}(e:L5 v=some w):A2 L G h n v w:=
 BF (o:=J8 v) (A:=(II v).map aO3=some w) (B:=λb=>some b.val=some w) (by unfold L5 at e;cases h:J8 v<;>(rw[h]at e;exact e))
  (λe=>by
   obtain⟨a,e1,rfl⟩:=map_some e
   exact HH (P:=λv=>A2 L G h n v (.ref a)) e1 rfl) λb e1 e=>GI (P:=λv=>A2 L G h n v w) e1 (aA3 e).symm
variable(F:Em X P d fN st fM cm fI sc)(R:Ī X c)
include F R
theorem UQ{b:Ŕ}{as:List ű}{vas:List Value}(h:MR P.C b as c.σ Q)(ra:Ě X c as vas):Đ X c Q (call b.val vas []):=by
 have hu:X.A.units+10<cLine:=aE9 (aA2 (aH8 (by decide:10<=40) _) (aN7 (aD5 _ _) 40)) F.A.2.2
 have dflt :∀{b},CK b as c.σ Q->Đ X c Q (call b.val vas []):=λh=>Ly h R ra
 refine Ŕ.casesOn (motive:=λb=>MR P.C b as c.σ Q->Đ X c Q (call b.val vas [])) b (λh=>?_) (dflt (b:=.range)) (λh=>TJ h R ra) (dflt (b:=.enumerate)) (λh=>Ql F.A.1 h R ra) (dflt (b:=.append)) (dflt (b:=.pop)) (λh=>P8 F.w.N hu h R ra) (dflt (b:=.get)) (dflt (b:=.setdefault)) (dflt (b:=.has)) (λh=>UZ F.w.N (F.w.hC▸h) R ra) (dflt (b:=.tuple)) (dflt (b:=.list)) (dflt (b:=.map)) (dflt (b:=.extend)) (dflt (b:=.divmod)) (λh=>Pw F.A.1 h R ra) (λh=>Ji hu h R ra) (dflt (b:=.index)) (λh=>Qh F.A.1 h R ra) (dflt (b:=.add)) h
 have h:aK3 (CK .len as c.σ Q) (QV as c.σ Q) (Gi as):=h
 cases hm:Gi as with
 | true=>rw[hm]at h;exact Xi F.w.N h R ra
 | false=>rw[hm]at h;exact Ly h R ra
theorem Wg{a:aC2}{as:List ű}{vas:List Value}(h:QX P a as c.σ Q)(ra:Ě X c as vas):Zr X c Q (.ref a) vas:=by
 unfold QX at h
 cases h1:aE6 a P.C with
 | true=>
  rw[h1]at h
  rwa[aB8 h1,F.w.hC]
  exact Pk F.w.K F.w.N F.w.Y F.w.keepC (F.w.new (A3 h).1) F.A (A3 h).2 R ra
 | false=>
  rw[h1]at h
  cases h2:aE6 a P.D with
  | true=>
   rw[h2]at h
   rwa[aB8 h2]
   exact AB h λtr e h=>have z:=F.w.init tr e;Zg F.w.K z.1 z.2.1 z.2.2.1 z.2.2.2.1 z.2.2.2.2 F.A h R ra
  | false=>
   rw[h2]at h
   exact AB h λtr e h=>W6 (F.w.fn _ tr e) F.A h R ra
theorem WK{as:List ű}{vas:List Value}(h:Ik P v as c.σ Q)(rv:Š X c v va)(ra:Ě X c as vas):Zr X c Q va vas:=by
 exact BF h (λh=>BF h (λh=>AB h λq e h=>Zj h R (UT (P:=λv=>Š X c v va->Š X c (.bm q.1 q.2) va) e id rv) ra)
  λa e h=>(HH (P:=λv=>Š X c v va->va = .ref a) e id rv)▸Wg F R h ra) λb e h=>(GI (P:=λv=>Š X c v va->va=b.val) e id rv)▸⟨N3 b,UQ F R h ra⟩
theorem cZ{x:Str}(h:YY P.K v x c.σ Q)(rv:Š X c v va):Đ X c Q (bC2 va x true):=BF h (λh=>ZF F.w.K h R rv) λb e h=>Zo e R rv h
theorem dJ{x:Str}{q:ű×Bool}(e:RJ P.K v x c.σ=some q){pl:Sem Bool}{K:Value×List Value->aA5->Prop}(rv:Š X c v va)(h :∀g t,(∀c,Š X c q.1 g)->K (g,bif q.2 then [va]else []) {c.s with toks:=t}):ė X (bB0 va x pl) K c.s:=by
 unfold RJ at e
 cases ht:Lf v x with
 | true=>
  rw[ht]at e
  cases e
  unfold Lf at ht
  cases hv:J8 v with
  | none=>rw[hv]at ht;cases ht
  | some b=>
   rw[hv]at ht
   obtain⟨h1,h2⟩:=AH (show(_&&_)=true from ht)
   rwa[aD3 h2,(GI (P:=λv=>Š X c v va->va=b.val) hv id rv),Sr h1]
   exact Hx λt=>h _ t λ_=>rfl
 | false=>
  rw[ht]at e
  refine DH e (λe=>?_) λe=>?_
  ·obtain⟨f,e1,rfl⟩:=map_some e
   exact Y2 (E:=λ_ _=>False) F.w.K e1 R rv λt=>h _ t λ_=>rfl
  ·obtain⟨b,e1,rfl⟩:=map_some e
   exact Yk e1 R rv λt=>h _ t λ_=>rfl
end
end Mine
end
section
open PySem PySem.W PyProof.Rows PySem.Spec PySem.Calls PySem.SeqAt
namespace Mine
def pE(a b:ű)(σ:St)(K:Bool->Prop):Prop:=Aa (BC a) λk=>
 aE5 (aE5 (Aa (ED σ b) λes=>K (es.lookup k).isSome) (λvs=>Aa (CT vs) λks=>K (decide (k∈ks))) (Ak σ b)) (λvs=>Aa (CT vs) λks=>K (decide (k∈ks))) (Es b)
def KR(op:bJ3)(a b:ű)(σ:St)(Q:ű->St->Prop):Prop:=
 aK3 (aK3 (Fz op a b σ Q) (pE a b σ λr=>Q (.bool (!r)) σ) (aE6 op.ctorIdx 9)) (pE a b σ λr=>Q (.bool r) σ) (aE6 op.ctorIdx 8)
section
variable{X:š}{c:Ĳ}{a b:ű}{va vb:Value}{Q:ű->St->Prop}
def Kc{k:AC}{ks:List AC}{us:List Value}(q:us.length=ks.length/\∀(i:Nat) (k:AC) (v:Value),ks[i]?=some k->us[i]?=some v->A7 k v=true):us.any (A7 k)=decide (k∈ks):=by
 rw[bE5,bI0,decide_eq_true_iff]
 refine⟨λ⟨y,hy,e⟩=>?_,λh=>?_⟩
 ·obtain⟨i,hi⟩:=aW9 hy
  have hki:=aA9 (q.1▸(aB3.mp hi).1:i<ks.length)
  rwa[DS e (q.2 i _ y hki hi)]
  exact aX8 _
 ·obtain⟨i,hi⟩:=aW9 h
  have hu:=aA9 (q.1.symm▸(aB3.mp hi).1:i<us.length)
  exact⟨_,aX8 _,q.2 i k _ hi hu⟩
def mJ{r:Bool}{op:bJ3}{f:Bool->Bool}(hop :∀{x c':Value},bA6 op x c'=(do return .bool (f (<-contains c' x)))){K:Bool->Prop}{t:Nat}{P:Value->aA5->Prop}{x y:Value}{s:aA5}
  (h:ė X (contains y x) (λr s'=>P (.bool (f r)) s') s):ė X (bA6 op x y) P s:=by
 rwa[hop]
 exact ė.bind (h.mono λr s' q=>ė.pure q)
def aH{f:Bool->Bool}{op:bJ3}(hop :∀{x c':Value},bA6 op x c'=(do return .bool (f (<-contains c' x))))(h:pE a b c.σ λr=>Q (.bool (f r)) c.σ)(R:Ī X c)(ra:Š X c a va)(rb:Š X c b vb):Đ X c Q (bA6 op va vb):=by
 refine mJ (K:=λ_=>True) (t:=0) (r:=true) hop (AB h λk e0 h=>?_)
 have hk:=BU e0 ra
 refine BF h (λh=>BF h (λh=>AB h λes e1 h=>Ci e1 R rb λd kvs Ž Ń=>?_) λvs e1 h=>AB h λks e2 h=>Am e1 R rb λl us n Ž Ń=>?_) λvs e1 h=>AB h λks e2 h=>D2 e1 rb λl us n Ž Ń=>?_
 ·refine bF1 Ž.1.typeIs slot_dict_contains (aG7 slot_dict_contains Ž.1.typeIs entry_dict_contains ?_ (args_dict_contains _ _))
  show aC8 _ _ (dictGet d va >>= _) _ _ c.s
  refine aA1 (wpAny_dictGet_of hk Ž.1.mapOf ?_)
  have e:(es.lookup k).isSome=(valueAt kvs k).isSome:=Ń.look k (P:=λx y=>x.isSome=y.isSome) rfl (λ_ _ _=>rfl)
  rw[e]at h
  cases hv:valueAt kvs k with
  | none=>
   rw[hv]at h
   show aC8 _ _ (aD8.Dict.pendingKey? d va >>= _) _ _ _
   exact aA1 (wpAny_pendingKey_other Ž.2 (aA4 ⟨_,rfl,aM7 (.to (b:=ű.bool (f false)) (R.toks _) rfl h)⟩))
  | some v=>
   rw[hv]at h
   show aC8 _ _ (ret (.bool true)) _ _ _
   exact aA4 ⟨_,rfl,aM7 (.to (b:=ű.bool (f true)) (R.toks _) rfl h)⟩
 ·have q:=Mz e2 Ń
  refine bF1 (AL Ž).typeIs slot_list_contains (bG1 slot_list_contains (AL Ž).typeIs entry_list_contains (args_list_contains _ _) (PySem.SeqAt.list_containsAt l us.toArray n none #[] va (A7 k)) ⟨Ž,IL q hk,?_⟩)
  rwa[List.any_toArray,Kc q]
  exact aM7 (.here (b:=ű.bool (f (decide (k∈ks)))) R rfl h)
 ·have q:=Mz e2 Ń
  have hT:c.s.TypeIs (.ref l) "tuple":=⟨_,Ž,rfl⟩
  refine bF1 hT slot_tuple_contains (bG1 slot_tuple_contains hT entry_tuple_contains (args_tuple_contains _ _) (PySem.SeqAt.tuple_containsAt l us.toArray n none #[] va (A7 k)) ⟨Ž,IL q hk,?_⟩)
  rwa[List.any_toArray,Kc q]
  exact aM7 (.here (b:=ű.bool (f (decide (k∈ks)))) R rfl h)
def Ro{op:bJ3}(hu:X.A.units+10<cLine)(h:KR op a b c.σ Q)(R:Ī X c)(ra:Š X c a va)(rb:Š X c b vb):Đ X c Q (bA6 op va vb):=by
 unfold KR at h
 cases ś:aE6 op.ctorIdx 8 with
 | true=>
  rw[ś]at h
  obtain rfl:op = .In:=bJ3.In.elim (motive:=λb=>b = .In) op (aB8 ś) rfl
  exact aH (f:=id) rfl h R ra rb
 | false=>
  rw[ś]at h
  cases h9:aE6 op.ctorIdx 9 with
  | true=>
   rw[h9]at h
   obtain rfl:op = .NotIn:=bJ3.NotIn.elim (motive:=λb=>b = .NotIn) op (aB8 h9) rfl
   exact aH (f:=not) rfl h R ra rb
  | false=>rw[h9]at h;exact gD hu h R ra rb
end
def WQ(K:bH5)(w:ű)(x:Str)(v:ű)(σ:St)(Q:St->Prop):Prop:=cQ K w x v σ Q
def Xx{X:š}{c:Ĳ}{K:bH5}{a b:ű}{va vb:Value}{Q:St->Prop}(hK:K.In X.h₀){x:Str}(h:WQ K a x b c.σ Q)(R:Ī X c)(ra:Š X c a va)(rb:Š X c b vb):GB X c Q (setAttr va x vb):=jC hK h R ra rb
end Mine
end
section
open PySem PySem.W PyProof.Rows PySem.Spec PySem.Calls
namespace Mine
abbrev ŧ:=Expr->St->(ű->St->Prop)->Prop
abbrev Ĭ:=Expr->St->(Bool->St->Prop)->Prop
abbrev Ŀ:=Expr->ű->St->(St->Prop)->Prop
structure ĭ where
 E:ŧ
 B:Ĭ
 A:Ŀ
def one{α:Type}(l:List α):Option α:=aB4 none (λa r _=>aB4 (some a) (λ_ _ _=>none) r) l
def H9{α:Type}{l:List α}{a:α}{P:List α->Prop}(e:one l=some a)(f:P [a]):P l:=by
 cases l with
 | nil=>exact AA e
 | cons b r=>
  cases r with
  | nil=>exact aA3 e▸f
  | cons=>exact AA e
def EF{α:Type}(l:List α):Bool:=aB4 true (λ_ _ _=>false) l
def Cz{α:Type}{l:List α}{P:List α->Prop}(e:EF l=true)(f:P []):P l:=by
 cases l with
 | nil=>exact f
 | cons=>cases e
noncomputable def ix(e:Expr)(n:Nat):Bool:=aE6 e.ctorIdx n
def Bd(es:List Expr):Bool:=aB4 true (λe _ ih=>aK3 ih false (ix e 22)) es
def Cl(e:Expr):Expr×Str×Pos:=Expr.casesOn (motive_1:=λ_=>Expr×Str×Pos) e (λ_ _ _=>(e,("":Str),AI)) (λ_ _ _=>(e,("":Str),AI)) (λ_ _ _ _=>(e,("":Str),AI)) (λ_ _ _=>(e,("":Str),AI)) (λ_ _ _ _=>(e,("":Str),AI)) (λ_ _ _ _=>(e,("":Str),AI)) (λ_ _ _=>(e,("":Str),AI)) (λ_ _ _=>(e,("":Str),AI)) (λ_ _ _ _=>(e,("":Str),AI)) (λ_ _ _ _=>(e,("":Str),AI)) (λ_ _ _ _ _=>(e,("":Str),AI)) (λ_ _ _ _=>(e,("":Str),AI)) (λ_ _=>(e,("":Str),AI)) (λ_ _=>(e,("":Str),AI)) (λ_ _=>(e,("":Str),AI)) (λ_ _ _ _=>(e,("":Str),AI)) (λ_ _ _ _=>(e,("":Str),AI)) (λ_ _ _ _=>(e,("":Str),AI)) (λ_ _=>(e,("":Str),AI)) (λ_ _ _=>(e,("":Str),AI)) (λo a p=>(o,a,p)) (λ_ _ _=>(e,("":Str),AI)) (λ_ _=>(e,("":Str),AI)) (λ_ _=>(e,("":Str),AI)) (λ_ _=>(e,("":Str),AI)) (λ_ _ _=>(e,("":Str),AI)) (λ_ _ _ _=>(e,("":Str),AI))
noncomputable def Ap(e:Expr):Str:=Expr.casesOn (motive_1:=λ_=>Str) e (λ_ _ _=>("":Str)) (λ_ _ _=>("":Str)) (λ_ _ _ _=>("":Str)) (λ_ _ _=>("":Str)) (λ_ _ _ _=>("":Str)) (λ_ _ _ _=>("":Str)) (λ_ _ _=>("":Str)) (λ_ _ _=>("":Str)) (λ_ _ _ _=>("":Str)) (λ_ _ _ _=>("":Str)) (λ_ _ _ _ _=>("":Str)) (λ_ _ _ _=>("":Str)) (λ_ _=>("":Str)) (λ_ _=>("":Str)) (λ_ _=>("":Str)) (λ_ _ _ _=>("":Str)) (λ_ _ _ _=>("":Str)) (λ_ _ _ _=>("":Str)) (λ_ _=>("":Str)) (λ_ _ _=>("":Str)) (λ_ _ _=>("":Str)) (λ_ _ _=>("":Str)) (λ_ _=>("":Str)) (λx _=>x) (λ_ _=>("":Str)) (λ_ _ _=>("":Str)) (λ_ _ _ _=>("":Str))
noncomputable def JE(e:Expr):Option Expr×Option Expr×Option Expr:=Expr.casesOn (motive_1:=λ_=>Option Expr×Option Expr×Option Expr) e (λ_ _ _=>(none,none,none)) (λ_ _ _=>(none,none,none)) (λ_ _ _ _=>(none,none,none)) (λ_ _ _=>(none,none,none)) (λ_ _ _ _=>(none,none,none)) (λ_ _ _ _=>(none,none,none)) (λ_ _ _=>(none,none,none)) (λ_ _ _=>(none,none,none)) (λ_ _ _ _=>(none,none,none)) (λ_ _ _ _=>(none,none,none)) (λ_ _ _ _ _=>(none,none,none)) (λ_ _ _ _=>(none,none,none)) (λ_ _=>(none,none,none)) (λ_ _=>(none,none,none)) (λ_ _=>(none,none,none)) (λ_ _ _ _=>(none,none,none)) (λ_ _ _ _=>(none,none,none)) (λ_ _ _ _=>(none,none,none)) (λ_ _=>(none,none,none)) (λ_ _ _=>(none,none,none)) (λ_ _ _=>(none,none,none)) (λ_ _ _=>(none,none,none)) (λ_ _=>(none,none,none)) (λ_ _=>(none,none,none)) (λ_ _=>(none,none,none)) (λ_ _ _=>(none,none,none)) (λa b c _=>(a,b,c))
def A4(e:Expr):Expr×List Expr×List bO3×Pos:=Expr.casesOn (motive_1:=λ_=>Expr×List Expr×List bO3×Pos) e (λ_ _ _=>(e,[],[],AI)) (λ_ _ _=>(e,[],[],AI)) (λ_ _ _ _=>(e,[],[],AI)) (λ_ _ _=>(e,[],[],AI)) (λ_ _ _ _=>(e,[],[],AI)) (λ_ _ _ _=>(e,[],[],AI)) (λ_ _ _=>(e,[],[],AI)) (λ_ _ _=>(e,[],[],AI)) (λ_ _ _ _=>(e,[],[],AI)) (λ_ _ _ _=>(e,[],[],AI)) (λ_ _ _ _ _=>(e,[],[],AI)) (λ_ _ _ _=>(e,[],[],AI)) (λ_ _=>(e,[],[],AI)) (λ_ _=>(e,[],[],AI)) (λ_ _=>(e,[],[],AI)) (λ_ _ _ _=>(e,[],[],AI)) (λg as ks p=>(g,as,ks,p)) (λ_ _ _ _=>(e,[],[],AI)) (λ_ _=>(e,[],[],AI)) (λ_ _ _=>(e,[],[],AI)) (λ_ _ _=>(e,[],[],AI)) (λ_ _ _=>(e,[],[],AI)) (λ_ _=>(e,[],[],AI)) (λ_ _=>(e,[],[],AI)) (λ_ _=>(e,[],[],AI)) (λ_ _ _=>(e,[],[],AI)) (λ_ _ _ _=>(e,[],[],AI))
def F5(e:Expr):Bool:=!ix e 16
def Im(c:Const):Option ű:=Const.casesOn (motive:=λ_=>Option ű) c (some .none) (λb=>some (.bool b)) (λi=>some (.int i)) (λ_=>none) (λ_ _=>none) (λx=>some (.str x)) (λ_=>none) none
noncomputable def Af(x:Str):Bool:=!(x==("__debug__":Str)) && !(x==("__classdict__":Str))
def HO(P:Ť)(sc:Scope)(x:Str)(σ:St)(Q:ű->St->Prop):Prop:=Aa (sc.names.lookup x) λk=>
 bM6 (Aa (σ.ρ.lookup x) λv=>Q v σ) (Aa (σ.ρ.lookup x) λv=>Q v σ) (Aa (σ.ρ.lookup x) λv=>Q v σ) False (Aa (P.gl x) λv=>Q v σ) k
def DZ(sc:Scope)(x:Str):Bool:=(sc.names.lookup x).any λk=>bM6 true true false false false k
def TN(E:ŧ)(es:List Expr):St->(List ű->St->Prop)->Prop:=aB4 (λσ Q=>Q [] σ) (λe _ ih σ Q=>E e σ λv σ=>ih σ λvs σ=>Q (v::vs) σ) es
def wO(E:ŧ)(o:Option Expr)(σ:St)(Q:ű->St->Prop):Prop:=aE5 (Q .none σ) (λe=>E e σ Q) o
def BX(b:Bool)(A B:Prop):Prop:=aK3 B A b
def kA(B:Ĭ)(op:bN2)(es:List Expr):St->(Bool->St->Prop)->Prop:=
 bN2.rec (aB4 (λσ Q=>Q true σ) (λe _ ih σ Q=>B e σ λb σ=>BX b (ih σ Q) (Q false σ)) es) (aB4 (λσ Q=>Q false σ) (λe _ ih σ Q=>B e σ λb σ=>BX b (Q true σ) (ih σ Q)) es) op
def kI(A:Ŀ)(ts:List Expr):List ű->St->(St->Prop)->Prop:=aB4 (λvs σ Q=>nil vs (Q σ)) (λt _ ih vs σ Q=>Ae vs λv vs=>A t v σ λσ=>ih vs σ Q) ts
def Se(P:Ť)(sc:Scope)(i:Expr):Option Ŕ:=bif ix i 16&&ix (A4 i).1 23&&EF (A4 i).2.2.1&&Bd (A4 i).2.1&&Af (Ap (A4 i).1)then(sc.names.lookup (Ap (A4 i).1)).bind λk=>bif aE6 k.ctorIdx 4 then(P.gl (Ap (A4 i).1)).bind J8 else none else none
def Yz(W:ĭ)(i:Expr)(σ:St)(K:List ű->St->Prop):Prop:=W.E i σ λv σ=>Aa (T6 v) λvs=>AD nn vs=some vs/\K vs σ
def Fv(P:Ť)(sc:Scope)(W:ĭ)(t i:Expr)(σ:St)(K:List ű->St->Prop):Prop:=aE5 (Yz W i σ K)
 (λb=>aK3 (aK3 (Yz W i σ K) (TN W.E (A4 i).2.1 σ λvs σ=>S4 t vs σ K) (aE6 b.ctorIdx 3)) (TN W.E (A4 i).2.1 σ λvs σ=>Mb vs σ K) (aE6 b.ctorIdx 1)) (Se P sc i)
noncomputable def Et(cs sc:Scope):Scope:={cs with names:=cs.names.map λ(n,k)=>if(k == .free&&sc.kind == .function&&sc.names.lookup n==some .cell)then(n,.cell)else(n,k)}
def CP(cs:Scope):List Str:=aB4 [] (λp _ ih=>bif aE6 p.2.ctorIdx 2 then p.1::ih else ih) cs.names
def pick(ρ:List (Str×ű))(xs:List Str):List (Str×ű):=aB4 [] (λx _ ih=>aE5 ih (λv=>(x,v)::ih) (ρ.lookup x)) xs
def Ib(τ σ:St)(xs:List Str):Prop:=aB4 True (λx _ ih=>τ.ρ.lookup x=σ.ρ.lookup x/\ih) xs
noncomputable def isK(o:Option aS7)(n:Nat):Bool:=o.any λk=>aE6 k.ctorIdx n
def Ir(sc cs:Scope)(ps:List (Str×aS7)):Bool:=aB4 true (λp _ ih=>bM6 (isK (cs.names.lookup p.1) 0) false (isK (cs.names.lookup p.1) 2&&(isK (sc.names.lookup p.1) 1||isK (sc.names.lookup p.1) 2)) true true p.2&&ih) ps
def MS(sc cs:Scope)(g:aI7):Bool:=cs.kind == .function&&Ir sc cs cs.names && !ix g.iter 7&&g.is_async==0
def Vm(B:Ĭ)(ifs:List Expr)(σ:St)(K:Bool->St->Prop):Prop:=aB4 (K true σ) (λe r _=>aB4 (B e σ K) (λ_ _ _=>False) r) ifs
def FN(W:ĭ)(g:aI7)(rest:St->(St->Prop)->Prop)(v:ű)(τ:St)(K:St->Prop):Prop:=W.A g.target v τ λτ=>Vm W.B g.ifs τ λb τ=>BX b (rest τ K) (K τ)
def X1(P:Ť)(cs:Scope)(W:ĭ)(g:aI7)(em:St->(St->Prop)->Prop)(τ:St)(K:St->Prop):Prop:=Dj (!ix g.iter 7&&g.is_async==0)
 (Fv P cs W g.target g.iter τ λitems τ=>∃J:Nat->St->Prop,J 0 τ/\(∀k v τ,items[k]?=some v->J k τ->FN W g em v τ (J (k+1)))/\∀τ,J items.length τ->K τ)
def WL(P:Ť)(cs:Scope)(W:ĭ)(em:St->(St->Prop)->Prop)(gs:List aI7):St->(St->Prop)->Prop:=aB4 em (λg r _=>aB4 (X1 P cs W g em) (λ_ _ _ _ _=>False) r) gs
def Cq(o:Ř)(items:List ű)(tn:ű->St->(St->Prop)->Prop)(xs:List Str)(σ:St)(Q:ű->St->Prop):Prop:=
 ∃J:Nat->St->Prop,J 0 ⟨pick σ.ρ xs,(σ.new o).H,σ.n+1,σ.anc⟩/\(∀k v τ,items[k]?=some v->J k τ->tn v τ (J (k+1)))/\
  ∀τ,J items.length τ->Ib τ σ xs/\Q (.ref σ.n) ⟨σ.ρ,τ.H,τ.n,τ.anc⟩
def Wh(P:Ť)(Wc:Scope->ĭ)(sc:Scope)(o:Ř)(em:ĭ->Nat->St->(St->Prop)->Prop)(gens:List aI7)(cs:Scope)(σ:St)(Q:ű->St->Prop):Prop:=aB4 False (λg r _=>Dj (MS sc cs g)
 (Fv P sc (Wc sc) g.target g.iter σ λitems σ=>Cq o items (FN (Wc (Et cs sc)) g (WL P (Et cs sc) (Wc (Et cs sc)) (em (Wc (Et cs sc)) σ.n) r)) (CP cs) σ Q)) gens
def bV(elt:Expr)(W:ĭ)(n:Nat)(τ:St)(K:St->Prop):Prop:=W.E elt τ λu τ=>CK .append [.ref n,u] τ λ_ τ=>K τ
def kR(P:Ť)(Wc:Scope->ĭ)(sc:Scope)(elt:Expr)(gens:List aI7)(cs:Scope)(σ:St)(Q:ű->St->Prop):Prop:=Dj (aE6 gens.length 1) (Wh P Wc sc (.list []) (bV elt) gens cs σ Q)
def iO(g:Expr)(as:List Expr):Bool:=Ap g==("list":Str)&&as.any λa=>Ap (A4 a).1==("map":Str)
def cU(P:Ť)(sc:Scope)(g:Expr)(as:List Expr)(σ:St)(Q:ű->St->Prop):Prop:=∃f1 Ž f2 Ń c p3 p4 x p5 p6,(g = .Name f1 Ž/\as=[.Call (.Name f2 Ń) [.Attribute (.Name c p3) ("_make":Str) p4,.Name x p5] [] p6])/\
 (Af f1&&Af f2&&Af c&&Af x&&P.mak)=true/\(sc.names.lookup f1=some .globalImplicit/\sc.names.lookup f2=some .globalImplicit/\sc.names.lookup c=some .globalImplicit)/\(P.gl f1=some (.fn .list)/\P.gl f2=some (.fn .map)/\P.gl c=some (.glo P.C))/\
 HO P sc x σ λv σ=>∃vss,Ak σ v=some (vss.map .tup)/\Gl vss/\vss.length<=1000000/\Q (.lst (EW vss)) σ
def Ms(as:List Expr):Bool:=Bd as&&aX9 as.length 29
def SF(P:Ť)(W:ĭ)(q:Expr×Str×Pos)(as:List Expr)(p:Pos)(σ:St)(Q:ű->St->Prop):Prop:=
 Dj (F5 q.1&&aE6 q.2.2.endLine p.line) (W.E q.1 σ λv σ=>Aa (RJ P.K v q.2.1 σ) λg=>TN W.E as σ λvs σ=>Ik P g.1 (bif g.2 then v::vs else vs) σ Q)
def M6(P:Ť)(sc:Scope)(W:ĭ)(g:Expr)(as:List Expr)(σ:St)(Q:ű->St->Prop):Prop:=
 aK3 (W.E g σ λv σ=>TN W.E as σ λvs σ=>Ik P v vs σ Q) (cU P sc g as σ Q) (iO g as)
def WT(P:Ť)(sc:Scope)(W:ĭ)(g:Expr)(as:List Expr)(ks:List bO3)(p:Pos)(σ:St)(Q:ű->St->Prop):Prop:=
 Dj (EF ks&&Ms as) (aK3 (M6 P sc W g as σ Q) (SF P W (Cl g) as p σ Q) (ix g 20))
def Z2(W:ĭ)(o i:Expr)(σ:St)(Q:ű->St->Prop):Prop:=W.E o σ λv σ=>
 aK3 (W.E i σ λk σ=>J9 v k σ Q) (wO W.E (JE i).1 σ λa σ=>wO W.E (JE i).2.1 σ λb σ=>wO W.E (JE i).2.2 σ λc σ=>hZ v a b c σ Q) (ix i 26)
def FH(W:ĭ)(l:Expr)(EN:List bJ3)(rs:List Expr)(σ:St)(Q:ű->St->Prop):Prop:=Aa (one EN) λop=>Aa (one rs) λr=>
 Dj (!behindInMarks op r) (W.E l σ λa σ=>W.E r σ λb σ=>KR op a b σ Q)
def Nv(op:bL0):Bool:=bL0.rec false true false false op
def uR(W:ĭ)(op:bL0)(x:Expr)(σ:St)(Q:ű->St->Prop):Prop:=W.E x σ λa σ=>aK3 (gZ op a σ Q) (Dc a σ λb σ=>Q (.bool (!b)) σ) (Nv op)
def Uv(W:ĭ)(es:List Expr)(σ:St)(K:List ű->St->Prop):Prop:=Dj (Bd es&&aX9 es.length 1000000) (TN W.E es σ K)
noncomputable def Xf(v:ű):Option Bool:=match v with
 | .bool b=>some b
 | _=>none
def Vg(op:bN2):Bool:=bN2.rec true false op
def kL(E:ŧ)(op:bN2)(es:List Expr):St->(ű->St->Prop)->Prop:=aB4 (λ_ _=>False) (λe r ih σ Q=>aB4 (E e σ Q) (λ_ _ _=>E e σ λv σ=>Aa (Xf v) λb=>BX (b==Vg op) (ih σ Q) (Q (.bool b) σ)) r) es
def RO(P:Ť)(sc:Scope)(Wc:Scope->ĭ)(W:ĭ):ŧ:=λe σ Q=>Expr.casesOn (motive_1:=λ_=>Prop) e (λop es _=>kL W.E op es σ Q) (λ_ _ _=>False) (λl op r _=>W.E l σ λa σ=>W.E r σ λb σ=>PI op a b σ Q) (λop x _=>uR W op x σ Q) (λ_ _ _ _=>False) (λt b o _=>W.B t σ λc σ=>BX c (W.E b σ Q) (W.E o σ Q)) (λks vs _=>Dj (EF ks&&EF vs) (Q (.ref σ.n) (σ.new (.dict [])))) (λ_ _ _=>False) (λelt gens cs _=>kR P Wc sc elt gens cs σ Q) (λ_ _ _ _=>False) (λ_ _ _ _ _=>False) (λ_ _ _ _=>False) (λ_ _=>False) (λ_ _=>False) (λ_ _=>False) (λl EN rs _=>FH W l EN rs σ Q) (λg as ks p=>WT P sc W g as ks p σ Q) (λ_ _ _ _=>False) (λ_ _=>False) (λc _ _=>Aa (Im c) λv=>Q v σ) (λo a _=>Dj (F5 o) (W.E o σ λv σ=>YY P.K v a σ Q)) (λo i _=>Z2 W o i σ Q) (λ_ _=>False) (λx _=>Dj (Af x) (HO P sc x σ Q)) (λes p=>Uv W es σ λvs σ=>aK3 (Q (.ref σ.n) (σ.new (.list vs))) (Q (.lst vs) σ) (P.frz p)) (λes _ _=>Uv W es σ λvs σ=>Q (.tup vs) σ) (λ_ _ _ _=>False)
def RZ(W:ĭ):Ĭ:=λe σ Q=>Expr.casesOn (motive_1:=λ_=>Prop) e (λop vs _=>kA W.B op vs σ Q) (λ_ _ _=>False) (λ_ _ _ _=>False) (λop x _=>Dj (Nv op) (W.B x σ λb σ=>Q (!b) σ)) (λ_ _ _ _=>False) (λ_ _ _ _=>False) (λ_ _ _=>False) (λ_ _ _=>False) (λ_ _ _ _=>False) (λ_ _ _ _=>False) (λ_ _ _ _ _=>False) (λ_ _ _ _=>False) (λ_ _=>False) (λ_ _=>False) (λ_ _=>False) (λl EN rs _=>FH W l EN rs σ λv σ=>Dc v σ Q) (λg as ks p=>W.E (.Call g as ks p) σ λv σ=>Dc v σ Q) (λ_ _ _ _=>False) (λ_ _=>False) (λc k p=>W.E (.Constant c k p) σ λv σ=>Dc v σ Q) (λo a p=>W.E (.Attribute o a p) σ λv σ=>Dc v σ Q) (λ_ _ _=>False) (λ_ _=>False) (λx p=>W.E (.Name x p) σ λv σ=>Dc v σ Q) (λ_ _=>False) (λ_ _ _=>False) (λ_ _ _ _=>False)
def S9(P:Ť)(sc:Scope)(W:ĭ):Ŀ:=λt v σ Q=>Expr.casesOn (motive_1:=λ_=>Prop) t (λ_ _ _=>False) (λ_ _ _=>False) (λ_ _ _ _=>False) (λ_ _ _=>False) (λ_ _ _ _=>False) (λ_ _ _ _=>False) (λ_ _ _=>False) (λ_ _ _=>False) (λ_ _ _ _=>False) (λ_ _ _ _=>False) (λ_ _ _ _ _=>False) (λ_ _ _ _=>False) (λ_ _=>False) (λ_ _=>False) (λ_ _=>False) (λ_ _ _ _=>False) (λ_ _ _ _=>False) (λ_ _ _ _=>False) (λ_ _=>False) (λ_ _ _=>False) (λo a _=>W.E o σ λw σ=>WQ P.K w a v σ Q) (λo i _=>W.E o σ λw σ=>W.E i σ λk σ=>UD w k v σ Q) (λ_ _=>False) (λx _=>Dj (DZ sc x) (Q (σ.put x v))) (λ_ _=>False) (λes _ _=>Dj (Bd es) (Uu v es.length σ λvs σ=>kI W.A es vs σ Q)) (λ_ _ _ _=>False)
noncomputable def bU(P:Ť)(f:Nat):Scope->ĭ:=aV6 (λ_=>⟨λ_ _ _=>False,λ_ _ _=>False,λ_ _ _ _=>False⟩) (λ_ W sc=>⟨RO P sc W (W sc),RZ (W sc),S9 P sc (W sc)⟩) f
def Œ(P:Ť)(sc:Scope)(f:Nat):ĭ:=bU P f sc
def Dv{b:Bool}(h:(!b)=true):b=false:=Eq.mp (aS9 b) h
def JL{x:Str}(h:Af x=true):(x==("__debug__":Str))=false:=Dv (AH h).1
def V3{x:Str}(h:Af x=true):(x==("__classdict__":Str))=false:=Dv (AH h).2
noncomputable def A5(es:List Expr)(env:Env):List (Bool×Sem Value):=es.map λe=>(false,eval e env)
def IR{e:Expr}{r:List Expr}(h:Bd (e::r)=true):ix e 22=false/\Bd r=true:=by
 have h:aK3 (Bd r) false (ix e 22)=true:=h
 cases hx:ix e 22 with
 | false=>rw[hx]at h;exact⟨rfl,h⟩
 | true=>rw[hx]at h;cases h
def B9(env:Env)(es:List Expr):Bd es=true->starEach es env=A5 es env:=
 aB4 (motive:=λes=>Bd es=true->starEach es env=A5 es env) (λ_=>rfl) (λe r ih h=>by
  obtain⟨h1,h2⟩:=IR h
  refine Eq.trans ?_ (bQ5 (bN3 _) (ih h2))
  clear ih h h2
  cases e<;>first | rfl | cases h1) es
def DT(env:Env)(es:List Expr):Bd es=true->assignEach es env=es.map λe=>(false,assign e env):=
 aB4 (motive:=λes=>Bd es=true->assignEach es env=es.map λe=>(false,assign e env)) (λ_=>rfl) (λe r ih h=>by
  obtain⟨h1,h2⟩:=IR h
  refine Eq.trans ?_ (bQ5 (bN3 _) (ih h2))
  clear ih h h2
  cases e<;>first | rfl | cases h1) es
def CF(pos:Pos)(es:List Expr)(env:Env):backTo pos (A5 es env)=A5 es env:=(aR5 ..).trans rfl
def OV(es:List Expr)(env:Env):(A5 es env).any (·.1)=false:=aB4 rfl (λ_ _ ih=>ih) es
section
variable{X:š}{s:aA5}
def Ih{α:Type}{p:Prop} [Decidable p] {a b:α} {P:α->Prop} (x:P a) (y:P b):P (if p then a else b):=by
 by_cases h:p
 ·rwa[bQ6 h];exact x
 ·rwa[bQ7 h];exact y
def ė.fin{t:Sem Value}{Q:Value->aA5->Prop}(h:ė X t Q s):ė X (t >>= λr=>aX6 [r] point >>= λ_=>Pure.pure r) Q s:=ė.bind (h.mono λr s2 h2=>ė.bind (ė.hold (wpAny_point (aA4 h2))))
def E5{pos:Pos}{f:Value}{first:List Value}{es:List Expr}{env:Env}{Q:Value->aA5->Prop}
  (h:ė X (spliced (A5 es env)) (λvs s1=>H4 X f s1/\ė X (call f (first++vs) []) Q s1) s) :
  ė X (callWith pos f first (A5 es env) []) Q s:=by
 unfold callWith
 have e :∀f,evalArgs f true (A5 es env) []=(do let vs<-spliced (A5 es env);aX6 (vs++[]) (do return ⟨vs,[]⟩)):=by
  intro f
  unfold evalArgs
  cases es with
  | nil=>rfl
  | cons x r=>
   cases r with
   | nil=>rfl
   | cons y r=>rfl
 rw[e]
 refine ė.bind (ė.hold (ė.bind (h.mono λvs s1 h1=>?_)))
 refine ė.hold (ė.pure (ė.bind (aM4 ?_)))
 have hs:((A5 es env).any (·.1)||([]:List (Option Str×Sem Value)).any (·.1.isNone))=false:=(bQ5 (· || false) (OV es env)).trans rfl
 rwa[hs]
 refine ė.bind (h1.1 _ _ λk=>?_)
 cases k with
 | frame=>exact Ih (P:=λt=>ė X t Q s1) (ė.fin h1.2) (ė.fin (wpAny_keep h1.2))
 | boundFrame=>exact Ih (P:=λt=>ė X t Q s1) (ė.fin h1.2) (ė.fin (wpAny_keep h1.2))
 | machine=>exact ė.fin h1.2
 | caller=>exact ė.fin (wpAny_operating h1.2)
end
def Bg{o:Expr}{env:Env}(h:F5 o=true)(a:Str)(ü:Sem Value):attributeBase o a env ü=ü:=by
 cases o with
 | Call g as ks p=>cases h
 | _=>rfl
section
variable{X:š}{P:Ť}{d:Nat}{fN st fM cm fI:aC2}{sc:Scope}(F:Em X P d fN st fM cm fI sc)
include F
theorem DY(x:Str):X.env.kindOf x=sc.names.lookup x:=bQ5 (λs:Scope=>s.names.lookup x) F.hsc
theorem Ef:X.env.scope.kind = .function:=F.hsc▸F.fun_
theorem Md{x:Str}{v:ű}{c:Ĳ}{Q:Value->aA5->Prop}(e:P.gl x=some v)(hx:X.env.kindOf x=some .globalImplicit)(R:Ī X c)(hq :∀u,L5 v=some u->Q u c.s):ė X (loadName X.env x) Q c.s:=by
 obtain⟨u,e',hc⟩:=F.w.glob x v e
 rwa[loadName_read (Ef F) hx]
 exact hc.elim (λh=>h.elim λmg h=>loadGlobal_global (F.glb▸h.1.keeps R.base) h.2 (hq u e')) λh=>h.elim λmg h=>h.elim λmb h=>loadGlobal_builtin (F.glb▸h.1.keeps R.base) h.2.1 (F.bui▸h.2.2.1.keeps R.base) h.2.2.2 (hq u e')
theorem Vy{x:Str}{v:ű}{c:Ĳ}{P:Prop}(R:Ī X c)(e:c.σ.ρ.lookup x=some v)(hc:X.env.kindOf x=some .cell\/X.env.kindOf x=some .free)(f :∀a u,X.env.cells.lookup x=some a->c.s.heap.IsCell a (some u)->Š X c v u->P):P:=by
 cases ha:X.env.cells.lookup x with
 | none=>exact(R.celAll x hc ha).elim
 | some a=>exact(R.cel x a ha).casesOn λu hu r=>(r v e λz=>hc.elim (λq=>nomatch q.symm.trans z) λq=>nomatch q.symm.trans z).elim λu' q=>f a u' ha (q.1▸hu) q.2
theorem IN{x:Str}{σ:St}{Q:ű->St->Prop}(hp:Af x=true)(h:HO P sc x σ Q):Ō X (loadName X.env x) σ Q:=λG s R=>by
 have hko:=DY F x
 refine AB h λk e h=>?_
 rw[e]at hko
 cases k with
 | «local»=>exact AB h λv e h=>R.loc.casesOn λm hm r=>(r x v e hko).elim λu q=>wpAny_loadName_local (Ef F) hko hm q.1 (AX.here (c:=⟨G,σ,s⟩) R q.2 h)
 | cell=>exact AB h λv e h=>Vy F R e (.inl hko) λa u e1 e2 e3=>wpAny_loadName_cell (Ef F) hko e1 e2 (AX.here (c:=⟨G,σ,s⟩) R e3 h)
 | free=>exact AB h λv e h=>Vy F R e (.inr hko) λa u e1 e2 e3=>wpAny_loadName_free (Ef F) hko e1 e2 (AX.here (c:=⟨G,σ,s⟩) R e3 h) (V3 hp)
 | globalExplicit=>exact h.elim
 | globalImplicit=>exact AB h λv e h=>Md F e hko R λu e=>AX.here (c:=⟨G,σ,s⟩) R (VW e) h
theorem Jx{x:Str}{p:Pos}{σ:St}{Q:ű->St->Prop}(hp:Af x=true)(h:HO P sc x σ Q):Ō X (eval (.Name x p) X.env) σ Q:=λG s R=>bP1 (IN F hp h G s R) (JL hp)
theorem JH{x:Str}{av:ű}{v:Value}{c:Ĳ}{Q:St->Prop}(hx:DZ sc x=true)(R:Ī X c)(hv:Š X c av v)(h:Q (c.σ.put x av)):GB X c Q (storeName X.env x v):=by
 have hko:=DY F x
 unfold DZ at hx
 cases e:sc.names.lookup x with
 | none=>rw[e]at hx;cases hx
 | some k=>
  rw[e]at hko hx
  cases k with
  | «local»=>exact R.loc.casesOn λm hm r=>wpAny_storeName_local hko hm (λh' hn hb=>.to (c':=c.hp (c.σ.put x av) h' (c.s.toks+1)) (b:=()) (R.storeLocal (t:=c.s.toks+1) hko hv r hn hb) trivial h) ((Ef F).symm▸rfl)
  | cell=>
   cases hc:X.env.cells.lookup x with
   | none=>exact(R.celAll x (.inl hko) hc).elim
   | some a=>exact(R.cel x a hc).casesOn λu hu r=>wpAny_storeName_cell (Ef F) hko hc hu λh' hn hb=>.to (c':=c.hp (c.σ.put x av) h' c.s.toks) (b:=()) (R.storeCell (t:=c.s.toks) (λz=>nomatch hko.symm.trans z) hc hv hn hb) trivial h
  | _=>cases hx
end
structure LO(X:š)(W:ĭ):Prop where
 E :∀e σ Q,W.E e σ Q->Ō X (eval e X.env) σ Q
 B :∀e σ Q,W.B e σ Q->ã X (isTrue e X.env (eval e X.env)) σ Q
 A :∀t v c Q,W.A t v c.σ Q->∀{u},Ī X c->Š X c v u->GB X c Q (assign t X.env u)
 U :∀elt gens cs p u σ Q Q',W.E (.ListComp elt gens cs p) σ Q->(∀c a v,Ī X c->Š X c a v->Q a c.σ->GB X c Q' (u v))->∀G s,Ī X ⟨G,σ,s⟩->GB X ⟨G,σ,s⟩ Q' (bO0 (.ListComp elt gens cs p) X.env u)
def P5(l u t:Option Expr)(p:Pos)(env:Env):eval (.Slice l u t p) env=(do
  let l<-valueOrNone (evalOpt l env)
  let u<-aX6 [l] (valueOrNone (evalOpt u env))
  let s<-aX6 [l,u] (valueOrNone (evalOpt t env))
  newFields "slice" [l,u,s]):=rfl
def Jq{op:bL0}(h:Nv op=true):op = .Not:=by
 cases op<;>first | rfl | cases h
section
variable{X:š}{W:ĭ}(S:LO X W)
include S
theorem IV(es:List Expr) :∀{σ:St} {Q:List ű->St->Prop},TN W.E es σ Q->TL X (spliced (A5 es X.env)) σ λvs σ=>vs.length=es.length/\Q vs σ:=
 aB4 (motive:=λes=>∀{σ:St} {Q:List ű->St->Prop},TN W.E es σ Q->TL X (spliced (A5 es X.env)) σ λvs σ=>vs.length=es.length/\Q vs σ) (λ{σ Q} h G s R=>aA4 (AX.here (c:=⟨G,σ,s⟩) (b:=([]:List ű)) R rfl ⟨rfl,h⟩))
  (λe r ih σ Q h G s R=>by
   show ė X (do
    let v<-eval e X.env
    let here<-pure [v]
    return here++(<-aX6 here (spliced (A5 r X.env)))) _ _
   exact ė.bind ((S.E e σ _ h).go (c:=⟨G,σ,s⟩) R λv c1 vv h1 x1 r1=>ė.bind (ė.pure (ė.bind (ė.hold ((ih h1).go x1.R λvs c2 vvs h2 x2 r2=>ė.pure (.to (b:=v::vs) (x1.trans x2) ⟨vv,vvs,rfl,x2.pre.v r1,r2⟩ ⟨bQ5 aS3 h2.1,h2.2⟩))))))) es
theorem Wb(o:Option Expr){σ:St}{Q:ű->St->Prop}(h:wO W.E o σ Q):Ō X (valueOrNone (evalOpt o X.env)) σ Q:=by
 cases o with
 | none=>exact λG s R=>aA4 (AX.here (c:=⟨G,σ,s⟩) (b:=ű.none) R rfl h)
 | some e=>exact S.E e σ Q h
theorem bK{op:bN2}(es:List Expr) :∀{σ:St} {Q:Bool->St->Prop},kA W.B op es σ Q->ã X (allTrue op es X.env) σ Q:=by
 cases op with
 | And=>
  exact aB4 (motive:=λes=>∀{σ:St} {Q:Bool->St->Prop},kA W.B .And es σ Q->ã X (allTrue .And es X.env) σ Q) (λ{σ Q} h G s R=>aA4 (AX.here (c:=⟨G,σ,s⟩) (b:=true) R rfl h))
   (λe r ih σ Q h G s R=>wpAny_allTrue_And_cons ((S.B e σ _ h).go (c:=⟨G,σ,s⟩) R λb c1 vb h1 x1 r1=>by
    cases r1
    cases b with
    | true=>exact AX.up (ih h1 _ _ x1.R) x1
    | false=>exact .to (b:=false) x1 rfl h1)) es
 | Or=>
  exact aB4 (motive:=λes=>∀{σ:St} {Q:Bool->St->Prop},kA W.B .Or es σ Q->ã X (allTrue .Or es X.env) σ Q) (λ{σ Q} h G s R=>aA4 (AX.here (c:=⟨G,σ,s⟩) (b:=false) R rfl h))
   (λe r ih σ Q h G s R=>wpAny_allTrue_Or_cons ((S.B e σ _ h).go (c:=⟨G,σ,s⟩) R λb c1 vb h1 x1 r1=>by
    cases r1
    cases b with
    | true=>exact .to (b:=true) x1 rfl h1
    | false=>exact AX.up (ih h1 _ _ x1.R) x1)) es
theorem gX{ts:List Expr} :∀{vs:List ű} {c:Ĳ} {Q:St->Prop} {us:List Value},kI W.A ts vs c.σ Q->Ī X c->Ě X c vs us->GB X c Q (aP8 (ts.map λt=>assign t X.env) us):=
 aB4 (motive:=λts=>∀{vs:List ű} {c:Ĳ} {Q:St->Prop} {us:List Value},kI W.A ts vs c.σ Q->Ī X c->Ě X c vs us->GB X c Q (aP8 (ts.map λt=>assign t X.env) us)) (λ{vs c Q us} h R q=>Aw (P:=λus=>GB X c Q (aP8 [] us)) h q λh=>ė.pure (AX.here (b:=()) R trivial h))
  (λt ts ih vs c Q us h R q=>AN (P:=λus=>GB X c Q (aP8 ((t::ts).map λt=>assign t X.env) us)) h q λa r v vr r1 r2 h=>by
   show ė X (do aX6 vr (assign t X.env v);aP8 (ts.map λt=>assign t X.env) vr) _ _
   exact ė.bind (ė.hold (ė.mono (S.A t a c _ h R r1) λ_ s1 q=>q.casesOn λG1 σ1 _ x1 _ q1=>AX.up (ih (c:=⟨G1,σ1,s1⟩) q1 x1.R (x1.pre.va r2)) x1))) ts
end
def Vb{P:ű->Prop}{a:ű}{b:Bool}(e:Xf a=some b)(f:P (.bool b)):P a:=
 ű.casesOn (motive_1:=λa=>Xf a=some b->P a) a AA (λ_ e=>aA3 e▸f) (λ_=>AA) (λ_ _=>AA) (λ_=>AA) (λ_=>AA) (λ_=>AA) (λ_ _=>AA) (λ_=>AA) (λ_=>AA) AA e
def H2{n:Nat}(h:aX9 n 1000000=true):AM n:=aL4 h
def M4{i:Expr}(h:ix i 26=false) :∀o k,subscripted i false o k=operate [o,k] (getItem o k):=by
 cases i with
 | Slice=>cases h
 | _=>exact λ_ _=>rfl
def E2{g:Expr}(h:ix g 20=false)(es:List Expr)(p:Pos)(env:Env):eval (.Call g es [] p) env=(do callWith p (<-eval g env) [] (backTo p (starEach es env)) (backToKw p (keywordEach [] env))):=by
 cases g with
 | Attribute=>cases h
 | _=>rfl
section
variable{X:š}{P:Ť}{d:Nat}{fN st fM cm fI:aC2}{sc:Scope}{W:ĭ}(F:Em X P d fN st fM cm fI sc)(S:LO X W){σ:St}{Q:ű->St->Prop}
include S
theorem RN{es:List Expr}{k:Nat}{p:Pos}(h:Uv W es σ λvs σ=>Q (.tup vs) σ):Ō X (eval (.Tuple es k p) X.env) σ Q:=λG s R=>by
 obtain⟨h1,h⟩:=A3 h
 refine wpAny_Tuple ?_
 rwa[B9 _ _ (AH h1).1];rw[CF]
 exact(IV S es h).go (c:=⟨G,σ,s⟩) R λvs c1 us h₁ x1 r1=>⟨(H2 (AH h1).2).line (r1.len.trans h₁.1),(AX.newTup _ 0 x1.R r1 h₁.2).lift x1⟩
theorem UU{es:List Expr}{p:Pos}(h:Uv W es σ λvs σ=>aK3 (Q (.ref σ.n) (σ.new (.list vs))) (Q (.lst vs) σ) (P.frz p)):Ō X (eval (.List es p) X.env) σ Q:=λG s R=>by
 obtain⟨h1,h⟩:=A3 h
 refine wpAny_List_spliced ?_
 rwa[B9 _ _ (AH h1).1];rw[CF]
 refine(IV S es h).go (c:=⟨G,σ,s⟩) R λvs c1 us h₁ x1 r1=>⟨(H2 (AH h1).2).line (r1.len.trans h₁.1),?_⟩
 have h2:=h₁.2
 cases hz:P.frz p with
 | true=>rw[hz]at h2;exact(AX.newLst _ 0 x1.R r1 h2).lift x1
 | false=>rw[hz]at h2;exact(AX.newList _ 0 x1.R r1 h2).lift x1
theorem iR{op:bN2}{p:Pos}(es:List Expr) :∀σ Q,kL W.E op es σ Q->Ō X (eval (.BoolOp op es p) X.env) σ Q:=by
 refine aB4 (motive:=λes=>∀σ Q,kL W.E op es σ Q->Ō X (eval (.BoolOp op es p) X.env) σ Q) (λ_ _ h=>h.elim) (λe r ih σ Q h G s R=>?_) es
 cases r with
 | nil=>exact S.E e σ Q h G s R
 | cons e' r=>
  show ė X (do
   let v<-eval e X.env
   standAt p
   let t<-aX6 [v] (truthy v)
   match op,t with
   | .And,false | .Or,true=>pure v
   | _,_=>eval (.BoolOp op (e'::r) p) X.env) _ _
  refine ė.bind ((S.E e σ _ h).go (c:=⟨G,σ,s⟩) R λa c1 va h1 x1 r1=>ė.bind (aM4 (ė.bind (ė.hold ?_))))
  refine AB h1 λb eb h2=>?_
  rwa[show va = .bool b from Vb (P:=λa=>Š X c1 a va->va = .bool b) eb (λz=>z) r1]
  refine aM7 ?_
  have go:BX (b==Vg op) (kL W.E op (e'::r) c1.σ Q) (Q (.bool b) c1.σ):=h2
  cases op<;>cases b
  ·exact aA4 (.to (c':=c1) (b:=ű.bool false) x1 rfl go)
  ·exact AX.up (ih _ _ go _ _ x1.R) x1
  ·exact AX.up (ih _ _ go _ _ x1.R) x1
  ·exact aA4 (.to (c':=c1) (b:=ű.bool true) x1 rfl go)
theorem Q5{t b o:Expr}{p:Pos}(h:W.B t σ λc σ=>BX c (W.E b σ Q) (W.E o σ Q)):Ō X (eval (.IfExp t b o p) X.env) σ Q:=λG s R=>
 wpAny_IfExp ((S.B t σ _ h).go (c:=⟨G,σ,s⟩) R λc c1 vc h1 x1 r1=>by
  cases r1
  cases c with
  | true=>exact AX.up (S.E b _ _ h1 _ _ x1.R) x1
  | false=>exact AX.up (S.E o _ _ h1 _ _ x1.R) x1)
theorem W7{o i:Expr}{p:Pos}(h:Z2 W o i σ Q):Ō X (eval (.Subscript o i p) X.env) σ Q:=λG s R=>by
 cases hi:ix i 26 with
 | false=>
  exact Subscript_ ((S.E o σ _ h).go (c:=⟨G,σ,s⟩) R λa c1 va h1 x1 r1=>by
   rw[hi]at h1
   exact(S.E i _ _ h1).go x1.R λb c2 vb h2 x2 r2=>AX.up (cW h2 (M4 hi) x2.R (x2.pre.v r1) r2) (x1.trans x2))
 | true=>
  refine Expr.Slice.elim (motive_1:=λi=>Z2 W o i σ Q->Đ X ⟨G,σ,s⟩ Q (eval (.Subscript o i p) X.env)) i (aB8 hi) (λlo up st q h=>?_) h
  show ė X _ _ _
  rw[eval_Subscript,P5]
  exact ė.bind ((S.E o σ _ h).go (c:=⟨G,σ,s⟩) R λa c1 va h1 x1 r1=>ė.bind (ė.hold (ė.bind ((Wb S lo h1).go x1.R λb c2 vb h2 x2 r2=>ė.bind (ė.hold ((Wb S up h2).go x2.R λd c3 vd h3 x3 r3=>ė.bind (ė.hold ((Wb S st h3).go x3.R λe c4 ve h4 x4 r4=>
   have x24:=x2.trans (x3.trans x4)
   ė.mono (hX h4 x4.R (x24.pre.v r1) ((x3.trans x4).pre.v r2) (x4.pre.v r3) r4) λi s5 h5=>ė.bind (aM4 (AX.up h5 (x1.trans x24)))))))))))
include F
theorem Lm{l:Expr}{EN:List bJ3}{rs:List Expr}{p:Pos}(h:FH W l EN rs σ Q):Ō X (eval (.Compare l EN rs p) X.env) σ Q:=λG s R=>
 AB h λop e1 h=>AB h λr e2 h=>H9 (P:=λEN=>Đ X ⟨G,σ,s⟩ Q (eval (.Compare l EN rs p) X.env)) e1 (H9 (P:=λrs=>Đ X ⟨G,σ,s⟩ Q (eval (.Compare l [op] rs p) X.env)) e2
  (wpAny_Compare1 ((S.E l σ _ (A3 h).2).go (c:=⟨G,σ,s⟩) R λa c1 va h1 x1 r1=>(S.E r _ _ h1).go x1.R λb c2 vb h2 x2 r2=>
   AX.up (Ro (aE9 (aA2 (aH8 (by decide:10<=40) _) (aN7 (aD5 _ _) 40)) F.A.2.2) h2 x2.R (x2.pre.v r1) r2) (x1.trans x2)) (Dv (A3 h).1)))
theorem cO{op:bL0}{x:Expr}{p:Pos}(h:uR W op x σ Q):Ō X (eval (.UnaryOp op x p) X.env) σ Q:=λG s R=>
 wpAny_UnaryOp ((S.E x σ _ h).go (c:=⟨G,σ,s⟩) R λa c1 va h1 x1 r1=>by
  cases hn:Nv op with
  | true=>
   rw[hn]at h1
   rwa[Jq hn]
   exact not_of (ė.mono (QO h1 x1.R r1) λb s2 q=>q.casesOn λG2 σ2 c y e q=>.to (c':=⟨G2,σ2,s2⟩) (b:=.bool (!c)) (x1.trans y) (by cases e;rfl) q)
  | false=>rw[hn]at h1;exact AX.up (fV h1 x1.R r1) x1)
end
def Op(es:List Expr)(env:Env):(A5 es env).all (!·.1)=true:=aB4 rfl (λ_ _ ih=>ih) es
def Me{es:List Expr}{env:Env}{n:Nat}(h:aX9 n 29=true):methodCallForm n (A5 es env) []=true:=
 aI6.mpr ⟨aI6.mpr ⟨Op es env,rfl⟩,bQ9 (Nat.lt_succ_of_le (aL4 h))⟩
def Ff{few:Bool}{o:Expr}{env:Env}{ap p:Pos}(h:aE6 ap.endLine p.line=true):methodCallPos few o env ap p=pure p:=by
 unfold methodCallPos
 exact bQ6 ((bQ5 (λz=>(!few||z)=true) (show(ap.endLine==p.line)=true from(aB8 h)▸bR2 _)).mpr (Bool.or_true _))
section
variable{X:š}{P:Ť}{d:Nat}{fN st fM cm fI:aC2}{sc:Scope}{W:ĭ}(F:Em X P d fN st fM cm fI sc)(S:LO X W){σ:St}{Q:ű->St->Prop}
include F
theorem Pu{k0:Const}{k:Nat}{p:Pos}(h:Aa (Im k0) λv=>Q v σ):Ō X (eval (.Constant k0 k p) X.env) σ Q:=λG s R=>
 Const.casesOn (motive:=λk0=>Aa (Im k0) (λv=>Q v σ)->Đ X ⟨G,σ,s⟩ Q (eval (.Constant k0 k p) X.env)) k0
  (λh=>wpAny_Constant_none (AX.here (c:=⟨G,σ,s⟩) (b:=ű.none) R rfl h)) (λb h=>wpAny_Constant_bool (AX.here (c:=⟨G,σ,s⟩) (b:=ű.bool b) R rfl h)) (λi h=>wpAny_Constant_int (.int _ R h)) (λ_=>aA8) (λ_ _=>aA8)
  (λy h=>wpAny_Constant_str (.to (b:=ű.str y) (R.toks (s.toks+1)) (bR2 y) h)) (λ_=>aA8) aA8 h
theorem Ua{ks:List (Option Expr)}{vs:List Expr}{p:Pos}(h:Dj (EF ks&&EF vs) (Q (.ref σ.n) (σ.new (.dict [])))):Ō X (eval (.Dict ks vs p) X.env) σ Q:=λG s R=>by
 obtain⟨h1,h⟩:=A3 h
 obtain⟨h1,h2⟩:=AH h1
 exact Cz (P:=λks=>Đ X ⟨G,σ,s⟩ Q (eval (.Dict ks vs p) X.env)) h1 (Cz (P:=λvs=>Đ X ⟨G,σ,s⟩ Q (eval (.Dict [] vs p) X.env)) h2 (wpAny_Dict_empty
  (.to (c':=Ĳ.add ⟨G,σ,s⟩ (.dict []) _ s.toks) (b:=ű.ref σ.n) (R.alloc λq e=>⟨[],e▸⟨aF2.DictOf.new s.heap,beq_eq_false_iff_ne.mpr λz=>bQ8 F.w.sys (aR0.mpr (z▸GS R))⟩,rfl⟩) ⟨bQ5 _ ħ.name_mu.symm,aC1 _⟩ h)))
include S
theorem VH{o:Expr}{a:Str}{p:Pos}(h:Dj (F5 o) (W.E o σ λv σ=>YY P.K v a σ Q)):Ō X (eval (.Attribute o a p) X.env) σ Q:=λG s R=>by
 obtain⟨h1,h⟩:=A3 h
 rw[arm_eval_Attribute,Bg h1]
 exact ė.bind ((S.E o σ _ h).go (c:=⟨G,σ,s⟩) R λv c1 vv h₁ x1 r1=>ė.bind (aM4 (ė.bind (ė.hold (ė.mono (AX.up (cZ F x1.R h₁ r1) x1) λr s2 h2=>ė.bind (wpAny_letTemporaryGo (aA4 h2)))))))
theorem UF{o:Expr}{m:Str}{ap p:Pos}{es:List Expr}(hf:Ms es=true)(h:SF P W (o,m,ap) es p σ Q):Ō X (eval (.Call (.Attribute o m ap) es [] p) X.env) σ Q:=λG s R=>by
 obtain⟨h1,h⟩:=A3 h
 rewrite [arm_eval_Call,Bg (AH h1).1];rwa[B9 _ _ (AH hf).1];rw[CF]
 refine ė.bind ((S.E o σ _ h).go (c:=⟨G,σ,s⟩) R λv c1 vv h₁ x1 r1=>ė.bind (aM4 ?_))
 unfold methodCall
 rwa[show backToKw p (keywordEach [] X.env)=[]from rfl,show methodCallForm (es.length+([]:List bO3).length) (A5 es X.env) []=true from Me (AH hf).2,Ff (AH h1).2]
 refine AB h₁ λg e h₁=>ė.bind (ė.hold (dJ F x1.R e r1 λgv t rg=>ė.bind (ė.pure ?_)))
 have y:=x1.R.toks t
 refine E5 (ý.go (c:=⟨c1.G,c1.σ,{c1.s with toks:=t}⟩) (IV S es h₁) y.R λvs c2 vvs h2 x2 r2=>?_)
 have x:=WK (v:=g.1) (vas:=(bif g.2 then [vv]else [])++vvs) F x2.R h2.2 (rg c2) (by
  cases g.2 with
  | true=>exact⟨vv,vvs,rfl,(y.trans x2).pre.v r1,r2⟩
  | false=>exact r2)
 exact⟨x.1,AX.up x.2 (x1.trans (y.trans x2))⟩
theorem QK{g:Expr}{es:List Expr}{p:Pos}{K:Value->aA5->Prop}{J:ű->List ű->St->Prop}(hg:ix g 20=false)(hs:Bd es=true){G:ħ}{s:aA5}(R:Ī X ⟨G,σ,s⟩)(h:W.E g σ λv σ=>TN W.E es σ λvs σ=>J v vs σ)
  (hk :∀v vs vv vvs c,C8 X ⟨G,σ,s⟩ c->Š X c v vv->Ě X c vs vvs->J v vs c.σ->H4 X vv c.s/\ė X (call vv vvs []) K c.s):ė X (eval (.Call g es [] p) X.env) K s:=by
 rewrite [E2 hg];rwa[B9 _ _ hs];rw[CF]
 exact ė.bind ((S.E g σ _ h).go (c:=⟨G,σ,s⟩) R λv c1 vv h1 x1 r1=>E5 ((IV S es h1).go x1.R λvs c2 vvs h2 x2 r2=>hk v vs vv vvs c2 (x1.trans x2) (x2.pre.v r1) r2 h2.2))
theorem UH(hLM :∀{g as p σ Q},cU P sc g as σ Q->Ō X (eval (.Call g as [] p) X.env) σ Q){g:Expr}{es:List Expr}{ks:List bO3}{p:Pos}(h:WT P sc W g es ks p σ Q):Ō X (eval (.Call g es ks p) X.env) σ Q:=by
 obtain⟨h1,h⟩:=A3 h
 refine Cz (P:=λks=>Ō X (eval (.Call g es ks p) X.env) σ Q) (AH h1).1 ?_
 cases hg:ix g 20 with
 | true=>
  rw[hg]at h
  exact Expr.Attribute.elim (motive_1:=λg=>SF P W (Cl g) es p σ Q->Ō X (eval (.Call g es [] p) X.env) σ Q) g (aB8 hg) (λo m ap h=>UF F S (AH h1).2 h) h
 | false=>
  rw[hg]at h
  have h:M6 P sc W g es σ Q:=h
  unfold M6 at h
  cases hl:iO g es with
  | true=>rw[hl]at h;exact hLM h
  | false=>
   rw[hl]at h
   exact λG s R=>QK F S hg (AH (AH h1).2).1 R h λv vs vv vvs c x rv ra j=>have z:=WK F x.R j rv ra;⟨z.1,AX.up z.2 x⟩
end
end Mine
end
section
open PySem PySem.W PyProof.Rows PySem.Spec PySem.Calls PySem.SeqAt
namespace Mine
def Mq{G:ħ}{a b:aC2}{p:AR}(h:G.own a):(G.put b p).own a:=(aP7 (a=b)).elim (λe=>e▸A0 ħ.put_at) λe=>(bQ5 (·≠none) (ħ.put_ne e)).mpr h
def Gl.all{vss:List (List ű)}:Gl vss->AD nn (vss.map .tup)=some (vss.map .tup)/\AD nn (EW vss)=some (EW vss):=
 aB4 (motive:=λvss=>Gl vss->AD nn (vss.map .tup)=some (vss.map .tup)/\AD nn (EW vss)=some (EW vss)) (λ_=>⟨rfl,rfl⟩) (λvs r ih h=>by
  have q:=ih λi Œ e=>h (i+1) Œ e
  have z:=(h 0 vs rfl).2
  have one :∀k,ű.sub nn (.seq k vs)=some (.seq k vs):=λk=>(bQ5 (aE0 (ű.seq k)) z).trans rfl
  have two :∀{k} {l:List ű},AD nn l=some l->AD nn (.seq k vs::l)=some (.seq k vs::l):=λ{k l} e=>by
   show((ű.sub nn (.seq k vs)).bind λa=>(AD nn l).map (a :: ·))=_
   rewrite [one];rwa[e];rfl
  exact⟨two q.1,two q.2⟩) vss
section
variable{X:š}{s:aA5}
def XN{e:Expr}{r:List Expr}{Q:List Value->aA5->Prop}(h:ė X (eval e X.env) (λv s1=>ė X (spliced (A5 r X.env)) (λvs s2=>Q (v::vs) s2) s1) s):ė X (spliced (A5 (e::r) X.env)) Q s:=by
 show ė X (do
  let v<-eval e X.env
  let here<-pure [v]
  return here++(<-aX6 here (spliced (A5 r X.env)))) _ _
 exact ė.bind (h.mono λv s1 h1=>ė.bind (ė.pure (ė.bind (ė.hold (h1.mono λvs s2 h2=>ė.pure h2)))))
end
section
variable{X:š}{P:Ť}{d:Nat}{fN st fM cm fI:aC2}{sc:Scope}{W:ĭ}(F:Em X P d fN st fM cm fI sc){c:Ĳ}
include F
theorem NZ{f:Str}{b:Ŕ}{pf p:Pos}{es:List Expr}{K:Value->aA5->Prop}(hp:Af f=true)(hx:sc.names.lookup f=some .globalImplicit)(hg:P.gl f=some (.fn b))(hs:Bd es=true)(R:Ī X c)
  (h:ė X (spliced (A5 es X.env)) (λvs s1=>ė X (call b.val vs []) K s1) c.s):ė X (eval (.Call (.Name f pf) es [] p) X.env) K c.s:=by
 rewrite [E2 rfl];rwa[B9 _ _ hs];rw[CF]
 exact ė.bind (bP1 (Md F hg ((DY F f).trans hx) R λu e=>E5 (h.mono λvs s1 h1=>aA3 e▸⟨N3 b,h1⟩)) (JL hp))
theorem PN{expr:Bool}{Q:Value->aA5->Prop}(R:Ī X c)(h:Q (.ref c.s.heap.objs.size) {c.s with heap:=c.s.heap.push (methodObj (.ref fM) (.ref X.L.C)),toks:=c.s.toks+1}):ė X (bC2 (.ref X.L.C) "_make" expr) Q c.s:=by
 obtain⟨rest,hr⟩:=F.w.cmo
 refine cls_bind (F.w.K.keeps R.base) F.w.Y.reads F.w.make (aW8 (cm_get (F.w.K.keeps R.base) hr ?_))
 show aC8 _ _ (handedOut _) _ _ _
 rwa[handedOut_of rfl]
 exact aA4 h
theorem bE{g:Expr}{as:List Expr}{p:Pos}{σ:St}{Q:ű->St->Prop}(h:cU P sc g as σ Q):Ō X (eval (.Call g as [] p) X.env) σ Q:=λG s R=>by
 obtain⟨f1,Ž,f2,Ń,c,p3,p4,x,p5,p6,⟨rfl,rfl⟩,hp,⟨k1,k2,k3⟩,⟨g1,g2,g3⟩,h⟩:=h
 obtain⟨hp,hm⟩:=AH hp
 obtain⟨hp,n4⟩:=AH hp
 obtain⟨hp,n3⟩:=AH hp
 refine NZ F (c:=⟨G,σ,s⟩) (AH hp).1 k1 g1 rfl R (XN (NZ F (c:=⟨G,σ,s⟩) (AH hp).2 k2 g2 rfl R (XN ?_)))
 rw[arm_eval_Attribute,Bg rfl]
 refine ė.bind (bP1 (Md F (c:=⟨G,σ,s⟩) g3 ((DY F c).trans k3) R λu e=>ė.bind (aM4 (ė.bind (ė.hold ?_)))) (JL n3))
 rwa[(aA3 e).symm,F.w.hC]
 refine PN F R (ė.bind (wpAny_letTemporaryGo (aA4 ?_)))
 have x1:=R.push (methodObj (.ref fM) (.ref X.L.C)) (s.toks+1)
 refine XN ((Jx F n4 h).go (c:=Ĳ.hp ⟨G,σ,s⟩ σ (s.heap.push (methodObj (.ref fM) (.ref X.L.C))) (s.toks+1)) x1.R λv c2 vv h₂ x2 r2=>aA4 ?_)
 obtain⟨vss,hl,ht,hn,hq⟩:=h₂
 have hmth:c2.s.heap.get? s.heap.objs.size=some (methodObj (.ref fM) (.ref X.L.C)):=(x2.kp.still _ _ (aC4 _ rfl) R.gone).1
 have hml:s.heap.objs.size<c2.s.heap.objs.size:=aB2 (aB2 (aC1 _) (aB7 (aE7 ..).symm)) x2.kp.size
 have R2:=x2.R
 have up:=x1.trans x2
 clear x2 x1 R
 generalize hN:s.heap.objs.size=mth at hmth hml
 refine Am (P:=λvv=>ė X (call (.type "map") [.ref mth,vv] []) _ c2.s) hl R2 r2 λl us k ĩ ř=>?_
 refine callType_new MM (by decide) (Gu _ _) (Hr _ _) (λobj=>Hg obj _ _) Hi (Hf l us k _) ⟨ĩ,?_⟩
 generalize hh2:((c2.s.heap.push (Bp l 0)).push (Ab [.ref c2.s.heap.objs.size] 0)).push (C7 (c2.s.heap.objs.size+1) (.ref mth))=h2
 have y1:(c2.s.heap.push (Bp l 0)).objs.size=c2.s.heap.objs.size+1:=aE7 ..
 have y2:((c2.s.heap.push (Bp l 0)).push (Ab [.ref c2.s.heap.objs.size] 0)).objs.size=c2.s.heap.objs.size+2:=(aE7 ..).trans (bQ5 aS3 y1)
 have ż:h2.objs.size=c2.s.heap.objs.size+3:=hh2▸(aE7 ..).trans (bQ5 aS3 y2)
 have k2 :∀b o,c2.s.heap.get? b=some o->h2.get? b=some o:=λb o e=>hh2▸aB1 _ (aB1 _ (aB1 _ e))
 have hit:h2.get? c2.s.heap.objs.size=some (Bp l 0):=hh2▸aB1 _ (aB1 _ (aC4 _ rfl))
 have hT:h2.get? (c2.s.heap.objs.size+1)=some (Ab [.ref c2.s.heap.objs.size] 0):=hh2▸aB1 _ (y1▸aC4 _ rfl)
 have hI:h2.get? (c2.s.heap.objs.size+2)=some (C7 (c2.s.heap.objs.size+1) (.ref mth)):=hh2▸y2▸aC4 _ rfl
 refine⟨⟨_,hI,rfl⟩,aA4 ?_⟩
 have lt :∀{a o},c2.s.heap.get? a=some o->a≠c2.s.heap.objs.size:=λ{a o} e=>aE4 (aK2 e)
 have ow :∀{a},((Cy c2.G []).put c2.s.heap.objs.size .lock).own a->a=c2.s.heap.objs.size\/c2.G.own a:=λ{a} e=>(ħ.put_own e).imp id DP.mp
 have D:KD ((Cy c2.G []).put c2.s.heap.objs.size .lock) X.h₀ {c2.s with heap:=h2}:=⟨λa e=>(ow e).elim (λz=>z▸aX1 (GS R2)) (R2.ownB a),λa e=>ż.symm▸(ow e).elim (λz=>z▸aN8 (by decide)) (λe=>aB2 (R2.ownLt a e) (aD5 _ 3)),λb o e=>k2 _ _ (R2.base b o e),ż.symm▸aA2 (GS R2) (aD5 _ 3)⟩
 have nom :∀a,¬ ((Cy c2.G []).put c2.s.heap.objs.size .lock).mt a:=λa z=>z.elim λp z=>(aP7 (a=c2.s.heap.objs.size)).elim (λy=>z.2 (aA3 ((y▸z.1).symm.trans ħ.put_at))) λy=>(LC ((ħ.put_ne y).symm.trans z.1)).elim z.2 λz=>z.elim λi z=>z.elim λx z=>nomatch z.1
 have tall:=Gl.all ht
 refine Jk (s:={c2.s with heap:=h2}) (I:=c2.s.heap.objs.size+2) (T:=c2.s.heap.objs.size+1) (it:=c2.s.heap.objs.size) (l:=l) (mth:=mth) (F.w.mkOk hm) F.A D (A0 ħ.put_at) nom (aO2 (aN8 (by decide))) (aO2 (aC1 _)) (lt ĩ) (lt hmth) hI hT hit (k2 _ _ ĩ) (k2 _ _ hmth) ht
  (ř.shut (λa o e q=>⟨k2 _ _ e,λz=>(ow z).elim (lt e) q⟩) tall.1) hn λacc s' q1 õ q3 ą Ŋ í=>?_
 have kk :∀b o,c2.s.heap.get? b=some o->s'.heap.get? b=some o:=λb o e=>q1 b o (k2 _ _ e) (lt e)
 have ks:c2.s.heap.objs.size<=s'.heap.objs.size:=aA2 (ż.symm▸aD5 _ 3) õ
 have x3:C8 X c2 ⟨c2.G,c2.σ,s'⟩:=R2.more kk ks (λ_ _=>rfl) (λa e=>aB2 (R2.ownLt a e) ks) (λ_ _=>⟨rfl,rfl⟩) (aA6 _) q3 ą rfl rfl λ_ _=>.inl
 refine .to (c':=⟨c2.G,c2.σ,s'⟩) (b:=.lst (EW vss)) (up.trans x3) ⟨_,acc,rfl,Ŋ.elim λcc e=>⟨(cc,none),e⟩,λz=>bQ8 (R2.ownLt _ z) (aR0.mpr (ż.symm▸aD5 _ 3)),?_⟩ hq
 exact í.shut (λa o e q=>⟨e,λz=>q (Mq (Mq (DP.mpr z)))⟩) tall.2
end
def S7(cl:List (Str×aC2))(a:aC2)(p:AR):AR:=AR.rec .lock .lock (λy=>bif cl.lookup y==some a then .cell y else .lock) (λx=>.obj x) (λx=>.dict x) p
def ħ.cmp(G:ħ)(C:aC2)(cl:List (Str×aC2)):ħ:=⟨λa=>bif a==C then some .loc else(G.tag a).map (S7 cl a),G.μ,G.δ⟩
def Hz(o:Option AR)(p:AR):Option AR:=AR.rec (some .loc) o (λy=>some (.cell y)) (λ_=>o) (λ_=>o) p
def ħ.unc(G' G:ħ)(C:aC2):ħ:=⟨λa=>bif a==C then some .lock else aE5 (G'.tag a) (Hz (G'.tag a)) (G.tag a),G'.μ,G'.δ⟩
section
variable{G G':ħ}{C a:aC2}{cl:List (Str×aC2)}{p:AR}
def ZW:(G.cmp C cl).tag C=some .loc:=bQ5 (cond · (some AR.loc) ((G.tag C).map (S7 cl C))) (bR2 C)
def Lz(h:a≠C):(G.cmp C cl).tag a=(G.tag a).map (S7 cl a):=bQ5 (cond · (some AR.loc) ((G.tag a).map (S7 cl a))) (beq_eq_false_iff_ne.mpr h)
def Do(h:a≠C)(e:G.tag a=some p):(G.cmp C cl).tag a=some (S7 cl a p):=(Lz h).trans (bQ5 _ e)
def JW(h:(G.cmp C cl).own a):a=C\/G.own a:=(aP7 (a=C)).imp id λn z=>h ((Lz n).trans (bQ5 _ z))
def RV(h:(G.cmp C cl).mt a):a=C\/G.mt a:=(aP7 (a=C)).imp id λn=>h.elim λq e=>by
 obtain⟨r,e1,e2⟩:=map_some ((Lz n).symm.trans e.1)
 exact⟨r,e1,λz=>e.2 (by subst z;exact e2.symm)⟩
def SM(h:a≠C):(G'.unc G C).tag a=aE5 (G'.tag a) (Hz (G'.tag a)) (G.tag a):=bQ5 (cond · (some AR.lock) (aE5 (motive:=λ_=>Option AR) (G'.tag a) (Hz (G'.tag a)) (G.tag a))) (beq_eq_false_iff_ne.mpr h)
def F8(h:a≠C)(e:G.tag a=some p):(G'.unc G C).tag a=Hz (G'.tag a) p:=(SM h).trans (bQ5 (λo=>aE5 (motive:=λ_=>Option AR) (G'.tag a) (Hz (G'.tag a)) o) e)
def Lj(h:a≠C)(e:G.tag a=none):(G'.unc G C).tag a=G'.tag a:=(SM h).trans (bQ5 (λo=>aE5 (motive:=λ_=>Option AR) (G'.tag a) (Hz (G'.tag a)) o) e)
end
theorem F9.en{X:š}{c:Ĳ}{x:Nat}{o:Ř}(e:Env)(q:F9 X c x o):F9 (X.en e) c x o:=⟨q.lt,q.tag,q.rel⟩
section
variable{X:š}{c:Ĳ}{cl:List (Str×aC2)}{env':Env}
def Ī.enter{h':aF2}{t:Nat}{ρc:List (Str×ű)}(R:Ī X c)(hC:env'.locals=c.s.heap.objs.size)(hcl':env'.cells=cl)(hns:h'.Ns c.s.heap.objs.size (λ_=>none))(kk :∀a o,c.s.heap.get? a=some o->h'.get? a=some o)(sz:c.s.heap.objs.size<h'.objs.size)
  (hcl :∀x a,cl.lookup x=some a->X.env.cells.lookup x=some a) (hcap :∀x,env'.kindOf x=some .cell\/env'.kindOf x=some .free->cl.lookup x=none->False)
  (hρ :∀x av,ρc.lookup x=some av->c.σ.ρ.lookup x=some av/\X.env.kindOf x≠some .local/\env'.kindOf x≠some .local) :
  Ī (X.en env') ⟨c.G.cmp c.s.heap.objs.size cl,⟨ρc,c.σ.H,c.σ.n,c.σ.anc⟩,{c.s with heap:=h',toks:=t}⟩/\ù c.G c.s.heap (c.G.cmp c.s.heap.objs.size cl) h'/\Dl c ⟨c.G.cmp c.s.heap.objs.size cl,⟨ρc,c.σ.H,c.σ.n,c.σ.anc⟩,{c.s with heap:=h',toks:=t}⟩:=by
 have ne :∀{a p},c.G.tag a=some p->a≠c.s.heap.objs.size:=λe=>aE4 (R.ownLt _ (A0 e))
 have kp:ù c.G c.s.heap (c.G.cmp c.s.heap.objs.size cl) h':=⟨λa o e _=>kk a o e,λa h=>(JW h).elim (λz=>.inr (aB7 z.symm)) .inl,λa h=>(RV h).elim (λz=>.inr (aB7 z.symm)) .inl,aG2 sz,λa h=>Do (ne h) h⟩
 have p:Dl c ⟨c.G.cmp c.s.heap.objs.size cl,⟨ρc,c.σ.H,c.σ.n,c.σ.anc⟩,{c.s with heap:=h',toks:=t}⟩:=⟨kp.still,λ_ _=>⟨rfl,rfl⟩,aA6 _⟩
 exact⟨{
  base:=λb o e=>kk _ _ (R.base b o e)
  keep:=λb o e q=>kk _ _ (R.keep b o e q)
  size:=aA2 R.size kp.size
  mutHs:=λa h=>(RV h).elim (λz=>.inr (z▸R.size)) (R.mutHs a)
  ownB:=λa h=>(JW h).elim (λz=>z▸aX1 R.bsz) (R.ownB a)
  ownLt:=λa h=>(JW h).elim (λz=>z▸sz) λh=>bB8 (R.ownLt a h) sz
  gens:=R.gens
  os:=R.os
  loc:=⟨λ_=>none,hC.symm▸hns,λx av e k=>bQ8 k (hρ x av e).2.2⟩
  cel:=λx a e=>(R.cel x a (hcl x a (hcl'▸e))).casesOn λv hv r=>⟨v,hv.imp λo q=>⟨kk _ _ q.1,q.2⟩,λav e1 _=>(r av (hρ x av e1).1 (hρ x av e1).2.1).imp λu q=>⟨q.1,p.v q.2⟩⟩
  celAll:=λx h e=>hcap x h (hcl'▸e)
  tloc:=hC.symm▸ZW
  tcel:=λx a e=>by
   have e:cl.lookup x=some a:=hcl'▸e
   have ht:=R.tcel x a (hcl x a e)
   refine(Do (ne ht) ht).trans (bQ5 some ?_)
   show(bif cl.lookup x==some a then AR.cell x else .lock)=_
   rwa[e];rw[bR2]
   rfl
  obj:=λx o e=>have q:=R.obj x o e;(p.obj (X:=X) (Do (ne q.tag) q.tag) (λo=>kk _ o) (λz=>⟨λo=>kk _ o,Do (ne z) z⟩) q).en env'
  anc:=R.anc
  bsz:=aA2 R.bsz kp.size},kp,p⟩
def Ī.leave{h':aF2}{t:Nat}{cb ci:Ĳ}(Rb:Ī X cb)(R:Ī X c)(kG:ù cb.G cb.s.heap c.G c.s.heap)(Rc:Ī (X.en env') ci)(k:ù cb.G cb.s.heap ci.G ci.s.heap)
  (hlk :∀a,(c.G.cmp c.s.heap.objs.size cl).tag a=some .lock->ci.G.tag a=some .lock) (hkeep :∀a o,cb.s.heap.get? a=some o->(c.G.cmp c.s.heap.objs.size cl).tag a=some .lock->ci.s.heap.get? a=some o) (hC:env'.locals=c.s.heap.objs.size) (hcl':env'.cells=cl)
  (m:ê cb.σ.n cb.G ci.G) (hn:cb.σ.n<=ci.σ.n) (hρ :∀x a,cl.lookup x=some a->∀av,cb.σ.ρ.lookup x=some av->X.env.kindOf x≠some .local->ci.σ.ρ.lookup x=some av/\env'.kindOf x≠some .local) (hsb:aG3 c.s.heap.objs.size ci.s.heap h') :
  C8 X cb ⟨ci.G.unc c.G c.s.heap.objs.size,⟨cb.σ.ρ,ci.σ.H,ci.σ.n,ci.σ.anc⟩,{ci.s with heap:=h',toks:=t}⟩:=by
 have neC :∀{a p},c.G.tag a=some p->a≠c.s.heap.objs.size:=λe=>aE4 (R.ownLt _ (A0 e))
 have tC:ci.G.tag c.s.heap.objs.size=some .loc:=hC▸Rc.tloc
 have nCb :∀{a o},cb.s.heap.get? a=some o->a≠c.s.heap.objs.size:=λe=>aE4 (aB2 (aK2 e) kG.size)
 have kC :∀{a o},a≠c.s.heap.objs.size->ci.s.heap.get? a=some o->h'.get? a=some o:=λha e=>hsb.extBut _ _ ha e
 have tl :∀{a},c.G.tag a=some .loc->ci.G.tag a=some .lock:=λe=>hlk _ (Do (neC e) e)
 have tc0 :∀{a y},c.G.tag a=some (.cell y)->(cl.lookup y==some a)=false->(c.G.cmp c.s.heap.objs.size cl).tag a=some .lock:=λ{a y} e hc=>(Do (neC e) e).trans (bQ5 (λb:Bool=>some (bif b then AR.cell y else .lock)) hc)
 have tc :∀{a y},c.G.tag a=some (.cell y)->ci.G.tag a=some .lock\/ci.G.tag a=some (.cell y):=λ{a y} e=>by
  cases hc:cl.lookup y==some a with
  | true=>exact .inr (Rc.tcel y a (hcl'▸aD3 hc))
  | false=>exact .inl (hlk a (tc0 e hc))
 have own_of :∀{a},(ci.G.unc c.G c.s.heap.objs.size).own a->ci.G.own a:=λ{a} h=>(aP7 (a=c.s.heap.objs.size)).elim (λz=>z▸A0 tC) λn=>by
  cases e:c.G.tag a with
  | none=>exact λz=>h ((Lj n e).trans z)
  | some p=>
   cases p with
   | loc=>exact A0 (tl e)
   | cell y=>exact(tc e).elim A0 A0
   | _=>exact λz=>h ((F8 n e).trans z)
 have mt_of :∀{a},(ci.G.unc c.G c.s.heap.objs.size).mt a->c.G.mt a\/ci.G.mt a:=λ{a} h=>(aP7 (a=c.s.heap.objs.size)).elim (λz=>.inr (z▸Dg tC λz=>nomatch z)) λn=>by
  cases e:c.G.tag a with
  | none=>exact .inr (h.imp λp q=>⟨(Lj n e).symm.trans q.1,q.2⟩)
  | some p=>
   cases p with
   | loc=>exact .inl (Dg e λz=>nomatch z)
   | cell y=>exact .inl (Dg e λz=>nomatch z)
   | _=>exact .inr (h.imp λp q=>⟨(F8 n e).symm.trans q.1,q.2⟩)
 have kp:ù cb.G cb.s.heap (ci.G.unc c.G c.s.heap.objs.size) h':=⟨λa o e q=>kC (nCb e) (k.keep a o e q),λa h=>k.own a (own_of h),λa h=>(mt_of h).elim (kG.mt a) (k.mt a),hsb.1.symm▸k.size,λa h=>have ŝ:=kG.lock a h;(F8 (neC ŝ) ŝ).trans (hlk a (Do (neC ŝ) ŝ))⟩
 have p:Dl cb ⟨ci.G.unc c.G c.s.heap.objs.size,⟨cb.σ.ρ,ci.σ.H,ci.σ.n,ci.σ.anc⟩,{ci.s with heap:=h',toks:=t}⟩:=⟨kp.still,m,hn⟩
 have pi:Dl ci ⟨ci.G.unc c.G c.s.heap.objs.size,⟨cb.σ.ρ,ci.σ.H,ci.σ.n,ci.σ.anc⟩,{ci.s with heap:=h',toks:=t}⟩:=⟨λa o e q=>⟨kC (λz=>q (z▸A0 tC)) e,λz=>q (own_of z)⟩,λ_ _=>⟨rfl,rfl⟩,aA6 _⟩
 have lk :∀{a},(c.G.cmp c.s.heap.objs.size cl).tag a=some .lock->∀o,cb.s.heap.get? a=some o->h'.get? a=some o:=λh o e=>kC (nCb e) (hkeep _ o e h)
 have kt :∀{a q},ci.G.tag a=some q->q≠.lock->¬ Kw q->(ci.G.unc c.G c.s.heap.objs.size).tag a=some q:=λ{a q} e h1 h2=>by
  have n:a≠c.s.heap.objs.size:=λz=>h2 (.inl (aA3 (e.symm.trans (z▸tC))))
  cases e':c.G.tag a with
  | none=>exact(Lj n e').trans e
  | some p=>
   cases p with
   | loc=>exact bQ8 (aA3 (e.symm.trans (tl e'))) h1
   | cell y=>exact(tc e').elim (λz=>bQ8 (aA3 (e.symm.trans z)) h1) λz=>bQ8 (.inr ⟨y,aA3 (e.symm.trans z)⟩) h2
   | _=>exact(F8 n e').trans e
 have nz :∀{a q},ci.G.tag a=some q->¬ Kw q->a≠c.s.heap.objs.size:=λe h z=>h (.inl (aA3 (e.symm.trans (z▸tC))))
 exact⟨kp,p,{
  base:=λb o e=>kC (λz=>by subst z;exact nomatch e.symm.trans (Rc.ownB _ (A0 tC))) (Rc.base b o e)
  keep:=λb o e q=>kC (λz=>bQ8 R.size (bP2.mpr (z▸aK2 e))) (Rc.keep b o e q)
  size:=hsb.1.symm▸Rc.size
  mutHs:=λa h=>(mt_of h).elim (R.mutHs a) (Rc.mutHs a)
  ownB:=λa h=>Rc.ownB a (own_of h)
  ownLt:=λa h=>hsb.1.symm▸Rc.ownLt a (own_of h)
  gens:=Rc.gens
  os:=Rc.os
  loc:=p.loc rfl (lk (Do (neC R.tloc) R.tloc)) Rb.loc
  cel:=λx a e=>by
   have ht:=R.tcel x a e
   cases hc:cl.lookup x==some a with
   | true=>
    have e':=aD3 hc
    exact(Rc.cel x a (hcl'▸e')).casesOn λv hv r=>⟨v,hv.imp λo q=>⟨kC (neC ht) q.1,q.2⟩,λav e1 e2=>have q:=hρ x a e' av e1 e2;(r av q.1 q.2).imp λu q=>⟨q.1,pi.v q.2⟩⟩
   | false=>exact p.cel rfl (lk (tc0 ht hc)) (Rb.cel x a e)
  celAll:=R.celAll
  tloc:=F8 (neC R.tloc) R.tloc
  tcel:=λx a e=>have ht:=R.tcel x a e;F8 (neC ht) ht
  obj:=λx o e=>have q:F9 X ci x o:=(Rc.obj x o e).en X.env;pi.obj (kt q.tag (λz=>nomatch z) Ei) (λo=>kC (nz q.tag Ei)) (λz=>⟨λo=>kC (nz z Dz),kt z (λz=>nomatch z) Dz⟩) q
  anc:=Rc.anc
  bsz:=hsb.1.symm▸Rc.bsz}⟩
end
noncomputable def Ld(ifs:List Expr)(env:Env):Sem Bool:=forIn ifs true λc r=>if r=true then do let ok<-isTrue c env (eval c env);pure (aR2 ok)else pure (aR2 r)
def F0(tg:Expr)(ifs:List Expr)(ip:Pos)(it:Value)(env:Env)(body:Sem Fin)(c:bQ2):Sem Fin:=standAt ip >>= λ_=>aV4 it >>= λr=>match r with
 | none=>pure (.done .next)
 | some v=>aU8 tg it v >>= λ_=>assign tg env v >>= λ_=>Ld ifs env >>= λok=>if ok=true then body else again c
section
variable{elt ç vx tg iter:Expr}{ifs:List Expr}{sc:Scope}{p:Pos}{it acc:Value}{D:aC2}{env:Env}{g:aI7}
noncomputable def T0(elt:Expr)(env:Env)(acc:Value):Sem Unit:=do let _<-call (.builtin "list.append") [acc,<-eval elt env]
def Ol:compTurn (.ListComp elt [⟨tg,iter,ifs,0⟩] sc p) 0 it acc env=F0 tg ifs iter.pos it env (T0 elt env acc >>= λ_=>again (.compLoop (.ListComp elt [⟨tg,iter,ifs,0⟩] sc p) 0 it acc env)) (.compLoop (.ListComp elt [⟨tg,iter,ifs,0⟩] sc p) 0 it acc env):=rfl
variable{prog:aF3}{w:aC9}
def QP:(aC6 prog w).den (.compLoop (.ListComp elt [⟨tg,iter,ifs,0⟩] sc p) 0 it acc env)=(F0 tg ifs iter.pos it env (T0 elt env acc >>= λ_=>again (.compLoop (.ListComp elt [⟨tg,iter,ifs,0⟩] sc p) 0 it acc env)) (.compLoop (.ListComp elt [⟨tg,iter,ifs,0⟩] sc p) 0 it acc env)).onRaise (λx=>do noteFrame x env;theTreesLotGoes x):=by rwa[Ol.symm];rfl
end
section
variable{X:š}{R:bG3->aA5->Prop}{s:aA5}
def LY{tg:Expr}{ifs:List Expr}{ip:Pos}{it:Value}{env:Env}{body:Sem Fin}{c:bQ2}(hq:c.quiet=true)(hu:X.A.under c=X.A)
  (hd:(aC6 X.L.prog X.L.w).den c=(F0 tg ifs ip it env body c).onRaise (λx=>do noteFrame x env;theTreesLotGoes x)) (I:Nat->aA5->Prop)
  (E6 :∀n s,I n s->ė X (aV4 it) (λr s1=>aE5 (R (.ok .next) s1) (λv=>ė X (aU8 tg it v) (λ_ s1=>ė X (assign tg env v) (λ_ s2=>ė X (Ld ifs env) (λok s3=>
     aK3 (∃m,m<n/\I m s3) (ė X body (λfin s5=>fin = .again c/\∃m,m<n/\I m s5) s3) ok) s2) s1) s1) r) s)
  (n:Nat) (h:I n s):aO8 (aC6 X.L.prog X.L.w) X.A c R s:=by
 refine codeAny_loop hq I (λn s hI=>?_) n h
 rwa[hu,hd]
 refine wpAny_noted ?_
 refine aA1 (aM4 (aA1 ((E6 n s hI).any λr s1 h1=>?_)))
 cases r with
 | none=>exact aA4 h1
 | some v=>exact aA1 (ė.any h1 λ_ s1' h1'=>aA1 (ė.any h1' λ_ s2 h2=>aA1 (ė.any h2 λok s3 h3=>by
   cases ok with
   | false=>exact aA4 ⟨rfl,h3⟩
   | true=>exact ė.any h3 λfin s5 h5=>by obtain⟨rfl,h5⟩:=h5;exact⟨rfl,h5⟩)))
end
def VC{env:Env}(names:List (Str×aS7)) :∀(acc:List (Str×aC2)),(∀p∈names,p.2 = .free->∃c,env.cells.lookup p.1=some c)->
  ∃cl:List (Str×aC2),(forIn names acc λ(x:Str×aS7) (r:List (Str×aC2))=>(match x with | (name,kind)=>if(kind==aG6)=true then do let a<-cellOf env name;pure (aR2 ((name,a)::r))else pure (aR2 r):Sem _))=pure cl/\
   (∀x c,cl.lookup x=some c->acc.lookup x=some c\/(x,aG6)∈names/\env.cells.lookup x=some c)/\∀x,(x,aG6)∈names\/acc.lookup x≠none->cl.lookup x≠none:=
 aB4 (motive:=λnames=>∀(acc:List (Str×aC2)),(∀p∈names,p.2 = .free->∃c,env.cells.lookup p.1=some c)->
  ∃cl:List (Str×aC2),(forIn names acc λ(x:Str×aS7) (r:List (Str×aC2))=>(match x with | (name,kind)=>if(kind==aG6)=true then do let a<-cellOf env name;pure (aR2 ((name,a)::r))else pure (aR2 r):Sem _))=pure cl/\
   (∀x c,cl.lookup x=some c->acc.lookup x=some c\/(x,aG6)∈names/\env.cells.lookup x=some c)/\∀x,(x,aG6)∈names\/acc.lookup x≠none->cl.lookup x≠none)
  (λacc _=>⟨acc,rfl,λx c e=>.inl e,λx h=>h.elim (λz=>nomatch z) id⟩) (λp r ih acc h=>by
   obtain⟨n,k⟩:=p
   rw[List.forIn_cons]
   have step :∀acc',(∀x c,acc'.lookup x=some c->acc.lookup x=some c\/(x,aG6)∈(n,k)::r/\env.cells.lookup x=some c)->(∀x,x=n/\k = .free\/acc.lookup x≠none->acc'.lookup x≠none)->∀{t:Sem (List (Str×aC2))},(t=forIn r acc' λ(x:Str×aS7) (r:List (Str×aC2))=>(match x with | (name,kind)=>if(kind==aG6)=true then do let a<-cellOf env name;pure (aR2 ((name,a)::r))else pure (aR2 r):Sem _))->∃cl:List (Str×aC2),t=pure cl/\(∀x c,cl.lookup x=some c->acc.lookup x=some c\/(x,aG6)∈(n,k)::r/\env.cells.lookup x=some c)/\∀x,(x,aG6)∈(n,k)::r\/acc.lookup x≠none->cl.lookup x≠none:=λacc' h1 h2 t ht=>
    (ih acc' λp hp=>h p (aC7 _ hp)).imp λcl q=>⟨ht.trans q.1,λx c e=>(q.2.1 x c e).elim (h1 x c) λz=>.inr ⟨aC7 _ z.1,z.2⟩,λx z=>q.2.2 x (z.elim (λz=>(aF4.mp z).elim (λe=>.inr (h2 x (.inl (by cases e;exact⟨rfl,rfl⟩)))) .inl) λz=>.inr (h2 x (.inr z)))⟩
   cases hk:k==aG6 with
   | false=>exact step acc (λx c=>.inl) (λx z=>z.elim (λz=>bQ8 (beq_iff_eq.mpr z.2) (aQ1.mp hk)) id) (by dsimp only;rwa[hk];rfl)
   | true=>
    have hk':=aD3 hk
    obtain⟨c,hc⟩:=h (n,k) (aC0 ..) hk'
    have e1 :∀x,bK6 x ((n,c)::acc)=bif x==n then some c else acc.lookup x:=λx=>AQ x (n,c) acc
    refine step ((n,c)::acc) (λx c' e=>?_) (λx z=>?_) (by dsimp only;rwa[hk,bQ6 rfl];unfold cellOf;rwa[hc];rfl)
    ·rw[e1]at e
     cases hx:x==n with
     | true=>rw[hx]at e;exact .inr ⟨by rwa[aD3 hx,hk'];exact aC0 ..,by rwa[aD3 hx];exact hc.trans e⟩
     | false=>rw[hx]at e;exact .inl e
    ·rw[e1]
     cases hx:x==n with
     | true=>exact λz=>nomatch z
     | false=>exact z.elim (λz=>bQ8 z.1 (ne_of_beq_false hx)) id) names
def V5{env:Env}{cs:Scope}(h :∀p∈cs.names,p.2 = .free->∃c,env.cells.lookup p.1=some c) :∃cl:List (Str×aC2),closureFor cs env=pure cl/\(∀x c,cl.lookup x=some c->(x,aG6)∈cs.names/\env.cells.lookup x=some c)/\∀x,(x,aG6)∈cs.names->cl.lookup x≠none:=
 (VC cs.names [] h).imp λcl q=>⟨(bQ5 (λt:Sem (List (Str×aC2))=>t >>= λr=>pure r) q.1).trans rfl,λx c e=>(q.2.1 x c e).elim (λz=>nomatch z) id,λx z=>q.2.2 x (.inl z)⟩
def Jw{α:Type}{b:Bool}{o:Option α}{a:α}(e:(bif b then o else none)=some a):b=true/\o=some a:=by
 cases b with
 | true=>exact⟨rfl,e⟩
 | false=>exact AA e
section
variable{X:š}{P:Ť}{d:Nat}{fN st fM cm fI:aC2}{sc:Scope}{W:ĭ}(F:Em X P d fN st fM cm fI sc)(S:LO X W)
def I1{i:Expr}{b:Ŕ}(e:Se P sc i=some b){R:Expr->List Expr->Prop}(f :∀x px as p,Af x=true->Bd as=true->sc.names.lookup x=some .globalImplicit->P.gl x=some (.fn b)->R (.Call (.Name x px) as [] p) as):R i (A4 i).2.1:=by
 obtain⟨hc,e⟩:=Jw e
 obtain⟨hc,ĸ⟩:=AH hc
 obtain⟨hc,h4⟩:=AH hc
 obtain⟨hc,h3⟩:=AH hc
 obtain⟨h1,h2⟩:=AH hc
 obtain⟨k,e1,e⟩:=bind_some e
 obtain⟨e2,e⟩:=Jw e
 obtain⟨v,e3,e4⟩:=bind_some e
 have e5:P.gl (Ap (A4 i).1)=some (.fn b):=GI (P:=λv=>P.gl (Ap (A4 i).1)=some v->P.gl (Ap (A4 i).1)=some (.fn b)) e4 id e3
 have e6:sc.names.lookup (Ap (A4 i).1)=some .globalImplicit:=aS7.globalImplicit.elim (motive:=λk=>sc.names.lookup (Ap (A4 i).1)=some k->sc.names.lookup (Ap (A4 i).1)=some .globalImplicit) k (aB8 e2) id e1
 clear e1 e2 e3 e4 e hc
 refine Expr.Call.elim (motive_1:=λi=>ix (A4 i).1 23=true->EF (A4 i).2.2.1=true->Bd (A4 i).2.1=true->Af (Ap (A4 i).1)=true->P.gl (Ap (A4 i).1)=some (.fn b)->sc.names.lookup (Ap (A4 i).1)=some .globalImplicit->R i (A4 i).2.1) i (aB8 h1) (λg as ks p h2 h3 h4 ĸ e5 e6=>?_) h2 h3 h4 ĸ e5 e6
 refine Cz (P:=λks=>R (.Call g as ks p) as) h3 ?_
 exact Expr.Name.elim (motive_1:=λg=>Af (Ap g)=true->P.gl (Ap g)=some (.fn b)->sc.names.lookup (Ap g)=some .globalImplicit->R (.Call g as [] p) as) g (aB8 h2) (λx px ĸ e5 e6=>f x px as p ĸ h4 e6 e5) ĸ e5 e6
include F S
theorem Mn{t i:Expr}{σ:St}{K:List ű->St->Prop}(h:Fv P sc W t i σ K){G:ħ}{s:aA5}(R:Ī X ⟨G,σ,s⟩):ė X (eval i X.env) (λv s1=>ė X (aS8 v) (λiv s2=>CM X t ⟨G,σ,s⟩ K iv s2) s1) s:=by
 have plain:Yz W i σ K->ė X (eval i X.env) (λv s1=>ė X (aS8 v) (λiv s2=>CM X t ⟨G,σ,s⟩ K iv s2) s1) s:=λh=>(S.E i σ _ h).go (c:=⟨G,σ,s⟩) R λv c1 vv h₁ x1 r1=>
  AB h₁ λvs e h=>(bP F.A.1 e h.1 h.2 t x1.R r1).mono λ_ _ q=>q.up x1
 refine BF h plain λb e h=>?_
 cases h1:aE6 b.ctorIdx 1 with
 | true=>
  rw[h1]at h
  obtain rfl:b = .range:=Ŕ.range.elim (motive:=λb=>b = .range) b (aB8 h1) rfl
  exact I1 e (R:=λi as=>TN W.E as σ (λvs σ=>Mb vs σ K)->ė X (eval i X.env) (λv s1=>ė X (aS8 v) (λiv s2=>CM X t ⟨G,σ,s⟩ K iv s2) s1) s) (λx px as p n1 n2 n3 n4 h=>NZ F (c:=⟨G,σ,s⟩) n1 n3 n4 n2 R ((IV S as h).go (c:=⟨G,σ,s⟩) R λvs c1 us h₁ x1 r1=>(VE F.A.1 h₁.2 t x1.R r1).mono λ_ _ q=>q.mono λ_ _ q=>q.up x1)) h
 | false=>
  rw[h1]at h
  cases h3:aE6 b.ctorIdx 3 with
  | true=>
   rw[h3]at h
   obtain rfl:b = .enumerate:=Ŕ.enumerate.elim (motive:=λb=>b = .enumerate) b (aB8 h3) rfl
   exact I1 e (R:=λi as=>TN W.E as σ (λvs σ=>S4 t vs σ K)->ė X (eval i X.env) (λv s1=>ė X (aS8 v) (λiv s2=>CM X t ⟨G,σ,s⟩ K iv s2) s1) s) (λx px as p n1 n2 n3 n4 h=>NZ F (c:=⟨G,σ,s⟩) n1 n3 n4 n2 R ((IV S as h).go (c:=⟨G,σ,s⟩) R λvs c1 us h₁ x1 r1=>(YK F.A.1 h₁.2 x1.R r1).mono λ_ _ q=>q.mono λ_ _ q=>q.up x1)) h
  | false=>rw[h3]at h;exact plain h
end
def NT{k k':aS7}:aE6 k.ctorIdx k'.ctorIdx=true->k=k':=by
 cases k<;>cases k'<;>first | exact λ_=>rfl | exact λh=>nomatch h
def Io{o:Option aS7}(k':aS7)(h:isK o k'.ctorIdx=true):o=some k':=by
 cases o with
 | none=>cases h
 | some k=>exact bQ5 some (NT h)
def HM{α:Type}{x:Str}{k:α}{l:List (Str×α)}:l.lookup x=some k->(x,k)∈l:=
 aB4 (motive:=λl=>l.lookup x=some k->(x,k)∈l) AA (λp r ih e=>by
  rw[AQ]at e
  cases h:x==p.1 with
  | true=>rw[h]at e;rwa[aD3 h,(aA3 e).symm];exact aC0 ..
  | false=>rw[h]at e;exact aC7 _ (ih e)) l
def Pf{sc cs:Scope}{ps:List (Str×aS7)}:Ir sc cs ps=true->∀p∈ps,p.2≠.cell/\(p.2 = .local->cs.names.lookup p.1=some .local)/\(p.2 = .free->cs.names.lookup p.1=some .free/\(sc.names.lookup p.1=some .cell\/sc.names.lookup p.1=some .free)):=
 aB4 (motive:=λps=>Ir sc cs ps=true->∀p∈ps,p.2≠.cell/\(p.2 = .local->cs.names.lookup p.1=some .local)/\(p.2 = .free->cs.names.lookup p.1=some .free/\(sc.names.lookup p.1=some .cell\/sc.names.lookup p.1=some .free)))
  (λ_ p hp=>nomatch hp) (λp r ih h q hq=>(aF4.mp hq).elim (λz=>by
   subst z
   have h:=(AH h).1
   obtain⟨n,k⟩:=q
   cases k with
   | «local»=>exact⟨λz=>(nomatch z),λ_=>Io .local h,λz=>nomatch z⟩
   | cell=>cases h
   | free=>exact⟨λz=>(nomatch z),λz=>(nomatch z),λ_=>⟨Io .free (AH h).1,(Bool.or_eq_true_iff.mp (AH h).2).imp (Io .cell) (Io .free)⟩⟩
   | _=>exact⟨λz=>(nomatch z),λz=>(nomatch z),λz=>nomatch z⟩) λz=>ih (AH h).2 q z) ps
def Eg{sc:Scope}{names:List (Str×aS7)}{x:Str}{k:aS7}:(names.map λ(n,k)=>if(k==aG6&&sc.kind == .function&&sc.names.lookup n==some .cell)then(n,aV1)else(n,k)).lookup x=some k->names.lookup x=some k\/k = .cell/\names.lookup x=some .free:=
 aB4 (motive:=λnames=>(names.map λ(n,k)=>if(k==aG6&&sc.kind == .function&&sc.names.lookup n==some .cell)then(n,aV1)else(n,k)).lookup x=some k->names.lookup x=some k\/k = .cell/\names.lookup x=some .free) .inl (λp r ih e=>by
  obtain⟨n,j⟩:=p
  rw[aR7]at e
  have go :∀j',(j'=j\/j' = .cell/\j = .free)->((n,j')::(r.map λ(n,k)=>if(k==aG6&&sc.kind == .function&&sc.names.lookup n==some .cell)then(n,aV1)else(n,k))).lookup x=some k->bK6 x ((n,j)::r)=some k\/k = .cell/\bK6 x ((n,j)::r)=some .free:=λj' hj e=>by
   rw[AQ]at e
   rw[AQ]
   cases h:x==n with
   | true=>
    rw[h]at e
    have e:some j'=some k:=e
    exact hj.imp (λz=>bQ5 some (z.symm.trans (aA3 e))) λz=>⟨(aA3 e).symm.trans z.1,bQ5 some z.2⟩
   | false=>rw[h]at e;exact ih e
  cases hc:(j==aG6&&sc.kind == .function&&sc.names.lookup n==some .cell)with
  | true=>exact go .cell (.inr ⟨rfl,aD3 (AH (AH hc).1).1⟩) (by dsimp only at e;rw[hc]at e;exact e)
  | false=>exact go j (.inl rfl) (by dsimp only at e;rw[hc]at e;exact e)) names
def UC{ρ:List (Str×ű)}{x:Str}{v:ű}{xs:List Str}:(pick ρ xs).lookup x=some v->x∈xs/\ρ.lookup x=some v:=
 aB4 (motive:=λxs=>(pick ρ xs).lookup x=some v->x∈xs/\ρ.lookup x=some v) AA (λy r ih e=>by
  have e:bK6 x (aE5 (pick ρ r) (λv=>(y,v)::pick ρ r) (ρ.lookup y))=some v:=e
  have mo:x∈r/\ρ.lookup x=some v->x∈y::r/\ρ.lookup x=some v:=λq=>⟨aC7 _ q.1,q.2⟩
  cases h:ρ.lookup y with
  | none=>rw[h]at e;exact mo (ih e)
  | some u=>
   rw[h]at e
   have e:=(AQ x (y,u) _).symm.trans e
   cases hx:x==y with
   | true=>rw[hx]at e;rwa[aD3 hx];exact⟨aC0 ..,h.trans e⟩
   | false=>rw[hx]at e;exact mo (ih e)) xs
def IE{x:Str}{ns:List (Str×aS7)}:(x,aG6)∈ns↔x∈(aB4 [] (λp _ ih=>bif aE6 p.2.ctorIdx 2 then p.1::ih else ih) ns:List Str):=
 aB4 (motive:=λns=>(x,aG6)∈ns↔x∈(aB4 [] (λp _ ih=>bif aE6 p.2.ctorIdx 2 then p.1::ih else ih) ns:List Str)) ⟨λh=>(nomatch h),λh=>(nomatch h)⟩ (λp r ih=>by
  obtain⟨n,k⟩:=p
  show _↔x∈(bif aE6 k.ctorIdx aG6.ctorIdx then n::_ else _)
  cases h:aE6 k.ctorIdx aG6.ctorIdx with
  | true=>rwa[NT h];exact⟨λz=>(aF4.mp z).elim (λz=>by cases z;exact aC0 ..) λz=>aC7 _ (ih.mp z),λz=>(aF4.mp z).elim (λz=>by rwa[z];exact aC0 ..) λz=>aC7 _ (ih.mpr z)⟩
  | false=>exact⟨λz=>(aF4.mp z).elim (λz=>by cases z;cases h) ih.mp,λz=>aC7 _ (ih.mpr z)⟩) ns
def OZ{τ σ:St}{x:Str}{xs:List Str}:Ib τ σ xs->x∈xs->τ.ρ.lookup x=σ.ρ.lookup x:=
 aB4 (motive:=λxs=>Ib τ σ xs->x∈xs->τ.ρ.lookup x=σ.ρ.lookup x) (λ_ h=>nomatch h) (λy r ih h q=>(aF4.mp q).elim (λz=>z▸h.1) (ih h.2)) xs
def Em.comp{X:š}{P:Ť}{d:Nat}{fN st fM cm fI:aC2}{sc cs:Scope}{cl:List (Str×aC2)}{C:aC2}(F:Em X P d fN st fM cm fI sc)(h:cs.kind = .function):Em (X.en (compEnvC cs cl C X.env)) P d fN st fM cm fI (Et cs sc):=
 ⟨F.w,F.A,F.glb,F.bui,F.hsc▸rfl,h⟩
inductive t3(X:š)(c c₃:Ĳ)(env':Env)(cl:List (Str×aC2))(N:Nat)(J:Nat->St->Prop)(It:Nat->ħ->aF2->Prop)(m:Nat)(s':aA5):Prop
 | mk (i:Nat) (G:ħ) (σ:St) (hi:i+m=N) (R:Ī (X.en env') ⟨G,σ,s'⟩) (j:J i σ) (st:It i G s'.heap) (k:ù c.G c.s.heap G s'.heap) (nm:ê c₃.σ.n c₃.G G) (n:c₃.σ.n<=σ.n)
  (lk :∀a,(c₃.G.cmp c₃.s.heap.objs.size cl).tag a=some .lock->G.tag a=some .lock) (kp :∀a o,c.s.heap.get? a=some o->(c₃.G.cmp c₃.s.heap.objs.size cl).tag a=some .lock->s'.heap.get? a=some o)
def C8.letC{X:š}{c c':Ĳ}{C:aC2}(x:C8 X c c')(t:c'.G.tag C=some .lock)(h1:X.hs.objs.size<=C)(h2:c.s.heap.objs.size<=C){h':aF2}(hb:aG3 C c'.s.heap h'):C8 X c (c'.hp c'.σ h' c'.s.toks)/\Dl c' (c'.hp c'.σ h' c'.s.toks):=by
 have k :∀a o,a∉[C]->c'.s.heap.get? a=some o->h'.get? a=some o:=λa o n e=>hb.extBut a o (Pe n) e
 have q:=x.R.lockAt (t:=c'.s.toks) (wr:=[C]) (λb hb=>aA7.mp hb▸⟨t,h1⟩) k (aB7 hb.1.symm)
 exact⟨⟨⟨λa o e z=>k a o (λhm=>Cs e (aA7.mp hm▸h2)) (x.kp.keep a o e z),x.kp.own,x.kp.mt,hb.1.symm▸x.kp.size,x.kp.lock⟩,x.pre.trans q.1,q.2⟩,q.1⟩
def ZU{X:š}{W:ĭ}(S:LO X W){ifs:List Expr}{c:Ĳ}{K:Bool->St->Prop}(h:Vm W.B ifs c.σ K)(R:Ī X c):ė X (Ld ifs X.env) (AX X KW c K) c.s:=by
 cases ifs with
 | nil=>exact wpAny_tests_nil (.here (b:=true) R rfl h)
 | cons e r=>
  cases r with
  | nil=>exact wpAny_tests_one (S.B e c.σ K h c.G c.s R)
  | cons=>exact h.elim
section
variable{X:š}{P:Ť}{d:Nat}{fN st fM cm fI:aC2}{sc:Scope}{Wc:Scope->ĭ}(F:Em X P d fN st fM cm fI sc)(H :∀X' sc',Em X' P d fN st fM cm fI sc'->LO X' (Wc sc'))
include F H
theorem iK{e:Expr}{tg iter:Expr}{ifs:List Expr}{asy:Int}{r:List aI7}{cs:Scope}{p:Pos}{o:Ř}{Ĵ:Obj}{newAcc:Sem Value}{rest:Nat->St->(St->Prop)->Prop}{bodyF:Env->Value->Value->Sem Fin}
  {σ:St} {Q:ű->St->Prop} {Qf:Value->aA5->Prop} {use:Option (Value->Sem Unit)} {G:ħ} {s:aA5}
  (h:Dj (MS sc cs ⟨tg,iter,ifs,asy⟩) (Fv P sc (Wc sc) tg iter σ λitems σ=>Cq o items (FN (Wc (Et cs sc)) ⟨tg,iter,ifs,asy⟩ (rest σ.n)) (CP cs) σ Q)) (R:Ī X ⟨G,σ,s⟩)
  (hcl:clausesOf e=⟨tg,iter,ifs,asy⟩::r)
  (hnew :∀{Q:Value->aA5->Prop} {s:aA5},Q (.ref s.heap.objs.size) {s with heap:=s.heap.push Ĵ}->ė X newAcc Q s)
  (hal :∀c,Ī X c->C8 X c (c.add o Ĵ c.s.toks))
  (hq :∀env it acc,(bQ2.compLoop e 0 it acc env).quiet=true/\X.A.under (.compLoop e 0 it acc env)=X.A)
  (hd:asy=0->∀env it D,(aC6 X.L.prog X.L.w).den (.compLoop e 0 it (.ref D) env)=(F0 tg ifs iter.pos it env (bodyF env it (.ref D)) (.compLoop e 0 it (.ref D) env)).onRaise (λx=>do noteFrame x env;theTreesLotGoes x))
  (hst:asy=0->∀{env it acc} {R:bG3->aA5->Prop} {s:aA5},aO8 (aC6 X.L.prog X.L.w) X.A (.compLoop e 0 it acc env) R s->ė X (aS8 it) (λit' s'=>aO8 (aC6 X.L.prog X.L.w) X.A (.compLoop e 0 it' acc env) R s') s->aO8 (aC6 X.L.prog X.L.w) X.A (.compStart e 0 it acc env) R s)
  (hb :∀cl C it (c':Ĳ) n D K,cs.kind = .function->rest n c'.σ K->Ī (X.en (compEnvC cs cl C X.env)) c'->c'.G.μ n=D->n<c'.σ.n->ė (X.en (compEnvC cs cl C X.env)) (bodyF (compEnvC cs cl C X.env) it (.ref D)) (λfin s5=>fin = .again (.compLoop e 0 it (.ref D) (compEnvC cs cl C X.env))/\AX (X.en (compEnvC cs cl C X.env)) (α:=Unit) (β:=Unit) JB c' (λ_=>K) () s5) c'.s)
  (fin :∀c a v C mc,C8 X ⟨G,σ,s⟩ c->Š X c a v->Q a c.σ->c.G.tag C=some .lock->X.hs.objs.size<=C->s.heap.objs.size<=C->c.s.heap.Ns C mc->compPost (aC6 X.L.prog X.L.w) X.A (λ_ _=>False) use Qf v C (.ok .next) c.s) :
  ė X (comprehension e cs X.env p newAcc false (eval iter X.env) use) Qf s:=by
 obtain⟨hc,h⟩:=A3 h
 obtain⟨hc,c5⟩:=AH hc
 obtain⟨hc,c3⟩:=AH hc
 obtain⟨c1,c2⟩:=AH hc
 obtain rfl:asy=0:=aD3 c5
 have hk:cs.kind = .function:=aD3 c1
 have hn:=Pf c2
 have hset :∀x,foldedSetIterable iter X.env x=pure x:=by
  clear h hd hb hst
  have c3:=Dv c3
  cases iter with
  | Set=>cases c3
  | _=>exact λ_=>rfl
 have hko:=DY F
 have hcells :∀q∈cs.names,q.2 = .free->∃c,X.env.cells.lookup q.1=some c:=λq hq e=>by
  cases hl:X.env.cells.lookup q.1 with
  | some c=>exact⟨c,rfl⟩
  | none=>exact(R.celAll q.1 (hko q.1▸((hn q hq).2.2 e).2) hl).elim
 obtain⟨cl,e1,e2,e3⟩:=V5 hcells
 refine wpAny_comprehension_free (use:=use) hcl hset e1 hk (λq hq=>(hn q hq).2.1) ((Mn F (H X sc F) h R).mono λv s1 h₁=>ė.mono h₁ λit s2 hit=>?_)
 cases hit with
 | mk c₁ x I wr items It G2 e okA self st0 hwr y up hcl=>
 subst e
 obtain⟨J,j0,jt,je⟩:=hcl
 refine hnew ?_
 have x3:C8 X ⟨G2,c₁.σ,s2⟩ (Ĳ.add ⟨G2,c₁.σ,s2⟩ o Ĵ s2.toks):=hal _ y.R
 generalize hc3:Ĳ.add ⟨G2,c₁.σ,s2⟩ o Ĵ s2.toks=c₃ at x3
 have hs3:({s2 with heap:=s2.heap.push Ĵ}:aA5)=c₃.s:=hc3▸rfl
 have hn3:c₃.σ.n=c₁.σ.n+1:=hc3▸rfl
 have hm3:c₃.G.μ c₁.σ.n=s2.heap.objs.size:=hc3▸ħ.name_mu
 have hσ3:c₃.σ=c₁.σ.new o:=hc3▸rfl
 have up3 :∀a o,s2.heap.get? a=some o->c₃.s.heap.get? a=some o:=λa o e=>hc3▸aB1 _ e
 show aC8 _ _ _ _ _ {s2 with heap:=s2.heap.push Ĵ}
 rwa[hs3]
 refine wpAny_newFunctionEnv (λq hq=>(hn q hq).1) (λ_ h=>nomatch h) (λh' hns hsb=>?_) hk
 have kk :∀a o,c₃.s.heap.get? a=some o->h'.get? a=some o:=λa o e=>hsb.extBut a o (aE4 (aK2 e)) (aB1 _ e)
 have sz:c₃.s.heap.objs.size<h'.objs.size:=hsb.1.symm▸aE7 ..▸aC1 _
 have hkl :∀x,(compEnvC cs cl c₃.s.heap.objs.size X.env).kindOf x=(Et cs sc).names.lookup x:=λx=>F.hsc▸rfl
 have hcf :∀x,(x,aG6)∈cs.names->(compEnvC cs cl c₃.s.heap.objs.size X.env).kindOf x≠some .local/\X.env.kindOf x≠some .local:=λx hx=>by
  have q:=(hn _ hx).2.2 rfl
  exact⟨λz=>(Eg ((hkl x).symm.trans z)).elim (λz=>nomatch z.symm.trans q.1) (λz=>nomatch z.1),λz=>q.2.elim (λw=>nomatch w.symm.trans ((hko x).symm.trans z)) λw=>nomatch w.symm.trans ((hko x).symm.trans z)⟩
 obtain⟨R4,k4,p4⟩:=x3.R.enter (env':=compEnvC cs cl c₃.s.heap.objs.size X.env) (cl:=cl) (t:=c₃.s.toks) (ρc:=pick c₁.σ.ρ (CP cs)) rfl rfl hns kk sz (λx a e=>(e2 x a e).2) (λx hx hl=>by
  have:(x,aG6)∈cs.names:=hx.elim (λz=>(Eg ((hkl x).symm.trans z)).elim (λz=>bQ8 rfl (hn _ (HM z)).1) λz=>HM z.2) λz=>(Eg ((hkl x).symm.trans z)).elim HM λz=>nomatch z.1
  exact e3 x this hl) (λx av e=>have q:=UC e;have z:=hcf x (IE.mpr q.1);⟨hσ3▸q.2,z.2,z.1⟩)
 have yk:=y.kp.trans x3.kp
 have okC:=okA (compEnvC cs cl c₃.s.heap.objs.size X.env)
 have SC:=H _ _ (F.comp (cl:=cl) (C:=c₃.s.heap.objs.size) hk)
 have loop:aO8 (aC6 X.L.prog X.L.w) X.A (.compLoop e 0 (.ref I) (.ref s2.heap.objs.size) (compEnvC cs cl c₃.s.heap.objs.size X.env))
   (compPost (aC6 X.L.prog X.L.w) X.A (λ_ _=>False) use Qf (.ref s2.heap.objs.size) c₃.s.heap.objs.size) {c₃.s with heap:=h',toks:=c₃.s.toks}:=by
  refine LY (hq _ _ _).1 (hq _ _ _).2 (hd rfl _ _ _) (t3 X c₁ c₃ (compEnvC cs cl c₃.s.heap.objs.size X.env) cl items.length J It) (λm s' hI=>?_) items.length
   ⟨0,_,_,aH9 _,R4,hσ3▸j0,(okA X.env).frame _ _ _ _ _ ((okA X.env).frame _ _ _ _ _ st0 x3.kp) k4,yk.trans k4,λ_ _=>⟨rfl,rfl⟩,aA6 _,λ_ e=>e,λa o e _=>kk a o (up3 a o (up a o e))⟩
  cases hI with
  | mk i G' σ' hi R' hj hst k nm hn' lk kp=>
  have nw :∀{a o},c₁.s.heap.get? a=some o->a∉wr:=λe hm=>Cs e (hwr _ hm)
  have stepK :∀{s'':aA5},kW wr s'.heap s''.heap->ù c₁.G c₁.s.heap G' s''.heap:=λhs=>⟨λa o e q=>hs.1 a o (nw e) (k.keep a o e q),k.own,k.mt,aA2 k.size hs.2,k.lock⟩
  have hlt:c₁.σ.n<σ'.n:=aB2 (aB7 hn3.symm) hn'
  cases m with
  | zero=>
   obtain rfl:i=items.length:=hi
   refine ė.mono (X:=X) (okC.done ⟨G',σ',s'⟩ R' hst) λr s5 hr=>?_
   obtain⟨rfl,R5,hs⟩:=hr
   refine R5.loc.casesOn λmc hmc _=>?_
   have q:=je σ' hj
   have nm1:ê c₁.σ.n c₁.G G':=λz hz=>have w:=nm z (hn3.symm▸aI1 hz);have ú:=(y.pre.trans x3.pre).nm z hz;⟨w.1.trans ú.1,w.2.trans ú.2⟩
   have lv:=Ī.leave (X:=X) (c:=c₃) (cb:=c₁) (ci:=⟨G',σ',s5⟩) (cl:=cl) (t:=s5.toks) x.R x3.R yk R5 (stepK hs) lk (λa o e z=>hs.1 a o (nw e) (kp a o e z)) rfl rfl nm1 (aG2 hlt) (λx a e av h1 h2=>have z:=(e2 x a e).1;⟨(OZ q.1 (IE.mp z)).trans h1,(hcf x z).1⟩) ⟨rfl,λ_ _=>rfl⟩
   exact fin _ (.ref c₁.σ.n) _ c₃.s.heap.objs.size mc (x.trans lv) (And.intro (bQ5 _ (hm3.symm.trans (nm c₁.σ.n (hn3.symm▸aC1 _)).1.symm)) hlt) q.2 (bQ5 (cond · (some AR.lock) _) (bR2 _)) x3.R.size (aA2 x.kp.size yk.size) hmc
  | succ m=>
   refine ė.mono (X:=X) (okC.item i ⟨G',σ',s'⟩ R' (hi▸aN8 (bB4 m)) hst) λr s3 hr=>?_
   obtain⟨u,rfl,hgo⟩:=hr
   refine ė.mono (X:=X) hgo λ_ s4 hx=>?_
   cases hx with
   | mk av hav hvr R4' st4 hs=>
   have turned :∀c7:Ĳ,C8 (X.en (compEnvC cs cl c₃.s.heap.objs.size X.env)) ⟨G',σ',s4⟩ c7->J (i+1) c7.σ->∃m',m'<m+1/\t3 X c₁ c₃ (compEnvC cs cl c₃.s.heap.objs.size X.env) cl items.length J It m' c7.s:=λc7 z q7=>
    ⟨m,aC1 m,i+1,c7.G,c7.σ,(aL1 i 1 m).trans hi,z.R,q7,(okA X.env).frame _ _ _ _ _ st4 z.kp,(stepK hs).trans z.kp,λw hw=>have a:=z.pre.nm w (aB2 hw hn');have b:=nm w hw;⟨a.1.trans b.1,a.2.trans b.2⟩,aA2 hn' z.pre.n,λa e=>z.kp.lock a (lk a e),λa o e q=>z.kp.lk (lk a q) o (hs.1 a o (nw e) (kp a o e q))⟩
   refine ė.mono (X:=X) (SC.A tg av ⟨G',σ',s4⟩ _ (jt i av σ' hav hj) R4' hvr) λ_ s5 q=>?_
   cases q with
   | mk G5 σ5 _ x5 _ q5=>
   refine ė.mono (X:=X) (ZU SC (c:=⟨G5,σ5,s5⟩) q5 x5.R) λb s6 q=>?_
   cases q with
   | mk G6 σ6 b' x6 e6 q6=>
   cases e6
   have x56:=x5.trans x6
   cases b with
   | false=>exact turned ⟨G6,σ6,s6⟩ x56 q6
   | true=>
    have hμ:G6.μ c₁.σ.n=s2.heap.objs.size:=(x56.pre.nm c₁.σ.n hlt).1.trans ((nm c₁.σ.n (hn3.symm▸aC1 _)).1.trans hm3)
    refine ė.mono (X:=X) (hb cl c₃.s.heap.objs.size (.ref I) ⟨G6,σ6,s6⟩ c₁.σ.n _ _ hk q6 x6.R hμ (aB2 hlt x56.pre.n)) λfin s7 q=>?_
    obtain⟨e7,q⟩:=q
    cases q with
    | mk G7 σ7 _ x7 _ q7=>exact⟨e7,turned ⟨G7,σ7,s7⟩ (x56.trans x7) q7⟩
 exact hst rfl loop (ė.any (self 0 _ {c₃.s with heap:=h',toks:=c₃.s.toks} (λv s'=>v = .ref I/\s' = {c₃.s with heap:=h',toks:=c₃.s.toks}) ((okA X.env).frame _ _ _ _ _ ((okA X.env).frame _ _ _ _ _ st0 x3.kp) k4) ⟨rfl,rfl⟩) λv s' q=>by obtain⟨rfl,rfl⟩:=q;exact loop)
end
abbrev Qt(X:š)(c':Ĳ)(K:St->Prop)(c:bQ2):Fin->aA5->Prop:=λfin s5=>fin = .again c/\AX X (α:=Unit) (β:=Unit) JB c' (λ_=>K) () s5
section
variable{X:š}{W:ĭ}(S:LO X W){n:Nat}{D:aC2}{c':Ĳ}{K:St->Prop}{c:bQ2}
include S
theorem dR{elt:Expr}(h:bV elt W n c'.σ K)(R:Ī X c')(hμ:c'.G.μ n=D)(hlt:n<c'.σ.n):ė X (T0 elt X.env (.ref D) >>= λ_=>again c) (Qt X c' K c) c'.s:=by
 refine ė.bind (ė.bind ((S.E elt c'.σ _ h).go R λu c6 vu h6 x6 r6=>?_))
 have hμ':c6.G.μ n=D:=(x6.pre.nm n hlt).1.trans hμ
 refine ė.bind (ė.mono (Ly (b:=.append) h6 x6.R (vas:=[.ref D,vu]) ⟨_,_,rfl,⟨bQ5 _ hμ'.symm,aB2 hlt x6.pre.n⟩,_,_,rfl,r6,rfl⟩) λ_ s7 q=>?_)
 cases q with
 | mk G7 σ7 _ x7 _ q7=>exact ė.pure (ė.pure ⟨rfl,.to (c':=⟨G7,σ7,s7⟩) (b:=()) (x6.trans x7) trivial q7⟩)
end
section
variable{X:š}{P:Ť}{d:Nat}{fN st fM cm fI:aC2}{sc:Scope}{Wc:Scope->ĭ}(F:Em X P d fN st fM cm fI sc)(H :∀X' sc',Em X' P d fN st fM cm fI sc'->LO X' (Wc sc'))
include F H
theorem ZI(c:Ĳ)(R:Ī X c):C8 X c (c.add (.list []) (AS [] 0) c.s.toks):=R.alloc λp e=>⟨[],⟨(0,none),(bQ5 _ e).trans (aC4 _ rfl)⟩,rfl⟩
theorem Sv{elt:Expr}{gens:List aI7}{cs:Scope}{p:Pos}{σ:St}{Q:ű->St->Prop}{Qf:Value->aA5->Prop}{use:Option (Value->Sem Unit)}{G:ħ}{s:aA5}(h:kR P Wc sc elt gens cs σ Q)(R:Ī X ⟨G,σ,s⟩)
  (fin :∀c a v C mc,C8 X ⟨G,σ,s⟩ c->Š X c a v->Q a c.σ->c.G.tag C=some .lock->X.hs.objs.size<=C->s.heap.objs.size<=C->c.s.heap.Ns C mc->compPost (aC6 X.L.prog X.L.w) X.A (λ_ _=>False) use Qf v C (.ok .next) c.s) :
  ė X (comprehension (.ListComp elt gens cs p) cs X.env (firstIterPos gens p) (newList []) (firstAsync gens) (firstIter gens X.env) use) Qf s:=by
 obtain⟨hr,h⟩:=A3 h
 cases gens with
 | nil=>exact h.elim
 | cons g r=>
  cases r with
  | cons=>cases hr
  | nil=>
  obtain⟨tg,iter,ifs,asy⟩:=g
  have h:Dj (MS sc cs ⟨tg,iter,ifs,asy⟩) (Fv P sc (Wc sc) tg iter σ λitems σ=>Cq (.list []) items (FN (Wc (Et cs sc)) ⟨tg,iter,ifs,asy⟩ (bV elt (Wc (Et cs sc)) σ.n)) (CP cs) σ Q):=h
  obtain rfl:asy=0:=aD3 (AH (A3 h).1).2
  exact iK F H (e:=.ListComp elt [⟨tg,iter,ifs,0⟩] cs p) (rest:=λn=>bV elt (Wc (Et cs sc)) n) (bodyF:=λenv it acc=>T0 elt env acc >>= λ_=>again (.compLoop (.ListComp elt [⟨tg,iter,ifs,0⟩] cs p) 0 it acc env)) h R rfl
   (λq=>aK7 q) (ZI F H) (λ_ _ _=>⟨rfl,rfl⟩) (λ_ env it D=>QP) (λ_ {env it acc R s} ŝ h1=>codeAny_compStart_list ŝ (ė.any h1 λ_ _ q=>q))
   (λcl C it c' n D K hk q R hμ hlt=>dR (H _ _ (F.comp (cl:=cl) (C:=C) hk)) q R hμ hlt) fin
theorem gS{elt:Expr}{gens:List aI7}{cs:Scope}{p:Pos}{σ:St}{Q:ű->St->Prop}(h:kR P Wc sc elt gens cs σ Q):Ō X (eval (.ListComp elt gens cs p) X.env) σ Q:=λG s R=>by
 rw[eval_ListComp]
 exact Sv F H h R λc a v C mc x r q t h1 h2 hm=>⟨mc,hm,λh' hb=>have y:=x.letC t h1 h2 hb;.to (b:=a) y.1 (y.2.v r) q⟩
theorem oQ{t:Sem Value}{u:Value->Sem Unit}{σ:St}{Q:ű->St->Prop}{Q':St->Prop}{G:ħ}{s:aA5}(hu :∀c a v,Ī X c->Š X c a v->Q a c.σ->GB X c Q' (u v))
  (core :∀Qf:Value->aA5->Prop,(∀c a v C mc,C8 X ⟨G,σ,s⟩ c->Š X c a v->Q a c.σ->c.G.tag C=some .lock->X.hs.objs.size<=C->s.heap.objs.size<=C->c.s.heap.Ns C mc->compPost (aC6 X.L.prog X.L.w) X.A (λ_ _=>False) (some u) Qf v C (.ok .next) c.s)->ė X t Qf s) :
  GB X ⟨G,σ,s⟩ Q' (t >>= λ_=>pure ()):=by
 refine ė.bind (core (λ_ s'=>ė X (pure ()) (AX X JB ⟨G,σ,s⟩ λ_=>Q') s') λc a v C mc x r q t h1 h2 hm=>ė.mono (hu c a v x.R r q) λ_ s2 z=>?_)
 cases z with
 | mk G2 σ2 b x2 _ q2=>exact⟨mc,hm.at' λo e=>x2.kp.lk t o e,λh' hb=>have y:=(x.trans x2).letC (x2.kp.lock C t) h1 h2 hb;ė.pure (.to (b:=()) y.1 trivial q2)⟩
theorem ZX{elt:Expr}{gens:List aI7}{cs:Scope}{p:Pos}{u:Value->Sem Unit}{σ:St}{Q:ű->St->Prop}{Q':St->Prop}(h:kR P Wc sc elt gens cs σ Q)(hu :∀c a v,Ī X c->Š X c a v->Q a c.σ->GB X c Q' (u v))(G:ħ)(s:aA5)(R:Ī X ⟨G,σ,s⟩) :
  GB X ⟨G,σ,s⟩ Q' (bO0 (.ListComp elt gens cs p) X.env u):=oQ F H hu λQf=>Sv (Qf:=Qf) F H h R
end
section
variable{X:š}{P:Ť}{d:Nat}{fN st fM cm fI:aC2}{sc:Scope}{W:ĭ}(F:Em X P d fN st fM cm fI sc)(S:LO X W)
include F S
theorem sQ{Wc:Scope->ĭ}(H :∀X' sc',Em X' P d fN st fM cm fI sc'->LO X' (Wc sc'))(e:Expr)(σ:St)(Q:ű->St->Prop)(h:RO P sc Wc W e σ Q):Ō X (eval e X.env) σ Q:=
 Expr.casesOn (motive_1:=λe=>RO P sc Wc W e σ Q->Ō X (eval e X.env) σ Q) e (λop es p h=>iR S es σ Q h) (λ_ _ _=>aA8) (λl op r p h G s R=>wpAny_BinOp ((S.E l σ _ h).go (c:=⟨G,σ,s⟩) R λa c1 va h1 x1 r1=>(S.E r _ _ h1).go x1.R λb c2 vb h2 x2 r2=>AX.up (gO h2 x2.R (x2.pre.v r1) r2) (x1.trans x2))) (λ_ _ _=>cO F S) (λ_ _ _ _=>aA8) (λ_ _ _ _=>Q5 S) (λ_ _ _=>Ua F) (λ_ _ _=>aA8) (λ_ _ _ _=>gS F H) (λ_ _ _ _=>aA8) (λ_ _ _ _ _=>aA8) (λ_ _ _ _=>aA8) (λ_ _=>aA8) (λ_ _=>aA8) (λ_ _=>aA8) (λ_ _ _ _=>Lm F S) (λ_ _ _ _=>UH F S (bE F)) (λ_ _ _ _=>aA8) (λ_ _=>aA8) (λ_ _ _=>Pu F) (λ_ _ _=>VH F S) (λ_ _ _=>W7 S) (λ_ _=>aA8) (λ_ _ h=>Jx F (A3 h).1 (A3 h).2) (λ_ _=>UU S) (λ_ _ _=>RN S) (λ_ _ _ _=>aA8) h
theorem Eu{e:Expr}{σ:St}{Q:Bool->St->Prop}(he:isTrue e X.env (eval e X.env)=(do let v<-eval e X.env;standAt e.pos;aX6 [v] (truthy v)))(h:W.E e σ λv σ=>Dc v σ Q):ã X (isTrue e X.env (eval e X.env)) σ Q:=λG s R=>
 isTrue_plain ((S.E e σ _ h).go (c:=⟨G,σ,s⟩) R λa c1 va h1 x1 r1=>AX.up (QO h1 x1.R r1) x1) he
theorem JZ{l:Expr}{EN:List bJ3}{rs:List Expr}{p:Pos}{ü:Sem Value}{σ:St}{Q:Bool->St->Prop}(h:FH W l EN rs σ λv σ=>Dc v σ Q):ã X (isTrue (.Compare l EN rs p) X.env ü) σ Q:=λG s R=>
 AB h λop e1 h=>AB h λr e2 h=>H9 (P:=λEN=>ė X (isTrue (.Compare l EN rs p) X.env ü) (AX X KW ⟨G,σ,s⟩ Q) s) e1 (H9 (P:=λrs=>ė X (isTrue (.Compare l [op] rs p) X.env ü) (AX X KW ⟨G,σ,s⟩ Q) s) e2
  (wpAny_isTrue_Compare1 ((S.E l σ _ (A3 h).2).go (c:=⟨G,σ,s⟩) R λa c1 va h1 x1 r1=>(S.E r _ _ h1).go x1.R λb c2 vb h2 x2 r2=>
   ė.mono (Ro (aE9 (aA2 (aH8 (by decide:10<=40) _) (aN7 (aD5 _ _) 40)) F.A.2.2) h2 x2.R (x2.pre.v r1) r2) λv s3 q=>q.casesOn λG3 σ3 c y e q=>
    AX.up (QO (c:=⟨G3,σ3,s3⟩) q y.R e) ((x1.trans x2).trans y)) (Dv (A3 h).1)))
theorem sL(e:Expr)(σ:St)(Q:Bool->St->Prop)(h:RZ W e σ Q):ã X (isTrue e X.env (eval e X.env)) σ Q:=
 Expr.casesOn (motive_1:=λe=>RZ W e σ Q->ã X (isTrue e X.env (eval e X.env)) σ Q) e (λop vs p h G s R=>wpAny_isTrue_BoolOp (bK S vs h G s R)) (λ_ _ _=>aA8) (λ_ _ _ _=>aA8) (λop x p h G s R=>Jq (A3 h).1▸wpAny_isTrue_Not ((S.B x σ _ (A3 h).2).go (c:=⟨G,σ,s⟩) R λc c1 vc h1 x1 r1=>.to (b:=!c) x1 (bQ5 not r1) h1)) (λ_ _ _ _=>aA8) (λ_ _ _ _=>aA8) (λ_ _ _=>aA8) (λ_ _ _=>aA8) (λ_ _ _ _=>aA8) (λ_ _ _ _=>aA8) (λ_ _ _ _ _=>aA8) (λ_ _ _ _=>aA8) (λ_ _=>aA8) (λ_ _=>aA8) (λ_ _=>aA8) (λ_ _ _ _=>JZ F S) (λ_ _ _ _=>Eu F S rfl) (λ_ _ _ _=>aA8) (λ_ _=>aA8) (λ_ _ _=>Eu F S rfl) (λ_ _ _=>Eu F S rfl) (λ_ _ _=>aA8) (λ_ _=>aA8) (λ_ _=>Eu F S rfl) (λ_ _=>aA8) (λ_ _ _=>aA8) (λ_ _ _ _=>aA8) h
theorem OB{es:List Expr}{k:Nat}{p:Pos}{v:ű}{c:Ĳ}{Q:St->Prop}{u:Value}(h:Dj (Bd es) (Uu v es.length c.σ λvs σ=>kI W.A es vs σ Q))(R:Ī X c)(r:Š X c v u):GB X c Q (assign (.Tuple es k p) X.env u):=by
 obtain⟨h1,h⟩:=A3 h
 show ė X _ _ _
 rw[arm_assign_Tuple]
 refine ė.bind (aM4 ?_)
 unfold unpack
 rwa[DT X.env es h1]
 have e1:(es.map λe=>(false,assign e X.env)).findIdx? (·.1)=none:=List.findIdx?_eq_none_iff.mpr λx hx=>(aO0.mp hx).elim λy e=>e.2▸rfl
 rwa[e1];rewrite [aB5];rwa[aR5]
 exact ė.bind (ė.hold (ė.mono (Vk F.A.1 F.w.N.toMatC h R r) λvs s1 q=>q.casesOn λG1 σ1 avs x1 r1 q1=>AX.up (gX S (c:=⟨G1,σ1,s1⟩) q1 x1.R r1) x1))
theorem mG(t:Expr)(v:ű)(c:Ĳ)(Q:St->Prop)(h:S9 P sc W t v c.σ Q){u:Value}(R:Ī X c)(r:Š X c v u):GB X c Q (assign t X.env u):=
 Expr.casesOn (motive_1:=λt=>S9 P sc W t v c.σ Q->GB X c Q (assign t X.env u)) t (λ_ _ _=>aA8) (λ_ _ _=>aA8) (λ_ _ _ _=>aA8) (λ_ _ _=>aA8) (λ_ _ _ _=>aA8) (λ_ _ _ _=>aA8) (λ_ _ _=>aA8) (λ_ _ _=>aA8) (λ_ _ _ _=>aA8) (λ_ _ _ _=>aA8) (λ_ _ _ _ _=>aA8) (λ_ _ _ _=>aA8) (λ_ _=>aA8) (λ_ _=>aA8) (λ_ _=>aA8) (λ_ _ _ _=>aA8) (λ_ _ _ _=>aA8) (λ_ _ _ _=>aA8) (λ_ _=>aA8) (λ_ _ _=>aA8) (λo a p h=>arm_assign_Attribute ..▸ė.bind (ė.hold ((S.E o c.σ _ h).go R λov c1 vo h1 x1 r1=>ė.bind (aM4 (ė.bind (ė.hold (ė.mono (AX.up (Xx F.w.K h1 x1.R r1 (x1.pre.v r)) x1) λ_ s2 h2=>bL7 h2))))))) (λo i p h=>arm_assign_Subscript ..▸ė.bind (ė.hold ((S.E o c.σ _ h).go R λov c1 vo h1 x1 r1=>ė.bind (ė.hold ((S.E i c1.σ _ h1).go x1.R λiv c2 vi h2 x2 r2=>ė.bind (aM4 (ė.bind (ė.hold (ė.mono (AX.up (dG h2 x2.R (x2.pre.v r1) r2 ((x1.trans x2).pre.v r)) (x1.trans x2)) λ_ s3 h3=>bL7 h3))))))))) (λ_ _=>aA8) (λx p h=>wpAny_assign_Name (JH F (A3 h).1 R r (A3 h).2)) (λ_ _=>aA8) (λes k p h=>OB F S h R r) (λ_ _ _ _=>aA8) h
end
def dC{P:Ť}{d:Nat}{fN st fM cm fI:aC2}(f:Nat) :∀X sc,Em X P d fN st fM cm fI sc->LO X (bU P f sc):=
 aV6 (λ_ _ _=>⟨λ_ _ _=>aA8,λ_ _ _=>aA8,λ_ _ _ _=>aA8,λ_ _ _ _ _ _ _ _=>aA8⟩) (λf H X sc F=>have S:=H X sc F;⟨sQ F S H,sL F S,λt v c Q h _ R r=>mG F S t v c Q h R r,λelt gens cs p u σ Q Q' h=>ZX F H h⟩) f
def xA{X:š}{P:Ť}{d:Nat}{fN st fM cm fI:aC2}{sc:Scope}(F:Em X P d fN st fM cm fI sc)(f:Nat):LO X (Œ P sc f):=dC f X sc F
inductive BS where
 | next | brk | cont
 | ret (v:ű)
abbrev ĵ:=BS->St->Prop
abbrev â:=aG8->St->ĵ->Prop
def A9(σ τ:St):Prop:=∀X G s,Ī X ⟨G,σ,s⟩->∃G',ù G s.heap G' s.heap/\Ī X ⟨G',τ,s⟩
theorem A9.refl(σ:St):A9 σ σ:=λ_ G s R=>⟨G,.refl _ _,R⟩
theorem A9.trans{σ τ υ:St}(a:A9 σ τ)(b:A9 τ υ):A9 σ υ:=λX G s R=>(a X G s R).elim λG' p=>(b X G' s p.2).imp λG'' q=>⟨p.1.trans q.1,q.2⟩
def SO(e:Expr):Bool:=ix e 8||ix e 9||ix e 10
noncomputable def Ml(sc:Scope):Env:={scope:=sc,locals:=0,globals:=0,cells:=[]}
noncomputable def kZ{α:Type}(t:Sem α):Option α:=Sem.casesOn (motive:=λ_=>Option α) t (λa=>some a) (λ_=>none) (λ_=>none) (λ_=>none) (λ_ _=>none) (λ_ _=>none) (λ_ _ _=>none) (λ_ _ _ _=>none) (λ_ _=>none) (λ_ _=>none) (λ_ _=>none) (λ_ _=>none) (λ_=>none) (λ_=>none) (λ_ _ _=>none) (λ_ _ _=>none) (λ_ _ _ _ _=>none) (λ_ _=>none) (λ_ _=>none) (λ_ _=>none) (λ_ _ _ _=>none) (λ_ _ _ _=>none) (λ_=>none) (λ_ _=>none) (λ_=>none) (λ_ _ _ _ _=>none)
def R7{α:Type}{t:Sem α}{a:α}(e:kZ t=some a):t=pure a:=Sem.casesOn (motive:=λt=>kZ t=some a->t=pure a) t (λ_ e=>bQ5 _ (aA3 e)) (λ_=>AA) (λ_=>AA) (λ_=>AA) (λ_ _=>AA) (λ_ _=>AA) (λ_ _ _=>AA) (λ_ _ _ _=>AA) (λ_ _=>AA) (λ_ _=>AA) (λ_ _=>AA) (λ_ _=>AA) (λ_=>AA) (λ_=>AA) (λ_ _ _=>AA) (λ_ _ _=>AA) (λ_ _ _ _ _=>AA) (λ_ _=>AA) (λ_ _=>AA) (λ_ _=>AA) (λ_ _ _ _=>AA) (λ_ _ _ _=>AA) (λ_=>AA) (λ_ _=>AA) (λ_=>AA) (λ_ _ _ _ _=>AA) e
def Ex(A:Ŀ)(ts:List Expr):ű->St->(St->Prop)->Prop:=aB4 (λ_ σ Q=>Q σ) (λt _ ih v σ Q=>A t v σ λσ=>ih v σ Q) ts
def jW(sc:Scope)(xs:List Str):List ű->St->(St->Prop)->Prop:=aB4 (λvs σ Q=>nil vs (Q σ)) (λx _ ih vs σ Q=>Ae vs λv vs=>Dj (DZ sc x) (ih vs (σ.put x v) Q)) xs
def Nk(sc:Scope)(W:ĭ)(ts:List Expr)(e:Expr)(line:Nat)(σ:St)(Q:ĵ):Prop:=Dj (Bd ts) (Aa (kZ (swapsWithSole ts e line (Ml sc))) λb=>aK3 (Aa (kZ (bH7 ts e (Ml sc))) λo=>W.E e σ λv σ=>
 aE5 (Ex W.A ts v σ λσ=>Q .next σ) (λxs=>Uu v xs.length σ λvs σ=>jW sc xs.reverse vs.reverse σ λσ=>Q .next σ) o) (Dj (ix e 8) (W.E e σ λv σ=>Ex W.A ts v σ λσ=>Q .next σ)) b)
def YI(b:Bool)(σ:St)(K:St->Prop):Prop:=aK3 (K σ) (∃τ,A9 σ τ/\K τ) b
def Ŧ(P:Ť)(S:â)(ss:List aG8):St->ĵ->Prop:=aB4 (λσ Q=>Q .next σ) (λs _ ih σ Q=>YI (P.wk s.pos) σ λτ=>S s τ λfl υ=>BS.rec (ih υ Q) (Q .brk υ) (Q .cont υ) (λv=>Q (.ret v) υ) fl) ss
def E6(on:St->Prop)(Q:ĵ)(fl:BS)(σ:St):Prop:=BS.rec (on σ) (∃τ,A9 σ τ/\Q .next τ) (on σ) (λr=>Q (.ret r) σ) fl
def D7(items:List ű)(tn:ű->St->ĵ->Prop)(els:St->ĵ->Prop)(σ:St)(Q:ĵ):Prop:=
 ∃I:Nat->St->Prop,(∃τ,A9 σ τ/\I 0 τ)/\(∀k σ v,items[k]?=some v->I k σ->tn v σ (E6 (λσ=>∃τ,A9 σ τ/\I (k+1) τ) Q))/\∀σ,I items.length σ->els σ Q
def F3(test:St->(Bool->St->Prop)->Prop)(body els:St->ĵ->Prop)(σ:St)(Q:ĵ):Prop:=
 ∃(I:Nat->St->Prop) (m:Nat),(∃τ,A9 σ τ/\I m τ)/\∀m σ,I m σ->test σ λc σ=>BX c (body σ (E6 (λσ=>∃m' τ,m'<m/\A9 σ τ/\I m' τ) Q)) (els σ Q)
def jJ(P:Ť)(sc:Scope)(W:ĭ)(t:Expr)(op:bI2)(e:Expr)(σ:St)(Q:ĵ):Prop:=Dj (ix t 23&&Af (Ap t)&&DZ sc (Ap t)) (HO P sc (Ap t) σ λa σ=>W.E e σ λb σ=>X3 op a b σ λr σ=>Q .next (σ.put (Ap t) r))
def IX(x:Nat)(H:List (Nat×Ř)):List (Nat×Ř):=aB4 [] (λp _ ih=>bif aE6 p.1 x then ih else p::ih) H
def St.hid(σ:St)(x:Nat):St:=⟨σ.ρ,IX x σ.H,σ.n,σ.n⟩
def MP(σ:St)(x:Nat)(o:Ř)(τ:St):St:=⟨τ.ρ,Ah τ.H x o,τ.n,σ.anc⟩
def H5(x:Nat)(o:Ř)(items:List ű)(tn:ű->St->ĵ->Prop)(σ:St)(Q:ĵ):Prop:=D7 items tn (λσ K=>K .next σ) (σ.hid x) λfl τ=>BS.rec (Q .next (MP σ x o τ)) False False (λ_=>False) fl
def CY(es:List (AC×ű)):List ű:=es.map λp=>.tup [.key p.1,p.2]
def SL(i:Expr):Bool:=EF (A4 i).2.1&&EF (A4 i).2.2.1&&ix (A4 i).1 20&&(Cl (A4 i).1).2.1==("items":Str)&&F5 (Cl (A4 i).1).1&&aE6 (Cl (A4 i).1).2.2.endLine (A4 i).2.2.2.line
def ZV(W:ĭ)(t:Expr)(tn:ű->St->ĵ->Prop)(Ĵ:Expr)(σ:St)(Q:ĵ):Prop:=W.E Ĵ σ λv σ=>Aa (C9 σ v) λp=>Aa p.2.dct λes=>(De t=true/\AG nn es=some es)/\H5 p.1 (.dict es) (CY es) tn σ Q
def QB(W:ĭ)(t:Expr)(tn:ű->St->ĵ->Prop)(i:Expr)(o:List aG8)(σ:St)(Q:ĵ):Prop:=Dj (EF o) (aK3 (Dj (ix i 23) (W.E i σ λv σ=>Aa (C9 σ v) λp=>Aa p.2.fs λks=>∀ks':List AC,ks'.Perm ks->H5 p.1 (.set ks) (ks'.map .key) tn σ Q))
 (Dj (SL i) (ZV W t tn (Cl (A4 i).1).1 σ Q)) (ix i 16))
noncomputable def N1(e:Expr):Expr×Expr:=Expr.casesOn (motive_1:=λ_=>Expr×Expr) e (λ_ _ _=>(e,e)) (λ_ _ _=>(e,e)) (λ_ _ _ _=>(e,e)) (λ_ _ _=>(e,e)) (λ_ _ _ _=>(e,e)) (λ_ _ _ _=>(e,e)) (λ_ _ _=>(e,e)) (λ_ _ _=>(e,e)) (λ_ _ _ _=>(e,e)) (λ_ _ _ _=>(e,e)) (λ_ _ _ _ _=>(e,e)) (λ_ _ _ _=>(e,e)) (λ_ _=>(e,e)) (λ_ _=>(e,e)) (λ_ _=>(e,e)) (λ_ _ _ _=>(e,e)) (λ_ _ _ _=>(e,e)) (λ_ _ _ _=>(e,e)) (λ_ _=>(e,e)) (λ_ _ _=>(e,e)) (λ_ _ _=>(e,e)) (λo i _=>(o,i)) (λ_ _=>(e,e)) (λ_ _=>(e,e)) (λ_ _=>(e,e)) (λ_ _ _=>(e,e)) (λ_ _ _ _=>(e,e))
noncomputable def Fb(es:List (AC×ű))(k:AC):List (AC×ű):=es.filter λp=>decide (p.1≠k)
def dU(W:ĭ)(ts:List Expr)(σ:St)(Q:St->Prop):Prop:=Aa (one ts) λt=>Dj (ix t 21) (W.E (N1 t).1 σ λv σ=>W.E (N1 t).2 σ λk σ=>I0 σ v λx es=>Aa (BC k) λk=>(es.lookup k).isSome=true/\Q (σ.set x (.dict (Fb es k))))
def Ru(P:Ť)(sc:Scope)(W:ĭ)(S:â):â:=λst σ Q=>bM7 (motive_2:=λ_=>Prop) st (λ_ _ _ _ _ _ _ _ _ _=>False) (λ_ _ _ _ _ _ _ _ _ _=>False) (λ_ _ _ _ _ _ _ _ _ _ _=>False) (λo _=>aE5 (Q (.ret .none) σ) (λe=>W.E e σ λv σ=>Q (.ret v) σ) o) (λts _=>dU W ts σ λσ=>Q .next σ) (λts e p=>Nk sc W ts e p.line σ Q) (λ_ _ _ _ _ _ _=>False) (λt op e _=>jJ P sc W t op e σ Q) (λ_ _ _ _ _=>False) (λt i b o p=>aK3 (Dj (!ix i 7) (Fv P sc W t i σ λitems σ=>D7 items (λv σ K=>W.A t v σ λσ=>Ŧ P S b σ K) (Ŧ P S o) σ Q)) (QB W t (λv σ K=>W.A t v σ λσ=>Ŧ P S b σ K) i o σ Q) (P.lk p)) (λ_ _ _ _ _=>False) (λt b o _=>F3 (W.B t) (Ŧ P S b) (Ŧ P S o) σ Q) (λt b o _=>W.B t σ λc σ=>BX c (Ŧ P S b σ Q) (Ŧ P S o σ Q)) (λ_ _ _=>False) (λ_ _ _=>False) (λ_ _ _=>False) (λ_ _ _=>False) (λ_ _ _ _ _=>False) (λ_ _ _ _ _=>False) (λ_ _ _=>False) (λ_ _=>False) (λ_ _ _ _=>False) (λ_ _=>False) (λ_ _=>False) (λe _=>Dj (!SO e) (W.E e σ λ_ σ=>Q .next σ)) (λ_=>Q .next σ) (λ_=>Q .brk σ) (λ_=>Q .cont σ)
def Dk(P:Ť)(sc:Scope)(f:Nat):â:=aV6 (λ_ _ _=>False) (λf S=>Ru P sc (Œ P sc f) S) f
def Q9(X:š)(c:Ĳ)(a:BS)(f:bN0):Prop:=BS.rec (f = .next) (f = .brk) (f = .cont) (λa=>∃v,f = .ret v/\Š X c a v) a
inductive At(X:š)(G:ħ)(h:aF2)(Q:ĵ)(f:bN0)(s':aA5):Prop
 | mk (G':ħ) (σ':St) (af:BS) (k:ù G h G' s'.heap) (R:Ī X ⟨G',σ',s'⟩) (r:Q9 X ⟨G',σ',s'⟩ af f) (q:Q af σ')
def Ų(X:š)(t:Sem bN0)(σ:St)(Q:ĵ):Prop:=∀G s,Ī X ⟨G,σ,s⟩->ė X t (At X G s.heap Q) s
section
variable{X:š}{G G':ħ}{h h':aF2}{Q:ĵ}{f:bN0}{s s':aA5}{σ:St}
def At.lift(k:ù G h G' h')(p:At X G' h' Q f s'):At X G h Q f s':=p.casesOn λG2 σ2 a k2 R r q=>⟨G2,σ2,a,k.trans k2,R,r,q⟩
def At.up{t:Sem bN0}(x:ė X t (At X G' h' Q) s)(k:ù G h G' h'):ė X t (At X G h Q) s:=x.mono λ_ _ p=>p.lift k
def At.to{c c':Ĳ}{af:BS}(x:C8 X c c')(r:Q9 X c' af f)(q:Q af c'.σ):At X c.G c.s.heap Q f c'.s:=⟨c'.G,c'.σ,af,x.kp,x.R,r,q⟩
def At.weak{τ:St}{af:BS}(k:ù G h G' s'.heap)(R:Ī X ⟨G',σ,s'⟩)(w:A9 σ τ)(r :∀c,Q9 X c af f)(q:Q af τ):At X G h Q f s':=(w X G' s' R).elim λG2 p=>⟨G2,τ,af,k.trans p.1,p.2,r _,q⟩
@[elab_as_elim] theorem Nx{on:St->Prop}{P:bN0->Prop}{af:BS}(k:ù G h G' s'.heap)(R:Ī X ⟨G',σ,s'⟩)(r:Q9 X ⟨G',σ,s'⟩ af f)(q:E6 on Q af σ)(h1:on σ->P .next)(h2:on σ->P .cont)(h3:At X G h Q .next s'->P .brk)(h4 :∀v,At X G h Q (.ret v) s'->P (.ret v)):P f:=by
 cases af with
 | next=>exact(show f = .next from r)▸h1 q
 | cont=>exact(show f = .cont from r)▸h2 q
 | brk=>exact(show f = .brk from r)▸h3 (q.elim λτ q=>.weak (af:=.next) k R q.1 (λ_=>rfl) q.2)
 | ret a=>exact r.elim λv r=>r.1▸h4 v ⟨G',σ,.ret a,k,R,⟨v,rfl,r.2⟩,q⟩
inductive kT(X:š)(G:ħ)(h:aF2)(J:Nat->St->Prop)(m:Nat)(s':aA5):Prop
 | mk (G':ħ) (σ':St) (R:Ī X ⟨G',σ',s'⟩) (j:J m σ') (k:ù G h G' s'.heap)
def kT.of{J:Nat->St->Prop}{m:Nat}{τ:St}(k:ù G h G' s'.heap)(R:Ī X ⟨G',σ,s'⟩)(w:A9 σ τ)(j:J m τ):kT X G h J m s':=(w X G' s' R).elim λG2 p=>⟨G2,τ,p.2,j,k.trans p.1⟩
def Tl{t:Expr}{body orelse:List aG8}{p:Pos}{test:St->(Bool->St->Prop)->Prop}{bd els:St->ĵ->Prop}
  (ht :∀σ K,test σ K->ã X (isTrue t X.env (eval t X.env)) σ K) (hb :∀σ K,bd σ K->Ų X (execs body X.env) σ K) (he :∀σ K,els σ K->Ų X (execs orelse X.env) σ K)
  (h:F3 test bd els σ Q):Ų X (exec (.While t body orelse p) X.env) σ Q:=λG s R=>by
 obtain⟨J,m,⟨τ,hw,j0⟩,jt⟩:=h
 refine wpAny_While (codeAny_whileLoop (kT X G s.heap J) (λm s' hI=>?_) m (.of (.refl _ _) R hw j0))
 cases hI with
 | mk G' σ' R' hJ kk=>
 refine ė.any (ht σ' _ (jt m σ' hJ) G' s' R') λb s1 hx=>?_
 cases hx with
 | mk G1 σ1 c x1 e q=>
 cases e
 cases b with
 | false=>exact ė.any (he σ1 Q q G1 s1 x1.R) λfl s2 hp=>hp.lift (kk.trans x1.kp)
 | true=>
  refine ė.any (hb σ1 _ q G1 s1 x1.R) λfl s2 hp=>?_
  cases hp with
  | mk G2 σ2 af k2 R2 fr q=>
  have k₀:=(kk.trans x1.kp).trans k2
  have next:(∃m' τ,m'<m/\A9 σ2 τ/\J m' τ)->∃m',m'<m/\kT X G s.heap J m' s2:=λq=>q.imp λm' q=>q.elim λτ q=>⟨q.1,.of k₀ R2 q.2.1 q.2.2⟩
  exact Nx k₀ R2 fr q next next id λ_=>id
inductive uF(X:š)(G:ħ)(h:aF2)(J:Nat->St->Prop)(It:Nat->ħ->aF2->Prop)(n m:Nat)(s':aA5):Prop
 | mk (i:Nat) (G':ħ) (σ':St) (hi:i+m=n) (R:Ī X ⟨G',σ',s'⟩) (j:J i σ') (st:It i G' s'.heap) (k:ù G h G' s'.heap)
def eR(P:bN0->aA5->Prop)(r:bG3)(s':aA5):Prop:=∃f,r = .ok f/\P f s'
def RG{tg:Expr}{body orelse:List aG8}{tn:ű->St->ĵ->Prop}{els:St->ĵ->Prop}
  (hturn :∀v c K,tn v c.σ K->∀{u},Ī X c->Š X c v u->ė X (assign tg X.env u) (λ_ s1=>ė X (execs body X.env) (At X c.G c.s.heap K) s1) c.s)
  (hels :∀σ K,els σ K->Ų X (execs orelse X.env) σ K) {G:ħ} {s s2:aA5} {itv:Value} (hit:CM X tg ⟨G,σ,s⟩ (λitems σ2=>D7 items tn els σ2 Q) itv s2) :
  aO8 (aC6 X.L.prog X.L.w) X.A (.forLoop tg itv body orelse X.env) (eR (At X G s.heap Q)) s2:=by
 cases hit with
 | mk c1 x1 I wr items It G2 e okA self st0 hwr y1 up1 hcl=>
 subst e
 obtain⟨J,⟨τ,hw,j0⟩,jt,je⟩:=hcl
 have ok:=okA X.env
 have k2:=x1.kp.trans y1.kp
 have hwr :∀b∈wr,s.heap.objs.size<=b:=λb hb=>aA2 x1.kp.size (hwr b hb)
 obtain⟨G3,k3,R3⟩:=hw X G2 s2 y1.R
 have stepK :∀{G':ħ} {s' s'':aA5},ù G s.heap G' s'.heap->kW wr s'.heap s''.heap->ù G s.heap G' s''.heap:=λ{G' s' s''} kk hs=>⟨λa o e q=>hs.1 a o (λhm=>Cs e (hwr a hm)) (kk.keep a o e q),kk.own,kk.mt,aA2 kk.size hs.2,kk.lock⟩
 refine codeAny_forLoop_any (uF X G s.heap J It items.length) (λm s' hI=>?_) items.length ⟨0,G3,τ,aH9 _,R3,j0,ok.frame _ _ _ _ _ st0 k3,k2.trans k3⟩
 cases hI with
 | mk i G' σ' him R' hJ hst kk=>
 cases m with
 | zero=>
  obtain rfl:i=items.length:=him
  refine ė.any (ok.done ⟨G',σ',s'⟩ R' hst) λr s3 hr=>?_
  rwa[hr.1]
  exact ė.any (hels σ' Q (je σ' hJ) G' s3 hr.2.1) λfl s4 hp=>⟨fl,rfl,hp.lift (stepK kk hr.2.2)⟩
 | succ m=>
  refine ė.any (ok.item i ⟨G',σ',s'⟩ R' (him▸aN8 (bB4 m)) hst) λr s3 hr=>?_
  obtain⟨u,rfl,hgo⟩:=hr
  refine ė.any hgo λ_ s4 hx=>?_
  cases hx with
  | mk av hav hvr R4 st4 hstp=>
  have k4:=stepK kk hstp
  refine ė.any (hturn av ⟨G',σ',s4⟩ _ (jt i σ' av hav hJ) R4 hvr) λ_ s5 hb=>ė.any hb λfl s6 hp=>?_
  cases hp with
  | mk G6 σ6 af k6 R6 fr q=>
  have next:(∃τ,A9 σ6 τ/\J (i+1) τ)->∃m',m'<m+1/\uF X G s.heap J It items.length m' s6:=λq=>q.elim λτ q=>(q.1 X G6 s6 R6).elim λG7 p=>
   have k67:=k6.trans p.1
   ⟨m,aC1 m,i+1,G7,τ,(aL1 i 1 m).trans him,p.2,q.2,ok.frame _ _ _ _ _ st4 k67,k4.trans k67⟩
  exact Nx (k4.trans k6) R6 fr q next next (λq=>⟨_,rfl,q⟩) λ_ q=>⟨_,rfl,q⟩
def iU{tg it:Expr}{body orelse:List aG8}{p:Pos}{tn:ű->St->ĵ->Prop}{els:St->ĵ->Prop}(hset :∀x,foldedSetIterable it X.env x=pure x)
  (hturn :∀v c K,tn v c.σ K->∀{u},Ī X c->Š X c v u->ė X (assign tg X.env u) (λ_ s1=>ė X (execs body X.env) (At X c.G c.s.heap K) s1) c.s)
  (hels :∀σ K,els σ K->Ų X (execs orelse X.env) σ K) {G:ħ} {s:aA5}
  (h:ė X (eval it X.env) (λv s1=>ė X (aS8 v) (λiv s2=>CM X tg ⟨G,σ,s⟩ (λitems σ2=>D7 items tn els σ2 Q) iv s2) s1) s):ė X (exec (.For tg it body orelse p) X.env) (At X G s.heap Q) s:=
 bP6 (h.mono λv s1 h1=>ė.any h1 λitv s2 hit=>aL2 (RG hturn hels hit) λr s' z=>z.elim λf z=>z.1▸z.2) hset
end
def AW.rev{L:Bt}{G:ħ}{h:aF2}{n:Nat}{as:List ű} :∀{vs:List Value},AW L G h n as vs->AW L G h n as.reverse vs.reverse:=
 aB4 (motive:=λas=>∀{vs:List Value},AW L G h n as vs->AW L G h n as.reverse vs.reverse) (λ{vs} q=>(show vs=[]from q)▸rfl) (λa r ih vs q=>by
  obtain⟨v,u,rfl,q1,õ⟩:=q
  rwa[aV9,aV9]
  exact(ih õ).append ⟨v,[],rfl,q1,rfl⟩) as
def KG{ts:List Expr}{e:Expr}{env env':Env}(h:env.scope=env'.scope):bH7 ts e env=bH7 ts e env':=by
 unfold bH7 Env.blockKind Env.kindOf
 rwa[h];rfl
def OI{ts:List Expr}{e:Expr}{line:Nat}{env env':Env}(h:env.scope=env'.scope):swapsWithSole ts e line env=swapsWithSole ts e line env':=by
 cases ts with
 | nil=>rfl
 | cons t r=>
  cases r with
  | nil=>
   show swapsWith e (some t) line env=swapsWith e (some t) line env'
   unfold swapsWith Env.blockKind Env.kindOf
   rwa[h];rfl
  | cons=>rfl
section
variable{X:š}{P:Ť}{d:Nat}{fN st fM cm fI:aC2}{sc:Scope}{W:ĭ}(F:Em X P d fN st fM cm fI sc)(S:LO X W)
include F
theorem jO{xs:List Str} :∀{vs:List ű} {c:Ĳ} {Q:St->Prop} {us:List Value},jW sc xs vs c.σ Q->Ī X c->Ě X c vs us->GB X c Q (aP8 (xs.map λx=>bindName X.env x) us):=
 aB4 (motive:=λxs=>∀{vs:List ű} {c:Ĳ} {Q:St->Prop} {us:List Value},jW sc xs vs c.σ Q->Ī X c->Ě X c vs us->GB X c Q (aP8 (xs.map λx=>bindName X.env x) us)) (λ{vs c Q us} h R q=>Aw (P:=λus=>GB X c Q (aP8 [] us)) h q λh=>ė.pure (AX.here (b:=()) R trivial h))
  (λt ts ih vs c Q us h R q=>AN (P:=λus=>GB X c Q (aP8 ((t::ts).map λx=>bindName X.env x) us)) h q λa r v vr r1 r2 h=>by
   show ė X (do aX6 vr (bindName X.env t v);aP8 (ts.map λx=>bindName X.env x) vr) _ _
   exact ė.bind (ė.hold (wpAny_bindName (ė.mono (JH F (Q:=λσ=>jW sc ts r σ Q) (A3 h).1 R r1 (A3 h).2) λ_ s1 q=>q.casesOn λG1 σ1 _ x1 _ q1=>AX.up (ih (c:=⟨G1,σ1,s1⟩) q1 x1.R (x1.pre.va r2)) x1)))) xs
include S
theorem WD{ts:List Expr} :∀{v:ű} {c:Ĳ} {Q:St->Prop} {u:Value},Ex W.A ts v c.σ Q->Ī X c->Š X c v u->GB X c Q (assignAll u (ts.map λt=>assign t X.env)):=
 aB4 (motive:=λts=>∀{v:ű} {c:Ĳ} {Q:St->Prop} {u:Value},Ex W.A ts v c.σ Q->Ī X c->Š X c v u->GB X c Q (assignAll u (ts.map λt=>assign t X.env))) (λh R r=>ė.pure (AX.here (b:=()) R trivial h))
  (λt ts ih v c Q u h R r=>by
   have one:=S.A t v c _ h R r
   cases ts with
   | nil=>exact one
   | cons t' ts=>
    show ė X (do aX6 [u] (assign t X.env u);assignAll u ((t'::ts).map λt=>assign t X.env)) _ _
    exact ė.bind (ė.hold (ė.mono one λ_ s1 q=>q.casesOn λG1 σ1 _ x1 _ q1=>AX.up (ih (c:=⟨G1,σ1,s1⟩) q1 x1.R (x1.pre.v r)) x1))) ts
theorem PY{ts:List Expr}{e:Expr}{p:Pos}{σ:St}{Q:ĵ}(h:Nk sc W ts e p.line σ Q):Ų X (exec (.Assign ts e p) X.env) σ Q:=λG s R=>by
 obtain⟨h2,h⟩:=A3 h
 refine AB h λb eb h=>?_
 rewrite [exec_Assign_arm];rwa[OI (env':=Ml sc) F.hsc,R7 eb,DT X.env ts h2,aR5,KG (env':=Ml sc) F.hsc]
 refine ė.bind (aM4 (ė.bind (ė.pure ?_)))
 cases b with
 | true=>
  obtain⟨h1,h⟩:=A3 h
  rwa[bQ6 rfl]
  ·refine Expr.ListComp.elim (motive_1:=λe=>W.E e σ (λv σ=>Ex W.A ts v σ λσ=>Q .next σ)->ė X (do bO0 e X.env λv=>assignAll v (ts.map ((λx=>x.2)∘λe=>(false,assign e X.env)));pure bN0.next) (At X G s.heap Q) s) e (aB8 h1) (λelt gens cs p h=>?_) h
   exact ė.bind (ė.mono (S.U elt gens cs p _ σ _ (λσ=>Q .next σ) h (λc a v R r q=>WD F S q R r) G s R) λ_ s2 q=>q.casesOn λG2 σ2 _ x2 _ q2=>ė.pure (.to (c':=⟨G2,σ2,s2⟩) (af:=.next) x2 rfl q2))
 | false=>
  rwa[bQ7 (by decide)]
  refine AB h λo eo h=>?_
  rwa[R7 eo]
  refine ė.bind ((S.E e σ _ h).go (c:=⟨G,σ,s⟩) R λv c1 vv h₁ x1 r1=>ė.bind (ė.pure ?_))
  cases o with
  | none=>exact ė.bind (ė.mono (WD F S h₁ x1.R r1) λ_ s2 q=>q.casesOn λG2 σ2 _ x2 _ q2=>ė.pure (.to (c':=⟨G2,σ2,s2⟩) (af:=.next) (x1.trans x2) rfl q2))
  | some xs=>
   refine ė.bind (aQ8 (ė.bind (ė.mono (Vk F.A.1 F.w.N.toMatC h₁ x1.R r1) λus s2 q=>q.casesOn λG2 σ2 vs x2 r2 q2=>ė.bind (ė.mono (jO F (c:=⟨G2,σ2,s2⟩) q2 x2.R r2.rev) λ_ s3 q=>q.casesOn λG3 σ3 _ x3 _ q3=>ė.pure (.to (c':=⟨G3,σ3,s3⟩) (af:=.next) (x1.trans (x2.trans x3)) rfl q3)))))
end
section
variable{X:š}{P:Ť}{d:Nat}{fN st fM cm fI:aC2}{sc:Scope}{W:ĭ}(F:Em X P d fN st fM cm fI sc)(S:LO X W)
include F S
theorem Wr{t:Expr}{op:bI2}{e:Expr}{p:Pos}{σ:St}{Q:ĵ}(h:jJ P sc W t op e σ Q):Ų X (exec (.AugAssign t op e p) X.env) σ Q:=λG s R=>by
 obtain⟨hc,h⟩:=A3 h
 obtain⟨hc,h3⟩:=AH hc
 obtain⟨h1,h2⟩:=AH hc
 refine Expr.Name.elim (motive_1:=λt=>Af (Ap t)=true->DZ sc (Ap t)=true->HO P sc (Ap t) σ (λa σ=>W.E e σ λb σ=>X3 op a b σ λr σ=>Q .next (σ.put (Ap t) r))->ė X (exec (.AugAssign t op e p) X.env) (At X G s.heap Q) s) t (aB8 h1) (λx q h2 h3 h=>?_) h2 h3 h
 exact wpAny_AugAssign_Name ((IN F h2 h).go (c:=⟨G,σ,s⟩) R λa c1 va h₁ x1 r1=>(S.E e _ _ h₁).go x1.R λb c2 vb h₂ x2 r2=>ė.mono (g0 h₂ x2.R (x2.pre.v r1) r2) λv s3 q=>q.casesOn λG3 σ3 r x3 r3 q3=>
  ė.mono (JH F (Q:=λσ=>Q .next σ) (c:=⟨G3,σ3,s3⟩) h3 x3.R r3 q3) λ_ s4 q=>q.casesOn λG4 σ4 _ x4 _ q4=>.to (c':=⟨G4,σ4,s4⟩) (af:=.next) (x1.trans (x2.trans (x3.trans x4))) rfl q4)
end
def Jn(X:š)(S:â):Prop:=∀st σ Q,S st σ Q->Ų X (exec st X.env) σ Q
def Kx{X:š}{P:Ť}{S:â}(H:Jn X S)(ss:List aG8) :∀{σ:St} {Q:ĵ},Ŧ P S ss σ Q->Ų X (execs ss X.env) σ Q:=
 aB4 (motive:=λss=>∀{σ:St} {Q:ĵ},Ŧ P S ss σ Q->Ų X (execs ss X.env) σ Q) (λ{σ Q} h G s R=>aA4 (.to (c':=⟨G,σ,s⟩) (af:=.next) (.refl R) rfl h)) (λst r ih σ Q h G s R=>by
  have go :∀{τ:St} {G':ħ},ù G s.heap G' s.heap->Ī X ⟨G',τ,s⟩->S st τ (λfl υ=>BS.rec (Ŧ P S r υ Q) (Q .brk υ) (Q .cont υ) (λv=>Q (.ret v) υ) fl)->ė X (execs (st::r) X.env) (At X G s.heap Q) s:=λ{τ G'} k R h=>by
   refine wpAny_execs_cons (ė.any (H st τ _ h G' s R) λfl s1 q=>?_)
   cases q with
   | mk G1 σ1 af k₁ R1 fr q=>
   have k₁:=k.trans k₁
   cases af with
   | next=>exact(show fl = .next from fr)▸At.up (ih q G1 s1 R1) k₁
   | brk=>exact(show fl = .brk from fr)▸⟨G1,σ1,.brk,k₁,R1,rfl,q⟩
   | cont=>exact(show fl = .cont from fr)▸⟨G1,σ1,.cont,k₁,R1,rfl,q⟩
   | ret a=>exact fr.elim λv r=>r.1▸⟨G1,σ1,.ret a,k₁,R1,⟨v,rfl,r.2⟩,q⟩
  have h:YI (P.wk st.pos) σ λτ=>S st τ (λfl υ=>BS.rec (Ŧ P S r υ Q) (Q .brk υ) (Q .cont υ) (λv=>Q (.ret v) υ) fl):=h
  unfold YI at h
  cases hw:P.wk st.pos with
  | false=>rw[hw]at h;exact go (.refl _ _) R h
  | true=>rw[hw]at h;exact h.elim λτ h=>(h.1 X G s R).elim λG' q=>go q.1 q.2 h.2) ss
end Mine
end
section
open PySem PySem.W PyProof.Rows PySem.Spec PySem.Calls
namespace Mine
def Bf:bQ4 "set_iterator" "__next__" "set_iterator.__next__":=
 .of (owner:="set_iterator") (n:="__next__") (by rw[aH3];rwa[aE2];rfl') (by decide +kernel) (by decide +kernel) (by decide +kernel)
  (by first | exact .inl (by decide +kernel) | exact .inr (by decide +kernel)) (by rw[aM0];rfl')
def En:bQ4 "set_iterator" "__iter__" "set_iterator.__iter__":=
 .of (owner:="set_iterator") (n:="__iter__") (by rw[aH3];rwa[aE2];rfl') (by decide +kernel) (by decide +kernel) (by decide +kernel)
  (by first | exact .inl (by decide +kernel) | exact .inr (by decide +kernel)) (by rw[aM0];rfl')
def EZ:aY5 table "set_iterator.__next__" = some aD8.«set_iterator.__next__»:=aT7 (by rfl')
def Jo:Manifest.owners.lookup (String.ofList ['r','o','t','a','r','e','t','i','_','t','e','s'].reverse)=some Manifest.sig_set_iterator:=by rfl'
def FJ(a:Value):aW7 "set_iterator.__next__" ⟨[a],[]⟩:=by
 unfold aW7;rwa[bH4 (id:="set_iterator.__next__") (n:=['_','_','t','x','e','n','_','_']) (o:=['r','o','t','a','r','e','t','i','_','t','e','s']) (by rfl') Jo];rfl'
def Gv:aY5 table "set.__iter__" = some aD8.«frozenset.__iter__»:=bG6 (id':="frozenset.__iter__") (by rfl') rfl (by decide +kernel) (by rfl')
theorem Ek{α:Type} :∀(l:List α) (i:Nat) (h:i<l.length),(l[i]::l.eraseIdx i).Perm l
 | x::xs,0,h=>.refl _
 | x::xs,i+1,h=>have h':i<xs.length:=bC4 h;(bD6.swap x xs[i] (xs.eraseIdx i)).trans (.cons x (Ek xs i h'))
def Uj{α:Type}(f:Nat->Nat) :∀(n k:Nat) (l:List α) (out:Array α),l.length=n->((bM8 f n k l out).toList).Perm (out.toList++l):=by
 intro ţ
 induction ţ with
 | zero=>
  intro k l out h
  obtain rfl:=aK9 h
  unfold bM8
  rw[aE1]
 | succ n ih=>
  intro k l out h
  unfold bM8
  have hl:f k%l.length<l.length:=bG7 _ (by exists 2,0x81181a028,h)
  rwa[aA9 hl]
  dsimp only
  refine(ih (k+1) _ _ (by rwa[List.length_eraseIdx_of_lt hl,h];rfl)).trans ?_
  rwa[bB5];rw[aD1]
  refine aV2 _ ?_
  exact Ek l _ hl
section
variable{prog:aF3}{w:aC9}{A:aH1}{E:Value->aA5->Prop}{s:aA5}{a I:aC2}{o:Obj}{es:Array (Int×Value)}{ep:Nat}{t:aI8}
def PL{src:Source}{n:Nat}{M:bH0}{Q:Nat->aA5->Prop}(hn:n≠0)(h :∀i d,i<n->Q i {s with drawn:=d}):aC8 M A (choose src n) Q E s:=λΓ p hΓ=>by
 unfold choose
 rw[Sem.wp_choose]
 exact⟨hn,h _ _ (bG7 _ (aZ7 hn))⟩
theorem N8{M:bH0}{α:Type} :∀(n:Nat) (l:List α) {s:aA5} {Q:List α->aA5->Prop},l.length=n->(∀l' d,l'.Perm l->Q l' {s with drawn:=d})->aC8 M A (drawOrder n l) Q E s
 | 0,l,s,Q,e,h=>by
  obtain rfl:=aK9 e
  exact aA4 (h [] s.drawn (.refl _))
 | n+1,[],s,Q,e,h=>by cases e
 | n+1,x::xs,s,Q,e,h=>by
  unfold drawOrder
  refine aA1 (PL (λz=>nomatch z) λi d hi=>?_)
  rwa[aA9 hi]
  refine aA1 (N8 n _ (by rwa[List.length_eraseIdx_of_lt hi,e];rfl) λl' d' p=>aA4 ?_)
  exact h _ d' ((bD6.cons _ p).trans (Ek _ i hi))
noncomputable abbrev SY(w:aC9):Bool:=w.params.followText "set-order"
def Df{Q:Bool->aA5->Prop}(h:Q (SY w) s):aC8 (aC6 prog w) A aX2 Q E s:=by
 unfold aX2
 exact aA1 (aR8 (aA4 h))
inductive FT(w:aC9)(h:aF2)(I a:aC2)(es:Array (Int×Value))(ep:Nat)(t:aI8)(ord:List (Int×Value))(i:Nat)(first:Value):Prop
 | text (ht:SY w=true) (hf:first = .int 0 0) (ho:ord=(pickOrder (w.params.setOrder a ep) es).toList)
 | plain (ht:SY w=false) (hp:(!t.plain&&decide (es.size>1))=false) (slot:Nat) (hf:first = .int slot 0) (ho:ord=es.toList) (hb:Xh t.place slot i)
 | drawn (ht:SY w=false) (hp:(!t.plain&&decide (es.size>1))=true) (tup:aC2) (ps:List Nat) (n:Nat) (hf:first = .ref tup) (hne:tup≠I) (hg:h.get? tup=some (Ab (ps.map λp:Nat=>.int (p:Int) 0) n)) (hq:ps.Perm (aK4 es.size)) (ho:ord=ps.filterMap (es[·]?))
noncomputable def Gr(first:Value)(i:Nat)(a:aC2)(n ep:Nat):Obj:={cls:=.type "set_iterator",data:=.fields #[first,.int i 0,.ref a,.int n 0,.int ep 0]}
def FT.perm{h:aF2}{ord:List (Int×Value)}{i:Nat}{first:Value}(m:FT w h I a es ep t ord i first):ord.Perm es.toList:=by
 cases m with
 | text ht hf ho=>subst ho;exact(Uj _ _ 0 es.toList #[] (by rwa[aF1];rfl)).trans (by simp)
 | plain ht hp slot hf ho hb=>exact ho▸.refl _
 | drawn ht hp tup ps n hf hne hg hq ho=>
  subst ho
  refine(hq.filterMap _).trans ?_
  rw[filterMap_getElem?_range]
structure G3(w:aC9)(h:aF2)(a:aC2)(es:Array (Int×Value))(ep:Nat)(t:aI8):Prop where
 ex :∃o,h.get? a=some o/\o.ExactSet/\o.data = .set es ep t
 fit:t.fits es.size=true
 tab:TP w t
 small:es.size<scanBound
def Bv{Q:Array (Int×Value)×Nat×aI8->aA5->Prop}(H:G3 w s.heap a es ep t)(h:Q (es,ep,t) s):aC8 (aC6 prog w) A (bE2 a) Q E s:=H.ex.elim λo q=>wpAny_setState_of q.1 q.2.2 H.fit h
def Du{Q:Array (Int×Value)->aA5->Prop}(H:G3 w s.heap a es ep t)(h:Q es s):aC8 (aC6 prog w) A (setEntries a) Q E s:=H.ex.elim λo q=>wpAny_setEntries_of q.1 q.2.2 H.fit h
def OJ{Q:Nat->aA5->Prop}(H:G3 w s.heap a es ep t)(h:Q ep s):aC8 (aC6 prog w) A (setEpoch a) Q E s:=H.ex.elim λo q=>wpAny_setEpoch_of q.1 q.2.2 H.fit h
def G3.keep{h h':aF2}(H:G3 w h a es ep t)(hk :∀o,h.get? a=some o->h'.get? a=some o):G3 w h' a es ep t:=⟨H.ex.imp λo q=>⟨hk o q.1,q.2⟩,H.fit,H.tab,H.small⟩
def RF{Q:Value->aA5->Prop}(H:G3 w s.heap a es ep t)(h :∀h' d I ord first,(∀b o,s.heap.get? b=some o->h'.get? b=some o)->s.heap.objs.size<=I->I+1=h'.objs.size->h'.get? I=some (Gr first 0 a es.size ep)->FT w h' I a es ep t ord 0 first->(∀tup,first = .ref tup->s.heap.objs.size<=tup/\tup<I)->Q (.ref I) {s with heap:=h',drawn:=d}) :
  aC8 (aC6 prog w) A (aS8 (.ref a)) Q E s:=by
 obtain⟨o,ho,hex,hd⟩:=H.ex
 have hT:s.TypeIs (.ref a) "set":=⟨o,ho,hex.1⟩
 refine bC3 hT F.slot_set_iter (aG7 F.slot_set_iter hT Gv ?_ (F.args_set_iter_1 _))
 unfold aD8.«frozenset.__iter__»
 refine aA1 (m:=aD8.Frozenset.slot0 _ _) (aA4 ?_)
 refine aA1 (m:=aD8.Frozenset.sizeOf a) ?_
 unfold aD8.Frozenset.sizeOf
 refine aA1 (m:=setEntries a) (Du H (aA4 ?_))
 refine aA1 (m:=setDrawn a) ?_
 unfold setDrawn
 refine aA1 (m:=bE2 a) (Bv H ?_)
 refine aA1 (m:=aX2) (Df (aA4 ?_))
 have fin :∀{s':aA5} {first:Value} {ord:List (Int×Value)},(∀b o,s.heap.get? b=some o->s'.heap.get? b=some o)->s.heap.objs.size<=s'.heap.objs.size->s'.gens=s.gens->s'.toks=s.toks->s'.os=s.os->(∀h',(∀b o,s'.heap.get? b=some o->h'.get? b=some o)->FT w h' s'.heap.objs.size a es ep t ord 0 first)->(∀tup,first = .ref tup->s.heap.objs.size<=tup/\tup<s'.heap.objs.size)->
   aC8 (aC6 prog w) A.in1 (do
    let e<-setEpoch a
    let v<-newFields "set_iterator" [first,aW4 0,.ref a,aW4 es.size,aW4 e]
    ret v) (λfin s'=>∃v,fin = .done (.ret v)/\∃T' r,s'.TypeIs v T'/\aI9 (.type T') (aA0 "__next__")=pure (some r)/\Q v s') E s':=λ{s' first ord} k1 k2 e1 e2 e3 hm ht=>by
  refine aA1 (m:=setEpoch a) (OJ (H.keep (k1 a)) (aA1 (aK7 ?_ (by size_fits))))
  refine aA4 ⟨_,rfl,"set_iterator",_,⟨_,aC4 _ rfl,rfl⟩,Bf.lookup,?_⟩
  have:=h (s'.heap.push (Gr first 0 a es.size ep)) s'.drawn s'.heap.objs.size ord first (λb o e=>aB1 _ (k1 b o e)) k2 (by rw[aE7]) (aC4 _ rfl) (hm _ λb o e=>aB1 _ e) ht
  obtain⟨h1,g1,d1,t1,Ŷ⟩:=s'
  dsimp only at e1 e2 e3 this ⊢
  subst e1;subst e2;subst e3
  exact this
 have ţ:Xh t.place 0 0:=⟨aD4 _,λi x h=>bQ8 h (aG0 i),λi x _ _=>aD4 x⟩
 cases hb:SY w with
 | true=>exact aA1 (m:=pure (aW4 0)) (aA4 (fin (s':=s) (first:=.int 0 0) (λ_ _ e=>e) (aA6 _) rfl rfl rfl (λh' _=>.text hb rfl rfl) λtup e=>nomatch e))
 | false=>
  cases hd2:(!t.plain&&decide (es.size>1))with
  | false=>
   change aC8 _ _ (if(!false&&(!t.plain&&decide (es.size>1)))=true then _ else _) _ _ _
   rwa[hd2]
   exact aA1 (m:=pure (aW4 0)) (aA4 (fin (s':=s) (first:=.int 0 0) (λ_ _ e=>e) (aA6 _) rfl rfl rfl (λh' _=>.plain hb hd2 0 rfl rfl ţ) λtup e=>nomatch e))
  | true=>
   change aC8 _ _ (if(!false&&(!t.plain&&decide (es.size>1)))=true then _ else _) _ _ _
   rwa[hd2]
   refine aA1 (m:=drawOrder es.size (aK4 es.size)) (N8 _ _ aT2 λps d hp=>?_)
   have hl:ps.length<=aY4:=by rwa[hp.length_eq,aT2];exact fits_of_scanBound H.small
   refine aA1 (wpAny_newTuple ?_ (by rw[aB5];exact hl))
   refine fin (s':={s with heap:=s.heap.push (Ab (ps.map λp:Nat=>.int (p:Int) 0) 0),drawn:=d}) (first:=.ref s.heap.objs.size) (ord:=ps.filterMap (es[·]?)) (λb o e=>aB1 _ e) (by show _<=(s.heap.push _).objs.size;rw[aE7];exact aI4 _) rfl rfl rfl (λh' k=>.drawn hb hd2 _ ps 0 rfl ?_ (k _ _ (aC4 _ rfl)) hp rfl) λtup e=>?_
   ·show s.heap.objs.size≠(s.heap.push _).objs.size
    rw[aE7];exact aE4 (aC1 _)
   ·cases e
    refine⟨aA6 _,?_⟩
    show _<(s.heap.push _).objs.size
    rw[aE7];exact aC1 _
def S0{h:aF2}{o1 o2:Obj}{b:aC2}(e1:h.get? b=some o1)(e2:h.get? b=some o2):o1=o2:=aA3 (e1.symm.trans e2)
def JG{h:aF2}{vs:Array Value}(j:Nat)(x:Value)(e:h.get? I=some {cls:=.type "set_iterator",data:=.fields vs}):(h.update I (bH8 (·.setIfInBounds j x))).get? I=some {cls:=.type "set_iterator",data:=.fields (vs.setIfInBounds j x)}:=
 aJ8 _ e rfl
def tU(prog:aF3)(w:aC9)(A:aH1)(Q:Option Value->aA5->Prop)(E:Value->aA5->Prop)(x:Except Value (Option Value))(s':aA5):Prop:=aC8 (aC6 prog w) A (match x with
  | .ok (some v)=>pure (some v)
  | .ok none=>unsupported "iter:the-iterator's-class-has-lost-its-__next__-amid-the-walk"
  | .error e=>do if<-aZ9 e (.type "StopIteration")then pure none else throw e) Q E s'
def wC(prog:aF3)(w:aC9)(A:aH1)(Q:Option Value->aA5->Prop)(E:Value->aA5->Prop)(fin:Fin)(s':aA5):Prop:=∃r,fin = .done (.ret r)/\tU prog w A Q E (.ok (some r)) s'
def US{Q:Option Value->aA5->Prop}{ord:List (Int×Value)}{i:Nat}{first:Value}{e:Int×Value}(hI:s.heap.get? I=some (Gr first i a es.size ep))(m:FT w s.heap I a es ep t ord i first)(H:G3 w s.heap a es ep t)(hx:ord[i]?=some e)
  (h :∀h' first',h'.get? I=some (Gr first' (i+1) a es.size ep)->FT w h' I a es ep t ord (i+1) first'->(∀tup,first' = .ref tup->first = .ref tup)->aG3 I s.heap h'->Q (some e.2) {s with heap:=h'}):aC8 (aC6 prog w) A (aV4 (.ref I)) Q E s:=by
 have hT:s.TypeIs (.ref I) "set_iterator":=⟨_,hI,rfl⟩
 unfold aV4
 refine aA1 (aU9 (aJ0 (name:=aA0 "__next__") hT Bf (aG7 Bf hT EZ ?_ (FJ _))))
 unfold aD8.«set_iterator.__next__»
 refine aA1 (m:=slotArgs _ _ _) (aA4 ?_)
 refine aA1 (m:=fieldsOf _) (wpAny_fieldsOf hI rfl ?_)
 refine aA1 (m:=setEntries a) (Du H ?_)
 show aC8 _ _ (if((es.size:Int) != (es.size:Int))=true then _ else _) _ _ _
 rwa[bQ7 (by simp)]
 have two :∀{x:Value} {nx:Value},FT w ((s.heap.update I (bH8 (·.setIfInBounds 0 nx))).update I (bH8 (·.setIfInBounds 1 (aW4 ((i:Int)+1))))) I a es ep t ord (i+1) nx->(∀tup,nx = .ref tup->first = .ref tup)->aC8 (aC6 prog w) A.in1 (do
    setField (.ref I) 0 nx
    setField (.ref I) 1 (aW4 ((i:Int)+1))
    ret e.2) (wC prog w A Q E) (λe s'=>tU prog w A Q E (.error e) s') s:=λ{x nx} q1 õ=>by
  have g1:=JG 0 nx hI
  refine aA1 (aM9 hI rfl (by simp) ?_)
  refine aA1 (aM9 (s:={s with heap:=_}) g1 rfl (by simp) ?_)
  exact aA4 ⟨_,rfl,aA4 (h _ nx (JG 1 _ g1) q1 õ ((aI5 ..).trans (aI5 ..)))⟩
 cases m with
 | text ht hf ho=>
  subst hf
  refine aA1 (m:=setNext _ _ _ _) ?_
  unfold setNext
  refine aA1 (m:=bE2 a) (Bv H ?_)
  refine aA1 (m:=aX2) (Df ?_)
  rwa[ht]
  show aC8 _ _ (if(ep != (ep:Int).toNat)=true then _ else _) _ _ _
  rwa[bQ7 (by simp)]
  refine aA1 (m:=setWalk a) ?_
  unfold setWalk
  refine aA1 (m:=bE2 a) (Bv H ?_)
  refine aA1 (m:=aX2) (Df ?_)
  rwa[ht]
  refine aA1 (m:=ask) (aR8 (aA4 (aA4 ?_)))
  have hx':(pickOrder (w.params.setOrder a ep) es)[(i:Int).toNat]?=some e:=by
   rw[aG5];rwa[(aI2).symm,ho.symm];exact hx
  show aC8 _ _ (match((pickOrder (w.params.setOrder a ep) es)[(i:Int).toNat]?).map λe=>(e.2,(0:Int).toNat)with | some (x,next)=>_ | none=>_) _ _ _
  rwa[hx']
  exact two (x:=e.2) (.text ht rfl ho) λtup z=>nomatch z
 | plain ht hp slot hf ho hb=>
  subst hf;subst ho
  have hz:t.place.size=es.size:=by
   have:=H.fit
   unfold aI8.fits at this
   exact aD3 (aI6.mp this).1
  have hi:i<es.size:=by rwa[aF1.symm];exact(aB3.mp hx).1
  have hpl:t.place[i]?=some (t.place[i]'(hz.symm▸hi)):=aB9 _
  generalize t.place[i]'(hz.symm▸hi)=j at hpl
  refine aA1 (m:=setNext _ _ _ _) ?_
  unfold setNext
  refine aA1 (m:=bE2 a) (Bv H ?_)
  refine aA1 (m:=aX2) (Df ?_)
  rwa[ht]
  show aC8 _ _ (if(!t.plain&&decide (es.size>1))=true then _ else _) _ _ _
  rwa[hp]
  show aC8 _ _ ((if(!t.led && !es.isEmpty)=true then _ else _) >>= _) _ _ _
  rwa[show t.led=true from H.tab.2.trans (bQ5 not ht)]
  refine aA1 (aA4 ?_)
  have hbel:aG9 t.place (slot:Int).toNat=i:=by rw[aG5];exact(H6 H.tab.1 slot).one hb
  show aC8 _ _ (pure (match es[aG9 t.place (slot:Int).toNat]?,t.place[aG9 t.place (slot:Int).toNat]? with | some (_,x),some j=>some (x,j+1) | _,_=>none)) _ _ _
  rwa[hbel,hpl,show es[i]?=some e by refine s6 (aI2).symm ?_;exact hx]
  refine aA4 ?_
  refine two (x:=e.2) (nx:=.int ((j+1:Nat):Int) 0) (.plain ht hp (j+1) rfl rfl ⟨hz.symm▸hi,λb x hb' hx'=>?_,λb x hb' hx'=>H.tab.1.at hpl hx' hb'⟩) λtup z=>nomatch z
  rcases aT1 b i with q | q
  ·exact aI1 (H.tab.1.at hx' hpl q)
  ·obtain rfl:b=i:=aO4 (aT3 hb') q
   rw[hpl]at hx';cases hx';exact aC1 _
 | drawn ht hp tup ps n hf hne hg hq ho=>
  subst hf;subst ho
  have ů :∀(l:List Nat),(∀p∈l,p<es.size)->∀i:Nat,(l.filterMap (es[·]?))[i]?=(l[i]?).bind (es[·]?):=λl=>by
   induction l with
   | nil=>intro _ i;rfl
   | cons p r ih=>
    intro hl i
    have hp:p<es.size:=hl p (aC0 ..)
    rwa[bF2,aB9 hp]
    cases i with
    | zero=>exact(aB9 hp).symm
    | succ i=>exact ih (λq hq=>hl q (aC7 _ hq)) i
  have hx:=(ů ps (λp hp=>bK1.mp (hq.mem_iff.mp hp)) i).symm.trans hx
  obtain⟨p,hp1,hp2⟩:=Option.bind_eq_some_iff.mp hx
  have gp:((ps.map λp:Nat=>bD7 (p:Int) 0).toArray)[(i:Int).toNat]?=some (.int (p:Int) 0):=by
   rw[aG5];rwa[aE3,aD6,hp1];rfl
  refine aA1 (m:=seqItems? _) (aS5 hg rfl ?_)
  show aC8 _ _ (match((ps.map λp:Nat=>bD7 (p:Int) 0).toArray)[(i:Int).toNat]? with | some (.int place _)=>_ | some _=>_ | none=>_) _ _ _
  rwa[gp]
  refine aA1 (m:=setNextDrawn _ _ _) ?_
  unfold setNextDrawn
  refine aA1 (m:=bE2 a) (Bv H ?_)
  show aC8 _ _ (if(ep != (ep:Int).toNat)=true then _ else _) _ _ _
  rwa[bQ7 (by simp)]
  show aC8 _ _ (match es[(p:Int).toNat]? with | some (_,x)=>_ | _=>_) _ _ _
  rw[aG5];rwa[hp2]
  refine aA4 ?_
  refine aA1 (aM9 hI rfl (by simp) ?_)
  exact aA4 ⟨_,rfl,aA4 (h _ (.ref tup) (JG 1 _ hI) (.drawn ht hp tup ps n rfl hne ((aJ5 _ _ hne.symm).trans hg) hq rfl) (λ_ z=>z) (aI5 ..))⟩
def Jd{β:Type}{P:β->aA5->Prop}{Q:Option Value->aA5->Prop}{h1:aF2}(hh:A.handled=none)(hx:bA7 I s.heap h1)(h :∀h',bA7 I s.heap h'->Q none {s with heap:=h'}) :
  aC8 (aC6 prog w) A.in1 (do let e<-newExc (.type "StopIteration") [];raiseNew e) P (λe s'=>aC8 (aC6 prog w) A (match(Except.error e:Except Value (Option Value))with
  | .ok (some v)=>pure (some v)
  | .ok none=>unsupported "iter:the-iterator's-class-has-lost-its-__next__-amid-the-walk"
  | .error e=>do if<-aZ9 e (.type "StopIteration")then pure none else throw e) Q E s') {s with heap:=h1}:=by
 refine aA1 ?_
 simp only[newExc,newTuple]
 refine aA1 (aK7 ?_ (by size_fits))
 refine aA1 (m:=aW5 _ _) (aW6 (a:=aN3) (by first | rfl | (simp only[aW5];rfl)) ?_)
 refine aK7 ?_ (by size_fits)
 simp only[raiseNew]
 refine aA1 (bL5 ?_)
 rwa[show A.in1.handled=none from hh]
 refine aA1 (aA4 (bN5 ?_))
 refine aA1 (aX7 (T:="StopIteration") (b:=true) ⟨_,aC4 _ rfl,rfl⟩ bK4 ?_)
 exact aA4 (h _ ((hx.push _).push _))
def WX{Q:Option Value->aA5->Prop}{ord:List (Int×Value)}{first:Value}(hh:A.handled=none)(hI:s.heap.get? I=some (Gr first es.size a es.size ep))(m:FT w s.heap I a es ep t ord es.size first)(H:G3 w s.heap a es ep t)
  (h :∀h',bA7 I s.heap h'->Q none {s with heap:=h'}):aC8 (aC6 prog w) A (aV4 (.ref I)) Q E s:=by
 have hT:s.TypeIs (.ref I) "set_iterator":=⟨_,hI,rfl⟩
 have hl:=m.perm.length_eq
 rw[aF1]at hl
 unfold aV4
 refine aA1 (aU9 (aJ0 (name:=aA0 "__next__") hT Bf (aG7 Bf hT EZ ?_ (FJ _))))
 unfold aD8.«set_iterator.__next__»
 refine aA1 (m:=slotArgs _ _ _) (aA4 ?_)
 refine aA1 (m:=fieldsOf _) (wpAny_fieldsOf hI rfl ?_)
 refine aA1 (m:=setEntries a) (Du H ?_)
 show aC8 _ _ (if((es.size:Int) != (es.size:Int))=true then _ else _) _ _ _
 rwa[bQ7 (by simp)]
 have up :∀(j:Nat) (x:Value),bA7 I s.heap (s.heap.update I (bH8 (·.setIfInBounds j x))):=λj x=>(aI5 ..).extBut
 cases m with
 | text ht hf ho=>
  subst hf
  refine aA1 (m:=setNext _ _ _ _) ?_
  unfold setNext
  refine aA1 (m:=bE2 a) (Bv H ?_)
  refine aA1 (m:=aX2) (Df ?_)
  rwa[ht]
  show aC8 _ _ (if(ep != (ep:Int).toNat)=true then _ else _) _ _ _
  rwa[bQ7 (by simp)]
  refine aA1 (m:=setWalk a) ?_
  unfold setWalk
  refine aA1 (m:=bE2 a) (Bv H ?_)
  refine aA1 (m:=aX2) (Df ?_)
  rwa[ht]
  refine aA1 (m:=ask) (aR8 (aA4 (aA4 ?_)))
  have hx':(pickOrder (w.params.setOrder a ep) es)[(es.size:Int).toNat]?=none:=by
   rw[aG5];rwa[(aI2).symm,ho.symm];exact aH6 (aB7 hl)
  show aC8 _ _ (match((pickOrder (w.params.setOrder a ep) es)[(es.size:Int).toNat]?).map λe=>(e.2,(0:Int).toNat)with | some (x,next)=>_ | none=>_) _ _ _
  rwa[hx']
  exact aA1 (aM9 hI rfl (by simp) (Jd (s:=s) hh (up 2 .none) h))
 | plain ht hp slot hf ho hb=>
  subst hf;subst ho
  refine aA1 (m:=setNext _ _ _ _) ?_
  unfold setNext
  refine aA1 (m:=bE2 a) (Bv H ?_)
  refine aA1 (m:=aX2) (Df ?_)
  rwa[ht]
  show aC8 _ _ (if(!t.plain&&decide (es.size>1))=true then _ else _) _ _ _
  rwa[hp]
  show aC8 _ _ ((if(!t.led && !es.isEmpty)=true then _ else _) >>= _) _ _ _
  rwa[show t.led=true from H.tab.2.trans (bQ5 not ht)]
  refine aA1 (aA4 ?_)
  have hbel:aG9 t.place (slot:Int).toNat=es.size:=by rw[aG5];exact(H6 H.tab.1 slot).one hb
  show aC8 _ _ (pure (match es[aG9 t.place (slot:Int).toNat]?,t.place[aG9 t.place (slot:Int).toNat]? with | some (_,x),some j=>some (x,j+1) | _,_=>none)) _ _ _
  rwa[hbel,Array.getElem?_eq_none (aA6 es.size)]
  refine aA4 ?_
  exact aA1 (aM9 hI rfl (by simp) (Jd (s:=s) hh (up 2 .none) h))
 | drawn ht hp tup ps n hf hne hg hq ho=>
  subst hf
  have gp:((ps.map λp:Nat=>bD7 (p:Int) 0).toArray)[(es.size:Int).toNat]?=none:=by
   rw[aG5];rwa[aE3]
   exact aH6 (aB7 ((aB5 ..).trans (hq.length_eq.trans aT2)))
  refine aA1 (m:=seqItems? _) (aS5 hg rfl ?_)
  show aC8 _ _ (match((ps.map λp:Nat=>bD7 (p:Int) 0).toArray)[(es.size:Int).toNat]? with | some (.int place _)=>_ | some _=>_ | none=>_) _ _ _
  rwa[gp]
  have g1:=JG 0 (aW4 0) hI
  refine aA1 (aM9 hI rfl (by simp) ?_)
  refine aA1 (aM9 (s:={s with heap:=_}) g1 rfl (by simp) ?_)
  exact Jd (s:=s) hh (((aI5 ..).trans (aI5 ..)).extBut) h
end
end Mine
end
section
open PySem PySem.W PyProof.Rows PySem.Spec PySem.Calls PySem.SeqAt
namespace Mine
def Lu{x y:Nat}{o:Ř}{H:List (Nat×Ř)}:(IX x H).lookup y=some o->y≠x/\H.lookup y=some o:=by
 refine aB4 (motive:=λH=>(IX x H).lookup y=some o->y≠x/\H.lookup y=some o) AA (λp r ih e=>?_) H
 have e:(bif aE6 p.1 x then IX x r else p::IX x r).lookup y=some o:=e
 cases hp:aE6 p.1 x with
 | true=>
  rw[hp]at e
  have q:=ih e
  refine⟨q.1,?_⟩
  rewrite [AQ];rwa[show(y==p.1)=false from beq_eq_false_iff_ne.mpr λz=>q.1 (z.trans (aB8 hp))]
  exact q.2
 | false=>
  rw[hp]at e
  have e:(p::IX x r).lookup y=some o:=e
  rw[AQ]at e ⊢
  cases hy:y==p.1 with
  | true=>
   rw[hy]at e
   exact⟨λz=>by rw[<-aD3 hy,z]at hp;exact aR9 (hp.symm.trans (Nat.beq_refl x)),e⟩
  | false=>rw[hy]at e;exact ih e
def š.lk(X:š)(c:Ĳ)(x:Nat):š:=⟨X.L,X.A,X.env,c.s.heap,X.h₀,c.G.put (c.G.μ x) .lock,c.σ.n,X.gens,X.os⟩
def Ĳ.lk(c:Ĳ)(x:Nat):Ĳ:=⟨c.G.put (c.G.μ x) .lock,c.σ.hid x,c.s⟩
section
variable{X:š}{c:Ĳ}{x:Nat}{o:Ř}
def Rh(R:Ī X c)(hx:c.σ.H.lookup x=some o):Dl c (c.lk x):=
 ⟨λa b e q=>⟨e,λz=>(ħ.put_own z).elim (λz=>q (z▸A0 (R.obj x o hx).tag)) q⟩,λ_ _=>⟨rfl,rfl⟩,aA6 _⟩
theorem Ī.lk(R:Ī X c)(hx:c.σ.H.lookup x=some o):Ī (X.lk c x) (c.lk x):=
 have p:=Rh R hx
 have tx:=(R.obj x o hx).tag
 have ne :∀{a q},c.G.tag a=some q->q≠.obj x->(c.G.put (c.G.μ x) .lock).tag a=some q:=λe h=>(ħ.put_ne (EG e tx h)).trans e
 {base:=R.base
  keep:=λb o e _=>e
  size:=aA6 _
  mutHs:=λa e=>.inl e
  ownB:=λa e=>(ħ.put_own e).elim (λz=>z▸R.ownB _ (A0 tx)) (R.ownB a)
  ownLt:=λa e=>(ħ.put_own e).elim (λz=>z▸R.ownLt _ (A0 tx)) (R.ownLt a)
  gens:=R.gens
  os:=R.os
  loc:=R.loc.casesOn λm hm r=>⟨m,hm,λx av e1 e2=>(r x av e1 e2).imp λv q=>⟨q.1,p.v q.2⟩⟩
  cel:=λx a e=>(R.cel x a e).casesOn λv hv r=>⟨v,hv,λav e1 e2=>(r av e1 e2).imp λu q=>⟨q.1,p.v q.2⟩⟩
  celAll:=R.celAll
  tloc:=ne R.tloc λz=>nomatch z
  tcel:=λx a e=>ne (R.tcel x a e) λz=>nomatch z
  obj:=λy o' e=>by
   obtain⟨h1,h2⟩:=Lu e
   have q:=p.obj (X:=X) (ne (R.obj y o' h2).tag λz=>h1 (by cases z;rfl)) (λ_ e=>e) (λz=>⟨λ_ e=>e,ne z λz=>nomatch z⟩) (R.obj y o' h2)
   exact⟨q.1,q.2,q.3⟩
  anc:=⟨aA6 _,aA6 _,λ_ _=>⟨rfl,rfl⟩⟩
  bsz:=R.bsz}
def Bx.keep1{L:Bt}{G G':ħ}{h h':aF2}{n n':Nat}(k:CZ G h G' h')(hg :∀z,z<n->A2 L G' h' n' (.ref z) (.ref (G.μ z)))(e1:G'.μ x=G.μ x)(h1 :∀o,h.get? (G.μ x)=some o->h'.get? (G.μ x)=some o)(ho:o.two=false)(q:Bx L G h n x o):Bx L G' h' n' x o:=by
 have hg' :∀z w,(λz=>some (ű.ref z)) z=some w->z<n->A2 L G' h' n' w (.ref (G.μ z)):=λz w e hz=>by cases e;exact hg z hz
 cases o with
 | list vs=>exact Hh.imp (λb p=>e1.symm▸(Id .lst b).keep h1 p) (λb r=>AW.sub k hg' (D1 vs) r) q
 | dict vs=>exact Hh.imp (λb p=>e1.symm▸(FO b).keep h1 p) (λb r=>AZ.sub k hg' (D8 vs) r) q
 | set ks=>exact(e1.symm▸(HF ks).keep h1 q:L.set h' (G'.μ x) ks)
 | tab b=>exact(e1.symm▸q.imp λo q=>⟨h1 o q.1,q.2⟩ :∃o,h'.get? (G'.μ x)=some o/\∃ps:Array Value,o = {cls:=.none,data:=.fields ps}/\(b=false->ps = #[]))
 | inst C at_=>cases ho
def Ī.unlk(R:Ī X c)(hx:c.σ.H.lookup x=some o)(ho:o.two=false){G':ħ}{τ:St}{s':aA5}(k:ù (c.lk x).G c.s.heap G' s'.heap)(R':Ī (X.lk c x) ⟨G',τ,s'⟩) :
  ù c.G c.s.heap (G'.put (c.G.μ x) (.obj x)) s'.heap/\Ī X ⟨G'.put (c.G.μ x) (.obj x),⟨τ.ρ,Ah τ.H x o,τ.n,c.σ.anc⟩,s'⟩:=by
 have tx:=(R.obj x o hx).tag
 have lx:(c.lk x).G.tag (c.G.μ x)=some .lock:=ħ.put_at
 have tl:G'.tag (c.G.μ x)=some .lock:=k.lock _ lx
 have ltx:=(R.obj x o hx).lt
 have pin :∀i,i<c.σ.n->G'.μ i=c.G.μ i/\G'.δ i=c.G.δ i:=λi hi=>R'.anc.2.2 i hi
 have hn:c.σ.n<=τ.n:=aA2 R'.anc.1 R'.anc.2.1
 have mtl :∀{a},(c.lk x).G.mt a->c.G.mt a:=λ{a} z=>z.elim λp q=>by
  by_cases e:a=c.G.μ x
  ·subst e;exact bQ8 (aA3 (q.1.symm.trans lx)) q.2
  ·exact⟨p,(ħ.put_ne e).symm.trans q.1,q.2⟩
 have ownl :∀{a},(c.lk x).G.own a->c.G.own a:=λ{a} z=>(ħ.put_own z).elim (λe=>by rwa[e];exact A0 tx) id
 have ne :∀{a q},G'.tag a=some q->q≠.lock->(G'.put (c.G.μ x) (.obj x)).tag a=some q:=λe h=>(ħ.put_ne (EG e tl h)).trans e
 have hk :∀b o,c.s.heap.get? b=some o->¬ c.G.mt b\/b=c.G.μ x->s'.heap.get? b=some o:=λb o e q=>k.keep b o e λz=>q.elim (λq=>q (mtl z)) λq=>by
  subst q
  exact z.elim λp z=>z.2 (aA3 (z.1.symm.trans lx))
 have mtu :∀{a},(G'.put (c.G.μ x) (.obj x)).mt a->a=c.G.μ x\/G'.mt a:=λ{a} z=>(aP7 (a=c.G.μ x)).imp id λe=>z.imp λp q=>⟨(ħ.put_ne e).symm.trans q.1,q.2⟩
 have p:Dl ⟨G',τ,s'⟩ ⟨G'.put (c.G.μ x) (.obj x),⟨τ.ρ,Ah τ.H x o,τ.n,c.σ.anc⟩,s'⟩:=⟨λa b e q=>⟨e,λz=>(ħ.put_own z).elim (λz=>q (z▸A0 tl)) q⟩,λ_ _=>⟨rfl,rfl⟩,aA6 _⟩
 have kp:ù c.G c.s.heap (G'.put (c.G.μ x) (.obj x)) s'.heap:=⟨λb o e q=>hk b o e (.inl q),λa e=>(ħ.put_own e).elim (λe=>.inl (by rwa[e];exact A0 tx)) λz=>(k.own a z).imp ownl id,
  λa e=>(mtu e).elim (λe=>.inl (by rwa[e];exact Dg tx λz=>nomatch z)) λz=>(k.mt a z).imp mtl id,k.size,λa e=>
   have na:a≠c.G.μ x:=EG e tx λz=>nomatch z
   (ħ.put_ne na).trans (k.lock a ((ħ.put_ne na).trans e))⟩
 refine⟨kp,{
  base:=R'.base
  keep:=λb o e q=>kp.keep b o (R.keep b o e q) λz=>(R.mutHs b z).elim q (Cs e)
  size:=aA2 R.size kp.size
  mutHs:=λa z=>(kp.mt a z).elim (R.mutHs a) λw=>.inr (aA2 R.size w)
  ownB:=λa e=>(ħ.put_own e).elim (λe=>by rwa[e];exact R.ownB _ (A0 tx)) (R'.ownB a)
  ownLt:=λa e=>(ħ.put_own e).elim (λe=>by rwa[e];exact aB2 (R.ownLt _ (A0 tx)) kp.size) (R'.ownLt a)
  gens:=R'.gens
  os:=R'.os
  loc:=R'.loc.casesOn λm hm r=>⟨m,hm,λx av e1 e2=>(r x av e1 e2).imp λv q=>⟨q.1,p.v (X:=X) q.2⟩⟩
  cel:=λx a e=>(R'.cel x a e).casesOn λv hv r=>⟨v,hv,λav e1 e2=>(r av e1 e2).imp λu q=>⟨q.1,p.v (X:=X) q.2⟩⟩
  celAll:=R'.celAll
  tloc:=ne R'.tloc λz=>nomatch z
  tcel:=λx a e=>ne (R'.tcel x a e) λz=>nomatch z
  obj:=λy o' e=>Br e (λhy hw=>?_) λhy e=>?_
  anc:=⟨aA2 R.anc.1 (aA6 _),aA2 R.anc.2.1 hn,λi hi=>
   have hi':i<c.σ.n:=aB2 hi (aA2 R.anc.1 R.anc.2.1)
   ⟨(pin i hi').1.trans (R.anc.2.2 i hi).1,(pin i hi').2.trans (R.anc.2.2 i hi).2⟩⟩
  bsz:=R'.bsz}⟩
 ·subst hy;subst hw
  refine⟨aB2 ltx hn,(bQ5 _ (pin y ltx).1).trans ħ.put_at,Bx.keep1 (λa b e q=>?_) (λz hz=>⟨bQ5 aO3 (pin z hz).1.symm,aB2 hz hn⟩) (pin y ltx).1 (λo e=>hk _ o e (.inr rfl)) ho (R.obj y o hx).rel⟩
  exact⟨hk a b e (.inl λz=>q (ħ.mt_own z)),λz=>(kp.own a z).elim q (Cs e)⟩
 ·have q:=R'.obj y o' e
  have q':=p.obj (X:=X) (c:=⟨G',τ,s'⟩) (ne q.tag λz=>nomatch z) (λ_ e=>e) (λz=>⟨λ_ e=>e,ne z λz=>nomatch z⟩) ⟨q.1,q.2,q.3⟩
  exact⟨q'.1,q'.2,q'.3⟩
end
def Hp:aY5 table "set_iterator.__iter__" = some aD8.«dict_keyiterator.__iter__»:=bG6 (id':="dict_keyiterator.__iter__") (by rfl') rfl (by decide +kernel) (by rfl')
def I4(a:Value):aW7 "set_iterator.__iter__" ⟨[a],[]⟩:=by
 unfold aW7;rwa[bH4 (id:="set_iterator.__iter__") (n:=['_','_','r','e','t','i','_','_']) (o:=['r','o','t','a','r','e','t','i','_','t','e','s']) (by rfl') Jo];rfl'
def TQ{prog:aF3}{w:aC9}{A:aH1}{E:Value->aA5->Prop}{s:aA5}{I a:aC2}{first:Value}{i n ep:Nat}{Q:Value->aA5->Prop}(ho:s.heap.get? I=some (Gr first i a n ep))(hQ:Q (.ref I) s):aC8 (aC6 prog w) A (aS8 (.ref I)) Q E s:=by
 have hT:s.TypeIs (.ref I) "set_iterator":=⟨_,ho,rfl⟩
 refine bC3 hT En (aG7 En hT Hp ?_ (I4 _))
 show aC8 _ _ (ret (.ref I)) _ _ s
 exact aA4 ⟨_,rfl,"set_iterator",_,hT,Bf.lookup,hQ⟩
noncomputable def ħ.news(G:ħ)(lo hi:Nat):ħ:=⟨λb=>bif aX9 lo b&&bM9 b hi then some .lock else G.tag b,G.μ,G.δ⟩
def Kj{G:ħ}{lo hi b:Nat}(h:b<lo):(G.news lo hi).tag b=G.tag b:=by
 show(bif aX9 lo b&&bM9 b hi then some AR.lock else G.tag b)=_
 rwa[show aX9 lo b=false from by rw[aQ1];exact λz=>bQ8 (aL4 z) (bP2.mpr h)];rfl
def Nc{G:ħ}{lo hi b:Nat}(h1:lo<=b)(h2:b<hi):(G.news lo hi).tag b=some .lock:=by
 show(bif aX9 lo b&&bM9 b hi then some AR.lock else G.tag b)=_
 rwa[show aX9 lo b=true from Nat.ble_eq_true_of_le h1,show bM9 b hi=true from Nat.ble_eq_true_of_le h2];rfl
def Pv{G:ħ}{lo hi b:Nat}(h:(G.news lo hi).own b):b<hi\/G.own b:=by
 by_cases z:lo<=b/\b<hi
 ·exact .inl z.2
 ·refine .inr λq=>h ?_
  show(bif aX9 lo b&&bM9 b hi then some AR.lock else G.tag b)=_
  cases h1:aX9 lo b&&bM9 b hi with
  | false=>exact q
  | true=>exact bQ8 ⟨aL4 (AH h1).1,aL4 (AH h1).2⟩ z
section
variable{X:š}{c:Ĳ}
structure g9(w:aC9)(hs:aF2)(I a:aC2)(es:Array (Int×Value))(ep:Nat)(t:aI8)(ord:List (Int×Value))(i:Nat)(G:ħ)(h:aF2):Prop where
 lk:HL hs G [I]
 la:G.tag a=some .lock
 has:G3 w h a es ep t
 it :∃first,h.get? I=some (Gr first i a es.size ep)/\FT w h I a es ep t ord i first/\∀tup,first = .ref tup->G.tag tup=some .lock
 ne:a≠I
def eK{I a:aC2}{es:Array (Int×Value)}{ep:Nat}{t:aI8}{ord:List (Int×Value)}{ks:List AC}(hh:X.A.handled=none)(hp:ord.length=es.size)(hk:ks.length=ord.length/\∀(i:Nat) k e,ks[i]?=some k->ord[i]?=some e->A7 k e.2=true)(target:Expr) :
  Ke X target I [I] (ks.map .key) (g9 X.L.w X.hs I a es ep t ord) where
 frame:=λi G h G' h' x kp=>by
  obtain⟨first,q1,õ,q3⟩:=x.it
  have kk :∀b o,G.tag b=some .lock->h.get? b=some o->h'.get? b=some o:=λb o e=>kp.lk e o
  refine⟨x.lk.frame kp,kp.lock _ x.la,x.has.keep λo=>kk _ o x.la,⟨first,kk _ _ (x.lk I (aA7.mpr rfl)).1 q1,?_,λtup e=>kp.lock _ (q3 tup e)⟩,x.ne⟩
  cases õ with
  | text ht hf ho=>exact .text ht hf ho
  | plain ht hp slot hf ho hb=>exact .plain ht hp slot hf ho hb
  | drawn ht hp tup ps n hf hne hg hq ho=>exact .drawn ht hp tup ps n hf hne (kk _ _ (q3 tup hf) hg) hq ho
 item:=λi c R hi x=>by
  rw[aB5]at hi
  obtain⟨first,q1,õ,q3⟩:=x.it
  have e1:ord[i]?=some (ord[i]'(hk.1▸hi)):=aA9 _
  refine US (s:=c.s) q1 õ x.has e1 λh' first' y1 y2 y3 y4=>⟨_,rfl,?_⟩
  have kk :∀a o,a∉[I]->c.s.heap.get? a=some o->h'.get? a=some o:=λa o ha e=>(y4.2 a (Pe ha)).trans e
  have q:=R.lockAt x.lk (t:=c.s.toks) kk (aB7 y4.1.symm)
  have na:a∉[I]:=λz=>x.ne (aA7.mp z)
  exact DA (s:={c.s with heap:=h'}) (T:="set_iterator") y1 rfl rfl (by decide) ⟨.key (ks[i]'hi),by rwa[aD6,aA9 hi];rfl,hk.2 i _ _ (aA9 hi) e1,q.2,⟨x.lk,x.la,x.has.keep λo=>kk a o na,⟨first',y1,y2,λtup e=>q3 tup (y3 tup e)⟩,x.ne⟩,kk,aB7 y4.1.symm⟩
 done:=λc R x=>by
  obtain⟨first,q1,õ,q3⟩:=x.it
  rw[aB5,hk.1,hp]at q1 õ
  exact E0 (WX (s:=c.s) hh q1 õ x.has λh' y1 sz=>
   have kk :∀a o,a∉[I]->c.s.heap.get? a=some o->h'.get? a=some o:=λa o ha e=>y1 a o (Pe ha) e
   ⟨rfl,(R.lockAt x.lk (t:=c.s.toks) kk sz).2,kk,sz⟩)
theorem Jv :∀(ks ks':List AC),ks.Nodup->ks ⊆ ks'->ks'.length<=ks.length->ks'.Perm ks
 | [],ks',_,_,h=>by rwa[aK9 (Nat.le_zero.mp h)];rfl
 | k::r,ks',hn,hs,hl=>by
  have hk:=hs (aC0 ..)
  have hn:=aZ3.mp hn
  refine(List.perm_cons_erase hk).trans (.cons k (Jv r _ hn.2 (λx hx=>(List.mem_erase_of_ne λe:x=k=>hn.1 (e▸hx)).mpr (hs (aC7 _ hx))) ?_))
  rwa[List.length_erase_of_mem hk]
  exact Nat.sub_le_of_le_add hl
def Ud{prog:aF3}{w:aC9}{es:Array (Int×Value)}{ord:List (Int×Value)}{ks:List AC}(hel:bQ0 (A8 prog w) es.toList)(hm :∀k,decide (k∈ks)=true↔∃e∈es.toList,A7 k e.2=true)(hn:ks.Nodup)(hl:es.size=ks.length)(hp:ord.Perm es.toList) :
  ∃ks':List AC,ks'.Perm ks/\ks'.length=ord.length/\∀(i:Nat) k e,ks'[i]?=some k->ord[i]?=some e->A7 k e.2=true:=by
 have all :∀l:List (Int×Value),(∀e∈l,∃k,A7 k e.2=true)->∃ks':List AC,ks'.length=l.length/\∀(i:Nat) k e,ks'[i]?=some k->l[i]?=some e->A7 k e.2=true:=λl=>by
  induction l with
  | nil=>exact λ_=>⟨[],rfl,λi k e h=>nomatch h⟩
  | cons e r ih=>
   intro h
   obtain⟨k,hk⟩:=h e (aC0 ..)
   obtain⟨ks',h1,h2⟩:=ih λe he=>h e (aC7 _ he)
   refine⟨k::ks',bQ5 aS3 h1,λi k' e' q1 õ=>?_⟩
   cases i with
   | zero=>cases q1;cases õ;exact hk
   | succ i=>exact h2 i k' e' q1 õ
 obtain⟨ks',h1,h2⟩:=all ord λe he=>hel.keys e (hp.mem_iff.mp he)
 refine⟨ks',?_,h1,h2⟩
 have sub:ks ⊆ ks':=λk hk=>by
  obtain⟨e,he,hke⟩:=(hm k).mp (bQ9 hk)
  obtain⟨i,hi⟩:=aW9 (hp.mem_iff.mpr he)
  have hki:=aA9 (h1.symm▸(aB3.mp hi).1:i<ks'.length)
  rwa[DS hke (h2 i _ e hki hi)]
  exact aX8 _
 exact Jv ks ks' hn sub (by rwa[h1,hp.length_eq,aF1,hl];exact aA6 _)
def Ym{a:aC2}{ks:List AC}{K:List ű->St->Prop}(hh:X.A.handled=none)(la:c.G.tag a=some .lock)(h:X.L.set c.s.heap a ks)(q :∀ks':List AC,ks'.Perm ks->K (ks'.map .key) c.σ)(target:Expr)(R:Ī X c):ė X (aS8 (.ref a)) (λit s'=>CM X target c K it s') c.s:=by
 obtain⟨⟨o,es,ep,t,ho,hex,hd,hel,hm,hb,hf,hn⟩,hnd,o',es',ep',t',ho',hd',ht⟩:=h
 cases S0 ho ho'
 cases hd.symm.trans hd'
 have H:G3 X.L.w c.s.heap a es ep t:=⟨⟨o,ho,hex,hd⟩,hf,ht,hb⟩
 refine RF H λh' d I ord first k1 k2 k3 g m ht=>?_
 obtain⟨ks',Ž,Ń,p3⟩:=Ud hel hm hnd hn m.perm
 have hz:c.s.heap.objs.size<=h'.objs.size:=k3▸aF5 k2
 have x:C8 X c ⟨c.G.news c.s.heap.objs.size h'.objs.size,c.σ,{c.s with heap:=h',drawn:=d}⟩:=R.more k1 hz (λa l=>Kj l) (λa e=>(Pv e).elim id λe=>aB2 (R.ownLt a e) hz) (λ_ _=>⟨rfl,rfl⟩) (aA6 _) rfl rfl rfl rfl λ_ _=>.inl
 have hI:I<h'.objs.size:=k3▸aC1 _
 exact⟨c,.refl R,I,[I],ks'.map .key,g9 X.L.w X.hs I a es ep t ord,_,rfl,λe=>eK (X:=X.en e) hh (m.perm.length_eq.trans (aF1 ..)) ⟨Ń,p3⟩ target,λi G s Q st hQ=>st.it.elim λf z=>TQ z.1 hQ,
  ⟨λb hb=>(aA7.mp hb)▸⟨Nc k2 hI,aA2 R.size k2⟩,(Kj (aK2 ho)).trans la,H.keep (k1 a),⟨first,g,m,λtup e=>Nc (ht tup e).1 (bB8 (ht tup e).2 hI)⟩,aE4 (aB2 (aK2 ho) k2)⟩,
  λb hb=>(aA7.mp hb)▸k2,x,k1,q ks' Ž⟩
def Fo{es:List (AC×ű)}:(CY es).length=es.length:=aB5 ..
def AZ.at_{L:Bt}{G:ħ}{h:aF2}{n:Nat} :∀{es:List (AC×ű)} {kvs:List (AC×Value)} {i:Nat} {p:AC×Value},AZ L G h n es kvs->kvs[i]?=some p->∃a,es[i]?=some (p.1,a)/\A2 L G h n a p.2:=by
 intro ţ
 induction ţ with
 | nil=>
  intro kvs i p q e
  rw[show kvs=[]from q]at e;cases e
 | cons x0 es ih=>
  intro kvs i p q e
  obtain⟨k,a⟩:=x0
  obtain⟨v,u,rfl,q1,õ⟩:=q
  cases i with
  | zero=>cases e;exact⟨a,rfl,q1⟩
  | succ i=>exact ih (i:=i) õ e
def Hl:aY5 table "dict_itemiterator.__iter__" = some aD8.«dict_keyiterator.__iter__»:=bG6 (id':="dict_keyiterator.__iter__") (by rfl') rfl (by decide +kernel) (by rfl')
def TR{prog:aF3}{w:aC9}{A:aH1}{E:Value->aA5->Prop}{s:aA5}{I d:aC2}{i n ep:Nat}{ok ov:Value}{Q:Value->aA5->Prop}(ho:IsItemIter s.heap I d i n ep ok ov)(hQ:Q (.ref I) s):aC8 (aC6 prog w) A (aS8 (.ref I)) Q E s:=by
 have hT:s.TypeIs (.ref I) "dict_itemiterator":=⟨_,ho,rfl⟩
 refine bC3 hT PySem.F.slot_dict_itemiterator_iter (aG7 PySem.F.slot_dict_itemiterator_iter hT Hl ?_ (PySem.F.args_dict_itemiterator_iter_1 _))
 show aC8 _ _ (ret (.ref I)) _ _ s
 exact aA4 ⟨_,rfl,"dict_itemiterator",_,hT,PySem.F.slot_dict_itemiterator_next.lookup,hQ⟩
structure Y6(L:Bt)(hs:aF2)(I d:aC2)(es:List (AC×ű))(kvs:List (AC×Value))(ep:Nat)(i:Nat)(G:ħ)(h:aF2):Prop where
 lk:HL hs G [I]
 ld:G.tag d=some .lock
 it :∃ok ov,IsItemIter h I d i kvs.length ep ok ov
 at_:h.DictAt (A8 L.prog L.w) d kvs ep
 ne:d≠I
 rel:AZ L G h 0 es kvs
def AZ.zero{L:Bt}{G G':ħ}{h h':aF2}{n:Nat}(k:CZ G h G' h'){a:List (AC×ű)}{v:List (AC×Value)}(q:AZ L G h 0 a v):AZ L G' h' n a v:=AZ.sub k (λx w e h=>bQ8 h (aG0 x)) (D8 a) q
def Xe{I d:aC2}{kvs:List (AC×Value)}{es:List (AC×ű)}{ep:Nat}(hh:X.A.handled=none){target:Expr}(ht:De target=true):Ke X target I [I] (CY es) (Y6 X.L X.hs I d es kvs ep) where
 frame:=λi G h G' h' x kp=>⟨x.lk.frame kp,kp.lock _ x.ld,x.it.imp λok q=>q.imp λov q=>kp.lk (x.lk I (aA7.mpr rfl)).1 _ q,x.at_.at' λo e=>kp.lk x.ld o e,x.ne,x.rel.zero kp.still⟩
 item:=λi c R hi x=>by
  rw[Fo,<-AZ.len x.rel]at hi
  obtain⟨ok,ov,x5⟩:=x.it
  have gk:=aA9 hi
  obtain⟨a,ea,ra⟩:=AZ.at_ x.rel gk
  refine wpAny_pyNext_items_item (k:=kvs[i].1) (v:=kvs[i].2) x5 x.at_ gk λkey h' y1 y2 y3 y4 y5=>⟨_,rfl,?_⟩
  refine IP (P:=λT=>ė X (aU8 T (.ref I) (.ref c.s.heap.objs.size)) (λ_ s2=>Qv X c [I] (CY es) i (.ref c.s.heap.objs.size) (Y6 X.L X.hs I d es kvs ep (i+1)) s2) {c.s with heap:=h'}) ht λelts x1 pos=>wpAny_letOwnedTupleGo_items y2 λh'' ē ż=>?_
  have kk :∀a o,a∉[I]->c.s.heap.get? a=some o->h''.get? a=some o:=λa o a1 ea=>(ż.2 a (Pe a1)).trans (y5 a o (Pe a1) ea)
  have sz:c.s.heap.objs.size<=h''.objs.size:=ż.1.symm▸y4.symm▸aI4 _
  have hT:h''.get? c.s.heap.objs.size=some (Ab [key,kvs[i].2] 0):=(ż.2 _ (aO2 (aK2 x5))).trans y3
  have q:=R.lockAt x.lk (t:=c.s.toks) kk sz
  have nd:d∉[I]:=λz=>x.ne (aA7.mp z)
  have ek:(CY es)[i]?=some (.tup [.key kvs[i].1,a]):=by
   show(es.map λp=>ű.tup [.key p.1,p.2])[i]?=_
   rwa[aD6,ea]
   rfl
  exact⟨_,ek,⟨_,_,rfl,⟨(0,Option.none),hT⟩,R.gone,_,_,rfl,y1,_,_,rfl,ra.zero q.1.still,rfl⟩,q.2,⟨x.lk,x.ld,⟨_,_,ē⟩,x.at_.at' λo e=>kk d o nd e,x.ne,x.rel.zero q.1.still⟩,kk,sz⟩
 done:=λc R x=>by
  obtain⟨ok,ov,q1⟩:=x.it
  rw[show(CY es).length=kvs.length from Fo.trans (AZ.len x.rel).symm]at q1
  exact E0 (wpAny_pyNext_items_end hh q1 x.at_ (aH6 (aA6 _)) λh' y1 sz=>
   have kk :∀a o,a∉[I]->c.s.heap.get? a=some o->h'.get? a=some o:=λa o ha e=>y1 a o (Pe ha) e
   ⟨rfl,(R.lockAt x.lk (t:=c.s.toks) kk sz).2,kk,sz⟩)
def Qo{v d:aC2}{kvs:List (AC×Value)}{es:List (AC×ű)}{n:Nat}{K:List ű->St->Prop}(hh:X.A.handled=none)(ld:c.G.tag d=some .lock)(h:X.L.dct c.s.heap d kvs)(hv:c.s.heap.IsItemsView v d)(hs:AG nn es=some es)(hr:AZ X.L c.G c.s.heap n es kvs)(q:K (CY es) c.σ){target:Expr}(ht:De target=true)(R:Ī X c):ė X (aS8 (.ref v)) (λit s'=>CM X target c K it s') c.s:=by
 obtain⟨ep,o,es',z⟩:=h.1.dictAt
 refine wpAny_pyIter_items hv ⟨o,es',z⟩ ?_
 have x:=R.lck {cls:=.type "dict_itemiterator",data:=.fields #[.none,.bool false,.ref d,.int 0 0,.int kvs.length 0,.int ep 0,.none,.none]} c.s.toks
 have lt:=aK2 z.1
 exact⟨c,.refl R,_,[c.s.heap.objs.size],CY es,Y6 X.L X.hs c.s.heap.objs.size d es kvs ep,_,rfl,λe=>Xe (X:=X.en e) hh ht,λi G s Q st hQ=>st.it.elim λok w=>w.elim λov w=>TR w hQ,
  ⟨λb hb=>⟨aA7.mp hb▸ħ.put_at,aA7.mp hb▸R.size⟩,(ħ.put_ne (aE4 lt)).trans ld,⟨_,_,aC4 _ rfl⟩,⟨o,es',aB1 _ z.1,z.2⟩,aE4 lt,AZ.sub x.kp.still (λx w e=>AA e) hs hr⟩,λb hb=>aB7 (aA7.mp hb).symm,x,λa o e=>aB1 _ e,q⟩
end
def QN{L:Bt}{G:ħ}{h:aF2}{n:Nat}{es:List (AC×ű)}{kvs:List (AC×Value)}(q:AZ L G h n es kvs)(k:AC):AZ L G h n (Fb es k) (without kvs k):=by
 refine AZ.cases (M:=λes kvs=>AZ L G h n (Fb es k) (without kvs k)) rfl (λk' a v r u hv ih=>?_) q
 unfold Fb without
 rwa[List.filter_cons,List.filter_cons]
 cases decide (k'≠k)with
 | true=>exact ih.cons hv
 | false=>exact ih
section
variable{X:š}{P:Ť}{d:Nat}{fN st fM cm fI:aC2}{sc:Scope}{W:ĭ}{S:â}(F:Em X P d fN st fM cm fI sc)(E:LO X W)(H:Jn X S){σ:St}{Q:ĵ}
include E
theorem XX{o:Option Expr}{p:Pos}(h:aE5 (Q (.ret .none) σ) (λe=>W.E e σ λv σ=>Q (.ret v) σ) o):Ų X (exec (.Return o p) X.env) σ Q:=λG s R=>by
 cases o with
 | none=>
  show ė X (do standAt p;return bN0.ret aN3) _ _
  exact ė.bind (aM4 (aA4 (.to (c':=⟨G,σ,s⟩) (af:=.ret .none) (.refl R) ⟨.none,rfl,rfl⟩ h)))
 | some e=>exact wpAny_Return_some ((E.E e σ _ h).go (c:=⟨G,σ,s⟩) R λv c1 vv h1 x1 r1=>.to (af:=.ret v) x1 ⟨vv,rfl,r1⟩ h1)
include F
theorem VS{e:Expr}{p:Pos}(h:Dj (!SO e) (W.E e σ λ_ σ=>Q .next σ)):Ų X (exec (.Expr e p) X.env) σ Q:=λG s R=>by
 obtain⟨h1,h⟩:=A3 h
 have h1:=Dv h1
 refine wpAny_Expr_any ((E.E e σ _ h).go (c:=⟨G,σ,s⟩) R λv c1 vv h₁ x1 r1=>.to (af:=.next) x1 rfl h₁) ?_ ?_
 ·unfold interactive;rwa[Ef F];rfl
 ·clear h
  cases e with
  | ListComp=>cases h1
  | SetComp=>cases h1
  | DictComp=>cases h1
  | _=>rfl
include H
theorem dN{t:Expr}{b o:List aG8}{p:Pos}(h:W.B t σ λc σ=>BX c (Ŧ P S b σ Q) (Ŧ P S o σ Q)):Ų X (exec (.If t b o p) X.env) σ Q:=λG s R=>
 wpAny_If ((E.B t σ _ h).go (c:=⟨G,σ,s⟩) R λc c1 vc h1 x1 r1=>by
  cases r1
  cases c with
  | true=>exact At.up (Kx H b h1 _ _ x1.R) x1.kp
  | false=>exact At.up (Kx H o h1 _ _ x1.R) x1.kp)
theorem YD{t i:Expr}{b o:List aG8}{p:Pos}(h:Dj (!ix i 7) (Fv P sc W t i σ λitems σ=>D7 items (λv σ K=>W.A t v σ λσ=>Ŧ P S b σ K) (Ŧ P S o) σ Q)):Ų X (exec (.For t i b o p) X.env) σ Q:=λG s R=>by
 obtain⟨h1,h⟩:=A3 h
 have h1:=Dv h1
 refine iU (σ:=σ) ?_ (λv c K x {u} R hv=>ė.mono (E.A t v c _ x R hv) λ_ s1 q=>q.casesOn λG1 σ1 _ x1 _ q1=>At.up (Kx H b q1 G1 s1 x1.R) x1.kp) (λσ K x=>Kx H o x) (Mn F E h R)
 clear h
 cases i with
 | Set=>cases h1
 | _=>exact λ_=>rfl
theorem YL{ts:List Expr}{p:Pos}(h:dU W ts σ λσ=>Q .next σ):Ų X (exec (.Delete ts p) X.env) σ Q:=λG s R=>
 AB h λt e1 h=>H9 (P:=λts=>ė X (exec (.Delete ts p) X.env) (At X G s.heap Q) s) e1 (by
  obtain⟨h1,h⟩:=A3 h
  refine wpAny_Delete (wpAny_deleteEach_cons ?_)
  refine Expr.Subscript.elim (motive_1:=λt=>(W.E (N1 t).1 σ λv σ=>W.E (N1 t).2 σ λk σ=>I0 σ v λx es=>Aa (BC k) λk=>(es.lookup k).isSome=true/\Q .next (σ.set x (.dict (Fb es k))))->ė X (delete t X.env) (λ_ s1=>ė X (deleteEach [] X.env) (λ_ s1=>At X G s.heap Q .next s1) s1) s) t (aB8 h1) (λo i q h=>?_) h
  show ė X (do
   let ov<-eval o X.env
   let iv<-aX6 [ov] (eval i X.env)
   standAt q
   aX6 [ov,iv] (delItem ov iv)
   release [ov,iv] []) _ _
  refine ė.bind ((E.E o σ _ h).go (c:=⟨G,σ,s⟩) R λa c1 va h₁ x1 r1=>ė.bind (ė.hold ((E.E i _ _ h₁).go x1.R λb c2 vb h2 x2 r2=>ė.bind (aM4 (ė.bind (ė.hold ?_))))))
  refine Gz h2 x2.R (x2.pre.v r1) λx es kvs hx Ž Ń hz h=>AB h λk ek h=>?_
  have hs:(valueAt kvs k).isSome=true:=Ń.look k (P:=λa b=>a.isSome=true->b.isSome=true) id (λ_ _ _ _=>rfl) h.1
  refine wpAny_delItem_slot Ž.1.typeIs (by decide) PySem.F.slot_dict_delitem (bI9 PySem.F.slot_dict_delitem Ž.1.typeIs PySem.F.entry_dict_delitem (PySem.F.args_dict_delitem_2 _ _) (meets_dict_delitem_pairs (A8 X.L.prog X.L.w) (k:=k) (c2.G.μ x) (BU ek r2)) ⟨kvs,Ž.1,hz,hs,λh' hd hb=>?_⟩)
  have y:=x2.R.setDict (c2.s.toks+1) hx hb ⟨hd,Ž.2⟩ (QN Ń k)
  have z:=(x1.trans x2).trans y
  exact bL7 (wpAny_deleteEach_nil ⟨_,_,.next,z.kp,z.R,rfl,h.2⟩))
end
theorem Em.lk{X:š}{P:Ť}{d:Nat}{fN st fM cm fI:aC2}{sc:Scope}{c:Ĳ}{x:Nat}(F:Em X P d fN st fM cm fI sc):Em (X.lk c x) P d fN st fM cm fI sc:=⟨F.w,F.A,F.glb,F.bui,F.hsc,F.fun_⟩
section
variable{X:š}{P:Ť}{d:Nat}{fN st fM cm fI:aC2}{sc:Scope}{W:ĭ}{S:â}(EA :∀X,Em X P d fN st fM cm fI sc->LO X W)(HA :∀X,Em X P d fN st fM cm fI sc->Jn X S)(F:Em X P d fN st fM cm fI sc){σ:St}{Q:ĵ}
include EA HA F
theorem Vn{tg:Expr}{b:List aG8}{c:Ĳ}{x:Nat}{o:Ř}{itv:Value}{s2:aA5}(R:Ī X c)(hx:c.σ.H.lookup x=some o)(ho:o.two=false)
  (hit:CM (X.lk c x) tg (c.lk x) (λitems τ=>D7 items (λv σ K=>W.A tg v σ λσ=>Ŧ P S b σ K) (λσ K=>K .next σ) τ λfl τ=>BS.rec (Q .next (MP c.σ x o τ)) False False (λ_=>False) fl) itv s2) :
  aO8 (aC6 X.L.prog X.L.w) X.A (.forLoop tg itv b [] X.env) (eR (At X c.G c.s.heap Q)) s2:=by
 have F':Em (X.lk c x) P d fN st fM cm fI sc:=Em.lk F
 refine aL2 (RG (X:=X.lk c x) (orelse:=[]) (els:=λσ K=>K .next σ) (λv c' K h {u} R' hv=>ė.mono ((EA _ F').A tg v c' _ h R' hv) λ_ s1 q=>q.casesOn λG1 σ1 _ x1 _ q1=>At.up (Kx (HA _ F') b q1 G1 s1 x1.R) x1.kp)
  (λσ K h G s R=>aA4 (.to (c':=⟨G,σ,s⟩) (af:=.next) (.refl R) rfl h)) hit) λr s' z=>z.elim λf z=>⟨f,z.1,?_⟩
 obtain⟨G',τ,af,k,R',fr,q⟩:=z.2
 cases af with
 | next=>
  obtain⟨kp,R2⟩:=R.unlk hx ho k R'
  exact⟨_,_,.next,kp,R2,fr,q⟩
 | brk=>exact q.elim
 | cont=>exact q.elim
 | ret v=>exact q.elim
theorem Tm{t i:Expr}{b o:List aG8}{p:Pos}(h:QB W t (λv σ K=>W.A t v σ λσ=>Ŧ P S b σ K) i o σ Q):Ų X (exec (.For t i b o p) X.env) σ Q:=λG s R=>by
 obtain⟨ŝ,h⟩:=A3 h
 refine Cz (P:=λo=>ė X (exec (.For t i b o p) X.env) (At X G s.heap Q) s) ŝ ?_
 clear ŝ
 have E:=EA X F
 cases hi:ix i 16 with
 | false=>
  rw[hi]at h
  obtain⟨h2,h⟩:=A3 h
  refine bP6 ((E.E i σ _ h).go (c:=⟨G,σ,s⟩) R λv c1 vv h1 x1 r1=>AB h1 λp e h1=>AB h1 λks e2 h1=>?_) ?_
  ·obtain⟨q1,õ⟩:=C6 e r1
   subst q1
   rw[Ř.fs_eq e2]at õ
   exact ė.any (Ym (X:=X.lk c1 p.1) (c:=c1.lk p.1) F.A.1 ħ.put_at (x1.R.obj _ _ õ).rel h1 t (x1.R.lk õ)) λitv s2 hit=>aL2 (Vn EA HA F x1.R õ rfl hit) λr s' z=>z.elim λf z=>z.1▸z.2.lift x1.kp
  ·clear h
   cases i with
   | Set=>cases h2
   | _=>exact λ_=>rfl
 | true=>
  rw[hi]at h
  obtain⟨h2,h⟩:=A3 h
  refine Expr.Call.elim (motive_1:=λi=>SL i=true->ZV W t (λv σ K=>W.A t v σ λσ=>Ŧ P S b σ K) (Cl (A4 i).1).1 σ Q->ė X (exec (.For t i b [] p) X.env) (At X G s.heap Q) s) i (aB8 hi) (λg as ks q h2 h=>?_) h2 h
  obtain⟨h2,k6⟩:=AH h2
  obtain⟨h2,k5⟩:=AH h2
  obtain⟨h2,k4⟩:=AH h2
  obtain⟨h2,k3⟩:=AH h2
  obtain⟨k1,k2⟩:=AH h2
  clear h2
  refine Cz (P:=λas=>ė X (exec (.For t (.Call g as ks q) b [] p) X.env) (At X G s.heap Q) s) k1 (Cz (P:=λks=>ė X (exec (.For t (.Call g [] ks q) b [] p) X.env) (At X G s.heap Q) s) k2 ?_)
  refine Expr.Attribute.elim (motive_1:=λg=>((Cl g).2.1==("items":Str))=true->F5 (Cl g).1=true->aE6 (Cl g).2.2.endLine q.line=true->
   ZV W t (λv σ K=>W.A t v σ λσ=>Ŧ P S b σ K) (Cl g).1 σ Q->ė X (exec (.For t (.Call g [] [] q) b [] p) X.env) (At X G s.heap Q) s) g (aB8 k3) (λĴ at_ ap k4 k5 k6 h=>?_) k4 k5 k6 h
  rwa[show at_=("items":Str)from aD3 k4]
  refine bP6 ?_ (λ_=>rfl)
  refine wpAny_Call_method (T:="dict") (id:="dict.items") (Bg k5 _ _) rfl (by rwa[show ap.endLine=q.line from aB8 k6];exact bR2 _) bB1 PySem.F.slot_dict_items PySem.F.type_dict_items ?_
  refine(E.E Ĵ σ _ h).go (c:=⟨G,σ,s⟩) R λv c1 vv h1 x1 r1=>AB h1 λp e h1=>AB h1 λes e2 h1=>?_
  obtain⟨q1,õ⟩:=C6 e r1
  subst q1
  rw[Ř.dct_eq e2]at õ
  refine Hh.casesOn (x1.R.obj _ _ õ).rel λkvs Ž Ń=>?_
  obtain⟨es',k',ho'⟩:=FX Ž.1
  refine⟨Ž.1.typeIs,λa e=>by cases e;exact⟨_,ho',rfl⟩,callWith_builtin rfl (PySem.evalArgs_none ?_)⟩
  refine bI9 PySem.F.slot_dict_items Ž.1.typeIs PySem.F.entry_dict_items (PySem.F.args_dict_items_1 _) (meets_dict_items (A8 X.L.prog X.L.w) (c1.G.μ p.1) Ž.2) ⟨⟨kvs,Ž.1⟩,?_⟩
  have x2:=x1.R.push {cls:=.type "dict_items",data:=.fields #[.ref (c1.G.μ p.1)]} c1.s.toks
  have d2:X.L.dct (c1.s.heap.push {cls:=.type "dict_items",data:=.fields #[.ref (c1.G.μ p.1)]}) (c1.G.μ p.1) kvs:=(FO kvs).keep (λo e=>aB1 _ e) Ž
  have p2':AZ X.L ((c1.hp c1.σ (c1.s.heap.push {cls:=.type "dict_items",data:=.fields #[.ref (c1.G.μ p.1)]}) c1.s.toks).lk p.1).G (c1.s.heap.push {cls:=.type "dict_items",data:=.fields #[.ref (c1.G.μ p.1)]}) c1.σ.n es kvs:=AZ.sub (Rh x2.R õ).still (λx w e=>AA e) h1.1.2 (AZ.sub (n':=c1.σ.n) x2.kp.still (λx w e=>AA e) h1.1.2 Ń)
  exact ė.any (Qo (X:=X.lk (c1.hp c1.σ (c1.s.heap.push {cls:=.type "dict_items",data:=.fields #[.ref (c1.G.μ p.1)]}) c1.s.toks) p.1) (c:=(c1.hp c1.σ (c1.s.heap.push {cls:=.type "dict_items",data:=.fields #[.ref (c1.G.μ p.1)]}) c1.s.toks).lk p.1) F.A.1 ħ.put_at d2 ⟨_,aC4 _ rfl,rfl,rfl⟩ h1.1.2 p2' h1.2 h1.1.1 (x2.R.lk õ))
   λitv s2 hit=>aL2 (Vn EA HA F x2.R õ rfl hit) λr s' z=>z.elim λf z=>z.1▸z.2.lift (x1.kp.trans x2.kp)
theorem lM(s:aG8)(σ:St)(Q:ĵ)(h:Ru P sc W S s σ Q):Ų X (exec s X.env) σ Q:=by
 have E:=EA X F
 have H:=HA X F
 exact bM7 (motive_2:=λs=>Ru P sc W S s σ Q->Ų X (exec s X.env) σ Q) s (λ_ _ _ _ _ _ _ _ _ _=>aA8) (λ_ _ _ _ _ _ _ _ _ _=>aA8) (λ_ _ _ _ _ _ _ _ _ _ _=>aA8) (λ_ _=>XX E) (λ_ _=>YL F E H) (λ_ _ _=>PY F E) (λ_ _ _ _ _ _ _=>aA8) (λ_ _ _ _=>Wr F E) (λ_ _ _ _ _=>aA8) (λt i b o p h=>by
  have h:aK3 (Dj (!ix i 7) (Fv P sc W t i σ λitems σ=>D7 items (λv σ K=>W.A t v σ λσ=>Ŧ P S b σ K) (Ŧ P S o) σ Q)) (QB W t (λv σ K=>W.A t v σ λσ=>Ŧ P S b σ K) i o σ Q) (P.lk p):=h
  cases hp:P.lk p with
  | false=>rw[hp]at h;exact YD F E H h
  | true=>rw[hp]at h;exact Tm EA HA F h) (λ_ _ _ _ _=>aA8) (λt b o p h=>Tl (λσ K x=>E.B t σ K x) (λσ K x=>Kx H b x) (λσ K x=>Kx H o x) h) (λ_ _ _ _=>dN F E H) (λ_ _ _=>aA8) (λ_ _ _=>aA8) (λ_ _ _=>aA8) (λ_ _ _=>aA8) (λ_ _ _ _ _=>aA8) (λ_ _ _ _ _=>aA8) (λ_ _ _=>aA8) (λ_ _=>aA8) (λ_ _ _ _=>aA8) (λ_ _=>aA8) (λ_ _=>aA8) (λ_ _=>VS F E) (λp h G s R=>wpAny_Pass (.to (c':=⟨G,σ,s⟩) (af:=.next) (.refl R) rfl h)) (λp h G s R=>wpAny_Break (.to (c':=⟨G,σ,s⟩) (af:=.brk) (.refl R) rfl h)) (λp h G s R=>wpAny_Continue (.to (c':=⟨G,σ,s⟩) (af:=.cont) (.refl R) rfl h)) h
end
def bN{P:Ť}{d:Nat}{fN st fM cm fI:aC2}{sc:Scope}(f:Nat) :∀X,Em X P d fN st fM cm fI sc->Jn X (Dk P sc f):=
 aV6 (λ_ _ _ _ _=>aA8) (λf H X F=>lM (λX F=>xA F f) H F) f
def cA{X:š}{P:Ť}{d:Nat}{fN st fM cm fI:aC2}{sc:Scope}(F:Em X P d fN st fM cm fI sc)(f:Nat):Jn X (Dk P sc f):=bN f X F
def IO(ks:List Nat):AR->Option AR
 | .obj x=>(DG x ks).map .obj
 | .dict x=>(DG x ks).map .dict
 | p=>some p
def ħ.cut(G:ħ)(ks:List Nat):ħ:=⟨λa=>(G.tag a).bind (IO ks),λi=>VV ks[i]? 0 G.μ,λi=>VV ks[i]? 0 G.δ⟩
def Ř.froze:Ř->Option ű
 | .list vs=>some (.lst vs)
 | .dict es=>some (.dct es)
 | .set ks=>some (.fset ks)
 | .inst ..=>none
 | .tab _=>none
section
variable{G:ħ}{ks:List Nat}{a:aC2}
def GV(e:(G.cut ks).own a):G.own a:=λz=>e (bQ5 (λo:Option AR=>o.bind (IO ks)) z)
def Pg(e:(G.cut ks).mt a):G.mt a:=e.elim λp q=>by
 obtain⟨p',e1,e2⟩:=bind_some q.1
 exact⟨p',e1,λz=>q.2 (aA3 (z▸e2:IO ks .lock=some p)).symm⟩
def Ey{p p':AR}(e:G.tag a=some p)(e':IO ks p=some p'):(G.cut ks).tag a=some p':=(bQ5 (λo:Option AR=>o.bind (IO ks)) e).trans e'
def UB{y:Nat}(e:G.tag a=some (.obj y))(h :∀i:Nat,ks[i]?≠some y):¬ (G.cut ks).own a:=λz=>z ((bQ5 (λo:Option AR=>o.bind (IO ks)) e).trans (by
 show(DG y ks).map AR.obj=none
 cases hp:DG y ks with
 | none=>rfl
 | some j=>exact bQ8 (C1 hp) (h j)))
end
def S1{L:Bt}{G G':ħ}{h:aF2}{n n' x:Nat}{o:Ř}{w:ű}(k:CZ G h G' h)(e:o.froze=some w)(s:w.sub nn=some w)(q:Bx L G h n x o)(hx:¬ G'.own (G.μ x)):A2 L G' h n' w (.ref (G.μ x)):=by
 cases o with
 | list vs=>
  cases e
  obtain⟨us,e1,e2⟩:=map_some (show(AD nn vs).map (ű.seq .lst)=some (.seq .lst vs)from s)
  cases e2
  exact q.casesOn λb hp hr=>⟨_,b,rfl,hp,hx,hr.shut k e1⟩
 | dict vs=>
  cases e
  obtain⟨us,e1,e2⟩:=map_some (show(AG nn vs).map ű.dct=some (.dct vs)from s)
  cases e2
  exact q.casesOn λb hp hr=>⟨_,b,rfl,hp,hx,AZ.sub k (λx w e=>AA e) e1 hr⟩
 | set vs=>cases e;exact⟨_,(),rfl,q,hx,trivial⟩
 | inst C at_=>exact AA e
 | tab b=>exact AA e
def Qw(σ τ:St)(v r:ű):Prop:=∀X G s,Ī X ⟨G,σ,s⟩->∃G',(ù G s.heap G' s.heap/\Ī X ⟨G',τ,s⟩)/\∀u,Š X ⟨G,σ,s⟩ v u->Š X ⟨G',τ,s⟩ r u
def A9.of2{σ τ:St}(ks:List Nat)(g:Nat->Option ű)(u:FK ks)(ha:τ.anc=σ.anc)(hn:τ.n=ks.length)(hta :∀i,i<σ.anc->ks[i]?=some i)
  (hg :∀y w,g y=some w->(∃i:Nat,ks[i]?=some y/\w = .ref i)\/((∀i:Nat,ks[i]?≠some y)/\∃o,σ.H.lookup y=some o/\o.froze=some w/\w.sub nn=some w))
  (hρ :∀x v,τ.ρ.lookup x=some v->∃v0,σ.ρ.lookup x=some v0/\v0.sub g=some v)
  (hH :∀i o,τ.H.lookup i=some o->∃y o0,ks[i]?=some y/\σ.H.lookup y=some o0/\o0.sub g=some o) :∀X G s,Ī X ⟨G,σ,s⟩->∃G',(ù G s.heap G' s.heap/\Ī X ⟨G',τ,s⟩)/\∀v r,v.sub g=some r->∀u,Š X ⟨G,σ,s⟩ v u->Š X ⟨G',τ,s⟩ r u:=λX G s R=>by
 have k:CZ G s.heap (G.cut ks) s.heap:=λa o e q=>⟨e,λz=>q (GV z)⟩
 have mu :∀{i y:Nat},ks[i]?=some y->(G.cut ks).μ i=G.μ y/\(G.cut ks).δ i=G.δ y:=λe=>⟨C5 e 0 G.μ,C5 e 0 G.δ⟩
 have lt :∀{i y:Nat},ks[i]?=some y->i<τ.n:=λe=>hn▸(aB3.mp e).1
 have gg :∀x w,g x=some w->x<σ.n->A2 X.L (G.cut ks) s.heap τ.n w (.ref (G.μ x)):=λx w e hx=>(hg x w e).elim (λq=>q.elim λi q=>q.2▸⟨bQ5 aO3 (mu q.1).1.symm,lt q.1⟩) λq=>q.2.elim λo p=>S1 k p.2.1 p.2.2 (R.obj x o p.1).rel (UB (R.obj x o p.1).tag q.1)
 have vv :∀{v0 v u},v0.sub g=some v->Š X ⟨G,σ,s⟩ v0 u->Š X ⟨G.cut ks,τ,s⟩ v u:=λe q=>A2.sub k gg _ _ _ e q
 refine⟨G.cut ks,⟨⟨λ_ _ e _=>e,λa e=>.inl (GV e),λa e=>.inl (Pg e),aA6 _,λa e=>Ey e rfl⟩,R.base,R.keep,R.size,λa e=>R.mutHs a (Pg e),λa e=>R.ownB a (GV e),λa e=>R.ownLt a (GV e),R.gens,R.os,?_,?_,R.celAll,Ey R.tloc rfl,λx a e=>Ey (R.tcel x a e) rfl,?_,?_,R.bsz⟩,λv r e u q=>vv e q⟩
 ·exact R.loc.casesOn λm hm r=>⟨m,hm,λx av e1 e2=>(hρ x av e1).elim λv0 p=>(r x v0 p.1 e2).imp λv q=>⟨q.1,vv p.2 q.2⟩⟩
 ·exact λx a e=>(R.cel x a e).casesOn λv hv r=>⟨v,hv,λav e1 e2=>(hρ x av e1).elim λv0 p=>(r v0 p.1 e2).imp λu q=>⟨q.1,vv p.2 q.2⟩⟩
 ·intro i o e
  obtain⟨y,o0,e1,e2,e3⟩:=hH i o e
  have q:=R.obj y o0 e2
  have pos:DG y ks=some i:=FI u e1
  exact⟨lt e1,(bQ5 _ (mu e1).1).trans (Ey q.tag (bQ5 (aE0 AR.obj) pos)),Bx.sub k gg (mu e1).1 (mu e1).2 (λ_ e=>e) (λz=>⟨λ_ e=>e,Ey z (bQ5 (aE0 AR.dict) pos)⟩) o0 o e3 q.rel⟩
 ·refine⟨ha.symm▸R.anc.1,?_,λi hi=>?_⟩
  ·show τ.anc<=τ.n
   rwa[ha]
   cases hz:σ.anc with
   | zero=>exact aD4 _
   | succ m=>exact lt (hta m (hz▸aC1 m))
  ·have q:=mu (hta i (aB2 hi R.anc.1))
   exact⟨q.1.trans (R.anc.2.2 i hi).1,q.2.trans (R.anc.2.2 i hi).2⟩
def A9.of{σ τ:St}(ks:List Nat)(g:Nat->Option ű)(u:FK ks)(ha:τ.anc=σ.anc)(hn:τ.n=ks.length)(hta :∀i,i<σ.anc->ks[i]?=some i)
  (hg :∀y w,g y=some w->(∃i:Nat,ks[i]?=some y/\w = .ref i)\/((∀i:Nat,ks[i]?≠some y)/\∃o,σ.H.lookup y=some o/\o.froze=some w/\w.sub nn=some w))
  (hρ :∀x v,τ.ρ.lookup x=some v->∃v0,σ.ρ.lookup x=some v0/\v0.sub g=some v)
  (hH :∀i o,τ.H.lookup i=some o->∃y o0,ks[i]?=some y/\σ.H.lookup y=some o0/\o0.sub g=some o):A9 σ τ:=λX G s R=>(A9.of2 ks g u ha hn hta hg hρ hH X G s R).imp λ_ q=>q.1
section
variable{g:Nat->Option ű}
def AJ(a:ű) :∀a',a.sub nn=some a'->a.sub g=some a':=
 ű.rec (motive_1:=λa=>∀a',a.sub nn=some a'->a.sub g=some a') (motive_2:=λa=>∀a',AD nn a=some a'->AD g a=some a') (motive_3:=λa=>∀a',AG nn a=some a'->AG g a=some a') (motive_4:=λp=>∀a',EM nn p=some a'->EM g p=some a')
  (λ_=>id) (λ_ _=>id) (λ_ _=>id) (λkd vs ih a' e=>Cw (P:=λa'=>(AD g vs).map (ű.seq kd)=some a') e λb e=>bQ5 (aE0 _) (ih b e)) (λ_ _=>AA) (λ_ _=>id) (λ_ _=>id)
  (λf x ih a' e=>Cw (P:=λa'=>(x.sub g).map (ű.bm f)=some a') e λb e=>bQ5 (aE0 _) (ih b e)) (λes ih a' e=>Cw (P:=λa'=>(AG g es).map ű.dct=some a') e λb e=>bQ5 (aE0 _) (ih b e)) (λ_ _=>id) (λ_=>id)
  (λ_=>id) (λa r ih1 ih2 a' e=>by
   obtain⟨b,e1,e⟩:=bind_some e
   obtain⟨c,e2,rfl⟩:=map_some e
   show(a.sub g).bind (λa=>(AD g r).map (a :: ·))=_
   rwa[ih1 b e1,show AD g r=some c from ih2 c e2];rfl)
  (λ_=>id) (λa r ih1 ih2 a' e=>by
   obtain⟨b,e1,e⟩:=bind_some e
   obtain⟨c,e2,rfl⟩:=map_some e
   show(EM g a).bind (λb=>(AG g r).map ((a.1,b) :: ·))=_
   rwa[ih1 b e1,show AG g r=some c from ih2 c e2];rfl)
  (λk x ih a' e=>ih a' e) a
def DE{l:List ű} :∀{l':List ű},AD nn l=some l'->AD g l=some l':=
 aB4 (motive:=λl=>∀{l':List ű},AD nn l=some l'->AD g l=some l') (λ{_}=>id) (λa r ih l' e=>by
  obtain⟨b,e1,e⟩:=bind_some e
  obtain⟨c,e2,rfl⟩:=map_some e
  show(a.sub g).bind (λa=>(AD g r).map (a :: ·))=_
  rwa[AJ a b e1,show AD g r=some c from ih e2];rfl) l
def JR{l:List (AC×ű)} :∀{l':List (AC×ű)},AG nn l=some l'->AG g l=some l':=
 aB4 (motive:=λl=>∀{l':List (AC×ű)},AG nn l=some l'->AG g l=some l') (λ{_}=>id) (λa r ih l' e=>by
  cases a with
  | mk k x=>
  obtain⟨b,e1,e⟩:=bind_some e
  obtain⟨c,e2,rfl⟩:=map_some e
  show(x.sub g).bind (λb=>(AG g r).map ((k,b) :: ·))=_
  rwa[AJ x b e1,show AG g r=some c from ih e2];rfl) l
def E1{l:List (Str×ű)} :∀{l':List (Str×ű)},AK nn l=some l'->AK g l=some l':=
 aB4 (motive:=λl=>∀{l':List (Str×ű)},AK nn l=some l'->AK g l=some l') (λ{_}=>id) (λa r ih l' e=>by
  obtain⟨b,e1,e⟩:=bind_some e
  obtain⟨c,e2,rfl⟩:=map_some e
  show(a.2.sub g).bind (λb=>(AK g r).map ((a.1,b) :: ·))=_
  rwa[AJ a.2 b e1,show AK g r=some c from ih e2];rfl) l
def GR{o o':Ř}(s:o.sub nn=some o'):o.sub g=some o':=by
 cases o with
 | list vs=>exact Cw (P:=λo'=>(AD g vs).map Ř.list=some o') s λb e=>bQ5 (aE0 _) (DE e)
 | dict vs=>exact Cw (P:=λo'=>(AG g vs).map Ř.dict=some o') s λb e=>bQ5 (aE0 _) (JR e)
 | inst C vs=>exact Cw (P:=λo'=>(AK g vs).map (Ř.inst C)=some o') s λb e=>bQ5 (aE0 _) (E1 e)
 | set ks=>exact s
 | tab b=>exact s
end
def NW(l:List Nat):Bool:=aB4 true (λx r ih=>!hasN x r&&ih) l
def GN{l:List Nat}:NW l=true->FK l:=aB4 (motive:=λl=>NW l=true->FK l) (λ_ _ _ _=>AA) (λx r ih h i j y e1 e2=>by
 obtain⟨h1,h2⟩:=AH h
 have no :∀{i:Nat},r[i]?≠some x:=λ{i} e=>aR9 ((Dv h1).symm.trans (Mo e))
 cases i with
 | zero=>cases j with
  | zero=>rfl
  | succ j=>exact bQ8 ((show r[j]?=some y from e2).trans (aA3 e1▸rfl)) no
 | succ i=>cases j with
  | zero=>exact bQ8 ((show r[i]?=some y from e1).trans (aA3 e2▸rfl)) no
  | succ j=>exact bQ5 aS3 (ih h2 i j y e1 e2)) l
def VZ(n:Nat)(ks:List Nat):Bool:=aV6 true (λi ih=>aE5 false (λy=>aE6 y i) ks[i]?&&ih) n
def QY{n:Nat}{ks:List Nat}:VZ n ks=true->∀i,i<n->ks[i]?=some i:=aV6 (motive:=λn=>VZ n ks=true->∀i,i<n->ks[i]?=some i) (λ_ i h=>bQ8 h (aG0 i)) (λn ih h i hi=>by
 obtain⟨h1,h2⟩:=AH h
 refine(bA2 (aT3 hi)).elim (ih h2 i) λe=>?_
 subst e
 cases e:ks[i]? with
 | none=>rw[e]at h1;cases h1
 | some y=>rw[e]at h1;exact bQ5 some (aB8 h1)) n
def Xy(ks:List Nat)(fz:List (Nat×ű))(y:Nat):Option ű:=LZ ((DG y ks).map .ref) (fz.lookup y)
def Pt(σ:St)(ks:List Nat)(fz:List (Nat×ű)):Prop:=∀y w,fz.lookup y=some w->DG y ks=none/\∃o,σ.H.lookup y=some o/\o.froze=some w/\w.sub nn=some w
def aO(σ:St)(g:Nat->Option ű)(l:List (Str×ű)):Prop:=∀x v,l.lookup x=some v->∃v0,σ.ρ.lookup x=some v0/\v0.sub g=some v
def iB(σ:St)(ks:List Nat)(g:Nat->Option ű)(l:List (Nat×Ř)):Prop:=∀i o,l.lookup i=some o->∃y o0,ks[i]?=some y/\σ.H.lookup y=some o0/\o0.sub g=some o
def CW{α β:Type} [BEq α] [LawfulBEq α] {x y:α} {v w:β} {r:List (α×β)} {P:Prop} (e:((y,v)::r).lookup x=some w) (f:x=y->v=w->P) (g:r.lookup x=some w->P):P:=by
 rw[AQ]at e
 cases h:x==y with
 | true=>exact f (aD3 h) (aA3 ((bQ5 (λb=>bif b then some v else r.lookup x) h).symm.trans e))
 | false=>exact g ((bQ5 (λb=>bif b then some v else r.lookup x) h).symm.trans e)
section
variable{σ:St}{ks:List Nat}{g:Nat->Option ű}
def CQ:Pt σ ks []:=λ_ _=>AA
def BL{y:Nat}{w:ű}{o:Ř}{r:List (Nat×ű)}(ŝ:DG y ks=none)(h1:σ.H.lookup y=some o)(h2:o.froze=some w)(h3:w.sub nn=some w)(q:Pt σ ks r):Pt σ ks ((y,w)::r):=λz v e=>CW e (λa b=>a▸b▸⟨ŝ,o,h1,h2,h3⟩) (q z v)
def B0:aO σ g []:=λ_ _=>AA
def Bs{x:Str}{v0 v:ű}{r:List (Str×ű)}(h1:σ.ρ.lookup x=some v0)(h2:v0.sub g=some v)(q:aO σ g r):aO σ g ((x,v)::r):=λz w e=>CW e (λa b=>a▸b▸⟨v0,h1,h2⟩) (q z w)
def BZ:iB σ ks g []:=λ_ _=>AA
def RY{i y:Nat}{o0 o:Ř}{r:List (Nat×Ř)}(ŝ:ks[i]?=some y)(h1:σ.H.lookup y=some o0)(h2:o0.sub g=some o)(q:iB σ ks g r):iB σ ks g ((i,o)::r):=λz w e=>CW e (λa b=>a▸b▸⟨y,o0,ŝ,h1,h2⟩) (q z w)
def A9.re{τ:St}(ks:List Nat)(fz:List (Nat×ű))(u:NW ks=true)(t:VZ σ.anc ks=true)(ha:τ.anc=σ.anc)(hn:τ.n=ks.length)(hf:Pt σ ks fz)(hρ:aO σ (Xy ks fz) τ.ρ)(hH:iB σ ks (Xy ks fz) τ.H):A9 σ τ:=
 .of ks (Xy ks fz) (GN u) ha hn (QY t) (λy w e=>DH e (λe=>(map_some e).elim λi q=>.inl ⟨i,C1 q.1,q.2.symm⟩) λe=>.inr ⟨λi z=>AA ((hf y w e).1.symm.trans (FI (GN u) z)),(hf y w e).2⟩) hρ hH
def Qw.re{τ:St}{v r:ű}(ks:List Nat)(fz:List (Nat×ű))(u:NW ks=true)(t:VZ σ.anc ks=true)(ha:τ.anc=σ.anc)(hn:τ.n=ks.length)(hf:Pt σ ks fz)(hρ:aO σ (Xy ks fz) τ.ρ)(hH:iB σ ks (Xy ks fz) τ.H)(hv:v.sub (Xy ks fz)=some r):Qw σ τ v r:=λX G s R=>
 (A9.of2 ks (Xy ks fz) (GN u) ha hn (QY t) (λy w e=>DH e (λe=>(map_some e).elim λi q=>.inl ⟨i,C1 q.1,q.2.symm⟩) λe=>.inr ⟨λi z=>AA ((hf y w e).1.symm.trans (FI (GN u) z)),(hf y w e).2⟩) hρ hH X G s R).imp λ_ q=>⟨q.1,q.2 v r hv⟩
end
def G9(os:List Ξ):Nat->List (Nat×Ř):=aB4 (λ_=>[]) (λo _ ih i=>(i,o.ao)::ih (i+1)) os
def JM{os:List Ξ} :∀{i x:Nat} {o:Ř},(G9 os i).lookup x=some o->∃(j:Nat) (b:Ξ),x=i+j/\os[j]?=some b/\o=b.ao:=
 aB4 (motive:=λos=>∀{i x:Nat} {o:Ř},(G9 os i).lookup x=some o->∃(j:Nat) (b:Ξ),x=i+j/\os[j]?=some b/\o=b.ao) AA (λb r ih i x o e=>CW e (λa c=>⟨0,b,a,rfl,c.symm⟩) λe=>(ih e).elim λj q=>q.elim λb q=>⟨j+1,b,q.1.trans (aL1 i 1 j),q.2⟩) os
def AT(ρ:List (Str×ű))(os:List Ξ):St:=⟨ρ,G9 os 0,os.length,os.length⟩
def G6(fl:BS)(r:ű):Prop:=BS.rec (r = .none) False False (λa=>r=a) fl
structure qG(k:Nat)(Q:ű->List Ξ->Prop)(τ:St)(r:ű)(os:List Ξ):Prop where
 shut:r.sub nn=some r
 len:os.length=k
 shuts:CG os
 objs :∀(i:Nat) (o:Ξ),os[i]?=some o->τ.H.lookup i=some o.ao
 q:Q r os
def aJ(fl:BS)(σ τ:St)(r:ű):Prop:=(G6 fl r/\A9 σ τ)\/∃v,G6 fl v/\Qw σ τ v r
def AE(k:Nat)(Q:ű->List Ξ->Prop)(fl:BS)(σ:St):Prop:=∃r τ os,aJ fl σ τ r/\qG k Q τ r os
noncomputable def J3(f:bN0):Value:=match f with
 | .ret v=>v
 | _=>.none
def KX{X:š}{c:Ĳ}{af:BS}{f:bN0}{r:ű}(a:Q9 X c af f)(b:G6 af r):Š X c r (J3 f):=by
 cases af with
 | next=>rwa[show f = .next from a,show r = .none from b];exact rfl
 | ret v=>exact a.elim λu q=>by rwa[q.1,show r=v from b];exact q.2
 | brk=>exact b.elim
 | cont=>exact b.elim
def fB(G:ħ)(k:Nat):Prop:=∀a p,G.tag a=some p->p = .lock\/∃i,i<k/\((p = .obj i/\a=G.μ i)\/(p = .dict i/\a=G.δ i))
def Rk{X:š}{S:â}{P:Ť}{body:List aG8}{G G0:ħ}{s s1:aA5}{os:List Ξ}{ρ:List (Str×ű)}{Q:ű->List Ξ->Prop}(H:Jn X S)(hs:X.hs=s.heap)(hG:X.aG=G)(hn:X.an=os.length)(hg:X.gens=s.gens)(ho:X.os=s.os)(nt:fB G os.length)
  (D:KD G X.h₀ s) (T :∀(i:Nat) (o:Ξ),os[i]?=some o->G.tag (G.δ i)=some (.dict i)) (lk :∀a,G.tag a=some .lock->G0.tag a=some .lock) (R0:Ī X ⟨G0,AT ρ os,s1⟩) (h:Ŧ P S body (AT ρ os) (AE os.length Q)) :
  ė X (execs body X.env) (λfl s'=>V1 X.L G os.length s Q (J3 fl) s') s1:=
 (Kx H body h G0 s1 R0).mono λfl s' p=>by
  cases p with
  | mk G' σ' af k R' fr q=>
  obtain⟨r,τ,os',hw,L⟩:=q
  obtain⟨G'',k2,R,hv⟩ :∃G'',ù G' s'.heap G'' s'.heap/\Ī X ⟨G'',τ,s'⟩/\A2 X.L G'' s'.heap 0 r (J3 fl):=hw.elim (λ⟨hf,hw⟩=>by
   obtain⟨G'',k2,R⟩:=hw X G' s' R'
   exact⟨G'',k2,R,A2.shut (n':=0) k2.still L.shut (KX fr hf)⟩) λ⟨v,hf,hw⟩=>by
   obtain⟨G'',⟨k2,R⟩,h⟩:=hw X G' s' R'
   exact⟨G'',k2,R,A2.shut (n':=0) (ù.refl _ _).still L.shut (h _ (KX fr hf))⟩
  have an :∀i,i<os.length->G''.μ i=G.μ i/\G''.δ i=G.δ i:=λi hi=>hG▸R.anc.2.2 i (hn▸hi)
  have Ĵ :∀{i:Nat},i<os.length->∃o:Ξ,os'[i]?=some o/\F9 X ⟨G'',τ,s'⟩ i o.ao:=λ{i} hi=>⟨os'[i]'(L.len▸hi),aA9 _,R.obj i _ (L.objs i _ (aA9 _))⟩
  have own2 :∀a,G.own a->G''.own a:=λa ha=>by
   cases e:G.tag a with
   | none=>exact bQ8 e ha
   | some p=>
    exact(nt a p e).elim (λz=>A0 (k2.lock a (k.lock a (lk a (z▸e))))) λz=>z.elim λi z=>
     have hi:=z.1
     (Ĵ hi).elim λo q=>z.2.elim (λz=>z.2.trans (an i hi).1.symm▸A0 q.2.tag) λz=>z.2.trans (an i hi).2.symm▸q.2.rel.casesOn λ_ _ _ _ _ ht=>A0 ht
  have st:CZ G'' s'.heap G s'.heap:=λa o e q=>⟨e,λz=>q (own2 a z)⟩
  exact⟨r,os',L.q,L.shut,L.len,L.shuts,λb o e q=>R.keep b o (hs▸e) (hG▸q),hs▸R.size,R.gens.trans hg,R.os.trans ho,λi o e=>
   have hi:i<os.length:=L.len▸(aB3.mp e).1
   Bx.sub st (λx w e=>AA e) (an i hi).1.symm (an i hi).2.symm (λ_ e=>e) (λ_=>⟨λ_ e=>e,(an i hi).2.symm▸T i _ (aA9 hi)⟩) o.ao o.ao ((bQ5 (aE0 (Ř.inst o.1)) (L.shuts i o e)).trans rfl) (R.obj i _ (L.objs i o e)).rel,hv.shut st L.shut⟩
open Classical in
def ħ.neat(G:ħ)(k:Nat):ħ:=⟨λa=>(G.tag a).map λp=>if∃i,i<k/\((p = .obj i/\a=G.μ i)\/(p = .dict i/\a=G.δ i))then p else .lock,G.μ,G.δ⟩
section
variable{G:ħ}{k:Nat}{a:aC2}{L:Bt}{h:aF2}{i:Nat}{o:Ξ}
def Cn:(G.neat k).own a↔G.own a:=by
 show(G.tag a).map _≠none↔G.tag a≠none
 cases G.tag a with
 | none=>exact bL1
 | some p=>exact⟨λ_ z=>(nomatch z),λ_ z=>nomatch z⟩
def G5:CZ G h (G.neat k) h:=λa o e q=>⟨e,λz=>q (Cn.mp z)⟩
def Gc:CZ (G.neat k) h G h:=λa o e q=>⟨e,λz=>q (Cn.mpr z)⟩
def KI{p:AR}(e:(G.neat k).tag a=some p):p = .lock\/(G.tag a=some p/\∃i,i<k/\((p = .obj i/\a=G.μ i)\/(p = .dict i/\a=G.δ i))):=by
 obtain⟨q,e1,e2⟩:=map_some e
 by_cases hc :∃i,i<k/\((q = .obj i/\a=G.μ i)\/(q = .dict i/\a=G.δ i))
 ·rw[bQ6 hc]at e2;exact .inr (e2▸⟨e1,hc⟩)
 ·rw[bQ7 hc]at e2;exact .inl e2.symm
def VU:fB (G.neat k) k:=λa p e=>(KI e).imp id λq=>q.2
def Us(e:(G.neat k).mt a):G.mt a:=e.elim λp q=>(KI q.1).elim (λz=>bQ8 z q.2) λz=>⟨p,z.1,q.2⟩
def NV{p:AR}(e:G.tag a=some p)(q :∃i,i<k/\((p = .obj i/\a=G.μ i)\/(p = .dict i/\a=G.δ i))):(G.neat k).tag a=some p:=(bQ5 (aE0 _) e).trans (bQ5 some (bQ6 q))
def HE(g:Ky L G h k i o)(hi:i<k)(s:AK nn o.2=some o.2):Ky L (G.neat k) h k i o:=
 ⟨NV g.tag ⟨i,hi,.inl ⟨rfl,rfl⟩⟩,Bx.sub G5 (λ_ _ e=>AA e) rfl rfl (λ_=>id) (λt=>⟨λ_=>id,NV t ⟨i,hi,.inr ⟨rfl,rfl⟩⟩⟩) o.ao o.ao (bQ5 (aE0 (Ř.inst o.1)) s) g.rel⟩
def HI(g:Ky L G h k i o):G.tag (G.δ i)=some (.dict i):=g.rel.casesOn λ_ _ _ _ _ ht=>ht
def Ow{s s':aA5}{Q:ű->List Ξ->Prop}{v:Value}(t :∀i,i<k->G.tag (G.δ i)=some (.dict i))(b:V1 L (G.neat k) k s Q v s'):V1 L G k s Q v s':=
 b.casesOn λr os' q sh len shs keep size gens os objs rel=>⟨r,os',q,sh,len,shs,λb o e z=>keep b o e λy=>z (Us y),size,gens,os,
  λi o e=>Bx.sub Gc (λ_ _ e=>AA e) rfl rfl (λ_=>id) (λ_=>⟨λ_=>id,t i (len▸(aB3.mp e).1)⟩) o.ao o.ao (bQ5 (aE0 (Ř.inst o.1)) (shs i o e)) (objs i o e),rel.shut Gc sh⟩
end
section
variable{k:Str->Option aS7}{L:Bt}{G:ħ}{h:aF2}{n:Nat}
def Li{ps:List Str} :∀{vs:List Value} {m:Str->Option Value} {x:Str},x∉ps->bindL k (ps.zip vs) m x=m x:=
 aB4 (motive:=λps=>∀{vs:List Value} {m:Str->Option Value} {x:Str},x∉ps->bindL k (ps.zip vs) m x=m x) (λ{vs m x} _=>rfl) (λp r ih vs m x hx=>by
  cases vs with
  | nil=>rfl
  | cons v vs=>
   refine(ih λz=>hx (aC7 _ z)).trans ?_
   exact Ih (P:=λf:Str->Option Value=>f x=m x) (bQ7 λz:x=p=>hx (z.symm▸aC0 ..)) rfl) ps
def La{ps:List Str} :∀{vs:List Value} {m:Str->Option Value} {x:Str},x∉ps->bindC k (ps.zip vs) m x=m x:=
 aB4 (motive:=λps=>∀{vs:List Value} {m:Str->Option Value} {x:Str},x∉ps->bindC k (ps.zip vs) m x=m x) (λ{vs m x} _=>rfl) (λp r ih vs m x hx=>by
  cases vs with
  | nil=>rfl
  | cons v vs=>
   refine(ih λz=>hx (aC7 _ z)).trans ?_
   exact Ih (P:=λf:Str->Option Value=>f x=m x) rfl (bQ7 λz:x=p=>hx (z.symm▸aC0 ..))) ps
def Sb{ps:List Str} :∀{as:List ű} {vs:List Value} {m:Str->Option Value} {x:Str} {a:ű},ps.Nodup->AW L G h n as vs->(ps.zip as).lookup x=some a->k x=some .local->∃v,bindL k (ps.zip vs) m x=some v/\A2 L G h n a v:=
 aB4 (motive:=λps=>∀{as:List ű} {vs:List Value} {m:Str->Option Value} {x:Str} {a:ű},ps.Nodup->AW L G h n as vs->(ps.zip as).lookup x=some a->k x=some .local->∃v,bindL k (ps.zip vs) m x=some v/\A2 L G h n a v) (λ_ _ e=>AA e) (λp r ih as vs m x a hn q e hk=>by
  cases as with
  | nil=>exact AA e
  | cons b as=>
   obtain⟨v,us,rfl,q1,õ⟩:=q
   have hn:=aZ3.mp hn
   exact CW e (λz y=>by
    subst z;subst y
    refine⟨v,?_,q1⟩
    show bindL k (r.zip us) (if k x=some .local then _ else _) x=some v
    rwa[bQ6 hk,Li hn.1]
    exact bQ6 rfl) λe=>ih hn.2 õ e hk) ps
def QJ{ps:List Str} :∀{as:List ű} {vs:List Value} {m:Str->Option Value} {x:Str} {a:ű},ps.Nodup->AW L G h n as vs->(ps.zip as).lookup x=some a->k x≠some .local->∃v,bindC k (ps.zip vs) m x=some v/\A2 L G h n a v:=
 aB4 (motive:=λps=>∀{as:List ű} {vs:List Value} {m:Str->Option Value} {x:Str} {a:ű},ps.Nodup->AW L G h n as vs->(ps.zip as).lookup x=some a->k x≠some .local->∃v,bindC k (ps.zip vs) m x=some v/\A2 L G h n a v) (λ_ _ e=>AA e) (λp r ih as vs m x a hn q e hk=>by
  cases as with
  | nil=>exact AA e
  | cons b as=>
   obtain⟨v,us,rfl,q1,õ⟩:=q
   have hn:=aZ3.mp hn
   exact CW e (λz y=>by
    subst z;subst y
    refine⟨v,?_,q1⟩
    show bindC k (r.zip us) (if k x=some .local then _ else _) x=some v
    rwa[bQ7 hk,La hn.1]
    exact bQ6 rfl) λe=>ih hn.2 õ e hk) ps
def E4{x:Str}{names:List (Str×aS7)} :∀{n:Nat} {acc:List (Str×aC2)},((x,aV1)∈names\/acc.lookup x≠none)->(cellsFrom n names acc).lookup x≠none:=
 aB4 (motive:=λnames=>∀{n:Nat} {acc:List (Str×aC2)},((x,aV1)∈names\/acc.lookup x≠none)->(cellsFrom n names acc).lookup x≠none) (λ{n acc} h=>h.elim (λz=>nomatch z) id) (λp r ih n acc h=>by
  show(if(p.2==aV1)=true then cellsFrom (n+1) r ((p.1,n)::acc)else cellsFrom n r acc).lookup x≠none
  by_cases hk:(p.2==aV1)=true
  ·rwa[bQ6 hk]
   refine ih (h.elim (λz=>(aF4.mp z).elim (λe=>.inr ?_) .inl) λz=>.inr ?_)
   ·rwa[e.symm];exact λz=>nomatch List.lookup_cons_self.symm.trans z
   ·intro y
    rw[AQ]at y
    cases hx:x==p.1 with
    | true=>rw[hx]at y;cases y
    | false=>rw[hx]at y;exact z y
  ·rwa[bQ7 hk]
   exact ih (h.elim (λz=>(aF4.mp z).elim (λe=>bQ8 (e▸rfl) hk) .inl) .inr)) names
end
structure Z5(h₀:aF2)(fa:aC2)(fd:aY3)(body:List aG8)(ps:List Str)(dvs:List Value):Prop where
 obj :∃o,h₀.get? fa=some o/\o.data = .func fd
 lim:h₀.NoLimit
 cod:h₀.CodeRec fd.code fd.qualname
 bod:fd.body = .stmts body
 clo:fd.closure=[]
 nofree :∀x∈fd.scope.names,x.2≠.free
 co:fd.scope.isCoroutine=false
 gen:fd.scope.isGenerator=false
 kind:fd.scope.kind = .function
 nodup:ps.Nodup
 loc :∀x∈ps,fd.scope.names.lookup x=some .local\/fd.scope.names.lookup x=some .cell
 bind :∀(s:aA5) (vas:List Value),(∀b o,h₀.get? b=some o->s.heap.get? b=some o)->vas.length+dvs.length=ps.length->aZ4 s fd ⟨vas,[]⟩ (ps.zip (vas++dvs))
open Classical in
def ħ.frame(G:ħ)(env:Env):ħ:=⟨λa=>if a=env.locals then some .loc else if h :∃n,env.cells.lookup n=some a then some (.cell h.choose)else G.tag a,G.μ,G.δ⟩
section
variable{G:ħ}{env:Env}{n:Nat}{a:aC2}{p:AR}
def HB(e:(G.frame env).tag a=some p):(a=env.locals/\p = .loc)\/(∃y,env.cells.lookup y=some a/\p = .cell y)\/G.tag a=some p:=by
 unfold ħ.frame at e
 dsimp only at e
 split at e
 ·exact .inl ⟨‹_›,(aA3 e).symm⟩
 ·split at e
  ·rename_i h;exact .inr (.inl ⟨_,h.choose_spec,(aA3 e).symm⟩)
  ·exact .inr (.inr e)
def MJ(hl :∀b,G.own b->b<env.locals)(hc :∀y c,env.cells.lookup y=some c->env.locals<c)(e:G.tag a=some p):(G.frame env).tag a=some p:=by
 have lt:=hl a (A0 e)
 exact(bQ7 (aE4 lt)).trans ((dif_neg λh=>Nat.lt_asymm lt (hc _ _ h.choose_spec)).trans e)
def Ma(ha:env.cells.Pairwise λx y=>x.2≠y.2)(hc :∀y c,env.cells.lookup y=some c->env.locals<c){y:Str}(e:env.cells.lookup y=some a):(G.frame env).tag a=some (.cell y):=
 have ex :∃n,env.cells.lookup n=some a:=⟨y,e⟩
 (bQ7 (aO2 (hc y a e))).trans ((dif_pos ex).trans (bQ5 (λn=>some (AR.cell n)) (name_of_addr ha (mem_of_lookup ex.choose_spec) (mem_of_lookup e))))
end
def KB{L:Bt}{h₀:aF2}{d:Nat}{fa:aC2}{fd:aY3}{body:List aG8}{ps:List Str}{es:List ű}{dvs:List Value}{P:Ť}{S:â}{tr:ĉ}(K:Z5 h₀ fa fd body ps dvs)(hdv :∀{L:Bt} {G:ħ} {h:aF2} {n:Nat},AW L G h n es dvs)
  (hP :∀X:š,X.L=L->X.h₀=h₀->Cd d X.A->X.env.globals=fd.globals->X.env.builtins=fd.builtins->X.env.scope=fd.scope->Jn X S)
  (h :∀as os Q,tr as os Q->(as.length+es.length=ps.length/\CG os)/\Ŧ P S body (AT (ps.zip (as++es)) os) (AE os.length Q)):As L h₀ (d+1) (.ref fa) tr:=λ{A s G as os Q vas} hA D hO hV ht=>by
 obtain⟨o,ho,hdata⟩:=K.obj
 have hos:=D.base _ _ ho
 refine⟨λQ' E' hq=>?_,?_⟩
 ·unfold bG4
  refine aA1 (aU3 hos ?_)
  rwa[hdata]
  exact aA4 (hq _)
 obtain⟨⟨hl,hsh⟩,hw⟩:=h as os Q ht
 have hvl:vas.length+dvs.length=ps.length:=hV.len.symm▸(AW.len (hdv (L:=L) (G:=G) (h:=s.heap) (n:=0))).symm▸hl
 refine codeAny_call_function (aE9 (aD5 _ _) hA.2.1) hos hdata K.co K.gen K.bod (K.cod.keeps D.base) (K.bind s vas D.base hvl _ _ _ _ ?_)
 rwa[K.clo]
 refine wpAny_newFunctionEnv_cells K.kind (λx hx=>(K.loc _ (List.of_mem_zip hx).1).imp id λz=>⟨z,Option.isSome_iff_ne_none.mpr (E4 (.inl (mem_of_lookup z)))⟩) λenv hE s1 x=>⟨(K.lim.keeps D.base).keeps x.toInCall.keep,codeAny_func ?_⟩
 have e1:env.locals=s.heap.objs.size:=hE▸rfl
 have e2:env.cells=cellsFrom (s.heap.objs.size+1) fd.scope.names []:=hE▸rfl
 have e3:env.scope=fd.scope:=hE▸rfl
 have e4:env.globals=fd.globals:=hE▸rfl
 have e5:env.builtins=fd.builtins:=hE▸rfl
 clear hE
 obtain⟨⟨⟨h1,tk,hs1⟩,hns,hkeep,_⟩,hcell,hapart,habove⟩:=x
 have hab :∀y c,env.cells.lookup y=some c->env.locals<c:=λy c e=>habove y c (mem_of_lookup e)
 have lo :∀b,(G.neat os.length).own b->b<env.locals:=λb e=>e1▸D.lt b (Cn.mp e)
 have told :∀{a p},(G.neat os.length).tag a=some p->((G.neat os.length).frame env).tag a=some p:=MJ lo hab
 have sz:s.heap.objs.size<=s1.heap.objs.size:=e1▸aG2 hns.lt
 have pc :∀{a p},((G.neat os.length).frame env).tag a=some p->s.heap.objs.size<=a\/(G.neat os.length).tag a=some p:=λ{a p} e=>(HB e).elim (λz=>.inl (aB7 (z.1.trans e1).symm)) λz=>z.elim (λz=>z.elim λy z=>.inl (e1▸aG2 (hab y a z.1))) .inr
 have oc :∀{a},((G.neat os.length).frame env).own a->s.heap.objs.size<=a\/(G.neat os.length).own a:=λ{a} e=>by
  cases t:((G.neat os.length).frame env).tag a with
  | none=>exact bQ8 t e
  | some p=>exact(pc t).imp id A0
 let X:š:=⟨L,A.deeper env,env,s.heap,h₀,G.neat os.length,os.length,s.gens,s.os⟩
 have p:Dl ⟨G.neat os.length,AT (ps.zip (as++es)) os,s⟩ ⟨(G.neat os.length).frame env,AT (ps.zip (as++es)) os,s1⟩:=⟨λa o e q=>⟨hkeep a o e,λz=>(oc z).elim (Cs e) q⟩,λ_ _=>⟨rfl,rfl⟩,aA6 _⟩
 have hV':Ě X ⟨(G.neat os.length).frame env,AT (ps.zip (as++es)) os,s1⟩ (as++es) (vas++dvs):=p.va (X:=X) (AW.append (AW.sub G5 (λy w e hy=>by cases e;exact⟨rfl,hy⟩) (D1 as) hV) hdv)
 have R0:Ī X ⟨(G.neat os.length).frame env,AT (ps.zip (as++es)) os,s1⟩:={
  base:=λb o e=>hkeep _ _ (D.base b o e)
  keep:=λb o e _=>hkeep _ _ e
  size:=sz
  mutHs:=λa e=>e.elim λq e=>(pc e.1).elim .inr λz=>.inl ⟨q,z,e.2⟩
  ownB:=λa e=>(oc e).elim (λw=>aX1 (aA2 D.size w)) λz=>D.lo a (Cn.mp z)
  ownLt:=λa e=>by
   cases t:((G.neat os.length).frame env).tag a with
   | none=>exact bQ8 t e
   | some p=>exact(HB t).elim (λz=>z.1▸hns.lt) λz=>z.elim (λz=>z.elim λy z=>(hcell y a z.1).lt) λz=>aB2 (D.lt a (Cn.mp (A0 z))) sz
  gens:=by rwa[hs1];rfl
  os:=by rwa[hs1];rfl
  loc:=⟨_,hns,λx av q1 õ=>Sb K.nodup hV' q1 õ⟩
  cel:=λx c e=>⟨_,hcell x c e,λav q1 õ=>(QJ K.nodup hV' q1 õ).imp λv q=>q⟩
  celAll:=λx q1 õ=>q1.elim (λz=>E4 (.inl (mem_of_lookup (e3▸z:fd.scope.names.lookup x=_))) (e2▸õ)) λz=>K.nofree _ (mem_of_lookup (e3▸z:fd.scope.names.lookup x=_)) rfl
  tloc:=bQ6 rfl
  tcel:=λx c e=>Ma hapart hab e
  obj:=λx o e=>by
   obtain⟨j,b,z,q1,rfl⟩:=JM e
   obtain rfl:x=j:=z.trans (aH9 j)
   have hx:=(aB3.mp q1).1
   have g:=HE (hO x b q1) hx (hsh x b q1)
   exact p.obj (X:=X) (told g.tag) (hkeep _) (λt=>⟨hkeep _,told t⟩) ⟨hx,g.tag,g.rel⟩
  anc:=⟨aA6 _,aA6 _,λ_ _=>⟨rfl,rfl⟩⟩
  bsz:=aA2 D.size sz}
 have H:=hP X rfl rfl ⟨hA.1,by have:=hA.2.1;show A.depth+1+d<_;exact id (ũ [_,_,_] 0x21180aa12181a0a18 (by rfl') this),by have:=hA.2.2;show A.units+3+10*d+40<_;exact id (ũ [_,_,_] 0x2000028910ac380aaa120000289181a0ac0aa18 (by rfl') this)⟩ e4 e5 e3
 have T :∀(i:Nat) (o:Ξ),os[i]?=some o->G.tag (G.δ i)=some (.dict i):=λi o e=>HI (hO i o e)
 refine aP1 (Rk (G:=G.neat os.length) (s:=s) H rfl rfl rfl rfl rfl VU ⟨λa e=>D.lo a (Cn.mp e),λa e=>D.lt a (Cn.mp e),D.base,D.size⟩ (λi o e=>HI (HE (hO i o e) (aB3.mp e).1 (hsh i o e))) (λa e=>told e) R0 hw) (λfl s' b=>?_) λ_ _ x=>x.elim
 exact⟨_,rfl,Ow (λi hi=>T i _ (aA9 hi)) b⟩
def T5{L:Bt}{h₀:aF2}{d:Nat}{fa:aC2}{fd:aY3}{body:List aG8}{ps:List Str}{P:Ť}{S:â}{tr:ĉ}(K:Z5 h₀ fa fd body ps [])
  (hP :∀X:š,X.L=L->X.h₀=h₀->Cd d X.A->X.env.globals=fd.globals->X.env.builtins=fd.builtins->X.env.scope=fd.scope->Jn X S)
  (h :∀as os Q,tr as os Q->(as.length=ps.length/\CG os)/\Ŧ P S body (AT (ps.zip as) os) (AE os.length Q)):As L h₀ (d+1) (.ref fa) tr:=
 KB (es:=[]) K (λ{_ _ _ _}=>rfl) hP λas os Q ht=>have q:=h as os Q ht;⟨q.1,Eq.mpr (bQ5 (λl=>Ŧ P S body (AT (ps.zip l) os) (AE os.length Q)) (aE1 as)) q.2⟩
end Mine
end
section
open PySem PySem.W PyProof.Rows
namespace Mine
noncomputable abbrev Ŝ:aF3:=aH5
noncomputable def F1:Option aG8->aH7×List aG8×Scope
 | some (.FunctionDef _ a b _ _ _ sc _ _ _)=>(a,b,sc)
 | _=>(⟨[],[],none,[],[],none,[]⟩,[],⟨.module,[],false,false,[]⟩)
noncomputable def Vx(b:List aG8):Str:=(docOf b).getD ⟨#[]⟩
def NF(q:aH7×List aG8×Scope):Str:=Vx q.2.1
noncomputable def Ħ(n:Nat):List Nat:=aV6 (λ_=>[]) (λ_ r n=>cond (aE6 n 0) [] (n%128::r (n / 128))) 64 n
def st(n:Nat):Str:=⟨(Ħ n).toArray⟩
def ţ:=st 0xbf7f2edc3bafdf
def ē:=st 0xe7bb4f4d9a7ae2
def ż:=st 0x17efe3df92fdf
def ð:=st 0x17efe5cf875e3c3c2fdf
def Ņ:=st 0x2fdfe597261dfb2fdf
def ä:=st 0xbf7f1e5e1cefdf
def z6:=st 0x17eff3e787663bf93669eb8afdf
def z7:=st 0x2fdfe9cb7f0dba6fdf
def z8:=st 0x1cf161
def ó:=st 0x1b3661
def tT:=st 0x1e7761
def uQ:=st 0x69d38f9e1
def v7:=st 0x326fdbdb4e4
def Û:=st 0x39f3c3b31e2ebcf9e9
def zV:=st 0x1bb2ec
def y0:=st 0x1e30ed
def yY:=st 0x1bb4ed
def xS:=st 0x3265e9cb7f3
def yD:=st 0x1b7af3
def yZ:=st 0x1937e8e9976f3e787663
def À:=st 0x65e987965dbd7765
def wX:=st 0xe9cf4ec
def vP:=st 0x1c30ed
def v8:=st 0x65cfbb0f2
def xV:=st 0x1d32f3
def vY:=st 0x65d9c3af4
def vT:=st 0xcbc3cf4
def Ë:=st 0x396fe5ca2e5e9d7169e5d3a41
def qZ:=st 0x72dfcb945cbc3cd4
def aB:=st 0xbf7f769c3b6fdf
def fQ:=st 0x17eff3ddbf4f4c3d37eedd86fdf
def qO:=st 0xbf7f9eed3d3669eb8afdf
def lP:=st 0xbf7f2ecd39afdf
def Bb:=st 0x79e0bba75c6bf6e9c3b31af
def nH:=st 0x2fdfc997463c38efdf
def jL:=st 0x7d97675c9bf6bc
def PG:=st 0x39617dcb560c36e4bfdf0ec
def LH:=st 0x6cd987bdf
def JI:=st 0xe597a74cb9f2ece1d7a5f
def Iw:=st 0x68c7d30cd
def Jt:=st 0xdfa7a61e57f2f4c3b3ae3d9871df
def J0:=st 0x1cb2e8c7d30cdcb8f765ebc72d3
def Kz:=st 0x73e9d71dfef8765f
def Jg:=st 0x1932eed3bf55fef8765f
def Jp:=st 0x6cdfbf85fef8765f
def Kb:=st 0x1df0ec
def TW:=st 0x6b
def M2:=st 0x2fdfcbb3ae4dfb6fdf
def Be:=st 0x3169d99b369c8b99b167e7863
def TX:=st 0xbf7f2edc3bb661ebc6fdf
def Oh:=st 0x17efefdd97769d9d39f2d39afdf
def H3:=st 0xbf7fa69dda6fdf
def Oc:=st 0x17eff4cb9efdf
def Pa:=st 0x17eff4cbcefdf
def O1:=st 0x2fdfcbd32eccb92fdf
def OY:=st 0x5fbfcf2f4eb8b4f2e9d30dfc7a7a61e9cefdf
def Cg:=st 0xcdb32f3
def Ic:=st 0x78cb93769
def Rz:=st 0x18f7e4
def Yw:=st 0x5fbfd34eed37efaee597a74cb9f2ece1d7a5f
def V6:=st 0x1ab16f
def iM:=st 0x197879e9ab16f
def Zc:=st 0xbf7fa65cf7efaee597a74cb9f2ece1d7a5f
def iL:=st 0x65ebb30f6
def W1:=st 0xbf7fa65e77efaee597a74cb9f2ece1d7a5f
def ZS:=st 0x17efe5e997665c97efaee597a74cb9f2ece1d7a5f
def Tf:=st 0xbf7fa63d392fdf
def Tx:=st 0x17efe6cbcb5e1cbdefdf
def Yi:=st 0x5fbfcfa6fd9cefdf
def Ze:=st 0x1cf26ccba735f
def XO:=st 0x1cfa6ceb87365c97f26ccba735f
def O4:=st 0x17eff7cbbafdf
def M3:=st 0x65d7876df
def PE:=st 0xcb8f0ece19795f
def WY:=st 0x17efe5c787670cbcafdf
def PX:=st 0xbf7f970cbcafdf
def Oa:=st 0x1d31e9c9cf0df
def PF:=st 0x2fdfe79f961ef97774cb9efdf
def We:=st 0x2fdfe79f961bfa31f4c3b6fdf
def G0:=st 0x61
def GE:=st 0x62
def Jr:=st 0xcbeb4f3
def qA:=st 0x5fbfb3665c7cf9e1d98efdf
def iY:=st 0xe7b31df
def Wq:=st 0x5fbfdf2eebf7d768c7d30cd
def bO:=st 0x1cf663
def dO:=st 0xcbb3161e597a69
def ZZ:=st 0x3a6cebcf2f2
def Vf:=st 0x1975e1db7d768c7d30cd
def XC:=st 0x5fbfcf9e1d98efdf
def gR:=st 0xe793beb
def YJ:=st 0x32e3c3b3865e57d768c7d30cd
def ZT:=st 0x2fdfe5c32f2bf7d768c7d30cd
def WZ:=st 0x74c7a7273c37d768c7d30cd
def Xm:=st 0xbf7f9e7e587be5ddd32e7bf7d768c7d30cd
def Xn:=st 0x6083965c5b7aee4193665d399072df99073c3a7641
def XH:=st 0x6283965c5b7aee4193665d399072df99073c3a7641
def XR:=st 0x6483965c5b7aee4193665d399072df99073c3a7641
def ZR:=st 0x1cf2e8c7d30ed
def bY:=st 0x3474cfbb2ec
def PZ:=st 0xe7c72f3bfd32f3
def Ox:=st 0x63c72f3bfd32f3
def OA:=st 0x65c72f3bfd32f3
def Yu:=st 0x62bfbb4e1d18efdfe597463e9866e5c7bb2f5e3969df
def PM:=st 0x3463e9876dfe9cf2e7ddbf65fc9bb4e6
def P6:=st 0x1cf5e3dfb315fcfbb4e8c7d30edbfd32e7
def OU:=st 0x1cf2e4df8f86fbfd32e7
def ON:=st 0x1cf2e4df8f86fbf932f0ebbf967bfd32e7
def O5:=st 0x6fd3d30f2
def OD:=st 0x1bf4f4c3cafebc7a7af1
def Oj:=st 0xdfa7a61e57f5e3d3d78dfd9872f2
def Xd:=st 0x0
def Tc:=st 0x35eeebab9e9
def WW:=st 0xd7bbaeadfd3ae1
def WV:=st 0xbf7fa69dda6fdf5dcb2e8c7d30cdcb8f765ebc72d3
def Y4:=st 0xe7c72f3bfd32f35dcb2e8c7d30cdcb8f765ebc72d3
def YN:=st 0x63c72f3bfd32f35dcb2e8c7d30cdcb8f765ebc72d3
def X8:=st 0x65c72f3bfd32f35dcb2e8c7d30cdcb8f765ebc72d3
def Tb:=st 0x1a9962
def Ra:=st 0x69
def bD:=st 0x1d3665
def eB:=st 0x1cf2e3d393769
def iW:=st 0xd7bbaea
def fC:=st 0x1cb0ecebc37f0
def W5:=st 0x6e
def Zz:=st 0x74e797a6e
def iH:=st 0xe7e3269
def Tj:=st 0x62bfbb4e1d18efdf
def XZ:=st 0x62bfbb4e1d18efdf5dcb2e8c7d30cdcb8f765ebc72d3
def XJ:=st 0x1bf661
def W4:=st 0x1a7461
def Z6:=st 0x1bf662
def Xa:=st 0x1a7462
def bJ:=st 0x1af775d58b9e9
def eO:=st 0x69e9cf2e2
def bQ:=st 0x6ae9cf2e2
def i5:=st 0xcbeb4f3e9cf2e2
def gE:=st 0x6ecbb196a
def gH:=st 0x19f769d1d37ee
def eI:=st 0xe9973eecbb196a
def iC:=st 0xdd97632d5df2ee
def UO:=st 0x6a
def W9:=st 0x3463e9876dfe9cf2e7ddbf65fc9bb4e65dcb2e8c7d30cdcb8f765ebc72d3
def eP:=st 0x30ec
def dQ:=st 0x316c
def eL:=st 0x65eb97af1
def Yr:=st 0x1cf5e3dfb315fcfbb4e8c7d30ed
def ZK:=st 0x78
def iG:=st 0x18e9
def bM:=st 0x18ea
def aW:=st 0x18eb
def iA:=st 0xe9bb2e3c3ab261bfbb7ee
def jP:=st 0x1969
def eW:=st 0x196a
def eM:=st 0x196b
def ZO:=st 0x1cf5e3dfb315fcfbb4e8c7d30edbfd32e75dcb2e8c7d30cdcb8f765ebc72d3
def fZ:=st 0x3965efcf761
def i9:=st 0x34e1
def dL:=st 0x3562
def bH:=st 0x19f0f4
def Wl:=st 0x1cf2e4df8f86fbfd32e75dcb2e8c7d30cdcb8f765ebc72d3
def X7:=st 0x1cf2e4df8f86fbf932f0ebbf967bfd32e75dcb2e8c7d30cdcb8f765ebc72d3
def Z1:=st 0x6fd3d30f25dcb2e8c7d30cdcb8f765ebc72d3
def Wy:=st 0x1bf4f4c3cafebc7a7af15dcb2e8c7d30cdcb8f765ebc72d3
def YM:=st 0xdfa7a61e57f5e3d3d78dfd9872f25dcb2e8c7d30cdcb8f765ebc72d3
def cM:=st 0x6bddd7562
def fR:=st 0xe587675e1bf862
def fY:=st 0x3a6eebbf1e2d9b3ae6
def eC:=st 0x1cf2e4df8f86f
def iN:=st 0x3a70d3cb1f3
def ZM:=st 0xe7d3ae3
def fK:=st 0xe9cf2f2
def g5:=st 0x74e587a73
def cC:=st 0x3265ddcbaf4
def d3:=st 0x1cb2e8c7d30ed
def cR:=st 0xd9bf7f0
def gU:=st 0x65c7974f0
def bG:=st 0x74e587861
def dS:=st 0x72cba3a6f
def d7:=st 0x3265dda77ea
def tA:=st 0x17efedcbd34f4cb9efdf
def mU:=st 0x197a75c5a7974e985074cbcd0744fbb0e3
def mE:=st 0x32f4eb8b4f2e9d30a0cbd32eccb910744fbb0e3
def rE:=st 0x29cbeb4f340b31205985468c7d30cd
def nL:=st 0x1074df9d02ce7d3765dbd73f2c2819a0c997a63cbc3c45
def qN:=st 0x17efeecbb2fdf
def rA:=st 0x1c37f0
def sT:=st 0x40eb9e5db87720c9b32e9cc83265e98f2f0f19777541d37c7
def lY:=st 0x29e495ee5f5a79a059c92bdc4816724af70a8
def nN:=st 0x3a6ceb87365c9d32f3
def rB:=st 0x326ecbc3861
def tD:=st 0xe7e72eb
def nZ:=st 0x193261
def r6:=st 0x73db97a69
def sO:=st 0xbf7f9eed387a6edf8efdf
def m9:=st 0x1d32e7
def r8:=st 0xe9cb7f3
def oN:=st 0x1971e1d9c32f2
def pG:=st 0x32f4cbb32e4
def nO:=st 0x3a72cbcf769
def nW:=st 0x6cc3d78e5
def qR:=st 0x32ece1a7974
def mT:=st 0x182e
def lZ:=st 0x74e7cb4e6
def mQ:=st 0x326edf8f2f3
def mC:=st 0xe9cf7ed
def lR:=st 0xc9cb7f7
def pD:=st 0x326ecbd3c65
def oB:=st 0xcbbb4ec
def r7:=st 0xe9cf0e6
def rI:=st 0xe9e32f4
def l9:=st 0x73cba31f4cbcba73
def m3:=st 0x193765
def oK:=st 0x197ae4
def nM:=st 0x39e5c7974f0
noncomputable abbrev kh(P:aD7)(x:Str):Int:=bG5 P x
def ŭ:aH7×List aG8×Scope:=F1 (Ŝ.main.body[0]?)
def q1:aH7×List aG8×Scope:=F1 ((A1 (Ŝ.main.body[2]?))[0]?)
def õ:aH7×List aG8×Scope:=F1 ((A1 (Ŝ.main.body[2]?))[1]?)
def q3:aH7×List aG8×Scope:=F1 ((A1 (Ŝ.main.body[2]?))[2]?)
def ą:aH7×List aG8×Scope:=F1 ((A1 (Ŝ.main.body[2]?))[3]?)
def Ŋ:aH7×List aG8×Scope:=F1 ((A1 (Ŝ.main.body[3]?))[4]?)
def í:aH7×List aG8×Scope:=F1 ((A1 (Ŝ.main.body[3]?))[5]?)
def ť:aH7×List aG8×Scope:=F1 ((A1 (Ŝ.main.body[3]?))[6]?)
def č:aH7×List aG8×Scope:=F1 ((A1 (Ŝ.main.body[3]?))[8]?)
def ę:aH7×List aG8×Scope:=F1 ((A1 (Ŝ.main.body[3]?))[9]?)
def aV:aH7×List aG8×Scope:=F1 ((A1 (Ŝ.main.body[3]?))[10]?)
def jY:aH7×List aG8×Scope:=F1 (Ŝ.main.body[4]?)
def aA:aH7×List aG8×Scope:=F1 ((A1 (Ŝ.main.body[5]?))[1]?)
def i7:aH7×List aG8×Scope:=F1 ((A1 (Ŝ.main.body[5]?))[2]?)
def jF:aH7×List aG8×Scope:=F1 ((A1 (Ŝ.main.body[5]?))[3]?)
def cY:aH7×List aG8×Scope:=F1 ((A1 (Ŝ.main.body[5]?))[4]?)
def kX:aH7×List aG8×Scope:=F1 ((A1 (Ŝ.main.body[5]?))[5]?)
def g7:aH7×List aG8×Scope:=F1 ((A1 (Ŝ.main.body[5]?))[6]?)
def iJ:aH7×List aG8×Scope:=F1 ((A1 (Ŝ.main.body[5]?))[7]?)
def dY:aH7×List aG8×Scope:=F1 ((A1 (Ŝ.main.body[5]?))[8]?)
def j6:aH7×List aG8×Scope:=F1 ((A1 (Ŝ.main.body[5]?))[9]?)
def aX:aH7×List aG8×Scope:=F1 ((A1 (Ŝ.main.body[5]?))[10]?)
def uK:aH7×List aG8×Scope:=F1 ((A1 (Ŝ.main.body[5]?))[11]?)
def t0:aH7×List aG8×Scope:=F1 ((A1 (Ŝ.main.body[5]?))[12]?)
def kJ:aH7×List aG8×Scope:=F1 (Ŝ.main.body[7]?)
def kQ:aH7×List aG8×Scope:=F1 (Ŝ.main.body[8]?)
def k9:aH7×List aG8×Scope:=F1 (Ŝ.main.body[9]?)
def jZ:aH7×List aG8×Scope:=F1 (Ŝ.main.body[10]?)
noncomputable def Ĵ(t:String)(d:Data):Obj:=⟨.type t,.none,d,#[]⟩
noncomputable abbrev Ġ:Value:=.int 0 0
noncomputable def fb(n q:Str)(x y:aH7×List aG8×Scope):Obj:=⟨.none,.none,.func ⟨n,q,x.1,.stmts x.2.1,y.2.2,0,[],.none,.none,.none,.none,.none,.none,.none,0⟩,#[]⟩
def į(n q:Str)(x y:aH7×List aG8×Scope)(d e:Value)(m:Str)(k r:Nat):Obj:=Ĵ "function" (.func ⟨n,q,x.1,.stmts x.2.1,y.2.2,3,[],d,.none,e,.str m k,.none,.ref r,.none,0⟩)
def Ő(n q f:Str)(a:Nat)(l:Int)(k:Int)(r:Nat)(t:Int)(u:Nat):Obj:=Ĵ "code" (.fields #[.str n a,.str q (a+1),.str f (a+2),.int l 0,.int k 0,Ġ,Ġ,.int 3 0,.ref r,.bool .true,.int t 0,.ref (r+1),.none,.ref (r+2),.ref (r+3),.ref (r+4),.int u 0,.int l 0,.str f (u+1)])
def fe(n q f:Str)(a:Nat)(l:Int)(k:Int)(r:Nat)(t:Int)(u:Nat):Obj:=Ĵ "code" (.fields #[.str n a,.str q (a+1),.str f (a+2),.int l 0,.int k 0,Ġ,Ġ,.int 3 0,.ref r,.bool .true,.int t 0,.ref (r+1),.none,.none,.none,.ref (r+2),.int u 0,.int l 0,.str f (u+1)])
def Ż(n q f:Str)(a:Nat)(l:Int)(r:Nat)(t:Int)(u:Nat):Obj:=Ĵ "code" (.fields #[.str n a,.str q (a+1),.str f (a+2),.int l 0,Ġ,Ġ,Ġ,Ġ,.ref r,.bool .false,.int t 0,.ref (r+1),.none,.none,.none,.none,.int u 0,.int l 0,.str f (u+1)])
noncomputable def tQ:Nat->List Str->List Value
 | k,x::r=>.str x k::tQ (k+1) r
 | _,[]=>[]
def Ś(k:Nat)(l:List Str):Obj:=Ĵ "tuple" (.seq ⟨tQ k l⟩ 0)
def ğ(P:aD7)(x:Str)(k:Nat)(v:Value):aP3:=⟨kh P x,.str x k,v⟩
noncomputable def ë:Nat->List Obj->BT
 | n+1,x::r=>.node x (ë n (r.foldr (λx p=>(x::p.2,p.1)) ([],[])).1) (ë n (r.foldr (λx p=>(x::p.2,p.1)) ([],[])).2)
 | _,_=>.nil
noncomputable def ŝ:Obj:=Ĵ "tuple" (.seq #[] 0)
noncomputable def h1:Obj:=⟨.none,.none,.fields #[],#[]⟩
def h2:Obj:=Ż jL jL Bb 182 1 11 181 185
def h3:Obj:=⟨.type "frame",.none,.plain,#[.some (.ref 13),.some (.ref 3),.some (.ref 3),.none,.some (.str aB 164),.none,.some (.ref 0)]⟩
def h4(P:aD7):Obj:=Ĵ "dict" (.dict #[ğ P ţ 165 (.str PG 583),ğ P ż 166 (.none),ğ P ð 167 (.none),ğ P Ņ 168 (.builtin "__main__.__loader__#opaque"),ğ P ä 169 (.none),ğ P fQ 170 (.ref 6),ğ P qO 171 (.ref 4),ğ P lP 173 (.str Bb 172),ğ P nH 174 (.none),ğ P LH 193 (.ref 21),ğ P JI 252 (.ref 60),ğ P Iw 380 (.ref 135),ğ P Jt 388 (.ref 145),ğ P J0 582 (.ref 242),ğ P Kz 596 (.ref 253),ğ P Jg 602 (.ref 258),ğ P Jp 616 (.ref 265),ğ P Kb 622 (.ref 270)] 18)
noncomputable def ĸ:Obj:=⟨.none,.none,.fields #[.int 1 0,Ġ,.ref 20,.int 5 0,Ġ,.ref 27,.int 23 0,Ġ,.ref 71,.int 66 0,Ġ,.ref 144,.int 70 0,Ġ,.ref 151,.int 463 0,Ġ,.ref 252,.int 469 0,Ġ,.ref 257,.int 485 0,Ġ,.ref 264,.int 501 0,Ġ,.ref 269],#[]⟩
def Ę:Obj:=Ś 190 [TW]
def h7:Obj:=fb LH LH ŭ ŭ
def ś:Obj:=Ő LH LH Bb 187 1 1 15 181 191
def h9:Obj:=į LH LH ŭ ŭ .none .none aB 164 20
noncomputable def oC:Obj:=Ĵ "builtin_function_or_method" (.fields #[.builtin "type.__prepare__",.type "type"])
def zZ(P:aD7):Obj:=Ĵ "dict" (.dict #[ğ P M2 203 (.str Be 194),ğ P TX 205 (.str JI 204),ğ P Oh 207 (.int 5 206),ğ P H3 216 (.ref 35),ğ P Oc 225 (.ref 43),ğ P Pa 234 (.ref 50),ğ P O1 242 (.ref 57),ğ P OY 245 (.ref 58)] 8)
noncomputable def Ù:Obj:=⟨.none,.none,.fields #[.int 7 0,.int 4 0,.ref 34,.int 11 0,.int 4 0,.ref 42,.int 18 0,.int 4 0,.ref 49,.int 21 0,.int 4 0,.ref 56],#[]⟩
def zC:Obj:=Ż JI JI Bb 198 5 25 181 201
def xF:Obj:=⟨.type "frame",.none,.plain,#[.some (.ref 27),.some (.ref 3),.some (.ref 24),.none,.some (.str Be 194),.none,.some (.ref 0)]⟩
def v6:Obj:=Ś 211 [Cg,Ic,Rz]
def Ò:Obj:=fb H3 Yw q1 q1
def vW:Obj:=Ő H3 Yw Bb 208 7 3 29 181 214
def vZ:Obj:=į H3 Yw q1 q1 .none .none Be 194 34
noncomputable def xW:Obj:=Ĵ "tuple" (.seq #[.none] 0)
def zS:Obj:=Ś 220 [Cg,V6,iM]
def y6:Obj:=fb Oc Zc õ õ
def yQ:Obj:=Ő Oc Zc Bb 217 11 3 37 181 223
def wN:Obj:=į Oc Zc õ õ (.ref 36) .none Be 194 42
def Ê:Obj:=Ś 229 [Cg,V6,iL]
def wQ:Obj:=fb Pa W1 q3 q3
def w6:Obj:=Ő Pa W1 Bb 226 18 3 44 181 232
def xG:Obj:=į Pa W1 q3 q3 .none .none Be 194 49
def zW:Obj:=Ś 238 [Cg,V6]
def vN:Obj:=fb O1 ZS ą ą
def yR:Obj:=Ő O1 ZS Bb 235 21 2 51 181 240
def Ï:Obj:=į O1 ZS ą ą .none .none Be 194 56
def zI:Obj:=Ś 243 [ż,Ic]
def vO(P:aD7):Obj:=Ĵ "dict" (.dict #[ğ P M2 203 (.str Be 194),ğ P Oh 207 (.int 5 206),ğ P H3 216 (.ref 35),ğ P Oc 225 (.ref 43),ğ P Pa 234 (.ref 50),ğ P O1 242 (.ref 57),ğ P OY 245 (.ref 58),ğ P Tf 247 (.ref 61),ğ P Tx 249 (.ref 62),ğ P ż 250 (.none)] 4)
def yA:Obj:=⟨.type "type",.none,.cls ⟨JI,[.type "object"],[.ref 60,.type "object"],59,JI,.true,[],[],.false,.none,.false⟩,#[.none,.none,.some (.str JI 196),.some (.str JI 204),.some (.builtin "object.__new__"),.some (.bool .true)]⟩
def zK:Obj:=Ĵ "getset_descriptor" (.fields #[.str Tf 246,.ref 60,.builtin "function.__dict__",.builtin "function.__dict__#set"])
def yI:Obj:=Ĵ "getset_descriptor" (.fields #[.str Tx 248,.ref 60,.builtin "ExceptionGroup.__weakref__",.none])
noncomputable def yM:Obj:=Ĵ "super" (.fields #[.ref 60,.ref 60,.ref 60])
noncomputable def uV:Obj:=Ĵ "builtin_function_or_method" (.fields #[.builtin "object.__init_subclass__",.ref 60])
noncomputable def uX:Obj:=Ĵ "tuple" (.seq #[.type "tuple"] 0)
def v3(P:aD7):Obj:=Ĵ "dict" (.dict #[ğ P M2 260 (.str Be 194),ğ P TX 262 (.str Iw 261),ğ P Oh 264 (.int 23 263),ğ P ż 266 (.str (Vx (A1 (Ŝ.main.body[3]?))) 265),ğ P Yi 268 (.ref 73),ğ P Ze 272 (.ref 74),ğ P XO 273 (.ref 75),ğ P O4 284 (.ref 82),ğ P M3 306 (.ref 91),ğ P PE 317 (.ref 100),ğ P WY 318 (.ref 100),ğ P PX 326 (.ref 107),ğ P Oa 333 (.ref 114),ğ P PF 341 (.ref 121),ğ P We 345 (.ref 122),ğ P G0 355 (.ref 124),ğ P GE 365 (.ref 127),ğ P Jr 375 (.ref 130),ğ P OY 376 (.ref 132),ğ P qA 377 (.ref 68)] 20)
noncomputable def xK:Obj:=Ĵ "cell" (.cell (.some (.ref 135)))
noncomputable def Ü:Obj:=⟨.none,.none,.fields #[.int 29 0,.int 4 0,.ref 81,.int 34 0,.int 4 0,.ref 88,.int 41 0,.int 4 0,.ref 99,.int 52 0,.int 4 0,.ref 106,.int 56 0,.int 4 0,.ref 113,.int 59 0,.int 4 0,.ref 120],#[]⟩
def vU:Obj:=Ż Iw Iw Bb 255 23 69 181 258
def yL:Obj:=⟨.type "frame",.none,.plain,#[.some (.ref 71),.some (.ref 3),.some (.ref 67),.none,.some (.str Be 194),.none,.some (.ref 0)]⟩
def v0:Obj:=Ś 269 [G0,GE,Jr]
noncomputable def uN:Obj:=Ĵ "dict" (.dict #[] 0)
def wW:Obj:=Ś 277 [iY,G0,GE,Jr]
def zM:Obj:=fb O4 Wq Ŋ Ŋ
def zJ:Obj:=Ő O4 Wq Bb 274 29 4 76 181 281
def zO:Obj:=į O4 Wq Ŋ Ŋ .none (.str (NF Ŋ) 283) Be 194 81
def È:Obj:=Ś 288 [bO,dO,ZZ]
def zY:Obj:=fb M3 Vf í í
def yT:Obj:=Ő M3 Vf Bb 285 33 2 83 181 291
def v9:Obj:=Ĵ "function" (.func ⟨M3,Vf,í.1,.stmts í.2.1,í.2.2,3,[],.none,.none,.str (NF í) 293,.str Be 194,.some 92,.ref 88,.none,0⟩)
def Õ(P:aD7):Obj:=Ĵ "dict" (.dict #[ğ P M2 295 (.str Be 194),ğ P ţ 298 (.str M3 297),ğ P TX 301 (.str Vf 300),ğ P ż 303 (.str (NF í) 293),ğ P fQ 305 (.ref 92)] 5)
noncomputable def xH:Obj:=⟨.type "classmethod",.some 90,.fields #[.ref 89,.bool .false],#[]⟩
noncomputable def vF:Obj:=Ĵ "tuple" (.seq #[.ref 68] 0)
def wG:Obj:=Ś 310 [XC]
def wK:Obj:=Ś 311 [Cg,gR,ZZ]
def xT:Obj:=fb PE YJ ť ť
def wR:Obj:=Ĵ "code" (.fields #[.str PE 307,.str YJ 308,.str Bb 309,.int 41 0,.int 1 0,.int 1 0,Ġ,.int 11 0,.ref 94,.bool .true,.int 181 0,.ref 95,.none,.ref 96,.ref 97,.ref 98,.int 314 0,.int 41 0,.str Bb 315])
def vL:Obj:=Ĵ "function" (.func ⟨PE,YJ,ť.1,.stmts ť.2.1,ť.2.2,3,[(XC,68)],.none,.none,.str (NF ť) 316,.str Be 194,.none,.ref 99,.ref 93,0⟩)
def Ú:Obj:=Ś 322 [Cg]
def xU:Obj:=fb PX ZT č č
def u5:Obj:=Ő PX ZT Bb 319 52 1 101 181 323
def yN:Obj:=į PX ZT č č .none (.str (NF č) 325) Be 194 106
def uY:Obj:=Ś 330 [Cg]
def yK:Obj:=fb Oa WZ ę ę
def wI:Obj:=Ő Oa WZ Bb 327 56 1 108 181 331
def Ä:Obj:=į Oa WZ ę ę .none .none Be 194 113
def wH:Obj:=Ś 337 [Cg]
def zP:Obj:=fb PF Xm aV aV
def vJ:Obj:=Ő PF Xm Bb 334 59 1 115 181 338
def Ö:Obj:=į PF Xm aV aV .none (.str (NF aV) 340) Be 194 120
def w7:Obj:=Ś 342 [G0,GE,Jr]
def zL(P:aD7):Obj:=Ĵ "dict" (.dict #[ğ P Ic 352 (.int 0 346),ğ P ż 354 (.str Xn 347)] 2)
noncomputable def zG:Obj:=⟨.ref 60,.some 123,.plain,#[]⟩
def yG(P:aD7):Obj:=Ĵ "frame" (.dict #[ğ P Cg 348 (.ref 124),ğ P Ic 349 (.int 0 346),ğ P Rz 350 (.str Xn 347)] 3)
def xP(P:aD7):Obj:=Ĵ "dict" (.dict #[ğ P Ic 362 (.int 1 356),ğ P ż 364 (.str XH 357)] 2)
noncomputable def Ì:Obj:=⟨.ref 60,.some 126,.plain,#[]⟩
def v4(P:aD7):Obj:=Ĵ "frame" (.dict #[ğ P Cg 358 (.ref 127),ğ P Ic 359 (.int 1 356),ğ P Rz 360 (.str XH 357)] 3)
def y9(P:aD7):Obj:=Ĵ "dict" (.dict #[ğ P Ic 372 (.int 2 366),ğ P ż 374 (.str XR 367)] 2)
noncomputable def xM:Obj:=⟨.ref 60,.some 129,.plain,#[]⟩
def vR(P:aD7):Obj:=Ĵ "frame" (.dict #[ğ P Cg 368 (.ref 130),ğ P Ic 369 (.int 2 366),ğ P Rz 370 (.str XR 367)] 3)
noncomputable def yS:Obj:=Ĵ "list" (.seq #[] 0)
def wF(P:aD7):Obj:=Ĵ "dict" (.dict #[ğ P M2 260 (.str Be 194),ğ P Oh 264 (.int 23 263),ğ P ż 266 (.str (Vx (A1 (Ŝ.main.body[3]?))) 265),ğ P Yi 268 (.ref 73),ğ P Ze 272 (.ref 74),ğ P XO 273 (.ref 75),ğ P O4 284 (.ref 136),ğ P M3 306 (.ref 91),ğ P PE 317 (.ref 100),ğ P WY 318 (.ref 100),ğ P PX 326 (.ref 107),ğ P Oa 333 (.ref 114),ğ P PF 341 (.ref 121),ğ P We 345 (.ref 122),ğ P G0 355 (.ref 124),ğ P GE 365 (.ref 127),ğ P Jr 375 (.ref 130),ğ P OY 376 (.ref 132)] 2)
def yX:Obj:=⟨.type "type",.none,.cls ⟨Iw,[.type "tuple"],[.ref 135,.type "tuple",.type "object"],134,Iw,.false,[],[],.false,.none,.false⟩,#[.some (.ref 65),.none,.some (.str Iw 253),.some (.str Iw 261),.some .none,.some (.bool .false)]⟩
noncomputable def yV:Obj:=Ĵ "staticmethod" (.fields #[.ref 82])
noncomputable def xI:Obj:=Ĵ "super" (.fields #[.ref 135,.ref 135,.ref 135])
noncomputable def vV:Obj:=Ĵ "builtin_function_or_method" (.fields #[.builtin "object.__init_subclass__",.ref 135])
def zR:Obj:=Ś 384 [ZR,bY]
def Ñ:Obj:=fb Jt Jt jY jY
def wS:Obj:=Ő Jt Jt Bb 381 66 2 139 181 386
def xQ:Obj:=į Jt Jt jY jY .none .none Be 194 144
def vA(P:aD7):Obj:=Ĵ "dict" (.dict #[ğ P M2 396 (.str Be 194),ğ P TX 398 (.str J0 397),ğ P Oh 400 (.int 70 399),ğ P ż 402 (.str (Vx (A1 (Ŝ.main.body[5]?))) 401),ğ P H3 417 (.ref 160),ğ P PZ 427 (.ref 167),ğ P Ox 436 (.ref 174),ğ P OA 445 (.ref 181),ğ P Yu 463 (.ref 188),ğ P PM 491 (.ref 196),ğ P P6 518 (.ref 203),ğ P OU 533 (.ref 210),ğ P ON 542 (.ref 218),ğ P O5 551 (.ref 225),ğ P OD 558 (.ref 232),ğ P Oj 565 (.ref 239),ğ P OY 576 (.ref 240)] 17)
noncomputable def yC:Obj:=⟨.none,.none,.fields #[.int 145 0,.int 4 0,.ref 159,.int 173 0,.int 4 0,.ref 166,.int 184 0,.int 4 0,.ref 173,.int 209 0,.int 4 0,.ref 180,.int 236 0,.int 4 0,.ref 187,.int 260 0,.int 4 0,.ref 195,.int 335 0,.int 4 0,.ref 202,.int 383 0,.int 4 0,.ref 209,.int 430 0,.int 4 0,.ref 217,.int 433 0,.int 4 0,.ref 224,.int 457 0,.int 4 0,.ref 231,.int 460 0,.int 4 0,.ref 238],#[]⟩
def Í:Obj:=Ż J0 J0 Bb 391 70 149 181 394
def wD:Obj:=⟨.type "frame",.none,.plain,#[.some (.ref 151),.some (.ref 3),.some (.ref 148),.none,.some (.str Be 194),.none,.some (.ref 0)]⟩
def zQ:Obj:=Ĵ "tuple" (.seq #[.none,.str Xd 404,.str Xd 405,.bool .true] 0)
def r9:Obj:=Ś 409 [Cg,Tc,G0,GE,WW]
def oU:Obj:=fb H3 WV aA aA
def n5:Obj:=Ő H3 WV Bb 406 145 5 154 181 414
def lX:Obj:=į H3 WV aA aA (.ref 153) (.str (NF aA) 416) Be 194 159
def pW:Obj:=Ś 421 [Cg,G0,GE]
def tF:Obj:=fb PZ Y4 i7 i7
def m7:Obj:=Ő PZ Y4 Bb 418 173 3 161 181 424
def n7:Obj:=į PZ Y4 i7 i7 .none (.str (NF i7) 426) Be 194 166
def mP:Obj:=Ś 431 [Cg,G0]
def sA:Obj:=fb Ox YN jF jF
def nG:Obj:=Ő Ox YN Bb 428 184 2 168 181 433
def tB:Obj:=į Ox YN jF jF .none (.str (NF jF) 435) Be 194 173
def mR:Obj:=Ś 440 [Cg,GE]
def sX:Obj:=fb OA X8 cY cY
def pQ:Obj:=Ő OA X8 Bb 437 209 2 175 181 442
def rL:Obj:=į OA X8 cY cY .none (.str (NF cY) 444) Be 194 180
def rR:Obj:=Ś 449 [Cg,GE,Tb,Ra,bD,eB,iW,Tc,fC,W5,Zz,iH]
def p8:Obj:=fb Tj XZ kX kX
def mY:Obj:=Ő Tj XZ Bb 446 236 1 182 181 461
def oR:Obj:=į Tj XZ kX kX .none .none Be 194 187
noncomputable def rN:Obj:=Ĵ "tuple" (.seq #[.int 0 464,.none,.int 0 465,.none] 0)
def nU:Obj:=Ś 469 [Cg,XJ,W4,Z6,Xa,G0,GE,Tb,bJ,eO,bQ,i5,gE,gH,Ra,eI,iC,UO,TW]
def pU:Obj:=fb PM W9 g7 g7
def qB:Obj:=Ő PM W9 Bb 466 260 5 190 181 488
def oW:Obj:=į PM W9 g7 g7 (.ref 189) (.str (NF g7) 490) Be 194 195
def rG:Obj:=Ś 495 [Cg,eP,dQ,eL,Yr,XJ,W4,Z6,Xa,Ra,UO,TW,ZK,iG,bM,aW,iA,jP,eW,eM]
def pY:Obj:=fb P6 ZO iJ iJ
def n6:Obj:=Ő P6 ZO Bb 492 335 1 197 181 515
def lJ:Obj:=į P6 ZO iJ iJ .none (.str (NF iJ) 517) Be 194 202
def sG:Obj:=Ś 522 [Cg,Ra,UO,fZ,i9,dL,Jr,bH]
def qH:Obj:=fb OU Wl dY dY
def oO:Obj:=Ő OU Wl Bb 519 383 1 204 181 530
def pP:Obj:=į OU Wl dY dY .none (.str (NF dY) 532) Be 194 209
noncomputable def nK:Obj:=Ĵ "tuple" (.seq #[.int 3 534] 0)
def oL:Obj:=Ś 538 [Cg,W5]
def m8:Obj:=fb ON X7 j6 j6
def nR:Obj:=Ő ON X7 Bb 535 430 2 212 181 540
def qQ:Obj:=į ON X7 j6 j6 (.ref 211) .none Be 194 217
def sW:Obj:=Ś 546 [Cg,ZR]
def pL:Obj:=fb O5 Z1 aX aX
def sF:Obj:=Ő O5 Z1 Bb 543 433 1 219 181 548
def mV:Obj:=į O5 Z1 aX aX .none (.str (NF aX) 550) Be 194 224
def tI:Obj:=Ś 555 [Cg]
def oY:Obj:=fb OD Wy uK ę
def m6:Obj:=Ő OD Wy Bb 552 457 1 226 181 556
def qK:Obj:=į OD Wy uK ę .none .none Be 194 231
def rU:Obj:=Ś 562 [Cg]
def lO:Obj:=fb Oj YM t0 ę
def s7:Obj:=Ő Oj YM Bb 559 460 1 233 181 563
def mN:Obj:=į Oj YM t0 ę .none .none Be 194 238
def lV:Obj:=Ś 566 [G0,WW,GE,Tb,cM,fR,fY,Tc,Yr,eC]
def pZ(P:aD7):Obj:=Ĵ "dict" (.dict #[ğ P M2 396 (.str Be 194),ğ P Oh 400 (.int 70 399),ğ P ż 402 (.str (Vx (A1 (Ŝ.main.body[5]?))) 401),ğ P H3 417 (.ref 160),ğ P PZ 427 (.ref 167),ğ P Ox 436 (.ref 174),ğ P OA 445 (.ref 181),ğ P Yu 463 (.ref 188),ğ P PM 491 (.ref 196),ğ P P6 518 (.ref 203),ğ P OU 533 (.ref 210),ğ P ON 542 (.ref 218),ğ P O5 551 (.ref 225),ğ P OD 558 (.ref 232),ğ P Oj 565 (.ref 239),ğ P OY 576 (.ref 240),ğ P Tf 578 (.ref 243),ğ P Tx 580 (.ref 244)] 3)
def mK:Obj:=⟨.type "type",.none,.cls ⟨J0,[.type "object"],[.ref 242,.type "object"],241,J0,.true,[],[],.false,.none,.false⟩,#[.none,.none,.some (.str J0 389),.some (.str J0 397),.some (.builtin "object.__new__"),.some (.bool .true)]⟩
def nT:Obj:=Ĵ "getset_descriptor" (.fields #[.str Tf 577,.ref 242,.builtin "function.__dict__",.builtin "function.__dict__#set"])
def sC:Obj:=Ĵ "getset_descriptor" (.fields #[.str Tx 579,.ref 242,.builtin "ExceptionGroup.__weakref__",.none])
noncomputable def sD:Obj:=Ĵ "super" (.fields #[.ref 242,.ref 242,.ref 242])
noncomputable def sY:Obj:=Ĵ "builtin_function_or_method" (.fields #[.builtin "object.__init_subclass__",.ref 242])
def lQ:Obj:=Ś 588 [iN,Jr,ZM,ZK,fK,g5]
def n0:Obj:=fb Kz Kz kJ kJ
def n9:Obj:=Ő Kz Kz Bb 585 463 2 247 181 594
def pH:Obj:=į Kz Kz kJ kJ .none .none PG 583 252
def sM:Obj:=fb Jg Jg kQ kQ
def lU:Obj:=fe Jg Jg Bb 597 469 3 254 181 600
def rF:Obj:=į Jg Jg kQ kQ .none .none PG 583 257
def rZ:Obj:=Ś 606 [ZM,cC,d3,cR,gU,bG,dS,d7]
def qP:Obj:=fb Jp Jp k9 k9
def pB:Obj:=Ő Jp Jp Bb 603 485 2 259 181 614
def qD:Obj:=į Jp Jp k9 k9 .none .none PG 583 264
def pO:Obj:=fb Kb Kb jZ jZ
def mW:Obj:=fe Kb Kb Bb 617 501 1 266 181 620
def qI:Obj:=į Kb Kb jZ jZ .none .none PG 583 269
def o0(P:aD7):List Obj:=[boot_o_0 P,boot_o_1 P,boot_o_2 P,h4 P,boot_o_4 P,boot_o_5 P,boot_o_6 P,boot_o_7 P,boot_o_8 P,boot_o_9 P,boot_o_10 P,ŝ]
def Ŷ(P:aD7):List Obj:=[ĸ,h2,h3,ŝ,h1,Ę,ŝ,h7,ś,h9,ŝ,oC]
def å(P:aD7):List Obj:=[zZ P,ŝ,Ù,zC,xF,ŝ,h1,v6,ŝ,Ò,vW,vZ]
def o3(P:aD7):List Obj:=[xW,ŝ,h1,zS,ŝ,y6,yQ,wN,ŝ,h1,Ê,ŝ]
def Ł(P:aD7):List Obj:=[wQ,w6,xG,ŝ,h1,zW,ŝ,vN,yR,Ï,zI,vO P]
def à(P:aD7):List Obj:=[yA,zK,yI,yM,uV,uX,oC,v3 P,xK,ŝ,Ü,vU]
def ā(P:aD7):List Obj:=[yL,ŝ,v0,uN,ŝ,h1,wW,ŝ,zM,zJ,zO,ŝ]
def ŉ(P:aD7):List Obj:=[h1,È,ŝ,zY,yT,v9,Õ P,xH,uN,vF,wG,h1]
def o8(P:aD7):List Obj:=[wK,ŝ,xT,wR,vL,ŝ,h1,Ú,ŝ,xU,u5,yN]
def Ψ(P:aD7):List Obj:=[ŝ,h1,uY,ŝ,yK,wI,Ä,ŝ,h1,wH,ŝ,zP]
def uW(P:aD7):List Obj:=[vJ,Ö,w7,zL P,zG,yG P,xP P,Ì,v4 P,y9 P,xM,vR P]
def wE(P:aD7):List Obj:=[ŝ,yS,wF P,yX,yV,xI,vV,ŝ,h1,zR,ŝ,Ñ]
def wP(P:aD7):List Obj:=[wS,xQ,ŝ,oC,vA P,ŝ,yC,Í,wD,zQ,ŝ,h1]
def xE(P:aD7):List Obj:=[r9,ŝ,oU,n5,lX,ŝ,h1,pW,ŝ,tF,m7,n7]
def yE(P:aD7):List Obj:=[ŝ,h1,mP,ŝ,sA,nG,tB,ŝ,h1,mR,ŝ,sX]
def w8(P:aD7):List Obj:=[pQ,rL,ŝ,h1,rR,ŝ,p8,mY,oR,rN,ŝ,h1]
def wY(P:aD7):List Obj:=[nU,ŝ,pU,qB,oW,ŝ,h1,rG,ŝ,pY,n6,lJ]
def y8(P:aD7):List Obj:=[ŝ,h1,sG,ŝ,qH,oO,pP,nK,ŝ,h1,oL,ŝ]
def y7(P:aD7):List Obj:=[m8,nR,qQ,ŝ,h1,sW,ŝ,pL,sF,mV,ŝ,h1]
def wA(P:aD7):List Obj:=[tI,ŝ,oY,m6,qK,ŝ,h1,rU,ŝ,lO,s7,mN]
def yJ(P:aD7):List Obj:=[lV,pZ P,mK,nT,sC,sD,sY,ŝ,h1,lQ,ŝ,n0]
def Þ(P:aD7):List Obj:=[n9,pH,ŝ,h1,sM,lU,rF,ŝ,h1,rZ,ŝ,qP]
def xB(P:aD7):List Obj:=[pB,qD,ŝ,h1,pO,mW,qI]
def KE(P:aD7):BT:=ë 20 [boot_o_0 P,boot_o_1 P,boot_o_2 P,boot_o_3 P,boot_o_4 P,boot_o_5 P,boot_o_6 P,boot_o_7 P,boot_o_8 P,boot_o_9 P,boot_o_10 P,ŝ,h1,h2,h3]
def HN(P:aD7):List Obj:=o0 P++(Ŷ P++(å P++(o3 P++(Ł P++(à P++(ā P++(ŉ P++(o8 P++(Ψ P++(uW P++(wE P++(wP P++(xE P++(yE P++(w8 P++(wY P++(y8 P++(y7 P++(wA P++(yJ P++(Þ P++(xB P))))))))))))))))))))))
def Nw(P:aD7):BT:=ë 20 (HN P)
def á(P:aD7):aF2:=⟨⟨HN P⟩,{}⟩
noncomputable def gB:Pos:=⟨501,0,515,55⟩
noncomputable abbrev Θ:Nat:=271
noncomputable abbrev kF:Nat:=623
def Fw:Env:={scope:=Ŝ.main.scope,locals:=mainNs,globals:=mainNs,cells:=[],code:=.ref 13,frame:=some 14}
def bF:List aG8:=behindTheImports Ŝ
def NC(w:aC9)(p:aF3)(b:List aG8)(os:aU1):Option (bN0×bP8×bQ2×Pos):=
 Vs 2240 w p bF b ⟨KE w.params,15,{},⟨[]⟩,{},187,os⟩ Fw
def Mp(w:aC9)(p:aF3)(b:List aG8)(os:aU1):Option (bN0×bP8×bQ2×Pos):=
 some (.next,⟨Nw w.params,Θ,{},⟨[]⟩,{},kF,os⟩,.body b Fw,gB)
abbrev Vj:Str:=Vx (A1 (Ŝ.main.body[5]?))
noncomputable def mS:{cs:List Char // aA0 (String.ofList cs)=Vj}:=by
 apply Subtype.mk
 dsimp only[Vj,Ŝ,aH5,List.getElem?_cons_succ,List.getElem?_cons_zero,A1,Vx,docOf,Option.getD]
def hxS:Str:=⟨(mS.1.map Char.toNat).toArray⟩
def Y3:Vj=hxS:=mS.2.symm.trans (Fast.ofString_ofList mS.1)
abbrev rJ:Type:=Str->Str->Str->Str->Str->Str->Str->Str->Str->Str->Str->Str->Str->Str->Str->Str->Str->Str->Str->Str->Str->Str->Str->Str->Str->Str->Str->Str->Str->Str->Str->Str->Str->Str->Str->Str->Str->Str->Str->Str->Str->Str->Str->Str->Str->Str->Str->Str->Str->Str->Str->Str->Str->Str->Str->Str->Str->Str->Str->Str->Str->Str->Str->Str->Str->Str->Str->Str->Str->Str->Str->Str->Str->Str->Str->Str->Str->Str->Str->Str->Str->Str->Str->Str->Str->Str->Str->Str->Str->Str->Str->Str->Str->Str->Str->Str->Str->Str->Str->Str->Str->Str->Str->Str->Str->Str->Str->Str->Str->Str->Str->Str->Str->Str->Str->Str->Str->Str->Str->Str->Str->Str->Str->Str->Str->Str->Str->Str->Str->Str->Str->Str->Str->Str->Str->Str->Str->Str->Str->Str->Str->Str->Str->Str->Str->Str->Str->Str->Str->Str->Str->Str->Str->Str->Str->Str->Str->Str->Str->Str->Str->Str->Str->Str->Str->Str->Str->Str->Str->Str->Str->(String->Str)->Option aF3
noncomputable abbrev b7(F:rJ):Str->(String->Str)->Option aF3:=F (aA0 "_wall") (aA0 "k") (aA0 "__name__") (aA0 "cpy313.difflib") (aA0 "_tuplegetter") (aA0 "__init__") (aA0 "self") (aA0 "index") (aA0 "doc") (aA0 "__doc__") (aA0 "__get__") (aA0 "obj") (aA0 "objtype") (aA0 "issubclass") (aA0 "type") (aA0 "tuple") (aA0 "__getitem__") (aA0 "__set__") (aA0 "value") (aA0 "AttributeError") (aA0 "can't set attribute") (aA0 "__delete__") (aA0 "can't delete attribute") (aA0 "Match") (aA0 "Match(a, b, size)") (aA0 "__slots__") (aA0 "_fields") (aA0 "a") (aA0 "b") (aA0 "size") (aA0 "_field_defaults") (aA0 "__new__") (aA0 "_cls") (aA0 "_make") (aA0 "cls") (aA0 "iterable") (aA0 "result") (aA0 "len") (aA0 "TypeError") (aA0 "Expected 3 arguments, got ") (aA0 "classmethod") (aA0 "_replace") (aA0 "kwds") (aA0 "__class__") (aA0 "__len__") (aA0 "pop") (aA0 "map") (aA0 "Got unexpected field names: ") (aA0 "list") (aA0 "__replace__") (aA0 "__repr__") (aA0 "(a=%r, b=%r, size=%r)") (aA0 "_asdict") (aA0 "__getnewargs__") (aA0 "__match_args__") (aA0 "Alias for field number 0") (aA0 "Alias for field number 1") (aA0 "Alias for field number 2") (aA0 "_calculate_ratio") (aA0 "matches") (aA0 "length") (aA0 "SequenceMatcher") (aA0 "isjunk") (aA0 "autojunk") (aA0 "") (aA0 "set_seqs") (aA0 "set_seq1") (aA0 "set_seq2") (aA0 "matching_blocks") (aA0 "opcodes") (aA0 "fullbcount") (aA0 "_SequenceMatcher__chain_b") (aA0 "__chain_b") (aA0 "b2j") (aA0 "i") (aA0 "elt") (aA0 "enumerate") (aA0 "indices") (aA0 "setdefault") (aA0 "append") (aA0 "bjunk") (aA0 "junk") (aA0 "set") (aA0 "keys") (aA0 "add") (aA0 "bpopular") (aA0 "popular") (aA0 "n") (aA0 "ntest") (aA0 "idxs") (aA0 "items") (aA0 "find_longest_match") (aA0 "alo") (aA0 "ahi") (aA0 "blo") (aA0 "bhi") (aA0 "isbjunk") (aA0 "__contains__") (aA0 "besti") (aA0 "bestj") (aA0 "bestsize") (aA0 "j2len") (aA0 "nothing") (aA0 "range") (aA0 "j2lenget") (aA0 "get") (aA0 "newj2len") (aA0 "j") (aA0 "get_matching_blocks") (aA0 "la") (aA0 "lb") (aA0 "queue") (aA0 "x") (aA0 "sort") (aA0 "i1") (aA0 "j1") (aA0 "k1") (aA0 "non_adjacent") (aA0 "i2") (aA0 "j2") (aA0 "k2") (aA0 "get_opcodes") (aA0 "answer") (aA0 "ai") (aA0 "bj") (aA0 "tag") (aA0 "replace") (aA0 "delete") (aA0 "insert") (aA0 "equal") (aA0 "get_grouped_opcodes") (aA0 "ratio") (aA0 "sum") (aA0 "triple") (aA0 ".0") (aA0 "quick_ratio") (aA0 "real_quick_ratio") (aA0 "law_dm0059_09") (aA0 "_law_cuts") (aA0 "script") (aA0 "cuts") (aA0 "rest") (aA0 "start") (aA0 "divmod") (aA0 "min") (aA0 "_law_joined") (aA0 "matcher") (aA0 "first") (aA0 "second") (aA0 "joined") (aA0 "most") (aA0 "word") (aA0 "max") (aA0 "extend") (aA0 "line") (aA0 "fast") (aA0 "_law_pool") (aA0 "turned") (aA0 "pool") (aA0 "piece") (aA0 "apart") (aA0 "other") (aA0 "law") (aA0 "text") (aA0 "stretches") (aA0 "end") (aA0 "sorted") (aA0 "due") (aA0 "pieces") (aA0 "/claim/cut.py")
noncomputable def yW{P:Prop}(h:P):Unit:=()
noncomputable def nA:rJ:=by
 refine let_mvar% ?F:=(_:rJ);(λ(_:type_of% (yW (P:=b7 ?F Vj aA0=some aH5) (by
  refine have hD:Vj=aA0 ?lit:=?pr;(congrFun (bQ5 (b7 ?F) hD) aA0).trans ?rest
  case pr=>
   dsimp only[Vj,Ŝ,aH5,List.getElem?_cons_succ,List.getElem?_cons_zero,A1,Vx,docOf,Option.getD]
   exact rfl
  case rest=>
   delta aH5 b7
   generalize aA0 "_wall"=x0,aA0 "k"=x1,aA0 "__name__"=x2,aA0 "cpy313.difflib"=x3,aA0 "_tuplegetter"=x4,aA0 "__init__"=x5,aA0 "self"=x6,aA0 "index"=x7,aA0 "doc"=x8,aA0 "__doc__"=x9,aA0 "__get__"=x10,aA0 "obj"=x11,aA0 "objtype"=x12,aA0 "issubclass"=x13,aA0 "type"=x14,aA0 "tuple"=x15,aA0 "__getitem__"=x16,aA0 "__set__"=x17,aA0 "value"=x18,aA0 "AttributeError"=x19,aA0 "can't set attribute"=x20,aA0 "__delete__"=x21,aA0 "can't delete attribute"=x22,aA0 "Match"=x23,aA0 "Match(a, b, size)"=x24,aA0 "__slots__"=x25,aA0 "_fields"=x26,aA0 "a"=x27,aA0 "b"=x28,aA0 "size"=x29,aA0 "_field_defaults"=x30,aA0 "__new__"=x31,aA0 "_cls"=x32,aA0 "_make"=x33,aA0 "cls"=x34,aA0 "iterable"=x35,aA0 "result"=x36,aA0 "len"=x37,aA0 "TypeError"=x38,aA0 "Expected 3 arguments, got "=x39,aA0 "classmethod"=x40,aA0 "_replace"=x41,aA0 "kwds"=x42,aA0 "__class__"=x43,aA0 "__len__"=x44,aA0 "pop"=x45,aA0 "map"=x46,aA0 "Got unexpected field names: "=x47,aA0 "list"=x48,aA0 "__replace__"=x49,aA0 "__repr__"=x50,aA0 "(a=%r, b=%r, size=%r)"=x51,aA0 "_asdict"=x52,aA0 "__getnewargs__"=x53,aA0 "__match_args__"=x54,aA0 "Alias for field number 0"=x55,aA0 "Alias for field number 1"=x56,aA0 "Alias for field number 2"=x57,aA0 "_calculate_ratio"=x58,aA0 "matches"=x59,aA0 "length"=x60,aA0 "SequenceMatcher"=x61,aA0 "isjunk"=x62,aA0 "autojunk"=x63,aA0 ""=x64,aA0 "set_seqs"=x65,aA0 "set_seq1"=x66,aA0 "set_seq2"=x67,aA0 "matching_blocks"=x68,aA0 "opcodes"=x69,aA0 "fullbcount"=x70,aA0 "_SequenceMatcher__chain_b"=x71,aA0 "__chain_b"=x72,aA0 "b2j"=x73,aA0 "i"=x74,aA0 "elt"=x75,aA0 "enumerate"=x76,aA0 "indices"=x77,aA0 "setdefault"=x78,aA0 "append"=x79,aA0 "bjunk"=x80,aA0 "junk"=x81,aA0 "set"=x82,aA0 "keys"=x83,aA0 "add"=x84,aA0 "bpopular"=x85,aA0 "popular"=x86,aA0 "n"=x87,aA0 "ntest"=x88,aA0 "idxs"=x89,aA0 "items"=x90,aA0 "find_longest_match"=x91,aA0 "alo"=x92,aA0 "ahi"=x93,aA0 "blo"=x94,aA0 "bhi"=x95,aA0 "isbjunk"=x96,aA0 "__contains__"=x97,aA0 "besti"=x98,aA0 "bestj"=x99,aA0 "bestsize"=x100,aA0 "j2len"=x101,aA0 "nothing"=x102,aA0 "range"=x103,aA0 "j2lenget"=x104,aA0 "get"=x105,aA0 "newj2len"=x106,aA0 "j"=x107,aA0 "get_matching_blocks"=x108,aA0 "la"=x109,aA0 "lb"=x110,aA0 "queue"=x111,aA0 "x"=x112,aA0 "sort"=x113,aA0 "i1"=x114,aA0 "j1"=x115,aA0 "k1"=x116,aA0 "non_adjacent"=x117,aA0 "i2"=x118,aA0 "j2"=x119,aA0 "k2"=x120,aA0 "get_opcodes"=x121,aA0 "answer"=x122,aA0 "ai"=x123,aA0 "bj"=x124,aA0 "tag"=x125,aA0 "replace"=x126,aA0 "delete"=x127,aA0 "insert"=x128,aA0 "equal"=x129,aA0 "get_grouped_opcodes"=x130,aA0 "ratio"=x131,aA0 "sum"=x132,aA0 "triple"=x133,aA0 ".0"=x134,aA0 "quick_ratio"=x135,aA0 "real_quick_ratio"=x136,aA0 "law_dm0059_09"=x137,aA0 "_law_cuts"=x138,aA0 "script"=x139,aA0 "cuts"=x140,aA0 "rest"=x141,aA0 "start"=x142,aA0 "divmod"=x143,aA0 "min"=x144,aA0 "_law_joined"=x145,aA0 "matcher"=x146,aA0 "first"=x147,aA0 "second"=x148,aA0 "joined"=x149,aA0 "most"=x150,aA0 "word"=x151,aA0 "max"=x152,aA0 "extend"=x153,aA0 "line"=x154,aA0 "fast"=x155,aA0 "_law_pool"=x156,aA0 "turned"=x157,aA0 "pool"=x158,aA0 "piece"=x159,aA0 "apart"=x160,aA0 "other"=x161,aA0 "law"=x162,aA0 "text"=x163,aA0 "stretches"=x164,aA0 "end"=x165,aA0 "sorted"=x166,aA0 "due"=x167,aA0 "pieces"=x168,aA0 "/claim/cut.py"=x169
   generalize aA0 ?lit=y
   generalize aA0=f
   exact rfl
  )))=>?F) ()
def tE:b7 nA Vj aA0=some aH5:=by rfl'
end Mine
end
section
open PySem PySem.W PyProof.Rows
def Mine.uM:String->Str:=λs=>⟨(aA0 s).cps⟩
def Mine.Zb:aA0=Mine.uM:=funext λs=>rfl
end
section
open PySem PySem.W PyProof.Rows
namespace Mine
def kS:Str->(String->Str)->Option aF3:=nA LH TW ţ Be JI H3 Cg Ic Rz ż Oc V6 iM Û vT vY tA Pa iL Ë mU O1 mE Iw rE Yi Ze G0 GE Jr XO O4 iY M3 bO dO ZZ zV qZ nL yZ PE gR XC qN rA vP sT wX WY PX lY Oa PF We Xn XH XR Jt ZR bY J0 Tc WW Xd PZ Ox OA Yr eC fY Yu Tj Tb Ra bD À eB nN rB cM iW xV tD nZ fR fC W5 Zz iH r6 PM XJ W4 Z6 Xa bJ sO eO bQ i5 gE gH v8 eI m9 iC UO P6 eP dQ eL ZK r8 iG bM aW iA jP eW eM OU fZ i9 dL bH oN pG nO nW ON O5 yD qR mT OD Oj PG Kz iN ZM fK g5 v7 yY Jg d3 lZ mQ d7 mC lR y0 pD oB r7 Jp cC cR gU bG dS Kb rI l9 m3 xS oK nM Bb
end Mine
end
section
open PySem PySem.W PyProof.Rows
def Mine.Yo:Mine.b7 Mine.nA=Mine.kS:=by rfl'
def PySem.W.Fast.tw1488275332830666782:aF3:=aE5 aH5 (λp=>p) (Mine.kS Mine.hxS Mine.uM)
def PySem.W.Fast.te1488275332830666782:aH5=PySem.W.Fast.tw1488275332830666782:=bQ5 (λo:Option aF3=>(aE5 aH5 (λp=>p) o:aF3)) (Mine.tE.symm.trans ((congrFun (congrFun Mine.Yo Mine.Vj) aA0).trans ((congrFun (bQ5 Mine.kS Mine.Y3) aA0).trans (bQ5 (Mine.kS Mine.hxS) Mine.Zb))))
def PySem.W.Fast.tw3097827553188353559:Str:=Mine.hxS
def PySem.W.Fast.te3097827553188353559:Mine.hxS=PySem.W.Fast.tw3097827553188353559:=rfl
end
section
open PySem PySem.W PyProof.Rows
namespace Mine
def UV:NC=NC:=rfl
def UI:Mp=Mp:=rfl
name_quick zzL for Mine.NC by Mine.UV
name_quick zzR for Mine.Mp by Mine.UI
def qF:aF3:={Ŝ with main:={Ŝ.main with body:=((Ŝ.main.body.drop 0).take 1)++((Ŝ.main.body.drop 2).take 4)++((Ŝ.main.body.drop 7).take 4)}}
noncomputable def looseF:List Str:=["_tuplegetter","Match","SequenceMatcher"]
def pS(s:aA5):Bool:=xlAt qF [] s&&recOk ([]:WRecords) s
def VT:NC=Mp:=Fast.zzL_eq.trans ((by rfl':Fast.zzL=Fast.zzR).trans Fast.zzR_eq.symm)
def gM(w:aC9)(os:aU1):((staticsOk (importedModules Ŝ.main.body) (bD8 w.params) (á w.params)&&namesBound Ŝ (á w.params)&&gensDone ⟨á w.params,⟨[]⟩,{},kF,os⟩&&laidKept (bD8 w.params) (á w.params)))=true:=by rfl'
def eN(w:aC9)(os:aU1):(seen ((recsOf qF).map (·.name)) (ownsOf qF) [] ⟨á w.params,#[],{},kF,os⟩)=expectedOf qF:=by rfl'
def cF(w:aC9)(os:aU1):((á w.params).bltView)=bltViewBooted:=by rfl'
def aK(w:aC9)(os:aU1):((á w.params).keysOk (looseW qF looseF) ((recsOf qF).map (·.name)) ((litsOf qF).map (·.1)) ((clssOf qF (looseW qF looseF)).map (·.name))&&(á w.params).accountedOkI (importedModules Ŝ.main.body)&&(á w.params).isNs aM1&&(á w.params).isNs bA1&&tablesOk qF (á w.params)&&pS ⟨á w.params,⟨[]⟩,{},kF,os⟩&&(if true then(⟨[]⟩:Array bM2).size==0 else !leftWithCleanup (⟨[]⟩:Array bM2)))=true:=by rfl'
def e8(w:aC9)(os:aU1):(tabsOk qF ⟨á w.params,⟨[]⟩,{},kF,os⟩)=true:=by rfl'
def iZ(w:aC9)(os:aU1):(pinSeenD qF (drecsOf qF) ⟨á w.params,⟨[]⟩,{},kF,os⟩)=pinGoodD (drecsOf qF):=by rfl'
def a8(w:aC9)(os:aU1):(plainSeenE qF (looseW qF looseF) ⟨á w.params,⟨[]⟩,{},kF,os⟩)=plainGoodE qF (looseW qF looseF):=by rfl'
def cX(w:aC9)(os:aU1):(plainSeenD qF looseF ⟨á w.params,⟨[]⟩,{},kF,os⟩)=plainGoodD qF looseF:=by rfl'
def bC(w:aC9)(os:aU1):(wideSeen qF ⟨á w.params,⟨[]⟩,{},kF,os⟩)=wideGood qF:=by rfl'
def b8(w:aC9)(os:aU1):(clsSeenW qF looseF ⟨á w.params,⟨[]⟩,{},kF,os⟩)=clsGoodW qF looseF:=by rfl'
def Wi(w:aC9)(os:aU1):(absHeap (Nw w.params) Θ {})=á w.params:=by rfl'
noncomputable abbrev Ľ:Nat:=12+(1+(2240+2))
def Xc(w:aC9)(os:aU1):topRun bA4 Ŝ w 11 I7 Ľ ⟨bD8 w.params,⟨[]⟩,bP3,bP7,os⟩ (topStub Ŝ)=some ⟨á w.params,⟨[]⟩,{},kF,os⟩:=by
 have e1:topGo bA4 Ŝ w 11 I7 12 ⟨bD8 w.params,⟨[]⟩,bP3,bP7,os⟩ (topStub Ŝ)=some ((bK7 ⟨KE w.params,15,{},⟨[]⟩,{},187,os⟩),⟨denote bA4 (.body bF Fw),.body bF Fw,AI,[topFrame AI]⟩):=by rfl'
 have e2:segRun bA4 Ŝ w 11 I7 1 1 (bK7 ⟨KE w.params,15,{},⟨[]⟩,{},187,os⟩) (blockOf bF Fw (.body bF Fw) AI [topFrame AI])=some (.next,(bK7 ⟨KE w.params,15,{},⟨[]⟩,{},187,os⟩),.body bF Fw,AI):=by rfl'
 have e3:segRunT j7 Ŝ w 11 I7 1 2240 ⟨KE w.params,15,{},⟨[]⟩,{},187,os⟩ (piecesOf bF Fw (.body bF Fw) AI [topFrame AI])=_:=congrFun (congrFun (congrFun (congrFun VT w) Ŝ) bF) os
 have e4:topRun bA4 Ŝ w 11 I7 2 (bK7 ⟨Nw w.params,Θ,{},⟨[]⟩,{},kF,os⟩) ⟨doneF .next,.body bF Fw,gB,[topFrame AI]⟩=some ⟨absHeap (Nw w.params) Θ {},⟨[]⟩,{},kF,os⟩:=by rfl'
 rw[<-ZP]at e3
 rw[Wi w os]at e4
 refine go_top e1 (piece_block e2 ?_)
 refine(bQ5 (λl=>topRun bA4 Ŝ w 11 I7 _ _ (restOf l Fw (.body bF Fw) AI [topFrame AI])) (aE1 bF).symm).trans ?_
 exact piece_app (segRun_of e3) (piece_nil e4)
def Ļ(w:aC9)(h:aF2):Prop:=∀b o,(á w.params).get? b=some o->h.get? b=some o
def ņ:DefRec×List (Str×Expr):=(defOf qF "law").getD (⟨"",⟨[],[],none,[],[],none,[]⟩,[],default,default⟩,[])
def U7(w:aC9):((bD8 w.params).isNs aM1&&(⟨[]⟩:Array bM2).size==0,(bD8 w.params).objs.size,(bD8 w.params).nsMap aM1 "__annotations__")=(true,11,I7):=by rfl'
def T2(s:aA5):fenceModules? Ŝ s=some s:=by rfl'
def MF:opening Ŝ=plainProg Ŝ.main.scope.names:=by rfl'
def iF:LeftO Ŝ qF looseF pS (λs=>s.heap) (λw=>á w.params) 4574 true:=by
 refine LeftO.of_pieces (H₀:=bD8) (H₁:=á) (gs₀:=⟨[]⟩) (gs₁:=⟨[]⟩) (d₀:=bP3) (d₁:={}) (k₀:=bP7) (k₁:=kF) (m₀:=11) (ann:=I7) (M:=Ľ)
  (boot_open MF (by decide) T2) U7 Xc (by decide) (λw=>?_)
 funext os
 have c0:=gM w os
 have c1:=eN w os
 have c2:=cF w os
 have c3:=aK w os
 have c4:=e8 w os
 have c5:=iZ w os
 have c6:=a8 w os
 have c7:=cX w os
 have c8:=bC w os
 have c9:=b8 w os
 exact aY7 c0 (aY7 (aY7 c1 (aY7 c2 (aY7 c3 (aY7 c4 (aY7 c5 (aY7 c6 (aY7 c7 (aY7 c8 c9)))))))) rfl)
abbrev kK:OpenLaw:=PySem.Challenge.rw_dm0059_09
def hd(call:WalkO qF looseF (XL qF []) Ļ kK.row.toRowW ņ.1 ņ.2 λf vs=>PySem.call f vs):kK.Holds:=by
 w_on
 o_law
 refine holds_open (q:=qF) (loose:=looseF) (Xt:=pS) (XP:=XL qF []) (Yf:=λs=>s.heap) (Ya:=λw=>á w.params) (YP:=Ļ) (N:=4574) iF
  (λw s e b o h=>?_) (λw h h' y k b o e=>k b o (y b o e)) (λs e=>xl_of s (aI6.mp e).1) XL.keeps
  (by rfl') (by rfl') (by rfl') (λs e=>recFacts_of (aI6.mp e).2) (by rfl) (by assumption) (by decide +kernel) ⟨rfl,rfl,rfl,rfl,rfl,by decide +kernel⟩ ?hw call
 ·rw[show s.heap=á w.params from e];exact h
 case hw=>w_witness2
section
def Ē(P:aD7):bH5:=(aK4 Θ).zip (HN P)
def EC(P:aD7):(Ē P).In (á P):=bH5.in_of (as:=aK4 Θ) (by rfl') (by rfl')
noncomputable abbrev Ĺ:aC2:=135
noncomputable abbrev ń:aC2:=242
noncomputable abbrev ô:aC2:=82
noncomputable abbrev Lr:aC2:=136
noncomputable abbrev aM:aC2:=89
noncomputable abbrev Kt:aC2:=91
def Xp(P:aD7)(S:bC7):peek (Ē P) S (aI9 (.ref Ĺ) "__iter__")=some (some (.builtin "tuple.__iter__")):=by rfl'
def dD(P:aD7)(S:bC7):peek (Ē P) S (aI9 (.ref Ĺ) "__len__")=some (some (.builtin "tuple.__len__")):=by rfl'
def sP(P:aD7)(S:bC7):peek (Ē P) S (aI9 (.ref Ĺ) "__lt__")=some (some (.builtin "tuple.__lt__")):=by rfl'
def Zi(P:aD7)(S:bC7):peek (Ē P) S (aI9 (.ref Ĺ) "__init__")=some (some (.builtin "object.__init__")):=by rfl'
def iQ(P:aD7)(S:bC7):peek (Ē P) S (aT6 (.ref Ĺ) (.type "tuple"))=some true:=by rfl'
def Wu(P:aD7)(S:bC7):peek (Ē P) S (aT6 (.ref Ĺ) (.ref Ĺ))=some true:=by rfl'
def aR(P:aD7)(S:bC7):peek (Ē P) S (aT6 (.ref Ĺ) (.type "object"))=some true:=by rfl'
def gG(P:aD7)(S:bC7):peek (Ē P) S (isType (.ref Ĺ))=some true:=by rfl'
def ZG(P:aD7)(S:bC7):peek (Ē P) S (bH2 (.ref Ĺ))=some none:=by rfl'
def XD(P:aD7)(S:bC7):peek (Ē P) S (Bind.staticBase (.ref Ĺ))=some (.type "tuple"):=by rfl'
def Wm(P:aD7)(S:bC7):peek (Ē P) S (bG0 (.ref Ĺ) "__call__")=some (some (.builtin "type.__call__")):=by rfl'
def Xg(P:aD7)(S:bC7):peek (Ē P) S (aZ9 (.ref Ĺ) (.type "type"))=some true:=by rfl'
def lE(P:aD7):(á P).isNs aM1=true:=by rfl'
def É(P:aD7):(á P).isNs bA1=true:=by rfl'
noncomputable def Ð:List (Str×ű):=[("len",.fn .len),("range",.fn .range),("set",.fn .set),("enumerate",.fn .enumerate),("list",.fn .list),("map",.fn .map),("tuple",.fn .tuple),("sorted",.fn .sorted),("min",.fn .min),("max",.fn .max),("divmod",.fn .divmod),("sum",.fn .sum),("Match",.glo Ĺ),("SequenceMatcher",.glo ń),("_law_cuts",.glo 253),("_law_joined",.glo 258),("_law_pool",.glo 265)]
def tX(x:Str):Option ű:=Ð.lookup x
def OG(P:aD7)(x:Str)(v:ű):Prop:=∃c,L5 v=some c/\((∃mg,(á P).Ns aM1 mg/\mg x=some c)\/∃mg mb,(á P).Ns aM1 mg/\mg x=none/\(á P).Ns bA1 mb/\mb x=some c)
def Pc{P:aD7}{x:Str}{v:ű}{c:Value}(ŝ:L5 v=some c)(h1:(á P).nsMap aM1 x=none)(h2:(á P).nsMap bA1 x=some c):OG P x v:=⟨c,ŝ,.inr ⟨_,_,.of_isNs (lE P),h1,.of_isNs (É P),h2⟩⟩
def aE{P:aD7}{x:Str}{v:ű}{c:Value}(ŝ:L5 v=some c)(h1:(á P).nsMap aM1 x=some c):OG P x v:=⟨c,ŝ,.inl ⟨_,.of_isNs (lE P),h1⟩⟩
def BH{P:aD7}{y:Str}{w:ű}{r:List (Str×ű)}(h:OG P y w)(q :∀x v,r.lookup x=some v->OG P x v) :∀x v,((y,w)::r).lookup x=some v->OG P x v:=λx v e=>CW e (λa b=>a▸b▸h) (q x v)
def YV(P:aD7) :∀x v,tX x=some v->OG P x v:=
 BH (Pc rfl (by rfl') (by rfl')) (BH (Pc rfl (by rfl') (by rfl')) (BH (Pc rfl (by rfl') (by rfl')) (BH (Pc rfl (by rfl') (by rfl')) (BH (Pc rfl (by rfl') (by rfl')) (BH (Pc rfl (by rfl') (by rfl')) (BH (Pc rfl (by rfl') (by rfl')) (BH (Pc rfl (by rfl') (by rfl')) (BH (Pc rfl (by rfl') (by rfl')) (BH (Pc rfl (by rfl') (by rfl')) (BH (Pc rfl (by rfl') (by rfl')) (BH (Pc rfl (by rfl') (by rfl')) (BH (aE rfl (by rfl')) (BH (aE rfl (by rfl')) (BH (aE rfl (by rfl')) (BH (aE rfl (by rfl')) (BH (aE rfl (by rfl')) λ_ _ e=>nomatch e))))))))))))))))
def r4(P:aD7):(clsIn (Ē P) Ĺ).any (λcd=>!cd.hasDel && !cd.mro.isEmpty)=true:=by rfl'
def fX(P:aD7):Hs (á P) Ĺ ô where
 iter:=λM=>aN0 (EC P) (Xp P _)
 sub:=λM=>aN0 (EC P) (iQ P _)
 typ:=λM=>aN0 (EC P) (gG P _)
 len:=λM=>aN0 (EC P) (dD P _)
 lt:=λM=>aN0 (EC P) (sP P _)
 base:=λM=>aN0 (EC P) (XD P _)
 init:=λM=>aN0 (EC P) (Zi P _)
 obj:=by
  obtain⟨cd,h1,h2⟩:=any_some (r4 P)
  simp only[aJ3,aS9]at h2
  unfold clsIn at h1
  split at h1
  ·rename_i oc od c sl ho
   cases h1
   exact⟨oc,od,_,sl,EC P _ _ ho,h2.1,h2.2⟩
  ·cases h1
 made:=λM=>aN0 (EC P) (ZG P _)
 call:=λM=>aN0 (EC P) (Wm P _)
 inst:=λM=>aN0 (EC P) (Xg P _)
 self:=λM=>aN0 (EC P) (Wu P _)
 top:=λM=>aN0 (EC P) (aR P _)
def gY(P:aD7):(HN P).length=Θ:=by rfl'
def oX(P:aD7)(T:aC2->Option ĉ)(init:Option ĉ)(new mak:Bool)(frz wk lk:Pos->Bool)(lj:Option (Int->Bool)):Ť:=⟨Ē P,Ĺ,ń,tX,T,init,new,mak,frz,wk,lk,lj⟩
abbrev TM(P:aD7)(T:aC2->Option ĉ)(init:Option ĉ)(new mak:Bool)(frz wk:Pos->Bool):Ť:=oX P T init new mak frz wk (λ_=>false) none
noncomputable abbrev ŷ:aC2:=160
def vD(P:aD7):(recIn (Ē P) Kt "classmethod").any (λl=>l.head?==some (.ref aM))=true:=by rfl'
def oV(P:aD7) :∃rest,recIn (Ē P) Kt "classmethod" = some (.ref aM::rest):=by
 obtain⟨l,h1,h2⟩:=any_some (vD P)
 cases l with
 | nil=>cases h2
 | cons v r=>
  have:v = .ref aM:=by simpa using h2
  subst this
  exact⟨r,h1⟩
noncomputable def By:List aG8->Str->List aG8×Scope
 | [],_=>([],⟨.module,[],false,false,[]⟩)
 | .FunctionDef n a b _ _ _ sc _ _ _::r,x=>if n=x then(b,sc)else By r x
 | _::r,x=>By r x
variable{w:aC9}{T:aC2->Option ĉ}{init:Option ĉ}{new mak:Bool}{frz wk lk:Pos->Bool}{lj:Option (Int->Bool)}{d:Nat}
def œ(w:aC9):Bt:=⟨Ŝ,w,Ĺ,λu=>kla_fn "" "" ⟨[],[],none,[],[],none,[]⟩ (.Name ("":Str) AI) ⟨.module,[],false,false,[]⟩ [] .none u .none,""⟩
def t6(fn :∀f tr,T f=some tr->As (œ w) (á w.params) (d+1) (.ref f) tr)(hn:new=true->As (œ w) (á w.params) d (.ref ô) (IY Ĺ))(hm:mak=true->As (œ w) (á w.params) d (.ref aM) (Fn Ĺ))
  (hi :∀tr,init=some tr->As (œ w) (á w.params) d (.ref ŷ) tr) (hl :∀f,lj=some f->QQ (œ w) (á w.params) (d+1) f):LT (œ w) (á w.params) (oX w.params T init new mak frz wk lk lj) d ô Lr aM Kt ŷ where
 hC:=rfl
 K:=EC _
 N:=fX _
 Y:=⟨by rfl',by rfl',⟨[],by rfl'⟩⟩
 keepC:=by rfl'
 sys:=by show sysModules<(HN w.params).length;rw[gY];decide
 glob:=YV _
 make:=by rfl'
 cmo:=oV _
 fn:=fn
 new:=hn
 mkOk:=hm
 init:=λtr e=>⟨by rfl',by rfl',by rfl',by rfl',hi tr e⟩
 lam:=hl
def VO(fn :∀f tr,T f=some tr->As (œ w) (á w.params) (d+1) (.ref f) tr)(hn:new=true->As (œ w) (á w.params) d (.ref ô) (IY Ĺ))(hm:mak=true->As (œ w) (á w.params) d (.ref aM) (Fn Ĺ))
  (hi :∀tr,init=some tr->As (œ w) (á w.params) d (.ref ŷ) tr):LT (œ w) (á w.params) (TM w.params T init new mak frz wk) d ô Lr aM Kt ŷ:=t6 fn hn hm hi λ_ e=>nomatch e
end
def CJ(P:aD7)(a:aC2):aY3:=match(Ē P).lookup a with
 | some ⟨_,_,.func fd,_⟩=>fd
 | _=>default
def Au(P:aD7)(a:aC2):Bool:=match(Ē P).lookup a with
 | some ⟨_,_,.func fd,_⟩=>codeIn (Ē P) fd.code fd.qualname&&fd.closure.isEmpty&&fd.scope.names.all (λx=>x.2 != .free) && !fd.scope.isCoroutine && !fd.scope.isGenerator&&fd.scope.kind == .function&&fd.globals==aM1&&fd.builtins==bA1
 | _=>false
def sH(P:aD7):(á P).noLimitOk=true:=by rfl'
noncomputable def TZ(sc:Scope)(ps:List Str):Bool:=ps.all λx=>sc.names.lookup x==some .local||sc.names.lookup x==some .cell
def Vu{P:aD7}{a:aC2}{body:List aG8}{ps:List Str}{dvs:List Value}(h:Au P a=true)(hb:(CJ P a).body = .stmts body)(nd:ps.Nodup)(lc:TZ (CJ P a).scope ps=true)(bd :∀(s:aA5) (vas:List Value),(∀b o,(á P).get? b=some o->s.heap.get? b=some o)->vas.length+dvs.length=ps.length->aZ4 s (CJ P a) ⟨vas,[]⟩ (ps.zip (vas++dvs))):Z5 (á P) a (CJ P a) body ps dvs/\(CJ P a).globals=aM1/\(CJ P a).builtins=bA1:=by
 have lc :∀x∈ps,(CJ P a).scope.names.lookup x=some .local\/(CJ P a).scope.names.lookup x=some .cell:=λx hx=>(Bool.or_eq_true_iff.mp (bI3.mp lc x hx)).imp aD3 aD3
 unfold Au at h
 unfold CJ at hb lc bd ⊢
 split at h
 ·rename_i Ŷ å fd o3 ho
  rw[ho]at hb lc bd
  simp only at hb lc bd
  simp only[aJ3,aS9,beq_iff_eq,bI3,bne_iff_ne,ne_eq,List.isEmpty_iff]at h
  obtain⟨⟨⟨⟨⟨⟨⟨h1,h2⟩,h3⟩,h4⟩,ĸ⟩,Ę⟩,h7⟩,ś⟩:=h
  exact⟨⟨⟨_,EC P _ _ ho,rfl⟩,.of_ok (sH P),codeRec_of (EC P) h1,hb,h2,h3,h4,ĸ,Ę,nd,lc,bd⟩,h7,ś⟩
 ·cases h
def lL{w:aC9}{d fuel:Nat}{P:Ť}{a:aC2}{body:List aG8}{sc:Scope}{ps:List Str}{tr:ĉ}
  (W:LT (œ w) (á w.params) P d ô Lr aM Kt ŷ) (h:Au w.params a=true) (hb:(CJ w.params a).body = .stmts body) (hs:(CJ w.params a).scope=sc) (nd:ps.Nodup) (lc:TZ sc ps=true)
  (bd :∀(s:aA5) (vas:List Value),(∀b o,(á w.params).get? b=some o->s.heap.get? b=some o)->vas.length=ps.length->aZ4 s (CJ w.params a) ⟨vas,[]⟩ (ps.zip vas))
  (hw :∀as os Q,tr as os Q->(as.length=ps.length/\CG os)/\Ŧ P (Dk P sc fuel) body (AT (ps.zip as) os) (AE os.length Q)):As (œ w) (á w.params) (d+2) (.ref a) tr:=by
 obtain⟨K,g1,g2⟩:=Vu (dvs:=[]) h hb nd (hs▸lc) λs vas q e=>Eq.mpr (bQ5 (λl=>aZ4 s (CJ w.params a) ⟨vas,[]⟩ (ps.zip l)) (aE1 vas)) (bd s vas q e)
 exact T5 K (λX e1 e2 hA h1 h2 h3=>cA ⟨e1▸e2▸W,hA,h1.trans g1,h2.trans g2,h3.trans hs,hs▸K.kind⟩ fuel) hw
def zB{es:List ű}{dvs:List Value}{w:aC9}{d fuel:Nat}{P:Ť}{a:aC2}{body:List aG8}{sc:Scope}{ps:List Str}{tr:ĉ}
  (W:LT (œ w) (á w.params) P d ô Lr aM Kt ŷ) (h:Au w.params a=true) (hb:(CJ w.params a).body = .stmts body) (hs:(CJ w.params a).scope=sc) (nd:ps.Nodup) (lc:TZ sc ps=true)
  (bd :∀(s:aA5) (vas:List Value),(∀b o,(á w.params).get? b=some o->s.heap.get? b=some o)->vas.length+dvs.length=ps.length->aZ4 s (CJ w.params a) ⟨vas,[]⟩ (ps.zip (vas++dvs)))
  (hdv :∀{L:Bt} {G:ħ} {h:aF2} {n:Nat},AW L G h n es dvs)
  (hw :∀as os Q,tr as os Q->(as.length+es.length=ps.length/\CG os)/\Ŧ P (Dk P sc fuel) body (AT (ps.zip (as++es)) os) (AE os.length Q)):As (œ w) (á w.params) (d+2) (.ref a) tr:=by
 obtain⟨K,g1,g2⟩:=Vu h hb nd (hs▸lc) bd
 exact KB K hdv (λX e1 e2 hA h1 h2 h3=>cA ⟨e1▸e2▸W,hA,h1.trans g1,h2.trans g2,h3.trans hs,hs▸K.kind⟩ fuel) hw
def Of{w:aC9}{d fuel:Nat}{P:Ť}{a:aC2}{body:List aG8}{sc:Scope}{ps:List Str}{tr:ĉ}
  (W:LT (œ w) (á w.params) P d ô Lr aM Kt ŷ) (h:Au w.params a=true) (hb:(CJ w.params a).body = .stmts body) (hs:(CJ w.params a).scope=sc) (nd:ps.Nodup) (lc:TZ sc ps=true)
  (bd :∀vas:List Value,vas.length=ps.length->bC8 (CJ w.params a) ⟨vas,[]⟩=pure (ps.zip vas))
  (hw :∀as os Q,tr as os Q->(as.length=ps.length/\CG os)/\Ŧ P (Dk P sc fuel) body (AT (ps.zip as) os) (AE os.length Q)):As (œ w) (á w.params) (d+2) (.ref a) tr:=
 lL W h hb hs nd lc (λs vas _ e=>aZ4.of_eq (bd vas e)) hw
noncomputable def Qp:Pos->Bool:=λ_=>false
abbrev ĳ(w:aC9):Ť:=TM w.params (λ_=>none) none false false Qp Qp
def Ű{w:aC9}{d:Nat}:LT (œ w) (á w.params) (ĳ w) d ô Lr aM Kt ŷ:=VO (λ_ _ e=>nomatch e) (λe=>nomatch e) (λe=>nomatch e) (λ_ e=>nomatch e)
abbrev UP:List aG8:=A1 (Ŝ.main.body[3]?)
def uH:List aG8:=(By UP "__new__").1
def uJ:Scope:=(By UP "__new__").2
def Za(P:aD7):(CJ P 82).body = .stmts uH/\(CJ P 82).scope=uJ/\Au P 82=true:=⟨by rfl',by rfl',by rfl'⟩
def Zs{α:Type}{m:List α->Prop}(h:m []) :∀v:List α,v.length=0->m v:=λv e=>(aK9 e).symm▸h
def LL{α:Type}{m:List α->Prop}{n:Nat}(h :∀a v,v.length=n->m (a::v)) :∀v:List α,v.length=n+1->m v:=λv=>aB4 (motive:=λv=>v.length=n+1->m v) (λe=>Nat.noConfusion e) (λa v _ e=>h a v (bF6 e)) v
def cI{f:aY3}{p q r t:Str}(h :∀a b c d:Value,bC8 f ⟨[a,b,c,d],[]⟩=pure ([(p,a),(q,b),(r,c),(t,d)])) :∀vas:List Value,vas.length=4->bC8 f ⟨vas,[]⟩=pure (([p,q,r,t]:List Str).zip vas):=
 LL λa=>LL λb=>LL λc=>LL λd=>Zs (h a b c d)
def Ç{w:aC9}{a b c:ű}{Q:ű->List Ξ->Prop}:Ŧ (ĳ w) (Dk (ĳ w) uJ 20) uH (AT ((["_cls","a","b","size"]:List Str).zip [.glo Ĺ,a,b,c]) []) (AE 0 Q) =
  AE 0 Q (.ret (.mat [a,b,c])) (AT [("_cls",.glo Ĺ),("a",a),("b",b),("size",c)] []):=by rfl'
def BE{a:ű}{r:List ű}(h1:a.sub nn=some a)(h2:AD nn r=some r):AD nn (a::r)=some (a::r):=by
 show(a.sub nn).bind (λa=>(AD nn r).map (a :: ·))=_
 rwa[h1,h2];rfl
def Ag{k:SK}{vs:List ű}(h:AD nn vs=some vs):(ű.seq k vs).sub nn=some (.seq k vs):=(bQ5 (aE0 (ű.seq k)) h).trans rfl
def Bj:CG []:=λ_ _=>AA
def Z0{w:aC9}{d:Nat}:As (œ w) (á w.params) (d+2) (.ref ô) (IY Ĺ):=
 Of Ű (Za _).2.2 (Za _).1 (Za _).2.1 (ps:=["_cls","a","b","size"]) (by decide) (by rfl') (cI λa b c d=>by rfl') λas os Q hh=>by
  obtain⟨a,b,c,ea,eo,hs,hq⟩:=hh
  subst ea;subst eo
  exact⟨⟨rfl,Bj⟩,Ç.mpr ⟨_,_,[],.inl ⟨rfl,.refl _⟩,Ag (BE hs.1 (BE hs.2.1 (BE hs.2.2 rfl))),rfl,Bj,λ_ _=>AA,hq⟩⟩
def tS:List aG8:=(By UP "_make").1
def tR:Scope:=(By UP "_make").2
def Wa(P:aD7):(CJ P 89).body = .stmts tS/\(CJ P 89).scope=tR/\Au P 89=true:=⟨by rfl',by rfl',by rfl'⟩
def IB{f:aY3}{p q:Str}(h :∀a b:Value,bC8 f ⟨[a,b],[]⟩=pure ([(p,a),(q,b)])) :∀vas:List Value,vas.length=2->bC8 f ⟨vas,[]⟩=pure (([p,q]:List Str).zip vas):=
 LL λa=>LL λb=>Zs (h a b)
def Å{w:aC9}{a b c:ű}{Q:ű->List Ξ->Prop}:Ŧ (ĳ w) (Dk (ĳ w) tR 20) tS (AT ((["cls","iterable"]:List Str).zip [.glo Ĺ,.tup [a,b,c]]) []) (AE 0 Q) =
  AE 0 Q (.ret (.mat [a,b,c])) (AT [("cls",.glo Ĺ),("iterable",.tup [a,b,c]),("result",.mat [a,b,c])] []):=by rfl'
def tG{vs:List ű}(h:vs.length=3) :∃a b c,vs=[a,b,c]:=by
 match vs,h with
 | [a,b,c],_=>exact⟨a,b,c,rfl⟩
def U0{w:aC9}{d:Nat}:As (œ w) (á w.params) (d+2) (.ref aM) (Fn Ĺ):=
 Of Ű (Wa _).2.2 (Wa _).1 (Wa _).2.1 (ps:=["cls","iterable"]) (by decide) (by rfl') (IB λa b=>by rfl') λas os Q hh=>by
  obtain⟨vs,ea,hl,hs,eo,hq⟩:=hh
  obtain⟨a,b,c,rfl⟩:=tG hl
  subst ea;subst eo
  exact⟨⟨rfl,Bj⟩,Å.mpr ⟨_,_,[],.inl ⟨rfl,.refl _⟩,Ag hs,rfl,Bj,λ_ _=>AA,hq⟩⟩
def è(l:List Int):List ű:=l.map ű.int
def EI(l:List Int):AD nn (è l)=some (è l):=aB4 (motive:=λl=>AD nn (è l)=some (è l)) rfl (λa r ih=>BE rfl ih) l
def My(l:List Int):CT (è l)=some (l.map AC.int):=aB4 (motive:=λl=>CT (è l)=some (l.map AC.int)) rfl (λa r ih=>by
 show(BC (ű.int a)).bind (λk=>(CT (è r)).map (k :: ·))=_
 rwa[ih];rfl) l
def Az(l:List Int):(è l).length=l.length:=aB5 ..
noncomputable abbrev Av(a b mb op fb b2j bj:ű):List (Str×ű):=[("isjunk",.none),("a",a),("b",b),("autojunk",.bool true),("matching_blocks",mb),("opcodes",op),("fullbcount",fb),("b2j",b2j),("bjunk",.fset []),("bpopular",bj)]
noncomputable abbrev WF:List (Str×ű):=[("isjunk",.none),("a",.none),("b",.none),("autojunk",.bool true)]
abbrev LU:List aG8:=A1 (Ŝ.main.body[5]?)
def Uc:List aG8:=(By LU "set_seq1").1
def VI:Scope:=(By LU "set_seq1").2
def Sq(P:aD7):(CJ P 174).body = .stmts Uc/\(CJ P 174).scope=VI/\Au P 174=true:=⟨by rfl',by rfl',by rfl'⟩
abbrev ŏ(P:Ť)(sc:Scope)(b:List aG8)(ρ:List (Str×ű))(os:List Ξ)(Q:ű->List Ξ->Prop):Prop:=Ŧ P (Dk P sc 30) b (AT ρ os) (AE os.length Q)
def sB{w:aC9}{ys la:List Int}{b mb op fb b2j bj:ű}{Q:ű->List Ξ->Prop}:ŏ (ĳ w) VI Uc ((["self","a"]:List Str).zip [.ref 0,.lst (è ys)]) [(ń,Av (.lst (è la)) b mb op fb b2j bj)] Q =
  Ez (è ys) (è la) λr=>BX r (AE 1 Q (.ret .none) (AT [("self",.ref 0),("a",.lst (è ys))] [(ń,Av (.lst (è la)) b mb op fb b2j bj)])) (AE 1 Q .next (AT [("self",.ref 0),("a",.lst (è ys))] [(ń,Av (.lst (è ys)) b .none .none fb b2j bj)])):=by rfl'
noncomputable abbrev ĝ:ű:=.str ""
def aP{w:aC9}{ys:List Int}{b mb op fb b2j bj:ű}{Q:ű->List Ξ->Prop}:ŏ (ĳ w) VI Uc ((["self","a"]:List Str).zip [.ref 0,.lst (è ys)]) [(ń,Av ĝ b mb op fb b2j bj)] Q =
  AE 1 Q .next (AT [("self",.ref 0),("a",.lst (è ys))] [(ń,Av (.lst (è ys)) b .none .none fb b2j bj)]):=by rfl'
noncomputable abbrev Xw:List (Str×ű):=[("isjunk",.none),("a",ĝ),("b",.none),("autojunk",.bool true),("matching_blocks",.none),("opcodes",.none)]
def fD{w:aC9}{Q:ű->List Ξ->Prop}:ŏ (ĳ w) VI Uc ((["self","a"]:List Str).zip [.ref 0,ĝ]) [(ń,WF)] Q=AE 1 Q .next (AT [("self",.ref 0),("a",ĝ)] [(ń,Xw)]):=by rfl'
def Bl{o:Ξ}(h:AK nn o.2=some o.2):CG [o]:=λi p e=>by
 cases i with
 | zero=>exact aA3 e▸h
 | succ i=>exact AA e
def Si{fl:BS}{σ τ:St}{r:ű}{D:aC2}{at_:List (Str×ű)}{Q:ű->List Ξ->Prop}(hw:aJ fl σ τ r)(h:τ.H.lookup 0=some (.inst D at_))(hr:r.sub nn=some r)(ha:AK nn at_=some at_)(hq:Q r [(D,at_)]):AE 1 Q fl σ:=
 ⟨r,τ,[(D,at_)],hw,hr,rfl,Bl ha,λi p e=>by
  cases i with
  | zero=>exact aA3 e▸h
  | succ i=>exact AA e,hq⟩
def CC{fl:BS}{σ τ:St}{r:ű}{D:aC2}{at_:List (Str×ű)}{Q:ű->List Ξ->Prop}(hf:G6 fl r)(hw:A9 σ τ)(h:τ.H.lookup 0=some (.inst D at_))(hr:r.sub nn=some r)(ha:AK nn at_=some at_)(hq:Q r [(D,at_)]):AE 1 Q fl σ:=
 Si (.inl ⟨hf,hw⟩) h hr ha hq
def CV{x:Str}{a:ű}{r:List (Str×ű)}(h1:a.sub nn=some a)(h2:AK nn r=some r):AK nn ((x,a)::r)=some ((x,a)::r):=by
 show(a.sub nn).bind (λb=>(AK nn r).map ((x,b) :: ·))=_
 rwa[h1,h2];rfl
def Ac(l:List Int):(ű.lst (è l)).sub nn=some (.lst (è l)):=Ag (EI l)
def Zf{l m:List Int}(h:l.map AC.int=m.map AC.int):l=m:=(List.map_inj_right λa b e=>AC.int.inj e).mp h
def NR{xs ys:List Int}{K:Bool->Prop}(h1:K false)(h2:xs=ys->K true):Ez (è xs) (è ys) K:=by
 unfold Ez
 rw[My,My]
 exact⟨h1,λe=>h2 (Zf e)⟩
structure BY(a b mb op fb b2j bj:ű):Prop where
 a:a.sub nn=some a
 b:b.sub nn=some b
 mb:mb.sub nn=some mb
 op:op.sub nn=some op
 fb:fb.sub nn=some fb
 b2j:b2j.sub nn=some b2j
 bj:bj.sub nn=some bj
def BY.shut{a b mb op fb b2j bj:ű}(h:BY a b mb op fb b2j bj):AK nn (Av a b mb op fb b2j bj)=some (Av a b mb op fb b2j bj):=
 CV rfl (CV h.a (CV h.b (CV rfl (CV h.mb (CV h.op (CV h.fb (CV h.b2j (CV rfl (CV h.bj rfl)))))))))
def Zu(a:ű)(ys:List Int)(P:List Int->Prop):Prop:=a=ĝ\/∃la,a = .lst (è la)/\(ys=la->P la)
def N5:ĉ:=λas os Q=>(as=[.ref 0,ĝ]/\os=[(ń,WF)]/\Q .none [(ń,Xw)])\/∃ys a b mb op fb b2j bj,as=[.ref 0,.lst (è ys)]/\os=[(ń,Av a b mb op fb b2j bj)]/\BY a b mb op fb b2j bj/\
 Q .none [(ń,Av (.lst (è ys)) b .none .none fb b2j bj)]/\Zu a ys λla=>Q .none [(ń,Av (.lst (è la)) b mb op fb b2j bj)]
def Ny{w:aC9}{d:Nat}:As (œ w) (á w.params) (d+2) (.ref 174) N5:=
 Of Ű (Sq _).2.2 (Sq _).1 (Sq _).2.1 (ps:=["self","a"]) (by decide) (by rfl') (IB λa b=>by rfl') λas os Q hh=>by
  refine hh.elim (λhh=>?_) λhh=>?_
  ·obtain⟨ea,eo,hq⟩:=hh
   subst ea;subst eo
   exact⟨⟨rfl,Bl rfl⟩,fD.mpr (CC (fl:=.next) rfl (.refl _) rfl rfl rfl hq)⟩
  ·obtain⟨ys,a,b,mb,op,fb,b2j,bj,ea,eo,S,h1,h2⟩:=hh
   subst ea;subst eo
   have go:AE 1 Q .next (AT [("self",.ref 0),("a",.lst (è ys))] [(ń,Av (.lst (è ys)) b .none .none fb b2j bj)]):=CC (fl:=.next) rfl (.refl _) rfl rfl (BY.shut ⟨Ac ys,S.b,rfl,rfl,S.fb,S.b2j,S.bj⟩) h1
   refine⟨⟨rfl,Bl S.shut⟩,h2.elim (λe=>by subst e;exact aP.mpr go) λq=>?_⟩
   obtain⟨la,e,q⟩:=q
   subst e
   exact sB.mpr (NR go λe=>CC (fl:=.ret .none) rfl (.refl _) rfl rfl S.shut (q e))
def Tg:List aG8:=(By LU "set_seq2").1
def VP:Scope:=(By LU "set_seq2").2
def IZ(P:aD7):(CJ P 181).body = .stmts Tg/\(CJ P 181).scope=VP/\Au P 181=true:=⟨by rfl',by rfl',by rfl'⟩
noncomputable def Y9(a:aC2)(tr:ĉ):aC2->Option ĉ:=λf=>bif aE6 f a then some tr else none
abbrev Ž(w:aC9)(a:aC2)(tr:ĉ):Ť:=TM w.params (Y9 a tr) none false false Qp Qp
def pM{w:aC9}{tr:ĉ}{ys:List Int}{a mb op fb b2j bj:ű}{Q:ű->List Ξ->Prop}:ŏ (Ž w 188 tr) VP Tg ((["self","b"]:List Str).zip [.ref 0,.lst (è ys)]) [(ń,Av a ĝ mb op fb b2j bj)] Q =
  BI tr [.ref 0] (AT [("self",.ref 0),("b",.lst (è ys))] [(ń,Av a (.lst (è ys)) .none .none .none b2j bj)]) λ_ σ=>AE 1 Q .next σ:=by rfl'
def fA{w:aC9}{tr:ĉ}{ys lb:List Int}{a mb op fb b2j bj:ű}{Q:ű->List Ξ->Prop}:ŏ (Ž w 188 tr) VP Tg ((["self","b"]:List Str).zip [.ref 0,.lst (è ys)]) [(ń,Av a (.lst (è lb)) mb op fb b2j bj)] Q =
  Ez (è ys) (è lb) λr=>BX r (AE 1 Q (.ret .none) (AT [("self",.ref 0),("b",.lst (è ys))] [(ń,Av a (.lst (è lb)) mb op fb b2j bj)])) (BI tr [.ref 0] (AT [("self",.ref 0),("b",.lst (è ys))] [(ń,Av a (.lst (è ys)) .none .none .none b2j bj)]) λ_ σ=>AE 1 Q .next σ):=by rfl'
noncomputable abbrev lC:List (Str×ű):=[("isjunk",.none),("a",ĝ),("b",ĝ),("autojunk",.bool true),("matching_blocks",.none),("opcodes",.none),("fullbcount",.none)]
def fH{w:aC9}{tr:ĉ}{Q:ű->List Ξ->Prop}:ŏ (Ž w 188 tr) VP Tg ((["self","b"]:List Str).zip [.ref 0,ĝ]) [(ń,Xw)] Q =
  BI tr [.ref 0] (AT [("self",.ref 0),("b",ĝ)] [(ń,lC)]) λ_ σ=>AE 1 Q .next σ:=by rfl'
def I9:List aG8:=(By LU "set_seqs").1
def J5:Scope:=(By LU "set_seqs").2
def IJ(P:aD7):(CJ P 167).body = .stmts I9/\(CJ P 167).scope=J5/\Au P 167=true:=⟨by rfl',by rfl',by rfl'⟩
noncomputable def Wf(a:aC2)(tr:ĉ)(b:aC2)(tr':ĉ):aC2->Option ĉ:=λf=>bif aE6 f a then some tr else bif aE6 f b then some tr' else none
abbrev Ń(w:aC9)(a:aC2)(tr:ĉ)(b:aC2)(tr':ĉ):Ť:=TM w.params (Wf a tr b tr') none false false Qp Qp
def qL{w:aC9}{t1 t2:ĉ}{Q:ű->List Ξ->Prop}:ŏ (Ń w 174 t1 181 t2) J5 I9 ((["self","a","b"]:List Str).zip [.ref 0,ĝ,ĝ]) [(ń,WF)] Q =
  BI t1 [.ref 0,ĝ] (AT [("self",.ref 0),("a",ĝ),("b",ĝ)] [(ń,WF)]) λ_ σ=>Ŧ (Ń w 174 t1 181 t2) (Dk (Ń w 174 t1 181 t2) J5 30) (I9.drop 2) σ (AE 1 Q):=by rfl'
def Zx:Expr:=.Name ("":Str) AI
def vK(d:List Expr×Expr×List aG8×List aG8)(s:aG8):List Expr×Expr×List aG8×List aG8:=bM7 (motive_2:=λ_=>List Expr×Expr×List aG8×List aG8) s (λ_ _ _ _ _ _ _ _ _ _=>d) (λ_ _ _ _ _ _ _ _ _ _=>d) (λ_ _ _ _ _ _ _ _ _ _ _=>d) (λo _=>([],o.getD Zx,[],[])) (λts _=>(ts,Zx,[],[])) (λts e _=>(ts,e,[],[])) (λ_ _ _ _ _ _ _=>d) (λt _ e _=>([t],e,[],[])) (λ_ _ _ _ _=>d) (λt i b o _=>([t],i,b,o)) (λ_ _ _ _ _=>d) (λt b o _=>([],t,b,o)) (λt b o _=>([],t,b,o)) (λ_ _ _=>d) (λ_ _ _=>d) (λ_ _ _=>d) (λ_ _ _=>d) (λ_ _ _ _ _=>d) (λ_ _ _ _ _=>d) (λ_ _ _=>d) (λ_ _=>d) (λ_ _ _ _=>d) (λ_ _=>d) (λ_ _=>d) (λe _=>([],e,[],[])) (λ_=>d) (λ_=>d) (λ_=>d)
def O3(s:aG8):List Expr×Expr×List aG8×List aG8:=vK ([],Zx,[],[]) s
noncomputable def s0(e:Expr):List Expr:=Expr.casesOn (motive_1:=λ_=>List Expr) e (λ_ l _=>l) (λ_ _ _=>[]) (λa _ b _=>[a,b]) (λ_ x _=>[x]) (λ_ _ _ _=>[]) (λt a b _=>[t,a,b]) (λ_ _ _=>[]) (λ_ _ _=>[]) (λx _ _ _=>[x]) (λ_ _ _ _=>[]) (λx v _ _ _=>[x,v]) (λ_ _ _ _=>[]) (λ_ _=>[]) (λ_ _=>[]) (λ_ _=>[]) (λl _ r _=>l::r) (λg l _ _=>g::l) (λ_ _ _ _=>[]) (λ_ _=>[]) (λ_ _ _=>[]) (λo _ _=>[o]) (λo i _=>[o,i]) (λ_ _=>[]) (λ_ _=>[]) (λl _=>l) (λl _ _=>l) (λ_ _ _ _=>[])
def nV(e:Expr)(n:Nat):Expr:=(s0 e).getD n Zx
noncomputable def nE(d:List aI7×Scope)(e:Expr):List aI7×Scope:=Expr.casesOn (motive_1:=λ_=>List aI7×Scope) e (λ_ _ _=>d) (λ_ _ _=>d) (λ_ _ _ _=>d) (λ_ _ _=>d) (λ_ _ _ _=>d) (λ_ _ _ _=>d) (λ_ _ _=>d) (λ_ _ _=>d) (λ_ g s _=>(g,s)) (λ_ _ _ _=>d) (λ_ _ g s _=>(g,s)) (λ_ _ _ _=>d) (λ_ _=>d) (λ_ _=>d) (λ_ _=>d) (λ_ _ _ _=>d) (λ_ _ _ _=>d) (λ_ _ _ _=>d) (λ_ _=>d) (λ_ _ _=>d) (λ_ _ _=>d) (λ_ _ _=>d) (λ_ _=>d) (λ_ _=>d) (λ_ _=>d) (λ_ _ _=>d) (λ_ _ _ _=>d)
def lN(e:Expr):List aI7×Scope:=nE ([],⟨.module,[],false,false,[]⟩) e
def Dm(s:aG8):Expr×List aG8:=((O3 s).1.getD 0 Zx,(O3 s).2.2.1)
noncomputable def Hk(s:aG8):List aG8:=(O3 s).2.2.1
def Ho:List aG8:=(By LU "__chain_b").1
def DJ:Scope:=(By LU "__chain_b").2
def Qc(P:aD7):(CJ P 188).body = .stmts Ho/\(CJ P 188).scope=DJ/\Au P 188=true:=⟨by rfl',by rfl',by rfl'⟩
noncomputable def eF:Pos->Bool:=λp=>aE6 p.line 254||aE6 p.line 257
abbrev ŋ(w:aC9):Ť:=oX w.params (λ_=>none) none false false Qp Qp eF none
def Ū{w:aC9}{d:Nat}:LT (œ w) (á w.params) (ŋ w) d ô Lr aM Kt ŷ:=t6 (λ_ _ e=>nomatch e) (λe=>nomatch e) (λe=>nomatch e) (λ_ e=>nomatch e) λf e=>nomatch e
abbrev Iq(w:aC9):â:=Dk (ŋ w) DJ 30
def K8:Expr×List aG8:=Dm (Ho.getD 2 (.Pass AI))
def NL(w:aC9):ű->St->ĵ->Prop:=λv σ K=>(Œ (ŋ w) DJ 29).A K8.1 v σ λσ=>Ŧ (ŋ w) (Dk (ŋ w) DJ 29) K8.2 σ K
noncomputable abbrev Zw(ys:List Int):List (Str×ű):=[("self",.ref 0),("b",.lst (è ys)),("b2j",.ref 1)]
noncomputable abbrev LN(a b mb op fb b2j:ű)(tl:List (Str×ű)):List (Str×ű):=("isjunk",.none)::("a",a)::("b",b)::("autojunk",.bool true)::("matching_blocks",mb)::("opcodes",op)::("fullbcount",fb)::("b2j",b2j)::tl
noncomputable abbrev Zq(bj:ű):List (Str×ű):=[("bjunk",.fset []),("bpopular",bj)]
abbrev Zv(ys:List Int)(at_:List (Str×ű))(ds:List (AC×ű))(L:List (Nat×Ř))(m:Nat):St:=⟨Zw ys,(0,.inst ń at_)::(1,.dict ds)::L,m+2,1⟩
def rY{w:aC9}{ys:List Int}{a mb op fb b2j bj:ű}{K:ĵ}:Ŧ (ŋ w) (Iq w) Ho (AT [("self",.ref 0)] [(ń,Av a (.lst (è ys)) mb op fb b2j bj)]) K =
  (De K8.1=true/\AD nn (è ys)=some (è ys)/\D7 (BW (è ys)) (NL w) (Ŧ (ŋ w) (Dk (ŋ w) DJ 29) []) (Zv ys (LN a (.lst (è ys)) mb op fb (.ref 1) (Zq bj)) [] [] 0) (λfl υ=>BS.rec (Ŧ (ŋ w) (Iq w) (Ho.drop 3) υ K) (K .brk υ) (K .cont υ) (λv=>K (.ret v) υ) fl)):=by rfl'
def cL{w:aC9}{K:ĵ}:Ŧ (ŋ w) (Iq w) Ho (AT [("self",.ref 0)] [(ń,lC)]) K =
  (("":Str).cps.size=0/\D7 [] (NL w) (Ŧ (ŋ w) (Dk (ŋ w) DJ 29) []) ⟨[("self",.ref 0),("b",ĝ),("b2j",.ref 1)],[(0,.inst ń (LN ĝ ĝ .none .none .none (.ref 1) [])),(1,.dict [])],2,1⟩ (λfl υ=>BS.rec (Ŧ (ŋ w) (Iq w) (Ho.drop 3) υ K) (K .brk υ) (K .cont υ) (λv=>K (.ret v) υ) fl)):=by rfl'
abbrev Wx(ys:List Int)(at_:List (Str×ű))(ds:List (AC×ű))(L:List (Nat×Ř))(m:Nat)(i:Int)(x:Int)(u:ű):St:=⟨[("self",.ref 0),("b",.lst (è ys)),("b2j",.ref 1),("i",.int i),("elt",.int x),("indices",u)],(0,.inst ń at_)::(1,.dict ds)::L,m+2,1⟩
def bA{w:aC9}{ys:List Int}{at_:List (Str×ű)}{ds:List (AC×ű)}{L:List (Nat×Ř)}{m:Nat}{i x:Int}{K:ĵ}:NL w (.tup [.int i,.int x]) (Zv ys at_ ds L m) K =
  (2=2/\AM ds.length/\((∀u,ds.lookup (.int x)=some u->Ŧ (ŋ w) (Dk (ŋ w) DJ 29) (K8.2.drop 1) (Wx ys at_ ds (Ah L (m+2) (.list [])) (m+1) i x u) K)/\
   (ds.lookup (.int x)=none->Ŧ (ŋ w) (Dk (ŋ w) DJ 29) (K8.2.drop 1) (Wx ys at_ (dset ds (.int x) (.ref (m+2))) (Ah L (m+2) (.list [])) (m+1) i x (.ref (m+2))) K))):=by rfl'
def i8{w:aC9}{ys:List Int}{at_:List (Str×ű)}{ds:List (AC×ű)}{L:List (Nat×Ř)}{m q:Nat}{i x:Int}{K:ĵ}:Ŧ (ŋ w) (Dk (ŋ w) DJ 29) (K8.2.drop 1) (Wx ys at_ ds L m i x (.ref (q+2))) K =
  Aa (RJ (Ē w.params) (.ref (q+2)) "append" (Wx ys at_ ds L m i x (.ref (q+2)))) λg=>Ik (ŋ w) g.1 (bif g.2 then [.ref (q+2),.int i]else [.int i]) (Wx ys at_ ds L m i x (.ref (q+2))) λ_ σ=>K .next σ:=by rfl'
def U4{K:bH5}{σ:St}{x:Nat}{vs:List ű}(h:σ.H.lookup x=some (.list vs)):RJ K (.ref x) "append" σ=some (.fn .append,true):=by
 have r:C9 σ (.ref x)=some (x,.list vs):=bQ5 (aE0 (x,·)) h
 show LZ (aE0 _ (bO1 (C9 σ (.ref x)) _)) (aE0 _ (LZ (bO1 (bO1 (aE0 _ (C9 σ (.ref x))) Ř.lst) _) _))=_
 rwa[r];rfl'
def UN{P:Ť}{σ:St}{x:Nat}{v:ű}{vs:List ű}{Q:ű->St->Prop}(h:σ.H.lookup x=some (.list vs))(hz:AM vs.length)(q:Q .none (σ.set x (.list (vs++[v])))):Ik P (.fn .append) [.ref x,v] σ Q:=by
 show Aa (aE0 (x,·) (σ.H.lookup x)) λp=>Aa p.2.lst λvs=>AM vs.length/\Q .none (σ.set p.1 (.list (vs++[v])))
 rwa[h]
 exact⟨hz,q⟩
abbrev ç(P:Ť)(S:â)(r:List aG8)(K:ĵ):ĵ:=λfl υ=>BS.rec (Ŧ P S r υ K) (K .brk υ) (K .cont υ) (λv=>K (.ret v) υ) fl
def DV{P P':Ť}{S S':â}{r:List aG8}{K:ĵ}{σ:St}:Ŧ P' S' [] σ (ç P S r K)=Ŧ P S r σ K:=rfl
def Lx:List aG8:=Hk (Ho.getD 8 (.Pass AI))
def Yl:Expr×List aG8:=Dm (Lx.getD 1 (.Pass AI))
def jT:Expr×List aG8:=Dm (Lx.getD 2 (.Pass AI))
def kU(w:aC9)(f:Expr×List aG8):ű->St->ĵ->Prop:=λv σ K=>(Œ (ŋ w) DJ 28).A f.1 v σ λσ=>Ŧ (ŋ w) (Dk (ŋ w) DJ 28) f.2 σ K
abbrev ZH(b:ű)(n:Int)(tl:List (Str×ű)):List (Str×ű):=("self",.ref 0)::("b",b)::("b2j",.ref 1)::("junk",.ref 2)::("isjunk",.none)::("popular",.ref 3)::("n",.int n)::tl
noncomputable abbrev He(b:ű)(n:Int)(tl at_:List (Str×ű))(H:List (Nat×Ř))(m:Nat):St:=⟨ZH b n tl,(0,.inst ń at_)::H,4,m⟩
abbrev kY(a b mb op fb:ű):List (Str×ű):=LN a b mb op fb (.ref 1) [("bjunk",.ref 2),("bpopular",.ref 3)]
def eZ{w:aC9}{ys:List Int}{a mb op fb bj:ű}{ds:List (AC×ű)}{K:ĵ}:Ŧ (ŋ w) (Iq w) (Ho.drop 3) ⟨Zw ys,[(0,.inst ń (LN a (.lst (è ys)) mb op fb (.ref 1) (Zq bj))),(1,.dict ds)],2,1⟩ K =
  (AM (è ys).length/\BX (decide ((200:Int)<=((è ys).length:Int))) (Ŧ (ŋ w) (Dk (ŋ w) DJ 29) Lx (He (.lst (è ys)) (è ys).length [] (kY a (.lst (è ys)) mb op fb) [(1,.dict ds),(2,.set []),(3,.set [])] 1) (ç (ŋ w) (Iq w) [] K)) (K .next (He (.lst (è ys)) (è ys).length [] (kY a (.lst (è ys)) mb op fb) [(1,.dict ds),(2,.set []),(3,.set [])] 1))):=by rfl'
def Y8{w:aC9}{K:ĵ}:Ŧ (ŋ w) (Iq w) (Ho.drop 3) ⟨[("self",.ref 0),("b",ĝ),("b2j",.ref 1)],[(0,.inst ń (LN ĝ ĝ .none .none .none (.ref 1) [])),(1,.dict [])],2,1⟩ K =
  (("":Str).length<1000000/\K .next (He ĝ 0 [] (kY ĝ ĝ .none .none .none) [(1,.dict []),(2,.set []),(3,.set [])] 1)):=by rfl'
def gK{w:aC9}{b:ű}{n:Int}{at_:List (Str×ű)}{ds:List (AC×ű)}{K:ĵ}:Ŧ (ŋ w) (Dk (ŋ w) DJ 29) Lx (He b n [] at_ [(1,.dict ds),(2,.set []),(3,.set [])] 1) K =
  ((100:Int)≠0/\aG4 n 100=false/\(De Yl.1=true/\AG nn ds=some ds)/\H5 1 (.dict ds) (CY ds) (kU w Yl) (He b n [("ntest",.int (n.fdiv 100+1))] at_ [(1,.dict ds),(2,.set []),(3,.set [])] 1) (ç (ŋ w) (Dk (ŋ w) DJ 29) (Lx.drop 2) K)):=by rfl'
def i4{w:aC9}{b:ű}{n t x:Int}{at_:List (Str×ű)}{ks:List AC}{L:List ű}{K:ĵ}:kU w Yl (.tup [.int x,.lst L]) (He b n [("ntest",.int t)] at_ [(2,.set []),(3,.set ks)] 4) K =
  (2=2/\AM L.length/\BX (decide (t<(L.length:Int))) (ks.length+1<scanBound/\K .next (He b n [("ntest",.int t),("elt",.int x),("idxs",.lst L)] at_ [(2,.set []),(3,.set (Fy ks (.int x)))] 4)) (K .next (He b n [("ntest",.int t),("elt",.int x),("idxs",.lst L)] at_ [(2,.set []),(3,.set ks)] 4))):=by rfl'
def eQ{w:aC9}{b:ű}{n t:Int}{at_:List (Str×ű)}{ds:List (AC×ű)}{ks:List AC}{K:ĵ}:Ŧ (ŋ w) (Dk (ŋ w) DJ 29) (Lx.drop 2) (He b n [("ntest",.int t)] at_ [(2,.set []),(3,.set ks),(1,.dict ds)] 1) K =
  ∀ks':List AC,ks'.Perm ks->H5 3 (.set ks) (ks'.map .key) (kU w jT) (He b n [("ntest",.int t)] at_ [(2,.set []),(3,.set ks),(1,.dict ds)] 1) (ç (ŋ w) (Dk (ŋ w) DJ 29) [] K):=by rfl'
def bS{w:aC9}{b:ű}{n t x:Int}{at_:List (Str×ű)}{ds:List (AC×ű)}{K:ĵ}:kU w jT (.int x) (He b n [("ntest",.int t)] at_ [(2,.set []),(1,.dict ds)] 4) K =
  (AM ds.length/\(ds.lookup (.int x)).isSome=true/\K .next (He b n [("ntest",.int t),("elt",.int x)] at_ [(2,.set []),(1,.dict (Fb ds (.int x)))] 4)):=by rfl'
def A9.less{ρ ρ':List (Str×ű)}{H H':List (Nat×Ř)}{n a:Nat}(hρ :∀x v,ρ'.lookup x=some v->ρ.lookup x=some v)(hH :∀i o,H'.lookup i=some o->H.lookup i=some o):A9 ⟨ρ,H,n,a⟩ ⟨ρ',H',n,a⟩:=λX G s R=>⟨G,.refl _ _,R.base,R.keep,R.size,R.mutHs,R.ownB,R.ownLt,R.gens,R.os,
 R.loc.casesOn λm hm r=>⟨m,hm,λx av e1 e2=>r x av (hρ x av e1) e2⟩,λx a e=>(R.cel x a e).casesOn λv hv r=>⟨v,hv,λav e1 e2=>r av (hρ x av e1) e2⟩,R.celAll,R.tloc,R.tcel,λx o e=>have q:=R.obj x o (hH x o e);⟨q.lt,q.tag,q.rel⟩,R.anc,R.bsz⟩
noncomputable def Aq(ys:List Int)(i:Nat)(x:Int):List Nat:=(aK4 i).filter λj=>decide (ys[j]?=some x)
def cH(ys:List Int)(i:Nat)(x:Int):List Int:=(Aq ys i x).map λ(j:Nat)=>(j:Int)
abbrev BA(ys:List Int)(i:Nat)(x:Int):List ű:=è (cH ys i x)
section
variable{ys:List Int}{i:Nat}{x:Int}
def HR:Aq ys (i+1) x=Aq ys i x++[i].filter λj=>decide (ys[j]?=some x):=(bQ5 _ aN1).trans (aU4 ..)
def MV(h:ys[i]?=some x):BA ys (i+1) x=BA ys i x++[.int (i:Int)]:=by
 show aY8 _ (aY8 _ _)=aY8 _ (aY8 _ _)++_
 rwa[HR,aQ6 (p:=λj=>decide (ys[j]?=some x)) (bQ9 h),aH4,aH4];rfl
def IK(h:Aq ys i x=[]):BA ys i x=[]:=bQ5 (λl=>è (aY8 (λj:Nat=>(j:Int)) l)) h
def Ft(h:ys[i]?≠some x):Aq ys (i+1) x=Aq ys i x:=by
 rwa[HR,aQ7 (p:=λj=>decide (ys[j]?=some x)) (λz=>h (bR1 z))];exact aE1 _
def Km(h:ys[i]?≠some x):BA ys (i+1) x=BA ys i x:=bQ5 (λl=>è (aY8 _ l)) (Ft h)
def Fm:(BA ys i x).length<=i:=by
 show(aY8 _ (aY8 _ _)).length<=i
 rw[aB5,aB5]
 exact aA2 (bD2 _ _) (aB7 aT2)
end
structure ģ(J:Int->Bool)(ys:List Int)(ds:List (AC×ű)):Prop where
 shut:AG nn ds=some ds
 at_ :∀x:Int,(ds.lookup (.int x)).getD (.lst []) = .lst (bif J x then []else BA ys ys.length x)
def GT{es:List (Int×Nat)}{f:Int×Nat->ű}{x:Int}:(∃p∈es,p.1=x/\(es.map λp=>(AC.int p.1,f p)).lookup (.int x)=some (f p))\/((∀p∈es,p.1≠x)/\(es.map λp=>(AC.int p.1,f p)).lookup (.int x)=none):=
 aB4 (motive:=λes=>(∃p∈es,p.1=x/\(es.map λp=>(AC.int p.1,f p)).lookup (.int x)=some (f p))\/((∀p∈es,p.1≠x)/\(es.map λp=>(AC.int p.1,f p)).lookup (.int x)=none)) (.inr ⟨λ_ h=>(nomatch h),rfl⟩) (λp r ih=>by
  by_cases h:p.1=x
  ·refine .inl ⟨p,aC0 ..,h,?_⟩
   rwa[aR7];rewrite [AQ];rwa[h.symm,show(AC.int p.1==AC.int p.1)=true from bR2 _];rfl
  ·have e:(AC.int x==AC.int p.1)=false:=beq_eq_false_iff_ne.mpr λz=>h (AC.int.inj z).symm
   rwa[aR7];rewrite [AQ];rwa[e]
   exact ih.imp (λq=>q.imp λ_ q=>⟨aC7 _ q.1,q.2⟩) λq=>⟨λy hy=>(aF4.mp hy).elim (λz=>z▸h) (q.1 y),q.2⟩) es
noncomputable def MC(es:List (Int×Nat)):List (AC×ű):=es.map λp=>(AC.int p.1,.ref (p.2+2))
def DK(ys:List Int)(es:List (Int×Nat)):List (AC×ű):=es.map λp=>(AC.int p.1,.lst (BA ys ys.length p.1))
structure Ω(ys:List Int)(i:Nat)(es:List (Int×Nat))(L:List (Nat×Ř))(m:Nat):Prop where
 lt :∀p∈es,p.2<m
 at_ :∀p∈es,L.lookup (p.2+2)=some (.list (BA ys i p.1))
 k :∀p∈es,∀q∈es,p.1=q.1->p.2=q.2
 v :∀p∈es,∀q∈es,p.2=q.2->p.1=q.1
 no :∀x,(∀p∈es,p.1≠x)->Aq ys i x=[]
section
variable{ys:List Int}{i m:Nat}{x:Int}{es:List (Int×Nat)}{L:List (Nat×Ř)}
def ns{a b:Nat}(h:a<b):a+2≠b+2:=λz=>aE4 h (aQ0 z)
def Nu{β:Type}{l:List (Nat×β)}{x y:Nat}{v:β}(h:y≠x):(Ah l x v).lookup y=l.lookup y:=by rewrite [Dr];rwa[beq_eq_false_iff_ne.mpr h];rfl
def Jb{β:Type}{l:List (Nat×β)}{x:Nat}{v:β}:(Ah l x v).lookup x=some v:=by rw[Dr,bR2];rfl
def Ω.gar(h:Ω ys i es L m){o:Ř}:Ω ys i es (Ah L (m+2) o) (m+1):=⟨λp hp=>aI1 (h.lt p hp),λp hp=>(Nu (ns (h.lt p hp))).trans (h.at_ p hp),h.k,h.v,h.no⟩
def Ω.fresh(h:Ω ys i es L m)(hx :∀p∈es,p.1≠x):Ω ys i (es++[(x,m)]) (Ah L (m+2) (.list [])) (m+1):=by
 have g:=h.gar (o:=.list [])
 have go :∀{P:Int×Nat->Prop},(∀p∈es,P p)->P (x,m)->∀p∈es++[(x,m)],P p:=λa b p hp=>(aD9.mp hp).elim (a p) λz=>aA7.mp z▸b
 exact⟨go g.lt (aC1 m),go g.at_ (Jb.trans (bQ5 (λl=>some (Ř.list l)) (IK (h.no x hx)).symm)),
  go (λp hp=>go (h.k p hp) λz=>bQ8 z (hx p hp)) (go (λq hq z=>bQ8 z.symm (hx q hq)) λ_=>rfl),
  go (λp hp=>go (h.v p hp) λz=>bQ8 z (aE4 (h.lt p hp))) (go (λq hq z=>bQ8 z.symm (aE4 (h.lt q hq))) λ_=>rfl),
  λy hy=>h.no y λp hp=>hy p (aH2 _ hp)⟩
def Ω.add(h:Ω ys i es L m){p:Int×Nat}(hp:p∈es)(hx:ys[i]?=some p.1):Ω ys (i+1) es (Ah L (p.2+2) (.list (BA ys i p.1++[.int (i:Int)]))) m:=by
 refine⟨h.lt,λq hq=>?_,h.k,h.v,λy hy=>(Ft λz=>hy p hp (aA3 (hx.symm.trans z))).trans (h.no y hy)⟩
 by_cases e:q.2=p.2
 ·have e':=h.v q hq p hp e
  rwa[e,e',MV hx];exact Jb
 ·rwa[Km λz=>e (h.k q hq p hp (aA3 (z.symm.trans hx)))]
  exact(Nu λz=>e (aQ0 z)).trans (h.at_ q hq)
def Ω.nil:Ω ys 0 [] [] 0:=⟨λ_ h=>(nomatch h),λ_ h=>(nomatch h),λ_ h=>(nomatch h),λ_ h=>(nomatch h),λ_ _=>rfl⟩
def DU{g:Nat->Option ű}{x:Str}{a a':ű}{r r':List (Str×ű)}(h1:a.sub g=some a')(h2:AK g r=some r'):AK g ((x,a)::r)=some ((x,a')::r'):=by
 show(a.sub g).bind (λb=>(AK g r).map ((x,b) :: ·))=_
 rwa[h1,h2];rfl
def So{g:Nat->Option ű}{D:aC2}{r r':List (Str×ű)}(h:AK g r=some r'):(Ř.inst D r).sub g=some (.inst D r'):=bQ5 (aE0 (Ř.inst D)) h
def WC{g:Nat->Option ű}{a b mb op fb u v:ű}{tl tl':List (Str×ű)}(S:BY a b mb op fb .none .none)(h:u.sub g=some v)(ht:AK g tl=some tl'):(Ř.inst ń (LN a b mb op fb u tl)).sub g=some (.inst ń (LN a b mb op fb v tl')):=
 So (DU rfl (DU (AJ _ _ S.a) (DU (AJ _ _ S.b) (DU rfl (DU (AJ _ _ S.mb) (DU (AJ _ _ S.op) (DU (AJ _ _ S.fb) (DU h ht))))))))
def Gx{g:Nat->Option ű}{u v:Int×Nat->ű} :∀{es:List (Int×Nat)},(∀p∈es,(u p).sub g=some (v p))->AG g (es.map λp=>(AC.int p.1,u p))=some (es.map λp=>(AC.int p.1,v p)):=
 λ{es}=>aB4 (motive:=λes=>(∀p∈es,(u p).sub g=some (v p))->AG g (es.map λp=>(AC.int p.1,u p))=some (es.map λp=>(AC.int p.1,v p))) (λ_=>rfl) (λp r ih h=>by
  show((u p).sub g).bind (λb=>(AG g (r.map λp=>(AC.int p.1,u p))).map ((AC.int p.1,b) :: ·))=_
  rwa[h p (aC0 ..),ih λq hq=>h q (aC7 _ hq)];rfl) es
def Ω.fin{a mb op fb:ű}{tl:List (Str×ű)}(h:Ω ys ys.length es L m)(S:BY a (.lst (è ys)) mb op fb .none .none)(ht:AK nn tl=some tl) :
  A9 (Zv ys (LN a (.lst (è ys)) mb op fb (.ref 1) tl) (MC es) L m) ⟨Zw ys,[(0,.inst ń (LN a (.lst (è ys)) mb op fb (.ref 1) tl)),(1,.dict (DK ys es))],2,1⟩:=by
 have fl :∀{es':List (Int×Nat)} {y:Nat},(∀p∈es',p∈es)->(∃p∈es,p.2+2=y/\(es'.map λp=>(p.2+2,ű.lst (BA ys ys.length p.1))).lookup y=some (.lst (BA ys ys.length p.1)))\/((∀p∈es',p.2+2≠y)/\(es'.map λp=>(p.2+2,ű.lst (BA ys ys.length p.1))).lookup y=none):=λ{es' y}=>aB4 (motive:=λes'=>(∀p∈es',p∈es)->(∃p∈es,p.2+2=y/\(es'.map λp=>(p.2+2,ű.lst (BA ys ys.length p.1))).lookup y=some (.lst (BA ys ys.length p.1)))\/((∀p∈es',p.2+2≠y)/\(es'.map λp=>(p.2+2,ű.lst (BA ys ys.length p.1))).lookup y=none)) (λ_=>.inr ⟨λ_ h=>(nomatch h),rfl⟩) (λp r ih hs=>by
  rwa[aR7];rw[AQ]
  by_cases e:p.2+2=y
  ·rwa[show(y==p.2+2)=true from beq_iff_eq.mpr e.symm]
   exact .inl ⟨p,hs p (aC0 ..),e,rfl⟩
  ·rwa[show(y==p.2+2)=false from beq_eq_false_iff_ne.mpr λz=>e z.symm]
   exact(ih λq hq=>hs q (aC7 _ hq)).imp id λq=>⟨λz hz=>(aF4.mp hz).elim (λw=>w▸e) (q.1 z),q.2⟩) es'
 exact A9.re [0,1] (es.map λp=>(p.2+2,.lst (BA ys ys.length p.1))) rfl rfl rfl rfl (λy w e=>(fl (y:=y) λ_=>id).elim (λq=>q.elim λp q=>by
   rw[q.2.2]at e
   rwa[(aA3 e).symm,q.2.1.symm]
   exact⟨rfl,_,h.at_ p q.1,rfl,Ac _⟩) λq=>AA (q.2.symm.trans e))
   (Bs rfl rfl (Bs rfl (AJ _ _ (Ac ys)) (Bs rfl rfl B0)))
   (RY rfl rfl (WC S rfl (E1 ht)) (RY rfl rfl (bQ5 (aE0 Ř.dict) (Gx λp hp=>(fl (y:=p.2+2) λ_=>id).elim (λq=>q.elim λp' q=>by
    rwa[(h.v p' q.1 p hp (aQ0 q.2.1)).symm]
    exact q.2.2) λq=>bQ8 rfl (q.1 p hp))) BZ))
def Ą(J:Int->Bool)(l:List Int)(ks:List AC):Prop:=ks.Nodup/\ks.length<=l.length/\∀k,k∈ks↔∃x∈l,k=AC.int x/\J x=true
theorem Ą.nil{J:Int->Bool}:Ą J [] []:=⟨.nil,aA6 _,λk=>⟨λh=>(nomatch h),λ⟨_,h,_⟩=>(nomatch h)⟩⟩
def Qa{ks:List AC}{k k':AC}:k'∈Fy ks k↔k'∈ks\/k'=k:=by
 unfold Fy
 by_cases h:k∈ks
 ·rwa[bQ6 h];exact⟨.inl,λz=>z.elim id λe=>e▸h⟩
 ·rwa[bQ7 h];exact aD9.trans (or_congr_right aA7)
def HY{ks:List AC}{k:AC}(n:ks.Nodup):(Fy ks k).Nodup/\(Fy ks k).length<=ks.length+1:=by
 unfold Fy
 by_cases h:k∈ks
 ·rwa[bQ6 h];exact⟨n,aI4 _⟩
 ·rwa[bQ7 h];exact⟨List.nodup_append.mpr ⟨n,aZ3.mpr ⟨List.not_mem_nil,.nil⟩,λa ha b hb e=>h (aA7.mp hb▸e▸ha)⟩,aB7 aB0⟩
def Ą.add{J:Int->Bool}{l:List Int}{ks:List AC}{x:Int}(h:Ą J l ks)(j:J x=true):Ą J (l++[x]) (Fy ks (.int x)):=by
 refine⟨(HY h.1).1,aA2 (HY h.1).2 (aA2 (aF7 h.2.1) (aB7 (aB0 (bs:=[x])).symm)),λk=>Qa.trans ⟨λz=>z.elim (λz=>?_) λe=>⟨x,aJ9 _ (aA7.mpr rfl),e,j⟩,λ⟨y,hy,e,jy⟩=>?_⟩⟩
 ·exact((h.2.2 k).mp z).imp λy q=>⟨aH2 _ q.1,q.2⟩
 ·exact(aD9.mp hy).elim (λhy=>.inl ((h.2.2 k).mpr ⟨y,hy,e,jy⟩)) λhy=>.inr (e.trans (bQ5 _ (aA7.mp hy)))
def Ą.skip{J:Int->Bool}{l:List Int}{ks:List AC}{x:Int}(h:Ą J l ks)(j:J x=false):Ą J (l++[x]) ks:=
 ⟨h.1,aA2 h.2.1 (aA2 (aI4 _) (aB7 (aB0 (bs:=[x])).symm)),λk=>(h.2.2 k).trans ⟨λ⟨y,hy,q⟩=>⟨y,aH2 _ hy,q⟩,λ⟨y,hy,e,jy⟩=>
  (aD9.mp hy).elim (λhy=>⟨y,hy,e,jy⟩) λhy=>nomatch(aA7.mp hy▸j).symm.trans jy⟩⟩
def OX{ds:List (AC×ű)}{k k':AC}:(Fb ds k).lookup k'=if k'=k then none else ds.lookup k':=by
 unfold Fb
 refine aB4 (motive:=λds=>(bO2 (λp:AC×ű=>decide (p.1≠k)) ds).lookup k'=if k'=k then none else ds.lookup k') (ite_self _).symm (λp r ih=>?_) ds
 by_cases h:p.1=k
 ·rwa[aQ7 (p:=λp:AC×ű=>decide (p.1≠k)) (λz=>bQ8 h (bR1 z)),ih];rw[AQ]
  by_cases e:k'=k
  ·rwa[bQ6 e,bQ6 e];rfl
  ·rwa[bQ7 e,bQ7 e,show(k'==p.1)=false from beq_eq_false_iff_ne.mpr λz=>e (z.trans h)];rfl
 ·rwa[aQ6 (p:=λp:AC×ű=>decide (p.1≠k)) (bQ9 h)];rewrite [AQ,AQ];rwa[ih]
  by_cases e:k'=k
  ·rwa[bQ6 e,bQ6 e,show(k'==p.1)=false from beq_eq_false_iff_ne.mpr λz=>h (z.symm.trans e)];rfl
  ·rwa[bQ7 e,bQ7 e];rfl
def P9{ds:List (AC×ű)}{k:AC}(h:AG nn ds=some ds):AG nn (Fb ds k)=some (Fb ds k):=by
 unfold Fb
 have sc :∀{p:AC×ű} {r:List (AC×ű)},AG nn (p::r)=some (p::r)↔p.2.sub nn=some p.2/\AG nn r=some r:=λ{p r}=>by
  obtain⟨k,v⟩:=p
  show(v.sub nn).bind (λb=>(AG nn r).map ((k,b) :: ·))=some ((k,v)::r)↔v.sub nn=some v/\_
  cases v.sub nn with
  | none=>exact⟨λz=>(nomatch z),λz=>(nomatch z.1)⟩
  | some b=>cases AG nn r with
   | none=>exact⟨λz=>(nomatch z),λz=>(nomatch z.2)⟩
   | some r'=>exact⟨λz=>by cases z;exact⟨rfl,rfl⟩,λz=>by cases z.1;cases z.2;rfl⟩
 revert h
 refine aB4 (motive:=λds=>AG nn ds=some ds->AG nn (bO2 (λp:AC×ű=>decide (p.1≠k)) ds)=some (bO2 (λp:AC×ű=>decide (p.1≠k)) ds)) (λ_=>rfl) (λp r ih h=>?_) ds
 have q:=sc.mp h
 by_cases e:p.1=k
 ·rwa[aQ7 (p:=λp:AC×ű=>decide (p.1≠k)) (λz=>bQ8 e (bR1 z))];exact ih q.2
 ·rwa[aQ6 (p:=λp:AC×ű=>decide (p.1≠k)) (bQ9 e)];exact sc.mpr ⟨q.1,ih q.2⟩
def SP{ds:List (AC×ű)}{k:AC}:(Fb ds k).length<=ds.length:=bD2 _ _
structure ò(ds ds':List (AC×ű))(l:List AC):Prop where
 shut:AG nn ds'=some ds'
 len:ds'.length<=ds.length
 look :∀k,ds'.lookup k=if k∈l then none else ds.lookup k
def ò.nil{ds:List (AC×ű)}(h:AG nn ds=some ds):ò ds ds []:=⟨h,aA6 _,λk=>(bQ7 List.not_mem_nil).symm⟩
def ò.del{ds ds':List (AC×ű)}{l:List AC}{k:AC}(h:ò ds ds' l):ò ds (Fb ds' k) (l++[k]):=
 ⟨P9 h.shut,aA2 SP h.len,λk'=>by
  rwa[OX];rw[h.look]
  by_cases e:k'=k
  ·rwa[bQ6 e,bQ6 (aJ9 _ (aA7.mpr e))];rfl
  ·rwa[bQ7 e]
   by_cases z:k'∈l
   ·rwa[bQ6 z,bQ6 (aH2 _ z)];rfl
   ·rwa[bQ7 z,bQ7 λy=>(aD9.mp y).elim z λy=>e (aA7.mp y)];rfl⟩
def Ω.bj{J:Int->Bool}{ds:List (AC×ű)}{ks ks':List AC}(h:Ω ys ys.length es L m)(hj:Ą J (es.map (·.1)) ks)(hp:ks'.Perm ks)(hd:ò (DK ys es) ds ks'):ģ J ys ds where
 shut:=hd.shut
 at_:=λx=>by
  rw[hd.look]
  have hm:AC.int x∈ks'↔x∈es.map (·.1)/\J x=true:=hp.mem_iff.trans ((hj.2.2 _).trans ⟨λ⟨y,hy,e,j⟩=>AC.int.inj e▸⟨hy,j⟩,λq=>⟨x,q.1,rfl,q.2⟩⟩)
  have hl:=GT (es:=es) (f:=λp=>ű.lst (BA ys ys.length p.1)) (x:=x)
  cases j:J x with
  | true=>
   by_cases hx:x∈es.map (·.1)
   ·rwa[bQ6 (hm.mpr ⟨hx,j⟩)];rfl
   ·rwa[bQ7 λz=>hx (hm.mp z).1]
    exact hl.elim (λ⟨p,hp,e,_⟩=>bQ8 (aO0.mpr ⟨p,hp,e⟩) hx) λq=>by
     show((DK ys es).lookup _).getD _=_
     rwa[show(DK ys es).lookup _=_ from q.2];rfl
  | false=>
   rwa[bQ7 λz=>nomatch j.symm.trans (hm.mp z).2]
   exact hl.elim (λ⟨p,hp,e,q⟩=>by
    show((DK ys es).lookup _).getD _=_
    rwa[show(DK ys es).lookup _=_ from q,e];rfl) λq=>by
    show((DK ys es).lookup _).getD _=_
    rwa[show(DK ys es).lookup _=_ from q.2,IK (h.no x q.1)];rfl
end
def Cr(ys:List Int)(x:Int):Bool:=decide (200<=ys.length)&&decide ((ys.length:Int).fdiv 100+1<((BA ys ys.length x).length:Int))
def WG:ĉ:=λas os Q=>as=[.ref 0]/\((os=[(ń,lC)]/\Q .none [(ń,Av ĝ ĝ .none .none .none (.dct []) (.fset []))])\/∃(ys:List Int) (a mb op fb b2j bj:ű),ys.length<=1000/\
 os=[(ń,Av a (.lst (è ys)) mb op fb b2j bj)]/\BY a (.lst (è ys)) mb op fb b2j bj/\∀ds ks,ģ (Cr ys) ys ds->Q .none [(ń,Av a (.lst (è ys)) mb op fb (.dct ds) (.fset ks))])
def fG{c:Bool}{A B:Prop}(h:c=false):BX c A B=B:=by rwa[h];rfl
def gQ{c:Bool}{A B:Prop}(h:c=true):BX c A B=A:=by rwa[h];rfl
def CB{P:Ť}{S:â}{σ:St}{Q:ĵ}:Ŧ P S [] σ Q=Q .next σ:=rfl
section
variable{ys:List Int}{es:List (Int×Nat)}{at_:List (Str×ű)}{b:ű}{w:aC9}{K:ĵ}
def Bq{l m:List (Str×ű)}{x:Str}{v:ű}(h:l.lookup x=some v):(l++m).lookup x=some v:=by
 rwa[List.lookup_append,h];rfl
def KC:CY (DK ys es)=es.map λp=>.tup [.int p.1,.lst (BA ys ys.length p.1)]:=by
 show aY8 _ (aY8 _ es)=aY8 _ es
 rwa[aR5];rfl
def LA{n t x:Int}{L:List ű}{H:List (Nat×Ř)}:A9 ⟨ZH b n [("ntest",.int t),("elt",.int x),("idxs",.lst L)],H,4,4⟩ ⟨ZH b n [("ntest",.int t)],H,4,4⟩:=
 .less (ρ:=ZH b n [("ntest",.int t)]++([("elt",.int x),("idxs",.lst L)]:List (Str×ű))) (λx v e=>Bq e) λ_ _=>id
def P2{n t x:Int}{H:List (Nat×Ř)}:A9 ⟨ZH b n [("ntest",.int t),("elt",.int x)],H,4,4⟩ ⟨ZH b n [("ntest",.int t)],H,4,4⟩:=
 .less (ρ:=ZH b n [("ntest",.int t)]++([("elt",.int x)]:List (Str×ű))) (λx v e=>Bq e) λ_ _=>id
def Bc{α:Type}{l:List α}{k:Nat}{x:α}(h:l[k]?=some x):l.take (k+1)=l.take k++[x]:=by rwa[aQ2,h];rfl
def NB{x:Nat}{o:Ř}{items:List ű}{tn:ű->St->ĵ->Prop}{σ τ₀:St}{Q:ĵ}(I:Nat->St->Prop)(e0:σ.hid x=τ₀)(ŝ:I 0 τ₀)(ht :∀k σ v Q,items[k]?=some v->I k σ->tn v σ (E6 (λσ=>∃τ,A9 σ τ/\I (k+1) τ) Q))(he :∀τ,I items.length τ->Q .next (MP σ x o τ)):H5 x o items tn σ Q:=
 ⟨I,⟨_,e0▸.refl _,ŝ⟩,λk σ v hv hI=>ht k σ v _ hv hI,he⟩
def SD{P P':Ť}{S S':â}{r:List aG8}{K:ĵ}{σ τ:St}(e:σ=τ)(h:Ŧ P S r τ K):ç P S r K .next σ:=e▸h
def YU{J:Int->Bool}{n t:Int}(hl:es.length<=1000)(hn:aG4 n 100=false)(et:n.fdiv 100+1=t)(hys:ys.length<=1000)(hJ :∀x,J x=decide (t<((BA ys ys.length x).length:Int)))(hs:AG nn (DK ys es)=some (DK ys es))
  (hK :∀ks ks' ds,Ą J (es.map (·.1)) ks->ks'.Perm ks->ò (DK ys es) ds ks'->K .next (He b n [("ntest",.int t)] at_ [(2,.set []),(1,.dict ds),(3,.set ks)] 1)) :
  Ŧ (ŋ w) (Dk (ŋ w) DJ 29) Lx (He b n [] at_ [(1,.dict (DK ys es)),(2,.set []),(3,.set [])] 1) K:=by
 have hl':(es.map (·.1)).length<=1000:=aA2 (aB7 (aB5 ..)) hl
 rwa[gK,et]
 refine⟨by decide,hn,⟨by rfl',hs⟩,NB (τ₀:=He b n [("ntest",.int t)] at_ [(2,.set []),(3,.set [])] 4) (λi τ=>∃ks,τ=He b n [("ntest",.int t)] at_ [(2,.set []),(3,.set ks)] 4/\Ą J ((es.map (·.1)).take i) ks) rfl ⟨[],rfl,Ą.nil⟩ (λi τ v Q hv hI=>?_) λτ hI=>?_⟩
 ·obtain⟨ks,rfl,hj⟩:=hI
  rw[KC]at hv
  obtain⟨p,hp,rfl⟩:=map_some ((aD6 ..).symm.trans hv)
  have hx:(es.map (·.1))[i]?=some p.1:=(aD6 ..).trans (bQ5 (aE0 (·.1)) hp)
  have hk:ks.length<=1000:=aA2 hj.2.1 (aA2 (List.length_take_le ..) (aA2 (aG2 (aB3.mp hx).1) hl'))
  rwa[i4]
  refine⟨rfl,aA2 Fm (aA2 hys (by decide)),?_⟩
  rw[<-hJ]
  cases j:J p.1 with
  | true=>exact⟨aE9 (aF7 hk) (by decide),_,LA,_,rfl,Bc hx▸hj.add j⟩
  | false=>exact⟨_,LA,_,rfl,Bc hx▸hj.skip j⟩
 ·obtain⟨ks,rfl,hj⟩:=hI
  rw[KC,aB5,<-aB5 (f:=λp:Int×Nat=>p.1),aJ4]at hj
  refine SD (P':=ŋ w) (S':=Dk (ŋ w) DJ 29) (τ:=He b n [("ntest",.int t)] at_ [(2,.set []),(3,.set ks),(1,.dict (DK ys es))] 1) rfl ?_
  rwa[eQ]
  intro ks' hp
  refine NB (τ₀:=He b n [("ntest",.int t)] at_ [(2,.set []),(1,.dict (DK ys es))] 4) (λi τ=>∃ds,τ=He b n [("ntest",.int t)] at_ [(2,.set []),(1,.dict ds)] 4/\ò (DK ys es) ds (ks'.take i)) rfl ⟨_,rfl,ò.nil hs⟩ (λi τ v Q hv hI=>?_) λτ hI=>?_
  ·obtain⟨ds,rfl,hd⟩:=hI
   obtain⟨k,hk,rfl⟩:=map_some ((aD6 ..).symm.trans hv)
   have hm:=aM2 hk
   obtain⟨x,hx,rfl,-⟩:=(hj.2.2 k).mp (hp.mem_iff.mp hm)
   rwa[bS]
   refine⟨aA2 hd.len (aA2 (aB7 (aB5 ..)) (aA2 hl (by decide))),?_,_,P2,_,rfl,Bc hk▸hd.del⟩
   have nd:=hp.nodup_iff.mpr hj.1
   have:AC.int x∉ks'.take i:=λz=>by
    obtain⟨m,h1,h2⟩:=List.getElem_of_mem z
    obtain⟨hi,e⟩:=aB3.mp hk
    rw[List.getElem_take]at h2
    rw[aX5]at h1
    exact aJ2.mp nd m i _ hi (aB2 h1 (aZ1 ..)) (h2.trans e.symm)
   rewrite [hd.look];rwa[bQ7 this]
   refine(GT (es:=es) (f:=λp=>.lst (BA ys ys.length p.1)) (x:=x)).elim (λ⟨p,_,_,q⟩=>?_) λq=>?_
   ·show((DK ys es).lookup _).isSome=true
    rwa[show(DK ys es).lookup _=_ from q];rfl
   ·obtain⟨p,hp,e⟩:=aO0.mp hx
    exact bQ8 e (q.1 p hp)
  ·obtain⟨ds,rfl,hd⟩:=hI
   rw[aB5,aJ4]at hd
   refine SD (P':=ŋ w) (S':=Dk (ŋ w) DJ 29) (τ:=He b n [("ntest",.int t)] at_ [(2,.set []),(1,.dict ds),(3,.set ks)] 1) rfl ?_
   rwa[CB]
   exact hK ks ks' ds hj hp hd
end
section
variable{ys:List Int}{a mb op fb:ű}{tl:List (Str×ű)}{w:aC9}{Q:ű->List Ξ->Prop}
def j9(ys:List Int)(a mb op fb:ű)(tl:List (Str×ű))(i:Nat)(τ:St):Prop:=(i<ys.length->∃es L m,τ=Zv ys (LN a (.lst (è ys)) mb op fb (.ref 1) tl) (MC es) L m/\Ω ys i es L m/\es.length<=i)/\
 (i=ys.length->∃es L m,Ω ys ys.length es L m/\es.length<=i/\τ=⟨Zw ys,[(0,.inst ń (LN a (.lst (è ys)) mb op fb (.ref 1) tl)),(1,.dict (DK ys es))],2,1⟩)
def QA{i m:Nat}{es:List (Int×Nat)}{L:List (Nat×Ř)}(S:BY a (.lst (è ys)) mb op fb .none .none)(ht:AK nn tl=some tl)(h:Ω ys i es L m)(hl:es.length<=i)(hi:i<=ys.length) :
  ∃τ,A9 (Zv ys (LN a (.lst (è ys)) mb op fb (.ref 1) tl) (MC es) L m) τ/\j9 ys a mb op fb tl i τ:=
 (bA2 hi).elim (λz=>⟨_,.refl _,λ_=>⟨es,L,m,rfl,h,hl⟩,λe=>bQ8 e (aE4 z)⟩) λz=>by
  subst z
  exact⟨_,Ω.fin h S ht,λe=>bQ8 e (aL3 _),λ_=>⟨es,L,m,h,hl,rfl⟩⟩
def Tk{H:List (Nat×Ř)}{n:Nat}{u v t:ű}:A9 ⟨[("self",.ref 0),("b",.lst (è ys)),("b2j",.ref 1),("i",u),("elt",v),("indices",t)],H,n,1⟩ ⟨Zw ys,H,n,1⟩:=
 .less (ρ':=Zw ys) (λy v e=>CW e (λa b=>by subst a;subst b;rfl) λe=>CW e (λa b=>by subst a;subst b;rfl) λe=>CW e (λa b=>by subst a;subst b;rfl) AA) λ_ _=>id
def NY{i m:Nat}{es:List (Int×Nat)}{L:List (Nat×Ř)}{p:Int×Nat}{K:ĵ}(S:BY a (.lst (è ys)) mb op fb .none .none)(ht:AK nn tl=some tl)(h:Ω ys i es L m)(hl:es.length<=i+1)(hp:p∈es)(hx:ys[i]?=some p.1)(hn:ys.length<=100000) :
  Ŧ (ŋ w) (Dk (ŋ w) DJ 29) (K8.2.drop 1) (Wx ys (LN a (.lst (è ys)) mb op fb (.ref 1) tl) (MC es) L m i p.1 (.ref (p.2+2))) (E6 (λσ=>∃τ,A9 σ τ/\j9 ys a mb op fb tl (i+1) τ) K):=by
 have hi:=(aB3.mp hx).1
 have e:=h.at_ p hp
 have e':(Wx ys (LN a (.lst (è ys)) mb op fb (.ref 1) tl) (MC es) L m i p.1 (.ref (p.2+2))).H.lookup (p.2+2)=some (.list (BA ys i p.1)):=e
 rwa[i8,U4 e']
 obtain⟨τ,q1,õ⟩:=QA S ht (h.add hp hx) hl hi
 exact UN (P:=ŋ w) (v:=.int (i:Int)) (Q:=λ_ σ=>∃τ,A9 σ τ/\j9 ys a mb op fb tl (i+1) τ) e' (aA2 Fm (aA2 (aG2 hi) (aA2 hn (by decide)))) ⟨τ,Tk.trans q1,õ⟩
def V8{bj:ű}(S:BY a (.lst (è ys)) mb op fb .none .none)(hj':bj.sub nn=some bj)(hn2:ys.length<=1000)(hq :∀ds ks,ģ (Cr ys) ys ds->Q .none [(ń,Av a (.lst (è ys)) mb op fb (.dct ds) (.fset ks))]) :
  De K8.1=true/\AD nn (è ys)=some (è ys)/\D7 (BW (è ys)) (NL w) (Ŧ (ŋ w) (Dk (ŋ w) DJ 29) []) (Zv ys (LN a (.lst (è ys)) mb op fb (.ref 1) (Zq bj)) [] [] 0) (λfl υ=>BS.rec (Ŧ (ŋ w) (Iq w) (Ho.drop 3) υ (AE 1 Q)) (AE 1 Q .brk υ) (AE 1 Q .cont υ) (λv=>AE 1 Q (.ret v) υ) fl):=by
 have ht':AK nn (Zq bj)=some (Zq bj):=DU rfl (DU hj' rfl)
 have hn:ys.length<=100000:=aA2 hn2 (by decide)
 have en:(BW (è ys)).length=ys.length:=(DF _).trans (Az ys)
 refine⟨by rfl',EI ys,j9 ys a mb op fb (Zq bj),QA S ht' Ω.nil (aA6 _) (aD4 _),λi τ v hv hI=>?_,λτ hI=>?_⟩
 ·have hi:i<ys.length:=en▸(aB3.mp hv).1
  obtain⟨es,L,m,rfl,h,hl⟩:=hI.1 hi
  have hx:ys[i]?=some (ys[i]'hi):=aA9 hi
  have hv':some v=some (.tup [.int (i:Int),.int (ys[i]'hi)]):=hv.symm.trans (EY ((aD6 ..).trans (bQ5 (aE0 ű.int) hx)))
  generalize ys[i]'hi=x at hx hv'
  cases hv'
  rwa[bA]
  refine⟨rfl,aA2 (aB7 (aB5 ..)) (aA2 hl (aA2 (aG2 hi) (aA2 hn (by decide)))),λu hu=>?_,λhu=>?_⟩
  ·refine(GT (es:=es) (f:=λp=>.ref (p.2+2)) (x:=x)).elim (λq=>?_) λq=>AA (q.2.symm.trans hu)
   obtain⟨p,hp,e1,e2⟩:=q
   cases aA3 (e2.symm.trans hu)
   subst e1
   exact NY S ht' h.gar (aF5 hl) hp hx hn
  ·refine(GT (es:=es) (f:=λp=>.ref (p.2+2)) (x:=x)).elim (λq=>q.elim λp q=>AA (hu.symm.trans q.2.2)) λq=>?_
   have:dset (MC es) (.int x) (.ref (m+2))=MC (es++[(x,m)]):=by
    unfold dset
    rw[bQ7]
    ·exact(aH4 (l₁:=es) (l₂:=[(x,m)]) (f:=λp:Int×Nat=>(AC.int p.1,ű.ref (p.2+2)))).symm
    ·intro z
     obtain⟨r,r1,r2⟩:=bI0.mp z
     obtain⟨p,Ž,rfl⟩:=aO0.mp r1
     exact q.1 p Ž (AC.int.inj (bR1 r2))
   rwa[this]
   exact NY S ht' (h.fresh q.1) (aA2 (aB7 aB0) (aF7 hl)) (p:=(x,m)) (aJ9 _ (aA7.mpr rfl)) hx hn
 ·rw[en]at hI
  obtain⟨es,L,m,hC,hl,rfl⟩:=hI.2 rfl
  rwa[CB]
  have fin :∀{ds:List (AC×ű)} {ks:List AC} {tl:List (Str×ű)} {H:List (Nat×Ř)},H.lookup 1=some (.dict ds)->H.lookup 2=some (.set [])->H.lookup 3=some (.set ks)->ģ (Cr ys) ys ds->
    AE 1 Q .next (He (.lst (è ys)) (è ys).length tl (kY a (.lst (è ys)) mb op fb) H 1):=λ{ds ks tl H} h1 h2 h3 hB=>by
   have hd:(ű.dct ds).sub nn=some (.dct ds):=bQ5 (aE0 ű.dct) hB.shut
   exact CC (fl:=.next) (τ:=⟨[],[(0,.inst ń (Av a (.lst (è ys)) mb op fb (.dct ds) (.fset ks)))],1,1⟩) rfl
    (A9.re [0] [(1,.dct ds),(2,.fset []),(3,.fset ks)] rfl rfl rfl rfl (BL rfl h1 rfl hd (BL rfl h2 rfl rfl (BL rfl h3 rfl rfl CQ))) B0 (RY rfl rfl (WC S rfl rfl) BZ)) rfl rfl (BY.shut ⟨S.a,S.b,S.mb,S.op,S.fb,hd,rfl⟩) (hq ds ks hB)
  refine eZ.mpr ⟨aA2 (aB7 (Az ys)) (aA2 hn (by decide)),?_⟩
  have hs:AG nn (DK ys es)=some (DK ys es):=Gx λp _=>Ac _
  by_cases h2:200<=ys.length
  ·rwa[gQ (bQ9 (by rw[Az];exact aM5.mpr h2))]
   refine YU (J:=Cr ys) (aA2 hl hn2) (PyProof.noPylong_small (by decide)) rfl hn2 (λx=>?_) hs λks ks' ds hj hp hd=>?_
   ·unfold Cr
    rwa[bQ9 h2];rewrite [Bool.true_and];rwa[Az ys];rfl
   ·refine SD (P':=ŋ w) (S':=Iq w) rfl ?_
    rwa[CB]
    exact fin rfl rfl rfl (hC.bj hj hp hd)
  ·rwa[fG (bR0 (by rw[Az];exact λz=>h2 (aM5.mp z)))]
   have no :∀x,Cr ys x=false:=λx=>by unfold Cr;rwa[bR0 h2];rfl
   exact fin rfl rfl rfl (hC.bj (ks:=[]) (ks':=[]) ⟨.nil,aD4 _,λk=>⟨λz=>(nomatch z),λ⟨x,_,_,z⟩=>nomatch(no x).symm.trans z⟩⟩ (.refl _) (.nil hs))
def Nd{f:aY3}{p:Str}(h :∀a:Value,bC8 f ⟨[a],[]⟩=pure ([(p,a)])) :∀vas:List Value,vas.length=1->bC8 f ⟨vas,[]⟩=pure (([p]:List Str).zip vas):=
 LL λa=>Zs (h a)
def K6{d:Nat}:As (œ w) (á w.params) (d+2) (.ref 188) WG:=
 lL Ū (Qc _).2.2 (Qc _).1 (Qc _).2.1 (ps:=["self"]) (by decide) (by rfl') (λs vas _ e=>aZ4.of_eq (Nd (λa=>by rfl') vas e)) λas os Q hh=>by
  obtain⟨ea,hh⟩:=hh
  subst ea
  refine hh.elim (λhh=>?_) λhh=>?_
  ·obtain⟨eo,hq⟩:=hh
   subst eo
   refine⟨⟨rfl,Bl rfl⟩,cL.mpr ⟨rfl,λ_ τ=>τ=⟨[("self",.ref 0),("b",ĝ),("b2j",.ref 1)],[(0,.inst ń (LN ĝ ĝ .none .none .none (.ref 1) [])),(1,.dict [])],2,1⟩,⟨_,.refl _,rfl⟩,λi τ v hv=>AA hv,λτ hI=>?_⟩⟩
   subst hI
   rwa[CB]
   refine Y8.mpr ⟨by decide,?_⟩
   exact CC (fl:=.next) (τ:=⟨[],[(0,.inst ń (Av ĝ ĝ .none .none .none (.dct []) (.fset [])))],1,1⟩) rfl
    (A9.re [0] [(1,.dct []),(2,.fset []),(3,.fset [])] rfl rfl rfl rfl (BL rfl rfl rfl rfl (BL rfl rfl rfl rfl (BL rfl rfl rfl rfl CQ))) B0 (RY rfl rfl rfl BZ)) rfl rfl rfl hq
  ·obtain⟨ys,a,mb,op,fb,b2j,bj,hn,eo,S,hq⟩:=hh
   subst eo
   exact⟨⟨rfl,Bl S.shut⟩,rY.mpr (V8 ⟨S.a,S.b,S.mb,S.op,S.fb,rfl,rfl⟩ S.bj hn hq)⟩
end
section
def DW{tr:ĉ}{ρ:List (Str×ű)}{H:List (Nat×Ř)}{n k:Nat}{D:aC2}{at_:List (Str×ű)}{as as':List ű}{Q:ű->St->Prop}(hs:AK nn at_=some at_)(hr:Ax as=[0])(ha:AD (GD [0]) as=some as')
  (h:tr as' [(D,at_)] λr os'=>Q r (St.sets ⟨ρ,(0,.inst D at_)::H,n,k⟩ [0] os')):BI tr as ⟨ρ,(0,.inst D at_)::H,n,k⟩ Q:=by
 refine .inl ?_
 unfold KH
 rwa[hr,ha]
 exact⟨Bl hs,h⟩
def aY:ĉ:=λas os Q=>as=[.ref 0,ĝ]/\os=[(ń,Xw)]/\Q .none [(ń,Av ĝ ĝ .none .none .none (.dct []) (.fset []))]
def Nq{ys:List Int}{ds:List (AC×ű)}{J:Int->Bool}(h:ģ J ys ds):(ű.dct ds).sub nn=some (.dct ds):=bQ5 (aE0 ű.dct) h.1
variable{w:aC9}{d:Nat}
def w1{a:aC2}{tr:ĉ}(h:As (œ w) (á w.params) (d+1) (.ref a) tr):LT (œ w) (á w.params) (Ž w a tr) d ô Lr aM Kt ŷ:=
 VO (λf t e=>BD (b:=aE6 f a) (x:=some tr) (y:=none) e (λq e=>aB8 q▸aA3 e▸h) AA) (λe=>nomatch e) (λe=>nomatch e) (λ_ e=>nomatch e)
def ú{a b:aC2}{tr t2:ĉ}(h:As (œ w) (á w.params) (d+1) (.ref a) tr)(h2:As (œ w) (á w.params) (d+1) (.ref b) t2):LT (œ w) (á w.params) (Ń w a tr b t2) d ô Lr aM Kt ŷ:=
 VO (λf t e=>BD (b:=aE6 f a) (x:=some tr) e (λq e=>aB8 q▸aA3 e▸h) λe=>BD (b:=aE6 f b) (x:=some t2) (y:=none) e (λq e=>aB8 q▸aA3 e▸h2) AA) (λe=>nomatch e) (λe=>nomatch e) (λ_ e=>nomatch e)
def Te:As (œ w) (á w.params) (d+3) (.ref 181) aY:=
 Of (w1 K6) (IZ _).2.2 (IZ _).1 (IZ _).2.1 (ps:=["self","b"]) (by decide) (by rfl') (IB λa b=>by rfl') λas os Q hh=>by
  obtain⟨ea,eo,hq⟩:=hh
  subst ea;subst eo
  exact⟨⟨rfl,Bl rfl⟩,fH.mpr (DW (D:=ń) (at_:=lC) (as':=[.ref 0]) rfl rfl rfl ⟨rfl,.inl ⟨rfl,CC (fl:=.next) rfl (.refl _) rfl rfl rfl hq⟩⟩)⟩
def JF:ĉ:=λas os Q=>∃ys a b mb op fb b2j bj,as=[.ref 0,.lst (è ys)]/\ys.length<=1000/\os=[(ń,Av a b mb op fb b2j bj)]/\BY a b mb op fb b2j bj/\
 (∀ds ks,ģ (Cr ys) ys ds->Q .none [(ń,Av a (.lst (è ys)) .none .none .none (.dct ds) (.fset ks))])/\Zu b ys λlb=>Q .none [(ń,Av a (.lst (è lb)) mb op fb b2j bj)]
def Su:As (œ w) (á w.params) (d+3) (.ref 181) JF:=
 Of (w1 K6) (IZ _).2.2 (IZ _).1 (IZ _).2.1 (ps:=["self","b"]) (by decide) (by rfl') (IB λa b=>by rfl') λas os Q hh=>by
  obtain⟨ys,a,b,mb,op,fb,b2j,bj,ea,hn,eo,S,h1,h2⟩:=hh
  subst ea;subst eo
  have go:BI WG [.ref 0] (AT [("self",.ref 0),("b",.lst (è ys))] [(ń,Av a (.lst (è ys)) .none .none .none b2j bj)]) λ_ σ=>AE 1 Q .next σ:=
   DW (D:=ń) (at_:=Av a (.lst (è ys)) .none .none .none b2j bj) (as':=[.ref 0]) (BY.shut ⟨S.a,Ac ys,rfl,rfl,rfl,S.b2j,S.bj⟩) rfl rfl
    ⟨rfl,.inr ⟨ys,a,.none,.none,.none,b2j,bj,hn,rfl,⟨S.a,Ac ys,rfl,rfl,rfl,S.b2j,S.bj⟩,λds ks hB=>CC (fl:=.next) rfl (.refl _) rfl rfl (BY.shut ⟨S.a,Ac ys,rfl,rfl,rfl,Nq hB,rfl⟩) (h1 ds ks hB)⟩⟩
  refine⟨⟨rfl,Bl S.shut⟩,h2.elim (λe=>by subst e;exact pM.mpr go) λq=>?_⟩
  obtain⟨lb,e,q⟩:=q
  subst e
  exact fA.mpr (NR go λe=>CC (fl:=.ret .none) rfl (.refl _) rfl rfl S.shut (q e))
def iV:ĉ:=λas os Q=>as=[.ref 0,ĝ,ĝ]/\os=[(ń,WF)]/\Q .none [(ń,Av ĝ ĝ .none .none .none (.dct []) (.fset []))]
def aZ{t1 t2:ĉ}{Q:ű->List Ξ->Prop}:Ŧ (Ń w 174 t1 181 t2) (Dk (Ń w 174 t1 181 t2) J5 30) (I9.drop 2) (AT [("self",.ref 0),("a",ĝ),("b",ĝ)] [(ń,Xw)]) (AE 1 Q) =
  BI t2 [.ref 0,ĝ] (AT [("self",.ref 0),("a",ĝ),("b",ĝ)] [(ń,Xw)]) λ_ σ=>AE 1 Q .next σ:=by rfl'
def Ss{f:aY3}{p q r:Str}(h :∀a b c:Value,bC8 f ⟨[a,b,c],[]⟩=pure ([(p,a),(q,b),(r,c)])) :∀vas:List Value,vas.length=3->bC8 f ⟨vas,[]⟩=pure (([p,q,r]:List Str).zip vas):=
 LL λa=>LL λb=>LL λc=>Zs (h a b c)
def Vh{l:List Int}:AD (GD [0]) [.ref 0,.lst (è l)]=some [.ref 0,.lst (è l)]:=by
 show(some (ű.ref 0)).bind (λa=>(AD (GD [0]) [.lst (è l)]).map (a :: ·))=_
 rwa[show AD (GD [0]) [.lst (è l)]=some [.lst (è l)]from DE (BE (Ac l) rfl)];rfl
def V9:As (œ w) (á w.params) (d+4) (.ref 167) iV:=
 Of (ú (Ny (d:=d+1)) Te) (IJ _).2.2 (IJ _).1 (IJ _).2.1 (ps:=["self","a","b"]) (by decide) (by rfl') (Ss λa b c=>by rfl') λas os Q hh=>by
  obtain⟨ea,eo,hq⟩:=hh
  subst ea;subst eo
  exact⟨⟨rfl,Bl rfl⟩,qL.mpr (DW (D:=ń) (at_:=WF) (as':=[.ref 0,ĝ]) rfl rfl rfl (.inl ⟨rfl,rfl,aZ.mpr (DW (D:=ń) (at_:=Xw) (as':=[.ref 0,ĝ]) rfl rfl rfl
   ⟨rfl,rfl,CC (fl:=.next) rfl (.refl _) rfl rfl rfl hq⟩)⟩))⟩
noncomputable def Ź(fd:aY3)(vs:List Value):{k:Option (Array Value)->Sem (List (Str×Value)) // bC8 fd ⟨vs,[]⟩=seqItems? fd.defaults >>= k}:=⟨_,rfl⟩
def FB(P:aD7)(a:aC2):Option (Array Value):=match(Ē P).lookup a with
 | some ⟨_,_,.seq it _,_⟩=>some it
 | _=>none
def Q6{P:aD7}{a:aC2}{it:Array Value}(h:FB P a=some it) :∃o n,(á P).get? a=some o/\o.data = .seq it n:=by
 unfold FB at h
 split at h
 ·rename_i Ŷ å it' n o3 ho
  cases h
  exact⟨_,_,EC P _ _ ho,rfl⟩
 ·cases h
def bL{P:aD7}{f T:aC2}{p q r t u:Str}(hd:(CJ P f).defaults = .ref T)(hi:FB P T=some ((FB P T).getD #[]))(h :∀a b c d e:Value,(Ź (CJ P f) [a,b,c,d,e]).1 (some ((FB P T).getD #[]))=pure ([(p,a),(q,b),(r,c),(t,d),(u,e)]))(s:aA5)(vas:List Value)(hb :∀b o,(á P).get? b=some o->s.heap.get? b=some o):vas.length=5->aZ4 s (CJ P f) ⟨vas,[]⟩ (([p,q,r,t,u]:List Str).zip vas):=by
 refine LL (m:=λvas=>aZ4 s (CJ P f) ⟨vas,[]⟩ (([p,q,r,t,u]:List Str).zip vas)) (λx=>LL λy=>LL λz=>LL λt=>LL λu=>Zs ?_) vas
 obtain⟨Ĵ,n,q1,õ⟩:=Q6 hi
 exact aZ4.of_defaults (T:=T) (k:=(Ź (CJ P f) [x,y,z,t,u]).1) hd (hb _ _ q1) õ (Ź _ _).2 (h x y z t u)
def jK:List aG8:=(By LU "__init__").1
def iD:Scope:=(By LU "__init__").2
def QL(P:aD7):(CJ P 160).body = .stmts jK/\(CJ P 160).scope=iD/\Au P 160=true:=⟨by rfl',by rfl',by rfl'⟩
def D3(P:aD7):List Value:=((FB P 153).getD #[]).toList
def HU(P:aD7):D3 P=[.none,(D3 P).getD 1 .none,(D3 P).getD 2 .none,.bool true]/\A7 (.str "") ((D3 P).getD 1 .none)=true/\A7 (.str "") ((D3 P).getD 2 .none)=true:=⟨by rfl',by rfl',by rfl'⟩
def Sg{P:aD7}{L:Bt}{G:ħ}{h:aF2}{n:Nat}:AW L G h n [.none,ĝ,ĝ,.bool true] (D3 P):=by
 rwa[(HU P).1]
 exact⟨_,_,rfl,rfl,_,_,rfl,(HU P).2.1,_,_,rfl,(HU P).2.2,_,_,rfl,rfl,rfl⟩
def Ts(P:aD7)(a:Value):(Ź (CJ P 160) [a]).1 (some ((FB P 153).getD #[]))=pure ((["self","isjunk","a","b","autojunk"]:List Str).zip ([a]++D3 P)):=by rfl'
def QC{P:aD7}(s:aA5)(vas:List Value)(hb :∀b o,(á P).get? b=some o->s.heap.get? b=some o)(e:vas.length+(D3 P).length=5):aZ4 s (CJ P 160) ⟨vas,[]⟩ ((["self","isjunk","a","b","autojunk"]:List Str).zip (vas++D3 P)):=by
 have e1:vas.length=1:=aQ0 (e.trans (bQ5 (1 + ·) (show(D3 P).length=4 by rfl')).symm:vas.length+(D3 P).length=1+(D3 P).length)
 refine LL (m:=λvas=>aZ4 s (CJ P 160) ⟨vas,[]⟩ ((["self","isjunk","a","b","autojunk"]:List Str).zip (vas++D3 P))) (λx=>Zs ?_) vas e1
 obtain⟨Ĵ,n,q1,õ⟩:=Q6 (P:=P) (a:=153) (it:=(FB P 153).getD #[]) (by rfl')
 exact aZ4.of_defaults (T:=153) (k:=(Ź (CJ P 160) [x]).1) (by rfl') (hb _ _ q1) õ (Ź _ _).2 (Ts P x)
def oP{tr:ĉ}{Q:ű->List Ξ->Prop}:ŏ (Ž w 167 tr) iD jK ((["self","isjunk","a","b","autojunk"]:List Str).zip ([.ref 0]++[.none,ĝ,ĝ,.bool true])) [(ń,[])] Q =
  BI tr [.ref 0,ĝ,ĝ] (AT [("self",.ref 0),("isjunk",.none),("a",ĝ),("b",ĝ),("autojunk",.bool true)] [(ń,WF)]) λ_ σ=>AE 1 Q .next σ:=by rfl'
def Rr:ĉ:=λas os Q=>as=[.ref 0]/\os=[(ń,[])]/\Q .none [(ń,Av ĝ ĝ .none .none .none (.dct []) (.fset []))]
def V4:As (œ w) (á w.params) (d+5) (.ref 160) Rr:=
 zB (es:=[.none,ĝ,ĝ,.bool true]) (w1 V9) (QL _).2.2 (QL _).1 (QL _).2.1 (ps:=["self","isjunk","a","b","autojunk"]) (by decide) (by rfl') QC Sg λas os Q hh=>by
  obtain⟨ea,eo,hq⟩:=hh
  subst ea;subst eo
  exact⟨⟨rfl,Bl rfl⟩,oP.mpr (DW (D:=ń) (at_:=WF) (as':=[.ref 0,ĝ,ĝ]) rfl rfl rfl ⟨rfl,rfl,CC (fl:=.next) rfl (.refl _) rfl rfl rfl hq⟩)⟩
end
def gV(s:aG8):Expr×List aG8:=((O3 s).2.1,(O3 s).2.2.1)
noncomputable def NG(s:aG8):List Expr:=(O3 s).1
def ER:List aG8:=(By LU "find_longest_match").1
def Fi:Scope:=(By LU "find_longest_match").2
def Qk(P:aD7):(CJ P 196).body = .stmts ER/\(CJ P 196).scope=Fi/\Au P 196=true:=⟨by rfl',by rfl',by rfl'⟩
noncomputable def Yy:Pos->Bool:=λp=>aE6 p.line 312
abbrev BO(w:aC9):Ť:=TM w.params (λ_=>none) none true false Yy Qp
abbrev C3(w:aC9)(f:Nat):â:=Dk (BO w) Fi f
def æ:Expr×List aG8:=Dm (ER.getD 7 (.Pass AI))
def fI:Expr×List aG8:=Dm (æ.2.getD 2 (.Pass AI))
def oE:List Expr:=NG (fI.2.getD 2 (.Pass AI))
def oA(w:aC9):ű->St->ĵ->Prop:=λv σ K=>(Œ (BO w) Fi 29).A æ.1 v σ λσ=>Ŧ (BO w) (C3 w 29) æ.2 σ K
noncomputable def nP(w:aC9):ű->St->ĵ->Prop:=λv σ K=>(Œ (BO w) Fi 28).A fI.1 v σ λσ=>Ŧ (BO w) (C3 w 28) fI.2 σ K
abbrev tP(la lb:List Int)(ds:List (AC×ű))(ks:List AC)(alo ahi blo bhi bi bj ñ:Int)(tl:List (Str×ű)):List (Str×ű):=("self",.ref 0)::("alo",.int alo)::("ahi",.int ahi)::("blo",.int blo)::("bhi",.int bhi)::("a",.lst (è la))::("b",.lst (è lb))::("b2j",.dct ds)::("isbjunk",.bm .has (.fset []))::("besti",.int bi)::("bestj",.int bj)::("bestsize",.int ñ)::tl
abbrev dH(la lb:List Int)(mb op fb:ű)(ds:List (AC×ű))(ks:List AC):Ř:=.inst ń (Av (.lst (è la)) (.lst (è lb)) mb op fb (.dct ds) (.fset ks))
abbrev Dh(la lb:List Int)(mb op fb:ű)(ds:List (AC×ű))(ks:List AC)(alo ahi blo bhi bi bj ñ:Int)(es:List (AC×ű)):St:=⟨tP la lb ds ks alo ahi blo bhi bi bj ñ [("j2len",.dct es),("nothing",.lst [])],[(0,dH la lb mb op fb ds ks)],1,1⟩
abbrev eE(la lb:List Int)(mb op fb:ű)(ds:List (AC×ű))(ks:List AC)(alo ahi blo bhi:Int):St:=⟨[("self",.ref 0),("alo",.int alo),("ahi",.int ahi),("blo",.int blo),("bhi",.int bhi),("a",.lst (è la)),("b",.lst (è lb)),("b2j",.dct ds),("isbjunk",.bm .has (.fset [])),("bestsize",.int 0),("bestj",.int blo),("besti",.int alo),("j2len",.ref 1),("nothing",.lst [])],[(0,dH la lb mb op fb ds ks),(1,.dict [])],2,1⟩
abbrev LS(la lb:List Int)(mb op fb:ű)(ds:List (AC×ű))(ks:List AC)(alo ahi blo bhi bi bj ñ:Int)(es es2:List (AC×ű))(i:Int)(u:ű)(tl:List (Str×ű)):St:=⟨tP la lb ds ks alo ahi blo bhi bi bj ñ (("j2len",u)::("nothing",.lst [])::("i",.int i)::("j2lenget",.bm .get (.dct es))::("newj2len",.ref 1)::tl),[(0,dH la lb mb op fb ds ks),(1,.dict es2)],2,1⟩
section
variable{w:aC9}{la lb:List Int}{mb op fb:ű}{ds es es2:List (AC×ű)}{ks:List AC}{alo ahi blo bhi bi bj ñ i j r:Int}{K:ĵ}{Q:ű->List Ξ->Prop}{R:Bool->St->Prop}
def qC:ŏ (BO w) Fi ER ((["self","alo","ahi","blo","bhi"]:List Str).zip [.ref 0,.int alo,.int ahi,.int blo,.int bhi]) [(ń,Av (.lst (è la)) (.lst (è lb)) mb op fb (.dct ds) (.fset ks))] Q =
  (4=4/\3=3/\D0 alo ahi/\D7 (B8 alo (ahi-alo).toNat) (oA w) (Ŧ (BO w) (C3 w 29) []) (eE la lb mb op fb ds ks alo ahi blo bhi) (ç (BO w) (C3 w 30) (ER.drop 8) (AE 1 Q))):=by rfl'
def jN:oA w (.int i) (Dh la lb mb op fb ds ks alo ahi blo bhi bi bj ñ es) K =
  (Eh i/\∃v,GL (è la) i=some v/\Ik (BO w) (.fn .get) [.dct ds,v,.lst []] (LS la lb mb op fb ds ks alo ahi blo bhi bi bj ñ es [] i (.dct es) []) λu σ=>Aa (T6 u) (λvs=>AD nn vs=some vs/\D7 vs (nP w) (Ŧ (BO w) (C3 w 28) []) σ (ç (BO w) (C3 w 29) (æ.2.drop 3) K))):=by rfl'
def jQ{u:ű}:Ŧ (BO w) (C3 w 29) (æ.2.drop 3) (LS la lb mb op fb ds ks alo ahi blo bhi bi bj ñ es es2 i u []) K=K .next (LS la lb mb op fb ds ks alo ahi blo bhi bi bj ñ es es2 i (.ref 1) []):=by rfl'
def aF{u:ű}:nP w (.int j) (LS la lb mb op fb ds ks alo ahi blo bhi bi bj ñ es es2 i u []) K=BX (decide (j<blo)) (K .cont (LS la lb mb op fb ds ks alo ahi blo bhi bi bj ñ es es2 i u [("j",.int j)])) (BX (decide (bhi<=j)) (K .brk (LS la lb mb op fb ds ks alo ahi blo bhi bi bj ñ es es2 i u [("j",.int j)]))
  (PI .Add ((es.lookup (.int (j-1))).getD (.int 0)) (.int 1) (LS la lb mb op fb ds ks alo ahi blo bhi bi bj ñ es es2 i u [("j",.int j)]) λv σ=>Ex (Œ (BO w) Fi 27).A oE v σ λσ=>Ŧ (BO w) (C3 w 28) (fI.2.drop 3) σ K)):=by rfl'
def eD{u:ű}:(Ex (Œ (BO w) Fi 27).A oE (.int r) (LS la lb mb op fb ds ks alo ahi blo bhi bi bj ñ es es2 i u [("j",.int j)]) λσ=>Ŧ (BO w) (C3 w 28) (fI.2.drop 3) σ K) =
  (AM es2.length/\BX (decide (ñ<r)) (3=3/\K .next (LS la lb mb op fb ds ks alo ahi blo bhi (i-r+1) (j-r+1) r es (dset es2 (.int j) (.int r)) i u [("j",.int j),("k",.int r)])) (K .next (LS la lb mb op fb ds ks alo ahi blo bhi bi bj ñ es (dset es2 (.int j) (.int r)) i u [("j",.int j),("k",.int r)]))):=by rfl'
def ü(n:Nat):Expr×List aG8:=gV (ER.getD n (.Pass AI))
abbrev j8(w:aC9)(n:Nat)(σ:St)(K:ĵ):Prop:=F3 ((Œ (BO w) Fi 29).B (ü n).1) (Ŧ (BO w) (C3 w 29) (ü n).2) (Ŧ (BO w) (C3 w 29) []) σ (ç (BO w) (C3 w 30) (ER.drop (n+1)) K)
def NH{σ:St}:(Ŧ (BO w) (C3 w 30) (ER.drop 8) σ K=j8 w 8 σ K/\Ŧ (BO w) (C3 w 30) (ER.drop 9) σ K=j8 w 9 σ K)/\Ŧ (BO w) (C3 w 30) (ER.drop 10) σ K=j8 w 10 σ K/\Ŧ (BO w) (C3 w 30) (ER.drop 11) σ K=j8 w 11 σ K:=⟨⟨by rfl',by rfl'⟩,by rfl',by rfl'⟩
abbrev nt(l:List Int)(k:Int)(X:ű->Prop):Prop:=Eh k/\∃v,GL (è l) k=some v/\X v
def p7:(Œ (BO w) Fi 29).B (ü 8).1 (Dh la lb mb op fb ds ks alo ahi blo bhi bi bj ñ es) R=BX (decide (alo<bi)) (BX (decide (blo<bj)) (nt lb (bj-1) λv=>Aa (BC v) λk=>BX (!decide (k∈([]:List AC))) (nt la (bi-1) λu=>nt lb (bj-1) λv=>Fz .Eq u v (Dh la lb mb op fb ds ks alo ahi blo bhi bi bj ñ es) λr σ=>Dc r σ λb σ=>BX b (R true σ) (R false σ)) (R false (Dh la lb mb op fb ds ks alo ahi blo bhi bi bj ñ es)))
  (R false (Dh la lb mb op fb ds ks alo ahi blo bhi bi bj ñ es))) (R false (Dh la lb mb op fb ds ks alo ahi blo bhi bi bj ñ es)):=by rfl'
def mZ:(Œ (BO w) Fi 29).B (ü 9).1 (Dh la lb mb op fb ds ks alo ahi blo bhi bi bj ñ es) R=BX (decide (bi+ñ<ahi)) (BX (decide (bj+ñ<bhi)) (nt lb (bj+ñ) λv=>Aa (BC v) λk=>BX (!decide (k∈([]:List AC))) (nt la (bi+ñ) λu=>nt lb (bj+ñ) λv=>Fz .Eq u v (Dh la lb mb op fb ds ks alo ahi blo bhi bi bj ñ es) λr σ=>Dc r σ λb σ=>BX b (R true σ) (R false σ)) (R false (Dh la lb mb op fb ds ks alo ahi blo bhi bi bj ñ es)))
  (R false (Dh la lb mb op fb ds ks alo ahi blo bhi bi bj ñ es))) (R false (Dh la lb mb op fb ds ks alo ahi blo bhi bi bj ñ es)):=by rfl'
def dZ:(Œ (BO w) Fi 29).B (ü 10).1 (Dh la lb mb op fb ds ks alo ahi blo bhi bi bj ñ es) R=BX (decide (alo<bi)) (BX (decide (blo<bj)) (nt lb (bj-1) λv=>Aa (BC v) λk=>BX (decide (k∈([]:List AC))) (nt la (bi-1) λu=>nt lb (bj-1) λv=>Fz .Eq u v (Dh la lb mb op fb ds ks alo ahi blo bhi bi bj ñ es) λr σ=>Dc r σ λb σ=>BX b (R true σ) (R false σ)) (R false (Dh la lb mb op fb ds ks alo ahi blo bhi bi bj ñ es)))
  (R false (Dh la lb mb op fb ds ks alo ahi blo bhi bi bj ñ es))) (R false (Dh la lb mb op fb ds ks alo ahi blo bhi bi bj ñ es)):=by rfl'
def iX:(Œ (BO w) Fi 29).B (ü 11).1 (Dh la lb mb op fb ds ks alo ahi blo bhi bi bj ñ es) R=BX (decide (bi+ñ<ahi)) (BX (decide (bj+ñ<bhi)) (nt lb (bj+ñ) λv=>Aa (BC v) λk=>BX (decide (k∈([]:List AC))) (nt la (bi+ñ) λu=>nt lb (bj+ñ) λv=>Fz .Eq u v (Dh la lb mb op fb ds ks alo ahi blo bhi bi bj ñ es) λr σ=>Dc r σ λb σ=>BX b (R true σ) (R false σ)) (R false (Dh la lb mb op fb ds ks alo ahi blo bhi bi bj ñ es)))
  (R false (Dh la lb mb op fb ds ks alo ahi blo bhi bi bj ñ es))) (R false (Dh la lb mb op fb ds ks alo ahi blo bhi bi bj ñ es)):=by rfl'
def pR:Ŧ (BO w) (C3 w 29) (ü 8).2 (Dh la lb mb op fb ds ks alo ahi blo bhi bi bj ñ es) K=(3=3/\K .next (Dh la lb mb op fb ds ks alo ahi blo bhi (bi-1) (bj-1) (ñ+1) es)):=by rfl'
def pA:Ŧ (BO w) (C3 w 29) (ü 9).2 (Dh la lb mb op fb ds ks alo ahi blo bhi bi bj ñ es) K=K .next (Dh la lb mb op fb ds ks alo ahi blo bhi bi bj (ñ+1) es):=by rfl'
def gL:Ŧ (BO w) (C3 w 30) (ER.drop 12) (Dh la lb mb op fb ds ks alo ahi blo bhi bi bj ñ es) K=(((ű.int bi).sub nn=some (.int bi)/\(ű.int bj).sub nn=some (.int bj)/\(ű.int ñ).sub nn=some (.int ñ))/\K (.ret (.mat [.int bi,.int bj,.int ñ])) (Dh la lb mb op fb ds ks alo ahi blo bhi bi bj ñ es)):=by rfl'
end
end Mine
end
namespace Mine
section
variable{α:Type} [DecidableEq α]
noncomputable def DN(la lb:List α)(alo blo i j:Nat):Bool:=decide (alo<=i)&&decide (blo<=j)&&(match la[i]?,lb[j]? with | some x,some y=>decide (x=y) | _,_=>false)
noncomputable def AU(la lb:List α)(alo blo:Nat):Nat->Nat->Nat
 | 0,j=>if DN la lb alo blo 0 j then 1 else 0
 | i+1,0=>if DN la lb alo blo (i+1) 0 then 1 else 0
 | i+1,j+1=>if DN la lb alo blo (i+1) (j+1)then AU la lb alo blo i j+1 else 0
def QE(la lb:List α)(alo ahi blo bhi i j k:Nat):Prop:=alo<=i/\blo<=j/\i+k<=ahi/\j+k<=bhi/\∀d,d<k->∃x,la[i+d]?=some x/\lb[j+d]?=some x
def Bw{la lb:List α}{alo blo i j:Nat}:DN la lb alo blo i j=true↔alo<=i/\blo<=j/\∃x,la[i]?=some x/\lb[j]?=some x:=by
 unfold DN
 simp only[aJ3,decide_eq_true_eq,and_assoc]
 refine and_congr_right λ_=>and_congr_right λ_=>?_
 cases la[i]?<;>cases lb[j]?<;>simp
 exact eq_comm
theorem Fj{la lb:List α}{alo blo:Nat} :∀(i j n:Nat),n<=AU la lb alo blo i j->∀d,d<n->d<=i/\d<=j/\DN la lb alo blo (i-d) (j-d)=true
 | 0,j,n,h,d,hd=>by
  unfold AU at h
  split at h
  ·rename_i e
   have:d=0:=by exists 2,0x802181081018,hd,h
   subst this
   exact⟨aA6 _,aD4 _,e⟩
  ·exact aA8 (ũ [_,_] 0xa081081018 (by rfl') hd h)
 | i+1,0,n,h,d,hd=>by
  unfold AU at h
  split at h
  ·rename_i e
   have:d=0:=by exists 2,0x802181081018,hd,h
   subst this
   exact⟨aD4 _,aA6 _,e⟩
  ·exact aA8 (ũ [_,_] 0xa081081018 (by rfl') hd h)
 | i+1,j+1,n,h,d,hd=>by
  unfold AU at h
  split at h
  ·rename_i e
   cases d with
   | zero=>exact⟨aD4 _,aD4 _,e⟩
   | succ d=>
    obtain⟨h1,h2,h3⟩:=Fj (la:=la) (lb:=lb) (alo:=alo) (blo:=blo) i j (n-1) (by exists 2,0x1180b0181a008,h) d (by exists 2,0x181b011180a18,hd)
    refine⟨by(exists 2,0x181a180a01008,h1),by(exists 2,0x181a180a01008,h2),?_⟩
    rw[bC9,bC9]
    exact h3
  ·exact aA8 (ũ [_,_] 0xa081081018 (by rfl') hd h)
theorem Lv{la lb:List α}{alo blo:Nat} :∀(i j n:Nat),(∀d,d<n->d<=i/\d<=j/\DN la lb alo blo (i-d) (j-d)=true)->n<=AU la lb alo blo i j
 | _,_,0,_=>aD4 _
 | 0,j,n+1,h=>by
  have ŝ:=(h 0 (by exists 1,25206913)).2.2
  simp only[bI6]at ŝ
  unfold AU
  rwa[bQ6 ŝ]
  have:n=0:=by
   cases n with
   | zero=>rfl
   | succ n=>have:=(h 1 (by exists 1,0x18180aa181)).1;exists 1,0x8180a2081808,this
  exists 1,0x18180a008028,this
 | i+1,0,n+1,h=>by
  have ŝ:=(h 0 (by exists 1,25206913)).2.2
  simp only[bI6]at ŝ
  unfold AU
  rwa[bQ6 ŝ]
  have:n=0:=by
   cases n with
   | zero=>rfl
   | succ n=>have:=(h 1 (by exists 1,0x18180aa181)).2.1;exists 1,0x8180a2081808,this
  exists 1,0x18180a008028,this
 | i+1,j+1,n+1,h=>by
  have ŝ:=(h 0 (by exists 1,25206913)).2.2
  simp only[bI6]at ŝ
  unfold AU
  rwa[bQ6 ŝ]
  have:=Lv i j n λd hd=>by
   obtain⟨h1,h2,h3⟩:=h (d+1) (by exists 2,0x181a180a11018,hd)
   rw[bC9,bC9]at h3
   exact⟨by(exists 2,0x100181a180a08,h1),by(exists 2,0x100181a180a08,h2),h3⟩
  exists 2,0x181a180a01008,this
end
section
variable{α:Type} [DecidableEq α]
def O2(i j i' j':Nat):Prop:=i<i'\/(i=i'/\j<j')
structure Co(la lb:List α)(alo blo bhi i j bi bj ñ:Nat):Prop where
 zero:ñ=0->bi=alo/\bj=blo
 here:0<ñ->∃ei ej,O2 ei ej i j/\ej<bhi/\AU la lb alo blo ei ej=ñ/\bi+ñ=ei+1/\bj+ñ=ej+1/\∀i' j',O2 i' j' ei ej->j'<bhi->AU la lb alo blo i' j'<ñ
 all :∀i' j',O2 i' j' i j->j'<bhi->AU la lb alo blo i' j'<=ñ
def Co.start{la lb:List α}{alo blo bhi:Nat}:Co la lb alo blo bhi alo 0 alo blo 0:=by
 refine⟨λ_=>⟨rfl,rfl⟩,λh=>bQ8 h (by exists 0,526361),λi' j' h hj=>?_⟩
 refine aI0 λz=>?_
 have:=(Fj i' j' 1 z 0 (by exists 0,98433)).2.2
 have:=(Bw.mp this).1
 rcases h with h | h
 ·exists 2,0xa0118081b008,this,h
 ·exists 1,0xa08018,h.2
def Co.skip{la lb:List α}{alo blo bhi i j bi bj ñ:Nat}(h:Co la lb alo blo bhi i j bi bj ñ)(hr:j<bhi->AU la lb alo blo i j<=ñ):Co la lb alo blo bhi i (j+1) bi bj ñ:=by
 refine⟨h.zero,λz=>?_,λi' j' hb hj=>?_⟩
 ·obtain⟨ei,ej,h1,h2⟩:=h.here z
  exact⟨ei,ej,by rcases h1 with h1 | h1<;>unfold O2<;>omega,h2⟩
 ·by_cases e:i'=i/\j'=j
  ·obtain⟨rfl,rfl⟩:=e;exact hr hj
  ·exact h.all i' j' (by unfold O2 at *;exists 4,0x32110261017183a21102610178322102698,e,hb) hj
def Co.take{la lb:List α}{alo blo bhi i j bi bj ñ:Nat}(h:Co la lb alo blo bhi i j bi bj ñ)(hj:j<bhi)(hr:ñ<AU la lb alo blo i j){ci cj:Nat}(hi:ci+AU la lb alo blo i j=i+1)(hjj:cj+AU la lb alo blo i j=j+1) :
  Co la lb alo blo bhi i (j+1) ci cj (AU la lb alo blo i j):=by
 refine⟨λz=>bQ8 z (by exists 2,0x81291018,hr),λ_=>⟨i,j,.inr ⟨rfl,by exists 1,1575425⟩,hj,rfl,hi,hjj,λi' j' hb hj'=>aE9 (h.all i' j' hb hj') hr⟩,λi' j' hb hj'=>?_⟩
 by_cases e:i'=i/\j'=j
 ·obtain⟨rfl,rfl⟩:=e;exact aA6 _
 ·exact aG2 (aE9 (h.all i' j' (by unfold O2 at *;exists 4,0x32110261017183a21102610178322102698,e,hb) hj') hr)
def Co.row{la lb:List α}{alo blo bhi i j bi bj ñ:Nat}(h:Co la lb alo blo bhi i j bi bj ñ)(hr :∀j',j<=j'->j'<bhi->AU la lb alo blo i j'<=ñ):Co la lb alo blo bhi (i+1) 0 bi bj ñ:=by
 refine⟨h.zero,λz=>?_,λi' j' hb hj=>?_⟩
 ·obtain⟨ei,ej,h1,h2⟩:=h.here z
  exact⟨ei,ej,by unfold O2 at *;(exists 4,0x821181a026181a017321102610178,h1),h2⟩
 ·by_cases e:i'=i/\j<=j'
  ·obtain⟨rfl,e⟩:=e;exact hr j' e hj
  ·exact h.all i' j' (by unfold O2 at *;exists 4,0x231102610170831181a026181a0178320102698,e,hb) hj
def Co.jump{la lb:List α}{alo blo bhi i j j' bi bj ñ:Nat}(h:Co la lb alo blo bhi i j bi bj ñ)(hj:j<=j')(hr :∀x,j<=x->x<j'->x<bhi->AU la lb alo blo i x<=ñ):Co la lb alo blo bhi i j' bi bj ñ:=by
 refine⟨h.zero,λz=>?_,λi' x hb hx=>?_⟩
 ·obtain⟨ei,ej,h1,h2⟩:=h.here z
  exact⟨ei,ej,by unfold O2 at *;(exists 5,0x141322632170413226321781008,hj,h1),h2⟩
 ·by_cases e:i'=i/\j<=x
  ·obtain⟨rfl,e⟩:=e;exact hr x e (by unfold O2 at hb;exists 3,0x211211002600178,hb) hx
  ·exact h.all i' x (by unfold O2 at *;exists 5,0x23110261017431102610178320102698,e,hb) hx
structure đ(la lb:List α)(alo ahi blo bhi i j k:Nat):Prop where
 str:QE la lb alo ahi blo bhi i j k
 max :∀i' j' k',QE la lb alo ahi blo bhi i' j' k'->k'<=k
 fst:0<k->∀i' j',QE la lb alo ahi blo bhi i' j' k->i<i'\/(i=i'/\j<=j')
 zero:k=0->i=alo/\j=blo
def Na{la lb:List α}{alo ahi blo bhi i j k:Nat}(h:QE la lb alo ahi blo bhi i j k)(hk:0<k):k<=AU la lb alo blo (i+k-1) (j+k-1):=by
 obtain⟨h1,h2,h3,h4,ĸ⟩:=h
 refine Lv _ _ _ λd hd=>⟨by(exists 3,0x1812ab001018,hd),by(exists 3,0x1812ab001018,hd),Bw.mpr ⟨by(exists 4,0x21831abb0032181008,h1,hd),by(exists 4,0x21831abb0032181008,h2,hd),?_⟩⟩
 obtain⟨x,x1,x2⟩:=ĸ (k-1-d) (by exists 2,0x1180bb100818,hk)
 exact⟨x,by rwa[x1.symm];congr 1;(exists 3,0x181bb2a01812abb21018,hd),by rwa[x2.symm];congr 1;exists 3,0x181bb2a01812abb21018,hd⟩
def Co.done{la lb:List α}{alo ahi blo bhi bi bj ñ:Nat}(ha:alo<=ahi)(hb:blo<=bhi)(h:Co la lb alo blo bhi ahi 0 bi bj ñ):đ la lb alo ahi blo bhi bi bj ñ:=by
 refine⟨?_,λi' j' k' hs=>?_,λhk i' j' hs=>?_,h.zero⟩
 ·by_cases z:ñ=0
  ·obtain⟨rfl,rfl⟩:=h.zero z
   subst z
   exact⟨aA6 _,aA6 _,ha,hb,λd hd=>bQ8 hd (by exists 1,32793)⟩
  ·obtain⟨ei,ej,h1,h2,h3,h4,ĸ,Ę⟩:=h.here (by exists 1,0x81080298,z)
   have hit :∀d,d<ñ->_:=λd hd=>Fj ei ej ñ (aB7 h3.symm) d hd
   have hl:=Bw.mp (hit (ñ-1) (by exists 1,0x180b1080298,z)).2.2
   refine⟨by(exists 4,0x30181b2b308182a10a28,h4,hl.1),by(exists 4,0x30181b2b308182a10a28,ĸ,hl.2.1),by unfold O2 at h1;(exists 5,0x310a00841322632178182a10a28,h4,h1),by(exists 4,0x132a0180a32a281018,h2,ĸ),λd hd=>?_⟩
   obtain⟨_,_,x,x1,x2⟩:=Bw.mp (hit (ñ-1-d) (by exists 2,0x10181bb11018,hd)).2.2
   exact⟨x,by rwa[x1.symm];congr 1;(exists 4,0x3181bb2b30a21318182a10a28,h4,hd),by rwa[x2.symm];congr 1;exists 4,0x3181bb2b30a21318182a10a28,ĸ,hd⟩
 ·by_cases z:k'=0
  ·exists 2,268468264,z
  ·obtain⟨h1,h2,h3,h4,ĸ⟩:=hs
   exact aA2 (Na ⟨h1,h2,h3,h4,ĸ⟩ (by exists 1,0x81080298,z)) (h.all _ _ (.inl (by exists 3,0x21810ab1081298210a08,h3,z)) (by exists 3,0x21810ab1081298210a08,h4,z))
 ·obtain⟨ei,ej,h1,h2,h3,h4,ĸ,Ę⟩:=h.here hk
  have r:=Na hs hk
  obtain⟨s1,s2,s3,s4,s5⟩:=hs
  refine aO6 λz=>?_
  have:=Ę (i'+ñ-1) (j'+ñ-1) (by unfold O2;exists 7,0x41806ab121805ab2621805ab176305126511798184a03a28182a01a2800818,hk,h4,ĸ,z) (by exists 3,0x21801ab1201a0800818,hk,s4)
  exists 2,0xa01181008,r,this
end
noncomputable def Fp(l:List Int):List Int:=l.map λx=>2*x
noncomputable def Ck(J:Int->Bool)(l:List Int):List Int:=l.map λy=>bif J y then 2*y+1 else 2*y
def Bn(la lb:List Int)(i j:Nat):Prop:=∃x,la[i]?=some x/\lb[j]?=some x
def MX(J:Int->Bool)(la lb:List Int)(i j:Nat):Prop:=∃x,la[i]?=some x/\lb[j]?=some x/\J x=false
def JQ{l:List Int}{i:Nat}{x:Int}:(Fp l)[i]?=some (2*x)↔l[i]?=some x:=by
 unfold Fp
 rwa[aD6]
 cases l[i]? with
 | none=>exact⟨λz=>(nomatch z),λz=>(nomatch z)⟩
 | some y=>exact⟨λz=>by have:2*y=2*x:=aA3 z;exact bQ5 some (by exact ġ [] [_,_] 0x105102c002c58 (by rfl') this),λz=>by cases z;rfl⟩
def FL{J:Int->Bool}{l:List Int}{i:Nat}{x:Int}:(Ck J l)[i]?=some (2*x)↔l[i]?=some x/\J x=false:=by
 unfold Ck
 rwa[aD6]
 cases l[i]? with
 | none=>exact⟨λz=>(nomatch z),λz=>(nomatch z.1)⟩
 | some y=>
  show some (bif J y then 2*y+1 else 2*y)=some (2*x)↔_
  cases j:J y with
  | true=>exact⟨λz=>by have:2*y+1=2*x:=aA3 z;omega,λz=>by cases z.1;exact nomatch j.symm.trans z.2⟩
  | false=>
   refine⟨λz=>?_,λz=>by cases z.1;rfl⟩
   have:2*y=2*x:=aA3 z
   have e:y=x:=by exact ġ [] [_,_] 0x105102c002c58 (by rfl') this
   exact⟨bQ5 some e,e▸j⟩
def ME{J:Int->Bool}{la lb:List Int}{i j:Nat}:(∃z,(Fp la)[i]?=some z/\(Ck J lb)[j]?=some z)↔MX J la lb i j:=
 ⟨λ⟨z,h1,h2⟩=>by
  have h1':=h1
  unfold Fp at h1'
  rw[aD6]at h1'
  cases e:la[i]? with
  | none=>rw[e]at h1';cases h1'
  | some x=>
   rw[e]at h1'
   have:2*x=z:=aA3 h1'
   subst this
   have q:=FL.mp h2
   exact⟨x,e,q.1,q.2⟩,λ⟨x,h1,h2,h3⟩=>⟨2*x,JQ.mpr h1,FL.mpr ⟨h2,h3⟩⟩⟩
def Mu{J:Int->Bool}{l:List Int}:(Ck J l).length=l.length:=aB5 ..
structure KK(J:Int->Bool)(la lb:List Int)(alo ahi blo bhi i j k:Nat):Prop where
 ex :∃c l r,đ (Fp la) (Ck J lb) alo ahi blo bhi (i+l) (j+l) c/\k=l+c+r/\(∀d,d<l->Bn la lb (i+d) (j+d))/\∀d,d<r->Bn la lb (i+l+c+d) (j+l+c+d)
 lo:alo<=i/\blo<=j
 hi:i+k<=ahi/\j+k<=bhi
 ml:alo<i->blo<j->¬ Bn la lb (i-1) (j-1)
 mr:i+k<ahi->j+k<bhi->¬ Bn la lb (i+k) (j+k)
def KK.str{J:Int->Bool}{la lb:List Int}{alo ahi blo bhi i j k:Nat}(h:KK J la lb alo ahi blo bhi i j k):alo<=i/\blo<=j/\i+k<=ahi/\j+k<=bhi/\True:=⟨h.lo.1,h.lo.2,h.hi.1,h.hi.2,trivial⟩
structure Uw(J:Int->Bool)(la lb:List Int)(alo ahi blo bhi i j k:Nat):Prop where
 ex :∃c l,đ (Fp la) (Ck J lb) alo ahi blo bhi (i+l) (j+l) c/\k=l+c/\∀d,d<l->Bn la lb (i+d) (j+d)
 lo:alo<=i/\blo<=j
 hi:i+k<=ahi/\j+k<=bhi
def Uw.start{J:Int->Bool}{la lb:List Int}{alo ahi blo bhi i j k:Nat}(h:đ (Fp la) (Ck J lb) alo ahi blo bhi i j k):Uw J la lb alo ahi blo bhi i j k:=
 ⟨⟨k,0,h,(aH9 k).symm,λd hd=>bQ8 hd (aG0 d)⟩,⟨h.str.1,h.str.2.1⟩,h.str.2.2.1,h.str.2.2.2.1⟩
def Uw.step{J:Int->Bool}{la lb:List Int}{alo ahi blo bhi i j k:Nat}(h:Uw J la lb alo ahi blo bhi (i+1) (j+1) k)(hi:alo<=i)(hj:blo<=j)(hh:Bn la lb i j):Uw J la lb alo ahi blo bhi i j (k+1):=by
 obtain⟨⟨c,l,h1,h2,h3⟩,h4,ĸ⟩:=h
 refine⟨⟨c,l+1,?_,by(exists 3,0x2181aa180a221a028,h2),λd hd=>?_⟩,⟨hi,hj⟩,by(exists 3,0x2181a0a021180aa08,ĸ.1),by exists 3,0x2181a0a021180aa08,ĸ.2⟩
 ·rwa[(show i+(l+1)=i+1+l by exists 2,0x1180aa181a0a2),show j+(l+1)=j+1+l by exists 2,0x1180aa181a0a2];exact h1
 ·cases d with
  | zero=>exact hh
  | succ d=>rwa[(show i+(d+1)=i+1+d by exists 2,0x1180aa181a0a2),show j+(d+1)=j+1+d by exists 2,0x1180aa181a0a2];exact h3 d (bC4 hd)
structure VY(J:Int->Bool)(la lb:List Int)(alo ahi blo bhi i j k:Nat):Prop where
 ex :∃c l r,đ (Fp la) (Ck J lb) alo ahi blo bhi (i+l) (j+l) c/\k=l+c+r/\(∀d,d<l->Bn la lb (i+d) (j+d))/\∀d,d<r->Bn la lb (i+l+c+d) (j+l+c+d)
 lo:alo<=i/\blo<=j
 hi:i+k<=ahi/\j+k<=bhi
 ml:alo<i->blo<j->¬ Bn la lb (i-1) (j-1)
def Uw.fin{J:Int->Bool}{la lb:List Int}{alo ahi blo bhi i j k:Nat}(h:Uw J la lb alo ahi blo bhi i j k)(ml:alo<i->blo<j->¬ Bn la lb (i-1) (j-1)):VY J la lb alo ahi blo bhi i j k:=by
 obtain⟨⟨c,l,h1,h2,h3⟩,h4,ĸ⟩:=h
 exact⟨⟨c,l,0,h1,h2,h3,λd hd=>bQ8 hd (aG0 d)⟩,h4,ĸ,ml⟩
def VY.step{J:Int->Bool}{la lb:List Int}{alo ahi blo bhi i j k:Nat}(h:VY J la lb alo ahi blo bhi i j k)(hi:i+k<ahi)(hj:j+k<bhi)(hh:Bn la lb (i+k) (j+k)):VY J la lb alo ahi blo bhi i j (k+1):=by
 obtain⟨⟨c,l,r,h1,h2,h3,Ę⟩,h4,ĸ,h7⟩:=h
 refine⟨⟨c,l,r+1,h1,by(exists 4,0x183a21aa180a2321aa028,h2),h3,λd hd=>?_⟩,h4,⟨hi,hj⟩,h7⟩
 rcases bA2 (aT3 hd)with z | z
 ·exact Ę d z
 ·subst z;rwa[(show i+l+c+d=i+k by exists 5,0x4a3214aaa2321aa028,h2),show j+l+c+d=j+k by exists 5,0x4a3214aaa2321aa028,h2];exact hh
def VY.fin{J:Int->Bool}{la lb:List Int}{alo ahi blo bhi i j k:Nat}(h:VY J la lb alo ahi blo bhi i j k)(mr:i+k<ahi->j+k<bhi->¬ Bn la lb (i+k) (j+k)):KK J la lb alo ahi blo bhi i j k:=
 ⟨h.ex,h.lo,h.hi,h.ml,mr⟩
end Mine
section
open PySem PySem.W PyProof.Rows
namespace Mine
section
variable{β:Type}{k k':AC}{v:β}{es:List (AC×β)}
def ZE:(es.map (λkv=>if kv.1=k then(kv.1,v)else kv)).lookup k'=if k'=k then(es.lookup k').map λ_=>v else es.lookup k':=
 aB4 (motive:=λes=>(es.map (λkv=>if kv.1=k then(kv.1,v)else kv)).lookup k'=if k'=k then(es.lookup k').map λ_=>v else es.lookup k') (by by_cases e:k'=k<;>(first | rw[bQ6 e] | rw[bQ7 e])<;>rfl) (λp r ih=>by
  rwa[aR7];rw[AQ,AQ];rwa[ih]
  by_cases h:p.1=k
  ·rwa[bQ6 h]
   by_cases e:k'=k
   ·rwa[bQ6 e,bQ6 e,h,show(k'==k)=true from beq_iff_eq.mpr e];rfl
   ·rwa[bQ7 e,bQ7 e,h,show(k'==k)=false from beq_eq_false_iff_ne.mpr e];rfl
  ·rwa[bQ7 h]
   by_cases e:k'=k
   ·rwa[bQ6 e,bQ6 e,show(k'==p.1)=false from beq_eq_false_iff_ne.mpr λz=>h (z.symm.trans e)];rfl
   ·rwa[bQ7 e,bQ7 e];rfl) es
def Q4:(es.any λkv=>decide (kv.1=k))=(es.lookup k).isSome:=
 aB4 (motive:=λes=>(es.any λkv=>decide (kv.1=k))=(es.lookup k).isSome) rfl (λp r ih=>by
  rwa[List.any_cons];rw[AQ];rwa[ih]
  by_cases h:p.1=k
  ·rwa[bQ9 h,show(k==p.1)=true from beq_iff_eq.mpr h.symm];rfl
  ·rwa[bR0 h,show(k==p.1)=false from beq_eq_false_iff_ne.mpr λz=>h z.symm];rfl) es
def QG:(es++[(k,v)]).lookup k'=if(es.lookup k').isSome then es.lookup k' else if k'=k then some v else none:=
 aB4 (motive:=λes=>(es++[(k,v)]).lookup k'=if(es.lookup k').isSome then es.lookup k' else if k'=k then some v else none) (by
  show((k,v)::[]).lookup k'=_
  rw[AQ]
  by_cases e:k'=k
  ·rwa[show(k'==k)=true from beq_iff_eq.mpr e,bQ6 e];rfl
  ·rwa[show(k'==k)=false from beq_eq_false_iff_ne.mpr e,bQ7 e];rfl) (λp r ih=>by
  rwa[List.cons_append];rw[AQ,AQ];rwa[ih]
  cases k'==p.1<;>rfl) es
def LJ:(dset es k v).lookup k'=if k'=k then some v else es.lookup k':=by
 unfold dset
 rwa[Q4]
 cases h:es.lookup k with
 | none=>
  rwa[(bQ7 (by exact λz=>nomatch z)),QG]
  by_cases e:k'=k
  ·rwa[bQ6 e,bQ6 e,e,h];rfl
  ·rwa[bQ7 e,bQ7 e];cases es.lookup k'<;>rfl
 | some u=>
  rwa[bQ6 (show(some u).isSome=true from rfl),ZE]
  by_cases e:k'=k
  ·rwa[bQ6 e,bQ6 e,e,h];rfl
  ·rwa[bQ7 e,bQ7 e];rfl
def Kl:(dset es k v).length<=es.length+1:=by
 unfold dset
 by_cases h:(es.any λkv=>decide (kv.1=k))=true
 ·rwa[bQ6 h];rw[aB5];exact aI4 _
 ·rwa[bQ7 h,aB0];exact aA6 _
end
def Kr{es:List (AC×ű)}:AG nn es=some es↔∀p∈es,p.2.sub nn=some p.2:=
 aB4 (motive:=λes=>AG nn es=some es↔∀p∈es,p.2.sub nn=some p.2) ⟨λ_ _ h=>(nomatch h),λ_=>rfl⟩ (λp r ih=>Prod.casesOn (motive:=λp=>AG nn (p::r)=some (p::r)↔∀q∈p::r,q.2.sub nn=some q.2) p λk x=>⟨λe=>by
  obtain⟨b,e1,e⟩:=bind_some (show(x.sub nn).bind (λb=>(AG nn r).map ((k,b) :: ·))=_ from e)
  obtain⟨c,e2,e3⟩:=map_some e
  obtain⟨h1,h2⟩:=bN3.inj e3
  exact λq hq=>(aF4.mp hq).elim (λz=>z▸e1.trans (bQ5 (λq:AC×ű=>some q.2) h1)) (ih.mp (e2.trans (bQ5 some h2)) q),
  λh=>by
  show(x.sub nn).bind (λb=>(AG nn r).map ((k,b) :: ·))=_
  rwa[show x.sub nn=some x from h (k,x) (aC0 ..),ih.mpr λq hq=>h q (aC7 _ hq)];rfl⟩) es
def PB{es:List (AC×ű)}{k:AC}{v:ű}(h:AG nn es=some es)(hv:v.sub nn=some v):AG nn (dset es k v)=some (dset es k v):=by
 have h:=Kr.mp h
 refine Kr.mpr λp hp=>?_
 unfold dset at hp
 by_cases c:(es.any λkv=>decide (kv.1=k))=true
 ·rw[bQ6 c]at hp
  obtain⟨q,h1,rfl⟩:=aO0.mp hp
  by_cases e:q.1=k
  ·rwa[bQ6 e];exact hv
  ·rwa[bQ7 e];exact h q h1
 ·rw[bQ7 c]at hp
  exact(aD9.mp hp).elim (h p) λz=>aA7.mp z▸hv
def FG{α:Type} [DecidableEq α] {la lb:List α} {alo blo i j:Nat}:0<AU la lb alo blo i j↔DN la lb alo blo i j=true:=
 ⟨λh=>(Fj i j 1 h 0 (aC1 0)).2.2,λh=>Lv i j 1 λd hd=>by
  obtain rfl:d=0:=bK8.mp hd
  exact⟨aD4 _,aD4 _,h⟩⟩
section
variable(la lb:List Int)(alo blo bhi:Nat)
def Ů(i J:Nat)(es:List (AC×ű)):Prop:=AG nn es=some es/\∀z:Int,es.lookup (.int z)=if 0<=z/\z<J/\z<bhi/\0<AU la lb alo blo i z.toNat then some (.int (AU la lb alo blo i z.toNat:Int))else none
def PJ(i:Nat)(es:List (AC×ű)):Prop:=AG nn es=some es/\∀j:Nat,j<bhi->DN la lb alo blo i j=true->(es.lookup (.int ((j:Int)-1))).getD (.int 0) = .int ((AU la lb alo blo i j:Int)-1)
end
section
variable{la lb:List Int}{alo blo bhi:Nat}
def Ů.nil{i:Nat}:Ů la lb alo blo bhi i 0 []:=⟨rfl,λz=>(bQ7 λh=>bQ8 (aS4 h.1 h.2.1) (Int.lt_irrefl 0)).symm⟩
def PJ.nil:PJ la lb alo blo bhi alo []:=by
 refine⟨rfl,λj hj hh=>?_⟩
 have h1:=FG.mpr hh
 have:AU la lb alo blo alo j=1:=by
  refine aO4 (aI0 λz=>?_) h1
  have:=Fj alo j 2 z 1 (by decide)
  have:=(Bw.mp this.2.2).1
  rename_i u0;exists 1,0xa180b00801808,u0.1,this
 rwa[this]
 rfl
def Ů.next{i J:Nat}{es:List (AC×ű)}(h:Ů la lb alo blo bhi i J es)(hn :∀y,J<=y->y<bhi->AU la lb alo blo i y=0):PJ la lb alo blo bhi (i+1) es:=by
 refine⟨h.1,λj hj hh=>?_⟩
 rw[h.2]
 cases j with
 | zero=>
  rwa[bQ7 (by exists 3,0x208110f18080fb4600f18080fb4618080fb08369)]
  unfold AU
  rwa[bQ6 hh]
  rfl
 | succ y=>
  have e:((y+1:Nat):Int)-1=(y:Int):=bA3 (y:Int) 1
  rwa[e]
  have e2:AU la lb alo blo (i+1) (y+1)=AU la lb alo blo i y+1:=by
   conv=>lhs;unfold AU
   rwa[bQ6 hh];rfl
  rwa[e2];rw[aG5]
  by_cases z:0<AU la lb alo blo i y
  ·have:y<J:=bD5 λq=>bQ8 z (hn y q (aT0 hj)▸aL3 0)
   rwa[bQ6 ⟨aO9 y,aD0.mpr this,aD0.mpr (aT0 hj),z⟩]
   exact bQ5 ű.int (bA3 _ 1).symm
  ·rwa[bQ7 λq=>z q.2.2.2,aU5 z]
   rfl
def Ů.jump{i J J':Nat}{es:List (AC×ű)}(h:Ů la lb alo blo bhi i J es)(hJ:J<=J')(hr :∀x,J<=x->x<J'->x<bhi->AU la lb alo blo i x=0):Ů la lb alo blo bhi i J' es:=by
 refine⟨h.1,λz=>?_⟩
 rw[h.2]
 by_cases c:0<=z/\z<J/\z<bhi/\0<AU la lb alo blo i z.toNat
 ·rwa[bQ6 c,bQ6 ⟨c.1,Int.lt_of_lt_of_le c.2.1 (aM5.mpr hJ),c.2.2⟩];rfl
 ·rwa[bQ7 c];rw[bQ7]
  rintro ⟨c1,c2,c3,c4⟩
  have:=hr z.toNat (by exact ġ [_,_,_,_] [_] 0x230108100f04630f0460083698080e20f581081800f04800838 (by rfl') c1 c3 c4 (aH0 _) c) (by exact ġ [_,_] [_] 0x11080e10f5800f04800838 (by rfl') c1 c2 (aH0 _)) (by exact ġ [_,_] [_] 0x11080e10f5800f04800838 (by rfl') c1 c3 (aH0 _))
  exact bQ8 c4 (this▸aL3 0)
def Ů.take{i j:Nat}{es:List (AC×ű)}(h:Ů la lb alo blo bhi i j es)(hj:j<bhi)(hr:0<AU la lb alo blo i j):Ů la lb alo blo bhi i (j+1) (dset es (.int (j:Int)) (.int (AU la lb alo blo i j:Int))):=by
 refine⟨PB h.1 rfl,λz=>?_⟩
 rwa[LJ];rw[h.2]
 by_cases e:z=(j:Int)
 ·subst e
  rwa[bQ6 rfl];rw[aG5];rwa[bQ6 ⟨aO9 j,aD0.mpr (aC1 j),aD0.mpr hj,hr⟩];rfl
 ·rwa[bQ7 λq=>e (AC.int.inj q)]
  by_cases c:0<=z/\z<j/\z<bhi/\0<AU la lb alo blo i z.toNat
  ·rwa[bQ6 c,bQ6 ⟨c.1,bM3 c.2.1 (aD0.mpr (aC1 j)),c.2.2⟩];rfl
  ·rwa[bQ7 c,bQ7 λq=>c ⟨q.1,Int.lt_iff_le_and_ne.mpr ⟨Int.le_of_lt_add_one q.2.1,e⟩,q.2.2⟩];rfl
end
def IU{ys:List Int}{x:Int}{y:Nat}:y∈Aq ys ys.length x↔ys[y]?=some x:=by
 unfold Aq
 rw[aZ0,bK1]
 exact⟨λh=>bR1 h.2,λh=>⟨(aB3.mp h).1,bQ9 h⟩⟩
def I6(ys:List Int)(n:Nat)(x:Int):(Aq ys n x).Pairwise (· < ·):=bH3.filter _ bB9
structure CA(la lb:List Int)(alo blo bhi i:Nat)(ps:List Nat)(t bi bj ñ:Nat)(es:List (AC×ű)):Prop where
 ex :∃J,Co la lb alo blo bhi i J bi bj ñ/\Ů la lb alo blo bhi i J es/\(∀p∈ps.drop t,J<=p)/\(∀y,J<=y->DN la lb alo blo i y=true->y∈ps.drop t)
 len:es.length<=t
def CA.start{la lb:List Int}{alo blo bhi i bi bj ñ:Nat}{x:Int}(hk:la[i]?=some x)(h:Co la lb alo blo bhi i 0 bi bj ñ):CA la lb alo blo bhi i (Aq lb lb.length x) 0 bi bj ñ []:=by
 refine⟨⟨0,h,Ů.nil,λ_ _=>aD4 _,λy _ hy=>?_⟩,aA6 _⟩
 obtain⟨_,_,x,x1,x2⟩:=Bw.mp hy
 rw[x1]at hk
 cases hk
 exact IU.mpr x2
def J4(la lb:List Int)(alo blo bhi i bi bj ñ:Nat)(es:List (AC×ű)):Prop:=Co la lb alo blo bhi (i+1) 0 bi bj ñ/\PJ la lb alo blo bhi (i+1) es
def SR{la lb:List Int}{alo blo bhi i J bi bj ñ:Nat}{es:List (AC×ű)}(h:Co la lb alo blo bhi i J bi bj ñ)(hn:Ů la lb alo blo bhi i J es)(hz :∀y,J<=y->y<bhi->DN la lb alo blo i y=true->False):J4 la lb alo blo bhi i bi bj ñ es:=by
 have z :∀y,J<=y->y<bhi->AU la lb alo blo i y=0:=λy h1 h2=>aU5 λq=>hz y h1 h2 (FG.mp q)
 exact⟨h.row λj h1 h2=>by rwa[z j h1 h2];exact aD4 _,hn.next z⟩
def CA.fin{la lb:List Int}{alo blo bhi i bi bj ñ:Nat}{ps:List Nat}{es:List (AC×ű)}(h:CA la lb alo blo bhi i ps ps.length bi bj ñ es):J4 la lb alo blo bhi i bi bj ñ es:=by
 obtain⟨⟨J,h1,h2,h3,h4⟩,ĸ⟩:=h
 refine SR h1 h2 λy y1 y2 y3=>?_
 have:=h4 y y1 y3
 rw[List.drop_length]at this
 exact nomatch this
def IG{α:Type}{l:List α}{t:Nat}{x:α}(h:l[t]?=some x):l.drop t=x::l.drop (t+1):=by
 obtain⟨h1,h2⟩:=aB3.mp h
 rwa[aF9 h1,h2];rfl
section
variable{la lb:List Int}{alo blo bhi i t j bi bj ñ:Nat}{ps:List Nat}{es:List (AC×ű)}
def CA.brk(h:CA la lb alo blo bhi i ps t bi bj ñ es)(hs:ps.Pairwise (· < ·))(hj:ps[t]?=some j)(hb:bhi<=j):J4 la lb alo blo bhi i bi bj ñ es:=by
 obtain⟨⟨J,h1,h2,h3,h4⟩,ĸ⟩:=h
 refine SR h1 h2 λy y1 y2 y3=>?_
 have:=h4 y y1 y3
 have hs:=hs.sublist (bG9 t ps)
 rw[IG hj]at this hs
 exact(aF4.mp this).elim (λz=>bQ8 (z▸y2) (aR0.mpr hb)) λz=>bQ8 (bB8 ((aP2.mp hs).1 y z) y2) (aR0.mpr hb)
def CA.upto(h:CA la lb alo blo bhi i ps t bi bj ñ es)(hs:ps.Pairwise (· < ·))(hj:ps[t]?=some j):Co la lb alo blo bhi i j bi bj ñ/\Ů la lb alo blo bhi i j es/\(∀p∈ps.drop (t+1),j+1<=p)/\(∀y,j+1<=y->DN la lb alo blo i y=true->y∈ps.drop (t+1)):=by
 obtain⟨⟨J,h1,h2,h3,h4⟩,ĸ⟩:=h
 have hs:=hs.sublist (bG9 t ps)
 rw[IG hj]at h3 h4 hs
 have hJ:=h3 j (aC0 ..)
 have hs:=(aP2.mp hs).1
 have z :∀x,J<=x->x<j->x<bhi->AU la lb alo blo i x=0:=λx x1 x2 x3=>aU5 λq=>
  (aF4.mp (h4 x x1 (FG.mp q))).elim (λe=>bQ8 x2 (e▸aL3 _)) λe=>bQ8 (hs x e) (Nat.lt_asymm x2)
 exact⟨h1.jump hJ λx x1 x2 x3=>by rwa[z x x1 x2 x3];exact aD4 _,h2.jump hJ z,λp hp=>hs p hp,λy y1 y2=>
  (aF4.mp (h4 y (aA2 hJ (aL7 y1)) y2)).elim (λe=>bQ8 (e▸y1) (Nat.not_succ_le_self _)) id⟩
def CA.cont(h:CA la lb alo blo bhi i ps t bi bj ñ es)(hs:ps.Pairwise (· < ·))(hj:ps[t]?=some j)(hb:j<blo):CA la lb alo blo bhi i ps (t+1) bi bj ñ es:=by
 obtain⟨h1,h2,h3,h4⟩:=h.upto hs hj
 have z:AU la lb alo blo i j=0:=aU5 λq=>bQ8 (Bw.mp (FG.mp q)).2.1 (bP2.mpr hb)
 exact⟨⟨j+1,h1.skip λ_=>z▸aD4 _,h2.jump (aI4 _) λx x1 x2 x3=>aO4 (aT3 x2) x1▸z,h3,h4⟩,aF5 h.len⟩
def CA.keep(h:CA la lb alo blo bhi i ps t bi bj ñ es)(hs:ps.Pairwise (· < ·))(hj:ps[t]?=some j)(hb:j<bhi)(hr:0<AU la lb alo blo i j)(hk:AU la lb alo blo i j<=ñ):CA la lb alo blo bhi i ps (t+1) bi bj ñ (dset es (.int (j:Int)) (.int (AU la lb alo blo i j:Int))):=by
 obtain⟨h1,h2,h3,h4⟩:=h.upto hs hj
 exact⟨⟨j+1,h1.skip λ_=>hk,h2.take hb hr,h3,h4⟩,aA2 Kl (aF7 h.len)⟩
def CA.better(h:CA la lb alo blo bhi i ps t bi bj ñ es)(hs:ps.Pairwise (· < ·))(hj:ps[t]?=some j)(hb:j<bhi)(hk:ñ<AU la lb alo blo i j){ci cj:Nat}(hi:ci+AU la lb alo blo i j=i+1)(hjj:cj+AU la lb alo blo i j=j+1) :
  CA la lb alo blo bhi i ps (t+1) ci cj (AU la lb alo blo i j) (dset es (.int (j:Int)) (.int (AU la lb alo blo i j:Int))):=by
 obtain⟨h1,h2,h3,h4⟩:=h.upto hs hj
 exact⟨⟨j+1,h1.take hb hk hi hjj,h2.take hb (Nat.zero_lt_of_lt hk),h3,h4⟩,aA2 Kl (aF7 h.len)⟩
end
def OE{α:Type} [DecidableEq α] {la lb:List α} {alo blo i j:Nat}:AU la lb alo blo i j<=i+1/\AU la lb alo blo i j<=j+1:=by
 by_cases h:AU la lb alo blo i j=0
 ·exists 3,0x182a00181a00608028,h
 ·have:=Fj (la:=la) (lb:=lb) (alo:=alo) (blo:=blo) i j _ (aA6 _) (AU la lb alo blo i j-1) (by exists 1,0x180b1080298,h)
  exists 3,0x182a00181a0062180b081180b08,this.1,this.2.1
def LQ{p:Prop} [Decidable p] {A B:Prop} (a:p->A) (b:¬ p->B):BX (decide p) A B:=
 if h:p then(bQ9 h).symm▸a h else(bR0 h).symm▸b h
def LK{n:Nat}(h:n<=100000):AM n:=aA2 h (by decide)
def Vv{n:Nat}(h:n<=100000):Eh (n:Int):=⟨aL5 (by decide) (aO9 n),aS4 (aM5.mpr h) (by decide)⟩
def R0{l:List Int}{i:Nat}{x:Int}(h:l[i]?=some x):GL (è l) (i:Int)=some (.int x):=by
 have hl:=(aB3.mp h).1
 have e:seqIndex? (i:Int) (è l).length=some i:=by
  unfold seqIndex?
  rewrite [bQ7 (aP0.mpr (aO9 i)),Az];rwa[bQ6 (aI6.mpr ⟨bQ9 (aO9 i),bQ9 (aD0.mpr hl)⟩)];rfl
 unfold GL
 rwa[e]
 exact(aD6 ..).trans (bQ5 (aE0 ű.int) h)
def I3{l:List Int}{k:Int}{n:Nat}{y:Int}{X:ű->Prop}(hk:k=(n:Int))(h:l[n]?=some y)(hl:l.length<=100000)(x:X (.int y)):nt l k X:=by
 subst hk
 exact⟨Vv (aA2 (aG2 (aB3.mp h).1) hl),_,R0 h,x⟩
def HK{test:St->(Bool->St->Prop)->Prop}{body els:St->ĵ->Prop}{σ:St}{Q:ĵ}(h :∀R:Bool->St->Prop,R false σ->test σ R)(fin:els σ Q):F3 test body els σ Q:=
 ⟨λ_ τ=>τ=σ,0,⟨σ,.refl σ,rfl⟩,λm τ e=>by subst e;exact h _ fin⟩
def U9{P:Ť}{ds:List (AC×ű)}{x:Int}{d:ű}{σ:St}{Q:ű->St->Prop}:Ik P (.fn .get) [.dct ds,.int x,d] σ Q=Q ((ds.lookup (.int x)).getD d) σ:=rfl
def XI{l:List Int}{n:Nat}(h:n<l.length) :∃x,l[n]?=some x:=⟨_,aA9 h⟩
def BQ:ĉ:=λas os Q=>∃(J:Int->Bool) (la lb:List Int) (mb op fb:ű) (ds:List (AC×ű)) (ks:List AC) (alo ahi blo bhi:Nat),as=[.ref 0,.int (alo:Int),.int (ahi:Int),.int (blo:Int),.int (bhi:Int)]/\os=[(ń,Av (.lst (è la)) (.lst (è lb)) mb op fb (.dct ds) (.fset ks))]/\(BY (.lst (è la)) (.lst (è lb)) mb op fb (.dct ds) (.fset ks)/\ģ J lb ds)/\(la.length<=100000/\lb.length<=100000)/\
 (alo<=ahi/\ahi<=la.length)/\(blo<=bhi/\bhi<=lb.length)/\∀(i j k:Nat),KK J la lb alo ahi blo bhi i j k->Q (.mat [.int (i:Int),.int (j:Int),.int (k:Int)]) [(ń,Av (.lst (è la)) (.lst (è lb)) mb op fb (.dct ds) (.fset ks))]
section
variable{w:aC9}{la lb:List Int}{mb op fb:ű}{ds es es2:List (AC×ű)}{ks:List AC}{alo ahi blo bhi bi bj ñ i j r:Int}{K:ĵ}{u:ű}
def QU{g:Nat->Option ű}(S:BY (.lst (è la)) (.lst (è lb)) mb op fb (.dct ds) (.fset ks)):(dH la lb mb op fb ds ks).sub g=some (dH la lb mb op fb ds ks):=GR (bQ5 (aE0 (Ř.inst ń)) S.shut)
def X0(S:BY (.lst (è la)) (.lst (è lb)) mb op fb (.dct ds) (.fset ks)):A9 (eE la lb mb op fb ds ks alo ahi blo bhi) (Dh la lb mb op fb ds ks alo ahi blo bhi alo blo 0 []):=
 .re [0] [(1,.dct [])] rfl rfl rfl rfl (BL rfl rfl rfl rfl CQ) (Bs rfl rfl (Bs rfl rfl (Bs rfl rfl (Bs rfl rfl (Bs rfl rfl (Bs rfl (AJ _ _ (Ac la)) (Bs rfl (AJ _ _ (Ac lb)) (Bs rfl (AJ _ _ S.b2j) (Bs rfl rfl (Bs rfl rfl (Bs rfl rfl (Bs rfl rfl (Bs rfl rfl (Bs rfl rfl B0)))))))))))))) (RY rfl rfl (QU S) BZ)
def ZN(S:BY (.lst (è la)) (.lst (è lb)) mb op fb (.dct ds) (.fset ks))(h:AG nn es2=some es2):A9 (LS la lb mb op fb ds ks alo ahi blo bhi bi bj ñ es es2 i (.ref 1) []) (Dh la lb mb op fb ds ks alo ahi blo bhi bi bj ñ es2):=
 .re [0] [(1,.dct es2)] rfl rfl rfl rfl (BL rfl rfl rfl (bQ5 (aE0 ű.dct) h) CQ) (Bs rfl rfl (Bs rfl rfl (Bs rfl rfl (Bs rfl rfl (Bs rfl rfl (Bs rfl (AJ _ _ (Ac la)) (Bs rfl (AJ _ _ (Ac lb)) (Bs rfl (AJ _ _ S.b2j) (Bs rfl rfl (Bs rfl rfl (Bs rfl rfl (Bs rfl rfl (Bs rfl rfl (Bs rfl rfl B0)))))))))))))) (RY rfl rfl (QU S) BZ)
def Je{tl:List (Str×ű)}:A9 (LS la lb mb op fb ds ks alo ahi blo bhi bi bj ñ es es2 i u tl) (LS la lb mb op fb ds ks alo ahi blo bhi bi bj ñ es es2 i u []):=
 .less (ρ:=(LS la lb mb op fb ds ks alo ahi blo bhi bi bj ñ es es2 i u []).ρ++tl) (λx v e=>Bq e) λ_ _=>id
end
section
variable{J:Int->Bool}{w:aC9}{la lb:List Int}{mb op fb:ű}{ds es es2:List (AC×ű)}{ks:List AC}{alo ahi blo bhi bi bj ñ i:Nat}{K:ĵ}{x:Int}
def ì(J:Int->Bool)(la lb:List Int)(mb op fb:ű)(ds:List (AC×ű))(ks:List AC)(alo ahi blo bhi i:Nat)(σ:St):Prop:=∃bi bj ñ es,Co (Fp la) (Ck J lb) alo blo bhi i 0 bi bj ñ/\PJ (Fp la) (Ck J lb) alo blo bhi i es/\σ=Dh la lb mb op fb ds ks alo ahi blo bhi bi bj ñ es
def Ģ(J:Int->Bool)(la lb:List Int)(mb op fb:ű)(ds:List (AC×ű))(ks:List AC)(alo ahi blo bhi:Nat)(es:List (AC×ű))(i:Nat)(ps:List Nat)(t:Nat)(σ:St):Prop:=∃bi bj ñ es2,CA (Fp la) (Ck J lb) alo blo bhi i ps t bi bj ñ es2/\σ=LS la lb mb op fb ds ks alo ahi blo bhi bi bj ñ es es2 i (.dct es) []
def Np(S:BY (.lst (è la)) (.lst (è lb)) mb op fb (.dct ds) (.fset ks))(h:J4 (Fp la) (Ck J lb) alo blo bhi i bi bj ñ es2):ç (BO w) (C3 w 29) (æ.2.drop 3) (E6 (λσ=>∃τ,A9 σ τ/\ì J la lb mb op fb ds ks alo ahi blo bhi (i+1) τ) K) .next (LS la lb mb op fb ds ks alo ahi blo bhi bi bj ñ es es2 i (.dct es) []):=
 jQ.mpr ⟨_,ZN S h.2.1,bi,bj,ñ,es2,h.1,h.2,rfl⟩
def SN{ys:List Int}:(bif J x then []else BA ys ys.length x)=BA (Ck J ys) (Ck J ys).length (2*x):=by
 have e:Aq (Ck J ys) (Ck J ys).length (2*x)=bif J x then []else Aq ys ys.length x:=by
  unfold Aq
  rwa[Mu]
  cases j:J x with
  | true=>exact List.filter_eq_nil_iff.mpr λa _ z=>nomatch j.symm.trans (FL.mp (bR1 z)).2
  | false=>exact List.filter_congr λa _=>decide_eq_decide.mpr ⟨λz=>(FL.mp z).1,λz=>FL.mpr ⟨z,j⟩⟩
 unfold BA cH
 rwa[e]
 cases J x<;>rfl
def PR{t:Nat}{v:ű}(h:(BA (Ck J lb) (Ck J lb).length (2*x))[t]?=some v) :∃j:Nat,(Aq (Ck J lb) (Ck J lb).length (2*x))[t]?=some j/\v = .int (j:Int):=by
 obtain⟨z,h1,h2⟩:=aO1.mp ((aD6 ..).symm.trans h)
 obtain⟨j,h3,h4⟩:=aO1.mp ((aD6 ..).symm.trans h1)
 exact⟨j,h3,by rwa[h2.symm,h4.symm];rfl⟩
def VL{t:Nat}{v:ű}{σ:St}(S:BY (.lst (è la)) (.lst (è lb)) mb op fb (.dct ds) (.fset ks))(hl:lb.length<=100000)(hp:PJ (Fp la) (Ck J lb) alo blo bhi i es)(ha:alo<=i)(hk:(Fp la)[i]?=some (2*x))(hv:(BA (Ck J lb) (Ck J lb).length (2*x))[t]?=some v)(hI:Ģ J la lb mb op fb ds ks alo ahi blo bhi es i (Aq (Ck J lb) (Ck J lb).length (2*x)) t σ) :
  nP w v σ (E6 (λσ=>∃τ,A9 σ τ/\Ģ J la lb mb op fb ds ks alo ahi blo bhi es i (Aq (Ck J lb) (Ck J lb).length (2*x)) (t+1) τ) (ç (BO w) (C3 w 29) (æ.2.drop 3) (E6 (λσ=>∃τ,A9 σ τ/\ì J la lb mb op fb ds ks alo ahi blo bhi (i+1) τ) K))):=by
 obtain⟨bi,bj,ñ,es2,hI,rfl⟩:=hI
 obtain⟨j,hj,rfl⟩:=PR hv
 have hs:=I6 (Ck J lb) (Ck J lb).length (2*x)
 have hjb:=IU.mp (aM2 hj)
 have htl:t<lb.length:=aB2 (aB3.mp hv).1 (aA2 Fm (aB7 Mu))
 rwa[aF]
 refine LQ (λc=>⟨_,Je,bi,bj,ñ,es2,hI.cont hs hj (aD0.mp c),rfl⟩) λc1=>LQ (λc=>⟨_,Je,Np S (hI.brk hs hj (aM5.mp c))⟩) λc2=>?_
 have h1:blo<=j:=aM5.mp (aP0.mp c1)
 have h2:j<bhi:=aD0.mp (bI8.mp c2)
 have hh:DN (Fp la) (Ck J lb) alo blo i j=true:=Bw.mpr ⟨ha,h1,_,hk,hjb⟩
 have hr:=FG.mpr hh
 have hrb:=OE (la:=Fp la) (lb:=Ck J lb) (alo:=alo) (blo:=blo) (i:=i) (j:=j)
 rwa[hp.2 j h2 hh]
 show Ex (Œ (BO w) Fi 27).A oE (.int ((AU (Fp la) (Ck J lb) alo blo i j:Int)-1+1)) _ _
 rw[Int.sub_add_cancel]
 refine eD.mpr ⟨aA2 hI.len (LK (aA2 (aG2 htl) hl)),LQ (λc3=>⟨rfl,_,Je,i+1-AU (Fp la) (Ck J lb) alo blo i j,j+1-AU (Fp la) (Ck J lb) alo blo i j,AU (Fp la) (Ck J lb) alo blo i j,_,hI.better hs hj h2 (aD0.mp c3) (Nat.sub_add_cancel hrb.1) (Nat.sub_add_cancel hrb.2),?_⟩) λc3=>⟨_,Je,bi,bj,ñ,_,hI.keep hs hj h2 hr (aM5.mp (aP0.mp c3)),rfl⟩⟩
 rwa[(show(i:Int)-(AU (Fp la) (Ck J lb) alo blo i j:Int)+1=((i+1-AU (Fp la) (Ck J lb) alo blo i j:Nat):Int)by exists 2,0x181ab0f1800f10fba5181a008,hrb.1),show(j:Int)-(AU (Fp la) (Ck J lb) alo blo i j:Int)+1=((j+1-AU (Fp la) (Ck J lb) alo blo i j:Nat):Int)by exists 2,0x181ab0f1800f10fba5181a008,hrb.2];rfl
def S5{σ:St}(S:BY (.lst (è la)) (.lst (è lb)) mb op fb (.dct ds) (.fset ks))(hB:ģ J lb ds)(hla:la.length<=100000)(hl:lb.length<=100000)(ha:alo<=i)(hi:i<la.length)(hI:ì J la lb mb op fb ds ks alo ahi blo bhi i σ) :
  oA w (.int (i:Int)) σ (E6 (λσ=>∃τ,A9 σ τ/\ì J la lb mb op fb ds ks alo ahi blo bhi (i+1) τ) K):=by
 obtain⟨bi,bj,ñ,es,hb,hp,rfl⟩:=hI
 obtain⟨x,hx⟩:=XI hi
 rwa[jN]
 refine⟨Vv (aA2 (aG2 hi) hla),_,R0 hx,?_⟩
 rwa[U9,hB.at_ x,SN]
 refine⟨EI _,Ģ J la lb mb op fb ds ks alo ahi blo bhi es i (Aq (Ck J lb) (Ck J lb).length (2*x)),⟨_,.refl _,bi,bj,ñ,[],CA.start (JQ.mpr hx) hb,rfl⟩,λt σ v hv hI=>VL S hl hp ha (JQ.mpr hx) hv hI,λσ hI=>?_⟩
 obtain⟨ci,cj,ck,es2,hI,rfl⟩:=hI
 rw[show(BA (Ck J lb) (Ck J lb).length (2*x)).length=(Aq (Ck J lb) (Ck J lb).length (2*x)).length from(aB5 ..).trans (aB5 ..)]at hI
 rwa[DV]
 exact Np S hI.fin
def LB{x y:Int}{σ:St}{R:Bool->St->Prop}(h1:x=y->R true σ)(h2:x≠y->R false σ):Fz .Eq (.int x) (.int y) σ λr σ=>Dc r σ λb σ=>BX b (R true σ) (R false σ):=by
 show BX (decide (AC.int x=AC.int y)) (R true σ) (R false σ)
 exact LQ (λe=>h1 (AC.int.inj e)) λn=>h2 λe=>n (bQ5 AC.int e)
def Kf{test:St->(Bool->St->Prop)->Prop}{body els:St->ĵ->Prop}{σ:St}{Q:ĵ}(I:Nat->St->Prop)(m:Nat)(ŝ:I m σ)(ht :∀m σ (R:Bool->St->Prop),I m σ->(∀τ,els τ Q->R false τ)->(∀τ,body τ (E6 (λσ=>∃m' τ,m'<m/\A9 σ τ/\I m' τ) Q)->R true τ)->test σ R):F3 test body els σ Q:=
 ⟨I,m,⟨σ,.refl σ,ŝ⟩,λm σ h=>ht m σ _ h (λ_ q=>q) λ_ q=>q⟩
def WU{l:List Int}{k:Int}{n:Nat}{y:Int}{A B:Prop}(hk:k=(n:Int))(h:l[n]?=some y)(hl:l.length<=100000)(a:A):nt l k λv=>Aa (BC v) λk=>BX (!decide (k∈([]:List AC))) A B:=I3 hk h hl a
def RB{l:List Int}{k:Int}{n:Nat}{y:Int}{A B:Prop}(hk:k=(n:Int))(h:l[n]?=some y)(hl:l.length<=100000)(b:B):nt l k λv=>Aa (BC v) λk=>BX (decide (k∈([]:List AC))) A B:=I3 hk h hl b
def vX(hB:ģ J lb ds)(hla:la.length<=100000)(hl:lb.length<=100000)(hL:Uw J la lb alo ahi blo bhi bi bj ñ)(h2:ahi<=la.length)(h4:bhi<=lb.length)
  (hK :∀i j k,VY J la lb alo ahi blo bhi i j k->Ŧ (BO w) (C3 w 30) (ER.drop 9) (Dh la lb mb op fb ds ks alo ahi blo bhi (i:Nat) (j:Nat) (k:Nat) es) K):Ŧ (BO w) (C3 w 30) (ER.drop 8) (Dh la lb mb op fb ds ks alo ahi blo bhi bi bj ñ es) K:=by
 rwa[NH.1.1]
 refine Kf (λm τ=>∃j k,Uw J la lb alo ahi blo bhi m j k/\τ=Dh la lb mb op fb ds ks alo ahi blo bhi (m:Nat) (j:Nat) (k:Nat) es) bi ⟨bj,ñ,hL,rfl⟩ λi τ R hI hf ht=>?_
 obtain⟨j,k,h,rfl⟩:=hI
 have out:(alo<i->blo<j->¬ Bn la lb (i-1) (j-1))->R false (Dh la lb mb op fb ds ks alo ahi blo bhi (i:Nat) (j:Nat) (k:Nat) es):=λq=>hf _ (by rwa[DV];exact hK i j k (h.fin q))
 rwa[p7]
 refine LQ (λc1=>LQ (λc2=>?_) λc2=>out λ_ z=>bQ8 (aD0.mpr z) c2) λc1=>out λz _=>bQ8 (aD0.mpr z) c1
 have c1:=aD0.mp c1
 have c2:=aD0.mp c2
 cases i with
 | zero=>exact bQ8 c1 (aG0 _)
 | succ i=>
 cases j with
 | zero=>exact bQ8 c2 (aG0 _)
 | succ j=>
 have ei:((i+1:Nat):Int)-1=(i:Int):=bA3 (i:Int) 1
 have ej:((j+1:Nat):Int)-1=(j:Int):=bA3 (j:Int) 1
 obtain⟨x,hx⟩:=XI (l:=la) (n:=i) (by have:=h.hi.1;exists 4,0x12103182aa081008,h2,this)
 obtain⟨y,hy⟩:=XI (l:=lb) (n:=j) (by have:=h.hi.2;exists 4,0x12103182aa081008,h4,this)
 refine WU ej hy hl (I3 ei hx hla (I3 ej hy hl (LB (λe=>?_) λn=>out λ_ _ ⟨z,ē,ż⟩=>n (aA3 (hx.symm.trans (ē.trans (ż.symm.trans hy)))))))
 refine ht _ ?_
 rwa[pR,ei,ej]
 exact⟨rfl,i,_,aC1 i,.refl _,j,k+1,h.step (aT3 c1) (aT3 c2) ⟨x,hx,e▸hy⟩,rfl⟩
def yB(hB:ģ J lb ds)(hla:la.length<=100000)(hl:lb.length<=100000)(hL:VY J la lb alo ahi blo bhi bi bj ñ)(h2:ahi<=la.length)(h4:bhi<=lb.length)
  (hK :∀k,KK J la lb alo ahi blo bhi bi bj k->Ŧ (BO w) (C3 w 30) (ER.drop 10) (Dh la lb mb op fb ds ks alo ahi blo bhi bi bj (k:Nat) es) K):Ŧ (BO w) (C3 w 30) (ER.drop 9) (Dh la lb mb op fb ds ks alo ahi blo bhi bi bj ñ es) K:=by
 rwa[NH.1.2]
 refine Kf (λm τ=>∃k,k+m=ahi/\VY J la lb alo ahi blo bhi bi bj k/\τ=Dh la lb mb op fb ds ks alo ahi blo bhi bi bj (k:Nat) es) (ahi-ñ) ⟨ñ,by have:=hL.hi.1;(exists 3,0x212b1a2210a08,this),hL,rfl⟩ λm τ R hI hf ht=>?_
 obtain⟨k,hm,h,rfl⟩:=hI
 have out:(bi+k<ahi->bj+k<bhi->¬ Bn la lb (bi+k) (bj+k))->R false (Dh la lb mb op fb ds ks alo ahi blo bhi bi bj (k:Nat) es):=λq=>hf _ (by rwa[DV];exact hK k (h.fin q))
 rwa[mZ]
 refine LQ (λc1=>LQ (λc2=>?_) λc2=>out λ_ z=>bQ8 (aD0.mpr z) c2) λc1=>out λz _=>bQ8 (aD0.mpr z) c1
 have c1:=aD0.mp c1
 have c2:=aD0.mp c2
 obtain⟨x,hx⟩:=XI (l:=la) (n:=bi+k) (aB2 c1 h2)
 obtain⟨y,hy⟩:=XI (l:=lb) (n:=bj+k) (aB2 c2 h4)
 refine WU rfl hy hl (I3 rfl hx hla (I3 rfl hy hl (LB (λe=>?_) λn=>out λ_ _ ⟨z,ē,ż⟩=>n (aA3 (hx.symm.trans (ē.trans (ż.symm.trans hy)))))))
 refine ht _ ?_
 rwa[pA]
 exact⟨m-1,_,by rename_i u0 _;(exists 4,0x1181b120f00f30fa48210a28,hm,u0),.refl _,k+1,by rename_i u0 _;(exists 4,0x2181b180aa220f00f30fa48210a28,hm,u0),h.step c1 c2 ⟨x,hx,e▸hy⟩,rfl⟩
def Xo{Q:ű->List Ξ->Prop}(S:BY (.lst (è la)) (.lst (è lb)) mb op fb (.dct ds) (.fset ks))(hB:ģ J lb ds)(hla:la.length<=100000)(hl:lb.length<=100000)(hL:đ (Fp la) (Ck J lb) alo ahi blo bhi bi bj ñ)(h2:ahi<=la.length)(h4:bhi<=lb.length)
  (hq :∀i j k:Nat,KK J la lb alo ahi blo bhi i j k->Q (.mat [.int (i:Int),.int (j:Int),.int (k:Int)]) [(ń,Av (.lst (è la)) (.lst (è lb)) mb op fb (.dct ds) (.fset ks))]):Ŧ (BO w) (C3 w 30) (ER.drop 8) (Dh la lb mb op fb ds ks alo ahi blo bhi bi bj ñ es) (AE 1 Q):=by
 refine vX hB hla hl (.start hL) h2 h4 λi j k h=>yB hB hla hl h h2 h4 λk h=>?_
 have sa:=aA2 h.str.2.2.1 h2
 have sb:=aA2 h.str.2.2.2.1 h4
 rwa[NH.2.1]
 refine HK (λR hR=>dZ.mpr (LQ (λc1=>LQ (λc2=>?_) λ_=>hR) λ_=>hR)) ?_
 ·have c2:=aD0.mp c2
  obtain⟨y,hy⟩:=XI (l:=lb) (n:=j-1) (by rename_i u2;exists 4,0x2180b100f30f48210a08,sb,u2)
  exact RB (n:=j-1) (by rename_i u2;exists 2,0x181b0f1810fb510f00f48,u2) hy hl hR
 rwa[DV]
 rwa[NH.2.2]
 refine HK (λR hR=>iX.mpr (LQ (λc1=>LQ (λc2=>?_) λ_=>hR) λ_=>hR)) ?_
 ·obtain⟨y,hy⟩:=XI (aB2 (aD0.mp c2) h4)
  exact RB rfl hy hl hR
 rwa[DV,gL]
 exact⟨⟨rfl,rfl,rfl⟩,CC (fl:=.ret _) rfl (.refl _) rfl rfl S.shut (hq i j k h)⟩
end
def Ub(P:aD7)(a b c d e:Value):(Ź (CJ P 196) [a,b,c,d,e]).1 (some ((FB P 189).getD #[]))=pure ([(("self":Str),a),(("alo":Str),b),(("ahi":Str),c),(("blo":Str),d),(("bhi":Str),e)]):=by rfl'
def pN{w:aC9}{d:Nat}:LT (œ w) (á w.params) (BO w) (d+2) ô Lr aM Kt ŷ:=VO (λ_ _ e=>nomatch e) (λ_=>Z0) (λe=>nomatch e) (λ_ e=>nomatch e)
def W0{w:aC9}{d:Nat}:As (œ w) (á w.params) (d+4) (.ref 196) BQ:=
 lL pN (Qk _).2.2 (Qk _).1 (Qk _).2.1 (ps:=["self","alo","ahi","blo","bhi"]) (by decide) (by rfl') (bL (T:=189) (by rfl') (by rfl') (Ub _)) λas os Q hh=>by
  obtain⟨J,la,lb,mb,op,fb,ds,ks,alo,ahi,blo,bhi,ea,eo,⟨S,hB⟩,⟨hla,hl⟩,⟨h1,h2⟩,⟨h3,h4⟩,hq⟩:=hh
  subst ea;subst eo
  have en:(B8 (alo:Int) ((ahi:Int)-(alo:Int)).toNat).length=ahi-alo:=(Bh _ _).trans (by exists 3,0x21b020820f10fbe00f58,(aH0 _))
  refine⟨⟨rfl,Bl S.shut⟩,qC.mpr ⟨rfl,rfl,⟨by(exists 1,0xf0f424091f3),by(exists 3,0xf4240910f3020821080186a09008,hla,h1,h2),by(exists 1,0xf0f424091f3),by exists 2,0xf4240910f301080186a09008,hla,h2⟩,λt σ=>ì J la lb mb op fb ds ks alo ahi blo bhi (alo+t) σ,⟨_,X0 S,alo,blo,0,[],Co.start,PJ.nil,rfl⟩,λt σ v hv hI=>?_,λσ hI=>?_⟩⟩
  ·have ht:=(aB3.mp hv).1
   rw[en]at ht
   have hi:alo+t<la.length:=by exists 4,0x123a130b2181008,h2,ht
   have e:some v=some (.int ((alo+t:Nat):Int)):=hv.symm.trans (Dd (by exists 4,0x3010820f10fbe30f5821b018,ht,(aH0 _)))
   cases aA3 e
   exact S5 S hB hla hl (aD5 _ _) hi hI
  ·rw[en,bE9 h1]at hI
   obtain⟨bi,bj,ñ,es,hb,hp,rfl⟩:=hI
   rwa[DV]
   exact Xo S hB hla hl (hb.done h1 h3) h2 h4 hq
def cE(s:aG8):Expr:=(O3 s).2.1
def CU:List aG8:=(By LU "get_matching_blocks").1
def GF:Scope:=(By LU "get_matching_blocks").2
def Py(P:aD7):(CJ P 203).body = .stmts CU/\(CJ P 203).scope=GF/\Au P 203=true:=⟨by rfl',by rfl',by rfl'⟩
noncomputable def cN:Pos->Bool:=λp=>aE6 p.line 368
abbrev Ao(w:aC9)(tr:ĉ):Ť:=TM w.params (Y9 196 tr) none false true Qp cN
abbrev BM(w:aC9)(tr:ĉ)(f:Nat):â:=Dk (Ao w tr) GF f
abbrev MI(w:aC9)(tr:ĉ)(f:Nat):Ŀ:=(Œ (Ao w tr) GF f).A
def Ng:Expr×List aG8:=gV (CU.getD 5 (.Pass AI))
def uG:List Expr:=NG (Ng.2.getD 0 (.Pass AI))
def tM:List Expr:=NG (Ng.2.getD 1 (.Pass AI))
def ñ:List aG8:=Hk (Ng.2.getD 2 (.Pass AI))
def fN:Expr×List aG8:=Dm (CU.getD 9 (.Pass AI))
def uE:aG8:=CU.getD 7 (.Pass AI)
def jU:Expr:=cE (CU.getD 12 (.Pass AI))
def tN:List Expr:=NG (CU.getD 12 (.Pass AI))
def rD(w:aC9)(tr:ĉ):ű->St->ĵ->Prop:=λv σ K=>MI w tr 29 fN.1 v σ λσ=>Ŧ (Ao w tr) (BM w tr 29) fN.2 σ K
abbrev ž(la lb:List Int)(mb op fb:ű)(ds:List (AC×ű))(ks:List AC):Ř:=.inst ń (Av (.lst (è la)) (.lst (è lb)) mb op fb (.dct ds) (.fset ks))
abbrev Ew(la lb:List Int)(mb op fb:ű)(ds:List (AC×ű))(ks:List AC)(n m:Int)(qs ms:List ű)(tl:List (Str×ű)):St:=⟨("self",.ref 0)::("lb",.int m)::("la",.int n)::("queue",.ref 1)::("matching_blocks",.ref 2)::tl,[(0,ž la lb mb op fb ds ks),(1,.list qs),(2,.list ms)],3,1⟩
abbrev uA(alo ahi blo bhi:Int):List (Str×ű):=[("alo",.int alo),("ahi",.int ahi),("blo",.int blo),("bhi",.int bhi)]
abbrev Mx(alo ahi blo bhi i j k:Int):List (Str×ű):=[("alo",.int alo),("ahi",.int ahi),("blo",.int blo),("bhi",.int bhi),("i",.int i),("j",.int j),("k",.int k),("x",.mat [.int i,.int j,.int k])]
abbrev tZ(la lb:List Int)(mb op fb:ű)(ds:List (AC×ű))(ks:List AC)(n m:Int)(ms:List ű):St:=⟨[("self",.ref 0),("lb",.int m),("la",.int n),("matching_blocks",.lst ms)],[(0,ž la lb mb op fb ds ks)],1,1⟩
abbrev Fe(la lb:List Int)(mb op fb:ű)(ds:List (AC×ű))(ks:List AC)(n m:Int)(ms:List ű)(i j k:Int)(na:List ű)(tl:List (Str×ű)):St:=⟨("self",.ref 0)::("lb",.int m)::("la",.int n)::("matching_blocks",.lst ms)::("i1",.int i)::("j1",.int j)::("k1",.int k)::("non_adjacent",.ref 1)::tl,[(0,ž la lb mb op fb ds ks),(1,.list na)],2,1⟩
abbrev Qn(i j k:Int):ű:=.tup [.int i,.int j,.int k]
abbrev Ln(i j k:Int):ű:=.mat [.int i,.int j,.int k]
abbrev Re(a b c d:Int):ű:=.tup [.int a,.int b,.int c,.int d]
section
variable{w:aC9}{tr:ĉ}{la lb:List Int}{mb op fb:ű}{ds:List (AC×ű)}{ks:List AC}{alo ahi blo bhi i j k n m i1 j1 k1:Int}{qs ms na out:List ű}{K:ĵ}{Q:ű->List Ξ->Prop}{R:Bool->St->Prop}{σ:St}
def lK:ŏ (Ao w tr) GF CU ((["self"]:List Str).zip [.ref 0]) [(ń,Av (.lst (è la)) (.lst (è lb)) .none op fb (.dct ds) (.fset ks))] Q =
  (AM (è la).length/\AM (è lb).length/\2=2/\F3 ((Œ (Ao w tr) GF 29).B Ng.1) (Ŧ (Ao w tr) (BM w tr 29) Ng.2) (Ŧ (Ao w tr) (BM w tr 29) []) (Ew la lb .none op fb ds ks (è la).length (è lb).length [Re 0 (è la).length 0 (è lb).length] [] []) (ç (Ao w tr) (BM w tr 30) (CU.drop 6) (AE 1 Q))):=by rfl'
def aS:ŏ (Ao w tr) GF CU (((["self"]:List Str).zip [.ref 0])) [(ń,Av (.lst (è la)) (.lst (è lb)) (.lst out) op fb (.dct ds) (.fset ks))] Q=AE 1 Q (.ret (.lst out)) (AT [("self",.ref 0)] [(ń,Av (.lst (è la)) (.lst (è lb)) (.lst out) op fb (.dct ds) (.fset ks))]):=by rfl'
def gF:(Œ (Ao w tr) GF 29).B Ng.1 (Ew la lb mb op fb ds ks n m qs ms []) R=(AM qs.length/\R (!qs.isEmpty) (Ew la lb mb op fb ds ks n m qs ms [])):=by rfl'
def dM:Ŧ (Ao w tr) (BM w tr 29) Ng.2 (Ew la lb mb op fb ds ks n m qs ms []) K=(AM qs.length/\∃v,qs.getLast?=some v/\Ex (MI w tr 28) uG v (Ew la lb mb op fb ds ks n m qs.dropLast ms []) λσ=>Ŧ (Ao w tr) (BM w tr 29) (Ng.2.drop 1) σ K):=by rfl'
def dK:(Ex (MI w tr 28) uG (Re alo ahi blo bhi) (Ew la lb mb op fb ds ks n m qs ms []) λσ=>Ŧ (Ao w tr) (BM w tr 29) (Ng.2.drop 1) σ K) =
  (4=4/\BI tr [.ref 0,.int alo,.int ahi,.int blo,.int bhi] (Ew la lb mb op fb ds ks n m qs ms (uA alo ahi blo bhi)) λr σ=>Ex (MI w tr 28) tM r σ λσ=>Ŧ (Ao w tr) (BM w tr 29) (Ng.2.drop 2) σ K):=by rfl'
def eY:(Ex (MI w tr 28) tM (Ln i j k) (Ew la lb mb op fb ds ks n m qs ms (uA alo ahi blo bhi)) λσ=>Ŧ (Ao w tr) (BM w tr 29) (Ng.2.drop 2) σ K) =
  (3=3/\BX (k != 0) (AM ms.length/\BX (decide (alo<i)) (BX (decide (blo<j)) (AM qs.length/\Ŧ (Ao w tr) (BM w tr 28) (ñ.drop 2) (Ew la lb mb op fb ds ks n m (qs++[Re alo i blo j]) (ms++[Ln i j k]) (Mx alo ahi blo bhi i j k)) (ç (Ao w tr) (BM w tr 29) [] K))
   (Ŧ (Ao w tr) (BM w tr 28) (ñ.drop 2) (Ew la lb mb op fb ds ks n m qs (ms++[Ln i j k]) (Mx alo ahi blo bhi i j k)) (ç (Ao w tr) (BM w tr 29) [] K))) (Ŧ (Ao w tr) (BM w tr 28) (ñ.drop 2) (Ew la lb mb op fb ds ks n m qs (ms++[Ln i j k]) (Mx alo ahi blo bhi i j k)) (ç (Ao w tr) (BM w tr 29) [] K)))
   (K .next (Ew la lb mb op fb ds ks n m qs ms (Mx alo ahi blo bhi i j k)))):=by rfl'
def eJ:Ŧ (Ao w tr) (BM w tr 28) (ñ.drop 2) (Ew la lb mb op fb ds ks n m qs ms (Mx alo ahi blo bhi i j k)) K=BX (decide (i+k<ahi)) (BX (decide (j+k<bhi)) (AM qs.length/\K .next (Ew la lb mb op fb ds ks n m (qs++[Re (i+k) ahi (j+k) bhi]) ms (Mx alo ahi blo bhi i j k)))
  (K .next (Ew la lb mb op fb ds ks n m qs ms (Mx alo ahi blo bhi i j k)))) (K .next (Ew la lb mb op fb ds ks n m qs ms (Mx alo ahi blo bhi i j k))):=by rfl'
def f9:Ŧ (Ao w tr) (BM w tr 30) (CU.drop 6) (Ew la lb mb op fb ds ks n m qs ms []) K=HG [.ref 2] (Ew la lb mb op fb ds ks n m qs ms []) λ_ σ=>Ŧ (Ao w tr) (BM w tr 30) (CU.drop 7) σ K:=by rfl'
def d9:Ŧ (Ao w tr) (BM w tr 30) (CU.drop 7) σ K =∃τ,A9 σ τ/\BM w tr 30 uE τ (ç (Ao w tr) (BM w tr 30) (CU.drop 8) K):=by rfl'
def fU:BM w tr 30 uE (tZ la lb mb op fb ds ks n m ms) (ç (Ao w tr) (BM w tr 30) (CU.drop 8) K)=(AD nn ms=some ms/\D7 ms (rD w tr) (Ŧ (Ao w tr) (BM w tr 29) []) (Fe la lb mb op fb ds ks n m ms 0 0 0 [] []) (ç (Ao w tr) (BM w tr 30) (CU.drop 10) K)):=by rfl'
def dT:rD w tr (Ln i j k) (Fe la lb mb op fb ds ks n m ms i1 j1 k1 na []) K=(3=3/\BX (decide (AC.int (i1+k1)=AC.int i)) (BX (decide (AC.int (j1+k1)=AC.int j)) (K .next (Fe la lb mb op fb ds ks n m ms i1 j1 (k1+k) na [("i2",.int i),("j2",.int j),("k2",.int k)]))
  (BX (k1 != 0) (AM na.length/\3=3/\K .next (Fe la lb mb op fb ds ks n m ms i j k (na++[Qn i1 j1 k1]) [("i2",.int i),("j2",.int j),("k2",.int k)])) (3=3/\K .next (Fe la lb mb op fb ds ks n m ms i j k na [("i2",.int i),("j2",.int j),("k2",.int k)]))))
  (BX (k1 != 0) (AM na.length/\3=3/\K .next (Fe la lb mb op fb ds ks n m ms i j k (na++[Qn i1 j1 k1]) [("i2",.int i),("j2",.int j),("k2",.int k)])) (3=3/\K .next (Fe la lb mb op fb ds ks n m ms i j k na [("i2",.int i),("j2",.int j),("k2",.int k)])))):=by rfl'
def aT:Ŧ (Ao w tr) (BM w tr 30) (CU.drop 10) (Fe la lb mb op fb ds ks n m ms i1 j1 k1 na []) K=BX (k1 != 0) (AM na.length/\Ŧ (Ao w tr) (BM w tr 30) (CU.drop 11) (Fe la lb mb op fb ds ks n m ms i1 j1 k1 (na++[Qn i1 j1 k1]) []) K) (Ŧ (Ao w tr) (BM w tr 30) (CU.drop 11) (Fe la lb mb op fb ds ks n m ms i1 j1 k1 na []) K):=by rfl'
def i6:Ŧ (Ao w tr) (BM w tr 30) (CU.drop 11) (Fe la lb mb op fb ds ks n m ms i1 j1 k1 na []) K=(AM na.length/\cU (Ao w tr) GF (A4 jU).1 (A4 jU).2.1 (Fe la lb mb op fb ds ks n m ms i1 j1 k1 (na++[Qn n m 0]) []) λv σ=>Ex (MI w tr 29) tN v σ λσ=>Ŧ (Ao w tr) (BM w tr 30) (CU.drop 13) σ K):=by rfl'
def hU:(Ex (MI w tr 29) tN (.lst out) (Fe la lb mb op fb ds ks n m ms i1 j1 k1 na []) λσ=>Ŧ (Ao w tr) (BM w tr 30) (CU.drop 13) σ K)=K (.ret (.lst out)) (Fe la lb (.lst out) op fb ds ks n m ms i1 j1 k1 na []):=by rfl'
end
end Mine
end
namespace Mine
abbrev Bu:=Nat×Nat×Nat
inductive Dn(J:Int->Bool)(la lb:List Int):Nat->Nat->Nat->Nat->List Bu->Prop
 | zero {alo ahi blo bhi i j:Nat} (h:KK J la lb alo ahi blo bhi i j 0):Dn J la lb alo ahi blo bhi []
 | step {alo ahi blo bhi i j k:Nat} {L R:List Bu} (h:KK J la lb alo ahi blo bhi i j k) (hk:0<k) (l:Dn J la lb alo i blo j L) (r:Dn J la lb (i+k) ahi (j+k) bhi R):Dn J la lb alo ahi blo bhi (L++(i,j,k)::R)
def Sn{J:Int->Bool}{la lb:List Int}{alo ahi blo bhi:Nat}(ha:alo<=ahi)(hb:blo<=bhi)(h:¬ (alo<ahi/\blo<bhi)):KK J la lb alo ahi blo bhi alo blo 0:=
 ⟨⟨0,0,0,⟨⟨aA6 _,aA6 _,ha,hb,λd hd=>bQ8 hd (aG0 d)⟩,λi' j' k' ⟨h1,h2,h3,h4,_⟩=>by(exists 7,0x840621501698643a08541a0832081008,h1,h2,h3,h4,h),λh=>bQ8 h (aL3 0),λ_=>⟨rfl,rfl⟩⟩,rfl,λd hd=>bQ8 hd (aG0 d),λd hd=>bQ8 hd (aG0 d)⟩,
  ⟨aA6 _,aA6 _⟩,⟨ha,hb⟩,λh=>bQ8 h (aL3 _),λh1 h2=>bQ8 ⟨h1,h2⟩ h⟩
def P0{J:Int->Bool}{la lb:List Int}{alo ahi blo bhi:Nat}(ha:alo<=ahi)(hb:blo<=bhi)(h:¬ (alo<ahi/\blo<bhi)):Dn J la lb alo ahi blo bhi []:=.zero (Sn ha hb h)
abbrev J6:=Nat×Nat×Nat×Nat
def Ĩ(J:Int->Bool)(la lb:List Int):List J6->List Bu->Prop
 | [],B=>B=[]
 | (alo,ahi,blo,bhi)::q,B=>∃L B',Dn J la lb alo ahi blo bhi L/\Ĩ J la lb q B'/\B=L++B'
def HV(J:Int->Bool)(la lb:List Int)(n m:Nat)(st:List J6)(ms:List Bu):Prop:=∀B,Ĩ J la lb st B->∃bs,Dn J la lb 0 n 0 m bs/\bs.Perm (ms++B)
def HV.start{J:Int->Bool}{la lb:List Int}{n m:Nat}:HV J la lb n m [(0,n,0,m)] []:=by
 rintro B ⟨L,B',h1,h2,rfl⟩
 have h2:B'=[]:=h2
 subst h2
 exact⟨L,h1,by simp⟩
theorem HV.zero{J:Int->Bool}{la lb:List Int}{n m alo ahi blo bhi i j:Nat}{st:List J6}{ms:List Bu}(h:HV J la lb n m ((alo,ahi,blo,bhi)::st) ms)(hL:KK J la lb alo ahi blo bhi i j 0):HV J la lb n m st ms:=λB hB=>h B ⟨[],B,.zero hL,hB,rfl⟩
def HV.fin{J:Int->Bool}{la lb:List Int}{n m:Nat}{ms:List Bu}(h:HV J la lb n m [] ms) :∃bs,Dn J la lb 0 n 0 m bs/\bs.Perm ms:=by
 obtain⟨bs,h1,h2⟩:=h [] rfl
 exact⟨bs,h1,by simpa using h2⟩
noncomputable def psh(c:Bool)(w:J6)(st:List J6):List J6:=if c then w::st else st
theorem Ĩ.psh{J:Int->Bool}{la lb:List Int}{c:Bool}{alo ahi blo bhi:Nat}{st:List J6}{B:List Bu}(ha:alo<=ahi)(hb:blo<=bhi)(hc:c=decide (alo<ahi/\blo<bhi))(h:Ĩ J la lb (psh c (alo,ahi,blo,bhi) st) B) :∃L B',Dn J la lb alo ahi blo bhi L/\Ĩ J la lb st B'/\B=L++B':=by
 cases c with
 | true=>exact h
 | false=>exact⟨[],B,P0 ha hb (of_decide_eq_false hc.symm),h,rfl⟩
theorem HV.step{J:Int->Bool}{la lb:List Int}{n m alo ahi blo bhi i j k:Nat}{st:List J6}{ms:List Bu}{c d:Bool}(h:HV J la lb n m ((alo,ahi,blo,bhi)::st) ms)(hL:KK J la lb alo ahi blo bhi i j k)(hk:0<k)(hc:c=decide (alo<i/\blo<j))(hd:d=decide (i+k<ahi/\j+k<bhi)) :
  HV J la lb n m (psh d (i+k,ahi,j+k,bhi) (psh c (alo,i,blo,j) st)) (ms++[(i,j,k)]):=by
 intro B hB
 obtain⟨s1,s2,s3,s4,s5⟩:=hL.str
 obtain⟨R,B1,r1,r2,rfl⟩:=Ĩ.psh s3 s4 hd hB
 obtain⟨L,B2,ĩ,ř,rfl⟩:=Ĩ.psh s1 s2 hc r2
 obtain⟨bs,b1,b2⟩:=h ((L++(i,j,k)::R)++B2) ⟨_,_,.step hL hk ĩ r1,ř,rfl⟩
 refine⟨bs,b1,b2.trans ?_⟩
 rw[aD1 ms]
 refine aV2 ms ?_
 rw[aD1]
 refine(List.perm_append_comm_assoc L _ B2).trans ?_
 simp only[List.cons_append,bJ2]
 exact bD6.refl _
noncomputable def ź:List J6->Nat
 | []=>0
 | (alo,ahi,_,_)::q=>2*(ahi-alo)+1+ź q
def Pi(c:Bool)(alo ahi blo bhi:Nat)(st:List J6):ź (psh c (alo,ahi,blo,bhi) st)<=2*(ahi-alo)+1+ź st:=by
 cases c
 ·show ź st<=_;exact id (ũ [_,_,_] 0x1821b02caa00 (by rfl'))
 ·exact aA6 _
def U8{J:Int->Bool}{la lb:List Int}{alo ahi blo bhi i j k:Nat}{st:List J6}{c d:Bool}(hL:KK J la lb alo ahi blo bhi i j k)(hk:0<k):ź (psh d (i+k,ahi,j+k,bhi) (psh c (alo,i,blo,j) st))<ź ((alo,ahi,blo,bhi)::st):=by
 obtain⟨s1,s2,s3,s4,s5⟩:=hL.str
 have h1:=Pi d (i+k) ahi (j+k) bhi (psh c (alo,i,blo,j) st)
 have h2:=Pi c alo i blo j st
 show _<2*(ahi-alo)+1+ź st
 exact id (ũ [_,_,_,_,_,_,_] 0x61813b02caa4161812b02caa50851802a3b02caa408302a08210800818 (by rfl') hk s1 s3 h1 h2)
def jR(n m:Nat)(st:List J6):Prop:=∀x∈st,x.1<=x.2.1/\x.2.1<=n/\x.2.2.1<=x.2.2.2/\x.2.2.2<=m
theorem jR.psh{n m:Nat}{st:List J6}{c:Bool}{x:J6}(h:jR n m st)(hx:x.1<=x.2.1/\x.2.1<=n/\x.2.2.1<=x.2.2.2/\x.2.2.2<=m):jR n m (psh c x st):=by
 cases c
 ·exact h
 ·intro y hy
  rcases aF4.mp hy with rfl | hy
  ·exact hx
  ·exact h y hy
theorem RQ :∀st:List J6,st.length<=ź st
 | []=>aA6 _
 | (a,b,c,d)::r=>by
  have:=RQ r
  show r.length+1<=2*(b-a)+1+ź r
  exact id (ũ [_,_,_,_] 0x11832b02caa180a01008 (by rfl') this)
def Dn.within{J:Int->Bool}{la lb:List Int}{alo ahi blo bhi:Nat}{bs:List Bu}(h:Dn J la lb alo ahi blo bhi bs) :∀b∈bs,alo<=b.1/\b.1+b.2.2<=ahi/\blo<=b.2.1/\b.2.1+b.2.2<=bhi/\0<b.2.2:=by
 induction h with
 | zero h=>intro b hb;cases hb
 | step h hk l r ihl ihr=>
  obtain⟨s1,s2,s3,s4,s5⟩:=h.str
  intro b hb
  rcases aD9.mp hb with hb | hb
  ·have:=ihl b hb;exists 10,0x7081473fa063f2f06276a06650670818373fa083f2f08076a086508413a08210a08,s3,s4,this.1,this.2.1,this.2.2.1,this.2.2.2.1,this.2.2.2.2
  ·rcases aF4.mp hb with rfl | hb
   ·exact⟨s1,s3,s2,s4,hk⟩
   ·have:=ihr b hb;exists 10,0x60813f62fa062f206765a065006608183f62fa082f43a08765a08541a0832081008,s1,s2,this.1,this.2.1,this.2.2.1,this.2.2.2.1,this.2.2.2.2
def Dn.sorted{J:Int->Bool}{la lb:List Int}{alo ahi blo bhi:Nat}{bs:List Bu}(h:Dn J la lb alo ahi blo bhi bs):bs.Pairwise λa b=>a.1+a.2.2<=b.1/\a.2.1+a.2.2<=b.2.1:=by
 induction h with
 | zero h=>exact .nil
 | step h hk l r ihl ihr=>
  obtain⟨s1,s2,s3,s4,s5⟩:=h.str
  rw[aF0]
  refine⟨ihl,aP2.mpr ⟨λb hb=>?_,ihr⟩,λa ha b hb=>?_⟩
  ·have:=r.within b hb
   exact⟨this.1,this.2.2.1⟩
  ·have h1:=l.within a ha
   rcases aF4.mp hb with rfl | hb
   ·exact⟨h1.2.1,h1.2.2.2.1⟩
   ·have h2:=r.within b hb;exists 8,0x713a0610a06754a08652a08413a08210a08,h1.2.1,h1.2.2.2.1,h2.1,h2.2.2.1
noncomputable def GG:Bu->List Bu->List Bu
 | (i,j,k),[]=>if k=0 then []else [(i,j,k)]
 | (i,j,k),(i2,j2,k2)::r=>if i+k=i2/\j+k=j2 then GG (i,j,k+k2) r else if k=0 then GG (i2,j2,k2) r else(i,j,k)::GG (i2,j2,k2) r
end Mine
section
open PySem PySem.W PyProof.Rows
namespace Mine
def Vd{k:Nat}{A B:Prop}(a:0<k->A)(b:k=0->B):BX ((k:Int) != 0) A B:=by
 by_cases h:k=0
 ·subst h;exact b rfl
 ·rwa[show((k:Int) != 0)=true from bne_iff_ne.mpr λz=>h (aM3 z)];exact a (aZ7 h)
def UW{p q:Prop} [Decidable p] [Decidable q] {A B:Prop} (a:p/\q->A) (b:¬ (p/\q)->B):BX (decide p) (BX (decide q) A B) B:=LQ (λh=>LQ (λh'=>a ⟨h,h'⟩) λh'=>b λz=>h' z.2) λh=>b λz=>h z.1
noncomputable abbrev ĺ(x:Nat):Int:=x
def GW(b:Bu):ű:=Ln (ĺ b.1) (ĺ b.2.1) (ĺ b.2.2)
def eA(b:Bu):ű:=Qn (ĺ b.1) (ĺ b.2.1) (ĺ b.2.2)
def NO(x:J6):ű:=Re (ĺ x.1) (ĺ x.2.1) (ĺ x.2.2.1) (ĺ x.2.2.2)
def bX(b:Bu):List ű:=[.int (ĺ b.1),.int (ĺ b.2.1),.int (ĺ b.2.2)]
def EO{α:Type}{f:α->ű}(h :∀b,(f b).sub nn=some (f b))(l:List α):AD nn (l.map f)=some (l.map f):=aB4 (motive:=λl=>AD nn (l.map f)=some (l.map f)) rfl (λa r ih=>BE (h a) ih) l
def TC{α:Type}{g:ű->Option (List Int)}{f:α->ű}{x:α->List Int}(h :∀b,g (f b)=some (x b))(l:List α):DX g (l.map f)=some (l.map x):=aB4 (motive:=λl=>DX g (l.map f)=some (l.map x)) rfl (λa r ih=>by
 show(g (f a)).bind (λy=>(DX g (r.map f)).map (y :: ·))=_
 rewrite [h];rwa[ih];rfl) l
def RT{α:Type}{f:α->ű}{Œ vs:List ű}(h:Œ.Perm vs) :∀{ms:List α},vs=ms.map f->∃bs:List α,bs.Perm ms/\Œ=bs.map f:=by
 induction h with
 | nil=>
  intro ms e
  cases ms with
  | nil=>exact⟨[],.refl _,rfl⟩
  | cons _ _=>cases e
 | cons v _ ih=>
  intro ms e
  cases ms with
  | nil=>cases e
  | cons b r=>
   injection e with e1 e2
   obtain⟨bs,p,q⟩:=ih e2
   exact⟨b::bs,p.cons b,by rwa[e1,q];rfl⟩
 | swap v w l=>
  intro ms e
  cases ms with
  | nil=>cases e
  | cons b r=>
   injection e with e1 e2
   cases r with
   | nil=>cases e2
   | cons c r=>
    injection e2 with e3 e4
    exact⟨c::b::r,.swap _ _ _,by rwa[e1,e3,e4];rfl⟩
 | trans _ _ ih1 ih2=>
  intro ms e
  obtain⟨b1,Ž,q1⟩:=ih2 e
  obtain⟨b2,Ń,õ⟩:=ih1 q1
  exact⟨b2,Ń.trans Ž,õ⟩
def Iy{k:SK}{α:Type}{f:α->ű}{x:α->List Int}(h :∀b,Ht k (f b)=some (x b)){ms:List α}(hl:ms.length<=100000){K:List ű->Prop}(q :∀bs:List α,bs.Perm ms->bs.Pairwise (λa b=>Ad (x b) (x a)=false)->K (bs.map f)):HX k (ms.map f) K:=by
 refine⟨by rw[TC h];rfl,aA2 (aB7 (aB5 ..)) hl,λŒ hp ⟨ys,e,hs⟩=>?_⟩
 obtain⟨bs,p,rfl⟩:=RT hp rfl
 rw[TC h]at e
 cases e
 exact q bs p (aV7.mp hs)
def pC{x y:Int}{xs ys:List Int}(h:x<y):Ad (y::ys) (x::xs)=false:=by
 unfold Ad
 rwa[bQ7 (Int.ne_of_gt h)]
 exact bR0 (Int.lt_asymm h)
abbrev ZA(b:Bu):List Int:=[ĺ b.1,ĺ b.2.1,ĺ b.2.2]
def VG{J:Int->Bool}{la lb:List Int}{a b c d:Nat}{ms bs:List Bu}(h:Dn J la lb a b c d bs)(hp:bs.Perm ms)(hl:bs.length<=100000){K:List ű->Prop}(q:K (bs.map GW)):HX .mat (ms.map GW) K:=
 Iy (x:=ZA) (λ_=>rfl) (hp.length_eq▸hl) λcs p hs=>by
  have e:cs=bs:=bD6.eq_of_pairwise (le:=λa b=>Ad (ZA b) (ZA a)=false) (λa b _ _ p q=>by
   have e:=GO q p
   injection e with e1 e
   injection e with e2 e
   injection e with e3 e
   obtain⟨a1,a2,a3⟩:=a
   obtain⟨b1,b2,b3⟩:=b
   cases aM3 e1
   cases aM3 e2
   cases aM3 e3
   rfl) hs (aY2 (λ{a b} ha _ z=>pC (aD0.mpr (aB2 (aN8 (h.within a ha).2.2.2.2) z.1))) h.sorted) (p.trans hp.symm)
  exact e▸q
def Dn.len{J:Int->Bool}{la lb:List Int}{a b c d:Nat}{bs:List Bu}(h:Dn J la lb a b c d bs):bs.length<=b-a:=by
 induction h with
 | zero=>exact aD4 _
 | step hL hk _ _ ih1 ih2=>
  have:=hL.str
  rwa[aB0,aN5]
  exists 6,0x35b184a1a0502a08230802a5b40832b10800818,hk,ih1,ih2,this.1,this.2.2.1
def XG{w:aC9}{tr:ĉ}{la lb:List Int}{mb op fb:ű}{ds:List (AC×ű)}{ks:List AC}{n m i j k:Int}{ms na:List ű}{Q:ű->St->Prop}{vss:List (List ű)}(e:na=vss.map .tup)(ht:Gl vss)(hl:vss.length<=1000000)(q:Q (.lst (EW vss)) (Fe la lb mb op fb ds ks n m ms i j k na [])) :
  cU (Ao w tr) GF (A4 jU).1 (A4 jU).2.1 (Fe la lb mb op fb ds ks n m ms i j k na []) Q:=by
 refine⟨"list",⟨380,31,380,35⟩,"map",⟨380,36,380,39⟩,"Match",⟨380,40,380,45⟩,⟨380,40,380,51⟩,"non_adjacent",⟨380,53,380,65⟩,⟨380,36,380,66⟩,⟨by rfl',by rfl'⟩,by rfl',⟨by rfl',by rfl',by rfl'⟩,⟨by rfl',by rfl',by rfl'⟩,?_⟩
 have h:(∃vss,Ak (Fe la lb mb op fb ds ks n m ms i j k na []) (.ref 1)=some (vss.map .tup)/\Gl vss/\vss.length<=1000000/\Q (.lst (EW vss)) (Fe la lb mb op fb ds ks n m ms i j k na [])):=⟨vss,bQ5 some e,ht,hl,q⟩
 exact(show(∃vss,Ak (Fe la lb mb op fb ds ks n m ms i j k na []) (.ref 1)=some (vss.map .tup)/\Gl vss/\vss.length<=1000000/\Q (.lst (EW vss)) (Fe la lb mb op fb ds ks n m ms i j k na []))=HO (Ao w tr) GF "non_adjacent" (Fe la lb mb op fb ds ks n m ms i j k na []) (λv σ=>∃vss,Ak σ v=some (vss.map .tup)/\Gl vss/\vss.length<=1000000/\Q (.lst (EW vss)) σ)from by rfl').mp h
def FV(bs:List Bu)(n m:Nat):List ű:=(GG (0,0,0) bs++[(n,m,0)]).map GW
def F7(bs:List Bu)(n m:Nat):(ű.lst (FV bs n m)).sub nn=some (.lst (FV bs n m)):=Ag (EO (λ_=>rfl) _)
def RH{c:Bool}{x:J6}{st:List J6}:((psh c x st).map NO).reverse=(st.map NO).reverse++bif c then [NO x]else []:=by
 cases c with
 | true=>exact(bQ5 List.reverse (aR7 ..)).trans (aV9 ..)
 | false=>exact(aE1 _).symm
section
variable{w:aC9}{J:Int->Bool}{la lb:List Int}{mb op fb:ű}{ds:List (AC×ű)}{ks:List AC}{n m:Int}{alo ahi blo bhi:Nat}{qs ms:List ű}{K:ĵ}
def Rf{a b c d x y z:Int}:A9 (Ew la lb mb op fb ds ks n m qs ms (Mx a b c d x y z)) (Ew la lb mb op fb ds ks n m qs ms []):=
 .less (ρ:=(Ew la lb mb op fb ds ks n m qs ms []).ρ++Mx a b c d x y z) (λx v e=>Bq e) λ_ _=>id
def aQ{a b c d:Int}:AD (GD [0]) [.ref 0,.int a,.int b,.int c,.int d]=some [.ref 0,.int a,.int b,.int c,.int d]:=rfl
def Zd(S:BY (.lst (è la)) (.lst (è lb)) mb op fb (.dct ds) (.fset ks))(hB:ģ J lb ds)(hla:la.length<=100000/\lb.length<=100000)(ha:alo<=ahi/\ahi<=la.length)(hb:blo<=bhi/\bhi<=lb.length)(hq:qs.length+2<=1000000)(hm:ms.length<=1000000)
  (h :∀i j k,KK J la lb alo ahi blo bhi i j k->(k=0->K .next (Ew la lb mb op fb ds ks n m qs ms (Mx alo ahi blo bhi i j k)))/\(0<k->K .next (Ew la lb mb op fb ds ks n m (qs++(bif decide (alo<i/\blo<j)then [NO (alo,i,blo,j)]else [])++(bif decide (i+k<ahi/\j+k<bhi)then [NO (i+k,ahi,j+k,bhi)]else [])) (ms++[GW (i,j,k)]) (Mx alo ahi blo bhi i j k)))) :
  Ŧ (Ao w BQ) (BM w BQ 29) Ng.2 (Ew la lb mb op fb ds ks n m (qs++[NO (alo,ahi,blo,bhi)]) ms []) K:=by
 rwa[dM]
 refine⟨aA2 (aB7 aB0) (aL7 hq),_,List.getLast?_concat,?_⟩
 rwa[List.dropLast_concat]
 refine dK.mpr ⟨rfl,DW (D:=ń) (at_:=Av (.lst (è la)) (.lst (è lb)) mb op fb (.dct ds) (.fset ks)) S.shut rfl aQ ⟨J,la,lb,mb,op,fb,ds,ks,alo,ahi,blo,bhi,rfl,rfl,⟨S,hB⟩,hla,ha,hb,λi j k hL=>?_⟩⟩
 obtain⟨ŝ,h1⟩:=h i j k hL
 refine eY.mpr ⟨rfl,Vd (λhk=>⟨hm,?_⟩) ŝ⟩
 have h1:=h1 hk
 have fin :∀q:List ű,q.length<=1000000->K .next (Ew la lb mb op fb ds ks n m (q++(bif decide (i+k<ahi/\j+k<bhi)then [NO (i+k,ahi,j+k,bhi)]else [])) (ms++[GW (i,j,k)]) (Mx alo ahi blo bhi i j k))->Ŧ (Ao w BQ) (BM w BQ 28) (ñ.drop 2) (Ew la lb mb op fb ds ks n m q (ms++[Ln i j k]) (Mx alo ahi blo bhi i j k)) (ç (Ao w BQ) (BM w BQ 29) [] K):=λq hq z=>by
  refine eJ.mpr (UW (λc=>⟨hq,?_⟩) λc=>?_)
  ·rw[bQ9 (show i+k<ahi/\j+k<bhi from⟨aD0.mp c.1,aD0.mp c.2⟩)]at z
   exact z
  ·rw[bR0 (show ¬ (i+k<ahi/\j+k<bhi)from λz=>c ⟨aD0.mpr z.1,aD0.mpr z.2⟩)]at z
   exact(aE1 q)▸z
 refine UW (λc=>⟨aL7 (aL7 hq),fin _ (aA2 (aB7 aB0) (aL7 hq)) ?_⟩) λc=>fin _ (aL7 (aL7 hq)) ?_
 ·rw[bQ9 (show alo<i/\blo<j from⟨aD0.mp c.1,aD0.mp c.2⟩)]at h1
  exact h1
 ·rw[bR0 (show ¬ (alo<i/\blo<j)from λz=>c ⟨aD0.mpr z.1,aD0.mpr z.2⟩)]at h1
  exact(aE1 qs)▸h1
end
section
section
variable{w:aC9}{J:Int->Bool}{la lb:List Int}{mb op fb:ű}{ds:List (AC×ű)}{ks:List AC}{K:ĵ}{Q:ű->List Ξ->Prop}{n m:Nat}{bs ms:List Bu}
def MD{n m a b c:Int}{x y z:Int}{ms na:List ű}:A9 (Fe la lb mb op fb ds ks n m ms a b c na [("i2",.int x),("j2",.int y),("k2",.int z)]) (Fe la lb mb op fb ds ks n m ms a b c na []):=
 .less (ρ:=(Fe la lb mb op fb ds ks n m ms a b c na []).ρ++([("i2",.int x),("j2",.int y),("k2",.int z)]:List (Str×ű))) (λx v e=>Bq e) λ_ _=>id
def Ă(la lb:List Int)(mb op fb:ű)(ds:List (AC×ű))(ks:List AC)(n m:Nat)(bs:List Bu)(t:Nat)(σ:St):Prop:=∃(i j k:Nat) (na:List Bu),na++GG (i,j,k) (bs.drop t)=GG (0,0,0) bs/\na.length<=t/\σ=Fe la lb mb op fb ds ks (ĺ n) (ĺ m) (bs.map GW) (ĺ i) (ĺ j) (ĺ k) (na.map eA) []
def HJ{α:Type}{f:α->ű}{na:List α}{t:Nat}(h:na.length<=t)(ht:t<=200000):AM (na.map f).length:=aA2 (aB7 (aB5 ..)) (aA2 h (aA2 ht (by decide)))
def FE{α:Type}{f:α->ű}{na:List α}{b:α}:na.map f++[f b]=(na++[b]).map f:=(aH4 (l₁:=na) (l₂:=[b]) (f:=f)).symm
def dB(l:List Bu):l.map eA=(l.map bX).map .tup:=(aR5 (l:=l) (f:=bX) (g:=ű.tup)).symm
def eV(l:List Bu):EW (l.map bX)=l.map GW:=aR5 (l:=l) (f:=bX) (g:=ű.mat)
def Xl{t:Nat}{v:ű}{σ:St}(hl:bs.length<=100000)(hv:(bs.map GW)[t]?=some v)(hI:Ă la lb mb op fb ds ks n m bs t σ):rD w BQ v σ (E6 (λσ=>∃τ,A9 σ τ/\Ă la lb mb op fb ds ks n m bs (t+1) τ) K):=by
 obtain⟨i,j,k,na,h1,h2,rfl⟩:=hI
 obtain⟨b,hb,rfl⟩:=aO1.mp ((aD6 ..).symm.trans hv)
 obtain⟨ht,hb⟩:=aB3.mp hb
 rw[aF9 ht,hb]at h1
 obtain⟨i2,j2,k2⟩:=b
 have hsz:na.length<=100000:=aA2 h2 (aA2 (aG2 ht) hl)
 have ne:¬ (AC.int (ĺ i+ĺ k)=AC.int (ĺ i2)/\AC.int (ĺ j+ĺ k)=AC.int (ĺ j2))->¬ (i+k=i2/\j+k=j2):=λc z=>c ⟨z.1▸rfl,z.2▸rfl⟩
 refine dT.mpr ⟨rfl,UW (λc=>⟨_,MD,i,j,k+k2,na,?_,aF5 h2,rfl⟩) λc=>Vd (λhk=>⟨HJ hsz (by decide),rfl,_,MD,i2,j2,k2,na++[(i,j,k)],?_,aA2 (aB7 aB0) (aF7 h2),?_⟩) λhk=>⟨rfl,_,MD,i2,j2,k2,na,?_,aF5 h2,rfl⟩⟩
 ·have e:i+k=i2/\j+k=j2:=⟨aM3 (AC.int.inj c.1),aM3 (AC.int.inj c.2)⟩
  rw[GG,bQ6 e]at h1
  exact h1
 ·rw[GG,bQ7 (ne c),bQ7 (aO2 hk)]at h1
  rw[aD1]
  exact h1
 ·exact bQ5 (λl=>Fe la lb mb op fb ds ks (ĺ n) (ĺ m) (bs.map GW) (ĺ i2) (ĺ j2) (ĺ k2) l []) (FE (f:=eA) (b:=(i,j,k)))
 ·rw[GG,bQ7 (ne c),bQ6 hk]at h1
  exact h1
def jD{σ:St}(S:BY (.lst (è la)) (.lst (è lb)) mb op fb (.dct ds) (.fset ks))(hl:bs.length<=100000)(hI:Ă la lb mb op fb ds ks n m bs bs.length σ)(hq:Q (.lst (FV bs n m)) [(ń,Av (.lst (è la)) (.lst (è lb)) (.lst (FV bs n m)) op fb (.dct ds) (.fset ks))]):Ŧ (Ao w BQ) (BM w BQ 30) (CU.drop 10) σ (AE 1 Q):=by
 obtain⟨i,j,k,na,h1,h2,rfl⟩:=hI
 rw[List.drop_length]at h1
 have fin :∀na':List Bu,na'=GG (0,0,0) bs->na'.length<=100001->Ŧ (Ao w BQ) (BM w BQ 30) (CU.drop 11) (Fe la lb mb op fb ds ks (ĺ n) (ĺ m) (bs.map GW) (ĺ i) (ĺ j) (ĺ k) (na'.map eA) []) (AE 1 Q):=λna' e hz=>by
  subst e
  have so:=F7 bs n m
  refine i6.mpr ⟨HJ hz (by decide),XG (vss:=(GG (0,0,0) bs++[(n,m,0)]).map bX) ((FE (f:=eA) (b:=(n,m,0))).trans (dB _)) (λa vs e=>?_) (aA2 (aB7 ((aB5 ..).trans aB0)) (aA2 (aF7 hz) (by decide))) (hU.mpr ?_)⟩
  ·obtain⟨b,_,rfl⟩:=aO1.mp ((aD6 ..).symm.trans e)
   exact⟨rfl,rfl⟩
  ·rwa[eV (GG (0,0,0) bs++[(n,m,0)])]
   exact CC (fl:=.ret _) (at_:=Av (.lst (è la)) (.lst (è lb)) (.lst (FV bs n m)) op fb (.dct ds) (.fset ks)) rfl (.refl _) rfl so (BY.shut ⟨S.a,S.b,so,S.op,S.fb,S.b2j,S.bj⟩) hq
 have hz:na.length<=100000:=aA2 h2 hl
 refine aT.mpr (Vd (λhk=>⟨HJ hz (by decide),?_⟩) λhk=>?_)
 ·rw[GG,bQ7 (aO2 hk)]at h1
  have:=fin (na++[(i,j,k)]) h1 (aA2 (aB7 aB0) (aF7 hz))
  rw[<-FE]at this
  exact this
 ·rw[GG,bQ6 hk,aE1]at h1
  exact fin na h1 (aF5 hz)
def i3(S:BY (.lst (è la)) (.lst (è lb)) mb op fb (.dct ds) (.fset ks))(hR:Dn J la lb 0 n 0 m bs)(hp:bs.Perm ms)(hl:bs.length<=100000)(hq:Q (.lst (FV bs n m)) [(ń,Av (.lst (è la)) (.lst (è lb)) (.lst (FV bs n m)) op fb (.dct ds) (.fset ks))]) :
  Ŧ (Ao w BQ) (BM w BQ 30) (CU.drop 6) (Ew la lb mb op fb ds ks (ĺ n) (ĺ m) [] (ms.map GW) []) (AE 1 Q):=by
 have hs:AD nn (bs.map GW)=some (bs.map GW):=EO (λ_=>rfl) bs
 rwa[f9]
 show AM (ms.map GW).length/\HX .mat (ms.map GW) λŒ=>Ŧ (Ao w BQ) (BM w BQ 30) (CU.drop 7) (Ew la lb mb op fb ds ks (ĺ n) (ĺ m) [] Œ []) (AE 1 Q)
 refine⟨HJ (hp.length_eq▸hl) (by decide),VG hR hp hl ?_⟩
 rwa[d9]
 refine⟨tZ la lb mb op fb ds ks (ĺ n) (ĺ m) (bs.map GW),.re [0] [(2,.lst (bs.map GW))] rfl rfl rfl rfl (BL rfl rfl rfl (bQ5 (aE0 (ű.seq .lst)) hs) CQ) (Bs rfl rfl (Bs rfl rfl (Bs rfl rfl (Bs rfl rfl B0)))) (RY rfl rfl (QU S) BZ),?_⟩
 rwa[fU]
 refine⟨hs,Ă la lb mb op fb ds ks n m bs,⟨_,.refl _,0,0,0,[],rfl,aA6 _,rfl⟩,λt σ v hv hI=>Xl hl hv hI,λσ hI=>?_⟩
 rw[aB5]at hI
 rwa[DV]
 exact jD S hl hI hq
def Ĕ(J:Int->Bool)(la lb:List Int)(mb op fb:ű)(ds:List (AC×ű))(ks:List AC)(k:Nat)(σ:St):Prop:=∃(st:List J6) (ms:List Bu),ź st=k/\(ź st+ms.length<=2*la.length+1/\jR la.length lb.length st)/\HV J la lb la.length lb.length st ms/\σ=Ew la lb mb op fb ds ks (ĺ la.length) (ĺ lb.length) ((st.map NO).reverse) (ms.map GW) []
def Ÿ(J:Int->Bool)(la lb:List Int)(mb:ű):Prop:=mb = .none\/∃bs,Dn J la lb 0 la.length 0 lb.length bs/\mb = .lst (FV bs la.length lb.length)
def Qj:ĉ:=λas os Q=>∃(J:Int->Bool) (la lb:List Int) (mb op fb:ű) (ds:List (AC×ű)) (ks:List AC),as=[.ref 0]/\os=[(ń,Av (.lst (è la)) (.lst (è lb)) mb op fb (.dct ds) (.fset ks))]/\(BY (.lst (è la)) (.lst (è lb)) mb op fb (.dct ds) (.fset ks)/\ģ J lb ds)/\Ÿ J la lb mb/\(la.length<=100000/\lb.length<=100000)/\
 ∀bs,Dn J la lb 0 la.length 0 lb.length bs->Q (.lst (FV bs la.length lb.length)) [(ń,Av (.lst (è la)) (.lst (è lb)) (.lst (FV bs la.length lb.length)) op fb (.dct ds) (.fset ks))]
def d4{b:Bool}{A B:Prop}(e:b=false)(h:B):BX b A B:=e▸h
def bI{b:Bool}{A B:Prop}(e:b=true)(h:A):BX b A B:=e▸h
def Wn{k:Nat}{σ:St}(S:BY (.lst (è la)) (.lst (è lb)) mb op fb (.dct ds) (.fset ks))(hB:ģ J lb ds)(hz:la.length<=100000/\lb.length<=100000)(hq :∀bs,Dn J la lb 0 la.length 0 lb.length bs->Q (.lst (FV bs la.length lb.length)) [(ń,Av (.lst (è la)) (.lst (è lb)) (.lst (FV bs la.length lb.length)) op fb (.dct ds) (.fset ks))])(hI:Ĕ J la lb mb op fb ds ks k σ) :
  (Œ (Ao w BQ) GF 29).B Ng.1 σ λc σ=>BX c (Ŧ (Ao w BQ) (BM w BQ 29) Ng.2 σ (E6 (λσ=>∃m' τ,m'<k/\A9 σ τ/\Ĕ J la lb mb op fb ds ks m' τ) K)) (Ŧ (Ao w BQ) (BM w BQ 29) [] σ (ç (Ao w BQ) (BM w BQ 30) (CU.drop 6) (AE 1 Q))):=by
 obtain⟨st,ms,rfl,⟨hw,ho⟩,hP,rfl⟩:=hI
 have hst:=RQ st
 have ĸ :∀{x:Nat},x<=2*la.length+1->x+2<=1000000:=λh=>by exists 2,0xf42409281a018002ca1080186a09008,hz.1,h
 have hsz:((st.map NO).reverse).length=st.length:=(bF3 ..).trans (aB5 ..)
 have hms:(ms.map GW).length<=1000000:=aA2 (aB7 (aB5 ..)) (aU6 (ĸ (aA2 (Nat.le_add_left ..) hw)))
 rwa[gF]
 refine⟨aA2 (aB7 hsz) (aU6 (ĸ (aA2 hst (aA2 (aD5 ..) hw)))),?_⟩
 cases st with
 | nil=>
  obtain⟨bs,b1,b2⟩:=hP.fin
  refine d4 rfl ?_
  rwa[DV]
  exact i3 S b1 b2 (aA2 b1.len hz.1) (hq bs b1)
 | cons x st=>
  obtain⟨alo,ahi,blo,bhi⟩:=x
  have hx:=ho _ (aC0 ..)
  have ho':jR la.length lb.length st:=λy hy=>ho y (aC7 _ hy)
  have e:(((alo,ahi,blo,bhi)::st).map NO).reverse=(st.map NO).reverse++[NO (alo,ahi,blo,bhi)]:=(bQ5 List.reverse (aR7 ..)).trans (aV9 ..)
  have e2:(!((((alo,ahi,blo,bhi)::st).map NO).reverse).isEmpty)=true:=by rwa[e];cases(st.map NO).reverse<;>rfl
  refine bI e2 ?_
  rwa[e]
  refine Zd S hB hz ⟨hx.1,hx.2.1⟩ ⟨hx.2.2.1,hx.2.2.2⟩ (ĸ (aA2 (aB7 ((bF3 ..).trans (aB5 ..))) (aA2 (aL7 hst) (aA2 (aD5 ..) hw)))) hms λi j k hL=>⟨λhk=>?_,λhk=>?_⟩
  ·subst hk
   have:ź st<ź ((alo,ahi,blo,bhi)::st):=aB2 (aC1 _) (by show _<=2*(ahi-alo)+1+ź st;omega)
   exact⟨ź st,_,this,Rf,st,ms,rfl,⟨by(exists 4,0x18202ca13a0031818202ca10a08,hw,this),ho'⟩,hP.zero hL,rfl⟩
  ·have lt:=U8 (st:=st) (c:=decide (alo<i/\blo<j)) (d:=decide (i+k<ahi/\j+k<bhi)) hL hk
   obtain⟨s1,s2,s3,s4,s5⟩:=hL.str
   refine⟨_,_,lt,Rf,_,ms++[(i,j,k)],rfl,⟨?_,(ho'.psh ⟨s1,aA2 (aU6 s3) hx.2.1,s2,aA2 (aU6 s4) hx.2.2.2⟩).psh ⟨s3,hx.2.1,s4,hx.2.2.2⟩⟩,hP.step hL hk rfl rfl,?_⟩
   ·rwa[aB0]
    show _+(ms.length+1)<=_
    exact id (ũ [_,_,_,_] 0x18202ca181a3a0031818202ca10a08 (by rfl') hw lt)
   ·rwa[RH,RH,FE.symm];rfl
end
variable{w:aC9}{d:Nat}
def mD:LT (œ w) (á w.params) (Ao w BQ) (d+3) ô Lr aM Kt ŷ:=
 VO (λf t e=>BD (b:=aE6 f 196) (x:=some BQ) (y:=none) e (λq e=>aB8 q▸aA3 e▸W0) AA) (λe=>nomatch e) (λ_=>U0) (λ_ e=>nomatch e)
def Z4:As (œ w) (á w.params) (d+5) (.ref 203) Qj:=
 Of mD (Py _).2.2 (Py _).1 (Py _).2.1 (ps:=["self"]) (by decide) (by rfl') (Nd λa=>by rfl') λas os Q hh=>by
  obtain⟨J,la,lb,mb,op,fb,ds,ks,ea,eo,⟨S,hB⟩,hmb,hz,hq⟩:=hh
  subst ea;subst eo
  refine⟨⟨rfl,Bl S.shut⟩,?_⟩
  rcases hmb with rfl | ⟨bs,hR,rfl⟩
  rotate_left
  ·exact aS.mpr (CC (fl:=.ret _) rfl (.refl _) rfl S.mb S.shut (hq bs hR))
  show ŏ (Ao w BQ) GF CU _ _ Q
  rwa[lK];rw[Az,Az]
  refine⟨LK hz.1,LK hz.2,rfl,Ĕ J la lb .none op fb ds ks,2*la.length+1,⟨_,.refl _,[(0,la.length,0,lb.length)],[],rfl,⟨aA6 _,λx hx=>?_⟩,.start,rfl⟩,λm σ hI=>?_⟩
  ·rwa[aA7.mp hx]
   exact⟨aD4 _,aA6 _,aD4 _,aA6 _⟩
  ·exact Wn S hB hz hq hI
end
def OQ:List aG8:=(By LU "get_opcodes").1
def YZ:Scope:=(By LU "get_opcodes").2
def S8(P:aD7):(CJ P 210).body = .stmts OQ/\(CJ P 210).scope=YZ/\Au P 210=true:=⟨by rfl',by rfl',by rfl'⟩
abbrev BP(w:aC9):Ť:=Ž w 203 Qj
abbrev BV(w:aC9)(f:Nat):â:=Dk (BP w) YZ f
def ć:Expr×List aG8:=Dm (OQ.getD 4 (.Pass AI))
def n8(w:aC9):ű->St->ĵ->Prop:=λv σ K=>(Œ (BP w) YZ 29).A ć.1 v σ λσ=>Ŧ (BP w) (BV w 29) ć.2 σ K
noncomputable def FD(s:aG8):List aG8:=(O3 s).2.2.2
abbrev ķ(a0 b0 mb fb:ű)(ds:List (AC×ű))(bp:ű)(i j:Int)(L:List ű)(tl:List (Str×ű)):St:=⟨("self",.ref 0)::("i",.int i)::("j",.int j)::("answer",.ref 1)::tl,[(0,.inst ń (Av a0 b0 mb (.ref 1) fb (.dct ds) bp)),(1,.list L)],2,1⟩
section
abbrev rH(u:ű)(F:List ű->Prop):Prop:=Aa (T6 u) λvs=>AD nn vs=some vs/\F vs
variable{w:aC9}{a0 b0 mb fb bp:ű}{ds:List (AC×ű)}{i j ai bj sz:Int}{L:List ű}{tl:List (Str×ű)}{K:ĵ}
def sR:Ŧ (BP w) (BV w 30) OQ (AT [("self",.ref 0)] [(ń,Av a0 b0 mb .none fb (.dct ds) bp)]) K =
  BI Qj [.ref 0] (ķ a0 b0 mb fb ds bp 0 0 [] []) λu σ=>rH u λvs=>D7 vs (n8 w) (Ŧ (BP w) (BV w 29) []) σ (ç (BP w) (BV w 30) (OQ.drop 5) K):=by rfl'
def aL:Ŧ (BP w) (BV w 30) OQ (AT [("self",.ref 0)] [(ń,Av a0 b0 mb (.lst L) fb (.dct ds) bp)]) K=K (.ret (.lst L)) (AT [("self",.ref 0)] [(ń,Av a0 b0 mb (.lst L) fb (.dct ds) bp)]):=by rfl'
abbrev tK(ai bj sz:Int)(t:Str):List (Str×ű):=[("ai",.int ai),("bj",.int bj),("size",.int sz),("tag",.str t)]
noncomputable abbrev cP(a0 b0 mb fb:ű)(ds:List (AC×ű))(bp:ű)(i j ai bj sz:Int)(L:List ű)(t:Str):St:=ķ a0 b0 mb fb ds bp i j L (tK ai bj sz t)
def gP:n8 w (.mat [.int ai,.int bj,.int sz]) (ķ a0 b0 mb fb ds bp i j L []) K=(3=3/\Ŧ (BP w) (BV w 29) (ć.2.drop 1) (cP a0 b0 mb fb ds bp i j ai bj sz L "") K):=by rfl'
def ū:aG8:=ć.2.getD 1 (.Pass AI)
def jM:aG8:=(FD ū).getD 0 (.Pass AI)
def lB:aG8:=(FD jM).getD 0 (.Pass AI)
def bW:Ŧ (BP w) (BV w 29) (ć.2.drop 1) (cP a0 b0 mb fb ds bp i j ai bj sz L "") K=BX (decide (i<ai)) (BX (decide (j<bj)) (Ŧ (BP w) (BV w 28) (Hk ū) (cP a0 b0 mb fb ds bp i j ai bj sz L "") (ç (BP w) (BV w 29) (ć.2.drop 2) K)) (Ŧ (BP w) (BV w 28) (FD ū) (cP a0 b0 mb fb ds bp i j ai bj sz L "") (ç (BP w) (BV w 29) (ć.2.drop 2) K)))
  (Ŧ (BP w) (BV w 28) (FD ū) (cP a0 b0 mb fb ds bp i j ai bj sz L "") (ç (BP w) (BV w 29) (ć.2.drop 2) K)):=by rfl'
def dI:Ŧ (BP w) (BV w 28) (FD ū) (cP a0 b0 mb fb ds bp i j ai bj sz L "") K=BX (decide (i<ai)) (Ŧ (BP w) (BV w 27) (Hk jM) (cP a0 b0 mb fb ds bp i j ai bj sz L "") (ç (BP w) (BV w 28) [] K)) (Ŧ (BP w) (BV w 27) (FD jM) (cP a0 b0 mb fb ds bp i j ai bj sz L "") (ç (BP w) (BV w 28) [] K)):=by rfl'
def dP:Ŧ (BP w) (BV w 27) (FD jM) (cP a0 b0 mb fb ds bp i j ai bj sz L "") K=BX (decide (j<bj)) (Ŧ (BP w) (BV w 26) (Hk lB) (cP a0 b0 mb fb ds bp i j ai bj sz L "") (ç (BP w) (BV w 27) [] K)) (Ŧ (BP w) (BV w 26) (FD lB) (cP a0 b0 mb fb ds bp i j ai bj sz L "") (ç (BP w) (BV w 27) [] K)):=by rfl'
def Mi:(Ŧ (BP w) (BV w 28) (Hk ū) (cP a0 b0 mb fb ds bp i j ai bj sz L "") K=K .next (cP a0 b0 mb fb ds bp i j ai bj sz L "replace")/\Ŧ (BP w) (BV w 27) (Hk jM) (cP a0 b0 mb fb ds bp i j ai bj sz L "") K=K .next (cP a0 b0 mb fb ds bp i j ai bj sz L "delete"))/\
  Ŧ (BP w) (BV w 26) (Hk lB) (cP a0 b0 mb fb ds bp i j ai bj sz L "") K=K .next (cP a0 b0 mb fb ds bp i j ai bj sz L "insert")/\Ŧ (BP w) (BV w 26) (FD lB) (cP a0 b0 mb fb ds bp i j ai bj sz L "") K=K .next (cP a0 b0 mb fb ds bp i j ai bj sz L ""):=⟨⟨by rfl',by rfl'⟩,by rfl',by rfl'⟩
abbrev O9(t:Str)(i ai j bj:Int):ű:=.tup [.str t,.int i,.int ai,.int j,.int bj]
def WR{t:Str}:Ŧ (BP w) (BV w 29) (ć.2.drop 2) (cP a0 b0 mb fb ds bp i j ai bj sz L t) K=(t.length<1000000/\BX ((t.length:Int) != 0) (AM L.length/\Ŧ (BP w) (BV w 29) (ć.2.drop 3) (cP a0 b0 mb fb ds bp i j ai bj sz (L++[O9 t i ai j bj]) t) K) (Ŧ (BP w) (BV w 29) (ć.2.drop 3) (cP a0 b0 mb fb ds bp i j ai bj sz L t) K)):=by rfl'
def cS{t:Str}:Ŧ (BP w) (BV w 29) (ć.2.drop 3) (cP a0 b0 mb fb ds bp i j ai bj sz L t) K=(2=2/\BX (sz != 0) (AM L.length/\K .next (cP a0 b0 mb fb ds bp (ai+sz) (bj+sz) ai bj sz (L++[O9 "equal" ai (ai+sz) bj (bj+sz)]) t)) (K .next (cP a0 b0 mb fb ds bp (ai+sz) (bj+sz) ai bj sz L t))):=by rfl'
end
def MU(i j:Nat)(b:Bu):List ű:=if i<b.1/\j<b.2.1 then [O9 "replace" (ĺ i) (ĺ b.1) (ĺ j) (ĺ b.2.1)]else if i<b.1 then [O9 "delete" (ĺ i) (ĺ b.1) (ĺ j) (ĺ b.2.1)]else if j<b.2.1 then [O9 "insert" (ĺ i) (ĺ b.1) (ĺ j) (ĺ b.2.1)]else []
def PD(b:Bu):List ű:=if b.2.2=0 then []else [O9 "equal" (ĺ b.1) (ĺ (b.1+b.2.2)) (ĺ b.2.1) (ĺ (b.2.1+b.2.2))]
def Iu:Nat->Nat->List Bu->List ű
 | _,_,[]=>[]
 | i,j,b::r=>MU i j b++(PD b++Iu (b.1+b.2.2) (b.2.1+b.2.2) r)
def NP{i j:Nat}{b:Bu}:(MU i j b).length<=1:=by
 unfold MU
 split
 ·exact aA6 _
 ·split
  ·exact aA6 _
  ·split
   ·exact aA6 _
   ·exact aD4 _
def Ve{b:Bu}:(PD b).length<=1:=by
 unfold PD
 split
 ·exact aD4 _
 ·exact aA6 _
def Dy{i j:Nat}{bl:List Bu}:AD nn (Iu i j bl)=some (Iu i j bl):=by
 have ap :∀{l r:List ű},AD nn l=some l->AD nn r=some r->AD nn (l++r)=some (l++r):=λ{l r} hl hr=>by
  induction l with
  | nil=>exact hr
  | cons a l ih=>
   obtain⟨a',e1,e⟩:=bind_some (show(a.sub nn).bind (λa=>(AD nn l).map (a :: ·))=some (a::l)from hl)
   obtain⟨l',e2,e⟩:=map_some e
   cases e
   exact BE e1 (ih e2)
 induction bl generalizing i j with
 | nil=>rfl
 | cons b r ih=>
  refine ap ?_ (ap ?_ ih)
  ·unfold MU
   split
   ·rfl
   ·split
    ·rfl
    ·split<;>rfl
  ·unfold PD
   split<;>rfl
abbrev ET(A B:List Int)(bs:List Bu):List Bu:=GG (0,0,0) bs++[(A.length,B.length,0)]
section
variable{w:aC9}{a0 b0 mb fb bp:ű}{ds:List (AC×ű)}{i j:Nat}{b:Bu}{L:List ű}{K:ĵ}
def BK{P:Ť}{S:â}{r:List aG8}{K:ĵ}{σ:St}:ç P S r K .next σ=Ŧ P S r σ K:=rfl
def Th(hL:L.length<=400000)(h :∀t,K .next (cP a0 b0 mb fb ds bp (ĺ (b.1+b.2.2)) (ĺ (b.2.1+b.2.2)) (ĺ b.1) (ĺ b.2.1) (ĺ b.2.2) (L++(MU i j b++PD b)) t)) :
  n8 w (GW b) (ķ a0 b0 mb fb ds bp (ĺ i) (ĺ j) L []) K:=by
 refine gP.mpr ⟨rfl,?_⟩
 have fin :∀t,Ŧ (BP w) (BV w 29) (ć.2.drop 3) (cP a0 b0 mb fb ds bp (ĺ i) (ĺ j) (ĺ b.1) (ĺ b.2.1) (ĺ b.2.2) (L++MU i j b) t) K:=λt=>by
  rwa[cS]
  have hz:AM (L++MU i j b).length:=aA2 (aB7 aB0) (aA2 (aX3 hL NP) (by decide))
  have h:=h t
  rw[<-aD1]at h
  refine⟨rfl,Vd (λhk=>⟨hz,?_⟩) λhk=>?_⟩
  ·rw[show PD b=[O9 "equal" (ĺ b.1) (ĺ (b.1+b.2.2)) (ĺ b.2.1) (ĺ (b.2.1+b.2.2))]from bQ7 (aO2 hk)]at h
   exact h
  ·rw[show PD b=[]from bQ6 hk,aE1]at h
   exact h
 have tg :∀t:Str,t.length<1000000->((t.length:Int) != 0)=true->MU i j b=[O9 t (ĺ i) (ĺ b.1) (ĺ j) (ĺ b.2.1)]->Ŧ (BP w) (BV w 29) (ć.2.drop 2) (cP a0 b0 mb fb ds bp (ĺ i) (ĺ j) (ĺ b.1) (ĺ b.2.1) (ĺ b.2.2) L t) K:=λt h1 h2 e=>by
  rwa[WR,h2]
  exact⟨h1,aA2 hL (by decide),e▸fin t⟩
 have no:MU i j b=[]->Ŧ (BP w) (BV w 29) (ć.2.drop 2) (cP a0 b0 mb fb ds bp (ĺ i) (ĺ j) (ĺ b.1) (ĺ b.2.1) (ĺ b.2.2) L "") K:=λe=>by
  rwa[WR]
  have q:=fin ""
  rw[e,aE1]at q
  exact⟨by decide,q⟩
 have el:¬ (ĺ i<ĺ b.1/\ĺ j<ĺ b.2.1)->Ŧ (BP w) (BV w 28) (FD ū) (cP a0 b0 mb fb ds bp (ĺ i) (ĺ j) (ĺ b.1) (ĺ b.2.1) (ĺ b.2.2) L "") (ç (BP w) (BV w 29) (ć.2.drop 2) K):=λhn=>by
  have hn':¬ (i<b.1/\j<b.2.1):=λz=>hn ⟨aD0.mpr z.1,aD0.mpr z.2⟩
  rwa[dI]
  refine LQ (λh1=>?_) λh1=>?_
  ·rwa[Mi.1.2,BK,CB,BK]
   exact tg "delete" (by decide) (by decide) ((bQ7 hn').trans (bQ6 (aD0.mp h1)))
  ·have h1':¬ i<b.1:=λz=>h1 (aD0.mpr z)
   rwa[dP]
   refine LQ (λh2=>?_) λh2=>?_
   ·rwa[Mi.2.1,BK,CB,BK,CB,BK]
    exact tg "insert" (by decide) (by decide) ((bQ7 hn').trans ((bQ7 h1').trans (bQ6 (aD0.mp h2))))
   ·rwa[Mi.2.2,BK,CB,BK,CB,BK]
    exact no ((bQ7 hn').trans ((bQ7 h1').trans (bQ7 λz=>h2 (aD0.mpr z))))
 show Ŧ (BP w) (BV w 29) (ć.2.drop 1) (cP a0 b0 mb fb ds bp (ĺ i) (ĺ j) (ĺ b.1) (ĺ b.2.1) (ĺ b.2.2) L "") K
 rwa[bW]
 refine UW (λh1=>?_) el
 rwa[Mi.1.1,BK]
 exact tg "replace" (by decide) (by decide) (bQ6 ⟨aD0.mp h1.1,aD0.mp h1.2⟩)
abbrev Ĉ(a0 b0 mb fb:ű)(ds:List (AC×ű))(bp:ű)(L:List ű):St:=⟨[("self",.ref 0),("answer",.lst L)],[(0,.inst ń (Av a0 b0 mb (.lst L) fb (.dct ds) bp))],1,1⟩
def zA(a0 b0 mb fb:ű)(ds:List (AC×ű))(bp:ű)(bl:List Bu)(k:Nat)(σ:St):Prop:=
 (k<bl.length->∃i j L,σ=ķ a0 b0 mb fb ds bp (ĺ i) (ĺ j) L []/\L.length<=2*k/\L++Iu i j (bl.drop k)=Iu 0 0 bl)/\(k=bl.length->σ=Ĉ a0 b0 mb fb ds bp (Iu 0 0 bl))
def N0{i j x y z:Int}{t:Str}:A9 (cP a0 b0 mb fb ds bp i j x y z L t) (ķ a0 b0 mb fb ds bp i j L []):=
 .less (ρ:=(ķ a0 b0 mb fb ds bp i j L []).ρ++tK x y z t) (λx v e=>Bq e) λ_ _=>id
def fW{g:Nat->Option ű}{u v:ű}(S:BY a0 b0 mb .none fb (.dct ds) bp)(h:u.sub g=some v):(Ř.inst ń (Av a0 b0 mb u fb (.dct ds) bp)).sub g=some (.inst ń (Av a0 b0 mb v fb (.dct ds) bp)):=
 So (DU rfl (DU (AJ _ _ S.a) (DU (AJ _ _ S.b) (DU rfl (DU (AJ _ _ S.mb) (DU h (DU (AJ _ _ S.fb) (DU (AJ _ _ S.b2j) (DU rfl (DU (AJ _ _ S.bj) rfl))))))))))
def Wd{i j:Int}(S:BY a0 b0 mb .none fb (.dct ds) bp)(hL:AD nn L=some L):A9 (ķ a0 b0 mb fb ds bp i j L []) (Ĉ a0 b0 mb fb ds bp L):=
 .re [0] [(1,.lst L)] rfl rfl rfl rfl (BL rfl rfl rfl (Ag hL) CQ) (Bs rfl rfl (Bs rfl rfl B0)) (RY rfl rfl (fW S rfl) BZ)
def iE:Ŧ (BP w) (BV w 30) (OQ.drop 5) (Ĉ a0 b0 mb fb ds bp L) K=K (.ret (.lst L)) (Ĉ a0 b0 mb fb ds bp L):=by rfl'
def NE :∀{bs:List Bu} {b:Bu},(GG b bs).length<=bs.length+1:=by
 intro bs
 induction bs with
 | nil=>intro b;obtain⟨i,j,k⟩:=b;unfold GG;split<;>simp
 | cons c r ih=>
  intro b
  obtain⟨i,j,k⟩:=b
  obtain⟨i2,j2,k2⟩:=c
  unfold GG
  split
  ·exact aF5 ih
  ·split
   ·exact aF5 ih
   ·exact aF7 ih
end
def ı(J:Int->Bool)(la lb:List Int)(op:ű):Prop:=op = .none\/∃bs,Dn J la lb 0 la.length 0 lb.length bs/\op = .lst (Iu 0 0 (ET la lb bs))
structure ő(J:Int->Bool)(la lb:List Int)(mb op fb:ű)(ds:List (AC×ű))(bj:ű):Prop where
 S:BY (.lst (è la)) (.lst (è lb)) mb op fb (.dct ds) bj
 B:ģ J lb ds
 M:Ÿ J la lb mb
 O:ı J la lb op
inductive pI(os:List Ξ)(Q:ű->List Ξ->Prop):Prop
 | mk (J:Int->Bool) (la lb:List Int) (mb op fb:ű) (ds:List (AC×ű)) (ks:List AC) (e:os=[(ń,Av (.lst (è la)) (.lst (è lb)) mb op fb (.dct ds) (.fset ks))]) (I:ő J la lb mb op fb ds (.fset ks)) (hz:la.length<=100000/\lb.length<=100000)
  (hq :∀bs mb',Dn J la lb 0 la.length 0 lb.length bs->ő J la lb mb' (.lst (Iu 0 0 (ET la lb bs))) fb ds (.fset ks)->Q (.lst (Iu 0 0 (ET la lb bs))) [(ń,Av (.lst (è la)) (.lst (è lb)) mb' (.lst (Iu 0 0 (ET la lb bs))) fb (.dct ds) (.fset ks))])
def NU:ĉ:=λas os Q=>as=[.ref 0]/\pI os Q
def WO{a b mb fb d bj:ű}{p:aC2}:Rj p 1 (Av a b mb (.glo p) fb d bj) (Av a b mb (.ref 1) fb d bj):=.keep _ (.keep _ (.keep _ (.keep _ (.keep _ (.put _ (.keep _ (.keep _ (.keep _ (.keep _ .nil)))))))))
def eU(ρ:List (Str×ű))(H:List (Nat×Ř))(n k:Nat)(p:aC2)(at_:List (Str×ű))(Q:ű->St->Prop)(r:ű)(os':List Ξ):Prop:=∃E b b',(St.sets ⟨ρ,(0,.inst ń at_)::H,n,k⟩ [0] os').H.lookup 0=some (.inst E b)/\Rj p 1 b b'/\Q r ((St.sets ⟨ρ,(0,.inst ń at_)::H,n,k⟩ [0] os').set 0 (.inst E b'))
def b6{tr:ĉ}{ρ:List (Str×ű)}{L:List ű}{k:Nat}{a b mb fb d bj:ű}{Q:ű->St->Prop}(hs:BY a b mb .none fb d bj)
  (h :∀p:aC2,tr [.ref 0] [(ń,Av a b mb (.glo p) fb d bj)] (eU ρ [(1,.list L)] 2 k p (Av a b mb (.glo p) fb d bj) Q)):BI tr [.ref 0] ⟨ρ,[(0,.inst ń (Av a b mb (.ref 1) fb d bj)),(1,.list L)],2,k⟩ Q:=by
 refine .inr ⟨1,0,ń,Av a b mb (.ref 1) fb d bj,aC1 _,rfl,λp=>⟨Av a b mb (.glo p) fb d bj,WO,?_⟩⟩
 exact⟨Bl (BY.shut (op:=.glo p) ⟨hs.a,hs.b,hs.mb,rfl,hs.fb,hs.b2j,hs.bj⟩),h p⟩
def ZJ{w:aC9}{d:Nat}:As (œ w) (á w.params) (d+7) (.ref 210) NU:=
 Of (w1 Z4) (S8 _).2.2 (S8 _).1 (S8 _).2.1 (ps:=["self"]) (by decide) (by rfl') (Nd λa=>by rfl') λas os Q hh=>by
  obtain⟨ea,⟨J,la,lb,mb,op,fb,ds,ks,eo,I,hz,hq⟩⟩:=hh
  subst ea;subst eo
  refine⟨⟨rfl,Bl I.S.shut⟩,?_⟩
  rcases I.O with rfl | ⟨bs,r,rfl⟩
  rotate_left
  ·exact aL.mpr (CC (fl:=.ret _) rfl (.refl _) rfl (Ag Dy) I.S.shut (hq bs mb r I))
  have sm :∀{mb op:ű},mb.sub nn=some mb->op.sub nn=some op->BY (.lst (è la)) (.lst (è lb)) mb op fb (.dct ds) (.fset ks):=λh1 h2=>⟨I.S.a,I.S.b,h1,h2,I.S.fb,I.S.b2j,I.S.bj⟩
  refine sR.mpr (b6 I.S λp=>⟨J,la,lb,mb,.glo p,fb,ds,ks,rfl,rfl,⟨sm I.S.mb rfl,I.B⟩,I.M,hz,λbs r=>⟨_,_,_,rfl,WO,?_⟩⟩)
  have hb:bs.length<=100000:=aA2 r.len hz.1
  have hl:(ET la lb bs).length<=100002:=aA2 (aB7 aB0) (aF7 (aA2 NE (aF7 hb)))
  have S2:=sm (F7 bs la.length lb.length) (op:=.none) rfl
  have S3:=sm (F7 bs la.length lb.length) (op:=.lst (Iu 0 0 (ET la lb bs))) (Ag Dy)
  have hq:=hq bs (.lst (FV bs la.length lb.length)) r ⟨S3,I.B,.inr ⟨bs,r,rfl⟩,.inr ⟨bs,r,rfl⟩⟩
  generalize hbl:ET la lb bs=bl at hl hq S3
  have eo:FV bs la.length lb.length=bl.map GW:=hbl▸rfl
  rw[eo]at hq S2 S3 ⊢
  have hsh:AD nn (bl.map GW)=some (bl.map GW):=EO (λ_=>rfl) _
  have ŝ:0<bl.length:=hbl▸(aB0 (as:=GG (0,0,0) bs) (bs:=[(la.length,lb.length,0)])).symm▸bB4 _
  refine⟨hsh,zA (.lst (è la)) (.lst (è lb)) (.lst (bl.map GW)) fb ds (.fset ks) bl,⟨_,.refl _,λ_=>⟨0,0,[],rfl,aA6 _,rfl⟩,λe=>bQ8 e (aE4 ŝ)⟩,λk σ v hv hI=>?_,λσ hI=>?_⟩
  ·obtain⟨b,e1,rfl⟩:=map_some ((aD6 ..).symm.trans hv)
   have hk:=(aB3.mp e1).1
   obtain⟨i,j,L,rfl,h1,h2⟩:=hI.1 hk
   have h3:L++(MU i j b++PD b)++Iu (b.1+b.2.2) (b.2.1+b.2.2) (bl.drop (k+1))=Iu 0 0 bl:=by
    rwa[h2.symm,aF9 hk,(aB3.mp e1).2]
    show L++(MU i j b++PD b)++Iu _ _ _=L++(MU i j b++(PD b++Iu _ _ _))
    rw[aD1,aD1]
   refine Th (aA2 h1 (by exists 2,0x61a809102c001180186a29008,hl,hk)) λt=>(bA2 (Nat.succ_le_of_lt hk)).elim (λhlt=>⟨_,N0,λ_=>⟨_,_,_,rfl,?_,h3⟩,λe=>bQ8 e (aE4 hlt)⟩) λhe=>?_
   ·have:=NP (i:=i) (j:=j) (b:=b);have:=Ve (b:=b)
    rwa[aB0,aB0];rename_i u9;exists 4,0x181a02c32a0a01830818208102c008,h1,u9,this
   ·rw[List.drop_eq_nil_of_le (aB7 he.symm),show Iu (b.1+b.2.2) (b.2.1+b.2.2) []=[]from rfl,aE1]at h3
    rwa[h3]
    exact⟨_,N0.trans (Wd S2 Dy),λh=>bQ8 h (he▸aL3 _),λ_=>rfl⟩
  ·rw[aB5]at hI
   obtain rfl:=hI.2 rfl
   rwa[CB,BK,iE]
   exact CC (fl:=.ret _) rfl (.refl _) rfl (Ag Dy) S3.shut hq
section
inductive ď(at_:List (Str×ű)):Prop
 | new (e:at_=Av ĝ ĝ .none .none .none (.dct []) (.fset []))
 | old (la lb:List Int) (mb op fb:ű) (ds:List (AC×ű)) (ks:List AC) (e:at_=Av (.lst (è la)) (.lst (è lb)) mb op fb (.dct ds) (.fset ks)) (I:ő (Cr lb) la lb mb op fb ds (.fset ks))
theorem ď.shut{at_:List (Str×ű)}(h:ď at_):AK nn at_=some at_:=by
 cases h with
 | new e=>subst e;rfl
 | old la lb mb op fb ds ks e I=>subst e;exact I.S.shut
variable{w:aC9}{d:Nat}
inductive sK(as:List ű)(os:List Ξ)(Q:ű->List Ξ->Prop):Prop
 | mk (la lb:List Int) (at_:List (Str×ű)) (ea:as=[.ref 0,.lst (è la),.lst (è lb)]) (eo:os=[(ń,at_)]) (hM:ď at_) (hl:lb.length<=1000)
  (hq :∀mb op fb ds ks,ő (Cr lb) la lb mb op fb ds (.fset ks)->Q .none [(ń,Av (.lst (è la)) (.lst (è lb)) mb op fb (.dct ds) (.fset ks))])
def Ip:ĉ:=λas os Q=>sK as os Q
def b4{t1 t2:ĉ}{Q:ű->List Ξ->Prop}{a b mb op fb b2j bj x y:ű}:ŏ (Ń w 174 t1 181 t2) J5 I9 ((["self","a","b"]:List Str).zip [.ref 0,x,y]) [(ń,Av a b mb op fb b2j bj)] Q =
  BI t1 [.ref 0,x] (AT [("self",.ref 0),("a",x),("b",y)] [(ń,Av a b mb op fb b2j bj)]) λ_ σ=>Ŧ (Ń w 174 t1 181 t2) (Dk (Ń w 174 t1 181 t2) J5 30) (I9.drop 2) σ (AE 1 Q):=by rfl'
def e7{t1 t2:ĉ}{Q:ű->List Ξ->Prop}{a b mb op fb b2j bj x y:ű}:Ŧ (Ń w 174 t1 181 t2) (Dk (Ń w 174 t1 181 t2) J5 30) (I9.drop 2) (AT [("self",.ref 0),("a",x),("b",y)] [(ń,Av a b mb op fb b2j bj)]) (AE 1 Q) =
  BI t2 [.ref 0,y] (AT [("self",.ref 0),("a",x),("b",y)] [(ń,Av a b mb op fb b2j bj)]) λ_ σ=>AE 1 Q .next σ:=by rfl'
def Ps:As (œ w) (á w.params) (d+4) (.ref 167) Ip:=
 Of (ú (Ny (d:=d+1)) Su) (IJ _).2.2 (IJ _).1 (IJ _).2.1 (ps:=["self","a","b"]) (by decide) (by rfl') (Ss λa b c=>by rfl') λas os Q hh=>by
  obtain⟨la,lb,at_,ea,eo,hM,hl,hq⟩:=hh
  subst ea;subst eo
  have sec :∀{b mb op fb b2j bj:ű},BY (.lst (è la)) b mb op fb b2j bj->(Zu b lb λlb'=>Q .none [(ń,Av (.lst (è la)) (.lst (è lb')) mb op fb b2j bj)])->
    Ŧ (Ń w 174 N5 181 JF) (Dk (Ń w 174 N5 181 JF) J5 30) (I9.drop 2) (AT [("self",.ref 0),("a",.lst (è la)),("b",.lst (è lb))] [(ń,Av (.lst (è la)) b mb op fb b2j bj)]) (AE 1 Q):=λ{b mb op fb b2j bj} S hs=>by
   refine e7.mpr (DW (D:=ń) (at_:=Av (.lst (è la)) b mb op fb b2j bj) (as':=[.ref 0,.lst (è lb)]) S.shut rfl Vh ⟨lb,_,b,mb,op,fb,b2j,bj,rfl,hl,rfl,S,λds ks hB=>?_,?_⟩)
   ·have S':BY (.lst (è la)) (.lst (è lb)) .none .none .none (.dct ds) (.fset ks):=⟨S.a,Ac lb,rfl,rfl,rfl,Nq hB,rfl⟩
    exact CC (fl:=.next) rfl (.refl _) rfl rfl S'.shut (hq _ _ _ _ _ ⟨S',hB,.inl rfl,.inl rfl⟩)
   ·rcases hs with e | ⟨lb',e,h⟩
    ·exact .inl e
    ·refine .inr ⟨lb',e,λe2=>?_⟩
     subst e;subst e2
     exact CC (fl:=.next) rfl (.refl _) rfl rfl S.shut (h rfl)
  have fst :∀{a b mb op fb b2j bj:ű},BY a b mb op fb b2j bj->(Zu b lb λlb'=>Q .none [(ń,Av (.lst (è la)) (.lst (è lb')) .none .none fb b2j bj)])->
    (Zu a la λla'=>Zu b lb λlb'=>Q .none [(ń,Av (.lst (è la)) (.lst (è lb')) mb op fb b2j bj)])->ŏ (Ń w 174 N5 181 JF) J5 I9 ((["self","a","b"]:List Str).zip [.ref 0,.lst (è la),.lst (è lb)]) [(ń,Av a b mb op fb b2j bj)] Q:=λ{a b mb op fb b2j bj} S h1 h2=>by
   refine b4.mpr (DW (D:=ń) (at_:=Av a b mb op fb b2j bj) (as':=[.ref 0,.lst (è la)]) S.shut rfl Vh (.inr ⟨la,a,b,mb,op,fb,b2j,bj,rfl,rfl,S,?_,?_⟩))
   ·exact sec ⟨Ac la,S.b,rfl,rfl,S.fb,S.b2j,S.bj⟩ h1
   ·rcases h2 with e | ⟨la',e,h⟩
    ·exact .inl e
    ·refine .inr ⟨la',e,λe2=>?_⟩
     subst e;subst e2
     exact sec S (h rfl)
  refine⟨⟨rfl,Bl hM.shut⟩,?_⟩
  cases hM with
  | new e=>
   subst e
   exact fst ⟨rfl,rfl,rfl,rfl,rfl,rfl,rfl⟩ (.inl rfl) (.inl rfl)
  | old la0 lb0 mb op fb ds ks e I=>
   subst e
   refine fst I.S (.inr ⟨lb0,rfl,λe=>?_⟩) (.inr ⟨la0,rfl,λe=>.inr ⟨lb0,rfl,λe2=>?_⟩⟩)
   ·subst e
    exact hq _ _ _ _ _ ⟨⟨Ac la,I.S.b,rfl,rfl,I.S.fb,I.S.b2j,I.S.bj⟩,I.B,.inl rfl,.inl rfl⟩
   ·subst e;subst e2
    exact hq _ _ _ _ _ I
end
def RW{fl:BS}{σ:St}{r:ű}{Q:ű->List Ξ->Prop}(hf:G6 fl r)(hr:r.sub nn=some r)(hq:Q r []):AE 0 Q fl σ:=⟨r,σ,[],.inl ⟨hf,.refl _⟩,hr,rfl,Bj,λ_ _=>AA,hq⟩
def L8:List aG8:=(By Ŝ.main.body "_law_cuts").1
def Xr:Scope:=(By Ŝ.main.body "_law_cuts").2
def Q1(P:aD7):(CJ P 253).body = .stmts L8/\(CJ P 253).scope=Xr/\Au P 253=true:=⟨by rfl',by rfl',by rfl'⟩
noncomputable def Ŭ(l:List Nat):Pos->Bool:=λp=>l.any λn=>aE6 p.line n
abbrev JV(w:aC9):Ť:=TM w.params (λ_=>none) none false false (Ŭ [465]) (Ŭ [468])
abbrev KZ(w:aC9)(f:Nat):â:=Dk (JV w) Xr f
def fF:Expr×List aG8:=Dm (L8.getD 1 (.Pass AI))
def Vz(w:aC9):ű->St->ĵ->Prop:=λv σ K=>(Œ (JV w) Xr 29).A fF.1 v σ λσ=>Ŧ (JV w) (KZ w 29) fF.2 σ K
abbrev Qy(sc:ű)(n:Int)(L:List ű)(tl:List (Str×ű)):St:=⟨("script",sc)::("size",.int n)::("cuts",.ref 0)::tl,[(0,.list L)],1,0⟩
section
variable{w:aC9}{l:List Int}{n x a b:Int}{L:List ű}{K:ĵ}
abbrev g6:List ű:=[.int 0,.int 12,.int 11,.int 27]
abbrev nB(x a b:Int):List (Str×ű):=[("x",.int x),("rest",.int a),("start",.int b)]
def qJ:Ŧ (JV w) (KZ w 30) L8 (AT [("script",.lst (è l)),("size",.int n)] []) K=(AM (g6.length+(è l).length)/\AD nn (g6++è l)=some (g6++è l)/\D7 (g6++è l) (Vz w) (Ŧ (JV w) (KZ w 29) []) (Qy (.lst (è l)) n [] []) (ç (JV w) (KZ w 30) (L8.drop 2) K)):=by rfl'
def cG:Vz w (.int x) (Qy (.lst (è l)) n L []) K=((n-2≠0/\aG4 x (n-2)=false)/\2=2/\(4:Int)≠0/\aG4 n 4=false/\n.fdiv 4≠0/\AM L.length/\
  K .next (Qy (.lst (è l)) n (L++[.tup [.int (x.fmod (n-2)),.int (min n (x.fmod (n-2)+3+(x.fdiv (n-2)).fmod (n.fdiv 4)))]]) (nB x (x.fdiv (n-2)) (x.fmod (n-2))))):=by rfl'
def hY:Ŧ (JV w) (KZ w 30) (L8.drop 2) (Qy (.lst (è l)) n L []) K =∃τ,A9 (Qy (.lst (è l)) n L []) τ/\KZ w 30 (L8.getD 2 (.Pass AI)) τ (ç (JV w) (KZ w 30) [] K):=by rfl'
def a9{M:ű}:KZ w 30 (L8.getD 2 (.Pass AI)) ⟨[("script",.lst (è l)),("size",.int n),("cuts",M)],[],0,0⟩ K=K (.ret M) ⟨[("script",.lst (è l)),("size",.int n),("cuts",M)],[],0,0⟩:=by rfl'
def TD:A9 (Qy (.lst (è l)) n L (nB x a b)) (Qy (.lst (è l)) n L []):=.less (ρ:=(Qy (.lst (è l)) n L []).ρ++nB x a b) (λx v e=>Bq e) λ_ _=>id
end
def IW{x y:Int}(h:y.natAbs<2 ^ 30):aG4 x y=false:=by
 unfold aG4
 have:¬ 300<(if(y==0)=true then 0 else y.natAbs.log2 / 30+1):=by
  split
  ·exists 0,0x800012c919
  ·rename_i hy
   have ŝ:y.natAbs≠0:=λz=>hy (beq_iff_eq.mpr (Int.natAbs_eq_zero.mp z))
   have:=(Nat.log2_lt ŝ).mpr h
   have:=Nat.div_eq_of_lt this
   exists 1,0x180a00012c91908028,this
 simp only
 rwa[bR0 this]
 rfl
noncomputable def cut(n:Nat)(x:Int):Nat×Nat:=((x.fmod (ĺ n-2)).toNat,min n ((x.fmod (ĺ n-2)).toNat+3+((x.fdiv (ĺ n-2)).fmod ((ĺ n).fdiv 4)).toNat))
def C2(p:Nat×Nat):ű:=.tup [.int (ĺ p.1),.int (ĺ p.2)]
def b9{n:Nat}(hn:12<=n):0<n / 4:=Nat.div_pos (aA2 (by decide) hn) (by decide)
def t7(n:Nat):(n:Int).fdiv 4=((n / 4:Nat):Int):=by rwa[Int.fdiv_eq_ediv_of_nonneg _ (by decide)];rfl
def XM{n:Nat}(hn:12<=n)(x:Int):ű.tup [.int (x.fmod (ĺ n-2)),.int (min (ĺ n) (x.fmod (ĺ n-2)+3+(x.fdiv (ĺ n-2)).fmod ((ĺ n).fdiv 4)))]=C2 (cut n x):=by
 have h1:0<=x.fmod (ĺ n-2):=bD0 _ (by show(0:Int)<(n:Int)-2;exact id (ũ [_] 0x2800fb0840c808 (by rfl') hn))
 have h2:0<=(x.fdiv (ĺ n-2)).fmod ((ĺ n).fdiv 4):=bD0 _ (by
  show(0:Int)<(n:Int).fdiv 4
  rw[t7]
  exact aD0.mpr (b9 hn))
 unfold C2 cut
 have e1:x.fmod (ĺ n-2)=ĺ (x.fmod (ĺ n-2)).toNat:=(Int.toNat_of_nonneg h1).symm
 have e2:min (ĺ n) (x.fmod (ĺ n-2)+3+(x.fdiv (ĺ n-2)).fmod ((ĺ n).fdiv 4))=ĺ (min n ((x.fmod (ĺ n-2)).toNat+3+((x.fdiv (ĺ n-2)).fmod ((ĺ n).fdiv 4)).toNat)):=by
  show min (n:Int) _=((min n _:Nat):Int)
  exact id (ġ [_,_,_] [_,_] 0x1380aa2d0f1380aa20fd5081e10f58080e00f581083800838 (by rfl') h1 h2 (aH0 _) (aH0 _))
 rwa[e1.symm,e2];rfl
def Zh{n:Nat}(hn:12<=n)(x:Int):(cut n x).1+3<=(cut n x).2/\(cut n x).2<=n:=by
 have h1:x.fmod (ĺ n-2)<ĺ n-2:=Int.fmod_lt_of_pos _ (by show(0:Int)<(n:Int)-2;exact id (ũ [_] 0x2800fb0840c808 (by rfl') hn))
 have h1:x.fmod (ĺ n-2)<(n:Int)-2:=h1
 unfold cut
 simp only
 exact ġ [_,_,_] [_] 0x2381aa0d02381aa0d381a06080e10f582800fb0480c808 (by rfl') hn h1 (aH0 _)
def Nb:ĉ:=λas os Q=>∃(l:List Int) (n:Nat),as=[.lst (è l),.int (ĺ n)]/\os=[]/\(12<=n/\n<=1000)/\l.length<=1000/\Q (.lst (([0,12,11,27]++l).map λx=>C2 (cut n x))) []
def Cu(l:List (Nat×Nat)):AD nn (l.map C2)=some (l.map C2):=EO (λ_=>rfl) l
def sI{w:aC9}{d:Nat}:LT (œ w) (á w.params) (JV w) d ô Lr aM Kt ŷ:=VO (λ_ _ e=>nomatch e) (λe=>nomatch e) (λe=>nomatch e) (λ_ e=>nomatch e)
def Ul{w:aC9}{d:Nat}:As (œ w) (á w.params) (d+2) (.ref 253) Nb:=
 Of sI (Q1 _).2.2 (Q1 _).1 (Q1 _).2.1 (ps:=["script","size"]) (by decide) (by rfl') (IB λa b=>by rfl') λas os Q hh=>by
  obtain⟨l,n,ea,eo,⟨hn,hn2⟩,hl,hq⟩:=hh
  subst ea;subst eo
  have ei:g6++è l=è ([0,12,11,27]++l):=(aH4 (f:=λx=>ű.int x) (l₁:=[0,12,11,27]) (l₂:=l)).symm
  have hz:([0,12,11,27]++l).length<=1004:=by rwa[aB0];show 4+l.length<=1004;exact id (ũ [_] 0x3ec9048a00003e89008 (by rfl') hl)
  refine⟨⟨rfl,Bj⟩,qJ.mpr ?_⟩
  rwa[ei]
  generalize [0,12,11,27]++l=m at hz hq
  have hs:AD nn (m.map λx=>C2 (cut n x))=some (m.map λx=>C2 (cut n x)):=EO (λ_=>rfl) m
  refine⟨LK (by rw[Az];show 4+l.length<=100000;exact id (ũ [_] 0x186a09048a00003e89008 (by rfl') hl)),EI m,λk τ=>τ=Qy (.lst (è l)) (ĺ n) ((m.take k).map λx=>C2 (cut n x)) [],⟨_,.refl _,rfl⟩,λk τ v hv hI=>?_,λτ hI=>?_⟩
  ·subst hI
   obtain⟨x,hx,rfl⟩:=map_some ((aD6 ..).symm.trans hv)
   have e:(m.take (k+1)).map (λx=>C2 (cut n x))=(m.take k).map (λx=>C2 (cut n x))++[C2 (cut n x)]:=by rwa[Bc hx,aH4];rfl
   have nn2:ĺ n-2≠0:=by show(n:Int)-2≠0;exact id (ũ [_] 0x82800fb590c808 (by rfl') hn)
   have n4:(ĺ n).fdiv 4≠0:=by
    show(n:Int).fdiv 4≠0
    rw[t7]
    exact λz=>aO2 (b9 hn) (aM3 z)
   refine cG.mpr ⟨⟨nn2,IW (by show((n:Int)-((2:Nat):Int)).natAbs<1073741824;rwa[(Int.ofNat_sub (aA2 (by decide) hn)).symm];exact aE9 (Nat.sub_le n 2) (aE9 hn2 (by decide)))⟩,rfl,by decide,IW (by decide),n4,HJ (t:=1004) (aA2 (List.length_take_le' _ _) hz) (by decide),_,TD,?_⟩
   show Qy _ _ _ _=Qy (.lst (è l)) (ĺ n) ((m.take (k+1)).map λx=>C2 (cut n x)) []
   rwa[e];rw[XM hn]
  ·subst hI
   rewrite [Az];rwa[aJ4,DV,hY]
   refine⟨⟨[("script",.lst (è l)),("size",.int (ĺ n)),("cuts",.lst (m.map λx=>C2 (cut n x)))],[],0,0⟩,.re [] [(0,.lst (m.map λx=>C2 (cut n x)))] rfl rfl rfl rfl (BL rfl rfl rfl (Ag hs) CQ) (Bs rfl (AJ _ _ (Ac l)) (Bs rfl rfl (Bs rfl rfl B0))) BZ,?_⟩
   rwa[a9]
   exact RW (fl:=.ret _) rfl (Ag hs) hq
theorem Jj{α:Type}(vs:List α)(a:Nat) :∀n,((aK4 n).filterMap λk=>vs[a+k]?)=(vs.drop a).take n
 | 0=>rfl
 | n+1=>by
  rwa[aN1,aV5,Jj vs a n,aQ2,aZ5]
  congr 1
def Fu{α:Type}(vs:List α)(a b:Nat):(sliceRange (a:Int) (b:Int) 1).filterMap (vs[·]?)=(vs.drop a).take (b-a):=by
 unfold sliceRange
 simp only[show((1:Int)>0)=True from by simp,if_true]
 have e:((if(a:Int)<(b:Int)then((b:Int)-(a:Int)+1-1) / 1 else 0).toNat)=b-a:=by
  split
  ·rw[Int.ediv_one];exists 3,0x21b0208181820f10fbabe00f58,(aH0 _)
  ·rename_i u0;exists 3,0x1b220808e20f5810f00f498,u0,(aH0 _)
 rwa[e,List.filterMap_map];rw[<-Jj]
 congr 1
 funext k
 show vs[((a:Int)+1*(k:Int)).toNat]?=_
 congr 1
 exists 3,0x21a020820f01c10fae00f58,(aH0 _)
def LV{α:Type}(vs:List α)(k:Nat):BB vs none (some (k:Int)) none=vs.take k:=by
 unfold BB sliceBounds
 simp only[Option.getD_none,show((1:Int)>0)=True from by simp,if_true,show ¬ ((k:Int)<0)by(exists 1,8392521),if_false]
 have e:max (0:Int) (min (k:Int) (vs.length:Int))=((min k vs.length:Nat):Int):=by exists 2,0x10d0f10f00fd08e5
 rwa[e]
 have:=Fu vs 0 (min k vs.length)
 rw[show((0:Nat):Int)=0 from rfl]at this
 rwa[this]
 simp
def Ej{α:Type}(vs:List α)(j k:Nat):BB vs (some (j:Int)) (some (k:Int)) none=(vs.take k).drop j:=by
 unfold BB sliceBounds
 simp only[Option.getD_none,show((1:Int)>0)=True from by simp,if_true,show ¬ ((k:Int)<0)by(exists 1,8392521),show ¬ ((j:Int)<0)by(exists 1,8392521),if_false]
 have e:max (0:Int) (min (k:Int) (vs.length:Int))=((min k vs.length:Nat):Int):=by exists 2,0x10d0f10f00fd08e5
 have e':max (0:Int) (min (j:Int) (vs.length:Int))=((min j vs.length:Nat):Int):=by exists 2,0x10d0f10f00fd08e5
 rwa[e,e'];rw[Fu]
 apply List.ext_getElem?
 intro i
 rwa[List.getElem?_take,aZ5,aZ5,List.getElem?_take]
 by_cases h:j<=vs.length
 ·rwa[aY9 h]
  by_cases q:j+i<k
  ·rwa[bQ6 q]
   split
   ·rfl
   ·rw[aH6];rename_i u0;exists 4,0x10a30032db1198210a18,q,u0
  ·rwa[bQ7 q,bQ7 (by exists 4,0x32db119210a198,q)];rfl
 ·rwa[aX4 (Nat.le_of_not_le h)]
  have:vs[j+i]?=none:=aH6 (by exists 3,0x20a1010098,h)
  rwa[this]
  have:vs[vs.length+i]?=none:=aH6 (by exists 2,68096)
  rwa[this]
  split<;>split<;>rfl
def PS{α:Type}(vs:List α):BB vs none none (some (-1))=vs.reverse:=by
 have go :∀m,m<=vs.length->((aK4 m).filterMap λk=>vs[vs.length-1-k]?)=(vs.drop (vs.length-m)).reverse:=λm=>by
  induction m with
  | zero=>intro _;simp
  | succ m ih=>
   intro hm
   have h1:vs.length-1-m<vs.length:=by exists 2,0x10181bb11180a08,hm
   rwa[aN1,aV5,(ih (by exists 2,68737829384,hm)),(show vs.length-(m+1)=vs.length-1-m by exists 2,0x1180bb181a0b2),aF9 h1,aV9,show vs.length-1-m+1=vs.length-m by exists 2,0x1b180181bba21180a08,hm]
   simp[h1]
 have e:=go vs.length (aA6 _)
 rw[bF4,bK0]at e
 rwa[e.symm]
 unfold BB sliceBounds sliceRange
 by_cases ŝ:vs.length=0
 ·have:=aK9 ŝ
  subst this
  rfl
 ·simp only[Option.getD_some]
  rwa[bQ7 (by decide:¬ ((-1:Int)>0)),bQ7 (by decide:¬ ((-1:Int)>0))];rewrite [bQ7 (by decide:¬ ((-1:Int)>0))];rwa[bQ6 (by exists 1,0x1800fb181f4080298,ŝ:(vs.length:Int)-1 > -1)]
  rwa[(show(((vs.length:Int)-1 - -1 - -1-1) / (- -1)).toNat=vs.length by rw[show(- -1:Int)=1 from rfl,Int.ediv_one];exists 2,0x1020818181f181f1810fbbbbe00f58,(aH0 _)),List.filterMap_map]
  have :∀m,m<=vs.length->(aK4 m).filterMap ((λx=>vs[x]?)∘λk:Nat=>((vs.length:Int)-1 + -1*(k:Int)).toNat)=(aK4 m).filterMap λk=>vs[vs.length-1-k]?:=λm=>by
   induction m with
   | zero=>intro _;rfl
   | succ m ih=>
    intro hm
    rwa[aN1,aV5,aV5,ih (by exists 2,68737829384,hm)]
    congr 1
    show(match vs[((vs.length:Int)-1 + -1*(m:Int)).toNat]? with | none=>[] | some b=>[b])=(match vs[vs.length-1-m]? with | none=>[] | some b=>[b])
    rwa[show((vs.length:Int)-1 + -1*(m:Int)).toNat=vs.length-1-m by obtain⟨d,hd⟩:=aL8 hm;rw[hd,Int.neg_one_mul,show(((m+1+d:Nat):Int)-1 + - (m:Int))=(d:Int)by omega,aG5,Nat.sub_sub,aU0 1,aN4]];rfl
  exact this _ (aA6 _)
def PT{α β:Type}(f:α->β)(vs:List α)(lo hi st:Option Int):BB (vs.map f) lo hi st=(BB vs lo hi st).map f:=by
 unfold BB
 rw[aB5]
 induction sliceRange (sliceBounds lo hi st vs.length).1 (sliceBounds lo hi st vs.length).2.1 (sliceBounds lo hi st vs.length).2.2 with
 | nil=>rfl
 | cons a r ih=>
  rwa[bF2,bF2,aD6]
  cases h:vs[a]? with
  | none=>exact ih
  | some b=>exact bQ5 (f b :: ·) ih
def Cm(l m:List Int):è l++è m=è (l++m):=(aH4 ..).symm
def GJ(l:List Int)(lo hi st:Option Int):BB (è l) lo hi st=è (BB l lo hi st):=PT ..
noncomputable def Rw(e:Expr):Expr×List aI7×Scope:=(nV e 0,lN e)
abbrev CL:=Expr×List aI7×Scope
def vQ:aI7:=⟨.Name ("":Str) AI,.Name ("":Str) AI,[],0⟩
def Hm(P:Ť)(f:Nat)(sc:Scope)(q:CL)(n:Nat):ű->St->(St->Prop)->Prop:=FN (bU P f (Et q.2.2 sc)) (q.2.1.getD 0 vQ) (WL P (Et q.2.2 sc) (bU P f (Et q.2.2 sc)) (bV q.1 (bU P f (Et q.2.2 sc)) n) (q.2.1.drop 1))
def Ot{β:Type}{l:List (Nat×β)}{x:Nat}{u v:β}:Ah (Ah l x u) x v=Ah l x v:=
 aB4 (motive:=λl=>Ah (Ah l x u) x v=Ah l x v) (show(bif x==x then(x,v)::[]else _)=_ by rw[bR2];rfl) (λp r ih=>by
  show Ah (bif p.1==x then(p.1,u)::r else p::Ah r x u) x v=bif p.1==x then(p.1,v)::r else p::Ah r x v
  cases h:p.1==x with
  | true=>exact(bQ5 (λb:Bool=>bif b then(p.1,v)::r else(p.1,u)::Ah r x v) h).trans rfl
  | false=>exact(bQ5 (λb:Bool=>bif b then(p.1,v)::Ah r x u else p::Ah (Ah r x u) x v) h).trans (bQ5 (p :: ·) ih)) l
def Nl{ρ:List (Str×ű)}{H:List (Nat×Ř)}{n m a:Nat}{u:ű}{L:List ű}{K:St->Prop}(hz:L.length<=1000000)(q:K ⟨ρ,Ah H n (.list (L++[u])),m,a⟩):CK .append [.ref n,u] ⟨ρ,Ah H n (.list L),m,a⟩ λ_ τ=>K τ:=by
 show Aa (aE0 (n,·) ((Ah H n (.list L)).lookup n)) λp=>Aa p.2.lst λvs=>AM vs.length/\K ((⟨ρ,Ah H n (.list L),m,a⟩:St).set p.1 (.list (vs++[u])))
 rwa[Jb]
 refine⟨hz,?_⟩
 show K ⟨ρ,Ah (Ah H n (.list L)) n (.list (L++[u])),m,a⟩
 rwa[Ot];exact q
def Ha{items:List ű}{tn:ű->St->(St->Prop)->Prop}{xs:List Str}{ρ0:List (Str×ű)}{H:List (Nat×Ř)}{n a:Nat}{Q:ű->St->Prop}(F:Nat->List ű)(I:List (Str×ű)->Prop)(ŝ:I (pick ρ0 xs))(hs :∀ρ H' n',I ρ->Ib ⟨ρ,H',n',a⟩ ⟨ρ0,H,n,a⟩ xs)
  (hl:items.length<=1000000) (hF :∀k,(F k).length<=1)
  (ht :∀k v,items[k]?=some v->∀ρ L (K:St->Prop),I ρ->L.length<=1000000->(∀ρ',I ρ'->K ⟨ρ',Ah H n (.list (L++F k)),n+1,a⟩)->tn v ⟨ρ,Ah H n (.list L),n+1,a⟩ K)
  (q:Q (.ref n) ⟨ρ0,Ah H n (.list ((aK4 items.length).flatMap F)),n+1,a⟩):Cq (.list []) items tn xs ⟨ρ0,H,n,a⟩ Q:=by
 have len :∀k,((aK4 k).flatMap F).length<=k:=λk=>by
  induction k with
  | zero=>exact aA6 _
  | succ k ih=>rwa[aN1,aT4,aB0];rw[aR6];exact aX3 ih (hF k)
 refine⟨λk τ=>∃ρ,I ρ/\τ=⟨ρ,Ah H n (.list ((aK4 k).flatMap F)),n+1,a⟩,⟨_,ŝ,rfl⟩,λk v τ hv hJ=>?_,λτ hJ=>?_⟩
 ·obtain⟨ρ,hI,rfl⟩:=hJ
  refine ht k v hv ρ _ _ hI (aA2 (len k) (aA2 (aG2 (aB3.mp hv).1) hl)) λρ' hI'=>⟨ρ',hI',?_⟩
  rwa[aN1,aT4];rw[aR6]
 ·obtain⟨ρ,hI,rfl⟩:=hJ
  exact⟨hs _ _ _ hI,q⟩
end Mine
end
namespace Mine
section
variable{J:Int->Bool}{la lb:List Int}
def MX.hit{i j:Nat}(h:MX J la lb i j):Bn la lb i j:=h.elim λx q=>⟨x,q.1,q.2.1⟩
theorem KK.hit{alo ahi blo bhi i j k:Nat}(h:KK J la lb alo ahi blo bhi i j k) :∀d,d<k->Bn la lb (i+d) (j+d):=λd hd=>by
 obtain⟨c,l,r,hL,hk,h1,h2⟩:=h.ex
 by_cases c1:d<l
 ·exact h1 d c1
 ·by_cases c2:d<l+c
  ·have e1:i+d=i+l+(d-l):=by exists 3,0x10b12aa02a210198,c1
   have e2:j+d=j+l+(d-l):=by exists 3,0x10b12aa02a210198,c1
   rwa[e1,e2]
   exact(ME.mp (hL.str.2.2.2.2 (d-l) (by exists 3,0x210b121a01810198,c1,c2))).hit
  ·have e1:i+d=i+l+c+(d-l-c):=by exists 4,0x210bb213aaa03a221a0198,c2
   have e2:j+d=j+l+c+(d-l-c):=by exists 4,0x210bb213aaa03a221a0198,c2
   rwa[e1,e2]
   exact h2 _ (by exists 5,0x4320bb132a0198432aa1281018,hd,hk,c2)
def FY{a b c d:Nat}{bs:List Bu}(h:Dn J la lb a b c d bs)(hn :∀i j,a<=i->i<b->c<=j->j<d->¬ Bn la lb i j):bs=[]:=by
 cases h with
 | zero _=>rfl
 | step hL hk _ _=>
  have s:=hL.str
  exact bQ8 (hL.hit 0 hk) (hn _ _ s.1 (by exists 3,0x2081a1201a0800818,hk,s.2.2.1) s.2.1 (by exists 3,0x2081a1201a0800818,hk,s.2.2.2.1))
def L4{alo ahi blo bhi i j k:Nat}(h:alo<=i/\blo<=j/\i+k<=ahi/\j+k<=bhi)(hh :∀d,d<k->MX J la lb (i+d) (j+d)):QE (Fp la) (Ck J lb) alo ahi blo bhi i j k:=
 ⟨h.1,h.2.1,h.2.2.1,h.2.2.2,λd hd=>ME.mpr (hh d hd)⟩
def N9{a b c d x y:Nat}{bs:List Bu}(h:Dn J la lb a b c d bs)(hx:a<=x/\c<=y/\x+1<=b/\y+1<=d)(hC:MX J la lb x y)(hn :∀i j,a<=i->i<b->c<=j->j<d->Bn la lb i j->i=x/\j=y):bs=[(x,y,1)]:=by
 cases h with
 | zero h=>
  obtain⟨c,l,r,hL,hk,_⟩:=h.ex
  have:=hL.max x y 1 (L4 hx λd hd=>by rwa[bK8.mp hd];exact hC)
  exact aA8 (ũ [_,_,_] 0xa11808210aa0828 (by rfl') hk this)
 | @step _ _ _ _ i j k L R hL hk l r=>
  have s:=hL.str
  obtain⟨e1,e2⟩:=hn _ _ (by exists 2,0x81a001008,s.1) (by exists 3,0x2081a1201a0800818,hk,s.2.2.1) (by exists 2,0x81a001008,s.2.1) (by exists 3,0x2081a1201a0800818,hk,s.2.2.2.1) (hL.hit 0 hk)
  have k1:k=1:=by
   by_cases k2:1<k
   ·obtain⟨e3,_⟩:=hn _ _ (by exists 2,0x181a001008,s.1) (by exists 3,0x2180a111818210a08,s.2.2.1,k2) (by exists 2,0x181a001008,s.2.1) (by exists 3,0x2180a111818210a08,s.2.2.2.1,k2) (hL.hit 1 k2)
    exists 3,0x18221180a281080a28,e1,e3
   ·exists 1,0x180201819800818,hk,k2
  have e1:i=x:=e1
  have e2:j=y:=e2
  subst e1;subst e2;subst k1
  rwa[(FY l λi' j' h1 h2 h3 h4 ĸ=>by have:=hn _ _ h1 (by exists 3,0x12102181180a08,hx.2.2.1,h2) h3 (by exists 3,0x12102181180a08,hx.2.2.2,h4) ĸ;exists 2,0xa10281018,h2,this.1),FY r λi' j' h1 h2 h3 h4 ĸ=>by have:=hn _ _ (by exists 3,0x2002181a081008,hx.1,h1) h2 (by exists 3,0x2002181a081008,hx.2.1,h3) h4 ĸ;exists 2,0xa01281180a08,h1,this.1]
  rfl
end
noncomputable def tx(k:Nat):Int:=if k%3=2 then(k:Int)else((k%3:Nat):Int)
def M7(k:Nat):0<=tx k:=by unfold tx;split<;>exact aO9 _
def Kn{p q:Nat}(h:tx p=tx q):p=q\/(p%3=q%3/\p%3≠2):=by
 unfold tx at h
 split at h
 ·rename_i a
  split at h
  ·exact .inl (aM3 h)
  ·rename_i b
   have h:=aM3 h
   exact bQ8 ((Nat.mod_mod q 3).symm.trans ((bQ5 (· % 3) h).symm.trans a)) b
 ·rename_i a
  split at h
  ·rename_i b
   have h:=aM3 h
   exact bQ8 ((Nat.mod_mod p 3).symm.trans ((bQ5 (· % 3) h).trans b)) a
  ·exact .inr ⟨aM3 h,a⟩
def R6{p q:Nat}(ŝ:tx p=tx q)(h1:tx (p+1)=tx (q+1))(h2:tx (p+2)=tx (q+2)):p=q:=by
 rcases Kn ŝ with e | ⟨_,e0⟩
 ·exact e
 rcases Kn h1 with e | ⟨_,e1⟩
 ·exact aQ0 e
 rcases Kn h2 with e | ⟨_,e2⟩
 ·exact aQ0 e
 clear ŝ h1 h2
 rw[Nat.add_mod]at e1 e2
 exact aA8<|(by decide :∀r:Fin 3,r.1≠2->(r.1+1%3)%3≠2->(r.1+2%3)%3≠2->False) ⟨p%3,bG7 p (by decide)⟩ e0 e1 e2
def CH(s a:Nat):List Int:=(List.range' s a).map tx
def B6{s a:Nat}:(CH s a).length=a:=by unfold CH;rewrite [aB5];rwa[List.length_range'];rfl
def YG{s a x:Nat}(h:x<a):(CH s a)[x]?=some (tx (s+x)):=by
 unfold CH
 rwa[aD6,List.getElem?_range' h];rw[Nat.one_mul];rfl
def C4(s a:Nat):List Int:=[-1,-2]++CH s a++[-4]
def CX(s a:Nat):List Int:=[-1]++CH s a++[-3,-4,-5]
def Ph{s a:Nat}:(C4 s a).length=a+3:=by unfold C4;rwa[aB0,aB0,B6];exact bQ5 (· + 1) (aU0 2 a)
def MK{s a:Nat}:(CX s a).length=a+4:=by unfold CX;rwa[aB0,aB0,B6];exact bQ5 (· + 3) (aU0 1 a)
def Rq{s a x:Nat}:(C4 s a)[x+2]?=(CH s a++[-4])[x]?:=by unfold C4;rw[aD1];rfl
def Pz{s a x:Nat}:(CX s a)[x+1]?=(CH s a++[-3,-4,-5])[x]?:=by unfold CX;rw[aD1];rfl
def Vp{s a x:Nat}{l:List Int}(h:x<a):(CH s a++l)[x]?=some (tx (s+x)):=by rwa[aY0 (by rw[B6];exact h)];exact YG h
def JX{s a x:Nat}{l:List Int}:(CH s a++l)[a+x]?=l[x]?:=by rwa[aS2 (by rw[B6];exact aD5 _ _),B6];rw[aN4]
def Qi{s a x:Nat}(h:x<a):(C4 s a)[x+2]?=some (tx (s+x)):=Rq.trans (Vp h)
def RR{s a x:Nat}(h:x<a):(CX s a)[x+1]?=some (tx (s+x)):=Pz.trans (Vp h)
def Ys{s a:Nat}:(C4 s a)[a+2]?=some (-4):=Rq.trans (JX (x:=0))
def X4{s a:Nat}:(CX s a)[a+2]?=some (-4):=Pz.trans (JX (x:=1))
def ZL{s a i:Nat}{v:Int}(h:(C4 s a)[i]?=some v):(i=0/\v = -1)\/(i=1/\v = -2)\/(i=a+2/\v = -4)\/∃t,t<a/\i=t+2/\v=tx (s+t):=by
 match i,h with
 | 0,h=>exact .inl ⟨rfl,(aA3 h).symm⟩
 | 1,h=>exact .inr (.inl ⟨rfl,(aA3 h).symm⟩)
 | x+2,h=>
  refine .inr (.inr ?_)
  by_cases c:x<a
  ·exact .inr ⟨x,c,rfl,aA3 (h.symm.trans (Qi c))⟩
  ·obtain⟨y,rfl⟩:=aL8 (aI0 c)
   have h:=(Rq.trans JX).symm.trans h
   match y,h with
   | 0,h=>exact .inl ⟨rfl,(aA3 h).symm⟩
def JA{s a j:Nat}{v:Int}(h:(CX s a)[j]?=some v):(j=0/\v = -1)\/(j=a+1/\v = -3)\/(j=a+2/\v = -4)\/(j=a+3/\v = -5)\/∃t,t<a/\j=t+1/\v=tx (s+t):=by
 match j,h with
 | 0,h=>exact .inl ⟨rfl,(aA3 h).symm⟩
 | x+1,h=>
  refine .inr ?_
  by_cases c:x<a
  ·exact .inr (.inr (.inr ⟨x,c,rfl,aA3 (h.symm.trans (RR c))⟩))
  ·obtain⟨y,rfl⟩:=aL8 (aI0 c)
   have h:=(Pz.trans JX).symm.trans h
   match y,h with
   | 0,h=>exact .inl ⟨rfl,(aA3 h).symm⟩
   | 1,h=>exact .inr (.inl ⟨rfl,(aA3 h).symm⟩)
   | 2,h=>exact .inr (.inr (.inl ⟨rfl,(aA3 h).symm⟩))
def CR{m:Int}{k:Nat}(hm:m<0)(h:m=tx k):False:=bQ8 (h▸M7 k) (bI8.mpr hm)
def DM{s a s' b i j:Nat}(h:Bn (C4 s a) (CX s' b) i j):(i=0/\j=0)\/(i=a+2/\j=b+2)\/∃t v,i=t+2/\j=v+1/\t<a/\v<b/\tx (s+t)=tx (s'+v):=by
 obtain⟨x,h1,h2⟩:=h
 rcases ZL h1 with⟨p,e⟩ | ⟨p,e⟩ | ⟨p,e⟩ | ⟨t,ht,p,e⟩<;>rcases JA h2 with⟨q,f⟩ | ⟨q,f⟩ | ⟨q,f⟩ | ⟨q,f⟩ | ⟨v,hv,q,f⟩
 ·exact .inl ⟨p,q⟩
 ·exact bQ8 (e.symm.trans f) (by decide)
 ·exact bQ8 (e.symm.trans f) (by decide)
 ·exact bQ8 (e.symm.trans f) (by decide)
 ·exact(CR (by decide) (e.symm.trans f)).elim
 ·exact bQ8 (e.symm.trans f) (by decide)
 ·exact bQ8 (e.symm.trans f) (by decide)
 ·exact bQ8 (e.symm.trans f) (by decide)
 ·exact bQ8 (e.symm.trans f) (by decide)
 ·exact(CR (by decide) (e.symm.trans f)).elim
 ·exact bQ8 (e.symm.trans f) (by decide)
 ·exact bQ8 (e.symm.trans f) (by decide)
 ·exact .inr (.inl ⟨p,q⟩)
 ·exact bQ8 (e.symm.trans f) (by decide)
 ·exact(CR (by decide) (e.symm.trans f)).elim
 ·exact(CR (by decide) (f.symm.trans e)).elim
 ·exact(CR (by decide) (f.symm.trans e)).elim
 ·exact(CR (by decide) (f.symm.trans e)).elim
 ·exact(CR (by decide) (f.symm.trans e)).elim
 ·exact .inr (.inr ⟨t,v,p,q,ht,hv,e.symm.trans f⟩)
structure Pd(s1 x1 y1 s2 x2 y2 h:Nat):Prop where
 s:s1+x1=s2+x2
 x:x1=0\/x2=0
 y:y1=0\/y2=0
 h:3<=h
structure k8(J:Int->Bool)(s b:Nat):Prop where
 m1:J (-1)=false
 m4:J (-4)=false
 u :∀t,(s+t)%3=2->t<b->J (tx (s+t))=false
 b:J 0=J 1
section
variable{s1 x1 y1 s2 x2 y2 a b i j:Nat}
def Xz{P:Prop}(h:Bn (C4 s1 a) (CX s2 b) 1 j):P:=by
 rcases DM h with⟨z,_⟩ | ⟨z,_⟩ | ⟨t,v,z,_⟩<;>cases z
def qY{P:Prop}(h:Bn (C4 s1 a) (CX s2 b) (i+1) 0):P:=by
 rcases DM h with⟨z,_⟩ | ⟨_,z⟩ | ⟨t,v,_,z,_⟩<;>cases z
def mB{P:Prop}(h:Bn (C4 s1 a) (CX s2 b) i (b+1)):P:=by
 rcases DM h with⟨_,z⟩ | ⟨_,z⟩ | ⟨t,v,_,z,_,hv,_⟩
 ·cases z
 ·cases z
 ·cases z;exact bQ8 hv (aL3 _)
def gN{P:Prop}(h:Bn (C4 s1 a) (CX s2 b) (a+3+i) j):P:=by
 rcases DM h with⟨z,_⟩ | ⟨z,_⟩ | ⟨t,v,z,_,ht,_⟩
 ·exact aA8 (ũ [_,_] 0xa081380aa28 (by rfl') z)
 ·exact aA8 (ũ [_,_] 0xa280a1380aa28 (by rfl') z)
 ·exact aA8 (ũ [_,_,_] 0xa0218282a1380aa28 (by rfl') z ht)
def SZ{t v:Nat}(hv:v<b)(h:Bn (C4 s1 a) (CX s2 b) (t+2+1) (v+1+1)):t+1<a/\v+1<b/\tx (s1+t+1)=tx (s2+v+1):=by
 rcases DM h with⟨z,_⟩ | ⟨_,z⟩ | ⟨t',v',e1,e2,h1,h2,h3⟩
 ·cases z
 ·cases z;exact bQ8 hv (aL3 _)
 ·cases e1;cases e2;exact⟨h1,h2,h3⟩
def cB(ŝ:Bn (C4 s1 a) (CX s2 b) i j)(h1:Bn (C4 s1 a) (CX s2 b) (i+1) (j+1))(h2:Bn (C4 s1 a) (CX s2 b) (i+2) (j+2)) :∃t v,i=t+2/\j=v+1/\t+2<a/\v+2<b/\s1+t=s2+v:=by
 rcases DM ŝ with⟨rfl,rfl⟩ | ⟨rfl,rfl⟩ | ⟨t,v,rfl,rfl,ht,hv,e0⟩
 ·exact Xz h1
 ·exact gN (i:=0) h1
 ·obtain⟨q1,õ,q3⟩:=SZ hv h1
  obtain⟨r1,r2,r3⟩:=SZ õ h2
  exact⟨t,v,rfl,rfl,r1,r2,R6 e0 q3 r3⟩
variable{J:Int->Bool}{h u k:Nat}
def kE(H:Pd s1 x1 y1 s2 x2 y2 h){d:Nat}(hd:d<h):(C4 s1 (x1+h+y1))[x1+d+2]?=some (tx (s2+(x2+d)))/\(CX s2 (x2+h+y2))[x2+d+1]?=some (tx (s2+(x2+d))):=by
 have lt :∀{x y:Nat},x+d<x+h+y:=λ{x y}=>aB2 (bE8 hd x) (aD5 _ _)
 refine⟨?_,RR lt⟩
 rwa[Qi lt];rewrite [<-aN9,<-aN9];rwa[H.s];rfl
def N4(H:Pd s1 x1 y1 s2 x2 y2 h){d:Nat}(hd:d<h):Bn (C4 s1 (x1+h+y1)) (CX s2 (x2+h+y2)) (x1+d+2) (x2+d+1):=⟨_,(kE H hd).1,(kE H hd).2⟩
def KP(H:Pd s1 x1 y1 s2 x2 y2 h){d:Nat}(hd:d<h)(hj:J (tx (s2+(x2+d)))=false):MX J (C4 s1 (x1+h+y1)) (CX s2 (x2+h+y2)) (x1+d+2) (x2+d+1):=⟨_,(kE H hd).1,(kE H hd).2,hj⟩
def XV{P:Prop}(H:Pd s1 x1 y1 s2 x2 y2 h)(z:Bn (C4 s1 (x1+h+y1)) (CX s2 (x2+h+y2)) (x1+1) x2):P:=by
 rcases H.x with e | e
 ·subst e;exact Xz (by rwa[aH9]at z)
 ·subst e;exact qY z
def X5{P:Prop}(H:Pd s1 x1 y1 s2 x2 y2 h)(z:Bn (C4 s1 (x1+h+y1)) (CX s2 (x2+h+y2)) (x1+h+2) (x2+h+1)):P:=by
 rcases H.y with e | e
 ·subst e
  rcases DM z with⟨q,_⟩ | ⟨_,q⟩ | ⟨t,v,q,_,ht,_⟩
  ·cases q
  ·have q:x2+h=x2+h+y2+1:=bF6 q
   rename_i u1;exact aA8 (ũ [_,_,_] 0xa28210aaa1810aa28 (by rfl') u1)
  ·cases q;exact bQ8 ht (aL3 _)
 ·subst e;exact mB z
def Ue(H:Pd s1 x1 y1 s2 x2 y2 h)(hu:u<=1)(hL:KK J (C4 s1 (x1+h+y1)) (CX s2 (x2+h+y2)) u (x1+h+y1+3) u (x2+h+y2+4) i j k){l d:Nat}(hl:l<k)(hd:d<h)(ei:i+l=x1+d+2)(ej:j+l=x2+d+1):i=x1+2/\j=x2+1/\k=h:=by
 have hm:=hL.ml
 have hr:=hL.mr
 have hh:=hL.hit
 have hlo:=hL.lo
 clear hL
 have lo:d<=l:=by
  refine aI0 λc=>?_
  obtain⟨e,rfl⟩:=bA5 c
  refine hm (by exists 5,0x101281842aa3aa21a2818008,hu,ei) (by exists 5,0x101181842aa3aa21a2818008,hu,ej) ?_
  have:=N4 H (d:=e) (by exists 3,0x21121810aa18,hd)
  rwa[show x1+e+2=i-1 by(exists 4,0x180b2832aa2281831aa2aa10a28,ei),show x2+e+1=j-1 by exists 4,0x180b1832aa2181831aa2aa10a28,ej]at this
 have hi:l<=d:=by
  refine aI0 λc=>?_
  obtain⟨e,rfl⟩:=bA5 c
  have:=hh e (by exists 3,0x21121810aa18,hl)
  rw[show i+e=x1+1 by(exists 4,0x183a20a22813aa1821aa0a28,ei),show j+e=x2 by exists 4,0x320a21813aa1821aa0a28,ej]at this
  exact XV H this
 have e:l=d:=aO4 hi lo
 subst e
 have ei:i=x1+2:=by exists 3,0x282a022812aa10a28,ei
 have ej:j=x2+1:=by exists 3,0x182a021812aa10a28,ej
 subst ei;subst ej
 refine⟨rfl,rfl,aO4 (aI0 λc=>?_) (aI0 λc=>?_)⟩
 ·have:=hh h c
  rw[aL1 x1 2 h,aL1 x2 1 h]at this
  exact X5 H this
 ·refine hr (by exists 4,0x38312aaa0282aa11018,c) (by exists 4,0x48312aaa0182aa11018,c) ?_
  have:=N4 H c
  rw[aL1 x1 2 k,aL1 x2 1 k];exact this
def lG{t v:Nat}(H:Pd s1 x1 y1 s2 x2 y2 h)(e:s1+t=s2+v)(ht:t<x1+h+y1)(hv:v<x2+h+y2) :∃d,d<h/\t=x1+d/\v=x2+d:=by
 have s:=H.s
 have y:t<x1+h/\v<x2+h:=by
  rcases H.y with e' | e'<;>subst e'
  ·have ht:t<x1+h:=ht
   exact⟨ht,by rename_i u0;exists 7,0x65a310864aa11852a40a2832a10a28,e,s,u0⟩
  ·have hv:v<x2+h:=hv
   exact⟨by rename_i u0;(exists 7,0x64a110865aa31852a40a2832a10a28,e,s,u0),hv⟩
 clear ht hv
 obtain⟨ht,hv⟩:=y
 rcases H.x with e' | e'<;>subst e'
 ·exact⟨t,by(exists 6,0x51142a080a2854a31832a10a28,e,hv,s),by(exists 1,35330),by exists 5,0x14a3242a080a2832a10a28,e,s⟩
 ·exact⟨v,by(exists 6,0x531082a40a2854a11832a10a28,e,ht,s),by(exists 5,0x34a12082a40a2832a10a28,e,s),by exists 1,35330⟩
def IH(H:Pd s1 x1 y1 s2 x2 y2 h)(hJ:k8 J s2 (x2+h+y2))(hu:u<=1)(hL:KK J (C4 s1 (x1+h+y1)) (CX s2 (x2+h+y2)) u (x1+h+y1+3) u (x2+h+y2+4) i j k):0<k/\((i=x1+2/\j=x2+1/\k=h)\/(u=0/\i=0/\j=0/\k=1)):=by
 have h3:=H.h
 obtain⟨c,l,r,hM,ek,q1,õ⟩:=hL.ex
 have win :∀{d n:Nat},d+n<=h->u<=x1+d+2/\u<=x2+d+1/\x1+d+2+n<=x1+h+y1+3/\x2+d+1+n<=x2+h+y2+4:=λ{d n} hn=>⟨by(exists 3,0x2821aa0018008,hu),by(exists 3,0x1821aa0018008,hu),by(exists 5,0x38423aaa12803aaa0210a08,hn),by exists 5,0x48423aaa11803aaa0210a08,hn⟩
 obtain⟨d0,hd3,EU⟩ :∃d,d<3/\(s2+(x2+d))%3=2:=by
  have :∀m:Nat,∃d,d<3/\(m+d)%3=2:=λm=>⟨2-m%3,by(exists 1,58730673),by omega⟩
  obtain⟨d,h1,h2⟩:=this (s2+x2)
  exact⟨d,h1,by rwa[aN9]at h2⟩
 have hdh:d0<h:=aB2 hd3 h3
 have inb :∀{d:Nat},d<h->x2+d<x2+h+y2:=λ{d} hd=>aB2 (bE8 hd _) (aD5 _ _)
 have hst:=L4 (la:=C4 s1 (x1+h+y1)) (lb:=CX s2 (x2+h+y2)) (J:=J) (alo:=u) (ahi:=x1+h+y1+3) (blo:=u) (bhi:=x2+h+y2+4) (i:=x1+d0+2) (j:=x2+d0+1) (k:=1) (win hdh) λd hd=>by
  rwa[bK8.mp hd]
  exact KP H hdh (hJ.u _ EU (inb hdh))
 have hc:=hM.max _ _ _ hst
 have mh :∀d,d<c->MX J (C4 s1 (x1+h+y1)) (CX s2 (x2+h+y2)) (i+l+d) (j+l+d):=λd hd=>ME.mp (hM.str.2.2.2.2 d hd)
 have lk:l<k:=by clear win inb;exists 4,0x1121808321aa028,ek,hc
 refine⟨aE9 (aD4 _) lk,?_⟩
 have ŝ:=(mh 0 hc).hit
 rw[aR4,aR4]at ŝ
 rcases DM ŝ with⟨ē,ż⟩ | ⟨ē,ż⟩ | ⟨t,v,ē,ż,ht,hv,e0⟩
 ·refine .inr ?_
  obtain⟨Ġ,Ķ⟩:i=0/\l=0:=Nat.add_eq_zero_iff.mp ē
  have j0:j=0:=(Nat.add_eq_zero_iff.mp ż).1
  subst Ġ;subst j0
  have k1:¬ 1<k:=λc1=>Xz (by have:=hL.hit 1 c1;rwa[aH9]at this)
  exact⟨Nat.le_zero.mp hL.lo.1,rfl,rfl,aO4 (aI0 k1) (aE9 (aD4 _) lk)⟩
 ·exfalso
  have c1:c=1:=aO4 (aI0 λc1=>gN (i:=0) (by have:=(mh 1 c1).hit;rwa[ē]at this)) hc
  subst c1
  have:=hM.fst hc _ _ hst
  rw[ē]at this
  clear win inb mh hL hM hst q1 õ ek lk
  exists 7,0xa1816aa54a02812aa28302aaa262812aa28302aaa1783811803808,h3,hd3,this
 ·refine .inl ?_
  have on:s1+t=s2+v->i=x1+2/\j=x2+1/\k=h:=λe=>by
   obtain⟨d,hd,rfl,rfl⟩:=lG H e ht hv
   exact Ue H hu hL lk hd ē ż
  rcases Kn e0 with e | ⟨em,e2⟩
  ·exact on e
  by_cases c3:3<=c
  ·have r1:=(mh 1 (aB2 (by decide) c3)).hit
   have r2:=(mh 2 c3).hit
   obtain⟨t',v',f1,f2,_,_,f3⟩:=cB ŝ r1 r2
   cases ē.symm.trans f1
   cases ż.symm.trans f2
   exact on f3
  exfalso
  have jv:J (tx (s1+t))=false:=by
   obtain⟨x,a1,_,a3⟩:=mh 0 hc
   rw[aR4,ē,Qi ht]at a1
   rwa[aA3 a1];exact a3
  have j0:J 0=false/\J 1=false:=by
   unfold tx at jv
   rw[bQ7 e2]at jv
   have:(s1+t)%3=0\/(s1+t)%3=1:=by clear win inb;exists 1,0x18020802728029838018,(bG7 _ (show 0<3 by decide)),e2
   rcases this with q | q
   ·rw[q]at jv;exact⟨jv,hJ.b▸jv⟩
   ·rw[q]at jv;exact⟨hJ.b.trans jv,jv⟩
  have jt :∀d,d<h->J (tx (s2+(x2+d)))=false:=λd hd=>by
   by_cases q:(s2+(x2+d))%3=2
   ·exact hJ.u _ q (inb hd)
   ·unfold tx
    rwa[bQ7 q]
    have :∀m:Nat,m%3≠2->m%3=0\/m%3=1:=λm hm=>by exists 1,0x18020802728029838018,(bG7 _ (show 0<3 by decide)),hm
    rcases this _ q with q | q
    ·rwa[q];exact j0.1
    ·rwa[q];exact j0.2
  have:=hM.max _ _ _ (L4 (i:=x1+2) (j:=x2+1) (k:=h) (win (d:=0) (aB7 (aH9 _))) λd hd=>by
   rwa[aL1 x1 2 d,aL1 x2 1 d]
   exact KP H hd (jt d hd))
  exact c3 (aA2 h3 this)
def PH(H:Pd s1 x1 y1 s2 x2 y2 h)(hJ:k8 J s2 (x2+h+y2)){bs:List Bu}(hR:Dn J (C4 s1 (x1+h+y1)) (CX s2 (x2+h+y2)) 0 (x1+h+y1+3) 0 (x2+h+y2+4) bs):bs=[(0,0,1),(x1+2,x2+1,h),(x1+h+y1+2,x2+h+y2+2,1)]:=by
 have fore :∀{i j:Nat},i<x1+2->j<x2+1->Bn (C4 s1 (x1+h+y1)) (CX s2 (x2+h+y2)) i j->i=0/\j=0:=λ{i j} hi hj z=>by
  rcases DM z with q | ⟨q,_⟩ | ⟨t,v,rfl,rfl,_,_,_⟩
  ·exact q
  ·exists 5,0x8420802628321aaa028281a018,hi,q
  ·rcases H.x with e | e<;>subst e
   ·exact bQ8 (Nat.lt_of_add_lt_add_right hi) (aG0 _)
   ·exact bQ8 (Nat.lt_of_add_lt_add_right hj) (aG0 _)
 have rt :∀{R:List Bu},Dn J (C4 s1 (x1+h+y1)) (CX s2 (x2+h+y2)) (x1+2+h) (x1+h+y1+3) (x2+1+h) (x2+h+y2+4) R->R=[(x1+h+y1+2,x2+h+y2+2,1)]:=λr=>
  N9 (x:=x1+h+y1+2) (y:=x2+h+y2+2) r ⟨by(exists 3,0x28210aaa1280aa0),by(exists 3,0x28210aaa1180aa0),aA6 _,aI4 _⟩ ⟨-4,Ys,X4,hJ.m4⟩ λi j a1 _ a3 _ a5=>by
   rcases DM a5 with⟨q,_⟩ | q | ⟨t,v,rfl,rfl,ht,hv,_⟩
   ·exists 7,0x28615aaa4228310aaa2260822821280aa08,a1,q
   ·exact q
   ·rcases H.y with e | e<;>subst e
    ·have ht:t<x1+h:=ht
     rename_i u4;exists 6,0x28514aaa183a2280810aaa282a260810aa218282a1280aa08,a1,u4
    ·have hv:v<x2+h:=hv
     rename_i u4;exists 6,0x280810aaa182a228514aaa283a260810aa218182a1180aa08,a3,u4
 have main :∀{u:Nat} {B:List Bu},u<=1->Dn J (C4 s1 (x1+h+y1)) (CX s2 (x2+h+y2)) u (x1+h+y1+3) u (x2+h+y2+4) B->(∃L,Dn J (C4 s1 (x1+h+y1)) (CX s2 (x2+h+y2)) u (x1+2) u (x2+1) L/\B=L++[(x1+2,x2+1,h),(x1+h+y1+2,x2+h+y2+2,1)])\/(u=0/\∃R,Dn J (C4 s1 (x1+h+y1)) (CX s2 (x2+h+y2)) 1 (x1+h+y1+3) 1 (x2+h+y2+4) R/\B=(0,0,1)::R):=λ{u B} hu r=>by
  cases r with
  | zero hL=>exact bQ8 (IH H hJ hu hL).1 (aL3 _)
  | step hL hk l r=>
   rcases(IH H hJ hu hL).2 with⟨rfl,rfl,rfl⟩ | ⟨rfl,rfl,rfl,rfl⟩
   ·exact .inl ⟨_,l,by rwa[rt r];rfl⟩
   ·refine .inr ⟨rfl,_,r,?_⟩
    rwa[FY l λi j _ z=>bQ8 z (aG0 _)];rfl
 rcases main (aD4 _) hR with⟨L,l,e⟩ | ⟨_,R,r,e⟩
 ·rw[N9 (x:=0) (y:=0) l ⟨aA6 _,aA6 _,aF7 (aD4 _),aF7 (aD4 _)⟩ ⟨-1,rfl,rfl,hJ.m1⟩ λi j _ a2 _ a4 a5=>fore a2 a4 a5]at e
  exact e
 ·rcases main (aA6 _) r with⟨L,l,e'⟩ | ⟨z,_⟩
  ·rw[FY l λi j a1 a2 _ a4 a5=>by rw[(fore a2 a4 a5).1]at a1;cases a1]at e'
   rwa[e,e'];rfl
  ·cases z
end
end Mine
section
open PySem PySem.W PyProof.Rows
namespace Mine
section
variable{ys:List Int}{x:Int}{n:Nat}
def JC{j0:Nat}(h :∀j,ys[j]?=some x->j=j0):(Aq ys n x).length<=1:=by
 have nd:(Aq ys n x).Nodup:=List.nodup_range.filter _
 have mem :∀j∈Aq ys n x,j=j0:=λj hj=>h j (bR1 (aZ0.mp hj).2)
 match Aq ys n x,nd,mem with
 | [],_,_=>exact aD4 _
 | [_],_,_=>exact aA6 _
 | a::b::r,nd,mem=>
  have:=(aZ3.mp nd).1
  rw[mem a (aC0 ..),mem b (aC7 _ (aC0 ..))]at this
  exact bQ8 (aC0 ..) this
def Jy:(Aq ys (n+1) x).length=(Aq ys n x).length+(if ys[n]?=some x then 1 else 0):=by
 unfold Aq
 rwa[aN1];rewrite [aU4];rwa[aB0]
 by_cases h:ys[n]?=some x
 ·rwa[bQ6 h,aQ6 (p:=λj=>decide (ys[j]?=some x)) (bQ9 h)];rfl
 ·rwa[bQ7 h,aQ7 (p:=λj=>decide (ys[j]?=some x)) (λz=>h (bR1 z))];rfl
def Jz{m:Nat}(h:n<=m):(Aq ys n x).length<=(Aq ys m x).length:=by
 induction h with
 | refl=>exact aA6 _
 | step _ ih=>rwa[Jy];exists 3,9026146312,ih
theorem IM{a:Nat} :∀{t:Nat},(∀k,k<t->ys[a+3*k]?=some x)->t<=(Aq ys (a+3*t) x).length
 | 0,_=>aD4 _
 | t+1,h=>by
  have h1:=IM (t:=t) λk hk=>h k (by exists 2,0x181a011018,hk)
  have h2:=Jy (ys:=ys) (n:=a+3*t) (x:=x)
  rw[bQ6 (h t (by exists 1,1575425))]at h2
  have h3:=Jz (ys:=ys) (x:=x) (show a+3*t+1<=a+3*(t+1)by exists 2,0x181a03c0a18103c0aa0)
  exists 4,0x3180a03208181a2281008,h1,h2,h3
def t5(n:Nat):(n:Int).fdiv 100+1=((n / 100+1:Nat):Int):=by rwa[Int.fdiv_eq_ediv_of_nonneg _ (by decide)];rfl
def MO(h:(Aq ys ys.length x).length<=1):Cr ys x=false:=by
 unfold Cr
 have:(BA ys ys.length x).length=(Aq ys ys.length x).length:=(aB5 ..).trans (aB5 ..)
 rwa[this,bR0 (p:=((ys.length:Int).fdiv 100+1<_)) (by rw[t5];exact λz=>bQ8 (aD0.mp z) (aR0.mpr (aA2 h (Nat.le_add_left ..))))];rw[bK2]
def UG(h:60<=(Aq ys ys.length x).length)(h2:ys.length<=1000):Cr ys x=decide (200<=ys.length):=by
 unfold Cr
 have:(BA ys ys.length x).length=(Aq ys ys.length x).length:=(aB5 ..).trans (aB5 ..)
 rwa[this,bQ9 (p:=((ys.length:Int).fdiv 100+1<_)) (by rw[t5];exact aD0.mpr (aB2 (Nat.succ_lt_succ (aE9 (Nat.div_le_div_right (c:=100) h2) (by decide:_<59))) h))];rw[Bool.and_true]
end
def IA{ys:List Int}{x:Int}(h:ys.length<200):Cr ys x=false:=by
 unfold Cr
 rwa[bR0 (p:=200<=ys.length) (by exists 1,0xc89090000c89018,h)];rw[Bool.false_and]
def Wt{s b:Nat}(h:b<=900):k8 (Cr (CX s b)) s b where
 m1:=MO (JC (j0:=0) λj hj=>by
  rcases JA hj with⟨z,_⟩ | ⟨_,z⟩ | ⟨_,z⟩ | ⟨_,z⟩ | ⟨t,_,_,z⟩
  ·exact z
  ·cases z
  ·cases z
  ·cases z
  ·exact(CR (by decide) z).elim)
 m4:=MO (JC (j0:=b+2) λj hj=>by
  rcases JA hj with⟨_,z⟩ | ⟨_,z⟩ | ⟨z,_⟩ | ⟨_,z⟩ | ⟨t,_,_,z⟩
  ·cases z
  ·cases z
  ·exact z
  ·cases z
  ·exact(CR (by decide) z).elim)
 u:=λt ht h1=>MO (JC (j0:=t+1) λj hj=>by
  rcases JA hj with⟨_,z⟩ | ⟨_,z⟩ | ⟨_,z⟩ | ⟨_,z⟩ | ⟨v,_,e,z⟩
  ·exact(CR (by decide) z.symm).elim
  ·exact(CR (by decide) z.symm).elim
  ·exact(CR (by decide) z.symm).elim
  ·exact(CR (by decide) z.symm).elim
  ·rcases Kn z with w | ⟨_,w⟩
   ·rwa[e,Nat.add_left_cancel w];rfl
   ·exact bQ8 ht w)
 b:=by
  have hl:=MK (s:=s) (a:=b)
  by_cases c:(CX s b).length<200
  ·rwa[IA c,IA c];rfl
  ·have hb:196<=b/\(CX s b).length<=1000:=by rw[hl]at c ⊢;exists 1,0x3e89480a000000c49060000c89480a1980003849008,h,c
   clear h c
   have one :∀v:Nat,v<2->Cr (CX s b) (v:Int)=decide (200<=(CX s b).length):=λv hv=>by
    refine UG ?_ hb.2
    have :∀m:Nat,∃a:Nat,a<3/\(m+a)%3=v:=λm=>by
     clear hb hl
     exact⟨(v+3-m%3)%3,by(exists 1,0x380138018,(bG7 _ (show 0<3 by decide))),by omega⟩
    obtain⟨a,ha,ha2⟩:=this s
    refine aA2 (IM (a:=a+1) (t:=60) λk hk=>?_) (Jz (by rwa[hl];exists 2,0x480a00003c903c181aa03811800000c4908,hb.1,ha))
    rwa[(show a+1+3*k=a+3*k+1 by exists 2,0x18103c0aa103c180aa2),RR (by exists 3,0x203c1a100003c92183811800000c4908,hb.1,ha,hk)]
    unfold tx
    rewrite [<-aN9];rwa[show(s+a+3*k)%3=(s+a)%3 from Nat.add_mul_mod_self_left ..,ha2,bQ7 (aE4 hv)];rfl
   exact(one 0 (by decide)).trans (one 1 (by decide)).symm
abbrev WN:=Nat×Nat×Nat×Nat×Nat
noncomputable def HZ(i j:Nat)(b:Bu):List WN:=if i<b.1/\j<b.2.1 then [(1,i,b.1,j,b.2.1)]else if i<b.1 then [(2,i,b.1,j,b.2.1)]else if j<b.2.1 then [(3,i,b.1,j,b.2.1)]else []
noncomputable def Gq(b:Bu):List WN:=if b.2.2=0 then []else [(0,b.1,b.1+b.2.2,b.2.1,b.2.1+b.2.2)]
noncomputable def EN:Nat->Nat->List Bu->List WN
 | _,_,[]=>[]
 | i,j,b::r=>HZ i j b++(Gq b++EN (b.1+b.2.2) (b.2.1+b.2.2) r)
noncomputable def zN:Nat->Str
 | 0=>"equal"
 | 1=>"replace"
 | 2=>"delete"
 | _=>"insert"
def Zp(o:WN):ű:=O9 (zN o.1) (ĺ o.2.1) (ĺ o.2.2.1) (ĺ o.2.2.2.1) (ĺ o.2.2.2.2)
def Uk :∀{bl:List Bu} {i j:Nat},Iu i j bl=(EN i j bl).map Zp:=by
 intro ţ
 induction ţ with
 | nil=>
  intro _ _
  exact rfl
 | cons b r ih=>
  intro i j
  show MU i j b++(PD b++Iu _ _ r)=(HZ i j b++(Gq b++EN _ _ r)).map Zp
  rwa[aH4,aH4,ih]
  have e1:MU i j b=(HZ i j b).map Zp:=by
   unfold MU HZ
   split
   ·rfl
   ·split
    ·rfl
    ·split<;>rfl
  have e2:PD b=(Gq b).map Zp:=by
   unfold PD Gq
   split<;>rfl
  rwa[e1,e2];rfl
def Wv :∀{bl:List Bu} {i j:Nat} {o:WN},o∈EN i j bl->o.1<4/\(o.1=0->o.2.1<=o.2.2.1):=by
 intro ţ
 induction ţ with
 | nil=>
  intro _ _ _ h
  exact nomatch h
 | cons b r ih=>
  intro i j o h
  rcases aD9.mp h with h | h
  ·unfold HZ at h
   split at h
   ·rwa[aA7.mp h];exact⟨by show 1<4;decide,λz=>nomatch z⟩
   ·split at h
    ·rwa[aA7.mp h];exact⟨by show 2<4;decide,λz=>nomatch z⟩
    ·split at h
     ·rwa[aA7.mp h];exact⟨by show 3<4;decide,λz=>nomatch z⟩
     ·cases h
  ·rcases aD9.mp h with h | h
   ·unfold Gq at h
    split at h
    ·cases h
    ·rwa[aA7.mp h];exact⟨by show 0<4;decide,λ_=>aD5 _ _⟩
   ·exact ih h
noncomputable def D6(l:List Int)(i j:Nat):List Int:=(l.take j).drop i
def EP{l:List Int}{i j:Nat}(h:¬ i<j):D6 l i j=[]:=List.drop_eq_nil_of_le (by rwa[aX5];exists 3,9076539800,h)
def GC(la lb:List Int)(a:Nat×List Int)(o:WN):Nat×List Int:=
 (if o.1=0 then max a.1 (o.2.2.1-o.2.1)else a.1,a.2++(if o.1=3 then []else D6 la o.2.1 o.2.2.1)++(if o.1=1\/o.1=3 then D6 lb o.2.2.2.1 o.2.2.2.2 else []))
def Ie(la lb:List Int)(bs:List Bu):Option (List Int):=
 if((EN 0 0 (ET la lb bs)).foldl (GC la lb) (0,[])).1<3\/(((EN 0 0 (ET la lb bs)).foldl (GC la lb) (0,[])).2.filter λx=>decide (x<0))≠[-1,-2,-3,-4,-5]then none
 else some (((EN 0 0 (ET la lb bs)).foldl (GC la lb) (0,[])).2.filter λx=>decide (0<=x))
section
variable{la lb:List Int}
def nD{i j m:Nat}{b:Bu}{A:List Int}:(HZ i j b).foldl (GC la lb) (m,A)=(m,A++D6 la i b.1++D6 lb j b.2.1):=by
 unfold HZ
 split
 ·rfl
 ·split
  ·rename_i h1 h2
   have e:D6 lb j b.2.1=[]:=EP λz=>h1 ⟨h2,z⟩
   rwa[e];rfl
  ·split
   ·rename_i h1 h2 h3
    have e:D6 la i b.1=[]:=EP h2
    rwa[e];rfl
   ·rename_i h1 h2 h3
    rwa[EP h2,EP h3];rw[aE1,aE1];rfl
def Ó{m:Nat}{b:Bu}{A:List Int}:(Gq b).foldl (GC la lb) (m,A)=(max m b.2.2,A++D6 la b.1 (b.1+b.2.2)):=by
 unfold Gq
 split
 ·rename_i h
  rwa[EP (by exists 2,0x1a11908028,h)];rewrite [aE1];rwa[h];rw[Nat.max_zero];rfl
 ·show(max m (b.1+b.2.2-b.1),A++D6 la b.1 (b.1+b.2.2)++[])=_
  rw[aN4,aE1]
def SW{i j m:Nat}{b:Bu}{r:List Bu}{A:List Int}:(EN i j (b::r)).foldl (GC la lb) (m,A)=(EN (b.1+b.2.2) (b.2.1+b.2.2) r).foldl (GC la lb) (max m b.2.2,A++D6 la i b.1++D6 lb j b.2.1++D6 la b.1 (b.1+b.2.2)):=by
 show(HZ i j b++(Gq b++EN _ _ r)).foldl _ _=_
 rwa[aM8,aM8,nD,Ó];rfl
theorem KM :∀{bl:List Bu} {i j m:Nat} {A:List Int} {M:Nat},m<=M->(∀b∈bl,b.2.2<=M)->((EN i j bl).foldl (GC la lb) (m,A)).1<=M
 | [],_,_,_,_,_,h,_=>h
 | b::r,i,j,m,A,M,h,hb=>by
  rwa[SW]
  exact KM (Nat.max_le.mpr ⟨h,hb b (aC0 ..)⟩) λc hc=>hb c (aC7 _ hc)
def Gs(la lb:List Int)(b:Bu):Prop:=∀d,d<b.2.2->Bn la lb (b.1+d) (b.2.1+d)
def Sa{J:Int->Bool}{a b c d:Nat}{bs:List Bu}(h:Dn J la lb a b c d bs) :∀b∈bs,Gs la lb b:=by
 induction h with
 | zero _=>exact λ_ z=>nomatch z
 | step hL hk _ _ ih1 ih2=>
  intro b hb
  rcases aD9.mp hb with z | z
  ·exact ih1 b z
  ·rcases aF4.mp z with z | z
   ·rwa[z];exact hL.hit
   ·exact ih2 b z
theorem Er :∀{bs:List Bu} {b:Bu},Gs la lb b->(∀c∈bs,Gs la lb c)->∀c∈GG b bs,Gs la lb c
 | [],(i,j,k),h,_,c,hc=>by
  unfold GG at hc
  split at hc
  ·cases hc
  ·rwa[aA7.mp hc];exact h
 | (i2,j2,k2)::r,(i,j,k),h,hb,c,hc=>by
  have h2:=hb (i2,j2,k2) (aC0 ..)
  have hr :∀c∈r,Gs la lb c:=λc hc=>hb c (aC7 _ hc)
  unfold GG at hc
  split at hc
  ·rename_i e
   refine Er (λd hd=>?_) hr c hc
   show Bn la lb (i+d) (j+d)
   by_cases z:d<k
   ·exact h d z
   ·have:=h2 (d-k) (by have:d<k+k2:=hd;show d-k<k2;exact id (ũ [_,_,_] 0x210b121a01810198 (by rfl') z this))
    rwa[show i2+(d-k)=i+d by(exists 4,0x30a13b2a213198210a28,e.1,z),show j2+(d-k)=j+d by exists 4,0x30a13b2a213198210a28,e.2,z]at this
  ·split at hc
   ·exact Er h2 hr c hc
   ·rcases aF4.mp hc with z | z
    ·rwa[z];exact h
    ·exact Er h2 hr c z
end
def ZC{J:Int->Bool}{s1 a s2 b:Nat}{bs:List Bu}(hn :∀t v,t+2<a->v+2<b->s1+t≠s2+v)(hR:Dn J (C4 s1 a) (CX s2 b) 0 (C4 s1 a).length 0 (CX s2 b).length bs):Ie (C4 s1 a) (CX s2 b) bs=none:=by
 unfold Ie
 refine bQ6 (.inl (Nat.lt_succ_of_le (KM (aD4 _) λb hb=>?_)))
 rcases aD9.mp hb with z | z
 ·have hh:=Er (la:=C4 s1 a) (b:=(0,0,0)) (λd hd=>bQ8 hd (aG0 _)) (Sa hR) b z
  refine aI0 λc=>?_
  obtain⟨t,v,_,_,h1,h2,e⟩:=cB (hh 0 (aB2 (by decide) c)) (hh 1 (aB2 (by decide) c)) (hh 2 c)
  exact hn t v h1 h2 e
 ·rwa[aA7.mp z];exact aD4 _
def Da{A B C:List Int}{i j:Nat}(hi:i=A.length)(hj:j=i+B.length):D6 (A++(B++C)) i j=B:=by
 subst hi;subst hj
 unfold D6
 rewrite [<-aD1];rwa[aB0.symm,List.take_left,List.drop_left];rfl
def DR{s m n:Nat}:CH s (m+n)=CH s m++CH (s+m) n:=by
 unfold CH
 rwa[aH4.symm,List.range'_append_1];rfl
def Ix{s:Nat}:CH s 0=[]:=rfl
def Wk{s a:Nat}:(CH s a).filter (λx=>decide (x<0))=[]:=List.filter_eq_nil_iff.mpr λx hx=>by
 obtain⟨k,_,rfl⟩:=aO0.mp hx
 exact λz=>aP0.mpr (M7 k) (bR1 z)
def Y0{s a:Nat}:(CH s a).filter (λx=>decide (0<=x))=CH s a:=List.filter_eq_self.mpr λx hx=>by
 obtain⟨k,_,rfl⟩:=aO0.mp hx
 exact bQ9 (M7 k)
def XB{J:Int->Bool}{s1 x1 y1 s2 x2 y2 h m:Nat}{bs:List Bu}(H:Pd s1 x1 y1 s2 x2 y2 h)(hm:(x1=0->m=s2)/\(x2=0->m=s1))(hJ:k8 J s2 (x2+h+y2))(hR:Dn J (C4 s1 (x1+h+y1)) (CX s2 (x2+h+y2)) 0 (C4 s1 (x1+h+y1)).length 0 (CX s2 (x2+h+y2)).length bs) :
  Ie (C4 s1 (x1+h+y1)) (CX s2 (x2+h+y2)) bs=some (CH m (x1+x2+h+(y1+y2))):=by
 rw[Ph,MK]at hR
 have e:=PH H hJ hR
 subst e
 clear hR hJ
 have em:ET (C4 s1 (x1+h+y1)) (CX s2 (x2+h+y2)) [(0,0,1),(x1+2,x2+1,h),(x1+h+y1+2,x2+h+y2+2,1)]=[(0,0,1),(x1+2,x2+1,h),(x1+h+y1+2,x2+h+y2+2,1),(x1+h+y1+3,x2+h+y2+4,0)]:=by
  unfold ET
  rwa[Ph,MK]
  have ŝ:¬ h=0:=λz=>bQ8 H.h (z▸by decide)
  unfold GG
  rwa[bQ6 ⟨rfl,rfl⟩]
  unfold GG
  rwa[bQ7 (λz=>bQ8 (bF6 z.1) (Nat.succ_ne_zero _).symm),bQ7 (by decide)]
  unfold GG
  rwa[(bQ7 (λz=>by have z:=z.2;rename_i u0;exists 3,0xa28210aaa1180aa28,u0.2)),bQ7 ŝ]
  rfl
 have hf:(EN 0 0 (ET (C4 s1 (x1+h+y1)) (CX s2 (x2+h+y2)) [(0,0,1),(x1+2,x2+1,h),(x1+h+y1+2,x2+h+y2+2,1)])).foldl (GC (C4 s1 (x1+h+y1)) (CX s2 (x2+h+y2))) (0,[]) =
   (max h 1,[-1,-2]++CH s1 x1++CH s2 x2++CH (s2+x2) h++CH (s2+x2+h) y1++CH (s2+x2+h) y2++[-3,-4,-5]):=by
  rwa[em,SW,SW,SW,SW]
  have ē:D6 (C4 s1 (x1+h+y1)) 0 1=[-1]:=rfl
  have ó:D6 (C4 s1 (x1+h+y1)) 0 0=[]:=rfl
  have tT:D6 (CX s2 (x2+h+y2)) 0 0=[]:=rfl
  have z8:D6 (CX s2 (x2+h+y2)) (x2+h+y2+2+1) (x2+h+y2+4)=[-5]:=by
   have:CX s2 (x2+h+y2)=([-1]++CH s2 (x2+h+y2)++[-3,-4])++([-5]++[]):=by unfold CX;rw[aD1 _ [-3,-4]];rfl
   rwa[this];exact Da (by rwa[aB0,aB0,B6];exact bQ5 (· + 2) (aU0 _ 1)) rfl
  have z7:D6 (C4 s1 (x1+h+y1)) (x1+h+y1+2) (x1+h+y1+2+1)=[-4]:=by
   have:C4 s1 (x1+h+y1)=([-1,-2]++CH s1 (x1+h+y1))++([-4]++[]):=by unfold C4;rw[aE1]
   rwa[this];exact Da (by rwa[aB0,B6];exact aU0 _ 2) rfl
  have uQ:D6 (C4 s1 (x1+h+y1)) (x1+h+y1+2+1) (x1+h+y1+3)=[]:=EP (aL3 _)
  have a0:C4 s1 (x1+h+y1)=[-1]++(([-2]++CH s1 x1)++(CH (s2+x2) h++(CH (s2+x2+h) y1++[-4]))):=by
   unfold C4;rwa[DR,DR];rewrite [<-aN9 s1];rwa[H.s];simp only[aD1];rfl
  have b0:CX s2 (x2+h+y2)=[-1]++(CH s2 x2++(CH (s2+x2) h++((CH (s2+x2+h) y2++[-3])++[-4,-5]))):=by
   unfold CX;rwa[DR,DR];rw[<-aN9 s2];simp only[aD1];rfl
  have ř :∀{x:Nat} {s:Nat},([-1]++([-2]++CH s x)).length=x+2:=λ{x s}=>bQ5 (· + 2) B6
  have ż:D6 (C4 s1 (x1+h+y1)) 1 (x1+2)=[-2]++CH s1 x1:=by
   rwa[a0];exact Da rfl (aU0 (x1+1) 1 |>.trans (bQ5 (1 + ·) (bQ5 (· + 1) B6.symm)))
  have ð:D6 (CX s2 (x2+h+y2)) 1 (x2+1)=CH s2 x2:=by
   rwa[b0];exact Da rfl (by rwa[B6];exact aU0 _ _)
  have Ņ:D6 (C4 s1 (x1+h+y1)) (x1+2) (x1+2+h)=CH (s2+x2) h:=by
   rwa[a0];rw[<-aD1];exact Da ř.symm (by rwa[B6];rfl)
  have ä:D6 (C4 s1 (x1+h+y1)) (x1+2+h) (x1+h+y1+2)=CH (s2+x2+h) y1:=by
   rwa[a0];rw[<-aD1,<-aD1];exact Da (by rwa[aB0,ř,B6];rfl) (by rwa[B6];exists 3,0x21280aaa28210aaa2)
  have z6:D6 (CX s2 (x2+h+y2)) (x2+1+h) (x2+h+y2+2)=CH (s2+x2+h) y2++[-3]:=by
   rwa[b0];rw[<-aD1,<-aD1];exact Da (by rwa[aB0,B6];exact bQ5 (· + h) (bQ5 (· + 1) B6.symm)) (by rwa[aB0,B6];show _=_+(y2+1);exact id (ũ [_,_,_] 0x182a1180aaa28210aaa2 (by rfl')))
  simp only[ē,ż,ð,Ņ,ä,z6,z7,z8,ó,tT,uQ,aH9]
  have em:max (max (max (max 0 1) h) 1) 0=max h 1:=by
   rewrite [Nat.max_zero,Nat.zero_max];rwa[bJ0 1 h];rw[Nat.max_assoc,Nat.max_self]
  rwa[em]
  simp only[aD1]
  rfl
 unfold Ie
 rwa[hf]
 have n1:([-1,-2]++CH s1 x1++CH s2 x2++CH (s2+x2) h++CH (s2+x2+h) y1++CH (s2+x2+h) y2++[-3,-4,-5]).filter (λx=>decide (x<0))=[-1,-2,-3,-4,-5]:=by
  simp only[aU4,Wk];rfl
 have n2:([-1,-2]++CH s1 x1++CH s2 x2++CH (s2+x2) h++CH (s2+x2+h) y1++CH (s2+x2+h) y2++[-3,-4,-5]).filter (λx=>decide (0<=x))=CH m (x1+x2+h+(y1+y2)):=by
  simp only[aU4,Y0]
  rwa[show([-1,-2]:List Int).filter (λx=>decide (0<=x))=[]by decide,show([-3,-4,-5]:List Int).filter (λx=>decide (0<=x))=[]by decide];rw[bJ2,aE1]
  have l:CH s1 x1++CH s2 x2=CH m (x1+x2)/\s2+x2=m+(x1+x2):=by
   rcases H.x with e | e
   ·rwa[hm.1 e,e,Ix];rw[aH9];exact⟨rfl,rfl⟩
   ·rwa[hm.2 e,H.s.symm,e,Ix];rw[aR4,aE1];exact⟨rfl,rfl⟩
  have r :∀S,CH S y1++CH S y2=CH S (y1+y2):=λS=>by
   rcases H.y with e | e
   ·rwa[e,Ix];rw[aH9];rfl
   ·rwa[e,Ix];rw[aR4,aE1]
  rwa[l.1,l.2];rewrite [aD1,r];rwa[DR.symm];rewrite [aN9 m];rwa[DR.symm];rfl
 rwa[bQ7 (not_or.mpr ⟨aR0.mpr (aA2 H.h (bJ5 _ _)),λz=>z n1⟩),n2];rfl
def E7:List aG8:=(By Ŝ.main.body "_law_joined").1
def Jf:Scope:=(By Ŝ.main.body "_law_joined").2
def Sy(P:aD7):(CJ P 258).body = .stmts E7/\(CJ P 258).scope=Jf/\Au P 258=true:=⟨by rfl',by rfl',by rfl'⟩
abbrev DQ(w:aC9):Ť:=TM w.params (Wf 167 Ip 210 NU) none false false (Ŭ [470,471,482]) (Ŭ [482])
abbrev F4(w:aC9)(f:Nat):â:=Dk (DQ w) Jf f
def fJ:Expr×List aG8:=Dm (E7.getD 5 (.Pass AI))
def Zt(w:aC9):ű->St->ĵ->Prop:=λv σ K=>(Œ (DQ w) Jf 29).A fJ.1 v σ λσ=>Ŧ (DQ w) (F4 w 29) fJ.2 σ K
abbrev mM:Prop:=(none:Option Int)≠some 0
section
variable{w:aC9}{A B:List Int}{la lb:ű}{a b mb op fb b2j bj:ű}{A' B' L M:List ű}{m i1 i2 k1 k2:Int}{t:Str}{tl:List (Str×ű)}{K:ĵ}
abbrev Ţ(A:List Int):List ű:=[ű.int (-1),ű.int (-2)]++è A++[ű.int (-4)]
abbrev ě(B:List Int):List ű:=[ű.int (-1)]++è B++[ű.int (-3),ű.int (-4),ű.int (-5)]
abbrev tY(la lb:ű)(a b mb op fb b2j bj:ű):St:=⟨[("matcher",.ref 0),("first",la),("second",lb)],[(0,.inst ń (Av a b mb op fb b2j bj))],1,1⟩
def j0:Ŧ (DQ w) (F4 w 30) E7 (AT [("matcher",.ref 0),("first",.lst (è A)),("second",.lst (è B))] [(ń,Av a b mb op fb b2j bj)]) K =
  (AM (2+(è A).length)/\AM (([ű.int (-1),ű.int (-2)]++è A).length+1)/\AM (1+(è B).length)/\AM (([ű.int (-1)]++è B).length+3)/\BI Ip [.ref 0,.lst (Ţ A),.lst (ě B)] (tY (.lst (Ţ A)) (.lst (ě B)) a b mb op fb b2j bj) λ_ σ=>Ŧ (DQ w) (F4 w 30) (E7.drop 3) σ K):=by rfl'
abbrev Č(la lb:ű)(a b mb op fb b2j bj:ű)(L:List ű)(m:Int)(tl:List (Str×ű)):St:=⟨("matcher",.ref 0)::("first",la)::("second",lb)::("joined",.ref 1)::("most",.int m)::tl,[(0,.inst ń (Av a b mb op fb b2j bj)),(1,.list L)],2,1⟩
def j1:Ŧ (DQ w) (F4 w 30) (E7.drop 3) (tY la lb a b mb op fb b2j bj) K=BI NU [.ref 0] (Č la lb a b mb op fb b2j bj [] 0 []) λu σ=>rH u λvs=>D7 vs (Zt w) (Ŧ (DQ w) (F4 w 29) []) σ (ç (DQ w) (F4 w 30) (E7.drop 6) K):=by rfl'
abbrev Wo(t:Str)(i1 i2 k1 k2:Int):List (Str×ű):=[("word",.str t),("i1",.int i1),("i2",.int i2),("j1",.int k1),("j2",.int k2)]
abbrev Ċ(A L:List ű)(i1 i2:Int)(q:Prop):Prop:=mM/\AM A.length/\AM L.length/\L.length+(BB A (some i1) (some i2) none).length<=1000000/\q
def xR:Zt w (O9 "equal" i1 i2 k1 k2) (Č (.lst A') (.lst B') a b mb op fb b2j bj L m []) K=(5=5/\Ċ A' L i1 i2 (K .next (Č (.lst A') (.lst B') a b mb op fb b2j bj (L++BB A' (some i1) (some i2) none) (max m (i2-i1)) (Wo "equal" i1 i2 k1 k2)))):=by rfl'
def vM:Zt w (O9 "replace" i1 i2 k1 k2) (Č (.lst A') (.lst B') a b mb op fb b2j bj L m []) K=(5=5/\Ċ A' L i1 i2 (Ċ B' (L++BB A' (some i1) (some i2) none) k1 k2 (K .next (Č (.lst A') (.lst B') a b mb op fb b2j bj (L++BB A' (some i1) (some i2) none++BB B' (some k1) (some k2) none) m (Wo "replace" i1 i2 k1 k2))))):=by rfl'
def xC:Zt w (O9 "delete" i1 i2 k1 k2) (Č (.lst A') (.lst B') a b mb op fb b2j bj L m []) K=(5=5/\Ċ A' L i1 i2 (K .next (Č (.lst A') (.lst B') a b mb op fb b2j bj (L++BB A' (some i1) (some i2) none) m (Wo "delete" i1 i2 k1 k2)))):=by rfl'
def xO:Zt w (O9 "insert" i1 i2 k1 k2) (Č (.lst A') (.lst B') a b mb op fb b2j bj L m []) K=(5=5/\Ċ B' L k1 k2 (K .next (Č (.lst A') (.lst B') a b mb op fb b2j bj (L++BB B' (some k1) (some k2) none) m (Wo "insert" i1 i2 k1 k2)))):=by rfl'
def j3:Ŧ (DQ w) (F4 w 30) (E7.drop 6) (Č la lb a b mb op fb b2j bj L m []) K =∃τ,A9 (Č la lb a b mb op fb b2j bj L m []) τ/\F4 w 30 (E7.getD 6 (.Pass AI)) τ (ç (DQ w) (F4 w 30) (E7.drop 7) K):=by rfl'
abbrev ō(la lb:ű)(a b mb op fb b2j bj:ű)(L:List ű)(m:Int):St:=⟨[("matcher",.ref 0),("first",la),("second",lb),("joined",.lst L),("most",.int m)],[(0,.inst ń (Av a b mb op fb b2j bj))],1,1⟩
def ă:CL:=Rw (nV (nV (O3 (E7.getD 6 (.Pass AI))).2.1 1) 0)
def Ĥ:CL:=Rw (O3 (E7.getD 7 (.Pass AI))).2.1
abbrev wU:List ű:=[ű.int (-1),ű.int (-2),ű.int (-3),ű.int (-4),ű.int (-5)]
def Ĝ:F4 w 30 (E7.getD 6 (.Pass AI)) (ō la lb a b mb op fb b2j bj L m) K=BX (decide (m<3)) (K (.ret .none) (ō la lb a b mb op fb b2j bj L m))
  (AD nn L=some L/\Cq (.list []) L (Hm (DQ w) 26 Jf ă 1) (CP ă.2.2) (ō la lb a b mb op fb b2j bj L m) λu σ=>Fz .NotEq u (.lst wU) σ λr σ=>Dc r σ λc σ=>BX c (K (.ret .none) σ) (K .next σ)):=by rfl'
abbrev p9(la lb:ű)(a b mb op fb b2j bj:ű)(L M:List ű)(m:Int):St:=⟨[("matcher",.ref 0),("first",la),("second",lb),("joined",.lst L),("most",.int m)],[(0,.inst ń (Av a b mb op fb b2j bj)),(1,.list M)],2,1⟩
def û:Ŧ (DQ w) (F4 w 30) (E7.drop 7) (p9 la lb a b mb op fb b2j bj L M m) K=(AD nn L=some L/\Cq (.list []) L (Hm (DQ w) 28 Jf Ĥ 2) (CP Ĥ.2.2) (p9 la lb a b mb op fb b2j bj L M m) λu σ=>K (.ret u) σ):=by rfl'
def vE:CP ă.2.2=[]:=by rfl'
def vG:CP Ĥ.2.2=[]:=by rfl'
def xZ{x:Int}{H:List (Nat×Ř)}{n k:Nat}{R:St->Prop}:Hm (DQ w) 26 Jf ă 1 (.int x) ⟨[],H,n,k⟩ R=BX (decide (x<0)) (CK .append [.ref 1,.int x] ⟨[("line",.int x)],H,n,k⟩ λ_ τ=>R τ) (R ⟨[("line",.int x)],H,n,k⟩):=by rfl'
def yH{x y:Int}{H:List (Nat×Ř)}{n k:Nat}{R:St->Prop}:Hm (DQ w) 26 Jf ă 1 (.int x) ⟨[("line",.int y)],H,n,k⟩ R=BX (decide (x<0)) (CK .append [.ref 1,.int x] ⟨[("line",.int x)],H,n,k⟩ λ_ τ=>R τ) (R ⟨[("line",.int x)],H,n,k⟩):=by rfl'
def zF{x:Int}{H:List (Nat×Ř)}{n k:Nat}{R:St->Prop}:Hm (DQ w) 28 Jf Ĥ 2 (.int x) ⟨[],H,n,k⟩ R=BX (decide (0<=x)) (CK .append [.ref 2,.int x] ⟨[("line",.int x)],H,n,k⟩ λ_ τ=>R τ) (R ⟨[("line",.int x)],H,n,k⟩):=by rfl'
def xJ{x y:Int}{H:List (Nat×Ř)}{n k:Nat}{R:St->Prop}:Hm (DQ w) 28 Jf Ĥ 2 (.int x) ⟨[("line",.int y)],H,n,k⟩ R=BX (decide (0<=x)) (CK .append [.ref 2,.int x] ⟨[("line",.int x)],H,n,k⟩ λ_ τ=>R τ) (R ⟨[("line",.int x)],H,n,k⟩):=by rfl'
end
theorem J2{n:Nat} :∀{l m:List Int},Cb (Hc (n+1)) (è l) (è m)=some (decide (l=m))
 | [],[]=>rfl
 | [],_::_=>rfl
 | _::_,[]=>rfl
 | x::xs,y::ys=>by
  show(Hc (n+1) (.int x) (.int y)).bind (λb=>(Cb (Hc (n+1)) (è xs) (è ys)).map (b && ·))=_
  rwa[J2,show Hc (n+1) (.int x) (.int y)=some (decide (AC.int x=AC.int y))from rfl]
  show some (decide (AC.int x=AC.int y)&&decide (xs=ys))=_
  congr 1
  rw[bE5,aJ3,decide_eq_true_iff,decide_eq_true_iff,decide_eq_true_iff,bN3.injEq,AC.int.injEq]
def jG{l m:List Int}{y:Nat}{σ:St}(hv:Ak σ (.ref y)=some (è l)){V:Bool->St->Prop}(q:V (!decide (l=m)) σ):Fz .NotEq (.ref y) (.lst (è m)) σ λr σ=>Dc r σ V:=by
 show Aa (LZ ((Ak σ (.ref y)).bind λxs=>(some (è m)).bind λys=>Cb (Hc 8) xs ys) _) _
 rwa[hv]
 show Aa (LZ (Cb (Hc 8) (è l) (è m)) _) _
 rwa[J2]
 exact q
def P7(l:List Int)(p:Int->Bool):(aK4 l.length).flatMap (λk=>è (l[k]?.toList.filter p))=è (l.filter p):=by
 have go :∀m,m<=l.length->(aK4 m).flatMap (λk=>è (l[k]?.toList.filter p))=è ((l.take m).filter p):=λm=>by
  induction m with
  | zero=>intro _;rwa[List.take_zero];rfl
  | succ m ih=>
   intro hm
   rwa[aN1,aT4,ih (aL7 hm),aQ2];rw[aU4,<-Cm,aR6]
 have:=go l.length (aA6 _)
 rwa[aJ4]at this
def Gy{l:List Int}{p:Int->Bool}{P:Ť}{f:Nat}{sc:Scope}{c:CL}{ρ0:List (Str×ű)}{H:List (Nat×Ř)}{n a:Nat}{Q:ű->St->Prop}(fr:CP c.2.2=[])(hl:l.length<=1000000)
  (h1 :∀(x:Int) (H:List (Nat×Ř)) (m k:Nat) (R:St->Prop),Hm P f sc c n (.int x) ⟨[],H,m,k⟩ R=BX (p x) (CK .append [.ref n,.int x] ⟨[("line",.int x)],H,m,k⟩ λ_ τ=>R τ) (R ⟨[("line",.int x)],H,m,k⟩))
  (h2 :∀(x y:Int) (H:List (Nat×Ř)) (m k:Nat) (R:St->Prop),Hm P f sc c n (.int x) ⟨[("line",.int y)],H,m,k⟩ R=BX (p x) (CK .append [.ref n,.int x] ⟨[("line",.int x)],H,m,k⟩ λ_ τ=>R τ) (R ⟨[("line",.int x)],H,m,k⟩))
  (q:Q (.ref n) ⟨ρ0,Ah H n (.list (è (l.filter p))),n+1,a⟩):Cq (.list []) (è l) (Hm P f sc c n) (CP c.2.2) ⟨ρ0,H,n,a⟩ Q:=by
 rwa[fr]
 refine Ha (F:=λk=>è (l[k]?.toList.filter p)) (I:=λρ=>ρ=[]\/∃y:Int,ρ=[(("line":Str),ű.int y)]) (.inl rfl) (λ_ _ _ _=>trivial) (by rw[Az];exact hl) (λk=>?_) (λk v hv ρ L K hI hL hK=>?_) (by rw[Az,P7];exact q)
 ·show(è _).length<=1
  rw[Az]
  exact aA2 (bD2 _ _) (by cases l[k]?<;>simp)
 ·obtain⟨x,hx,rfl⟩:=map_some ((aD6 ..).symm.trans hv)
  have go:BX (p x) (CK .append [.ref n,.int x] ⟨[("line",.int x)],Ah H n (.list L),n+1,a⟩ λ_ τ=>K τ) (K ⟨[("line",.int x)],Ah H n (.list L),n+1,a⟩):=by
   have hK:=hK [(("line":Str),ű.int x)] (.inr ⟨x,rfl⟩)
   simp only[hx,Option.toList_some]at hK
   cases hp:p x with
   | true=>
    rw[aQ6 hp]at hK
    exact Nl hL hK
   | false=>
    rw[aQ7 (by rwa[hp];exact aP5)]at hK
    exact(show Ah H n (.list (L++è []))=Ah H n (.list L)from bQ5 (λl=>Ah H n (.list l)) (aE1 L))▸hK
  rcases hI with rfl | ⟨y,rfl⟩
  ·rw[h1];exact go
  ·rw[h2];exact go
def TU :∀{bl:List Bu} {i j:Nat},(EN i j bl).length<=2*bl.length:=by
 intro ţ
 induction ţ with
 | nil=>
  intro _ _
  exact aA6 _
 | cons b r ih=>
  intro i j
  show(HZ i j b++(Gq b++EN _ _ r)).length<=_
  have h:=ih (i:=b.1+b.2.2) (j:=b.2.1+b.2.2)
  have h1:(HZ i j b).length<=1:=by
   unfold HZ
   split
   ·exact aA6 _
   ·split
    ·exact aA6 _
    ·split
     ·exact aA6 _
     ·exact aD4 _
  have h2:(Gq b).length<=1:=by
   unfold Gq
   split
   ·exact aD4 _
   ·exact aA6 _
  rwa[aB0,aB0,aN5]
  exists 4,0x181a02c03a2a01830818208102c008,h,h1,h2
def GY{l:List Int}{i j:Nat}:(D6 l i j).length<=l.length:=by
 unfold D6
 rwa[List.length_drop,aX5]
 exists 3,18943408
def Uz{la lb:List Int}{a:Nat×List Int}{o:WN}:(GC la lb a o).2.length<=a.2.length+(la.length+lb.length):=by
 have h1:=GY (l:=la) (i:=o.2.1) (j:=o.2.2.1)
 have h2:=GY (l:=lb) (i:=o.2.2.2.1) (j:=o.2.2.2.2)
 show(a.2++(if o.1=3 then []else D6 la o.2.1 o.2.2.1)++(if o.1=1\/o.1=3 then D6 lb o.2.2.2.1 o.2.2.2.2 else [])).length<=_
 rwa[aB0,aB0]
 have h3:(if o.1=3 then([]:List Int)else D6 la o.2.1 o.2.2.1).length<=la.length:=by split<;>first | exact aD4 _ | exact h1
 have h4:(if o.1=1\/o.1=3 then D6 lb o.2.2.2.1 o.2.2.2.2 else([]:List Int)).length<=lb.length:=by split<;>first | exact aD4 _ | exact h2
 exists 5,0x31a4a204aa032081008,h3,h4
section
def ÿ(o:Option (List Int)):ű:=aE5 .none (λl=>.lst (è l)) o
noncomputable abbrev LP(A:List Int):List Int:=[-1,-2]++A++[-4]
noncomputable abbrev IT(B:List Int):List Int:=[-1]++B++[-3,-4,-5]
inductive rX(as:List ű)(os:List Ξ)(Q:ű->List Ξ->Prop):Prop
 | mk (A B:List Int) (at_:List (Str×ű)) (ea:as=[.ref 0,.lst (è A),.lst (è B)]) (eo:os=[(ń,at_)]) (hM:ď at_) (hA:A.length<=411) (hB:B.length<=411)
  (hq :∀bs at',Dn (Cr (IT B)) (LP A) (IT B) 0 (LP A).length 0 (IT B).length bs->ď at'->Q (ÿ (Ie (LP A) (IT B) bs)) [(ń,at')])
def KO:ĉ:=λas os Q=>rX as os Q
def bR(A:List Int):Ţ A=è (LP A):=by rw[<-Cm,<-Cm];rfl
def d6(B:List Int):ě B=è (IT B):=by rw[<-Cm,<-Cm];rfl
def R9{l m:List Int}:AD (GD [0]) [.ref 0,.lst (è l),.lst (è m)]=some [.ref 0,.lst (è l),.lst (è m)]:=by
 show(some (ű.ref 0)).bind (λa=>(AD (GD [0]) [.lst (è l),.lst (è m)]).map (a :: ·))=_
 rwa[show AD (GD [0]) [.lst (è l),.lst (è m)]=some [.lst (è l),.lst (è m)]from DE (BE (Ac l) (BE (Ac m) rfl))];rfl
def ď.form{at_:List (Str×ű)}(h:ď at_) :∃a b mb op fb b2j bj,at_=Av a b mb op fb b2j bj:=by
 cases h with
 | new e=>exact⟨_,_,_,_,_,_,_,e⟩
 | old la lb mb op fb ds ks e I=>exact⟨_,_,_,_,_,_,_,e⟩
section
variable{w:aC9}{la lb:List Int}{a b mb op fb b2j bj:ű}{K:ĵ}{Q:ű->List Ξ->Prop}{o:WN}{s:Nat×List Int}
def Ko{A:List Int}{L:List Int}{i j:Nat}{P:Prop}(hA:A.length<=1000)(hL:L.length+A.length<=1000000)(q:P):Ċ (è A) (è L) (ĺ i) (ĺ j) P:=by
 refine⟨(λz=>nomatch z),LK (by rw[Az];exists 1,0x186a09000003e89008,hA),?_,?_,q⟩
 ·show(è L).length<=1000000
  rw[Az];exists 2,0xf42409000f4240910a08,hL
 ·have e:BB (è A) (some (ĺ i)) (some (ĺ j)) none=è (D6 A i j):=by rw[GJ,Ej];rfl
  rwa[e];rw[Az,Az]
  have:=GY (l:=A) (i:=i) (j:=j)
  exists 3,0xf4240920a012080f4240910a08,hL,this
def Dt{A:List Int}{i j:Nat}:BB (è A) (some (ĺ i)) (some (ĺ j)) none=è (D6 A i j):=by rw[GJ,Ej];rfl
def YT{la lb:ű}{L:List ű}{m i1 i2 k1 k2:Int}{t:Str}:A9 (Č la lb a b mb op fb b2j bj L m (Wo t i1 i2 k1 k2)) (Č la lb a b mb op fb b2j bj L m []):=
 .less (ρ:=(Č la lb a b mb op fb b2j bj L m []).ρ++Wo t i1 i2 k1 k2) (λx v e=>Bq e) λ_ _=>id
def Um(hla:la.length<=1000)(hlb:lb.length<=1000)(hs:s.2.length+(la.length+lb.length)<=1000000)(ho:o.1<4/\(o.1=0->o.2.1<=o.2.2.1))(q :∀t i1 i2 k1 k2,K .next (Č (.lst (è la)) (.lst (è lb)) a b mb op fb b2j bj (è (GC la lb s o).2) (ĺ (GC la lb s o).1) (Wo t i1 i2 k1 k2))) :
  Zt w (Zp o) (Č (.lst (è la)) (.lst (è lb)) a b mb op fb b2j bj (è s.2) (ĺ s.1) []) K:=by
 obtain⟨t,i1,i2,k1,k2⟩:=o
 obtain⟨m,L⟩:=s
 have e1:=GY (l:=la) (i:=i1) (j:=i2)
 have hs:L.length+(la.length+lb.length)<=1000000:=hs
 match t,ho with
 | 0,ho=>
  have ho:i1<=i2:=ho.2 rfl
  refine xR.mpr ⟨rfl,Ko hla (by rename_i u1 _;exists 3,0xf4240910a00f4240921a0a08,u1) ?_⟩
  have q:=q "equal" (ĺ i1) (ĺ i2) (ĺ k1) (ĺ k2)
  rwa[Dt];rw[Cm]
  have e:max (ĺ m) (ĺ i2-ĺ i1)=ĺ (max m (i2-i1)):=by
   show max (m:Int) ((i2:Int)-(i1:Int))=((max m (i2-i1):Nat):Int)
   exact id (ũ [_,_,_] 0x21b0e0f20f10fb00fe5 (by rfl'))
  rwa[e]
  have e2:(GC la lb (m,L) (0,i1,i2,k1,k2))=(max m (i2-i1),L++D6 la i1 i2):=by
   show(max m (i2-i1),L++D6 la i1 i2++[])=_
   rw[aE1]
  rw[e2]at q
  exact q
 | 1,_=>
  refine vM.mpr ⟨rfl,Ko hla (by rename_i u0 _;exists 3,0xf4240910a00f4240921a0a08,u0) ?_⟩
  have q:=q "replace" (ĺ i1) (ĺ i2) (ĺ k1) (ĺ k2)
  rwa[Dt];rw[Cm]
  refine Ko hlb (by show(L++D6 la i1 i2).length+lb.length<=_;rwa[aB0];rename_i u0 _ _;exact id (ũ [_,_,_,_] 0xf42409230aa013080f4240921a0a08 (by rfl') u0 e1)) ?_
  rwa[Dt];rw[Cm]
  exact q
 | 2,_=>
  refine xC.mpr ⟨rfl,Ko hla (by rename_i u0 _;exists 3,0xf4240910a00f4240921a0a08,u0) ?_⟩
  have q:=q "delete" (ĺ i1) (ĺ i2) (ĺ k1) (ĺ k2)
  rwa[Dt];rw[Cm]
  have e2:(GC la lb (m,L) (2,i1,i2,k1,k2))=(m,L++D6 la i1 i2):=by
   show(m,L++D6 la i1 i2++[])=_
   rw[aE1]
  rw[e2]at q
  exact q
 | 3,_=>
  refine xO.mpr ⟨rfl,Ko hlb (by rename_i u0 _;exists 3,0xf4240920a00f4240921a0a08,u0) ?_⟩
  have q:=q "insert" (ĺ i1) (ĺ i2) (ĺ k1) (ĺ k2)
  rwa[Dt];rw[Cm]
  have e2:(GC la lb (m,L) (3,i1,i2,k1,k2))=(m,L++D6 lb k1 k2):=by
   show(m,L++[]++D6 lb k1 k2)=_
   rw[aE1]
  rw[e2]at q
  exact q
 | n+4,ho=>exact bQ8 ho.1 (by show ¬ n+4<4;exact id (ũ [_] 0x48480a19 (by rfl')))
def bB{m:Nat}{L:List Int}(hM:ď (Av a b mb op fb b2j bj))(hL:L.length<=1000000)
  (hq:Q (ÿ (if m<3\/(L.filter λx=>decide (x<0))≠[-1,-2,-3,-4,-5]then none else some (L.filter λx=>decide (0<=x)))) [(ń,Av a b mb op fb b2j bj)]):Ŧ (DQ w) (F4 w 30) (E7.drop 6) (Č (.lst (è la)) (.lst (è lb)) a b mb op fb b2j bj (è L) (ĺ m) []) (AE 1 Q):=by
 rwa[j3]
 refine⟨ō (.lst (è la)) (.lst (è lb)) a b mb op fb b2j bj (è L) (ĺ m),.re [0] [(1,.lst (è L))] rfl rfl rfl rfl (BL rfl rfl rfl (Ac L) CQ) (Bs rfl rfl (Bs rfl (AJ _ _ (Ac la)) (Bs rfl (AJ _ _ (Ac lb)) (Bs rfl rfl (Bs rfl rfl B0))))) (RY rfl rfl (GR (bQ5 (aE0 (Ř.inst ń)) hM.shut)) BZ),?_⟩
 rwa[Ĝ]
 by_cases c:m<3
 ·rw[bQ6 (.inl c)]at hq
  rwa[bQ9 (show ĺ m<3 from aD0.mpr c)]
  exact CC (fl:=.ret .none) rfl (.refl _) rfl rfl hM.shut hq
 rwa[bR0 (show ¬ ĺ m<3 from λz=>c (aD0.mp z))]
 refine⟨EI L,Gy (p:=λx=>decide (x<0)) vE hL (λx H m k R=>xZ) (λx y H m k R=>yH) ?_⟩
 refine jG (l:=L.filter λx=>decide (x<0)) (m:=[-1,-2,-3,-4,-5]) rfl ?_
 by_cases c2:(L.filter λx=>decide (x<0))=[-1,-2,-3,-4,-5]
 ·rw[bQ7 (not_or.mpr ⟨c,not_not_intro c2⟩)]at hq
  rwa[bQ9 c2]
  show Ŧ (DQ w) (F4 w 30) (E7.drop 7) (p9 (.lst (è la)) (.lst (è lb)) a b mb op fb b2j bj (è L) (è (L.filter λx=>decide (x<0))) (ĺ m)) (AE 1 Q)
  rwa[û]
  refine⟨EI L,Gy (p:=λx=>decide (0<=x)) vG hL (λx H m k R=>zF) (λx y H m k R=>xJ) ?_⟩
  refine Si (τ:=⟨[],[(0,.inst ń (Av a b mb op fb b2j bj))],1,1⟩) (.inr ⟨.ref 2,rfl,.re [0] [(2,.lst (è (L.filter λx=>decide (0<=x))))] rfl rfl rfl rfl (BL rfl rfl rfl (Ac _) CQ) B0 (RY rfl rfl (GR (bQ5 (aE0 (Ř.inst ń)) hM.shut)) BZ) rfl⟩) rfl (Ac _) hM.shut hq
 ·rw[bQ6 (.inr c2)]at hq
  rwa[bR0 c2]
  exact CC (fl:=.ret .none) rfl (.refl _) rfl rfl hM.shut hq
end
variable{w:aC9}{d:Nat}
def oH:LT (œ w) (á w.params) (DQ w) (d+6) ô Lr aM Kt ŷ:=
 VO (λf t e=>BD (b:=aE6 f 167) (x:=some Ip) e (λq e=>aB8 q▸aA3 e▸As.up (Ps (d:=d)) (aH8 (by decide:4<=7) d)) λe=>BD (b:=aE6 f 210) (x:=some NU) (y:=none) e (λq e=>aB8 q▸aA3 e▸ZJ) AA) (λe=>nomatch e) (λe=>nomatch e) (λ_ e=>nomatch e)
def Oz:As (œ w) (á w.params) (d+8) (.ref 258) KO:=
 Of oH (Sy _).2.2 (Sy _).1 (Sy _).2.1 (ps:=["matcher","first","second"]) (by decide) (by rfl') (Ss λa b c=>by rfl') λas os Q hh=>by
  obtain⟨A,B,at_,ea,eo,hM,hA,hB,hq⟩:=hh
  subst ea;subst eo
  refine⟨⟨rfl,Bl hM.shut⟩,?_⟩
  have ĩ:(LP A).length<=414:=by rwa[aB0,aB0];show 2+A.length+1<=414;exact id (ũ [_] 0x19e918028aa000019b9008 (by rfl') hA)
  have ř:(IT B).length<=415:=by rwa[aB0,aB0];show 1+B.length+3<=415;exact id (ũ [_] 0x19f938018aa000019b9008 (by rfl') hB)
  obtain⟨a,b,mb,op,fb,b2j,bj,e⟩:=hM.form
  subst e
  refine j0.mpr ⟨LK (by rw[Az];exists 1,0x186a09028a000019b9008,hA),LK (by rwa[aB0];rw[Az];show 2+A.length+1<=_;exact id (ũ [_] 0x186a0918028aa000019b9008 (by rfl') hA)),LK (by rw[Az];exact id (ũ [_] 0x186a09018a000019b9008 (by rfl') hB)),LK (by rwa[aB0];rw[Az];show 1+B.length+3<=_;exact id (ũ [_] 0x186a0938018aa000019b9008 (by rfl') hB)),?_⟩
  rw[bR,d6]
  generalize LP A=la at ĩ hq ⊢
  generalize IT B=lb at ř hq ⊢
  refine DW hM.shut rfl R9 (.mk la lb _ rfl rfl hM (by exists 1,0x3e890000019f9008,ř) λmb op fb ds ks I=>?_)
  refine j1.mpr (DW (at_:=Av (.lst (è la)) (.lst (è lb)) mb op fb (.dct ds) (.fset ks)) (as':=[.ref 0]) I.S.shut rfl rfl ⟨rfl,.mk (Cr lb) la lb mb op fb ds ks rfl I ⟨by(exists 1,0x186a090000019e9008,ĩ),by exists 1,0x186a090000019f9008,ř⟩ λbs mb' r I2=>?_⟩)
  have hq:=hq bs _ r (.old _ _ _ _ _ _ _ rfl I2)
  have hM2:ď (Av (.lst (è la)) (.lst (è lb)) mb' (.lst (Iu 0 0 (ET la lb bs))) fb (.dct ds) (.fset ks)):=.old _ _ _ _ _ _ _ rfl I2
  have hbl:(ET la lb bs).length<=416:=aA2 (aB7 aB0) (aF7 (aA2 NE (aF7 (aA2 r.len ĩ))))
  unfold Ie at hq
  refine⟨Dy,?_⟩
  generalize ET la lb bs=bl at hq hM2 hbl
  have hop:=TU (bl:=bl) (i:=0) (j:=0)
  have hle:=λo=>Wv (bl:=bl) (i:=0) (j:=0) (o:=o)
  rw[Uk]at hq hM2 ⊢
  generalize EN 0 0 bl=os at hq hM2 hop hle ⊢
  have ol:os.length<=832:=aA2 hop (Nat.mul_le_mul_left 2 hbl)
  have len :∀k,((os.take k).foldl (GC la lb) (0,[])).2.length<=k*829:=λk=>by
   induction k with
   | zero=>exact aA6 _
   | succ k ih=>
    cases hk:os[k]? with
    | none=>rwa[aF6 (aF5 (aO7.mp hk))];rw[aF6 (aO7.mp hk)]at ih;exact aA2 ih (bE3 _ (aI4 _))
    | some o=>
     rwa[Bc hk,aM8]
     have:=Uz (la:=la) (lb:=lb) (a:=(os.take k).foldl (GC la lb) (0,[])) (o:=o)
     show(GC la lb _ o).2.length<=_
     rw[Nat.succ_mul]
     exact aA2 this (aX3 ih (aX3 ĩ ř))
  refine⟨λk τ=>τ=Č (.lst (è la)) (.lst (è lb)) (.lst (è la)) (.lst (è lb)) mb' (.lst (os.map Zp)) fb (.dct ds) (.fset ks) (è ((os.take k).foldl (GC la lb) (0,[])).2) (ĺ ((os.take k).foldl (GC la lb) (0,[])).1) [],⟨_,.refl _,rfl⟩,λk τ v hv hI=>?_,λτ hI=>?_⟩
  ·subst hI
   obtain⟨o,ho,rfl⟩:=map_some ((aD6 ..).symm.trans hv)
   have e:(os.take (k+1)).foldl (GC la lb) (0,[])=GC la lb ((os.take k).foldl (GC la lb) (0,[])) o:=by rwa[Bc ho,aM8];rfl
   have hlt:=(aB3.mp ho).1
   have:=len k
   refine Um (by exists 1,0x3e890000019e9008,ĩ) (by exists 1,0x3e890000019f9008,ř) (aA2 (aX3 (aA2 this (bE3 829 (aA2 (aG2 hlt) ol))) (aX3 ĩ ř)) (by decide:832*829+(414+415)<=1000000)) (hle o (aM2 ho)) λt i1 i2 k1 k2=>⟨_,YT,?_⟩
   show _=Č _ _ _ _ _ _ _ _ _ (è ((os.take (k+1)).foldl (GC la lb) (0,[])).2) (ĺ ((os.take (k+1)).foldl (GC la lb) (0,[])).1) []
   rwa[e];rfl
  ·subst hI
   rewrite [aB5];rwa[aJ4,DV]
   refine bB hM2 ?_ hq
   have:=len os.length
   rw[aJ4]at this
   exact aA2 this (aA2 (bE3 829 ol) (by decide))
end
def MW:List aG8:=(By Ŝ.main.body "_law_pool").1
def VX:Scope:=(By Ŝ.main.body "_law_pool").2
def Rl(P:aD7):(CJ P 265).body = .stmts MW/\(CJ P 265).scope=VX/\Au P 265=true:=⟨by rfl',by rfl',by rfl'⟩
abbrev DO(w:aC9):Ť:=TM w.params (Y9 258 KO) (some Rr) false false (Ŭ [487,499]) Qp
abbrev EV(w:aC9)(f:Nat):â:=Dk (DO w) VX f
def ĕ:Expr×List aG8:=Dm (MW.getD 2 (.Pass AI))
def fM:Expr×List aG8:=Dm (ĕ.2.getD 1 (.Pass AI))
def sZ(w:aC9):ű->St->ĵ->Prop:=λv σ K=>(Œ (DO w) VX 29).A ĕ.1 v σ λσ=>Ŧ (DO w) (EV w 29) ĕ.2 σ K
def kM(w:aC9):ű->St->ĵ->Prop:=λv σ K=>(Œ (DO w) VX 28).A fM.1 v σ λσ=>Ŧ (DO w) (EV w 28) fM.2 σ K
section
variable{w:aC9}{cs t pc r u:ű}{C L M:List ű}{a b mb op fb b2j bj:ű}{b1:Bool}{tl:List (Str×ű)}{K:ĵ}
abbrev Δ(cs t pool:ű)(a b mb op fb b2j bj:ű):St:=⟨[("cuts",cs),("turned",t),("matcher",.ref 0),("pool",pool)],[(0,.inst ń (Av a b mb op fb b2j bj))],1,0⟩
def Ķ:Ŧ (DO w) (EV w 30) MW (AT [("cuts",.lst C),("turned",t)] []) K=BI Rr [.ref 0] ⟨[("cuts",.lst C),("turned",t)],[(0,.inst ń [])],1,0⟩ λr σ=>r = .none/\Ŧ (DO w) (EV w 30) (MW.drop 1) (σ.put "matcher" (.ref 0)) K:=by rfl'
def ĩ:Ŧ (DO w) (EV w 30) (MW.drop 1) ⟨[("cuts",.lst C),("turned",t),("matcher",.ref 0)],[(0,.inst ń (Av a b mb op fb b2j bj))],1,0⟩ K =
  (AD nn C=some C/\D7 C (sZ w) (Ŧ (DO w) (EV w 29) []) (Δ (.lst C) t (.lst []) a b mb op fb b2j bj) (ç (DO w) (EV w 30) (MW.drop 3) K)):=by rfl'
abbrev î(cs t pool pc:ű)(a b mb op fb b2j bj:ű)(L:List ű)(tl:List (Str×ű)):St:=⟨("cuts",cs)::("turned",t)::("matcher",.ref 0)::("pool",pool)::("piece",pc)::("apart",.ref 1)::tl,[(0,.inst ń (Av a b mb op fb b2j bj)),(1,.list L)],2,0⟩
def ř:sZ w pc (Δ cs t (.lst M) a b mb op fb b2j bj) K=(AD nn M=some M/\D7 M (kM w) (Ŧ (DO w) (EV w 28) []) (î cs t (.lst M) pc a b mb op fb b2j bj [] []) (ç (DO w) (EV w 29) (ĕ.2.drop 2) K)):=by rfl'
def wV:kM w u (î cs (.bool true) (.lst M) pc a b mb op fb b2j bj L []) K=BI KO [.ref 0,u,pc] (î cs (.bool true) (.lst M) pc a b mb op fb b2j bj L [("other",u)]) λr σ=>Ŧ (DO w) (EV w 28) (fM.2.drop 1) (σ.put "joined" r) K:=by rfl'
def Ô:kM w u (î cs (.bool false) (.lst M) pc a b mb op fb b2j bj L []) K=BI KO [.ref 0,pc,u] (î cs (.bool false) (.lst M) pc a b mb op fb b2j bj L [("other",u)]) λr σ=>Ŧ (DO w) (EV w 28) (fM.2.drop 1) (σ.put "joined" r) K:=by rfl'
def ċ:Ŧ (DO w) (EV w 28) (fM.2.drop 1) (î cs t (.lst M) pc a b mb op fb b2j bj L [("other",u),("joined",.none)]) K=(AM L.length/\K .next (î cs t (.lst M) pc a b mb op fb b2j bj (L++[u]) [("other",u),("joined",.none)])):=by rfl'
def Į:Ŧ (DO w) (EV w 28) (fM.2.drop 1) (î cs t (.lst M) pc a b mb op fb b2j bj L [("other",u),("joined",.lst C)]) K=K .next (î cs t (.lst M) (.lst C) a b mb op fb b2j bj L [("other",u),("joined",.lst C)]):=by rfl'
def l6:Ŧ (DO w) (EV w 29) (ĕ.2.drop 2) (î cs t (.lst M) pc a b mb op fb b2j bj L []) K=(AM (L.length+1)/\K .next (î cs t (.lst (L++[pc])) pc a b mb op fb b2j bj L [])):=by rfl'
def Ŵ:Ŧ (DO w) (EV w 30) (MW.drop 3) (Δ cs t (.lst M) a b mb op fb b2j bj) K=K (.ret (.lst M)) (Δ cs t (.lst M) a b mb op fb b2j bj):=by rfl'
end
abbrev ï:=Nat×Nat
def Gd(p:ï):Prop:=p.1+3<=p.2/\p.2<=411
noncomputable def GX(p q:ï):Option ï:=if max p.1 q.1+3<=min p.2 q.2 then some (min p.1 q.1,max p.2 q.2)else none
def LI(p q:ï):GX p q=GX q p:=by unfold GX;rw[bJ0 p.1,Nat.min_comm p.2,Nat.min_comm p.1,bJ0 p.2]
def Y1{p q h:ï}(hp:Gd p)(hq:Gd q)(e:GX p q=some h):Gd h:=by
 unfold GX at e
 split at e
 ·cases e
  unfold Gd at *
  show min p.1 q.1+3<=max p.2 q.2/\max p.2 q.2<=411
  exact id (ũ [_,_,_,_] 0x19b921e021e3830da0600019b920800019b91081380a08 (by rfl') hp.1 hp.2 hq.2)
 ·cases e
def sg(s e:Nat):List Int:=CH s (e-s)
def Yc{s e:Nat}:(sg s e).length=e-s:=B6
abbrev CO(p:ï):List Int:=sg p.1 p.2
def Xk{p q:ï}(c:max p.1 q.1+3<=min p.2 q.2) :∃x1 y1 x2 y2 h m,Pd p.1 x1 y1 q.1 x2 y2 h/\(p.2-p.1=x1+h+y1/\q.2-q.1=x2+h+y2)/\((x1=0->m=q.1)/\(x2=0->m=p.1))/\m=min p.1 q.1/\max p.2 q.2-m=x1+x2+h+(y1+y2):=by
 obtain⟨s1,e1⟩:=p
 obtain⟨s2,e2⟩:=q
 replace c:max s1 s2+3<=min e1 e2:=c
 have go :∀{S E:Nat},S+3<=E->(S=s1/\s2<=s1\/S=s2/\s1<=s2)->(E=e1/\e1<=e2\/E=e2/\e2<=e1)->∃x1 y1 x2 y2 h m,Pd s1 x1 y1 s2 x2 y2 h/\(e1-s1=x1+h+y1/\e2-s2=x2+h+y2)/\((x1=0->m=s2)/\(x2=0->m=s1))/\m=min s1 s2/\max e1 e2-m=x1+x2+h+(y1+y2):=λ{S E} hh hs he=>by
  clear c
  obtain⟨h,rfl⟩:=aL8 hh
  clear hh
  rcases hs with⟨rfl,z⟩ | ⟨rfl,z⟩<;>obtain⟨x,rfl⟩:=aL8 z<;>rcases he with⟨f,z'⟩ | ⟨f,z'⟩<;>obtain⟨y,rfl⟩:=aL8 z'<;>subst f
  ·exact⟨0,0,x,y,3+h,s2,⟨rfl,.inl rfl,.inl rfl,aD5 _ _⟩,⟨by(exists 3,0x8238a08aa10a23810aaab2),by exists 4,0x3238a1aa0323810aaaab2⟩,⟨λ_=>rfl,λz=>by rwa[z];rfl⟩,by(exists 2,1092866),by exists 4,0x308a238a108aaa0323810aaaa23810aaaeb2⟩
  ·exact⟨0,y,x,0,3+h,s2,⟨rfl,.inl rfl,.inr rfl,aD5 _ _⟩,⟨by(exists 4,0x3238a08aa10a323810aaaab2),by exists 3,0x8238a1aa023810aaab2⟩,⟨λ_=>rfl,λz=>by rwa[z];rfl⟩,by(exists 2,1092866),by exists 4,0x83a238a108aaa023810aaa323810aaaaeb2⟩
  ·exact⟨x,0,0,y,3+h,s1,⟨rfl,.inr rfl,.inl rfl,aD5 _ _⟩,⟨by(exists 3,0x8238a1aa023810aaab2),by exists 4,0x3238a08aa10a323810aaaab2⟩,⟨λz=>by rwa[z];rfl,λ_=>rfl⟩,by(exists 2,17435906),by exists 4,0x308a238a081aaa0323810aaaa23810aaaeb2⟩
  ·exact⟨x,y,0,0,3+h,s1,⟨rfl,.inr rfl,.inr rfl,aD5 _ _⟩,⟨by(exists 4,0x3238a1aa0323810aaaab2),by exists 3,0x8238a08aa10a23810aaab2⟩,⟨λz=>by rwa[z];rfl,λ_=>rfl⟩,by(exists 2,17435906),by exists 4,0x83a238a081aaa023810aaa323810aaaaeb2⟩
 exact go c (by exists 2,0x100110e26010010e267) (by exists 2,0x10110d26100010d267)
def TH{p q:ï}{bs:List Bu}(hp:Gd p)(hq:Gd q)(hR:Dn (Cr (IT (CO q))) (LP (CO p)) (IT (CO q)) 0 (LP (CO p)).length 0 (IT (CO q)).length bs):Ie (LP (CO p)) (IT (CO q)) bs=(GX p q).map CO:=by
 unfold GX
 split
 ·rename_i c
  obtain⟨x1,y1,x2,y2,h,m,H,⟨ĩ,ř⟩,hm,em,el⟩:=Xk c
  have hb:q.2-q.1<=900:=aA2 (Nat.sub_le _ _) (aA2 hq.2 (by decide))
  have e1:LP (CO p)=C4 p.1 (x1+h+y1):=by rwa[ĩ.symm];rfl
  have e2:IT (CO q)=CX q.1 (x2+h+y2):=by rwa[ř.symm];rfl
  rw[e1,e2]at hR ⊢
  rwa[XB H hm (Wt (ř▸hb)) hR,el.symm,em]
  rfl
 ·rename_i c
  refine ZC (s1:=p.1) (a:=p.2-p.1) (s2:=q.1) (b:=q.2-q.1) (λt v h1 h2 e=>c ?_) hR
  clear hR
  exists 6,0x41d3852ea035a02a2854b283a1821b280a18,h1,h2,e
def Ep(a:ï×List ï)(o:ï):ï×List ï:=aE5 (a.1,a.2++[o]) (λh=>(h,a.2)) (GX a.1 o)
def Nz(pool:List ï)(p:ï):List ï:=(pool.foldl Ep (p,[])).2++[(pool.foldl Ep (p,[])).1]
def LR(cuts:List ï):List ï:=cuts.foldl Nz []
def G4{a:ï×List ï}{o:ï}(e:GX a.1 o=none):Ep a o=(a.1,a.2++[o]):=by unfold Ep;rwa[e];rfl
def Gw{a:ï×List ï}{o h:ï}(e:GX a.1 o=some h):Ep a o=(h,a.2):=by unfold Ep;rwa[e];rfl
def XW{a:ï×List ï}{o:ï}(h1:Gd a.1)(h2 :∀p∈a.2,Gd p)(ho:Gd o):Gd (Ep a o).1/\(∀p∈(Ep a o).2,Gd p)/\(Ep a o).2.length<=a.2.length+1:=by
 cases e:GX a.1 o with
 | none=>
  rwa[G4 e]
  refine⟨h1,λp hp=>(aD9.mp hp).elim (h2 p) λz=>by rwa[aA7.mp z];exact ho,?_⟩
  rwa[aB0];exact aA6 _
 | some h=>
  rwa[Gw e]
  exact⟨Y1 h1 ho e,h2,aI4 _⟩
def JP :∀{pool:List ï} {a:ï×List ï},Gd a.1->(∀p∈a.2,Gd p)->(∀p∈pool,Gd p)->Gd (pool.foldl Ep a).1/\(∀p∈(pool.foldl Ep a).2,Gd p)/\(pool.foldl Ep a).2.length<=a.2.length+pool.length:=by
 intro ţ
 induction ţ with
 | nil=>
  intro _ h1 h2 _
  exact⟨h1,h2,aA6 _⟩
 | cons o r ih=>
  intro a h1 h2 h3
  obtain⟨q1,õ,q3⟩:=XW h1 h2 (h3 o (aC0 ..))
  obtain⟨r1,r2,r3⟩:=ih q1 õ λp hp=>h3 p (aC7 _ hp)
  refine⟨r1,r2,?_⟩
  show(r.foldl Ep (Ep a o)).2.length<=a.2.length+(r.length+1)
  exact id (ũ [_,_,_,_] 0x183a1a2030a208181a008 (by rfl') q3 r3)
def Ww{pool:List ï}{p:ï}(h :∀q∈pool,Gd q)(hp:Gd p):(∀q∈Nz pool p,Gd q)/\(Nz pool p).length<=pool.length+1:=by
 obtain⟨h1,h2,h3⟩:=JP (pool:=pool) (a:=(p,[])) hp (λ_ z=>nomatch z) h
 refine⟨λq hq=>(aD9.mp hq).elim (h2 q) λz=>by rwa[aA7.mp z];exact h1,?_⟩
 unfold Nz
 rwa[aB0]
 show _+1<=_
 have h3:(pool.foldl Ep (p,[])).2.length<=0+pool.length:=h3
 exists 2,0x181a180a0108a008,h3
def QD{cuts:List ï} :∀k,(∀p∈cuts,Gd p)->(∀q∈LR (cuts.take k),Gd q)/\(LR (cuts.take k)).length<=k:=by
 intro ţ
 induction ţ with
 | zero=>
  intro _
  exact⟨(λ_ z=>nomatch z),aA6 _⟩
 | succ k ih=>
  intro h
  obtain⟨h1,h2⟩:=ih h
  cases hk:cuts[k]? with
  | none=>
   have e:=aO7.mp hk
   rwa[aF6 (aF5 e)]
   rw[aF6 e]at h1 h2
   exact⟨h1,aF5 h2⟩
  | some p=>
   unfold LR at *
   rwa[Bc hk,aM8]
   obtain⟨q1,õ⟩:=Ww h1 (h p (aM2 hk))
   exact⟨q1,aA2 õ (aF7 h2)⟩
section
def Bk(p:ï):ű:=.lst (è (CO p))
def EK(l:List ï):AD nn (l.map Bk)=some (l.map Bk):=EO (λp=>Ac (CO p)) l
inductive pX(as:List ű)(os:List Ξ)(Q:ű->List Ξ->Prop):Prop
 | mk (cuts:List ï) (t:Bool) (ea:as=[.lst (cuts.map Bk),.bool t]) (eo:os=[]) (hg :∀p∈cuts,Gd p) (hl:cuts.length<=1000) (hq:Q (.lst ((LR cuts).map Bk)) [])
def K5:ĉ:=λas os Q=>pX as os Q
section
variable{w:aC9}{cs:ű}{t:Bool}{a b mb op fb b2j bj:ű}{K:ĵ}{M L:List ï}{p o:ï}{s:ï×List ï}
def Xj{cs t pool pc u v:ű}{L:List ű}:A9 (î cs t pool pc a b mb op fb b2j bj L [("other",u),("joined",v)]) (î cs t pool pc a b mb op fb b2j bj L []):=
 .less (ρ:=(î cs t pool pc a b mb op fb b2j bj L []).ρ++([("other",u),("joined",v)]:List (Str×ű))) (λx v e=>Bq e) λ_ _=>id
def ND{p:ï}(h:Gd p):(CO p).length<=411:=by
 unfold CO
 rwa[Yc]
 have:=h.2
 exists 2,0x19b910b000019b9008,this
def XS(hM:ď (Av a b mb op fb b2j bj))(h1:Gd s.1)(ho:Gd o)(hl:s.2.length<=1000)
  (q :∀a b mb op fb b2j bj,ď (Av a b mb op fb b2j bj)->∀v,K .next (î cs (.bool t) (.lst (M.map Bk)) (Bk (Ep s o).1) a b mb op fb b2j bj ((Ep s o).2.map Bk) [("other",Bk o),("joined",v)])) :
  kM w (Bk o) (î cs (.bool t) (.lst (M.map Bk)) (Bk s.1) a b mb op fb b2j bj (s.2.map Bk) []) K:=by
 have fin :∀a b mb op fb b2j bj,ď (Av a b mb op fb b2j bj)->Ŧ (DO w) (EV w 28) (fM.2.drop 1) ((î cs (.bool t) (.lst (M.map Bk)) (Bk s.1) a b mb op fb b2j bj (s.2.map Bk) [("other",Bk o)]).put "joined" (ÿ ((GX s.1 o).map CO))) K:=λa b mb op fb b2j bj hM=>by
  have q:=q a b mb op fb b2j bj hM
  cases e:GX s.1 o with
  | none=>
   rw[G4 e]at q
   refine ċ.mpr ⟨LK (by rw[aB5];exists 1,0x186a09000003e89008,hl),?_⟩
   have:=q .none
   rw[aH4]at this
   exact this
  | some h=>
   rw[Gw e]at q
   exact Į.mpr (q _)
 have e1 :∀bs,Dn (Cr (IT (CO s.1))) (LP (CO o)) (IT (CO s.1)) 0 (LP (CO o)).length 0 (IT (CO s.1)).length bs->Ie (LP (CO o)) (IT (CO s.1)) bs=(GX s.1 o).map CO:=λbs r=>by rwa[TH ho h1 r];rw[LI]
 have e2 :∀bs,Dn (Cr (IT (CO o))) (LP (CO s.1)) (IT (CO o)) 0 (LP (CO s.1)).length 0 (IT (CO o)).length bs->Ie (LP (CO s.1)) (IT (CO o)) bs=(GX s.1 o).map CO:=λbs r=>TH h1 ho r
 cases t with
 | true=>
  rwa[wV]
  refine DW hM.shut rfl R9 (.mk (CO o) (CO s.1) _ rfl rfl hM (ND ho) (ND h1) λbs at' r hM'=>?_)
  rwa[e1 bs r]
  obtain⟨a',b',mb',op',fb',b2j',bj',e⟩:=hM'.form
  subst e
  exact fin _ _ _ _ _ _ _ hM'
 | false=>
  rwa[Ô]
  refine DW hM.shut rfl R9 (.mk (CO s.1) (CO o) _ rfl rfl hM (ND h1) (ND ho) λbs at' r hM'=>?_)
  rwa[e2 bs r]
  obtain⟨a',b',mb',op',fb',b2j',bj',e⟩:=hM'.form
  subst e
  exact fin _ _ _ _ _ _ _ hM'
def b5(hM:ď (Av a b mb op fb b2j bj))(hg :∀q∈M,Gd q)(hl:M.length<=1000)(hp:Gd p)(hcs:cs.sub nn=some cs)
  (q :∀a b mb op fb b2j bj,ď (Av a b mb op fb b2j bj)->∀σ,A9 σ (Δ cs (.bool t) (.lst ((Nz M p).map Bk)) a b mb op fb b2j bj)->K .next σ) :
  sZ w (Bk p) (Δ cs (.bool t) (.lst (M.map Bk)) a b mb op fb b2j bj) K:=by
 refine ř.mpr ⟨EK M,λk τ=>∃a b mb op fb b2j bj,ď (Av a b mb op fb b2j bj)/\τ=î cs (.bool t) (.lst (M.map Bk)) (Bk ((M.take k).foldl Ep (p,[])).1) a b mb op fb b2j bj (((M.take k).foldl Ep (p,[])).2.map Bk) [],⟨_,.refl _,_,_,_,_,_,_,_,hM,rfl⟩,λk τ v hv hI=>?_,λτ hI=>?_⟩
 ·obtain⟨a,b,mb,op,fb,b2j,bj,hM,rfl⟩:=hI
  obtain⟨o,ho,rfl⟩:=map_some ((aD6 ..).symm.trans hv)
  have hk:=(aB3.mp ho).1
  obtain⟨g1,g2,g3⟩:=JP (pool:=M.take k) (a:=(p,[])) hp (λ_ z=>nomatch z) λq hq=>hg q (List.mem_of_mem_take hq)
  have g3:((M.take k).foldl Ep (p,[])).2.length<=0+(M.take k).length:=g3
  rw[aX5]at g3
  refine XS hM g1 (hg o (aM2 ho)) (by exists 3,0x3e891002d08a1080003e89008,hl,g3) λa b mb op fb b2j bj hM v=>⟨_,Xj,a,b,mb,op,fb,b2j,bj,hM,?_⟩
  rwa[Bc ho,aM8];rfl
 ·obtain⟨a,b,mb,op,fb,b2j,bj,hM,rfl⟩:=hI
  obtain⟨g1,g2,g3⟩:=JP (pool:=M) (a:=(p,[])) hp (λ_ z=>nomatch z) hg
  have g3:(M.foldl Ep (p,[])).2.length<=0+M.length:=g3
  rewrite [aB5];rwa[aJ4,DV]
  refine l6.mpr ⟨LK (by rw[aB5];exists 2,0x186a09181a0008a1080003e89008,hl,g3),q a b mb op fb b2j bj hM _ ?_⟩
  have e:(M.foldl Ep (p,[])).2.map Bk++[Bk (M.foldl Ep (p,[])).1]=(Nz M p).map Bk:=by unfold Nz;rwa[aH4];rfl
  rwa[e]
  exact .re [0] [] rfl rfl rfl rfl CQ (Bs rfl (AJ _ _ hcs) (Bs rfl rfl (Bs rfl rfl (Bs rfl (AJ _ _ (Ag (EK _))) B0)))) (RY rfl rfl (GR (bQ5 (aE0 (Ř.inst ń)) hM.shut)) BZ)
end
variable{w:aC9}{d:Nat}
def oG:LT (œ w) (á w.params) (DO w) (d+7) ô Lr aM Kt ŷ:=
 VO (λf t e=>BD (b:=aE6 f 258) (x:=some KO) (y:=none) e (λq e=>aB8 q▸aA3 e▸Oz) AA) (λe=>nomatch e) (λe=>nomatch e) (λ_ e=>aA3 e▸As.up (V4 (d:=d)) (aH8 (by decide:5<=7) d))
def T8:As (œ w) (á w.params) (d+9) (.ref 265) K5:=
 Of oG (Rl _).2.2 (Rl _).1 (Rl _).2.1 (ps:=["cuts","turned"]) (by decide) (by rfl') (IB λa b=>by rfl') λas os Q hh=>by
  obtain⟨cuts,t,ea,eo,hg,hl,hq⟩:=hh
  subst ea;subst eo
  refine⟨⟨rfl,Bj⟩,Ķ.mpr (DW (D:=ń) (at_:=[]) (as':=[.ref 0]) rfl rfl rfl ⟨rfl,rfl,rfl,?_⟩)⟩
  refine ĩ.mpr ⟨EK cuts,λk τ=>∃a b mb op fb b2j bj,ď (Av a b mb op fb b2j bj)/\τ=Δ (.lst (cuts.map Bk)) (.bool t) (.lst ((LR (cuts.take k)).map Bk)) a b mb op fb b2j bj,⟨_,.refl _,_,_,_,_,_,_,_,.new rfl,rfl⟩,λk τ v hv hI=>?_,λτ hI=>?_⟩
  ·obtain⟨a,b,mb,op,fb,b2j,bj,hM,rfl⟩:=hI
   obtain⟨p,hp,rfl⟩:=map_some ((aD6 ..).symm.trans hv)
   have hk:=(aB3.mp hp).1
   obtain⟨g1,g2⟩:=QD k hg
   refine b5 hM g1 (by exists 3,0x3e8920120801180003e89008,hl,hk,g2) (hg p (aM2 hp)) (Ag (EK _)) λa b mb op fb b2j bj hM σ hw=>⟨_,hw,a,b,mb,op,fb,b2j,bj,hM,?_⟩
   have e:LR (cuts.take (k+1))=Nz (LR (cuts.take k)) p:=by
    unfold LR
    rwa[Bc hp,aM8];rfl
   rwa[e];rfl
  ·obtain⟨a,b,mb,op,fb,b2j,bj,hM,rfl⟩:=hI
   rewrite [aB5];rwa[aJ4,DV,Ŵ]
   exact RW (fl:=.ret _) rfl (Ag (EK _)) hq
end
def Ba:List aG8:=(By Ŝ.main.body "law").1
def E9:Scope:=(By Ŝ.main.body "law").2
def Ry(P:aD7):(CJ P 270).body = .stmts Ba/\(CJ P 270).scope=E9/\Au P 270=true:=⟨by rfl',by rfl',by rfl'⟩
abbrev Ai(w:aC9):Ť:=TM w.params (Wf 253 Nb 265 K5) none false false (Ŭ [507]) (Ŭ [504,511,513])
abbrev BG(w:aC9)(f:Nat):â:=Dk (Ai w) E9 f
def ŕ:CL:=Rw (O3 (Ba.getD 1 (.Pass AI))).2.1
def Φ:Expr×List aG8:=Dm (Ba.getD 4 (.Pass AI))
def oD(w:aC9):ű->St->ĵ->Prop:=λv σ K=>(Œ (Ai w) E9 29).A Φ.1 v σ λσ=>Ŧ (Ai w) (BG w 29) Φ.2 σ K
def ŵ:CL:=Rw (((A4 (O3 (Ba.getD 5 (.Pass AI))).2.1).2.1).getD 0 Zx)
def XU:CL:=Rw (O3 (Ba.getD 6 (.Pass AI))).2.1
section
variable{w:aC9}{l:List Int}{tx cu:ű}{L M:List ű}{n a b x y:Int}{tl:List (Str×ű)}{H:List (Nat×Ř)}{m k:Nat}{R:St->Prop}{K:ĵ}
def v5:Ŧ (Ai w) (BG w 30) Ba (AT [("script",.lst (è l))] []) K=(mM/\AM (è l).length/\Aa (Ed (BB (è l) none (some 1) none)) λns=>(400:Int)≠0/\Ŧ (Ai w) (BG w 30) (Ba.drop 1) ⟨[("script",.lst (è l)),("size",.int (12+ns.sum.fmod 400))],[],0,0⟩ K):=by rfl'
def xX:Ŧ (Ai w) (BG w 30) (Ba.drop 1) ⟨[("script",.lst (è l)),("size",.int n)],[],0,0⟩ K=(D0 0 n/\Cq (.list []) (B8 0 (n-0).toNat) (Hm (Ai w) 28 E9 ŕ 0) (CP ŕ.2.2) ⟨[("script",.lst (è l)),("size",.int n)],[],0,0⟩ λu σ=>Ŧ (Ai w) (BG w 30) (Ba.drop 2) (σ.put "text" u) K):=by rfl'
abbrev lI(x:Int)(H:List (Nat×Ř))(m k:Nat)(R:St->Prop):Prop:=(3:Int)≠0/\BX (decide (AC.int (x.fmod 3)=AC.int 2)) (CK .append [.ref 0,.int x] ⟨[("k",.int x)],H,m,k⟩ λ_ τ=>R τ) ((3:Int)≠0/\CK .append [.ref 0,.int (x.fmod 3)] ⟨[("k",.int x)],H,m,k⟩ λ_ τ=>R τ)
def qX:Hm (Ai w) 28 E9 ŕ 0 (.int x) ⟨[],H,m,k⟩ R=lI x H m k R:=by rfl'
def mL:Hm (Ai w) 28 E9 ŕ 0 (.int x) ⟨[("k",.int y)],H,m,k⟩ R=lI x H m k R:=by rfl'
def vB:CP ŕ.2.2=[]:=by rfl'
abbrev ň(l:List Int)(n:Int)(tx:ű)(tl:List (Str×ű))(H:List (Nat×Ř))(m:Nat):St:=⟨("script",.lst (è l))::("size",.int n)::("text",tx)::tl,H,m,0⟩
def vH:Ŧ (Ai w) (BG w 30) (Ba.drop 2) (ň l n (.ref 0) [] [(0,.list M)] 1) K =∃τ,A9 (ň l n (.ref 0) [] [(0,.list M)] 1) τ/\BG w 30 (Ba.getD 2 (.Pass AI)) τ (ç (Ai w) (BG w 30) (Ba.drop 3) K):=by rfl'
def yU:BG w 30 (Ba.getD 2 (.Pass AI)) (ň l n (.lst M) [] [] 0) K=BI Nb [.lst (è l),.int n] (ň l n (.lst M) [] [] 0) λv σ=>K .next (σ.put "cuts" v):=by rfl'
abbrev ļ(l:List Int)(n:Int)(tx:ű)(L S:List ű)(tl:List (Str×ű)):St:=ň l n tx (("cuts",.lst L)::("stretches",.ref 0)::tl) [(0,.list S)] 1
def w9:Ŧ (Ai w) (BG w 30) (Ba.drop 3) (ň l n tx [("cuts",.lst L)] [] 0) K=B7 [.lst L] (ļ l n tx L [] []) λv σ=>rH v λvs=>D7 vs (oD w) (Ŧ (Ai w) (BG w 29) []) σ (ç (Ai w) (BG w 30) (Ba.drop 5) K):=by rfl'
def ş:aG8:=Φ.2.getD 0 (.Pass AI)
abbrev ö(a b:Int):List (Str×ű):=[("start",.int a),("end",.int b)]
def yP:oD w (.tup [.int a,.int b]) (ļ l n tx L M []) K=(2=2/\Aa (Fs (ļ l n tx L M (ö a b)) (.ref 0) (.lst [])) λr=>BX (!r) (Eh (-1)/\∃v,GL M (-1)=some v/\J9 v (.int 1) (ļ l n tx L M (ö a b)) λu σ=>PI .Sub u (.int a) σ λu σ=>KR .GtE u (.int 3) σ λr σ=>Dc r σ λc σ=>BX c (Ŧ (Ai w) (BG w 28) (Hk ş) σ (ç (Ai w) (BG w 29) [] K)) (Ŧ (Ai w) (BG w 28) (FD ş) σ (ç (Ai w) (BG w 29) [] K)))
  (Ŧ (Ai w) (BG w 28) (FD ş) (ļ l n tx L M (ö a b)) (ç (Ai w) (BG w 29) [] K))):=by rfl'
def vI:Ŧ (Ai w) (BG w 28) (Hk ş) (ļ l n tx L M (ö a b)) K=(Eh (-1)/\∃v,GL M (-1)=some v/\J9 v (.int 0) (ļ l n tx L M (ö a b)) λx σ=>(J9 (.ref 0) (.int (-1)) σ λv σ=>J9 v (.int 1) σ λy σ=>Ik (Ai w) (.fn .max) [y,.int b] σ λz σ=>UD (.ref 0) (.int (-1)) (.tup [x,z]) σ λσ=>K .next σ)):=by rfl'
def wM:Ŧ (Ai w) (BG w 28) (FD ş) (ļ l n tx L M (ö a b)) K=(AM M.length/\K .next (ļ l n tx L (M++[.tup [.int a,.int b]]) (ö a b))):=by rfl'
def zE{σ:St}{Q:ű->St->Prop}:J9 (.tup [.int a,.int b]) (.int 0) σ Q=(Eh 0/\∃v,GL [.int a,.int b] 0=some v/\Q v σ):=by rfl'
def uB{σ:St}{Q:ű->St->Prop}:J9 (.tup [.int a,.int b]) (.int 1) σ Q=(Eh 1/\∃v,GL [.int a,.int b] 1=some v/\Q v σ):=by rfl'
def xY{Q:ű->St->Prop}:J9 (.ref 0) (.int (-1)) (ļ l n tx L M tl) Q=(Eh (-1)/\∃v,GL M (-1)=some v/\Q v (ļ l n tx L M tl)):=by rfl'
def uZ{σ:St}{Q:ű->St->Prop}:Ik (Ai w) (.fn .max) [.int a,.int b] σ Q=Q (.int (max a b)) σ:=by rfl'
def zU{u:ű}{Q:St->Prop}:UD (.ref 0) (.int (-1)) u (ļ l n tx L M tl) Q=(AM M.length/\((-1:Int) = -1/\0<M.length)/\Q (ļ l n tx L (M.set (M.length-1) u) tl)):=by rfl'
def xD:Ŧ (Ai w) (BG w 30) (Ba.drop 5) (ļ l n tx L M []) K =∃τ,A9 (ļ l n tx L M []) τ/\BG w 30 (Ba.getD 5 (.Pass AI)) τ (ç (Ai w) (BG w 30) (Ba.drop 6) K):=by rfl'
abbrev ß(l:List Int)(n:Int)(tx:ű)(L M:List ű)(tl:List (Str×ű))(H:List (Nat×Ř))(m:Nat):St:=ň l n tx (("cuts",.lst L)::("stretches",.lst M)::tl) H m
def wZ:BG w 30 (Ba.getD 5 (.Pass AI)) (ß l n tx L M [] [] 0) K=(AD nn M=some M/\Cq (.list []) M (Hm (Ai w) 27 E9 ŵ 0) (CP ŵ.2.2) (ß l n tx L M [] [] 0) λu σ=>B7 [u] σ λv σ=>K .next (σ.put "due" v)):=by rfl'
def u6:CP ŵ.2.2=(["text"]:List Str):=by rfl'
abbrev W2(c:CL)(p:Nat)(x:List ű)(a b:Int)(H:List (Nat×Ř))(m k:Nat)(R:St->Prop):Prop:=2=2/\mM/\AM x.length/\CK .append [.ref p,.lst (BB x (some a) (some b) none)] ⟨[("text",.lst x),("start",.int a),("end",.int b)],H,m,k⟩ λ_ τ=>R τ
def rS{X:List ű}:Hm (Ai w) 27 E9 ŵ 0 (.tup [.int a,.int b]) ⟨[("text",.lst X)],H,m,k⟩ R=W2 ŵ 0 X a b H m k R:=by rfl'
def sS{X:List ű}:Hm (Ai w) 27 E9 ŵ 0 (.tup [.int a,.int b]) ⟨[("text",.lst X),("start",.int x),("end",.int y)],H,m,k⟩ R=W2 ŵ 0 X a b H m k R:=by rfl'
abbrev Ć(l:List Int)(n:Int)(tx:ű)(L M:List ű)(d:ű)(tl:List (Str×ű))(H:List (Nat×Ř))(m:Nat):St:=ß l n tx L M (("due",d)::tl) H m
def Ý{d:ű}:Ŧ (Ai w) (BG w 30) (Ba.drop 6) (Ć l n tx L M d [] H m) K=(AD nn L=some L/\Cq (.list []) L (Hm (Ai w) 28 E9 XU m) (CP XU.2.2) (Ć l n tx L M d [] H m) λu σ=>Ŧ (Ai w) (BG w 30) (Ba.drop 7) (σ.put "pieces" u) K):=by rfl'
def vS:CP XU.2.2=(["text"]:List Str):=by rfl'
def r5{X:List ű}:Hm (Ai w) 28 E9 XU 1 (.tup [.int a,.int b]) ⟨[("text",.lst X)],H,m,k⟩ R=W2 XU 1 X a b H m k R:=by rfl'
def sU{X:List ű}:Hm (Ai w) 28 E9 XU 1 (.tup [.int a,.int b]) ⟨[("text",.lst X),("start",.int x),("end",.int y)],H,m,k⟩ R=W2 XU 1 X a b H m k R:=by rfl'
def zT{d p:ű}:Ŧ (Ai w) (BG w 30) (Ba.drop 7) (Ć l n tx L M d [("pieces",p)] H m) K =∃τ,A9 (Ć l n tx L M d [("pieces",p)] H m) τ/\BG w 30 (Ba.getD 7 (.Pass AI)) τ (ç (Ai w) (BG w 30) (Ba.drop 8) K):=by rfl'
def Î{d p:ű}:BG w 30 (Ba.getD 7 (.Pass AI)) (Ć l n tx L M d [("pieces",p)] [] 0) K=BI K5 [p,.bool false] (Ć l n tx L M d [("pieces",p)] [] 0) λv σ=>B7 [v] σ λv σ=>Fz .NotEq v d σ λr σ=>Dc r σ λc σ=>BX c (K (.ret (.bool false)) σ) (K .next σ):=by rfl'
def u8{d:ű}{P:List ű}:Ŧ (Ai w) (BG w 30) (Ba.drop 8) (Ć l n tx L M d [("pieces",.lst P)] [] 0) K=(some (-1:Int)≠some 0/\AM P.length/\BI K5 [.lst (BB P none none (some (-1))),.bool true] (Ć l n tx L M d [("pieces",.lst P)] [] 0) λv σ=>B7 [v] σ λv σ=>Fz .Eq v d σ λr σ=>K (.ret r) σ):=by rfl'
end
def Hu(d:Nat)(p:ï)(k:Nat):Prop:=p.1<=k/\k+d<=p.2
def ø(d:Nat)(F:List ï)(k:Nat):Prop:=∃p∈F,Hu d p k
def EJ{p q:ï}:GX p q=none↔¬ (max p.1 q.1+3<=min p.2 q.2):=by
 unfold GX
 split
 ·rename_i h;exact⟨(λz=>nomatch z),λz=>bQ8 h z⟩
 ·rename_i h;exact⟨λ_=>h,λ_=>rfl⟩
def UK{p q h:ï}(e:GX p q=some h):(max p.1 q.1+3<=min p.2 q.2)/\h.1=min p.1 q.1/\h.2=max p.2 q.2:=by
 unfold GX at e
 split at e
 ·rename_i c;cases e;exact⟨c,rfl,rfl⟩
 ·cases e
structure Hv(F:List ï):Prop where
 g :∀p∈F,p.1+3<=p.2
 a:F.Pairwise λp q=>GX p q=none
def Hv.same{F:List ï}(h:Hv F){p q:ï}(hp:p∈F)(hq:q∈F){k:Nat}(h1:Hu 3 p k)(h2:Hu 3 q k):p=q:=by
 have :∀{F:List ï},(F.Pairwise λp q=>GX p q=none)->p∈F->q∈F->p=q:=λ{F} a=>by
  induction F with
  | nil=>intro z;cases z
  | cons x r ih=>
   obtain⟨a1,a2⟩:=aP2.mp a
   intro hp hq
   have no :∀{x y:ï},Hu 3 x k->Hu 3 y k->GX x y=none->False:=λ{x y} i j e=>EJ.mp e (by unfold Hu at i j;exists 5,0x42d3830ea04381a0813082381a081008,i.1,i.2,j.1,j.2)
   rcases aF4.mp hp with e1 | e1<;>rcases aF4.mp hq with e2 | e2
   ·rwa[e1,e2];rfl
   ·exact(no h1 h2 (e1▸a1 q e2)).elim
   ·exact(no h2 h1 (e2▸a1 p e1)).elim
   ·exact ih a2 e1 e2
 exact this h.a hp hq
def Hv.nodup{F:List ï}(h:Hv F):F.Nodup:=aY2 (λ{p q} hp hq e z=>by
 subst z
 exact EJ.mp e (by have:=h.g p hp;exists 2,0x11d3800ea01380a08,this)) h.a
def Hv.sub{F G:List ï}(hF:Hv F)(hG:Hv G)(h3 :∀k,ø 3 F k->ø 3 G k)(h4 :∀k,ø 4 F k->ø 4 G k){p:ï}(hp:p∈F) :∃q∈G,q.1<=p.1/\p.2<=q.2:=by
 have gp:=hF.g p hp
 obtain⟨q,hq,q1,õ⟩:=h3 p.1 ⟨p,hp,aA6 _,gp⟩
 refine⟨q,hq,q1,?_⟩
 have go :∀j,p.1+j+3<=p.2->p.1+j+3<=q.2:=λj=>by
  induction j with
  | zero=>intro _;exact õ
  | succ j ih=>
   intro hj
   have ih:=ih (by exists 3,0x23810aa0238181a0aa08,hj)
   obtain⟨q',hq',i1,i2⟩:=h4 (p.1+j) ⟨p,hp,by unfold Hu;exists 3,0x24810aa010a006238181a0aa08,hj⟩
   have e:=hG.same hq hq' (k:=p.1+j) ⟨by(exists 3,9026146312,q1),ih⟩ ⟨i1,by exists 3,0x23810aa024810aa08,i2⟩
   rwa[e];exists 3,0x238181a0aa024810aa08,i2
 have:=go (p.2-3-p.1) (by exists 2,0x1380381bb0aa01380a08,gp)
 exists 3,0x2102380381bb0aa08,this
def Hv.perm{F G:List ï}(hF:Hv F)(hG:Hv G)(h3 :∀k,ø 3 F k↔ø 3 G k)(h4 :∀k,ø 4 F k↔ø 4 G k):F.Perm G:=by
 have one :∀{F G:List ï},Hv F->Hv G->(∀k,ø 3 F k↔ø 3 G k)->(∀k,ø 4 F k↔ø 4 G k)->∀p∈F,p∈G:=λ{F G} hF hG h3 h4 p hp=>by
  obtain⟨q,hq,q1,õ⟩:=hF.sub hG (λk=>(h3 k).mp) (λk=>(h4 k).mp) hp
  obtain⟨p',hp',Ž,Ń⟩:=hG.sub hF (λk=>(h3 k).mpr) (λk=>(h4 k).mpr) hq
  have gp:=hF.g p hp
  have e:=hF.same hp hp' (k:=p.1) ⟨aA6 _,gp⟩ ⟨by(exists 3,0x12002081008,q1,Ž),by exists 4,0x2383a00383a0821081008,õ,Ń,gp⟩
  subst e
  have:p=q:=aY7 (by exists 2,77326716936,q1,Ž) (by exists 2,0x10201081008,õ,Ń)
  exact this▸hq
 exact(List.perm_ext_iff_of_nodup hF.nodup hG.nodup).mpr λp=>⟨one hF hG h3 h4 p,one hG hF (λk=>(h3 k).symm) (λk=>(h4 k).symm) p⟩
def Ec{d:Nat}{F G:List ï}{k:Nat}:ø d (F++G) k↔ø d F k\/ø d G k:=by
 constructor
 ·rintro ⟨p,hp,h⟩
  exact(aD9.mp hp).elim (λz=>.inl ⟨p,z,h⟩) λz=>.inr ⟨p,z,h⟩
 ·rintro (⟨p,hp,h⟩ | ⟨p,hp,h⟩)
  ·exact⟨p,aH2 _ hp,h⟩
  ·exact⟨p,aJ9 _ hp,h⟩
def Fk{d:Nat}{p:ï}{k:Nat}:ø d [p] k↔Hu d p k:=⟨λ⟨q,hq,h⟩=>by rw[aA7.mp hq]at h;exact h,λh=>⟨p,aA7.mpr rfl,h⟩⟩
def JT{d:Nat}{p:ï}{F:List ï}{k:Nat}:ø d (p::F) k↔Hu d p k\/ø d F k:=(Ec (F:=[p])).trans (or_congr Fk bL1)
def Gf{d k:Nat}:¬ ø d [] k:=λ⟨_,h,_⟩=>nomatch h
structure X9(s:ï×List ï)(rest:List ï):Prop where
 f:Hv (s.2++rest)
 g:s.1.1+3<=s.1.2
 a :∀o∈s.2,GX s.1 o=none
def Vt{a b c d:Nat}(h:max a c+3<=min b d):a+3<=d/\c+3<=b:=
 ⟨aA2 (aN7 (bJ5 a c) 3) (aA2 h (Nat.min_le_right b d)),aA2 (aN7 (Nat.le_max_right a c) 3) (aA2 h (aZ1 b d))⟩
def WM{a b c d:Nat}(h1:a+3<=b)(h2:c+3<=d)(h:¬ (max a c+3<=min b d)):b<c+3\/d<a+3:=by
 rcases aT1 b (c+3)with z | z
 ·exact .inl z
 rcases aT1 d (a+3)with y | y
 ·exact .inr y
 refine bQ8 ?_ h
 rcases bF8 a c with u | u
 ·rwa[aT5 u];exact bO4.mpr ⟨z,h2⟩
 ·rwa[bE4 u];exact bO4.mpr ⟨h1,y⟩
def d5{s1 s2 Ŷ å q1 õ:Nat}(c1:s1+3<=å)(c2:Ŷ+3<=s2)(g:q1+3<=õ)(h1:s2<q1+3\/õ<s1+3)(h2:õ<Ŷ+3\/å<q1+3):¬ (max (min s1 Ŷ) q1+3<=min (max s2 å) õ):=λz=>by
 obtain⟨ē,ż⟩:=Vt z
 have ð:s1+3<=õ\/Ŷ+3<=õ:=by
  rcases bF8 s1 Ŷ with u | u
  ·rw[aY9 u]at ē;exact .inl ē
  ·rw[aX4 u]at ē;exact .inr ē
 have Ņ:q1+3<=s2\/q1+3<=å:=by
  rcases bF8 s2 å with u | u
  ·rw[aT5 u]at ż;exact .inr ż
  ·rw[bE4 u]at ż;exact .inl ż
 clear z ē ż
 rcases h1 with h1 | h1
 ·rcases h2 with h2 | h2
  ·exists 4,0xa380a318382a1183382a081380a08,c2,g,h1,h2
  ·exists 3,0xa2381a00381a078381a218381a018,h1,h2,Ņ
 ·rcases h2 with h2 | h2
  ·exists 3,0xa0382a00381a078382a018381a018,h1,h2,ð
  ·exists 4,0xa382a118380a3183382a081380a08,c1,g,h1,h2
def Vr{s1 s2 Ŷ å d k:Nat}(c1:s1+3<=å)(c2:Ŷ+3<=s2)(d1:3<=d)(d2:d<=4):(min s1 Ŷ<=k/\k+d<=max s2 å)↔(Ŷ<=k/\k+d<=å)\/(s1<=k/\k+d<=s2):=by
 constructor
 ·rintro ⟨h1,h2⟩
  have h1:s1<=k\/Ŷ<=k:=by
   rcases bF8 s1 Ŷ with u | u
   ·rw[aY9 u]at h1;exact .inl h1
   ·rw[aX4 u]at h1;exact .inr h1
  have h2:k+d<=s2\/k+d<=å:=by
   rcases bF8 s2 å with u | u
   ·rw[aT5 u]at h2;exact .inr h2
   ·rw[bE4 u]at h2;exact .inl h2
  rcases h1 with h1 | h1
  ·rcases h2 with h2 | h2
   ·exact .inr ⟨h1,h2⟩
   ·rcases aT1 k Ŷ with u | u
    ·exact .inr ⟨h1,by exists 4,0x123a00318482081380a08,c2,d2,u⟩
    ·exact .inl ⟨u,h2⟩
  ·rcases h2 with h2 | h2
   ·rcases aT1 k s1 with u | u
    ·exact .inl ⟨h1,by exists 4,0x123a00318482081380a08,c1,d2,u⟩
    ·exact .inr ⟨u,h2⟩
   ·exact .inl ⟨h1,h2⟩
 ·rintro (⟨h1,h2⟩ | ⟨h1,h2⟩)
  ·exact⟨aA2 (Nat.min_le_right _ _) h1,aA2 h2 (Nat.le_max_right _ _)⟩
  ·exact⟨aA2 (aZ1 _ _) h1,aA2 h2 (bJ5 _ _)⟩
def X9.step{s:ï×List ï}{o:ï}{r:List ï}(h:X9 s (o::r)):X9 (Ep s o) r/\∀d k,3<=d->d<=4->((ø d ((Ep s o).2++r) k\/Hu d (Ep s o).1 k)↔(ø d (s.2++o::r) k\/Hu d s.1 k)):=by
 cases e:GX s.1 o with
 | none=>
  rwa[G4 e]
  refine⟨⟨by rw[aD1];exact h.f,h.g,λq hq=>(aD9.mp hq).elim (h.a q) λz=>by rwa[aA7.mp z];exact e⟩,λd k _ _=>?_⟩
  rw[aD1];exact bL1
 | some t=>
  rwa[Gw e]
  obtain⟨c,e1,e2⟩:=UK e
  obtain⟨c1,c2⟩:=Vt c
  obtain⟨f1,f2,f3⟩:=aF0.mp h.f.a
  obtain⟨f4,f5⟩:=aP2.mp f2
  have go:=h.f.g o (aJ9 _ (aC0 ..))
  have gs:=h.g
  refine⟨⟨⟨λp hp=>h.f.g p ((aD9.mp hp).elim (λz=>aH2 _ z) λz=>aJ9 _ (aC7 _ z)),aF0.mpr ⟨f1,f5,λa ha b hb=>f3 a ha b (aC7 _ hb)⟩⟩,by show t.1+3<=t.2;exact id (ũ [_,_,_,_,_,_] 0x5384a032e52810d42832d3810ea08 (by rfl') c e1 e2),λq hq=>?_⟩,λd k d1 d2=>?_⟩
  ·have h1:=WM h.g (h.f.g q (aH2 _ hq)) (EJ.mp (h.a q hq))
   have h2:=WM (h.f.g q (aH2 _ hq)) go (EJ.mp (f3 q hq o (aC0 ..)))
   have gq:=h.f.g q (aH2 _ hq)
   refine EJ.mpr ?_
   show ¬ (max t.1 q.1+3<=min t.2 q.2)
   rwa[e1,e2]
   exact d5 c1 c2 gq h1 h2
  ·rw[Ec,Ec,JT]
   have:Hu d t k↔Hu d o k\/Hu d s.1 k:=by
    unfold Hu
    rwa[e1,e2]
    exact Vr c1 c2 d1 d2
   show(_\/Hu d t k)↔_
   rw[this]
   constructor
   ·rintro ((z | z) | z | z)
    ·exact .inl (.inl z)
    ·exact .inl (.inr (.inr z))
    ·exact .inl (.inr (.inl z))
    ·exact .inr z
   ·rintro ((z | z | z) | z)
    ·exact .inl (.inl z)
    ·exact .inr (.inl z)
    ·exact .inl (.inr z)
    ·exact .inr (.inr z)
def X9.all :∀{r:List ï} {s:ï×List ï},X9 s r->X9 (r.foldl Ep s) []/\∀d k,3<=d->d<=4->((ø d (r.foldl Ep s).2 k\/Hu d (r.foldl Ep s).1 k)↔(ø d (s.2++r) k\/Hu d s.1 k)):=by
 intro ţ
 induction ţ with
 | nil=>
  intro s h
  exact⟨h,λd k _ _=>by rw[aE1];exact bL1⟩
 | cons o r ih=>
  intro s h
  obtain⟨h1,h2⟩:=h.step
  obtain⟨h3,h4⟩:=ih h1
  exact⟨h3,λd k d1 d2=>(h4 d k d1 d2).trans (h2 d k d1 d2)⟩
def XQ{pool:List ï}{p:ï}(h:Hv pool)(hp:p.1+3<=p.2):Hv (Nz pool p)/\∀d k,3<=d->d<=4->(ø d (Nz pool p) k↔ø d pool k\/Hu d p k):=by
 obtain⟨h1,h2⟩:=X9.all (r:=pool) (s:=(p,[])) ⟨h,hp,λ_ z=>nomatch z⟩
 have f:=h1.f
 rw[aE1]at f
 refine⟨⟨λq hq=>(aD9.mp hq).elim (f.g q) λz=>by rwa[aA7.mp z];exact h1.g,aF0.mpr ⟨f.a,aQ3 _ _,λa ha b hb=>?_⟩⟩,λd k d1 d2=>?_⟩
 ·rwa[aA7.mp hb];rw[LI]
  exact h1.a a ha
 ·unfold Nz
  rw[Ec,Fk]
  exact h2 d k d1 d2
def Uq:Hv []:=⟨(λ_ z=>nomatch z),.nil⟩
def XF{cuts:List ï}(h :∀p∈cuts,p.1+3<=p.2):Hv (LR cuts)/\∀d k,3<=d->d<=4->(ø d (LR cuts) k↔ø d cuts k):=by
 have go :∀{cuts pool:List ï},(∀p∈cuts,p.1+3<=p.2)->Hv pool->Hv (cuts.foldl Nz pool)/\∀d k,3<=d->d<=4->(ø d (cuts.foldl Nz pool) k↔ø d pool k\/ø d cuts k):=λ{cuts}=>by
  induction cuts with
  | nil=>exact λ{pool} _ hP=>⟨hP,λd k _ _=>⟨.inl,λz=>z.elim id λz=>(Gf z).elim⟩⟩
  | cons p r ih=>
   intro pool h hP
   obtain⟨h1,h2⟩:=XQ hP (h p (aC0 ..))
   obtain⟨h3,h4⟩:=ih (λq hq=>h q (aC7 _ hq)) h1
   refine⟨h3,λd k d1 d2=>(h4 d k d1 d2).trans ?_⟩
   rw[h2 d k d1 d2,JT,or_assoc]
 obtain⟨h1,h2⟩:=go (pool:=[]) h Uq
 exact⟨h1,λd k d1 d2=>(h2 d k d1 d2).trans ⟨λz=>z.elim (λz=>(Gf z).elim) id,.inr⟩⟩
noncomputable def Fg(S:List ï)(p:ï):List ï:=match S.getLast? with
 | some q=>if p.1+3<=q.2 then S.dropLast++[(q.1,max q.2 p.2)]else S++[p]
 | none=>[p]
def N7{p:ï}:Fg [] p=[p]:=rfl
def J7{T:List ï}{q p:ï}:Fg (T++[q]) p=if p.1+3<=q.2 then T++[(q.1,max q.2 p.2)]else T++[q]++[p]:=by
 unfold Fg
 rwa[List.getLast?_concat,List.dropLast_concat];rfl
structure XA(S:List ï):Prop where
 g :∀p∈S,p.1+3<=p.2
 o:S.Pairwise λa b=>a.2<b.1+3
def XA.fam{S:List ï}(h:XA S):Hv S:=⟨h.g,h.o.imp λ{a b} z=>EJ.mpr (by exists 4,0x30d3812ea09381a018,z)⟩
def XA.step{S:List ï}{p:ï}(h:XA S)(hp:p.1+3<=p.2)(hs :∀q∈S,q.1<=p.1):XA (Fg S p)/\(∀q∈Fg S p,q.1<=p.1)/\∀d k,3<=d->d<=4->(ø d (Fg S p) k↔ø d S k\/Hu d p k):=by
 rcases bD3 S with e | ⟨T,q,e⟩
 ·subst e
  refine⟨⟨λq hq=>by rwa[aA7.mp hq];exact hp,aQ3 _ _⟩,λq hq=>by rwa[aA7.mp hq];exact aA6 _,λd k _ _=>?_⟩
  rwa[N7];rw[Fk]
  exact⟨.inr,λz=>z.elim (λz=>(Gf z).elim) id⟩
 ·rw[bD4]at e
  subst e
  obtain⟨Ŷ,_,o3⟩:=aF0.mp h.o
  have gq:=h.g q (aJ9 _ (aA7.mpr rfl))
  have sq:=hs q (aJ9 _ (aA7.mpr rfl))
  rwa[J7]
  split
  ·rename_i c
   refine⟨⟨λx hx=>(aD9.mp hx).elim (λz=>h.g x (aH2 _ z)) λz=>by rwa[aA7.mp z];show q.1+3<=max q.2 p.2;exact id (ũ [_,_,_] 0x21e380a01380a08 (by rfl') gq),
    aF0.mpr ⟨Ŷ,aQ3 _ _,λa ha b hb=>by rwa[aA7.mp hb];exact o3 a ha q (aA7.mpr rfl)⟩⟩,
    λx hx=>(aD9.mp hx).elim (λz=>hs x (aH2 _ z)) λz=>by rwa[aA7.mp z];exact sq,λd k d1 d2=>?_⟩
   rw[Ec,Ec,Fk,Fk,or_assoc]
   refine or_congr bL1 ?_
   unfold Hu
   show(q.1<=k/\k+d<=max q.2 p.2)↔_
   have:=Vr (k:=k) c (aA2 (aN7 sq 3) hp) d1 d2
   rw[aX4 sq,bJ0]at this
   exact this
  ·rename_i c
   refine⟨⟨λx hx=>(aD9.mp hx).elim (h.g x) λz=>by rwa[aA7.mp z];exact hp,
    aF0.mpr ⟨h.o,aQ3 _ _,λa ha b hb=>?_⟩⟩,
    λx hx=>(aD9.mp hx).elim (hs x) λz=>by rwa[aA7.mp z];exact aA6 _,λd k d1 d2=>by rw[Ec (F:=T++[q]),Fk]⟩
   rwa[aA7.mp hb]
   rcases aD9.mp ha with z | z
   ·have:=o3 a z q (aA7.mpr rfl)
    exists 3,0x381a21380a2181008,sq,this
   ·rwa[aA7.mp z];exists 2,0x380a111380a098,c
def Sh{cs:List ï}(hg :∀p∈cs,p.1+3<=p.2)(ho:cs.Pairwise λa b=>a.1<=b.1):Hv (cs.foldl Fg [])/\∀d k,3<=d->d<=4->(ø d (cs.foldl Fg []) k↔ø d cs k):=by
 have go :∀{cs S:List ï},(∀p∈cs,p.1+3<=p.2)->(cs.Pairwise λa b=>a.1<=b.1)->XA S->(∀q∈S,∀p∈cs,q.1<=p.1)->XA (cs.foldl Fg S)/\∀d k,3<=d->d<=4->(ø d (cs.foldl Fg S) k↔ø d S k\/ø d cs k):=λ{cs}=>by
  induction cs with
  | nil=>exact λ{S} _ _ hS _=>⟨hS,λd k _ _=>⟨.inl,λz=>z.elim id λz=>(Gf z).elim⟩⟩
  | cons p r ih=>
   intro S hg ho hS hs
   obtain⟨Ŷ,å⟩:=aP2.mp ho
   obtain⟨h1,h2,h3⟩:=hS.step (hg p (aC0 ..)) λq hq=>hs q hq p (aC0 ..)
   obtain⟨h4,ĸ⟩:=ih (λq hq=>hg q (aC7 _ hq)) å h1 λq hq p' hp'=>aA2 (h2 q hq) (Ŷ p' hp')
   refine⟨h4,λd k d1 d2=>(ĸ d k d1 d2).trans ?_⟩
   rw[h3 d k d1 d2,JT,or_assoc]
 obtain⟨h1,h2⟩:=go (S:=[]) hg ho ⟨(λ_ z=>nomatch z),.nil⟩ λ_ z=>nomatch z
 exact⟨h1.fam,λd k d1 d2=>(h2 d k d1 d2).trans ⟨λz=>z.elim (λz=>(Gf z).elim) id,.inr⟩⟩
def Ty{F G:List ï}(h:F.Perm G){d k:Nat}:ø d F k↔ø d G k:=⟨λ⟨p,hp,z⟩=>⟨p,h.mem_iff.mp hp,z⟩,λ⟨p,hp,z⟩=>⟨p,h.mem_iff.mpr hp,z⟩⟩
def UJ{C P S:List ï}(hg :∀p∈C,p.1+3<=p.2)(hP:P.Perm C)(hS:S.Perm C)(ho:S.Pairwise λa b=>a.1<=b.1):(LR P).Perm (S.foldl Fg []):=by
 obtain⟨h1,h2⟩:=XF (cuts:=P) λp hp=>hg p (hP.mem_iff.mp hp)
 obtain⟨h3,h4⟩:=Sh (cs:=S) (λp hp=>hg p (hS.mem_iff.mp hp)) ho
 have e :∀d,3<=d->d<=4->∀k,ø d (LR P) k↔ø d (S.foldl Fg []) k:=λd d1 d2 k=>(h2 d k d1 d2).trans ((Ty (hP.trans hS.symm)).trans (h4 d k d1 d2).symm)
 exact h1.perm h3 (e 3 (by decide) (by decide)) (e 4 (by decide) (by decide))
def Sc{S:List ï}{m:Nat}(h :∀p∈S,p.2<=m) :∀k,(∀p∈(S.take k).foldl Fg [],p.2<=m)/\((S.take k).foldl Fg []).length<=k:=λk=>by
 induction k with
 | zero=>exact⟨(λ_ z=>nomatch z),aA6 _⟩
 | succ k ih=>
  obtain⟨h1,h2⟩:=ih
  cases hk:S[k]? with
  | none=>
   have e:=aO7.mp hk
   rwa[aF6 (aF5 e)]
   rw[aF6 e]at h1 h2
   exact⟨h1,aF5 h2⟩
  | some p=>
   have hp:=h p (aM2 hk)
   rwa[Bc hk,aM8]
   show(∀x∈Fg _ p,x.2<=m)/\(Fg _ p).length<=k+1
   generalize (S.take k).foldl Fg []=T at h1 h2
   rcases bD3 T with e | ⟨T',q,e⟩
   ·subst e
    rwa[N7]
    exact⟨λx hx=>by rwa[aA7.mp hx];exact hp,aF7 (aD4 _)⟩
   ·rw[bD4]at e
    subst e
    rwa[J7]
    have h3:=h1 q (aJ9 _ (aA7.mpr rfl))
    split
    ·refine⟨λx hx=>(aD9.mp hx).elim (λz=>h1 x (aH2 _ z)) λz=>by rwa[aA7.mp z];show max q.2 p.2<=m;exact id (ũ [_,_,_] 0x102e012081008 (by rfl') hp h3),?_⟩
     rw[aB0]at h2 ⊢
     exact aF5 h2
    ·refine⟨λx hx=>(aD9.mp hx).elim (h1 x) λz=>by rwa[aA7.mp z];exact hp,?_⟩
     rwa[aB0]
     exact aF7 h2
def MA{tr:ĉ}{σ:St}{as:List ű}{Q:ű->St->Prop}(hr:Ax as=[])(ha:AD nn as=some as)(h:tr as [] λr os'=>Q r σ):BI tr as σ Q:=by
 refine .inl ?_
 show Aa (Mm σ.H (Ax as)) λos=>CG os/\Aa (AD (GD (Ax as)) as) λas'=>tr as' os λr os'=>Q r (σ.sets (Ax as) os')
 rwa[hr,show AD (GD []) as=some as from DE ha]
 exact⟨Bj,h⟩
theorem Mr :∀l:List Int,Ed (è l)=some l
 | []=>rfl
 | x::r=>by
  show(Ar (.int x)).bind (λy=>(Ed (è r)).map (y :: ·))=_
  rwa[Mr r];rfl
def ZB{α:Type}(l:List α)(f:α->ű):(aK4 l.length).flatMap (λk=>(l[k]?).toList.map f)=l.map f:=by
 have go :∀m,m<=l.length->(aK4 m).flatMap (λk=>(l[k]?).toList.map f)=(l.take m).map f:=λm=>by
  induction m with
  | zero=>intro _;rwa[List.take_zero];rfl
  | succ m ih=>
   intro hm
   rwa[aN1,aT4,ih (aL7 hm),aQ2,aH4];rw[aR6]
 have:=go l.length (aA6 _)
 rwa[aJ4]at this
def Ug{A:List ű}{x:ű}:GL (A++[x]) (-1)=some x:=by
 have e :∀n,seqIndex? (-1) (n+1)=some n:=λn=>by
  unfold seqIndex?
  have c1:(0:Int)<=-1+((n+1:Nat):Int):=by exists 1,0x180a0f181fa083
  have c2:-1+((n+1:Nat):Int)<((n+1:Nat):Int):=by exists 1,0x180a0f180a0f181fa4
  have c3:(-1+((n+1:Nat):Int)).toNat=n:=by exists 2,0x10208181a0f181fae00f58,(aH0 _)
  simp only[bQ6 (show(-1:Int)<0 by decide),bQ9 c1,bQ9 c2,c3]
  rfl
 have e:seqIndex? (-1) (A++[x]).length=some A.length:=by rwa[aB0];exact e _
 unfold GL
 rwa[e]
 show(A++[x])[A.length]?=_
 rwa[aS2 (aA6 _)];rw[bF4];rfl
def Tq{A:List ű}{x y:ű}:(A++[x]).set ((A++[x]).length-1) y=A++[y]:=by
 rwa[aB0,List.set_append_right _ _ (by show A.length<=A.length+1-1;exact aA6 _)]
 show A++[x].set (A.length+1-1-A.length) y=_
 rw[Nat.add_sub_cancel,bF4];rfl
def V0{σ:St}{M:List ű}{h:Nat}(e:Ak σ (.ref h)=some M):Fs σ (.ref h) (.lst [])=some M.isEmpty:=by
 show LZ ((Ak σ (.ref h)).bind λxs=>(some []).bind λys=>Cb (Hc 8) xs ys) _=_
 rwa[e]
 cases M<;>rfl
def Z3(l:List ï):Cb (Hc 8) (l.map Bk) (l.map Bk)=some true:=by
 induction l with
 | nil=>rfl
 | cons a r ih=>
  show(Hc 8 (Bk a) (Bk a)).bind (λx=>(Cb (Hc 8) (r.map Bk) (r.map Bk)).map (x && ·))=_
  have e:Hc 8 (Bk a) (Bk a)=some true:=by
   show Cb (Hc 7) (è (CO a)) (è (CO a))=_
   rwa[J2,bQ9 rfl];rfl
  rwa[e,ih];rfl
def NN{σ:St}(l:List ï):Fs σ (.lst (l.map Bk)) (.lst (l.map Bk))=some true:=by
 show LZ (Cb (Hc 8) (l.map Bk) (l.map Bk)) _=_
 rw[Z3];rfl
section
variable{σ:St}{C:List ï}{Q:ű->St->Prop}
abbrev a6(p:ï):List Int:=[ĺ p.1,ĺ p.2]
def V7(hl:C.length<=100000)(q :∀bs:List ï,bs.Perm C->bs.Pairwise (λa b=>Ad (a6 b) (a6 a)=false)->Q (.lst (bs.map C2)) σ):B7 [.lst (C.map C2)] σ Q:=by
 show(_/\HX .tup (C.map C2) λŒ=>Q (.lst Œ) σ)\/_
 refine .inl ⟨λa ha z=>?_,Iy (x:=a6) (λ_=>rfl) hl q⟩
 obtain⟨p,_,rfl⟩:=aO0.mp ha
 cases z
theorem Js :∀l:List Int,IC (è l)=some l
 | []=>rfl
 | x::r=>by
  show(Ar (.int x)).bind (λy=>(IC (è r)).map (y :: ·))=_
  rwa[Js r];rfl
def M5{v:ű}(hv:Ak σ v=some (C.map Bk))(hl:C.length<=100000)(q :∀bs:List ï,bs.Perm C->bs.Pairwise (λa b=>Ad (CO b) (CO a)=false)->Q (.lst (bs.map Bk)) σ):B7 [v] σ Q:=by
 show Aa (Ak σ v) λvs=>((∀a∈vs,Ht .tup a≠some [])/\HX .tup vs λŒ=>Q (.lst Œ) σ)\/HX .lst vs λŒ=>Q (.lst Œ) σ
 rwa[hv]
 exact .inr (Iy (x:=CO) (λp=>(show Ht .lst (Bk p)=some (CO p)from Js (CO p))) hl q)
def RD{as bs:List ï}(h:as.Perm bs)(h1:as.Pairwise λa b=>Ad (CO b) (CO a)=false)(h2:bs.Pairwise λa b=>Ad (CO b) (CO a)=false):as.map Bk=bs.map Bk:=by
 have e:as.map CO=bs.map CO:=bD6.eq_of_pairwise (le:=λx y=>Ad y x=false) (λa b _ _ p q=>GO q p) (aV7.mpr h1) (aV7.mpr h2) (h.map CO)
 have:as.map Bk=(as.map CO).map λl=>ű.lst (è l):=(aR5 (l:=as) (f:=CO) (g:=λl=>ű.lst (è l))).symm
 rwa[this,e,aR5];rfl
end
def UM{a b:ï}(h:Ad (a6 b) (a6 a)=false):a.1<=b.1:=by
 unfold Ad at h
 split at h
 ·rename_i e;exact aB7 (aM3 e).symm
 ·have:=of_decide_eq_false h
  exact aI0 λz=>this (aD0.mpr z)
def Ee(n:Nat):List Int:=(aK4 n).map tx
def YQ{n s e:Nat}(h1:s<=e)(h2:e<=n):(((Ee n).take e).drop s)=sg s e:=by
 unfold Ee sg CH
 rwa[List.map_take.symm,List.map_drop.symm,List.take_range,aY9 h2,List.range_eq_range',List.drop_range'];rw[Nat.mul_one,aH9]
def Uo(n:Nat):(aK4 n).flatMap (λk=>[ű.int (tx k)])=è (Ee n):=by
 unfold Ee
 induction n with
 | zero=>rfl
 | succ n ih=>rwa[aN1,aT4,ih];rewrite [aR6];rwa[aH4];rw[<-Cm];rfl
section
variable{w:aC9}{l:List Int}{n:Nat}{C S:List ï}{K:ĵ}{p:ï}
def Tw(hn:n<=411)(h:Ŧ (Ai w) (BG w 30) (Ba.drop 2) (ň l (ĺ n) (.ref 0) [] [(0,.list (è (Ee n)))] 1) K):Ŧ (Ai w) (BG w 30) (Ba.drop 1) ⟨[("script",.lst (è l)),("size",.int (ĺ n))],[],0,0⟩ K:=by
 have en:((ĺ n:Int)-0).toNat=n:=by show((n:Int)-0).toNat=n;exact id (ũ [_,_] 0x102080810fbe00f58 (by rfl') (aH0 _))
 refine xX.mpr ⟨⟨by decide,by decide,by show(-1000000:Int)<=(n:Int);exact id (ũ [_] 0xf0f424091f3 (by rfl')),by show(n:Int)<=1000000;exact id (ũ [_] 0xf4240900f300019b9008 (by rfl') hn)⟩,?_⟩
 rwa[en,vB]
 refine Ha (F:=λk=>[ű.int (tx k)]) (I:=λρ=>ρ=[]\/∃y:Int,ρ=[(("k":Str),ű.int y)]) (.inl rfl) (λ_ _ _ _=>trivial) (by rw[Bh];exists 1,0xf424090000019b9008,hn) (λ_=>aA6 _) (λk v hv ρ L R hI hL hR=>?_) ?_
 ·have hk:k<n:=by have:=(aB3.mp hv).1;rwa[Bh]at this
  rw[Dd hk]at hv
  cases hv
  have hR:=hR [(("k":Str),ű.int (0+(k:Int)))] (.inr ⟨_,rfl⟩)
  have e3:(0+(k:Int)).fmod 3=((k%3:Nat):Int):=by rewrite [aR3];rwa[Int.fmod_eq_emod_of_nonneg _ (by decide)];rfl
  have go :∀H m k',H=Ah [] 0 (.list L)->m=0+1->k'=0->lI (0+(k:Int)) H m k' R:=λH m k' eH em ek=>by
   subst eH;subst em;subst ek
   refine⟨by decide,?_⟩
   rwa[e3]
   by_cases c:k%3=2
   ·rwa[bQ9 (show AC.int ((k%3:Nat):Int)=AC.int 2 by rw[c];rfl)]
    refine Nl hL ?_
    have:(0+(k:Int))=tx k:=by unfold tx;rwa[bQ6 c];rw[aR3]
    rw[this]at hR ⊢
    exact hR
   ·rwa[bR0 (show ¬ AC.int ((k%3:Nat):Int)=AC.int 2 from λz=>by have:=AC.int.inj z;exists 1,0xa2802982800f58,this,c)]
    refine⟨by decide,Nl hL ?_⟩
    have:((k%3:Nat):Int)=tx k:=by unfold tx;rwa[bQ7 c];rfl
    rwa[this]
    exact hR
  rcases hI with rfl | ⟨y,rfl⟩
  ·rwa[qX];exact go _ _ _ rfl rfl rfl
  ·rwa[mL];exact go _ _ _ rfl rfl rfl
 ·rw[Bh,Uo];exact h
def wT{x a:Int}{σ:St}{V:Bool->St->Prop}:(PI .Sub (.int x) (.int a) σ λu σ=>KR .GtE u (.int 3) σ λr σ=>Dc r σ V)=V (decide (3<=x-a)) σ:=by rfl'
def Xb{L M:List ű}{tx:ű}{n a b:Int}:A9 (ļ l n tx L M (ö a b)) (ļ l n tx L M []):=.less (ρ:=(ļ l n tx L M []).ρ++ö a b) (λx v e=>Bq e) λ_ _=>id
def T3{tx:ű}{L:List ű}{nn9:Int}(hS:S.length<=1000)(q :∀a b,K .next (ļ l nn9 tx L ((Fg S p).map C2) (ö a b))):oD w (C2 p) (ļ l nn9 tx L (S.map C2) []) (ç (Ai w) (BG w 29) [] K):=by
 refine yP.mpr ⟨rfl,?_⟩
 rwa[V0 (M:=S.map C2) rfl]
 have el:Fg S p=S++[p]->Ŧ (Ai w) (BG w 28) (FD ş) (ļ l nn9 tx L (S.map C2) (ö (ĺ p.1) (ĺ p.2))) (ç (Ai w) (BG w 29) [] (ç (Ai w) (BG w 29) [] K)):=λe=>by
  refine wM.mpr ⟨LK (by rw[aB5];exists 1,0x186a09000003e89008,hS),?_⟩
  rwa[BK,CB,BK,CB]
  have q:=q (ĺ p.1) (ĺ p.2)
  rw[e,aH4]at q
  exact q
 rcases bD3 S with e | ⟨T,t,e⟩
 ·subst e
  exact el rfl
 ·rw[bD4]at e
  subst e
  have em:(T++[t]).map C2=T.map C2++[C2 t]:=aH4 ..
  have e0:((T++[t]).map C2).isEmpty=false:=by rwa[em];cases T.map C2<;>rfl
  rwa[e0]
  have hn:GL ((T++[t]).map C2) (-1)=some (C2 t):=by rwa[em];exact Ug
  have ix :∀k:Int,-1<=k->k<=1->Eh k:=λk h1 h2=>⟨by exact ġ [] [_] 0xf424091f30181f38 (by rfl') h1,by exact ġ [] [_] 0xf424090418038 (by rfl') h2⟩
  refine⟨ix _ (by decide) (by decide),C2 t,hn,uB.mpr ⟨ix _ (by decide) (by decide),.int (ĺ t.2),rfl,?_⟩⟩
  rwa[wT]
  by_cases c:p.1+3<=t.2
  ·rwa[bQ9 (show 3<=ĺ t.2-ĺ p.1 by show(3:Int)<=(t.2:Int)-(p.1:Int);exact id (ũ [_,_] 0xf10fb3831380a08 (by rfl') c))]
   refine vI.mpr ⟨ix _ (by decide) (by decide),C2 t,hn,zE.mpr ⟨ix _ (by decide) (by decide),.int (ĺ t.1),rfl,xY.mpr ⟨ix _ (by decide) (by decide),C2 t,hn,uB.mpr ⟨ix _ (by decide) (by decide),.int (ĺ t.2),rfl,uZ.mpr (zU.mpr ⟨LK (by rw[aB5];exists 1,0x186a09000003e89008,hS),⟨rfl,by rewrite [aB5];rwa[aB0];exact bB4 _⟩,?_⟩)⟩⟩⟩⟩
   rwa[BK,CB,BK,CB]
   have q:=q (ĺ p.1) (ĺ p.2)
   rw[J7,bQ6 c,aH4]at q
   rwa[em,Tq]
   have ex:max (ĺ t.2) (ĺ p.2)=ĺ (max t.2 p.2):=by show max (t.2:Int) (p.2:Int)=((max t.2 p.2:Nat):Int);exact id (ũ [_,_] 0x10e0f10f00fe5 (by rfl'))
   rwa[ex]
   exact q
  ·rwa[bR0 (show ¬ 3<=ĺ t.2-ĺ p.1 from λz=>by have z:(3:Int)<=(t.2:Int)-(p.1:Int):=z;exists 2,0xa00f10fb38381380a098,c,z)]
   exact el (by rwa[J7,bQ7 c];rfl)
def KL{c:CL}{f pz:Nat}{ρ0:List (Str×ű)}{H:List (Nat×Ř)}{Q:ű->St->Prop}(fr:CP c.2.2=(["text"]:List Str))(hp:pick ρ0 (["text"]:List Str)=[(("text":Str),ű.lst (è (Ee n)))])(hS:S.length<=1000)(hn:n<=411)(hg :∀p∈S,p.1<=p.2/\p.2<=n)
  (h1 :∀(a b:Int) (H:List (Nat×Ř)) (m k:Nat) (R:St->Prop),Hm (Ai w) f E9 c pz (.tup [.int a,.int b]) ⟨[("text",.lst (è (Ee n)))],H,m,k⟩ R=W2 c pz (è (Ee n)) a b H m k R)
  (h2 :∀(a b x y:Int) (H:List (Nat×Ř)) (m k:Nat) (R:St->Prop),Hm (Ai w) f E9 c pz (.tup [.int a,.int b]) ⟨[("text",.lst (è (Ee n))),("start",.int x),("end",.int y)],H,m,k⟩ R=W2 c pz (è (Ee n)) a b H m k R)
  (q:Q (.ref pz) ⟨ρ0,Ah H pz (.list (S.map Bk)),pz+1,0⟩):Cq (.list []) (S.map C2) (Hm (Ai w) f E9 c pz) (CP c.2.2) ⟨ρ0,H,pz,0⟩ Q:=by
 rwa[fr]
 have ht:(è (Ee n)).length=n:=by rw[Az];unfold Ee;rewrite [aB5];rwa[aT2];rfl
 have hlk:ρ0.lookup ("text":Str)=some (ű.lst (è (Ee n))):=by
  have hp:(aE5 [] (λv=>[(("text":Str),v)]) (ρ0.lookup ("text":Str)):List (Str×ű))=[(("text":Str),ű.lst (è (Ee n)))]:=hp
  cases e:ρ0.lookup ("text":Str)with
  | none=>rw[e]at hp;cases hp
  | some v=>rw[e]at hp;cases hp;rfl
 refine Ha (F:=λk=>(S[k]?).toList.map Bk) (I:=λρ=>ρ=[(("text":Str),ű.lst (è (Ee n)))]\/∃x y:Int,ρ=[(("text":Str),ű.lst (è (Ee n))),("start",.int x),("end",.int y)]) (.inl hp) (λρ H' n' hI=>⟨?_,trivial⟩) (by rw[aB5];exists 1,0xf42409000003e89008,hS) (λk=>by rw[aB5];cases S[k]?<;>simp) (λk v hv ρ L R hI hL hR=>?_) (by rw[aB5,ZB];exact q)
 ·show ρ.lookup _=ρ0.lookup _
  rwa[hlk]
  rcases hI with rfl | ⟨x,y,rfl⟩<;>rfl
 ·obtain⟨p,hp,rfl⟩:=map_some ((aD6 ..).symm.trans hv)
  have hR:=hR [(("text":Str),ű.lst (è (Ee n))),("start",.int (ĺ p.1)),("end",.int (ĺ p.2))] (.inr ⟨_,_,rfl⟩)
  simp only[hp,Option.toList_some]at hR
  have hg:=hg p (aM2 hp)
  have go:W2 c pz (è (Ee n)) (ĺ p.1) (ĺ p.2) (Ah H pz (.list L)) (pz+1) 0 R:=by
   refine⟨rfl,(λz=>nomatch z),LK (by exists 2,0x186a0910012800019b9008,hn,ht),Nl hL ?_⟩
   have e:BB (è (Ee n)) (some (ĺ p.1)) (some (ĺ p.2)) none=è (CO p):=by rewrite [GJ,Ej];rwa[YQ hg.1 hg.2];rfl
   rwa[e]
   exact hR
  rcases hI with rfl | ⟨x,y,rfl⟩
  ·rwa[show C2 p = .tup [.int (ĺ p.1),.int (ĺ p.2)]from rfl];rw[h1];exact go
  ·rwa[show C2 p = .tup [.int (ĺ p.1),.int (ĺ p.2)]from rfl];rw[h2];exact go
end
section
section
variable{w:aC9}{l:List Int}{n:Nat}{C P S D:List ï}{K:ĵ}{Q:ű->List Ξ->Prop}
def Ij(l:List ï):(ű.lst (l.map Bk)).sub nn=some (.lst (l.map Bk)):=Ag (EK l)
def Yp{tx:ű}{L M:List ű}(hg :∀p∈C,Gd p)(hl:C.length<=1000)(hS:S.Perm C)(ho:S.Pairwise λa b=>a.1<=b.1)(hD:D.Perm (S.foldl Fg []))(hs:D.Pairwise λa b=>Ad (CO b) (CO a)=false)(hq:Q (.bool true) []) :
  BG w 30 (Ba.getD 7 (.Pass AI)) (Ć l (ĺ n) tx L M (.lst (D.map Bk)) [("pieces",.lst (C.map Bk))] [] 0) (ç (Ai w) (BG w 30) (Ba.drop 8) (AE 0 Q)):=by
 have hg3 :∀p∈C,p.1+3<=p.2:=λp hp=>(hg p hp).1
 have Ŭ :∀P:List ï,P.Perm C->(LR P).length<=100000:=λP hP=>by
  have hgP :∀p∈P,Gd p:=λp hp=>hg p (hP.mem_iff.mp hp)
  have:=(QD (cuts:=P) P.length hgP).2
  rw[aJ4]at this
  have:=hP.length_eq
  rename_i u0;exists 3,0x186a0910022821080003e89008,hl,u0,this
 have due :∀P:List ï,P.Perm C->∀E:List ï,E.Perm (LR P)->(E.Pairwise λa b=>Ad (CO b) (CO a)=false)->E.map Bk=D.map Bk:=λP hP E hE hEs=>RD (hE.trans ((UJ hg3 hP hS ho).trans hD.symm)) hEs hs
 refine Î.mpr (MA rfl (BE (Ij C) rfl) (.mk C false rfl rfl hg hl (M5 (C:=LR C) rfl (Ŭ C (.refl _)) λE hE hEs=>?_)))
 rwa[due C (.refl _) E hE hEs]
 show Aa (Fs _ (.lst (D.map Bk)) (.lst (D.map Bk))) _
 rw[NN]
 show ç (Ai w) (BG w 30) (Ba.drop 8) (AE 0 Q) .next (Ć l (ĺ n) tx L M (.lst (D.map Bk)) [("pieces",.lst (C.map Bk))] [] 0)
 rwa[BK]
 have er:BB (C.map Bk) none none (some (-1))=C.reverse.map Bk:=by rewrite [PS];rwa[List.map_reverse];rfl
 refine u8.mpr ⟨by decide,LK (by rw[aB5];exists 1,0x186a09000003e89008,hl),?_⟩
 rwa[er]
 have hr:C.reverse.Perm C:=bB7 C
 refine MA rfl (BE (Ij _) rfl) (.mk C.reverse true rfl rfl (λp hp=>hg p (hr.mem_iff.mp hp)) (by rwa[bF3];exact hl) (M5 (C:=LR C.reverse) rfl (Ŭ _ hr) λE hE hEs=>?_))
 rwa[due _ hr E hE hEs]
 show Aa (Fs _ (.lst (D.map Bk)) (.lst (D.map Bk))) _
 rw[NN]
 exact RW (fl:=.ret (.bool true)) rfl rfl hq
def T7(hn:n<=411)(hg :∀p∈C,p.1+3<=p.2/\p.2<=n)(hl:C.length<=1000)(hq:Q (.bool true) []):Ŧ (Ai w) (BG w 30) (Ba.drop 3) (ň l (ĺ n) (.lst (è (Ee n))) [("cuts",.lst (C.map C2))] [] 0) (AE 0 Q):=by
 have hgd :∀p∈C,Gd p:=λp hp=>⟨(hg p hp).1,aA2 (hg p hp).2 hn⟩
 rwa[w9]
 refine V7 (aA2 hl (by decide)) λS hS hSo=>?_
 have ho:S.Pairwise λa b=>a.1<=b.1:=hSo.imp UM
 have hS2 :∀p∈S,p.2<=n:=λp hp=>(hg p (hS.mem_iff.mp hp)).2
 have hSl:=hS.length_eq
 refine⟨Cu S,λk τ=>τ=ļ l (ĺ n) (.lst (è (Ee n))) (C.map C2) (((S.take k).foldl Fg []).map C2) [],⟨_,.refl _,rfl⟩,λk τ v hv hI=>?_,λτ hI=>?_⟩
 ·subst hI
  obtain⟨p,hp,rfl⟩:=map_some ((aD6 ..).symm.trans hv)
  have hk:=(aB3.mp hp).1
  have:=(Sc hS2 k).2
  have e:(S.take (k+1)).foldl Fg []=Fg ((S.take k).foldl Fg []) p:=by rwa[Bc hp,aM8];rfl
  have go:=T3 (w:=w) (l:=l) (S:=(S.take k).foldl Fg []) (p:=p) (K:=E6 (λσ=>∃τ,A9 σ τ/\τ=ļ l (ĺ n) (.lst (è (Ee n))) (C.map C2) (((S.take (k+1)).foldl Fg []).map C2) []) (ç (Ai w) (BG w 30) (Ba.drop 5) (AE 0 Q))) (tx:=.lst (è (Ee n))) (L:=C.map C2) (nn9:=ĺ n) (by exists 4,0x3e89302308121801280003e89008,hl,hSl,hk,this) λa b=>⟨_,Xb,by rwa[e];rfl⟩
  exact go
 ·subst hI
  rewrite [aB5];rwa[aJ4,DV,xD]
  obtain⟨f1,_⟩:=Sh (cs:=S) (λp hp=>(hg p (hS.mem_iff.mp hp)).1) ho
  have f2:=Sc hS2 S.length
  rw[aJ4]at f2
  generalize hT:S.foldl Fg []=T at f1 f2
  have hT1 :∀p∈T,p.1<=p.2/\p.2<=n:=λp hp=>⟨aA2 (aD5 _ _) (f1.g p hp),f2.1 p hp⟩
  refine⟨ß l (ĺ n) (.lst (è (Ee n))) (C.map C2) (T.map C2) [] [] 0,.re [] [(0,.lst (T.map C2))] rfl rfl rfl rfl (BL rfl rfl rfl (Ag (Cu T)) CQ) (Bs rfl (AJ _ _ (Ac l)) (Bs rfl rfl (Bs rfl (AJ _ _ (Ac (Ee n))) (Bs rfl (AJ _ _ (Ag (Cu C))) (Bs rfl rfl B0))))) BZ,?_⟩
  refine wZ.mpr ⟨Cu T,KL (pz:=0) u6 rfl (by exists 3,0x3e8920120801280003e89008,hl,hSl,f2.2) hn hT1 (λa b H m k R=>rS) (λa b x y H m k R=>sS) ?_⟩
  refine M5 (C:=T) rfl (by exists 3,0x186a0920120801280003e89008,hl,hSl,f2.2) λD hD hDs=>?_
  show ç (Ai w) (BG w 30) (Ba.drop 6) (AE 0 Q) .next (Ć l (ĺ n) (.lst (è (Ee n))) (C.map C2) (T.map C2) (.lst (D.map Bk)) [] [(0,.list (T.map Bk))] 1)
  rwa[BK,Ý]
  refine⟨Cu C,KL (pz:=1) vS rfl hl hn (λp hp=>⟨aA2 (aD5 _ _) (hg p hp).1,(hg p hp).2⟩) (λa b H m k R=>r5) (λa b x y H m k R=>sU) ?_⟩
  show Ŧ (Ai w) (BG w 30) (Ba.drop 7) (Ć l (ĺ n) (.lst (è (Ee n))) (C.map C2) (T.map C2) (.lst (D.map Bk)) [("pieces",.ref 1)] [(0,.list (T.map Bk)),(1,.list (C.map Bk))] 2) (AE 0 Q)
  rwa[zT]
  refine⟨Ć l (ĺ n) (.lst (è (Ee n))) (C.map C2) (T.map C2) (.lst (D.map Bk)) [("pieces",.lst (C.map Bk))] [] 0,.re [] [(1,.lst (C.map Bk))] rfl rfl rfl rfl (BL rfl rfl rfl (Ij C) CQ) (Bs rfl (AJ _ _ (Ac l)) (Bs rfl rfl (Bs rfl (AJ _ _ (Ac (Ee n))) (Bs rfl (AJ _ _ (Ag (Cu C))) (Bs rfl (AJ _ _ (Ag (Cu T))) (Bs rfl (AJ _ _ (Ij D)) (Bs rfl rfl B0))))))) BZ,?_⟩
  exact Yp hgd hl hS ho (hT▸hD) hDs hq
end
variable{w:aC9}{d:Nat}
def eX:ĉ:=λas os Q=>∃l:List Int,as=[.lst (è l)]/\os=[]/\l.length<=63/\Q (.bool true) []
def rW:LT (œ w) (á w.params) (Ai w) (d+8) ô Lr aM Kt ŷ:=
 VO (λf t e=>BD (b:=aE6 f 253) (x:=some Nb) e (λq e=>aB8 q▸aA3 e▸As.up (Ul (d:=d)) (aH8 (by decide:2<=9) d)) λe=>BD (b:=aE6 f 265) (x:=some K5) (y:=none) e (λq e=>aB8 q▸aA3 e▸T8) AA) (λe=>nomatch e) (λe=>nomatch e) (λ_ e=>nomatch e)
def Zn:As (œ w) (á w.params) (d+10) (.ref 270) eX:=
 Of rW (Ry _).2.2 (Ry _).1 (Ry _).2.1 (ps:=["script"]) (by decide) (by rfl') (Nd λa=>by rfl') λas os Q hh=>by
  obtain⟨l,ea,eo,hl,hq⟩:=hh
  subst ea;subst eo
  have e1:Ed (BB (è l) none (some 1) none)=some (l.take 1):=by
   have:BB (è l) none (some 1) none=è (l.take 1):=by rw[GJ];exact bQ5 è (LV l 1)
   rwa[this];rw[Mr]
  refine⟨⟨rfl,Bj⟩,v5.mpr ⟨(λz=>nomatch z),LK (by rw[Az];exists 1,0x186a090000003f9008,hl),?_⟩⟩
  rwa[e1]
  refine⟨by decide,?_⟩
  obtain⟨n,en,n1,n2⟩ :∃n:Nat,12+(l.take 1).sum.fmod 400=ĺ n/\12<=n/\n<=411:=by
   have h1:0<=(l.take 1).sum.fmod 400:=bD0 _ (by decide)
   have h2:(l.take 1).sum.fmod 400<400:=Int.fmod_lt_of_pos _ (by decide)
   refine⟨12+((l.take 1).sum.fmod 400).toNat,?_,by(exists 1,0xc8ac80),by exact ġ [_] [_] 0x19b90c8a0080e00f580001909048 (by rfl') h2 (aH0 _)⟩
   show _=((12+((l.take 1).sum.fmod 400).toNat:Nat):Int)
   exact id (ġ [_] [_] 0xc8a0f0c8a5080e00f5800838 (by rfl') h1 (aH0 _))
  rwa[en]
  refine Tw n2 ?_
  rwa[vH]
  refine⟨ň l (ĺ n) (.lst (è (Ee n))) [] [] 0,.re [] [(0,.lst (è (Ee n)))] rfl rfl rfl rfl (BL rfl rfl rfl (Ac _) CQ) (Bs rfl (AJ _ _ (Ac l)) (Bs rfl rfl (Bs rfl rfl B0))) BZ,?_⟩
  rwa[yU]
  refine MA rfl (BE (Ac l) rfl) ⟨l,n,rfl,rfl,⟨n1,by exists 1,0x3e890000019b9008,n2⟩,by(exists 1,0x3e890000003f9008,hl),?_⟩
  have em:(([0,12,11,27]++l).map λx=>C2 (cut n x))=(([0,12,11,27]++l).map (cut n)).map C2:=(aR5 (l:=[0,12,11,27]++l) (f:=cut n) (g:=C2)).symm
  rwa[em]
  refine T7 n2 (λp hp=>?_) ?_ hq
  ·obtain⟨x,_,rfl⟩:=aO0.mp hp
   exact Zh n1 x
  ·rewrite [aB5];rwa[aB0]
   show 4+l.length<=1000
   exact id (ũ [_] 0x3e89048a000003f9008 (by rfl') hl)
end
def PV{L:Bt}{G:ħ}{n:Nat}{P:aD7}{h:aF2} :∀{ns:List Int} {vs:List Value},WellAll P h vs (ns.map bL2)->AW L G h n (è ns) vs:=by
 intro ţ
 induction ţ with
 | nil=>
  intro _ r
  cases r;exact rfl
 | cons i ns ih=>
  intro _ r
  cases r with
  | cons a b=>
   cases a with
   | int i t=>exact⟨_,_,rfl,bR2 i,ih b⟩
def RP{R:WRecords}(xs:List WData):bE7 R xs .int=true->∃ns:List Int,xs=ns.map bL2:=
 aB4 (λ_=>⟨[],rfl⟩) (λx r ih h=>
  (ih (aI6.mp (show(bL9 R x .int&&bE7 R r .int)=true from h)).2).elim λns e=>by
   have h1:bL9 R x .int=true:=(aI6.mp (show(bL9 R x .int&&bE7 R r .int)=true from h)).1
   cases x with
   | int i=>exact⟨i::ns,bQ5 _ e⟩
   | _=>exact aR9 (h1:false=true)) xs
def Ju{R:WRecords}{d:WData}(h:bL9 R d (.list .int)=true) :∃ns:List Int,d = .list (ns.map bL2):=by
 cases d with
 | list xs=>
  exact(RP xs ((Bool.or_false _).symm.trans (h:(bE7 R xs .int||false)=true))).imp λns e=>bQ5 _ e
 | _=>exact aR9 (h:false=true)
noncomputable def tO:ħ:=⟨λ_=>none,λ_=>0,λ_=>0⟩
def pK:WalkO qF looseF (XL qF []) Ļ kK.row.toRowW ņ.1 ņ.2 λf vs=>PySem.call f vs:=by
 intro w s₀ s1 mg mb G Y a o pm cd doc dV kV ho hd hcd hD hmg hg args vals as hpre hlay hrd hwl hlo
 obtain⟨hsh,hcond⟩:=pre_splitW hpre
 obtain⟨d,r,rfl,h1,h2⟩:=hasAllW_cons (es:=[]) hsh
 obtain rfl:=hasAllW_nil h2
 obtain⟨ns,rfl⟩:=Ju h1
 have hlen:ns.length<=63:=by
  have hx:(ns.map bL2).length=ns.length:=aB5 ..
  clear hpre hsh
  have hc:WTm.holds kK.row.records (.and (.not (.lt (.lit (.int 63)) (.len (.arg 0)))) (.lit (.bool true))) {args:=[.list (ns.map bL2)]}=true:=hcond
  w_cond hc
  rename_i u0 _;exists 2,0x3f91000f00003f94981028,hx,u0
 have hN:(á w.params).Ns aM1 ((á w.params).nsMap aM1):=.of_isNs (lE _)
 have e1:(á w.params).nsMap aM1 "law" = some (.ref 270):=by rfl'
 have e2:=(hN.keeps Y).agree G.T.g "law"
 have e3:ņ.1.name=("law":Str):=by rfl'
 rw[e3]at hmg
 rw[e1,hmg]at e2
 cases e2
 cases hwl with
 | cons hv hn=>
 cases hn
 cases hv with
 | list hl hI=>
 rename_i l us
 have no :∀a,¬ tO.own a:=λa z=>z rfl
 refine enter_call (aL2 (Zn (w:=w) (d:=0) (A:=callerA) (s:=s1) (G:=tO) (as:=[.lst (è ns)]) (os:=[]) (Q:=λr _=>r = .bool true) (vas:=[.ref l]) ⟨rfl,by decide +kernel,by decide +kernel⟩ ⟨λa h=>(no a h).elim,λa h=>(no a h).elim,Y,?_⟩ (λ_ _=>AA) ?_ ⟨ns,rfl,rfl,hlen,rfl⟩).2 λres s' hr=>?_)
 ·have ho':(á w.params).get? 270=some ((HN w.params).getD 270 default):=by rfl'
  have:=aK2 (Y _ _ ho')
  show(HN w.params).length<=_
  rw[gY]
  exact this
 ·exact⟨_,_,rfl,⟨l,us,rfl,⟨(0,none),hl⟩,no l,PV hI⟩,rfl⟩
 ·obtain⟨v,rfl,hb⟩:=hr
  cases hb with
  | mk r os' hq hrs hol hoc hk hsz hgs hos hO hv=>
  subst hq
  obtain rfl:v = .bool true:=hv
  refine GoodW.toG ⟨.inl ⟨_,.bool true,[],rfl,λcls=>rfl,.bool true,?_,λ_=>⟨List.nodup_nil,λa h=>bQ8 h (by simp)⟩⟩,λb o e=>hk b o e λz=>no b (ħ.mt_own z),hos,hgs.trans hg⟩
  wrow_post
def all_holds:PySem.Challenge.rw_dm0059_09.Holds:=hd pK
end Mine
end
end
set_option maxRecDepth 100000 in
set_option maxHeartbeats 8000000 in
theorem PySem.Challenge.cw_dm0059_09_holds : PySem.Challenge.rw_dm0059_09.Holds := by
 exact Mine.all_holds
